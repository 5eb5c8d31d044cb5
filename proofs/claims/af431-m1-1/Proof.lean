import JvmDerived
import JvmDerived.Pilot.@@N@@Statement
import JvmDerived.Pilot.@@N@@Code
set_option linter.unusedVariables false
set_option linter.unusedSimpArgs false
namespace Jvm.Pilot.@@N@@
open Jvm Jvm.ClassFile Sem Op Lib Jvm.Free Jvm.Stand Jvm.LawKit Jvm.RoadKit Bundle Jvm.Pilot.@@N@@.Jvm.D
section Own
variable {p : Program} {l : Launch} {e : Env} {R : Room} {s : State} {m : MethodId} {args : Array Value} {below : List Frame} {meth : Method} {c : Code} {T : State} {locs : List Loc} {cells slots : Nat} {Z : State} {a0 : Array Value} {h : Heap}
/-- from the state S the body ends well, String literals interned meanwhile: it returns v, leaves the heap and the written places as Q says, within kc cells and ks slots -/
def Run (p : Program) (e : Env) (below : List Frame) (s : State) (Q : Option Value → Heap → List Loc → Vm → Prop) (kc ks : Nat) (S : State) : Prop := ∃ s₂ o, Steps p.tables e below S s₂ ∧ s₂.status = .running ∧ Ended s₂ below o ∧ ∃ v L, o = .returned v ∧ Q v s₂.heap L s₂.vm ∧ ReturnedEndW s o s₂ L kc ks
variable {Q : Option Value → Heap → List Loc → Vm → Prop} {kc ks : Nat} {vm0 : Vm} {k0 : Nat}
theorem Run.pre {S S' : State} (h : ∀ t, Steps p.tables e below S' t → Steps p.tables e below S t) (k : Run p e below s Q kc ks S') : Run p e below s Q kc ks S := by
  obtain ⟨s₂, o, h1, r⟩ := k; exact ⟨s₂, o, h _ h1, r⟩
theorem own_monoW {o : Outcome} {u : State} {L : List Loc} {k n : Nat} (h : ReturnedEndW s o u L k n) (hc : k ≤ kc) (hs : n ≤ ks) : ReturnedEndW s o u L kc ks := ⟨h.1, h.2.1, h.2.2.1, h.2.2.2.mono hc hs⟩
theorem Run.out (hS : s.Since vm0 k0) (hk : k0 ≤ T.heap.size) (X : Stand p l e R (s.setVm vm0) m args below meth c T locs cells slots) (hx : p.tables.exec = Jvm.exec) {pc : Nat} {Ls : Array Slot} {w : Value} {t : FieldType} {i : Instr} {rest : List Value} (hret : meth.sig.returnType = some t) (hn : narrow t w = w)
    (hi : (i = .ireturn ∧ (t = .int ∨ t = .boolean ∨ t = .byte ∨ t = .char ∨ t = .short) ∧ ∃ z, w = .int z) ∨ (i = .lreturn ∧ t = .long ∧ ∃ z, w = .long z) ∨ (i = .dreturn ∧ t = .double ∧ ∃ z, w = .double z) ∨ (i = .freturn ∧ t = .float ∧ ∃ z, w = .float z) ∨ (i = .areturn ∧ t.isReference = true ∧ w.isRef = true))
    (hlk : meth.locks = false) (hd : decode c.code pc = .ok (i, 1)) (hq : Q (some w) T.heap locs T.vm) (hc : cells ≤ kc) (hs : slots ≤ ks) : Run p e below s Q kc ks (T.setTop (mkF m pc Ls (w :: rest))) := by
  obtain ⟨fs, hr, hrun, hended, hW⟩ := X.leaveW hS hk (v := some w) (fun h => by rw [hret] at h; cases h) hlk
  exact ⟨_, _, retOut X hx hret hn hi hd hr, hrun, hended, _, _, rfl, hq, own_monoW hW hc hs⟩
theorem Run.retN (hS : s.Since vm0 k0) (hk : k0 ≤ T.heap.size) (X : Stand p l e R (s.setVm vm0) m args below meth c T locs cells slots) (hx : p.tables.exec = Jvm.exec) {pc : Nat} {Ls : Array Slot} {z : Int32} {t : FieldType} {rest : List Value} (hret : meth.sig.returnType = some t) (ht : t = .boolean ∨ t = .byte ∨ t = .char ∨ t = .short) (hlk : meth.locks = false)
    (hd : decode c.code pc = .ok (.ireturn, 1)) (hq : Q (some (.int (nar t z))) T.heap locs T.vm) (hc : cells ≤ kc) (hs : slots ≤ ks) : Run p e below s Q kc ks (T.setTop (mkF m pc Ls (.int z :: rest))) := by
  obtain ⟨fs, hr, hrun, hended, hW⟩ := X.leaveW hS hk (v := some (.int (nar t z))) (fun h => by rw [hret] at h; cases h) hlk
  exact ⟨_, _, Jvm.RoadKit.retN X hx hret ht hd hr, hrun, hended, _, _, rfl, hq, own_monoW hW hc hs⟩
theorem Run.retI (hS : s.Since vm0 k0) (hk : k0 ≤ T.heap.size) (X : Stand p l e R (s.setVm vm0) m args below meth c T locs cells slots) (hx : p.tables.exec = Jvm.exec) {pc : Nat} {Ls : Array Slot} {z : Int32} {rest : List Value} (hret : meth.sig.returnType = some .int) (hlk : meth.locks = false)
    (hd : decode c.code pc = .ok (.ireturn, 1)) (hq : Q (some (.int z)) T.heap locs T.vm) (hc : cells ≤ kc) (hs : slots ≤ ks) : Run p e below s Q kc ks (T.setTop (mkF m pc Ls (.int z :: rest))) := Run.out hS hk X hx hret rfl (Or.inl ⟨rfl, Or.inl rfl, z, rfl⟩) hlk hd hq hc hs
theorem Run.retJ (hS : s.Since vm0 k0) (hk : k0 ≤ T.heap.size) (X : Stand p l e R (s.setVm vm0) m args below meth c T locs cells slots) (hx : p.tables.exec = Jvm.exec) {pc : Nat} {Ls : Array Slot} {z : Int64} {rest : List Value} (hret : meth.sig.returnType = some .long) (hlk : meth.locks = false)
    (hd : decode c.code pc = .ok (.lreturn, 1)) (hq : Q (some (.long z)) T.heap locs T.vm) (hc : cells ≤ kc) (hs : slots ≤ ks) : Run p e below s Q kc ks (T.setTop (mkF m pc Ls (.long z :: rest))) := Run.out hS hk X hx hret rfl (Or.inr (Or.inl ⟨rfl, rfl, z, rfl⟩)) hlk hd hq hc hs
theorem Run.retA (hS : s.Since vm0 k0) (hk : k0 ≤ T.heap.size) (X : Stand p l e R (s.setVm vm0) m args below meth c T locs cells slots) (hx : p.tables.exec = Jvm.exec) {pc : Nat} {Ls : Array Slot} {w : Value} {t : FieldType} {rest : List Value} (hret : meth.sig.returnType = some t) (ht : t.isReference = true) (hw : w.isRef = true) (hlk : meth.locks = false)
    (hd : decode c.code pc = .ok (.areturn, 1)) (hq : Q (some w) T.heap locs T.vm) (hc : cells ≤ kc) (hs : slots ≤ ks) : Run p e below s Q kc ks (T.setTop (mkF m pc Ls (w :: rest))) := Run.out hS hk X hx hret (by cases t <;> cases w <;> simp_all [FieldType.isReference, Value.isRef, narrow]) (Or.inr (Or.inr (Or.inr (Or.inr ⟨rfl, ht, hw⟩)))) hlk hd hq hc hs
theorem Run.retV (hS : s.Since vm0 k0) (hk : k0 ≤ T.heap.size) (X : Stand p l e R (s.setVm vm0) m args below meth c T locs cells slots) (hx : p.tables.exec = Jvm.exec) {pc : Nat} {Ls : Array Slot} (hret : meth.sig.returnType = none) (hlk : meth.locks = false)
    (hd : decode c.code pc = .ok (.return_, 1)) (hq : Q none T.heap locs T.vm) (hc : cells ≤ kc) (hs : slots ≤ ks) : Run p e below s Q kc ks (T.setTop (mkF m pc Ls [])) := by
  obtain ⟨fs, hr, hrun, hended, hW⟩ := X.leaveW hS hk (v := none) (fun _ => rfl) hlk
  exact ⟨_, _, X.returnOut hx hret hd hr, hrun, hended, _, _, rfl, hq, own_monoW hW hc hs⟩
/-- a body's contract, at the heap h0 and the arguments as' -/
def Con (l : Launch) (y : MethodName) (bytes : ByteArray) (maxL : Nat) (ret : Option FieldType) (rm : Room) (Z : State) (as' : Array Value) (h0 : Heap) (P : Vm → Prop) (Q : Option Value → Heap → List Loc → Vm → Prop) : Prop :=
  ∀ ws, MetFree l y (head1 (Jvm.Cond.code y bytes maxL ret :: ws) rm) (fun a U => a = as' ∧ Z.Warmed39 U.vm ∧ U.heap = h0 ∧ P U.vm) (fun _ _ _ _ _ => True) (fun _ U o U' => ∃ v L, o = .returned v ∧ Q v U'.heap L U'.vm ∧ ReturnedEndW U o U' L rm.cells rm.slots)
theorem Con.mk {P : Vm → Prop} {y : MethodName} {bytes : ByteArray} {maxL : Nat} {ret : Option FieldType} {rm : Room} {as' : Array Value} {h0 : Heap} {F : MethodId → JFrame} (hpl : plainFor y = true) (hef : ∀ m, entryFrame m as' maxL = F m)
    (body : ∀ (p : Program) (e : Env) (s : State) (m : MethodId) (below : List Frame) (meth : Method) (c : Code) (s₁ : State) (vm0 : Vm), p.tables.exec = Jvm.exec → c.code = bytes → c.maxLocals = maxL → vm0.findClass y.cls = some m.cls → meth.name = y.name → meth.sig.returnType = ret → meth.locks = false → Z.Warmed39 vm0 →
      Stand p l e rm (s.setVm vm0) m as' below meth c s₁ [] 0 0 → s₁.heap = h0 → s.Since vm0 0 → s.heap = h0 → P vm0 → Run p e below s Q rm.cells rm.slots (s₁.setTop (F m))) : Con l y bytes maxL ret rm Z as' h0 P Q := by
  intro ws
  refine MetFree.of_bodySF hpl hisR ?_
  intro p e s m args below meth c s₁ Bd hml0 hP hK
  obtain ⟨rfl, hZ, hh, hPv⟩ := hP
  have k := body p e s m below meth c s₁ s.vm Bd.exec Bd.bytes hml0 (findClass_of_methodNamed Bd.named) (name_of_methodNamed Bd.named Bd.method).1 Bd.returns Bd.notSynchronized hZ (Stand.of_body Bd) (by rw [← hh, Bd.state]; rfl) ((State.WarmedH.refl s).since 0) hh hPv
  rw [← hef m] at k
  exact k
theorem Con.back {P : Vm → Prop} {y : MethodName} {bytes : ByteArray} {maxL : Nat} {ret : Option FieldType} {rm : Room} {len W : Nat} {as' : Array Value} (hM : Con l y bytes maxL ret rm Z as' h P Q) (hZ : Z.Warmed39 s.vm) (wc : (Jvm.Cond.code y bytes maxL ret).before a0 Z = true) (wz : (Jvm.Cond.initialized y.cls).before a0 Z = true) (hf : rm.frames + 1 ≤ R.frames) (hl : W + (maxL + 11) + rm.locals ≤ R.locals) :
    BackS l R p e below s args y len W (fun A a => a = as' ∧ A.U.heap = h ∧ A.cells + rm.cells ≤ R.cells ∧ A.slots + rm.slots ≤ R.slots ∧ P A.U.vm) (fun A _ v B => ∃ L, Q v B.U.heap L B.U.vm ∧ B.locs = A.locs ++ L ∧ B.cells = A.cells + rm.cells ∧ B.slots = A.slots + rm.slots) := by
  refine BackS.of_freeW (bytes := bytes) (maxL := maxL) (ret := ret) (E := fun _ _ o t L k n => k = rm.cells ∧ n = rm.slots ∧ ∃ v, o = .returned v ∧ Q v t.heap L t.vm) (hM []) hf hl ?_ ?_ (fun _ _ _ _ _ _ _ _ _ => trivial) ?_ ?_
  · intro m meth c A a Y hp
    have hU : Z.Warmed39 A.U.vm := wtrans hZ Y.warmed
    exact ⟨by show (Jvm.Cond.and _ .tt).before a A.U = true; rw [Cond.before_and, mv hU wc]; rfl, mv hU wc, mv hU wz, hp.2.2.1, hp.2.2.2.1⟩
  · intro m meth c A a g mk Y hp
    exact ⟨hp.1, wtrans hZ Y.warmed, hp.2.1, hp.2.2.2.2⟩
  · rintro _ _ _ _ ⟨v, L, h1, h2, h3⟩
    exact ⟨L, _, _, h3, rfl, rfl, v, h1, h2⟩
  · rintro m meth c A a g mk v t L k n Y hp _ _ ⟨e1, e2, v', e3, e4⟩
    cases e3; subst e1 e2
    exact ⟨L, e4, rfl, rfl, rfl⟩
section Calls
variable {y : MethodName} {bytes : ByteArray} {maxL : Nat} {rt : Option FieldType} {rm : Room} {W : Nat} {own : String} {index : Nat} {Pc : Vm → Prop} {Qc : Option Value → Heap → List Loc → Vm → Prop} {g : JFrame} {argsL rest : List Value} {as' : Array Value}
theorem Run.callS (hS : s.Since vm0 k0) (hk : k0 ≤ T.heap.size) (X : Stand p l e R (s.setVm vm0) m args below meth c T locs cells slots) (hx : p.tables.exec = Jvm.exec) (hZ : Z.Warmed39 vm0) (hown : vm0.findClass own = some m.cls) (w1 : (Jvm.Cond.methodLink own index y).before a0 Z = true) (w2 : (Jvm.Cond.static y).before a0 Z = true) (w3 : (Jvm.Cond.initialized y.cls).before a0 Z = true) (w4 : (Jvm.Cond.code y bytes maxL rt).before a0 Z = true)
    (hy : y.cls ≠ "java/lang/invoke/MethodHandle" ∧ y.cls ≠ "java/lang/invoke/VarHandle") (hM : Con l y bytes maxL rt rm Z argsL.toArray h Pc Qc) (eT : T.heap = h) (hfr : rm.frames + 1 ≤ R.frames) (hlo : W + (maxL + 11) + rm.locals ≤ R.locals) (hce : cells + rm.cells ≤ R.cells) (hsl : slots + rm.slots ≤ R.slots) (hPc : ∀ vm₁, (s.setVm vm0).WarmedH vm₁ → Pc vm₁)
    (hg : g.method = m) (hsize : g.locals.size = c.maxLocals) (hlen : ∀ sig, parseMethodDescriptor y.desc = some sig → argsL.length = sig.parameters.length) (hstack : g.stack = argsL.reverse ++ rest) (hW : 2 * g.monitorRoom + (rest.map fun v => v.category).sum ≤ W) (hdg : decode c.code g.pc = .ok (.invokestatic index, 3))
    (k : ∀ v T' L, Stand p l e R (s.setVm T'.vm) m args below meth c T' (locs ++ L) (cells + rm.cells) (slots + rm.slots) → s.Since T'.vm T'.heap.size → Z.Warmed39 T'.vm → T'.vm.findClass own = some m.cls → (s.setVm vm0).Warmed39 T'.vm → Qc v T'.heap L T'.vm → Run p e below s Q kc ks (T'.setTop { g with pc := g.pc + 3, stack := v.toList ++ rest })) : Run p e below s Q kc ks (T.setTop g) := by
  obtain ⟨v, vm₁, ⟨T', L', c', n'⟩, -, X', hS2, hg2, ⟨L, hQ, l1, l2, l3⟩, st⟩ := callSS X hx hown (mvT (s := s.setVm vm0) hZ w1) (mvT (s := s.setVm vm0) hZ w2) (mvT (s := s.setVm vm0) hZ w3) (mvT (s := s.setVm vm0) hZ w4) hy (hM.back (s := s.setVm vm0) (W := W) hZ w4 w3 hfr hlo) hg hsize hlen hstack hW hdg (fun _ q => ⟨rfl, eT, hce, hsl, hPc _ q⟩)
  dsimp only [Pt.U, Pt.locs, Pt.cells, Pt.slots] at X' l1 l2 l3 st hQ hS2 hg2
  subst l1 l2 l3
  exact Run.pre (fun _ q => st.trans q) (k v T' L X' (foldS hS hk hS2 hg2) (State.Warmed39.trans (t := s.setVm vm0) hZ hS2.1) (by rw [hS2.1.alike.findClass]; exact hown) hS2.1 hQ)
theorem Run.callI (hS : s.Since vm0 k0) (hk : k0 ≤ T.heap.size) (X : Stand p l e R (s.setVm vm0) m args below meth c T locs cells slots) (hx : p.tables.exec = Jvm.exec) (hZ : Z.Warmed39 vm0) (hy1 : y.name = "<init>") (hown : vm0.findClass own = some m.cls) (w1 : (Jvm.Cond.methodLink own index y).before a0 Z = true) (w2 : (Jvm.Cond.instanceMethod y).before a0 Z = true) (w4 : (Jvm.Cond.code y bytes maxL none).before a0 Z = true) (w3 : (Jvm.Cond.initialized y.cls).before a0 Z = true)
    (hy : y.cls ≠ "java/lang/invoke/MethodHandle" ∧ y.cls ≠ "java/lang/invoke/VarHandle") {a : Addr} (hM : Con l y bytes maxL none rm Z (.ref a :: argsL).toArray h Pc Qc) (eT : T.heap = h) (hfr : rm.frames + 1 ≤ R.frames) (hlo : W + (maxL + 11) + rm.locals ≤ R.locals) (hce : cells + rm.cells ≤ R.cells) (hsl : slots + rm.slots ≤ R.slots) (hPc : ∀ vm₁, (s.setVm vm0).WarmedH vm₁ → Pc vm₁)
    (hg : g.method = m) (hsize : g.locals.size = c.maxLocals) (hlen : ∀ sig, parseMethodDescriptor y.desc = some sig → argsL.length = sig.parameters.length) (hstack : g.stack = argsL.reverse ++ .ref a :: rest) (hW : 2 * g.monitorRoom + (rest.map fun v => v.category).sum ≤ W) (hdg : decode c.code g.pc = .ok (.invokespecial index, 3))
    (k : ∀ v T' L, Stand p l e R (s.setVm T'.vm) m args below meth c T' (locs ++ L) (cells + rm.cells) (slots + rm.slots) → s.Since T'.vm T'.heap.size → Z.Warmed39 T'.vm → T'.vm.findClass own = some m.cls → (s.setVm vm0).Warmed39 T'.vm → Qc v T'.heap L T'.vm → Run p e below s Q kc ks (T'.setTop { g with pc := g.pc + 3, stack := v.toList ++ rest })) : Run p e below s Q kc ks (T.setTop g) := by
  obtain ⟨v, vm₁, ⟨T', L', c', n'⟩, -, X', hS2, hg2, ⟨L, hQ, l1, l2, l3⟩, st⟩ := X.specialBackS hx hy1 hown (mvT (s := s.setVm vm0) hZ w1) (mvT (s := s.setVm vm0) hZ w2) (mvT (s := s.setVm vm0) hZ w4) hy (hM.back (s := s.setVm vm0) (W := W) hZ w4 w3 hfr hlo) hg hsize (Steps.refl _) hlen hstack hW hdg (fun _ q => ⟨rfl, eT, hce, hsl, hPc _ q⟩)
  dsimp only [Pt.U, Pt.locs, Pt.cells, Pt.slots] at X' l1 l2 l3 st hQ hS2 hg2
  subst l1 l2 l3
  exact Run.pre (fun _ q => st.trans q) (k v T' L X' (foldS hS hk hS2 hg2) (State.Warmed39.trans (t := s.setVm vm0) hZ hS2.1) (by rw [hS2.1.alike.findClass]; exact hown) hS2.1 hQ)
theorem Run.callP (hS : s.Since vm0 k0) (hk : k0 ≤ T.heap.size) (X : Stand p l e R (s.setVm vm0) m args below meth c T locs cells slots) (hx : p.tables.exec = Jvm.exec) (hZ : Z.Warmed39 vm0) (hown : vm0.findClass own = some m.cls) (w1 : (Jvm.Cond.methodLink own index y).before a0 Z = true) (w2 : (Jvm.Cond.instanceMethod y).before a0 Z = true) (w5 : (Jvm.Cond.selects y.cls y y).before a0 Z = true) (w6 : (Jvm.Cond.privateMethod y).before a0 Z = true) (w4 : (Jvm.Cond.code y bytes maxL rt).before a0 Z = true) (w3 : (Jvm.Cond.initialized y.cls).before a0 Z = true)
    (hy : y.cls ≠ "java/lang/invoke/MethodHandle" ∧ y.cls ≠ "java/lang/invoke/VarHandle") {a : Addr} {C : String} (E : Exa Z h a C) (hM : Con l y bytes maxL rt rm Z (.ref a :: argsL).toArray h Pc Qc) (eT : T.heap = h) (hfr : rm.frames + 1 ≤ R.frames) (hlo : W + (maxL + 11) + rm.locals ≤ R.locals) (hce : cells + rm.cells ≤ R.cells) (hsl : slots + rm.slots ≤ R.slots) (hPc : ∀ vm₁, (s.setVm vm0).WarmedH vm₁ → Pc vm₁)
    (hg : g.method = m) (hsize : g.locals.size = c.maxLocals) (hlen : ∀ sig, parseMethodDescriptor y.desc = some sig → argsL.length = sig.parameters.length) (hstack : g.stack = argsL.reverse ++ .ref a :: rest) (hW : 2 * g.monitorRoom + (rest.map fun v => v.category).sum ≤ W) (hdg : decode c.code g.pc = .ok (.invokevirtual index, 3))
    (k : ∀ v T' L, Stand p l e R (s.setVm T'.vm) m args below meth c T' (locs ++ L) (cells + rm.cells) (slots + rm.slots) → s.Since T'.vm T'.heap.size → Z.Warmed39 T'.vm → T'.vm.findClass own = some m.cls → (s.setVm vm0).Warmed39 T'.vm → Qc v T'.heap L T'.vm → Run p e below s Q kc ks (T'.setTop { g with pc := g.pc + 3, stack := v.toList ++ rest })) : Run p e below s Q kc ks (T.setTop g) := by
  obtain ⟨cell, kk, q1, -, -, q4, -⟩ := E
  obtain ⟨v, vm₁, ⟨T', L', c', n'⟩, -, X', hS2, hg2, ⟨L, hQ, l1, l2, l3⟩, st⟩ := X.privateBackS hx hown (mvT (s := s.setVm vm0) hZ w1) (mvT (s := s.setVm vm0) hZ w2) (mvT (s := s.setVm vm0) hZ w5) (Cond.privateMethod_at (mvP (s := s.setVm vm0) hZ w6 (args := #[]))) (mvT (s := s.setVm vm0) hZ w4) hy (hM.back (s := s.setVm vm0) (W := W) hZ w4 w3 hfr hlo) hg hsize (Steps.refl _) (a := a) (by rw [eT]; exact q1) (fun q e => by rw [e] at q4; cases q4) hlen hstack hW hdg (fun _ q => ⟨rfl, eT, hce, hsl, hPc _ q⟩)
  dsimp only [Pt.U, Pt.locs, Pt.cells, Pt.slots] at X' l1 l2 l3 st hQ hS2 hg2
  subst l1 l2 l3
  exact Run.pre (fun _ q => st.trans q) (k v T' L X' (foldS hS hk hS2 hg2) (State.Warmed39.trans (t := s.setVm vm0) hZ hS2.1) (by rw [hS2.1.alike.findClass]; exact hown) hS2.1 hQ)
theorem Run.callV {z : MethodName} {C : String} (hS : s.Since vm0 k0) (hk : k0 ≤ T.heap.size) (X : Stand p l e R (s.setVm vm0) m args below meth c T locs cells slots) (hx : p.tables.exec = Jvm.exec) (hZ : Z.Warmed39 vm0) (hown : vm0.findClass own = some m.cls) (w1 : (Jvm.Cond.methodLink own index y).before a0 Z = true) (w2 : (Jvm.Cond.declares y).before a0 Z = true) (hnf : NotFace (s.setVm vm0) y) (w5 : (Jvm.Cond.selects C y z).before a0 Z = true) (w6 : (Jvm.Cond.instanceMethod z).before a0 Z = true) (w4 : (Jvm.Cond.code z bytes maxL rt).before a0 Z = true) (w3 : (Jvm.Cond.initialized z.cls).before a0 Z = true)
    (hy : y.cls ≠ "java/lang/invoke/MethodHandle" ∧ y.cls ≠ "java/lang/invoke/VarHandle") {b : Addr} (E : Exa Z h b C) (hM : Con l z bytes maxL rt rm Z (.ref b :: argsL).toArray h Pc Qc) (eT : T.heap = h) (hfr : rm.frames + 1 ≤ R.frames) (hlo : W + (maxL + 11) + rm.locals ≤ R.locals) (hce : cells + rm.cells ≤ R.cells) (hsl : slots + rm.slots ≤ R.slots) (hPc : ∀ vm₁, (s.setVm vm0).WarmedH vm₁ → Pc vm₁)
    (hg : g.method = m) (hsize : g.locals.size = c.maxLocals) (hlen : ∀ sig, parseMethodDescriptor y.desc = some sig → argsL.length = sig.parameters.length) (hstack : g.stack = argsL.reverse ++ .ref b :: rest) (hW : 2 * g.monitorRoom + (rest.map fun v => v.category).sum ≤ W) (hdg : decode c.code g.pc = .ok (.invokevirtual index, 3))
    (k : ∀ v T' L, Stand p l e R (s.setVm T'.vm) m args below meth c T' (locs ++ L) (cells + rm.cells) (slots + rm.slots) → s.Since T'.vm T'.heap.size → Z.Warmed39 T'.vm → T'.vm.findClass own = some m.cls → (s.setVm vm0).Warmed39 T'.vm → Qc v T'.heap L T'.vm → Run p e below s Q kc ks (T'.setTop { g with pc := g.pc + 3, stack := v.toList ++ rest })) : Run p e below s Q kc ks (T.setTop g) := by
  obtain ⟨cB, kB, qa, qb, qc⟩ := isOf (s := s.setVm vm0) hZ eT E
  obtain ⟨v, vm₁, ⟨T', L', c', n'⟩, -, X', hS2, hg2, ⟨L, hQ, l1, l2, l3⟩, st⟩ := X.virtualBackS hx hown (mvT (s := s.setVm vm0) hZ w1) (mvT (s := s.setVm vm0) hZ w2) hnf (mvT (s := s.setVm vm0) hZ w5) (mvT (s := s.setVm vm0) hZ w6) hy (hM.back (s := s.setVm vm0) (W := W) hZ w4 w3 hfr hlo) qa qc hg hsize (Steps.refl _) hlen hstack hW hdg (fun _ q => ⟨rfl, eT, hce, hsl, hPc _ q⟩)
  dsimp only [Pt.U, Pt.locs, Pt.cells, Pt.slots] at X' l1 l2 l3 st hQ hS2 hg2
  subst l1 l2 l3
  exact Run.pre (fun _ q => st.trans q) (k v T' L X' (foldS hS hk hS2 hg2) (State.Warmed39.trans (t := s.setVm vm0) hZ hS2.1) (by rw [hS2.1.alike.findClass]; exact hown) hS2.1 hQ)
theorem Run.callU {z : MethodName} {C owner : String} (hS : s.Since vm0 k0) (hk : k0 ≤ T.heap.size) (X : Stand p l e R (s.setVm vm0) m args below meth c T locs cells slots) (hx : p.tables.exec = Jvm.exec) (hZ : Z.Warmed39 vm0) (hown : vm0.findClass own = some m.cls) (w1 : (Jvm.Cond.methodLink own index y).before a0 Z = true) (w2 : (Jvm.Cond.sameMethod y.cls owner y.name y.desc).before a0 Z = true) (w7 : (Jvm.Cond.declares ⟨owner, y.name, y.desc⟩).before a0 Z = true) (w5 : (Jvm.Cond.selects C y z).before a0 Z = true) (w6 : (Jvm.Cond.instanceMethod z).before a0 Z = true) (w4 : (Jvm.Cond.code z bytes maxL rt).before a0 Z = true) (w3 : (Jvm.Cond.initialized z.cls).before a0 Z = true)
    (hy : owner ≠ "java/lang/invoke/MethodHandle" ∧ owner ≠ "java/lang/invoke/VarHandle") {b : Addr} (E : Exa Z h b C) (hM : Con l z bytes maxL rt rm Z (.ref b :: argsL).toArray h Pc Qc) (eT : T.heap = h) (hfr : rm.frames + 1 ≤ R.frames) (hlo : W + (maxL + 11) + rm.locals ≤ R.locals) (hce : cells + rm.cells ≤ R.cells) (hsl : slots + rm.slots ≤ R.slots) (hPc : ∀ vm₁, (s.setVm vm0).WarmedH vm₁ → Pc vm₁)
    (hg : g.method = m) (hsize : g.locals.size = c.maxLocals) (hlen : ∀ sig, parseMethodDescriptor y.desc = some sig → argsL.length = sig.parameters.length) (hstack : g.stack = argsL.reverse ++ .ref b :: rest) (hW : 2 * g.monitorRoom + (rest.map fun v => v.category).sum ≤ W) (hdg : decode c.code g.pc = .ok (.invokevirtual index, 3))
    (k : ∀ v T' L, Stand p l e R (s.setVm T'.vm) m args below meth c T' (locs ++ L) (cells + rm.cells) (slots + rm.slots) → s.Since T'.vm T'.heap.size → Z.Warmed39 T'.vm → T'.vm.findClass own = some m.cls → (s.setVm vm0).Warmed39 T'.vm → Qc v T'.heap L T'.vm → Run p e below s Q kc ks (T'.setTop { g with pc := g.pc + 3, stack := v.toList ++ rest })) : Run p e below s Q kc ks (T.setTop g) := by
  obtain ⟨cB, kB, qa, qb, qc⟩ := isOf (s := s.setVm vm0) hZ eT E
  obtain ⟨v, vm₁, ⟨T', L', c', n'⟩, -, X', hS2, hg2, ⟨L, hQ, l1, l2, l3⟩, st⟩ := X.virtualBackUpS hx hown (mvT (s := s.setVm vm0) hZ w1) (mvT (s := s.setVm vm0) hZ w2) (mvT (s := s.setVm vm0) hZ w7) hy (mvT (s := s.setVm vm0) hZ w5) (mvT (s := s.setVm vm0) hZ w6) (hM.back (s := s.setVm vm0) (W := W) hZ w4 w3 hfr hlo) qa qc hg hsize (Steps.refl _) hlen hstack hW hdg (fun _ q => ⟨rfl, eT, hce, hsl, hPc _ q⟩)
  dsimp only [Pt.U, Pt.locs, Pt.cells, Pt.slots] at X' l1 l2 l3 st hQ hS2 hg2
  subst l1 l2 l3
  exact Run.pre (fun _ q => st.trans q) (k v T' L X' (foldS hS hk hS2 hg2) (State.Warmed39.trans (t := s.setVm vm0) hZ hS2.1) (by rw [hS2.1.alike.findClass]; exact hown) hS2.1 hQ)
theorem Run.callF {xi : MethodName} {C : String} {count : Nat} (hS : s.Since vm0 k0) (hk : k0 ≤ T.heap.size) (X : Stand p l e R (s.setVm vm0) m args below meth c T locs cells slots) (hx : p.tables.exec = Jvm.exec) (hZ : Z.Warmed39 vm0) (hown : vm0.findClass own = some m.cls) (w1 : (Jvm.Cond.methodLink own index xi).before a0 Z = true) (w2 : (Jvm.Cond.declares xi).before a0 Z = true) (w7 : (Jvm.Cond.interfaceMethod xi.cls xi.cls xi.name xi.desc).before args (s.setVm vm0) = true) (w5 : (Jvm.Cond.selects C xi y).before a0 Z = true) (w6 : (Jvm.Cond.instanceMethod y).before a0 Z = true) (w8 : (Jvm.Cond.publicMethod y).before a0 Z = true) (w9 : (Jvm.Cond.unhidden C xi.name xi.desc).before a0 Z = true) (w10 : (Jvm.Cond.castable C xi.cls).before a0 Z = true) (w4 : (Jvm.Cond.code y bytes maxL rt).before a0 Z = true) (w3 : (Jvm.Cond.initialized y.cls).before a0 Z = true)
    (hy : xi.cls ≠ "java/lang/invoke/MethodHandle" ∧ xi.cls ≠ "java/lang/invoke/VarHandle") {b : Addr} (E : Exa Z h b C) (hM : Con l y bytes maxL rt rm Z (.ref b :: argsL).toArray h Pc Qc) (eT : T.heap = h) (hfr : rm.frames + 1 ≤ R.frames) (hlo : W + (maxL + 11) + rm.locals ≤ R.locals) (hce : cells + rm.cells ≤ R.cells) (hsl : slots + rm.slots ≤ R.slots) (hPc : ∀ vm₁, (s.setVm vm0).WarmedH vm₁ → Pc vm₁)
    (hg : g.method = m) (hsize : g.locals.size = c.maxLocals) (hlen : ∀ sig, parseMethodDescriptor xi.desc = some sig → argsL.length = sig.parameters.length) (hstack : g.stack = argsL.reverse ++ .ref b :: rest) (hW : 2 * g.monitorRoom + (rest.map fun v => v.category).sum ≤ W) (hdg : decode c.code g.pc = .ok (.invokeinterface index count, 5))
    (k : ∀ v T' L, Stand p l e R (s.setVm T'.vm) m args below meth c T' (locs ++ L) (cells + rm.cells) (slots + rm.slots) → s.Since T'.vm T'.heap.size → Z.Warmed39 T'.vm → T'.vm.findClass own = some m.cls → (s.setVm vm0).Warmed39 T'.vm → Qc v T'.heap L T'.vm → Run p e below s Q kc ks (T'.setTop { g with pc := g.pc + 5, stack := v.toList ++ rest })) : Run p e below s Q kc ks (T.setTop g) := by
  obtain ⟨cB, kB, qa, qb, qc⟩ := isOf (s := s.setVm vm0) hZ eT E
  obtain ⟨v, vm₁, ⟨T', L', c', n'⟩, -, X', hS2, hg2, ⟨L, hQ, l1, l2, l3⟩, st⟩ := X.interfaceBackS hx hown (mvT (s := s.setVm vm0) hZ w1) (mvT (s := s.setVm vm0) hZ w2) w7 (mvT (s := s.setVm vm0) hZ w5) (mvT (s := s.setVm vm0) hZ w6) (mvT (s := s.setVm vm0) hZ w8) (mvT (s := s.setVm vm0) hZ w9) (mvT (s := s.setVm vm0) hZ w10) hy (hM.back (s := s.setVm vm0) (W := W) hZ w4 w3 hfr hlo) qa qb qc hg hsize (Steps.refl _) hlen hstack hW hdg (fun _ q => ⟨rfl, eT, hce, hsl, hPc _ q⟩)
  dsimp only [Pt.U, Pt.locs, Pt.cells, Pt.slots] at X' l1 l2 l3 st hQ hS2 hg2
  subst l1 l2 l3
  exact Run.pre (fun _ q => st.trans q) (k v T' L X' (foldS hS hk hS2 hg2) (State.Warmed39.trans (t := s.setVm vm0) hZ hS2.1) (by rw [hS2.1.alike.findClass]; exact hown) hS2.1 hQ)
end Calls
/-! from the case's words to facts on the heap -/
theorem own_fldInt {args : Array Value} {t : Term} {C n d : String} {k : Int32} {a : Addr} (ht : t.eval args Z none [] Z = some (.ref a)) (h : (Jvm.Cond.eq (Term.field t C n d) (Term.int k)).value args Z none Z [] = some true) : Fld Z Z.heap a C n d (.int k) := by
  obtain ⟨x, y, e1, e2, -, k2⟩ := cmp_v (Or.inl h)
  have e3 : y = .int k := (Option.some.inj ((Term.int_eval k).symm.trans e2)).symm
  subst e3
  obtain ⟨z, rfl⟩ := k2
  have e4 := fld_at (C := C) (n := n) (dd := d) ht
  rw [e4] at e1
  have q : z = k := by
    have hh : (Jvm.Cond.eq (Term.field t C n d) (Term.int k)).value args Z none Z [] = some (decide (z = k)) := by simp [Jvm.Cond.value, e4, e1, e2]
    exact gotT hh h
  subst q
  exact Fld.start e1
theorem own_fldLong {args : Array Value} {t : Term} {C n d : String} {k : Int64} {a : Addr} (ht : t.eval args Z none [] Z = some (.ref a)) (h : (Jvm.Cond.eq (Term.field t C n d) (Term.long k)).value args Z none Z [] = some true) : Fld Z Z.heap a C n d (.long k) := by
  obtain ⟨x, y, e1, e2, -, k2⟩ := cmp_v (Or.inl h)
  have e3 : y = .long k := (Option.some.inj (show some (Value.long k) = some y from e2)).symm
  subst e3
  obtain ⟨z, rfl⟩ := k2
  have e4 := fld_at (C := C) (n := n) (dd := d) ht
  have q : z = k := gotT (eq_L e1 e2) h
  rw [e4] at e1
  subst q
  exact Fld.start e1
theorem own_len {args : Array Value} {t : Term} {n : Int32} {a : Addr} {cl : Cell} {ty : FieldType} (ht : t.eval args Z none [] Z = some (.ref a)) (A : Arr Z Z.heap a cl ty) (h : (Jvm.Cond.eq (Term.length t) (Term.int n)).value args Z none Z [] = some true) : cl.slots.size < 2 ^ 31 ∧ cl.slots.size.toInt32 = n := by
  obtain ⟨x, y, e1, e2, -, k2⟩ := cmp_v (Or.inl h)
  have ha : Z.arrayAt? a = some cl := A.fin (Vm.Alike.refl _)
  by_cases hl : cl.slots.size < 2 ^ 31
  · refine ⟨hl, ?_⟩
    have e3 := len_f ht ha hl
    have hh : (Jvm.Cond.eq (Term.length t) (Term.int n)).value args Z none Z [] = some (decide (cl.slots.size.toInt32 = n)) := by
      have e4 : (Term.int n).eval args Z none [] Z = some (.int n) := Term.int_eval n
      simp [Jvm.Cond.value, e3, e4]
    exact gotT hh h
  · exfalso
    simp [Term.eval, ht, ha, hl] at e1
theorem own_elem {args : Array Value} {t u : Term} {j : Int32} {a w : Addr} {cl : Cell} (ht : t.eval args Z none [] Z = some (.ref a)) (hu : u.eval args Z none [] Z = some (.ref w)) (hc : Z.heap[a]? = some cl) (h : (Jvm.Cond.eq (Term.elem t (Term.int j)) u).value args Z none Z [] = some true) : cl.slots[j.toNatClampNeg]? = some (.ref w) := by
  obtain ⟨x, y, e1, e2, k1, k2⟩ := cmp_v (Or.inl h)
  cases hu.symm.trans e2
  have q := gotT (eq_R e1 e2 k2.2 rfl) h
  subst q
  exact (elem_in e1 ht (Term.int_eval j) hc).2
theorem own_fldRef {args : Array Value} {t u : Term} {C n d : String} {a w : Addr} (ht : t.eval args Z none [] Z = some (.ref a)) (hu : u.eval args Z none [] Z = some (.ref w)) (h : (Jvm.Cond.eq (Term.field t C n d) u).value args Z none Z [] = some true) : Fld Z Z.heap a C n d (.ref w) := by
  obtain ⟨x, y, e1, e2, k1, k2⟩ := cmp_v (Or.inl h)
  cases hu.symm.trans e2
  have q := gotT (eq_R e1 e2 k2.2 rfl) h
  subst q
  rw [fld_at ht] at e1
  exact Fld.start e1
theorem own_fldNull {args : Array Value} {t : Term} {C n d : String} {a : Addr} (ht : t.eval args Z none [] Z = some (.ref a)) (h : (Jvm.Cond.eq (Term.field t C n d) Term.null).value args Z none Z [] = some true) : Fld Z Z.heap a C n d .null := by
  have e1 := null_v h
  rw [fld_at ht] at e1
  exact Fld.start e1
theorem own_neArv {a b : Addr} {C : String} {k : ClassId} {ty : FieldType} {z : Int32} {vs : List Value} {d : Value} {n : Nat} (E : Exa Z h a C) (wi : (Jvm.Cond.instantiable C n).before a0 Z = true) (A : Arv Z h b k ty z vs d) : b ≠ a := by
  obtain ⟨c, A', -⟩ := A; exact (ne_arr E wi A').symm
theorem own_ibStays {vm vm' : Vm} {Ts : List String} (h : IB Z vm Ts) (q : (s.setVm vm).WarmedH vm') : IB Z vm' Ts := by
  obtain ⟨more, e, r⟩ := h; exact ⟨more, by rw [q.interned_eq]; exact e, r⟩
theorem own_ne0 {args : Array Value} {t : Term} {z : Int32} (e : t.eval args Z none [] Z = some (.int z)) (h : (Jvm.Cond.not (Jvm.Cond.eq t (Term.int 0))).value args Z none Z [] = some true) : ¬ z = 0 := by
  have h1 := not_v h
  have e0 : (Term.int 0).eval args Z none [] Z = some (.int 0) := Term.int_eval 0
  have hh : (Jvm.Cond.eq t (Term.int 0)).value args Z none Z [] = some (decide (z = 0)) := by simp [Jvm.Cond.value, e, e0]
  exact gotF hh h1
theorem own_staInt {args : Array Value} {C n d : String} {k : Int32} (h : (Jvm.Cond.eq (Term.static C n d) (Term.int k)).value args Z none Z [] = some true) (hi : (Jvm.Cond.initializedFor C n d).before args Z = true ∨ ((Jvm.Cond.initialized C).before args Z = true ∧ (Jvm.Cond.laysStatic C n d).before args Z = true)) : Sta Z Z.heap C n d (.int k) := by
  obtain ⟨x, y, e1, e2, -, k2⟩ := cmp_v (Or.inl h)
  have e3 : y = .int k := (Option.some.inj ((Term.int_eval k).symm.trans e2)).symm
  subst e3
  obtain ⟨z, rfl⟩ := k2
  have hh : (Jvm.Cond.eq (Term.static C n d) (Term.int k)).value args Z none Z [] = some (decide (z = k)) := by simp [Jvm.Cond.value, e1, e2]
  have q := gotT hh h
  subst q
  exact Sta.start e1 hi
theorem own_cat1 {v : Value} (h : v.isRef = true) : v.category = 1 := by rcases ref_cases h with rfl | ⟨_, rfl⟩ <;> rfl
theorem own_fit {s : State} (hF : heapFits s = true) : Fit s := fun {y c} hc i hi => by
  obtain ⟨ha, rfl⟩ := Array.getElem?_eq_some_iff.mp hc
  have q := List.all_eq_true.mp ((Array.all_eq_true_iff_forall_mem.mp hF) _ (Array.getElem_mem ha)) i (List.mem_range.mpr hi)
  simpa [Array.getElem?_eq_getElem hi] using q
end Own
theorem own_narc (x : Int32) : nar .char (nar .char x) = nar .char x := by simp only [nar, UInt32.toUInt32_toInt32, UInt16.toUInt16_toUInt32]
theorem own_eqI {Z : State} {args : Array Value} {idx : List Nat} {t u : Term} {k : Int32} (e2 : u.eval args Z none idx Z = some (.int k)) (h : (Jvm.Cond.eq t u).value args Z none Z idx = some true) : t.eval args Z none idx Z = some (.int k) := by
  simp only [Jvm.Cond.value, e2] at h
  split at h <;> simp_all
theorem own_byteArr {Z : State} {a0 args : Array Value} {t : Term} {a : Addr} {n : Int32} (ht : t.eval args Z none [] Z = some (.ref a)) (E : Exa Z Z.heap a "[B") (w : (Jvm.Cond.arrayClass .byte).before a0 Z = true) (h : (Jvm.Cond.eq (Term.length t) (Term.int n)).value args Z none Z [] = some true) : ∃ c, Arr Z Z.heap a c .byte := by
  have e1 := own_eqI (Term.int_eval n) h
  obtain ⟨cell, k, q1, q2, q3, q4, -⟩ := E
  have hv : cell.vm ≠ .unknown := by
    intro hu
    simp [Term.eval, ht, State.arrayAt?, q1, q3, hu] at e1
  obtain ⟨c, k', comp, r1, r2, r3⟩ := Jvm.Cond.arrayClass_spec (Jvm.Cond.before_iff.mp w |> fun h => (by simp [Jvm.Cond.holds, h] : (Jvm.Cond.arrayClass .byte).holds a0 Z none Z [] = true))
  have r1' : Z.vm.findClass "[B" = some c := r1
  rw [q2] at r1'
  have e := Option.some.inj r1'
  rw [← e, q3] at r2
  cases r2
  exact ⟨cell, q1, ⟨(fun kk hk => by rw [hk] at q4; cases q4), k, q3, comp, r3⟩, hv⟩
theorem own_hasL {c : Cell} {f : Nat → Value} : ∀ (n i : Nat), (∀ j, i ≤ j → j < i + n → c.slots[j]? = some (f j)) → HasL c i ((List.range' i n).map f)
  | 0, _, _ => trivial
  | n + 1, i, h => ⟨h i (Nat.le_refl _) (by omega), own_hasL n (i + 1) fun j h1 h2 => h j (by omega) (by omega)⟩
def own_of (m : Nat) : Int32 := Int32.ofNat m
theorem own_ofI {m : Nat} (h : m < 2147483648) : (own_of m).toInt = m := by
  unfold own_of
  rw [Int32.toInt_ofNat_of_lt (by omega)]
theorem own_eqT {x y : Int32} (h : x.toInt = y.toInt) : x = y := Int32.toInt_inj.mp h
theorem own_ngI {m : Nat} (h : m < 2147483648) : (-(own_of m)).toInt = -(m : Int) := by
  rw [Int32.toInt_neg, own_ofI h]
  exact Int.bmod_eq_of_le (by omega) (by omega)
theorem own_ofN {m : Nat} (h : m < 2147483648) : (own_of m).toNatClampNeg = m := by
  simp only [Int32.toNatClampNeg, own_ofI h]; omega
theorem own_div {m : Nat} (h : m < 2147483648) : (-(own_of m)) / (100 : Int32) = -(own_of (m / 100)) := by
  apply own_eqT
  rw [Int32.toInt_div, own_ngI h, own_ngI (by omega), show (100 : Int32).toInt = 100 from rfl, Int.neg_tdiv]
  have e : ((m : Int)).tdiv 100 = ((m / 100 : Nat) : Int) := by rw [Int.tdiv_eq_ediv_of_nonneg (by omega)]; omega
  rw [e]
  exact Int.bmod_eq_of_le (by omega) (by omega)
theorem own_rem {m : Nat} (h : m < 2147483648) : (-(own_of (m / 100))) * (100 : Int32) - (-(own_of m)) = own_of (m % 100) := by
  apply own_eqT
  rw [Int32.toInt_sub, Int32.toInt_mul, own_ngI h, own_ngI (by omega), own_ofI (by omega), show (100 : Int32).toInt = 100 from rfl]
  rw [Int.bmod_eq_of_le (n := -((m / 100 : Nat) : Int) * 100) (by omega) (by omega)]
  rw [Int.bmod_eq_of_le (by omega) (by omega)]
  omega
theorem own_divp {m q : Nat} (h : m < 2147483648) (hq : q < 2147483648) (hq0 : 0 < q) : own_of m / own_of q = own_of (m / q) := by
  have hd : m / q ≤ m := Nat.div_le_self _ _
  apply own_eqT
  rw [Int32.toInt_div, own_ofI h, own_ofI hq, own_ofI (by omega)]
  have e : ((m : Int)).tdiv q = ((m / q : Nat) : Int) := by rw [Int.tdiv_eq_ediv_of_nonneg (by omega)]; rfl
  rw [e]
  generalize m / q = z at *
  exact Int.bmod_eq_of_le (by omega) (by omega)
theorem own_mod10 {m : Nat} (h : m < 2147483648) : own_of m % (10 : Int32) = own_of (m % 10) := by
  apply own_eqT
  rw [Int32.toInt_mod, own_ofI h, own_ofI (by omega), show (10 : Int32).toInt = 10 from rfl, Int.tmod_eq_emod_of_nonneg (by omega)]
  omega
theorem own_ltng {q : Int32} {m : Nat} (h : m < 2147483648) (k : q.toInt < -(m : Int)) : q < -(own_of m) := by
  rw [Int32.lt_iff_toInt_lt, own_ngI h]; exact k
theorem own_nltng {q : Int32} {m : Nat} (h : m < 2147483648) (k : ¬ q.toInt < -(m : Int)) : ¬ q < -(own_of m) := by
  rw [Int32.lt_iff_toInt_lt, own_ngI h]; exact k
theorem own_nglt {q : Int32} {m : Nat} (h : m < 2147483648) (k : -(m : Int) < q.toInt) : -(own_of m) < q := by
  rw [Int32.lt_iff_toInt_lt, own_ngI h]; exact k
theorem own_nnglt {q : Int32} {m : Nat} (h : m < 2147483648) (k : ¬ -(m : Int) < q.toInt) : ¬ -(own_of m) < q := by
  rw [Int32.lt_iff_toInt_lt, own_ngI h]; exact k
theorem own_oflt {q : Int32} {m : Nat} (h : m < 2147483648) (k : (m : Int) < q.toInt) : own_of m < q := by
  rw [Int32.lt_iff_toInt_lt, own_ofI h]; exact k
theorem own_nofl {q : Int32} {m : Nat} (h : m < 2147483648) (k : ¬ (m : Int) < q.toInt) : ¬ own_of m < q := by
  rw [Int32.lt_iff_toInt_lt, own_ofI h]; exact k
theorem own_in100 {m : Nat} (h : m < 100) : ¬ own_of m < 0 ∧ own_of m < 100 := ⟨own_nofl (by omega) (by rw [show (0 : Int32).toInt = 0 from rfl]; omega), own_oflt (by omega) (by rw [show (100 : Int32).toInt = 100 from rfl]; omega)⟩
def own_DO : List Value := (List.range' 0 100).map fun i => Value.int (own_of (48 + i % 10))
def own_DT : List Value := (List.range' 0 100).map fun i => Value.int (own_of (48 + i / 10))
theorem own_getO {m : Nat} (h : m < 100) : own_DO.getD (own_of m).toNatClampNeg (.int 0) = .int (own_of (48 + m % 10)) := by
  rw [own_ofN (by omega), List.getD_eq_getElem?_getD]; simp [own_DO, h]
theorem own_getT {m : Nat} (h : m < 100) : own_DT.getD (own_of m).toNatClampNeg (.int 0) = .int (own_of (48 + m / 10)) := by
  rw [own_ofN (by omega), List.getD_eq_getElem?_getD]; simp [own_DT, h]
theorem own_ch {e : Nat} (h : e < 10) : nar .char (((nar .byte (own_of (48 + e))) &&& (255 : Int32)).toUInt32.toUInt16.toUInt32.toInt32) = own_of (48 + e) := by
  have : ∀ k : Fin 10, nar .char (((nar .byte (own_of (48 + k.1))) &&& (255 : Int32)).toUInt32.toUInt16.toUInt32.toInt32) = own_of (48 + k.1) := by decide +kernel
  exact this ⟨e, h⟩
theorem own_rhs {m q : Nat} {w : Int32} (hm : m < 2147483648) (hw : w = own_of q) (hq : q < 2147483648) (hq0 : 0 < q) : ((48 : Int32) + own_of m / w % (10 : Int32)).toUInt32.toUInt16.toUInt32.toInt32 = own_of (48 + m / q % 10) := by
  have hd : m / q ≤ m := Nat.div_le_self _ _
  rw [hw, own_divp hm hq hq0, own_mod10 (by omega)]
  have : ∀ k : Fin 10, ((48 : Int32) + own_of k.1).toUInt32.toUInt16.toUInt32.toInt32 = own_of (48 + k.1) := by decide +kernel
  exact this ⟨m / q % 10, by omega⟩
theorem own_heq {m q e : Nat} {w : Int32} (hm : m < 2147483648) (hw : w = own_of q) (hq : q < 2147483648) (hq0 : 0 < q) (he : e = m / q % 10) : nar .char (((nar .byte (own_of (48 + e))) &&& (255 : Int32)).toUInt32.toUInt16.toUInt32.toInt32) = ((48 : Int32) + own_of m / w % (10 : Int32)).toUInt32.toUInt16.toUInt32.toInt32 := by
  rw [own_rhs hm hw hq hq0, own_ch (by omega), he]
theorem own_and31 (y : Int32) : ∃ m : Nat, own_of m = y &&& (2147483647 : Int32) ∧ m < 2147483648 := by
  have hb : (y.toBitVec &&& 2147483647#32).toNat < 2147483648 := by
    rw [BitVec.toNat_and]; exact Nat.lt_of_le_of_lt Nat.and_le_right (by decide)
  refine ⟨(y.toBitVec &&& 2147483647#32).toNat, ?_, hb⟩
  apply Int32.toBitVec_inj.mp
  show BitVec.ofNat 32 _ = y.toBitVec &&& 2147483647#32
  rw [BitVec.ofNat_toNat, BitVec.setWidth_eq]
theorem own_elemAt {Z : State} {args : Array Value} {t : Term} {a : Addr} {cl : Cell} {i : Nat} (ev : t.eval args Z none [i] Z = some (.ref a)) (ha : Z.arrayAt? a = some cl) (hi : i < 2147483648) : (Term.elem t (Term.index 0)).eval args Z none [i] Z = cl.slots[i]? := by
  have hj : i.toInt32 = own_of i := rfl
  have h0 : ¬ i.toInt32 < 0 := by rw [hj]; exact own_nofl (by omega) (by rw [show (0 : Int32).toInt = 0 from rfl]; omega)
  have hn : i.toInt32.toNatClampNeg = i := by rw [hj]; exact own_ofN (by omega)
  simp [Term.eval, ev, ha, h0, hn]
theorem own_elemAll {Z : State} {args : Array Value} {C f d : String} {a : Addr} {cl : Cell} {u : Term} {g : Nat → Int32} (ev : (Term.static C f d).eval args Z none [] Z = some (.ref a)) {ty : FieldType} (A : Arr Z Z.heap a cl ty) (hs : cl.slots.size < 2147483648)
    (hu : ∀ i, i < cl.slots.size → u.eval args Z none [i] Z = some (.int (g i)))
    (h : (Jvm.Cond.all (Term.static C f d) (Jvm.Cond.eq (Term.elem (Term.static C f d) (Term.index 0)) u)).value args Z none Z [] = some true) : ∀ i, i < cl.slots.size → cl.slots[i]? = some (.int (g i)) := by
  intro i hi
  have ha : Z.arrayAt? a = some cl := A.fin (Vm.Alike.refl _)
  have q := own_eqI (hu i hi) (Jvm.Cond.all_elim ev ha h i hi)
  have ev' : (Term.static C f d).eval args Z none [i] Z = some (.ref a) := ev
  rw [own_elemAt ev' ha (by omega)] at q
  exact q
theorem own_digA {Z : State} {args : Array Value} {C f d : String} {a : Addr} {u : Term} {g : Nat → Int32} {vs : List Value} (hf : Fit Z) (ev : (Term.static C f d).eval args Z none [] Z = some (.ref a)) {cl : Cell} (A : Arr Z Z.heap a cl .byte) (hl : cl.slots.size < 2 ^ 31 ∧ cl.slots.size.toInt32 = 100) (hu : ∀ i, i < 100 → u.eval args Z none [i] Z = some (.int (g i))) (hv : vs = (List.range' 0 100).map fun i => Value.int (g i))
    (h : (Jvm.Cond.all (Term.static C f d) (Jvm.Cond.eq (Term.elem (Term.static C f d) (Term.index 0)) u)).value args Z none Z [] = some true) : Arv Z Z.heap a cl.cls .byte 100 vs (.int 0) := by
  have hs : cl.slots.size = 100 := by
    have e : (own_of cl.slots.size) = 100 := hl.2
    have e2 := own_ofN hl.1
    rw [e] at e2
    exact e2.symm
  have H := own_elemAll ev A (by omega) (fun i hi => hu i (by omega)) h
  subst hv
  exact Arv.start hf A hl.1 hl.2 (by decide) (by simp) (own_hasL 100 0 fun j _ hj => H j (by omega))
theorem own_uO {Z : State} {args : Array Value} (i : Nat) (hi : i < 100) : (Term.add (Term.int 48) (Term.rem (Term.index 0) (Term.int 10))).eval args Z none [i] Z = some (.int (own_of (48 + i % 10))) := by
  have : ∀ k : Fin 100, (48 : Int32) + k.1.toInt32 % 10 = own_of (48 + k.1 % 10) := by decide +kernel
  have e := this ⟨i, hi⟩
  simp only [Term.eval]
  simp [e]
theorem own_uT {Z : State} {args : Array Value} (i : Nat) (hi : i < 100) : (Term.add (Term.int 48) (Term.div (Term.index 0) (Term.int 10))).eval args Z none [i] Z = some (.int (own_of (48 + i / 10))) := by
  have : ∀ k : Fin 100, (48 : Int32) + k.1.toInt32 / 10 = own_of (48 + k.1 / 10) := by decide +kernel
  have e := this ⟨i, hi⟩
  simp only [Term.eval]
  simp [e]
theorem own_cacheA {Z : State} {args : Array Value} {C f d : String} {a : Addr} (ev : (Term.static C f d).eval args Z none [] Z = some (.ref a)) {cl : Cell} {ty : FieldType} (hf : Fit Z) (A : Arr Z Z.heap a cl ty) (hl : cl.slots.size < 2 ^ 31 ∧ cl.slots.size.toInt32 = 256)
    (h : (Jvm.Cond.all (Term.static C f d) (Jvm.Cond.and (Jvm.Cond.exactly (Term.elem (Term.static C f d) (Term.index 0)) "java/lang/Integer") (Jvm.Cond.eq (Term.field (Term.elem (Term.static C f d) (Term.index 0)) "java/lang/Integer" "value" "I") (Term.sub (Term.index 0) (Term.int 128))))).value args Z none Z [] = some true) :
    ∃ vs : List Value, Arv Z Z.heap a cl.cls ty 256 vs .null ∧ ∀ i : Nat, i < 256 → ∃ w, vs.getD i .null = .ref w ∧ Exa Z Z.heap w "java/lang/Integer" ∧ Fld Z Z.heap w "java/lang/Integer" "value" "I" (.int (own_of i - 128)) := by
  have hs : cl.slots.size = 256 := by
    have e : (own_of cl.slots.size) = 256 := hl.2
    have e2 := own_ofN hl.1
    rw [e] at e2
    exact e2.symm
  have ha : Z.arrayAt? a = some cl := A.fin (Vm.Alike.refl _)
  have key : ∀ i : Nat, i < 256 → ∃ w, cl.slots[i]? = some (.ref w) ∧ Exa Z Z.heap w "java/lang/Integer" ∧ Fld Z Z.heap w "java/lang/Integer" "value" "I" (.int (own_of i - 128)) := by
    intro i hi
    have q := Jvm.Cond.all_elim ev ha h i (by omega)
    have ev' : (Term.static C f d).eval args Z none [i] Z = some (.ref a) := ev
    have el := own_elemAt ev' ha (show i < 2147483648 by omega)
    generalize Term.elem (Term.static C f d) (Term.index 0) = tt at q el
    obtain ⟨q1, q2⟩ := and_e q
    have e3 : (Term.sub (Term.index 0) (Term.int 128)).eval args Z none [i] Z = some (.int (own_of i - 128)) := rfl
    have q3 := own_eqI e3 q2
    cases ht : tt.eval args Z none [i] Z with
    | none => simp [Jvm.Cond.value, ht] at q1
    | some v =>
      cases v <;> try (simp [Term.eval, ht] at q3; done)
      rename_i w
      refine ⟨w, by rw [← el, ht], ?_, ?_⟩
      · cases hc : Z.vm.findClass "java/lang/Integer" with
        | none => simp [Jvm.Cond.value, ht, hc] at q1
        | some cc =>
          cases hh : Z.heap[w]? with
          | none => simp [Jvm.Cond.value, ht, hc, hh] at q1
          | some cell =>
            cases hk : Z.vm.classes[cc]? with
            | none => simp [Jvm.Cond.value, ht, hc, hh, hk] at q1
            | some k =>
              simp [Jvm.Cond.value, ht, hc, hh, hk] at q1
              obtain ⟨⟨r1, r2⟩, r3⟩ := q1
              subst r2
              exact ⟨cell, k, hh, hc, hk, r1, fun e => by simpa [e] using r3⟩
      · simp [Term.eval, ht] at q3
        exact Fld.start q3
  refine ⟨(List.range' 0 256).map fun i => (cl.slots[i]?).getD .null, Arv.start hf A hl.1 hl.2 (by decide) (by simp) (own_hasL 256 0 fun j _ hj => ?_), fun i hi => ?_⟩
  · obtain ⟨w, q, -⟩ := key j (by omega)
    rw [q]; rfl
  · obtain ⟨w, q, r⟩ := key i hi
    refine ⟨w, ?_, r⟩
    rw [List.getD_eq_getElem?_getD]
    simp [hi, q]
theorem own_sub128 (y : Int32) : y + 128 - 128 = y := by rw [Int32.add_sub_cancel]
theorem own_add128 {m : Nat} (h : m < 2147483648) (q : ¬ (127 : Int32) < own_of m) : own_of m + (128 : Int32) = own_of (m + 128) ∧ m + 128 < 256 := by
  rw [Int32.lt_iff_toInt_lt, own_ofI h, show (127 : Int32).toInt = 127 from rfl] at q
  refine ⟨own_eqT ?_, by omega⟩
  rw [Int32.toInt_add, own_ofI h, own_ofI (by omega), show (128 : Int32).toInt = 128 from rfl]
  rw [Int.bmod_eq_of_le (by omega) (by omega)]
  omega
theorem own_in256 {m : Nat} (h : m < 256) : ¬ own_of m < 0 ∧ own_of m < 256 := ⟨own_nofl (by omega) (by rw [show (0 : Int32).toInt = 0 from rfl]; omega), own_oflt (by omega) (by rw [show (256 : Int32).toInt = 256 from rfl]; omega)⟩
theorem own_cases {m : Nat} (h : m < 2147483648) : (0 ≤ m ∧ m < 10) ∨ (10 ≤ m ∧ m < 100) ∨ (100 ≤ m ∧ m < 1000) ∨ (1000 ≤ m ∧ m < 10000) ∨ (10000 ≤ m ∧ m < 100000) ∨ (100000 ≤ m ∧ m < 1000000) ∨ (1000000 ≤ m ∧ m < 10000000) ∨ (10000000 ≤ m ∧ m < 100000000) ∨ (100000000 ≤ m ∧ m < 1000000000) ∨ (1000000000 ≤ m ∧ m < 10000000000) := by omega
def own_cc (y : Int32) : Int32 := nar .char ((y &&& (255 : Int32)).toUInt32.toUInt16.toUInt32.toInt32)

def own_dgt (m : Nat) : Int32 := if m < 10 then 1 else if m < 100 then 2 else if m < 1000 then 3 else if m < 10000 then 4 else if m < 100000 then 5 else if m < 1000000 then 6 else if m < 10000000 then 7 else if m < 100000000 then 8 else if m < 1000000000 then 9 else 10
theorem own_dgt_1 {m : Nat} (lo : 0 ≤ m) (hi : m < 10) : own_dgt m = 1 := by
  unfold own_dgt
  rw [if_pos (by omega)]
theorem own_dgt_2 {m : Nat} (lo : 10 ≤ m) (hi : m < 100) : own_dgt m = 2 := by
  unfold own_dgt
  rw [if_neg (by omega), if_pos (by omega)]
theorem own_dgt_3 {m : Nat} (lo : 100 ≤ m) (hi : m < 1000) : own_dgt m = 3 := by
  unfold own_dgt
  rw [if_neg (by omega), if_neg (by omega), if_pos (by omega)]
theorem own_dgt_4 {m : Nat} (lo : 1000 ≤ m) (hi : m < 10000) : own_dgt m = 4 := by
  unfold own_dgt
  rw [if_neg (by omega), if_neg (by omega), if_neg (by omega), if_pos (by omega)]
theorem own_dgt_5 {m : Nat} (lo : 10000 ≤ m) (hi : m < 100000) : own_dgt m = 5 := by
  unfold own_dgt
  rw [if_neg (by omega), if_neg (by omega), if_neg (by omega), if_neg (by omega), if_pos (by omega)]
theorem own_dgt_6 {m : Nat} (lo : 100000 ≤ m) (hi : m < 1000000) : own_dgt m = 6 := by
  unfold own_dgt
  rw [if_neg (by omega), if_neg (by omega), if_neg (by omega), if_neg (by omega), if_neg (by omega), if_pos (by omega)]
theorem own_dgt_7 {m : Nat} (lo : 1000000 ≤ m) (hi : m < 10000000) : own_dgt m = 7 := by
  unfold own_dgt
  rw [if_neg (by omega), if_neg (by omega), if_neg (by omega), if_neg (by omega), if_neg (by omega), if_neg (by omega), if_pos (by omega)]
theorem own_dgt_8 {m : Nat} (lo : 10000000 ≤ m) (hi : m < 100000000) : own_dgt m = 8 := by
  unfold own_dgt
  rw [if_neg (by omega), if_neg (by omega), if_neg (by omega), if_neg (by omega), if_neg (by omega), if_neg (by omega), if_neg (by omega), if_pos (by omega)]
theorem own_dgt_9 {m : Nat} (lo : 100000000 ≤ m) (hi : m < 1000000000) : own_dgt m = 9 := by
  unfold own_dgt
  rw [if_neg (by omega), if_neg (by omega), if_neg (by omega), if_neg (by omega), if_neg (by omega), if_neg (by omega), if_neg (by omega), if_neg (by omega), if_pos (by omega)]
theorem own_dgt_10 {m : Nat} (lo : 1000000000 ≤ m) (hi : m < 10000000000) : own_dgt m = 10 := by
  unfold own_dgt
  rw [if_neg (by omega), if_neg (by omega), if_neg (by omega), if_neg (by omega), if_neg (by omega), if_neg (by omega), if_neg (by omega), if_neg (by omega), if_neg (by omega)]
def own_dk (m : Nat) (vs : List Value) (kk pw : Int32) : Prop := ¬ kk < own_dgt m ∨ (kk < own_dgt m ∧ ¬ ((own_dgt m - (1 : Int32)) - kk) < 0 ∧ ((own_dgt m - (1 : Int32)) - kk) < own_dgt m ∧ ∃ yb, vs.getD (((own_dgt m - (1 : Int32)) - kk)).toNatClampNeg (.int 0) = .int yb ∧ own_cc yb = ((48 : Int32) + own_of m / pw % (10 : Int32)).toUInt32.toUInt16.toUInt32.toInt32)
def own_good (m : Nat) (vs : List Value) : Prop := own_dk m vs 0 1 ∧ own_dk m vs 1 10 ∧ own_dk m vs 2 100 ∧ own_dk m vs 3 1000 ∧ own_dk m vs 4 10000 ∧ own_dk m vs 5 100000 ∧ own_dk m vs 6 1000000 ∧ own_dk m vs 7 10000000 ∧ own_dk m vs 8 100000000 ∧ own_dk m vs 9 1000000000
theorem d14_0 : decode jdk_42_method_152_code 0 = .ok (.getstatic 38, 3) := by decide +kernel
theorem d14_3 : decode jdk_42_method_152_code 3 = .ok (.ifCond .eq 10, 3) := by decide +kernel
theorem d14_6 : decode jdk_42_method_152_code 6 = .ok (.aload_n 0, 1) := by decide +kernel
theorem d14_7 : decode jdk_42_method_152_code 7 = .ok (.getfield 15, 3) := by decide +kernel
theorem d14_10 : decode jdk_42_method_152_code 10 = .ok (.goto 4, 3) := by decide +kernel
theorem d14_14 : decode jdk_42_method_152_code 14 = .ok (.ireturn, 1) := by decide +kernel
theorem pn_14 : plainName "java/lang/String" = true := by first | (simp [plainName, overriddenIn]; done) | decide +kernel
set_option maxRecDepth 65536 in
set_option maxHeartbeats 40000000 in
theorem rmCoder (l : Launch) (Z : State) (a0 : Array Value) (hw : ∀ d ∈ tables_1, d.before a0 Z = true) (a : Addr) (cs : Int32) (h0 : Heap) (n0 : Nat) (Z0 : n0 ≤ h0.size) (OL : Old Z n0 h0) (SC : Sta Z Z.heap "java/lang/String" "COMPACT_STRINGS" "Z" (.int cs)) (hcs : ¬ cs = 0) (FCo : Fld Z h0 a "java/lang/String" "coder" "B" (.int 0)) :
    Con l (⟨"java/lang/String", "coder", "()B"⟩ : MethodName) jdk_42_method_152_code 1 (some .byte) ({ frames := 0, cells := 0, slots := 0, locals := 0 } : Room) Z #[(.ref a)] h0 (fun _ => True) (fun v h L vm => v = some (.int 0) ∧ Fr n0 L ∧ h = h0) := by
  refine Con.mk (plainFor_of_name pn_14) (fun m => show entryFrame m #[(.ref a)] 1 = mkF m 0 #[.val (.ref a)] [] by first | (simp [entryFrame, mkF, argsToLocals, Value.category]; done) | rfl) ?_
  intro p e s m below meth c s₁ vm0 hx hby hml hown hnm hret hlk hZ X0 e0 hS hs0 hP0
  have N0 := Fr.nil n0
  show Run p e below s _ _ _ (s₁.setTop (mkF m 0 #[.val (.ref a)] []))
  obtain ⟨T101, X101, e101, st101⟩ := getS2 X0 hx hZ hown (host := "") (Or.inl (hw _ (List.mem_of_getElem? (i := 85) rfl))) Via.refl e0 (SC.ext OL.2) (g := (mkF m 0 #[.val (.ref a)] [])) rfl (hb hby d14_0)
  refine Run.pre st101 ?_
  show Run p e below s _ _ _ (T101.setTop (mkF m 3 #[.val (.ref a)] [(.int cs)]))
  refine Run.pre (fun _ k => XS.ifNo X101.here hx rfl (hb hby d14_3) rfl ((if0 _ _).trans (feq (hcs : ¬ (cs = (0 : Int32)))).1) k) ?_
  refine Run.pre (fun _ k => XS.aloadN X101.here hx rfl (hb hby d14_6) rfl rfl k) ?_
  show Run p e below s _ _ _ (T101.setTop (mkF m 7 #[.val (.ref a)] [(.ref a)]))
  obtain ⟨T102, X102, e102, st102⟩ := getF X101 hx hZ hown (host := "") (Or.inl (hw _ (List.mem_of_getElem? (i := 65) rfl))) Via.refl e101 FCo (g := (mkF m 7 #[.val (.ref a)] [(.ref a)])) rfl rfl (hb hby d14_7)
  refine Run.pre st102 ?_
  refine Run.pre (fun _ k => XS.goto X102.here hx rfl (pc0 := 10) (pc' := 14) rfl (hb hby d14_10) (by decide) (by decide) k) ?_
  show Run p e below s _ _ _ (T102.setTop (mkF m 14 #[.val (.ref a)] [(.int (0 : Int32))]))
  exact Run.retN hS (by first | exact Nat.le_refl _ | (rw [e102]; exact (Nat.zero_le _))) X102 hx hret (t := .byte) (by simp) hlk (hb hby d14_14) (by first | (rw [e102]; exact ⟨rfl, N0, rfl⟩) | exact ⟨rfl, N0, rfl⟩) (by decide) (by decide)
theorem own_shr0 (z : Int32) : z >>> ((0 : Int32) &&& 31) = z := by
  rw [show ((0 : Int32) &&& 31) = 0 from rfl]
  simp
theorem d13_0 : decode jdk_42_method_54_code 0 = .ok (.aload_n 0, 1) := by decide +kernel
theorem d13_1 : decode jdk_42_method_54_code 1 = .ok (.getfield 9, 3) := by decide +kernel
theorem d13_4 : decode jdk_42_method_54_code 4 = .ok (.arraylength, 1) := by decide +kernel
theorem d13_5 : decode jdk_42_method_54_code 5 = .ok (.aload_n 0, 1) := by decide +kernel
theorem pd_0 : parseMethodDescriptor "()B" = some ⟨[], some .byte⟩ := by decide +kernel
theorem d13_6 : decode jdk_42_method_54_code 6 = .ok (.invokevirtual 335, 3) := by decide +kernel
theorem d13_9 : decode jdk_42_method_54_code 9 = .ok (.ishr, 1) := by decide +kernel
theorem d13_10 : decode jdk_42_method_54_code 10 = .ok (.ireturn, 1) := by decide +kernel
theorem pn_13 : plainName "java/lang/String" = true := by first | (simp [plainName, overriddenIn]; done) | decide +kernel
set_option maxRecDepth 65536 in
set_option maxHeartbeats 40000000 in
theorem rmLen (l : Launch) (Z : State) (a0 : Array Value) (hw : ∀ d ∈ tables_1, d.before a0 Z = true) (a : Addr) (b : Addr) (k : ClassId) (zz : Int32) (vs : List Value) (cs : Int32) (h0 : Heap) (n0 : Nat) (Z0 : n0 ≤ h0.size) (OL : Old Z n0 h0) (SC : Sta Z Z.heap "java/lang/String" "COMPACT_STRINGS" "Z" (.int cs)) (hcs : ¬ cs = 0) (E_a : Exa Z h0 a "java/lang/String") (FV : Fld Z h0 a "java/lang/String" "value" "[B" (.ref b)) (FCo : Fld Z h0 a "java/lang/String" "coder" "B" (.int 0)) (AB : Arv Z h0 b k .byte zz vs (.int 0)) :
    Con l (⟨"java/lang/String", "length", "()I"⟩ : MethodName) jdk_42_method_54_code 1 (some .int) ({ frames := 1, cells := 0, slots := 0, locals := 13 } : Room) Z #[(.ref a)] h0 (fun _ => True) (fun v h L vm => v = some (.int zz) ∧ Fr n0 L ∧ h = h0) := by
  refine Con.mk (plainFor_of_name pn_13) (fun m => show entryFrame m #[(.ref a)] 1 = mkF m 0 #[.val (.ref a)] [] by first | (simp [entryFrame, mkF, argsToLocals, Value.category]; done) | rfl) ?_
  intro p e s m below meth c s₁ vm0 hx hby hml hown hnm hret hlk hZ X0 e0 hS hs0 hP0
  have N0 := Fr.nil n0
  refine Run.pre (fun _ k => XS.aloadN X0.here hx rfl (hb hby d13_0) rfl rfl k) ?_
  show Run p e below s _ _ _ (s₁.setTop (mkF m 1 #[.val (.ref a)] [(.ref a)]))
  obtain ⟨T103, X103, e103, st103⟩ := getF X0 hx hZ hown (host := "") (Or.inl (hw _ (List.mem_of_getElem? (i := 17) rfl))) Via.refl e0 FV (g := (mkF m 1 #[.val (.ref a)] [(.ref a)])) rfl rfl (hb hby d13_1)
  refine Run.pre st103 ?_
  show Run p e below s _ _ _ (T103.setTop (mkF m 4 #[.val (.ref a)] [(.ref b)]))
  obtain ⟨c104, Ar104, -, S104, N104, -, -⟩ := id AB
  refine Run.pre (X103.arraylength hx (by rw [e103]; exact Ar104.1) (State.isArrayOf_alike hZ.alike Ar104.2.1) (g := (mkF m 4 #[.val (.ref a)] [(.ref b)])) rfl rfl (hb hby d13_4)) ?_
  rw [len_of S104 N104]
  refine Run.pre (fun _ k => XS.aloadN X103.here hx rfl (hb hby d13_5) rfl rfl k) ?_
  show Run p e below s _ _ _ (T103.setTop (mkF m 6 #[.val (.ref a)] [(.ref a), (.int zz)]))
  refine Run.callV hS (by first | exact Nat.le_refl _ | (rw [e103]; exact (Nat.zero_le _))) X103 hx hZ (y := (⟨"java/lang/String", "coder", "()B"⟩ : MethodName)) (z := (⟨"java/lang/String", "coder", "()B"⟩ : MethodName)) hown (hw _ (List.mem_of_getElem? (i := 80) rfl)) (hw _ (List.mem_of_getElem? (i := 81) rfl)) (notFace_of_selects (args := #[]) (mvT hZ (hw _ (List.mem_of_getElem? (i := 83) rfl)))) (hw _ (List.mem_of_getElem? (i := 83) rfl)) (hw _ (List.mem_of_getElem? (i := 82) rfl)) (hw _ (List.mem_of_getElem? (i := 84) rfl)) (hw _ (List.mem_of_getElem? (i := 5) rfl)) (by decide) (b := a) E_a (W := 1) (rmCoder l Z a0 hw a cs h0 n0 (Nat.le_trans Z0 (Keep.refl h0 []).1) OL SC hcs FCo) e103 (by decide) (by decide) (by decide) (by decide) (fun _ _ => trivial) (g := (mkF m 6 #[.val (.ref a)] [(.ref a), (.int zz)])) rfl (by rw [hml]; rfl) (argsL := []) (rest := [(.int zz)]) (lenOf pd_0 rfl) rfl (by show 2 * 0 + _ ≤ _; exact Nat.le_of_eq rfl) (hb hby d13_6) ?_
  intro v105 T105 L105 X105 hS hZ hown hV105 hQ105
  obtain ⟨rfl, Nq105, he105⟩ := hQ105
  have N105 := Fr.app N0 Nq105
  have e105 : T105.heap = h0 := he105
  show Run p e below s _ _ _ (T105.setTop (mkF m 9 #[.val (.ref a)] [(.int (0 : Int32)), (.int zz)]))
  refine Run.pre (fun _ k => XS.ishr X105.here hx rfl (hb hby d13_9) rfl k) ?_
  show Run p e below s _ _ _ (T105.setTop (mkF m 10 #[.val (.ref a)] [(.int (zz >>> ((0 : Int32) &&& 31)))]))
  exact Run.retI hS (by first | exact Nat.le_refl _ | (rw [e105]; exact (Nat.le_of_eq (congrArg Array.size e105)))) X105 hx hret hlk (hb hby d13_10) (by first | (rw [e105]; exact ⟨congrArg (fun z => some (Value.int z)) (own_shr0 zz), N105, rfl⟩) | exact ⟨congrArg (fun z => some (Value.int z)) (own_shr0 zz), N105, rfl⟩) (by decide) (by decide)
theorem d17_0 : decode jdk_42_method_154_code 0 = .ok (.getstatic 38, 3) := by decide +kernel
theorem d17_3 : decode jdk_42_method_154_code 3 = .ok (.ifCond .eq 14, 3) := by decide +kernel
theorem d17_6 : decode jdk_42_method_154_code 6 = .ok (.aload_n 0, 1) := by decide +kernel
theorem d17_7 : decode jdk_42_method_154_code 7 = .ok (.getfield 15, 3) := by decide +kernel
theorem d17_10 : decode jdk_42_method_154_code 10 = .ok (.ifCond .ne 7, 3) := by decide +kernel
theorem d17_13 : decode jdk_42_method_154_code 13 = .ok (.iconst 1, 1) := by decide +kernel
theorem d17_14 : decode jdk_42_method_154_code 14 = .ok (.goto 4, 3) := by decide +kernel
theorem d17_18 : decode jdk_42_method_154_code 18 = .ok (.ireturn, 1) := by decide +kernel
theorem pn_17 : plainName "java/lang/String" = true := by first | (simp [plainName, overriddenIn]; done) | decide +kernel
set_option maxRecDepth 65536 in
set_option maxHeartbeats 40000000 in
theorem rmIL (l : Launch) (Z : State) (a0 : Array Value) (hw : ∀ d ∈ tables_1, d.before a0 Z = true) (a : Addr) (cs : Int32) (h0 : Heap) (n0 : Nat) (Z0 : n0 ≤ h0.size) (OL : Old Z n0 h0) (SC : Sta Z Z.heap "java/lang/String" "COMPACT_STRINGS" "Z" (.int cs)) (hcs : ¬ cs = 0) (FCo : Fld Z h0 a "java/lang/String" "coder" "B" (.int 0)) :
    Con l (⟨"java/lang/String", "isLatin1", "()Z"⟩ : MethodName) jdk_42_method_154_code 1 (some .boolean) ({ frames := 0, cells := 0, slots := 0, locals := 0 } : Room) Z #[(.ref a)] h0 (fun _ => True) (fun v h L vm => v = some (.int 1) ∧ Fr n0 L ∧ h = h0) := by
  refine Con.mk (plainFor_of_name pn_17) (fun m => show entryFrame m #[(.ref a)] 1 = mkF m 0 #[.val (.ref a)] [] by first | (simp [entryFrame, mkF, argsToLocals, Value.category]; done) | rfl) ?_
  intro p e s m below meth c s₁ vm0 hx hby hml hown hnm hret hlk hZ X0 e0 hS hs0 hP0
  have N0 := Fr.nil n0
  show Run p e below s _ _ _ (s₁.setTop (mkF m 0 #[.val (.ref a)] []))
  obtain ⟨T106, X106, e106, st106⟩ := getS2 X0 hx hZ hown (host := "") (Or.inl (hw _ (List.mem_of_getElem? (i := 85) rfl))) Via.refl e0 (SC.ext OL.2) (g := (mkF m 0 #[.val (.ref a)] [])) rfl (hb hby d17_0)
  refine Run.pre st106 ?_
  show Run p e below s _ _ _ (T106.setTop (mkF m 3 #[.val (.ref a)] [(.int cs)]))
  refine Run.pre (fun _ k => XS.ifNo X106.here hx rfl (hb hby d17_3) rfl ((if0 _ _).trans (feq (hcs : ¬ (cs = (0 : Int32)))).1) k) ?_
  refine Run.pre (fun _ k => XS.aloadN X106.here hx rfl (hb hby d17_6) rfl rfl k) ?_
  show Run p e below s _ _ _ (T106.setTop (mkF m 7 #[.val (.ref a)] [(.ref a)]))
  obtain ⟨T107, X107, e107, st107⟩ := getF X106 hx hZ hown (host := "") (Or.inl (hw _ (List.mem_of_getElem? (i := 65) rfl))) Via.refl e106 FCo (g := (mkF m 7 #[.val (.ref a)] [(.ref a)])) rfl rfl (hb hby d17_7)
  refine Run.pre st107 ?_
  show Run p e below s _ _ _ (T107.setTop (mkF m 10 #[.val (.ref a)] [(.int (0 : Int32))]))
  refine Run.pre (fun _ k => XS.ifNo X107.here hx rfl (hb hby d17_10) rfl ((if0 _ _).trans (teq ((by decide) : (0 : Int32) = (0 : Int32))).2) k) ?_
  refine Run.pre (fun _ k => XS.iconst X107.here hx rfl (hb hby d17_13) k) ?_
  refine Run.pre (fun _ k => XS.goto X107.here hx rfl (pc0 := 14) (pc' := 18) rfl (hb hby d17_14) (by decide) (by decide) k) ?_
  show Run p e below s _ _ _ (T107.setTop (mkF m 18 #[.val (.ref a)] [(.int (1 : Int32))]))
  exact Run.retN hS (by first | exact Nat.le_refl _ | (rw [e107]; exact (Nat.zero_le _))) X107 hx hret (t := .boolean) (by simp) hlk (hb hby d17_18) (by first | (rw [e107]; exact ⟨rfl, N0, rfl⟩) | exact ⟨rfl, N0, rfl⟩) (by decide) (by decide)
theorem d20_0 : decode jdk_41_method_11_code 0 = .ok (.iload_n 0, 1) := by decide +kernel
theorem d20_1 : decode jdk_41_method_11_code 1 = .ok (.ifCond .lt 8, 3) := by decide +kernel
theorem d20_4 : decode jdk_41_method_11_code 4 = .ok (.iload_n 0, 1) := by decide +kernel
theorem d20_5 : decode jdk_41_method_11_code 5 = .ok (.iload_n 1, 1) := by decide +kernel
theorem d20_6 : decode jdk_41_method_11_code 6 = .ok (.if_icmp .lt 10, 3) := by decide +kernel
theorem d20_16 : decode jdk_41_method_11_code 16 = .ok (.iload_n 0, 1) := by decide +kernel
theorem d20_17 : decode jdk_41_method_11_code 17 = .ok (.ireturn, 1) := by decide +kernel
theorem pn_20 : plainName "jdk/internal/util/Preconditions" = true := by first | (simp [plainName, overriddenIn]; done) | decide +kernel
set_option maxRecDepth 65536 in
set_option maxHeartbeats 40000000 in
theorem rmPX (l : Launch) (Z : State) (a0 : Array Value) (hw : ∀ d ∈ tables_1, d.before a0 Z = true) (ix : Int32) (zz : Int32) (fw : Value) (h0 : Heap) (n0 : Nat) (Z0 : n0 ≤ h0.size) (hfw : fw.isRef = true) (k1 : ¬ ix < 0) (k2 : ix < zz) :
    Con l (⟨"jdk/internal/util/Preconditions", "checkIndex", "(IILjava/util/function/BiFunction;)I"⟩ : MethodName) jdk_41_method_11_code 3 (some .int) ({ frames := 0, cells := 0, slots := 0, locals := 0 } : Room) Z #[(.int ix), (.int zz), fw] h0 (fun _ => True) (fun v h L vm => v = some (.int ix) ∧ Fr n0 L ∧ h = h0) := by
  refine Con.mk (plainFor_of_name pn_20) (fun m => show entryFrame m #[(.int ix), (.int zz), fw] 3 = mkF m 0 #[.val (.int ix), .val (.int zz), .val fw] [] by rcases ref_cases hfw with hq | ⟨_, hq⟩ <;> subst hq <;> first | (simp [entryFrame, mkF, argsToLocals, Value.category]; done) | rfl) ?_
  intro p e s m below meth c s₁ vm0 hx hby hml hown hnm hret hlk hZ X0 e0 hS hs0 hP0
  have N0 := Fr.nil n0
  refine Run.pre (fun _ k => XS.iloadN X0.here hx rfl (hb hby d20_0) rfl  k) ?_
  show Run p e below s _ _ _ (s₁.setTop (mkF m 1 #[.val (.int ix), .val (.int zz), .val fw] [(.int ix)]))
  refine Run.pre (fun _ k => XS.ifNo X0.here hx rfl (hb hby d20_1) rfl ((if0 _ _).trans (flt (k1 : ¬ (ix < (0 : Int32)))).1) k) ?_
  refine Run.pre (fun _ k => XS.iloadN X0.here hx rfl (hb hby d20_4) rfl  k) ?_
  refine Run.pre (fun _ k => XS.iloadN X0.here hx rfl (hb hby d20_5) rfl  k) ?_
  show Run p e below s _ _ _ (s₁.setTop (mkF m 6 #[.val (.int ix), .val (.int zz), .val fw] [(.int zz), (.int ix)]))
  refine Run.pre (fun _ k => XS.icmpYes X0.here hx rfl (pc0 := 6) (pc' := 16) rfl (hb hby d20_6) rfl (tlt (k2 : ix < zz)).1 (by decide) (by decide) k) ?_
  refine Run.pre (fun _ k => XS.iloadN X0.here hx rfl (hb hby d20_16) rfl  k) ?_
  show Run p e below s _ _ _ (s₁.setTop (mkF m 17 #[.val (.int ix), .val (.int zz), .val fw] [(.int ix)]))
  exact Run.retI hS (by first | exact Nat.le_refl _ | (rw [e0]; exact (Nat.zero_le _))) X0 hx hret hlk (hb hby d20_17) (by first | (rw [e0]; exact ⟨rfl, N0, rfl⟩) | exact ⟨rfl, N0, rfl⟩) (by decide) (by decide)
theorem d19_0 : decode jdk_42_method_155_code 0 = .ok (.iload_n 0, 1) := by decide +kernel
theorem d19_1 : decode jdk_42_method_155_code 1 = .ok (.iload_n 1, 1) := by decide +kernel
theorem d19_2 : decode jdk_42_method_155_code 2 = .ok (.getstatic 1053, 3) := by decide +kernel
theorem pd_1 : parseMethodDescriptor "(IILjava/util/function/BiFunction;)I" = some ⟨[.int, .int, (.object "java/util/function/BiFunction")], some .int⟩ := by decide +kernel
theorem d19_5 : decode jdk_42_method_155_code 5 = .ok (.invokestatic 1059, 3) := by decide +kernel
theorem d19_8 : decode jdk_42_method_155_code 8 = .ok (.pop, 1) := by decide +kernel
theorem d19_9 : decode jdk_42_method_155_code 9 = .ok (.return_, 1) := by decide +kernel
theorem pn_19 : plainName "java/lang/String" = true := by first | (simp [plainName, overriddenIn]; done) | decide +kernel
set_option maxRecDepth 65536 in
set_option maxHeartbeats 40000000 in
theorem rmCX (l : Launch) (Z : State) (a0 : Array Value) (hw : ∀ d ∈ tables_1, d.before a0 Z = true) (ix : Int32) (zz : Int32) (fw : Value) (h0 : Heap) (n0 : Nat) (Z0 : n0 ≤ h0.size) (OL : Old Z n0 h0) (SF : Sta Z Z.heap "jdk/internal/util/Preconditions" "SIOOBE_FORMATTER" "Ljava/util/function/BiFunction;" fw) (hfw : fw.isRef = true) (k1 : ¬ ix < 0) (k2 : ix < zz) :
    Con l (⟨"java/lang/String", "checkIndex", "(II)V"⟩ : MethodName) jdk_42_method_155_code 2 none ({ frames := 1, cells := 0, slots := 0, locals := 14 } : Room) Z #[(.int ix), (.int zz)] h0 (fun _ => True) (fun v h L vm => v = none ∧ Fr n0 L ∧ h = h0) := by
  refine Con.mk (plainFor_of_name pn_19) (fun m => show entryFrame m #[(.int ix), (.int zz)] 2 = mkF m 0 #[.val (.int ix), .val (.int zz)] [] by first | (simp [entryFrame, mkF, argsToLocals, Value.category]; done) | rfl) ?_
  intro p e s m below meth c s₁ vm0 hx hby hml hown hnm hret hlk hZ X0 e0 hS hs0 hP0
  have N0 := Fr.nil n0
  refine Run.pre (fun _ k => XS.iloadN X0.here hx rfl (hb hby d19_0) rfl  k) ?_
  refine Run.pre (fun _ k => XS.iloadN X0.here hx rfl (hb hby d19_1) rfl  k) ?_
  show Run p e below s _ _ _ (s₁.setTop (mkF m 2 #[.val (.int ix), .val (.int zz)] [(.int zz), (.int ix)]))
  obtain ⟨T108, X108, e108, st108⟩ := getS2 X0 hx hZ hown (host := "") (Or.inl (hw _ (List.mem_of_getElem? (i := 106) rfl))) Via.refl e0 (SF.ext OL.2) (g := (mkF m 2 #[.val (.int ix), .val (.int zz)] [(.int zz), (.int ix)])) rfl (hb hby d19_2)
  refine Run.pre st108 ?_
  show Run p e below s _ _ _ (T108.setTop (mkF m 5 #[.val (.int ix), .val (.int zz)] [fw, (.int zz), (.int ix)]))
  refine Run.callS hS (by first | exact Nat.le_refl _ | (rw [e108]; exact (Nat.zero_le _))) X108 hx hZ (y := (⟨"jdk/internal/util/Preconditions", "checkIndex", "(IILjava/util/function/BiFunction;)I"⟩ : MethodName)) hown (hw _ (List.mem_of_getElem? (i := 108) rfl)) (hw _ (List.mem_of_getElem? (i := 109) rfl)) (hw _ (List.mem_of_getElem? (i := 107) rfl)) (hw _ (List.mem_of_getElem? (i := 110) rfl)) (by decide) (W := 0) (rmPX l Z a0 hw ix zz fw h0 n0 (Nat.le_trans Z0 (Keep.refl h0 []).1) hfw k1 k2) e108 (by decide) (by decide) (by decide) (by decide) (fun _ _ => trivial) (g := (mkF m 5 #[.val (.int ix), .val (.int zz)] [fw, (.int zz), (.int ix)])) rfl (by rw [hml]; rfl) (argsL := [(.int ix), (.int zz), fw]) (rest := []) (lenOf pd_1 rfl) rfl (by show 2 * 0 + _ ≤ _; exact Nat.le_of_eq rfl) (hb hby d19_5) ?_
  intro v109 T109 L109 X109 hS hZ hown hV109 hQ109
  obtain ⟨rfl, Nq109, he109⟩ := hQ109
  have N109 := Fr.app N0 Nq109
  have e109 : T109.heap = h0 := he109
  show Run p e below s _ _ _ (T109.setTop (mkF m 8 #[.val (.int ix), .val (.int zz)] [(.int ix)]))
  refine Run.pre (fun _ k => XS.pop X109.here hx rfl (hb hby d19_8) rfl rfl k) ?_
  show Run p e below s _ _ _ (T109.setTop (mkF m 9 #[.val (.int ix), .val (.int zz)] []))
  exact Run.retV hS (by first | exact Nat.le_refl _ | (rw [e109]; exact (Nat.le_of_eq (congrArg Array.size e109)))) X109 hx hret hlk (hb hby d19_9) (by first | (rw [e109]; exact ⟨rfl, N109, rfl⟩) | exact ⟨rfl, N109, rfl⟩) (by decide) (by decide)
theorem d18_0 : decode jdk_43_method_2_code 0 = .ok (.iload_n 1, 1) := by decide +kernel
theorem d18_1 : decode jdk_43_method_2_code 1 = .ok (.aload_n 0, 1) := by decide +kernel
theorem d18_2 : decode jdk_43_method_2_code 2 = .ok (.arraylength, 1) := by decide +kernel
theorem pd_2 : parseMethodDescriptor "(II)V" = some ⟨[.int, .int], none⟩ := by decide +kernel
theorem d18_3 : decode jdk_43_method_2_code 3 = .ok (.invokestatic 9, 3) := by decide +kernel
theorem d18_6 : decode jdk_43_method_2_code 6 = .ok (.aload_n 0, 1) := by decide +kernel
theorem d18_7 : decode jdk_43_method_2_code 7 = .ok (.iload_n 1, 1) := by decide +kernel
theorem d18_8 : decode jdk_43_method_2_code 8 = .ok (.baload, 1) := by decide +kernel
theorem d18_9 : decode jdk_43_method_2_code 9 = .ok (.sipush 255, 3) := by decide +kernel
theorem d18_12 : decode jdk_43_method_2_code 12 = .ok (.iand, 1) := by decide +kernel
theorem d18_13 : decode jdk_43_method_2_code 13 = .ok (.i2c, 1) := by decide +kernel
theorem d18_14 : decode jdk_43_method_2_code 14 = .ok (.ireturn, 1) := by decide +kernel
theorem pn_18 : plainName "java/lang/StringLatin1" = true := by first | (simp [plainName, overriddenIn]; done) | decide +kernel
set_option maxRecDepth 65536 in
set_option maxHeartbeats 40000000 in
theorem rmLC (l : Launch) (Z : State) (a0 : Array Value) (hw : ∀ d ∈ tables_1, d.before a0 Z = true) (b : Addr) (k : ClassId) (zz : Int32) (vs : List Value) (ix : Int32) (yb : Int32) (fw : Value) (h0 : Heap) (n0 : Nat) (Z0 : n0 ≤ h0.size) (OL : Old Z n0 h0) (SF : Sta Z Z.heap "jdk/internal/util/Preconditions" "SIOOBE_FORMATTER" "Ljava/util/function/BiFunction;" fw) (hfw : fw.isRef = true) (AB : Arv Z h0 b k .byte zz vs (.int 0)) (k1 : ¬ ix < 0) (k2 : ix < zz) (hy : vs.getD ix.toNatClampNeg (.int 0) = .int yb) :
    Con l (⟨"java/lang/StringLatin1", "charAt", "([BI)C"⟩ : MethodName) jdk_43_method_2_code 2 (some .char) ({ frames := 2, cells := 0, slots := 0, locals := 27 } : Room) Z #[(.ref b), (.int ix)] h0 (fun _ => True) (fun v h L vm => v = some (.int (own_cc yb)) ∧ Fr n0 L ∧ h = h0) := by
  refine Con.mk (plainFor_of_name pn_18) (fun m => show entryFrame m #[(.ref b), (.int ix)] 2 = mkF m 0 #[.val (.ref b), .val (.int ix)] [] by first | (simp [entryFrame, mkF, argsToLocals, Value.category]; done) | rfl) ?_
  intro p e s m below meth c s₁ vm0 hx hby hml hown hnm hret hlk hZ X0 e0 hS hs0 hP0
  have N0 := Fr.nil n0
  refine Run.pre (fun _ k => XS.iloadN X0.here hx rfl (hb hby d18_0) rfl  k) ?_
  refine Run.pre (fun _ k => XS.aloadN X0.here hx rfl (hb hby d18_1) rfl rfl k) ?_
  show Run p e below s _ _ _ (s₁.setTop (mkF m 2 #[.val (.ref b), .val (.int ix)] [(.ref b), (.int ix)]))
  obtain ⟨c110, Ar110, -, S110, N110, -, -⟩ := id AB
  refine Run.pre (X0.arraylength hx (by rw [e0]; exact Ar110.1) (State.isArrayOf_alike hZ.alike Ar110.2.1) (g := (mkF m 2 #[.val (.ref b), .val (.int ix)] [(.ref b), (.int ix)])) rfl rfl (hb hby d18_2)) ?_
  rw [len_of S110 N110]
  show Run p e below s _ _ _ (s₁.setTop (mkF m 3 #[.val (.ref b), .val (.int ix)] [(.int zz), (.int ix)]))
  refine Run.callS hS (by first | exact Nat.le_refl _ | (rw [e0]; exact (Nat.zero_le _))) X0 hx hZ (y := (⟨"java/lang/String", "checkIndex", "(II)V"⟩ : MethodName)) hown (hw _ (List.mem_of_getElem? (i := 103) rfl)) (hw _ (List.mem_of_getElem? (i := 104) rfl)) (hw _ (List.mem_of_getElem? (i := 5) rfl)) (hw _ (List.mem_of_getElem? (i := 105) rfl)) (by decide) (W := 0) (rmCX l Z a0 hw ix zz fw h0 n0 (Nat.le_trans Z0 (Keep.refl h0 []).1) OL SF hfw k1 k2) e0 (by decide) (by decide) (by decide) (by decide) (fun _ _ => trivial) (g := (mkF m 3 #[.val (.ref b), .val (.int ix)] [(.int zz), (.int ix)])) rfl (by rw [hml]; rfl) (argsL := [(.int ix), (.int zz)]) (rest := []) (lenOf pd_2 rfl) rfl (by show 2 * 0 + _ ≤ _; exact Nat.le_of_eq rfl) (hb hby d18_3) ?_
  intro v111 T111 L111 X111 hS hZ hown hV111 hQ111
  obtain ⟨rfl, Nq111, he111⟩ := hQ111
  have N111 := Fr.app N0 Nq111
  have e111 : T111.heap = h0 := he111
  refine Run.pre (fun _ k => XS.aloadN X111.here hx rfl (hb hby d18_6) rfl rfl k) ?_
  refine Run.pre (fun _ k => XS.iloadN X111.here hx rfl (hb hby d18_7) rfl  k) ?_
  show Run p e below s _ _ _ (T111.setTop (mkF m 8 #[.val (.ref b), .val (.int ix)] [(.int ix), (.ref b)]))
  obtain ⟨c112, Ar112, -, S112, N112, H112, -⟩ := id AB
  have hin112 : ¬ (ix < 0 ∨ c112.slots.size ≤ (ix).toNatClampNeg) := inb_of S112 ⟨k1, k2⟩
  refine Run.pre (X111.baloadBytes hx (j := ix) (v := (.int yb)) (by rw [e111]; exact Ar112.1) (State.isArrayOf_alike hZ.alike Ar112.2.1) Ar112.2.2 hin112 (H112.at hin112 hy) (g := (mkF m 8 #[.val (.ref b), .val (.int ix)] [(.int ix), (.ref b)])) rfl rfl (hb hby d18_8)) ?_
  refine Run.pre (fun _ k => XS.sipush X111.here hx rfl (hb hby d18_9) k) ?_
  show Run p e below s _ _ _ (T111.setTop (mkF m 12 #[.val (.ref b), .val (.int ix)] [(.int (255 : Int32)), (.int yb)]))
  refine Run.pre (fun _ k => XS.iand X111.here hx rfl (hb hby d18_12) rfl k) ?_
  show Run p e below s _ _ _ (T111.setTop (mkF m 13 #[.val (.ref b), .val (.int ix)] [(.int (yb &&& (255 : Int32)))]))
  refine Run.pre (fun _ k => XS.i2c X111.here hx rfl (hb hby d18_13) rfl k) ?_
  show Run p e below s _ _ _ (T111.setTop (mkF m 14 #[.val (.ref b), .val (.int ix)] [(.int ((yb &&& (255 : Int32)).toUInt32.toUInt16.toUInt32.toInt32))]))
  exact Run.retN hS (by first | exact Nat.le_refl _ | (rw [e111]; exact (Nat.le_of_eq (congrArg Array.size e111)))) X111 hx hret (t := .char) (by simp) hlk (hb hby d18_14) (by first | (rw [e111]; exact ⟨rfl, N111, rfl⟩) | exact ⟨rfl, N111, rfl⟩) (by decide) (by decide)
theorem d16_0 : decode jdk_42_method_56_code 0 = .ok (.aload_n 0, 1) := by decide +kernel
theorem pd_3 : parseMethodDescriptor "()Z" = some ⟨[], some .boolean⟩ := by decide +kernel
theorem d16_1 : decode jdk_42_method_56_code 1 = .ok (.invokevirtual 492, 3) := by decide +kernel
theorem d16_4 : decode jdk_42_method_56_code 4 = .ok (.ifCond .eq 12, 3) := by decide +kernel
theorem d16_7 : decode jdk_42_method_56_code 7 = .ok (.aload_n 0, 1) := by decide +kernel
theorem d16_8 : decode jdk_42_method_56_code 8 = .ok (.getfield 9, 3) := by decide +kernel
theorem d16_11 : decode jdk_42_method_56_code 11 = .ok (.iload_n 1, 1) := by decide +kernel
theorem pd_4 : parseMethodDescriptor "([BI)C" = some ⟨[(.array .byte), .int], some .char⟩ := by decide +kernel
theorem d16_12 : decode jdk_42_method_56_code 12 = .ok (.invokestatic 495, 3) := by decide +kernel
theorem d16_15 : decode jdk_42_method_56_code 15 = .ok (.ireturn, 1) := by decide +kernel
theorem pn_16 : plainName "java/lang/String" = true := by first | (simp [plainName, overriddenIn]; done) | decide +kernel
set_option maxRecDepth 65536 in
set_option maxHeartbeats 40000000 in
theorem rmCA (l : Launch) (Z : State) (a0 : Array Value) (hw : ∀ d ∈ tables_1, d.before a0 Z = true) (a : Addr) (b : Addr) (k : ClassId) (zz : Int32) (vs : List Value) (ix : Int32) (yb : Int32) (cs : Int32) (fw : Value) (h0 : Heap) (n0 : Nat) (Z0 : n0 ≤ h0.size) (OL : Old Z n0 h0) (SC : Sta Z Z.heap "java/lang/String" "COMPACT_STRINGS" "Z" (.int cs)) (hcs : ¬ cs = 0) (SF : Sta Z Z.heap "jdk/internal/util/Preconditions" "SIOOBE_FORMATTER" "Ljava/util/function/BiFunction;" fw) (hfw : fw.isRef = true) (E_a : Exa Z h0 a "java/lang/String") (FV : Fld Z h0 a "java/lang/String" "value" "[B" (.ref b)) (FCo : Fld Z h0 a "java/lang/String" "coder" "B" (.int 0)) (AB : Arv Z h0 b k .byte zz vs (.int 0)) (k1 : ¬ ix < 0) (k2 : ix < zz) (hy : vs.getD ix.toNatClampNeg (.int 0) = .int yb) :
    Con l (⟨"java/lang/String", "charAt", "(I)C"⟩ : MethodName) jdk_42_method_56_code 2 (some .char) ({ frames := 3, cells := 0, slots := 0, locals := 40 } : Room) Z #[(.ref a), (.int ix)] h0 (fun _ => True) (fun v h L vm => v = some (.int (own_cc yb)) ∧ Fr n0 L ∧ h = h0) := by
  refine Con.mk (plainFor_of_name pn_16) (fun m => show entryFrame m #[(.ref a), (.int ix)] 2 = mkF m 0 #[.val (.ref a), .val (.int ix)] [] by first | (simp [entryFrame, mkF, argsToLocals, Value.category]; done) | rfl) ?_
  intro p e s m below meth c s₁ vm0 hx hby hml hown hnm hret hlk hZ X0 e0 hS hs0 hP0
  have N0 := Fr.nil n0
  refine Run.pre (fun _ k => XS.aloadN X0.here hx rfl (hb hby d16_0) rfl rfl k) ?_
  show Run p e below s _ _ _ (s₁.setTop (mkF m 1 #[.val (.ref a), .val (.int ix)] [(.ref a)]))
  refine Run.callV hS (by first | exact Nat.le_refl _ | (rw [e0]; exact (Nat.zero_le _))) X0 hx hZ (y := (⟨"java/lang/String", "isLatin1", "()Z"⟩ : MethodName)) (z := (⟨"java/lang/String", "isLatin1", "()Z"⟩ : MethodName)) hown (hw _ (List.mem_of_getElem? (i := 94) rfl)) (hw _ (List.mem_of_getElem? (i := 95) rfl)) (notFace_of_selects (args := #[]) (mvT hZ (hw _ (List.mem_of_getElem? (i := 97) rfl)))) (hw _ (List.mem_of_getElem? (i := 97) rfl)) (hw _ (List.mem_of_getElem? (i := 96) rfl)) (hw _ (List.mem_of_getElem? (i := 98) rfl)) (hw _ (List.mem_of_getElem? (i := 5) rfl)) (by decide) (b := a) E_a (W := 0) (rmIL l Z a0 hw a cs h0 n0 (Nat.le_trans Z0 (Keep.refl h0 []).1) OL SC hcs FCo) e0 (by decide) (by decide) (by decide) (by decide) (fun _ _ => trivial) (g := (mkF m 1 #[.val (.ref a), .val (.int ix)] [(.ref a)])) rfl (by rw [hml]; rfl) (argsL := []) (rest := []) (lenOf pd_3 rfl) rfl (by show 2 * 0 + _ ≤ _; exact Nat.le_of_eq rfl) (hb hby d16_1) ?_
  intro v113 T113 L113 X113 hS hZ hown hV113 hQ113
  obtain ⟨rfl, Nq113, he113⟩ := hQ113
  have N113 := Fr.app N0 Nq113
  have e113 : T113.heap = h0 := he113
  show Run p e below s _ _ _ (T113.setTop (mkF m 4 #[.val (.ref a), .val (.int ix)] [(.int (1 : Int32))]))
  refine Run.pre (fun _ k => XS.ifNo X113.here hx rfl (hb hby d16_4) rfl ((if0 _ _).trans (feq ((by decide) : ¬ ((1 : Int32) = (0 : Int32)))).1) k) ?_
  refine Run.pre (fun _ k => XS.aloadN X113.here hx rfl (hb hby d16_7) rfl rfl k) ?_
  show Run p e below s _ _ _ (T113.setTop (mkF m 8 #[.val (.ref a), .val (.int ix)] [(.ref a)]))
  obtain ⟨T114, X114, e114, st114⟩ := getF X113 hx hZ hown (host := "") (Or.inl (hw _ (List.mem_of_getElem? (i := 17) rfl))) Via.refl e113 FV (g := (mkF m 8 #[.val (.ref a), .val (.int ix)] [(.ref a)])) rfl rfl (hb hby d16_8)
  refine Run.pre st114 ?_
  refine Run.pre (fun _ k => XS.iloadN X114.here hx rfl (hb hby d16_11) rfl  k) ?_
  show Run p e below s _ _ _ (T114.setTop (mkF m 12 #[.val (.ref a), .val (.int ix)] [(.int ix), (.ref b)]))
  refine Run.callS hS (by first | exact Nat.le_refl _ | (rw [e114]; exact (Nat.le_of_eq (congrArg Array.size e113)))) X114 hx hZ (y := (⟨"java/lang/StringLatin1", "charAt", "([BI)C"⟩ : MethodName)) hown (hw _ (List.mem_of_getElem? (i := 99) rfl)) (hw _ (List.mem_of_getElem? (i := 100) rfl)) (hw _ (List.mem_of_getElem? (i := 101) rfl)) (hw _ (List.mem_of_getElem? (i := 102) rfl)) (by decide) (W := 0) (rmLC l Z a0 hw b k zz vs ix yb fw h0 n0 (Nat.le_trans Z0 (Keep.refl h0 []).1) OL SF hfw AB k1 k2 hy) e114 (by decide) (by decide) (by decide) (by decide) (fun _ _ => trivial) (g := (mkF m 12 #[.val (.ref a), .val (.int ix)] [(.int ix), (.ref b)])) rfl (by rw [hml]; rfl) (argsL := [(.ref b), (.int ix)]) (rest := []) (lenOf pd_4 rfl) rfl (by show 2 * 0 + _ ≤ _; exact Nat.le_of_eq rfl) (hb hby d16_12) ?_
  intro v115 T115 L115 X115 hS hZ hown hV115 hQ115
  obtain ⟨rfl, Nq115, he115⟩ := hQ115
  have N115 := Fr.app N113 Nq115
  have e115 : T115.heap = h0 := he115
  show Run p e below s _ _ _ (T115.setTop (mkF m 15 #[.val (.ref a), .val (.int ix)] [(.int (own_cc yb))]))
  exact Run.retN hS (by first | exact Nat.le_refl _ | (rw [e115]; exact (Nat.le_of_eq (congrArg Array.size e115)))) X115 hx hret (t := .char) (by simp) hlk (hb hby d16_15) (by first | (rw [e115]; exact ⟨congrArg (fun z => some (Value.int z)) (own_narc _), N115, rfl⟩) | exact ⟨congrArg (fun z => some (Value.int z)) (own_narc _), N115, rfl⟩) (by decide) (by decide)
theorem d15_0 : decode method_4_code 0 = .ok (.iload_n 3, 1) := by decide +kernel
theorem d15_1 : decode method_4_code 1 = .ok (.iload_n 1, 1) := by decide +kernel
theorem d15_2 : decode method_4_code 2 = .ok (.if_icmp .lt 5, 3) := by decide +kernel
theorem d15_5 : decode method_4_code 5 = .ok (.iconst 1, 1) := by decide +kernel
theorem d15_6 : decode method_4_code 6 = .ok (.ireturn, 1) := by decide +kernel
theorem d15_7 : decode method_4_code 7 = .ok (.aload_n 0, 1) := by decide +kernel
theorem d15_8 : decode method_4_code 8 = .ok (.iload_n 1, 1) := by decide +kernel
theorem d15_9 : decode method_4_code 9 = .ok (.iconst 1, 1) := by decide +kernel
theorem d15_10 : decode method_4_code 10 = .ok (.isub, 1) := by decide +kernel
theorem d15_11 : decode method_4_code 11 = .ok (.iload_n 3, 1) := by decide +kernel
theorem d15_12 : decode method_4_code 12 = .ok (.isub, 1) := by decide +kernel
theorem pd_5 : parseMethodDescriptor "(I)C" = some ⟨[.int], some .char⟩ := by decide +kernel
theorem d15_13 : decode method_4_code 13 = .ok (.invokevirtual 45, 3) := by decide +kernel
theorem d15_16 : decode method_4_code 16 = .ok (.bipush 48, 2) := by decide +kernel
theorem d15_18 : decode method_4_code 18 = .ok (.iload_n 2, 1) := by decide +kernel
theorem d15_19 : decode method_4_code 19 = .ok (.iload 4, 2) := by decide +kernel
theorem d15_21 : decode method_4_code 21 = .ok (.idiv, 1) := by decide +kernel
theorem d15_22 : decode method_4_code 22 = .ok (.bipush 10, 2) := by decide +kernel
theorem d15_24 : decode method_4_code 24 = .ok (.irem, 1) := by decide +kernel
theorem d15_25 : decode method_4_code 25 = .ok (.iadd, 1) := by decide +kernel
theorem d15_26 : decode method_4_code 26 = .ok (.i2c, 1) := by decide +kernel
theorem d15_27 : decode method_4_code 27 = .ok (.if_icmp .ne 7, 3) := by decide +kernel
theorem d15_30 : decode method_4_code 30 = .ok (.iconst 1, 1) := by decide +kernel
theorem d15_31 : decode method_4_code 31 = .ok (.goto 4, 3) := by decide +kernel
theorem d15_35 : decode method_4_code 35 = .ok (.ireturn, 1) := by decide +kernel
theorem pn_15 : plainName "com/example/hyra/hyra/model/SeatCountToWirePinLaw" = true := by first | (simp [plainName, overriddenIn]; done) | decide +kernel
set_option maxRecDepth 65536 in
set_option maxHeartbeats 40000000 in
theorem rmD (l : Launch) (Z : State) (a0 : Array Value) (hw : ∀ d ∈ tables_1, d.before a0 Z = true) (a : Addr) (b : Addr) (k : ClassId) (vs : List Value) (mm : Nat) (kk : Int32) (pw : Int32) (cs : Int32) (fw : Value) (h0 : Heap) (n0 : Nat) (Z0 : n0 ≤ h0.size) (OL : Old Z n0 h0) (SC : Sta Z Z.heap "java/lang/String" "COMPACT_STRINGS" "Z" (.int cs)) (hcs : ¬ cs = 0) (SF : Sta Z Z.heap "jdk/internal/util/Preconditions" "SIOOBE_FORMATTER" "Ljava/util/function/BiFunction;" fw) (hfw : fw.isRef = true) (E_a : Exa Z h0 a "java/lang/String") (FV : Fld Z h0 a "java/lang/String" "value" "[B" (.ref b)) (FCo : Fld Z h0 a "java/lang/String" "coder" "B" (.int 0)) (AB : Arv Z h0 b k .byte (own_dgt mm) vs (.int 0)) (hd : own_dk mm vs kk pw) (hp : pw ≠ 0) :
    Con l (⟨"com/example/hyra/hyra/model/SeatCountToWirePinLaw", "d", "(Ljava/lang/String;IIII)Z"⟩ : MethodName) method_4_code 5 (some .boolean) ({ frames := 4, cells := 0, slots := 0, locals := 53 } : Room) Z #[(.ref a), (.int (own_dgt mm)), (.int (own_of mm)), (.int kk), (.int pw)] h0 (fun _ => True) (fun v h L vm => v = some (.int 1) ∧ Fr n0 L ∧ h = h0) := by
  refine Con.mk (plainFor_of_name pn_15) (fun m => show entryFrame m #[(.ref a), (.int (own_dgt mm)), (.int (own_of mm)), (.int kk), (.int pw)] 5 = mkF m 0 #[.val (.ref a), .val (.int (own_dgt mm)), .val (.int (own_of mm)), .val (.int kk), .val (.int pw)] [] by first | (simp [entryFrame, mkF, argsToLocals, Value.category]; done) | rfl) ?_
  intro p e s m below meth c s₁ vm0 hx hby hml hown hnm hret hlk hZ X0 e0 hS hs0 hP0
  have N0 := Fr.nil n0
  show Run p e below s _ _ _ (s₁.setTop (mkF m 0 #[.val (.ref a), .val (.int (own_dgt mm)), .val (.int (own_of mm)), .val (.int kk), .val (.int pw)] []))
  rcases hd with hk | ⟨hk, k1, k2, yb, hy, heq⟩
  · skip
    refine Run.pre (fun _ k => XS.iloadN X0.here hx rfl (hb hby d15_0) rfl  k) ?_
    refine Run.pre (fun _ k => XS.iloadN X0.here hx rfl (hb hby d15_1) rfl  k) ?_
    show Run p e below s _ _ _ (s₁.setTop (mkF m 2 #[.val (.ref a), .val (.int (own_dgt mm)), .val (.int (own_of mm)), .val (.int kk), .val (.int pw)] [(.int (own_dgt mm)), (.int kk)]))
    refine Run.pre (fun _ k => XS.icmpNo X0.here hx rfl (hb hby d15_2) rfl (flt (hk : ¬ (kk < (own_dgt mm)))).1 k) ?_
    refine Run.pre (fun _ k => XS.iconst X0.here hx rfl (hb hby d15_5) k) ?_
    show Run p e below s _ _ _ (s₁.setTop (mkF m 6 #[.val (.ref a), .val (.int (own_dgt mm)), .val (.int (own_of mm)), .val (.int kk), .val (.int pw)] [(.int (1 : Int32))]))
    exact Run.retN hS (by first | exact Nat.le_refl _ | (rw [e0]; exact (Nat.zero_le _))) X0 hx hret (t := .boolean) (by simp) hlk (hb hby d15_6) (by first | (rw [e0]; exact ⟨rfl, N0, rfl⟩) | exact ⟨rfl, N0, rfl⟩) (by decide) (by decide)
  · skip
    refine Run.pre (fun _ k => XS.iloadN X0.here hx rfl (hb hby d15_0) rfl  k) ?_
    refine Run.pre (fun _ k => XS.iloadN X0.here hx rfl (hb hby d15_1) rfl  k) ?_
    show Run p e below s _ _ _ (s₁.setTop (mkF m 2 #[.val (.ref a), .val (.int (own_dgt mm)), .val (.int (own_of mm)), .val (.int kk), .val (.int pw)] [(.int (own_dgt mm)), (.int kk)]))
    refine Run.pre (fun _ k => XS.icmpYes X0.here hx rfl (pc0 := 2) (pc' := 7) rfl (hb hby d15_2) rfl (tlt (hk : kk < (own_dgt mm))).1 (by decide) (by decide) k) ?_
    refine Run.pre (fun _ k => XS.aloadN X0.here hx rfl (hb hby d15_7) rfl rfl k) ?_
    refine Run.pre (fun _ k => XS.iloadN X0.here hx rfl (hb hby d15_8) rfl  k) ?_
    refine Run.pre (fun _ k => XS.iconst X0.here hx rfl (hb hby d15_9) k) ?_
    show Run p e below s _ _ _ (s₁.setTop (mkF m 10 #[.val (.ref a), .val (.int (own_dgt mm)), .val (.int (own_of mm)), .val (.int kk), .val (.int pw)] [(.int (1 : Int32)), (.int (own_dgt mm)), (.ref a)]))
    refine Run.pre (fun _ k => XS.isub X0.here hx rfl (hb hby d15_10) rfl k) ?_
    refine Run.pre (fun _ k => XS.iloadN X0.here hx rfl (hb hby d15_11) rfl  k) ?_
    show Run p e below s _ _ _ (s₁.setTop (mkF m 12 #[.val (.ref a), .val (.int (own_dgt mm)), .val (.int (own_of mm)), .val (.int kk), .val (.int pw)] [(.int kk), (.int ((own_dgt mm) - (1 : Int32))), (.ref a)]))
    refine Run.pre (fun _ k => XS.isub X0.here hx rfl (hb hby d15_12) rfl k) ?_
    show Run p e below s _ _ _ (s₁.setTop (mkF m 13 #[.val (.ref a), .val (.int (own_dgt mm)), .val (.int (own_of mm)), .val (.int kk), .val (.int pw)] [(.int (((own_dgt mm) - (1 : Int32)) - kk)), (.ref a)]))
    refine Run.callV hS (by first | exact Nat.le_refl _ | (rw [e0]; exact (Nat.zero_le _))) X0 hx hZ (y := (⟨"java/lang/String", "charAt", "(I)C"⟩ : MethodName)) (z := (⟨"java/lang/String", "charAt", "(I)C"⟩ : MethodName)) hown (hw _ (List.mem_of_getElem? (i := 89) rfl)) (hw _ (List.mem_of_getElem? (i := 90) rfl)) (notFace_of_selects (args := #[]) (mvT hZ (hw _ (List.mem_of_getElem? (i := 92) rfl)))) (hw _ (List.mem_of_getElem? (i := 92) rfl)) (hw _ (List.mem_of_getElem? (i := 91) rfl)) (hw _ (List.mem_of_getElem? (i := 93) rfl)) (hw _ (List.mem_of_getElem? (i := 5) rfl)) (by decide) (b := a) E_a (W := 0) (rmCA l Z a0 hw a b k (own_dgt mm) vs (((own_dgt mm) - (1 : Int32)) - kk) yb cs fw h0 n0 (Nat.le_trans Z0 (Keep.refl h0 []).1) OL SC hcs SF hfw E_a FV FCo AB k1 k2 hy) e0 (by decide) (by decide) (by decide) (by decide) (fun _ _ => trivial) (g := (mkF m 13 #[.val (.ref a), .val (.int (own_dgt mm)), .val (.int (own_of mm)), .val (.int kk), .val (.int pw)] [(.int (((own_dgt mm) - (1 : Int32)) - kk)), (.ref a)])) rfl (by rw [hml]; rfl) (argsL := [(.int (((own_dgt mm) - (1 : Int32)) - kk))]) (rest := []) (lenOf pd_5 rfl) rfl (by show 2 * 0 + _ ≤ _; exact Nat.le_of_eq rfl) (hb hby d15_13) ?_
    intro v116 T116 L116 X116 hS hZ hown hV116 hQ116
    obtain ⟨rfl, Nq116, he116⟩ := hQ116
    have N116 := Fr.app N0 Nq116
    have e116 : T116.heap = h0 := he116
    refine Run.pre (fun _ k => XS.bipush X116.here hx rfl (hb hby d15_16) k) ?_
    refine Run.pre (fun _ k => XS.iloadN X116.here hx rfl (hb hby d15_18) rfl  k) ?_
    refine Run.pre (fun _ k => XS.iload X116.here hx rfl (hb hby d15_19) rfl  k) ?_
    show Run p e below s _ _ _ (T116.setTop (mkF m 21 #[.val (.ref a), .val (.int (own_dgt mm)), .val (.int (own_of mm)), .val (.int kk), .val (.int pw)] [(.int pw), (.int (own_of mm)), (.int (48 : Int32)), (.int (own_cc yb))]))
    refine Run.pre (fun _ k => XS.idiv X116.here hx rfl (hb hby d15_21) rfl hp k) ?_
    refine Run.pre (fun _ k => XS.bipush X116.here hx rfl (hb hby d15_22) k) ?_
    show Run p e below s _ _ _ (T116.setTop (mkF m 24 #[.val (.ref a), .val (.int (own_dgt mm)), .val (.int (own_of mm)), .val (.int kk), .val (.int pw)] [(.int (10 : Int32)), (.int ((own_of mm) / pw)), (.int (48 : Int32)), (.int (own_cc yb))]))
    refine Run.pre (fun _ k => iremM X116 hx rfl (hb hby d15_24) rfl (by decide) k) ?_
    show Run p e below s _ _ _ (T116.setTop (mkF m 25 #[.val (.ref a), .val (.int (own_dgt mm)), .val (.int (own_of mm)), .val (.int kk), .val (.int pw)] [(.int (((own_of mm) / pw) % (10 : Int32))), (.int (48 : Int32)), (.int (own_cc yb))]))
    refine Run.pre (fun _ k => XS.iadd X116.here hx rfl (hb hby d15_25) rfl k) ?_
    show Run p e below s _ _ _ (T116.setTop (mkF m 26 #[.val (.ref a), .val (.int (own_dgt mm)), .val (.int (own_of mm)), .val (.int kk), .val (.int pw)] [(.int ((48 : Int32) + (((own_of mm) / pw) % (10 : Int32)))), (.int (own_cc yb))]))
    refine Run.pre (fun _ k => XS.i2c X116.here hx rfl (hb hby d15_26) rfl k) ?_
    show Run p e below s _ _ _ (T116.setTop (mkF m 27 #[.val (.ref a), .val (.int (own_dgt mm)), .val (.int (own_of mm)), .val (.int kk), .val (.int pw)] [(.int (((48 : Int32) + (((own_of mm) / pw) % (10 : Int32))).toUInt32.toUInt16.toUInt32.toInt32)), (.int (own_cc yb))]))
    refine Run.pre (fun _ k => XS.icmpNo X116.here hx rfl (hb hby d15_27) rfl (teq (heq : (own_cc yb) = (((48 : Int32) + (((own_of mm) / pw) % (10 : Int32))).toUInt32.toUInt16.toUInt32.toInt32))).2 k) ?_
    refine Run.pre (fun _ k => XS.iconst X116.here hx rfl (hb hby d15_30) k) ?_
    refine Run.pre (fun _ k => XS.goto X116.here hx rfl (pc0 := 31) (pc' := 35) rfl (hb hby d15_31) (by decide) (by decide) k) ?_
    show Run p e below s _ _ _ (T116.setTop (mkF m 35 #[.val (.ref a), .val (.int (own_dgt mm)), .val (.int (own_of mm)), .val (.int kk), .val (.int pw)] [(.int (1 : Int32))]))
    exact Run.retN hS (by first | exact Nat.le_refl _ | (rw [e116]; exact (Nat.le_of_eq (congrArg Array.size e116)))) X116 hx hret (t := .boolean) (by simp) hlk (hb hby d15_35) (by first | (rw [e116]; exact ⟨rfl, N116, rfl⟩) | exact ⟨rfl, N116, rfl⟩) (by decide) (by decide)
theorem d5_0 : decode jdk_18_method_1_code 0 = .ok (.aload_n 0, 1) := by decide +kernel
theorem d5_1 : decode jdk_18_method_1_code 1 = .ok (.invokespecial 1, 3) := by decide +kernel
theorem d5_4 : decode jdk_18_method_1_code 4 = .ok (.return_, 1) := by decide +kernel
theorem pn_5 : plainName "java/lang/Number" = true := by first | (simp [plainName, overriddenIn]; done) | decide +kernel
set_option maxRecDepth 65536 in
set_option maxHeartbeats 40000000 in
theorem rmNum (l : Launch) (Z : State) (a0 : Array Value) (hw : ∀ d ∈ tables_1, d.before a0 Z = true) (a : Addr) (h0 : Heap) (n0 : Nat) (Z0 : n0 ≤ h0.size) (E_a : Exa Z h0 a "java/lang/Integer") :
    Con l (⟨"java/lang/Number", "<init>", "()V"⟩ : MethodName) jdk_18_method_1_code 1 none ({ frames := 1, cells := 0, slots := 0, locals := 12 } : Room) Z #[(.ref a)] h0 (fun _ => True) (fun v h L vm => v = none ∧ Fr n0 L ∧ h = h0) := by
  refine Con.mk (plainFor_of_name pn_5) (fun m => show entryFrame m #[(.ref a)] 1 = mkF m 0 #[.val (.ref a)] [] by first | (simp [entryFrame, mkF, argsToLocals, Value.category]; done) | rfl) ?_
  intro p e s m below meth c s₁ vm0 hx hby hml hown hnm hret hlk hZ X0 e0 hS hs0 hP0
  have N0 := Fr.nil n0
  refine Run.pre (fun _ k => XS.aloadN X0.here hx rfl (hb hby d5_0) rfl rfl k) ?_
  show Run p e below s _ _ _ (s₁.setTop (mkF m 1 #[.val (.ref a)] [(.ref a)]))
  obtain ⟨T117, X117, e117, st117⟩ := initO X0 hx hZ hown (hw _ (List.mem_of_getElem? (i := 37) rfl)) (hw _ (List.mem_of_getElem? (i := 38) rfl)) (hw _ (List.mem_of_getElem? (i := 39) rfl)) e0 (g := (mkF m 1 #[.val (.ref a)] [(.ref a)])) rfl (by rw [hml]; rfl) rfl (hb hby d5_1) (by decide) (W := 0) (by show 2 * 0 + _ ≤ _; exact Nat.le_of_eq rfl) (by decide)
  refine Run.pre st117 ?_
  show Run p e below s _ _ _ (T117.setTop (mkF m 4 #[.val (.ref a)] []))
  exact Run.retV hS (by first | exact Nat.le_refl _ | (rw [e117]; exact (Nat.zero_le _))) X117 hx hret hlk (hb hby d5_4) (by first | (rw [e117]; exact ⟨rfl, N0, rfl⟩) | exact ⟨rfl, N0, rfl⟩) (by decide) (by decide)
theorem d4_0 : decode jdk_33_method_23_code 0 = .ok (.aload_n 0, 1) := by decide +kernel
theorem pd_6 : parseMethodDescriptor "()V" = some ⟨[], none⟩ := by decide +kernel
theorem d4_1 : decode jdk_33_method_23_code 1 = .ok (.invokespecial 202, 3) := by decide +kernel
theorem d4_4 : decode jdk_33_method_23_code 4 = .ok (.aload_n 0, 1) := by decide +kernel
theorem d4_5 : decode jdk_33_method_23_code 5 = .ok (.iload_n 1, 1) := by decide +kernel
theorem d4_6 : decode jdk_33_method_23_code 6 = .ok (.putfield 205, 3) := by decide +kernel
theorem d4_9 : decode jdk_33_method_23_code 9 = .ok (.return_, 1) := by decide +kernel
theorem pn_4 : plainName "java/lang/Integer" = true := by first | (simp [plainName, overriddenIn]; done) | decide +kernel
set_option maxRecDepth 65536 in
set_option maxHeartbeats 40000000 in
theorem rmII (l : Launch) (Z : State) (a0 : Array Value) (hw : ∀ d ∈ tables_1, d.before a0 Z = true) (a : Addr) (nn : Int32) (h0 : Heap) (n0 : Nat) (Z0 : n0 ≤ h0.size) (E_a : Exa Z h0 a "java/lang/Integer") (FV : Fld Z h0 a "java/lang/Integer" "value" "I" (.int 0)) (g_a : n0 ≤ a) :
    Con l (⟨"java/lang/Integer", "<init>", "(I)V"⟩ : MethodName) jdk_33_method_23_code 2 none ({ frames := 2, cells := 0, slots := 0, locals := 24 } : Room) Z #[(.ref a), (.int nn)] h0 (fun _ => True) (fun v h L vm => v = none ∧ Fr n0 L ∧ Keep h0 h [a] ∧ Fld Z h a "java/lang/Integer" "value" "I" (.int nn)) := by
  refine Con.mk (plainFor_of_name pn_4) (fun m => show entryFrame m #[(.ref a), (.int nn)] 2 = mkF m 0 #[.val (.ref a), .val (.int nn)] [] by first | (simp [entryFrame, mkF, argsToLocals, Value.category]; done) | rfl) ?_
  intro p e s m below meth c s₁ vm0 hx hby hml hown hnm hret hlk hZ X0 e0 hS hs0 hP0
  have N0 := Fr.nil n0
  refine Run.pre (fun _ k => XS.aloadN X0.here hx rfl (hb hby d4_0) rfl rfl k) ?_
  show Run p e below s _ _ _ (s₁.setTop (mkF m 1 #[.val (.ref a), .val (.int nn)] [(.ref a)]))
  refine Run.callI hS (by first | exact Nat.le_refl _ | (rw [e0]; exact (Nat.zero_le _))) X0 hx hZ (y := (⟨"java/lang/Number", "<init>", "()V"⟩ : MethodName)) rfl hown (hw _ (List.mem_of_getElem? (i := 31) rfl)) (hw _ (List.mem_of_getElem? (i := 32) rfl)) (hw _ (List.mem_of_getElem? (i := 36) rfl)) (hw _ (List.mem_of_getElem? (i := 35) rfl)) (by decide) (a := a) (W := 0) (rmNum l Z a0 hw a h0 n0 (Nat.le_trans Z0 (Keep.refl h0 [a]).1) E_a) e0 (by decide) (by decide) (by decide) (by decide) (fun _ _ => trivial) (g := (mkF m 1 #[.val (.ref a), .val (.int nn)] [(.ref a)])) rfl (by rw [hml]; rfl) (argsL := []) (rest := []) (lenOf pd_6 rfl) rfl (by show 2 * 0 + _ ≤ _; exact Nat.le_of_eq rfl) (hb hby d4_1) ?_
  intro v118 T118 L118 X118 hS hZ hown hV118 hQ118
  obtain ⟨rfl, Nq118, he118⟩ := hQ118
  have N118 := Fr.app N0 Nq118
  have e118 : T118.heap = h0 := he118
  refine Run.pre (fun _ k => XS.aloadN X118.here hx rfl (hb hby d4_4) rfl rfl k) ?_
  refine Run.pre (fun _ k => XS.iloadN X118.here hx rfl (hb hby d4_5) rfl  k) ?_
  show Run p e below s _ _ _ (T118.setTop (mkF m 6 #[.val (.ref a), .val (.int nn)] [(.int nn), (.ref a)]))
  obtain ⟨T119, h119, X119, e119, W119, st119⟩ := putF X118 hx hZ hown (host := "") (Or.inl (hw _ (List.mem_of_getElem? (i := 40) rfl))) Via.refl e118 FV E_a (Or.inr ⟨(hw _ (List.mem_of_getElem? (i := 41) rfl)), rfl, hnm⟩) (hw _ (List.mem_of_getElem? (i := 26) rfl)) (ty := .int) (by decide) rfl rfl (g := (mkF m 6 #[.val (.ref a), .val (.int nn)] [(.int nn), (.ref a)])) rfl rfl (hb hby d4_6)
  refine Run.pre st119 ?_
  have Fw119 := FV.same W119
  have K119 : Keep h0 h119 [a] := (Keep.refl h0 [a]).wr W119 (Or.inl (by simp))
  have N119 := Fr.snoc X119 N118 g_a
  show Run p e below s _ _ _ (T119.setTop (mkF m 9 #[.val (.ref a), .val (.int nn)] []))
  exact Run.retV hS (by first | exact Nat.le_refl _ | (rw [e119]; exact (Nat.le_trans (Nat.le_of_eq (congrArg Array.size e118)) (Keep.of_wr W119).1))) X119 hx hret hlk (hb hby d4_9) (by first | (rw [e119]; exact ⟨rfl, N119, K119, Fw119⟩) | exact ⟨rfl, N119, K119, Fw119⟩) (by decide) (by decide)
theorem d3_0 : decode jdk_33_method_22_code 0 = .ok (.iload_n 0, 1) := by decide +kernel
theorem d3_1 : decode jdk_33_method_22_code 1 = .ok (.bipush (-128), 2) := by decide +kernel
theorem d3_3 : decode jdk_33_method_22_code 3 = .ok (.if_icmp .lt 20, 3) := by decide +kernel
theorem d3_6 : decode jdk_33_method_22_code 6 = .ok (.iload_n 0, 1) := by decide +kernel
theorem d3_7 : decode jdk_33_method_22_code 7 = .ok (.getstatic 191, 3) := by decide +kernel
theorem d3_10 : decode jdk_33_method_22_code 10 = .ok (.if_icmp .gt 13, 3) := by decide +kernel
theorem d3_23 : decode jdk_33_method_22_code 23 = .ok (.new 1, 3) := by decide +kernel
theorem d3_26 : decode jdk_33_method_22_code 26 = .ok (.dup, 1) := by decide +kernel
theorem d3_27 : decode jdk_33_method_22_code 27 = .ok (.iload_n 0, 1) := by decide +kernel
theorem pd_7 : parseMethodDescriptor "(I)V" = some ⟨[.int], none⟩ := by decide +kernel
theorem d3_28 : decode jdk_33_method_22_code 28 = .ok (.invokespecial 199, 3) := by decide +kernel
theorem d3_31 : decode jdk_33_method_22_code 31 = .ok (.areturn, 1) := by decide +kernel
theorem d3_13 : decode jdk_33_method_22_code 13 = .ok (.getstatic 195, 3) := by decide +kernel
theorem d3_16 : decode jdk_33_method_22_code 16 = .ok (.iload_n 0, 1) := by decide +kernel
theorem d3_17 : decode jdk_33_method_22_code 17 = .ok (.sipush 128, 3) := by decide +kernel
theorem d3_20 : decode jdk_33_method_22_code 20 = .ok (.iadd, 1) := by decide +kernel
theorem d3_21 : decode jdk_33_method_22_code 21 = .ok (.aaload, 1) := by decide +kernel
theorem d3_22 : decode jdk_33_method_22_code 22 = .ok (.areturn, 1) := by decide +kernel
theorem pn_3 : plainName "java/lang/Integer" = true := by first | (simp [plainName, overriddenIn]; done) | decide +kernel
set_option maxRecDepth 65536 in
set_option maxHeartbeats 40000000 in
theorem rmVO (l : Launch) (Z : State) (a0 : Array Value) (hw : ∀ d ∈ tables_1, d.before a0 Z = true) (mm : Nat) (ca : Addr) (kc : ClassId) (vc : List Value) (h0 : Heap) (n0 : Nat) (Z0 : n0 ≤ h0.size) (OL : Old Z n0 h0) (hm : mm < 2147483648) (SH : Sta Z Z.heap "java/lang/Integer$IntegerCache" "high" "I" (.int 127)) (SCa : Sta Z Z.heap "java/lang/Integer$IntegerCache" "cache" "[Ljava/lang/Integer;" (.ref ca)) (ACa : Arv Z Z.heap ca kc (.object "java/lang/Integer") 256 vc .null) (hC : ∀ i : Nat, i < 256 → ∃ w, vc.getD i .null = .ref w ∧ Exa Z Z.heap w "java/lang/Integer" ∧ Fld Z Z.heap w "java/lang/Integer" "value" "I" (.int (own_of i - 128))) :
    Con l (⟨"java/lang/Integer", "valueOf", "(I)Ljava/lang/Integer;"⟩ : MethodName) jdk_33_method_22_code 1 (some (.object "java/lang/Integer")) ({ frames := 3, cells := 1, slots := 1, locals := 38 } : Room) Z #[(.int (own_of mm))] h0 (fun _ => True) (fun v h L vm => ∃ o : Addr, v = some (.ref o) ∧ Fr n0 L ∧ Keep h0 h [] ∧ Exa Z h o "java/lang/Integer" ∧ Fld Z h o "java/lang/Integer" "value" "I" (.int (own_of mm))) := by
  refine Con.mk (plainFor_of_name pn_3) (fun m => show entryFrame m #[(.int (own_of mm))] 1 = mkF m 0 #[.val (.int (own_of mm))] [] by first | (simp [entryFrame, mkF, argsToLocals, Value.category]; done) | rfl) ?_
  intro p e s m below meth c s₁ vm0 hx hby hml hown hnm hret hlk hZ X0 e0 hS hs0 hP0
  have N0 := Fr.nil n0
  refine Run.pre (fun _ k => XS.iloadN X0.here hx rfl (hb hby d3_0) rfl  k) ?_
  refine Run.pre (fun _ k => XS.bipush X0.here hx rfl (hb hby d3_1) k) ?_
  show Run p e below s _ _ _ (s₁.setTop (mkF m 3 #[.val (.int (own_of mm))] [(.int (-128 : Int32)), (.int (own_of mm))]))
  refine Run.pre (fun _ k => XS.icmpNo X0.here hx rfl (hb hby d3_3) rfl (flt ((own_nofl hm (by have e : ((-128 : Int32)).toInt = -128 := (by decide); omega)) : ¬ ((own_of mm) < (-128 : Int32)))).1 k) ?_
  refine Run.pre (fun _ k => XS.iloadN X0.here hx rfl (hb hby d3_6) rfl  k) ?_
  show Run p e below s _ _ _ (s₁.setTop (mkF m 7 #[.val (.int (own_of mm))] [(.int (own_of mm))]))
  obtain ⟨T120, X120, e120, st120⟩ := getS2 X0 hx hZ hown (host := "") (Or.inl (hw _ (List.mem_of_getElem? (i := 23) rfl))) Via.refl e0 (SH.ext OL.2) (g := (mkF m 7 #[.val (.int (own_of mm))] [(.int (own_of mm))])) rfl (hb hby d3_7)
  refine Run.pre st120 ?_
  show Run p e below s _ _ _ (T120.setTop (mkF m 10 #[.val (.int (own_of mm))] [(.int (127 : Int32)), (.int (own_of mm))]))
  by_cases hc121 : (127 : Int32) < (own_of mm)
  · skip
    refine Run.pre (fun _ k => XS.icmpYes X120.here hx rfl (pc0 := 10) (pc' := 23) rfl (hb hby d3_10) rfl (tlt (hc121 : (127 : Int32) < (own_of mm))).2.2.1 (by decide) (by decide) k) ?_
    show Run p e below s _ _ _ (T120.setTop (mkF m 23 #[.val (.int (own_of mm))] []))
    obtain ⟨T122, h122, X122, e122, E122, A122, D122, -, st122⟩ := newO X120 hx hZ hown (hw _ (List.mem_of_getElem? (i := 25) rfl)) (hw _ (List.mem_of_getElem? (i := 26) rfl)) (hw _ (List.mem_of_getElem? (i := 21) rfl)) e120 (g := (mkF m 23 #[.val (.int (own_of mm))] [])) rfl (hb hby d3_23) (by decide) (by decide)
    obtain ⟨b122, g122⟩ : ∃ z, z = h0.size := ⟨_, rfl⟩
    rw [← g122] at A122 D122 st122
    refine Run.pre st122 ?_
    have gn_b122 : n0 ≤ b122 := Nat.le_trans (Nat.le_trans Z0 (Keep.refl h0 []).1) (Nat.le_of_eq g122.symm)
    have sz_b122 : h0.size ≤ b122 := Nat.le_trans (Keep.refl h0 []).1 (Nat.le_of_eq g122.symm)
    have K122 : Keep h0 h122 [] := (Keep.refl h0 []).ext E122
    have F_value_b122 : Fld Z h122 b122 "java/lang/Integer" "value" "I" (.int (0 : Int32)) := D122 (Or.inr (hw _ (List.mem_of_getElem? (i := 41) rfl))) (ty := .int) (by decide)
    refine Run.pre (fun _ k => XS.dup X122.here hx rfl (hb hby d3_26) rfl rfl k) ?_
    refine Run.pre (fun _ k => XS.iloadN X122.here hx rfl (hb hby d3_27) rfl  k) ?_
    show Run p e below s _ _ _ (T122.setTop (mkF m 28 #[.val (.int (own_of mm))] [(.int (own_of mm)), (.ref b122), (.ref b122)]))
    refine Run.callI hS (by first | exact Nat.le_refl _ | (rw [e122]; exact (Nat.le_trans (Nat.zero_le _) E122.1))) X122 hx hZ (y := (⟨"java/lang/Integer", "<init>", "(I)V"⟩ : MethodName)) rfl hown (hw _ (List.mem_of_getElem? (i := 27) rfl)) (hw _ (List.mem_of_getElem? (i := 28) rfl)) (hw _ (List.mem_of_getElem? (i := 30) rfl)) (hw _ (List.mem_of_getElem? (i := 21) rfl)) (by decide) (a := b122) (W := 1) (rmII l Z a0 hw b122 (own_of mm) h122 n0 (Nat.le_trans Z0 K122.1) A122 F_value_b122 gn_b122) e122 (by decide) (by decide) (by decide) (by decide) (fun _ _ => trivial) (g := (mkF m 28 #[.val (.int (own_of mm))] [(.int (own_of mm)), (.ref b122), (.ref b122)])) rfl (by rw [hml]; rfl) (argsL := [(.int (own_of mm))]) (rest := [(.ref b122)]) (lenOf pd_7 rfl) rfl (by show 2 * 0 + _ ≤ _; exact Nat.le_of_eq rfl) (hb hby d3_28) ?_
    intro v123 T123 L123 X123 hS hZ hown hV123 hQ123
    obtain ⟨rfl, Nq123, Kc123, fv123⟩ := hQ123
    have N123 := Fr.app N0 Nq123
    have K123 : Keep h0 T123.heap [] := K122.trans Kc123 (allS (Or.inr sz_b122) all0)
    show Run p e below s _ _ _ (T123.setTop (mkF m 31 #[.val (.int (own_of mm))] [(.ref b122)]))
    have f124 := (A122.keep Kc123)
    exact Run.retA hS (Nat.le_refl _) X123 hx hret rfl rfl hlk (hb hby d3_31) ⟨b122, rfl, N123, K123, f124, fv123⟩ (by decide) (by decide)
  · skip
    refine Run.pre (fun _ k => XS.icmpNo X120.here hx rfl (hb hby d3_10) rfl (flt (hc121 : ¬ ((127 : Int32) < (own_of mm)))).2.2.1 k) ?_
    show Run p e below s _ _ _ (T120.setTop (mkF m 13 #[.val (.int (own_of mm))] []))
    obtain ⟨T125, X125, e125, st125⟩ := getS2 X120 hx hZ hown (host := "") (Or.inl (hw _ (List.mem_of_getElem? (i := 111) rfl))) Via.refl e120 (SCa.ext OL.2) (g := (mkF m 13 #[.val (.int (own_of mm))] [])) rfl (hb hby d3_13)
    refine Run.pre st125 ?_
    refine Run.pre (fun _ k => XS.iloadN X125.here hx rfl (hb hby d3_16) rfl  k) ?_
    refine Run.pre (fun _ k => XS.sipush X125.here hx rfl (hb hby d3_17) k) ?_
    show Run p e below s _ _ _ (T125.setTop (mkF m 20 #[.val (.int (own_of mm))] [(.int (128 : Int32)), (.int (own_of mm)), (.ref ca)]))
    refine Run.pre (fun _ k => XS.iadd X125.here hx rfl (hb hby d3_20) rfl k) ?_
    show Run p e below s _ _ _ (T125.setTop (mkF m 21 #[.val (.int (own_of mm))] [(.int ((own_of mm) + (128 : Int32))), (.ref ca)]))
    obtain ⟨e128, l256⟩ := own_add128 hm hc121
    obtain ⟨wq, gw, Ew, Fw⟩ := hC (mm + 128) l256
    rw [← e128, own_sub128] at Fw
    obtain ⟨c126, Ar126, -, S126, N126, H126, -⟩ := id (ACa.ext OL.2)
    have hin126 : ¬ (((own_of mm) + (128 : Int32)) < 0 ∨ c126.slots.size ≤ (((own_of mm) + (128 : Int32))).toNatClampNeg) := inb_of S126 (by rw [e128]; exact own_in256 l256)
    refine Run.pre (X125.aaload hx (j := ((own_of mm) + (128 : Int32))) (v := (.ref wq)) (by rw [e125]; exact Ar126.1) (State.isArrayOf_alike hZ.alike Ar126.2.1) rfl Ar126.2.2 hin126 (H126.at hin126 (by rw [e128, own_ofN (by omega)]; exact gw)) (g := (mkF m 21 #[.val (.int (own_of mm))] [(.int ((own_of mm) + (128 : Int32))), (.ref ca)])) rfl rfl (hb hby d3_21)) ?_
    show Run p e below s _ _ _ (T125.setTop (mkF m 22 #[.val (.int (own_of mm))] [(.ref wq)]))
    exact Run.retA hS (by first | exact Nat.le_refl _ | (rw [e125]; exact (Nat.zero_le _))) X125 hx hret rfl rfl hlk (hb hby d3_22) (by first | (rw [e125]; exact ⟨wq, rfl, N0, (Keep.refl h0 []), (Ew.ext OL.2), (Fw.ext OL.2)⟩) | exact ⟨wq, rfl, N0, (Keep.refl h0 []), (Ew.ext OL.2), (Fw.ext OL.2)⟩) (by decide) (by decide)
theorem d11_0 : decode jdk_42_method_151_code 0 = .ok (.aload_n 0, 1) := by decide +kernel
theorem d11_1 : decode jdk_42_method_151_code 1 = .ok (.invokespecial 1, 3) := by decide +kernel
theorem d11_4 : decode jdk_42_method_151_code 4 = .ok (.aload_n 0, 1) := by decide +kernel
theorem d11_5 : decode jdk_42_method_151_code 5 = .ok (.aload_n 1, 1) := by decide +kernel
theorem d11_6 : decode jdk_42_method_151_code 6 = .ok (.putfield 9, 3) := by decide +kernel
theorem d11_9 : decode jdk_42_method_151_code 9 = .ok (.aload_n 0, 1) := by decide +kernel
theorem d11_10 : decode jdk_42_method_151_code 10 = .ok (.iload_n 2, 1) := by decide +kernel
theorem d11_11 : decode jdk_42_method_151_code 11 = .ok (.putfield 15, 3) := by decide +kernel
theorem d11_14 : decode jdk_42_method_151_code 14 = .ok (.return_, 1) := by decide +kernel
theorem pn_11 : plainName "java/lang/String" = true := by first | (simp [plainName, overriddenIn]; done) | decide +kernel
set_option maxRecDepth 65536 in
set_option maxHeartbeats 40000000 in
theorem rmBB (l : Launch) (Z : State) (a0 : Array Value) (hw : ∀ d ∈ tables_1, d.before a0 Z = true) (a : Addr) (b : Addr) (h0 : Heap) (n0 : Nat) (Z0 : n0 ≤ h0.size) (E_a : Exa Z h0 a "java/lang/String") (FV : Fld Z h0 a "java/lang/String" "value" "[B" .null) (FCo : Fld Z h0 a "java/lang/String" "coder" "B" (.int 0)) (g_a : n0 ≤ a) :
    Con l (⟨"java/lang/String", "<init>", "([BB)V"⟩ : MethodName) jdk_42_method_151_code 3 none ({ frames := 1, cells := 0, slots := 0, locals := 12 } : Room) Z #[(.ref a), (.ref b), (.int (0 : Int32))] h0 (fun _ => True) (fun v h L vm => v = none ∧ Fr n0 L ∧ Keep h0 h [a] ∧ Fld Z h a "java/lang/String" "value" "[B" (.ref b) ∧ Fld Z h a "java/lang/String" "coder" "B" (.int 0)) := by
  refine Con.mk (plainFor_of_name pn_11) (fun m => show entryFrame m #[(.ref a), (.ref b), (.int (0 : Int32))] 3 = mkF m 0 #[.val (.ref a), .val (.ref b), .val (.int (0 : Int32))] [] by first | (simp [entryFrame, mkF, argsToLocals, Value.category]; done) | rfl) ?_
  intro p e s m below meth c s₁ vm0 hx hby hml hown hnm hret hlk hZ X0 e0 hS hs0 hP0
  have N0 := Fr.nil n0
  refine Run.pre (fun _ k => XS.aloadN X0.here hx rfl (hb hby d11_0) rfl rfl k) ?_
  show Run p e below s _ _ _ (s₁.setTop (mkF m 1 #[.val (.ref a), .val (.ref b), .val (.int (0 : Int32))] [(.ref a)]))
  obtain ⟨T127, X127, e127, st127⟩ := initO X0 hx hZ hown (hw _ (List.mem_of_getElem? (i := 64) rfl)) (hw _ (List.mem_of_getElem? (i := 38) rfl)) (hw _ (List.mem_of_getElem? (i := 39) rfl)) e0 (g := (mkF m 1 #[.val (.ref a), .val (.ref b), .val (.int (0 : Int32))] [(.ref a)])) rfl (by rw [hml]; rfl) rfl (hb hby d11_1) (by decide) (W := 0) (by show 2 * 0 + _ ≤ _; exact Nat.le_of_eq rfl) (by decide)
  refine Run.pre st127 ?_
  refine Run.pre (fun _ k => XS.aloadN X127.here hx rfl (hb hby d11_4) rfl rfl k) ?_
  refine Run.pre (fun _ k => XS.aloadN X127.here hx rfl (hb hby d11_5) rfl rfl k) ?_
  show Run p e below s _ _ _ (T127.setTop (mkF m 6 #[.val (.ref a), .val (.ref b), .val (.int (0 : Int32))] [(.ref b), (.ref a)]))
  obtain ⟨T128, h128, X128, e128, W128, st128⟩ := putF X127 hx hZ hown (host := "") (Or.inl (hw _ (List.mem_of_getElem? (i := 17) rfl))) Via.refl e127 FV E_a (Or.inr ⟨(hw _ (List.mem_of_getElem? (i := 8) rfl)), rfl, hnm⟩) (hw _ (List.mem_of_getElem? (i := 6) rfl)) (ty := (.array .byte)) (by decide) rfl rfl (g := (mkF m 6 #[.val (.ref a), .val (.ref b), .val (.int (0 : Int32))] [(.ref b), (.ref a)])) rfl rfl (hb hby d11_6)
  refine Run.pre st128 ?_
  have Fw128 := FV.same W128
  have K128 : Keep h0 h128 [a] := (Keep.refl h0 [a]).wr W128 (Or.inl (by simp))
  have N128 := Fr.snoc X128 N0 g_a
  refine Run.pre (fun _ k => XS.aloadN X128.here hx rfl (hb hby d11_9) rfl rfl k) ?_
  refine Run.pre (fun _ k => XS.iloadN X128.here hx rfl (hb hby d11_10) rfl  k) ?_
  show Run p e below s _ _ _ (T128.setTop (mkF m 11 #[.val (.ref a), .val (.ref b), .val (.int (0 : Int32))] [(.int (0 : Int32)), (.ref a)]))
  have f129 := (E_a.wr W128)
  have f130 := (FCo.other W128 (Or.inr (slot_ne (Or.inr (hw _ (List.mem_of_getElem? (i := 9) rfl))) (Or.inr (hw _ (List.mem_of_getElem? (i := 8) rfl))) (by decide) (t := .byte) (t' := (.array .byte)) (by decide) (by decide))))
  obtain ⟨T131, h131, X131, e131, W131, st131⟩ := putFN X128 hx hZ hown (hw _ (List.mem_of_getElem? (i := 65) rfl)) Via.refl e128 f130 f129 (Or.inr ⟨(hw _ (List.mem_of_getElem? (i := 9) rfl)), rfl, hnm⟩) (hw _ (List.mem_of_getElem? (i := 6) rfl)) (ty := .byte) (v' := (.int (nar .byte (0 : Int32)))) (by decide) rfl (fits_nar_byte _) (g := (mkF m 11 #[.val (.ref a), .val (.ref b), .val (.int (0 : Int32))] [(.int (0 : Int32)), (.ref a)])) rfl rfl (hb hby d11_11)
  refine Run.pre st131 ?_
  have Fw131 := f130.same W131
  have K131 : Keep h0 h131 [a] := K128.wr W131 (Or.inl (by simp))
  have N131 := Fr.snoc X131 N128 g_a
  show Run p e below s _ _ _ (T131.setTop (mkF m 14 #[.val (.ref a), .val (.ref b), .val (.int (0 : Int32))] []))
  have f132 := (Fw128.other W131 (Or.inr (slot_ne (Or.inr (hw _ (List.mem_of_getElem? (i := 8) rfl))) (Or.inr (hw _ (List.mem_of_getElem? (i := 9) rfl))) (by decide) (t := (.array .byte)) (t' := .byte) (by decide) (by decide))))
  exact Run.retV hS (by first | exact Nat.le_refl _ | (rw [e131]; exact (Nat.le_trans (Nat.le_trans (Nat.zero_le _) (Keep.of_wr W128).1) (Keep.of_wr W131).1))) X131 hx hret hlk (hb hby d11_14) (by first | (rw [e131]; exact ⟨rfl, N131, K131, f132, Fw131⟩) | exact ⟨rfl, N131, K131, f132, Fw131⟩) (by decide) (by decide)
theorem d9_0 : decode jdk_33_method_13_code 0 = .ok (.iconst 1, 1) := by decide +kernel
theorem d9_1 : decode jdk_33_method_13_code 1 = .ok (.istore_n 1, 1) := by decide +kernel
theorem d9_2 : decode jdk_33_method_13_code 2 = .ok (.iload_n 0, 1) := by decide +kernel
theorem d9_3 : decode jdk_33_method_13_code 3 = .ok (.ifCond .lt 8, 3) := by decide +kernel
theorem d9_6 : decode jdk_33_method_13_code 6 = .ok (.iconst 0, 1) := by decide +kernel
theorem d9_7 : decode jdk_33_method_13_code 7 = .ok (.istore_n 1, 1) := by decide +kernel
theorem d9_8 : decode jdk_33_method_13_code 8 = .ok (.iload_n 0, 1) := by decide +kernel
theorem d9_9 : decode jdk_33_method_13_code 9 = .ok (.ineg, 1) := by decide +kernel
theorem d9_10 : decode jdk_33_method_13_code 10 = .ok (.istore_n 0, 1) := by decide +kernel
theorem d9_11 : decode jdk_33_method_13_code 11 = .ok (.bipush (-10), 2) := by decide +kernel
theorem d9_13 : decode jdk_33_method_13_code 13 = .ok (.istore_n 2, 1) := by decide +kernel
theorem d9_14 : decode jdk_33_method_13_code 14 = .ok (.iconst 1, 1) := by decide +kernel
theorem d9_15 : decode jdk_33_method_13_code 15 = .ok (.istore_n 3, 1) := by decide +kernel
theorem d9_16 : decode jdk_33_method_13_code 16 = .ok (.iload_n 3, 1) := by decide +kernel
theorem d9_17 : decode jdk_33_method_13_code 17 = .ok (.bipush 10, 2) := by decide +kernel
theorem d9_19 : decode jdk_33_method_13_code 19 = .ok (.if_icmp .ge 23, 3) := by decide +kernel
theorem d9_22 : decode jdk_33_method_13_code 22 = .ok (.iload_n 0, 1) := by decide +kernel
theorem d9_23 : decode jdk_33_method_13_code 23 = .ok (.iload_n 2, 1) := by decide +kernel
theorem d9_24 : decode jdk_33_method_13_code 24 = .ok (.if_icmp .le 7, 3) := by decide +kernel
theorem d9_27 : decode jdk_33_method_13_code 27 = .ok (.iload_n 3, 1) := by decide +kernel
theorem d9_28 : decode jdk_33_method_13_code 28 = .ok (.iload_n 1, 1) := by decide +kernel
theorem d9_29 : decode jdk_33_method_13_code 29 = .ok (.iadd, 1) := by decide +kernel
theorem d9_30 : decode jdk_33_method_13_code 30 = .ok (.ireturn, 1) := by decide +kernel
theorem d9_31 : decode jdk_33_method_13_code 31 = .ok (.bipush 10, 2) := by decide +kernel
theorem d9_33 : decode jdk_33_method_13_code 33 = .ok (.iload_n 2, 1) := by decide +kernel
theorem d9_34 : decode jdk_33_method_13_code 34 = .ok (.imul, 1) := by decide +kernel
theorem d9_35 : decode jdk_33_method_13_code 35 = .ok (.istore_n 2, 1) := by decide +kernel
theorem d9_36 : decode jdk_33_method_13_code 36 = .ok (.iinc 3 1, 3) := by decide +kernel
theorem d9_39 : decode jdk_33_method_13_code 39 = .ok (.goto (-23), 3) := by decide +kernel
theorem d9_42 : decode jdk_33_method_13_code 42 = .ok (.bipush 10, 2) := by decide +kernel
theorem d9_44 : decode jdk_33_method_13_code 44 = .ok (.iload_n 1, 1) := by decide +kernel
theorem d9_45 : decode jdk_33_method_13_code 45 = .ok (.iadd, 1) := by decide +kernel
theorem d9_46 : decode jdk_33_method_13_code 46 = .ok (.ireturn, 1) := by decide +kernel
theorem pn_9 : plainName "java/lang/Integer" = true := by first | (simp [plainName, overriddenIn]; done) | decide +kernel
set_option maxRecDepth 65536 in
set_option maxHeartbeats 40000000 in
theorem rmSS (l : Launch) (Z : State) (a0 : Array Value) (hw : ∀ d ∈ tables_1, d.before a0 Z = true) (mm : Nat) (h0 : Heap) (n0 : Nat) (Z0 : n0 ≤ h0.size) (hm : mm < 2147483648) :
    Con l (⟨"java/lang/Integer", "stringSize", "(I)I"⟩ : MethodName) jdk_33_method_13_code 4 (some .int) ({ frames := 0, cells := 0, slots := 0, locals := 0 } : Room) Z #[(.int (own_of mm))] h0 (fun _ => True) (fun v h L vm => v = some (.int (own_dgt mm)) ∧ Fr n0 L ∧ h = h0) := by
  refine Con.mk (plainFor_of_name pn_9) (fun m => show entryFrame m #[(.int (own_of mm))] 4 = mkF m 0 #[.val (.int (own_of mm)), .unset, .unset, .unset] [] by first | (simp [entryFrame, mkF, argsToLocals, Value.category]; done) | rfl) ?_
  intro p e s m below meth c s₁ vm0 hx hby hml hown hnm hret hlk hZ X0 e0 hS hs0 hP0
  have N0 := Fr.nil n0
  refine Run.pre (fun _ k => XS.iconst X0.here hx rfl (hb hby d9_0) k) ?_
  show Run p e below s _ _ _ (s₁.setTop (mkF m 1 #[.val (.int (own_of mm)), .unset, .unset, .unset] [(.int (1 : Int32))]))
  refine Run.pre (fun _ k => XS.istoreN X0.here hx rfl (hb hby d9_1) rfl (l' := #[.val (.int (own_of mm)), .val (.int (1 : Int32)), .unset, .unset]) rfl k) ?_
  refine Run.pre (fun _ k => XS.iloadN X0.here hx rfl (hb hby d9_2) rfl  k) ?_
  show Run p e below s _ _ _ (s₁.setTop (mkF m 3 #[.val (.int (own_of mm)), .val (.int (1 : Int32)), .unset, .unset] [(.int (own_of mm))]))
  refine Run.pre (fun _ k => XS.ifNo X0.here hx rfl (hb hby d9_3) rfl ((if0 _ _).trans (flt ((own_nofl hm (by have e : ((0 : Int32)).toInt = 0 := (by decide); omega)) : ¬ ((own_of mm) < (0 : Int32)))).1) k) ?_
  refine Run.pre (fun _ k => XS.iconst X0.here hx rfl (hb hby d9_6) k) ?_
  show Run p e below s _ _ _ (s₁.setTop (mkF m 7 #[.val (.int (own_of mm)), .val (.int (1 : Int32)), .unset, .unset] [(.int (0 : Int32))]))
  refine Run.pre (fun _ k => XS.istoreN X0.here hx rfl (hb hby d9_7) rfl (l' := #[.val (.int (own_of mm)), .val (.int (0 : Int32)), .unset, .unset]) rfl k) ?_
  refine Run.pre (fun _ k => XS.iloadN X0.here hx rfl (hb hby d9_8) rfl  k) ?_
  show Run p e below s _ _ _ (s₁.setTop (mkF m 9 #[.val (.int (own_of mm)), .val (.int (0 : Int32)), .unset, .unset] [(.int (own_of mm))]))
  refine Run.pre (fun _ k => XS.ineg X0.here hx rfl (hb hby d9_9) rfl k) ?_
  show Run p e below s _ _ _ (s₁.setTop (mkF m 10 #[.val (.int (own_of mm)), .val (.int (0 : Int32)), .unset, .unset] [(.int (-(own_of mm)))]))
  refine Run.pre (fun _ k => XS.istoreN X0.here hx rfl (hb hby d9_10) rfl (l' := #[.val (.int (-(own_of mm))), .val (.int (0 : Int32)), .unset, .unset]) rfl k) ?_
  refine Run.pre (fun _ k => XS.bipush X0.here hx rfl (hb hby d9_11) k) ?_
  show Run p e below s _ _ _ (s₁.setTop (mkF m 13 #[.val (.int (-(own_of mm))), .val (.int (0 : Int32)), .unset, .unset] [(.int (-10 : Int32))]))
  refine Run.pre (fun _ k => XS.istoreN X0.here hx rfl (hb hby d9_13) rfl (l' := #[.val (.int (-(own_of mm))), .val (.int (0 : Int32)), .val (.int (-10 : Int32)), .unset]) rfl k) ?_
  refine Run.pre (fun _ k => XS.iconst X0.here hx rfl (hb hby d9_14) k) ?_
  show Run p e below s _ _ _ (s₁.setTop (mkF m 15 #[.val (.int (-(own_of mm))), .val (.int (0 : Int32)), .val (.int (-10 : Int32)), .unset] [(.int (1 : Int32))]))
  refine Run.pre (fun _ k => XS.istoreN X0.here hx rfl (hb hby d9_15) rfl (l' := #[.val (.int (-(own_of mm))), .val (.int (0 : Int32)), .val (.int (-10 : Int32)), .val (.int (1 : Int32))]) rfl k) ?_
  refine Run.pre (fun _ k => XS.iloadN X0.here hx rfl (hb hby d9_16) rfl  k) ?_
  refine Run.pre (fun _ k => XS.bipush X0.here hx rfl (hb hby d9_17) k) ?_
  show Run p e below s _ _ _ (s₁.setTop (mkF m 19 #[.val (.int (-(own_of mm))), .val (.int (0 : Int32)), .val (.int (-10 : Int32)), .val (.int (1 : Int32))] [(.int (10 : Int32)), (.int (1 : Int32))]))
  refine Run.pre (fun _ k => XS.icmpNo X0.here hx rfl (hb hby d9_19) rfl (tlt ((by decide) : (1 : Int32) < (10 : Int32))).2.1 k) ?_
  refine Run.pre (fun _ k => XS.iloadN X0.here hx rfl (hb hby d9_22) rfl  k) ?_
  refine Run.pre (fun _ k => XS.iloadN X0.here hx rfl (hb hby d9_23) rfl  k) ?_
  show Run p e below s _ _ _ (s₁.setTop (mkF m 24 #[.val (.int (-(own_of mm))), .val (.int (0 : Int32)), .val (.int (-10 : Int32)), .val (.int (1 : Int32))] [(.int (-10 : Int32)), (.int (-(own_of mm)))]))
  by_cases hd1 : mm < 10
  · skip
    show Run p e below s _ _ _ (s₁.setTop (mkF m 24 #[.val (.int (-(own_of mm))), .val (.int (0 : Int32)), .val (.int (-10 : Int32)), .val (.int (1 : Int32))] [(.int (-10 : Int32)), (.int (-(own_of mm)))]))
    refine Run.pre (fun _ k => XS.icmpNo X0.here hx rfl (hb hby d9_24) rfl (tlt ((own_ltng hm (by have e : ((-10 : Int32)).toInt = -10 := (by decide); omega)) : (-10 : Int32) < (-(own_of mm)))).2.2.2 k) ?_
    refine Run.pre (fun _ k => XS.iloadN X0.here hx rfl (hb hby d9_27) rfl  k) ?_
    refine Run.pre (fun _ k => XS.iloadN X0.here hx rfl (hb hby d9_28) rfl  k) ?_
    show Run p e below s _ _ _ (s₁.setTop (mkF m 29 #[.val (.int (-(own_of mm))), .val (.int (0 : Int32)), .val (.int (-10 : Int32)), .val (.int (1 : Int32))] [(.int (0 : Int32)), (.int (1 : Int32))]))
    refine Run.pre (fun _ k => XS.iadd X0.here hx rfl (hb hby d9_29) rfl k) ?_
    show Run p e below s _ _ _ (s₁.setTop (mkF m 30 #[.val (.int (-(own_of mm))), .val (.int (0 : Int32)), .val (.int (-10 : Int32)), .val (.int (1 : Int32))] [(.int (1 : Int32))]))
    exact Run.retI hS (by first | exact Nat.le_refl _ | (rw [e0]; exact (Nat.zero_le _))) X0 hx hret hlk (hb hby d9_30) (by first | (rw [e0]; exact ⟨congrArg (fun z => some (Value.int z)) (own_dgt_1 (by omega) (by omega)).symm, N0, rfl⟩) | exact ⟨congrArg (fun z => some (Value.int z)) (own_dgt_1 (by omega) (by omega)).symm, N0, rfl⟩) (by decide) (by decide)
  · skip
    show Run p e below s _ _ _ (s₁.setTop (mkF m 24 #[.val (.int (-(own_of mm))), .val (.int (0 : Int32)), .val (.int (-10 : Int32)), .val (.int (1 : Int32))] [(.int (-10 : Int32)), (.int (-(own_of mm)))]))
    refine Run.pre (fun _ k => XS.icmpYes X0.here hx rfl (pc0 := 24) (pc' := 31) rfl (hb hby d9_24) rfl (flt ((own_nltng hm (by have e : ((-10 : Int32)).toInt = -10 := (by decide); omega)) : ¬ ((-10 : Int32) < (-(own_of mm))))).2.2.2 (by decide) (by decide) k) ?_
    refine Run.pre (fun _ k => XS.bipush X0.here hx rfl (hb hby d9_31) k) ?_
    refine Run.pre (fun _ k => XS.iloadN X0.here hx rfl (hb hby d9_33) rfl  k) ?_
    show Run p e below s _ _ _ (s₁.setTop (mkF m 34 #[.val (.int (-(own_of mm))), .val (.int (0 : Int32)), .val (.int (-10 : Int32)), .val (.int (1 : Int32))] [(.int (-10 : Int32)), (.int (10 : Int32))]))
    refine Run.pre (fun _ k => XS.imul X0.here hx rfl (hb hby d9_34) rfl k) ?_
    show Run p e below s _ _ _ (s₁.setTop (mkF m 35 #[.val (.int (-(own_of mm))), .val (.int (0 : Int32)), .val (.int (-10 : Int32)), .val (.int (1 : Int32))] [(.int (-100 : Int32))]))
    refine Run.pre (fun _ k => XS.istoreN X0.here hx rfl (hb hby d9_35) rfl (l' := #[.val (.int (-(own_of mm))), .val (.int (0 : Int32)), .val (.int (-100 : Int32)), .val (.int (1 : Int32))]) rfl k) ?_
    show Run p e below s _ _ _ (s₁.setTop (mkF m 36 #[.val (.int (-(own_of mm))), .val (.int (0 : Int32)), .val (.int (-100 : Int32)), .val (.int (1 : Int32))] []))
    refine Run.pre (fun _ k => XS.iinc X0.here hx rfl (hb hby d9_36) rfl (l' := #[.val (.int (-(own_of mm))), .val (.int (0 : Int32)), .val (.int (-100 : Int32)), .val (.int (2 : Int32))]) rfl k) ?_
    refine Run.pre (fun _ k => XS.goto X0.here hx rfl (pc0 := 39) (pc' := 16) rfl (hb hby d9_39) (by decide) (by decide) k) ?_
    refine Run.pre (fun _ k => XS.iloadN X0.here hx rfl (hb hby d9_16) rfl  k) ?_
    refine Run.pre (fun _ k => XS.bipush X0.here hx rfl (hb hby d9_17) k) ?_
    show Run p e below s _ _ _ (s₁.setTop (mkF m 19 #[.val (.int (-(own_of mm))), .val (.int (0 : Int32)), .val (.int (-100 : Int32)), .val (.int (2 : Int32))] [(.int (10 : Int32)), (.int (2 : Int32))]))
    refine Run.pre (fun _ k => XS.icmpNo X0.here hx rfl (hb hby d9_19) rfl (tlt ((by decide) : (2 : Int32) < (10 : Int32))).2.1 k) ?_
    refine Run.pre (fun _ k => XS.iloadN X0.here hx rfl (hb hby d9_22) rfl  k) ?_
    refine Run.pre (fun _ k => XS.iloadN X0.here hx rfl (hb hby d9_23) rfl  k) ?_
    show Run p e below s _ _ _ (s₁.setTop (mkF m 24 #[.val (.int (-(own_of mm))), .val (.int (0 : Int32)), .val (.int (-100 : Int32)), .val (.int (2 : Int32))] [(.int (-100 : Int32)), (.int (-(own_of mm)))]))
    by_cases hd2 : mm < 100
    · skip
      show Run p e below s _ _ _ (s₁.setTop (mkF m 24 #[.val (.int (-(own_of mm))), .val (.int (0 : Int32)), .val (.int (-100 : Int32)), .val (.int (2 : Int32))] [(.int (-100 : Int32)), (.int (-(own_of mm)))]))
      refine Run.pre (fun _ k => XS.icmpNo X0.here hx rfl (hb hby d9_24) rfl (tlt ((own_ltng hm (by have e : ((-100 : Int32)).toInt = -100 := (by decide); omega)) : (-100 : Int32) < (-(own_of mm)))).2.2.2 k) ?_
      refine Run.pre (fun _ k => XS.iloadN X0.here hx rfl (hb hby d9_27) rfl  k) ?_
      refine Run.pre (fun _ k => XS.iloadN X0.here hx rfl (hb hby d9_28) rfl  k) ?_
      show Run p e below s _ _ _ (s₁.setTop (mkF m 29 #[.val (.int (-(own_of mm))), .val (.int (0 : Int32)), .val (.int (-100 : Int32)), .val (.int (2 : Int32))] [(.int (0 : Int32)), (.int (2 : Int32))]))
      refine Run.pre (fun _ k => XS.iadd X0.here hx rfl (hb hby d9_29) rfl k) ?_
      show Run p e below s _ _ _ (s₁.setTop (mkF m 30 #[.val (.int (-(own_of mm))), .val (.int (0 : Int32)), .val (.int (-100 : Int32)), .val (.int (2 : Int32))] [(.int (2 : Int32))]))
      exact Run.retI hS (by first | exact Nat.le_refl _ | (rw [e0]; exact (Nat.zero_le _))) X0 hx hret hlk (hb hby d9_30) (by first | (rw [e0]; exact ⟨congrArg (fun z => some (Value.int z)) (own_dgt_2 (by omega) (by omega)).symm, N0, rfl⟩) | exact ⟨congrArg (fun z => some (Value.int z)) (own_dgt_2 (by omega) (by omega)).symm, N0, rfl⟩) (by decide) (by decide)
    · skip
      show Run p e below s _ _ _ (s₁.setTop (mkF m 24 #[.val (.int (-(own_of mm))), .val (.int (0 : Int32)), .val (.int (-100 : Int32)), .val (.int (2 : Int32))] [(.int (-100 : Int32)), (.int (-(own_of mm)))]))
      refine Run.pre (fun _ k => XS.icmpYes X0.here hx rfl (pc0 := 24) (pc' := 31) rfl (hb hby d9_24) rfl (flt ((own_nltng hm (by have e : ((-100 : Int32)).toInt = -100 := (by decide); omega)) : ¬ ((-100 : Int32) < (-(own_of mm))))).2.2.2 (by decide) (by decide) k) ?_
      refine Run.pre (fun _ k => XS.bipush X0.here hx rfl (hb hby d9_31) k) ?_
      refine Run.pre (fun _ k => XS.iloadN X0.here hx rfl (hb hby d9_33) rfl  k) ?_
      show Run p e below s _ _ _ (s₁.setTop (mkF m 34 #[.val (.int (-(own_of mm))), .val (.int (0 : Int32)), .val (.int (-100 : Int32)), .val (.int (2 : Int32))] [(.int (-100 : Int32)), (.int (10 : Int32))]))
      refine Run.pre (fun _ k => XS.imul X0.here hx rfl (hb hby d9_34) rfl k) ?_
      show Run p e below s _ _ _ (s₁.setTop (mkF m 35 #[.val (.int (-(own_of mm))), .val (.int (0 : Int32)), .val (.int (-100 : Int32)), .val (.int (2 : Int32))] [(.int (-1000 : Int32))]))
      refine Run.pre (fun _ k => XS.istoreN X0.here hx rfl (hb hby d9_35) rfl (l' := #[.val (.int (-(own_of mm))), .val (.int (0 : Int32)), .val (.int (-1000 : Int32)), .val (.int (2 : Int32))]) rfl k) ?_
      show Run p e below s _ _ _ (s₁.setTop (mkF m 36 #[.val (.int (-(own_of mm))), .val (.int (0 : Int32)), .val (.int (-1000 : Int32)), .val (.int (2 : Int32))] []))
      refine Run.pre (fun _ k => XS.iinc X0.here hx rfl (hb hby d9_36) rfl (l' := #[.val (.int (-(own_of mm))), .val (.int (0 : Int32)), .val (.int (-1000 : Int32)), .val (.int (3 : Int32))]) rfl k) ?_
      refine Run.pre (fun _ k => XS.goto X0.here hx rfl (pc0 := 39) (pc' := 16) rfl (hb hby d9_39) (by decide) (by decide) k) ?_
      refine Run.pre (fun _ k => XS.iloadN X0.here hx rfl (hb hby d9_16) rfl  k) ?_
      refine Run.pre (fun _ k => XS.bipush X0.here hx rfl (hb hby d9_17) k) ?_
      show Run p e below s _ _ _ (s₁.setTop (mkF m 19 #[.val (.int (-(own_of mm))), .val (.int (0 : Int32)), .val (.int (-1000 : Int32)), .val (.int (3 : Int32))] [(.int (10 : Int32)), (.int (3 : Int32))]))
      refine Run.pre (fun _ k => XS.icmpNo X0.here hx rfl (hb hby d9_19) rfl (tlt ((by decide) : (3 : Int32) < (10 : Int32))).2.1 k) ?_
      refine Run.pre (fun _ k => XS.iloadN X0.here hx rfl (hb hby d9_22) rfl  k) ?_
      refine Run.pre (fun _ k => XS.iloadN X0.here hx rfl (hb hby d9_23) rfl  k) ?_
      show Run p e below s _ _ _ (s₁.setTop (mkF m 24 #[.val (.int (-(own_of mm))), .val (.int (0 : Int32)), .val (.int (-1000 : Int32)), .val (.int (3 : Int32))] [(.int (-1000 : Int32)), (.int (-(own_of mm)))]))
      by_cases hd3 : mm < 1000
      · skip
        show Run p e below s _ _ _ (s₁.setTop (mkF m 24 #[.val (.int (-(own_of mm))), .val (.int (0 : Int32)), .val (.int (-1000 : Int32)), .val (.int (3 : Int32))] [(.int (-1000 : Int32)), (.int (-(own_of mm)))]))
        refine Run.pre (fun _ k => XS.icmpNo X0.here hx rfl (hb hby d9_24) rfl (tlt ((own_ltng hm (by have e : ((-1000 : Int32)).toInt = -1000 := (by decide); omega)) : (-1000 : Int32) < (-(own_of mm)))).2.2.2 k) ?_
        refine Run.pre (fun _ k => XS.iloadN X0.here hx rfl (hb hby d9_27) rfl  k) ?_
        refine Run.pre (fun _ k => XS.iloadN X0.here hx rfl (hb hby d9_28) rfl  k) ?_
        show Run p e below s _ _ _ (s₁.setTop (mkF m 29 #[.val (.int (-(own_of mm))), .val (.int (0 : Int32)), .val (.int (-1000 : Int32)), .val (.int (3 : Int32))] [(.int (0 : Int32)), (.int (3 : Int32))]))
        refine Run.pre (fun _ k => XS.iadd X0.here hx rfl (hb hby d9_29) rfl k) ?_
        show Run p e below s _ _ _ (s₁.setTop (mkF m 30 #[.val (.int (-(own_of mm))), .val (.int (0 : Int32)), .val (.int (-1000 : Int32)), .val (.int (3 : Int32))] [(.int (3 : Int32))]))
        exact Run.retI hS (by first | exact Nat.le_refl _ | (rw [e0]; exact (Nat.zero_le _))) X0 hx hret hlk (hb hby d9_30) (by first | (rw [e0]; exact ⟨congrArg (fun z => some (Value.int z)) (own_dgt_3 (by omega) (by omega)).symm, N0, rfl⟩) | exact ⟨congrArg (fun z => some (Value.int z)) (own_dgt_3 (by omega) (by omega)).symm, N0, rfl⟩) (by decide) (by decide)
      · skip
        show Run p e below s _ _ _ (s₁.setTop (mkF m 24 #[.val (.int (-(own_of mm))), .val (.int (0 : Int32)), .val (.int (-1000 : Int32)), .val (.int (3 : Int32))] [(.int (-1000 : Int32)), (.int (-(own_of mm)))]))
        refine Run.pre (fun _ k => XS.icmpYes X0.here hx rfl (pc0 := 24) (pc' := 31) rfl (hb hby d9_24) rfl (flt ((own_nltng hm (by have e : ((-1000 : Int32)).toInt = -1000 := (by decide); omega)) : ¬ ((-1000 : Int32) < (-(own_of mm))))).2.2.2 (by decide) (by decide) k) ?_
        refine Run.pre (fun _ k => XS.bipush X0.here hx rfl (hb hby d9_31) k) ?_
        refine Run.pre (fun _ k => XS.iloadN X0.here hx rfl (hb hby d9_33) rfl  k) ?_
        show Run p e below s _ _ _ (s₁.setTop (mkF m 34 #[.val (.int (-(own_of mm))), .val (.int (0 : Int32)), .val (.int (-1000 : Int32)), .val (.int (3 : Int32))] [(.int (-1000 : Int32)), (.int (10 : Int32))]))
        refine Run.pre (fun _ k => XS.imul X0.here hx rfl (hb hby d9_34) rfl k) ?_
        show Run p e below s _ _ _ (s₁.setTop (mkF m 35 #[.val (.int (-(own_of mm))), .val (.int (0 : Int32)), .val (.int (-1000 : Int32)), .val (.int (3 : Int32))] [(.int (-10000 : Int32))]))
        refine Run.pre (fun _ k => XS.istoreN X0.here hx rfl (hb hby d9_35) rfl (l' := #[.val (.int (-(own_of mm))), .val (.int (0 : Int32)), .val (.int (-10000 : Int32)), .val (.int (3 : Int32))]) rfl k) ?_
        show Run p e below s _ _ _ (s₁.setTop (mkF m 36 #[.val (.int (-(own_of mm))), .val (.int (0 : Int32)), .val (.int (-10000 : Int32)), .val (.int (3 : Int32))] []))
        refine Run.pre (fun _ k => XS.iinc X0.here hx rfl (hb hby d9_36) rfl (l' := #[.val (.int (-(own_of mm))), .val (.int (0 : Int32)), .val (.int (-10000 : Int32)), .val (.int (4 : Int32))]) rfl k) ?_
        refine Run.pre (fun _ k => XS.goto X0.here hx rfl (pc0 := 39) (pc' := 16) rfl (hb hby d9_39) (by decide) (by decide) k) ?_
        refine Run.pre (fun _ k => XS.iloadN X0.here hx rfl (hb hby d9_16) rfl  k) ?_
        refine Run.pre (fun _ k => XS.bipush X0.here hx rfl (hb hby d9_17) k) ?_
        show Run p e below s _ _ _ (s₁.setTop (mkF m 19 #[.val (.int (-(own_of mm))), .val (.int (0 : Int32)), .val (.int (-10000 : Int32)), .val (.int (4 : Int32))] [(.int (10 : Int32)), (.int (4 : Int32))]))
        refine Run.pre (fun _ k => XS.icmpNo X0.here hx rfl (hb hby d9_19) rfl (tlt ((by decide) : (4 : Int32) < (10 : Int32))).2.1 k) ?_
        refine Run.pre (fun _ k => XS.iloadN X0.here hx rfl (hb hby d9_22) rfl  k) ?_
        refine Run.pre (fun _ k => XS.iloadN X0.here hx rfl (hb hby d9_23) rfl  k) ?_
        show Run p e below s _ _ _ (s₁.setTop (mkF m 24 #[.val (.int (-(own_of mm))), .val (.int (0 : Int32)), .val (.int (-10000 : Int32)), .val (.int (4 : Int32))] [(.int (-10000 : Int32)), (.int (-(own_of mm)))]))
        by_cases hd4 : mm < 10000
        · skip
          show Run p e below s _ _ _ (s₁.setTop (mkF m 24 #[.val (.int (-(own_of mm))), .val (.int (0 : Int32)), .val (.int (-10000 : Int32)), .val (.int (4 : Int32))] [(.int (-10000 : Int32)), (.int (-(own_of mm)))]))
          refine Run.pre (fun _ k => XS.icmpNo X0.here hx rfl (hb hby d9_24) rfl (tlt ((own_ltng hm (by have e : ((-10000 : Int32)).toInt = -10000 := (by decide); omega)) : (-10000 : Int32) < (-(own_of mm)))).2.2.2 k) ?_
          refine Run.pre (fun _ k => XS.iloadN X0.here hx rfl (hb hby d9_27) rfl  k) ?_
          refine Run.pre (fun _ k => XS.iloadN X0.here hx rfl (hb hby d9_28) rfl  k) ?_
          show Run p e below s _ _ _ (s₁.setTop (mkF m 29 #[.val (.int (-(own_of mm))), .val (.int (0 : Int32)), .val (.int (-10000 : Int32)), .val (.int (4 : Int32))] [(.int (0 : Int32)), (.int (4 : Int32))]))
          refine Run.pre (fun _ k => XS.iadd X0.here hx rfl (hb hby d9_29) rfl k) ?_
          show Run p e below s _ _ _ (s₁.setTop (mkF m 30 #[.val (.int (-(own_of mm))), .val (.int (0 : Int32)), .val (.int (-10000 : Int32)), .val (.int (4 : Int32))] [(.int (4 : Int32))]))
          exact Run.retI hS (by first | exact Nat.le_refl _ | (rw [e0]; exact (Nat.zero_le _))) X0 hx hret hlk (hb hby d9_30) (by first | (rw [e0]; exact ⟨congrArg (fun z => some (Value.int z)) (own_dgt_4 (by omega) (by omega)).symm, N0, rfl⟩) | exact ⟨congrArg (fun z => some (Value.int z)) (own_dgt_4 (by omega) (by omega)).symm, N0, rfl⟩) (by decide) (by decide)
        · skip
          show Run p e below s _ _ _ (s₁.setTop (mkF m 24 #[.val (.int (-(own_of mm))), .val (.int (0 : Int32)), .val (.int (-10000 : Int32)), .val (.int (4 : Int32))] [(.int (-10000 : Int32)), (.int (-(own_of mm)))]))
          refine Run.pre (fun _ k => XS.icmpYes X0.here hx rfl (pc0 := 24) (pc' := 31) rfl (hb hby d9_24) rfl (flt ((own_nltng hm (by have e : ((-10000 : Int32)).toInt = -10000 := (by decide); omega)) : ¬ ((-10000 : Int32) < (-(own_of mm))))).2.2.2 (by decide) (by decide) k) ?_
          refine Run.pre (fun _ k => XS.bipush X0.here hx rfl (hb hby d9_31) k) ?_
          refine Run.pre (fun _ k => XS.iloadN X0.here hx rfl (hb hby d9_33) rfl  k) ?_
          show Run p e below s _ _ _ (s₁.setTop (mkF m 34 #[.val (.int (-(own_of mm))), .val (.int (0 : Int32)), .val (.int (-10000 : Int32)), .val (.int (4 : Int32))] [(.int (-10000 : Int32)), (.int (10 : Int32))]))
          refine Run.pre (fun _ k => XS.imul X0.here hx rfl (hb hby d9_34) rfl k) ?_
          show Run p e below s _ _ _ (s₁.setTop (mkF m 35 #[.val (.int (-(own_of mm))), .val (.int (0 : Int32)), .val (.int (-10000 : Int32)), .val (.int (4 : Int32))] [(.int (-100000 : Int32))]))
          refine Run.pre (fun _ k => XS.istoreN X0.here hx rfl (hb hby d9_35) rfl (l' := #[.val (.int (-(own_of mm))), .val (.int (0 : Int32)), .val (.int (-100000 : Int32)), .val (.int (4 : Int32))]) rfl k) ?_
          show Run p e below s _ _ _ (s₁.setTop (mkF m 36 #[.val (.int (-(own_of mm))), .val (.int (0 : Int32)), .val (.int (-100000 : Int32)), .val (.int (4 : Int32))] []))
          refine Run.pre (fun _ k => XS.iinc X0.here hx rfl (hb hby d9_36) rfl (l' := #[.val (.int (-(own_of mm))), .val (.int (0 : Int32)), .val (.int (-100000 : Int32)), .val (.int (5 : Int32))]) rfl k) ?_
          refine Run.pre (fun _ k => XS.goto X0.here hx rfl (pc0 := 39) (pc' := 16) rfl (hb hby d9_39) (by decide) (by decide) k) ?_
          refine Run.pre (fun _ k => XS.iloadN X0.here hx rfl (hb hby d9_16) rfl  k) ?_
          refine Run.pre (fun _ k => XS.bipush X0.here hx rfl (hb hby d9_17) k) ?_
          show Run p e below s _ _ _ (s₁.setTop (mkF m 19 #[.val (.int (-(own_of mm))), .val (.int (0 : Int32)), .val (.int (-100000 : Int32)), .val (.int (5 : Int32))] [(.int (10 : Int32)), (.int (5 : Int32))]))
          refine Run.pre (fun _ k => XS.icmpNo X0.here hx rfl (hb hby d9_19) rfl (tlt ((by decide) : (5 : Int32) < (10 : Int32))).2.1 k) ?_
          refine Run.pre (fun _ k => XS.iloadN X0.here hx rfl (hb hby d9_22) rfl  k) ?_
          refine Run.pre (fun _ k => XS.iloadN X0.here hx rfl (hb hby d9_23) rfl  k) ?_
          show Run p e below s _ _ _ (s₁.setTop (mkF m 24 #[.val (.int (-(own_of mm))), .val (.int (0 : Int32)), .val (.int (-100000 : Int32)), .val (.int (5 : Int32))] [(.int (-100000 : Int32)), (.int (-(own_of mm)))]))
          by_cases hd5 : mm < 100000
          · skip
            show Run p e below s _ _ _ (s₁.setTop (mkF m 24 #[.val (.int (-(own_of mm))), .val (.int (0 : Int32)), .val (.int (-100000 : Int32)), .val (.int (5 : Int32))] [(.int (-100000 : Int32)), (.int (-(own_of mm)))]))
            refine Run.pre (fun _ k => XS.icmpNo X0.here hx rfl (hb hby d9_24) rfl (tlt ((own_ltng hm (by have e : ((-100000 : Int32)).toInt = -100000 := (by decide); omega)) : (-100000 : Int32) < (-(own_of mm)))).2.2.2 k) ?_
            refine Run.pre (fun _ k => XS.iloadN X0.here hx rfl (hb hby d9_27) rfl  k) ?_
            refine Run.pre (fun _ k => XS.iloadN X0.here hx rfl (hb hby d9_28) rfl  k) ?_
            show Run p e below s _ _ _ (s₁.setTop (mkF m 29 #[.val (.int (-(own_of mm))), .val (.int (0 : Int32)), .val (.int (-100000 : Int32)), .val (.int (5 : Int32))] [(.int (0 : Int32)), (.int (5 : Int32))]))
            refine Run.pre (fun _ k => XS.iadd X0.here hx rfl (hb hby d9_29) rfl k) ?_
            show Run p e below s _ _ _ (s₁.setTop (mkF m 30 #[.val (.int (-(own_of mm))), .val (.int (0 : Int32)), .val (.int (-100000 : Int32)), .val (.int (5 : Int32))] [(.int (5 : Int32))]))
            exact Run.retI hS (by first | exact Nat.le_refl _ | (rw [e0]; exact (Nat.zero_le _))) X0 hx hret hlk (hb hby d9_30) (by first | (rw [e0]; exact ⟨congrArg (fun z => some (Value.int z)) (own_dgt_5 (by omega) (by omega)).symm, N0, rfl⟩) | exact ⟨congrArg (fun z => some (Value.int z)) (own_dgt_5 (by omega) (by omega)).symm, N0, rfl⟩) (by decide) (by decide)
          · skip
            show Run p e below s _ _ _ (s₁.setTop (mkF m 24 #[.val (.int (-(own_of mm))), .val (.int (0 : Int32)), .val (.int (-100000 : Int32)), .val (.int (5 : Int32))] [(.int (-100000 : Int32)), (.int (-(own_of mm)))]))
            refine Run.pre (fun _ k => XS.icmpYes X0.here hx rfl (pc0 := 24) (pc' := 31) rfl (hb hby d9_24) rfl (flt ((own_nltng hm (by have e : ((-100000 : Int32)).toInt = -100000 := (by decide); omega)) : ¬ ((-100000 : Int32) < (-(own_of mm))))).2.2.2 (by decide) (by decide) k) ?_
            refine Run.pre (fun _ k => XS.bipush X0.here hx rfl (hb hby d9_31) k) ?_
            refine Run.pre (fun _ k => XS.iloadN X0.here hx rfl (hb hby d9_33) rfl  k) ?_
            show Run p e below s _ _ _ (s₁.setTop (mkF m 34 #[.val (.int (-(own_of mm))), .val (.int (0 : Int32)), .val (.int (-100000 : Int32)), .val (.int (5 : Int32))] [(.int (-100000 : Int32)), (.int (10 : Int32))]))
            refine Run.pre (fun _ k => XS.imul X0.here hx rfl (hb hby d9_34) rfl k) ?_
            show Run p e below s _ _ _ (s₁.setTop (mkF m 35 #[.val (.int (-(own_of mm))), .val (.int (0 : Int32)), .val (.int (-100000 : Int32)), .val (.int (5 : Int32))] [(.int (-1000000 : Int32))]))
            refine Run.pre (fun _ k => XS.istoreN X0.here hx rfl (hb hby d9_35) rfl (l' := #[.val (.int (-(own_of mm))), .val (.int (0 : Int32)), .val (.int (-1000000 : Int32)), .val (.int (5 : Int32))]) rfl k) ?_
            show Run p e below s _ _ _ (s₁.setTop (mkF m 36 #[.val (.int (-(own_of mm))), .val (.int (0 : Int32)), .val (.int (-1000000 : Int32)), .val (.int (5 : Int32))] []))
            refine Run.pre (fun _ k => XS.iinc X0.here hx rfl (hb hby d9_36) rfl (l' := #[.val (.int (-(own_of mm))), .val (.int (0 : Int32)), .val (.int (-1000000 : Int32)), .val (.int (6 : Int32))]) rfl k) ?_
            refine Run.pre (fun _ k => XS.goto X0.here hx rfl (pc0 := 39) (pc' := 16) rfl (hb hby d9_39) (by decide) (by decide) k) ?_
            refine Run.pre (fun _ k => XS.iloadN X0.here hx rfl (hb hby d9_16) rfl  k) ?_
            refine Run.pre (fun _ k => XS.bipush X0.here hx rfl (hb hby d9_17) k) ?_
            show Run p e below s _ _ _ (s₁.setTop (mkF m 19 #[.val (.int (-(own_of mm))), .val (.int (0 : Int32)), .val (.int (-1000000 : Int32)), .val (.int (6 : Int32))] [(.int (10 : Int32)), (.int (6 : Int32))]))
            refine Run.pre (fun _ k => XS.icmpNo X0.here hx rfl (hb hby d9_19) rfl (tlt ((by decide) : (6 : Int32) < (10 : Int32))).2.1 k) ?_
            refine Run.pre (fun _ k => XS.iloadN X0.here hx rfl (hb hby d9_22) rfl  k) ?_
            refine Run.pre (fun _ k => XS.iloadN X0.here hx rfl (hb hby d9_23) rfl  k) ?_
            show Run p e below s _ _ _ (s₁.setTop (mkF m 24 #[.val (.int (-(own_of mm))), .val (.int (0 : Int32)), .val (.int (-1000000 : Int32)), .val (.int (6 : Int32))] [(.int (-1000000 : Int32)), (.int (-(own_of mm)))]))
            by_cases hd6 : mm < 1000000
            · skip
              show Run p e below s _ _ _ (s₁.setTop (mkF m 24 #[.val (.int (-(own_of mm))), .val (.int (0 : Int32)), .val (.int (-1000000 : Int32)), .val (.int (6 : Int32))] [(.int (-1000000 : Int32)), (.int (-(own_of mm)))]))
              refine Run.pre (fun _ k => XS.icmpNo X0.here hx rfl (hb hby d9_24) rfl (tlt ((own_ltng hm (by have e : ((-1000000 : Int32)).toInt = -1000000 := (by decide); omega)) : (-1000000 : Int32) < (-(own_of mm)))).2.2.2 k) ?_
              refine Run.pre (fun _ k => XS.iloadN X0.here hx rfl (hb hby d9_27) rfl  k) ?_
              refine Run.pre (fun _ k => XS.iloadN X0.here hx rfl (hb hby d9_28) rfl  k) ?_
              show Run p e below s _ _ _ (s₁.setTop (mkF m 29 #[.val (.int (-(own_of mm))), .val (.int (0 : Int32)), .val (.int (-1000000 : Int32)), .val (.int (6 : Int32))] [(.int (0 : Int32)), (.int (6 : Int32))]))
              refine Run.pre (fun _ k => XS.iadd X0.here hx rfl (hb hby d9_29) rfl k) ?_
              show Run p e below s _ _ _ (s₁.setTop (mkF m 30 #[.val (.int (-(own_of mm))), .val (.int (0 : Int32)), .val (.int (-1000000 : Int32)), .val (.int (6 : Int32))] [(.int (6 : Int32))]))
              exact Run.retI hS (by first | exact Nat.le_refl _ | (rw [e0]; exact (Nat.zero_le _))) X0 hx hret hlk (hb hby d9_30) (by first | (rw [e0]; exact ⟨congrArg (fun z => some (Value.int z)) (own_dgt_6 (by omega) (by omega)).symm, N0, rfl⟩) | exact ⟨congrArg (fun z => some (Value.int z)) (own_dgt_6 (by omega) (by omega)).symm, N0, rfl⟩) (by decide) (by decide)
            · skip
              show Run p e below s _ _ _ (s₁.setTop (mkF m 24 #[.val (.int (-(own_of mm))), .val (.int (0 : Int32)), .val (.int (-1000000 : Int32)), .val (.int (6 : Int32))] [(.int (-1000000 : Int32)), (.int (-(own_of mm)))]))
              refine Run.pre (fun _ k => XS.icmpYes X0.here hx rfl (pc0 := 24) (pc' := 31) rfl (hb hby d9_24) rfl (flt ((own_nltng hm (by have e : ((-1000000 : Int32)).toInt = -1000000 := (by decide); omega)) : ¬ ((-1000000 : Int32) < (-(own_of mm))))).2.2.2 (by decide) (by decide) k) ?_
              refine Run.pre (fun _ k => XS.bipush X0.here hx rfl (hb hby d9_31) k) ?_
              refine Run.pre (fun _ k => XS.iloadN X0.here hx rfl (hb hby d9_33) rfl  k) ?_
              show Run p e below s _ _ _ (s₁.setTop (mkF m 34 #[.val (.int (-(own_of mm))), .val (.int (0 : Int32)), .val (.int (-1000000 : Int32)), .val (.int (6 : Int32))] [(.int (-1000000 : Int32)), (.int (10 : Int32))]))
              refine Run.pre (fun _ k => XS.imul X0.here hx rfl (hb hby d9_34) rfl k) ?_
              show Run p e below s _ _ _ (s₁.setTop (mkF m 35 #[.val (.int (-(own_of mm))), .val (.int (0 : Int32)), .val (.int (-1000000 : Int32)), .val (.int (6 : Int32))] [(.int (-10000000 : Int32))]))
              refine Run.pre (fun _ k => XS.istoreN X0.here hx rfl (hb hby d9_35) rfl (l' := #[.val (.int (-(own_of mm))), .val (.int (0 : Int32)), .val (.int (-10000000 : Int32)), .val (.int (6 : Int32))]) rfl k) ?_
              show Run p e below s _ _ _ (s₁.setTop (mkF m 36 #[.val (.int (-(own_of mm))), .val (.int (0 : Int32)), .val (.int (-10000000 : Int32)), .val (.int (6 : Int32))] []))
              refine Run.pre (fun _ k => XS.iinc X0.here hx rfl (hb hby d9_36) rfl (l' := #[.val (.int (-(own_of mm))), .val (.int (0 : Int32)), .val (.int (-10000000 : Int32)), .val (.int (7 : Int32))]) rfl k) ?_
              refine Run.pre (fun _ k => XS.goto X0.here hx rfl (pc0 := 39) (pc' := 16) rfl (hb hby d9_39) (by decide) (by decide) k) ?_
              refine Run.pre (fun _ k => XS.iloadN X0.here hx rfl (hb hby d9_16) rfl  k) ?_
              refine Run.pre (fun _ k => XS.bipush X0.here hx rfl (hb hby d9_17) k) ?_
              show Run p e below s _ _ _ (s₁.setTop (mkF m 19 #[.val (.int (-(own_of mm))), .val (.int (0 : Int32)), .val (.int (-10000000 : Int32)), .val (.int (7 : Int32))] [(.int (10 : Int32)), (.int (7 : Int32))]))
              refine Run.pre (fun _ k => XS.icmpNo X0.here hx rfl (hb hby d9_19) rfl (tlt ((by decide) : (7 : Int32) < (10 : Int32))).2.1 k) ?_
              refine Run.pre (fun _ k => XS.iloadN X0.here hx rfl (hb hby d9_22) rfl  k) ?_
              refine Run.pre (fun _ k => XS.iloadN X0.here hx rfl (hb hby d9_23) rfl  k) ?_
              show Run p e below s _ _ _ (s₁.setTop (mkF m 24 #[.val (.int (-(own_of mm))), .val (.int (0 : Int32)), .val (.int (-10000000 : Int32)), .val (.int (7 : Int32))] [(.int (-10000000 : Int32)), (.int (-(own_of mm)))]))
              by_cases hd7 : mm < 10000000
              · skip
                show Run p e below s _ _ _ (s₁.setTop (mkF m 24 #[.val (.int (-(own_of mm))), .val (.int (0 : Int32)), .val (.int (-10000000 : Int32)), .val (.int (7 : Int32))] [(.int (-10000000 : Int32)), (.int (-(own_of mm)))]))
                refine Run.pre (fun _ k => XS.icmpNo X0.here hx rfl (hb hby d9_24) rfl (tlt ((own_ltng hm (by have e : ((-10000000 : Int32)).toInt = -10000000 := (by decide); omega)) : (-10000000 : Int32) < (-(own_of mm)))).2.2.2 k) ?_
                refine Run.pre (fun _ k => XS.iloadN X0.here hx rfl (hb hby d9_27) rfl  k) ?_
                refine Run.pre (fun _ k => XS.iloadN X0.here hx rfl (hb hby d9_28) rfl  k) ?_
                show Run p e below s _ _ _ (s₁.setTop (mkF m 29 #[.val (.int (-(own_of mm))), .val (.int (0 : Int32)), .val (.int (-10000000 : Int32)), .val (.int (7 : Int32))] [(.int (0 : Int32)), (.int (7 : Int32))]))
                refine Run.pre (fun _ k => XS.iadd X0.here hx rfl (hb hby d9_29) rfl k) ?_
                show Run p e below s _ _ _ (s₁.setTop (mkF m 30 #[.val (.int (-(own_of mm))), .val (.int (0 : Int32)), .val (.int (-10000000 : Int32)), .val (.int (7 : Int32))] [(.int (7 : Int32))]))
                exact Run.retI hS (by first | exact Nat.le_refl _ | (rw [e0]; exact (Nat.zero_le _))) X0 hx hret hlk (hb hby d9_30) (by first | (rw [e0]; exact ⟨congrArg (fun z => some (Value.int z)) (own_dgt_7 (by omega) (by omega)).symm, N0, rfl⟩) | exact ⟨congrArg (fun z => some (Value.int z)) (own_dgt_7 (by omega) (by omega)).symm, N0, rfl⟩) (by decide) (by decide)
              · skip
                show Run p e below s _ _ _ (s₁.setTop (mkF m 24 #[.val (.int (-(own_of mm))), .val (.int (0 : Int32)), .val (.int (-10000000 : Int32)), .val (.int (7 : Int32))] [(.int (-10000000 : Int32)), (.int (-(own_of mm)))]))
                refine Run.pre (fun _ k => XS.icmpYes X0.here hx rfl (pc0 := 24) (pc' := 31) rfl (hb hby d9_24) rfl (flt ((own_nltng hm (by have e : ((-10000000 : Int32)).toInt = -10000000 := (by decide); omega)) : ¬ ((-10000000 : Int32) < (-(own_of mm))))).2.2.2 (by decide) (by decide) k) ?_
                refine Run.pre (fun _ k => XS.bipush X0.here hx rfl (hb hby d9_31) k) ?_
                refine Run.pre (fun _ k => XS.iloadN X0.here hx rfl (hb hby d9_33) rfl  k) ?_
                show Run p e below s _ _ _ (s₁.setTop (mkF m 34 #[.val (.int (-(own_of mm))), .val (.int (0 : Int32)), .val (.int (-10000000 : Int32)), .val (.int (7 : Int32))] [(.int (-10000000 : Int32)), (.int (10 : Int32))]))
                refine Run.pre (fun _ k => XS.imul X0.here hx rfl (hb hby d9_34) rfl k) ?_
                show Run p e below s _ _ _ (s₁.setTop (mkF m 35 #[.val (.int (-(own_of mm))), .val (.int (0 : Int32)), .val (.int (-10000000 : Int32)), .val (.int (7 : Int32))] [(.int (-100000000 : Int32))]))
                refine Run.pre (fun _ k => XS.istoreN X0.here hx rfl (hb hby d9_35) rfl (l' := #[.val (.int (-(own_of mm))), .val (.int (0 : Int32)), .val (.int (-100000000 : Int32)), .val (.int (7 : Int32))]) rfl k) ?_
                show Run p e below s _ _ _ (s₁.setTop (mkF m 36 #[.val (.int (-(own_of mm))), .val (.int (0 : Int32)), .val (.int (-100000000 : Int32)), .val (.int (7 : Int32))] []))
                refine Run.pre (fun _ k => XS.iinc X0.here hx rfl (hb hby d9_36) rfl (l' := #[.val (.int (-(own_of mm))), .val (.int (0 : Int32)), .val (.int (-100000000 : Int32)), .val (.int (8 : Int32))]) rfl k) ?_
                refine Run.pre (fun _ k => XS.goto X0.here hx rfl (pc0 := 39) (pc' := 16) rfl (hb hby d9_39) (by decide) (by decide) k) ?_
                refine Run.pre (fun _ k => XS.iloadN X0.here hx rfl (hb hby d9_16) rfl  k) ?_
                refine Run.pre (fun _ k => XS.bipush X0.here hx rfl (hb hby d9_17) k) ?_
                show Run p e below s _ _ _ (s₁.setTop (mkF m 19 #[.val (.int (-(own_of mm))), .val (.int (0 : Int32)), .val (.int (-100000000 : Int32)), .val (.int (8 : Int32))] [(.int (10 : Int32)), (.int (8 : Int32))]))
                refine Run.pre (fun _ k => XS.icmpNo X0.here hx rfl (hb hby d9_19) rfl (tlt ((by decide) : (8 : Int32) < (10 : Int32))).2.1 k) ?_
                refine Run.pre (fun _ k => XS.iloadN X0.here hx rfl (hb hby d9_22) rfl  k) ?_
                refine Run.pre (fun _ k => XS.iloadN X0.here hx rfl (hb hby d9_23) rfl  k) ?_
                show Run p e below s _ _ _ (s₁.setTop (mkF m 24 #[.val (.int (-(own_of mm))), .val (.int (0 : Int32)), .val (.int (-100000000 : Int32)), .val (.int (8 : Int32))] [(.int (-100000000 : Int32)), (.int (-(own_of mm)))]))
                by_cases hd8 : mm < 100000000
                · skip
                  show Run p e below s _ _ _ (s₁.setTop (mkF m 24 #[.val (.int (-(own_of mm))), .val (.int (0 : Int32)), .val (.int (-100000000 : Int32)), .val (.int (8 : Int32))] [(.int (-100000000 : Int32)), (.int (-(own_of mm)))]))
                  refine Run.pre (fun _ k => XS.icmpNo X0.here hx rfl (hb hby d9_24) rfl (tlt ((own_ltng hm (by have e : ((-100000000 : Int32)).toInt = -100000000 := (by decide); omega)) : (-100000000 : Int32) < (-(own_of mm)))).2.2.2 k) ?_
                  refine Run.pre (fun _ k => XS.iloadN X0.here hx rfl (hb hby d9_27) rfl  k) ?_
                  refine Run.pre (fun _ k => XS.iloadN X0.here hx rfl (hb hby d9_28) rfl  k) ?_
                  show Run p e below s _ _ _ (s₁.setTop (mkF m 29 #[.val (.int (-(own_of mm))), .val (.int (0 : Int32)), .val (.int (-100000000 : Int32)), .val (.int (8 : Int32))] [(.int (0 : Int32)), (.int (8 : Int32))]))
                  refine Run.pre (fun _ k => XS.iadd X0.here hx rfl (hb hby d9_29) rfl k) ?_
                  show Run p e below s _ _ _ (s₁.setTop (mkF m 30 #[.val (.int (-(own_of mm))), .val (.int (0 : Int32)), .val (.int (-100000000 : Int32)), .val (.int (8 : Int32))] [(.int (8 : Int32))]))
                  exact Run.retI hS (by first | exact Nat.le_refl _ | (rw [e0]; exact (Nat.zero_le _))) X0 hx hret hlk (hb hby d9_30) (by first | (rw [e0]; exact ⟨congrArg (fun z => some (Value.int z)) (own_dgt_8 (by omega) (by omega)).symm, N0, rfl⟩) | exact ⟨congrArg (fun z => some (Value.int z)) (own_dgt_8 (by omega) (by omega)).symm, N0, rfl⟩) (by decide) (by decide)
                · skip
                  show Run p e below s _ _ _ (s₁.setTop (mkF m 24 #[.val (.int (-(own_of mm))), .val (.int (0 : Int32)), .val (.int (-100000000 : Int32)), .val (.int (8 : Int32))] [(.int (-100000000 : Int32)), (.int (-(own_of mm)))]))
                  refine Run.pre (fun _ k => XS.icmpYes X0.here hx rfl (pc0 := 24) (pc' := 31) rfl (hb hby d9_24) rfl (flt ((own_nltng hm (by have e : ((-100000000 : Int32)).toInt = -100000000 := (by decide); omega)) : ¬ ((-100000000 : Int32) < (-(own_of mm))))).2.2.2 (by decide) (by decide) k) ?_
                  refine Run.pre (fun _ k => XS.bipush X0.here hx rfl (hb hby d9_31) k) ?_
                  refine Run.pre (fun _ k => XS.iloadN X0.here hx rfl (hb hby d9_33) rfl  k) ?_
                  show Run p e below s _ _ _ (s₁.setTop (mkF m 34 #[.val (.int (-(own_of mm))), .val (.int (0 : Int32)), .val (.int (-100000000 : Int32)), .val (.int (8 : Int32))] [(.int (-100000000 : Int32)), (.int (10 : Int32))]))
                  refine Run.pre (fun _ k => XS.imul X0.here hx rfl (hb hby d9_34) rfl k) ?_
                  show Run p e below s _ _ _ (s₁.setTop (mkF m 35 #[.val (.int (-(own_of mm))), .val (.int (0 : Int32)), .val (.int (-100000000 : Int32)), .val (.int (8 : Int32))] [(.int (-1000000000 : Int32))]))
                  refine Run.pre (fun _ k => XS.istoreN X0.here hx rfl (hb hby d9_35) rfl (l' := #[.val (.int (-(own_of mm))), .val (.int (0 : Int32)), .val (.int (-1000000000 : Int32)), .val (.int (8 : Int32))]) rfl k) ?_
                  show Run p e below s _ _ _ (s₁.setTop (mkF m 36 #[.val (.int (-(own_of mm))), .val (.int (0 : Int32)), .val (.int (-1000000000 : Int32)), .val (.int (8 : Int32))] []))
                  refine Run.pre (fun _ k => XS.iinc X0.here hx rfl (hb hby d9_36) rfl (l' := #[.val (.int (-(own_of mm))), .val (.int (0 : Int32)), .val (.int (-1000000000 : Int32)), .val (.int (9 : Int32))]) rfl k) ?_
                  refine Run.pre (fun _ k => XS.goto X0.here hx rfl (pc0 := 39) (pc' := 16) rfl (hb hby d9_39) (by decide) (by decide) k) ?_
                  refine Run.pre (fun _ k => XS.iloadN X0.here hx rfl (hb hby d9_16) rfl  k) ?_
                  refine Run.pre (fun _ k => XS.bipush X0.here hx rfl (hb hby d9_17) k) ?_
                  show Run p e below s _ _ _ (s₁.setTop (mkF m 19 #[.val (.int (-(own_of mm))), .val (.int (0 : Int32)), .val (.int (-1000000000 : Int32)), .val (.int (9 : Int32))] [(.int (10 : Int32)), (.int (9 : Int32))]))
                  refine Run.pre (fun _ k => XS.icmpNo X0.here hx rfl (hb hby d9_19) rfl (tlt ((by decide) : (9 : Int32) < (10 : Int32))).2.1 k) ?_
                  refine Run.pre (fun _ k => XS.iloadN X0.here hx rfl (hb hby d9_22) rfl  k) ?_
                  refine Run.pre (fun _ k => XS.iloadN X0.here hx rfl (hb hby d9_23) rfl  k) ?_
                  show Run p e below s _ _ _ (s₁.setTop (mkF m 24 #[.val (.int (-(own_of mm))), .val (.int (0 : Int32)), .val (.int (-1000000000 : Int32)), .val (.int (9 : Int32))] [(.int (-1000000000 : Int32)), (.int (-(own_of mm)))]))
                  by_cases hd9 : mm < 1000000000
                  · skip
                    show Run p e below s _ _ _ (s₁.setTop (mkF m 24 #[.val (.int (-(own_of mm))), .val (.int (0 : Int32)), .val (.int (-1000000000 : Int32)), .val (.int (9 : Int32))] [(.int (-1000000000 : Int32)), (.int (-(own_of mm)))]))
                    refine Run.pre (fun _ k => XS.icmpNo X0.here hx rfl (hb hby d9_24) rfl (tlt ((own_ltng hm (by have e : ((-1000000000 : Int32)).toInt = -1000000000 := (by decide); omega)) : (-1000000000 : Int32) < (-(own_of mm)))).2.2.2 k) ?_
                    refine Run.pre (fun _ k => XS.iloadN X0.here hx rfl (hb hby d9_27) rfl  k) ?_
                    refine Run.pre (fun _ k => XS.iloadN X0.here hx rfl (hb hby d9_28) rfl  k) ?_
                    show Run p e below s _ _ _ (s₁.setTop (mkF m 29 #[.val (.int (-(own_of mm))), .val (.int (0 : Int32)), .val (.int (-1000000000 : Int32)), .val (.int (9 : Int32))] [(.int (0 : Int32)), (.int (9 : Int32))]))
                    refine Run.pre (fun _ k => XS.iadd X0.here hx rfl (hb hby d9_29) rfl k) ?_
                    show Run p e below s _ _ _ (s₁.setTop (mkF m 30 #[.val (.int (-(own_of mm))), .val (.int (0 : Int32)), .val (.int (-1000000000 : Int32)), .val (.int (9 : Int32))] [(.int (9 : Int32))]))
                    exact Run.retI hS (by first | exact Nat.le_refl _ | (rw [e0]; exact (Nat.zero_le _))) X0 hx hret hlk (hb hby d9_30) (by first | (rw [e0]; exact ⟨congrArg (fun z => some (Value.int z)) (own_dgt_9 (by omega) (by omega)).symm, N0, rfl⟩) | exact ⟨congrArg (fun z => some (Value.int z)) (own_dgt_9 (by omega) (by omega)).symm, N0, rfl⟩) (by decide) (by decide)
                  · skip
                    show Run p e below s _ _ _ (s₁.setTop (mkF m 24 #[.val (.int (-(own_of mm))), .val (.int (0 : Int32)), .val (.int (-1000000000 : Int32)), .val (.int (9 : Int32))] [(.int (-1000000000 : Int32)), (.int (-(own_of mm)))]))
                    refine Run.pre (fun _ k => XS.icmpYes X0.here hx rfl (pc0 := 24) (pc' := 31) rfl (hb hby d9_24) rfl (flt ((own_nltng hm (by have e : ((-1000000000 : Int32)).toInt = -1000000000 := (by decide); omega)) : ¬ ((-1000000000 : Int32) < (-(own_of mm))))).2.2.2 (by decide) (by decide) k) ?_
                    refine Run.pre (fun _ k => XS.bipush X0.here hx rfl (hb hby d9_31) k) ?_
                    refine Run.pre (fun _ k => XS.iloadN X0.here hx rfl (hb hby d9_33) rfl  k) ?_
                    show Run p e below s _ _ _ (s₁.setTop (mkF m 34 #[.val (.int (-(own_of mm))), .val (.int (0 : Int32)), .val (.int (-1000000000 : Int32)), .val (.int (9 : Int32))] [(.int (-1000000000 : Int32)), (.int (10 : Int32))]))
                    refine Run.pre (fun _ k => XS.imul X0.here hx rfl (hb hby d9_34) rfl k) ?_
                    show Run p e below s _ _ _ (s₁.setTop (mkF m 35 #[.val (.int (-(own_of mm))), .val (.int (0 : Int32)), .val (.int (-1000000000 : Int32)), .val (.int (9 : Int32))] [(.int (-1410065408 : Int32))]))
                    refine Run.pre (fun _ k => XS.istoreN X0.here hx rfl (hb hby d9_35) rfl (l' := #[.val (.int (-(own_of mm))), .val (.int (0 : Int32)), .val (.int (-1410065408 : Int32)), .val (.int (9 : Int32))]) rfl k) ?_
                    show Run p e below s _ _ _ (s₁.setTop (mkF m 36 #[.val (.int (-(own_of mm))), .val (.int (0 : Int32)), .val (.int (-1410065408 : Int32)), .val (.int (9 : Int32))] []))
                    refine Run.pre (fun _ k => XS.iinc X0.here hx rfl (hb hby d9_36) rfl (l' := #[.val (.int (-(own_of mm))), .val (.int (0 : Int32)), .val (.int (-1410065408 : Int32)), .val (.int (10 : Int32))]) rfl k) ?_
                    refine Run.pre (fun _ k => XS.goto X0.here hx rfl (pc0 := 39) (pc' := 16) rfl (hb hby d9_39) (by decide) (by decide) k) ?_
                    refine Run.pre (fun _ k => XS.iloadN X0.here hx rfl (hb hby d9_16) rfl  k) ?_
                    refine Run.pre (fun _ k => XS.bipush X0.here hx rfl (hb hby d9_17) k) ?_
                    show Run p e below s _ _ _ (s₁.setTop (mkF m 19 #[.val (.int (-(own_of mm))), .val (.int (0 : Int32)), .val (.int (-1410065408 : Int32)), .val (.int (10 : Int32))] [(.int (10 : Int32)), (.int (10 : Int32))]))
                    refine Run.pre (fun _ k => XS.icmpYes X0.here hx rfl (pc0 := 19) (pc' := 42) rfl (hb hby d9_19) rfl (flt ((by decide) : ¬ ((10 : Int32) < (10 : Int32)))).2.1 (by decide) (by decide) k) ?_
                    refine Run.pre (fun _ k => XS.bipush X0.here hx rfl (hb hby d9_42) k) ?_
                    refine Run.pre (fun _ k => XS.iloadN X0.here hx rfl (hb hby d9_44) rfl  k) ?_
                    show Run p e below s _ _ _ (s₁.setTop (mkF m 45 #[.val (.int (-(own_of mm))), .val (.int (0 : Int32)), .val (.int (-1410065408 : Int32)), .val (.int (10 : Int32))] [(.int (0 : Int32)), (.int (10 : Int32))]))
                    refine Run.pre (fun _ k => XS.iadd X0.here hx rfl (hb hby d9_45) rfl k) ?_
                    show Run p e below s _ _ _ (s₁.setTop (mkF m 46 #[.val (.int (-(own_of mm))), .val (.int (0 : Int32)), .val (.int (-1410065408 : Int32)), .val (.int (10 : Int32))] [(.int (10 : Int32))]))
                    exact Run.retI hS (by first | exact Nat.le_refl _ | (rw [e0]; exact (Nat.zero_le _))) X0 hx hret hlk (hb hby d9_46) (by first | (rw [e0]; exact ⟨congrArg (fun z => some (Value.int z)) (own_dgt_10 (by omega) (by omega)).symm, N0, rfl⟩) | exact ⟨congrArg (fun z => some (Value.int z)) (own_dgt_10 (by omega) (by omega)).symm, N0, rfl⟩) (by decide) (by decide)
theorem d12_0 : decode method_3_code 0 = .ok (.iload_n 0, 1) := by decide +kernel
theorem d12_1 : decode method_3_code 1 = .ok (.bipush 10, 2) := by decide +kernel
theorem d12_3 : decode method_3_code 3 = .ok (.if_icmp .ge 5, 3) := by decide +kernel
theorem d12_6 : decode method_3_code 6 = .ok (.iconst 1, 1) := by decide +kernel
theorem d12_7 : decode method_3_code 7 = .ok (.ireturn, 1) := by decide +kernel
theorem d12_8 : decode method_3_code 8 = .ok (.iload_n 0, 1) := by decide +kernel
theorem d12_9 : decode method_3_code 9 = .ok (.bipush 100, 2) := by decide +kernel
theorem d12_11 : decode method_3_code 11 = .ok (.if_icmp .ge 5, 3) := by decide +kernel
theorem d12_14 : decode method_3_code 14 = .ok (.iconst 2, 1) := by decide +kernel
theorem d12_15 : decode method_3_code 15 = .ok (.ireturn, 1) := by decide +kernel
theorem d12_16 : decode method_3_code 16 = .ok (.iload_n 0, 1) := by decide +kernel
theorem d12_17 : decode method_3_code 17 = .ok (.sipush 1000, 3) := by decide +kernel
theorem d12_20 : decode method_3_code 20 = .ok (.if_icmp .ge 5, 3) := by decide +kernel
theorem d12_23 : decode method_3_code 23 = .ok (.iconst 3, 1) := by decide +kernel
theorem d12_24 : decode method_3_code 24 = .ok (.ireturn, 1) := by decide +kernel
theorem d12_25 : decode method_3_code 25 = .ok (.iload_n 0, 1) := by decide +kernel
theorem d12_26 : decode method_3_code 26 = .ok (.sipush 10000, 3) := by decide +kernel
theorem d12_29 : decode method_3_code 29 = .ok (.if_icmp .ge 5, 3) := by decide +kernel
theorem d12_32 : decode method_3_code 32 = .ok (.iconst 4, 1) := by decide +kernel
theorem d12_33 : decode method_3_code 33 = .ok (.ireturn, 1) := by decide +kernel
theorem d12_34 : decode method_3_code 34 = .ok (.iload_n 0, 1) := by decide +kernel
theorem d12_35 : decode method_3_code 35 = .ok (.ldc 40, 2) := by decide +kernel
theorem d12_37 : decode method_3_code 37 = .ok (.if_icmp .ge 5, 3) := by decide +kernel
theorem d12_40 : decode method_3_code 40 = .ok (.iconst 5, 1) := by decide +kernel
theorem d12_41 : decode method_3_code 41 = .ok (.ireturn, 1) := by decide +kernel
theorem d12_42 : decode method_3_code 42 = .ok (.iload_n 0, 1) := by decide +kernel
theorem d12_43 : decode method_3_code 43 = .ok (.ldc 41, 2) := by decide +kernel
theorem d12_45 : decode method_3_code 45 = .ok (.if_icmp .ge 6, 3) := by decide +kernel
theorem d12_48 : decode method_3_code 48 = .ok (.bipush 6, 2) := by decide +kernel
theorem d12_50 : decode method_3_code 50 = .ok (.ireturn, 1) := by decide +kernel
theorem d12_51 : decode method_3_code 51 = .ok (.iload_n 0, 1) := by decide +kernel
theorem d12_52 : decode method_3_code 52 = .ok (.ldc 42, 2) := by decide +kernel
theorem d12_54 : decode method_3_code 54 = .ok (.if_icmp .ge 6, 3) := by decide +kernel
theorem d12_57 : decode method_3_code 57 = .ok (.bipush 7, 2) := by decide +kernel
theorem d12_59 : decode method_3_code 59 = .ok (.ireturn, 1) := by decide +kernel
theorem d12_60 : decode method_3_code 60 = .ok (.iload_n 0, 1) := by decide +kernel
theorem d12_61 : decode method_3_code 61 = .ok (.ldc 43, 2) := by decide +kernel
theorem d12_63 : decode method_3_code 63 = .ok (.if_icmp .ge 6, 3) := by decide +kernel
theorem d12_66 : decode method_3_code 66 = .ok (.bipush 8, 2) := by decide +kernel
theorem d12_68 : decode method_3_code 68 = .ok (.ireturn, 1) := by decide +kernel
theorem d12_69 : decode method_3_code 69 = .ok (.iload_n 0, 1) := by decide +kernel
theorem d12_70 : decode method_3_code 70 = .ok (.ldc 44, 2) := by decide +kernel
theorem d12_72 : decode method_3_code 72 = .ok (.if_icmp .ge 6, 3) := by decide +kernel
theorem d12_75 : decode method_3_code 75 = .ok (.bipush 9, 2) := by decide +kernel
theorem d12_77 : decode method_3_code 77 = .ok (.ireturn, 1) := by decide +kernel
theorem d12_78 : decode method_3_code 78 = .ok (.bipush 10, 2) := by decide +kernel
theorem d12_80 : decode method_3_code 80 = .ok (.ireturn, 1) := by decide +kernel
theorem pn_12 : plainName "com/example/hyra/hyra/model/SeatCountToWirePinLaw" = true := by first | (simp [plainName, overriddenIn]; done) | decide +kernel
set_option maxRecDepth 65536 in
set_option maxHeartbeats 40000000 in
theorem rmDg (l : Launch) (Z : State) (a0 : Array Value) (hw : ∀ d ∈ tables_1, d.before a0 Z = true) (mm : Nat) (h0 : Heap) (n0 : Nat) (Z0 : n0 ≤ h0.size) (hm : mm < 2147483648) :
    Con l (⟨"com/example/hyra/hyra/model/SeatCountToWirePinLaw", "digits", "(I)I"⟩ : MethodName) method_3_code 1 (some .int) ({ frames := 0, cells := 0, slots := 0, locals := 0 } : Room) Z #[(.int (own_of mm))] h0 (fun _ => True) (fun v h L vm => v = some (.int (own_dgt mm)) ∧ Fr n0 L ∧ h = h0) := by
  refine Con.mk (plainFor_of_name pn_12) (fun m => show entryFrame m #[(.int (own_of mm))] 1 = mkF m 0 #[.val (.int (own_of mm))] [] by first | (simp [entryFrame, mkF, argsToLocals, Value.category]; done) | rfl) ?_
  intro p e s m below meth c s₁ vm0 hx hby hml hown hnm hret hlk hZ X0 e0 hS hs0 hP0
  have N0 := Fr.nil n0
  refine Run.pre (fun _ k => XS.iloadN X0.here hx rfl (hb hby d12_0) rfl  k) ?_
  refine Run.pre (fun _ k => XS.bipush X0.here hx rfl (hb hby d12_1) k) ?_
  show Run p e below s _ _ _ (s₁.setTop (mkF m 3 #[.val (.int (own_of mm))] [(.int (10 : Int32)), (.int (own_of mm))]))
  by_cases hd1 : mm < 10
  · skip
    show Run p e below s _ _ _ (s₁.setTop (mkF m 3 #[.val (.int (own_of mm))] [(.int (10 : Int32)), (.int (own_of mm))]))
    refine Run.pre (fun _ k => XS.icmpNo X0.here hx rfl (hb hby d12_3) rfl (tlt ((own_oflt hm (by have e : ((10 : Int32)).toInt = 10 := (by decide); omega)) : (own_of mm) < (10 : Int32))).2.1 k) ?_
    refine Run.pre (fun _ k => XS.iconst X0.here hx rfl (hb hby d12_6) k) ?_
    show Run p e below s _ _ _ (s₁.setTop (mkF m 7 #[.val (.int (own_of mm))] [(.int (1 : Int32))]))
    exact Run.retI hS (by first | exact Nat.le_refl _ | (rw [e0]; exact (Nat.zero_le _))) X0 hx hret hlk (hb hby d12_7) (by first | (rw [e0]; exact ⟨congrArg (fun z => some (Value.int z)) (own_dgt_1 (by omega) (by omega)).symm, N0, rfl⟩) | exact ⟨congrArg (fun z => some (Value.int z)) (own_dgt_1 (by omega) (by omega)).symm, N0, rfl⟩) (by decide) (by decide)
  · skip
    show Run p e below s _ _ _ (s₁.setTop (mkF m 3 #[.val (.int (own_of mm))] [(.int (10 : Int32)), (.int (own_of mm))]))
    refine Run.pre (fun _ k => XS.icmpYes X0.here hx rfl (pc0 := 3) (pc' := 8) rfl (hb hby d12_3) rfl (flt ((own_nofl hm (by have e : ((10 : Int32)).toInt = 10 := (by decide); omega)) : ¬ ((own_of mm) < (10 : Int32)))).2.1 (by decide) (by decide) k) ?_
    refine Run.pre (fun _ k => XS.iloadN X0.here hx rfl (hb hby d12_8) rfl  k) ?_
    refine Run.pre (fun _ k => XS.bipush X0.here hx rfl (hb hby d12_9) k) ?_
    show Run p e below s _ _ _ (s₁.setTop (mkF m 11 #[.val (.int (own_of mm))] [(.int (100 : Int32)), (.int (own_of mm))]))
    by_cases hd2 : mm < 100
    · skip
      show Run p e below s _ _ _ (s₁.setTop (mkF m 11 #[.val (.int (own_of mm))] [(.int (100 : Int32)), (.int (own_of mm))]))
      refine Run.pre (fun _ k => XS.icmpNo X0.here hx rfl (hb hby d12_11) rfl (tlt ((own_oflt hm (by have e : ((100 : Int32)).toInt = 100 := (by decide); omega)) : (own_of mm) < (100 : Int32))).2.1 k) ?_
      refine Run.pre (fun _ k => XS.iconst X0.here hx rfl (hb hby d12_14) k) ?_
      show Run p e below s _ _ _ (s₁.setTop (mkF m 15 #[.val (.int (own_of mm))] [(.int (2 : Int32))]))
      exact Run.retI hS (by first | exact Nat.le_refl _ | (rw [e0]; exact (Nat.zero_le _))) X0 hx hret hlk (hb hby d12_15) (by first | (rw [e0]; exact ⟨congrArg (fun z => some (Value.int z)) (own_dgt_2 (by omega) (by omega)).symm, N0, rfl⟩) | exact ⟨congrArg (fun z => some (Value.int z)) (own_dgt_2 (by omega) (by omega)).symm, N0, rfl⟩) (by decide) (by decide)
    · skip
      show Run p e below s _ _ _ (s₁.setTop (mkF m 11 #[.val (.int (own_of mm))] [(.int (100 : Int32)), (.int (own_of mm))]))
      refine Run.pre (fun _ k => XS.icmpYes X0.here hx rfl (pc0 := 11) (pc' := 16) rfl (hb hby d12_11) rfl (flt ((own_nofl hm (by have e : ((100 : Int32)).toInt = 100 := (by decide); omega)) : ¬ ((own_of mm) < (100 : Int32)))).2.1 (by decide) (by decide) k) ?_
      refine Run.pre (fun _ k => XS.iloadN X0.here hx rfl (hb hby d12_16) rfl  k) ?_
      refine Run.pre (fun _ k => XS.sipush X0.here hx rfl (hb hby d12_17) k) ?_
      show Run p e below s _ _ _ (s₁.setTop (mkF m 20 #[.val (.int (own_of mm))] [(.int (1000 : Int32)), (.int (own_of mm))]))
      by_cases hd3 : mm < 1000
      · skip
        show Run p e below s _ _ _ (s₁.setTop (mkF m 20 #[.val (.int (own_of mm))] [(.int (1000 : Int32)), (.int (own_of mm))]))
        refine Run.pre (fun _ k => XS.icmpNo X0.here hx rfl (hb hby d12_20) rfl (tlt ((own_oflt hm (by have e : ((1000 : Int32)).toInt = 1000 := (by decide); omega)) : (own_of mm) < (1000 : Int32))).2.1 k) ?_
        refine Run.pre (fun _ k => XS.iconst X0.here hx rfl (hb hby d12_23) k) ?_
        show Run p e below s _ _ _ (s₁.setTop (mkF m 24 #[.val (.int (own_of mm))] [(.int (3 : Int32))]))
        exact Run.retI hS (by first | exact Nat.le_refl _ | (rw [e0]; exact (Nat.zero_le _))) X0 hx hret hlk (hb hby d12_24) (by first | (rw [e0]; exact ⟨congrArg (fun z => some (Value.int z)) (own_dgt_3 (by omega) (by omega)).symm, N0, rfl⟩) | exact ⟨congrArg (fun z => some (Value.int z)) (own_dgt_3 (by omega) (by omega)).symm, N0, rfl⟩) (by decide) (by decide)
      · skip
        show Run p e below s _ _ _ (s₁.setTop (mkF m 20 #[.val (.int (own_of mm))] [(.int (1000 : Int32)), (.int (own_of mm))]))
        refine Run.pre (fun _ k => XS.icmpYes X0.here hx rfl (pc0 := 20) (pc' := 25) rfl (hb hby d12_20) rfl (flt ((own_nofl hm (by have e : ((1000 : Int32)).toInt = 1000 := (by decide); omega)) : ¬ ((own_of mm) < (1000 : Int32)))).2.1 (by decide) (by decide) k) ?_
        refine Run.pre (fun _ k => XS.iloadN X0.here hx rfl (hb hby d12_25) rfl  k) ?_
        refine Run.pre (fun _ k => XS.sipush X0.here hx rfl (hb hby d12_26) k) ?_
        show Run p e below s _ _ _ (s₁.setTop (mkF m 29 #[.val (.int (own_of mm))] [(.int (10000 : Int32)), (.int (own_of mm))]))
        by_cases hd4 : mm < 10000
        · skip
          show Run p e below s _ _ _ (s₁.setTop (mkF m 29 #[.val (.int (own_of mm))] [(.int (10000 : Int32)), (.int (own_of mm))]))
          refine Run.pre (fun _ k => XS.icmpNo X0.here hx rfl (hb hby d12_29) rfl (tlt ((own_oflt hm (by have e : ((10000 : Int32)).toInt = 10000 := (by decide); omega)) : (own_of mm) < (10000 : Int32))).2.1 k) ?_
          refine Run.pre (fun _ k => XS.iconst X0.here hx rfl (hb hby d12_32) k) ?_
          show Run p e below s _ _ _ (s₁.setTop (mkF m 33 #[.val (.int (own_of mm))] [(.int (4 : Int32))]))
          exact Run.retI hS (by first | exact Nat.le_refl _ | (rw [e0]; exact (Nat.zero_le _))) X0 hx hret hlk (hb hby d12_33) (by first | (rw [e0]; exact ⟨congrArg (fun z => some (Value.int z)) (own_dgt_4 (by omega) (by omega)).symm, N0, rfl⟩) | exact ⟨congrArg (fun z => some (Value.int z)) (own_dgt_4 (by omega) (by omega)).symm, N0, rfl⟩) (by decide) (by decide)
        · skip
          show Run p e below s _ _ _ (s₁.setTop (mkF m 29 #[.val (.int (own_of mm))] [(.int (10000 : Int32)), (.int (own_of mm))]))
          refine Run.pre (fun _ k => XS.icmpYes X0.here hx rfl (pc0 := 29) (pc' := 34) rfl (hb hby d12_29) rfl (flt ((own_nofl hm (by have e : ((10000 : Int32)).toInt = 10000 := (by decide); omega)) : ¬ ((own_of mm) < (10000 : Int32)))).2.1 (by decide) (by decide) k) ?_
          refine Run.pre (fun _ k => XS.iloadN X0.here hx rfl (hb hby d12_34) rfl  k) ?_
          show Run p e below s _ _ _ (s₁.setTop (mkF m 35 #[.val (.int (own_of mm))] [(.int (own_of mm))]))
          refine Run.pre (X0.ldcInt hx hown (mvT hZ (hw _ (List.mem_of_getElem? (i := 70) rfl))) (g := (mkF m 35 #[.val (.int (own_of mm))] [(.int (own_of mm))])) rfl (hb hby d12_35)) ?_
          show Run p e below s _ _ _ (s₁.setTop (mkF m 37 #[.val (.int (own_of mm))] [(.int (100000 : Int32)), (.int (own_of mm))]))
          by_cases hd5 : mm < 100000
          · skip
            show Run p e below s _ _ _ (s₁.setTop (mkF m 37 #[.val (.int (own_of mm))] [(.int (100000 : Int32)), (.int (own_of mm))]))
            refine Run.pre (fun _ k => XS.icmpNo X0.here hx rfl (hb hby d12_37) rfl (tlt ((own_oflt hm (by have e : ((100000 : Int32)).toInt = 100000 := (by decide); omega)) : (own_of mm) < (100000 : Int32))).2.1 k) ?_
            refine Run.pre (fun _ k => XS.iconst X0.here hx rfl (hb hby d12_40) k) ?_
            show Run p e below s _ _ _ (s₁.setTop (mkF m 41 #[.val (.int (own_of mm))] [(.int (5 : Int32))]))
            exact Run.retI hS (by first | exact Nat.le_refl _ | (rw [e0]; exact (Nat.zero_le _))) X0 hx hret hlk (hb hby d12_41) (by first | (rw [e0]; exact ⟨congrArg (fun z => some (Value.int z)) (own_dgt_5 (by omega) (by omega)).symm, N0, rfl⟩) | exact ⟨congrArg (fun z => some (Value.int z)) (own_dgt_5 (by omega) (by omega)).symm, N0, rfl⟩) (by decide) (by decide)
          · skip
            show Run p e below s _ _ _ (s₁.setTop (mkF m 37 #[.val (.int (own_of mm))] [(.int (100000 : Int32)), (.int (own_of mm))]))
            refine Run.pre (fun _ k => XS.icmpYes X0.here hx rfl (pc0 := 37) (pc' := 42) rfl (hb hby d12_37) rfl (flt ((own_nofl hm (by have e : ((100000 : Int32)).toInt = 100000 := (by decide); omega)) : ¬ ((own_of mm) < (100000 : Int32)))).2.1 (by decide) (by decide) k) ?_
            refine Run.pre (fun _ k => XS.iloadN X0.here hx rfl (hb hby d12_42) rfl  k) ?_
            show Run p e below s _ _ _ (s₁.setTop (mkF m 43 #[.val (.int (own_of mm))] [(.int (own_of mm))]))
            refine Run.pre (X0.ldcInt hx hown (mvT hZ (hw _ (List.mem_of_getElem? (i := 71) rfl))) (g := (mkF m 43 #[.val (.int (own_of mm))] [(.int (own_of mm))])) rfl (hb hby d12_43)) ?_
            show Run p e below s _ _ _ (s₁.setTop (mkF m 45 #[.val (.int (own_of mm))] [(.int (1000000 : Int32)), (.int (own_of mm))]))
            by_cases hd6 : mm < 1000000
            · skip
              show Run p e below s _ _ _ (s₁.setTop (mkF m 45 #[.val (.int (own_of mm))] [(.int (1000000 : Int32)), (.int (own_of mm))]))
              refine Run.pre (fun _ k => XS.icmpNo X0.here hx rfl (hb hby d12_45) rfl (tlt ((own_oflt hm (by have e : ((1000000 : Int32)).toInt = 1000000 := (by decide); omega)) : (own_of mm) < (1000000 : Int32))).2.1 k) ?_
              refine Run.pre (fun _ k => XS.bipush X0.here hx rfl (hb hby d12_48) k) ?_
              show Run p e below s _ _ _ (s₁.setTop (mkF m 50 #[.val (.int (own_of mm))] [(.int (6 : Int32))]))
              exact Run.retI hS (by first | exact Nat.le_refl _ | (rw [e0]; exact (Nat.zero_le _))) X0 hx hret hlk (hb hby d12_50) (by first | (rw [e0]; exact ⟨congrArg (fun z => some (Value.int z)) (own_dgt_6 (by omega) (by omega)).symm, N0, rfl⟩) | exact ⟨congrArg (fun z => some (Value.int z)) (own_dgt_6 (by omega) (by omega)).symm, N0, rfl⟩) (by decide) (by decide)
            · skip
              show Run p e below s _ _ _ (s₁.setTop (mkF m 45 #[.val (.int (own_of mm))] [(.int (1000000 : Int32)), (.int (own_of mm))]))
              refine Run.pre (fun _ k => XS.icmpYes X0.here hx rfl (pc0 := 45) (pc' := 51) rfl (hb hby d12_45) rfl (flt ((own_nofl hm (by have e : ((1000000 : Int32)).toInt = 1000000 := (by decide); omega)) : ¬ ((own_of mm) < (1000000 : Int32)))).2.1 (by decide) (by decide) k) ?_
              refine Run.pre (fun _ k => XS.iloadN X0.here hx rfl (hb hby d12_51) rfl  k) ?_
              show Run p e below s _ _ _ (s₁.setTop (mkF m 52 #[.val (.int (own_of mm))] [(.int (own_of mm))]))
              refine Run.pre (X0.ldcInt hx hown (mvT hZ (hw _ (List.mem_of_getElem? (i := 72) rfl))) (g := (mkF m 52 #[.val (.int (own_of mm))] [(.int (own_of mm))])) rfl (hb hby d12_52)) ?_
              show Run p e below s _ _ _ (s₁.setTop (mkF m 54 #[.val (.int (own_of mm))] [(.int (10000000 : Int32)), (.int (own_of mm))]))
              by_cases hd7 : mm < 10000000
              · skip
                show Run p e below s _ _ _ (s₁.setTop (mkF m 54 #[.val (.int (own_of mm))] [(.int (10000000 : Int32)), (.int (own_of mm))]))
                refine Run.pre (fun _ k => XS.icmpNo X0.here hx rfl (hb hby d12_54) rfl (tlt ((own_oflt hm (by have e : ((10000000 : Int32)).toInt = 10000000 := (by decide); omega)) : (own_of mm) < (10000000 : Int32))).2.1 k) ?_
                refine Run.pre (fun _ k => XS.bipush X0.here hx rfl (hb hby d12_57) k) ?_
                show Run p e below s _ _ _ (s₁.setTop (mkF m 59 #[.val (.int (own_of mm))] [(.int (7 : Int32))]))
                exact Run.retI hS (by first | exact Nat.le_refl _ | (rw [e0]; exact (Nat.zero_le _))) X0 hx hret hlk (hb hby d12_59) (by first | (rw [e0]; exact ⟨congrArg (fun z => some (Value.int z)) (own_dgt_7 (by omega) (by omega)).symm, N0, rfl⟩) | exact ⟨congrArg (fun z => some (Value.int z)) (own_dgt_7 (by omega) (by omega)).symm, N0, rfl⟩) (by decide) (by decide)
              · skip
                show Run p e below s _ _ _ (s₁.setTop (mkF m 54 #[.val (.int (own_of mm))] [(.int (10000000 : Int32)), (.int (own_of mm))]))
                refine Run.pre (fun _ k => XS.icmpYes X0.here hx rfl (pc0 := 54) (pc' := 60) rfl (hb hby d12_54) rfl (flt ((own_nofl hm (by have e : ((10000000 : Int32)).toInt = 10000000 := (by decide); omega)) : ¬ ((own_of mm) < (10000000 : Int32)))).2.1 (by decide) (by decide) k) ?_
                refine Run.pre (fun _ k => XS.iloadN X0.here hx rfl (hb hby d12_60) rfl  k) ?_
                show Run p e below s _ _ _ (s₁.setTop (mkF m 61 #[.val (.int (own_of mm))] [(.int (own_of mm))]))
                refine Run.pre (X0.ldcInt hx hown (mvT hZ (hw _ (List.mem_of_getElem? (i := 73) rfl))) (g := (mkF m 61 #[.val (.int (own_of mm))] [(.int (own_of mm))])) rfl (hb hby d12_61)) ?_
                show Run p e below s _ _ _ (s₁.setTop (mkF m 63 #[.val (.int (own_of mm))] [(.int (100000000 : Int32)), (.int (own_of mm))]))
                by_cases hd8 : mm < 100000000
                · skip
                  show Run p e below s _ _ _ (s₁.setTop (mkF m 63 #[.val (.int (own_of mm))] [(.int (100000000 : Int32)), (.int (own_of mm))]))
                  refine Run.pre (fun _ k => XS.icmpNo X0.here hx rfl (hb hby d12_63) rfl (tlt ((own_oflt hm (by have e : ((100000000 : Int32)).toInt = 100000000 := (by decide); omega)) : (own_of mm) < (100000000 : Int32))).2.1 k) ?_
                  refine Run.pre (fun _ k => XS.bipush X0.here hx rfl (hb hby d12_66) k) ?_
                  show Run p e below s _ _ _ (s₁.setTop (mkF m 68 #[.val (.int (own_of mm))] [(.int (8 : Int32))]))
                  exact Run.retI hS (by first | exact Nat.le_refl _ | (rw [e0]; exact (Nat.zero_le _))) X0 hx hret hlk (hb hby d12_68) (by first | (rw [e0]; exact ⟨congrArg (fun z => some (Value.int z)) (own_dgt_8 (by omega) (by omega)).symm, N0, rfl⟩) | exact ⟨congrArg (fun z => some (Value.int z)) (own_dgt_8 (by omega) (by omega)).symm, N0, rfl⟩) (by decide) (by decide)
                · skip
                  show Run p e below s _ _ _ (s₁.setTop (mkF m 63 #[.val (.int (own_of mm))] [(.int (100000000 : Int32)), (.int (own_of mm))]))
                  refine Run.pre (fun _ k => XS.icmpYes X0.here hx rfl (pc0 := 63) (pc' := 69) rfl (hb hby d12_63) rfl (flt ((own_nofl hm (by have e : ((100000000 : Int32)).toInt = 100000000 := (by decide); omega)) : ¬ ((own_of mm) < (100000000 : Int32)))).2.1 (by decide) (by decide) k) ?_
                  refine Run.pre (fun _ k => XS.iloadN X0.here hx rfl (hb hby d12_69) rfl  k) ?_
                  show Run p e below s _ _ _ (s₁.setTop (mkF m 70 #[.val (.int (own_of mm))] [(.int (own_of mm))]))
                  refine Run.pre (X0.ldcInt hx hown (mvT hZ (hw _ (List.mem_of_getElem? (i := 74) rfl))) (g := (mkF m 70 #[.val (.int (own_of mm))] [(.int (own_of mm))])) rfl (hb hby d12_70)) ?_
                  show Run p e below s _ _ _ (s₁.setTop (mkF m 72 #[.val (.int (own_of mm))] [(.int (1000000000 : Int32)), (.int (own_of mm))]))
                  by_cases hd9 : mm < 1000000000
                  · skip
                    show Run p e below s _ _ _ (s₁.setTop (mkF m 72 #[.val (.int (own_of mm))] [(.int (1000000000 : Int32)), (.int (own_of mm))]))
                    refine Run.pre (fun _ k => XS.icmpNo X0.here hx rfl (hb hby d12_72) rfl (tlt ((own_oflt hm (by have e : ((1000000000 : Int32)).toInt = 1000000000 := (by decide); omega)) : (own_of mm) < (1000000000 : Int32))).2.1 k) ?_
                    refine Run.pre (fun _ k => XS.bipush X0.here hx rfl (hb hby d12_75) k) ?_
                    show Run p e below s _ _ _ (s₁.setTop (mkF m 77 #[.val (.int (own_of mm))] [(.int (9 : Int32))]))
                    exact Run.retI hS (by first | exact Nat.le_refl _ | (rw [e0]; exact (Nat.zero_le _))) X0 hx hret hlk (hb hby d12_77) (by first | (rw [e0]; exact ⟨congrArg (fun z => some (Value.int z)) (own_dgt_9 (by omega) (by omega)).symm, N0, rfl⟩) | exact ⟨congrArg (fun z => some (Value.int z)) (own_dgt_9 (by omega) (by omega)).symm, N0, rfl⟩) (by decide) (by decide)
                  · skip
                    show Run p e below s _ _ _ (s₁.setTop (mkF m 72 #[.val (.int (own_of mm))] [(.int (1000000000 : Int32)), (.int (own_of mm))]))
                    refine Run.pre (fun _ k => XS.icmpYes X0.here hx rfl (pc0 := 72) (pc' := 78) rfl (hb hby d12_72) rfl (flt ((own_nofl hm (by have e : ((1000000000 : Int32)).toInt = 1000000000 := (by decide); omega)) : ¬ ((own_of mm) < (1000000000 : Int32)))).2.1 (by decide) (by decide) k) ?_
                    refine Run.pre (fun _ k => XS.bipush X0.here hx rfl (hb hby d12_78) k) ?_
                    show Run p e below s _ _ _ (s₁.setTop (mkF m 80 #[.val (.int (own_of mm))] [(.int (10 : Int32))]))
                    exact Run.retI hS (by first | exact Nat.le_refl _ | (rw [e0]; exact (Nat.zero_le _))) X0 hx hret hlk (hb hby d12_80) (by first | (rw [e0]; exact ⟨congrArg (fun z => some (Value.int z)) (own_dgt_10 (by omega) (by omega)).symm, N0, rfl⟩) | exact ⟨congrArg (fun z => some (Value.int z)) (own_dgt_10 (by omega) (by omega)).symm, N0, rfl⟩) (by decide) (by decide)
theorem d10_0 : decode jdk_33_method_12_code 0 = .ok (.iload_n 1, 1) := by decide +kernel
theorem d10_1 : decode jdk_33_method_12_code 1 = .ok (.istore 5, 2) := by decide +kernel
theorem d10_3 : decode jdk_33_method_12_code 3 = .ok (.iload_n 0, 1) := by decide +kernel
theorem d10_4 : decode jdk_33_method_12_code 4 = .ok (.ifCond .ge 7, 3) := by decide +kernel
theorem d10_11 : decode jdk_33_method_12_code 11 = .ok (.iconst 0, 1) := by decide +kernel
theorem d10_12 : decode jdk_33_method_12_code 12 = .ok (.istore 6, 2) := by decide +kernel
theorem d10_14 : decode jdk_33_method_12_code 14 = .ok (.iload 6, 2) := by decide +kernel
theorem d10_16 : decode jdk_33_method_12_code 16 = .ok (.ifCond .ne 6, 3) := by decide +kernel
theorem d10_19 : decode jdk_33_method_12_code 19 = .ok (.iload_n 0, 1) := by decide +kernel
theorem d10_20 : decode jdk_33_method_12_code 20 = .ok (.ineg, 1) := by decide +kernel
theorem d10_21 : decode jdk_33_method_12_code 21 = .ok (.istore_n 0, 1) := by decide +kernel
theorem d10_22 : decode jdk_33_method_12_code 22 = .ok (.iload_n 0, 1) := by decide +kernel
theorem d10_23 : decode jdk_33_method_12_code 23 = .ok (.bipush (-100), 2) := by decide +kernel
theorem d10_25 : decode jdk_33_method_12_code 25 = .ok (.if_icmp .gt 47, 3) := by decide +kernel
theorem d10_72 : decode jdk_33_method_12_code 72 = .ok (.aload_n 2, 1) := by decide +kernel
theorem d10_73 : decode jdk_33_method_12_code 73 = .ok (.iinc 5 (-1), 3) := by decide +kernel
theorem d10_76 : decode jdk_33_method_12_code 76 = .ok (.iload 5, 2) := by decide +kernel
theorem d10_78 : decode jdk_33_method_12_code 78 = .ok (.getstatic 83, 3) := by decide +kernel
theorem d10_81 : decode jdk_33_method_12_code 81 = .ok (.iload_n 0, 1) := by decide +kernel
theorem d10_82 : decode jdk_33_method_12_code 82 = .ok (.ineg, 1) := by decide +kernel
theorem d10_83 : decode jdk_33_method_12_code 83 = .ok (.baload, 1) := by decide +kernel
theorem d10_84 : decode jdk_33_method_12_code 84 = .ok (.bastore, 1) := by decide +kernel
theorem d10_85 : decode jdk_33_method_12_code 85 = .ok (.iload_n 0, 1) := by decide +kernel
theorem d10_86 : decode jdk_33_method_12_code 86 = .ok (.bipush (-9), 2) := by decide +kernel
theorem d10_88 : decode jdk_33_method_12_code 88 = .ok (.if_icmp .ge 16, 3) := by decide +kernel
theorem d10_104 : decode jdk_33_method_12_code 104 = .ok (.iload 6, 2) := by decide +kernel
theorem d10_106 : decode jdk_33_method_12_code 106 = .ok (.ifCond .eq 12, 3) := by decide +kernel
theorem d10_118 : decode jdk_33_method_12_code 118 = .ok (.iload 5, 2) := by decide +kernel
theorem d10_120 : decode jdk_33_method_12_code 120 = .ok (.ireturn, 1) := by decide +kernel
theorem pn_10 : plainName "java/lang/Integer" = true := by first | (simp [plainName, overriddenIn]; done) | decide +kernel
set_option maxRecDepth 65536 in
set_option maxHeartbeats 40000000 in
theorem rmGC_1 (l : Launch) (Z : State) (a0 : Array Value) (hw : ∀ d ∈ tables_1, d.before a0 Z = true) (mm : Nat) (od : Addr) (ko : ClassId) (td : Addr) (kt : ClassId) (bf : Addr) (kb : ClassId) (h0 : Heap) (n0 : Nat) (Z0 : n0 ≤ h0.size) (OL : Old Z n0 h0) (hm : mm < 2147483648) (lo : 0 ≤ mm) (hi : mm < 10) (SO : Sta Z Z.heap "java/lang/Integer" "DigitOnes" "[B" (.ref od)) (ST : Sta Z Z.heap "java/lang/Integer" "DigitTens" "[B" (.ref td)) (AO : Arv Z Z.heap od ko .byte 100 own_DO (.int 0)) (AT : Arv Z Z.heap td kt .byte 100 own_DT (.int 0)) (AB : Arv Z h0 bf kb .byte 1 [(.int (0 : Int32))] (.int 0)) (g_bf : n0 ≤ bf) :
    Con l (⟨"java/lang/Integer", "getChars", "(II[B)I"⟩ : MethodName) jdk_33_method_12_code 7 (some .int) ({ frames := 0, cells := 0, slots := 0, locals := 0 } : Room) Z #[(.int (own_of mm)), (.int (1 : Int32)), (.ref bf)] h0 (fun _ => True) (fun v h L vm => v = some (.int 0) ∧ Fr n0 L ∧ Keep h0 h [bf] ∧ Arv Z h bf kb .byte 1 [(.int (nar .byte (own_of (48 + mm % 10))))] (.int 0)) := by
  refine Con.mk (plainFor_of_name pn_10) (fun m => show entryFrame m #[(.int (own_of mm)), (.int (1 : Int32)), (.ref bf)] 7 = mkF m 0 #[.val (.int (own_of mm)), .val (.int (1 : Int32)), .val (.ref bf), .unset, .unset, .unset, .unset] [] by first | (simp [entryFrame, mkF, argsToLocals, Value.category]; done) | rfl) ?_
  intro p e s m below meth c s₁ vm0 hx hby hml hown hnm hret hlk hZ X0 e0 hS hs0 hP0
  have N0 := Fr.nil n0
  refine Run.pre (fun _ k => XS.iloadN X0.here hx rfl (hb hby d10_0) rfl  k) ?_
  show Run p e below s _ _ _ (s₁.setTop (mkF m 1 #[.val (.int (own_of mm)), .val (.int (1 : Int32)), .val (.ref bf), .unset, .unset, .unset, .unset] [(.int (1 : Int32))]))
  refine Run.pre (fun _ k => XS.istore X0.here hx rfl (hb hby d10_1) rfl (l' := #[.val (.int (own_of mm)), .val (.int (1 : Int32)), .val (.ref bf), .unset, .unset, .val (.int (1 : Int32)), .unset]) rfl k) ?_
  refine Run.pre (fun _ k => XS.iloadN X0.here hx rfl (hb hby d10_3) rfl  k) ?_
  show Run p e below s _ _ _ (s₁.setTop (mkF m 4 #[.val (.int (own_of mm)), .val (.int (1 : Int32)), .val (.ref bf), .unset, .unset, .val (.int (1 : Int32)), .unset] [(.int (own_of mm))]))
  refine Run.pre (fun _ k => XS.ifYes X0.here hx rfl (pc0 := 4) (pc' := 11) rfl (hb hby d10_4) rfl ((if0 _ _).trans (flt ((own_nofl hm (by have e : ((0 : Int32)).toInt = 0 := (by decide); omega)) : ¬ ((own_of mm) < (0 : Int32)))).2.1) (by decide) (by decide) k) ?_
  refine Run.pre (fun _ k => XS.iconst X0.here hx rfl (hb hby d10_11) k) ?_
  show Run p e below s _ _ _ (s₁.setTop (mkF m 12 #[.val (.int (own_of mm)), .val (.int (1 : Int32)), .val (.ref bf), .unset, .unset, .val (.int (1 : Int32)), .unset] [(.int (0 : Int32))]))
  refine Run.pre (fun _ k => XS.istore X0.here hx rfl (hb hby d10_12) rfl (l' := #[.val (.int (own_of mm)), .val (.int (1 : Int32)), .val (.ref bf), .unset, .unset, .val (.int (1 : Int32)), .val (.int (0 : Int32))]) rfl k) ?_
  refine Run.pre (fun _ k => XS.iload X0.here hx rfl (hb hby d10_14) rfl  k) ?_
  show Run p e below s _ _ _ (s₁.setTop (mkF m 16 #[.val (.int (own_of mm)), .val (.int (1 : Int32)), .val (.ref bf), .unset, .unset, .val (.int (1 : Int32)), .val (.int (0 : Int32))] [(.int (0 : Int32))]))
  refine Run.pre (fun _ k => XS.ifNo X0.here hx rfl (hb hby d10_16) rfl ((if0 _ _).trans (teq ((by decide) : (0 : Int32) = (0 : Int32))).2) k) ?_
  refine Run.pre (fun _ k => XS.iloadN X0.here hx rfl (hb hby d10_19) rfl  k) ?_
  show Run p e below s _ _ _ (s₁.setTop (mkF m 20 #[.val (.int (own_of mm)), .val (.int (1 : Int32)), .val (.ref bf), .unset, .unset, .val (.int (1 : Int32)), .val (.int (0 : Int32))] [(.int (own_of mm))]))
  refine Run.pre (fun _ k => XS.ineg X0.here hx rfl (hb hby d10_20) rfl k) ?_
  show Run p e below s _ _ _ (s₁.setTop (mkF m 21 #[.val (.int (own_of mm)), .val (.int (1 : Int32)), .val (.ref bf), .unset, .unset, .val (.int (1 : Int32)), .val (.int (0 : Int32))] [(.int (-(own_of mm)))]))
  refine Run.pre (fun _ k => XS.istoreN X0.here hx rfl (hb hby d10_21) rfl (l' := #[.val (.int (-(own_of mm))), .val (.int (1 : Int32)), .val (.ref bf), .unset, .unset, .val (.int (1 : Int32)), .val (.int (0 : Int32))]) rfl k) ?_
  refine Run.pre (fun _ k => XS.iloadN X0.here hx rfl (hb hby d10_22) rfl  k) ?_
  refine Run.pre (fun _ k => XS.bipush X0.here hx rfl (hb hby d10_23) k) ?_
  show Run p e below s _ _ _ (s₁.setTop (mkF m 25 #[.val (.int (-(own_of mm))), .val (.int (1 : Int32)), .val (.ref bf), .unset, .unset, .val (.int (1 : Int32)), .val (.int (0 : Int32))] [(.int (-100 : Int32)), (.int (-(own_of mm)))]))
  refine Run.pre (fun _ k => XS.icmpYes X0.here hx rfl (pc0 := 25) (pc' := 72) rfl (hb hby d10_25) rfl (tlt ((own_ltng (show mm < 2147483648 by omega) (by have e : ((-100 : Int32)).toInt = -100 := (by decide); omega)) : (-100 : Int32) < (-(own_of mm)))).2.2.1 (by decide) (by decide) k) ?_
  refine Run.pre (fun _ k => XS.aloadN X0.here hx rfl (hb hby d10_72) rfl rfl k) ?_
  show Run p e below s _ _ _ (s₁.setTop (mkF m 73 #[.val (.int (-(own_of mm))), .val (.int (1 : Int32)), .val (.ref bf), .unset, .unset, .val (.int (1 : Int32)), .val (.int (0 : Int32))] [(.ref bf)]))
  refine Run.pre (fun _ k => XS.iinc X0.here hx rfl (hb hby d10_73) rfl (l' := #[.val (.int (-(own_of mm))), .val (.int (1 : Int32)), .val (.ref bf), .unset, .unset, .val (.int (0 : Int32)), .val (.int (0 : Int32))]) rfl k) ?_
  refine Run.pre (fun _ k => XS.iload X0.here hx rfl (hb hby d10_76) rfl  k) ?_
  show Run p e below s _ _ _ (s₁.setTop (mkF m 78 #[.val (.int (-(own_of mm))), .val (.int (1 : Int32)), .val (.ref bf), .unset, .unset, .val (.int (0 : Int32)), .val (.int (0 : Int32))] [(.int (0 : Int32)), (.ref bf)]))
  obtain ⟨T133, X133, e133, st133⟩ := getS2 X0 hx hZ hown (host := "") (Or.inl (hw _ (List.mem_of_getElem? (i := 57) rfl))) Via.refl e0 (SO.ext OL.2) (g := (mkF m 78 #[.val (.int (-(own_of mm))), .val (.int (1 : Int32)), .val (.ref bf), .unset, .unset, .val (.int (0 : Int32)), .val (.int (0 : Int32))] [(.int (0 : Int32)), (.ref bf)])) rfl (hb hby d10_78)
  refine Run.pre st133 ?_
  refine Run.pre (fun _ k => XS.iloadN X133.here hx rfl (hb hby d10_81) rfl  k) ?_
  show Run p e below s _ _ _ (T133.setTop (mkF m 82 #[.val (.int (-(own_of mm))), .val (.int (1 : Int32)), .val (.ref bf), .unset, .unset, .val (.int (0 : Int32)), .val (.int (0 : Int32))] [(.int (-(own_of mm))), (.ref od), (.int (0 : Int32)), (.ref bf)]))
  refine Run.pre (fun _ k => XS.ineg X133.here hx rfl (hb hby d10_82) rfl k) ?_
  show Run p e below s _ _ _ (T133.setTop (mkF m 83 #[.val (.int (-(own_of mm))), .val (.int (1 : Int32)), .val (.ref bf), .unset, .unset, .val (.int (0 : Int32)), .val (.int (0 : Int32))] [(.int (-(-(own_of mm)))), (.ref od), (.int (0 : Int32)), (.ref bf)]))
  obtain ⟨c134, Ar134, -, S134, N134, H134, -⟩ := id (AO.ext OL.2)
  have hin134 : ¬ ((-(-(own_of mm))) < 0 ∨ c134.slots.size ≤ ((-(-(own_of mm)))).toNatClampNeg) := inb_of S134 (by rw [Int32.neg_neg]; exact own_in100 (show mm < 100 by omega))
  refine Run.pre (X133.baloadBytes hx (j := (-(-(own_of mm)))) (v := (.int (own_of (48 + mm % 10)))) (by rw [e133]; exact Ar134.1) (State.isArrayOf_alike hZ.alike Ar134.2.1) Ar134.2.2 hin134 (H134.at hin134 (by rw [Int32.neg_neg]; exact own_getO (show mm < 100 by omega))) (g := (mkF m 83 #[.val (.int (-(own_of mm))), .val (.int (1 : Int32)), .val (.ref bf), .unset, .unset, .val (.int (0 : Int32)), .val (.int (0 : Int32))] [(.int (-(-(own_of mm)))), (.ref od), (.int (0 : Int32)), (.ref bf)])) rfl rfl (hb hby d10_83)) ?_
  show Run p e below s _ _ _ (T133.setTop (mkF m 84 #[.val (.int (-(own_of mm))), .val (.int (1 : Int32)), .val (.ref bf), .unset, .unset, .val (.int (0 : Int32)), .val (.int (0 : Int32))] [(.int (own_of (48 + mm % 10))), (.int (0 : Int32)), (.ref bf)]))
  obtain ⟨c135, Ar135, q135, S135, N135, H135, G135⟩ := id AB
  have hin135 : ¬ ((0 : Int32) < 0 ∨ c135.slots.size ≤ ((0 : Int32)).toNatClampNeg) := inb_of S135 ⟨by decide, by decide⟩
  obtain ⟨T136, h136, X136, e136, W136, st136⟩ := stB X133 hx hZ e133 Ar135 (j := (0 : Int32)) hin135 (g := (mkF m 84 #[.val (.int (-(own_of mm))), .val (.int (1 : Int32)), .val (.ref bf), .unset, .unset, .val (.int (0 : Int32)), .val (.int (0 : Int32))] [(.int (own_of (48 + mm % 10))), (.int (0 : Int32)), (.ref bf)])) rfl rfl (hb hby d10_84)
  refine Run.pre st136 ?_
  have V_bf_136 : Arv Z h136 bf kb .byte (1 : Int32) [(.int (nar .byte (own_of (48 + mm % 10))))] (.int (0 : Int32)) := Arv.set Ar135 q135 S135 N135 H135 G135 (fits_nar_byte _) W136 0 rfl (Nat.le_of_ble_eq_true rfl)
  have K136 : Keep h0 h136 [bf] := (Keep.refl h0 [bf]).wr W136 (Or.inl (by simp))
  have N136 := Fr.snoc X136 N0 g_bf
  refine Run.pre (fun _ k => XS.iloadN X136.here hx rfl (hb hby d10_85) rfl  k) ?_
  refine Run.pre (fun _ k => XS.bipush X136.here hx rfl (hb hby d10_86) k) ?_
  show Run p e below s _ _ _ (T136.setTop (mkF m 88 #[.val (.int (-(own_of mm))), .val (.int (1 : Int32)), .val (.ref bf), .unset, .unset, .val (.int (0 : Int32)), .val (.int (0 : Int32))] [(.int (-9 : Int32)), (.int (-(own_of mm)))]))
  refine Run.pre (fun _ k => XS.icmpYes X136.here hx rfl (pc0 := 88) (pc' := 104) rfl (hb hby d10_88) rfl (flt ((own_nnglt (show mm < 2147483648 by omega) (by have e : ((-9 : Int32)).toInt = -9 := (by decide); omega)) : ¬ ((-(own_of mm)) < (-9 : Int32)))).2.1 (by decide) (by decide) k) ?_
  refine Run.pre (fun _ k => XS.iload X136.here hx rfl (hb hby d10_104) rfl  k) ?_
  show Run p e below s _ _ _ (T136.setTop (mkF m 106 #[.val (.int (-(own_of mm))), .val (.int (1 : Int32)), .val (.ref bf), .unset, .unset, .val (.int (0 : Int32)), .val (.int (0 : Int32))] [(.int (0 : Int32))]))
  refine Run.pre (fun _ k => XS.ifYes X136.here hx rfl (pc0 := 106) (pc' := 118) rfl (hb hby d10_106) rfl ((if0 _ _).trans (teq ((by decide) : (0 : Int32) = (0 : Int32))).1) (by decide) (by decide) k) ?_
  refine Run.pre (fun _ k => XS.iload X136.here hx rfl (hb hby d10_118) rfl  k) ?_
  show Run p e below s _ _ _ (T136.setTop (mkF m 120 #[.val (.int (-(own_of mm))), .val (.int (1 : Int32)), .val (.ref bf), .unset, .unset, .val (.int (0 : Int32)), .val (.int (0 : Int32))] [(.int (0 : Int32))]))
  exact Run.retI hS (by first | exact Nat.le_refl _ | (rw [e136]; exact (Nat.le_trans (Nat.zero_le _) (Keep.of_wr W136).1))) X136 hx hret hlk (hb hby d10_120) (by first | (rw [e136]; exact ⟨rfl, N136, K136, V_bf_136⟩) | exact ⟨rfl, N136, K136, V_bf_136⟩) (by decide) (by decide)
theorem d8_0 : decode jdk_33_method_10_code 0 = .ok (.iload_n 0, 1) := by decide +kernel
theorem pd_8 : parseMethodDescriptor "(I)I" = some ⟨[.int], some .int⟩ := by decide +kernel
theorem d8_1 : decode jdk_33_method_10_code 1 = .ok (.invokestatic 72, 3) := by decide +kernel
theorem d8_4 : decode jdk_33_method_10_code 4 = .ok (.istore_n 1, 1) := by decide +kernel
theorem d8_5 : decode jdk_33_method_10_code 5 = .ok (.getstatic 13, 3) := by decide +kernel
theorem d8_8 : decode jdk_33_method_10_code 8 = .ok (.ifCond .eq 24, 3) := by decide +kernel
theorem d8_11 : decode jdk_33_method_10_code 11 = .ok (.iload_n 1, 1) := by decide +kernel
theorem d8_12 : decode jdk_33_method_10_code 12 = .ok (.newarray .byte, 2) := by decide +kernel
theorem d8_14 : decode jdk_33_method_10_code 14 = .ok (.astore_n 2, 1) := by decide +kernel
theorem d8_15 : decode jdk_33_method_10_code 15 = .ok (.iload_n 0, 1) := by decide +kernel
theorem d8_16 : decode jdk_33_method_10_code 16 = .ok (.iload_n 1, 1) := by decide +kernel
theorem d8_17 : decode jdk_33_method_10_code 17 = .ok (.aload_n 2, 1) := by decide +kernel
theorem pd_9 : parseMethodDescriptor "(II[B)I" = some ⟨[.int, .int, (.array .byte)], some .int⟩ := by decide +kernel
theorem d8_18 : decode jdk_33_method_10_code 18 = .ok (.invokestatic 75, 3) := by decide +kernel
theorem d8_21 : decode jdk_33_method_10_code 21 = .ok (.pop, 1) := by decide +kernel
theorem d8_22 : decode jdk_33_method_10_code 22 = .ok (.new 5, 3) := by decide +kernel
theorem d8_25 : decode jdk_33_method_10_code 25 = .ok (.dup, 1) := by decide +kernel
theorem d8_26 : decode jdk_33_method_10_code 26 = .ok (.aload_n 2, 1) := by decide +kernel
theorem d8_27 : decode jdk_33_method_10_code 27 = .ok (.iconst 0, 1) := by decide +kernel
theorem pd_10 : parseMethodDescriptor "([BB)V" = some ⟨[(.array .byte), .byte], none⟩ := by decide +kernel
theorem d8_28 : decode jdk_33_method_10_code 28 = .ok (.invokespecial 65, 3) := by decide +kernel
theorem d8_31 : decode jdk_33_method_10_code 31 = .ok (.areturn, 1) := by decide +kernel
theorem pn_8 : plainName "java/lang/Integer" = true := by first | (simp [plainName, overriddenIn]; done) | decide +kernel
set_option maxRecDepth 65536 in
set_option maxHeartbeats 40000000 in
theorem rmTS_1 (l : Launch) (Z : State) (a0 : Array Value) (hw : ∀ d ∈ tables_1, d.before a0 Z = true) (mm : Nat) (cs : Int32) (od : Addr) (ko : ClassId) (td : Addr) (kt : ClassId) (h0 : Heap) (n0 : Nat) (Z0 : n0 ≤ h0.size) (OL : Old Z n0 h0) (hm : mm < 2147483648) (lo : 0 ≤ mm) (hi : mm < 10) (SC : Sta Z Z.heap "java/lang/String" "COMPACT_STRINGS" "Z" (.int cs)) (hcs : ¬ cs = 0) (SO : Sta Z Z.heap "java/lang/Integer" "DigitOnes" "[B" (.ref od)) (ST : Sta Z Z.heap "java/lang/Integer" "DigitTens" "[B" (.ref td)) (AO : Arv Z Z.heap od ko .byte 100 own_DO (.int 0)) (AT : Arv Z Z.heap td kt .byte 100 own_DT (.int 0)) :
    Con l (⟨"java/lang/Integer", "toString", "(I)Ljava/lang/String;"⟩ : MethodName) jdk_33_method_10_code 3 (some (.object "java/lang/String")) ({ frames := 2, cells := 2, slots := 5, locals := 27 } : Room) Z #[(.int (own_of mm))] h0 (fun _ => True) (fun v h L vm => ∃ o : Addr, ∃ b : Addr, ∃ k : ClassId, v = some (.ref o) ∧ Fr n0 L ∧ Keep h0 h [] ∧ h0.size ≤ o ∧ Exa Z h o "java/lang/String" ∧ Fld Z h o "java/lang/String" "value" "[B" (.ref b) ∧ Fld Z h o "java/lang/String" "coder" "B" (.int 0) ∧ Arv Z h b k .byte 1 [(.int (nar .byte (own_of (48 + mm % 10))))] (.int 0)) := by
  refine Con.mk (plainFor_of_name pn_8) (fun m => show entryFrame m #[(.int (own_of mm))] 3 = mkF m 0 #[.val (.int (own_of mm)), .unset, .unset] [] by first | (simp [entryFrame, mkF, argsToLocals, Value.category]; done) | rfl) ?_
  intro p e s m below meth c s₁ vm0 hx hby hml hown hnm hret hlk hZ X0 e0 hS hs0 hP0
  have N0 := Fr.nil n0
  refine Run.pre (fun _ k => XS.iloadN X0.here hx rfl (hb hby d8_0) rfl  k) ?_
  show Run p e below s _ _ _ (s₁.setTop (mkF m 1 #[.val (.int (own_of mm)), .unset, .unset] [(.int (own_of mm))]))
  refine Run.callS hS (by first | exact Nat.le_refl _ | (rw [e0]; exact (Nat.zero_le _))) X0 hx hZ (y := (⟨"java/lang/Integer", "stringSize", "(I)I"⟩ : MethodName)) hown (hw _ (List.mem_of_getElem? (i := 50) rfl)) (hw _ (List.mem_of_getElem? (i := 51) rfl)) (hw _ (List.mem_of_getElem? (i := 21) rfl)) (hw _ (List.mem_of_getElem? (i := 52) rfl)) (by decide) (W := 0) (rmSS l Z a0 hw mm h0 n0 (Nat.le_trans Z0 (Keep.refl h0 []).1) hm) e0 (by decide) (by decide) (by decide) (by decide) (fun _ _ => trivial) (g := (mkF m 1 #[.val (.int (own_of mm)), .unset, .unset] [(.int (own_of mm))])) rfl (by rw [hml]; rfl) (argsL := [(.int (own_of mm))]) (rest := []) (lenOf pd_8 rfl) rfl (by show 2 * 0 + _ ≤ _; exact Nat.le_of_eq rfl) (hb hby d8_1) ?_
  intro v137 T137 L137 X137 hS hZ hown hV137 hQ137
  obtain ⟨rfl, Nq137, he137⟩ := hQ137
  have N137 := Fr.app N0 Nq137
  have e137 : T137.heap = h0 := he137
  rw [own_dgt_1 lo hi]
  show Run p e below s _ _ _ (T137.setTop (mkF m 4 #[.val (.int (own_of mm)), .unset, .unset] [(.int (1 : Int32))]))
  refine Run.pre (fun _ k => XS.istoreN X137.here hx rfl (hb hby d8_4) rfl (l' := #[.val (.int (own_of mm)), .val (.int (1 : Int32)), .unset]) rfl k) ?_
  show Run p e below s _ _ _ (T137.setTop (mkF m 5 #[.val (.int (own_of mm)), .val (.int (1 : Int32)), .unset] []))
  obtain ⟨T138, X138, e138, st138⟩ := getS2 X137 hx hZ hown (host := "") (Or.inl (hw _ (List.mem_of_getElem? (i := 53) rfl))) Via.refl e137 (SC.ext OL.2) (g := (mkF m 5 #[.val (.int (own_of mm)), .val (.int (1 : Int32)), .unset] [])) rfl (hb hby d8_5)
  refine Run.pre st138 ?_
  show Run p e below s _ _ _ (T138.setTop (mkF m 8 #[.val (.int (own_of mm)), .val (.int (1 : Int32)), .unset] [(.int cs)]))
  refine Run.pre (fun _ k => XS.ifNo X138.here hx rfl (hb hby d8_8) rfl ((if0 _ _).trans (feq (hcs : ¬ (cs = (0 : Int32)))).1) k) ?_
  refine Run.pre (fun _ k => XS.iloadN X138.here hx rfl (hb hby d8_11) rfl  k) ?_
  show Run p e below s _ _ _ (T138.setTop (mkF m 12 #[.val (.int (own_of mm)), .val (.int (1 : Int32)), .unset] [(.int (1 : Int32))]))
  obtain ⟨T139, h139, k139, X139, e139, E139, A139, st139⟩ := newP X138 hx hZ (hw _ (List.mem_of_getElem? (i := 7) rfl)) e138 (g := (mkF m 12 #[.val (.int (own_of mm)), .val (.int (1 : Int32)), .unset] [(.int (1 : Int32))])) rfl (hb hby d8_12) rfl (by decide) (cap := 1) (by decide) (by decide) (by decide) (by decide)
  obtain ⟨b139, g139⟩ : ∃ z, z = h0.size := ⟨_, rfl⟩
  rw [← g139] at A139 st139
  refine Run.pre st139 ?_
  have V_b139 : Arv Z h139 b139 k139 .byte (1 : Int32) [(.int (0 : Int32))] (.int (0 : Int32)) := (Arv.new A139 (by decide)).pad (pad_rep [] (.int (0 : Int32)) 1)
  have gn_b139 : n0 ≤ b139 := Nat.le_trans (Nat.le_trans Z0 (Keep.refl h0 []).1) (Nat.le_of_eq g139.symm)
  have sz_b139 : h0.size ≤ b139 := Nat.le_trans (Keep.refl h0 []).1 (Nat.le_of_eq g139.symm)
  have K139 : Keep h0 h139 [] := (Keep.refl h0 []).ext E139
  show Run p e below s _ _ _ (T139.setTop (mkF m 14 #[.val (.int (own_of mm)), .val (.int (1 : Int32)), .unset] [(.ref b139)]))
  refine Run.pre (fun _ k => XS.astoreN X139.here hx rfl (hb hby d8_14) rfl rfl (l' := #[.val (.int (own_of mm)), .val (.int (1 : Int32)), .val (.ref b139)]) rfl k) ?_
  refine Run.pre (fun _ k => XS.iloadN X139.here hx rfl (hb hby d8_15) rfl  k) ?_
  refine Run.pre (fun _ k => XS.iloadN X139.here hx rfl (hb hby d8_16) rfl  k) ?_
  refine Run.pre (fun _ k => XS.aloadN X139.here hx rfl (hb hby d8_17) rfl rfl k) ?_
  show Run p e below s _ _ _ (T139.setTop (mkF m 18 #[.val (.int (own_of mm)), .val (.int (1 : Int32)), .val (.ref b139)] [(.ref b139), (.int (1 : Int32)), (.int (own_of mm))]))
  have f140 := (OL.ext E139)
  refine Run.callS hS (by first | exact Nat.le_refl _ | (rw [e139]; exact (Nat.le_trans (Nat.le_of_eq (congrArg Array.size e137)) E139.1))) X139 hx hZ (y := (⟨"java/lang/Integer", "getChars", "(II[B)I"⟩ : MethodName)) hown (hw _ (List.mem_of_getElem? (i := 54) rfl)) (hw _ (List.mem_of_getElem? (i := 55) rfl)) (hw _ (List.mem_of_getElem? (i := 21) rfl)) (hw _ (List.mem_of_getElem? (i := 56) rfl)) (by decide) (W := 0) (rmGC_1 l Z a0 hw mm od ko td kt b139 k139 h139 n0 (Nat.le_trans Z0 K139.1) f140 hm lo hi SO ST AO AT V_b139 gn_b139) e139 (by decide) (by decide) (by decide) (by decide) (fun _ _ => trivial) (g := (mkF m 18 #[.val (.int (own_of mm)), .val (.int (1 : Int32)), .val (.ref b139)] [(.ref b139), (.int (1 : Int32)), (.int (own_of mm))])) rfl (by rw [hml]; rfl) (argsL := [(.int (own_of mm)), (.int (1 : Int32)), (.ref b139)]) (rest := []) (lenOf pd_9 rfl) rfl (by show 2 * 0 + _ ≤ _; exact Nat.le_of_eq rfl) (hb hby d8_18) ?_
  intro v141 T141 L141 X141 hS hZ hown hV141 hQ141
  obtain ⟨rfl, Nq141, Kc141, vb141⟩ := hQ141
  have N141 := Fr.app N137 Nq141
  have K141 : Keep h0 T141.heap [] := K139.trans Kc141 (allS (Or.inr sz_b139) all0)
  show Run p e below s _ _ _ (T141.setTop (mkF m 21 #[.val (.int (own_of mm)), .val (.int (1 : Int32)), .val (.ref b139)] [(.int (0 : Int32))]))
  refine Run.pre (fun _ k => XS.pop X141.here hx rfl (hb hby d8_21) rfl rfl k) ?_
  show Run p e below s _ _ _ (T141.setTop (mkF m 22 #[.val (.int (own_of mm)), .val (.int (1 : Int32)), .val (.ref b139)] []))
  obtain ⟨T142, h142, X142, e142, E142, A142, D142, -, st142⟩ := newO X141 hx hZ hown (hw _ (List.mem_of_getElem? (i := 59) rfl)) (hw _ (List.mem_of_getElem? (i := 6) rfl)) (hw _ (List.mem_of_getElem? (i := 5) rfl)) rfl (g := (mkF m 22 #[.val (.int (own_of mm)), .val (.int (1 : Int32)), .val (.ref b139)] [])) rfl (hb hby d8_22) (by decide) (by decide)
  obtain ⟨b142, g142⟩ : ∃ z, z = T141.heap.size := ⟨_, rfl⟩
  rw [← g142] at A142 D142 st142
  refine Run.pre st142 ?_
  have gn_b142 : n0 ≤ b142 := Nat.le_trans (Nat.le_trans Z0 K141.1) (Nat.le_of_eq g142.symm)
  have sz_b142 : h0.size ≤ b142 := Nat.le_trans K141.1 (Nat.le_of_eq g142.symm)
  have K142 : Keep h0 h142 [] := K141.ext E142
  have F_value_b142 : Fld Z h142 b142 "java/lang/String" "value" "[B" .null := D142 (Or.inr (hw _ (List.mem_of_getElem? (i := 8) rfl))) (ty := (.array .byte)) (by decide)
  have F_coder_b142 : Fld Z h142 b142 "java/lang/String" "coder" "B" (.int (0 : Int32)) := D142 (Or.inr (hw _ (List.mem_of_getElem? (i := 9) rfl))) (ty := .byte) (by decide)
  refine Run.pre (fun _ k => XS.dup X142.here hx rfl (hb hby d8_25) rfl rfl k) ?_
  refine Run.pre (fun _ k => XS.aloadN X142.here hx rfl (hb hby d8_26) rfl rfl k) ?_
  refine Run.pre (fun _ k => XS.iconst X142.here hx rfl (hb hby d8_27) k) ?_
  show Run p e below s _ _ _ (T142.setTop (mkF m 28 #[.val (.int (own_of mm)), .val (.int (1 : Int32)), .val (.ref b139)] [(.int (0 : Int32)), (.ref b139), (.ref b142), (.ref b142)]))
  refine Run.callI hS (by first | exact Nat.le_refl _ | (rw [e142]; exact (Nat.le_trans (Nat.le_refl _) E142.1))) X142 hx hZ (y := (⟨"java/lang/String", "<init>", "([BB)V"⟩ : MethodName)) rfl hown (hw _ (List.mem_of_getElem? (i := 60) rfl)) (hw _ (List.mem_of_getElem? (i := 61) rfl)) (hw _ (List.mem_of_getElem? (i := 63) rfl)) (hw _ (List.mem_of_getElem? (i := 5) rfl)) (by decide) (a := b142) (W := 1) (rmBB l Z a0 hw b142 b139 h142 n0 (Nat.le_trans Z0 K142.1) A142 F_value_b142 F_coder_b142 gn_b142) e142 (by decide) (by decide) (by decide) (by decide) (fun _ _ => trivial) (g := (mkF m 28 #[.val (.int (own_of mm)), .val (.int (1 : Int32)), .val (.ref b139)] [(.int (0 : Int32)), (.ref b139), (.ref b142), (.ref b142)])) rfl (by rw [hml]; rfl) (argsL := [(.ref b139), (.int (0 : Int32))]) (rest := [(.ref b142)]) (lenOf pd_10 rfl) rfl (by show 2 * 0 + _ ≤ _; exact Nat.le_of_eq rfl) (hb hby d8_28) ?_
  intro v143 T143 L143 X143 hS hZ hown hV143 hQ143
  obtain ⟨rfl, Nq143, Kc143, fv143, fc143⟩ := hQ143
  have N143 := Fr.app N141 Nq143
  have K143 : Keep h0 T143.heap [] := K142.trans Kc143 (allS (Or.inr sz_b142) all0)
  show Run p e below s _ _ _ (T143.setTop (mkF m 31 #[.val (.int (own_of mm)), .val (.int (1 : Int32)), .val (.ref b139)] [(.ref b142)]))
  have f144 := (A142.keep Kc143)
  have f145 := ((vb141.ext E142).keep Kc143 (ninS (Nat.ne_of_lt (Nat.lt_of_lt_of_le vb141.lt (Nat.le_of_eq g142.symm))) nin0))
  exact Run.retA hS (Nat.le_refl _) X143 hx hret rfl rfl hlk (hb hby d8_31) ⟨b142, b139, k139, rfl, N143, K143, sz_b142, f144, fv143, fc143, f145⟩ (by decide) (by decide)
theorem own_good_1 {mm : Nat} (hm : mm < 2147483648) (lo : 0 ≤ mm) (hi : mm < 10) : own_good mm [(.int (nar .byte (own_of (48 + mm % 10))))] :=
  ⟨Or.inr ⟨by rw [own_dgt_1 lo hi]; decide, by rw [own_dgt_1 lo hi]; decide, by rw [own_dgt_1 lo hi]; decide, nar .byte (own_of (48 + mm % 10)), by rw [own_dgt_1 lo hi]; rfl, own_heq hm (q := 1) rfl (by decide) (by decide) (by omega)⟩,
   Or.inl (by rw [own_dgt_1 lo hi]; decide),
   Or.inl (by rw [own_dgt_1 lo hi]; decide),
   Or.inl (by rw [own_dgt_1 lo hi]; decide),
   Or.inl (by rw [own_dgt_1 lo hi]; decide),
   Or.inl (by rw [own_dgt_1 lo hi]; decide),
   Or.inl (by rw [own_dgt_1 lo hi]; decide),
   Or.inl (by rw [own_dgt_1 lo hi]; decide),
   Or.inl (by rw [own_dgt_1 lo hi]; decide),
   Or.inl (by rw [own_dgt_1 lo hi]; decide)⟩
theorem d10_91 : decode jdk_33_method_12_code 91 = .ok (.aload_n 2, 1) := by decide +kernel
theorem d10_92 : decode jdk_33_method_12_code 92 = .ok (.iinc 5 (-1), 3) := by decide +kernel
theorem d10_95 : decode jdk_33_method_12_code 95 = .ok (.iload 5, 2) := by decide +kernel
theorem d10_97 : decode jdk_33_method_12_code 97 = .ok (.getstatic 87, 3) := by decide +kernel
theorem d10_100 : decode jdk_33_method_12_code 100 = .ok (.iload_n 0, 1) := by decide +kernel
theorem d10_101 : decode jdk_33_method_12_code 101 = .ok (.ineg, 1) := by decide +kernel
theorem d10_102 : decode jdk_33_method_12_code 102 = .ok (.baload, 1) := by decide +kernel
theorem d10_103 : decode jdk_33_method_12_code 103 = .ok (.bastore, 1) := by decide +kernel
set_option maxRecDepth 65536 in
set_option maxHeartbeats 40000000 in
theorem rmGC_2 (l : Launch) (Z : State) (a0 : Array Value) (hw : ∀ d ∈ tables_1, d.before a0 Z = true) (mm : Nat) (od : Addr) (ko : ClassId) (td : Addr) (kt : ClassId) (bf : Addr) (kb : ClassId) (h0 : Heap) (n0 : Nat) (Z0 : n0 ≤ h0.size) (OL : Old Z n0 h0) (hm : mm < 2147483648) (lo : 10 ≤ mm) (hi : mm < 100) (SO : Sta Z Z.heap "java/lang/Integer" "DigitOnes" "[B" (.ref od)) (ST : Sta Z Z.heap "java/lang/Integer" "DigitTens" "[B" (.ref td)) (AO : Arv Z Z.heap od ko .byte 100 own_DO (.int 0)) (AT : Arv Z Z.heap td kt .byte 100 own_DT (.int 0)) (AB : Arv Z h0 bf kb .byte 2 [(.int (0 : Int32)), (.int (0 : Int32))] (.int 0)) (g_bf : n0 ≤ bf) :
    Con l (⟨"java/lang/Integer", "getChars", "(II[B)I"⟩ : MethodName) jdk_33_method_12_code 7 (some .int) ({ frames := 0, cells := 0, slots := 0, locals := 0 } : Room) Z #[(.int (own_of mm)), (.int (2 : Int32)), (.ref bf)] h0 (fun _ => True) (fun v h L vm => v = some (.int 0) ∧ Fr n0 L ∧ Keep h0 h [bf] ∧ Arv Z h bf kb .byte 2 [(.int (nar .byte (own_of (48 + mm / 10)))), (.int (nar .byte (own_of (48 + mm % 10))))] (.int 0)) := by
  refine Con.mk (plainFor_of_name pn_10) (fun m => show entryFrame m #[(.int (own_of mm)), (.int (2 : Int32)), (.ref bf)] 7 = mkF m 0 #[.val (.int (own_of mm)), .val (.int (2 : Int32)), .val (.ref bf), .unset, .unset, .unset, .unset] [] by first | (simp [entryFrame, mkF, argsToLocals, Value.category]; done) | rfl) ?_
  intro p e s m below meth c s₁ vm0 hx hby hml hown hnm hret hlk hZ X0 e0 hS hs0 hP0
  have N0 := Fr.nil n0
  refine Run.pre (fun _ k => XS.iloadN X0.here hx rfl (hb hby d10_0) rfl  k) ?_
  show Run p e below s _ _ _ (s₁.setTop (mkF m 1 #[.val (.int (own_of mm)), .val (.int (2 : Int32)), .val (.ref bf), .unset, .unset, .unset, .unset] [(.int (2 : Int32))]))
  refine Run.pre (fun _ k => XS.istore X0.here hx rfl (hb hby d10_1) rfl (l' := #[.val (.int (own_of mm)), .val (.int (2 : Int32)), .val (.ref bf), .unset, .unset, .val (.int (2 : Int32)), .unset]) rfl k) ?_
  refine Run.pre (fun _ k => XS.iloadN X0.here hx rfl (hb hby d10_3) rfl  k) ?_
  show Run p e below s _ _ _ (s₁.setTop (mkF m 4 #[.val (.int (own_of mm)), .val (.int (2 : Int32)), .val (.ref bf), .unset, .unset, .val (.int (2 : Int32)), .unset] [(.int (own_of mm))]))
  refine Run.pre (fun _ k => XS.ifYes X0.here hx rfl (pc0 := 4) (pc' := 11) rfl (hb hby d10_4) rfl ((if0 _ _).trans (flt ((own_nofl hm (by have e : ((0 : Int32)).toInt = 0 := (by decide); omega)) : ¬ ((own_of mm) < (0 : Int32)))).2.1) (by decide) (by decide) k) ?_
  refine Run.pre (fun _ k => XS.iconst X0.here hx rfl (hb hby d10_11) k) ?_
  show Run p e below s _ _ _ (s₁.setTop (mkF m 12 #[.val (.int (own_of mm)), .val (.int (2 : Int32)), .val (.ref bf), .unset, .unset, .val (.int (2 : Int32)), .unset] [(.int (0 : Int32))]))
  refine Run.pre (fun _ k => XS.istore X0.here hx rfl (hb hby d10_12) rfl (l' := #[.val (.int (own_of mm)), .val (.int (2 : Int32)), .val (.ref bf), .unset, .unset, .val (.int (2 : Int32)), .val (.int (0 : Int32))]) rfl k) ?_
  refine Run.pre (fun _ k => XS.iload X0.here hx rfl (hb hby d10_14) rfl  k) ?_
  show Run p e below s _ _ _ (s₁.setTop (mkF m 16 #[.val (.int (own_of mm)), .val (.int (2 : Int32)), .val (.ref bf), .unset, .unset, .val (.int (2 : Int32)), .val (.int (0 : Int32))] [(.int (0 : Int32))]))
  refine Run.pre (fun _ k => XS.ifNo X0.here hx rfl (hb hby d10_16) rfl ((if0 _ _).trans (teq ((by decide) : (0 : Int32) = (0 : Int32))).2) k) ?_
  refine Run.pre (fun _ k => XS.iloadN X0.here hx rfl (hb hby d10_19) rfl  k) ?_
  show Run p e below s _ _ _ (s₁.setTop (mkF m 20 #[.val (.int (own_of mm)), .val (.int (2 : Int32)), .val (.ref bf), .unset, .unset, .val (.int (2 : Int32)), .val (.int (0 : Int32))] [(.int (own_of mm))]))
  refine Run.pre (fun _ k => XS.ineg X0.here hx rfl (hb hby d10_20) rfl k) ?_
  show Run p e below s _ _ _ (s₁.setTop (mkF m 21 #[.val (.int (own_of mm)), .val (.int (2 : Int32)), .val (.ref bf), .unset, .unset, .val (.int (2 : Int32)), .val (.int (0 : Int32))] [(.int (-(own_of mm)))]))
  refine Run.pre (fun _ k => XS.istoreN X0.here hx rfl (hb hby d10_21) rfl (l' := #[.val (.int (-(own_of mm))), .val (.int (2 : Int32)), .val (.ref bf), .unset, .unset, .val (.int (2 : Int32)), .val (.int (0 : Int32))]) rfl k) ?_
  refine Run.pre (fun _ k => XS.iloadN X0.here hx rfl (hb hby d10_22) rfl  k) ?_
  refine Run.pre (fun _ k => XS.bipush X0.here hx rfl (hb hby d10_23) k) ?_
  show Run p e below s _ _ _ (s₁.setTop (mkF m 25 #[.val (.int (-(own_of mm))), .val (.int (2 : Int32)), .val (.ref bf), .unset, .unset, .val (.int (2 : Int32)), .val (.int (0 : Int32))] [(.int (-100 : Int32)), (.int (-(own_of mm)))]))
  refine Run.pre (fun _ k => XS.icmpYes X0.here hx rfl (pc0 := 25) (pc' := 72) rfl (hb hby d10_25) rfl (tlt ((own_ltng (show mm < 2147483648 by omega) (by have e : ((-100 : Int32)).toInt = -100 := (by decide); omega)) : (-100 : Int32) < (-(own_of mm)))).2.2.1 (by decide) (by decide) k) ?_
  refine Run.pre (fun _ k => XS.aloadN X0.here hx rfl (hb hby d10_72) rfl rfl k) ?_
  show Run p e below s _ _ _ (s₁.setTop (mkF m 73 #[.val (.int (-(own_of mm))), .val (.int (2 : Int32)), .val (.ref bf), .unset, .unset, .val (.int (2 : Int32)), .val (.int (0 : Int32))] [(.ref bf)]))
  refine Run.pre (fun _ k => XS.iinc X0.here hx rfl (hb hby d10_73) rfl (l' := #[.val (.int (-(own_of mm))), .val (.int (2 : Int32)), .val (.ref bf), .unset, .unset, .val (.int (1 : Int32)), .val (.int (0 : Int32))]) rfl k) ?_
  refine Run.pre (fun _ k => XS.iload X0.here hx rfl (hb hby d10_76) rfl  k) ?_
  show Run p e below s _ _ _ (s₁.setTop (mkF m 78 #[.val (.int (-(own_of mm))), .val (.int (2 : Int32)), .val (.ref bf), .unset, .unset, .val (.int (1 : Int32)), .val (.int (0 : Int32))] [(.int (1 : Int32)), (.ref bf)]))
  obtain ⟨T146, X146, e146, st146⟩ := getS2 X0 hx hZ hown (host := "") (Or.inl (hw _ (List.mem_of_getElem? (i := 57) rfl))) Via.refl e0 (SO.ext OL.2) (g := (mkF m 78 #[.val (.int (-(own_of mm))), .val (.int (2 : Int32)), .val (.ref bf), .unset, .unset, .val (.int (1 : Int32)), .val (.int (0 : Int32))] [(.int (1 : Int32)), (.ref bf)])) rfl (hb hby d10_78)
  refine Run.pre st146 ?_
  refine Run.pre (fun _ k => XS.iloadN X146.here hx rfl (hb hby d10_81) rfl  k) ?_
  show Run p e below s _ _ _ (T146.setTop (mkF m 82 #[.val (.int (-(own_of mm))), .val (.int (2 : Int32)), .val (.ref bf), .unset, .unset, .val (.int (1 : Int32)), .val (.int (0 : Int32))] [(.int (-(own_of mm))), (.ref od), (.int (1 : Int32)), (.ref bf)]))
  refine Run.pre (fun _ k => XS.ineg X146.here hx rfl (hb hby d10_82) rfl k) ?_
  show Run p e below s _ _ _ (T146.setTop (mkF m 83 #[.val (.int (-(own_of mm))), .val (.int (2 : Int32)), .val (.ref bf), .unset, .unset, .val (.int (1 : Int32)), .val (.int (0 : Int32))] [(.int (-(-(own_of mm)))), (.ref od), (.int (1 : Int32)), (.ref bf)]))
  obtain ⟨c147, Ar147, -, S147, N147, H147, -⟩ := id (AO.ext OL.2)
  have hin147 : ¬ ((-(-(own_of mm))) < 0 ∨ c147.slots.size ≤ ((-(-(own_of mm)))).toNatClampNeg) := inb_of S147 (by rw [Int32.neg_neg]; exact own_in100 (show mm < 100 by omega))
  refine Run.pre (X146.baloadBytes hx (j := (-(-(own_of mm)))) (v := (.int (own_of (48 + mm % 10)))) (by rw [e146]; exact Ar147.1) (State.isArrayOf_alike hZ.alike Ar147.2.1) Ar147.2.2 hin147 (H147.at hin147 (by rw [Int32.neg_neg]; exact own_getO (show mm < 100 by omega))) (g := (mkF m 83 #[.val (.int (-(own_of mm))), .val (.int (2 : Int32)), .val (.ref bf), .unset, .unset, .val (.int (1 : Int32)), .val (.int (0 : Int32))] [(.int (-(-(own_of mm)))), (.ref od), (.int (1 : Int32)), (.ref bf)])) rfl rfl (hb hby d10_83)) ?_
  show Run p e below s _ _ _ (T146.setTop (mkF m 84 #[.val (.int (-(own_of mm))), .val (.int (2 : Int32)), .val (.ref bf), .unset, .unset, .val (.int (1 : Int32)), .val (.int (0 : Int32))] [(.int (own_of (48 + mm % 10))), (.int (1 : Int32)), (.ref bf)]))
  obtain ⟨c148, Ar148, q148, S148, N148, H148, G148⟩ := id AB
  have hin148 : ¬ ((1 : Int32) < 0 ∨ c148.slots.size ≤ ((1 : Int32)).toNatClampNeg) := inb_of S148 ⟨by decide, by decide⟩
  obtain ⟨T149, h149, X149, e149, W149, st149⟩ := stB X146 hx hZ e146 Ar148 (j := (1 : Int32)) hin148 (g := (mkF m 84 #[.val (.int (-(own_of mm))), .val (.int (2 : Int32)), .val (.ref bf), .unset, .unset, .val (.int (1 : Int32)), .val (.int (0 : Int32))] [(.int (own_of (48 + mm % 10))), (.int (1 : Int32)), (.ref bf)])) rfl rfl (hb hby d10_84)
  refine Run.pre st149 ?_
  have V_bf_149 : Arv Z h149 bf kb .byte (2 : Int32) [(.int (0 : Int32)), (.int (nar .byte (own_of (48 + mm % 10))))] (.int (0 : Int32)) := Arv.set Ar148 q148 S148 N148 H148 G148 (fits_nar_byte _) W149 1 rfl (Nat.le_of_ble_eq_true rfl)
  have K149 : Keep h0 h149 [bf] := (Keep.refl h0 [bf]).wr W149 (Or.inl (by simp))
  have N149 := Fr.snoc X149 N0 g_bf
  refine Run.pre (fun _ k => XS.iloadN X149.here hx rfl (hb hby d10_85) rfl  k) ?_
  refine Run.pre (fun _ k => XS.bipush X149.here hx rfl (hb hby d10_86) k) ?_
  show Run p e below s _ _ _ (T149.setTop (mkF m 88 #[.val (.int (-(own_of mm))), .val (.int (2 : Int32)), .val (.ref bf), .unset, .unset, .val (.int (1 : Int32)), .val (.int (0 : Int32))] [(.int (-9 : Int32)), (.int (-(own_of mm)))]))
  refine Run.pre (fun _ k => XS.icmpNo X149.here hx rfl (hb hby d10_88) rfl (tlt ((own_nglt (show mm < 2147483648 by omega) (by have e : ((-9 : Int32)).toInt = -9 := (by decide); omega)) : (-(own_of mm)) < (-9 : Int32))).2.1 k) ?_
  refine Run.pre (fun _ k => XS.aloadN X149.here hx rfl (hb hby d10_91) rfl rfl k) ?_
  show Run p e below s _ _ _ (T149.setTop (mkF m 92 #[.val (.int (-(own_of mm))), .val (.int (2 : Int32)), .val (.ref bf), .unset, .unset, .val (.int (1 : Int32)), .val (.int (0 : Int32))] [(.ref bf)]))
  refine Run.pre (fun _ k => XS.iinc X149.here hx rfl (hb hby d10_92) rfl (l' := #[.val (.int (-(own_of mm))), .val (.int (2 : Int32)), .val (.ref bf), .unset, .unset, .val (.int (0 : Int32)), .val (.int (0 : Int32))]) rfl k) ?_
  refine Run.pre (fun _ k => XS.iload X149.here hx rfl (hb hby d10_95) rfl  k) ?_
  show Run p e below s _ _ _ (T149.setTop (mkF m 97 #[.val (.int (-(own_of mm))), .val (.int (2 : Int32)), .val (.ref bf), .unset, .unset, .val (.int (0 : Int32)), .val (.int (0 : Int32))] [(.int (0 : Int32)), (.ref bf)]))
  have f150 := (OL.wr W149 g_bf)
  obtain ⟨T151, X151, e151, st151⟩ := getS2 X149 hx hZ hown (host := "") (Or.inl (hw _ (List.mem_of_getElem? (i := 58) rfl))) Via.refl e149 (ST.ext f150.2) (g := (mkF m 97 #[.val (.int (-(own_of mm))), .val (.int (2 : Int32)), .val (.ref bf), .unset, .unset, .val (.int (0 : Int32)), .val (.int (0 : Int32))] [(.int (0 : Int32)), (.ref bf)])) rfl (hb hby d10_97)
  refine Run.pre st151 ?_
  refine Run.pre (fun _ k => XS.iloadN X151.here hx rfl (hb hby d10_100) rfl  k) ?_
  show Run p e below s _ _ _ (T151.setTop (mkF m 101 #[.val (.int (-(own_of mm))), .val (.int (2 : Int32)), .val (.ref bf), .unset, .unset, .val (.int (0 : Int32)), .val (.int (0 : Int32))] [(.int (-(own_of mm))), (.ref td), (.int (0 : Int32)), (.ref bf)]))
  refine Run.pre (fun _ k => XS.ineg X151.here hx rfl (hb hby d10_101) rfl k) ?_
  show Run p e below s _ _ _ (T151.setTop (mkF m 102 #[.val (.int (-(own_of mm))), .val (.int (2 : Int32)), .val (.ref bf), .unset, .unset, .val (.int (0 : Int32)), .val (.int (0 : Int32))] [(.int (-(-(own_of mm)))), (.ref td), (.int (0 : Int32)), (.ref bf)]))
  obtain ⟨c152, Ar152, -, S152, N152, H152, -⟩ := id (AT.ext f150.2)
  have hin152 : ¬ ((-(-(own_of mm))) < 0 ∨ c152.slots.size ≤ ((-(-(own_of mm)))).toNatClampNeg) := inb_of S152 (by rw [Int32.neg_neg]; exact own_in100 (show mm < 100 by omega))
  refine Run.pre (X151.baloadBytes hx (j := (-(-(own_of mm)))) (v := (.int (own_of (48 + mm / 10)))) (by rw [e151]; exact Ar152.1) (State.isArrayOf_alike hZ.alike Ar152.2.1) Ar152.2.2 hin152 (H152.at hin152 (by rw [Int32.neg_neg]; exact own_getT (show mm < 100 by omega))) (g := (mkF m 102 #[.val (.int (-(own_of mm))), .val (.int (2 : Int32)), .val (.ref bf), .unset, .unset, .val (.int (0 : Int32)), .val (.int (0 : Int32))] [(.int (-(-(own_of mm)))), (.ref td), (.int (0 : Int32)), (.ref bf)])) rfl rfl (hb hby d10_102)) ?_
  show Run p e below s _ _ _ (T151.setTop (mkF m 103 #[.val (.int (-(own_of mm))), .val (.int (2 : Int32)), .val (.ref bf), .unset, .unset, .val (.int (0 : Int32)), .val (.int (0 : Int32))] [(.int (own_of (48 + mm / 10))), (.int (0 : Int32)), (.ref bf)]))
  obtain ⟨c153, Ar153, q153, S153, N153, H153, G153⟩ := id V_bf_149
  have hin153 : ¬ ((0 : Int32) < 0 ∨ c153.slots.size ≤ ((0 : Int32)).toNatClampNeg) := inb_of S153 ⟨by decide, by decide⟩
  obtain ⟨T154, h154, X154, e154, W154, st154⟩ := stB X151 hx hZ e151 Ar153 (j := (0 : Int32)) hin153 (g := (mkF m 103 #[.val (.int (-(own_of mm))), .val (.int (2 : Int32)), .val (.ref bf), .unset, .unset, .val (.int (0 : Int32)), .val (.int (0 : Int32))] [(.int (own_of (48 + mm / 10))), (.int (0 : Int32)), (.ref bf)])) rfl rfl (hb hby d10_103)
  refine Run.pre st154 ?_
  have V_bf_154 : Arv Z h154 bf kb .byte (2 : Int32) [(.int (nar .byte (own_of (48 + mm / 10)))), (.int (nar .byte (own_of (48 + mm % 10))))] (.int (0 : Int32)) := Arv.set Ar153 q153 S153 N153 H153 G153 (fits_nar_byte _) W154 0 rfl (Nat.le_of_ble_eq_true rfl)
  have K154 : Keep h0 h154 [bf] := K149.wr W154 (Or.inl (by simp))
  have N154 := Fr.snoc X154 N149 g_bf
  refine Run.pre (fun _ k => XS.iload X154.here hx rfl (hb hby d10_104) rfl  k) ?_
  show Run p e below s _ _ _ (T154.setTop (mkF m 106 #[.val (.int (-(own_of mm))), .val (.int (2 : Int32)), .val (.ref bf), .unset, .unset, .val (.int (0 : Int32)), .val (.int (0 : Int32))] [(.int (0 : Int32))]))
  refine Run.pre (fun _ k => XS.ifYes X154.here hx rfl (pc0 := 106) (pc' := 118) rfl (hb hby d10_106) rfl ((if0 _ _).trans (teq ((by decide) : (0 : Int32) = (0 : Int32))).1) (by decide) (by decide) k) ?_
  refine Run.pre (fun _ k => XS.iload X154.here hx rfl (hb hby d10_118) rfl  k) ?_
  show Run p e below s _ _ _ (T154.setTop (mkF m 120 #[.val (.int (-(own_of mm))), .val (.int (2 : Int32)), .val (.ref bf), .unset, .unset, .val (.int (0 : Int32)), .val (.int (0 : Int32))] [(.int (0 : Int32))]))
  exact Run.retI hS (by first | exact Nat.le_refl _ | (rw [e154]; exact (Nat.le_trans (Nat.le_trans (Nat.zero_le _) (Keep.of_wr W149).1) (Keep.of_wr W154).1))) X154 hx hret hlk (hb hby d10_120) (by first | (rw [e154]; exact ⟨rfl, N154, K154, V_bf_154⟩) | exact ⟨rfl, N154, K154, V_bf_154⟩) (by decide) (by decide)
set_option maxRecDepth 65536 in
set_option maxHeartbeats 40000000 in
theorem rmTS_2 (l : Launch) (Z : State) (a0 : Array Value) (hw : ∀ d ∈ tables_1, d.before a0 Z = true) (mm : Nat) (cs : Int32) (od : Addr) (ko : ClassId) (td : Addr) (kt : ClassId) (h0 : Heap) (n0 : Nat) (Z0 : n0 ≤ h0.size) (OL : Old Z n0 h0) (hm : mm < 2147483648) (lo : 10 ≤ mm) (hi : mm < 100) (SC : Sta Z Z.heap "java/lang/String" "COMPACT_STRINGS" "Z" (.int cs)) (hcs : ¬ cs = 0) (SO : Sta Z Z.heap "java/lang/Integer" "DigitOnes" "[B" (.ref od)) (ST : Sta Z Z.heap "java/lang/Integer" "DigitTens" "[B" (.ref td)) (AO : Arv Z Z.heap od ko .byte 100 own_DO (.int 0)) (AT : Arv Z Z.heap td kt .byte 100 own_DT (.int 0)) :
    Con l (⟨"java/lang/Integer", "toString", "(I)Ljava/lang/String;"⟩ : MethodName) jdk_33_method_10_code 3 (some (.object "java/lang/String")) ({ frames := 2, cells := 2, slots := 6, locals := 27 } : Room) Z #[(.int (own_of mm))] h0 (fun _ => True) (fun v h L vm => ∃ o : Addr, ∃ b : Addr, ∃ k : ClassId, v = some (.ref o) ∧ Fr n0 L ∧ Keep h0 h [] ∧ h0.size ≤ o ∧ Exa Z h o "java/lang/String" ∧ Fld Z h o "java/lang/String" "value" "[B" (.ref b) ∧ Fld Z h o "java/lang/String" "coder" "B" (.int 0) ∧ Arv Z h b k .byte 2 [(.int (nar .byte (own_of (48 + mm / 10)))), (.int (nar .byte (own_of (48 + mm % 10))))] (.int 0)) := by
  refine Con.mk (plainFor_of_name pn_8) (fun m => show entryFrame m #[(.int (own_of mm))] 3 = mkF m 0 #[.val (.int (own_of mm)), .unset, .unset] [] by first | (simp [entryFrame, mkF, argsToLocals, Value.category]; done) | rfl) ?_
  intro p e s m below meth c s₁ vm0 hx hby hml hown hnm hret hlk hZ X0 e0 hS hs0 hP0
  have N0 := Fr.nil n0
  refine Run.pre (fun _ k => XS.iloadN X0.here hx rfl (hb hby d8_0) rfl  k) ?_
  show Run p e below s _ _ _ (s₁.setTop (mkF m 1 #[.val (.int (own_of mm)), .unset, .unset] [(.int (own_of mm))]))
  refine Run.callS hS (by first | exact Nat.le_refl _ | (rw [e0]; exact (Nat.zero_le _))) X0 hx hZ (y := (⟨"java/lang/Integer", "stringSize", "(I)I"⟩ : MethodName)) hown (hw _ (List.mem_of_getElem? (i := 50) rfl)) (hw _ (List.mem_of_getElem? (i := 51) rfl)) (hw _ (List.mem_of_getElem? (i := 21) rfl)) (hw _ (List.mem_of_getElem? (i := 52) rfl)) (by decide) (W := 0) (rmSS l Z a0 hw mm h0 n0 (Nat.le_trans Z0 (Keep.refl h0 []).1) hm) e0 (by decide) (by decide) (by decide) (by decide) (fun _ _ => trivial) (g := (mkF m 1 #[.val (.int (own_of mm)), .unset, .unset] [(.int (own_of mm))])) rfl (by rw [hml]; rfl) (argsL := [(.int (own_of mm))]) (rest := []) (lenOf pd_8 rfl) rfl (by show 2 * 0 + _ ≤ _; exact Nat.le_of_eq rfl) (hb hby d8_1) ?_
  intro v155 T155 L155 X155 hS hZ hown hV155 hQ155
  obtain ⟨rfl, Nq155, he155⟩ := hQ155
  have N155 := Fr.app N0 Nq155
  have e155 : T155.heap = h0 := he155
  rw [own_dgt_2 lo hi]
  show Run p e below s _ _ _ (T155.setTop (mkF m 4 #[.val (.int (own_of mm)), .unset, .unset] [(.int (2 : Int32))]))
  refine Run.pre (fun _ k => XS.istoreN X155.here hx rfl (hb hby d8_4) rfl (l' := #[.val (.int (own_of mm)), .val (.int (2 : Int32)), .unset]) rfl k) ?_
  show Run p e below s _ _ _ (T155.setTop (mkF m 5 #[.val (.int (own_of mm)), .val (.int (2 : Int32)), .unset] []))
  obtain ⟨T156, X156, e156, st156⟩ := getS2 X155 hx hZ hown (host := "") (Or.inl (hw _ (List.mem_of_getElem? (i := 53) rfl))) Via.refl e155 (SC.ext OL.2) (g := (mkF m 5 #[.val (.int (own_of mm)), .val (.int (2 : Int32)), .unset] [])) rfl (hb hby d8_5)
  refine Run.pre st156 ?_
  show Run p e below s _ _ _ (T156.setTop (mkF m 8 #[.val (.int (own_of mm)), .val (.int (2 : Int32)), .unset] [(.int cs)]))
  refine Run.pre (fun _ k => XS.ifNo X156.here hx rfl (hb hby d8_8) rfl ((if0 _ _).trans (feq (hcs : ¬ (cs = (0 : Int32)))).1) k) ?_
  refine Run.pre (fun _ k => XS.iloadN X156.here hx rfl (hb hby d8_11) rfl  k) ?_
  show Run p e below s _ _ _ (T156.setTop (mkF m 12 #[.val (.int (own_of mm)), .val (.int (2 : Int32)), .unset] [(.int (2 : Int32))]))
  obtain ⟨T157, h157, k157, X157, e157, E157, A157, st157⟩ := newP X156 hx hZ (hw _ (List.mem_of_getElem? (i := 7) rfl)) e156 (g := (mkF m 12 #[.val (.int (own_of mm)), .val (.int (2 : Int32)), .unset] [(.int (2 : Int32))])) rfl (hb hby d8_12) rfl (by decide) (cap := 2) (by decide) (by decide) (by decide) (by decide)
  obtain ⟨b157, g157⟩ : ∃ z, z = h0.size := ⟨_, rfl⟩
  rw [← g157] at A157 st157
  refine Run.pre st157 ?_
  have V_b157 : Arv Z h157 b157 k157 .byte (2 : Int32) [(.int (0 : Int32)), (.int (0 : Int32))] (.int (0 : Int32)) := (Arv.new A157 (by decide)).pad (pad_rep [] (.int (0 : Int32)) 2)
  have gn_b157 : n0 ≤ b157 := Nat.le_trans (Nat.le_trans Z0 (Keep.refl h0 []).1) (Nat.le_of_eq g157.symm)
  have sz_b157 : h0.size ≤ b157 := Nat.le_trans (Keep.refl h0 []).1 (Nat.le_of_eq g157.symm)
  have K157 : Keep h0 h157 [] := (Keep.refl h0 []).ext E157
  show Run p e below s _ _ _ (T157.setTop (mkF m 14 #[.val (.int (own_of mm)), .val (.int (2 : Int32)), .unset] [(.ref b157)]))
  refine Run.pre (fun _ k => XS.astoreN X157.here hx rfl (hb hby d8_14) rfl rfl (l' := #[.val (.int (own_of mm)), .val (.int (2 : Int32)), .val (.ref b157)]) rfl k) ?_
  refine Run.pre (fun _ k => XS.iloadN X157.here hx rfl (hb hby d8_15) rfl  k) ?_
  refine Run.pre (fun _ k => XS.iloadN X157.here hx rfl (hb hby d8_16) rfl  k) ?_
  refine Run.pre (fun _ k => XS.aloadN X157.here hx rfl (hb hby d8_17) rfl rfl k) ?_
  show Run p e below s _ _ _ (T157.setTop (mkF m 18 #[.val (.int (own_of mm)), .val (.int (2 : Int32)), .val (.ref b157)] [(.ref b157), (.int (2 : Int32)), (.int (own_of mm))]))
  have f158 := (OL.ext E157)
  refine Run.callS hS (by first | exact Nat.le_refl _ | (rw [e157]; exact (Nat.le_trans (Nat.le_of_eq (congrArg Array.size e155)) E157.1))) X157 hx hZ (y := (⟨"java/lang/Integer", "getChars", "(II[B)I"⟩ : MethodName)) hown (hw _ (List.mem_of_getElem? (i := 54) rfl)) (hw _ (List.mem_of_getElem? (i := 55) rfl)) (hw _ (List.mem_of_getElem? (i := 21) rfl)) (hw _ (List.mem_of_getElem? (i := 56) rfl)) (by decide) (W := 0) (rmGC_2 l Z a0 hw mm od ko td kt b157 k157 h157 n0 (Nat.le_trans Z0 K157.1) f158 hm lo hi SO ST AO AT V_b157 gn_b157) e157 (by decide) (by decide) (by decide) (by decide) (fun _ _ => trivial) (g := (mkF m 18 #[.val (.int (own_of mm)), .val (.int (2 : Int32)), .val (.ref b157)] [(.ref b157), (.int (2 : Int32)), (.int (own_of mm))])) rfl (by rw [hml]; rfl) (argsL := [(.int (own_of mm)), (.int (2 : Int32)), (.ref b157)]) (rest := []) (lenOf pd_9 rfl) rfl (by show 2 * 0 + _ ≤ _; exact Nat.le_of_eq rfl) (hb hby d8_18) ?_
  intro v159 T159 L159 X159 hS hZ hown hV159 hQ159
  obtain ⟨rfl, Nq159, Kc159, vb159⟩ := hQ159
  have N159 := Fr.app N155 Nq159
  have K159 : Keep h0 T159.heap [] := K157.trans Kc159 (allS (Or.inr sz_b157) all0)
  show Run p e below s _ _ _ (T159.setTop (mkF m 21 #[.val (.int (own_of mm)), .val (.int (2 : Int32)), .val (.ref b157)] [(.int (0 : Int32))]))
  refine Run.pre (fun _ k => XS.pop X159.here hx rfl (hb hby d8_21) rfl rfl k) ?_
  show Run p e below s _ _ _ (T159.setTop (mkF m 22 #[.val (.int (own_of mm)), .val (.int (2 : Int32)), .val (.ref b157)] []))
  obtain ⟨T160, h160, X160, e160, E160, A160, D160, -, st160⟩ := newO X159 hx hZ hown (hw _ (List.mem_of_getElem? (i := 59) rfl)) (hw _ (List.mem_of_getElem? (i := 6) rfl)) (hw _ (List.mem_of_getElem? (i := 5) rfl)) rfl (g := (mkF m 22 #[.val (.int (own_of mm)), .val (.int (2 : Int32)), .val (.ref b157)] [])) rfl (hb hby d8_22) (by decide) (by decide)
  obtain ⟨b160, g160⟩ : ∃ z, z = T159.heap.size := ⟨_, rfl⟩
  rw [← g160] at A160 D160 st160
  refine Run.pre st160 ?_
  have gn_b160 : n0 ≤ b160 := Nat.le_trans (Nat.le_trans Z0 K159.1) (Nat.le_of_eq g160.symm)
  have sz_b160 : h0.size ≤ b160 := Nat.le_trans K159.1 (Nat.le_of_eq g160.symm)
  have K160 : Keep h0 h160 [] := K159.ext E160
  have F_value_b160 : Fld Z h160 b160 "java/lang/String" "value" "[B" .null := D160 (Or.inr (hw _ (List.mem_of_getElem? (i := 8) rfl))) (ty := (.array .byte)) (by decide)
  have F_coder_b160 : Fld Z h160 b160 "java/lang/String" "coder" "B" (.int (0 : Int32)) := D160 (Or.inr (hw _ (List.mem_of_getElem? (i := 9) rfl))) (ty := .byte) (by decide)
  refine Run.pre (fun _ k => XS.dup X160.here hx rfl (hb hby d8_25) rfl rfl k) ?_
  refine Run.pre (fun _ k => XS.aloadN X160.here hx rfl (hb hby d8_26) rfl rfl k) ?_
  refine Run.pre (fun _ k => XS.iconst X160.here hx rfl (hb hby d8_27) k) ?_
  show Run p e below s _ _ _ (T160.setTop (mkF m 28 #[.val (.int (own_of mm)), .val (.int (2 : Int32)), .val (.ref b157)] [(.int (0 : Int32)), (.ref b157), (.ref b160), (.ref b160)]))
  refine Run.callI hS (by first | exact Nat.le_refl _ | (rw [e160]; exact (Nat.le_trans (Nat.le_refl _) E160.1))) X160 hx hZ (y := (⟨"java/lang/String", "<init>", "([BB)V"⟩ : MethodName)) rfl hown (hw _ (List.mem_of_getElem? (i := 60) rfl)) (hw _ (List.mem_of_getElem? (i := 61) rfl)) (hw _ (List.mem_of_getElem? (i := 63) rfl)) (hw _ (List.mem_of_getElem? (i := 5) rfl)) (by decide) (a := b160) (W := 1) (rmBB l Z a0 hw b160 b157 h160 n0 (Nat.le_trans Z0 K160.1) A160 F_value_b160 F_coder_b160 gn_b160) e160 (by decide) (by decide) (by decide) (by decide) (fun _ _ => trivial) (g := (mkF m 28 #[.val (.int (own_of mm)), .val (.int (2 : Int32)), .val (.ref b157)] [(.int (0 : Int32)), (.ref b157), (.ref b160), (.ref b160)])) rfl (by rw [hml]; rfl) (argsL := [(.ref b157), (.int (0 : Int32))]) (rest := [(.ref b160)]) (lenOf pd_10 rfl) rfl (by show 2 * 0 + _ ≤ _; exact Nat.le_of_eq rfl) (hb hby d8_28) ?_
  intro v161 T161 L161 X161 hS hZ hown hV161 hQ161
  obtain ⟨rfl, Nq161, Kc161, fv161, fc161⟩ := hQ161
  have N161 := Fr.app N159 Nq161
  have K161 : Keep h0 T161.heap [] := K160.trans Kc161 (allS (Or.inr sz_b160) all0)
  show Run p e below s _ _ _ (T161.setTop (mkF m 31 #[.val (.int (own_of mm)), .val (.int (2 : Int32)), .val (.ref b157)] [(.ref b160)]))
  have f162 := (A160.keep Kc161)
  have f163 := ((vb159.ext E160).keep Kc161 (ninS (Nat.ne_of_lt (Nat.lt_of_lt_of_le vb159.lt (Nat.le_of_eq g160.symm))) nin0))
  exact Run.retA hS (Nat.le_refl _) X161 hx hret rfl rfl hlk (hb hby d8_31) ⟨b160, b157, k157, rfl, N161, K161, sz_b160, f162, fv161, fc161, f163⟩ (by decide) (by decide)
theorem own_good_2 {mm : Nat} (hm : mm < 2147483648) (lo : 10 ≤ mm) (hi : mm < 100) : own_good mm [(.int (nar .byte (own_of (48 + mm / 10)))), (.int (nar .byte (own_of (48 + mm % 10))))] :=
  ⟨Or.inr ⟨by rw [own_dgt_2 lo hi]; decide, by rw [own_dgt_2 lo hi]; decide, by rw [own_dgt_2 lo hi]; decide, nar .byte (own_of (48 + mm % 10)), by rw [own_dgt_2 lo hi]; rfl, own_heq hm (q := 1) rfl (by decide) (by decide) (by omega)⟩,
   Or.inr ⟨by rw [own_dgt_2 lo hi]; decide, by rw [own_dgt_2 lo hi]; decide, by rw [own_dgt_2 lo hi]; decide, nar .byte (own_of (48 + mm / 10)), by rw [own_dgt_2 lo hi]; rfl, own_heq hm (q := 10) rfl (by decide) (by decide) (by omega)⟩,
   Or.inl (by rw [own_dgt_2 lo hi]; decide),
   Or.inl (by rw [own_dgt_2 lo hi]; decide),
   Or.inl (by rw [own_dgt_2 lo hi]; decide),
   Or.inl (by rw [own_dgt_2 lo hi]; decide),
   Or.inl (by rw [own_dgt_2 lo hi]; decide),
   Or.inl (by rw [own_dgt_2 lo hi]; decide),
   Or.inl (by rw [own_dgt_2 lo hi]; decide),
   Or.inl (by rw [own_dgt_2 lo hi]; decide)⟩
theorem d10_28 : decode jdk_33_method_12_code 28 = .ok (.iload_n 0, 1) := by decide +kernel
theorem d10_29 : decode jdk_33_method_12_code 29 = .ok (.bipush 100, 2) := by decide +kernel
theorem d10_31 : decode jdk_33_method_12_code 31 = .ok (.idiv, 1) := by decide +kernel
theorem d10_32 : decode jdk_33_method_12_code 32 = .ok (.istore_n 3, 1) := by decide +kernel
theorem d10_33 : decode jdk_33_method_12_code 33 = .ok (.iload_n 3, 1) := by decide +kernel
theorem d10_34 : decode jdk_33_method_12_code 34 = .ok (.bipush 100, 2) := by decide +kernel
theorem d10_36 : decode jdk_33_method_12_code 36 = .ok (.imul, 1) := by decide +kernel
theorem d10_37 : decode jdk_33_method_12_code 37 = .ok (.iload_n 0, 1) := by decide +kernel
theorem d10_38 : decode jdk_33_method_12_code 38 = .ok (.isub, 1) := by decide +kernel
theorem d10_39 : decode jdk_33_method_12_code 39 = .ok (.istore 4, 2) := by decide +kernel
theorem d10_41 : decode jdk_33_method_12_code 41 = .ok (.iload_n 3, 1) := by decide +kernel
theorem d10_42 : decode jdk_33_method_12_code 42 = .ok (.istore_n 0, 1) := by decide +kernel
theorem d10_43 : decode jdk_33_method_12_code 43 = .ok (.aload_n 2, 1) := by decide +kernel
theorem d10_44 : decode jdk_33_method_12_code 44 = .ok (.iinc 5 (-1), 3) := by decide +kernel
theorem d10_47 : decode jdk_33_method_12_code 47 = .ok (.iload 5, 2) := by decide +kernel
theorem d10_49 : decode jdk_33_method_12_code 49 = .ok (.getstatic 83, 3) := by decide +kernel
theorem d10_52 : decode jdk_33_method_12_code 52 = .ok (.iload 4, 2) := by decide +kernel
theorem d10_54 : decode jdk_33_method_12_code 54 = .ok (.baload, 1) := by decide +kernel
theorem d10_55 : decode jdk_33_method_12_code 55 = .ok (.bastore, 1) := by decide +kernel
theorem d10_56 : decode jdk_33_method_12_code 56 = .ok (.aload_n 2, 1) := by decide +kernel
theorem d10_57 : decode jdk_33_method_12_code 57 = .ok (.iinc 5 (-1), 3) := by decide +kernel
theorem d10_60 : decode jdk_33_method_12_code 60 = .ok (.iload 5, 2) := by decide +kernel
theorem d10_62 : decode jdk_33_method_12_code 62 = .ok (.getstatic 87, 3) := by decide +kernel
theorem d10_65 : decode jdk_33_method_12_code 65 = .ok (.iload 4, 2) := by decide +kernel
theorem d10_67 : decode jdk_33_method_12_code 67 = .ok (.baload, 1) := by decide +kernel
theorem d10_68 : decode jdk_33_method_12_code 68 = .ok (.bastore, 1) := by decide +kernel
theorem d10_69 : decode jdk_33_method_12_code 69 = .ok (.goto (-47), 3) := by decide +kernel
set_option maxRecDepth 65536 in
set_option maxHeartbeats 40000000 in
theorem rmGC_3 (l : Launch) (Z : State) (a0 : Array Value) (hw : ∀ d ∈ tables_1, d.before a0 Z = true) (mm : Nat) (od : Addr) (ko : ClassId) (td : Addr) (kt : ClassId) (bf : Addr) (kb : ClassId) (h0 : Heap) (n0 : Nat) (Z0 : n0 ≤ h0.size) (OL : Old Z n0 h0) (hm : mm < 2147483648) (lo : 100 ≤ mm) (hi : mm < 1000) (SO : Sta Z Z.heap "java/lang/Integer" "DigitOnes" "[B" (.ref od)) (ST : Sta Z Z.heap "java/lang/Integer" "DigitTens" "[B" (.ref td)) (AO : Arv Z Z.heap od ko .byte 100 own_DO (.int 0)) (AT : Arv Z Z.heap td kt .byte 100 own_DT (.int 0)) (AB : Arv Z h0 bf kb .byte 3 [(.int (0 : Int32)), (.int (0 : Int32)), (.int (0 : Int32))] (.int 0)) (g_bf : n0 ≤ bf) :
    Con l (⟨"java/lang/Integer", "getChars", "(II[B)I"⟩ : MethodName) jdk_33_method_12_code 7 (some .int) ({ frames := 0, cells := 0, slots := 0, locals := 0 } : Room) Z #[(.int (own_of mm)), (.int (3 : Int32)), (.ref bf)] h0 (fun _ => True) (fun v h L vm => v = some (.int 0) ∧ Fr n0 L ∧ Keep h0 h [bf] ∧ Arv Z h bf kb .byte 3 [(.int (nar .byte (own_of (48 + (mm / 100) % 10)))), (.int (nar .byte (own_of (48 + (mm % 100) / 10)))), (.int (nar .byte (own_of (48 + (mm % 100) % 10))))] (.int 0)) := by
  refine Con.mk (plainFor_of_name pn_10) (fun m => show entryFrame m #[(.int (own_of mm)), (.int (3 : Int32)), (.ref bf)] 7 = mkF m 0 #[.val (.int (own_of mm)), .val (.int (3 : Int32)), .val (.ref bf), .unset, .unset, .unset, .unset] [] by first | (simp [entryFrame, mkF, argsToLocals, Value.category]; done) | rfl) ?_
  intro p e s m below meth c s₁ vm0 hx hby hml hown hnm hret hlk hZ X0 e0 hS hs0 hP0
  have N0 := Fr.nil n0
  refine Run.pre (fun _ k => XS.iloadN X0.here hx rfl (hb hby d10_0) rfl  k) ?_
  show Run p e below s _ _ _ (s₁.setTop (mkF m 1 #[.val (.int (own_of mm)), .val (.int (3 : Int32)), .val (.ref bf), .unset, .unset, .unset, .unset] [(.int (3 : Int32))]))
  refine Run.pre (fun _ k => XS.istore X0.here hx rfl (hb hby d10_1) rfl (l' := #[.val (.int (own_of mm)), .val (.int (3 : Int32)), .val (.ref bf), .unset, .unset, .val (.int (3 : Int32)), .unset]) rfl k) ?_
  refine Run.pre (fun _ k => XS.iloadN X0.here hx rfl (hb hby d10_3) rfl  k) ?_
  show Run p e below s _ _ _ (s₁.setTop (mkF m 4 #[.val (.int (own_of mm)), .val (.int (3 : Int32)), .val (.ref bf), .unset, .unset, .val (.int (3 : Int32)), .unset] [(.int (own_of mm))]))
  refine Run.pre (fun _ k => XS.ifYes X0.here hx rfl (pc0 := 4) (pc' := 11) rfl (hb hby d10_4) rfl ((if0 _ _).trans (flt ((own_nofl hm (by have e : ((0 : Int32)).toInt = 0 := (by decide); omega)) : ¬ ((own_of mm) < (0 : Int32)))).2.1) (by decide) (by decide) k) ?_
  refine Run.pre (fun _ k => XS.iconst X0.here hx rfl (hb hby d10_11) k) ?_
  show Run p e below s _ _ _ (s₁.setTop (mkF m 12 #[.val (.int (own_of mm)), .val (.int (3 : Int32)), .val (.ref bf), .unset, .unset, .val (.int (3 : Int32)), .unset] [(.int (0 : Int32))]))
  refine Run.pre (fun _ k => XS.istore X0.here hx rfl (hb hby d10_12) rfl (l' := #[.val (.int (own_of mm)), .val (.int (3 : Int32)), .val (.ref bf), .unset, .unset, .val (.int (3 : Int32)), .val (.int (0 : Int32))]) rfl k) ?_
  refine Run.pre (fun _ k => XS.iload X0.here hx rfl (hb hby d10_14) rfl  k) ?_
  show Run p e below s _ _ _ (s₁.setTop (mkF m 16 #[.val (.int (own_of mm)), .val (.int (3 : Int32)), .val (.ref bf), .unset, .unset, .val (.int (3 : Int32)), .val (.int (0 : Int32))] [(.int (0 : Int32))]))
  refine Run.pre (fun _ k => XS.ifNo X0.here hx rfl (hb hby d10_16) rfl ((if0 _ _).trans (teq ((by decide) : (0 : Int32) = (0 : Int32))).2) k) ?_
  refine Run.pre (fun _ k => XS.iloadN X0.here hx rfl (hb hby d10_19) rfl  k) ?_
  show Run p e below s _ _ _ (s₁.setTop (mkF m 20 #[.val (.int (own_of mm)), .val (.int (3 : Int32)), .val (.ref bf), .unset, .unset, .val (.int (3 : Int32)), .val (.int (0 : Int32))] [(.int (own_of mm))]))
  refine Run.pre (fun _ k => XS.ineg X0.here hx rfl (hb hby d10_20) rfl k) ?_
  show Run p e below s _ _ _ (s₁.setTop (mkF m 21 #[.val (.int (own_of mm)), .val (.int (3 : Int32)), .val (.ref bf), .unset, .unset, .val (.int (3 : Int32)), .val (.int (0 : Int32))] [(.int (-(own_of mm)))]))
  refine Run.pre (fun _ k => XS.istoreN X0.here hx rfl (hb hby d10_21) rfl (l' := #[.val (.int (-(own_of mm))), .val (.int (3 : Int32)), .val (.ref bf), .unset, .unset, .val (.int (3 : Int32)), .val (.int (0 : Int32))]) rfl k) ?_
  refine Run.pre (fun _ k => XS.iloadN X0.here hx rfl (hb hby d10_22) rfl  k) ?_
  refine Run.pre (fun _ k => XS.bipush X0.here hx rfl (hb hby d10_23) k) ?_
  show Run p e below s _ _ _ (s₁.setTop (mkF m 25 #[.val (.int (-(own_of mm))), .val (.int (3 : Int32)), .val (.ref bf), .unset, .unset, .val (.int (3 : Int32)), .val (.int (0 : Int32))] [(.int (-100 : Int32)), (.int (-(own_of mm)))]))
  refine Run.pre (fun _ k => XS.icmpNo X0.here hx rfl (hb hby d10_25) rfl (flt ((own_nltng (show mm < 2147483648 by omega) (by have e : ((-100 : Int32)).toInt = -100 := (by decide); omega)) : ¬ ((-100 : Int32) < (-(own_of mm))))).2.2.1 k) ?_
  refine Run.pre (fun _ k => XS.iloadN X0.here hx rfl (hb hby d10_28) rfl  k) ?_
  refine Run.pre (fun _ k => XS.bipush X0.here hx rfl (hb hby d10_29) k) ?_
  show Run p e below s _ _ _ (s₁.setTop (mkF m 31 #[.val (.int (-(own_of mm))), .val (.int (3 : Int32)), .val (.ref bf), .unset, .unset, .val (.int (3 : Int32)), .val (.int (0 : Int32))] [(.int (100 : Int32)), (.int (-(own_of mm)))]))
  refine Run.pre (fun _ k => XS.idiv X0.here hx rfl (hb hby d10_31) rfl (by decide) k) ?_
  show Run p e below s _ _ _ (s₁.setTop (mkF m 32 #[.val (.int (-(own_of mm))), .val (.int (3 : Int32)), .val (.ref bf), .unset, .unset, .val (.int (3 : Int32)), .val (.int (0 : Int32))] [(.int ((-(own_of mm)) / (100 : Int32)))]))
  refine Run.pre (fun _ k => XS.istoreN X0.here hx rfl (hb hby d10_32) rfl (l' := #[.val (.int (-(own_of mm))), .val (.int (3 : Int32)), .val (.ref bf), .val (.int ((-(own_of mm)) / (100 : Int32))), .unset, .val (.int (3 : Int32)), .val (.int (0 : Int32))]) rfl k) ?_
  refine Run.pre (fun _ k => XS.iloadN X0.here hx rfl (hb hby d10_33) rfl  k) ?_
  refine Run.pre (fun _ k => XS.bipush X0.here hx rfl (hb hby d10_34) k) ?_
  show Run p e below s _ _ _ (s₁.setTop (mkF m 36 #[.val (.int (-(own_of mm))), .val (.int (3 : Int32)), .val (.ref bf), .val (.int ((-(own_of mm)) / (100 : Int32))), .unset, .val (.int (3 : Int32)), .val (.int (0 : Int32))] [(.int (100 : Int32)), (.int ((-(own_of mm)) / (100 : Int32)))]))
  refine Run.pre (fun _ k => XS.imul X0.here hx rfl (hb hby d10_36) rfl k) ?_
  refine Run.pre (fun _ k => XS.iloadN X0.here hx rfl (hb hby d10_37) rfl  k) ?_
  show Run p e below s _ _ _ (s₁.setTop (mkF m 38 #[.val (.int (-(own_of mm))), .val (.int (3 : Int32)), .val (.ref bf), .val (.int ((-(own_of mm)) / (100 : Int32))), .unset, .val (.int (3 : Int32)), .val (.int (0 : Int32))] [(.int (-(own_of mm))), (.int (((-(own_of mm)) / (100 : Int32)) * (100 : Int32)))]))
  refine Run.pre (fun _ k => XS.isub X0.here hx rfl (hb hby d10_38) rfl k) ?_
  show Run p e below s _ _ _ (s₁.setTop (mkF m 39 #[.val (.int (-(own_of mm))), .val (.int (3 : Int32)), .val (.ref bf), .val (.int ((-(own_of mm)) / (100 : Int32))), .unset, .val (.int (3 : Int32)), .val (.int (0 : Int32))] [(.int ((((-(own_of mm)) / (100 : Int32)) * (100 : Int32)) - (-(own_of mm))))]))
  refine Run.pre (fun _ k => XS.istore X0.here hx rfl (hb hby d10_39) rfl (l' := #[.val (.int (-(own_of mm))), .val (.int (3 : Int32)), .val (.ref bf), .val (.int ((-(own_of mm)) / (100 : Int32))), .val (.int ((((-(own_of mm)) / (100 : Int32)) * (100 : Int32)) - (-(own_of mm)))), .val (.int (3 : Int32)), .val (.int (0 : Int32))]) rfl k) ?_
  refine Run.pre (fun _ k => XS.iloadN X0.here hx rfl (hb hby d10_41) rfl  k) ?_
  show Run p e below s _ _ _ (s₁.setTop (mkF m 42 #[.val (.int (-(own_of mm))), .val (.int (3 : Int32)), .val (.ref bf), .val (.int ((-(own_of mm)) / (100 : Int32))), .val (.int ((((-(own_of mm)) / (100 : Int32)) * (100 : Int32)) - (-(own_of mm)))), .val (.int (3 : Int32)), .val (.int (0 : Int32))] [(.int ((-(own_of mm)) / (100 : Int32)))]))
  refine Run.pre (fun _ k => XS.istoreN X0.here hx rfl (hb hby d10_42) rfl (l' := #[.val (.int ((-(own_of mm)) / (100 : Int32))), .val (.int (3 : Int32)), .val (.ref bf), .val (.int ((-(own_of mm)) / (100 : Int32))), .val (.int ((((-(own_of mm)) / (100 : Int32)) * (100 : Int32)) - (-(own_of mm)))), .val (.int (3 : Int32)), .val (.int (0 : Int32))]) rfl k) ?_
  show Run p e below s _ _ _ (s₁.setTop (mkF m 43 #[.val (.int ((-(own_of mm)) / (100 : Int32))), .val (.int (3 : Int32)), .val (.ref bf), .val (.int ((-(own_of mm)) / (100 : Int32))), .val (.int ((((-(own_of mm)) / (100 : Int32)) * (100 : Int32)) - (-(own_of mm)))), .val (.int (3 : Int32)), .val (.int (0 : Int32))] []))
  rw [own_div (show mm < 2147483648 by omega), own_rem (show mm < 2147483648 by omega)]
  refine Run.pre (fun _ k => XS.aloadN X0.here hx rfl (hb hby d10_43) rfl rfl k) ?_
  show Run p e below s _ _ _ (s₁.setTop (mkF m 44 #[.val (.int (-(own_of (mm / 100)))), .val (.int (3 : Int32)), .val (.ref bf), .val (.int (-(own_of (mm / 100)))), .val (.int (own_of (mm % 100))), .val (.int (3 : Int32)), .val (.int (0 : Int32))] [(.ref bf)]))
  refine Run.pre (fun _ k => XS.iinc X0.here hx rfl (hb hby d10_44) rfl (l' := #[.val (.int (-(own_of (mm / 100)))), .val (.int (3 : Int32)), .val (.ref bf), .val (.int (-(own_of (mm / 100)))), .val (.int (own_of (mm % 100))), .val (.int (2 : Int32)), .val (.int (0 : Int32))]) rfl k) ?_
  refine Run.pre (fun _ k => XS.iload X0.here hx rfl (hb hby d10_47) rfl  k) ?_
  show Run p e below s _ _ _ (s₁.setTop (mkF m 49 #[.val (.int (-(own_of (mm / 100)))), .val (.int (3 : Int32)), .val (.ref bf), .val (.int (-(own_of (mm / 100)))), .val (.int (own_of (mm % 100))), .val (.int (2 : Int32)), .val (.int (0 : Int32))] [(.int (2 : Int32)), (.ref bf)]))
  obtain ⟨T164, X164, e164, st164⟩ := getS2 X0 hx hZ hown (host := "") (Or.inl (hw _ (List.mem_of_getElem? (i := 57) rfl))) Via.refl e0 (SO.ext OL.2) (g := (mkF m 49 #[.val (.int (-(own_of (mm / 100)))), .val (.int (3 : Int32)), .val (.ref bf), .val (.int (-(own_of (mm / 100)))), .val (.int (own_of (mm % 100))), .val (.int (2 : Int32)), .val (.int (0 : Int32))] [(.int (2 : Int32)), (.ref bf)])) rfl (hb hby d10_49)
  refine Run.pre st164 ?_
  refine Run.pre (fun _ k => XS.iload X164.here hx rfl (hb hby d10_52) rfl  k) ?_
  show Run p e below s _ _ _ (T164.setTop (mkF m 54 #[.val (.int (-(own_of (mm / 100)))), .val (.int (3 : Int32)), .val (.ref bf), .val (.int (-(own_of (mm / 100)))), .val (.int (own_of (mm % 100))), .val (.int (2 : Int32)), .val (.int (0 : Int32))] [(.int (own_of (mm % 100))), (.ref od), (.int (2 : Int32)), (.ref bf)]))
  obtain ⟨c165, Ar165, -, S165, N165, H165, -⟩ := id (AO.ext OL.2)
  have hin165 : ¬ ((own_of (mm % 100)) < 0 ∨ c165.slots.size ≤ ((own_of (mm % 100))).toNatClampNeg) := inb_of S165 (own_in100 (show (mm % 100) < 100 by omega))
  refine Run.pre (X164.baloadBytes hx (j := (own_of (mm % 100))) (v := (.int (own_of (48 + (mm % 100) % 10)))) (by rw [e164]; exact Ar165.1) (State.isArrayOf_alike hZ.alike Ar165.2.1) Ar165.2.2 hin165 (H165.at hin165 (own_getO (show (mm % 100) < 100 by omega))) (g := (mkF m 54 #[.val (.int (-(own_of (mm / 100)))), .val (.int (3 : Int32)), .val (.ref bf), .val (.int (-(own_of (mm / 100)))), .val (.int (own_of (mm % 100))), .val (.int (2 : Int32)), .val (.int (0 : Int32))] [(.int (own_of (mm % 100))), (.ref od), (.int (2 : Int32)), (.ref bf)])) rfl rfl (hb hby d10_54)) ?_
  show Run p e below s _ _ _ (T164.setTop (mkF m 55 #[.val (.int (-(own_of (mm / 100)))), .val (.int (3 : Int32)), .val (.ref bf), .val (.int (-(own_of (mm / 100)))), .val (.int (own_of (mm % 100))), .val (.int (2 : Int32)), .val (.int (0 : Int32))] [(.int (own_of (48 + (mm % 100) % 10))), (.int (2 : Int32)), (.ref bf)]))
  obtain ⟨c166, Ar166, q166, S166, N166, H166, G166⟩ := id AB
  have hin166 : ¬ ((2 : Int32) < 0 ∨ c166.slots.size ≤ ((2 : Int32)).toNatClampNeg) := inb_of S166 ⟨by decide, by decide⟩
  obtain ⟨T167, h167, X167, e167, W167, st167⟩ := stB X164 hx hZ e164 Ar166 (j := (2 : Int32)) hin166 (g := (mkF m 55 #[.val (.int (-(own_of (mm / 100)))), .val (.int (3 : Int32)), .val (.ref bf), .val (.int (-(own_of (mm / 100)))), .val (.int (own_of (mm % 100))), .val (.int (2 : Int32)), .val (.int (0 : Int32))] [(.int (own_of (48 + (mm % 100) % 10))), (.int (2 : Int32)), (.ref bf)])) rfl rfl (hb hby d10_55)
  refine Run.pre st167 ?_
  have V_bf_167 : Arv Z h167 bf kb .byte (3 : Int32) [(.int (0 : Int32)), (.int (0 : Int32)), (.int (nar .byte (own_of (48 + (mm % 100) % 10))))] (.int (0 : Int32)) := Arv.set Ar166 q166 S166 N166 H166 G166 (fits_nar_byte _) W167 2 rfl (Nat.le_of_ble_eq_true rfl)
  have K167 : Keep h0 h167 [bf] := (Keep.refl h0 [bf]).wr W167 (Or.inl (by simp))
  have N167 := Fr.snoc X167 N0 g_bf
  refine Run.pre (fun _ k => XS.aloadN X167.here hx rfl (hb hby d10_56) rfl rfl k) ?_
  show Run p e below s _ _ _ (T167.setTop (mkF m 57 #[.val (.int (-(own_of (mm / 100)))), .val (.int (3 : Int32)), .val (.ref bf), .val (.int (-(own_of (mm / 100)))), .val (.int (own_of (mm % 100))), .val (.int (2 : Int32)), .val (.int (0 : Int32))] [(.ref bf)]))
  refine Run.pre (fun _ k => XS.iinc X167.here hx rfl (hb hby d10_57) rfl (l' := #[.val (.int (-(own_of (mm / 100)))), .val (.int (3 : Int32)), .val (.ref bf), .val (.int (-(own_of (mm / 100)))), .val (.int (own_of (mm % 100))), .val (.int (1 : Int32)), .val (.int (0 : Int32))]) rfl k) ?_
  refine Run.pre (fun _ k => XS.iload X167.here hx rfl (hb hby d10_60) rfl  k) ?_
  show Run p e below s _ _ _ (T167.setTop (mkF m 62 #[.val (.int (-(own_of (mm / 100)))), .val (.int (3 : Int32)), .val (.ref bf), .val (.int (-(own_of (mm / 100)))), .val (.int (own_of (mm % 100))), .val (.int (1 : Int32)), .val (.int (0 : Int32))] [(.int (1 : Int32)), (.ref bf)]))
  have f168 := (OL.wr W167 g_bf)
  obtain ⟨T169, X169, e169, st169⟩ := getS2 X167 hx hZ hown (host := "") (Or.inl (hw _ (List.mem_of_getElem? (i := 58) rfl))) Via.refl e167 (ST.ext f168.2) (g := (mkF m 62 #[.val (.int (-(own_of (mm / 100)))), .val (.int (3 : Int32)), .val (.ref bf), .val (.int (-(own_of (mm / 100)))), .val (.int (own_of (mm % 100))), .val (.int (1 : Int32)), .val (.int (0 : Int32))] [(.int (1 : Int32)), (.ref bf)])) rfl (hb hby d10_62)
  refine Run.pre st169 ?_
  refine Run.pre (fun _ k => XS.iload X169.here hx rfl (hb hby d10_65) rfl  k) ?_
  show Run p e below s _ _ _ (T169.setTop (mkF m 67 #[.val (.int (-(own_of (mm / 100)))), .val (.int (3 : Int32)), .val (.ref bf), .val (.int (-(own_of (mm / 100)))), .val (.int (own_of (mm % 100))), .val (.int (1 : Int32)), .val (.int (0 : Int32))] [(.int (own_of (mm % 100))), (.ref td), (.int (1 : Int32)), (.ref bf)]))
  obtain ⟨c170, Ar170, -, S170, N170, H170, -⟩ := id (AT.ext f168.2)
  have hin170 : ¬ ((own_of (mm % 100)) < 0 ∨ c170.slots.size ≤ ((own_of (mm % 100))).toNatClampNeg) := inb_of S170 (own_in100 (show (mm % 100) < 100 by omega))
  refine Run.pre (X169.baloadBytes hx (j := (own_of (mm % 100))) (v := (.int (own_of (48 + (mm % 100) / 10)))) (by rw [e169]; exact Ar170.1) (State.isArrayOf_alike hZ.alike Ar170.2.1) Ar170.2.2 hin170 (H170.at hin170 (own_getT (show (mm % 100) < 100 by omega))) (g := (mkF m 67 #[.val (.int (-(own_of (mm / 100)))), .val (.int (3 : Int32)), .val (.ref bf), .val (.int (-(own_of (mm / 100)))), .val (.int (own_of (mm % 100))), .val (.int (1 : Int32)), .val (.int (0 : Int32))] [(.int (own_of (mm % 100))), (.ref td), (.int (1 : Int32)), (.ref bf)])) rfl rfl (hb hby d10_67)) ?_
  show Run p e below s _ _ _ (T169.setTop (mkF m 68 #[.val (.int (-(own_of (mm / 100)))), .val (.int (3 : Int32)), .val (.ref bf), .val (.int (-(own_of (mm / 100)))), .val (.int (own_of (mm % 100))), .val (.int (1 : Int32)), .val (.int (0 : Int32))] [(.int (own_of (48 + (mm % 100) / 10))), (.int (1 : Int32)), (.ref bf)]))
  obtain ⟨c171, Ar171, q171, S171, N171, H171, G171⟩ := id V_bf_167
  have hin171 : ¬ ((1 : Int32) < 0 ∨ c171.slots.size ≤ ((1 : Int32)).toNatClampNeg) := inb_of S171 ⟨by decide, by decide⟩
  obtain ⟨T172, h172, X172, e172, W172, st172⟩ := stB X169 hx hZ e169 Ar171 (j := (1 : Int32)) hin171 (g := (mkF m 68 #[.val (.int (-(own_of (mm / 100)))), .val (.int (3 : Int32)), .val (.ref bf), .val (.int (-(own_of (mm / 100)))), .val (.int (own_of (mm % 100))), .val (.int (1 : Int32)), .val (.int (0 : Int32))] [(.int (own_of (48 + (mm % 100) / 10))), (.int (1 : Int32)), (.ref bf)])) rfl rfl (hb hby d10_68)
  refine Run.pre st172 ?_
  have V_bf_172 : Arv Z h172 bf kb .byte (3 : Int32) [(.int (0 : Int32)), (.int (nar .byte (own_of (48 + (mm % 100) / 10)))), (.int (nar .byte (own_of (48 + (mm % 100) % 10))))] (.int (0 : Int32)) := Arv.set Ar171 q171 S171 N171 H171 G171 (fits_nar_byte _) W172 1 rfl (Nat.le_of_ble_eq_true rfl)
  have K172 : Keep h0 h172 [bf] := K167.wr W172 (Or.inl (by simp))
  have N172 := Fr.snoc X172 N167 g_bf
  refine Run.pre (fun _ k => XS.goto X172.here hx rfl (pc0 := 69) (pc' := 22) rfl (hb hby d10_69) (by decide) (by decide) k) ?_
  refine Run.pre (fun _ k => XS.iloadN X172.here hx rfl (hb hby d10_22) rfl  k) ?_
  refine Run.pre (fun _ k => XS.bipush X172.here hx rfl (hb hby d10_23) k) ?_
  show Run p e below s _ _ _ (T172.setTop (mkF m 25 #[.val (.int (-(own_of (mm / 100)))), .val (.int (3 : Int32)), .val (.ref bf), .val (.int (-(own_of (mm / 100)))), .val (.int (own_of (mm % 100))), .val (.int (1 : Int32)), .val (.int (0 : Int32))] [(.int (-100 : Int32)), (.int (-(own_of (mm / 100))))]))
  refine Run.pre (fun _ k => XS.icmpYes X172.here hx rfl (pc0 := 25) (pc' := 72) rfl (hb hby d10_25) rfl (tlt ((own_ltng (show (mm / 100) < 2147483648 by omega) (by have e : ((-100 : Int32)).toInt = -100 := (by decide); omega)) : (-100 : Int32) < (-(own_of (mm / 100))))).2.2.1 (by decide) (by decide) k) ?_
  refine Run.pre (fun _ k => XS.aloadN X172.here hx rfl (hb hby d10_72) rfl rfl k) ?_
  show Run p e below s _ _ _ (T172.setTop (mkF m 73 #[.val (.int (-(own_of (mm / 100)))), .val (.int (3 : Int32)), .val (.ref bf), .val (.int (-(own_of (mm / 100)))), .val (.int (own_of (mm % 100))), .val (.int (1 : Int32)), .val (.int (0 : Int32))] [(.ref bf)]))
  refine Run.pre (fun _ k => XS.iinc X172.here hx rfl (hb hby d10_73) rfl (l' := #[.val (.int (-(own_of (mm / 100)))), .val (.int (3 : Int32)), .val (.ref bf), .val (.int (-(own_of (mm / 100)))), .val (.int (own_of (mm % 100))), .val (.int (0 : Int32)), .val (.int (0 : Int32))]) rfl k) ?_
  refine Run.pre (fun _ k => XS.iload X172.here hx rfl (hb hby d10_76) rfl  k) ?_
  show Run p e below s _ _ _ (T172.setTop (mkF m 78 #[.val (.int (-(own_of (mm / 100)))), .val (.int (3 : Int32)), .val (.ref bf), .val (.int (-(own_of (mm / 100)))), .val (.int (own_of (mm % 100))), .val (.int (0 : Int32)), .val (.int (0 : Int32))] [(.int (0 : Int32)), (.ref bf)]))
  have f173 := (f168.wr W172 g_bf)
  obtain ⟨T174, X174, e174, st174⟩ := getS2 X172 hx hZ hown (host := "") (Or.inl (hw _ (List.mem_of_getElem? (i := 57) rfl))) Via.refl e172 (SO.ext f173.2) (g := (mkF m 78 #[.val (.int (-(own_of (mm / 100)))), .val (.int (3 : Int32)), .val (.ref bf), .val (.int (-(own_of (mm / 100)))), .val (.int (own_of (mm % 100))), .val (.int (0 : Int32)), .val (.int (0 : Int32))] [(.int (0 : Int32)), (.ref bf)])) rfl (hb hby d10_78)
  refine Run.pre st174 ?_
  refine Run.pre (fun _ k => XS.iloadN X174.here hx rfl (hb hby d10_81) rfl  k) ?_
  show Run p e below s _ _ _ (T174.setTop (mkF m 82 #[.val (.int (-(own_of (mm / 100)))), .val (.int (3 : Int32)), .val (.ref bf), .val (.int (-(own_of (mm / 100)))), .val (.int (own_of (mm % 100))), .val (.int (0 : Int32)), .val (.int (0 : Int32))] [(.int (-(own_of (mm / 100)))), (.ref od), (.int (0 : Int32)), (.ref bf)]))
  refine Run.pre (fun _ k => XS.ineg X174.here hx rfl (hb hby d10_82) rfl k) ?_
  show Run p e below s _ _ _ (T174.setTop (mkF m 83 #[.val (.int (-(own_of (mm / 100)))), .val (.int (3 : Int32)), .val (.ref bf), .val (.int (-(own_of (mm / 100)))), .val (.int (own_of (mm % 100))), .val (.int (0 : Int32)), .val (.int (0 : Int32))] [(.int (-(-(own_of (mm / 100))))), (.ref od), (.int (0 : Int32)), (.ref bf)]))
  obtain ⟨c175, Ar175, -, S175, N175, H175, -⟩ := id (AO.ext f173.2)
  have hin175 : ¬ ((-(-(own_of (mm / 100)))) < 0 ∨ c175.slots.size ≤ ((-(-(own_of (mm / 100))))).toNatClampNeg) := inb_of S175 (by rw [Int32.neg_neg]; exact own_in100 (show (mm / 100) < 100 by omega))
  refine Run.pre (X174.baloadBytes hx (j := (-(-(own_of (mm / 100))))) (v := (.int (own_of (48 + (mm / 100) % 10)))) (by rw [e174]; exact Ar175.1) (State.isArrayOf_alike hZ.alike Ar175.2.1) Ar175.2.2 hin175 (H175.at hin175 (by rw [Int32.neg_neg]; exact own_getO (show (mm / 100) < 100 by omega))) (g := (mkF m 83 #[.val (.int (-(own_of (mm / 100)))), .val (.int (3 : Int32)), .val (.ref bf), .val (.int (-(own_of (mm / 100)))), .val (.int (own_of (mm % 100))), .val (.int (0 : Int32)), .val (.int (0 : Int32))] [(.int (-(-(own_of (mm / 100))))), (.ref od), (.int (0 : Int32)), (.ref bf)])) rfl rfl (hb hby d10_83)) ?_
  show Run p e below s _ _ _ (T174.setTop (mkF m 84 #[.val (.int (-(own_of (mm / 100)))), .val (.int (3 : Int32)), .val (.ref bf), .val (.int (-(own_of (mm / 100)))), .val (.int (own_of (mm % 100))), .val (.int (0 : Int32)), .val (.int (0 : Int32))] [(.int (own_of (48 + (mm / 100) % 10))), (.int (0 : Int32)), (.ref bf)]))
  obtain ⟨c176, Ar176, q176, S176, N176, H176, G176⟩ := id V_bf_172
  have hin176 : ¬ ((0 : Int32) < 0 ∨ c176.slots.size ≤ ((0 : Int32)).toNatClampNeg) := inb_of S176 ⟨by decide, by decide⟩
  obtain ⟨T177, h177, X177, e177, W177, st177⟩ := stB X174 hx hZ e174 Ar176 (j := (0 : Int32)) hin176 (g := (mkF m 84 #[.val (.int (-(own_of (mm / 100)))), .val (.int (3 : Int32)), .val (.ref bf), .val (.int (-(own_of (mm / 100)))), .val (.int (own_of (mm % 100))), .val (.int (0 : Int32)), .val (.int (0 : Int32))] [(.int (own_of (48 + (mm / 100) % 10))), (.int (0 : Int32)), (.ref bf)])) rfl rfl (hb hby d10_84)
  refine Run.pre st177 ?_
  have V_bf_177 : Arv Z h177 bf kb .byte (3 : Int32) [(.int (nar .byte (own_of (48 + (mm / 100) % 10)))), (.int (nar .byte (own_of (48 + (mm % 100) / 10)))), (.int (nar .byte (own_of (48 + (mm % 100) % 10))))] (.int (0 : Int32)) := Arv.set Ar176 q176 S176 N176 H176 G176 (fits_nar_byte _) W177 0 rfl (Nat.le_of_ble_eq_true rfl)
  have K177 : Keep h0 h177 [bf] := K172.wr W177 (Or.inl (by simp))
  have N177 := Fr.snoc X177 N172 g_bf
  refine Run.pre (fun _ k => XS.iloadN X177.here hx rfl (hb hby d10_85) rfl  k) ?_
  refine Run.pre (fun _ k => XS.bipush X177.here hx rfl (hb hby d10_86) k) ?_
  show Run p e below s _ _ _ (T177.setTop (mkF m 88 #[.val (.int (-(own_of (mm / 100)))), .val (.int (3 : Int32)), .val (.ref bf), .val (.int (-(own_of (mm / 100)))), .val (.int (own_of (mm % 100))), .val (.int (0 : Int32)), .val (.int (0 : Int32))] [(.int (-9 : Int32)), (.int (-(own_of (mm / 100))))]))
  refine Run.pre (fun _ k => XS.icmpYes X177.here hx rfl (pc0 := 88) (pc' := 104) rfl (hb hby d10_88) rfl (flt ((own_nnglt (show (mm / 100) < 2147483648 by omega) (by have e : ((-9 : Int32)).toInt = -9 := (by decide); omega)) : ¬ ((-(own_of (mm / 100))) < (-9 : Int32)))).2.1 (by decide) (by decide) k) ?_
  refine Run.pre (fun _ k => XS.iload X177.here hx rfl (hb hby d10_104) rfl  k) ?_
  show Run p e below s _ _ _ (T177.setTop (mkF m 106 #[.val (.int (-(own_of (mm / 100)))), .val (.int (3 : Int32)), .val (.ref bf), .val (.int (-(own_of (mm / 100)))), .val (.int (own_of (mm % 100))), .val (.int (0 : Int32)), .val (.int (0 : Int32))] [(.int (0 : Int32))]))
  refine Run.pre (fun _ k => XS.ifYes X177.here hx rfl (pc0 := 106) (pc' := 118) rfl (hb hby d10_106) rfl ((if0 _ _).trans (teq ((by decide) : (0 : Int32) = (0 : Int32))).1) (by decide) (by decide) k) ?_
  refine Run.pre (fun _ k => XS.iload X177.here hx rfl (hb hby d10_118) rfl  k) ?_
  show Run p e below s _ _ _ (T177.setTop (mkF m 120 #[.val (.int (-(own_of (mm / 100)))), .val (.int (3 : Int32)), .val (.ref bf), .val (.int (-(own_of (mm / 100)))), .val (.int (own_of (mm % 100))), .val (.int (0 : Int32)), .val (.int (0 : Int32))] [(.int (0 : Int32))]))
  exact Run.retI hS (by first | exact Nat.le_refl _ | (rw [e177]; exact (Nat.le_trans (Nat.le_trans (Nat.le_trans (Nat.zero_le _) (Keep.of_wr W167).1) (Keep.of_wr W172).1) (Keep.of_wr W177).1))) X177 hx hret hlk (hb hby d10_120) (by first | (rw [e177]; exact ⟨rfl, N177, K177, V_bf_177⟩) | exact ⟨rfl, N177, K177, V_bf_177⟩) (by decide) (by decide)
set_option maxRecDepth 65536 in
set_option maxHeartbeats 40000000 in
theorem rmTS_3 (l : Launch) (Z : State) (a0 : Array Value) (hw : ∀ d ∈ tables_1, d.before a0 Z = true) (mm : Nat) (cs : Int32) (od : Addr) (ko : ClassId) (td : Addr) (kt : ClassId) (h0 : Heap) (n0 : Nat) (Z0 : n0 ≤ h0.size) (OL : Old Z n0 h0) (hm : mm < 2147483648) (lo : 100 ≤ mm) (hi : mm < 1000) (SC : Sta Z Z.heap "java/lang/String" "COMPACT_STRINGS" "Z" (.int cs)) (hcs : ¬ cs = 0) (SO : Sta Z Z.heap "java/lang/Integer" "DigitOnes" "[B" (.ref od)) (ST : Sta Z Z.heap "java/lang/Integer" "DigitTens" "[B" (.ref td)) (AO : Arv Z Z.heap od ko .byte 100 own_DO (.int 0)) (AT : Arv Z Z.heap td kt .byte 100 own_DT (.int 0)) :
    Con l (⟨"java/lang/Integer", "toString", "(I)Ljava/lang/String;"⟩ : MethodName) jdk_33_method_10_code 3 (some (.object "java/lang/String")) ({ frames := 2, cells := 2, slots := 7, locals := 27 } : Room) Z #[(.int (own_of mm))] h0 (fun _ => True) (fun v h L vm => ∃ o : Addr, ∃ b : Addr, ∃ k : ClassId, v = some (.ref o) ∧ Fr n0 L ∧ Keep h0 h [] ∧ h0.size ≤ o ∧ Exa Z h o "java/lang/String" ∧ Fld Z h o "java/lang/String" "value" "[B" (.ref b) ∧ Fld Z h o "java/lang/String" "coder" "B" (.int 0) ∧ Arv Z h b k .byte 3 [(.int (nar .byte (own_of (48 + (mm / 100) % 10)))), (.int (nar .byte (own_of (48 + (mm % 100) / 10)))), (.int (nar .byte (own_of (48 + (mm % 100) % 10))))] (.int 0)) := by
  refine Con.mk (plainFor_of_name pn_8) (fun m => show entryFrame m #[(.int (own_of mm))] 3 = mkF m 0 #[.val (.int (own_of mm)), .unset, .unset] [] by first | (simp [entryFrame, mkF, argsToLocals, Value.category]; done) | rfl) ?_
  intro p e s m below meth c s₁ vm0 hx hby hml hown hnm hret hlk hZ X0 e0 hS hs0 hP0
  have N0 := Fr.nil n0
  refine Run.pre (fun _ k => XS.iloadN X0.here hx rfl (hb hby d8_0) rfl  k) ?_
  show Run p e below s _ _ _ (s₁.setTop (mkF m 1 #[.val (.int (own_of mm)), .unset, .unset] [(.int (own_of mm))]))
  refine Run.callS hS (by first | exact Nat.le_refl _ | (rw [e0]; exact (Nat.zero_le _))) X0 hx hZ (y := (⟨"java/lang/Integer", "stringSize", "(I)I"⟩ : MethodName)) hown (hw _ (List.mem_of_getElem? (i := 50) rfl)) (hw _ (List.mem_of_getElem? (i := 51) rfl)) (hw _ (List.mem_of_getElem? (i := 21) rfl)) (hw _ (List.mem_of_getElem? (i := 52) rfl)) (by decide) (W := 0) (rmSS l Z a0 hw mm h0 n0 (Nat.le_trans Z0 (Keep.refl h0 []).1) hm) e0 (by decide) (by decide) (by decide) (by decide) (fun _ _ => trivial) (g := (mkF m 1 #[.val (.int (own_of mm)), .unset, .unset] [(.int (own_of mm))])) rfl (by rw [hml]; rfl) (argsL := [(.int (own_of mm))]) (rest := []) (lenOf pd_8 rfl) rfl (by show 2 * 0 + _ ≤ _; exact Nat.le_of_eq rfl) (hb hby d8_1) ?_
  intro v178 T178 L178 X178 hS hZ hown hV178 hQ178
  obtain ⟨rfl, Nq178, he178⟩ := hQ178
  have N178 := Fr.app N0 Nq178
  have e178 : T178.heap = h0 := he178
  rw [own_dgt_3 lo hi]
  show Run p e below s _ _ _ (T178.setTop (mkF m 4 #[.val (.int (own_of mm)), .unset, .unset] [(.int (3 : Int32))]))
  refine Run.pre (fun _ k => XS.istoreN X178.here hx rfl (hb hby d8_4) rfl (l' := #[.val (.int (own_of mm)), .val (.int (3 : Int32)), .unset]) rfl k) ?_
  show Run p e below s _ _ _ (T178.setTop (mkF m 5 #[.val (.int (own_of mm)), .val (.int (3 : Int32)), .unset] []))
  obtain ⟨T179, X179, e179, st179⟩ := getS2 X178 hx hZ hown (host := "") (Or.inl (hw _ (List.mem_of_getElem? (i := 53) rfl))) Via.refl e178 (SC.ext OL.2) (g := (mkF m 5 #[.val (.int (own_of mm)), .val (.int (3 : Int32)), .unset] [])) rfl (hb hby d8_5)
  refine Run.pre st179 ?_
  show Run p e below s _ _ _ (T179.setTop (mkF m 8 #[.val (.int (own_of mm)), .val (.int (3 : Int32)), .unset] [(.int cs)]))
  refine Run.pre (fun _ k => XS.ifNo X179.here hx rfl (hb hby d8_8) rfl ((if0 _ _).trans (feq (hcs : ¬ (cs = (0 : Int32)))).1) k) ?_
  refine Run.pre (fun _ k => XS.iloadN X179.here hx rfl (hb hby d8_11) rfl  k) ?_
  show Run p e below s _ _ _ (T179.setTop (mkF m 12 #[.val (.int (own_of mm)), .val (.int (3 : Int32)), .unset] [(.int (3 : Int32))]))
  obtain ⟨T180, h180, k180, X180, e180, E180, A180, st180⟩ := newP X179 hx hZ (hw _ (List.mem_of_getElem? (i := 7) rfl)) e179 (g := (mkF m 12 #[.val (.int (own_of mm)), .val (.int (3 : Int32)), .unset] [(.int (3 : Int32))])) rfl (hb hby d8_12) rfl (by decide) (cap := 3) (by decide) (by decide) (by decide) (by decide)
  obtain ⟨b180, g180⟩ : ∃ z, z = h0.size := ⟨_, rfl⟩
  rw [← g180] at A180 st180
  refine Run.pre st180 ?_
  have V_b180 : Arv Z h180 b180 k180 .byte (3 : Int32) [(.int (0 : Int32)), (.int (0 : Int32)), (.int (0 : Int32))] (.int (0 : Int32)) := (Arv.new A180 (by decide)).pad (pad_rep [] (.int (0 : Int32)) 3)
  have gn_b180 : n0 ≤ b180 := Nat.le_trans (Nat.le_trans Z0 (Keep.refl h0 []).1) (Nat.le_of_eq g180.symm)
  have sz_b180 : h0.size ≤ b180 := Nat.le_trans (Keep.refl h0 []).1 (Nat.le_of_eq g180.symm)
  have K180 : Keep h0 h180 [] := (Keep.refl h0 []).ext E180
  show Run p e below s _ _ _ (T180.setTop (mkF m 14 #[.val (.int (own_of mm)), .val (.int (3 : Int32)), .unset] [(.ref b180)]))
  refine Run.pre (fun _ k => XS.astoreN X180.here hx rfl (hb hby d8_14) rfl rfl (l' := #[.val (.int (own_of mm)), .val (.int (3 : Int32)), .val (.ref b180)]) rfl k) ?_
  refine Run.pre (fun _ k => XS.iloadN X180.here hx rfl (hb hby d8_15) rfl  k) ?_
  refine Run.pre (fun _ k => XS.iloadN X180.here hx rfl (hb hby d8_16) rfl  k) ?_
  refine Run.pre (fun _ k => XS.aloadN X180.here hx rfl (hb hby d8_17) rfl rfl k) ?_
  show Run p e below s _ _ _ (T180.setTop (mkF m 18 #[.val (.int (own_of mm)), .val (.int (3 : Int32)), .val (.ref b180)] [(.ref b180), (.int (3 : Int32)), (.int (own_of mm))]))
  have f181 := (OL.ext E180)
  refine Run.callS hS (by first | exact Nat.le_refl _ | (rw [e180]; exact (Nat.le_trans (Nat.le_of_eq (congrArg Array.size e178)) E180.1))) X180 hx hZ (y := (⟨"java/lang/Integer", "getChars", "(II[B)I"⟩ : MethodName)) hown (hw _ (List.mem_of_getElem? (i := 54) rfl)) (hw _ (List.mem_of_getElem? (i := 55) rfl)) (hw _ (List.mem_of_getElem? (i := 21) rfl)) (hw _ (List.mem_of_getElem? (i := 56) rfl)) (by decide) (W := 0) (rmGC_3 l Z a0 hw mm od ko td kt b180 k180 h180 n0 (Nat.le_trans Z0 K180.1) f181 hm lo hi SO ST AO AT V_b180 gn_b180) e180 (by decide) (by decide) (by decide) (by decide) (fun _ _ => trivial) (g := (mkF m 18 #[.val (.int (own_of mm)), .val (.int (3 : Int32)), .val (.ref b180)] [(.ref b180), (.int (3 : Int32)), (.int (own_of mm))])) rfl (by rw [hml]; rfl) (argsL := [(.int (own_of mm)), (.int (3 : Int32)), (.ref b180)]) (rest := []) (lenOf pd_9 rfl) rfl (by show 2 * 0 + _ ≤ _; exact Nat.le_of_eq rfl) (hb hby d8_18) ?_
  intro v182 T182 L182 X182 hS hZ hown hV182 hQ182
  obtain ⟨rfl, Nq182, Kc182, vb182⟩ := hQ182
  have N182 := Fr.app N178 Nq182
  have K182 : Keep h0 T182.heap [] := K180.trans Kc182 (allS (Or.inr sz_b180) all0)
  show Run p e below s _ _ _ (T182.setTop (mkF m 21 #[.val (.int (own_of mm)), .val (.int (3 : Int32)), .val (.ref b180)] [(.int (0 : Int32))]))
  refine Run.pre (fun _ k => XS.pop X182.here hx rfl (hb hby d8_21) rfl rfl k) ?_
  show Run p e below s _ _ _ (T182.setTop (mkF m 22 #[.val (.int (own_of mm)), .val (.int (3 : Int32)), .val (.ref b180)] []))
  obtain ⟨T183, h183, X183, e183, E183, A183, D183, -, st183⟩ := newO X182 hx hZ hown (hw _ (List.mem_of_getElem? (i := 59) rfl)) (hw _ (List.mem_of_getElem? (i := 6) rfl)) (hw _ (List.mem_of_getElem? (i := 5) rfl)) rfl (g := (mkF m 22 #[.val (.int (own_of mm)), .val (.int (3 : Int32)), .val (.ref b180)] [])) rfl (hb hby d8_22) (by decide) (by decide)
  obtain ⟨b183, g183⟩ : ∃ z, z = T182.heap.size := ⟨_, rfl⟩
  rw [← g183] at A183 D183 st183
  refine Run.pre st183 ?_
  have gn_b183 : n0 ≤ b183 := Nat.le_trans (Nat.le_trans Z0 K182.1) (Nat.le_of_eq g183.symm)
  have sz_b183 : h0.size ≤ b183 := Nat.le_trans K182.1 (Nat.le_of_eq g183.symm)
  have K183 : Keep h0 h183 [] := K182.ext E183
  have F_value_b183 : Fld Z h183 b183 "java/lang/String" "value" "[B" .null := D183 (Or.inr (hw _ (List.mem_of_getElem? (i := 8) rfl))) (ty := (.array .byte)) (by decide)
  have F_coder_b183 : Fld Z h183 b183 "java/lang/String" "coder" "B" (.int (0 : Int32)) := D183 (Or.inr (hw _ (List.mem_of_getElem? (i := 9) rfl))) (ty := .byte) (by decide)
  refine Run.pre (fun _ k => XS.dup X183.here hx rfl (hb hby d8_25) rfl rfl k) ?_
  refine Run.pre (fun _ k => XS.aloadN X183.here hx rfl (hb hby d8_26) rfl rfl k) ?_
  refine Run.pre (fun _ k => XS.iconst X183.here hx rfl (hb hby d8_27) k) ?_
  show Run p e below s _ _ _ (T183.setTop (mkF m 28 #[.val (.int (own_of mm)), .val (.int (3 : Int32)), .val (.ref b180)] [(.int (0 : Int32)), (.ref b180), (.ref b183), (.ref b183)]))
  refine Run.callI hS (by first | exact Nat.le_refl _ | (rw [e183]; exact (Nat.le_trans (Nat.le_refl _) E183.1))) X183 hx hZ (y := (⟨"java/lang/String", "<init>", "([BB)V"⟩ : MethodName)) rfl hown (hw _ (List.mem_of_getElem? (i := 60) rfl)) (hw _ (List.mem_of_getElem? (i := 61) rfl)) (hw _ (List.mem_of_getElem? (i := 63) rfl)) (hw _ (List.mem_of_getElem? (i := 5) rfl)) (by decide) (a := b183) (W := 1) (rmBB l Z a0 hw b183 b180 h183 n0 (Nat.le_trans Z0 K183.1) A183 F_value_b183 F_coder_b183 gn_b183) e183 (by decide) (by decide) (by decide) (by decide) (fun _ _ => trivial) (g := (mkF m 28 #[.val (.int (own_of mm)), .val (.int (3 : Int32)), .val (.ref b180)] [(.int (0 : Int32)), (.ref b180), (.ref b183), (.ref b183)])) rfl (by rw [hml]; rfl) (argsL := [(.ref b180), (.int (0 : Int32))]) (rest := [(.ref b183)]) (lenOf pd_10 rfl) rfl (by show 2 * 0 + _ ≤ _; exact Nat.le_of_eq rfl) (hb hby d8_28) ?_
  intro v184 T184 L184 X184 hS hZ hown hV184 hQ184
  obtain ⟨rfl, Nq184, Kc184, fv184, fc184⟩ := hQ184
  have N184 := Fr.app N182 Nq184
  have K184 : Keep h0 T184.heap [] := K183.trans Kc184 (allS (Or.inr sz_b183) all0)
  show Run p e below s _ _ _ (T184.setTop (mkF m 31 #[.val (.int (own_of mm)), .val (.int (3 : Int32)), .val (.ref b180)] [(.ref b183)]))
  have f185 := (A183.keep Kc184)
  have f186 := ((vb182.ext E183).keep Kc184 (ninS (Nat.ne_of_lt (Nat.lt_of_lt_of_le vb182.lt (Nat.le_of_eq g183.symm))) nin0))
  exact Run.retA hS (Nat.le_refl _) X184 hx hret rfl rfl hlk (hb hby d8_31) ⟨b183, b180, k180, rfl, N184, K184, sz_b183, f185, fv184, fc184, f186⟩ (by decide) (by decide)
theorem own_good_3 {mm : Nat} (hm : mm < 2147483648) (lo : 100 ≤ mm) (hi : mm < 1000) : own_good mm [(.int (nar .byte (own_of (48 + (mm / 100) % 10)))), (.int (nar .byte (own_of (48 + (mm % 100) / 10)))), (.int (nar .byte (own_of (48 + (mm % 100) % 10))))] :=
  ⟨Or.inr ⟨by rw [own_dgt_3 lo hi]; decide, by rw [own_dgt_3 lo hi]; decide, by rw [own_dgt_3 lo hi]; decide, nar .byte (own_of (48 + (mm % 100) % 10)), by rw [own_dgt_3 lo hi]; rfl, own_heq hm (q := 1) rfl (by decide) (by decide) (by omega)⟩,
   Or.inr ⟨by rw [own_dgt_3 lo hi]; decide, by rw [own_dgt_3 lo hi]; decide, by rw [own_dgt_3 lo hi]; decide, nar .byte (own_of (48 + (mm % 100) / 10)), by rw [own_dgt_3 lo hi]; rfl, own_heq hm (q := 10) rfl (by decide) (by decide) (by omega)⟩,
   Or.inr ⟨by rw [own_dgt_3 lo hi]; decide, by rw [own_dgt_3 lo hi]; decide, by rw [own_dgt_3 lo hi]; decide, nar .byte (own_of (48 + (mm / 100) % 10)), by rw [own_dgt_3 lo hi]; rfl, own_heq hm (q := 100) rfl (by decide) (by decide) (by omega)⟩,
   Or.inl (by rw [own_dgt_3 lo hi]; decide),
   Or.inl (by rw [own_dgt_3 lo hi]; decide),
   Or.inl (by rw [own_dgt_3 lo hi]; decide),
   Or.inl (by rw [own_dgt_3 lo hi]; decide),
   Or.inl (by rw [own_dgt_3 lo hi]; decide),
   Or.inl (by rw [own_dgt_3 lo hi]; decide),
   Or.inl (by rw [own_dgt_3 lo hi]; decide)⟩
set_option maxRecDepth 65536 in
set_option maxHeartbeats 40000000 in
theorem rmGC_4 (l : Launch) (Z : State) (a0 : Array Value) (hw : ∀ d ∈ tables_1, d.before a0 Z = true) (mm : Nat) (od : Addr) (ko : ClassId) (td : Addr) (kt : ClassId) (bf : Addr) (kb : ClassId) (h0 : Heap) (n0 : Nat) (Z0 : n0 ≤ h0.size) (OL : Old Z n0 h0) (hm : mm < 2147483648) (lo : 1000 ≤ mm) (hi : mm < 10000) (SO : Sta Z Z.heap "java/lang/Integer" "DigitOnes" "[B" (.ref od)) (ST : Sta Z Z.heap "java/lang/Integer" "DigitTens" "[B" (.ref td)) (AO : Arv Z Z.heap od ko .byte 100 own_DO (.int 0)) (AT : Arv Z Z.heap td kt .byte 100 own_DT (.int 0)) (AB : Arv Z h0 bf kb .byte 4 [(.int (0 : Int32)), (.int (0 : Int32)), (.int (0 : Int32)), (.int (0 : Int32))] (.int 0)) (g_bf : n0 ≤ bf) :
    Con l (⟨"java/lang/Integer", "getChars", "(II[B)I"⟩ : MethodName) jdk_33_method_12_code 7 (some .int) ({ frames := 0, cells := 0, slots := 0, locals := 0 } : Room) Z #[(.int (own_of mm)), (.int (4 : Int32)), (.ref bf)] h0 (fun _ => True) (fun v h L vm => v = some (.int 0) ∧ Fr n0 L ∧ Keep h0 h [bf] ∧ Arv Z h bf kb .byte 4 [(.int (nar .byte (own_of (48 + (mm / 100) / 10)))), (.int (nar .byte (own_of (48 + (mm / 100) % 10)))), (.int (nar .byte (own_of (48 + (mm % 100) / 10)))), (.int (nar .byte (own_of (48 + (mm % 100) % 10))))] (.int 0)) := by
  refine Con.mk (plainFor_of_name pn_10) (fun m => show entryFrame m #[(.int (own_of mm)), (.int (4 : Int32)), (.ref bf)] 7 = mkF m 0 #[.val (.int (own_of mm)), .val (.int (4 : Int32)), .val (.ref bf), .unset, .unset, .unset, .unset] [] by first | (simp [entryFrame, mkF, argsToLocals, Value.category]; done) | rfl) ?_
  intro p e s m below meth c s₁ vm0 hx hby hml hown hnm hret hlk hZ X0 e0 hS hs0 hP0
  have N0 := Fr.nil n0
  refine Run.pre (fun _ k => XS.iloadN X0.here hx rfl (hb hby d10_0) rfl  k) ?_
  show Run p e below s _ _ _ (s₁.setTop (mkF m 1 #[.val (.int (own_of mm)), .val (.int (4 : Int32)), .val (.ref bf), .unset, .unset, .unset, .unset] [(.int (4 : Int32))]))
  refine Run.pre (fun _ k => XS.istore X0.here hx rfl (hb hby d10_1) rfl (l' := #[.val (.int (own_of mm)), .val (.int (4 : Int32)), .val (.ref bf), .unset, .unset, .val (.int (4 : Int32)), .unset]) rfl k) ?_
  refine Run.pre (fun _ k => XS.iloadN X0.here hx rfl (hb hby d10_3) rfl  k) ?_
  show Run p e below s _ _ _ (s₁.setTop (mkF m 4 #[.val (.int (own_of mm)), .val (.int (4 : Int32)), .val (.ref bf), .unset, .unset, .val (.int (4 : Int32)), .unset] [(.int (own_of mm))]))
  refine Run.pre (fun _ k => XS.ifYes X0.here hx rfl (pc0 := 4) (pc' := 11) rfl (hb hby d10_4) rfl ((if0 _ _).trans (flt ((own_nofl hm (by have e : ((0 : Int32)).toInt = 0 := (by decide); omega)) : ¬ ((own_of mm) < (0 : Int32)))).2.1) (by decide) (by decide) k) ?_
  refine Run.pre (fun _ k => XS.iconst X0.here hx rfl (hb hby d10_11) k) ?_
  show Run p e below s _ _ _ (s₁.setTop (mkF m 12 #[.val (.int (own_of mm)), .val (.int (4 : Int32)), .val (.ref bf), .unset, .unset, .val (.int (4 : Int32)), .unset] [(.int (0 : Int32))]))
  refine Run.pre (fun _ k => XS.istore X0.here hx rfl (hb hby d10_12) rfl (l' := #[.val (.int (own_of mm)), .val (.int (4 : Int32)), .val (.ref bf), .unset, .unset, .val (.int (4 : Int32)), .val (.int (0 : Int32))]) rfl k) ?_
  refine Run.pre (fun _ k => XS.iload X0.here hx rfl (hb hby d10_14) rfl  k) ?_
  show Run p e below s _ _ _ (s₁.setTop (mkF m 16 #[.val (.int (own_of mm)), .val (.int (4 : Int32)), .val (.ref bf), .unset, .unset, .val (.int (4 : Int32)), .val (.int (0 : Int32))] [(.int (0 : Int32))]))
  refine Run.pre (fun _ k => XS.ifNo X0.here hx rfl (hb hby d10_16) rfl ((if0 _ _).trans (teq ((by decide) : (0 : Int32) = (0 : Int32))).2) k) ?_
  refine Run.pre (fun _ k => XS.iloadN X0.here hx rfl (hb hby d10_19) rfl  k) ?_
  show Run p e below s _ _ _ (s₁.setTop (mkF m 20 #[.val (.int (own_of mm)), .val (.int (4 : Int32)), .val (.ref bf), .unset, .unset, .val (.int (4 : Int32)), .val (.int (0 : Int32))] [(.int (own_of mm))]))
  refine Run.pre (fun _ k => XS.ineg X0.here hx rfl (hb hby d10_20) rfl k) ?_
  show Run p e below s _ _ _ (s₁.setTop (mkF m 21 #[.val (.int (own_of mm)), .val (.int (4 : Int32)), .val (.ref bf), .unset, .unset, .val (.int (4 : Int32)), .val (.int (0 : Int32))] [(.int (-(own_of mm)))]))
  refine Run.pre (fun _ k => XS.istoreN X0.here hx rfl (hb hby d10_21) rfl (l' := #[.val (.int (-(own_of mm))), .val (.int (4 : Int32)), .val (.ref bf), .unset, .unset, .val (.int (4 : Int32)), .val (.int (0 : Int32))]) rfl k) ?_
  refine Run.pre (fun _ k => XS.iloadN X0.here hx rfl (hb hby d10_22) rfl  k) ?_
  refine Run.pre (fun _ k => XS.bipush X0.here hx rfl (hb hby d10_23) k) ?_
  show Run p e below s _ _ _ (s₁.setTop (mkF m 25 #[.val (.int (-(own_of mm))), .val (.int (4 : Int32)), .val (.ref bf), .unset, .unset, .val (.int (4 : Int32)), .val (.int (0 : Int32))] [(.int (-100 : Int32)), (.int (-(own_of mm)))]))
  refine Run.pre (fun _ k => XS.icmpNo X0.here hx rfl (hb hby d10_25) rfl (flt ((own_nltng (show mm < 2147483648 by omega) (by have e : ((-100 : Int32)).toInt = -100 := (by decide); omega)) : ¬ ((-100 : Int32) < (-(own_of mm))))).2.2.1 k) ?_
  refine Run.pre (fun _ k => XS.iloadN X0.here hx rfl (hb hby d10_28) rfl  k) ?_
  refine Run.pre (fun _ k => XS.bipush X0.here hx rfl (hb hby d10_29) k) ?_
  show Run p e below s _ _ _ (s₁.setTop (mkF m 31 #[.val (.int (-(own_of mm))), .val (.int (4 : Int32)), .val (.ref bf), .unset, .unset, .val (.int (4 : Int32)), .val (.int (0 : Int32))] [(.int (100 : Int32)), (.int (-(own_of mm)))]))
  refine Run.pre (fun _ k => XS.idiv X0.here hx rfl (hb hby d10_31) rfl (by decide) k) ?_
  show Run p e below s _ _ _ (s₁.setTop (mkF m 32 #[.val (.int (-(own_of mm))), .val (.int (4 : Int32)), .val (.ref bf), .unset, .unset, .val (.int (4 : Int32)), .val (.int (0 : Int32))] [(.int ((-(own_of mm)) / (100 : Int32)))]))
  refine Run.pre (fun _ k => XS.istoreN X0.here hx rfl (hb hby d10_32) rfl (l' := #[.val (.int (-(own_of mm))), .val (.int (4 : Int32)), .val (.ref bf), .val (.int ((-(own_of mm)) / (100 : Int32))), .unset, .val (.int (4 : Int32)), .val (.int (0 : Int32))]) rfl k) ?_
  refine Run.pre (fun _ k => XS.iloadN X0.here hx rfl (hb hby d10_33) rfl  k) ?_
  refine Run.pre (fun _ k => XS.bipush X0.here hx rfl (hb hby d10_34) k) ?_
  show Run p e below s _ _ _ (s₁.setTop (mkF m 36 #[.val (.int (-(own_of mm))), .val (.int (4 : Int32)), .val (.ref bf), .val (.int ((-(own_of mm)) / (100 : Int32))), .unset, .val (.int (4 : Int32)), .val (.int (0 : Int32))] [(.int (100 : Int32)), (.int ((-(own_of mm)) / (100 : Int32)))]))
  refine Run.pre (fun _ k => XS.imul X0.here hx rfl (hb hby d10_36) rfl k) ?_
  refine Run.pre (fun _ k => XS.iloadN X0.here hx rfl (hb hby d10_37) rfl  k) ?_
  show Run p e below s _ _ _ (s₁.setTop (mkF m 38 #[.val (.int (-(own_of mm))), .val (.int (4 : Int32)), .val (.ref bf), .val (.int ((-(own_of mm)) / (100 : Int32))), .unset, .val (.int (4 : Int32)), .val (.int (0 : Int32))] [(.int (-(own_of mm))), (.int (((-(own_of mm)) / (100 : Int32)) * (100 : Int32)))]))
  refine Run.pre (fun _ k => XS.isub X0.here hx rfl (hb hby d10_38) rfl k) ?_
  show Run p e below s _ _ _ (s₁.setTop (mkF m 39 #[.val (.int (-(own_of mm))), .val (.int (4 : Int32)), .val (.ref bf), .val (.int ((-(own_of mm)) / (100 : Int32))), .unset, .val (.int (4 : Int32)), .val (.int (0 : Int32))] [(.int ((((-(own_of mm)) / (100 : Int32)) * (100 : Int32)) - (-(own_of mm))))]))
  refine Run.pre (fun _ k => XS.istore X0.here hx rfl (hb hby d10_39) rfl (l' := #[.val (.int (-(own_of mm))), .val (.int (4 : Int32)), .val (.ref bf), .val (.int ((-(own_of mm)) / (100 : Int32))), .val (.int ((((-(own_of mm)) / (100 : Int32)) * (100 : Int32)) - (-(own_of mm)))), .val (.int (4 : Int32)), .val (.int (0 : Int32))]) rfl k) ?_
  refine Run.pre (fun _ k => XS.iloadN X0.here hx rfl (hb hby d10_41) rfl  k) ?_
  show Run p e below s _ _ _ (s₁.setTop (mkF m 42 #[.val (.int (-(own_of mm))), .val (.int (4 : Int32)), .val (.ref bf), .val (.int ((-(own_of mm)) / (100 : Int32))), .val (.int ((((-(own_of mm)) / (100 : Int32)) * (100 : Int32)) - (-(own_of mm)))), .val (.int (4 : Int32)), .val (.int (0 : Int32))] [(.int ((-(own_of mm)) / (100 : Int32)))]))
  refine Run.pre (fun _ k => XS.istoreN X0.here hx rfl (hb hby d10_42) rfl (l' := #[.val (.int ((-(own_of mm)) / (100 : Int32))), .val (.int (4 : Int32)), .val (.ref bf), .val (.int ((-(own_of mm)) / (100 : Int32))), .val (.int ((((-(own_of mm)) / (100 : Int32)) * (100 : Int32)) - (-(own_of mm)))), .val (.int (4 : Int32)), .val (.int (0 : Int32))]) rfl k) ?_
  show Run p e below s _ _ _ (s₁.setTop (mkF m 43 #[.val (.int ((-(own_of mm)) / (100 : Int32))), .val (.int (4 : Int32)), .val (.ref bf), .val (.int ((-(own_of mm)) / (100 : Int32))), .val (.int ((((-(own_of mm)) / (100 : Int32)) * (100 : Int32)) - (-(own_of mm)))), .val (.int (4 : Int32)), .val (.int (0 : Int32))] []))
  rw [own_div (show mm < 2147483648 by omega), own_rem (show mm < 2147483648 by omega)]
  refine Run.pre (fun _ k => XS.aloadN X0.here hx rfl (hb hby d10_43) rfl rfl k) ?_
  show Run p e below s _ _ _ (s₁.setTop (mkF m 44 #[.val (.int (-(own_of (mm / 100)))), .val (.int (4 : Int32)), .val (.ref bf), .val (.int (-(own_of (mm / 100)))), .val (.int (own_of (mm % 100))), .val (.int (4 : Int32)), .val (.int (0 : Int32))] [(.ref bf)]))
  refine Run.pre (fun _ k => XS.iinc X0.here hx rfl (hb hby d10_44) rfl (l' := #[.val (.int (-(own_of (mm / 100)))), .val (.int (4 : Int32)), .val (.ref bf), .val (.int (-(own_of (mm / 100)))), .val (.int (own_of (mm % 100))), .val (.int (3 : Int32)), .val (.int (0 : Int32))]) rfl k) ?_
  refine Run.pre (fun _ k => XS.iload X0.here hx rfl (hb hby d10_47) rfl  k) ?_
  show Run p e below s _ _ _ (s₁.setTop (mkF m 49 #[.val (.int (-(own_of (mm / 100)))), .val (.int (4 : Int32)), .val (.ref bf), .val (.int (-(own_of (mm / 100)))), .val (.int (own_of (mm % 100))), .val (.int (3 : Int32)), .val (.int (0 : Int32))] [(.int (3 : Int32)), (.ref bf)]))
  obtain ⟨T187, X187, e187, st187⟩ := getS2 X0 hx hZ hown (host := "") (Or.inl (hw _ (List.mem_of_getElem? (i := 57) rfl))) Via.refl e0 (SO.ext OL.2) (g := (mkF m 49 #[.val (.int (-(own_of (mm / 100)))), .val (.int (4 : Int32)), .val (.ref bf), .val (.int (-(own_of (mm / 100)))), .val (.int (own_of (mm % 100))), .val (.int (3 : Int32)), .val (.int (0 : Int32))] [(.int (3 : Int32)), (.ref bf)])) rfl (hb hby d10_49)
  refine Run.pre st187 ?_
  refine Run.pre (fun _ k => XS.iload X187.here hx rfl (hb hby d10_52) rfl  k) ?_
  show Run p e below s _ _ _ (T187.setTop (mkF m 54 #[.val (.int (-(own_of (mm / 100)))), .val (.int (4 : Int32)), .val (.ref bf), .val (.int (-(own_of (mm / 100)))), .val (.int (own_of (mm % 100))), .val (.int (3 : Int32)), .val (.int (0 : Int32))] [(.int (own_of (mm % 100))), (.ref od), (.int (3 : Int32)), (.ref bf)]))
  obtain ⟨c188, Ar188, -, S188, N188, H188, -⟩ := id (AO.ext OL.2)
  have hin188 : ¬ ((own_of (mm % 100)) < 0 ∨ c188.slots.size ≤ ((own_of (mm % 100))).toNatClampNeg) := inb_of S188 (own_in100 (show (mm % 100) < 100 by omega))
  refine Run.pre (X187.baloadBytes hx (j := (own_of (mm % 100))) (v := (.int (own_of (48 + (mm % 100) % 10)))) (by rw [e187]; exact Ar188.1) (State.isArrayOf_alike hZ.alike Ar188.2.1) Ar188.2.2 hin188 (H188.at hin188 (own_getO (show (mm % 100) < 100 by omega))) (g := (mkF m 54 #[.val (.int (-(own_of (mm / 100)))), .val (.int (4 : Int32)), .val (.ref bf), .val (.int (-(own_of (mm / 100)))), .val (.int (own_of (mm % 100))), .val (.int (3 : Int32)), .val (.int (0 : Int32))] [(.int (own_of (mm % 100))), (.ref od), (.int (3 : Int32)), (.ref bf)])) rfl rfl (hb hby d10_54)) ?_
  show Run p e below s _ _ _ (T187.setTop (mkF m 55 #[.val (.int (-(own_of (mm / 100)))), .val (.int (4 : Int32)), .val (.ref bf), .val (.int (-(own_of (mm / 100)))), .val (.int (own_of (mm % 100))), .val (.int (3 : Int32)), .val (.int (0 : Int32))] [(.int (own_of (48 + (mm % 100) % 10))), (.int (3 : Int32)), (.ref bf)]))
  obtain ⟨c189, Ar189, q189, S189, N189, H189, G189⟩ := id AB
  have hin189 : ¬ ((3 : Int32) < 0 ∨ c189.slots.size ≤ ((3 : Int32)).toNatClampNeg) := inb_of S189 ⟨by decide, by decide⟩
  obtain ⟨T190, h190, X190, e190, W190, st190⟩ := stB X187 hx hZ e187 Ar189 (j := (3 : Int32)) hin189 (g := (mkF m 55 #[.val (.int (-(own_of (mm / 100)))), .val (.int (4 : Int32)), .val (.ref bf), .val (.int (-(own_of (mm / 100)))), .val (.int (own_of (mm % 100))), .val (.int (3 : Int32)), .val (.int (0 : Int32))] [(.int (own_of (48 + (mm % 100) % 10))), (.int (3 : Int32)), (.ref bf)])) rfl rfl (hb hby d10_55)
  refine Run.pre st190 ?_
  have V_bf_190 : Arv Z h190 bf kb .byte (4 : Int32) [(.int (0 : Int32)), (.int (0 : Int32)), (.int (0 : Int32)), (.int (nar .byte (own_of (48 + (mm % 100) % 10))))] (.int (0 : Int32)) := Arv.set Ar189 q189 S189 N189 H189 G189 (fits_nar_byte _) W190 3 rfl (Nat.le_of_ble_eq_true rfl)
  have K190 : Keep h0 h190 [bf] := (Keep.refl h0 [bf]).wr W190 (Or.inl (by simp))
  have N190 := Fr.snoc X190 N0 g_bf
  refine Run.pre (fun _ k => XS.aloadN X190.here hx rfl (hb hby d10_56) rfl rfl k) ?_
  show Run p e below s _ _ _ (T190.setTop (mkF m 57 #[.val (.int (-(own_of (mm / 100)))), .val (.int (4 : Int32)), .val (.ref bf), .val (.int (-(own_of (mm / 100)))), .val (.int (own_of (mm % 100))), .val (.int (3 : Int32)), .val (.int (0 : Int32))] [(.ref bf)]))
  refine Run.pre (fun _ k => XS.iinc X190.here hx rfl (hb hby d10_57) rfl (l' := #[.val (.int (-(own_of (mm / 100)))), .val (.int (4 : Int32)), .val (.ref bf), .val (.int (-(own_of (mm / 100)))), .val (.int (own_of (mm % 100))), .val (.int (2 : Int32)), .val (.int (0 : Int32))]) rfl k) ?_
  refine Run.pre (fun _ k => XS.iload X190.here hx rfl (hb hby d10_60) rfl  k) ?_
  show Run p e below s _ _ _ (T190.setTop (mkF m 62 #[.val (.int (-(own_of (mm / 100)))), .val (.int (4 : Int32)), .val (.ref bf), .val (.int (-(own_of (mm / 100)))), .val (.int (own_of (mm % 100))), .val (.int (2 : Int32)), .val (.int (0 : Int32))] [(.int (2 : Int32)), (.ref bf)]))
  have f191 := (OL.wr W190 g_bf)
  obtain ⟨T192, X192, e192, st192⟩ := getS2 X190 hx hZ hown (host := "") (Or.inl (hw _ (List.mem_of_getElem? (i := 58) rfl))) Via.refl e190 (ST.ext f191.2) (g := (mkF m 62 #[.val (.int (-(own_of (mm / 100)))), .val (.int (4 : Int32)), .val (.ref bf), .val (.int (-(own_of (mm / 100)))), .val (.int (own_of (mm % 100))), .val (.int (2 : Int32)), .val (.int (0 : Int32))] [(.int (2 : Int32)), (.ref bf)])) rfl (hb hby d10_62)
  refine Run.pre st192 ?_
  refine Run.pre (fun _ k => XS.iload X192.here hx rfl (hb hby d10_65) rfl  k) ?_
  show Run p e below s _ _ _ (T192.setTop (mkF m 67 #[.val (.int (-(own_of (mm / 100)))), .val (.int (4 : Int32)), .val (.ref bf), .val (.int (-(own_of (mm / 100)))), .val (.int (own_of (mm % 100))), .val (.int (2 : Int32)), .val (.int (0 : Int32))] [(.int (own_of (mm % 100))), (.ref td), (.int (2 : Int32)), (.ref bf)]))
  obtain ⟨c193, Ar193, -, S193, N193, H193, -⟩ := id (AT.ext f191.2)
  have hin193 : ¬ ((own_of (mm % 100)) < 0 ∨ c193.slots.size ≤ ((own_of (mm % 100))).toNatClampNeg) := inb_of S193 (own_in100 (show (mm % 100) < 100 by omega))
  refine Run.pre (X192.baloadBytes hx (j := (own_of (mm % 100))) (v := (.int (own_of (48 + (mm % 100) / 10)))) (by rw [e192]; exact Ar193.1) (State.isArrayOf_alike hZ.alike Ar193.2.1) Ar193.2.2 hin193 (H193.at hin193 (own_getT (show (mm % 100) < 100 by omega))) (g := (mkF m 67 #[.val (.int (-(own_of (mm / 100)))), .val (.int (4 : Int32)), .val (.ref bf), .val (.int (-(own_of (mm / 100)))), .val (.int (own_of (mm % 100))), .val (.int (2 : Int32)), .val (.int (0 : Int32))] [(.int (own_of (mm % 100))), (.ref td), (.int (2 : Int32)), (.ref bf)])) rfl rfl (hb hby d10_67)) ?_
  show Run p e below s _ _ _ (T192.setTop (mkF m 68 #[.val (.int (-(own_of (mm / 100)))), .val (.int (4 : Int32)), .val (.ref bf), .val (.int (-(own_of (mm / 100)))), .val (.int (own_of (mm % 100))), .val (.int (2 : Int32)), .val (.int (0 : Int32))] [(.int (own_of (48 + (mm % 100) / 10))), (.int (2 : Int32)), (.ref bf)]))
  obtain ⟨c194, Ar194, q194, S194, N194, H194, G194⟩ := id V_bf_190
  have hin194 : ¬ ((2 : Int32) < 0 ∨ c194.slots.size ≤ ((2 : Int32)).toNatClampNeg) := inb_of S194 ⟨by decide, by decide⟩
  obtain ⟨T195, h195, X195, e195, W195, st195⟩ := stB X192 hx hZ e192 Ar194 (j := (2 : Int32)) hin194 (g := (mkF m 68 #[.val (.int (-(own_of (mm / 100)))), .val (.int (4 : Int32)), .val (.ref bf), .val (.int (-(own_of (mm / 100)))), .val (.int (own_of (mm % 100))), .val (.int (2 : Int32)), .val (.int (0 : Int32))] [(.int (own_of (48 + (mm % 100) / 10))), (.int (2 : Int32)), (.ref bf)])) rfl rfl (hb hby d10_68)
  refine Run.pre st195 ?_
  have V_bf_195 : Arv Z h195 bf kb .byte (4 : Int32) [(.int (0 : Int32)), (.int (0 : Int32)), (.int (nar .byte (own_of (48 + (mm % 100) / 10)))), (.int (nar .byte (own_of (48 + (mm % 100) % 10))))] (.int (0 : Int32)) := Arv.set Ar194 q194 S194 N194 H194 G194 (fits_nar_byte _) W195 2 rfl (Nat.le_of_ble_eq_true rfl)
  have K195 : Keep h0 h195 [bf] := K190.wr W195 (Or.inl (by simp))
  have N195 := Fr.snoc X195 N190 g_bf
  refine Run.pre (fun _ k => XS.goto X195.here hx rfl (pc0 := 69) (pc' := 22) rfl (hb hby d10_69) (by decide) (by decide) k) ?_
  refine Run.pre (fun _ k => XS.iloadN X195.here hx rfl (hb hby d10_22) rfl  k) ?_
  refine Run.pre (fun _ k => XS.bipush X195.here hx rfl (hb hby d10_23) k) ?_
  show Run p e below s _ _ _ (T195.setTop (mkF m 25 #[.val (.int (-(own_of (mm / 100)))), .val (.int (4 : Int32)), .val (.ref bf), .val (.int (-(own_of (mm / 100)))), .val (.int (own_of (mm % 100))), .val (.int (2 : Int32)), .val (.int (0 : Int32))] [(.int (-100 : Int32)), (.int (-(own_of (mm / 100))))]))
  refine Run.pre (fun _ k => XS.icmpYes X195.here hx rfl (pc0 := 25) (pc' := 72) rfl (hb hby d10_25) rfl (tlt ((own_ltng (show (mm / 100) < 2147483648 by omega) (by have e : ((-100 : Int32)).toInt = -100 := (by decide); omega)) : (-100 : Int32) < (-(own_of (mm / 100))))).2.2.1 (by decide) (by decide) k) ?_
  refine Run.pre (fun _ k => XS.aloadN X195.here hx rfl (hb hby d10_72) rfl rfl k) ?_
  show Run p e below s _ _ _ (T195.setTop (mkF m 73 #[.val (.int (-(own_of (mm / 100)))), .val (.int (4 : Int32)), .val (.ref bf), .val (.int (-(own_of (mm / 100)))), .val (.int (own_of (mm % 100))), .val (.int (2 : Int32)), .val (.int (0 : Int32))] [(.ref bf)]))
  refine Run.pre (fun _ k => XS.iinc X195.here hx rfl (hb hby d10_73) rfl (l' := #[.val (.int (-(own_of (mm / 100)))), .val (.int (4 : Int32)), .val (.ref bf), .val (.int (-(own_of (mm / 100)))), .val (.int (own_of (mm % 100))), .val (.int (1 : Int32)), .val (.int (0 : Int32))]) rfl k) ?_
  refine Run.pre (fun _ k => XS.iload X195.here hx rfl (hb hby d10_76) rfl  k) ?_
  show Run p e below s _ _ _ (T195.setTop (mkF m 78 #[.val (.int (-(own_of (mm / 100)))), .val (.int (4 : Int32)), .val (.ref bf), .val (.int (-(own_of (mm / 100)))), .val (.int (own_of (mm % 100))), .val (.int (1 : Int32)), .val (.int (0 : Int32))] [(.int (1 : Int32)), (.ref bf)]))
  have f196 := (f191.wr W195 g_bf)
  obtain ⟨T197, X197, e197, st197⟩ := getS2 X195 hx hZ hown (host := "") (Or.inl (hw _ (List.mem_of_getElem? (i := 57) rfl))) Via.refl e195 (SO.ext f196.2) (g := (mkF m 78 #[.val (.int (-(own_of (mm / 100)))), .val (.int (4 : Int32)), .val (.ref bf), .val (.int (-(own_of (mm / 100)))), .val (.int (own_of (mm % 100))), .val (.int (1 : Int32)), .val (.int (0 : Int32))] [(.int (1 : Int32)), (.ref bf)])) rfl (hb hby d10_78)
  refine Run.pre st197 ?_
  refine Run.pre (fun _ k => XS.iloadN X197.here hx rfl (hb hby d10_81) rfl  k) ?_
  show Run p e below s _ _ _ (T197.setTop (mkF m 82 #[.val (.int (-(own_of (mm / 100)))), .val (.int (4 : Int32)), .val (.ref bf), .val (.int (-(own_of (mm / 100)))), .val (.int (own_of (mm % 100))), .val (.int (1 : Int32)), .val (.int (0 : Int32))] [(.int (-(own_of (mm / 100)))), (.ref od), (.int (1 : Int32)), (.ref bf)]))
  refine Run.pre (fun _ k => XS.ineg X197.here hx rfl (hb hby d10_82) rfl k) ?_
  show Run p e below s _ _ _ (T197.setTop (mkF m 83 #[.val (.int (-(own_of (mm / 100)))), .val (.int (4 : Int32)), .val (.ref bf), .val (.int (-(own_of (mm / 100)))), .val (.int (own_of (mm % 100))), .val (.int (1 : Int32)), .val (.int (0 : Int32))] [(.int (-(-(own_of (mm / 100))))), (.ref od), (.int (1 : Int32)), (.ref bf)]))
  obtain ⟨c198, Ar198, -, S198, N198, H198, -⟩ := id (AO.ext f196.2)
  have hin198 : ¬ ((-(-(own_of (mm / 100)))) < 0 ∨ c198.slots.size ≤ ((-(-(own_of (mm / 100))))).toNatClampNeg) := inb_of S198 (by rw [Int32.neg_neg]; exact own_in100 (show (mm / 100) < 100 by omega))
  refine Run.pre (X197.baloadBytes hx (j := (-(-(own_of (mm / 100))))) (v := (.int (own_of (48 + (mm / 100) % 10)))) (by rw [e197]; exact Ar198.1) (State.isArrayOf_alike hZ.alike Ar198.2.1) Ar198.2.2 hin198 (H198.at hin198 (by rw [Int32.neg_neg]; exact own_getO (show (mm / 100) < 100 by omega))) (g := (mkF m 83 #[.val (.int (-(own_of (mm / 100)))), .val (.int (4 : Int32)), .val (.ref bf), .val (.int (-(own_of (mm / 100)))), .val (.int (own_of (mm % 100))), .val (.int (1 : Int32)), .val (.int (0 : Int32))] [(.int (-(-(own_of (mm / 100))))), (.ref od), (.int (1 : Int32)), (.ref bf)])) rfl rfl (hb hby d10_83)) ?_
  show Run p e below s _ _ _ (T197.setTop (mkF m 84 #[.val (.int (-(own_of (mm / 100)))), .val (.int (4 : Int32)), .val (.ref bf), .val (.int (-(own_of (mm / 100)))), .val (.int (own_of (mm % 100))), .val (.int (1 : Int32)), .val (.int (0 : Int32))] [(.int (own_of (48 + (mm / 100) % 10))), (.int (1 : Int32)), (.ref bf)]))
  obtain ⟨c199, Ar199, q199, S199, N199, H199, G199⟩ := id V_bf_195
  have hin199 : ¬ ((1 : Int32) < 0 ∨ c199.slots.size ≤ ((1 : Int32)).toNatClampNeg) := inb_of S199 ⟨by decide, by decide⟩
  obtain ⟨T200, h200, X200, e200, W200, st200⟩ := stB X197 hx hZ e197 Ar199 (j := (1 : Int32)) hin199 (g := (mkF m 84 #[.val (.int (-(own_of (mm / 100)))), .val (.int (4 : Int32)), .val (.ref bf), .val (.int (-(own_of (mm / 100)))), .val (.int (own_of (mm % 100))), .val (.int (1 : Int32)), .val (.int (0 : Int32))] [(.int (own_of (48 + (mm / 100) % 10))), (.int (1 : Int32)), (.ref bf)])) rfl rfl (hb hby d10_84)
  refine Run.pre st200 ?_
  have V_bf_200 : Arv Z h200 bf kb .byte (4 : Int32) [(.int (0 : Int32)), (.int (nar .byte (own_of (48 + (mm / 100) % 10)))), (.int (nar .byte (own_of (48 + (mm % 100) / 10)))), (.int (nar .byte (own_of (48 + (mm % 100) % 10))))] (.int (0 : Int32)) := Arv.set Ar199 q199 S199 N199 H199 G199 (fits_nar_byte _) W200 1 rfl (Nat.le_of_ble_eq_true rfl)
  have K200 : Keep h0 h200 [bf] := K195.wr W200 (Or.inl (by simp))
  have N200 := Fr.snoc X200 N195 g_bf
  refine Run.pre (fun _ k => XS.iloadN X200.here hx rfl (hb hby d10_85) rfl  k) ?_
  refine Run.pre (fun _ k => XS.bipush X200.here hx rfl (hb hby d10_86) k) ?_
  show Run p e below s _ _ _ (T200.setTop (mkF m 88 #[.val (.int (-(own_of (mm / 100)))), .val (.int (4 : Int32)), .val (.ref bf), .val (.int (-(own_of (mm / 100)))), .val (.int (own_of (mm % 100))), .val (.int (1 : Int32)), .val (.int (0 : Int32))] [(.int (-9 : Int32)), (.int (-(own_of (mm / 100))))]))
  refine Run.pre (fun _ k => XS.icmpNo X200.here hx rfl (hb hby d10_88) rfl (tlt ((own_nglt (show (mm / 100) < 2147483648 by omega) (by have e : ((-9 : Int32)).toInt = -9 := (by decide); omega)) : (-(own_of (mm / 100))) < (-9 : Int32))).2.1 k) ?_
  refine Run.pre (fun _ k => XS.aloadN X200.here hx rfl (hb hby d10_91) rfl rfl k) ?_
  show Run p e below s _ _ _ (T200.setTop (mkF m 92 #[.val (.int (-(own_of (mm / 100)))), .val (.int (4 : Int32)), .val (.ref bf), .val (.int (-(own_of (mm / 100)))), .val (.int (own_of (mm % 100))), .val (.int (1 : Int32)), .val (.int (0 : Int32))] [(.ref bf)]))
  refine Run.pre (fun _ k => XS.iinc X200.here hx rfl (hb hby d10_92) rfl (l' := #[.val (.int (-(own_of (mm / 100)))), .val (.int (4 : Int32)), .val (.ref bf), .val (.int (-(own_of (mm / 100)))), .val (.int (own_of (mm % 100))), .val (.int (0 : Int32)), .val (.int (0 : Int32))]) rfl k) ?_
  refine Run.pre (fun _ k => XS.iload X200.here hx rfl (hb hby d10_95) rfl  k) ?_
  show Run p e below s _ _ _ (T200.setTop (mkF m 97 #[.val (.int (-(own_of (mm / 100)))), .val (.int (4 : Int32)), .val (.ref bf), .val (.int (-(own_of (mm / 100)))), .val (.int (own_of (mm % 100))), .val (.int (0 : Int32)), .val (.int (0 : Int32))] [(.int (0 : Int32)), (.ref bf)]))
  have f201 := (f196.wr W200 g_bf)
  obtain ⟨T202, X202, e202, st202⟩ := getS2 X200 hx hZ hown (host := "") (Or.inl (hw _ (List.mem_of_getElem? (i := 58) rfl))) Via.refl e200 (ST.ext f201.2) (g := (mkF m 97 #[.val (.int (-(own_of (mm / 100)))), .val (.int (4 : Int32)), .val (.ref bf), .val (.int (-(own_of (mm / 100)))), .val (.int (own_of (mm % 100))), .val (.int (0 : Int32)), .val (.int (0 : Int32))] [(.int (0 : Int32)), (.ref bf)])) rfl (hb hby d10_97)
  refine Run.pre st202 ?_
  refine Run.pre (fun _ k => XS.iloadN X202.here hx rfl (hb hby d10_100) rfl  k) ?_
  show Run p e below s _ _ _ (T202.setTop (mkF m 101 #[.val (.int (-(own_of (mm / 100)))), .val (.int (4 : Int32)), .val (.ref bf), .val (.int (-(own_of (mm / 100)))), .val (.int (own_of (mm % 100))), .val (.int (0 : Int32)), .val (.int (0 : Int32))] [(.int (-(own_of (mm / 100)))), (.ref td), (.int (0 : Int32)), (.ref bf)]))
  refine Run.pre (fun _ k => XS.ineg X202.here hx rfl (hb hby d10_101) rfl k) ?_
  show Run p e below s _ _ _ (T202.setTop (mkF m 102 #[.val (.int (-(own_of (mm / 100)))), .val (.int (4 : Int32)), .val (.ref bf), .val (.int (-(own_of (mm / 100)))), .val (.int (own_of (mm % 100))), .val (.int (0 : Int32)), .val (.int (0 : Int32))] [(.int (-(-(own_of (mm / 100))))), (.ref td), (.int (0 : Int32)), (.ref bf)]))
  obtain ⟨c203, Ar203, -, S203, N203, H203, -⟩ := id (AT.ext f201.2)
  have hin203 : ¬ ((-(-(own_of (mm / 100)))) < 0 ∨ c203.slots.size ≤ ((-(-(own_of (mm / 100))))).toNatClampNeg) := inb_of S203 (by rw [Int32.neg_neg]; exact own_in100 (show (mm / 100) < 100 by omega))
  refine Run.pre (X202.baloadBytes hx (j := (-(-(own_of (mm / 100))))) (v := (.int (own_of (48 + (mm / 100) / 10)))) (by rw [e202]; exact Ar203.1) (State.isArrayOf_alike hZ.alike Ar203.2.1) Ar203.2.2 hin203 (H203.at hin203 (by rw [Int32.neg_neg]; exact own_getT (show (mm / 100) < 100 by omega))) (g := (mkF m 102 #[.val (.int (-(own_of (mm / 100)))), .val (.int (4 : Int32)), .val (.ref bf), .val (.int (-(own_of (mm / 100)))), .val (.int (own_of (mm % 100))), .val (.int (0 : Int32)), .val (.int (0 : Int32))] [(.int (-(-(own_of (mm / 100))))), (.ref td), (.int (0 : Int32)), (.ref bf)])) rfl rfl (hb hby d10_102)) ?_
  show Run p e below s _ _ _ (T202.setTop (mkF m 103 #[.val (.int (-(own_of (mm / 100)))), .val (.int (4 : Int32)), .val (.ref bf), .val (.int (-(own_of (mm / 100)))), .val (.int (own_of (mm % 100))), .val (.int (0 : Int32)), .val (.int (0 : Int32))] [(.int (own_of (48 + (mm / 100) / 10))), (.int (0 : Int32)), (.ref bf)]))
  obtain ⟨c204, Ar204, q204, S204, N204, H204, G204⟩ := id V_bf_200
  have hin204 : ¬ ((0 : Int32) < 0 ∨ c204.slots.size ≤ ((0 : Int32)).toNatClampNeg) := inb_of S204 ⟨by decide, by decide⟩
  obtain ⟨T205, h205, X205, e205, W205, st205⟩ := stB X202 hx hZ e202 Ar204 (j := (0 : Int32)) hin204 (g := (mkF m 103 #[.val (.int (-(own_of (mm / 100)))), .val (.int (4 : Int32)), .val (.ref bf), .val (.int (-(own_of (mm / 100)))), .val (.int (own_of (mm % 100))), .val (.int (0 : Int32)), .val (.int (0 : Int32))] [(.int (own_of (48 + (mm / 100) / 10))), (.int (0 : Int32)), (.ref bf)])) rfl rfl (hb hby d10_103)
  refine Run.pre st205 ?_
  have V_bf_205 : Arv Z h205 bf kb .byte (4 : Int32) [(.int (nar .byte (own_of (48 + (mm / 100) / 10)))), (.int (nar .byte (own_of (48 + (mm / 100) % 10)))), (.int (nar .byte (own_of (48 + (mm % 100) / 10)))), (.int (nar .byte (own_of (48 + (mm % 100) % 10))))] (.int (0 : Int32)) := Arv.set Ar204 q204 S204 N204 H204 G204 (fits_nar_byte _) W205 0 rfl (Nat.le_of_ble_eq_true rfl)
  have K205 : Keep h0 h205 [bf] := K200.wr W205 (Or.inl (by simp))
  have N205 := Fr.snoc X205 N200 g_bf
  refine Run.pre (fun _ k => XS.iload X205.here hx rfl (hb hby d10_104) rfl  k) ?_
  show Run p e below s _ _ _ (T205.setTop (mkF m 106 #[.val (.int (-(own_of (mm / 100)))), .val (.int (4 : Int32)), .val (.ref bf), .val (.int (-(own_of (mm / 100)))), .val (.int (own_of (mm % 100))), .val (.int (0 : Int32)), .val (.int (0 : Int32))] [(.int (0 : Int32))]))
  refine Run.pre (fun _ k => XS.ifYes X205.here hx rfl (pc0 := 106) (pc' := 118) rfl (hb hby d10_106) rfl ((if0 _ _).trans (teq ((by decide) : (0 : Int32) = (0 : Int32))).1) (by decide) (by decide) k) ?_
  refine Run.pre (fun _ k => XS.iload X205.here hx rfl (hb hby d10_118) rfl  k) ?_
  show Run p e below s _ _ _ (T205.setTop (mkF m 120 #[.val (.int (-(own_of (mm / 100)))), .val (.int (4 : Int32)), .val (.ref bf), .val (.int (-(own_of (mm / 100)))), .val (.int (own_of (mm % 100))), .val (.int (0 : Int32)), .val (.int (0 : Int32))] [(.int (0 : Int32))]))
  exact Run.retI hS (by first | exact Nat.le_refl _ | (rw [e205]; exact (Nat.le_trans (Nat.le_trans (Nat.le_trans (Nat.le_trans (Nat.zero_le _) (Keep.of_wr W190).1) (Keep.of_wr W195).1) (Keep.of_wr W200).1) (Keep.of_wr W205).1))) X205 hx hret hlk (hb hby d10_120) (by first | (rw [e205]; exact ⟨rfl, N205, K205, V_bf_205⟩) | exact ⟨rfl, N205, K205, V_bf_205⟩) (by decide) (by decide)
set_option maxRecDepth 65536 in
set_option maxHeartbeats 40000000 in
theorem rmTS_4 (l : Launch) (Z : State) (a0 : Array Value) (hw : ∀ d ∈ tables_1, d.before a0 Z = true) (mm : Nat) (cs : Int32) (od : Addr) (ko : ClassId) (td : Addr) (kt : ClassId) (h0 : Heap) (n0 : Nat) (Z0 : n0 ≤ h0.size) (OL : Old Z n0 h0) (hm : mm < 2147483648) (lo : 1000 ≤ mm) (hi : mm < 10000) (SC : Sta Z Z.heap "java/lang/String" "COMPACT_STRINGS" "Z" (.int cs)) (hcs : ¬ cs = 0) (SO : Sta Z Z.heap "java/lang/Integer" "DigitOnes" "[B" (.ref od)) (ST : Sta Z Z.heap "java/lang/Integer" "DigitTens" "[B" (.ref td)) (AO : Arv Z Z.heap od ko .byte 100 own_DO (.int 0)) (AT : Arv Z Z.heap td kt .byte 100 own_DT (.int 0)) :
    Con l (⟨"java/lang/Integer", "toString", "(I)Ljava/lang/String;"⟩ : MethodName) jdk_33_method_10_code 3 (some (.object "java/lang/String")) ({ frames := 2, cells := 2, slots := 8, locals := 27 } : Room) Z #[(.int (own_of mm))] h0 (fun _ => True) (fun v h L vm => ∃ o : Addr, ∃ b : Addr, ∃ k : ClassId, v = some (.ref o) ∧ Fr n0 L ∧ Keep h0 h [] ∧ h0.size ≤ o ∧ Exa Z h o "java/lang/String" ∧ Fld Z h o "java/lang/String" "value" "[B" (.ref b) ∧ Fld Z h o "java/lang/String" "coder" "B" (.int 0) ∧ Arv Z h b k .byte 4 [(.int (nar .byte (own_of (48 + (mm / 100) / 10)))), (.int (nar .byte (own_of (48 + (mm / 100) % 10)))), (.int (nar .byte (own_of (48 + (mm % 100) / 10)))), (.int (nar .byte (own_of (48 + (mm % 100) % 10))))] (.int 0)) := by
  refine Con.mk (plainFor_of_name pn_8) (fun m => show entryFrame m #[(.int (own_of mm))] 3 = mkF m 0 #[.val (.int (own_of mm)), .unset, .unset] [] by first | (simp [entryFrame, mkF, argsToLocals, Value.category]; done) | rfl) ?_
  intro p e s m below meth c s₁ vm0 hx hby hml hown hnm hret hlk hZ X0 e0 hS hs0 hP0
  have N0 := Fr.nil n0
  refine Run.pre (fun _ k => XS.iloadN X0.here hx rfl (hb hby d8_0) rfl  k) ?_
  show Run p e below s _ _ _ (s₁.setTop (mkF m 1 #[.val (.int (own_of mm)), .unset, .unset] [(.int (own_of mm))]))
  refine Run.callS hS (by first | exact Nat.le_refl _ | (rw [e0]; exact (Nat.zero_le _))) X0 hx hZ (y := (⟨"java/lang/Integer", "stringSize", "(I)I"⟩ : MethodName)) hown (hw _ (List.mem_of_getElem? (i := 50) rfl)) (hw _ (List.mem_of_getElem? (i := 51) rfl)) (hw _ (List.mem_of_getElem? (i := 21) rfl)) (hw _ (List.mem_of_getElem? (i := 52) rfl)) (by decide) (W := 0) (rmSS l Z a0 hw mm h0 n0 (Nat.le_trans Z0 (Keep.refl h0 []).1) hm) e0 (by decide) (by decide) (by decide) (by decide) (fun _ _ => trivial) (g := (mkF m 1 #[.val (.int (own_of mm)), .unset, .unset] [(.int (own_of mm))])) rfl (by rw [hml]; rfl) (argsL := [(.int (own_of mm))]) (rest := []) (lenOf pd_8 rfl) rfl (by show 2 * 0 + _ ≤ _; exact Nat.le_of_eq rfl) (hb hby d8_1) ?_
  intro v206 T206 L206 X206 hS hZ hown hV206 hQ206
  obtain ⟨rfl, Nq206, he206⟩ := hQ206
  have N206 := Fr.app N0 Nq206
  have e206 : T206.heap = h0 := he206
  rw [own_dgt_4 lo hi]
  show Run p e below s _ _ _ (T206.setTop (mkF m 4 #[.val (.int (own_of mm)), .unset, .unset] [(.int (4 : Int32))]))
  refine Run.pre (fun _ k => XS.istoreN X206.here hx rfl (hb hby d8_4) rfl (l' := #[.val (.int (own_of mm)), .val (.int (4 : Int32)), .unset]) rfl k) ?_
  show Run p e below s _ _ _ (T206.setTop (mkF m 5 #[.val (.int (own_of mm)), .val (.int (4 : Int32)), .unset] []))
  obtain ⟨T207, X207, e207, st207⟩ := getS2 X206 hx hZ hown (host := "") (Or.inl (hw _ (List.mem_of_getElem? (i := 53) rfl))) Via.refl e206 (SC.ext OL.2) (g := (mkF m 5 #[.val (.int (own_of mm)), .val (.int (4 : Int32)), .unset] [])) rfl (hb hby d8_5)
  refine Run.pre st207 ?_
  show Run p e below s _ _ _ (T207.setTop (mkF m 8 #[.val (.int (own_of mm)), .val (.int (4 : Int32)), .unset] [(.int cs)]))
  refine Run.pre (fun _ k => XS.ifNo X207.here hx rfl (hb hby d8_8) rfl ((if0 _ _).trans (feq (hcs : ¬ (cs = (0 : Int32)))).1) k) ?_
  refine Run.pre (fun _ k => XS.iloadN X207.here hx rfl (hb hby d8_11) rfl  k) ?_
  show Run p e below s _ _ _ (T207.setTop (mkF m 12 #[.val (.int (own_of mm)), .val (.int (4 : Int32)), .unset] [(.int (4 : Int32))]))
  obtain ⟨T208, h208, k208, X208, e208, E208, A208, st208⟩ := newP X207 hx hZ (hw _ (List.mem_of_getElem? (i := 7) rfl)) e207 (g := (mkF m 12 #[.val (.int (own_of mm)), .val (.int (4 : Int32)), .unset] [(.int (4 : Int32))])) rfl (hb hby d8_12) rfl (by decide) (cap := 4) (by decide) (by decide) (by decide) (by decide)
  obtain ⟨b208, g208⟩ : ∃ z, z = h0.size := ⟨_, rfl⟩
  rw [← g208] at A208 st208
  refine Run.pre st208 ?_
  have V_b208 : Arv Z h208 b208 k208 .byte (4 : Int32) [(.int (0 : Int32)), (.int (0 : Int32)), (.int (0 : Int32)), (.int (0 : Int32))] (.int (0 : Int32)) := (Arv.new A208 (by decide)).pad (pad_rep [] (.int (0 : Int32)) 4)
  have gn_b208 : n0 ≤ b208 := Nat.le_trans (Nat.le_trans Z0 (Keep.refl h0 []).1) (Nat.le_of_eq g208.symm)
  have sz_b208 : h0.size ≤ b208 := Nat.le_trans (Keep.refl h0 []).1 (Nat.le_of_eq g208.symm)
  have K208 : Keep h0 h208 [] := (Keep.refl h0 []).ext E208
  show Run p e below s _ _ _ (T208.setTop (mkF m 14 #[.val (.int (own_of mm)), .val (.int (4 : Int32)), .unset] [(.ref b208)]))
  refine Run.pre (fun _ k => XS.astoreN X208.here hx rfl (hb hby d8_14) rfl rfl (l' := #[.val (.int (own_of mm)), .val (.int (4 : Int32)), .val (.ref b208)]) rfl k) ?_
  refine Run.pre (fun _ k => XS.iloadN X208.here hx rfl (hb hby d8_15) rfl  k) ?_
  refine Run.pre (fun _ k => XS.iloadN X208.here hx rfl (hb hby d8_16) rfl  k) ?_
  refine Run.pre (fun _ k => XS.aloadN X208.here hx rfl (hb hby d8_17) rfl rfl k) ?_
  show Run p e below s _ _ _ (T208.setTop (mkF m 18 #[.val (.int (own_of mm)), .val (.int (4 : Int32)), .val (.ref b208)] [(.ref b208), (.int (4 : Int32)), (.int (own_of mm))]))
  have f209 := (OL.ext E208)
  refine Run.callS hS (by first | exact Nat.le_refl _ | (rw [e208]; exact (Nat.le_trans (Nat.le_of_eq (congrArg Array.size e206)) E208.1))) X208 hx hZ (y := (⟨"java/lang/Integer", "getChars", "(II[B)I"⟩ : MethodName)) hown (hw _ (List.mem_of_getElem? (i := 54) rfl)) (hw _ (List.mem_of_getElem? (i := 55) rfl)) (hw _ (List.mem_of_getElem? (i := 21) rfl)) (hw _ (List.mem_of_getElem? (i := 56) rfl)) (by decide) (W := 0) (rmGC_4 l Z a0 hw mm od ko td kt b208 k208 h208 n0 (Nat.le_trans Z0 K208.1) f209 hm lo hi SO ST AO AT V_b208 gn_b208) e208 (by decide) (by decide) (by decide) (by decide) (fun _ _ => trivial) (g := (mkF m 18 #[.val (.int (own_of mm)), .val (.int (4 : Int32)), .val (.ref b208)] [(.ref b208), (.int (4 : Int32)), (.int (own_of mm))])) rfl (by rw [hml]; rfl) (argsL := [(.int (own_of mm)), (.int (4 : Int32)), (.ref b208)]) (rest := []) (lenOf pd_9 rfl) rfl (by show 2 * 0 + _ ≤ _; exact Nat.le_of_eq rfl) (hb hby d8_18) ?_
  intro v210 T210 L210 X210 hS hZ hown hV210 hQ210
  obtain ⟨rfl, Nq210, Kc210, vb210⟩ := hQ210
  have N210 := Fr.app N206 Nq210
  have K210 : Keep h0 T210.heap [] := K208.trans Kc210 (allS (Or.inr sz_b208) all0)
  show Run p e below s _ _ _ (T210.setTop (mkF m 21 #[.val (.int (own_of mm)), .val (.int (4 : Int32)), .val (.ref b208)] [(.int (0 : Int32))]))
  refine Run.pre (fun _ k => XS.pop X210.here hx rfl (hb hby d8_21) rfl rfl k) ?_
  show Run p e below s _ _ _ (T210.setTop (mkF m 22 #[.val (.int (own_of mm)), .val (.int (4 : Int32)), .val (.ref b208)] []))
  obtain ⟨T211, h211, X211, e211, E211, A211, D211, -, st211⟩ := newO X210 hx hZ hown (hw _ (List.mem_of_getElem? (i := 59) rfl)) (hw _ (List.mem_of_getElem? (i := 6) rfl)) (hw _ (List.mem_of_getElem? (i := 5) rfl)) rfl (g := (mkF m 22 #[.val (.int (own_of mm)), .val (.int (4 : Int32)), .val (.ref b208)] [])) rfl (hb hby d8_22) (by decide) (by decide)
  obtain ⟨b211, g211⟩ : ∃ z, z = T210.heap.size := ⟨_, rfl⟩
  rw [← g211] at A211 D211 st211
  refine Run.pre st211 ?_
  have gn_b211 : n0 ≤ b211 := Nat.le_trans (Nat.le_trans Z0 K210.1) (Nat.le_of_eq g211.symm)
  have sz_b211 : h0.size ≤ b211 := Nat.le_trans K210.1 (Nat.le_of_eq g211.symm)
  have K211 : Keep h0 h211 [] := K210.ext E211
  have F_value_b211 : Fld Z h211 b211 "java/lang/String" "value" "[B" .null := D211 (Or.inr (hw _ (List.mem_of_getElem? (i := 8) rfl))) (ty := (.array .byte)) (by decide)
  have F_coder_b211 : Fld Z h211 b211 "java/lang/String" "coder" "B" (.int (0 : Int32)) := D211 (Or.inr (hw _ (List.mem_of_getElem? (i := 9) rfl))) (ty := .byte) (by decide)
  refine Run.pre (fun _ k => XS.dup X211.here hx rfl (hb hby d8_25) rfl rfl k) ?_
  refine Run.pre (fun _ k => XS.aloadN X211.here hx rfl (hb hby d8_26) rfl rfl k) ?_
  refine Run.pre (fun _ k => XS.iconst X211.here hx rfl (hb hby d8_27) k) ?_
  show Run p e below s _ _ _ (T211.setTop (mkF m 28 #[.val (.int (own_of mm)), .val (.int (4 : Int32)), .val (.ref b208)] [(.int (0 : Int32)), (.ref b208), (.ref b211), (.ref b211)]))
  refine Run.callI hS (by first | exact Nat.le_refl _ | (rw [e211]; exact (Nat.le_trans (Nat.le_refl _) E211.1))) X211 hx hZ (y := (⟨"java/lang/String", "<init>", "([BB)V"⟩ : MethodName)) rfl hown (hw _ (List.mem_of_getElem? (i := 60) rfl)) (hw _ (List.mem_of_getElem? (i := 61) rfl)) (hw _ (List.mem_of_getElem? (i := 63) rfl)) (hw _ (List.mem_of_getElem? (i := 5) rfl)) (by decide) (a := b211) (W := 1) (rmBB l Z a0 hw b211 b208 h211 n0 (Nat.le_trans Z0 K211.1) A211 F_value_b211 F_coder_b211 gn_b211) e211 (by decide) (by decide) (by decide) (by decide) (fun _ _ => trivial) (g := (mkF m 28 #[.val (.int (own_of mm)), .val (.int (4 : Int32)), .val (.ref b208)] [(.int (0 : Int32)), (.ref b208), (.ref b211), (.ref b211)])) rfl (by rw [hml]; rfl) (argsL := [(.ref b208), (.int (0 : Int32))]) (rest := [(.ref b211)]) (lenOf pd_10 rfl) rfl (by show 2 * 0 + _ ≤ _; exact Nat.le_of_eq rfl) (hb hby d8_28) ?_
  intro v212 T212 L212 X212 hS hZ hown hV212 hQ212
  obtain ⟨rfl, Nq212, Kc212, fv212, fc212⟩ := hQ212
  have N212 := Fr.app N210 Nq212
  have K212 : Keep h0 T212.heap [] := K211.trans Kc212 (allS (Or.inr sz_b211) all0)
  show Run p e below s _ _ _ (T212.setTop (mkF m 31 #[.val (.int (own_of mm)), .val (.int (4 : Int32)), .val (.ref b208)] [(.ref b211)]))
  have f213 := (A211.keep Kc212)
  have f214 := ((vb210.ext E211).keep Kc212 (ninS (Nat.ne_of_lt (Nat.lt_of_lt_of_le vb210.lt (Nat.le_of_eq g211.symm))) nin0))
  exact Run.retA hS (Nat.le_refl _) X212 hx hret rfl rfl hlk (hb hby d8_31) ⟨b211, b208, k208, rfl, N212, K212, sz_b211, f213, fv212, fc212, f214⟩ (by decide) (by decide)
theorem own_good_4 {mm : Nat} (hm : mm < 2147483648) (lo : 1000 ≤ mm) (hi : mm < 10000) : own_good mm [(.int (nar .byte (own_of (48 + (mm / 100) / 10)))), (.int (nar .byte (own_of (48 + (mm / 100) % 10)))), (.int (nar .byte (own_of (48 + (mm % 100) / 10)))), (.int (nar .byte (own_of (48 + (mm % 100) % 10))))] :=
  ⟨Or.inr ⟨by rw [own_dgt_4 lo hi]; decide, by rw [own_dgt_4 lo hi]; decide, by rw [own_dgt_4 lo hi]; decide, nar .byte (own_of (48 + (mm % 100) % 10)), by rw [own_dgt_4 lo hi]; rfl, own_heq hm (q := 1) rfl (by decide) (by decide) (by omega)⟩,
   Or.inr ⟨by rw [own_dgt_4 lo hi]; decide, by rw [own_dgt_4 lo hi]; decide, by rw [own_dgt_4 lo hi]; decide, nar .byte (own_of (48 + (mm % 100) / 10)), by rw [own_dgt_4 lo hi]; rfl, own_heq hm (q := 10) rfl (by decide) (by decide) (by omega)⟩,
   Or.inr ⟨by rw [own_dgt_4 lo hi]; decide, by rw [own_dgt_4 lo hi]; decide, by rw [own_dgt_4 lo hi]; decide, nar .byte (own_of (48 + (mm / 100) % 10)), by rw [own_dgt_4 lo hi]; rfl, own_heq hm (q := 100) rfl (by decide) (by decide) (by omega)⟩,
   Or.inr ⟨by rw [own_dgt_4 lo hi]; decide, by rw [own_dgt_4 lo hi]; decide, by rw [own_dgt_4 lo hi]; decide, nar .byte (own_of (48 + (mm / 100) / 10)), by rw [own_dgt_4 lo hi]; rfl, own_heq hm (q := 1000) rfl (by decide) (by decide) (by omega)⟩,
   Or.inl (by rw [own_dgt_4 lo hi]; decide),
   Or.inl (by rw [own_dgt_4 lo hi]; decide),
   Or.inl (by rw [own_dgt_4 lo hi]; decide),
   Or.inl (by rw [own_dgt_4 lo hi]; decide),
   Or.inl (by rw [own_dgt_4 lo hi]; decide),
   Or.inl (by rw [own_dgt_4 lo hi]; decide)⟩
set_option maxRecDepth 65536 in
set_option maxHeartbeats 40000000 in
theorem rmGC_5 (l : Launch) (Z : State) (a0 : Array Value) (hw : ∀ d ∈ tables_1, d.before a0 Z = true) (mm : Nat) (od : Addr) (ko : ClassId) (td : Addr) (kt : ClassId) (bf : Addr) (kb : ClassId) (h0 : Heap) (n0 : Nat) (Z0 : n0 ≤ h0.size) (OL : Old Z n0 h0) (hm : mm < 2147483648) (lo : 10000 ≤ mm) (hi : mm < 100000) (SO : Sta Z Z.heap "java/lang/Integer" "DigitOnes" "[B" (.ref od)) (ST : Sta Z Z.heap "java/lang/Integer" "DigitTens" "[B" (.ref td)) (AO : Arv Z Z.heap od ko .byte 100 own_DO (.int 0)) (AT : Arv Z Z.heap td kt .byte 100 own_DT (.int 0)) (AB : Arv Z h0 bf kb .byte 5 [(.int (0 : Int32)), (.int (0 : Int32)), (.int (0 : Int32)), (.int (0 : Int32)), (.int (0 : Int32))] (.int 0)) (g_bf : n0 ≤ bf) :
    Con l (⟨"java/lang/Integer", "getChars", "(II[B)I"⟩ : MethodName) jdk_33_method_12_code 7 (some .int) ({ frames := 0, cells := 0, slots := 0, locals := 0 } : Room) Z #[(.int (own_of mm)), (.int (5 : Int32)), (.ref bf)] h0 (fun _ => True) (fun v h L vm => v = some (.int 0) ∧ Fr n0 L ∧ Keep h0 h [bf] ∧ Arv Z h bf kb .byte 5 [(.int (nar .byte (own_of (48 + ((mm / 100) / 100) % 10)))), (.int (nar .byte (own_of (48 + ((mm / 100) % 100) / 10)))), (.int (nar .byte (own_of (48 + ((mm / 100) % 100) % 10)))), (.int (nar .byte (own_of (48 + (mm % 100) / 10)))), (.int (nar .byte (own_of (48 + (mm % 100) % 10))))] (.int 0)) := by
  refine Con.mk (plainFor_of_name pn_10) (fun m => show entryFrame m #[(.int (own_of mm)), (.int (5 : Int32)), (.ref bf)] 7 = mkF m 0 #[.val (.int (own_of mm)), .val (.int (5 : Int32)), .val (.ref bf), .unset, .unset, .unset, .unset] [] by first | (simp [entryFrame, mkF, argsToLocals, Value.category]; done) | rfl) ?_
  intro p e s m below meth c s₁ vm0 hx hby hml hown hnm hret hlk hZ X0 e0 hS hs0 hP0
  have N0 := Fr.nil n0
  refine Run.pre (fun _ k => XS.iloadN X0.here hx rfl (hb hby d10_0) rfl  k) ?_
  show Run p e below s _ _ _ (s₁.setTop (mkF m 1 #[.val (.int (own_of mm)), .val (.int (5 : Int32)), .val (.ref bf), .unset, .unset, .unset, .unset] [(.int (5 : Int32))]))
  refine Run.pre (fun _ k => XS.istore X0.here hx rfl (hb hby d10_1) rfl (l' := #[.val (.int (own_of mm)), .val (.int (5 : Int32)), .val (.ref bf), .unset, .unset, .val (.int (5 : Int32)), .unset]) rfl k) ?_
  refine Run.pre (fun _ k => XS.iloadN X0.here hx rfl (hb hby d10_3) rfl  k) ?_
  show Run p e below s _ _ _ (s₁.setTop (mkF m 4 #[.val (.int (own_of mm)), .val (.int (5 : Int32)), .val (.ref bf), .unset, .unset, .val (.int (5 : Int32)), .unset] [(.int (own_of mm))]))
  refine Run.pre (fun _ k => XS.ifYes X0.here hx rfl (pc0 := 4) (pc' := 11) rfl (hb hby d10_4) rfl ((if0 _ _).trans (flt ((own_nofl hm (by have e : ((0 : Int32)).toInt = 0 := (by decide); omega)) : ¬ ((own_of mm) < (0 : Int32)))).2.1) (by decide) (by decide) k) ?_
  refine Run.pre (fun _ k => XS.iconst X0.here hx rfl (hb hby d10_11) k) ?_
  show Run p e below s _ _ _ (s₁.setTop (mkF m 12 #[.val (.int (own_of mm)), .val (.int (5 : Int32)), .val (.ref bf), .unset, .unset, .val (.int (5 : Int32)), .unset] [(.int (0 : Int32))]))
  refine Run.pre (fun _ k => XS.istore X0.here hx rfl (hb hby d10_12) rfl (l' := #[.val (.int (own_of mm)), .val (.int (5 : Int32)), .val (.ref bf), .unset, .unset, .val (.int (5 : Int32)), .val (.int (0 : Int32))]) rfl k) ?_
  refine Run.pre (fun _ k => XS.iload X0.here hx rfl (hb hby d10_14) rfl  k) ?_
  show Run p e below s _ _ _ (s₁.setTop (mkF m 16 #[.val (.int (own_of mm)), .val (.int (5 : Int32)), .val (.ref bf), .unset, .unset, .val (.int (5 : Int32)), .val (.int (0 : Int32))] [(.int (0 : Int32))]))
  refine Run.pre (fun _ k => XS.ifNo X0.here hx rfl (hb hby d10_16) rfl ((if0 _ _).trans (teq ((by decide) : (0 : Int32) = (0 : Int32))).2) k) ?_
  refine Run.pre (fun _ k => XS.iloadN X0.here hx rfl (hb hby d10_19) rfl  k) ?_
  show Run p e below s _ _ _ (s₁.setTop (mkF m 20 #[.val (.int (own_of mm)), .val (.int (5 : Int32)), .val (.ref bf), .unset, .unset, .val (.int (5 : Int32)), .val (.int (0 : Int32))] [(.int (own_of mm))]))
  refine Run.pre (fun _ k => XS.ineg X0.here hx rfl (hb hby d10_20) rfl k) ?_
  show Run p e below s _ _ _ (s₁.setTop (mkF m 21 #[.val (.int (own_of mm)), .val (.int (5 : Int32)), .val (.ref bf), .unset, .unset, .val (.int (5 : Int32)), .val (.int (0 : Int32))] [(.int (-(own_of mm)))]))
  refine Run.pre (fun _ k => XS.istoreN X0.here hx rfl (hb hby d10_21) rfl (l' := #[.val (.int (-(own_of mm))), .val (.int (5 : Int32)), .val (.ref bf), .unset, .unset, .val (.int (5 : Int32)), .val (.int (0 : Int32))]) rfl k) ?_
  refine Run.pre (fun _ k => XS.iloadN X0.here hx rfl (hb hby d10_22) rfl  k) ?_
  refine Run.pre (fun _ k => XS.bipush X0.here hx rfl (hb hby d10_23) k) ?_
  show Run p e below s _ _ _ (s₁.setTop (mkF m 25 #[.val (.int (-(own_of mm))), .val (.int (5 : Int32)), .val (.ref bf), .unset, .unset, .val (.int (5 : Int32)), .val (.int (0 : Int32))] [(.int (-100 : Int32)), (.int (-(own_of mm)))]))
  refine Run.pre (fun _ k => XS.icmpNo X0.here hx rfl (hb hby d10_25) rfl (flt ((own_nltng (show mm < 2147483648 by omega) (by have e : ((-100 : Int32)).toInt = -100 := (by decide); omega)) : ¬ ((-100 : Int32) < (-(own_of mm))))).2.2.1 k) ?_
  refine Run.pre (fun _ k => XS.iloadN X0.here hx rfl (hb hby d10_28) rfl  k) ?_
  refine Run.pre (fun _ k => XS.bipush X0.here hx rfl (hb hby d10_29) k) ?_
  show Run p e below s _ _ _ (s₁.setTop (mkF m 31 #[.val (.int (-(own_of mm))), .val (.int (5 : Int32)), .val (.ref bf), .unset, .unset, .val (.int (5 : Int32)), .val (.int (0 : Int32))] [(.int (100 : Int32)), (.int (-(own_of mm)))]))
  refine Run.pre (fun _ k => XS.idiv X0.here hx rfl (hb hby d10_31) rfl (by decide) k) ?_
  show Run p e below s _ _ _ (s₁.setTop (mkF m 32 #[.val (.int (-(own_of mm))), .val (.int (5 : Int32)), .val (.ref bf), .unset, .unset, .val (.int (5 : Int32)), .val (.int (0 : Int32))] [(.int ((-(own_of mm)) / (100 : Int32)))]))
  refine Run.pre (fun _ k => XS.istoreN X0.here hx rfl (hb hby d10_32) rfl (l' := #[.val (.int (-(own_of mm))), .val (.int (5 : Int32)), .val (.ref bf), .val (.int ((-(own_of mm)) / (100 : Int32))), .unset, .val (.int (5 : Int32)), .val (.int (0 : Int32))]) rfl k) ?_
  refine Run.pre (fun _ k => XS.iloadN X0.here hx rfl (hb hby d10_33) rfl  k) ?_
  refine Run.pre (fun _ k => XS.bipush X0.here hx rfl (hb hby d10_34) k) ?_
  show Run p e below s _ _ _ (s₁.setTop (mkF m 36 #[.val (.int (-(own_of mm))), .val (.int (5 : Int32)), .val (.ref bf), .val (.int ((-(own_of mm)) / (100 : Int32))), .unset, .val (.int (5 : Int32)), .val (.int (0 : Int32))] [(.int (100 : Int32)), (.int ((-(own_of mm)) / (100 : Int32)))]))
  refine Run.pre (fun _ k => XS.imul X0.here hx rfl (hb hby d10_36) rfl k) ?_
  refine Run.pre (fun _ k => XS.iloadN X0.here hx rfl (hb hby d10_37) rfl  k) ?_
  show Run p e below s _ _ _ (s₁.setTop (mkF m 38 #[.val (.int (-(own_of mm))), .val (.int (5 : Int32)), .val (.ref bf), .val (.int ((-(own_of mm)) / (100 : Int32))), .unset, .val (.int (5 : Int32)), .val (.int (0 : Int32))] [(.int (-(own_of mm))), (.int (((-(own_of mm)) / (100 : Int32)) * (100 : Int32)))]))
  refine Run.pre (fun _ k => XS.isub X0.here hx rfl (hb hby d10_38) rfl k) ?_
  show Run p e below s _ _ _ (s₁.setTop (mkF m 39 #[.val (.int (-(own_of mm))), .val (.int (5 : Int32)), .val (.ref bf), .val (.int ((-(own_of mm)) / (100 : Int32))), .unset, .val (.int (5 : Int32)), .val (.int (0 : Int32))] [(.int ((((-(own_of mm)) / (100 : Int32)) * (100 : Int32)) - (-(own_of mm))))]))
  refine Run.pre (fun _ k => XS.istore X0.here hx rfl (hb hby d10_39) rfl (l' := #[.val (.int (-(own_of mm))), .val (.int (5 : Int32)), .val (.ref bf), .val (.int ((-(own_of mm)) / (100 : Int32))), .val (.int ((((-(own_of mm)) / (100 : Int32)) * (100 : Int32)) - (-(own_of mm)))), .val (.int (5 : Int32)), .val (.int (0 : Int32))]) rfl k) ?_
  refine Run.pre (fun _ k => XS.iloadN X0.here hx rfl (hb hby d10_41) rfl  k) ?_
  show Run p e below s _ _ _ (s₁.setTop (mkF m 42 #[.val (.int (-(own_of mm))), .val (.int (5 : Int32)), .val (.ref bf), .val (.int ((-(own_of mm)) / (100 : Int32))), .val (.int ((((-(own_of mm)) / (100 : Int32)) * (100 : Int32)) - (-(own_of mm)))), .val (.int (5 : Int32)), .val (.int (0 : Int32))] [(.int ((-(own_of mm)) / (100 : Int32)))]))
  refine Run.pre (fun _ k => XS.istoreN X0.here hx rfl (hb hby d10_42) rfl (l' := #[.val (.int ((-(own_of mm)) / (100 : Int32))), .val (.int (5 : Int32)), .val (.ref bf), .val (.int ((-(own_of mm)) / (100 : Int32))), .val (.int ((((-(own_of mm)) / (100 : Int32)) * (100 : Int32)) - (-(own_of mm)))), .val (.int (5 : Int32)), .val (.int (0 : Int32))]) rfl k) ?_
  show Run p e below s _ _ _ (s₁.setTop (mkF m 43 #[.val (.int ((-(own_of mm)) / (100 : Int32))), .val (.int (5 : Int32)), .val (.ref bf), .val (.int ((-(own_of mm)) / (100 : Int32))), .val (.int ((((-(own_of mm)) / (100 : Int32)) * (100 : Int32)) - (-(own_of mm)))), .val (.int (5 : Int32)), .val (.int (0 : Int32))] []))
  rw [own_div (show mm < 2147483648 by omega), own_rem (show mm < 2147483648 by omega)]
  refine Run.pre (fun _ k => XS.aloadN X0.here hx rfl (hb hby d10_43) rfl rfl k) ?_
  show Run p e below s _ _ _ (s₁.setTop (mkF m 44 #[.val (.int (-(own_of (mm / 100)))), .val (.int (5 : Int32)), .val (.ref bf), .val (.int (-(own_of (mm / 100)))), .val (.int (own_of (mm % 100))), .val (.int (5 : Int32)), .val (.int (0 : Int32))] [(.ref bf)]))
  refine Run.pre (fun _ k => XS.iinc X0.here hx rfl (hb hby d10_44) rfl (l' := #[.val (.int (-(own_of (mm / 100)))), .val (.int (5 : Int32)), .val (.ref bf), .val (.int (-(own_of (mm / 100)))), .val (.int (own_of (mm % 100))), .val (.int (4 : Int32)), .val (.int (0 : Int32))]) rfl k) ?_
  refine Run.pre (fun _ k => XS.iload X0.here hx rfl (hb hby d10_47) rfl  k) ?_
  show Run p e below s _ _ _ (s₁.setTop (mkF m 49 #[.val (.int (-(own_of (mm / 100)))), .val (.int (5 : Int32)), .val (.ref bf), .val (.int (-(own_of (mm / 100)))), .val (.int (own_of (mm % 100))), .val (.int (4 : Int32)), .val (.int (0 : Int32))] [(.int (4 : Int32)), (.ref bf)]))
  obtain ⟨T215, X215, e215, st215⟩ := getS2 X0 hx hZ hown (host := "") (Or.inl (hw _ (List.mem_of_getElem? (i := 57) rfl))) Via.refl e0 (SO.ext OL.2) (g := (mkF m 49 #[.val (.int (-(own_of (mm / 100)))), .val (.int (5 : Int32)), .val (.ref bf), .val (.int (-(own_of (mm / 100)))), .val (.int (own_of (mm % 100))), .val (.int (4 : Int32)), .val (.int (0 : Int32))] [(.int (4 : Int32)), (.ref bf)])) rfl (hb hby d10_49)
  refine Run.pre st215 ?_
  refine Run.pre (fun _ k => XS.iload X215.here hx rfl (hb hby d10_52) rfl  k) ?_
  show Run p e below s _ _ _ (T215.setTop (mkF m 54 #[.val (.int (-(own_of (mm / 100)))), .val (.int (5 : Int32)), .val (.ref bf), .val (.int (-(own_of (mm / 100)))), .val (.int (own_of (mm % 100))), .val (.int (4 : Int32)), .val (.int (0 : Int32))] [(.int (own_of (mm % 100))), (.ref od), (.int (4 : Int32)), (.ref bf)]))
  obtain ⟨c216, Ar216, -, S216, N216, H216, -⟩ := id (AO.ext OL.2)
  have hin216 : ¬ ((own_of (mm % 100)) < 0 ∨ c216.slots.size ≤ ((own_of (mm % 100))).toNatClampNeg) := inb_of S216 (own_in100 (show (mm % 100) < 100 by omega))
  refine Run.pre (X215.baloadBytes hx (j := (own_of (mm % 100))) (v := (.int (own_of (48 + (mm % 100) % 10)))) (by rw [e215]; exact Ar216.1) (State.isArrayOf_alike hZ.alike Ar216.2.1) Ar216.2.2 hin216 (H216.at hin216 (own_getO (show (mm % 100) < 100 by omega))) (g := (mkF m 54 #[.val (.int (-(own_of (mm / 100)))), .val (.int (5 : Int32)), .val (.ref bf), .val (.int (-(own_of (mm / 100)))), .val (.int (own_of (mm % 100))), .val (.int (4 : Int32)), .val (.int (0 : Int32))] [(.int (own_of (mm % 100))), (.ref od), (.int (4 : Int32)), (.ref bf)])) rfl rfl (hb hby d10_54)) ?_
  show Run p e below s _ _ _ (T215.setTop (mkF m 55 #[.val (.int (-(own_of (mm / 100)))), .val (.int (5 : Int32)), .val (.ref bf), .val (.int (-(own_of (mm / 100)))), .val (.int (own_of (mm % 100))), .val (.int (4 : Int32)), .val (.int (0 : Int32))] [(.int (own_of (48 + (mm % 100) % 10))), (.int (4 : Int32)), (.ref bf)]))
  obtain ⟨c217, Ar217, q217, S217, N217, H217, G217⟩ := id AB
  have hin217 : ¬ ((4 : Int32) < 0 ∨ c217.slots.size ≤ ((4 : Int32)).toNatClampNeg) := inb_of S217 ⟨by decide, by decide⟩
  obtain ⟨T218, h218, X218, e218, W218, st218⟩ := stB X215 hx hZ e215 Ar217 (j := (4 : Int32)) hin217 (g := (mkF m 55 #[.val (.int (-(own_of (mm / 100)))), .val (.int (5 : Int32)), .val (.ref bf), .val (.int (-(own_of (mm / 100)))), .val (.int (own_of (mm % 100))), .val (.int (4 : Int32)), .val (.int (0 : Int32))] [(.int (own_of (48 + (mm % 100) % 10))), (.int (4 : Int32)), (.ref bf)])) rfl rfl (hb hby d10_55)
  refine Run.pre st218 ?_
  have V_bf_218 : Arv Z h218 bf kb .byte (5 : Int32) [(.int (0 : Int32)), (.int (0 : Int32)), (.int (0 : Int32)), (.int (0 : Int32)), (.int (nar .byte (own_of (48 + (mm % 100) % 10))))] (.int (0 : Int32)) := Arv.set Ar217 q217 S217 N217 H217 G217 (fits_nar_byte _) W218 4 rfl (Nat.le_of_ble_eq_true rfl)
  have K218 : Keep h0 h218 [bf] := (Keep.refl h0 [bf]).wr W218 (Or.inl (by simp))
  have N218 := Fr.snoc X218 N0 g_bf
  refine Run.pre (fun _ k => XS.aloadN X218.here hx rfl (hb hby d10_56) rfl rfl k) ?_
  show Run p e below s _ _ _ (T218.setTop (mkF m 57 #[.val (.int (-(own_of (mm / 100)))), .val (.int (5 : Int32)), .val (.ref bf), .val (.int (-(own_of (mm / 100)))), .val (.int (own_of (mm % 100))), .val (.int (4 : Int32)), .val (.int (0 : Int32))] [(.ref bf)]))
  refine Run.pre (fun _ k => XS.iinc X218.here hx rfl (hb hby d10_57) rfl (l' := #[.val (.int (-(own_of (mm / 100)))), .val (.int (5 : Int32)), .val (.ref bf), .val (.int (-(own_of (mm / 100)))), .val (.int (own_of (mm % 100))), .val (.int (3 : Int32)), .val (.int (0 : Int32))]) rfl k) ?_
  refine Run.pre (fun _ k => XS.iload X218.here hx rfl (hb hby d10_60) rfl  k) ?_
  show Run p e below s _ _ _ (T218.setTop (mkF m 62 #[.val (.int (-(own_of (mm / 100)))), .val (.int (5 : Int32)), .val (.ref bf), .val (.int (-(own_of (mm / 100)))), .val (.int (own_of (mm % 100))), .val (.int (3 : Int32)), .val (.int (0 : Int32))] [(.int (3 : Int32)), (.ref bf)]))
  have f219 := (OL.wr W218 g_bf)
  obtain ⟨T220, X220, e220, st220⟩ := getS2 X218 hx hZ hown (host := "") (Or.inl (hw _ (List.mem_of_getElem? (i := 58) rfl))) Via.refl e218 (ST.ext f219.2) (g := (mkF m 62 #[.val (.int (-(own_of (mm / 100)))), .val (.int (5 : Int32)), .val (.ref bf), .val (.int (-(own_of (mm / 100)))), .val (.int (own_of (mm % 100))), .val (.int (3 : Int32)), .val (.int (0 : Int32))] [(.int (3 : Int32)), (.ref bf)])) rfl (hb hby d10_62)
  refine Run.pre st220 ?_
  refine Run.pre (fun _ k => XS.iload X220.here hx rfl (hb hby d10_65) rfl  k) ?_
  show Run p e below s _ _ _ (T220.setTop (mkF m 67 #[.val (.int (-(own_of (mm / 100)))), .val (.int (5 : Int32)), .val (.ref bf), .val (.int (-(own_of (mm / 100)))), .val (.int (own_of (mm % 100))), .val (.int (3 : Int32)), .val (.int (0 : Int32))] [(.int (own_of (mm % 100))), (.ref td), (.int (3 : Int32)), (.ref bf)]))
  obtain ⟨c221, Ar221, -, S221, N221, H221, -⟩ := id (AT.ext f219.2)
  have hin221 : ¬ ((own_of (mm % 100)) < 0 ∨ c221.slots.size ≤ ((own_of (mm % 100))).toNatClampNeg) := inb_of S221 (own_in100 (show (mm % 100) < 100 by omega))
  refine Run.pre (X220.baloadBytes hx (j := (own_of (mm % 100))) (v := (.int (own_of (48 + (mm % 100) / 10)))) (by rw [e220]; exact Ar221.1) (State.isArrayOf_alike hZ.alike Ar221.2.1) Ar221.2.2 hin221 (H221.at hin221 (own_getT (show (mm % 100) < 100 by omega))) (g := (mkF m 67 #[.val (.int (-(own_of (mm / 100)))), .val (.int (5 : Int32)), .val (.ref bf), .val (.int (-(own_of (mm / 100)))), .val (.int (own_of (mm % 100))), .val (.int (3 : Int32)), .val (.int (0 : Int32))] [(.int (own_of (mm % 100))), (.ref td), (.int (3 : Int32)), (.ref bf)])) rfl rfl (hb hby d10_67)) ?_
  show Run p e below s _ _ _ (T220.setTop (mkF m 68 #[.val (.int (-(own_of (mm / 100)))), .val (.int (5 : Int32)), .val (.ref bf), .val (.int (-(own_of (mm / 100)))), .val (.int (own_of (mm % 100))), .val (.int (3 : Int32)), .val (.int (0 : Int32))] [(.int (own_of (48 + (mm % 100) / 10))), (.int (3 : Int32)), (.ref bf)]))
  obtain ⟨c222, Ar222, q222, S222, N222, H222, G222⟩ := id V_bf_218
  have hin222 : ¬ ((3 : Int32) < 0 ∨ c222.slots.size ≤ ((3 : Int32)).toNatClampNeg) := inb_of S222 ⟨by decide, by decide⟩
  obtain ⟨T223, h223, X223, e223, W223, st223⟩ := stB X220 hx hZ e220 Ar222 (j := (3 : Int32)) hin222 (g := (mkF m 68 #[.val (.int (-(own_of (mm / 100)))), .val (.int (5 : Int32)), .val (.ref bf), .val (.int (-(own_of (mm / 100)))), .val (.int (own_of (mm % 100))), .val (.int (3 : Int32)), .val (.int (0 : Int32))] [(.int (own_of (48 + (mm % 100) / 10))), (.int (3 : Int32)), (.ref bf)])) rfl rfl (hb hby d10_68)
  refine Run.pre st223 ?_
  have V_bf_223 : Arv Z h223 bf kb .byte (5 : Int32) [(.int (0 : Int32)), (.int (0 : Int32)), (.int (0 : Int32)), (.int (nar .byte (own_of (48 + (mm % 100) / 10)))), (.int (nar .byte (own_of (48 + (mm % 100) % 10))))] (.int (0 : Int32)) := Arv.set Ar222 q222 S222 N222 H222 G222 (fits_nar_byte _) W223 3 rfl (Nat.le_of_ble_eq_true rfl)
  have K223 : Keep h0 h223 [bf] := K218.wr W223 (Or.inl (by simp))
  have N223 := Fr.snoc X223 N218 g_bf
  refine Run.pre (fun _ k => XS.goto X223.here hx rfl (pc0 := 69) (pc' := 22) rfl (hb hby d10_69) (by decide) (by decide) k) ?_
  refine Run.pre (fun _ k => XS.iloadN X223.here hx rfl (hb hby d10_22) rfl  k) ?_
  refine Run.pre (fun _ k => XS.bipush X223.here hx rfl (hb hby d10_23) k) ?_
  show Run p e below s _ _ _ (T223.setTop (mkF m 25 #[.val (.int (-(own_of (mm / 100)))), .val (.int (5 : Int32)), .val (.ref bf), .val (.int (-(own_of (mm / 100)))), .val (.int (own_of (mm % 100))), .val (.int (3 : Int32)), .val (.int (0 : Int32))] [(.int (-100 : Int32)), (.int (-(own_of (mm / 100))))]))
  refine Run.pre (fun _ k => XS.icmpNo X223.here hx rfl (hb hby d10_25) rfl (flt ((own_nltng (show (mm / 100) < 2147483648 by omega) (by have e : ((-100 : Int32)).toInt = -100 := (by decide); omega)) : ¬ ((-100 : Int32) < (-(own_of (mm / 100)))))).2.2.1 k) ?_
  refine Run.pre (fun _ k => XS.iloadN X223.here hx rfl (hb hby d10_28) rfl  k) ?_
  refine Run.pre (fun _ k => XS.bipush X223.here hx rfl (hb hby d10_29) k) ?_
  show Run p e below s _ _ _ (T223.setTop (mkF m 31 #[.val (.int (-(own_of (mm / 100)))), .val (.int (5 : Int32)), .val (.ref bf), .val (.int (-(own_of (mm / 100)))), .val (.int (own_of (mm % 100))), .val (.int (3 : Int32)), .val (.int (0 : Int32))] [(.int (100 : Int32)), (.int (-(own_of (mm / 100))))]))
  refine Run.pre (fun _ k => XS.idiv X223.here hx rfl (hb hby d10_31) rfl (by decide) k) ?_
  show Run p e below s _ _ _ (T223.setTop (mkF m 32 #[.val (.int (-(own_of (mm / 100)))), .val (.int (5 : Int32)), .val (.ref bf), .val (.int (-(own_of (mm / 100)))), .val (.int (own_of (mm % 100))), .val (.int (3 : Int32)), .val (.int (0 : Int32))] [(.int ((-(own_of (mm / 100))) / (100 : Int32)))]))
  refine Run.pre (fun _ k => XS.istoreN X223.here hx rfl (hb hby d10_32) rfl (l' := #[.val (.int (-(own_of (mm / 100)))), .val (.int (5 : Int32)), .val (.ref bf), .val (.int ((-(own_of (mm / 100))) / (100 : Int32))), .val (.int (own_of (mm % 100))), .val (.int (3 : Int32)), .val (.int (0 : Int32))]) rfl k) ?_
  refine Run.pre (fun _ k => XS.iloadN X223.here hx rfl (hb hby d10_33) rfl  k) ?_
  refine Run.pre (fun _ k => XS.bipush X223.here hx rfl (hb hby d10_34) k) ?_
  show Run p e below s _ _ _ (T223.setTop (mkF m 36 #[.val (.int (-(own_of (mm / 100)))), .val (.int (5 : Int32)), .val (.ref bf), .val (.int ((-(own_of (mm / 100))) / (100 : Int32))), .val (.int (own_of (mm % 100))), .val (.int (3 : Int32)), .val (.int (0 : Int32))] [(.int (100 : Int32)), (.int ((-(own_of (mm / 100))) / (100 : Int32)))]))
  refine Run.pre (fun _ k => XS.imul X223.here hx rfl (hb hby d10_36) rfl k) ?_
  refine Run.pre (fun _ k => XS.iloadN X223.here hx rfl (hb hby d10_37) rfl  k) ?_
  show Run p e below s _ _ _ (T223.setTop (mkF m 38 #[.val (.int (-(own_of (mm / 100)))), .val (.int (5 : Int32)), .val (.ref bf), .val (.int ((-(own_of (mm / 100))) / (100 : Int32))), .val (.int (own_of (mm % 100))), .val (.int (3 : Int32)), .val (.int (0 : Int32))] [(.int (-(own_of (mm / 100)))), (.int (((-(own_of (mm / 100))) / (100 : Int32)) * (100 : Int32)))]))
  refine Run.pre (fun _ k => XS.isub X223.here hx rfl (hb hby d10_38) rfl k) ?_
  show Run p e below s _ _ _ (T223.setTop (mkF m 39 #[.val (.int (-(own_of (mm / 100)))), .val (.int (5 : Int32)), .val (.ref bf), .val (.int ((-(own_of (mm / 100))) / (100 : Int32))), .val (.int (own_of (mm % 100))), .val (.int (3 : Int32)), .val (.int (0 : Int32))] [(.int ((((-(own_of (mm / 100))) / (100 : Int32)) * (100 : Int32)) - (-(own_of (mm / 100)))))]))
  refine Run.pre (fun _ k => XS.istore X223.here hx rfl (hb hby d10_39) rfl (l' := #[.val (.int (-(own_of (mm / 100)))), .val (.int (5 : Int32)), .val (.ref bf), .val (.int ((-(own_of (mm / 100))) / (100 : Int32))), .val (.int ((((-(own_of (mm / 100))) / (100 : Int32)) * (100 : Int32)) - (-(own_of (mm / 100))))), .val (.int (3 : Int32)), .val (.int (0 : Int32))]) rfl k) ?_
  refine Run.pre (fun _ k => XS.iloadN X223.here hx rfl (hb hby d10_41) rfl  k) ?_
  show Run p e below s _ _ _ (T223.setTop (mkF m 42 #[.val (.int (-(own_of (mm / 100)))), .val (.int (5 : Int32)), .val (.ref bf), .val (.int ((-(own_of (mm / 100))) / (100 : Int32))), .val (.int ((((-(own_of (mm / 100))) / (100 : Int32)) * (100 : Int32)) - (-(own_of (mm / 100))))), .val (.int (3 : Int32)), .val (.int (0 : Int32))] [(.int ((-(own_of (mm / 100))) / (100 : Int32)))]))
  refine Run.pre (fun _ k => XS.istoreN X223.here hx rfl (hb hby d10_42) rfl (l' := #[.val (.int ((-(own_of (mm / 100))) / (100 : Int32))), .val (.int (5 : Int32)), .val (.ref bf), .val (.int ((-(own_of (mm / 100))) / (100 : Int32))), .val (.int ((((-(own_of (mm / 100))) / (100 : Int32)) * (100 : Int32)) - (-(own_of (mm / 100))))), .val (.int (3 : Int32)), .val (.int (0 : Int32))]) rfl k) ?_
  show Run p e below s _ _ _ (T223.setTop (mkF m 43 #[.val (.int ((-(own_of (mm / 100))) / (100 : Int32))), .val (.int (5 : Int32)), .val (.ref bf), .val (.int ((-(own_of (mm / 100))) / (100 : Int32))), .val (.int ((((-(own_of (mm / 100))) / (100 : Int32)) * (100 : Int32)) - (-(own_of (mm / 100))))), .val (.int (3 : Int32)), .val (.int (0 : Int32))] []))
  rw [own_div (show (mm / 100) < 2147483648 by omega), own_rem (show (mm / 100) < 2147483648 by omega)]
  refine Run.pre (fun _ k => XS.aloadN X223.here hx rfl (hb hby d10_43) rfl rfl k) ?_
  show Run p e below s _ _ _ (T223.setTop (mkF m 44 #[.val (.int (-(own_of ((mm / 100) / 100)))), .val (.int (5 : Int32)), .val (.ref bf), .val (.int (-(own_of ((mm / 100) / 100)))), .val (.int (own_of ((mm / 100) % 100))), .val (.int (3 : Int32)), .val (.int (0 : Int32))] [(.ref bf)]))
  refine Run.pre (fun _ k => XS.iinc X223.here hx rfl (hb hby d10_44) rfl (l' := #[.val (.int (-(own_of ((mm / 100) / 100)))), .val (.int (5 : Int32)), .val (.ref bf), .val (.int (-(own_of ((mm / 100) / 100)))), .val (.int (own_of ((mm / 100) % 100))), .val (.int (2 : Int32)), .val (.int (0 : Int32))]) rfl k) ?_
  refine Run.pre (fun _ k => XS.iload X223.here hx rfl (hb hby d10_47) rfl  k) ?_
  show Run p e below s _ _ _ (T223.setTop (mkF m 49 #[.val (.int (-(own_of ((mm / 100) / 100)))), .val (.int (5 : Int32)), .val (.ref bf), .val (.int (-(own_of ((mm / 100) / 100)))), .val (.int (own_of ((mm / 100) % 100))), .val (.int (2 : Int32)), .val (.int (0 : Int32))] [(.int (2 : Int32)), (.ref bf)]))
  have f224 := (f219.wr W223 g_bf)
  obtain ⟨T225, X225, e225, st225⟩ := getS2 X223 hx hZ hown (host := "") (Or.inl (hw _ (List.mem_of_getElem? (i := 57) rfl))) Via.refl e223 (SO.ext f224.2) (g := (mkF m 49 #[.val (.int (-(own_of ((mm / 100) / 100)))), .val (.int (5 : Int32)), .val (.ref bf), .val (.int (-(own_of ((mm / 100) / 100)))), .val (.int (own_of ((mm / 100) % 100))), .val (.int (2 : Int32)), .val (.int (0 : Int32))] [(.int (2 : Int32)), (.ref bf)])) rfl (hb hby d10_49)
  refine Run.pre st225 ?_
  refine Run.pre (fun _ k => XS.iload X225.here hx rfl (hb hby d10_52) rfl  k) ?_
  show Run p e below s _ _ _ (T225.setTop (mkF m 54 #[.val (.int (-(own_of ((mm / 100) / 100)))), .val (.int (5 : Int32)), .val (.ref bf), .val (.int (-(own_of ((mm / 100) / 100)))), .val (.int (own_of ((mm / 100) % 100))), .val (.int (2 : Int32)), .val (.int (0 : Int32))] [(.int (own_of ((mm / 100) % 100))), (.ref od), (.int (2 : Int32)), (.ref bf)]))
  obtain ⟨c226, Ar226, -, S226, N226, H226, -⟩ := id (AO.ext f224.2)
  have hin226 : ¬ ((own_of ((mm / 100) % 100)) < 0 ∨ c226.slots.size ≤ ((own_of ((mm / 100) % 100))).toNatClampNeg) := inb_of S226 (own_in100 (show ((mm / 100) % 100) < 100 by omega))
  refine Run.pre (X225.baloadBytes hx (j := (own_of ((mm / 100) % 100))) (v := (.int (own_of (48 + ((mm / 100) % 100) % 10)))) (by rw [e225]; exact Ar226.1) (State.isArrayOf_alike hZ.alike Ar226.2.1) Ar226.2.2 hin226 (H226.at hin226 (own_getO (show ((mm / 100) % 100) < 100 by omega))) (g := (mkF m 54 #[.val (.int (-(own_of ((mm / 100) / 100)))), .val (.int (5 : Int32)), .val (.ref bf), .val (.int (-(own_of ((mm / 100) / 100)))), .val (.int (own_of ((mm / 100) % 100))), .val (.int (2 : Int32)), .val (.int (0 : Int32))] [(.int (own_of ((mm / 100) % 100))), (.ref od), (.int (2 : Int32)), (.ref bf)])) rfl rfl (hb hby d10_54)) ?_
  show Run p e below s _ _ _ (T225.setTop (mkF m 55 #[.val (.int (-(own_of ((mm / 100) / 100)))), .val (.int (5 : Int32)), .val (.ref bf), .val (.int (-(own_of ((mm / 100) / 100)))), .val (.int (own_of ((mm / 100) % 100))), .val (.int (2 : Int32)), .val (.int (0 : Int32))] [(.int (own_of (48 + ((mm / 100) % 100) % 10))), (.int (2 : Int32)), (.ref bf)]))
  obtain ⟨c227, Ar227, q227, S227, N227, H227, G227⟩ := id V_bf_223
  have hin227 : ¬ ((2 : Int32) < 0 ∨ c227.slots.size ≤ ((2 : Int32)).toNatClampNeg) := inb_of S227 ⟨by decide, by decide⟩
  obtain ⟨T228, h228, X228, e228, W228, st228⟩ := stB X225 hx hZ e225 Ar227 (j := (2 : Int32)) hin227 (g := (mkF m 55 #[.val (.int (-(own_of ((mm / 100) / 100)))), .val (.int (5 : Int32)), .val (.ref bf), .val (.int (-(own_of ((mm / 100) / 100)))), .val (.int (own_of ((mm / 100) % 100))), .val (.int (2 : Int32)), .val (.int (0 : Int32))] [(.int (own_of (48 + ((mm / 100) % 100) % 10))), (.int (2 : Int32)), (.ref bf)])) rfl rfl (hb hby d10_55)
  refine Run.pre st228 ?_
  have V_bf_228 : Arv Z h228 bf kb .byte (5 : Int32) [(.int (0 : Int32)), (.int (0 : Int32)), (.int (nar .byte (own_of (48 + ((mm / 100) % 100) % 10)))), (.int (nar .byte (own_of (48 + (mm % 100) / 10)))), (.int (nar .byte (own_of (48 + (mm % 100) % 10))))] (.int (0 : Int32)) := Arv.set Ar227 q227 S227 N227 H227 G227 (fits_nar_byte _) W228 2 rfl (Nat.le_of_ble_eq_true rfl)
  have K228 : Keep h0 h228 [bf] := K223.wr W228 (Or.inl (by simp))
  have N228 := Fr.snoc X228 N223 g_bf
  refine Run.pre (fun _ k => XS.aloadN X228.here hx rfl (hb hby d10_56) rfl rfl k) ?_
  show Run p e below s _ _ _ (T228.setTop (mkF m 57 #[.val (.int (-(own_of ((mm / 100) / 100)))), .val (.int (5 : Int32)), .val (.ref bf), .val (.int (-(own_of ((mm / 100) / 100)))), .val (.int (own_of ((mm / 100) % 100))), .val (.int (2 : Int32)), .val (.int (0 : Int32))] [(.ref bf)]))
  refine Run.pre (fun _ k => XS.iinc X228.here hx rfl (hb hby d10_57) rfl (l' := #[.val (.int (-(own_of ((mm / 100) / 100)))), .val (.int (5 : Int32)), .val (.ref bf), .val (.int (-(own_of ((mm / 100) / 100)))), .val (.int (own_of ((mm / 100) % 100))), .val (.int (1 : Int32)), .val (.int (0 : Int32))]) rfl k) ?_
  refine Run.pre (fun _ k => XS.iload X228.here hx rfl (hb hby d10_60) rfl  k) ?_
  show Run p e below s _ _ _ (T228.setTop (mkF m 62 #[.val (.int (-(own_of ((mm / 100) / 100)))), .val (.int (5 : Int32)), .val (.ref bf), .val (.int (-(own_of ((mm / 100) / 100)))), .val (.int (own_of ((mm / 100) % 100))), .val (.int (1 : Int32)), .val (.int (0 : Int32))] [(.int (1 : Int32)), (.ref bf)]))
  have f229 := (f224.wr W228 g_bf)
  obtain ⟨T230, X230, e230, st230⟩ := getS2 X228 hx hZ hown (host := "") (Or.inl (hw _ (List.mem_of_getElem? (i := 58) rfl))) Via.refl e228 (ST.ext f229.2) (g := (mkF m 62 #[.val (.int (-(own_of ((mm / 100) / 100)))), .val (.int (5 : Int32)), .val (.ref bf), .val (.int (-(own_of ((mm / 100) / 100)))), .val (.int (own_of ((mm / 100) % 100))), .val (.int (1 : Int32)), .val (.int (0 : Int32))] [(.int (1 : Int32)), (.ref bf)])) rfl (hb hby d10_62)
  refine Run.pre st230 ?_
  refine Run.pre (fun _ k => XS.iload X230.here hx rfl (hb hby d10_65) rfl  k) ?_
  show Run p e below s _ _ _ (T230.setTop (mkF m 67 #[.val (.int (-(own_of ((mm / 100) / 100)))), .val (.int (5 : Int32)), .val (.ref bf), .val (.int (-(own_of ((mm / 100) / 100)))), .val (.int (own_of ((mm / 100) % 100))), .val (.int (1 : Int32)), .val (.int (0 : Int32))] [(.int (own_of ((mm / 100) % 100))), (.ref td), (.int (1 : Int32)), (.ref bf)]))
  obtain ⟨c231, Ar231, -, S231, N231, H231, -⟩ := id (AT.ext f229.2)
  have hin231 : ¬ ((own_of ((mm / 100) % 100)) < 0 ∨ c231.slots.size ≤ ((own_of ((mm / 100) % 100))).toNatClampNeg) := inb_of S231 (own_in100 (show ((mm / 100) % 100) < 100 by omega))
  refine Run.pre (X230.baloadBytes hx (j := (own_of ((mm / 100) % 100))) (v := (.int (own_of (48 + ((mm / 100) % 100) / 10)))) (by rw [e230]; exact Ar231.1) (State.isArrayOf_alike hZ.alike Ar231.2.1) Ar231.2.2 hin231 (H231.at hin231 (own_getT (show ((mm / 100) % 100) < 100 by omega))) (g := (mkF m 67 #[.val (.int (-(own_of ((mm / 100) / 100)))), .val (.int (5 : Int32)), .val (.ref bf), .val (.int (-(own_of ((mm / 100) / 100)))), .val (.int (own_of ((mm / 100) % 100))), .val (.int (1 : Int32)), .val (.int (0 : Int32))] [(.int (own_of ((mm / 100) % 100))), (.ref td), (.int (1 : Int32)), (.ref bf)])) rfl rfl (hb hby d10_67)) ?_
  show Run p e below s _ _ _ (T230.setTop (mkF m 68 #[.val (.int (-(own_of ((mm / 100) / 100)))), .val (.int (5 : Int32)), .val (.ref bf), .val (.int (-(own_of ((mm / 100) / 100)))), .val (.int (own_of ((mm / 100) % 100))), .val (.int (1 : Int32)), .val (.int (0 : Int32))] [(.int (own_of (48 + ((mm / 100) % 100) / 10))), (.int (1 : Int32)), (.ref bf)]))
  obtain ⟨c232, Ar232, q232, S232, N232, H232, G232⟩ := id V_bf_228
  have hin232 : ¬ ((1 : Int32) < 0 ∨ c232.slots.size ≤ ((1 : Int32)).toNatClampNeg) := inb_of S232 ⟨by decide, by decide⟩
  obtain ⟨T233, h233, X233, e233, W233, st233⟩ := stB X230 hx hZ e230 Ar232 (j := (1 : Int32)) hin232 (g := (mkF m 68 #[.val (.int (-(own_of ((mm / 100) / 100)))), .val (.int (5 : Int32)), .val (.ref bf), .val (.int (-(own_of ((mm / 100) / 100)))), .val (.int (own_of ((mm / 100) % 100))), .val (.int (1 : Int32)), .val (.int (0 : Int32))] [(.int (own_of (48 + ((mm / 100) % 100) / 10))), (.int (1 : Int32)), (.ref bf)])) rfl rfl (hb hby d10_68)
  refine Run.pre st233 ?_
  have V_bf_233 : Arv Z h233 bf kb .byte (5 : Int32) [(.int (0 : Int32)), (.int (nar .byte (own_of (48 + ((mm / 100) % 100) / 10)))), (.int (nar .byte (own_of (48 + ((mm / 100) % 100) % 10)))), (.int (nar .byte (own_of (48 + (mm % 100) / 10)))), (.int (nar .byte (own_of (48 + (mm % 100) % 10))))] (.int (0 : Int32)) := Arv.set Ar232 q232 S232 N232 H232 G232 (fits_nar_byte _) W233 1 rfl (Nat.le_of_ble_eq_true rfl)
  have K233 : Keep h0 h233 [bf] := K228.wr W233 (Or.inl (by simp))
  have N233 := Fr.snoc X233 N228 g_bf
  refine Run.pre (fun _ k => XS.goto X233.here hx rfl (pc0 := 69) (pc' := 22) rfl (hb hby d10_69) (by decide) (by decide) k) ?_
  refine Run.pre (fun _ k => XS.iloadN X233.here hx rfl (hb hby d10_22) rfl  k) ?_
  refine Run.pre (fun _ k => XS.bipush X233.here hx rfl (hb hby d10_23) k) ?_
  show Run p e below s _ _ _ (T233.setTop (mkF m 25 #[.val (.int (-(own_of ((mm / 100) / 100)))), .val (.int (5 : Int32)), .val (.ref bf), .val (.int (-(own_of ((mm / 100) / 100)))), .val (.int (own_of ((mm / 100) % 100))), .val (.int (1 : Int32)), .val (.int (0 : Int32))] [(.int (-100 : Int32)), (.int (-(own_of ((mm / 100) / 100))))]))
  refine Run.pre (fun _ k => XS.icmpYes X233.here hx rfl (pc0 := 25) (pc' := 72) rfl (hb hby d10_25) rfl (tlt ((own_ltng (show ((mm / 100) / 100) < 2147483648 by omega) (by have e : ((-100 : Int32)).toInt = -100 := (by decide); omega)) : (-100 : Int32) < (-(own_of ((mm / 100) / 100))))).2.2.1 (by decide) (by decide) k) ?_
  refine Run.pre (fun _ k => XS.aloadN X233.here hx rfl (hb hby d10_72) rfl rfl k) ?_
  show Run p e below s _ _ _ (T233.setTop (mkF m 73 #[.val (.int (-(own_of ((mm / 100) / 100)))), .val (.int (5 : Int32)), .val (.ref bf), .val (.int (-(own_of ((mm / 100) / 100)))), .val (.int (own_of ((mm / 100) % 100))), .val (.int (1 : Int32)), .val (.int (0 : Int32))] [(.ref bf)]))
  refine Run.pre (fun _ k => XS.iinc X233.here hx rfl (hb hby d10_73) rfl (l' := #[.val (.int (-(own_of ((mm / 100) / 100)))), .val (.int (5 : Int32)), .val (.ref bf), .val (.int (-(own_of ((mm / 100) / 100)))), .val (.int (own_of ((mm / 100) % 100))), .val (.int (0 : Int32)), .val (.int (0 : Int32))]) rfl k) ?_
  refine Run.pre (fun _ k => XS.iload X233.here hx rfl (hb hby d10_76) rfl  k) ?_
  show Run p e below s _ _ _ (T233.setTop (mkF m 78 #[.val (.int (-(own_of ((mm / 100) / 100)))), .val (.int (5 : Int32)), .val (.ref bf), .val (.int (-(own_of ((mm / 100) / 100)))), .val (.int (own_of ((mm / 100) % 100))), .val (.int (0 : Int32)), .val (.int (0 : Int32))] [(.int (0 : Int32)), (.ref bf)]))
  have f234 := (f229.wr W233 g_bf)
  obtain ⟨T235, X235, e235, st235⟩ := getS2 X233 hx hZ hown (host := "") (Or.inl (hw _ (List.mem_of_getElem? (i := 57) rfl))) Via.refl e233 (SO.ext f234.2) (g := (mkF m 78 #[.val (.int (-(own_of ((mm / 100) / 100)))), .val (.int (5 : Int32)), .val (.ref bf), .val (.int (-(own_of ((mm / 100) / 100)))), .val (.int (own_of ((mm / 100) % 100))), .val (.int (0 : Int32)), .val (.int (0 : Int32))] [(.int (0 : Int32)), (.ref bf)])) rfl (hb hby d10_78)
  refine Run.pre st235 ?_
  refine Run.pre (fun _ k => XS.iloadN X235.here hx rfl (hb hby d10_81) rfl  k) ?_
  show Run p e below s _ _ _ (T235.setTop (mkF m 82 #[.val (.int (-(own_of ((mm / 100) / 100)))), .val (.int (5 : Int32)), .val (.ref bf), .val (.int (-(own_of ((mm / 100) / 100)))), .val (.int (own_of ((mm / 100) % 100))), .val (.int (0 : Int32)), .val (.int (0 : Int32))] [(.int (-(own_of ((mm / 100) / 100)))), (.ref od), (.int (0 : Int32)), (.ref bf)]))
  refine Run.pre (fun _ k => XS.ineg X235.here hx rfl (hb hby d10_82) rfl k) ?_
  show Run p e below s _ _ _ (T235.setTop (mkF m 83 #[.val (.int (-(own_of ((mm / 100) / 100)))), .val (.int (5 : Int32)), .val (.ref bf), .val (.int (-(own_of ((mm / 100) / 100)))), .val (.int (own_of ((mm / 100) % 100))), .val (.int (0 : Int32)), .val (.int (0 : Int32))] [(.int (-(-(own_of ((mm / 100) / 100))))), (.ref od), (.int (0 : Int32)), (.ref bf)]))
  obtain ⟨c236, Ar236, -, S236, N236, H236, -⟩ := id (AO.ext f234.2)
  have hin236 : ¬ ((-(-(own_of ((mm / 100) / 100)))) < 0 ∨ c236.slots.size ≤ ((-(-(own_of ((mm / 100) / 100))))).toNatClampNeg) := inb_of S236 (by rw [Int32.neg_neg]; exact own_in100 (show ((mm / 100) / 100) < 100 by omega))
  refine Run.pre (X235.baloadBytes hx (j := (-(-(own_of ((mm / 100) / 100))))) (v := (.int (own_of (48 + ((mm / 100) / 100) % 10)))) (by rw [e235]; exact Ar236.1) (State.isArrayOf_alike hZ.alike Ar236.2.1) Ar236.2.2 hin236 (H236.at hin236 (by rw [Int32.neg_neg]; exact own_getO (show ((mm / 100) / 100) < 100 by omega))) (g := (mkF m 83 #[.val (.int (-(own_of ((mm / 100) / 100)))), .val (.int (5 : Int32)), .val (.ref bf), .val (.int (-(own_of ((mm / 100) / 100)))), .val (.int (own_of ((mm / 100) % 100))), .val (.int (0 : Int32)), .val (.int (0 : Int32))] [(.int (-(-(own_of ((mm / 100) / 100))))), (.ref od), (.int (0 : Int32)), (.ref bf)])) rfl rfl (hb hby d10_83)) ?_
  show Run p e below s _ _ _ (T235.setTop (mkF m 84 #[.val (.int (-(own_of ((mm / 100) / 100)))), .val (.int (5 : Int32)), .val (.ref bf), .val (.int (-(own_of ((mm / 100) / 100)))), .val (.int (own_of ((mm / 100) % 100))), .val (.int (0 : Int32)), .val (.int (0 : Int32))] [(.int (own_of (48 + ((mm / 100) / 100) % 10))), (.int (0 : Int32)), (.ref bf)]))
  obtain ⟨c237, Ar237, q237, S237, N237, H237, G237⟩ := id V_bf_233
  have hin237 : ¬ ((0 : Int32) < 0 ∨ c237.slots.size ≤ ((0 : Int32)).toNatClampNeg) := inb_of S237 ⟨by decide, by decide⟩
  obtain ⟨T238, h238, X238, e238, W238, st238⟩ := stB X235 hx hZ e235 Ar237 (j := (0 : Int32)) hin237 (g := (mkF m 84 #[.val (.int (-(own_of ((mm / 100) / 100)))), .val (.int (5 : Int32)), .val (.ref bf), .val (.int (-(own_of ((mm / 100) / 100)))), .val (.int (own_of ((mm / 100) % 100))), .val (.int (0 : Int32)), .val (.int (0 : Int32))] [(.int (own_of (48 + ((mm / 100) / 100) % 10))), (.int (0 : Int32)), (.ref bf)])) rfl rfl (hb hby d10_84)
  refine Run.pre st238 ?_
  have V_bf_238 : Arv Z h238 bf kb .byte (5 : Int32) [(.int (nar .byte (own_of (48 + ((mm / 100) / 100) % 10)))), (.int (nar .byte (own_of (48 + ((mm / 100) % 100) / 10)))), (.int (nar .byte (own_of (48 + ((mm / 100) % 100) % 10)))), (.int (nar .byte (own_of (48 + (mm % 100) / 10)))), (.int (nar .byte (own_of (48 + (mm % 100) % 10))))] (.int (0 : Int32)) := Arv.set Ar237 q237 S237 N237 H237 G237 (fits_nar_byte _) W238 0 rfl (Nat.le_of_ble_eq_true rfl)
  have K238 : Keep h0 h238 [bf] := K233.wr W238 (Or.inl (by simp))
  have N238 := Fr.snoc X238 N233 g_bf
  refine Run.pre (fun _ k => XS.iloadN X238.here hx rfl (hb hby d10_85) rfl  k) ?_
  refine Run.pre (fun _ k => XS.bipush X238.here hx rfl (hb hby d10_86) k) ?_
  show Run p e below s _ _ _ (T238.setTop (mkF m 88 #[.val (.int (-(own_of ((mm / 100) / 100)))), .val (.int (5 : Int32)), .val (.ref bf), .val (.int (-(own_of ((mm / 100) / 100)))), .val (.int (own_of ((mm / 100) % 100))), .val (.int (0 : Int32)), .val (.int (0 : Int32))] [(.int (-9 : Int32)), (.int (-(own_of ((mm / 100) / 100))))]))
  refine Run.pre (fun _ k => XS.icmpYes X238.here hx rfl (pc0 := 88) (pc' := 104) rfl (hb hby d10_88) rfl (flt ((own_nnglt (show ((mm / 100) / 100) < 2147483648 by omega) (by have e : ((-9 : Int32)).toInt = -9 := (by decide); omega)) : ¬ ((-(own_of ((mm / 100) / 100))) < (-9 : Int32)))).2.1 (by decide) (by decide) k) ?_
  refine Run.pre (fun _ k => XS.iload X238.here hx rfl (hb hby d10_104) rfl  k) ?_
  show Run p e below s _ _ _ (T238.setTop (mkF m 106 #[.val (.int (-(own_of ((mm / 100) / 100)))), .val (.int (5 : Int32)), .val (.ref bf), .val (.int (-(own_of ((mm / 100) / 100)))), .val (.int (own_of ((mm / 100) % 100))), .val (.int (0 : Int32)), .val (.int (0 : Int32))] [(.int (0 : Int32))]))
  refine Run.pre (fun _ k => XS.ifYes X238.here hx rfl (pc0 := 106) (pc' := 118) rfl (hb hby d10_106) rfl ((if0 _ _).trans (teq ((by decide) : (0 : Int32) = (0 : Int32))).1) (by decide) (by decide) k) ?_
  refine Run.pre (fun _ k => XS.iload X238.here hx rfl (hb hby d10_118) rfl  k) ?_
  show Run p e below s _ _ _ (T238.setTop (mkF m 120 #[.val (.int (-(own_of ((mm / 100) / 100)))), .val (.int (5 : Int32)), .val (.ref bf), .val (.int (-(own_of ((mm / 100) / 100)))), .val (.int (own_of ((mm / 100) % 100))), .val (.int (0 : Int32)), .val (.int (0 : Int32))] [(.int (0 : Int32))]))
  exact Run.retI hS (by first | exact Nat.le_refl _ | (rw [e238]; exact (Nat.le_trans (Nat.le_trans (Nat.le_trans (Nat.le_trans (Nat.le_trans (Nat.zero_le _) (Keep.of_wr W218).1) (Keep.of_wr W223).1) (Keep.of_wr W228).1) (Keep.of_wr W233).1) (Keep.of_wr W238).1))) X238 hx hret hlk (hb hby d10_120) (by first | (rw [e238]; exact ⟨rfl, N238, K238, V_bf_238⟩) | exact ⟨rfl, N238, K238, V_bf_238⟩) (by decide) (by decide)
set_option maxRecDepth 65536 in
set_option maxHeartbeats 40000000 in
theorem rmTS_5 (l : Launch) (Z : State) (a0 : Array Value) (hw : ∀ d ∈ tables_1, d.before a0 Z = true) (mm : Nat) (cs : Int32) (od : Addr) (ko : ClassId) (td : Addr) (kt : ClassId) (h0 : Heap) (n0 : Nat) (Z0 : n0 ≤ h0.size) (OL : Old Z n0 h0) (hm : mm < 2147483648) (lo : 10000 ≤ mm) (hi : mm < 100000) (SC : Sta Z Z.heap "java/lang/String" "COMPACT_STRINGS" "Z" (.int cs)) (hcs : ¬ cs = 0) (SO : Sta Z Z.heap "java/lang/Integer" "DigitOnes" "[B" (.ref od)) (ST : Sta Z Z.heap "java/lang/Integer" "DigitTens" "[B" (.ref td)) (AO : Arv Z Z.heap od ko .byte 100 own_DO (.int 0)) (AT : Arv Z Z.heap td kt .byte 100 own_DT (.int 0)) :
    Con l (⟨"java/lang/Integer", "toString", "(I)Ljava/lang/String;"⟩ : MethodName) jdk_33_method_10_code 3 (some (.object "java/lang/String")) ({ frames := 2, cells := 2, slots := 9, locals := 27 } : Room) Z #[(.int (own_of mm))] h0 (fun _ => True) (fun v h L vm => ∃ o : Addr, ∃ b : Addr, ∃ k : ClassId, v = some (.ref o) ∧ Fr n0 L ∧ Keep h0 h [] ∧ h0.size ≤ o ∧ Exa Z h o "java/lang/String" ∧ Fld Z h o "java/lang/String" "value" "[B" (.ref b) ∧ Fld Z h o "java/lang/String" "coder" "B" (.int 0) ∧ Arv Z h b k .byte 5 [(.int (nar .byte (own_of (48 + ((mm / 100) / 100) % 10)))), (.int (nar .byte (own_of (48 + ((mm / 100) % 100) / 10)))), (.int (nar .byte (own_of (48 + ((mm / 100) % 100) % 10)))), (.int (nar .byte (own_of (48 + (mm % 100) / 10)))), (.int (nar .byte (own_of (48 + (mm % 100) % 10))))] (.int 0)) := by
  refine Con.mk (plainFor_of_name pn_8) (fun m => show entryFrame m #[(.int (own_of mm))] 3 = mkF m 0 #[.val (.int (own_of mm)), .unset, .unset] [] by first | (simp [entryFrame, mkF, argsToLocals, Value.category]; done) | rfl) ?_
  intro p e s m below meth c s₁ vm0 hx hby hml hown hnm hret hlk hZ X0 e0 hS hs0 hP0
  have N0 := Fr.nil n0
  refine Run.pre (fun _ k => XS.iloadN X0.here hx rfl (hb hby d8_0) rfl  k) ?_
  show Run p e below s _ _ _ (s₁.setTop (mkF m 1 #[.val (.int (own_of mm)), .unset, .unset] [(.int (own_of mm))]))
  refine Run.callS hS (by first | exact Nat.le_refl _ | (rw [e0]; exact (Nat.zero_le _))) X0 hx hZ (y := (⟨"java/lang/Integer", "stringSize", "(I)I"⟩ : MethodName)) hown (hw _ (List.mem_of_getElem? (i := 50) rfl)) (hw _ (List.mem_of_getElem? (i := 51) rfl)) (hw _ (List.mem_of_getElem? (i := 21) rfl)) (hw _ (List.mem_of_getElem? (i := 52) rfl)) (by decide) (W := 0) (rmSS l Z a0 hw mm h0 n0 (Nat.le_trans Z0 (Keep.refl h0 []).1) hm) e0 (by decide) (by decide) (by decide) (by decide) (fun _ _ => trivial) (g := (mkF m 1 #[.val (.int (own_of mm)), .unset, .unset] [(.int (own_of mm))])) rfl (by rw [hml]; rfl) (argsL := [(.int (own_of mm))]) (rest := []) (lenOf pd_8 rfl) rfl (by show 2 * 0 + _ ≤ _; exact Nat.le_of_eq rfl) (hb hby d8_1) ?_
  intro v239 T239 L239 X239 hS hZ hown hV239 hQ239
  obtain ⟨rfl, Nq239, he239⟩ := hQ239
  have N239 := Fr.app N0 Nq239
  have e239 : T239.heap = h0 := he239
  rw [own_dgt_5 lo hi]
  show Run p e below s _ _ _ (T239.setTop (mkF m 4 #[.val (.int (own_of mm)), .unset, .unset] [(.int (5 : Int32))]))
  refine Run.pre (fun _ k => XS.istoreN X239.here hx rfl (hb hby d8_4) rfl (l' := #[.val (.int (own_of mm)), .val (.int (5 : Int32)), .unset]) rfl k) ?_
  show Run p e below s _ _ _ (T239.setTop (mkF m 5 #[.val (.int (own_of mm)), .val (.int (5 : Int32)), .unset] []))
  obtain ⟨T240, X240, e240, st240⟩ := getS2 X239 hx hZ hown (host := "") (Or.inl (hw _ (List.mem_of_getElem? (i := 53) rfl))) Via.refl e239 (SC.ext OL.2) (g := (mkF m 5 #[.val (.int (own_of mm)), .val (.int (5 : Int32)), .unset] [])) rfl (hb hby d8_5)
  refine Run.pre st240 ?_
  show Run p e below s _ _ _ (T240.setTop (mkF m 8 #[.val (.int (own_of mm)), .val (.int (5 : Int32)), .unset] [(.int cs)]))
  refine Run.pre (fun _ k => XS.ifNo X240.here hx rfl (hb hby d8_8) rfl ((if0 _ _).trans (feq (hcs : ¬ (cs = (0 : Int32)))).1) k) ?_
  refine Run.pre (fun _ k => XS.iloadN X240.here hx rfl (hb hby d8_11) rfl  k) ?_
  show Run p e below s _ _ _ (T240.setTop (mkF m 12 #[.val (.int (own_of mm)), .val (.int (5 : Int32)), .unset] [(.int (5 : Int32))]))
  obtain ⟨T241, h241, k241, X241, e241, E241, A241, st241⟩ := newP X240 hx hZ (hw _ (List.mem_of_getElem? (i := 7) rfl)) e240 (g := (mkF m 12 #[.val (.int (own_of mm)), .val (.int (5 : Int32)), .unset] [(.int (5 : Int32))])) rfl (hb hby d8_12) rfl (by decide) (cap := 5) (by decide) (by decide) (by decide) (by decide)
  obtain ⟨b241, g241⟩ : ∃ z, z = h0.size := ⟨_, rfl⟩
  rw [← g241] at A241 st241
  refine Run.pre st241 ?_
  have V_b241 : Arv Z h241 b241 k241 .byte (5 : Int32) [(.int (0 : Int32)), (.int (0 : Int32)), (.int (0 : Int32)), (.int (0 : Int32)), (.int (0 : Int32))] (.int (0 : Int32)) := (Arv.new A241 (by decide)).pad (pad_rep [] (.int (0 : Int32)) 5)
  have gn_b241 : n0 ≤ b241 := Nat.le_trans (Nat.le_trans Z0 (Keep.refl h0 []).1) (Nat.le_of_eq g241.symm)
  have sz_b241 : h0.size ≤ b241 := Nat.le_trans (Keep.refl h0 []).1 (Nat.le_of_eq g241.symm)
  have K241 : Keep h0 h241 [] := (Keep.refl h0 []).ext E241
  show Run p e below s _ _ _ (T241.setTop (mkF m 14 #[.val (.int (own_of mm)), .val (.int (5 : Int32)), .unset] [(.ref b241)]))
  refine Run.pre (fun _ k => XS.astoreN X241.here hx rfl (hb hby d8_14) rfl rfl (l' := #[.val (.int (own_of mm)), .val (.int (5 : Int32)), .val (.ref b241)]) rfl k) ?_
  refine Run.pre (fun _ k => XS.iloadN X241.here hx rfl (hb hby d8_15) rfl  k) ?_
  refine Run.pre (fun _ k => XS.iloadN X241.here hx rfl (hb hby d8_16) rfl  k) ?_
  refine Run.pre (fun _ k => XS.aloadN X241.here hx rfl (hb hby d8_17) rfl rfl k) ?_
  show Run p e below s _ _ _ (T241.setTop (mkF m 18 #[.val (.int (own_of mm)), .val (.int (5 : Int32)), .val (.ref b241)] [(.ref b241), (.int (5 : Int32)), (.int (own_of mm))]))
  have f242 := (OL.ext E241)
  refine Run.callS hS (by first | exact Nat.le_refl _ | (rw [e241]; exact (Nat.le_trans (Nat.le_of_eq (congrArg Array.size e239)) E241.1))) X241 hx hZ (y := (⟨"java/lang/Integer", "getChars", "(II[B)I"⟩ : MethodName)) hown (hw _ (List.mem_of_getElem? (i := 54) rfl)) (hw _ (List.mem_of_getElem? (i := 55) rfl)) (hw _ (List.mem_of_getElem? (i := 21) rfl)) (hw _ (List.mem_of_getElem? (i := 56) rfl)) (by decide) (W := 0) (rmGC_5 l Z a0 hw mm od ko td kt b241 k241 h241 n0 (Nat.le_trans Z0 K241.1) f242 hm lo hi SO ST AO AT V_b241 gn_b241) e241 (by decide) (by decide) (by decide) (by decide) (fun _ _ => trivial) (g := (mkF m 18 #[.val (.int (own_of mm)), .val (.int (5 : Int32)), .val (.ref b241)] [(.ref b241), (.int (5 : Int32)), (.int (own_of mm))])) rfl (by rw [hml]; rfl) (argsL := [(.int (own_of mm)), (.int (5 : Int32)), (.ref b241)]) (rest := []) (lenOf pd_9 rfl) rfl (by show 2 * 0 + _ ≤ _; exact Nat.le_of_eq rfl) (hb hby d8_18) ?_
  intro v243 T243 L243 X243 hS hZ hown hV243 hQ243
  obtain ⟨rfl, Nq243, Kc243, vb243⟩ := hQ243
  have N243 := Fr.app N239 Nq243
  have K243 : Keep h0 T243.heap [] := K241.trans Kc243 (allS (Or.inr sz_b241) all0)
  show Run p e below s _ _ _ (T243.setTop (mkF m 21 #[.val (.int (own_of mm)), .val (.int (5 : Int32)), .val (.ref b241)] [(.int (0 : Int32))]))
  refine Run.pre (fun _ k => XS.pop X243.here hx rfl (hb hby d8_21) rfl rfl k) ?_
  show Run p e below s _ _ _ (T243.setTop (mkF m 22 #[.val (.int (own_of mm)), .val (.int (5 : Int32)), .val (.ref b241)] []))
  obtain ⟨T244, h244, X244, e244, E244, A244, D244, -, st244⟩ := newO X243 hx hZ hown (hw _ (List.mem_of_getElem? (i := 59) rfl)) (hw _ (List.mem_of_getElem? (i := 6) rfl)) (hw _ (List.mem_of_getElem? (i := 5) rfl)) rfl (g := (mkF m 22 #[.val (.int (own_of mm)), .val (.int (5 : Int32)), .val (.ref b241)] [])) rfl (hb hby d8_22) (by decide) (by decide)
  obtain ⟨b244, g244⟩ : ∃ z, z = T243.heap.size := ⟨_, rfl⟩
  rw [← g244] at A244 D244 st244
  refine Run.pre st244 ?_
  have gn_b244 : n0 ≤ b244 := Nat.le_trans (Nat.le_trans Z0 K243.1) (Nat.le_of_eq g244.symm)
  have sz_b244 : h0.size ≤ b244 := Nat.le_trans K243.1 (Nat.le_of_eq g244.symm)
  have K244 : Keep h0 h244 [] := K243.ext E244
  have F_value_b244 : Fld Z h244 b244 "java/lang/String" "value" "[B" .null := D244 (Or.inr (hw _ (List.mem_of_getElem? (i := 8) rfl))) (ty := (.array .byte)) (by decide)
  have F_coder_b244 : Fld Z h244 b244 "java/lang/String" "coder" "B" (.int (0 : Int32)) := D244 (Or.inr (hw _ (List.mem_of_getElem? (i := 9) rfl))) (ty := .byte) (by decide)
  refine Run.pre (fun _ k => XS.dup X244.here hx rfl (hb hby d8_25) rfl rfl k) ?_
  refine Run.pre (fun _ k => XS.aloadN X244.here hx rfl (hb hby d8_26) rfl rfl k) ?_
  refine Run.pre (fun _ k => XS.iconst X244.here hx rfl (hb hby d8_27) k) ?_
  show Run p e below s _ _ _ (T244.setTop (mkF m 28 #[.val (.int (own_of mm)), .val (.int (5 : Int32)), .val (.ref b241)] [(.int (0 : Int32)), (.ref b241), (.ref b244), (.ref b244)]))
  refine Run.callI hS (by first | exact Nat.le_refl _ | (rw [e244]; exact (Nat.le_trans (Nat.le_refl _) E244.1))) X244 hx hZ (y := (⟨"java/lang/String", "<init>", "([BB)V"⟩ : MethodName)) rfl hown (hw _ (List.mem_of_getElem? (i := 60) rfl)) (hw _ (List.mem_of_getElem? (i := 61) rfl)) (hw _ (List.mem_of_getElem? (i := 63) rfl)) (hw _ (List.mem_of_getElem? (i := 5) rfl)) (by decide) (a := b244) (W := 1) (rmBB l Z a0 hw b244 b241 h244 n0 (Nat.le_trans Z0 K244.1) A244 F_value_b244 F_coder_b244 gn_b244) e244 (by decide) (by decide) (by decide) (by decide) (fun _ _ => trivial) (g := (mkF m 28 #[.val (.int (own_of mm)), .val (.int (5 : Int32)), .val (.ref b241)] [(.int (0 : Int32)), (.ref b241), (.ref b244), (.ref b244)])) rfl (by rw [hml]; rfl) (argsL := [(.ref b241), (.int (0 : Int32))]) (rest := [(.ref b244)]) (lenOf pd_10 rfl) rfl (by show 2 * 0 + _ ≤ _; exact Nat.le_of_eq rfl) (hb hby d8_28) ?_
  intro v245 T245 L245 X245 hS hZ hown hV245 hQ245
  obtain ⟨rfl, Nq245, Kc245, fv245, fc245⟩ := hQ245
  have N245 := Fr.app N243 Nq245
  have K245 : Keep h0 T245.heap [] := K244.trans Kc245 (allS (Or.inr sz_b244) all0)
  show Run p e below s _ _ _ (T245.setTop (mkF m 31 #[.val (.int (own_of mm)), .val (.int (5 : Int32)), .val (.ref b241)] [(.ref b244)]))
  have f246 := (A244.keep Kc245)
  have f247 := ((vb243.ext E244).keep Kc245 (ninS (Nat.ne_of_lt (Nat.lt_of_lt_of_le vb243.lt (Nat.le_of_eq g244.symm))) nin0))
  exact Run.retA hS (Nat.le_refl _) X245 hx hret rfl rfl hlk (hb hby d8_31) ⟨b244, b241, k241, rfl, N245, K245, sz_b244, f246, fv245, fc245, f247⟩ (by decide) (by decide)
theorem own_good_5 {mm : Nat} (hm : mm < 2147483648) (lo : 10000 ≤ mm) (hi : mm < 100000) : own_good mm [(.int (nar .byte (own_of (48 + ((mm / 100) / 100) % 10)))), (.int (nar .byte (own_of (48 + ((mm / 100) % 100) / 10)))), (.int (nar .byte (own_of (48 + ((mm / 100) % 100) % 10)))), (.int (nar .byte (own_of (48 + (mm % 100) / 10)))), (.int (nar .byte (own_of (48 + (mm % 100) % 10))))] :=
  ⟨Or.inr ⟨by rw [own_dgt_5 lo hi]; decide, by rw [own_dgt_5 lo hi]; decide, by rw [own_dgt_5 lo hi]; decide, nar .byte (own_of (48 + (mm % 100) % 10)), by rw [own_dgt_5 lo hi]; rfl, own_heq hm (q := 1) rfl (by decide) (by decide) (by omega)⟩,
   Or.inr ⟨by rw [own_dgt_5 lo hi]; decide, by rw [own_dgt_5 lo hi]; decide, by rw [own_dgt_5 lo hi]; decide, nar .byte (own_of (48 + (mm % 100) / 10)), by rw [own_dgt_5 lo hi]; rfl, own_heq hm (q := 10) rfl (by decide) (by decide) (by omega)⟩,
   Or.inr ⟨by rw [own_dgt_5 lo hi]; decide, by rw [own_dgt_5 lo hi]; decide, by rw [own_dgt_5 lo hi]; decide, nar .byte (own_of (48 + ((mm / 100) % 100) % 10)), by rw [own_dgt_5 lo hi]; rfl, own_heq hm (q := 100) rfl (by decide) (by decide) (by omega)⟩,
   Or.inr ⟨by rw [own_dgt_5 lo hi]; decide, by rw [own_dgt_5 lo hi]; decide, by rw [own_dgt_5 lo hi]; decide, nar .byte (own_of (48 + ((mm / 100) % 100) / 10)), by rw [own_dgt_5 lo hi]; rfl, own_heq hm (q := 1000) rfl (by decide) (by decide) (by omega)⟩,
   Or.inr ⟨by rw [own_dgt_5 lo hi]; decide, by rw [own_dgt_5 lo hi]; decide, by rw [own_dgt_5 lo hi]; decide, nar .byte (own_of (48 + ((mm / 100) / 100) % 10)), by rw [own_dgt_5 lo hi]; rfl, own_heq hm (q := 10000) rfl (by decide) (by decide) (by omega)⟩,
   Or.inl (by rw [own_dgt_5 lo hi]; decide),
   Or.inl (by rw [own_dgt_5 lo hi]; decide),
   Or.inl (by rw [own_dgt_5 lo hi]; decide),
   Or.inl (by rw [own_dgt_5 lo hi]; decide),
   Or.inl (by rw [own_dgt_5 lo hi]; decide)⟩
set_option maxRecDepth 65536 in
set_option maxHeartbeats 40000000 in
theorem rmGC_6 (l : Launch) (Z : State) (a0 : Array Value) (hw : ∀ d ∈ tables_1, d.before a0 Z = true) (mm : Nat) (od : Addr) (ko : ClassId) (td : Addr) (kt : ClassId) (bf : Addr) (kb : ClassId) (h0 : Heap) (n0 : Nat) (Z0 : n0 ≤ h0.size) (OL : Old Z n0 h0) (hm : mm < 2147483648) (lo : 100000 ≤ mm) (hi : mm < 1000000) (SO : Sta Z Z.heap "java/lang/Integer" "DigitOnes" "[B" (.ref od)) (ST : Sta Z Z.heap "java/lang/Integer" "DigitTens" "[B" (.ref td)) (AO : Arv Z Z.heap od ko .byte 100 own_DO (.int 0)) (AT : Arv Z Z.heap td kt .byte 100 own_DT (.int 0)) (AB : Arv Z h0 bf kb .byte 6 [(.int (0 : Int32)), (.int (0 : Int32)), (.int (0 : Int32)), (.int (0 : Int32)), (.int (0 : Int32)), (.int (0 : Int32))] (.int 0)) (g_bf : n0 ≤ bf) :
    Con l (⟨"java/lang/Integer", "getChars", "(II[B)I"⟩ : MethodName) jdk_33_method_12_code 7 (some .int) ({ frames := 0, cells := 0, slots := 0, locals := 0 } : Room) Z #[(.int (own_of mm)), (.int (6 : Int32)), (.ref bf)] h0 (fun _ => True) (fun v h L vm => v = some (.int 0) ∧ Fr n0 L ∧ Keep h0 h [bf] ∧ Arv Z h bf kb .byte 6 [(.int (nar .byte (own_of (48 + ((mm / 100) / 100) / 10)))), (.int (nar .byte (own_of (48 + ((mm / 100) / 100) % 10)))), (.int (nar .byte (own_of (48 + ((mm / 100) % 100) / 10)))), (.int (nar .byte (own_of (48 + ((mm / 100) % 100) % 10)))), (.int (nar .byte (own_of (48 + (mm % 100) / 10)))), (.int (nar .byte (own_of (48 + (mm % 100) % 10))))] (.int 0)) := by
  refine Con.mk (plainFor_of_name pn_10) (fun m => show entryFrame m #[(.int (own_of mm)), (.int (6 : Int32)), (.ref bf)] 7 = mkF m 0 #[.val (.int (own_of mm)), .val (.int (6 : Int32)), .val (.ref bf), .unset, .unset, .unset, .unset] [] by first | (simp [entryFrame, mkF, argsToLocals, Value.category]; done) | rfl) ?_
  intro p e s m below meth c s₁ vm0 hx hby hml hown hnm hret hlk hZ X0 e0 hS hs0 hP0
  have N0 := Fr.nil n0
  refine Run.pre (fun _ k => XS.iloadN X0.here hx rfl (hb hby d10_0) rfl  k) ?_
  show Run p e below s _ _ _ (s₁.setTop (mkF m 1 #[.val (.int (own_of mm)), .val (.int (6 : Int32)), .val (.ref bf), .unset, .unset, .unset, .unset] [(.int (6 : Int32))]))
  refine Run.pre (fun _ k => XS.istore X0.here hx rfl (hb hby d10_1) rfl (l' := #[.val (.int (own_of mm)), .val (.int (6 : Int32)), .val (.ref bf), .unset, .unset, .val (.int (6 : Int32)), .unset]) rfl k) ?_
  refine Run.pre (fun _ k => XS.iloadN X0.here hx rfl (hb hby d10_3) rfl  k) ?_
  show Run p e below s _ _ _ (s₁.setTop (mkF m 4 #[.val (.int (own_of mm)), .val (.int (6 : Int32)), .val (.ref bf), .unset, .unset, .val (.int (6 : Int32)), .unset] [(.int (own_of mm))]))
  refine Run.pre (fun _ k => XS.ifYes X0.here hx rfl (pc0 := 4) (pc' := 11) rfl (hb hby d10_4) rfl ((if0 _ _).trans (flt ((own_nofl hm (by have e : ((0 : Int32)).toInt = 0 := (by decide); omega)) : ¬ ((own_of mm) < (0 : Int32)))).2.1) (by decide) (by decide) k) ?_
  refine Run.pre (fun _ k => XS.iconst X0.here hx rfl (hb hby d10_11) k) ?_
  show Run p e below s _ _ _ (s₁.setTop (mkF m 12 #[.val (.int (own_of mm)), .val (.int (6 : Int32)), .val (.ref bf), .unset, .unset, .val (.int (6 : Int32)), .unset] [(.int (0 : Int32))]))
  refine Run.pre (fun _ k => XS.istore X0.here hx rfl (hb hby d10_12) rfl (l' := #[.val (.int (own_of mm)), .val (.int (6 : Int32)), .val (.ref bf), .unset, .unset, .val (.int (6 : Int32)), .val (.int (0 : Int32))]) rfl k) ?_
  refine Run.pre (fun _ k => XS.iload X0.here hx rfl (hb hby d10_14) rfl  k) ?_
  show Run p e below s _ _ _ (s₁.setTop (mkF m 16 #[.val (.int (own_of mm)), .val (.int (6 : Int32)), .val (.ref bf), .unset, .unset, .val (.int (6 : Int32)), .val (.int (0 : Int32))] [(.int (0 : Int32))]))
  refine Run.pre (fun _ k => XS.ifNo X0.here hx rfl (hb hby d10_16) rfl ((if0 _ _).trans (teq ((by decide) : (0 : Int32) = (0 : Int32))).2) k) ?_
  refine Run.pre (fun _ k => XS.iloadN X0.here hx rfl (hb hby d10_19) rfl  k) ?_
  show Run p e below s _ _ _ (s₁.setTop (mkF m 20 #[.val (.int (own_of mm)), .val (.int (6 : Int32)), .val (.ref bf), .unset, .unset, .val (.int (6 : Int32)), .val (.int (0 : Int32))] [(.int (own_of mm))]))
  refine Run.pre (fun _ k => XS.ineg X0.here hx rfl (hb hby d10_20) rfl k) ?_
  show Run p e below s _ _ _ (s₁.setTop (mkF m 21 #[.val (.int (own_of mm)), .val (.int (6 : Int32)), .val (.ref bf), .unset, .unset, .val (.int (6 : Int32)), .val (.int (0 : Int32))] [(.int (-(own_of mm)))]))
  refine Run.pre (fun _ k => XS.istoreN X0.here hx rfl (hb hby d10_21) rfl (l' := #[.val (.int (-(own_of mm))), .val (.int (6 : Int32)), .val (.ref bf), .unset, .unset, .val (.int (6 : Int32)), .val (.int (0 : Int32))]) rfl k) ?_
  refine Run.pre (fun _ k => XS.iloadN X0.here hx rfl (hb hby d10_22) rfl  k) ?_
  refine Run.pre (fun _ k => XS.bipush X0.here hx rfl (hb hby d10_23) k) ?_
  show Run p e below s _ _ _ (s₁.setTop (mkF m 25 #[.val (.int (-(own_of mm))), .val (.int (6 : Int32)), .val (.ref bf), .unset, .unset, .val (.int (6 : Int32)), .val (.int (0 : Int32))] [(.int (-100 : Int32)), (.int (-(own_of mm)))]))
  refine Run.pre (fun _ k => XS.icmpNo X0.here hx rfl (hb hby d10_25) rfl (flt ((own_nltng (show mm < 2147483648 by omega) (by have e : ((-100 : Int32)).toInt = -100 := (by decide); omega)) : ¬ ((-100 : Int32) < (-(own_of mm))))).2.2.1 k) ?_
  refine Run.pre (fun _ k => XS.iloadN X0.here hx rfl (hb hby d10_28) rfl  k) ?_
  refine Run.pre (fun _ k => XS.bipush X0.here hx rfl (hb hby d10_29) k) ?_
  show Run p e below s _ _ _ (s₁.setTop (mkF m 31 #[.val (.int (-(own_of mm))), .val (.int (6 : Int32)), .val (.ref bf), .unset, .unset, .val (.int (6 : Int32)), .val (.int (0 : Int32))] [(.int (100 : Int32)), (.int (-(own_of mm)))]))
  refine Run.pre (fun _ k => XS.idiv X0.here hx rfl (hb hby d10_31) rfl (by decide) k) ?_
  show Run p e below s _ _ _ (s₁.setTop (mkF m 32 #[.val (.int (-(own_of mm))), .val (.int (6 : Int32)), .val (.ref bf), .unset, .unset, .val (.int (6 : Int32)), .val (.int (0 : Int32))] [(.int ((-(own_of mm)) / (100 : Int32)))]))
  refine Run.pre (fun _ k => XS.istoreN X0.here hx rfl (hb hby d10_32) rfl (l' := #[.val (.int (-(own_of mm))), .val (.int (6 : Int32)), .val (.ref bf), .val (.int ((-(own_of mm)) / (100 : Int32))), .unset, .val (.int (6 : Int32)), .val (.int (0 : Int32))]) rfl k) ?_
  refine Run.pre (fun _ k => XS.iloadN X0.here hx rfl (hb hby d10_33) rfl  k) ?_
  refine Run.pre (fun _ k => XS.bipush X0.here hx rfl (hb hby d10_34) k) ?_
  show Run p e below s _ _ _ (s₁.setTop (mkF m 36 #[.val (.int (-(own_of mm))), .val (.int (6 : Int32)), .val (.ref bf), .val (.int ((-(own_of mm)) / (100 : Int32))), .unset, .val (.int (6 : Int32)), .val (.int (0 : Int32))] [(.int (100 : Int32)), (.int ((-(own_of mm)) / (100 : Int32)))]))
  refine Run.pre (fun _ k => XS.imul X0.here hx rfl (hb hby d10_36) rfl k) ?_
  refine Run.pre (fun _ k => XS.iloadN X0.here hx rfl (hb hby d10_37) rfl  k) ?_
  show Run p e below s _ _ _ (s₁.setTop (mkF m 38 #[.val (.int (-(own_of mm))), .val (.int (6 : Int32)), .val (.ref bf), .val (.int ((-(own_of mm)) / (100 : Int32))), .unset, .val (.int (6 : Int32)), .val (.int (0 : Int32))] [(.int (-(own_of mm))), (.int (((-(own_of mm)) / (100 : Int32)) * (100 : Int32)))]))
  refine Run.pre (fun _ k => XS.isub X0.here hx rfl (hb hby d10_38) rfl k) ?_
  show Run p e below s _ _ _ (s₁.setTop (mkF m 39 #[.val (.int (-(own_of mm))), .val (.int (6 : Int32)), .val (.ref bf), .val (.int ((-(own_of mm)) / (100 : Int32))), .unset, .val (.int (6 : Int32)), .val (.int (0 : Int32))] [(.int ((((-(own_of mm)) / (100 : Int32)) * (100 : Int32)) - (-(own_of mm))))]))
  refine Run.pre (fun _ k => XS.istore X0.here hx rfl (hb hby d10_39) rfl (l' := #[.val (.int (-(own_of mm))), .val (.int (6 : Int32)), .val (.ref bf), .val (.int ((-(own_of mm)) / (100 : Int32))), .val (.int ((((-(own_of mm)) / (100 : Int32)) * (100 : Int32)) - (-(own_of mm)))), .val (.int (6 : Int32)), .val (.int (0 : Int32))]) rfl k) ?_
  refine Run.pre (fun _ k => XS.iloadN X0.here hx rfl (hb hby d10_41) rfl  k) ?_
  show Run p e below s _ _ _ (s₁.setTop (mkF m 42 #[.val (.int (-(own_of mm))), .val (.int (6 : Int32)), .val (.ref bf), .val (.int ((-(own_of mm)) / (100 : Int32))), .val (.int ((((-(own_of mm)) / (100 : Int32)) * (100 : Int32)) - (-(own_of mm)))), .val (.int (6 : Int32)), .val (.int (0 : Int32))] [(.int ((-(own_of mm)) / (100 : Int32)))]))
  refine Run.pre (fun _ k => XS.istoreN X0.here hx rfl (hb hby d10_42) rfl (l' := #[.val (.int ((-(own_of mm)) / (100 : Int32))), .val (.int (6 : Int32)), .val (.ref bf), .val (.int ((-(own_of mm)) / (100 : Int32))), .val (.int ((((-(own_of mm)) / (100 : Int32)) * (100 : Int32)) - (-(own_of mm)))), .val (.int (6 : Int32)), .val (.int (0 : Int32))]) rfl k) ?_
  show Run p e below s _ _ _ (s₁.setTop (mkF m 43 #[.val (.int ((-(own_of mm)) / (100 : Int32))), .val (.int (6 : Int32)), .val (.ref bf), .val (.int ((-(own_of mm)) / (100 : Int32))), .val (.int ((((-(own_of mm)) / (100 : Int32)) * (100 : Int32)) - (-(own_of mm)))), .val (.int (6 : Int32)), .val (.int (0 : Int32))] []))
  rw [own_div (show mm < 2147483648 by omega), own_rem (show mm < 2147483648 by omega)]
  refine Run.pre (fun _ k => XS.aloadN X0.here hx rfl (hb hby d10_43) rfl rfl k) ?_
  show Run p e below s _ _ _ (s₁.setTop (mkF m 44 #[.val (.int (-(own_of (mm / 100)))), .val (.int (6 : Int32)), .val (.ref bf), .val (.int (-(own_of (mm / 100)))), .val (.int (own_of (mm % 100))), .val (.int (6 : Int32)), .val (.int (0 : Int32))] [(.ref bf)]))
  refine Run.pre (fun _ k => XS.iinc X0.here hx rfl (hb hby d10_44) rfl (l' := #[.val (.int (-(own_of (mm / 100)))), .val (.int (6 : Int32)), .val (.ref bf), .val (.int (-(own_of (mm / 100)))), .val (.int (own_of (mm % 100))), .val (.int (5 : Int32)), .val (.int (0 : Int32))]) rfl k) ?_
  refine Run.pre (fun _ k => XS.iload X0.here hx rfl (hb hby d10_47) rfl  k) ?_
  show Run p e below s _ _ _ (s₁.setTop (mkF m 49 #[.val (.int (-(own_of (mm / 100)))), .val (.int (6 : Int32)), .val (.ref bf), .val (.int (-(own_of (mm / 100)))), .val (.int (own_of (mm % 100))), .val (.int (5 : Int32)), .val (.int (0 : Int32))] [(.int (5 : Int32)), (.ref bf)]))
  obtain ⟨T248, X248, e248, st248⟩ := getS2 X0 hx hZ hown (host := "") (Or.inl (hw _ (List.mem_of_getElem? (i := 57) rfl))) Via.refl e0 (SO.ext OL.2) (g := (mkF m 49 #[.val (.int (-(own_of (mm / 100)))), .val (.int (6 : Int32)), .val (.ref bf), .val (.int (-(own_of (mm / 100)))), .val (.int (own_of (mm % 100))), .val (.int (5 : Int32)), .val (.int (0 : Int32))] [(.int (5 : Int32)), (.ref bf)])) rfl (hb hby d10_49)
  refine Run.pre st248 ?_
  refine Run.pre (fun _ k => XS.iload X248.here hx rfl (hb hby d10_52) rfl  k) ?_
  show Run p e below s _ _ _ (T248.setTop (mkF m 54 #[.val (.int (-(own_of (mm / 100)))), .val (.int (6 : Int32)), .val (.ref bf), .val (.int (-(own_of (mm / 100)))), .val (.int (own_of (mm % 100))), .val (.int (5 : Int32)), .val (.int (0 : Int32))] [(.int (own_of (mm % 100))), (.ref od), (.int (5 : Int32)), (.ref bf)]))
  obtain ⟨c249, Ar249, -, S249, N249, H249, -⟩ := id (AO.ext OL.2)
  have hin249 : ¬ ((own_of (mm % 100)) < 0 ∨ c249.slots.size ≤ ((own_of (mm % 100))).toNatClampNeg) := inb_of S249 (own_in100 (show (mm % 100) < 100 by omega))
  refine Run.pre (X248.baloadBytes hx (j := (own_of (mm % 100))) (v := (.int (own_of (48 + (mm % 100) % 10)))) (by rw [e248]; exact Ar249.1) (State.isArrayOf_alike hZ.alike Ar249.2.1) Ar249.2.2 hin249 (H249.at hin249 (own_getO (show (mm % 100) < 100 by omega))) (g := (mkF m 54 #[.val (.int (-(own_of (mm / 100)))), .val (.int (6 : Int32)), .val (.ref bf), .val (.int (-(own_of (mm / 100)))), .val (.int (own_of (mm % 100))), .val (.int (5 : Int32)), .val (.int (0 : Int32))] [(.int (own_of (mm % 100))), (.ref od), (.int (5 : Int32)), (.ref bf)])) rfl rfl (hb hby d10_54)) ?_
  show Run p e below s _ _ _ (T248.setTop (mkF m 55 #[.val (.int (-(own_of (mm / 100)))), .val (.int (6 : Int32)), .val (.ref bf), .val (.int (-(own_of (mm / 100)))), .val (.int (own_of (mm % 100))), .val (.int (5 : Int32)), .val (.int (0 : Int32))] [(.int (own_of (48 + (mm % 100) % 10))), (.int (5 : Int32)), (.ref bf)]))
  obtain ⟨c250, Ar250, q250, S250, N250, H250, G250⟩ := id AB
  have hin250 : ¬ ((5 : Int32) < 0 ∨ c250.slots.size ≤ ((5 : Int32)).toNatClampNeg) := inb_of S250 ⟨by decide, by decide⟩
  obtain ⟨T251, h251, X251, e251, W251, st251⟩ := stB X248 hx hZ e248 Ar250 (j := (5 : Int32)) hin250 (g := (mkF m 55 #[.val (.int (-(own_of (mm / 100)))), .val (.int (6 : Int32)), .val (.ref bf), .val (.int (-(own_of (mm / 100)))), .val (.int (own_of (mm % 100))), .val (.int (5 : Int32)), .val (.int (0 : Int32))] [(.int (own_of (48 + (mm % 100) % 10))), (.int (5 : Int32)), (.ref bf)])) rfl rfl (hb hby d10_55)
  refine Run.pre st251 ?_
  have V_bf_251 : Arv Z h251 bf kb .byte (6 : Int32) [(.int (0 : Int32)), (.int (0 : Int32)), (.int (0 : Int32)), (.int (0 : Int32)), (.int (0 : Int32)), (.int (nar .byte (own_of (48 + (mm % 100) % 10))))] (.int (0 : Int32)) := Arv.set Ar250 q250 S250 N250 H250 G250 (fits_nar_byte _) W251 5 rfl (Nat.le_of_ble_eq_true rfl)
  have K251 : Keep h0 h251 [bf] := (Keep.refl h0 [bf]).wr W251 (Or.inl (by simp))
  have N251 := Fr.snoc X251 N0 g_bf
  refine Run.pre (fun _ k => XS.aloadN X251.here hx rfl (hb hby d10_56) rfl rfl k) ?_
  show Run p e below s _ _ _ (T251.setTop (mkF m 57 #[.val (.int (-(own_of (mm / 100)))), .val (.int (6 : Int32)), .val (.ref bf), .val (.int (-(own_of (mm / 100)))), .val (.int (own_of (mm % 100))), .val (.int (5 : Int32)), .val (.int (0 : Int32))] [(.ref bf)]))
  refine Run.pre (fun _ k => XS.iinc X251.here hx rfl (hb hby d10_57) rfl (l' := #[.val (.int (-(own_of (mm / 100)))), .val (.int (6 : Int32)), .val (.ref bf), .val (.int (-(own_of (mm / 100)))), .val (.int (own_of (mm % 100))), .val (.int (4 : Int32)), .val (.int (0 : Int32))]) rfl k) ?_
  refine Run.pre (fun _ k => XS.iload X251.here hx rfl (hb hby d10_60) rfl  k) ?_
  show Run p e below s _ _ _ (T251.setTop (mkF m 62 #[.val (.int (-(own_of (mm / 100)))), .val (.int (6 : Int32)), .val (.ref bf), .val (.int (-(own_of (mm / 100)))), .val (.int (own_of (mm % 100))), .val (.int (4 : Int32)), .val (.int (0 : Int32))] [(.int (4 : Int32)), (.ref bf)]))
  have f252 := (OL.wr W251 g_bf)
  obtain ⟨T253, X253, e253, st253⟩ := getS2 X251 hx hZ hown (host := "") (Or.inl (hw _ (List.mem_of_getElem? (i := 58) rfl))) Via.refl e251 (ST.ext f252.2) (g := (mkF m 62 #[.val (.int (-(own_of (mm / 100)))), .val (.int (6 : Int32)), .val (.ref bf), .val (.int (-(own_of (mm / 100)))), .val (.int (own_of (mm % 100))), .val (.int (4 : Int32)), .val (.int (0 : Int32))] [(.int (4 : Int32)), (.ref bf)])) rfl (hb hby d10_62)
  refine Run.pre st253 ?_
  refine Run.pre (fun _ k => XS.iload X253.here hx rfl (hb hby d10_65) rfl  k) ?_
  show Run p e below s _ _ _ (T253.setTop (mkF m 67 #[.val (.int (-(own_of (mm / 100)))), .val (.int (6 : Int32)), .val (.ref bf), .val (.int (-(own_of (mm / 100)))), .val (.int (own_of (mm % 100))), .val (.int (4 : Int32)), .val (.int (0 : Int32))] [(.int (own_of (mm % 100))), (.ref td), (.int (4 : Int32)), (.ref bf)]))
  obtain ⟨c254, Ar254, -, S254, N254, H254, -⟩ := id (AT.ext f252.2)
  have hin254 : ¬ ((own_of (mm % 100)) < 0 ∨ c254.slots.size ≤ ((own_of (mm % 100))).toNatClampNeg) := inb_of S254 (own_in100 (show (mm % 100) < 100 by omega))
  refine Run.pre (X253.baloadBytes hx (j := (own_of (mm % 100))) (v := (.int (own_of (48 + (mm % 100) / 10)))) (by rw [e253]; exact Ar254.1) (State.isArrayOf_alike hZ.alike Ar254.2.1) Ar254.2.2 hin254 (H254.at hin254 (own_getT (show (mm % 100) < 100 by omega))) (g := (mkF m 67 #[.val (.int (-(own_of (mm / 100)))), .val (.int (6 : Int32)), .val (.ref bf), .val (.int (-(own_of (mm / 100)))), .val (.int (own_of (mm % 100))), .val (.int (4 : Int32)), .val (.int (0 : Int32))] [(.int (own_of (mm % 100))), (.ref td), (.int (4 : Int32)), (.ref bf)])) rfl rfl (hb hby d10_67)) ?_
  show Run p e below s _ _ _ (T253.setTop (mkF m 68 #[.val (.int (-(own_of (mm / 100)))), .val (.int (6 : Int32)), .val (.ref bf), .val (.int (-(own_of (mm / 100)))), .val (.int (own_of (mm % 100))), .val (.int (4 : Int32)), .val (.int (0 : Int32))] [(.int (own_of (48 + (mm % 100) / 10))), (.int (4 : Int32)), (.ref bf)]))
  obtain ⟨c255, Ar255, q255, S255, N255, H255, G255⟩ := id V_bf_251
  have hin255 : ¬ ((4 : Int32) < 0 ∨ c255.slots.size ≤ ((4 : Int32)).toNatClampNeg) := inb_of S255 ⟨by decide, by decide⟩
  obtain ⟨T256, h256, X256, e256, W256, st256⟩ := stB X253 hx hZ e253 Ar255 (j := (4 : Int32)) hin255 (g := (mkF m 68 #[.val (.int (-(own_of (mm / 100)))), .val (.int (6 : Int32)), .val (.ref bf), .val (.int (-(own_of (mm / 100)))), .val (.int (own_of (mm % 100))), .val (.int (4 : Int32)), .val (.int (0 : Int32))] [(.int (own_of (48 + (mm % 100) / 10))), (.int (4 : Int32)), (.ref bf)])) rfl rfl (hb hby d10_68)
  refine Run.pre st256 ?_
  have V_bf_256 : Arv Z h256 bf kb .byte (6 : Int32) [(.int (0 : Int32)), (.int (0 : Int32)), (.int (0 : Int32)), (.int (0 : Int32)), (.int (nar .byte (own_of (48 + (mm % 100) / 10)))), (.int (nar .byte (own_of (48 + (mm % 100) % 10))))] (.int (0 : Int32)) := Arv.set Ar255 q255 S255 N255 H255 G255 (fits_nar_byte _) W256 4 rfl (Nat.le_of_ble_eq_true rfl)
  have K256 : Keep h0 h256 [bf] := K251.wr W256 (Or.inl (by simp))
  have N256 := Fr.snoc X256 N251 g_bf
  refine Run.pre (fun _ k => XS.goto X256.here hx rfl (pc0 := 69) (pc' := 22) rfl (hb hby d10_69) (by decide) (by decide) k) ?_
  refine Run.pre (fun _ k => XS.iloadN X256.here hx rfl (hb hby d10_22) rfl  k) ?_
  refine Run.pre (fun _ k => XS.bipush X256.here hx rfl (hb hby d10_23) k) ?_
  show Run p e below s _ _ _ (T256.setTop (mkF m 25 #[.val (.int (-(own_of (mm / 100)))), .val (.int (6 : Int32)), .val (.ref bf), .val (.int (-(own_of (mm / 100)))), .val (.int (own_of (mm % 100))), .val (.int (4 : Int32)), .val (.int (0 : Int32))] [(.int (-100 : Int32)), (.int (-(own_of (mm / 100))))]))
  refine Run.pre (fun _ k => XS.icmpNo X256.here hx rfl (hb hby d10_25) rfl (flt ((own_nltng (show (mm / 100) < 2147483648 by omega) (by have e : ((-100 : Int32)).toInt = -100 := (by decide); omega)) : ¬ ((-100 : Int32) < (-(own_of (mm / 100)))))).2.2.1 k) ?_
  refine Run.pre (fun _ k => XS.iloadN X256.here hx rfl (hb hby d10_28) rfl  k) ?_
  refine Run.pre (fun _ k => XS.bipush X256.here hx rfl (hb hby d10_29) k) ?_
  show Run p e below s _ _ _ (T256.setTop (mkF m 31 #[.val (.int (-(own_of (mm / 100)))), .val (.int (6 : Int32)), .val (.ref bf), .val (.int (-(own_of (mm / 100)))), .val (.int (own_of (mm % 100))), .val (.int (4 : Int32)), .val (.int (0 : Int32))] [(.int (100 : Int32)), (.int (-(own_of (mm / 100))))]))
  refine Run.pre (fun _ k => XS.idiv X256.here hx rfl (hb hby d10_31) rfl (by decide) k) ?_
  show Run p e below s _ _ _ (T256.setTop (mkF m 32 #[.val (.int (-(own_of (mm / 100)))), .val (.int (6 : Int32)), .val (.ref bf), .val (.int (-(own_of (mm / 100)))), .val (.int (own_of (mm % 100))), .val (.int (4 : Int32)), .val (.int (0 : Int32))] [(.int ((-(own_of (mm / 100))) / (100 : Int32)))]))
  refine Run.pre (fun _ k => XS.istoreN X256.here hx rfl (hb hby d10_32) rfl (l' := #[.val (.int (-(own_of (mm / 100)))), .val (.int (6 : Int32)), .val (.ref bf), .val (.int ((-(own_of (mm / 100))) / (100 : Int32))), .val (.int (own_of (mm % 100))), .val (.int (4 : Int32)), .val (.int (0 : Int32))]) rfl k) ?_
  refine Run.pre (fun _ k => XS.iloadN X256.here hx rfl (hb hby d10_33) rfl  k) ?_
  refine Run.pre (fun _ k => XS.bipush X256.here hx rfl (hb hby d10_34) k) ?_
  show Run p e below s _ _ _ (T256.setTop (mkF m 36 #[.val (.int (-(own_of (mm / 100)))), .val (.int (6 : Int32)), .val (.ref bf), .val (.int ((-(own_of (mm / 100))) / (100 : Int32))), .val (.int (own_of (mm % 100))), .val (.int (4 : Int32)), .val (.int (0 : Int32))] [(.int (100 : Int32)), (.int ((-(own_of (mm / 100))) / (100 : Int32)))]))
  refine Run.pre (fun _ k => XS.imul X256.here hx rfl (hb hby d10_36) rfl k) ?_
  refine Run.pre (fun _ k => XS.iloadN X256.here hx rfl (hb hby d10_37) rfl  k) ?_
  show Run p e below s _ _ _ (T256.setTop (mkF m 38 #[.val (.int (-(own_of (mm / 100)))), .val (.int (6 : Int32)), .val (.ref bf), .val (.int ((-(own_of (mm / 100))) / (100 : Int32))), .val (.int (own_of (mm % 100))), .val (.int (4 : Int32)), .val (.int (0 : Int32))] [(.int (-(own_of (mm / 100)))), (.int (((-(own_of (mm / 100))) / (100 : Int32)) * (100 : Int32)))]))
  refine Run.pre (fun _ k => XS.isub X256.here hx rfl (hb hby d10_38) rfl k) ?_
  show Run p e below s _ _ _ (T256.setTop (mkF m 39 #[.val (.int (-(own_of (mm / 100)))), .val (.int (6 : Int32)), .val (.ref bf), .val (.int ((-(own_of (mm / 100))) / (100 : Int32))), .val (.int (own_of (mm % 100))), .val (.int (4 : Int32)), .val (.int (0 : Int32))] [(.int ((((-(own_of (mm / 100))) / (100 : Int32)) * (100 : Int32)) - (-(own_of (mm / 100)))))]))
  refine Run.pre (fun _ k => XS.istore X256.here hx rfl (hb hby d10_39) rfl (l' := #[.val (.int (-(own_of (mm / 100)))), .val (.int (6 : Int32)), .val (.ref bf), .val (.int ((-(own_of (mm / 100))) / (100 : Int32))), .val (.int ((((-(own_of (mm / 100))) / (100 : Int32)) * (100 : Int32)) - (-(own_of (mm / 100))))), .val (.int (4 : Int32)), .val (.int (0 : Int32))]) rfl k) ?_
  refine Run.pre (fun _ k => XS.iloadN X256.here hx rfl (hb hby d10_41) rfl  k) ?_
  show Run p e below s _ _ _ (T256.setTop (mkF m 42 #[.val (.int (-(own_of (mm / 100)))), .val (.int (6 : Int32)), .val (.ref bf), .val (.int ((-(own_of (mm / 100))) / (100 : Int32))), .val (.int ((((-(own_of (mm / 100))) / (100 : Int32)) * (100 : Int32)) - (-(own_of (mm / 100))))), .val (.int (4 : Int32)), .val (.int (0 : Int32))] [(.int ((-(own_of (mm / 100))) / (100 : Int32)))]))
  refine Run.pre (fun _ k => XS.istoreN X256.here hx rfl (hb hby d10_42) rfl (l' := #[.val (.int ((-(own_of (mm / 100))) / (100 : Int32))), .val (.int (6 : Int32)), .val (.ref bf), .val (.int ((-(own_of (mm / 100))) / (100 : Int32))), .val (.int ((((-(own_of (mm / 100))) / (100 : Int32)) * (100 : Int32)) - (-(own_of (mm / 100))))), .val (.int (4 : Int32)), .val (.int (0 : Int32))]) rfl k) ?_
  show Run p e below s _ _ _ (T256.setTop (mkF m 43 #[.val (.int ((-(own_of (mm / 100))) / (100 : Int32))), .val (.int (6 : Int32)), .val (.ref bf), .val (.int ((-(own_of (mm / 100))) / (100 : Int32))), .val (.int ((((-(own_of (mm / 100))) / (100 : Int32)) * (100 : Int32)) - (-(own_of (mm / 100))))), .val (.int (4 : Int32)), .val (.int (0 : Int32))] []))
  rw [own_div (show (mm / 100) < 2147483648 by omega), own_rem (show (mm / 100) < 2147483648 by omega)]
  refine Run.pre (fun _ k => XS.aloadN X256.here hx rfl (hb hby d10_43) rfl rfl k) ?_
  show Run p e below s _ _ _ (T256.setTop (mkF m 44 #[.val (.int (-(own_of ((mm / 100) / 100)))), .val (.int (6 : Int32)), .val (.ref bf), .val (.int (-(own_of ((mm / 100) / 100)))), .val (.int (own_of ((mm / 100) % 100))), .val (.int (4 : Int32)), .val (.int (0 : Int32))] [(.ref bf)]))
  refine Run.pre (fun _ k => XS.iinc X256.here hx rfl (hb hby d10_44) rfl (l' := #[.val (.int (-(own_of ((mm / 100) / 100)))), .val (.int (6 : Int32)), .val (.ref bf), .val (.int (-(own_of ((mm / 100) / 100)))), .val (.int (own_of ((mm / 100) % 100))), .val (.int (3 : Int32)), .val (.int (0 : Int32))]) rfl k) ?_
  refine Run.pre (fun _ k => XS.iload X256.here hx rfl (hb hby d10_47) rfl  k) ?_
  show Run p e below s _ _ _ (T256.setTop (mkF m 49 #[.val (.int (-(own_of ((mm / 100) / 100)))), .val (.int (6 : Int32)), .val (.ref bf), .val (.int (-(own_of ((mm / 100) / 100)))), .val (.int (own_of ((mm / 100) % 100))), .val (.int (3 : Int32)), .val (.int (0 : Int32))] [(.int (3 : Int32)), (.ref bf)]))
  have f257 := (f252.wr W256 g_bf)
  obtain ⟨T258, X258, e258, st258⟩ := getS2 X256 hx hZ hown (host := "") (Or.inl (hw _ (List.mem_of_getElem? (i := 57) rfl))) Via.refl e256 (SO.ext f257.2) (g := (mkF m 49 #[.val (.int (-(own_of ((mm / 100) / 100)))), .val (.int (6 : Int32)), .val (.ref bf), .val (.int (-(own_of ((mm / 100) / 100)))), .val (.int (own_of ((mm / 100) % 100))), .val (.int (3 : Int32)), .val (.int (0 : Int32))] [(.int (3 : Int32)), (.ref bf)])) rfl (hb hby d10_49)
  refine Run.pre st258 ?_
  refine Run.pre (fun _ k => XS.iload X258.here hx rfl (hb hby d10_52) rfl  k) ?_
  show Run p e below s _ _ _ (T258.setTop (mkF m 54 #[.val (.int (-(own_of ((mm / 100) / 100)))), .val (.int (6 : Int32)), .val (.ref bf), .val (.int (-(own_of ((mm / 100) / 100)))), .val (.int (own_of ((mm / 100) % 100))), .val (.int (3 : Int32)), .val (.int (0 : Int32))] [(.int (own_of ((mm / 100) % 100))), (.ref od), (.int (3 : Int32)), (.ref bf)]))
  obtain ⟨c259, Ar259, -, S259, N259, H259, -⟩ := id (AO.ext f257.2)
  have hin259 : ¬ ((own_of ((mm / 100) % 100)) < 0 ∨ c259.slots.size ≤ ((own_of ((mm / 100) % 100))).toNatClampNeg) := inb_of S259 (own_in100 (show ((mm / 100) % 100) < 100 by omega))
  refine Run.pre (X258.baloadBytes hx (j := (own_of ((mm / 100) % 100))) (v := (.int (own_of (48 + ((mm / 100) % 100) % 10)))) (by rw [e258]; exact Ar259.1) (State.isArrayOf_alike hZ.alike Ar259.2.1) Ar259.2.2 hin259 (H259.at hin259 (own_getO (show ((mm / 100) % 100) < 100 by omega))) (g := (mkF m 54 #[.val (.int (-(own_of ((mm / 100) / 100)))), .val (.int (6 : Int32)), .val (.ref bf), .val (.int (-(own_of ((mm / 100) / 100)))), .val (.int (own_of ((mm / 100) % 100))), .val (.int (3 : Int32)), .val (.int (0 : Int32))] [(.int (own_of ((mm / 100) % 100))), (.ref od), (.int (3 : Int32)), (.ref bf)])) rfl rfl (hb hby d10_54)) ?_
  show Run p e below s _ _ _ (T258.setTop (mkF m 55 #[.val (.int (-(own_of ((mm / 100) / 100)))), .val (.int (6 : Int32)), .val (.ref bf), .val (.int (-(own_of ((mm / 100) / 100)))), .val (.int (own_of ((mm / 100) % 100))), .val (.int (3 : Int32)), .val (.int (0 : Int32))] [(.int (own_of (48 + ((mm / 100) % 100) % 10))), (.int (3 : Int32)), (.ref bf)]))
  obtain ⟨c260, Ar260, q260, S260, N260, H260, G260⟩ := id V_bf_256
  have hin260 : ¬ ((3 : Int32) < 0 ∨ c260.slots.size ≤ ((3 : Int32)).toNatClampNeg) := inb_of S260 ⟨by decide, by decide⟩
  obtain ⟨T261, h261, X261, e261, W261, st261⟩ := stB X258 hx hZ e258 Ar260 (j := (3 : Int32)) hin260 (g := (mkF m 55 #[.val (.int (-(own_of ((mm / 100) / 100)))), .val (.int (6 : Int32)), .val (.ref bf), .val (.int (-(own_of ((mm / 100) / 100)))), .val (.int (own_of ((mm / 100) % 100))), .val (.int (3 : Int32)), .val (.int (0 : Int32))] [(.int (own_of (48 + ((mm / 100) % 100) % 10))), (.int (3 : Int32)), (.ref bf)])) rfl rfl (hb hby d10_55)
  refine Run.pre st261 ?_
  have V_bf_261 : Arv Z h261 bf kb .byte (6 : Int32) [(.int (0 : Int32)), (.int (0 : Int32)), (.int (0 : Int32)), (.int (nar .byte (own_of (48 + ((mm / 100) % 100) % 10)))), (.int (nar .byte (own_of (48 + (mm % 100) / 10)))), (.int (nar .byte (own_of (48 + (mm % 100) % 10))))] (.int (0 : Int32)) := Arv.set Ar260 q260 S260 N260 H260 G260 (fits_nar_byte _) W261 3 rfl (Nat.le_of_ble_eq_true rfl)
  have K261 : Keep h0 h261 [bf] := K256.wr W261 (Or.inl (by simp))
  have N261 := Fr.snoc X261 N256 g_bf
  refine Run.pre (fun _ k => XS.aloadN X261.here hx rfl (hb hby d10_56) rfl rfl k) ?_
  show Run p e below s _ _ _ (T261.setTop (mkF m 57 #[.val (.int (-(own_of ((mm / 100) / 100)))), .val (.int (6 : Int32)), .val (.ref bf), .val (.int (-(own_of ((mm / 100) / 100)))), .val (.int (own_of ((mm / 100) % 100))), .val (.int (3 : Int32)), .val (.int (0 : Int32))] [(.ref bf)]))
  refine Run.pre (fun _ k => XS.iinc X261.here hx rfl (hb hby d10_57) rfl (l' := #[.val (.int (-(own_of ((mm / 100) / 100)))), .val (.int (6 : Int32)), .val (.ref bf), .val (.int (-(own_of ((mm / 100) / 100)))), .val (.int (own_of ((mm / 100) % 100))), .val (.int (2 : Int32)), .val (.int (0 : Int32))]) rfl k) ?_
  refine Run.pre (fun _ k => XS.iload X261.here hx rfl (hb hby d10_60) rfl  k) ?_
  show Run p e below s _ _ _ (T261.setTop (mkF m 62 #[.val (.int (-(own_of ((mm / 100) / 100)))), .val (.int (6 : Int32)), .val (.ref bf), .val (.int (-(own_of ((mm / 100) / 100)))), .val (.int (own_of ((mm / 100) % 100))), .val (.int (2 : Int32)), .val (.int (0 : Int32))] [(.int (2 : Int32)), (.ref bf)]))
  have f262 := (f257.wr W261 g_bf)
  obtain ⟨T263, X263, e263, st263⟩ := getS2 X261 hx hZ hown (host := "") (Or.inl (hw _ (List.mem_of_getElem? (i := 58) rfl))) Via.refl e261 (ST.ext f262.2) (g := (mkF m 62 #[.val (.int (-(own_of ((mm / 100) / 100)))), .val (.int (6 : Int32)), .val (.ref bf), .val (.int (-(own_of ((mm / 100) / 100)))), .val (.int (own_of ((mm / 100) % 100))), .val (.int (2 : Int32)), .val (.int (0 : Int32))] [(.int (2 : Int32)), (.ref bf)])) rfl (hb hby d10_62)
  refine Run.pre st263 ?_
  refine Run.pre (fun _ k => XS.iload X263.here hx rfl (hb hby d10_65) rfl  k) ?_
  show Run p e below s _ _ _ (T263.setTop (mkF m 67 #[.val (.int (-(own_of ((mm / 100) / 100)))), .val (.int (6 : Int32)), .val (.ref bf), .val (.int (-(own_of ((mm / 100) / 100)))), .val (.int (own_of ((mm / 100) % 100))), .val (.int (2 : Int32)), .val (.int (0 : Int32))] [(.int (own_of ((mm / 100) % 100))), (.ref td), (.int (2 : Int32)), (.ref bf)]))
  obtain ⟨c264, Ar264, -, S264, N264, H264, -⟩ := id (AT.ext f262.2)
  have hin264 : ¬ ((own_of ((mm / 100) % 100)) < 0 ∨ c264.slots.size ≤ ((own_of ((mm / 100) % 100))).toNatClampNeg) := inb_of S264 (own_in100 (show ((mm / 100) % 100) < 100 by omega))
  refine Run.pre (X263.baloadBytes hx (j := (own_of ((mm / 100) % 100))) (v := (.int (own_of (48 + ((mm / 100) % 100) / 10)))) (by rw [e263]; exact Ar264.1) (State.isArrayOf_alike hZ.alike Ar264.2.1) Ar264.2.2 hin264 (H264.at hin264 (own_getT (show ((mm / 100) % 100) < 100 by omega))) (g := (mkF m 67 #[.val (.int (-(own_of ((mm / 100) / 100)))), .val (.int (6 : Int32)), .val (.ref bf), .val (.int (-(own_of ((mm / 100) / 100)))), .val (.int (own_of ((mm / 100) % 100))), .val (.int (2 : Int32)), .val (.int (0 : Int32))] [(.int (own_of ((mm / 100) % 100))), (.ref td), (.int (2 : Int32)), (.ref bf)])) rfl rfl (hb hby d10_67)) ?_
  show Run p e below s _ _ _ (T263.setTop (mkF m 68 #[.val (.int (-(own_of ((mm / 100) / 100)))), .val (.int (6 : Int32)), .val (.ref bf), .val (.int (-(own_of ((mm / 100) / 100)))), .val (.int (own_of ((mm / 100) % 100))), .val (.int (2 : Int32)), .val (.int (0 : Int32))] [(.int (own_of (48 + ((mm / 100) % 100) / 10))), (.int (2 : Int32)), (.ref bf)]))
  obtain ⟨c265, Ar265, q265, S265, N265, H265, G265⟩ := id V_bf_261
  have hin265 : ¬ ((2 : Int32) < 0 ∨ c265.slots.size ≤ ((2 : Int32)).toNatClampNeg) := inb_of S265 ⟨by decide, by decide⟩
  obtain ⟨T266, h266, X266, e266, W266, st266⟩ := stB X263 hx hZ e263 Ar265 (j := (2 : Int32)) hin265 (g := (mkF m 68 #[.val (.int (-(own_of ((mm / 100) / 100)))), .val (.int (6 : Int32)), .val (.ref bf), .val (.int (-(own_of ((mm / 100) / 100)))), .val (.int (own_of ((mm / 100) % 100))), .val (.int (2 : Int32)), .val (.int (0 : Int32))] [(.int (own_of (48 + ((mm / 100) % 100) / 10))), (.int (2 : Int32)), (.ref bf)])) rfl rfl (hb hby d10_68)
  refine Run.pre st266 ?_
  have V_bf_266 : Arv Z h266 bf kb .byte (6 : Int32) [(.int (0 : Int32)), (.int (0 : Int32)), (.int (nar .byte (own_of (48 + ((mm / 100) % 100) / 10)))), (.int (nar .byte (own_of (48 + ((mm / 100) % 100) % 10)))), (.int (nar .byte (own_of (48 + (mm % 100) / 10)))), (.int (nar .byte (own_of (48 + (mm % 100) % 10))))] (.int (0 : Int32)) := Arv.set Ar265 q265 S265 N265 H265 G265 (fits_nar_byte _) W266 2 rfl (Nat.le_of_ble_eq_true rfl)
  have K266 : Keep h0 h266 [bf] := K261.wr W266 (Or.inl (by simp))
  have N266 := Fr.snoc X266 N261 g_bf
  refine Run.pre (fun _ k => XS.goto X266.here hx rfl (pc0 := 69) (pc' := 22) rfl (hb hby d10_69) (by decide) (by decide) k) ?_
  refine Run.pre (fun _ k => XS.iloadN X266.here hx rfl (hb hby d10_22) rfl  k) ?_
  refine Run.pre (fun _ k => XS.bipush X266.here hx rfl (hb hby d10_23) k) ?_
  show Run p e below s _ _ _ (T266.setTop (mkF m 25 #[.val (.int (-(own_of ((mm / 100) / 100)))), .val (.int (6 : Int32)), .val (.ref bf), .val (.int (-(own_of ((mm / 100) / 100)))), .val (.int (own_of ((mm / 100) % 100))), .val (.int (2 : Int32)), .val (.int (0 : Int32))] [(.int (-100 : Int32)), (.int (-(own_of ((mm / 100) / 100))))]))
  refine Run.pre (fun _ k => XS.icmpYes X266.here hx rfl (pc0 := 25) (pc' := 72) rfl (hb hby d10_25) rfl (tlt ((own_ltng (show ((mm / 100) / 100) < 2147483648 by omega) (by have e : ((-100 : Int32)).toInt = -100 := (by decide); omega)) : (-100 : Int32) < (-(own_of ((mm / 100) / 100))))).2.2.1 (by decide) (by decide) k) ?_
  refine Run.pre (fun _ k => XS.aloadN X266.here hx rfl (hb hby d10_72) rfl rfl k) ?_
  show Run p e below s _ _ _ (T266.setTop (mkF m 73 #[.val (.int (-(own_of ((mm / 100) / 100)))), .val (.int (6 : Int32)), .val (.ref bf), .val (.int (-(own_of ((mm / 100) / 100)))), .val (.int (own_of ((mm / 100) % 100))), .val (.int (2 : Int32)), .val (.int (0 : Int32))] [(.ref bf)]))
  refine Run.pre (fun _ k => XS.iinc X266.here hx rfl (hb hby d10_73) rfl (l' := #[.val (.int (-(own_of ((mm / 100) / 100)))), .val (.int (6 : Int32)), .val (.ref bf), .val (.int (-(own_of ((mm / 100) / 100)))), .val (.int (own_of ((mm / 100) % 100))), .val (.int (1 : Int32)), .val (.int (0 : Int32))]) rfl k) ?_
  refine Run.pre (fun _ k => XS.iload X266.here hx rfl (hb hby d10_76) rfl  k) ?_
  show Run p e below s _ _ _ (T266.setTop (mkF m 78 #[.val (.int (-(own_of ((mm / 100) / 100)))), .val (.int (6 : Int32)), .val (.ref bf), .val (.int (-(own_of ((mm / 100) / 100)))), .val (.int (own_of ((mm / 100) % 100))), .val (.int (1 : Int32)), .val (.int (0 : Int32))] [(.int (1 : Int32)), (.ref bf)]))
  have f267 := (f262.wr W266 g_bf)
  obtain ⟨T268, X268, e268, st268⟩ := getS2 X266 hx hZ hown (host := "") (Or.inl (hw _ (List.mem_of_getElem? (i := 57) rfl))) Via.refl e266 (SO.ext f267.2) (g := (mkF m 78 #[.val (.int (-(own_of ((mm / 100) / 100)))), .val (.int (6 : Int32)), .val (.ref bf), .val (.int (-(own_of ((mm / 100) / 100)))), .val (.int (own_of ((mm / 100) % 100))), .val (.int (1 : Int32)), .val (.int (0 : Int32))] [(.int (1 : Int32)), (.ref bf)])) rfl (hb hby d10_78)
  refine Run.pre st268 ?_
  refine Run.pre (fun _ k => XS.iloadN X268.here hx rfl (hb hby d10_81) rfl  k) ?_
  show Run p e below s _ _ _ (T268.setTop (mkF m 82 #[.val (.int (-(own_of ((mm / 100) / 100)))), .val (.int (6 : Int32)), .val (.ref bf), .val (.int (-(own_of ((mm / 100) / 100)))), .val (.int (own_of ((mm / 100) % 100))), .val (.int (1 : Int32)), .val (.int (0 : Int32))] [(.int (-(own_of ((mm / 100) / 100)))), (.ref od), (.int (1 : Int32)), (.ref bf)]))
  refine Run.pre (fun _ k => XS.ineg X268.here hx rfl (hb hby d10_82) rfl k) ?_
  show Run p e below s _ _ _ (T268.setTop (mkF m 83 #[.val (.int (-(own_of ((mm / 100) / 100)))), .val (.int (6 : Int32)), .val (.ref bf), .val (.int (-(own_of ((mm / 100) / 100)))), .val (.int (own_of ((mm / 100) % 100))), .val (.int (1 : Int32)), .val (.int (0 : Int32))] [(.int (-(-(own_of ((mm / 100) / 100))))), (.ref od), (.int (1 : Int32)), (.ref bf)]))
  obtain ⟨c269, Ar269, -, S269, N269, H269, -⟩ := id (AO.ext f267.2)
  have hin269 : ¬ ((-(-(own_of ((mm / 100) / 100)))) < 0 ∨ c269.slots.size ≤ ((-(-(own_of ((mm / 100) / 100))))).toNatClampNeg) := inb_of S269 (by rw [Int32.neg_neg]; exact own_in100 (show ((mm / 100) / 100) < 100 by omega))
  refine Run.pre (X268.baloadBytes hx (j := (-(-(own_of ((mm / 100) / 100))))) (v := (.int (own_of (48 + ((mm / 100) / 100) % 10)))) (by rw [e268]; exact Ar269.1) (State.isArrayOf_alike hZ.alike Ar269.2.1) Ar269.2.2 hin269 (H269.at hin269 (by rw [Int32.neg_neg]; exact own_getO (show ((mm / 100) / 100) < 100 by omega))) (g := (mkF m 83 #[.val (.int (-(own_of ((mm / 100) / 100)))), .val (.int (6 : Int32)), .val (.ref bf), .val (.int (-(own_of ((mm / 100) / 100)))), .val (.int (own_of ((mm / 100) % 100))), .val (.int (1 : Int32)), .val (.int (0 : Int32))] [(.int (-(-(own_of ((mm / 100) / 100))))), (.ref od), (.int (1 : Int32)), (.ref bf)])) rfl rfl (hb hby d10_83)) ?_
  show Run p e below s _ _ _ (T268.setTop (mkF m 84 #[.val (.int (-(own_of ((mm / 100) / 100)))), .val (.int (6 : Int32)), .val (.ref bf), .val (.int (-(own_of ((mm / 100) / 100)))), .val (.int (own_of ((mm / 100) % 100))), .val (.int (1 : Int32)), .val (.int (0 : Int32))] [(.int (own_of (48 + ((mm / 100) / 100) % 10))), (.int (1 : Int32)), (.ref bf)]))
  obtain ⟨c270, Ar270, q270, S270, N270, H270, G270⟩ := id V_bf_266
  have hin270 : ¬ ((1 : Int32) < 0 ∨ c270.slots.size ≤ ((1 : Int32)).toNatClampNeg) := inb_of S270 ⟨by decide, by decide⟩
  obtain ⟨T271, h271, X271, e271, W271, st271⟩ := stB X268 hx hZ e268 Ar270 (j := (1 : Int32)) hin270 (g := (mkF m 84 #[.val (.int (-(own_of ((mm / 100) / 100)))), .val (.int (6 : Int32)), .val (.ref bf), .val (.int (-(own_of ((mm / 100) / 100)))), .val (.int (own_of ((mm / 100) % 100))), .val (.int (1 : Int32)), .val (.int (0 : Int32))] [(.int (own_of (48 + ((mm / 100) / 100) % 10))), (.int (1 : Int32)), (.ref bf)])) rfl rfl (hb hby d10_84)
  refine Run.pre st271 ?_
  have V_bf_271 : Arv Z h271 bf kb .byte (6 : Int32) [(.int (0 : Int32)), (.int (nar .byte (own_of (48 + ((mm / 100) / 100) % 10)))), (.int (nar .byte (own_of (48 + ((mm / 100) % 100) / 10)))), (.int (nar .byte (own_of (48 + ((mm / 100) % 100) % 10)))), (.int (nar .byte (own_of (48 + (mm % 100) / 10)))), (.int (nar .byte (own_of (48 + (mm % 100) % 10))))] (.int (0 : Int32)) := Arv.set Ar270 q270 S270 N270 H270 G270 (fits_nar_byte _) W271 1 rfl (Nat.le_of_ble_eq_true rfl)
  have K271 : Keep h0 h271 [bf] := K266.wr W271 (Or.inl (by simp))
  have N271 := Fr.snoc X271 N266 g_bf
  refine Run.pre (fun _ k => XS.iloadN X271.here hx rfl (hb hby d10_85) rfl  k) ?_
  refine Run.pre (fun _ k => XS.bipush X271.here hx rfl (hb hby d10_86) k) ?_
  show Run p e below s _ _ _ (T271.setTop (mkF m 88 #[.val (.int (-(own_of ((mm / 100) / 100)))), .val (.int (6 : Int32)), .val (.ref bf), .val (.int (-(own_of ((mm / 100) / 100)))), .val (.int (own_of ((mm / 100) % 100))), .val (.int (1 : Int32)), .val (.int (0 : Int32))] [(.int (-9 : Int32)), (.int (-(own_of ((mm / 100) / 100))))]))
  refine Run.pre (fun _ k => XS.icmpNo X271.here hx rfl (hb hby d10_88) rfl (tlt ((own_nglt (show ((mm / 100) / 100) < 2147483648 by omega) (by have e : ((-9 : Int32)).toInt = -9 := (by decide); omega)) : (-(own_of ((mm / 100) / 100))) < (-9 : Int32))).2.1 k) ?_
  refine Run.pre (fun _ k => XS.aloadN X271.here hx rfl (hb hby d10_91) rfl rfl k) ?_
  show Run p e below s _ _ _ (T271.setTop (mkF m 92 #[.val (.int (-(own_of ((mm / 100) / 100)))), .val (.int (6 : Int32)), .val (.ref bf), .val (.int (-(own_of ((mm / 100) / 100)))), .val (.int (own_of ((mm / 100) % 100))), .val (.int (1 : Int32)), .val (.int (0 : Int32))] [(.ref bf)]))
  refine Run.pre (fun _ k => XS.iinc X271.here hx rfl (hb hby d10_92) rfl (l' := #[.val (.int (-(own_of ((mm / 100) / 100)))), .val (.int (6 : Int32)), .val (.ref bf), .val (.int (-(own_of ((mm / 100) / 100)))), .val (.int (own_of ((mm / 100) % 100))), .val (.int (0 : Int32)), .val (.int (0 : Int32))]) rfl k) ?_
  refine Run.pre (fun _ k => XS.iload X271.here hx rfl (hb hby d10_95) rfl  k) ?_
  show Run p e below s _ _ _ (T271.setTop (mkF m 97 #[.val (.int (-(own_of ((mm / 100) / 100)))), .val (.int (6 : Int32)), .val (.ref bf), .val (.int (-(own_of ((mm / 100) / 100)))), .val (.int (own_of ((mm / 100) % 100))), .val (.int (0 : Int32)), .val (.int (0 : Int32))] [(.int (0 : Int32)), (.ref bf)]))
  have f272 := (f267.wr W271 g_bf)
  obtain ⟨T273, X273, e273, st273⟩ := getS2 X271 hx hZ hown (host := "") (Or.inl (hw _ (List.mem_of_getElem? (i := 58) rfl))) Via.refl e271 (ST.ext f272.2) (g := (mkF m 97 #[.val (.int (-(own_of ((mm / 100) / 100)))), .val (.int (6 : Int32)), .val (.ref bf), .val (.int (-(own_of ((mm / 100) / 100)))), .val (.int (own_of ((mm / 100) % 100))), .val (.int (0 : Int32)), .val (.int (0 : Int32))] [(.int (0 : Int32)), (.ref bf)])) rfl (hb hby d10_97)
  refine Run.pre st273 ?_
  refine Run.pre (fun _ k => XS.iloadN X273.here hx rfl (hb hby d10_100) rfl  k) ?_
  show Run p e below s _ _ _ (T273.setTop (mkF m 101 #[.val (.int (-(own_of ((mm / 100) / 100)))), .val (.int (6 : Int32)), .val (.ref bf), .val (.int (-(own_of ((mm / 100) / 100)))), .val (.int (own_of ((mm / 100) % 100))), .val (.int (0 : Int32)), .val (.int (0 : Int32))] [(.int (-(own_of ((mm / 100) / 100)))), (.ref td), (.int (0 : Int32)), (.ref bf)]))
  refine Run.pre (fun _ k => XS.ineg X273.here hx rfl (hb hby d10_101) rfl k) ?_
  show Run p e below s _ _ _ (T273.setTop (mkF m 102 #[.val (.int (-(own_of ((mm / 100) / 100)))), .val (.int (6 : Int32)), .val (.ref bf), .val (.int (-(own_of ((mm / 100) / 100)))), .val (.int (own_of ((mm / 100) % 100))), .val (.int (0 : Int32)), .val (.int (0 : Int32))] [(.int (-(-(own_of ((mm / 100) / 100))))), (.ref td), (.int (0 : Int32)), (.ref bf)]))
  obtain ⟨c274, Ar274, -, S274, N274, H274, -⟩ := id (AT.ext f272.2)
  have hin274 : ¬ ((-(-(own_of ((mm / 100) / 100)))) < 0 ∨ c274.slots.size ≤ ((-(-(own_of ((mm / 100) / 100))))).toNatClampNeg) := inb_of S274 (by rw [Int32.neg_neg]; exact own_in100 (show ((mm / 100) / 100) < 100 by omega))
  refine Run.pre (X273.baloadBytes hx (j := (-(-(own_of ((mm / 100) / 100))))) (v := (.int (own_of (48 + ((mm / 100) / 100) / 10)))) (by rw [e273]; exact Ar274.1) (State.isArrayOf_alike hZ.alike Ar274.2.1) Ar274.2.2 hin274 (H274.at hin274 (by rw [Int32.neg_neg]; exact own_getT (show ((mm / 100) / 100) < 100 by omega))) (g := (mkF m 102 #[.val (.int (-(own_of ((mm / 100) / 100)))), .val (.int (6 : Int32)), .val (.ref bf), .val (.int (-(own_of ((mm / 100) / 100)))), .val (.int (own_of ((mm / 100) % 100))), .val (.int (0 : Int32)), .val (.int (0 : Int32))] [(.int (-(-(own_of ((mm / 100) / 100))))), (.ref td), (.int (0 : Int32)), (.ref bf)])) rfl rfl (hb hby d10_102)) ?_
  show Run p e below s _ _ _ (T273.setTop (mkF m 103 #[.val (.int (-(own_of ((mm / 100) / 100)))), .val (.int (6 : Int32)), .val (.ref bf), .val (.int (-(own_of ((mm / 100) / 100)))), .val (.int (own_of ((mm / 100) % 100))), .val (.int (0 : Int32)), .val (.int (0 : Int32))] [(.int (own_of (48 + ((mm / 100) / 100) / 10))), (.int (0 : Int32)), (.ref bf)]))
  obtain ⟨c275, Ar275, q275, S275, N275, H275, G275⟩ := id V_bf_271
  have hin275 : ¬ ((0 : Int32) < 0 ∨ c275.slots.size ≤ ((0 : Int32)).toNatClampNeg) := inb_of S275 ⟨by decide, by decide⟩
  obtain ⟨T276, h276, X276, e276, W276, st276⟩ := stB X273 hx hZ e273 Ar275 (j := (0 : Int32)) hin275 (g := (mkF m 103 #[.val (.int (-(own_of ((mm / 100) / 100)))), .val (.int (6 : Int32)), .val (.ref bf), .val (.int (-(own_of ((mm / 100) / 100)))), .val (.int (own_of ((mm / 100) % 100))), .val (.int (0 : Int32)), .val (.int (0 : Int32))] [(.int (own_of (48 + ((mm / 100) / 100) / 10))), (.int (0 : Int32)), (.ref bf)])) rfl rfl (hb hby d10_103)
  refine Run.pre st276 ?_
  have V_bf_276 : Arv Z h276 bf kb .byte (6 : Int32) [(.int (nar .byte (own_of (48 + ((mm / 100) / 100) / 10)))), (.int (nar .byte (own_of (48 + ((mm / 100) / 100) % 10)))), (.int (nar .byte (own_of (48 + ((mm / 100) % 100) / 10)))), (.int (nar .byte (own_of (48 + ((mm / 100) % 100) % 10)))), (.int (nar .byte (own_of (48 + (mm % 100) / 10)))), (.int (nar .byte (own_of (48 + (mm % 100) % 10))))] (.int (0 : Int32)) := Arv.set Ar275 q275 S275 N275 H275 G275 (fits_nar_byte _) W276 0 rfl (Nat.le_of_ble_eq_true rfl)
  have K276 : Keep h0 h276 [bf] := K271.wr W276 (Or.inl (by simp))
  have N276 := Fr.snoc X276 N271 g_bf
  refine Run.pre (fun _ k => XS.iload X276.here hx rfl (hb hby d10_104) rfl  k) ?_
  show Run p e below s _ _ _ (T276.setTop (mkF m 106 #[.val (.int (-(own_of ((mm / 100) / 100)))), .val (.int (6 : Int32)), .val (.ref bf), .val (.int (-(own_of ((mm / 100) / 100)))), .val (.int (own_of ((mm / 100) % 100))), .val (.int (0 : Int32)), .val (.int (0 : Int32))] [(.int (0 : Int32))]))
  refine Run.pre (fun _ k => XS.ifYes X276.here hx rfl (pc0 := 106) (pc' := 118) rfl (hb hby d10_106) rfl ((if0 _ _).trans (teq ((by decide) : (0 : Int32) = (0 : Int32))).1) (by decide) (by decide) k) ?_
  refine Run.pre (fun _ k => XS.iload X276.here hx rfl (hb hby d10_118) rfl  k) ?_
  show Run p e below s _ _ _ (T276.setTop (mkF m 120 #[.val (.int (-(own_of ((mm / 100) / 100)))), .val (.int (6 : Int32)), .val (.ref bf), .val (.int (-(own_of ((mm / 100) / 100)))), .val (.int (own_of ((mm / 100) % 100))), .val (.int (0 : Int32)), .val (.int (0 : Int32))] [(.int (0 : Int32))]))
  exact Run.retI hS (by first | exact Nat.le_refl _ | (rw [e276]; exact (Nat.le_trans (Nat.le_trans (Nat.le_trans (Nat.le_trans (Nat.le_trans (Nat.le_trans (Nat.zero_le _) (Keep.of_wr W251).1) (Keep.of_wr W256).1) (Keep.of_wr W261).1) (Keep.of_wr W266).1) (Keep.of_wr W271).1) (Keep.of_wr W276).1))) X276 hx hret hlk (hb hby d10_120) (by first | (rw [e276]; exact ⟨rfl, N276, K276, V_bf_276⟩) | exact ⟨rfl, N276, K276, V_bf_276⟩) (by decide) (by decide)
set_option maxRecDepth 65536 in
set_option maxHeartbeats 40000000 in
theorem rmTS_6 (l : Launch) (Z : State) (a0 : Array Value) (hw : ∀ d ∈ tables_1, d.before a0 Z = true) (mm : Nat) (cs : Int32) (od : Addr) (ko : ClassId) (td : Addr) (kt : ClassId) (h0 : Heap) (n0 : Nat) (Z0 : n0 ≤ h0.size) (OL : Old Z n0 h0) (hm : mm < 2147483648) (lo : 100000 ≤ mm) (hi : mm < 1000000) (SC : Sta Z Z.heap "java/lang/String" "COMPACT_STRINGS" "Z" (.int cs)) (hcs : ¬ cs = 0) (SO : Sta Z Z.heap "java/lang/Integer" "DigitOnes" "[B" (.ref od)) (ST : Sta Z Z.heap "java/lang/Integer" "DigitTens" "[B" (.ref td)) (AO : Arv Z Z.heap od ko .byte 100 own_DO (.int 0)) (AT : Arv Z Z.heap td kt .byte 100 own_DT (.int 0)) :
    Con l (⟨"java/lang/Integer", "toString", "(I)Ljava/lang/String;"⟩ : MethodName) jdk_33_method_10_code 3 (some (.object "java/lang/String")) ({ frames := 2, cells := 2, slots := 10, locals := 27 } : Room) Z #[(.int (own_of mm))] h0 (fun _ => True) (fun v h L vm => ∃ o : Addr, ∃ b : Addr, ∃ k : ClassId, v = some (.ref o) ∧ Fr n0 L ∧ Keep h0 h [] ∧ h0.size ≤ o ∧ Exa Z h o "java/lang/String" ∧ Fld Z h o "java/lang/String" "value" "[B" (.ref b) ∧ Fld Z h o "java/lang/String" "coder" "B" (.int 0) ∧ Arv Z h b k .byte 6 [(.int (nar .byte (own_of (48 + ((mm / 100) / 100) / 10)))), (.int (nar .byte (own_of (48 + ((mm / 100) / 100) % 10)))), (.int (nar .byte (own_of (48 + ((mm / 100) % 100) / 10)))), (.int (nar .byte (own_of (48 + ((mm / 100) % 100) % 10)))), (.int (nar .byte (own_of (48 + (mm % 100) / 10)))), (.int (nar .byte (own_of (48 + (mm % 100) % 10))))] (.int 0)) := by
  refine Con.mk (plainFor_of_name pn_8) (fun m => show entryFrame m #[(.int (own_of mm))] 3 = mkF m 0 #[.val (.int (own_of mm)), .unset, .unset] [] by first | (simp [entryFrame, mkF, argsToLocals, Value.category]; done) | rfl) ?_
  intro p e s m below meth c s₁ vm0 hx hby hml hown hnm hret hlk hZ X0 e0 hS hs0 hP0
  have N0 := Fr.nil n0
  refine Run.pre (fun _ k => XS.iloadN X0.here hx rfl (hb hby d8_0) rfl  k) ?_
  show Run p e below s _ _ _ (s₁.setTop (mkF m 1 #[.val (.int (own_of mm)), .unset, .unset] [(.int (own_of mm))]))
  refine Run.callS hS (by first | exact Nat.le_refl _ | (rw [e0]; exact (Nat.zero_le _))) X0 hx hZ (y := (⟨"java/lang/Integer", "stringSize", "(I)I"⟩ : MethodName)) hown (hw _ (List.mem_of_getElem? (i := 50) rfl)) (hw _ (List.mem_of_getElem? (i := 51) rfl)) (hw _ (List.mem_of_getElem? (i := 21) rfl)) (hw _ (List.mem_of_getElem? (i := 52) rfl)) (by decide) (W := 0) (rmSS l Z a0 hw mm h0 n0 (Nat.le_trans Z0 (Keep.refl h0 []).1) hm) e0 (by decide) (by decide) (by decide) (by decide) (fun _ _ => trivial) (g := (mkF m 1 #[.val (.int (own_of mm)), .unset, .unset] [(.int (own_of mm))])) rfl (by rw [hml]; rfl) (argsL := [(.int (own_of mm))]) (rest := []) (lenOf pd_8 rfl) rfl (by show 2 * 0 + _ ≤ _; exact Nat.le_of_eq rfl) (hb hby d8_1) ?_
  intro v277 T277 L277 X277 hS hZ hown hV277 hQ277
  obtain ⟨rfl, Nq277, he277⟩ := hQ277
  have N277 := Fr.app N0 Nq277
  have e277 : T277.heap = h0 := he277
  rw [own_dgt_6 lo hi]
  show Run p e below s _ _ _ (T277.setTop (mkF m 4 #[.val (.int (own_of mm)), .unset, .unset] [(.int (6 : Int32))]))
  refine Run.pre (fun _ k => XS.istoreN X277.here hx rfl (hb hby d8_4) rfl (l' := #[.val (.int (own_of mm)), .val (.int (6 : Int32)), .unset]) rfl k) ?_
  show Run p e below s _ _ _ (T277.setTop (mkF m 5 #[.val (.int (own_of mm)), .val (.int (6 : Int32)), .unset] []))
  obtain ⟨T278, X278, e278, st278⟩ := getS2 X277 hx hZ hown (host := "") (Or.inl (hw _ (List.mem_of_getElem? (i := 53) rfl))) Via.refl e277 (SC.ext OL.2) (g := (mkF m 5 #[.val (.int (own_of mm)), .val (.int (6 : Int32)), .unset] [])) rfl (hb hby d8_5)
  refine Run.pre st278 ?_
  show Run p e below s _ _ _ (T278.setTop (mkF m 8 #[.val (.int (own_of mm)), .val (.int (6 : Int32)), .unset] [(.int cs)]))
  refine Run.pre (fun _ k => XS.ifNo X278.here hx rfl (hb hby d8_8) rfl ((if0 _ _).trans (feq (hcs : ¬ (cs = (0 : Int32)))).1) k) ?_
  refine Run.pre (fun _ k => XS.iloadN X278.here hx rfl (hb hby d8_11) rfl  k) ?_
  show Run p e below s _ _ _ (T278.setTop (mkF m 12 #[.val (.int (own_of mm)), .val (.int (6 : Int32)), .unset] [(.int (6 : Int32))]))
  obtain ⟨T279, h279, k279, X279, e279, E279, A279, st279⟩ := newP X278 hx hZ (hw _ (List.mem_of_getElem? (i := 7) rfl)) e278 (g := (mkF m 12 #[.val (.int (own_of mm)), .val (.int (6 : Int32)), .unset] [(.int (6 : Int32))])) rfl (hb hby d8_12) rfl (by decide) (cap := 6) (by decide) (by decide) (by decide) (by decide)
  obtain ⟨b279, g279⟩ : ∃ z, z = h0.size := ⟨_, rfl⟩
  rw [← g279] at A279 st279
  refine Run.pre st279 ?_
  have V_b279 : Arv Z h279 b279 k279 .byte (6 : Int32) [(.int (0 : Int32)), (.int (0 : Int32)), (.int (0 : Int32)), (.int (0 : Int32)), (.int (0 : Int32)), (.int (0 : Int32))] (.int (0 : Int32)) := (Arv.new A279 (by decide)).pad (pad_rep [] (.int (0 : Int32)) 6)
  have gn_b279 : n0 ≤ b279 := Nat.le_trans (Nat.le_trans Z0 (Keep.refl h0 []).1) (Nat.le_of_eq g279.symm)
  have sz_b279 : h0.size ≤ b279 := Nat.le_trans (Keep.refl h0 []).1 (Nat.le_of_eq g279.symm)
  have K279 : Keep h0 h279 [] := (Keep.refl h0 []).ext E279
  show Run p e below s _ _ _ (T279.setTop (mkF m 14 #[.val (.int (own_of mm)), .val (.int (6 : Int32)), .unset] [(.ref b279)]))
  refine Run.pre (fun _ k => XS.astoreN X279.here hx rfl (hb hby d8_14) rfl rfl (l' := #[.val (.int (own_of mm)), .val (.int (6 : Int32)), .val (.ref b279)]) rfl k) ?_
  refine Run.pre (fun _ k => XS.iloadN X279.here hx rfl (hb hby d8_15) rfl  k) ?_
  refine Run.pre (fun _ k => XS.iloadN X279.here hx rfl (hb hby d8_16) rfl  k) ?_
  refine Run.pre (fun _ k => XS.aloadN X279.here hx rfl (hb hby d8_17) rfl rfl k) ?_
  show Run p e below s _ _ _ (T279.setTop (mkF m 18 #[.val (.int (own_of mm)), .val (.int (6 : Int32)), .val (.ref b279)] [(.ref b279), (.int (6 : Int32)), (.int (own_of mm))]))
  have f280 := (OL.ext E279)
  refine Run.callS hS (by first | exact Nat.le_refl _ | (rw [e279]; exact (Nat.le_trans (Nat.le_of_eq (congrArg Array.size e277)) E279.1))) X279 hx hZ (y := (⟨"java/lang/Integer", "getChars", "(II[B)I"⟩ : MethodName)) hown (hw _ (List.mem_of_getElem? (i := 54) rfl)) (hw _ (List.mem_of_getElem? (i := 55) rfl)) (hw _ (List.mem_of_getElem? (i := 21) rfl)) (hw _ (List.mem_of_getElem? (i := 56) rfl)) (by decide) (W := 0) (rmGC_6 l Z a0 hw mm od ko td kt b279 k279 h279 n0 (Nat.le_trans Z0 K279.1) f280 hm lo hi SO ST AO AT V_b279 gn_b279) e279 (by decide) (by decide) (by decide) (by decide) (fun _ _ => trivial) (g := (mkF m 18 #[.val (.int (own_of mm)), .val (.int (6 : Int32)), .val (.ref b279)] [(.ref b279), (.int (6 : Int32)), (.int (own_of mm))])) rfl (by rw [hml]; rfl) (argsL := [(.int (own_of mm)), (.int (6 : Int32)), (.ref b279)]) (rest := []) (lenOf pd_9 rfl) rfl (by show 2 * 0 + _ ≤ _; exact Nat.le_of_eq rfl) (hb hby d8_18) ?_
  intro v281 T281 L281 X281 hS hZ hown hV281 hQ281
  obtain ⟨rfl, Nq281, Kc281, vb281⟩ := hQ281
  have N281 := Fr.app N277 Nq281
  have K281 : Keep h0 T281.heap [] := K279.trans Kc281 (allS (Or.inr sz_b279) all0)
  show Run p e below s _ _ _ (T281.setTop (mkF m 21 #[.val (.int (own_of mm)), .val (.int (6 : Int32)), .val (.ref b279)] [(.int (0 : Int32))]))
  refine Run.pre (fun _ k => XS.pop X281.here hx rfl (hb hby d8_21) rfl rfl k) ?_
  show Run p e below s _ _ _ (T281.setTop (mkF m 22 #[.val (.int (own_of mm)), .val (.int (6 : Int32)), .val (.ref b279)] []))
  obtain ⟨T282, h282, X282, e282, E282, A282, D282, -, st282⟩ := newO X281 hx hZ hown (hw _ (List.mem_of_getElem? (i := 59) rfl)) (hw _ (List.mem_of_getElem? (i := 6) rfl)) (hw _ (List.mem_of_getElem? (i := 5) rfl)) rfl (g := (mkF m 22 #[.val (.int (own_of mm)), .val (.int (6 : Int32)), .val (.ref b279)] [])) rfl (hb hby d8_22) (by decide) (by decide)
  obtain ⟨b282, g282⟩ : ∃ z, z = T281.heap.size := ⟨_, rfl⟩
  rw [← g282] at A282 D282 st282
  refine Run.pre st282 ?_
  have gn_b282 : n0 ≤ b282 := Nat.le_trans (Nat.le_trans Z0 K281.1) (Nat.le_of_eq g282.symm)
  have sz_b282 : h0.size ≤ b282 := Nat.le_trans K281.1 (Nat.le_of_eq g282.symm)
  have K282 : Keep h0 h282 [] := K281.ext E282
  have F_value_b282 : Fld Z h282 b282 "java/lang/String" "value" "[B" .null := D282 (Or.inr (hw _ (List.mem_of_getElem? (i := 8) rfl))) (ty := (.array .byte)) (by decide)
  have F_coder_b282 : Fld Z h282 b282 "java/lang/String" "coder" "B" (.int (0 : Int32)) := D282 (Or.inr (hw _ (List.mem_of_getElem? (i := 9) rfl))) (ty := .byte) (by decide)
  refine Run.pre (fun _ k => XS.dup X282.here hx rfl (hb hby d8_25) rfl rfl k) ?_
  refine Run.pre (fun _ k => XS.aloadN X282.here hx rfl (hb hby d8_26) rfl rfl k) ?_
  refine Run.pre (fun _ k => XS.iconst X282.here hx rfl (hb hby d8_27) k) ?_
  show Run p e below s _ _ _ (T282.setTop (mkF m 28 #[.val (.int (own_of mm)), .val (.int (6 : Int32)), .val (.ref b279)] [(.int (0 : Int32)), (.ref b279), (.ref b282), (.ref b282)]))
  refine Run.callI hS (by first | exact Nat.le_refl _ | (rw [e282]; exact (Nat.le_trans (Nat.le_refl _) E282.1))) X282 hx hZ (y := (⟨"java/lang/String", "<init>", "([BB)V"⟩ : MethodName)) rfl hown (hw _ (List.mem_of_getElem? (i := 60) rfl)) (hw _ (List.mem_of_getElem? (i := 61) rfl)) (hw _ (List.mem_of_getElem? (i := 63) rfl)) (hw _ (List.mem_of_getElem? (i := 5) rfl)) (by decide) (a := b282) (W := 1) (rmBB l Z a0 hw b282 b279 h282 n0 (Nat.le_trans Z0 K282.1) A282 F_value_b282 F_coder_b282 gn_b282) e282 (by decide) (by decide) (by decide) (by decide) (fun _ _ => trivial) (g := (mkF m 28 #[.val (.int (own_of mm)), .val (.int (6 : Int32)), .val (.ref b279)] [(.int (0 : Int32)), (.ref b279), (.ref b282), (.ref b282)])) rfl (by rw [hml]; rfl) (argsL := [(.ref b279), (.int (0 : Int32))]) (rest := [(.ref b282)]) (lenOf pd_10 rfl) rfl (by show 2 * 0 + _ ≤ _; exact Nat.le_of_eq rfl) (hb hby d8_28) ?_
  intro v283 T283 L283 X283 hS hZ hown hV283 hQ283
  obtain ⟨rfl, Nq283, Kc283, fv283, fc283⟩ := hQ283
  have N283 := Fr.app N281 Nq283
  have K283 : Keep h0 T283.heap [] := K282.trans Kc283 (allS (Or.inr sz_b282) all0)
  show Run p e below s _ _ _ (T283.setTop (mkF m 31 #[.val (.int (own_of mm)), .val (.int (6 : Int32)), .val (.ref b279)] [(.ref b282)]))
  have f284 := (A282.keep Kc283)
  have f285 := ((vb281.ext E282).keep Kc283 (ninS (Nat.ne_of_lt (Nat.lt_of_lt_of_le vb281.lt (Nat.le_of_eq g282.symm))) nin0))
  exact Run.retA hS (Nat.le_refl _) X283 hx hret rfl rfl hlk (hb hby d8_31) ⟨b282, b279, k279, rfl, N283, K283, sz_b282, f284, fv283, fc283, f285⟩ (by decide) (by decide)
theorem own_good_6 {mm : Nat} (hm : mm < 2147483648) (lo : 100000 ≤ mm) (hi : mm < 1000000) : own_good mm [(.int (nar .byte (own_of (48 + ((mm / 100) / 100) / 10)))), (.int (nar .byte (own_of (48 + ((mm / 100) / 100) % 10)))), (.int (nar .byte (own_of (48 + ((mm / 100) % 100) / 10)))), (.int (nar .byte (own_of (48 + ((mm / 100) % 100) % 10)))), (.int (nar .byte (own_of (48 + (mm % 100) / 10)))), (.int (nar .byte (own_of (48 + (mm % 100) % 10))))] :=
  ⟨Or.inr ⟨by rw [own_dgt_6 lo hi]; decide, by rw [own_dgt_6 lo hi]; decide, by rw [own_dgt_6 lo hi]; decide, nar .byte (own_of (48 + (mm % 100) % 10)), by rw [own_dgt_6 lo hi]; rfl, own_heq hm (q := 1) rfl (by decide) (by decide) (by omega)⟩,
   Or.inr ⟨by rw [own_dgt_6 lo hi]; decide, by rw [own_dgt_6 lo hi]; decide, by rw [own_dgt_6 lo hi]; decide, nar .byte (own_of (48 + (mm % 100) / 10)), by rw [own_dgt_6 lo hi]; rfl, own_heq hm (q := 10) rfl (by decide) (by decide) (by omega)⟩,
   Or.inr ⟨by rw [own_dgt_6 lo hi]; decide, by rw [own_dgt_6 lo hi]; decide, by rw [own_dgt_6 lo hi]; decide, nar .byte (own_of (48 + ((mm / 100) % 100) % 10)), by rw [own_dgt_6 lo hi]; rfl, own_heq hm (q := 100) rfl (by decide) (by decide) (by omega)⟩,
   Or.inr ⟨by rw [own_dgt_6 lo hi]; decide, by rw [own_dgt_6 lo hi]; decide, by rw [own_dgt_6 lo hi]; decide, nar .byte (own_of (48 + ((mm / 100) % 100) / 10)), by rw [own_dgt_6 lo hi]; rfl, own_heq hm (q := 1000) rfl (by decide) (by decide) (by omega)⟩,
   Or.inr ⟨by rw [own_dgt_6 lo hi]; decide, by rw [own_dgt_6 lo hi]; decide, by rw [own_dgt_6 lo hi]; decide, nar .byte (own_of (48 + ((mm / 100) / 100) % 10)), by rw [own_dgt_6 lo hi]; rfl, own_heq hm (q := 10000) rfl (by decide) (by decide) (by omega)⟩,
   Or.inr ⟨by rw [own_dgt_6 lo hi]; decide, by rw [own_dgt_6 lo hi]; decide, by rw [own_dgt_6 lo hi]; decide, nar .byte (own_of (48 + ((mm / 100) / 100) / 10)), by rw [own_dgt_6 lo hi]; rfl, own_heq hm (q := 100000) rfl (by decide) (by decide) (by omega)⟩,
   Or.inl (by rw [own_dgt_6 lo hi]; decide),
   Or.inl (by rw [own_dgt_6 lo hi]; decide),
   Or.inl (by rw [own_dgt_6 lo hi]; decide),
   Or.inl (by rw [own_dgt_6 lo hi]; decide)⟩
set_option maxRecDepth 65536 in
set_option maxHeartbeats 40000000 in
theorem rmGC_7 (l : Launch) (Z : State) (a0 : Array Value) (hw : ∀ d ∈ tables_1, d.before a0 Z = true) (mm : Nat) (od : Addr) (ko : ClassId) (td : Addr) (kt : ClassId) (bf : Addr) (kb : ClassId) (h0 : Heap) (n0 : Nat) (Z0 : n0 ≤ h0.size) (OL : Old Z n0 h0) (hm : mm < 2147483648) (lo : 1000000 ≤ mm) (hi : mm < 10000000) (SO : Sta Z Z.heap "java/lang/Integer" "DigitOnes" "[B" (.ref od)) (ST : Sta Z Z.heap "java/lang/Integer" "DigitTens" "[B" (.ref td)) (AO : Arv Z Z.heap od ko .byte 100 own_DO (.int 0)) (AT : Arv Z Z.heap td kt .byte 100 own_DT (.int 0)) (AB : Arv Z h0 bf kb .byte 7 [(.int (0 : Int32)), (.int (0 : Int32)), (.int (0 : Int32)), (.int (0 : Int32)), (.int (0 : Int32)), (.int (0 : Int32)), (.int (0 : Int32))] (.int 0)) (g_bf : n0 ≤ bf) :
    Con l (⟨"java/lang/Integer", "getChars", "(II[B)I"⟩ : MethodName) jdk_33_method_12_code 7 (some .int) ({ frames := 0, cells := 0, slots := 0, locals := 0 } : Room) Z #[(.int (own_of mm)), (.int (7 : Int32)), (.ref bf)] h0 (fun _ => True) (fun v h L vm => v = some (.int 0) ∧ Fr n0 L ∧ Keep h0 h [bf] ∧ Arv Z h bf kb .byte 7 [(.int (nar .byte (own_of (48 + (((mm / 100) / 100) / 100) % 10)))), (.int (nar .byte (own_of (48 + (((mm / 100) / 100) % 100) / 10)))), (.int (nar .byte (own_of (48 + (((mm / 100) / 100) % 100) % 10)))), (.int (nar .byte (own_of (48 + ((mm / 100) % 100) / 10)))), (.int (nar .byte (own_of (48 + ((mm / 100) % 100) % 10)))), (.int (nar .byte (own_of (48 + (mm % 100) / 10)))), (.int (nar .byte (own_of (48 + (mm % 100) % 10))))] (.int 0)) := by
  refine Con.mk (plainFor_of_name pn_10) (fun m => show entryFrame m #[(.int (own_of mm)), (.int (7 : Int32)), (.ref bf)] 7 = mkF m 0 #[.val (.int (own_of mm)), .val (.int (7 : Int32)), .val (.ref bf), .unset, .unset, .unset, .unset] [] by first | (simp [entryFrame, mkF, argsToLocals, Value.category]; done) | rfl) ?_
  intro p e s m below meth c s₁ vm0 hx hby hml hown hnm hret hlk hZ X0 e0 hS hs0 hP0
  have N0 := Fr.nil n0
  refine Run.pre (fun _ k => XS.iloadN X0.here hx rfl (hb hby d10_0) rfl  k) ?_
  show Run p e below s _ _ _ (s₁.setTop (mkF m 1 #[.val (.int (own_of mm)), .val (.int (7 : Int32)), .val (.ref bf), .unset, .unset, .unset, .unset] [(.int (7 : Int32))]))
  refine Run.pre (fun _ k => XS.istore X0.here hx rfl (hb hby d10_1) rfl (l' := #[.val (.int (own_of mm)), .val (.int (7 : Int32)), .val (.ref bf), .unset, .unset, .val (.int (7 : Int32)), .unset]) rfl k) ?_
  refine Run.pre (fun _ k => XS.iloadN X0.here hx rfl (hb hby d10_3) rfl  k) ?_
  show Run p e below s _ _ _ (s₁.setTop (mkF m 4 #[.val (.int (own_of mm)), .val (.int (7 : Int32)), .val (.ref bf), .unset, .unset, .val (.int (7 : Int32)), .unset] [(.int (own_of mm))]))
  refine Run.pre (fun _ k => XS.ifYes X0.here hx rfl (pc0 := 4) (pc' := 11) rfl (hb hby d10_4) rfl ((if0 _ _).trans (flt ((own_nofl hm (by have e : ((0 : Int32)).toInt = 0 := (by decide); omega)) : ¬ ((own_of mm) < (0 : Int32)))).2.1) (by decide) (by decide) k) ?_
  refine Run.pre (fun _ k => XS.iconst X0.here hx rfl (hb hby d10_11) k) ?_
  show Run p e below s _ _ _ (s₁.setTop (mkF m 12 #[.val (.int (own_of mm)), .val (.int (7 : Int32)), .val (.ref bf), .unset, .unset, .val (.int (7 : Int32)), .unset] [(.int (0 : Int32))]))
  refine Run.pre (fun _ k => XS.istore X0.here hx rfl (hb hby d10_12) rfl (l' := #[.val (.int (own_of mm)), .val (.int (7 : Int32)), .val (.ref bf), .unset, .unset, .val (.int (7 : Int32)), .val (.int (0 : Int32))]) rfl k) ?_
  refine Run.pre (fun _ k => XS.iload X0.here hx rfl (hb hby d10_14) rfl  k) ?_
  show Run p e below s _ _ _ (s₁.setTop (mkF m 16 #[.val (.int (own_of mm)), .val (.int (7 : Int32)), .val (.ref bf), .unset, .unset, .val (.int (7 : Int32)), .val (.int (0 : Int32))] [(.int (0 : Int32))]))
  refine Run.pre (fun _ k => XS.ifNo X0.here hx rfl (hb hby d10_16) rfl ((if0 _ _).trans (teq ((by decide) : (0 : Int32) = (0 : Int32))).2) k) ?_
  refine Run.pre (fun _ k => XS.iloadN X0.here hx rfl (hb hby d10_19) rfl  k) ?_
  show Run p e below s _ _ _ (s₁.setTop (mkF m 20 #[.val (.int (own_of mm)), .val (.int (7 : Int32)), .val (.ref bf), .unset, .unset, .val (.int (7 : Int32)), .val (.int (0 : Int32))] [(.int (own_of mm))]))
  refine Run.pre (fun _ k => XS.ineg X0.here hx rfl (hb hby d10_20) rfl k) ?_
  show Run p e below s _ _ _ (s₁.setTop (mkF m 21 #[.val (.int (own_of mm)), .val (.int (7 : Int32)), .val (.ref bf), .unset, .unset, .val (.int (7 : Int32)), .val (.int (0 : Int32))] [(.int (-(own_of mm)))]))
  refine Run.pre (fun _ k => XS.istoreN X0.here hx rfl (hb hby d10_21) rfl (l' := #[.val (.int (-(own_of mm))), .val (.int (7 : Int32)), .val (.ref bf), .unset, .unset, .val (.int (7 : Int32)), .val (.int (0 : Int32))]) rfl k) ?_
  refine Run.pre (fun _ k => XS.iloadN X0.here hx rfl (hb hby d10_22) rfl  k) ?_
  refine Run.pre (fun _ k => XS.bipush X0.here hx rfl (hb hby d10_23) k) ?_
  show Run p e below s _ _ _ (s₁.setTop (mkF m 25 #[.val (.int (-(own_of mm))), .val (.int (7 : Int32)), .val (.ref bf), .unset, .unset, .val (.int (7 : Int32)), .val (.int (0 : Int32))] [(.int (-100 : Int32)), (.int (-(own_of mm)))]))
  refine Run.pre (fun _ k => XS.icmpNo X0.here hx rfl (hb hby d10_25) rfl (flt ((own_nltng (show mm < 2147483648 by omega) (by have e : ((-100 : Int32)).toInt = -100 := (by decide); omega)) : ¬ ((-100 : Int32) < (-(own_of mm))))).2.2.1 k) ?_
  refine Run.pre (fun _ k => XS.iloadN X0.here hx rfl (hb hby d10_28) rfl  k) ?_
  refine Run.pre (fun _ k => XS.bipush X0.here hx rfl (hb hby d10_29) k) ?_
  show Run p e below s _ _ _ (s₁.setTop (mkF m 31 #[.val (.int (-(own_of mm))), .val (.int (7 : Int32)), .val (.ref bf), .unset, .unset, .val (.int (7 : Int32)), .val (.int (0 : Int32))] [(.int (100 : Int32)), (.int (-(own_of mm)))]))
  refine Run.pre (fun _ k => XS.idiv X0.here hx rfl (hb hby d10_31) rfl (by decide) k) ?_
  show Run p e below s _ _ _ (s₁.setTop (mkF m 32 #[.val (.int (-(own_of mm))), .val (.int (7 : Int32)), .val (.ref bf), .unset, .unset, .val (.int (7 : Int32)), .val (.int (0 : Int32))] [(.int ((-(own_of mm)) / (100 : Int32)))]))
  refine Run.pre (fun _ k => XS.istoreN X0.here hx rfl (hb hby d10_32) rfl (l' := #[.val (.int (-(own_of mm))), .val (.int (7 : Int32)), .val (.ref bf), .val (.int ((-(own_of mm)) / (100 : Int32))), .unset, .val (.int (7 : Int32)), .val (.int (0 : Int32))]) rfl k) ?_
  refine Run.pre (fun _ k => XS.iloadN X0.here hx rfl (hb hby d10_33) rfl  k) ?_
  refine Run.pre (fun _ k => XS.bipush X0.here hx rfl (hb hby d10_34) k) ?_
  show Run p e below s _ _ _ (s₁.setTop (mkF m 36 #[.val (.int (-(own_of mm))), .val (.int (7 : Int32)), .val (.ref bf), .val (.int ((-(own_of mm)) / (100 : Int32))), .unset, .val (.int (7 : Int32)), .val (.int (0 : Int32))] [(.int (100 : Int32)), (.int ((-(own_of mm)) / (100 : Int32)))]))
  refine Run.pre (fun _ k => XS.imul X0.here hx rfl (hb hby d10_36) rfl k) ?_
  refine Run.pre (fun _ k => XS.iloadN X0.here hx rfl (hb hby d10_37) rfl  k) ?_
  show Run p e below s _ _ _ (s₁.setTop (mkF m 38 #[.val (.int (-(own_of mm))), .val (.int (7 : Int32)), .val (.ref bf), .val (.int ((-(own_of mm)) / (100 : Int32))), .unset, .val (.int (7 : Int32)), .val (.int (0 : Int32))] [(.int (-(own_of mm))), (.int (((-(own_of mm)) / (100 : Int32)) * (100 : Int32)))]))
  refine Run.pre (fun _ k => XS.isub X0.here hx rfl (hb hby d10_38) rfl k) ?_
  show Run p e below s _ _ _ (s₁.setTop (mkF m 39 #[.val (.int (-(own_of mm))), .val (.int (7 : Int32)), .val (.ref bf), .val (.int ((-(own_of mm)) / (100 : Int32))), .unset, .val (.int (7 : Int32)), .val (.int (0 : Int32))] [(.int ((((-(own_of mm)) / (100 : Int32)) * (100 : Int32)) - (-(own_of mm))))]))
  refine Run.pre (fun _ k => XS.istore X0.here hx rfl (hb hby d10_39) rfl (l' := #[.val (.int (-(own_of mm))), .val (.int (7 : Int32)), .val (.ref bf), .val (.int ((-(own_of mm)) / (100 : Int32))), .val (.int ((((-(own_of mm)) / (100 : Int32)) * (100 : Int32)) - (-(own_of mm)))), .val (.int (7 : Int32)), .val (.int (0 : Int32))]) rfl k) ?_
  refine Run.pre (fun _ k => XS.iloadN X0.here hx rfl (hb hby d10_41) rfl  k) ?_
  show Run p e below s _ _ _ (s₁.setTop (mkF m 42 #[.val (.int (-(own_of mm))), .val (.int (7 : Int32)), .val (.ref bf), .val (.int ((-(own_of mm)) / (100 : Int32))), .val (.int ((((-(own_of mm)) / (100 : Int32)) * (100 : Int32)) - (-(own_of mm)))), .val (.int (7 : Int32)), .val (.int (0 : Int32))] [(.int ((-(own_of mm)) / (100 : Int32)))]))
  refine Run.pre (fun _ k => XS.istoreN X0.here hx rfl (hb hby d10_42) rfl (l' := #[.val (.int ((-(own_of mm)) / (100 : Int32))), .val (.int (7 : Int32)), .val (.ref bf), .val (.int ((-(own_of mm)) / (100 : Int32))), .val (.int ((((-(own_of mm)) / (100 : Int32)) * (100 : Int32)) - (-(own_of mm)))), .val (.int (7 : Int32)), .val (.int (0 : Int32))]) rfl k) ?_
  show Run p e below s _ _ _ (s₁.setTop (mkF m 43 #[.val (.int ((-(own_of mm)) / (100 : Int32))), .val (.int (7 : Int32)), .val (.ref bf), .val (.int ((-(own_of mm)) / (100 : Int32))), .val (.int ((((-(own_of mm)) / (100 : Int32)) * (100 : Int32)) - (-(own_of mm)))), .val (.int (7 : Int32)), .val (.int (0 : Int32))] []))
  rw [own_div (show mm < 2147483648 by omega), own_rem (show mm < 2147483648 by omega)]
  refine Run.pre (fun _ k => XS.aloadN X0.here hx rfl (hb hby d10_43) rfl rfl k) ?_
  show Run p e below s _ _ _ (s₁.setTop (mkF m 44 #[.val (.int (-(own_of (mm / 100)))), .val (.int (7 : Int32)), .val (.ref bf), .val (.int (-(own_of (mm / 100)))), .val (.int (own_of (mm % 100))), .val (.int (7 : Int32)), .val (.int (0 : Int32))] [(.ref bf)]))
  refine Run.pre (fun _ k => XS.iinc X0.here hx rfl (hb hby d10_44) rfl (l' := #[.val (.int (-(own_of (mm / 100)))), .val (.int (7 : Int32)), .val (.ref bf), .val (.int (-(own_of (mm / 100)))), .val (.int (own_of (mm % 100))), .val (.int (6 : Int32)), .val (.int (0 : Int32))]) rfl k) ?_
  refine Run.pre (fun _ k => XS.iload X0.here hx rfl (hb hby d10_47) rfl  k) ?_
  show Run p e below s _ _ _ (s₁.setTop (mkF m 49 #[.val (.int (-(own_of (mm / 100)))), .val (.int (7 : Int32)), .val (.ref bf), .val (.int (-(own_of (mm / 100)))), .val (.int (own_of (mm % 100))), .val (.int (6 : Int32)), .val (.int (0 : Int32))] [(.int (6 : Int32)), (.ref bf)]))
  obtain ⟨T286, X286, e286, st286⟩ := getS2 X0 hx hZ hown (host := "") (Or.inl (hw _ (List.mem_of_getElem? (i := 57) rfl))) Via.refl e0 (SO.ext OL.2) (g := (mkF m 49 #[.val (.int (-(own_of (mm / 100)))), .val (.int (7 : Int32)), .val (.ref bf), .val (.int (-(own_of (mm / 100)))), .val (.int (own_of (mm % 100))), .val (.int (6 : Int32)), .val (.int (0 : Int32))] [(.int (6 : Int32)), (.ref bf)])) rfl (hb hby d10_49)
  refine Run.pre st286 ?_
  refine Run.pre (fun _ k => XS.iload X286.here hx rfl (hb hby d10_52) rfl  k) ?_
  show Run p e below s _ _ _ (T286.setTop (mkF m 54 #[.val (.int (-(own_of (mm / 100)))), .val (.int (7 : Int32)), .val (.ref bf), .val (.int (-(own_of (mm / 100)))), .val (.int (own_of (mm % 100))), .val (.int (6 : Int32)), .val (.int (0 : Int32))] [(.int (own_of (mm % 100))), (.ref od), (.int (6 : Int32)), (.ref bf)]))
  obtain ⟨c287, Ar287, -, S287, N287, H287, -⟩ := id (AO.ext OL.2)
  have hin287 : ¬ ((own_of (mm % 100)) < 0 ∨ c287.slots.size ≤ ((own_of (mm % 100))).toNatClampNeg) := inb_of S287 (own_in100 (show (mm % 100) < 100 by omega))
  refine Run.pre (X286.baloadBytes hx (j := (own_of (mm % 100))) (v := (.int (own_of (48 + (mm % 100) % 10)))) (by rw [e286]; exact Ar287.1) (State.isArrayOf_alike hZ.alike Ar287.2.1) Ar287.2.2 hin287 (H287.at hin287 (own_getO (show (mm % 100) < 100 by omega))) (g := (mkF m 54 #[.val (.int (-(own_of (mm / 100)))), .val (.int (7 : Int32)), .val (.ref bf), .val (.int (-(own_of (mm / 100)))), .val (.int (own_of (mm % 100))), .val (.int (6 : Int32)), .val (.int (0 : Int32))] [(.int (own_of (mm % 100))), (.ref od), (.int (6 : Int32)), (.ref bf)])) rfl rfl (hb hby d10_54)) ?_
  show Run p e below s _ _ _ (T286.setTop (mkF m 55 #[.val (.int (-(own_of (mm / 100)))), .val (.int (7 : Int32)), .val (.ref bf), .val (.int (-(own_of (mm / 100)))), .val (.int (own_of (mm % 100))), .val (.int (6 : Int32)), .val (.int (0 : Int32))] [(.int (own_of (48 + (mm % 100) % 10))), (.int (6 : Int32)), (.ref bf)]))
  obtain ⟨c288, Ar288, q288, S288, N288, H288, G288⟩ := id AB
  have hin288 : ¬ ((6 : Int32) < 0 ∨ c288.slots.size ≤ ((6 : Int32)).toNatClampNeg) := inb_of S288 ⟨by decide, by decide⟩
  obtain ⟨T289, h289, X289, e289, W289, st289⟩ := stB X286 hx hZ e286 Ar288 (j := (6 : Int32)) hin288 (g := (mkF m 55 #[.val (.int (-(own_of (mm / 100)))), .val (.int (7 : Int32)), .val (.ref bf), .val (.int (-(own_of (mm / 100)))), .val (.int (own_of (mm % 100))), .val (.int (6 : Int32)), .val (.int (0 : Int32))] [(.int (own_of (48 + (mm % 100) % 10))), (.int (6 : Int32)), (.ref bf)])) rfl rfl (hb hby d10_55)
  refine Run.pre st289 ?_
  have V_bf_289 : Arv Z h289 bf kb .byte (7 : Int32) [(.int (0 : Int32)), (.int (0 : Int32)), (.int (0 : Int32)), (.int (0 : Int32)), (.int (0 : Int32)), (.int (0 : Int32)), (.int (nar .byte (own_of (48 + (mm % 100) % 10))))] (.int (0 : Int32)) := Arv.set Ar288 q288 S288 N288 H288 G288 (fits_nar_byte _) W289 6 rfl (Nat.le_of_ble_eq_true rfl)
  have K289 : Keep h0 h289 [bf] := (Keep.refl h0 [bf]).wr W289 (Or.inl (by simp))
  have N289 := Fr.snoc X289 N0 g_bf
  refine Run.pre (fun _ k => XS.aloadN X289.here hx rfl (hb hby d10_56) rfl rfl k) ?_
  show Run p e below s _ _ _ (T289.setTop (mkF m 57 #[.val (.int (-(own_of (mm / 100)))), .val (.int (7 : Int32)), .val (.ref bf), .val (.int (-(own_of (mm / 100)))), .val (.int (own_of (mm % 100))), .val (.int (6 : Int32)), .val (.int (0 : Int32))] [(.ref bf)]))
  refine Run.pre (fun _ k => XS.iinc X289.here hx rfl (hb hby d10_57) rfl (l' := #[.val (.int (-(own_of (mm / 100)))), .val (.int (7 : Int32)), .val (.ref bf), .val (.int (-(own_of (mm / 100)))), .val (.int (own_of (mm % 100))), .val (.int (5 : Int32)), .val (.int (0 : Int32))]) rfl k) ?_
  refine Run.pre (fun _ k => XS.iload X289.here hx rfl (hb hby d10_60) rfl  k) ?_
  show Run p e below s _ _ _ (T289.setTop (mkF m 62 #[.val (.int (-(own_of (mm / 100)))), .val (.int (7 : Int32)), .val (.ref bf), .val (.int (-(own_of (mm / 100)))), .val (.int (own_of (mm % 100))), .val (.int (5 : Int32)), .val (.int (0 : Int32))] [(.int (5 : Int32)), (.ref bf)]))
  have f290 := (OL.wr W289 g_bf)
  obtain ⟨T291, X291, e291, st291⟩ := getS2 X289 hx hZ hown (host := "") (Or.inl (hw _ (List.mem_of_getElem? (i := 58) rfl))) Via.refl e289 (ST.ext f290.2) (g := (mkF m 62 #[.val (.int (-(own_of (mm / 100)))), .val (.int (7 : Int32)), .val (.ref bf), .val (.int (-(own_of (mm / 100)))), .val (.int (own_of (mm % 100))), .val (.int (5 : Int32)), .val (.int (0 : Int32))] [(.int (5 : Int32)), (.ref bf)])) rfl (hb hby d10_62)
  refine Run.pre st291 ?_
  refine Run.pre (fun _ k => XS.iload X291.here hx rfl (hb hby d10_65) rfl  k) ?_
  show Run p e below s _ _ _ (T291.setTop (mkF m 67 #[.val (.int (-(own_of (mm / 100)))), .val (.int (7 : Int32)), .val (.ref bf), .val (.int (-(own_of (mm / 100)))), .val (.int (own_of (mm % 100))), .val (.int (5 : Int32)), .val (.int (0 : Int32))] [(.int (own_of (mm % 100))), (.ref td), (.int (5 : Int32)), (.ref bf)]))
  obtain ⟨c292, Ar292, -, S292, N292, H292, -⟩ := id (AT.ext f290.2)
  have hin292 : ¬ ((own_of (mm % 100)) < 0 ∨ c292.slots.size ≤ ((own_of (mm % 100))).toNatClampNeg) := inb_of S292 (own_in100 (show (mm % 100) < 100 by omega))
  refine Run.pre (X291.baloadBytes hx (j := (own_of (mm % 100))) (v := (.int (own_of (48 + (mm % 100) / 10)))) (by rw [e291]; exact Ar292.1) (State.isArrayOf_alike hZ.alike Ar292.2.1) Ar292.2.2 hin292 (H292.at hin292 (own_getT (show (mm % 100) < 100 by omega))) (g := (mkF m 67 #[.val (.int (-(own_of (mm / 100)))), .val (.int (7 : Int32)), .val (.ref bf), .val (.int (-(own_of (mm / 100)))), .val (.int (own_of (mm % 100))), .val (.int (5 : Int32)), .val (.int (0 : Int32))] [(.int (own_of (mm % 100))), (.ref td), (.int (5 : Int32)), (.ref bf)])) rfl rfl (hb hby d10_67)) ?_
  show Run p e below s _ _ _ (T291.setTop (mkF m 68 #[.val (.int (-(own_of (mm / 100)))), .val (.int (7 : Int32)), .val (.ref bf), .val (.int (-(own_of (mm / 100)))), .val (.int (own_of (mm % 100))), .val (.int (5 : Int32)), .val (.int (0 : Int32))] [(.int (own_of (48 + (mm % 100) / 10))), (.int (5 : Int32)), (.ref bf)]))
  obtain ⟨c293, Ar293, q293, S293, N293, H293, G293⟩ := id V_bf_289
  have hin293 : ¬ ((5 : Int32) < 0 ∨ c293.slots.size ≤ ((5 : Int32)).toNatClampNeg) := inb_of S293 ⟨by decide, by decide⟩
  obtain ⟨T294, h294, X294, e294, W294, st294⟩ := stB X291 hx hZ e291 Ar293 (j := (5 : Int32)) hin293 (g := (mkF m 68 #[.val (.int (-(own_of (mm / 100)))), .val (.int (7 : Int32)), .val (.ref bf), .val (.int (-(own_of (mm / 100)))), .val (.int (own_of (mm % 100))), .val (.int (5 : Int32)), .val (.int (0 : Int32))] [(.int (own_of (48 + (mm % 100) / 10))), (.int (5 : Int32)), (.ref bf)])) rfl rfl (hb hby d10_68)
  refine Run.pre st294 ?_
  have V_bf_294 : Arv Z h294 bf kb .byte (7 : Int32) [(.int (0 : Int32)), (.int (0 : Int32)), (.int (0 : Int32)), (.int (0 : Int32)), (.int (0 : Int32)), (.int (nar .byte (own_of (48 + (mm % 100) / 10)))), (.int (nar .byte (own_of (48 + (mm % 100) % 10))))] (.int (0 : Int32)) := Arv.set Ar293 q293 S293 N293 H293 G293 (fits_nar_byte _) W294 5 rfl (Nat.le_of_ble_eq_true rfl)
  have K294 : Keep h0 h294 [bf] := K289.wr W294 (Or.inl (by simp))
  have N294 := Fr.snoc X294 N289 g_bf
  refine Run.pre (fun _ k => XS.goto X294.here hx rfl (pc0 := 69) (pc' := 22) rfl (hb hby d10_69) (by decide) (by decide) k) ?_
  refine Run.pre (fun _ k => XS.iloadN X294.here hx rfl (hb hby d10_22) rfl  k) ?_
  refine Run.pre (fun _ k => XS.bipush X294.here hx rfl (hb hby d10_23) k) ?_
  show Run p e below s _ _ _ (T294.setTop (mkF m 25 #[.val (.int (-(own_of (mm / 100)))), .val (.int (7 : Int32)), .val (.ref bf), .val (.int (-(own_of (mm / 100)))), .val (.int (own_of (mm % 100))), .val (.int (5 : Int32)), .val (.int (0 : Int32))] [(.int (-100 : Int32)), (.int (-(own_of (mm / 100))))]))
  refine Run.pre (fun _ k => XS.icmpNo X294.here hx rfl (hb hby d10_25) rfl (flt ((own_nltng (show (mm / 100) < 2147483648 by omega) (by have e : ((-100 : Int32)).toInt = -100 := (by decide); omega)) : ¬ ((-100 : Int32) < (-(own_of (mm / 100)))))).2.2.1 k) ?_
  refine Run.pre (fun _ k => XS.iloadN X294.here hx rfl (hb hby d10_28) rfl  k) ?_
  refine Run.pre (fun _ k => XS.bipush X294.here hx rfl (hb hby d10_29) k) ?_
  show Run p e below s _ _ _ (T294.setTop (mkF m 31 #[.val (.int (-(own_of (mm / 100)))), .val (.int (7 : Int32)), .val (.ref bf), .val (.int (-(own_of (mm / 100)))), .val (.int (own_of (mm % 100))), .val (.int (5 : Int32)), .val (.int (0 : Int32))] [(.int (100 : Int32)), (.int (-(own_of (mm / 100))))]))
  refine Run.pre (fun _ k => XS.idiv X294.here hx rfl (hb hby d10_31) rfl (by decide) k) ?_
  show Run p e below s _ _ _ (T294.setTop (mkF m 32 #[.val (.int (-(own_of (mm / 100)))), .val (.int (7 : Int32)), .val (.ref bf), .val (.int (-(own_of (mm / 100)))), .val (.int (own_of (mm % 100))), .val (.int (5 : Int32)), .val (.int (0 : Int32))] [(.int ((-(own_of (mm / 100))) / (100 : Int32)))]))
  refine Run.pre (fun _ k => XS.istoreN X294.here hx rfl (hb hby d10_32) rfl (l' := #[.val (.int (-(own_of (mm / 100)))), .val (.int (7 : Int32)), .val (.ref bf), .val (.int ((-(own_of (mm / 100))) / (100 : Int32))), .val (.int (own_of (mm % 100))), .val (.int (5 : Int32)), .val (.int (0 : Int32))]) rfl k) ?_
  refine Run.pre (fun _ k => XS.iloadN X294.here hx rfl (hb hby d10_33) rfl  k) ?_
  refine Run.pre (fun _ k => XS.bipush X294.here hx rfl (hb hby d10_34) k) ?_
  show Run p e below s _ _ _ (T294.setTop (mkF m 36 #[.val (.int (-(own_of (mm / 100)))), .val (.int (7 : Int32)), .val (.ref bf), .val (.int ((-(own_of (mm / 100))) / (100 : Int32))), .val (.int (own_of (mm % 100))), .val (.int (5 : Int32)), .val (.int (0 : Int32))] [(.int (100 : Int32)), (.int ((-(own_of (mm / 100))) / (100 : Int32)))]))
  refine Run.pre (fun _ k => XS.imul X294.here hx rfl (hb hby d10_36) rfl k) ?_
  refine Run.pre (fun _ k => XS.iloadN X294.here hx rfl (hb hby d10_37) rfl  k) ?_
  show Run p e below s _ _ _ (T294.setTop (mkF m 38 #[.val (.int (-(own_of (mm / 100)))), .val (.int (7 : Int32)), .val (.ref bf), .val (.int ((-(own_of (mm / 100))) / (100 : Int32))), .val (.int (own_of (mm % 100))), .val (.int (5 : Int32)), .val (.int (0 : Int32))] [(.int (-(own_of (mm / 100)))), (.int (((-(own_of (mm / 100))) / (100 : Int32)) * (100 : Int32)))]))
  refine Run.pre (fun _ k => XS.isub X294.here hx rfl (hb hby d10_38) rfl k) ?_
  show Run p e below s _ _ _ (T294.setTop (mkF m 39 #[.val (.int (-(own_of (mm / 100)))), .val (.int (7 : Int32)), .val (.ref bf), .val (.int ((-(own_of (mm / 100))) / (100 : Int32))), .val (.int (own_of (mm % 100))), .val (.int (5 : Int32)), .val (.int (0 : Int32))] [(.int ((((-(own_of (mm / 100))) / (100 : Int32)) * (100 : Int32)) - (-(own_of (mm / 100)))))]))
  refine Run.pre (fun _ k => XS.istore X294.here hx rfl (hb hby d10_39) rfl (l' := #[.val (.int (-(own_of (mm / 100)))), .val (.int (7 : Int32)), .val (.ref bf), .val (.int ((-(own_of (mm / 100))) / (100 : Int32))), .val (.int ((((-(own_of (mm / 100))) / (100 : Int32)) * (100 : Int32)) - (-(own_of (mm / 100))))), .val (.int (5 : Int32)), .val (.int (0 : Int32))]) rfl k) ?_
  refine Run.pre (fun _ k => XS.iloadN X294.here hx rfl (hb hby d10_41) rfl  k) ?_
  show Run p e below s _ _ _ (T294.setTop (mkF m 42 #[.val (.int (-(own_of (mm / 100)))), .val (.int (7 : Int32)), .val (.ref bf), .val (.int ((-(own_of (mm / 100))) / (100 : Int32))), .val (.int ((((-(own_of (mm / 100))) / (100 : Int32)) * (100 : Int32)) - (-(own_of (mm / 100))))), .val (.int (5 : Int32)), .val (.int (0 : Int32))] [(.int ((-(own_of (mm / 100))) / (100 : Int32)))]))
  refine Run.pre (fun _ k => XS.istoreN X294.here hx rfl (hb hby d10_42) rfl (l' := #[.val (.int ((-(own_of (mm / 100))) / (100 : Int32))), .val (.int (7 : Int32)), .val (.ref bf), .val (.int ((-(own_of (mm / 100))) / (100 : Int32))), .val (.int ((((-(own_of (mm / 100))) / (100 : Int32)) * (100 : Int32)) - (-(own_of (mm / 100))))), .val (.int (5 : Int32)), .val (.int (0 : Int32))]) rfl k) ?_
  show Run p e below s _ _ _ (T294.setTop (mkF m 43 #[.val (.int ((-(own_of (mm / 100))) / (100 : Int32))), .val (.int (7 : Int32)), .val (.ref bf), .val (.int ((-(own_of (mm / 100))) / (100 : Int32))), .val (.int ((((-(own_of (mm / 100))) / (100 : Int32)) * (100 : Int32)) - (-(own_of (mm / 100))))), .val (.int (5 : Int32)), .val (.int (0 : Int32))] []))
  rw [own_div (show (mm / 100) < 2147483648 by omega), own_rem (show (mm / 100) < 2147483648 by omega)]
  refine Run.pre (fun _ k => XS.aloadN X294.here hx rfl (hb hby d10_43) rfl rfl k) ?_
  show Run p e below s _ _ _ (T294.setTop (mkF m 44 #[.val (.int (-(own_of ((mm / 100) / 100)))), .val (.int (7 : Int32)), .val (.ref bf), .val (.int (-(own_of ((mm / 100) / 100)))), .val (.int (own_of ((mm / 100) % 100))), .val (.int (5 : Int32)), .val (.int (0 : Int32))] [(.ref bf)]))
  refine Run.pre (fun _ k => XS.iinc X294.here hx rfl (hb hby d10_44) rfl (l' := #[.val (.int (-(own_of ((mm / 100) / 100)))), .val (.int (7 : Int32)), .val (.ref bf), .val (.int (-(own_of ((mm / 100) / 100)))), .val (.int (own_of ((mm / 100) % 100))), .val (.int (4 : Int32)), .val (.int (0 : Int32))]) rfl k) ?_
  refine Run.pre (fun _ k => XS.iload X294.here hx rfl (hb hby d10_47) rfl  k) ?_
  show Run p e below s _ _ _ (T294.setTop (mkF m 49 #[.val (.int (-(own_of ((mm / 100) / 100)))), .val (.int (7 : Int32)), .val (.ref bf), .val (.int (-(own_of ((mm / 100) / 100)))), .val (.int (own_of ((mm / 100) % 100))), .val (.int (4 : Int32)), .val (.int (0 : Int32))] [(.int (4 : Int32)), (.ref bf)]))
  have f295 := (f290.wr W294 g_bf)
  obtain ⟨T296, X296, e296, st296⟩ := getS2 X294 hx hZ hown (host := "") (Or.inl (hw _ (List.mem_of_getElem? (i := 57) rfl))) Via.refl e294 (SO.ext f295.2) (g := (mkF m 49 #[.val (.int (-(own_of ((mm / 100) / 100)))), .val (.int (7 : Int32)), .val (.ref bf), .val (.int (-(own_of ((mm / 100) / 100)))), .val (.int (own_of ((mm / 100) % 100))), .val (.int (4 : Int32)), .val (.int (0 : Int32))] [(.int (4 : Int32)), (.ref bf)])) rfl (hb hby d10_49)
  refine Run.pre st296 ?_
  refine Run.pre (fun _ k => XS.iload X296.here hx rfl (hb hby d10_52) rfl  k) ?_
  show Run p e below s _ _ _ (T296.setTop (mkF m 54 #[.val (.int (-(own_of ((mm / 100) / 100)))), .val (.int (7 : Int32)), .val (.ref bf), .val (.int (-(own_of ((mm / 100) / 100)))), .val (.int (own_of ((mm / 100) % 100))), .val (.int (4 : Int32)), .val (.int (0 : Int32))] [(.int (own_of ((mm / 100) % 100))), (.ref od), (.int (4 : Int32)), (.ref bf)]))
  obtain ⟨c297, Ar297, -, S297, N297, H297, -⟩ := id (AO.ext f295.2)
  have hin297 : ¬ ((own_of ((mm / 100) % 100)) < 0 ∨ c297.slots.size ≤ ((own_of ((mm / 100) % 100))).toNatClampNeg) := inb_of S297 (own_in100 (show ((mm / 100) % 100) < 100 by omega))
  refine Run.pre (X296.baloadBytes hx (j := (own_of ((mm / 100) % 100))) (v := (.int (own_of (48 + ((mm / 100) % 100) % 10)))) (by rw [e296]; exact Ar297.1) (State.isArrayOf_alike hZ.alike Ar297.2.1) Ar297.2.2 hin297 (H297.at hin297 (own_getO (show ((mm / 100) % 100) < 100 by omega))) (g := (mkF m 54 #[.val (.int (-(own_of ((mm / 100) / 100)))), .val (.int (7 : Int32)), .val (.ref bf), .val (.int (-(own_of ((mm / 100) / 100)))), .val (.int (own_of ((mm / 100) % 100))), .val (.int (4 : Int32)), .val (.int (0 : Int32))] [(.int (own_of ((mm / 100) % 100))), (.ref od), (.int (4 : Int32)), (.ref bf)])) rfl rfl (hb hby d10_54)) ?_
  show Run p e below s _ _ _ (T296.setTop (mkF m 55 #[.val (.int (-(own_of ((mm / 100) / 100)))), .val (.int (7 : Int32)), .val (.ref bf), .val (.int (-(own_of ((mm / 100) / 100)))), .val (.int (own_of ((mm / 100) % 100))), .val (.int (4 : Int32)), .val (.int (0 : Int32))] [(.int (own_of (48 + ((mm / 100) % 100) % 10))), (.int (4 : Int32)), (.ref bf)]))
  obtain ⟨c298, Ar298, q298, S298, N298, H298, G298⟩ := id V_bf_294
  have hin298 : ¬ ((4 : Int32) < 0 ∨ c298.slots.size ≤ ((4 : Int32)).toNatClampNeg) := inb_of S298 ⟨by decide, by decide⟩
  obtain ⟨T299, h299, X299, e299, W299, st299⟩ := stB X296 hx hZ e296 Ar298 (j := (4 : Int32)) hin298 (g := (mkF m 55 #[.val (.int (-(own_of ((mm / 100) / 100)))), .val (.int (7 : Int32)), .val (.ref bf), .val (.int (-(own_of ((mm / 100) / 100)))), .val (.int (own_of ((mm / 100) % 100))), .val (.int (4 : Int32)), .val (.int (0 : Int32))] [(.int (own_of (48 + ((mm / 100) % 100) % 10))), (.int (4 : Int32)), (.ref bf)])) rfl rfl (hb hby d10_55)
  refine Run.pre st299 ?_
  have V_bf_299 : Arv Z h299 bf kb .byte (7 : Int32) [(.int (0 : Int32)), (.int (0 : Int32)), (.int (0 : Int32)), (.int (0 : Int32)), (.int (nar .byte (own_of (48 + ((mm / 100) % 100) % 10)))), (.int (nar .byte (own_of (48 + (mm % 100) / 10)))), (.int (nar .byte (own_of (48 + (mm % 100) % 10))))] (.int (0 : Int32)) := Arv.set Ar298 q298 S298 N298 H298 G298 (fits_nar_byte _) W299 4 rfl (Nat.le_of_ble_eq_true rfl)
  have K299 : Keep h0 h299 [bf] := K294.wr W299 (Or.inl (by simp))
  have N299 := Fr.snoc X299 N294 g_bf
  refine Run.pre (fun _ k => XS.aloadN X299.here hx rfl (hb hby d10_56) rfl rfl k) ?_
  show Run p e below s _ _ _ (T299.setTop (mkF m 57 #[.val (.int (-(own_of ((mm / 100) / 100)))), .val (.int (7 : Int32)), .val (.ref bf), .val (.int (-(own_of ((mm / 100) / 100)))), .val (.int (own_of ((mm / 100) % 100))), .val (.int (4 : Int32)), .val (.int (0 : Int32))] [(.ref bf)]))
  refine Run.pre (fun _ k => XS.iinc X299.here hx rfl (hb hby d10_57) rfl (l' := #[.val (.int (-(own_of ((mm / 100) / 100)))), .val (.int (7 : Int32)), .val (.ref bf), .val (.int (-(own_of ((mm / 100) / 100)))), .val (.int (own_of ((mm / 100) % 100))), .val (.int (3 : Int32)), .val (.int (0 : Int32))]) rfl k) ?_
  refine Run.pre (fun _ k => XS.iload X299.here hx rfl (hb hby d10_60) rfl  k) ?_
  show Run p e below s _ _ _ (T299.setTop (mkF m 62 #[.val (.int (-(own_of ((mm / 100) / 100)))), .val (.int (7 : Int32)), .val (.ref bf), .val (.int (-(own_of ((mm / 100) / 100)))), .val (.int (own_of ((mm / 100) % 100))), .val (.int (3 : Int32)), .val (.int (0 : Int32))] [(.int (3 : Int32)), (.ref bf)]))
  have f300 := (f295.wr W299 g_bf)
  obtain ⟨T301, X301, e301, st301⟩ := getS2 X299 hx hZ hown (host := "") (Or.inl (hw _ (List.mem_of_getElem? (i := 58) rfl))) Via.refl e299 (ST.ext f300.2) (g := (mkF m 62 #[.val (.int (-(own_of ((mm / 100) / 100)))), .val (.int (7 : Int32)), .val (.ref bf), .val (.int (-(own_of ((mm / 100) / 100)))), .val (.int (own_of ((mm / 100) % 100))), .val (.int (3 : Int32)), .val (.int (0 : Int32))] [(.int (3 : Int32)), (.ref bf)])) rfl (hb hby d10_62)
  refine Run.pre st301 ?_
  refine Run.pre (fun _ k => XS.iload X301.here hx rfl (hb hby d10_65) rfl  k) ?_
  show Run p e below s _ _ _ (T301.setTop (mkF m 67 #[.val (.int (-(own_of ((mm / 100) / 100)))), .val (.int (7 : Int32)), .val (.ref bf), .val (.int (-(own_of ((mm / 100) / 100)))), .val (.int (own_of ((mm / 100) % 100))), .val (.int (3 : Int32)), .val (.int (0 : Int32))] [(.int (own_of ((mm / 100) % 100))), (.ref td), (.int (3 : Int32)), (.ref bf)]))
  obtain ⟨c302, Ar302, -, S302, N302, H302, -⟩ := id (AT.ext f300.2)
  have hin302 : ¬ ((own_of ((mm / 100) % 100)) < 0 ∨ c302.slots.size ≤ ((own_of ((mm / 100) % 100))).toNatClampNeg) := inb_of S302 (own_in100 (show ((mm / 100) % 100) < 100 by omega))
  refine Run.pre (X301.baloadBytes hx (j := (own_of ((mm / 100) % 100))) (v := (.int (own_of (48 + ((mm / 100) % 100) / 10)))) (by rw [e301]; exact Ar302.1) (State.isArrayOf_alike hZ.alike Ar302.2.1) Ar302.2.2 hin302 (H302.at hin302 (own_getT (show ((mm / 100) % 100) < 100 by omega))) (g := (mkF m 67 #[.val (.int (-(own_of ((mm / 100) / 100)))), .val (.int (7 : Int32)), .val (.ref bf), .val (.int (-(own_of ((mm / 100) / 100)))), .val (.int (own_of ((mm / 100) % 100))), .val (.int (3 : Int32)), .val (.int (0 : Int32))] [(.int (own_of ((mm / 100) % 100))), (.ref td), (.int (3 : Int32)), (.ref bf)])) rfl rfl (hb hby d10_67)) ?_
  show Run p e below s _ _ _ (T301.setTop (mkF m 68 #[.val (.int (-(own_of ((mm / 100) / 100)))), .val (.int (7 : Int32)), .val (.ref bf), .val (.int (-(own_of ((mm / 100) / 100)))), .val (.int (own_of ((mm / 100) % 100))), .val (.int (3 : Int32)), .val (.int (0 : Int32))] [(.int (own_of (48 + ((mm / 100) % 100) / 10))), (.int (3 : Int32)), (.ref bf)]))
  obtain ⟨c303, Ar303, q303, S303, N303, H303, G303⟩ := id V_bf_299
  have hin303 : ¬ ((3 : Int32) < 0 ∨ c303.slots.size ≤ ((3 : Int32)).toNatClampNeg) := inb_of S303 ⟨by decide, by decide⟩
  obtain ⟨T304, h304, X304, e304, W304, st304⟩ := stB X301 hx hZ e301 Ar303 (j := (3 : Int32)) hin303 (g := (mkF m 68 #[.val (.int (-(own_of ((mm / 100) / 100)))), .val (.int (7 : Int32)), .val (.ref bf), .val (.int (-(own_of ((mm / 100) / 100)))), .val (.int (own_of ((mm / 100) % 100))), .val (.int (3 : Int32)), .val (.int (0 : Int32))] [(.int (own_of (48 + ((mm / 100) % 100) / 10))), (.int (3 : Int32)), (.ref bf)])) rfl rfl (hb hby d10_68)
  refine Run.pre st304 ?_
  have V_bf_304 : Arv Z h304 bf kb .byte (7 : Int32) [(.int (0 : Int32)), (.int (0 : Int32)), (.int (0 : Int32)), (.int (nar .byte (own_of (48 + ((mm / 100) % 100) / 10)))), (.int (nar .byte (own_of (48 + ((mm / 100) % 100) % 10)))), (.int (nar .byte (own_of (48 + (mm % 100) / 10)))), (.int (nar .byte (own_of (48 + (mm % 100) % 10))))] (.int (0 : Int32)) := Arv.set Ar303 q303 S303 N303 H303 G303 (fits_nar_byte _) W304 3 rfl (Nat.le_of_ble_eq_true rfl)
  have K304 : Keep h0 h304 [bf] := K299.wr W304 (Or.inl (by simp))
  have N304 := Fr.snoc X304 N299 g_bf
  refine Run.pre (fun _ k => XS.goto X304.here hx rfl (pc0 := 69) (pc' := 22) rfl (hb hby d10_69) (by decide) (by decide) k) ?_
  refine Run.pre (fun _ k => XS.iloadN X304.here hx rfl (hb hby d10_22) rfl  k) ?_
  refine Run.pre (fun _ k => XS.bipush X304.here hx rfl (hb hby d10_23) k) ?_
  show Run p e below s _ _ _ (T304.setTop (mkF m 25 #[.val (.int (-(own_of ((mm / 100) / 100)))), .val (.int (7 : Int32)), .val (.ref bf), .val (.int (-(own_of ((mm / 100) / 100)))), .val (.int (own_of ((mm / 100) % 100))), .val (.int (3 : Int32)), .val (.int (0 : Int32))] [(.int (-100 : Int32)), (.int (-(own_of ((mm / 100) / 100))))]))
  refine Run.pre (fun _ k => XS.icmpNo X304.here hx rfl (hb hby d10_25) rfl (flt ((own_nltng (show ((mm / 100) / 100) < 2147483648 by omega) (by have e : ((-100 : Int32)).toInt = -100 := (by decide); omega)) : ¬ ((-100 : Int32) < (-(own_of ((mm / 100) / 100)))))).2.2.1 k) ?_
  refine Run.pre (fun _ k => XS.iloadN X304.here hx rfl (hb hby d10_28) rfl  k) ?_
  refine Run.pre (fun _ k => XS.bipush X304.here hx rfl (hb hby d10_29) k) ?_
  show Run p e below s _ _ _ (T304.setTop (mkF m 31 #[.val (.int (-(own_of ((mm / 100) / 100)))), .val (.int (7 : Int32)), .val (.ref bf), .val (.int (-(own_of ((mm / 100) / 100)))), .val (.int (own_of ((mm / 100) % 100))), .val (.int (3 : Int32)), .val (.int (0 : Int32))] [(.int (100 : Int32)), (.int (-(own_of ((mm / 100) / 100))))]))
  refine Run.pre (fun _ k => XS.idiv X304.here hx rfl (hb hby d10_31) rfl (by decide) k) ?_
  show Run p e below s _ _ _ (T304.setTop (mkF m 32 #[.val (.int (-(own_of ((mm / 100) / 100)))), .val (.int (7 : Int32)), .val (.ref bf), .val (.int (-(own_of ((mm / 100) / 100)))), .val (.int (own_of ((mm / 100) % 100))), .val (.int (3 : Int32)), .val (.int (0 : Int32))] [(.int ((-(own_of ((mm / 100) / 100))) / (100 : Int32)))]))
  refine Run.pre (fun _ k => XS.istoreN X304.here hx rfl (hb hby d10_32) rfl (l' := #[.val (.int (-(own_of ((mm / 100) / 100)))), .val (.int (7 : Int32)), .val (.ref bf), .val (.int ((-(own_of ((mm / 100) / 100))) / (100 : Int32))), .val (.int (own_of ((mm / 100) % 100))), .val (.int (3 : Int32)), .val (.int (0 : Int32))]) rfl k) ?_
  refine Run.pre (fun _ k => XS.iloadN X304.here hx rfl (hb hby d10_33) rfl  k) ?_
  refine Run.pre (fun _ k => XS.bipush X304.here hx rfl (hb hby d10_34) k) ?_
  show Run p e below s _ _ _ (T304.setTop (mkF m 36 #[.val (.int (-(own_of ((mm / 100) / 100)))), .val (.int (7 : Int32)), .val (.ref bf), .val (.int ((-(own_of ((mm / 100) / 100))) / (100 : Int32))), .val (.int (own_of ((mm / 100) % 100))), .val (.int (3 : Int32)), .val (.int (0 : Int32))] [(.int (100 : Int32)), (.int ((-(own_of ((mm / 100) / 100))) / (100 : Int32)))]))
  refine Run.pre (fun _ k => XS.imul X304.here hx rfl (hb hby d10_36) rfl k) ?_
  refine Run.pre (fun _ k => XS.iloadN X304.here hx rfl (hb hby d10_37) rfl  k) ?_
  show Run p e below s _ _ _ (T304.setTop (mkF m 38 #[.val (.int (-(own_of ((mm / 100) / 100)))), .val (.int (7 : Int32)), .val (.ref bf), .val (.int ((-(own_of ((mm / 100) / 100))) / (100 : Int32))), .val (.int (own_of ((mm / 100) % 100))), .val (.int (3 : Int32)), .val (.int (0 : Int32))] [(.int (-(own_of ((mm / 100) / 100)))), (.int (((-(own_of ((mm / 100) / 100))) / (100 : Int32)) * (100 : Int32)))]))
  refine Run.pre (fun _ k => XS.isub X304.here hx rfl (hb hby d10_38) rfl k) ?_
  show Run p e below s _ _ _ (T304.setTop (mkF m 39 #[.val (.int (-(own_of ((mm / 100) / 100)))), .val (.int (7 : Int32)), .val (.ref bf), .val (.int ((-(own_of ((mm / 100) / 100))) / (100 : Int32))), .val (.int (own_of ((mm / 100) % 100))), .val (.int (3 : Int32)), .val (.int (0 : Int32))] [(.int ((((-(own_of ((mm / 100) / 100))) / (100 : Int32)) * (100 : Int32)) - (-(own_of ((mm / 100) / 100)))))]))
  refine Run.pre (fun _ k => XS.istore X304.here hx rfl (hb hby d10_39) rfl (l' := #[.val (.int (-(own_of ((mm / 100) / 100)))), .val (.int (7 : Int32)), .val (.ref bf), .val (.int ((-(own_of ((mm / 100) / 100))) / (100 : Int32))), .val (.int ((((-(own_of ((mm / 100) / 100))) / (100 : Int32)) * (100 : Int32)) - (-(own_of ((mm / 100) / 100))))), .val (.int (3 : Int32)), .val (.int (0 : Int32))]) rfl k) ?_
  refine Run.pre (fun _ k => XS.iloadN X304.here hx rfl (hb hby d10_41) rfl  k) ?_
  show Run p e below s _ _ _ (T304.setTop (mkF m 42 #[.val (.int (-(own_of ((mm / 100) / 100)))), .val (.int (7 : Int32)), .val (.ref bf), .val (.int ((-(own_of ((mm / 100) / 100))) / (100 : Int32))), .val (.int ((((-(own_of ((mm / 100) / 100))) / (100 : Int32)) * (100 : Int32)) - (-(own_of ((mm / 100) / 100))))), .val (.int (3 : Int32)), .val (.int (0 : Int32))] [(.int ((-(own_of ((mm / 100) / 100))) / (100 : Int32)))]))
  refine Run.pre (fun _ k => XS.istoreN X304.here hx rfl (hb hby d10_42) rfl (l' := #[.val (.int ((-(own_of ((mm / 100) / 100))) / (100 : Int32))), .val (.int (7 : Int32)), .val (.ref bf), .val (.int ((-(own_of ((mm / 100) / 100))) / (100 : Int32))), .val (.int ((((-(own_of ((mm / 100) / 100))) / (100 : Int32)) * (100 : Int32)) - (-(own_of ((mm / 100) / 100))))), .val (.int (3 : Int32)), .val (.int (0 : Int32))]) rfl k) ?_
  show Run p e below s _ _ _ (T304.setTop (mkF m 43 #[.val (.int ((-(own_of ((mm / 100) / 100))) / (100 : Int32))), .val (.int (7 : Int32)), .val (.ref bf), .val (.int ((-(own_of ((mm / 100) / 100))) / (100 : Int32))), .val (.int ((((-(own_of ((mm / 100) / 100))) / (100 : Int32)) * (100 : Int32)) - (-(own_of ((mm / 100) / 100))))), .val (.int (3 : Int32)), .val (.int (0 : Int32))] []))
  rw [own_div (show ((mm / 100) / 100) < 2147483648 by omega), own_rem (show ((mm / 100) / 100) < 2147483648 by omega)]
  refine Run.pre (fun _ k => XS.aloadN X304.here hx rfl (hb hby d10_43) rfl rfl k) ?_
  show Run p e below s _ _ _ (T304.setTop (mkF m 44 #[.val (.int (-(own_of (((mm / 100) / 100) / 100)))), .val (.int (7 : Int32)), .val (.ref bf), .val (.int (-(own_of (((mm / 100) / 100) / 100)))), .val (.int (own_of (((mm / 100) / 100) % 100))), .val (.int (3 : Int32)), .val (.int (0 : Int32))] [(.ref bf)]))
  refine Run.pre (fun _ k => XS.iinc X304.here hx rfl (hb hby d10_44) rfl (l' := #[.val (.int (-(own_of (((mm / 100) / 100) / 100)))), .val (.int (7 : Int32)), .val (.ref bf), .val (.int (-(own_of (((mm / 100) / 100) / 100)))), .val (.int (own_of (((mm / 100) / 100) % 100))), .val (.int (2 : Int32)), .val (.int (0 : Int32))]) rfl k) ?_
  refine Run.pre (fun _ k => XS.iload X304.here hx rfl (hb hby d10_47) rfl  k) ?_
  show Run p e below s _ _ _ (T304.setTop (mkF m 49 #[.val (.int (-(own_of (((mm / 100) / 100) / 100)))), .val (.int (7 : Int32)), .val (.ref bf), .val (.int (-(own_of (((mm / 100) / 100) / 100)))), .val (.int (own_of (((mm / 100) / 100) % 100))), .val (.int (2 : Int32)), .val (.int (0 : Int32))] [(.int (2 : Int32)), (.ref bf)]))
  have f305 := (f300.wr W304 g_bf)
  obtain ⟨T306, X306, e306, st306⟩ := getS2 X304 hx hZ hown (host := "") (Or.inl (hw _ (List.mem_of_getElem? (i := 57) rfl))) Via.refl e304 (SO.ext f305.2) (g := (mkF m 49 #[.val (.int (-(own_of (((mm / 100) / 100) / 100)))), .val (.int (7 : Int32)), .val (.ref bf), .val (.int (-(own_of (((mm / 100) / 100) / 100)))), .val (.int (own_of (((mm / 100) / 100) % 100))), .val (.int (2 : Int32)), .val (.int (0 : Int32))] [(.int (2 : Int32)), (.ref bf)])) rfl (hb hby d10_49)
  refine Run.pre st306 ?_
  refine Run.pre (fun _ k => XS.iload X306.here hx rfl (hb hby d10_52) rfl  k) ?_
  show Run p e below s _ _ _ (T306.setTop (mkF m 54 #[.val (.int (-(own_of (((mm / 100) / 100) / 100)))), .val (.int (7 : Int32)), .val (.ref bf), .val (.int (-(own_of (((mm / 100) / 100) / 100)))), .val (.int (own_of (((mm / 100) / 100) % 100))), .val (.int (2 : Int32)), .val (.int (0 : Int32))] [(.int (own_of (((mm / 100) / 100) % 100))), (.ref od), (.int (2 : Int32)), (.ref bf)]))
  obtain ⟨c307, Ar307, -, S307, N307, H307, -⟩ := id (AO.ext f305.2)
  have hin307 : ¬ ((own_of (((mm / 100) / 100) % 100)) < 0 ∨ c307.slots.size ≤ ((own_of (((mm / 100) / 100) % 100))).toNatClampNeg) := inb_of S307 (own_in100 (show (((mm / 100) / 100) % 100) < 100 by omega))
  refine Run.pre (X306.baloadBytes hx (j := (own_of (((mm / 100) / 100) % 100))) (v := (.int (own_of (48 + (((mm / 100) / 100) % 100) % 10)))) (by rw [e306]; exact Ar307.1) (State.isArrayOf_alike hZ.alike Ar307.2.1) Ar307.2.2 hin307 (H307.at hin307 (own_getO (show (((mm / 100) / 100) % 100) < 100 by omega))) (g := (mkF m 54 #[.val (.int (-(own_of (((mm / 100) / 100) / 100)))), .val (.int (7 : Int32)), .val (.ref bf), .val (.int (-(own_of (((mm / 100) / 100) / 100)))), .val (.int (own_of (((mm / 100) / 100) % 100))), .val (.int (2 : Int32)), .val (.int (0 : Int32))] [(.int (own_of (((mm / 100) / 100) % 100))), (.ref od), (.int (2 : Int32)), (.ref bf)])) rfl rfl (hb hby d10_54)) ?_
  show Run p e below s _ _ _ (T306.setTop (mkF m 55 #[.val (.int (-(own_of (((mm / 100) / 100) / 100)))), .val (.int (7 : Int32)), .val (.ref bf), .val (.int (-(own_of (((mm / 100) / 100) / 100)))), .val (.int (own_of (((mm / 100) / 100) % 100))), .val (.int (2 : Int32)), .val (.int (0 : Int32))] [(.int (own_of (48 + (((mm / 100) / 100) % 100) % 10))), (.int (2 : Int32)), (.ref bf)]))
  obtain ⟨c308, Ar308, q308, S308, N308, H308, G308⟩ := id V_bf_304
  have hin308 : ¬ ((2 : Int32) < 0 ∨ c308.slots.size ≤ ((2 : Int32)).toNatClampNeg) := inb_of S308 ⟨by decide, by decide⟩
  obtain ⟨T309, h309, X309, e309, W309, st309⟩ := stB X306 hx hZ e306 Ar308 (j := (2 : Int32)) hin308 (g := (mkF m 55 #[.val (.int (-(own_of (((mm / 100) / 100) / 100)))), .val (.int (7 : Int32)), .val (.ref bf), .val (.int (-(own_of (((mm / 100) / 100) / 100)))), .val (.int (own_of (((mm / 100) / 100) % 100))), .val (.int (2 : Int32)), .val (.int (0 : Int32))] [(.int (own_of (48 + (((mm / 100) / 100) % 100) % 10))), (.int (2 : Int32)), (.ref bf)])) rfl rfl (hb hby d10_55)
  refine Run.pre st309 ?_
  have V_bf_309 : Arv Z h309 bf kb .byte (7 : Int32) [(.int (0 : Int32)), (.int (0 : Int32)), (.int (nar .byte (own_of (48 + (((mm / 100) / 100) % 100) % 10)))), (.int (nar .byte (own_of (48 + ((mm / 100) % 100) / 10)))), (.int (nar .byte (own_of (48 + ((mm / 100) % 100) % 10)))), (.int (nar .byte (own_of (48 + (mm % 100) / 10)))), (.int (nar .byte (own_of (48 + (mm % 100) % 10))))] (.int (0 : Int32)) := Arv.set Ar308 q308 S308 N308 H308 G308 (fits_nar_byte _) W309 2 rfl (Nat.le_of_ble_eq_true rfl)
  have K309 : Keep h0 h309 [bf] := K304.wr W309 (Or.inl (by simp))
  have N309 := Fr.snoc X309 N304 g_bf
  refine Run.pre (fun _ k => XS.aloadN X309.here hx rfl (hb hby d10_56) rfl rfl k) ?_
  show Run p e below s _ _ _ (T309.setTop (mkF m 57 #[.val (.int (-(own_of (((mm / 100) / 100) / 100)))), .val (.int (7 : Int32)), .val (.ref bf), .val (.int (-(own_of (((mm / 100) / 100) / 100)))), .val (.int (own_of (((mm / 100) / 100) % 100))), .val (.int (2 : Int32)), .val (.int (0 : Int32))] [(.ref bf)]))
  refine Run.pre (fun _ k => XS.iinc X309.here hx rfl (hb hby d10_57) rfl (l' := #[.val (.int (-(own_of (((mm / 100) / 100) / 100)))), .val (.int (7 : Int32)), .val (.ref bf), .val (.int (-(own_of (((mm / 100) / 100) / 100)))), .val (.int (own_of (((mm / 100) / 100) % 100))), .val (.int (1 : Int32)), .val (.int (0 : Int32))]) rfl k) ?_
  refine Run.pre (fun _ k => XS.iload X309.here hx rfl (hb hby d10_60) rfl  k) ?_
  show Run p e below s _ _ _ (T309.setTop (mkF m 62 #[.val (.int (-(own_of (((mm / 100) / 100) / 100)))), .val (.int (7 : Int32)), .val (.ref bf), .val (.int (-(own_of (((mm / 100) / 100) / 100)))), .val (.int (own_of (((mm / 100) / 100) % 100))), .val (.int (1 : Int32)), .val (.int (0 : Int32))] [(.int (1 : Int32)), (.ref bf)]))
  have f310 := (f305.wr W309 g_bf)
  obtain ⟨T311, X311, e311, st311⟩ := getS2 X309 hx hZ hown (host := "") (Or.inl (hw _ (List.mem_of_getElem? (i := 58) rfl))) Via.refl e309 (ST.ext f310.2) (g := (mkF m 62 #[.val (.int (-(own_of (((mm / 100) / 100) / 100)))), .val (.int (7 : Int32)), .val (.ref bf), .val (.int (-(own_of (((mm / 100) / 100) / 100)))), .val (.int (own_of (((mm / 100) / 100) % 100))), .val (.int (1 : Int32)), .val (.int (0 : Int32))] [(.int (1 : Int32)), (.ref bf)])) rfl (hb hby d10_62)
  refine Run.pre st311 ?_
  refine Run.pre (fun _ k => XS.iload X311.here hx rfl (hb hby d10_65) rfl  k) ?_
  show Run p e below s _ _ _ (T311.setTop (mkF m 67 #[.val (.int (-(own_of (((mm / 100) / 100) / 100)))), .val (.int (7 : Int32)), .val (.ref bf), .val (.int (-(own_of (((mm / 100) / 100) / 100)))), .val (.int (own_of (((mm / 100) / 100) % 100))), .val (.int (1 : Int32)), .val (.int (0 : Int32))] [(.int (own_of (((mm / 100) / 100) % 100))), (.ref td), (.int (1 : Int32)), (.ref bf)]))
  obtain ⟨c312, Ar312, -, S312, N312, H312, -⟩ := id (AT.ext f310.2)
  have hin312 : ¬ ((own_of (((mm / 100) / 100) % 100)) < 0 ∨ c312.slots.size ≤ ((own_of (((mm / 100) / 100) % 100))).toNatClampNeg) := inb_of S312 (own_in100 (show (((mm / 100) / 100) % 100) < 100 by omega))
  refine Run.pre (X311.baloadBytes hx (j := (own_of (((mm / 100) / 100) % 100))) (v := (.int (own_of (48 + (((mm / 100) / 100) % 100) / 10)))) (by rw [e311]; exact Ar312.1) (State.isArrayOf_alike hZ.alike Ar312.2.1) Ar312.2.2 hin312 (H312.at hin312 (own_getT (show (((mm / 100) / 100) % 100) < 100 by omega))) (g := (mkF m 67 #[.val (.int (-(own_of (((mm / 100) / 100) / 100)))), .val (.int (7 : Int32)), .val (.ref bf), .val (.int (-(own_of (((mm / 100) / 100) / 100)))), .val (.int (own_of (((mm / 100) / 100) % 100))), .val (.int (1 : Int32)), .val (.int (0 : Int32))] [(.int (own_of (((mm / 100) / 100) % 100))), (.ref td), (.int (1 : Int32)), (.ref bf)])) rfl rfl (hb hby d10_67)) ?_
  show Run p e below s _ _ _ (T311.setTop (mkF m 68 #[.val (.int (-(own_of (((mm / 100) / 100) / 100)))), .val (.int (7 : Int32)), .val (.ref bf), .val (.int (-(own_of (((mm / 100) / 100) / 100)))), .val (.int (own_of (((mm / 100) / 100) % 100))), .val (.int (1 : Int32)), .val (.int (0 : Int32))] [(.int (own_of (48 + (((mm / 100) / 100) % 100) / 10))), (.int (1 : Int32)), (.ref bf)]))
  obtain ⟨c313, Ar313, q313, S313, N313, H313, G313⟩ := id V_bf_309
  have hin313 : ¬ ((1 : Int32) < 0 ∨ c313.slots.size ≤ ((1 : Int32)).toNatClampNeg) := inb_of S313 ⟨by decide, by decide⟩
  obtain ⟨T314, h314, X314, e314, W314, st314⟩ := stB X311 hx hZ e311 Ar313 (j := (1 : Int32)) hin313 (g := (mkF m 68 #[.val (.int (-(own_of (((mm / 100) / 100) / 100)))), .val (.int (7 : Int32)), .val (.ref bf), .val (.int (-(own_of (((mm / 100) / 100) / 100)))), .val (.int (own_of (((mm / 100) / 100) % 100))), .val (.int (1 : Int32)), .val (.int (0 : Int32))] [(.int (own_of (48 + (((mm / 100) / 100) % 100) / 10))), (.int (1 : Int32)), (.ref bf)])) rfl rfl (hb hby d10_68)
  refine Run.pre st314 ?_
  have V_bf_314 : Arv Z h314 bf kb .byte (7 : Int32) [(.int (0 : Int32)), (.int (nar .byte (own_of (48 + (((mm / 100) / 100) % 100) / 10)))), (.int (nar .byte (own_of (48 + (((mm / 100) / 100) % 100) % 10)))), (.int (nar .byte (own_of (48 + ((mm / 100) % 100) / 10)))), (.int (nar .byte (own_of (48 + ((mm / 100) % 100) % 10)))), (.int (nar .byte (own_of (48 + (mm % 100) / 10)))), (.int (nar .byte (own_of (48 + (mm % 100) % 10))))] (.int (0 : Int32)) := Arv.set Ar313 q313 S313 N313 H313 G313 (fits_nar_byte _) W314 1 rfl (Nat.le_of_ble_eq_true rfl)
  have K314 : Keep h0 h314 [bf] := K309.wr W314 (Or.inl (by simp))
  have N314 := Fr.snoc X314 N309 g_bf
  refine Run.pre (fun _ k => XS.goto X314.here hx rfl (pc0 := 69) (pc' := 22) rfl (hb hby d10_69) (by decide) (by decide) k) ?_
  refine Run.pre (fun _ k => XS.iloadN X314.here hx rfl (hb hby d10_22) rfl  k) ?_
  refine Run.pre (fun _ k => XS.bipush X314.here hx rfl (hb hby d10_23) k) ?_
  show Run p e below s _ _ _ (T314.setTop (mkF m 25 #[.val (.int (-(own_of (((mm / 100) / 100) / 100)))), .val (.int (7 : Int32)), .val (.ref bf), .val (.int (-(own_of (((mm / 100) / 100) / 100)))), .val (.int (own_of (((mm / 100) / 100) % 100))), .val (.int (1 : Int32)), .val (.int (0 : Int32))] [(.int (-100 : Int32)), (.int (-(own_of (((mm / 100) / 100) / 100))))]))
  refine Run.pre (fun _ k => XS.icmpYes X314.here hx rfl (pc0 := 25) (pc' := 72) rfl (hb hby d10_25) rfl (tlt ((own_ltng (show (((mm / 100) / 100) / 100) < 2147483648 by omega) (by have e : ((-100 : Int32)).toInt = -100 := (by decide); omega)) : (-100 : Int32) < (-(own_of (((mm / 100) / 100) / 100))))).2.2.1 (by decide) (by decide) k) ?_
  refine Run.pre (fun _ k => XS.aloadN X314.here hx rfl (hb hby d10_72) rfl rfl k) ?_
  show Run p e below s _ _ _ (T314.setTop (mkF m 73 #[.val (.int (-(own_of (((mm / 100) / 100) / 100)))), .val (.int (7 : Int32)), .val (.ref bf), .val (.int (-(own_of (((mm / 100) / 100) / 100)))), .val (.int (own_of (((mm / 100) / 100) % 100))), .val (.int (1 : Int32)), .val (.int (0 : Int32))] [(.ref bf)]))
  refine Run.pre (fun _ k => XS.iinc X314.here hx rfl (hb hby d10_73) rfl (l' := #[.val (.int (-(own_of (((mm / 100) / 100) / 100)))), .val (.int (7 : Int32)), .val (.ref bf), .val (.int (-(own_of (((mm / 100) / 100) / 100)))), .val (.int (own_of (((mm / 100) / 100) % 100))), .val (.int (0 : Int32)), .val (.int (0 : Int32))]) rfl k) ?_
  refine Run.pre (fun _ k => XS.iload X314.here hx rfl (hb hby d10_76) rfl  k) ?_
  show Run p e below s _ _ _ (T314.setTop (mkF m 78 #[.val (.int (-(own_of (((mm / 100) / 100) / 100)))), .val (.int (7 : Int32)), .val (.ref bf), .val (.int (-(own_of (((mm / 100) / 100) / 100)))), .val (.int (own_of (((mm / 100) / 100) % 100))), .val (.int (0 : Int32)), .val (.int (0 : Int32))] [(.int (0 : Int32)), (.ref bf)]))
  have f315 := (f310.wr W314 g_bf)
  obtain ⟨T316, X316, e316, st316⟩ := getS2 X314 hx hZ hown (host := "") (Or.inl (hw _ (List.mem_of_getElem? (i := 57) rfl))) Via.refl e314 (SO.ext f315.2) (g := (mkF m 78 #[.val (.int (-(own_of (((mm / 100) / 100) / 100)))), .val (.int (7 : Int32)), .val (.ref bf), .val (.int (-(own_of (((mm / 100) / 100) / 100)))), .val (.int (own_of (((mm / 100) / 100) % 100))), .val (.int (0 : Int32)), .val (.int (0 : Int32))] [(.int (0 : Int32)), (.ref bf)])) rfl (hb hby d10_78)
  refine Run.pre st316 ?_
  refine Run.pre (fun _ k => XS.iloadN X316.here hx rfl (hb hby d10_81) rfl  k) ?_
  show Run p e below s _ _ _ (T316.setTop (mkF m 82 #[.val (.int (-(own_of (((mm / 100) / 100) / 100)))), .val (.int (7 : Int32)), .val (.ref bf), .val (.int (-(own_of (((mm / 100) / 100) / 100)))), .val (.int (own_of (((mm / 100) / 100) % 100))), .val (.int (0 : Int32)), .val (.int (0 : Int32))] [(.int (-(own_of (((mm / 100) / 100) / 100)))), (.ref od), (.int (0 : Int32)), (.ref bf)]))
  refine Run.pre (fun _ k => XS.ineg X316.here hx rfl (hb hby d10_82) rfl k) ?_
  show Run p e below s _ _ _ (T316.setTop (mkF m 83 #[.val (.int (-(own_of (((mm / 100) / 100) / 100)))), .val (.int (7 : Int32)), .val (.ref bf), .val (.int (-(own_of (((mm / 100) / 100) / 100)))), .val (.int (own_of (((mm / 100) / 100) % 100))), .val (.int (0 : Int32)), .val (.int (0 : Int32))] [(.int (-(-(own_of (((mm / 100) / 100) / 100))))), (.ref od), (.int (0 : Int32)), (.ref bf)]))
  obtain ⟨c317, Ar317, -, S317, N317, H317, -⟩ := id (AO.ext f315.2)
  have hin317 : ¬ ((-(-(own_of (((mm / 100) / 100) / 100)))) < 0 ∨ c317.slots.size ≤ ((-(-(own_of (((mm / 100) / 100) / 100))))).toNatClampNeg) := inb_of S317 (by rw [Int32.neg_neg]; exact own_in100 (show (((mm / 100) / 100) / 100) < 100 by omega))
  refine Run.pre (X316.baloadBytes hx (j := (-(-(own_of (((mm / 100) / 100) / 100))))) (v := (.int (own_of (48 + (((mm / 100) / 100) / 100) % 10)))) (by rw [e316]; exact Ar317.1) (State.isArrayOf_alike hZ.alike Ar317.2.1) Ar317.2.2 hin317 (H317.at hin317 (by rw [Int32.neg_neg]; exact own_getO (show (((mm / 100) / 100) / 100) < 100 by omega))) (g := (mkF m 83 #[.val (.int (-(own_of (((mm / 100) / 100) / 100)))), .val (.int (7 : Int32)), .val (.ref bf), .val (.int (-(own_of (((mm / 100) / 100) / 100)))), .val (.int (own_of (((mm / 100) / 100) % 100))), .val (.int (0 : Int32)), .val (.int (0 : Int32))] [(.int (-(-(own_of (((mm / 100) / 100) / 100))))), (.ref od), (.int (0 : Int32)), (.ref bf)])) rfl rfl (hb hby d10_83)) ?_
  show Run p e below s _ _ _ (T316.setTop (mkF m 84 #[.val (.int (-(own_of (((mm / 100) / 100) / 100)))), .val (.int (7 : Int32)), .val (.ref bf), .val (.int (-(own_of (((mm / 100) / 100) / 100)))), .val (.int (own_of (((mm / 100) / 100) % 100))), .val (.int (0 : Int32)), .val (.int (0 : Int32))] [(.int (own_of (48 + (((mm / 100) / 100) / 100) % 10))), (.int (0 : Int32)), (.ref bf)]))
  obtain ⟨c318, Ar318, q318, S318, N318, H318, G318⟩ := id V_bf_314
  have hin318 : ¬ ((0 : Int32) < 0 ∨ c318.slots.size ≤ ((0 : Int32)).toNatClampNeg) := inb_of S318 ⟨by decide, by decide⟩
  obtain ⟨T319, h319, X319, e319, W319, st319⟩ := stB X316 hx hZ e316 Ar318 (j := (0 : Int32)) hin318 (g := (mkF m 84 #[.val (.int (-(own_of (((mm / 100) / 100) / 100)))), .val (.int (7 : Int32)), .val (.ref bf), .val (.int (-(own_of (((mm / 100) / 100) / 100)))), .val (.int (own_of (((mm / 100) / 100) % 100))), .val (.int (0 : Int32)), .val (.int (0 : Int32))] [(.int (own_of (48 + (((mm / 100) / 100) / 100) % 10))), (.int (0 : Int32)), (.ref bf)])) rfl rfl (hb hby d10_84)
  refine Run.pre st319 ?_
  have V_bf_319 : Arv Z h319 bf kb .byte (7 : Int32) [(.int (nar .byte (own_of (48 + (((mm / 100) / 100) / 100) % 10)))), (.int (nar .byte (own_of (48 + (((mm / 100) / 100) % 100) / 10)))), (.int (nar .byte (own_of (48 + (((mm / 100) / 100) % 100) % 10)))), (.int (nar .byte (own_of (48 + ((mm / 100) % 100) / 10)))), (.int (nar .byte (own_of (48 + ((mm / 100) % 100) % 10)))), (.int (nar .byte (own_of (48 + (mm % 100) / 10)))), (.int (nar .byte (own_of (48 + (mm % 100) % 10))))] (.int (0 : Int32)) := Arv.set Ar318 q318 S318 N318 H318 G318 (fits_nar_byte _) W319 0 rfl (Nat.le_of_ble_eq_true rfl)
  have K319 : Keep h0 h319 [bf] := K314.wr W319 (Or.inl (by simp))
  have N319 := Fr.snoc X319 N314 g_bf
  refine Run.pre (fun _ k => XS.iloadN X319.here hx rfl (hb hby d10_85) rfl  k) ?_
  refine Run.pre (fun _ k => XS.bipush X319.here hx rfl (hb hby d10_86) k) ?_
  show Run p e below s _ _ _ (T319.setTop (mkF m 88 #[.val (.int (-(own_of (((mm / 100) / 100) / 100)))), .val (.int (7 : Int32)), .val (.ref bf), .val (.int (-(own_of (((mm / 100) / 100) / 100)))), .val (.int (own_of (((mm / 100) / 100) % 100))), .val (.int (0 : Int32)), .val (.int (0 : Int32))] [(.int (-9 : Int32)), (.int (-(own_of (((mm / 100) / 100) / 100))))]))
  refine Run.pre (fun _ k => XS.icmpYes X319.here hx rfl (pc0 := 88) (pc' := 104) rfl (hb hby d10_88) rfl (flt ((own_nnglt (show (((mm / 100) / 100) / 100) < 2147483648 by omega) (by have e : ((-9 : Int32)).toInt = -9 := (by decide); omega)) : ¬ ((-(own_of (((mm / 100) / 100) / 100))) < (-9 : Int32)))).2.1 (by decide) (by decide) k) ?_
  refine Run.pre (fun _ k => XS.iload X319.here hx rfl (hb hby d10_104) rfl  k) ?_
  show Run p e below s _ _ _ (T319.setTop (mkF m 106 #[.val (.int (-(own_of (((mm / 100) / 100) / 100)))), .val (.int (7 : Int32)), .val (.ref bf), .val (.int (-(own_of (((mm / 100) / 100) / 100)))), .val (.int (own_of (((mm / 100) / 100) % 100))), .val (.int (0 : Int32)), .val (.int (0 : Int32))] [(.int (0 : Int32))]))
  refine Run.pre (fun _ k => XS.ifYes X319.here hx rfl (pc0 := 106) (pc' := 118) rfl (hb hby d10_106) rfl ((if0 _ _).trans (teq ((by decide) : (0 : Int32) = (0 : Int32))).1) (by decide) (by decide) k) ?_
  refine Run.pre (fun _ k => XS.iload X319.here hx rfl (hb hby d10_118) rfl  k) ?_
  show Run p e below s _ _ _ (T319.setTop (mkF m 120 #[.val (.int (-(own_of (((mm / 100) / 100) / 100)))), .val (.int (7 : Int32)), .val (.ref bf), .val (.int (-(own_of (((mm / 100) / 100) / 100)))), .val (.int (own_of (((mm / 100) / 100) % 100))), .val (.int (0 : Int32)), .val (.int (0 : Int32))] [(.int (0 : Int32))]))
  exact Run.retI hS (by first | exact Nat.le_refl _ | (rw [e319]; exact (Nat.le_trans (Nat.le_trans (Nat.le_trans (Nat.le_trans (Nat.le_trans (Nat.le_trans (Nat.le_trans (Nat.zero_le _) (Keep.of_wr W289).1) (Keep.of_wr W294).1) (Keep.of_wr W299).1) (Keep.of_wr W304).1) (Keep.of_wr W309).1) (Keep.of_wr W314).1) (Keep.of_wr W319).1))) X319 hx hret hlk (hb hby d10_120) (by first | (rw [e319]; exact ⟨rfl, N319, K319, V_bf_319⟩) | exact ⟨rfl, N319, K319, V_bf_319⟩) (by decide) (by decide)
set_option maxRecDepth 65536 in
set_option maxHeartbeats 40000000 in
theorem rmTS_7 (l : Launch) (Z : State) (a0 : Array Value) (hw : ∀ d ∈ tables_1, d.before a0 Z = true) (mm : Nat) (cs : Int32) (od : Addr) (ko : ClassId) (td : Addr) (kt : ClassId) (h0 : Heap) (n0 : Nat) (Z0 : n0 ≤ h0.size) (OL : Old Z n0 h0) (hm : mm < 2147483648) (lo : 1000000 ≤ mm) (hi : mm < 10000000) (SC : Sta Z Z.heap "java/lang/String" "COMPACT_STRINGS" "Z" (.int cs)) (hcs : ¬ cs = 0) (SO : Sta Z Z.heap "java/lang/Integer" "DigitOnes" "[B" (.ref od)) (ST : Sta Z Z.heap "java/lang/Integer" "DigitTens" "[B" (.ref td)) (AO : Arv Z Z.heap od ko .byte 100 own_DO (.int 0)) (AT : Arv Z Z.heap td kt .byte 100 own_DT (.int 0)) :
    Con l (⟨"java/lang/Integer", "toString", "(I)Ljava/lang/String;"⟩ : MethodName) jdk_33_method_10_code 3 (some (.object "java/lang/String")) ({ frames := 2, cells := 2, slots := 11, locals := 27 } : Room) Z #[(.int (own_of mm))] h0 (fun _ => True) (fun v h L vm => ∃ o : Addr, ∃ b : Addr, ∃ k : ClassId, v = some (.ref o) ∧ Fr n0 L ∧ Keep h0 h [] ∧ h0.size ≤ o ∧ Exa Z h o "java/lang/String" ∧ Fld Z h o "java/lang/String" "value" "[B" (.ref b) ∧ Fld Z h o "java/lang/String" "coder" "B" (.int 0) ∧ Arv Z h b k .byte 7 [(.int (nar .byte (own_of (48 + (((mm / 100) / 100) / 100) % 10)))), (.int (nar .byte (own_of (48 + (((mm / 100) / 100) % 100) / 10)))), (.int (nar .byte (own_of (48 + (((mm / 100) / 100) % 100) % 10)))), (.int (nar .byte (own_of (48 + ((mm / 100) % 100) / 10)))), (.int (nar .byte (own_of (48 + ((mm / 100) % 100) % 10)))), (.int (nar .byte (own_of (48 + (mm % 100) / 10)))), (.int (nar .byte (own_of (48 + (mm % 100) % 10))))] (.int 0)) := by
  refine Con.mk (plainFor_of_name pn_8) (fun m => show entryFrame m #[(.int (own_of mm))] 3 = mkF m 0 #[.val (.int (own_of mm)), .unset, .unset] [] by first | (simp [entryFrame, mkF, argsToLocals, Value.category]; done) | rfl) ?_
  intro p e s m below meth c s₁ vm0 hx hby hml hown hnm hret hlk hZ X0 e0 hS hs0 hP0
  have N0 := Fr.nil n0
  refine Run.pre (fun _ k => XS.iloadN X0.here hx rfl (hb hby d8_0) rfl  k) ?_
  show Run p e below s _ _ _ (s₁.setTop (mkF m 1 #[.val (.int (own_of mm)), .unset, .unset] [(.int (own_of mm))]))
  refine Run.callS hS (by first | exact Nat.le_refl _ | (rw [e0]; exact (Nat.zero_le _))) X0 hx hZ (y := (⟨"java/lang/Integer", "stringSize", "(I)I"⟩ : MethodName)) hown (hw _ (List.mem_of_getElem? (i := 50) rfl)) (hw _ (List.mem_of_getElem? (i := 51) rfl)) (hw _ (List.mem_of_getElem? (i := 21) rfl)) (hw _ (List.mem_of_getElem? (i := 52) rfl)) (by decide) (W := 0) (rmSS l Z a0 hw mm h0 n0 (Nat.le_trans Z0 (Keep.refl h0 []).1) hm) e0 (by decide) (by decide) (by decide) (by decide) (fun _ _ => trivial) (g := (mkF m 1 #[.val (.int (own_of mm)), .unset, .unset] [(.int (own_of mm))])) rfl (by rw [hml]; rfl) (argsL := [(.int (own_of mm))]) (rest := []) (lenOf pd_8 rfl) rfl (by show 2 * 0 + _ ≤ _; exact Nat.le_of_eq rfl) (hb hby d8_1) ?_
  intro v320 T320 L320 X320 hS hZ hown hV320 hQ320
  obtain ⟨rfl, Nq320, he320⟩ := hQ320
  have N320 := Fr.app N0 Nq320
  have e320 : T320.heap = h0 := he320
  rw [own_dgt_7 lo hi]
  show Run p e below s _ _ _ (T320.setTop (mkF m 4 #[.val (.int (own_of mm)), .unset, .unset] [(.int (7 : Int32))]))
  refine Run.pre (fun _ k => XS.istoreN X320.here hx rfl (hb hby d8_4) rfl (l' := #[.val (.int (own_of mm)), .val (.int (7 : Int32)), .unset]) rfl k) ?_
  show Run p e below s _ _ _ (T320.setTop (mkF m 5 #[.val (.int (own_of mm)), .val (.int (7 : Int32)), .unset] []))
  obtain ⟨T321, X321, e321, st321⟩ := getS2 X320 hx hZ hown (host := "") (Or.inl (hw _ (List.mem_of_getElem? (i := 53) rfl))) Via.refl e320 (SC.ext OL.2) (g := (mkF m 5 #[.val (.int (own_of mm)), .val (.int (7 : Int32)), .unset] [])) rfl (hb hby d8_5)
  refine Run.pre st321 ?_
  show Run p e below s _ _ _ (T321.setTop (mkF m 8 #[.val (.int (own_of mm)), .val (.int (7 : Int32)), .unset] [(.int cs)]))
  refine Run.pre (fun _ k => XS.ifNo X321.here hx rfl (hb hby d8_8) rfl ((if0 _ _).trans (feq (hcs : ¬ (cs = (0 : Int32)))).1) k) ?_
  refine Run.pre (fun _ k => XS.iloadN X321.here hx rfl (hb hby d8_11) rfl  k) ?_
  show Run p e below s _ _ _ (T321.setTop (mkF m 12 #[.val (.int (own_of mm)), .val (.int (7 : Int32)), .unset] [(.int (7 : Int32))]))
  obtain ⟨T322, h322, k322, X322, e322, E322, A322, st322⟩ := newP X321 hx hZ (hw _ (List.mem_of_getElem? (i := 7) rfl)) e321 (g := (mkF m 12 #[.val (.int (own_of mm)), .val (.int (7 : Int32)), .unset] [(.int (7 : Int32))])) rfl (hb hby d8_12) rfl (by decide) (cap := 7) (by decide) (by decide) (by decide) (by decide)
  obtain ⟨b322, g322⟩ : ∃ z, z = h0.size := ⟨_, rfl⟩
  rw [← g322] at A322 st322
  refine Run.pre st322 ?_
  have V_b322 : Arv Z h322 b322 k322 .byte (7 : Int32) [(.int (0 : Int32)), (.int (0 : Int32)), (.int (0 : Int32)), (.int (0 : Int32)), (.int (0 : Int32)), (.int (0 : Int32)), (.int (0 : Int32))] (.int (0 : Int32)) := (Arv.new A322 (by decide)).pad (pad_rep [] (.int (0 : Int32)) 7)
  have gn_b322 : n0 ≤ b322 := Nat.le_trans (Nat.le_trans Z0 (Keep.refl h0 []).1) (Nat.le_of_eq g322.symm)
  have sz_b322 : h0.size ≤ b322 := Nat.le_trans (Keep.refl h0 []).1 (Nat.le_of_eq g322.symm)
  have K322 : Keep h0 h322 [] := (Keep.refl h0 []).ext E322
  show Run p e below s _ _ _ (T322.setTop (mkF m 14 #[.val (.int (own_of mm)), .val (.int (7 : Int32)), .unset] [(.ref b322)]))
  refine Run.pre (fun _ k => XS.astoreN X322.here hx rfl (hb hby d8_14) rfl rfl (l' := #[.val (.int (own_of mm)), .val (.int (7 : Int32)), .val (.ref b322)]) rfl k) ?_
  refine Run.pre (fun _ k => XS.iloadN X322.here hx rfl (hb hby d8_15) rfl  k) ?_
  refine Run.pre (fun _ k => XS.iloadN X322.here hx rfl (hb hby d8_16) rfl  k) ?_
  refine Run.pre (fun _ k => XS.aloadN X322.here hx rfl (hb hby d8_17) rfl rfl k) ?_
  show Run p e below s _ _ _ (T322.setTop (mkF m 18 #[.val (.int (own_of mm)), .val (.int (7 : Int32)), .val (.ref b322)] [(.ref b322), (.int (7 : Int32)), (.int (own_of mm))]))
  have f323 := (OL.ext E322)
  refine Run.callS hS (by first | exact Nat.le_refl _ | (rw [e322]; exact (Nat.le_trans (Nat.le_of_eq (congrArg Array.size e320)) E322.1))) X322 hx hZ (y := (⟨"java/lang/Integer", "getChars", "(II[B)I"⟩ : MethodName)) hown (hw _ (List.mem_of_getElem? (i := 54) rfl)) (hw _ (List.mem_of_getElem? (i := 55) rfl)) (hw _ (List.mem_of_getElem? (i := 21) rfl)) (hw _ (List.mem_of_getElem? (i := 56) rfl)) (by decide) (W := 0) (rmGC_7 l Z a0 hw mm od ko td kt b322 k322 h322 n0 (Nat.le_trans Z0 K322.1) f323 hm lo hi SO ST AO AT V_b322 gn_b322) e322 (by decide) (by decide) (by decide) (by decide) (fun _ _ => trivial) (g := (mkF m 18 #[.val (.int (own_of mm)), .val (.int (7 : Int32)), .val (.ref b322)] [(.ref b322), (.int (7 : Int32)), (.int (own_of mm))])) rfl (by rw [hml]; rfl) (argsL := [(.int (own_of mm)), (.int (7 : Int32)), (.ref b322)]) (rest := []) (lenOf pd_9 rfl) rfl (by show 2 * 0 + _ ≤ _; exact Nat.le_of_eq rfl) (hb hby d8_18) ?_
  intro v324 T324 L324 X324 hS hZ hown hV324 hQ324
  obtain ⟨rfl, Nq324, Kc324, vb324⟩ := hQ324
  have N324 := Fr.app N320 Nq324
  have K324 : Keep h0 T324.heap [] := K322.trans Kc324 (allS (Or.inr sz_b322) all0)
  show Run p e below s _ _ _ (T324.setTop (mkF m 21 #[.val (.int (own_of mm)), .val (.int (7 : Int32)), .val (.ref b322)] [(.int (0 : Int32))]))
  refine Run.pre (fun _ k => XS.pop X324.here hx rfl (hb hby d8_21) rfl rfl k) ?_
  show Run p e below s _ _ _ (T324.setTop (mkF m 22 #[.val (.int (own_of mm)), .val (.int (7 : Int32)), .val (.ref b322)] []))
  obtain ⟨T325, h325, X325, e325, E325, A325, D325, -, st325⟩ := newO X324 hx hZ hown (hw _ (List.mem_of_getElem? (i := 59) rfl)) (hw _ (List.mem_of_getElem? (i := 6) rfl)) (hw _ (List.mem_of_getElem? (i := 5) rfl)) rfl (g := (mkF m 22 #[.val (.int (own_of mm)), .val (.int (7 : Int32)), .val (.ref b322)] [])) rfl (hb hby d8_22) (by decide) (by decide)
  obtain ⟨b325, g325⟩ : ∃ z, z = T324.heap.size := ⟨_, rfl⟩
  rw [← g325] at A325 D325 st325
  refine Run.pre st325 ?_
  have gn_b325 : n0 ≤ b325 := Nat.le_trans (Nat.le_trans Z0 K324.1) (Nat.le_of_eq g325.symm)
  have sz_b325 : h0.size ≤ b325 := Nat.le_trans K324.1 (Nat.le_of_eq g325.symm)
  have K325 : Keep h0 h325 [] := K324.ext E325
  have F_value_b325 : Fld Z h325 b325 "java/lang/String" "value" "[B" .null := D325 (Or.inr (hw _ (List.mem_of_getElem? (i := 8) rfl))) (ty := (.array .byte)) (by decide)
  have F_coder_b325 : Fld Z h325 b325 "java/lang/String" "coder" "B" (.int (0 : Int32)) := D325 (Or.inr (hw _ (List.mem_of_getElem? (i := 9) rfl))) (ty := .byte) (by decide)
  refine Run.pre (fun _ k => XS.dup X325.here hx rfl (hb hby d8_25) rfl rfl k) ?_
  refine Run.pre (fun _ k => XS.aloadN X325.here hx rfl (hb hby d8_26) rfl rfl k) ?_
  refine Run.pre (fun _ k => XS.iconst X325.here hx rfl (hb hby d8_27) k) ?_
  show Run p e below s _ _ _ (T325.setTop (mkF m 28 #[.val (.int (own_of mm)), .val (.int (7 : Int32)), .val (.ref b322)] [(.int (0 : Int32)), (.ref b322), (.ref b325), (.ref b325)]))
  refine Run.callI hS (by first | exact Nat.le_refl _ | (rw [e325]; exact (Nat.le_trans (Nat.le_refl _) E325.1))) X325 hx hZ (y := (⟨"java/lang/String", "<init>", "([BB)V"⟩ : MethodName)) rfl hown (hw _ (List.mem_of_getElem? (i := 60) rfl)) (hw _ (List.mem_of_getElem? (i := 61) rfl)) (hw _ (List.mem_of_getElem? (i := 63) rfl)) (hw _ (List.mem_of_getElem? (i := 5) rfl)) (by decide) (a := b325) (W := 1) (rmBB l Z a0 hw b325 b322 h325 n0 (Nat.le_trans Z0 K325.1) A325 F_value_b325 F_coder_b325 gn_b325) e325 (by decide) (by decide) (by decide) (by decide) (fun _ _ => trivial) (g := (mkF m 28 #[.val (.int (own_of mm)), .val (.int (7 : Int32)), .val (.ref b322)] [(.int (0 : Int32)), (.ref b322), (.ref b325), (.ref b325)])) rfl (by rw [hml]; rfl) (argsL := [(.ref b322), (.int (0 : Int32))]) (rest := [(.ref b325)]) (lenOf pd_10 rfl) rfl (by show 2 * 0 + _ ≤ _; exact Nat.le_of_eq rfl) (hb hby d8_28) ?_
  intro v326 T326 L326 X326 hS hZ hown hV326 hQ326
  obtain ⟨rfl, Nq326, Kc326, fv326, fc326⟩ := hQ326
  have N326 := Fr.app N324 Nq326
  have K326 : Keep h0 T326.heap [] := K325.trans Kc326 (allS (Or.inr sz_b325) all0)
  show Run p e below s _ _ _ (T326.setTop (mkF m 31 #[.val (.int (own_of mm)), .val (.int (7 : Int32)), .val (.ref b322)] [(.ref b325)]))
  have f327 := (A325.keep Kc326)
  have f328 := ((vb324.ext E325).keep Kc326 (ninS (Nat.ne_of_lt (Nat.lt_of_lt_of_le vb324.lt (Nat.le_of_eq g325.symm))) nin0))
  exact Run.retA hS (Nat.le_refl _) X326 hx hret rfl rfl hlk (hb hby d8_31) ⟨b325, b322, k322, rfl, N326, K326, sz_b325, f327, fv326, fc326, f328⟩ (by decide) (by decide)
theorem own_good_7 {mm : Nat} (hm : mm < 2147483648) (lo : 1000000 ≤ mm) (hi : mm < 10000000) : own_good mm [(.int (nar .byte (own_of (48 + (((mm / 100) / 100) / 100) % 10)))), (.int (nar .byte (own_of (48 + (((mm / 100) / 100) % 100) / 10)))), (.int (nar .byte (own_of (48 + (((mm / 100) / 100) % 100) % 10)))), (.int (nar .byte (own_of (48 + ((mm / 100) % 100) / 10)))), (.int (nar .byte (own_of (48 + ((mm / 100) % 100) % 10)))), (.int (nar .byte (own_of (48 + (mm % 100) / 10)))), (.int (nar .byte (own_of (48 + (mm % 100) % 10))))] :=
  ⟨Or.inr ⟨by rw [own_dgt_7 lo hi]; decide, by rw [own_dgt_7 lo hi]; decide, by rw [own_dgt_7 lo hi]; decide, nar .byte (own_of (48 + (mm % 100) % 10)), by rw [own_dgt_7 lo hi]; rfl, own_heq hm (q := 1) rfl (by decide) (by decide) (by omega)⟩,
   Or.inr ⟨by rw [own_dgt_7 lo hi]; decide, by rw [own_dgt_7 lo hi]; decide, by rw [own_dgt_7 lo hi]; decide, nar .byte (own_of (48 + (mm % 100) / 10)), by rw [own_dgt_7 lo hi]; rfl, own_heq hm (q := 10) rfl (by decide) (by decide) (by omega)⟩,
   Or.inr ⟨by rw [own_dgt_7 lo hi]; decide, by rw [own_dgt_7 lo hi]; decide, by rw [own_dgt_7 lo hi]; decide, nar .byte (own_of (48 + ((mm / 100) % 100) % 10)), by rw [own_dgt_7 lo hi]; rfl, own_heq hm (q := 100) rfl (by decide) (by decide) (by omega)⟩,
   Or.inr ⟨by rw [own_dgt_7 lo hi]; decide, by rw [own_dgt_7 lo hi]; decide, by rw [own_dgt_7 lo hi]; decide, nar .byte (own_of (48 + ((mm / 100) % 100) / 10)), by rw [own_dgt_7 lo hi]; rfl, own_heq hm (q := 1000) rfl (by decide) (by decide) (by omega)⟩,
   Or.inr ⟨by rw [own_dgt_7 lo hi]; decide, by rw [own_dgt_7 lo hi]; decide, by rw [own_dgt_7 lo hi]; decide, nar .byte (own_of (48 + (((mm / 100) / 100) % 100) % 10)), by rw [own_dgt_7 lo hi]; rfl, own_heq hm (q := 10000) rfl (by decide) (by decide) (by omega)⟩,
   Or.inr ⟨by rw [own_dgt_7 lo hi]; decide, by rw [own_dgt_7 lo hi]; decide, by rw [own_dgt_7 lo hi]; decide, nar .byte (own_of (48 + (((mm / 100) / 100) % 100) / 10)), by rw [own_dgt_7 lo hi]; rfl, own_heq hm (q := 100000) rfl (by decide) (by decide) (by omega)⟩,
   Or.inr ⟨by rw [own_dgt_7 lo hi]; decide, by rw [own_dgt_7 lo hi]; decide, by rw [own_dgt_7 lo hi]; decide, nar .byte (own_of (48 + (((mm / 100) / 100) / 100) % 10)), by rw [own_dgt_7 lo hi]; rfl, own_heq hm (q := 1000000) rfl (by decide) (by decide) (by omega)⟩,
   Or.inl (by rw [own_dgt_7 lo hi]; decide),
   Or.inl (by rw [own_dgt_7 lo hi]; decide),
   Or.inl (by rw [own_dgt_7 lo hi]; decide)⟩
set_option maxRecDepth 65536 in
set_option maxHeartbeats 40000000 in
theorem rmGC_8 (l : Launch) (Z : State) (a0 : Array Value) (hw : ∀ d ∈ tables_1, d.before a0 Z = true) (mm : Nat) (od : Addr) (ko : ClassId) (td : Addr) (kt : ClassId) (bf : Addr) (kb : ClassId) (h0 : Heap) (n0 : Nat) (Z0 : n0 ≤ h0.size) (OL : Old Z n0 h0) (hm : mm < 2147483648) (lo : 10000000 ≤ mm) (hi : mm < 100000000) (SO : Sta Z Z.heap "java/lang/Integer" "DigitOnes" "[B" (.ref od)) (ST : Sta Z Z.heap "java/lang/Integer" "DigitTens" "[B" (.ref td)) (AO : Arv Z Z.heap od ko .byte 100 own_DO (.int 0)) (AT : Arv Z Z.heap td kt .byte 100 own_DT (.int 0)) (AB : Arv Z h0 bf kb .byte 8 [(.int (0 : Int32)), (.int (0 : Int32)), (.int (0 : Int32)), (.int (0 : Int32)), (.int (0 : Int32)), (.int (0 : Int32)), (.int (0 : Int32)), (.int (0 : Int32))] (.int 0)) (g_bf : n0 ≤ bf) :
    Con l (⟨"java/lang/Integer", "getChars", "(II[B)I"⟩ : MethodName) jdk_33_method_12_code 7 (some .int) ({ frames := 0, cells := 0, slots := 0, locals := 0 } : Room) Z #[(.int (own_of mm)), (.int (8 : Int32)), (.ref bf)] h0 (fun _ => True) (fun v h L vm => v = some (.int 0) ∧ Fr n0 L ∧ Keep h0 h [bf] ∧ Arv Z h bf kb .byte 8 [(.int (nar .byte (own_of (48 + (((mm / 100) / 100) / 100) / 10)))), (.int (nar .byte (own_of (48 + (((mm / 100) / 100) / 100) % 10)))), (.int (nar .byte (own_of (48 + (((mm / 100) / 100) % 100) / 10)))), (.int (nar .byte (own_of (48 + (((mm / 100) / 100) % 100) % 10)))), (.int (nar .byte (own_of (48 + ((mm / 100) % 100) / 10)))), (.int (nar .byte (own_of (48 + ((mm / 100) % 100) % 10)))), (.int (nar .byte (own_of (48 + (mm % 100) / 10)))), (.int (nar .byte (own_of (48 + (mm % 100) % 10))))] (.int 0)) := by
  refine Con.mk (plainFor_of_name pn_10) (fun m => show entryFrame m #[(.int (own_of mm)), (.int (8 : Int32)), (.ref bf)] 7 = mkF m 0 #[.val (.int (own_of mm)), .val (.int (8 : Int32)), .val (.ref bf), .unset, .unset, .unset, .unset] [] by first | (simp [entryFrame, mkF, argsToLocals, Value.category]; done) | rfl) ?_
  intro p e s m below meth c s₁ vm0 hx hby hml hown hnm hret hlk hZ X0 e0 hS hs0 hP0
  have N0 := Fr.nil n0
  refine Run.pre (fun _ k => XS.iloadN X0.here hx rfl (hb hby d10_0) rfl  k) ?_
  show Run p e below s _ _ _ (s₁.setTop (mkF m 1 #[.val (.int (own_of mm)), .val (.int (8 : Int32)), .val (.ref bf), .unset, .unset, .unset, .unset] [(.int (8 : Int32))]))
  refine Run.pre (fun _ k => XS.istore X0.here hx rfl (hb hby d10_1) rfl (l' := #[.val (.int (own_of mm)), .val (.int (8 : Int32)), .val (.ref bf), .unset, .unset, .val (.int (8 : Int32)), .unset]) rfl k) ?_
  refine Run.pre (fun _ k => XS.iloadN X0.here hx rfl (hb hby d10_3) rfl  k) ?_
  show Run p e below s _ _ _ (s₁.setTop (mkF m 4 #[.val (.int (own_of mm)), .val (.int (8 : Int32)), .val (.ref bf), .unset, .unset, .val (.int (8 : Int32)), .unset] [(.int (own_of mm))]))
  refine Run.pre (fun _ k => XS.ifYes X0.here hx rfl (pc0 := 4) (pc' := 11) rfl (hb hby d10_4) rfl ((if0 _ _).trans (flt ((own_nofl hm (by have e : ((0 : Int32)).toInt = 0 := (by decide); omega)) : ¬ ((own_of mm) < (0 : Int32)))).2.1) (by decide) (by decide) k) ?_
  refine Run.pre (fun _ k => XS.iconst X0.here hx rfl (hb hby d10_11) k) ?_
  show Run p e below s _ _ _ (s₁.setTop (mkF m 12 #[.val (.int (own_of mm)), .val (.int (8 : Int32)), .val (.ref bf), .unset, .unset, .val (.int (8 : Int32)), .unset] [(.int (0 : Int32))]))
  refine Run.pre (fun _ k => XS.istore X0.here hx rfl (hb hby d10_12) rfl (l' := #[.val (.int (own_of mm)), .val (.int (8 : Int32)), .val (.ref bf), .unset, .unset, .val (.int (8 : Int32)), .val (.int (0 : Int32))]) rfl k) ?_
  refine Run.pre (fun _ k => XS.iload X0.here hx rfl (hb hby d10_14) rfl  k) ?_
  show Run p e below s _ _ _ (s₁.setTop (mkF m 16 #[.val (.int (own_of mm)), .val (.int (8 : Int32)), .val (.ref bf), .unset, .unset, .val (.int (8 : Int32)), .val (.int (0 : Int32))] [(.int (0 : Int32))]))
  refine Run.pre (fun _ k => XS.ifNo X0.here hx rfl (hb hby d10_16) rfl ((if0 _ _).trans (teq ((by decide) : (0 : Int32) = (0 : Int32))).2) k) ?_
  refine Run.pre (fun _ k => XS.iloadN X0.here hx rfl (hb hby d10_19) rfl  k) ?_
  show Run p e below s _ _ _ (s₁.setTop (mkF m 20 #[.val (.int (own_of mm)), .val (.int (8 : Int32)), .val (.ref bf), .unset, .unset, .val (.int (8 : Int32)), .val (.int (0 : Int32))] [(.int (own_of mm))]))
  refine Run.pre (fun _ k => XS.ineg X0.here hx rfl (hb hby d10_20) rfl k) ?_
  show Run p e below s _ _ _ (s₁.setTop (mkF m 21 #[.val (.int (own_of mm)), .val (.int (8 : Int32)), .val (.ref bf), .unset, .unset, .val (.int (8 : Int32)), .val (.int (0 : Int32))] [(.int (-(own_of mm)))]))
  refine Run.pre (fun _ k => XS.istoreN X0.here hx rfl (hb hby d10_21) rfl (l' := #[.val (.int (-(own_of mm))), .val (.int (8 : Int32)), .val (.ref bf), .unset, .unset, .val (.int (8 : Int32)), .val (.int (0 : Int32))]) rfl k) ?_
  refine Run.pre (fun _ k => XS.iloadN X0.here hx rfl (hb hby d10_22) rfl  k) ?_
  refine Run.pre (fun _ k => XS.bipush X0.here hx rfl (hb hby d10_23) k) ?_
  show Run p e below s _ _ _ (s₁.setTop (mkF m 25 #[.val (.int (-(own_of mm))), .val (.int (8 : Int32)), .val (.ref bf), .unset, .unset, .val (.int (8 : Int32)), .val (.int (0 : Int32))] [(.int (-100 : Int32)), (.int (-(own_of mm)))]))
  refine Run.pre (fun _ k => XS.icmpNo X0.here hx rfl (hb hby d10_25) rfl (flt ((own_nltng (show mm < 2147483648 by omega) (by have e : ((-100 : Int32)).toInt = -100 := (by decide); omega)) : ¬ ((-100 : Int32) < (-(own_of mm))))).2.2.1 k) ?_
  refine Run.pre (fun _ k => XS.iloadN X0.here hx rfl (hb hby d10_28) rfl  k) ?_
  refine Run.pre (fun _ k => XS.bipush X0.here hx rfl (hb hby d10_29) k) ?_
  show Run p e below s _ _ _ (s₁.setTop (mkF m 31 #[.val (.int (-(own_of mm))), .val (.int (8 : Int32)), .val (.ref bf), .unset, .unset, .val (.int (8 : Int32)), .val (.int (0 : Int32))] [(.int (100 : Int32)), (.int (-(own_of mm)))]))
  refine Run.pre (fun _ k => XS.idiv X0.here hx rfl (hb hby d10_31) rfl (by decide) k) ?_
  show Run p e below s _ _ _ (s₁.setTop (mkF m 32 #[.val (.int (-(own_of mm))), .val (.int (8 : Int32)), .val (.ref bf), .unset, .unset, .val (.int (8 : Int32)), .val (.int (0 : Int32))] [(.int ((-(own_of mm)) / (100 : Int32)))]))
  refine Run.pre (fun _ k => XS.istoreN X0.here hx rfl (hb hby d10_32) rfl (l' := #[.val (.int (-(own_of mm))), .val (.int (8 : Int32)), .val (.ref bf), .val (.int ((-(own_of mm)) / (100 : Int32))), .unset, .val (.int (8 : Int32)), .val (.int (0 : Int32))]) rfl k) ?_
  refine Run.pre (fun _ k => XS.iloadN X0.here hx rfl (hb hby d10_33) rfl  k) ?_
  refine Run.pre (fun _ k => XS.bipush X0.here hx rfl (hb hby d10_34) k) ?_
  show Run p e below s _ _ _ (s₁.setTop (mkF m 36 #[.val (.int (-(own_of mm))), .val (.int (8 : Int32)), .val (.ref bf), .val (.int ((-(own_of mm)) / (100 : Int32))), .unset, .val (.int (8 : Int32)), .val (.int (0 : Int32))] [(.int (100 : Int32)), (.int ((-(own_of mm)) / (100 : Int32)))]))
  refine Run.pre (fun _ k => XS.imul X0.here hx rfl (hb hby d10_36) rfl k) ?_
  refine Run.pre (fun _ k => XS.iloadN X0.here hx rfl (hb hby d10_37) rfl  k) ?_
  show Run p e below s _ _ _ (s₁.setTop (mkF m 38 #[.val (.int (-(own_of mm))), .val (.int (8 : Int32)), .val (.ref bf), .val (.int ((-(own_of mm)) / (100 : Int32))), .unset, .val (.int (8 : Int32)), .val (.int (0 : Int32))] [(.int (-(own_of mm))), (.int (((-(own_of mm)) / (100 : Int32)) * (100 : Int32)))]))
  refine Run.pre (fun _ k => XS.isub X0.here hx rfl (hb hby d10_38) rfl k) ?_
  show Run p e below s _ _ _ (s₁.setTop (mkF m 39 #[.val (.int (-(own_of mm))), .val (.int (8 : Int32)), .val (.ref bf), .val (.int ((-(own_of mm)) / (100 : Int32))), .unset, .val (.int (8 : Int32)), .val (.int (0 : Int32))] [(.int ((((-(own_of mm)) / (100 : Int32)) * (100 : Int32)) - (-(own_of mm))))]))
  refine Run.pre (fun _ k => XS.istore X0.here hx rfl (hb hby d10_39) rfl (l' := #[.val (.int (-(own_of mm))), .val (.int (8 : Int32)), .val (.ref bf), .val (.int ((-(own_of mm)) / (100 : Int32))), .val (.int ((((-(own_of mm)) / (100 : Int32)) * (100 : Int32)) - (-(own_of mm)))), .val (.int (8 : Int32)), .val (.int (0 : Int32))]) rfl k) ?_
  refine Run.pre (fun _ k => XS.iloadN X0.here hx rfl (hb hby d10_41) rfl  k) ?_
  show Run p e below s _ _ _ (s₁.setTop (mkF m 42 #[.val (.int (-(own_of mm))), .val (.int (8 : Int32)), .val (.ref bf), .val (.int ((-(own_of mm)) / (100 : Int32))), .val (.int ((((-(own_of mm)) / (100 : Int32)) * (100 : Int32)) - (-(own_of mm)))), .val (.int (8 : Int32)), .val (.int (0 : Int32))] [(.int ((-(own_of mm)) / (100 : Int32)))]))
  refine Run.pre (fun _ k => XS.istoreN X0.here hx rfl (hb hby d10_42) rfl (l' := #[.val (.int ((-(own_of mm)) / (100 : Int32))), .val (.int (8 : Int32)), .val (.ref bf), .val (.int ((-(own_of mm)) / (100 : Int32))), .val (.int ((((-(own_of mm)) / (100 : Int32)) * (100 : Int32)) - (-(own_of mm)))), .val (.int (8 : Int32)), .val (.int (0 : Int32))]) rfl k) ?_
  show Run p e below s _ _ _ (s₁.setTop (mkF m 43 #[.val (.int ((-(own_of mm)) / (100 : Int32))), .val (.int (8 : Int32)), .val (.ref bf), .val (.int ((-(own_of mm)) / (100 : Int32))), .val (.int ((((-(own_of mm)) / (100 : Int32)) * (100 : Int32)) - (-(own_of mm)))), .val (.int (8 : Int32)), .val (.int (0 : Int32))] []))
  rw [own_div (show mm < 2147483648 by omega), own_rem (show mm < 2147483648 by omega)]
  refine Run.pre (fun _ k => XS.aloadN X0.here hx rfl (hb hby d10_43) rfl rfl k) ?_
  show Run p e below s _ _ _ (s₁.setTop (mkF m 44 #[.val (.int (-(own_of (mm / 100)))), .val (.int (8 : Int32)), .val (.ref bf), .val (.int (-(own_of (mm / 100)))), .val (.int (own_of (mm % 100))), .val (.int (8 : Int32)), .val (.int (0 : Int32))] [(.ref bf)]))
  refine Run.pre (fun _ k => XS.iinc X0.here hx rfl (hb hby d10_44) rfl (l' := #[.val (.int (-(own_of (mm / 100)))), .val (.int (8 : Int32)), .val (.ref bf), .val (.int (-(own_of (mm / 100)))), .val (.int (own_of (mm % 100))), .val (.int (7 : Int32)), .val (.int (0 : Int32))]) rfl k) ?_
  refine Run.pre (fun _ k => XS.iload X0.here hx rfl (hb hby d10_47) rfl  k) ?_
  show Run p e below s _ _ _ (s₁.setTop (mkF m 49 #[.val (.int (-(own_of (mm / 100)))), .val (.int (8 : Int32)), .val (.ref bf), .val (.int (-(own_of (mm / 100)))), .val (.int (own_of (mm % 100))), .val (.int (7 : Int32)), .val (.int (0 : Int32))] [(.int (7 : Int32)), (.ref bf)]))
  obtain ⟨T329, X329, e329, st329⟩ := getS2 X0 hx hZ hown (host := "") (Or.inl (hw _ (List.mem_of_getElem? (i := 57) rfl))) Via.refl e0 (SO.ext OL.2) (g := (mkF m 49 #[.val (.int (-(own_of (mm / 100)))), .val (.int (8 : Int32)), .val (.ref bf), .val (.int (-(own_of (mm / 100)))), .val (.int (own_of (mm % 100))), .val (.int (7 : Int32)), .val (.int (0 : Int32))] [(.int (7 : Int32)), (.ref bf)])) rfl (hb hby d10_49)
  refine Run.pre st329 ?_
  refine Run.pre (fun _ k => XS.iload X329.here hx rfl (hb hby d10_52) rfl  k) ?_
  show Run p e below s _ _ _ (T329.setTop (mkF m 54 #[.val (.int (-(own_of (mm / 100)))), .val (.int (8 : Int32)), .val (.ref bf), .val (.int (-(own_of (mm / 100)))), .val (.int (own_of (mm % 100))), .val (.int (7 : Int32)), .val (.int (0 : Int32))] [(.int (own_of (mm % 100))), (.ref od), (.int (7 : Int32)), (.ref bf)]))
  obtain ⟨c330, Ar330, -, S330, N330, H330, -⟩ := id (AO.ext OL.2)
  have hin330 : ¬ ((own_of (mm % 100)) < 0 ∨ c330.slots.size ≤ ((own_of (mm % 100))).toNatClampNeg) := inb_of S330 (own_in100 (show (mm % 100) < 100 by omega))
  refine Run.pre (X329.baloadBytes hx (j := (own_of (mm % 100))) (v := (.int (own_of (48 + (mm % 100) % 10)))) (by rw [e329]; exact Ar330.1) (State.isArrayOf_alike hZ.alike Ar330.2.1) Ar330.2.2 hin330 (H330.at hin330 (own_getO (show (mm % 100) < 100 by omega))) (g := (mkF m 54 #[.val (.int (-(own_of (mm / 100)))), .val (.int (8 : Int32)), .val (.ref bf), .val (.int (-(own_of (mm / 100)))), .val (.int (own_of (mm % 100))), .val (.int (7 : Int32)), .val (.int (0 : Int32))] [(.int (own_of (mm % 100))), (.ref od), (.int (7 : Int32)), (.ref bf)])) rfl rfl (hb hby d10_54)) ?_
  show Run p e below s _ _ _ (T329.setTop (mkF m 55 #[.val (.int (-(own_of (mm / 100)))), .val (.int (8 : Int32)), .val (.ref bf), .val (.int (-(own_of (mm / 100)))), .val (.int (own_of (mm % 100))), .val (.int (7 : Int32)), .val (.int (0 : Int32))] [(.int (own_of (48 + (mm % 100) % 10))), (.int (7 : Int32)), (.ref bf)]))
  obtain ⟨c331, Ar331, q331, S331, N331, H331, G331⟩ := id AB
  have hin331 : ¬ ((7 : Int32) < 0 ∨ c331.slots.size ≤ ((7 : Int32)).toNatClampNeg) := inb_of S331 ⟨by decide, by decide⟩
  obtain ⟨T332, h332, X332, e332, W332, st332⟩ := stB X329 hx hZ e329 Ar331 (j := (7 : Int32)) hin331 (g := (mkF m 55 #[.val (.int (-(own_of (mm / 100)))), .val (.int (8 : Int32)), .val (.ref bf), .val (.int (-(own_of (mm / 100)))), .val (.int (own_of (mm % 100))), .val (.int (7 : Int32)), .val (.int (0 : Int32))] [(.int (own_of (48 + (mm % 100) % 10))), (.int (7 : Int32)), (.ref bf)])) rfl rfl (hb hby d10_55)
  refine Run.pre st332 ?_
  have V_bf_332 : Arv Z h332 bf kb .byte (8 : Int32) [(.int (0 : Int32)), (.int (0 : Int32)), (.int (0 : Int32)), (.int (0 : Int32)), (.int (0 : Int32)), (.int (0 : Int32)), (.int (0 : Int32)), (.int (nar .byte (own_of (48 + (mm % 100) % 10))))] (.int (0 : Int32)) := Arv.set Ar331 q331 S331 N331 H331 G331 (fits_nar_byte _) W332 7 rfl (Nat.le_of_ble_eq_true rfl)
  have K332 : Keep h0 h332 [bf] := (Keep.refl h0 [bf]).wr W332 (Or.inl (by simp))
  have N332 := Fr.snoc X332 N0 g_bf
  refine Run.pre (fun _ k => XS.aloadN X332.here hx rfl (hb hby d10_56) rfl rfl k) ?_
  show Run p e below s _ _ _ (T332.setTop (mkF m 57 #[.val (.int (-(own_of (mm / 100)))), .val (.int (8 : Int32)), .val (.ref bf), .val (.int (-(own_of (mm / 100)))), .val (.int (own_of (mm % 100))), .val (.int (7 : Int32)), .val (.int (0 : Int32))] [(.ref bf)]))
  refine Run.pre (fun _ k => XS.iinc X332.here hx rfl (hb hby d10_57) rfl (l' := #[.val (.int (-(own_of (mm / 100)))), .val (.int (8 : Int32)), .val (.ref bf), .val (.int (-(own_of (mm / 100)))), .val (.int (own_of (mm % 100))), .val (.int (6 : Int32)), .val (.int (0 : Int32))]) rfl k) ?_
  refine Run.pre (fun _ k => XS.iload X332.here hx rfl (hb hby d10_60) rfl  k) ?_
  show Run p e below s _ _ _ (T332.setTop (mkF m 62 #[.val (.int (-(own_of (mm / 100)))), .val (.int (8 : Int32)), .val (.ref bf), .val (.int (-(own_of (mm / 100)))), .val (.int (own_of (mm % 100))), .val (.int (6 : Int32)), .val (.int (0 : Int32))] [(.int (6 : Int32)), (.ref bf)]))
  have f333 := (OL.wr W332 g_bf)
  obtain ⟨T334, X334, e334, st334⟩ := getS2 X332 hx hZ hown (host := "") (Or.inl (hw _ (List.mem_of_getElem? (i := 58) rfl))) Via.refl e332 (ST.ext f333.2) (g := (mkF m 62 #[.val (.int (-(own_of (mm / 100)))), .val (.int (8 : Int32)), .val (.ref bf), .val (.int (-(own_of (mm / 100)))), .val (.int (own_of (mm % 100))), .val (.int (6 : Int32)), .val (.int (0 : Int32))] [(.int (6 : Int32)), (.ref bf)])) rfl (hb hby d10_62)
  refine Run.pre st334 ?_
  refine Run.pre (fun _ k => XS.iload X334.here hx rfl (hb hby d10_65) rfl  k) ?_
  show Run p e below s _ _ _ (T334.setTop (mkF m 67 #[.val (.int (-(own_of (mm / 100)))), .val (.int (8 : Int32)), .val (.ref bf), .val (.int (-(own_of (mm / 100)))), .val (.int (own_of (mm % 100))), .val (.int (6 : Int32)), .val (.int (0 : Int32))] [(.int (own_of (mm % 100))), (.ref td), (.int (6 : Int32)), (.ref bf)]))
  obtain ⟨c335, Ar335, -, S335, N335, H335, -⟩ := id (AT.ext f333.2)
  have hin335 : ¬ ((own_of (mm % 100)) < 0 ∨ c335.slots.size ≤ ((own_of (mm % 100))).toNatClampNeg) := inb_of S335 (own_in100 (show (mm % 100) < 100 by omega))
  refine Run.pre (X334.baloadBytes hx (j := (own_of (mm % 100))) (v := (.int (own_of (48 + (mm % 100) / 10)))) (by rw [e334]; exact Ar335.1) (State.isArrayOf_alike hZ.alike Ar335.2.1) Ar335.2.2 hin335 (H335.at hin335 (own_getT (show (mm % 100) < 100 by omega))) (g := (mkF m 67 #[.val (.int (-(own_of (mm / 100)))), .val (.int (8 : Int32)), .val (.ref bf), .val (.int (-(own_of (mm / 100)))), .val (.int (own_of (mm % 100))), .val (.int (6 : Int32)), .val (.int (0 : Int32))] [(.int (own_of (mm % 100))), (.ref td), (.int (6 : Int32)), (.ref bf)])) rfl rfl (hb hby d10_67)) ?_
  show Run p e below s _ _ _ (T334.setTop (mkF m 68 #[.val (.int (-(own_of (mm / 100)))), .val (.int (8 : Int32)), .val (.ref bf), .val (.int (-(own_of (mm / 100)))), .val (.int (own_of (mm % 100))), .val (.int (6 : Int32)), .val (.int (0 : Int32))] [(.int (own_of (48 + (mm % 100) / 10))), (.int (6 : Int32)), (.ref bf)]))
  obtain ⟨c336, Ar336, q336, S336, N336, H336, G336⟩ := id V_bf_332
  have hin336 : ¬ ((6 : Int32) < 0 ∨ c336.slots.size ≤ ((6 : Int32)).toNatClampNeg) := inb_of S336 ⟨by decide, by decide⟩
  obtain ⟨T337, h337, X337, e337, W337, st337⟩ := stB X334 hx hZ e334 Ar336 (j := (6 : Int32)) hin336 (g := (mkF m 68 #[.val (.int (-(own_of (mm / 100)))), .val (.int (8 : Int32)), .val (.ref bf), .val (.int (-(own_of (mm / 100)))), .val (.int (own_of (mm % 100))), .val (.int (6 : Int32)), .val (.int (0 : Int32))] [(.int (own_of (48 + (mm % 100) / 10))), (.int (6 : Int32)), (.ref bf)])) rfl rfl (hb hby d10_68)
  refine Run.pre st337 ?_
  have V_bf_337 : Arv Z h337 bf kb .byte (8 : Int32) [(.int (0 : Int32)), (.int (0 : Int32)), (.int (0 : Int32)), (.int (0 : Int32)), (.int (0 : Int32)), (.int (0 : Int32)), (.int (nar .byte (own_of (48 + (mm % 100) / 10)))), (.int (nar .byte (own_of (48 + (mm % 100) % 10))))] (.int (0 : Int32)) := Arv.set Ar336 q336 S336 N336 H336 G336 (fits_nar_byte _) W337 6 rfl (Nat.le_of_ble_eq_true rfl)
  have K337 : Keep h0 h337 [bf] := K332.wr W337 (Or.inl (by simp))
  have N337 := Fr.snoc X337 N332 g_bf
  refine Run.pre (fun _ k => XS.goto X337.here hx rfl (pc0 := 69) (pc' := 22) rfl (hb hby d10_69) (by decide) (by decide) k) ?_
  refine Run.pre (fun _ k => XS.iloadN X337.here hx rfl (hb hby d10_22) rfl  k) ?_
  refine Run.pre (fun _ k => XS.bipush X337.here hx rfl (hb hby d10_23) k) ?_
  show Run p e below s _ _ _ (T337.setTop (mkF m 25 #[.val (.int (-(own_of (mm / 100)))), .val (.int (8 : Int32)), .val (.ref bf), .val (.int (-(own_of (mm / 100)))), .val (.int (own_of (mm % 100))), .val (.int (6 : Int32)), .val (.int (0 : Int32))] [(.int (-100 : Int32)), (.int (-(own_of (mm / 100))))]))
  refine Run.pre (fun _ k => XS.icmpNo X337.here hx rfl (hb hby d10_25) rfl (flt ((own_nltng (show (mm / 100) < 2147483648 by omega) (by have e : ((-100 : Int32)).toInt = -100 := (by decide); omega)) : ¬ ((-100 : Int32) < (-(own_of (mm / 100)))))).2.2.1 k) ?_
  refine Run.pre (fun _ k => XS.iloadN X337.here hx rfl (hb hby d10_28) rfl  k) ?_
  refine Run.pre (fun _ k => XS.bipush X337.here hx rfl (hb hby d10_29) k) ?_
  show Run p e below s _ _ _ (T337.setTop (mkF m 31 #[.val (.int (-(own_of (mm / 100)))), .val (.int (8 : Int32)), .val (.ref bf), .val (.int (-(own_of (mm / 100)))), .val (.int (own_of (mm % 100))), .val (.int (6 : Int32)), .val (.int (0 : Int32))] [(.int (100 : Int32)), (.int (-(own_of (mm / 100))))]))
  refine Run.pre (fun _ k => XS.idiv X337.here hx rfl (hb hby d10_31) rfl (by decide) k) ?_
  show Run p e below s _ _ _ (T337.setTop (mkF m 32 #[.val (.int (-(own_of (mm / 100)))), .val (.int (8 : Int32)), .val (.ref bf), .val (.int (-(own_of (mm / 100)))), .val (.int (own_of (mm % 100))), .val (.int (6 : Int32)), .val (.int (0 : Int32))] [(.int ((-(own_of (mm / 100))) / (100 : Int32)))]))
  refine Run.pre (fun _ k => XS.istoreN X337.here hx rfl (hb hby d10_32) rfl (l' := #[.val (.int (-(own_of (mm / 100)))), .val (.int (8 : Int32)), .val (.ref bf), .val (.int ((-(own_of (mm / 100))) / (100 : Int32))), .val (.int (own_of (mm % 100))), .val (.int (6 : Int32)), .val (.int (0 : Int32))]) rfl k) ?_
  refine Run.pre (fun _ k => XS.iloadN X337.here hx rfl (hb hby d10_33) rfl  k) ?_
  refine Run.pre (fun _ k => XS.bipush X337.here hx rfl (hb hby d10_34) k) ?_
  show Run p e below s _ _ _ (T337.setTop (mkF m 36 #[.val (.int (-(own_of (mm / 100)))), .val (.int (8 : Int32)), .val (.ref bf), .val (.int ((-(own_of (mm / 100))) / (100 : Int32))), .val (.int (own_of (mm % 100))), .val (.int (6 : Int32)), .val (.int (0 : Int32))] [(.int (100 : Int32)), (.int ((-(own_of (mm / 100))) / (100 : Int32)))]))
  refine Run.pre (fun _ k => XS.imul X337.here hx rfl (hb hby d10_36) rfl k) ?_
  refine Run.pre (fun _ k => XS.iloadN X337.here hx rfl (hb hby d10_37) rfl  k) ?_
  show Run p e below s _ _ _ (T337.setTop (mkF m 38 #[.val (.int (-(own_of (mm / 100)))), .val (.int (8 : Int32)), .val (.ref bf), .val (.int ((-(own_of (mm / 100))) / (100 : Int32))), .val (.int (own_of (mm % 100))), .val (.int (6 : Int32)), .val (.int (0 : Int32))] [(.int (-(own_of (mm / 100)))), (.int (((-(own_of (mm / 100))) / (100 : Int32)) * (100 : Int32)))]))
  refine Run.pre (fun _ k => XS.isub X337.here hx rfl (hb hby d10_38) rfl k) ?_
  show Run p e below s _ _ _ (T337.setTop (mkF m 39 #[.val (.int (-(own_of (mm / 100)))), .val (.int (8 : Int32)), .val (.ref bf), .val (.int ((-(own_of (mm / 100))) / (100 : Int32))), .val (.int (own_of (mm % 100))), .val (.int (6 : Int32)), .val (.int (0 : Int32))] [(.int ((((-(own_of (mm / 100))) / (100 : Int32)) * (100 : Int32)) - (-(own_of (mm / 100)))))]))
  refine Run.pre (fun _ k => XS.istore X337.here hx rfl (hb hby d10_39) rfl (l' := #[.val (.int (-(own_of (mm / 100)))), .val (.int (8 : Int32)), .val (.ref bf), .val (.int ((-(own_of (mm / 100))) / (100 : Int32))), .val (.int ((((-(own_of (mm / 100))) / (100 : Int32)) * (100 : Int32)) - (-(own_of (mm / 100))))), .val (.int (6 : Int32)), .val (.int (0 : Int32))]) rfl k) ?_
  refine Run.pre (fun _ k => XS.iloadN X337.here hx rfl (hb hby d10_41) rfl  k) ?_
  show Run p e below s _ _ _ (T337.setTop (mkF m 42 #[.val (.int (-(own_of (mm / 100)))), .val (.int (8 : Int32)), .val (.ref bf), .val (.int ((-(own_of (mm / 100))) / (100 : Int32))), .val (.int ((((-(own_of (mm / 100))) / (100 : Int32)) * (100 : Int32)) - (-(own_of (mm / 100))))), .val (.int (6 : Int32)), .val (.int (0 : Int32))] [(.int ((-(own_of (mm / 100))) / (100 : Int32)))]))
  refine Run.pre (fun _ k => XS.istoreN X337.here hx rfl (hb hby d10_42) rfl (l' := #[.val (.int ((-(own_of (mm / 100))) / (100 : Int32))), .val (.int (8 : Int32)), .val (.ref bf), .val (.int ((-(own_of (mm / 100))) / (100 : Int32))), .val (.int ((((-(own_of (mm / 100))) / (100 : Int32)) * (100 : Int32)) - (-(own_of (mm / 100))))), .val (.int (6 : Int32)), .val (.int (0 : Int32))]) rfl k) ?_
  show Run p e below s _ _ _ (T337.setTop (mkF m 43 #[.val (.int ((-(own_of (mm / 100))) / (100 : Int32))), .val (.int (8 : Int32)), .val (.ref bf), .val (.int ((-(own_of (mm / 100))) / (100 : Int32))), .val (.int ((((-(own_of (mm / 100))) / (100 : Int32)) * (100 : Int32)) - (-(own_of (mm / 100))))), .val (.int (6 : Int32)), .val (.int (0 : Int32))] []))
  rw [own_div (show (mm / 100) < 2147483648 by omega), own_rem (show (mm / 100) < 2147483648 by omega)]
  refine Run.pre (fun _ k => XS.aloadN X337.here hx rfl (hb hby d10_43) rfl rfl k) ?_
  show Run p e below s _ _ _ (T337.setTop (mkF m 44 #[.val (.int (-(own_of ((mm / 100) / 100)))), .val (.int (8 : Int32)), .val (.ref bf), .val (.int (-(own_of ((mm / 100) / 100)))), .val (.int (own_of ((mm / 100) % 100))), .val (.int (6 : Int32)), .val (.int (0 : Int32))] [(.ref bf)]))
  refine Run.pre (fun _ k => XS.iinc X337.here hx rfl (hb hby d10_44) rfl (l' := #[.val (.int (-(own_of ((mm / 100) / 100)))), .val (.int (8 : Int32)), .val (.ref bf), .val (.int (-(own_of ((mm / 100) / 100)))), .val (.int (own_of ((mm / 100) % 100))), .val (.int (5 : Int32)), .val (.int (0 : Int32))]) rfl k) ?_
  refine Run.pre (fun _ k => XS.iload X337.here hx rfl (hb hby d10_47) rfl  k) ?_
  show Run p e below s _ _ _ (T337.setTop (mkF m 49 #[.val (.int (-(own_of ((mm / 100) / 100)))), .val (.int (8 : Int32)), .val (.ref bf), .val (.int (-(own_of ((mm / 100) / 100)))), .val (.int (own_of ((mm / 100) % 100))), .val (.int (5 : Int32)), .val (.int (0 : Int32))] [(.int (5 : Int32)), (.ref bf)]))
  have f338 := (f333.wr W337 g_bf)
  obtain ⟨T339, X339, e339, st339⟩ := getS2 X337 hx hZ hown (host := "") (Or.inl (hw _ (List.mem_of_getElem? (i := 57) rfl))) Via.refl e337 (SO.ext f338.2) (g := (mkF m 49 #[.val (.int (-(own_of ((mm / 100) / 100)))), .val (.int (8 : Int32)), .val (.ref bf), .val (.int (-(own_of ((mm / 100) / 100)))), .val (.int (own_of ((mm / 100) % 100))), .val (.int (5 : Int32)), .val (.int (0 : Int32))] [(.int (5 : Int32)), (.ref bf)])) rfl (hb hby d10_49)
  refine Run.pre st339 ?_
  refine Run.pre (fun _ k => XS.iload X339.here hx rfl (hb hby d10_52) rfl  k) ?_
  show Run p e below s _ _ _ (T339.setTop (mkF m 54 #[.val (.int (-(own_of ((mm / 100) / 100)))), .val (.int (8 : Int32)), .val (.ref bf), .val (.int (-(own_of ((mm / 100) / 100)))), .val (.int (own_of ((mm / 100) % 100))), .val (.int (5 : Int32)), .val (.int (0 : Int32))] [(.int (own_of ((mm / 100) % 100))), (.ref od), (.int (5 : Int32)), (.ref bf)]))
  obtain ⟨c340, Ar340, -, S340, N340, H340, -⟩ := id (AO.ext f338.2)
  have hin340 : ¬ ((own_of ((mm / 100) % 100)) < 0 ∨ c340.slots.size ≤ ((own_of ((mm / 100) % 100))).toNatClampNeg) := inb_of S340 (own_in100 (show ((mm / 100) % 100) < 100 by omega))
  refine Run.pre (X339.baloadBytes hx (j := (own_of ((mm / 100) % 100))) (v := (.int (own_of (48 + ((mm / 100) % 100) % 10)))) (by rw [e339]; exact Ar340.1) (State.isArrayOf_alike hZ.alike Ar340.2.1) Ar340.2.2 hin340 (H340.at hin340 (own_getO (show ((mm / 100) % 100) < 100 by omega))) (g := (mkF m 54 #[.val (.int (-(own_of ((mm / 100) / 100)))), .val (.int (8 : Int32)), .val (.ref bf), .val (.int (-(own_of ((mm / 100) / 100)))), .val (.int (own_of ((mm / 100) % 100))), .val (.int (5 : Int32)), .val (.int (0 : Int32))] [(.int (own_of ((mm / 100) % 100))), (.ref od), (.int (5 : Int32)), (.ref bf)])) rfl rfl (hb hby d10_54)) ?_
  show Run p e below s _ _ _ (T339.setTop (mkF m 55 #[.val (.int (-(own_of ((mm / 100) / 100)))), .val (.int (8 : Int32)), .val (.ref bf), .val (.int (-(own_of ((mm / 100) / 100)))), .val (.int (own_of ((mm / 100) % 100))), .val (.int (5 : Int32)), .val (.int (0 : Int32))] [(.int (own_of (48 + ((mm / 100) % 100) % 10))), (.int (5 : Int32)), (.ref bf)]))
  obtain ⟨c341, Ar341, q341, S341, N341, H341, G341⟩ := id V_bf_337
  have hin341 : ¬ ((5 : Int32) < 0 ∨ c341.slots.size ≤ ((5 : Int32)).toNatClampNeg) := inb_of S341 ⟨by decide, by decide⟩
  obtain ⟨T342, h342, X342, e342, W342, st342⟩ := stB X339 hx hZ e339 Ar341 (j := (5 : Int32)) hin341 (g := (mkF m 55 #[.val (.int (-(own_of ((mm / 100) / 100)))), .val (.int (8 : Int32)), .val (.ref bf), .val (.int (-(own_of ((mm / 100) / 100)))), .val (.int (own_of ((mm / 100) % 100))), .val (.int (5 : Int32)), .val (.int (0 : Int32))] [(.int (own_of (48 + ((mm / 100) % 100) % 10))), (.int (5 : Int32)), (.ref bf)])) rfl rfl (hb hby d10_55)
  refine Run.pre st342 ?_
  have V_bf_342 : Arv Z h342 bf kb .byte (8 : Int32) [(.int (0 : Int32)), (.int (0 : Int32)), (.int (0 : Int32)), (.int (0 : Int32)), (.int (0 : Int32)), (.int (nar .byte (own_of (48 + ((mm / 100) % 100) % 10)))), (.int (nar .byte (own_of (48 + (mm % 100) / 10)))), (.int (nar .byte (own_of (48 + (mm % 100) % 10))))] (.int (0 : Int32)) := Arv.set Ar341 q341 S341 N341 H341 G341 (fits_nar_byte _) W342 5 rfl (Nat.le_of_ble_eq_true rfl)
  have K342 : Keep h0 h342 [bf] := K337.wr W342 (Or.inl (by simp))
  have N342 := Fr.snoc X342 N337 g_bf
  refine Run.pre (fun _ k => XS.aloadN X342.here hx rfl (hb hby d10_56) rfl rfl k) ?_
  show Run p e below s _ _ _ (T342.setTop (mkF m 57 #[.val (.int (-(own_of ((mm / 100) / 100)))), .val (.int (8 : Int32)), .val (.ref bf), .val (.int (-(own_of ((mm / 100) / 100)))), .val (.int (own_of ((mm / 100) % 100))), .val (.int (5 : Int32)), .val (.int (0 : Int32))] [(.ref bf)]))
  refine Run.pre (fun _ k => XS.iinc X342.here hx rfl (hb hby d10_57) rfl (l' := #[.val (.int (-(own_of ((mm / 100) / 100)))), .val (.int (8 : Int32)), .val (.ref bf), .val (.int (-(own_of ((mm / 100) / 100)))), .val (.int (own_of ((mm / 100) % 100))), .val (.int (4 : Int32)), .val (.int (0 : Int32))]) rfl k) ?_
  refine Run.pre (fun _ k => XS.iload X342.here hx rfl (hb hby d10_60) rfl  k) ?_
  show Run p e below s _ _ _ (T342.setTop (mkF m 62 #[.val (.int (-(own_of ((mm / 100) / 100)))), .val (.int (8 : Int32)), .val (.ref bf), .val (.int (-(own_of ((mm / 100) / 100)))), .val (.int (own_of ((mm / 100) % 100))), .val (.int (4 : Int32)), .val (.int (0 : Int32))] [(.int (4 : Int32)), (.ref bf)]))
  have f343 := (f338.wr W342 g_bf)
  obtain ⟨T344, X344, e344, st344⟩ := getS2 X342 hx hZ hown (host := "") (Or.inl (hw _ (List.mem_of_getElem? (i := 58) rfl))) Via.refl e342 (ST.ext f343.2) (g := (mkF m 62 #[.val (.int (-(own_of ((mm / 100) / 100)))), .val (.int (8 : Int32)), .val (.ref bf), .val (.int (-(own_of ((mm / 100) / 100)))), .val (.int (own_of ((mm / 100) % 100))), .val (.int (4 : Int32)), .val (.int (0 : Int32))] [(.int (4 : Int32)), (.ref bf)])) rfl (hb hby d10_62)
  refine Run.pre st344 ?_
  refine Run.pre (fun _ k => XS.iload X344.here hx rfl (hb hby d10_65) rfl  k) ?_
  show Run p e below s _ _ _ (T344.setTop (mkF m 67 #[.val (.int (-(own_of ((mm / 100) / 100)))), .val (.int (8 : Int32)), .val (.ref bf), .val (.int (-(own_of ((mm / 100) / 100)))), .val (.int (own_of ((mm / 100) % 100))), .val (.int (4 : Int32)), .val (.int (0 : Int32))] [(.int (own_of ((mm / 100) % 100))), (.ref td), (.int (4 : Int32)), (.ref bf)]))
  obtain ⟨c345, Ar345, -, S345, N345, H345, -⟩ := id (AT.ext f343.2)
  have hin345 : ¬ ((own_of ((mm / 100) % 100)) < 0 ∨ c345.slots.size ≤ ((own_of ((mm / 100) % 100))).toNatClampNeg) := inb_of S345 (own_in100 (show ((mm / 100) % 100) < 100 by omega))
  refine Run.pre (X344.baloadBytes hx (j := (own_of ((mm / 100) % 100))) (v := (.int (own_of (48 + ((mm / 100) % 100) / 10)))) (by rw [e344]; exact Ar345.1) (State.isArrayOf_alike hZ.alike Ar345.2.1) Ar345.2.2 hin345 (H345.at hin345 (own_getT (show ((mm / 100) % 100) < 100 by omega))) (g := (mkF m 67 #[.val (.int (-(own_of ((mm / 100) / 100)))), .val (.int (8 : Int32)), .val (.ref bf), .val (.int (-(own_of ((mm / 100) / 100)))), .val (.int (own_of ((mm / 100) % 100))), .val (.int (4 : Int32)), .val (.int (0 : Int32))] [(.int (own_of ((mm / 100) % 100))), (.ref td), (.int (4 : Int32)), (.ref bf)])) rfl rfl (hb hby d10_67)) ?_
  show Run p e below s _ _ _ (T344.setTop (mkF m 68 #[.val (.int (-(own_of ((mm / 100) / 100)))), .val (.int (8 : Int32)), .val (.ref bf), .val (.int (-(own_of ((mm / 100) / 100)))), .val (.int (own_of ((mm / 100) % 100))), .val (.int (4 : Int32)), .val (.int (0 : Int32))] [(.int (own_of (48 + ((mm / 100) % 100) / 10))), (.int (4 : Int32)), (.ref bf)]))
  obtain ⟨c346, Ar346, q346, S346, N346, H346, G346⟩ := id V_bf_342
  have hin346 : ¬ ((4 : Int32) < 0 ∨ c346.slots.size ≤ ((4 : Int32)).toNatClampNeg) := inb_of S346 ⟨by decide, by decide⟩
  obtain ⟨T347, h347, X347, e347, W347, st347⟩ := stB X344 hx hZ e344 Ar346 (j := (4 : Int32)) hin346 (g := (mkF m 68 #[.val (.int (-(own_of ((mm / 100) / 100)))), .val (.int (8 : Int32)), .val (.ref bf), .val (.int (-(own_of ((mm / 100) / 100)))), .val (.int (own_of ((mm / 100) % 100))), .val (.int (4 : Int32)), .val (.int (0 : Int32))] [(.int (own_of (48 + ((mm / 100) % 100) / 10))), (.int (4 : Int32)), (.ref bf)])) rfl rfl (hb hby d10_68)
  refine Run.pre st347 ?_
  have V_bf_347 : Arv Z h347 bf kb .byte (8 : Int32) [(.int (0 : Int32)), (.int (0 : Int32)), (.int (0 : Int32)), (.int (0 : Int32)), (.int (nar .byte (own_of (48 + ((mm / 100) % 100) / 10)))), (.int (nar .byte (own_of (48 + ((mm / 100) % 100) % 10)))), (.int (nar .byte (own_of (48 + (mm % 100) / 10)))), (.int (nar .byte (own_of (48 + (mm % 100) % 10))))] (.int (0 : Int32)) := Arv.set Ar346 q346 S346 N346 H346 G346 (fits_nar_byte _) W347 4 rfl (Nat.le_of_ble_eq_true rfl)
  have K347 : Keep h0 h347 [bf] := K342.wr W347 (Or.inl (by simp))
  have N347 := Fr.snoc X347 N342 g_bf
  refine Run.pre (fun _ k => XS.goto X347.here hx rfl (pc0 := 69) (pc' := 22) rfl (hb hby d10_69) (by decide) (by decide) k) ?_
  refine Run.pre (fun _ k => XS.iloadN X347.here hx rfl (hb hby d10_22) rfl  k) ?_
  refine Run.pre (fun _ k => XS.bipush X347.here hx rfl (hb hby d10_23) k) ?_
  show Run p e below s _ _ _ (T347.setTop (mkF m 25 #[.val (.int (-(own_of ((mm / 100) / 100)))), .val (.int (8 : Int32)), .val (.ref bf), .val (.int (-(own_of ((mm / 100) / 100)))), .val (.int (own_of ((mm / 100) % 100))), .val (.int (4 : Int32)), .val (.int (0 : Int32))] [(.int (-100 : Int32)), (.int (-(own_of ((mm / 100) / 100))))]))
  refine Run.pre (fun _ k => XS.icmpNo X347.here hx rfl (hb hby d10_25) rfl (flt ((own_nltng (show ((mm / 100) / 100) < 2147483648 by omega) (by have e : ((-100 : Int32)).toInt = -100 := (by decide); omega)) : ¬ ((-100 : Int32) < (-(own_of ((mm / 100) / 100)))))).2.2.1 k) ?_
  refine Run.pre (fun _ k => XS.iloadN X347.here hx rfl (hb hby d10_28) rfl  k) ?_
  refine Run.pre (fun _ k => XS.bipush X347.here hx rfl (hb hby d10_29) k) ?_
  show Run p e below s _ _ _ (T347.setTop (mkF m 31 #[.val (.int (-(own_of ((mm / 100) / 100)))), .val (.int (8 : Int32)), .val (.ref bf), .val (.int (-(own_of ((mm / 100) / 100)))), .val (.int (own_of ((mm / 100) % 100))), .val (.int (4 : Int32)), .val (.int (0 : Int32))] [(.int (100 : Int32)), (.int (-(own_of ((mm / 100) / 100))))]))
  refine Run.pre (fun _ k => XS.idiv X347.here hx rfl (hb hby d10_31) rfl (by decide) k) ?_
  show Run p e below s _ _ _ (T347.setTop (mkF m 32 #[.val (.int (-(own_of ((mm / 100) / 100)))), .val (.int (8 : Int32)), .val (.ref bf), .val (.int (-(own_of ((mm / 100) / 100)))), .val (.int (own_of ((mm / 100) % 100))), .val (.int (4 : Int32)), .val (.int (0 : Int32))] [(.int ((-(own_of ((mm / 100) / 100))) / (100 : Int32)))]))
  refine Run.pre (fun _ k => XS.istoreN X347.here hx rfl (hb hby d10_32) rfl (l' := #[.val (.int (-(own_of ((mm / 100) / 100)))), .val (.int (8 : Int32)), .val (.ref bf), .val (.int ((-(own_of ((mm / 100) / 100))) / (100 : Int32))), .val (.int (own_of ((mm / 100) % 100))), .val (.int (4 : Int32)), .val (.int (0 : Int32))]) rfl k) ?_
  refine Run.pre (fun _ k => XS.iloadN X347.here hx rfl (hb hby d10_33) rfl  k) ?_
  refine Run.pre (fun _ k => XS.bipush X347.here hx rfl (hb hby d10_34) k) ?_
  show Run p e below s _ _ _ (T347.setTop (mkF m 36 #[.val (.int (-(own_of ((mm / 100) / 100)))), .val (.int (8 : Int32)), .val (.ref bf), .val (.int ((-(own_of ((mm / 100) / 100))) / (100 : Int32))), .val (.int (own_of ((mm / 100) % 100))), .val (.int (4 : Int32)), .val (.int (0 : Int32))] [(.int (100 : Int32)), (.int ((-(own_of ((mm / 100) / 100))) / (100 : Int32)))]))
  refine Run.pre (fun _ k => XS.imul X347.here hx rfl (hb hby d10_36) rfl k) ?_
  refine Run.pre (fun _ k => XS.iloadN X347.here hx rfl (hb hby d10_37) rfl  k) ?_
  show Run p e below s _ _ _ (T347.setTop (mkF m 38 #[.val (.int (-(own_of ((mm / 100) / 100)))), .val (.int (8 : Int32)), .val (.ref bf), .val (.int ((-(own_of ((mm / 100) / 100))) / (100 : Int32))), .val (.int (own_of ((mm / 100) % 100))), .val (.int (4 : Int32)), .val (.int (0 : Int32))] [(.int (-(own_of ((mm / 100) / 100)))), (.int (((-(own_of ((mm / 100) / 100))) / (100 : Int32)) * (100 : Int32)))]))
  refine Run.pre (fun _ k => XS.isub X347.here hx rfl (hb hby d10_38) rfl k) ?_
  show Run p e below s _ _ _ (T347.setTop (mkF m 39 #[.val (.int (-(own_of ((mm / 100) / 100)))), .val (.int (8 : Int32)), .val (.ref bf), .val (.int ((-(own_of ((mm / 100) / 100))) / (100 : Int32))), .val (.int (own_of ((mm / 100) % 100))), .val (.int (4 : Int32)), .val (.int (0 : Int32))] [(.int ((((-(own_of ((mm / 100) / 100))) / (100 : Int32)) * (100 : Int32)) - (-(own_of ((mm / 100) / 100)))))]))
  refine Run.pre (fun _ k => XS.istore X347.here hx rfl (hb hby d10_39) rfl (l' := #[.val (.int (-(own_of ((mm / 100) / 100)))), .val (.int (8 : Int32)), .val (.ref bf), .val (.int ((-(own_of ((mm / 100) / 100))) / (100 : Int32))), .val (.int ((((-(own_of ((mm / 100) / 100))) / (100 : Int32)) * (100 : Int32)) - (-(own_of ((mm / 100) / 100))))), .val (.int (4 : Int32)), .val (.int (0 : Int32))]) rfl k) ?_
  refine Run.pre (fun _ k => XS.iloadN X347.here hx rfl (hb hby d10_41) rfl  k) ?_
  show Run p e below s _ _ _ (T347.setTop (mkF m 42 #[.val (.int (-(own_of ((mm / 100) / 100)))), .val (.int (8 : Int32)), .val (.ref bf), .val (.int ((-(own_of ((mm / 100) / 100))) / (100 : Int32))), .val (.int ((((-(own_of ((mm / 100) / 100))) / (100 : Int32)) * (100 : Int32)) - (-(own_of ((mm / 100) / 100))))), .val (.int (4 : Int32)), .val (.int (0 : Int32))] [(.int ((-(own_of ((mm / 100) / 100))) / (100 : Int32)))]))
  refine Run.pre (fun _ k => XS.istoreN X347.here hx rfl (hb hby d10_42) rfl (l' := #[.val (.int ((-(own_of ((mm / 100) / 100))) / (100 : Int32))), .val (.int (8 : Int32)), .val (.ref bf), .val (.int ((-(own_of ((mm / 100) / 100))) / (100 : Int32))), .val (.int ((((-(own_of ((mm / 100) / 100))) / (100 : Int32)) * (100 : Int32)) - (-(own_of ((mm / 100) / 100))))), .val (.int (4 : Int32)), .val (.int (0 : Int32))]) rfl k) ?_
  show Run p e below s _ _ _ (T347.setTop (mkF m 43 #[.val (.int ((-(own_of ((mm / 100) / 100))) / (100 : Int32))), .val (.int (8 : Int32)), .val (.ref bf), .val (.int ((-(own_of ((mm / 100) / 100))) / (100 : Int32))), .val (.int ((((-(own_of ((mm / 100) / 100))) / (100 : Int32)) * (100 : Int32)) - (-(own_of ((mm / 100) / 100))))), .val (.int (4 : Int32)), .val (.int (0 : Int32))] []))
  rw [own_div (show ((mm / 100) / 100) < 2147483648 by omega), own_rem (show ((mm / 100) / 100) < 2147483648 by omega)]
  refine Run.pre (fun _ k => XS.aloadN X347.here hx rfl (hb hby d10_43) rfl rfl k) ?_
  show Run p e below s _ _ _ (T347.setTop (mkF m 44 #[.val (.int (-(own_of (((mm / 100) / 100) / 100)))), .val (.int (8 : Int32)), .val (.ref bf), .val (.int (-(own_of (((mm / 100) / 100) / 100)))), .val (.int (own_of (((mm / 100) / 100) % 100))), .val (.int (4 : Int32)), .val (.int (0 : Int32))] [(.ref bf)]))
  refine Run.pre (fun _ k => XS.iinc X347.here hx rfl (hb hby d10_44) rfl (l' := #[.val (.int (-(own_of (((mm / 100) / 100) / 100)))), .val (.int (8 : Int32)), .val (.ref bf), .val (.int (-(own_of (((mm / 100) / 100) / 100)))), .val (.int (own_of (((mm / 100) / 100) % 100))), .val (.int (3 : Int32)), .val (.int (0 : Int32))]) rfl k) ?_
  refine Run.pre (fun _ k => XS.iload X347.here hx rfl (hb hby d10_47) rfl  k) ?_
  show Run p e below s _ _ _ (T347.setTop (mkF m 49 #[.val (.int (-(own_of (((mm / 100) / 100) / 100)))), .val (.int (8 : Int32)), .val (.ref bf), .val (.int (-(own_of (((mm / 100) / 100) / 100)))), .val (.int (own_of (((mm / 100) / 100) % 100))), .val (.int (3 : Int32)), .val (.int (0 : Int32))] [(.int (3 : Int32)), (.ref bf)]))
  have f348 := (f343.wr W347 g_bf)
  obtain ⟨T349, X349, e349, st349⟩ := getS2 X347 hx hZ hown (host := "") (Or.inl (hw _ (List.mem_of_getElem? (i := 57) rfl))) Via.refl e347 (SO.ext f348.2) (g := (mkF m 49 #[.val (.int (-(own_of (((mm / 100) / 100) / 100)))), .val (.int (8 : Int32)), .val (.ref bf), .val (.int (-(own_of (((mm / 100) / 100) / 100)))), .val (.int (own_of (((mm / 100) / 100) % 100))), .val (.int (3 : Int32)), .val (.int (0 : Int32))] [(.int (3 : Int32)), (.ref bf)])) rfl (hb hby d10_49)
  refine Run.pre st349 ?_
  refine Run.pre (fun _ k => XS.iload X349.here hx rfl (hb hby d10_52) rfl  k) ?_
  show Run p e below s _ _ _ (T349.setTop (mkF m 54 #[.val (.int (-(own_of (((mm / 100) / 100) / 100)))), .val (.int (8 : Int32)), .val (.ref bf), .val (.int (-(own_of (((mm / 100) / 100) / 100)))), .val (.int (own_of (((mm / 100) / 100) % 100))), .val (.int (3 : Int32)), .val (.int (0 : Int32))] [(.int (own_of (((mm / 100) / 100) % 100))), (.ref od), (.int (3 : Int32)), (.ref bf)]))
  obtain ⟨c350, Ar350, -, S350, N350, H350, -⟩ := id (AO.ext f348.2)
  have hin350 : ¬ ((own_of (((mm / 100) / 100) % 100)) < 0 ∨ c350.slots.size ≤ ((own_of (((mm / 100) / 100) % 100))).toNatClampNeg) := inb_of S350 (own_in100 (show (((mm / 100) / 100) % 100) < 100 by omega))
  refine Run.pre (X349.baloadBytes hx (j := (own_of (((mm / 100) / 100) % 100))) (v := (.int (own_of (48 + (((mm / 100) / 100) % 100) % 10)))) (by rw [e349]; exact Ar350.1) (State.isArrayOf_alike hZ.alike Ar350.2.1) Ar350.2.2 hin350 (H350.at hin350 (own_getO (show (((mm / 100) / 100) % 100) < 100 by omega))) (g := (mkF m 54 #[.val (.int (-(own_of (((mm / 100) / 100) / 100)))), .val (.int (8 : Int32)), .val (.ref bf), .val (.int (-(own_of (((mm / 100) / 100) / 100)))), .val (.int (own_of (((mm / 100) / 100) % 100))), .val (.int (3 : Int32)), .val (.int (0 : Int32))] [(.int (own_of (((mm / 100) / 100) % 100))), (.ref od), (.int (3 : Int32)), (.ref bf)])) rfl rfl (hb hby d10_54)) ?_
  show Run p e below s _ _ _ (T349.setTop (mkF m 55 #[.val (.int (-(own_of (((mm / 100) / 100) / 100)))), .val (.int (8 : Int32)), .val (.ref bf), .val (.int (-(own_of (((mm / 100) / 100) / 100)))), .val (.int (own_of (((mm / 100) / 100) % 100))), .val (.int (3 : Int32)), .val (.int (0 : Int32))] [(.int (own_of (48 + (((mm / 100) / 100) % 100) % 10))), (.int (3 : Int32)), (.ref bf)]))
  obtain ⟨c351, Ar351, q351, S351, N351, H351, G351⟩ := id V_bf_347
  have hin351 : ¬ ((3 : Int32) < 0 ∨ c351.slots.size ≤ ((3 : Int32)).toNatClampNeg) := inb_of S351 ⟨by decide, by decide⟩
  obtain ⟨T352, h352, X352, e352, W352, st352⟩ := stB X349 hx hZ e349 Ar351 (j := (3 : Int32)) hin351 (g := (mkF m 55 #[.val (.int (-(own_of (((mm / 100) / 100) / 100)))), .val (.int (8 : Int32)), .val (.ref bf), .val (.int (-(own_of (((mm / 100) / 100) / 100)))), .val (.int (own_of (((mm / 100) / 100) % 100))), .val (.int (3 : Int32)), .val (.int (0 : Int32))] [(.int (own_of (48 + (((mm / 100) / 100) % 100) % 10))), (.int (3 : Int32)), (.ref bf)])) rfl rfl (hb hby d10_55)
  refine Run.pre st352 ?_
  have V_bf_352 : Arv Z h352 bf kb .byte (8 : Int32) [(.int (0 : Int32)), (.int (0 : Int32)), (.int (0 : Int32)), (.int (nar .byte (own_of (48 + (((mm / 100) / 100) % 100) % 10)))), (.int (nar .byte (own_of (48 + ((mm / 100) % 100) / 10)))), (.int (nar .byte (own_of (48 + ((mm / 100) % 100) % 10)))), (.int (nar .byte (own_of (48 + (mm % 100) / 10)))), (.int (nar .byte (own_of (48 + (mm % 100) % 10))))] (.int (0 : Int32)) := Arv.set Ar351 q351 S351 N351 H351 G351 (fits_nar_byte _) W352 3 rfl (Nat.le_of_ble_eq_true rfl)
  have K352 : Keep h0 h352 [bf] := K347.wr W352 (Or.inl (by simp))
  have N352 := Fr.snoc X352 N347 g_bf
  refine Run.pre (fun _ k => XS.aloadN X352.here hx rfl (hb hby d10_56) rfl rfl k) ?_
  show Run p e below s _ _ _ (T352.setTop (mkF m 57 #[.val (.int (-(own_of (((mm / 100) / 100) / 100)))), .val (.int (8 : Int32)), .val (.ref bf), .val (.int (-(own_of (((mm / 100) / 100) / 100)))), .val (.int (own_of (((mm / 100) / 100) % 100))), .val (.int (3 : Int32)), .val (.int (0 : Int32))] [(.ref bf)]))
  refine Run.pre (fun _ k => XS.iinc X352.here hx rfl (hb hby d10_57) rfl (l' := #[.val (.int (-(own_of (((mm / 100) / 100) / 100)))), .val (.int (8 : Int32)), .val (.ref bf), .val (.int (-(own_of (((mm / 100) / 100) / 100)))), .val (.int (own_of (((mm / 100) / 100) % 100))), .val (.int (2 : Int32)), .val (.int (0 : Int32))]) rfl k) ?_
  refine Run.pre (fun _ k => XS.iload X352.here hx rfl (hb hby d10_60) rfl  k) ?_
  show Run p e below s _ _ _ (T352.setTop (mkF m 62 #[.val (.int (-(own_of (((mm / 100) / 100) / 100)))), .val (.int (8 : Int32)), .val (.ref bf), .val (.int (-(own_of (((mm / 100) / 100) / 100)))), .val (.int (own_of (((mm / 100) / 100) % 100))), .val (.int (2 : Int32)), .val (.int (0 : Int32))] [(.int (2 : Int32)), (.ref bf)]))
  have f353 := (f348.wr W352 g_bf)
  obtain ⟨T354, X354, e354, st354⟩ := getS2 X352 hx hZ hown (host := "") (Or.inl (hw _ (List.mem_of_getElem? (i := 58) rfl))) Via.refl e352 (ST.ext f353.2) (g := (mkF m 62 #[.val (.int (-(own_of (((mm / 100) / 100) / 100)))), .val (.int (8 : Int32)), .val (.ref bf), .val (.int (-(own_of (((mm / 100) / 100) / 100)))), .val (.int (own_of (((mm / 100) / 100) % 100))), .val (.int (2 : Int32)), .val (.int (0 : Int32))] [(.int (2 : Int32)), (.ref bf)])) rfl (hb hby d10_62)
  refine Run.pre st354 ?_
  refine Run.pre (fun _ k => XS.iload X354.here hx rfl (hb hby d10_65) rfl  k) ?_
  show Run p e below s _ _ _ (T354.setTop (mkF m 67 #[.val (.int (-(own_of (((mm / 100) / 100) / 100)))), .val (.int (8 : Int32)), .val (.ref bf), .val (.int (-(own_of (((mm / 100) / 100) / 100)))), .val (.int (own_of (((mm / 100) / 100) % 100))), .val (.int (2 : Int32)), .val (.int (0 : Int32))] [(.int (own_of (((mm / 100) / 100) % 100))), (.ref td), (.int (2 : Int32)), (.ref bf)]))
  obtain ⟨c355, Ar355, -, S355, N355, H355, -⟩ := id (AT.ext f353.2)
  have hin355 : ¬ ((own_of (((mm / 100) / 100) % 100)) < 0 ∨ c355.slots.size ≤ ((own_of (((mm / 100) / 100) % 100))).toNatClampNeg) := inb_of S355 (own_in100 (show (((mm / 100) / 100) % 100) < 100 by omega))
  refine Run.pre (X354.baloadBytes hx (j := (own_of (((mm / 100) / 100) % 100))) (v := (.int (own_of (48 + (((mm / 100) / 100) % 100) / 10)))) (by rw [e354]; exact Ar355.1) (State.isArrayOf_alike hZ.alike Ar355.2.1) Ar355.2.2 hin355 (H355.at hin355 (own_getT (show (((mm / 100) / 100) % 100) < 100 by omega))) (g := (mkF m 67 #[.val (.int (-(own_of (((mm / 100) / 100) / 100)))), .val (.int (8 : Int32)), .val (.ref bf), .val (.int (-(own_of (((mm / 100) / 100) / 100)))), .val (.int (own_of (((mm / 100) / 100) % 100))), .val (.int (2 : Int32)), .val (.int (0 : Int32))] [(.int (own_of (((mm / 100) / 100) % 100))), (.ref td), (.int (2 : Int32)), (.ref bf)])) rfl rfl (hb hby d10_67)) ?_
  show Run p e below s _ _ _ (T354.setTop (mkF m 68 #[.val (.int (-(own_of (((mm / 100) / 100) / 100)))), .val (.int (8 : Int32)), .val (.ref bf), .val (.int (-(own_of (((mm / 100) / 100) / 100)))), .val (.int (own_of (((mm / 100) / 100) % 100))), .val (.int (2 : Int32)), .val (.int (0 : Int32))] [(.int (own_of (48 + (((mm / 100) / 100) % 100) / 10))), (.int (2 : Int32)), (.ref bf)]))
  obtain ⟨c356, Ar356, q356, S356, N356, H356, G356⟩ := id V_bf_352
  have hin356 : ¬ ((2 : Int32) < 0 ∨ c356.slots.size ≤ ((2 : Int32)).toNatClampNeg) := inb_of S356 ⟨by decide, by decide⟩
  obtain ⟨T357, h357, X357, e357, W357, st357⟩ := stB X354 hx hZ e354 Ar356 (j := (2 : Int32)) hin356 (g := (mkF m 68 #[.val (.int (-(own_of (((mm / 100) / 100) / 100)))), .val (.int (8 : Int32)), .val (.ref bf), .val (.int (-(own_of (((mm / 100) / 100) / 100)))), .val (.int (own_of (((mm / 100) / 100) % 100))), .val (.int (2 : Int32)), .val (.int (0 : Int32))] [(.int (own_of (48 + (((mm / 100) / 100) % 100) / 10))), (.int (2 : Int32)), (.ref bf)])) rfl rfl (hb hby d10_68)
  refine Run.pre st357 ?_
  have V_bf_357 : Arv Z h357 bf kb .byte (8 : Int32) [(.int (0 : Int32)), (.int (0 : Int32)), (.int (nar .byte (own_of (48 + (((mm / 100) / 100) % 100) / 10)))), (.int (nar .byte (own_of (48 + (((mm / 100) / 100) % 100) % 10)))), (.int (nar .byte (own_of (48 + ((mm / 100) % 100) / 10)))), (.int (nar .byte (own_of (48 + ((mm / 100) % 100) % 10)))), (.int (nar .byte (own_of (48 + (mm % 100) / 10)))), (.int (nar .byte (own_of (48 + (mm % 100) % 10))))] (.int (0 : Int32)) := Arv.set Ar356 q356 S356 N356 H356 G356 (fits_nar_byte _) W357 2 rfl (Nat.le_of_ble_eq_true rfl)
  have K357 : Keep h0 h357 [bf] := K352.wr W357 (Or.inl (by simp))
  have N357 := Fr.snoc X357 N352 g_bf
  refine Run.pre (fun _ k => XS.goto X357.here hx rfl (pc0 := 69) (pc' := 22) rfl (hb hby d10_69) (by decide) (by decide) k) ?_
  refine Run.pre (fun _ k => XS.iloadN X357.here hx rfl (hb hby d10_22) rfl  k) ?_
  refine Run.pre (fun _ k => XS.bipush X357.here hx rfl (hb hby d10_23) k) ?_
  show Run p e below s _ _ _ (T357.setTop (mkF m 25 #[.val (.int (-(own_of (((mm / 100) / 100) / 100)))), .val (.int (8 : Int32)), .val (.ref bf), .val (.int (-(own_of (((mm / 100) / 100) / 100)))), .val (.int (own_of (((mm / 100) / 100) % 100))), .val (.int (2 : Int32)), .val (.int (0 : Int32))] [(.int (-100 : Int32)), (.int (-(own_of (((mm / 100) / 100) / 100))))]))
  refine Run.pre (fun _ k => XS.icmpYes X357.here hx rfl (pc0 := 25) (pc' := 72) rfl (hb hby d10_25) rfl (tlt ((own_ltng (show (((mm / 100) / 100) / 100) < 2147483648 by omega) (by have e : ((-100 : Int32)).toInt = -100 := (by decide); omega)) : (-100 : Int32) < (-(own_of (((mm / 100) / 100) / 100))))).2.2.1 (by decide) (by decide) k) ?_
  refine Run.pre (fun _ k => XS.aloadN X357.here hx rfl (hb hby d10_72) rfl rfl k) ?_
  show Run p e below s _ _ _ (T357.setTop (mkF m 73 #[.val (.int (-(own_of (((mm / 100) / 100) / 100)))), .val (.int (8 : Int32)), .val (.ref bf), .val (.int (-(own_of (((mm / 100) / 100) / 100)))), .val (.int (own_of (((mm / 100) / 100) % 100))), .val (.int (2 : Int32)), .val (.int (0 : Int32))] [(.ref bf)]))
  refine Run.pre (fun _ k => XS.iinc X357.here hx rfl (hb hby d10_73) rfl (l' := #[.val (.int (-(own_of (((mm / 100) / 100) / 100)))), .val (.int (8 : Int32)), .val (.ref bf), .val (.int (-(own_of (((mm / 100) / 100) / 100)))), .val (.int (own_of (((mm / 100) / 100) % 100))), .val (.int (1 : Int32)), .val (.int (0 : Int32))]) rfl k) ?_
  refine Run.pre (fun _ k => XS.iload X357.here hx rfl (hb hby d10_76) rfl  k) ?_
  show Run p e below s _ _ _ (T357.setTop (mkF m 78 #[.val (.int (-(own_of (((mm / 100) / 100) / 100)))), .val (.int (8 : Int32)), .val (.ref bf), .val (.int (-(own_of (((mm / 100) / 100) / 100)))), .val (.int (own_of (((mm / 100) / 100) % 100))), .val (.int (1 : Int32)), .val (.int (0 : Int32))] [(.int (1 : Int32)), (.ref bf)]))
  have f358 := (f353.wr W357 g_bf)
  obtain ⟨T359, X359, e359, st359⟩ := getS2 X357 hx hZ hown (host := "") (Or.inl (hw _ (List.mem_of_getElem? (i := 57) rfl))) Via.refl e357 (SO.ext f358.2) (g := (mkF m 78 #[.val (.int (-(own_of (((mm / 100) / 100) / 100)))), .val (.int (8 : Int32)), .val (.ref bf), .val (.int (-(own_of (((mm / 100) / 100) / 100)))), .val (.int (own_of (((mm / 100) / 100) % 100))), .val (.int (1 : Int32)), .val (.int (0 : Int32))] [(.int (1 : Int32)), (.ref bf)])) rfl (hb hby d10_78)
  refine Run.pre st359 ?_
  refine Run.pre (fun _ k => XS.iloadN X359.here hx rfl (hb hby d10_81) rfl  k) ?_
  show Run p e below s _ _ _ (T359.setTop (mkF m 82 #[.val (.int (-(own_of (((mm / 100) / 100) / 100)))), .val (.int (8 : Int32)), .val (.ref bf), .val (.int (-(own_of (((mm / 100) / 100) / 100)))), .val (.int (own_of (((mm / 100) / 100) % 100))), .val (.int (1 : Int32)), .val (.int (0 : Int32))] [(.int (-(own_of (((mm / 100) / 100) / 100)))), (.ref od), (.int (1 : Int32)), (.ref bf)]))
  refine Run.pre (fun _ k => XS.ineg X359.here hx rfl (hb hby d10_82) rfl k) ?_
  show Run p e below s _ _ _ (T359.setTop (mkF m 83 #[.val (.int (-(own_of (((mm / 100) / 100) / 100)))), .val (.int (8 : Int32)), .val (.ref bf), .val (.int (-(own_of (((mm / 100) / 100) / 100)))), .val (.int (own_of (((mm / 100) / 100) % 100))), .val (.int (1 : Int32)), .val (.int (0 : Int32))] [(.int (-(-(own_of (((mm / 100) / 100) / 100))))), (.ref od), (.int (1 : Int32)), (.ref bf)]))
  obtain ⟨c360, Ar360, -, S360, N360, H360, -⟩ := id (AO.ext f358.2)
  have hin360 : ¬ ((-(-(own_of (((mm / 100) / 100) / 100)))) < 0 ∨ c360.slots.size ≤ ((-(-(own_of (((mm / 100) / 100) / 100))))).toNatClampNeg) := inb_of S360 (by rw [Int32.neg_neg]; exact own_in100 (show (((mm / 100) / 100) / 100) < 100 by omega))
  refine Run.pre (X359.baloadBytes hx (j := (-(-(own_of (((mm / 100) / 100) / 100))))) (v := (.int (own_of (48 + (((mm / 100) / 100) / 100) % 10)))) (by rw [e359]; exact Ar360.1) (State.isArrayOf_alike hZ.alike Ar360.2.1) Ar360.2.2 hin360 (H360.at hin360 (by rw [Int32.neg_neg]; exact own_getO (show (((mm / 100) / 100) / 100) < 100 by omega))) (g := (mkF m 83 #[.val (.int (-(own_of (((mm / 100) / 100) / 100)))), .val (.int (8 : Int32)), .val (.ref bf), .val (.int (-(own_of (((mm / 100) / 100) / 100)))), .val (.int (own_of (((mm / 100) / 100) % 100))), .val (.int (1 : Int32)), .val (.int (0 : Int32))] [(.int (-(-(own_of (((mm / 100) / 100) / 100))))), (.ref od), (.int (1 : Int32)), (.ref bf)])) rfl rfl (hb hby d10_83)) ?_
  show Run p e below s _ _ _ (T359.setTop (mkF m 84 #[.val (.int (-(own_of (((mm / 100) / 100) / 100)))), .val (.int (8 : Int32)), .val (.ref bf), .val (.int (-(own_of (((mm / 100) / 100) / 100)))), .val (.int (own_of (((mm / 100) / 100) % 100))), .val (.int (1 : Int32)), .val (.int (0 : Int32))] [(.int (own_of (48 + (((mm / 100) / 100) / 100) % 10))), (.int (1 : Int32)), (.ref bf)]))
  obtain ⟨c361, Ar361, q361, S361, N361, H361, G361⟩ := id V_bf_357
  have hin361 : ¬ ((1 : Int32) < 0 ∨ c361.slots.size ≤ ((1 : Int32)).toNatClampNeg) := inb_of S361 ⟨by decide, by decide⟩
  obtain ⟨T362, h362, X362, e362, W362, st362⟩ := stB X359 hx hZ e359 Ar361 (j := (1 : Int32)) hin361 (g := (mkF m 84 #[.val (.int (-(own_of (((mm / 100) / 100) / 100)))), .val (.int (8 : Int32)), .val (.ref bf), .val (.int (-(own_of (((mm / 100) / 100) / 100)))), .val (.int (own_of (((mm / 100) / 100) % 100))), .val (.int (1 : Int32)), .val (.int (0 : Int32))] [(.int (own_of (48 + (((mm / 100) / 100) / 100) % 10))), (.int (1 : Int32)), (.ref bf)])) rfl rfl (hb hby d10_84)
  refine Run.pre st362 ?_
  have V_bf_362 : Arv Z h362 bf kb .byte (8 : Int32) [(.int (0 : Int32)), (.int (nar .byte (own_of (48 + (((mm / 100) / 100) / 100) % 10)))), (.int (nar .byte (own_of (48 + (((mm / 100) / 100) % 100) / 10)))), (.int (nar .byte (own_of (48 + (((mm / 100) / 100) % 100) % 10)))), (.int (nar .byte (own_of (48 + ((mm / 100) % 100) / 10)))), (.int (nar .byte (own_of (48 + ((mm / 100) % 100) % 10)))), (.int (nar .byte (own_of (48 + (mm % 100) / 10)))), (.int (nar .byte (own_of (48 + (mm % 100) % 10))))] (.int (0 : Int32)) := Arv.set Ar361 q361 S361 N361 H361 G361 (fits_nar_byte _) W362 1 rfl (Nat.le_of_ble_eq_true rfl)
  have K362 : Keep h0 h362 [bf] := K357.wr W362 (Or.inl (by simp))
  have N362 := Fr.snoc X362 N357 g_bf
  refine Run.pre (fun _ k => XS.iloadN X362.here hx rfl (hb hby d10_85) rfl  k) ?_
  refine Run.pre (fun _ k => XS.bipush X362.here hx rfl (hb hby d10_86) k) ?_
  show Run p e below s _ _ _ (T362.setTop (mkF m 88 #[.val (.int (-(own_of (((mm / 100) / 100) / 100)))), .val (.int (8 : Int32)), .val (.ref bf), .val (.int (-(own_of (((mm / 100) / 100) / 100)))), .val (.int (own_of (((mm / 100) / 100) % 100))), .val (.int (1 : Int32)), .val (.int (0 : Int32))] [(.int (-9 : Int32)), (.int (-(own_of (((mm / 100) / 100) / 100))))]))
  refine Run.pre (fun _ k => XS.icmpNo X362.here hx rfl (hb hby d10_88) rfl (tlt ((own_nglt (show (((mm / 100) / 100) / 100) < 2147483648 by omega) (by have e : ((-9 : Int32)).toInt = -9 := (by decide); omega)) : (-(own_of (((mm / 100) / 100) / 100))) < (-9 : Int32))).2.1 k) ?_
  refine Run.pre (fun _ k => XS.aloadN X362.here hx rfl (hb hby d10_91) rfl rfl k) ?_
  show Run p e below s _ _ _ (T362.setTop (mkF m 92 #[.val (.int (-(own_of (((mm / 100) / 100) / 100)))), .val (.int (8 : Int32)), .val (.ref bf), .val (.int (-(own_of (((mm / 100) / 100) / 100)))), .val (.int (own_of (((mm / 100) / 100) % 100))), .val (.int (1 : Int32)), .val (.int (0 : Int32))] [(.ref bf)]))
  refine Run.pre (fun _ k => XS.iinc X362.here hx rfl (hb hby d10_92) rfl (l' := #[.val (.int (-(own_of (((mm / 100) / 100) / 100)))), .val (.int (8 : Int32)), .val (.ref bf), .val (.int (-(own_of (((mm / 100) / 100) / 100)))), .val (.int (own_of (((mm / 100) / 100) % 100))), .val (.int (0 : Int32)), .val (.int (0 : Int32))]) rfl k) ?_
  refine Run.pre (fun _ k => XS.iload X362.here hx rfl (hb hby d10_95) rfl  k) ?_
  show Run p e below s _ _ _ (T362.setTop (mkF m 97 #[.val (.int (-(own_of (((mm / 100) / 100) / 100)))), .val (.int (8 : Int32)), .val (.ref bf), .val (.int (-(own_of (((mm / 100) / 100) / 100)))), .val (.int (own_of (((mm / 100) / 100) % 100))), .val (.int (0 : Int32)), .val (.int (0 : Int32))] [(.int (0 : Int32)), (.ref bf)]))
  have f363 := (f358.wr W362 g_bf)
  obtain ⟨T364, X364, e364, st364⟩ := getS2 X362 hx hZ hown (host := "") (Or.inl (hw _ (List.mem_of_getElem? (i := 58) rfl))) Via.refl e362 (ST.ext f363.2) (g := (mkF m 97 #[.val (.int (-(own_of (((mm / 100) / 100) / 100)))), .val (.int (8 : Int32)), .val (.ref bf), .val (.int (-(own_of (((mm / 100) / 100) / 100)))), .val (.int (own_of (((mm / 100) / 100) % 100))), .val (.int (0 : Int32)), .val (.int (0 : Int32))] [(.int (0 : Int32)), (.ref bf)])) rfl (hb hby d10_97)
  refine Run.pre st364 ?_
  refine Run.pre (fun _ k => XS.iloadN X364.here hx rfl (hb hby d10_100) rfl  k) ?_
  show Run p e below s _ _ _ (T364.setTop (mkF m 101 #[.val (.int (-(own_of (((mm / 100) / 100) / 100)))), .val (.int (8 : Int32)), .val (.ref bf), .val (.int (-(own_of (((mm / 100) / 100) / 100)))), .val (.int (own_of (((mm / 100) / 100) % 100))), .val (.int (0 : Int32)), .val (.int (0 : Int32))] [(.int (-(own_of (((mm / 100) / 100) / 100)))), (.ref td), (.int (0 : Int32)), (.ref bf)]))
  refine Run.pre (fun _ k => XS.ineg X364.here hx rfl (hb hby d10_101) rfl k) ?_
  show Run p e below s _ _ _ (T364.setTop (mkF m 102 #[.val (.int (-(own_of (((mm / 100) / 100) / 100)))), .val (.int (8 : Int32)), .val (.ref bf), .val (.int (-(own_of (((mm / 100) / 100) / 100)))), .val (.int (own_of (((mm / 100) / 100) % 100))), .val (.int (0 : Int32)), .val (.int (0 : Int32))] [(.int (-(-(own_of (((mm / 100) / 100) / 100))))), (.ref td), (.int (0 : Int32)), (.ref bf)]))
  obtain ⟨c365, Ar365, -, S365, N365, H365, -⟩ := id (AT.ext f363.2)
  have hin365 : ¬ ((-(-(own_of (((mm / 100) / 100) / 100)))) < 0 ∨ c365.slots.size ≤ ((-(-(own_of (((mm / 100) / 100) / 100))))).toNatClampNeg) := inb_of S365 (by rw [Int32.neg_neg]; exact own_in100 (show (((mm / 100) / 100) / 100) < 100 by omega))
  refine Run.pre (X364.baloadBytes hx (j := (-(-(own_of (((mm / 100) / 100) / 100))))) (v := (.int (own_of (48 + (((mm / 100) / 100) / 100) / 10)))) (by rw [e364]; exact Ar365.1) (State.isArrayOf_alike hZ.alike Ar365.2.1) Ar365.2.2 hin365 (H365.at hin365 (by rw [Int32.neg_neg]; exact own_getT (show (((mm / 100) / 100) / 100) < 100 by omega))) (g := (mkF m 102 #[.val (.int (-(own_of (((mm / 100) / 100) / 100)))), .val (.int (8 : Int32)), .val (.ref bf), .val (.int (-(own_of (((mm / 100) / 100) / 100)))), .val (.int (own_of (((mm / 100) / 100) % 100))), .val (.int (0 : Int32)), .val (.int (0 : Int32))] [(.int (-(-(own_of (((mm / 100) / 100) / 100))))), (.ref td), (.int (0 : Int32)), (.ref bf)])) rfl rfl (hb hby d10_102)) ?_
  show Run p e below s _ _ _ (T364.setTop (mkF m 103 #[.val (.int (-(own_of (((mm / 100) / 100) / 100)))), .val (.int (8 : Int32)), .val (.ref bf), .val (.int (-(own_of (((mm / 100) / 100) / 100)))), .val (.int (own_of (((mm / 100) / 100) % 100))), .val (.int (0 : Int32)), .val (.int (0 : Int32))] [(.int (own_of (48 + (((mm / 100) / 100) / 100) / 10))), (.int (0 : Int32)), (.ref bf)]))
  obtain ⟨c366, Ar366, q366, S366, N366, H366, G366⟩ := id V_bf_362
  have hin366 : ¬ ((0 : Int32) < 0 ∨ c366.slots.size ≤ ((0 : Int32)).toNatClampNeg) := inb_of S366 ⟨by decide, by decide⟩
  obtain ⟨T367, h367, X367, e367, W367, st367⟩ := stB X364 hx hZ e364 Ar366 (j := (0 : Int32)) hin366 (g := (mkF m 103 #[.val (.int (-(own_of (((mm / 100) / 100) / 100)))), .val (.int (8 : Int32)), .val (.ref bf), .val (.int (-(own_of (((mm / 100) / 100) / 100)))), .val (.int (own_of (((mm / 100) / 100) % 100))), .val (.int (0 : Int32)), .val (.int (0 : Int32))] [(.int (own_of (48 + (((mm / 100) / 100) / 100) / 10))), (.int (0 : Int32)), (.ref bf)])) rfl rfl (hb hby d10_103)
  refine Run.pre st367 ?_
  have V_bf_367 : Arv Z h367 bf kb .byte (8 : Int32) [(.int (nar .byte (own_of (48 + (((mm / 100) / 100) / 100) / 10)))), (.int (nar .byte (own_of (48 + (((mm / 100) / 100) / 100) % 10)))), (.int (nar .byte (own_of (48 + (((mm / 100) / 100) % 100) / 10)))), (.int (nar .byte (own_of (48 + (((mm / 100) / 100) % 100) % 10)))), (.int (nar .byte (own_of (48 + ((mm / 100) % 100) / 10)))), (.int (nar .byte (own_of (48 + ((mm / 100) % 100) % 10)))), (.int (nar .byte (own_of (48 + (mm % 100) / 10)))), (.int (nar .byte (own_of (48 + (mm % 100) % 10))))] (.int (0 : Int32)) := Arv.set Ar366 q366 S366 N366 H366 G366 (fits_nar_byte _) W367 0 rfl (Nat.le_of_ble_eq_true rfl)
  have K367 : Keep h0 h367 [bf] := K362.wr W367 (Or.inl (by simp))
  have N367 := Fr.snoc X367 N362 g_bf
  refine Run.pre (fun _ k => XS.iload X367.here hx rfl (hb hby d10_104) rfl  k) ?_
  show Run p e below s _ _ _ (T367.setTop (mkF m 106 #[.val (.int (-(own_of (((mm / 100) / 100) / 100)))), .val (.int (8 : Int32)), .val (.ref bf), .val (.int (-(own_of (((mm / 100) / 100) / 100)))), .val (.int (own_of (((mm / 100) / 100) % 100))), .val (.int (0 : Int32)), .val (.int (0 : Int32))] [(.int (0 : Int32))]))
  refine Run.pre (fun _ k => XS.ifYes X367.here hx rfl (pc0 := 106) (pc' := 118) rfl (hb hby d10_106) rfl ((if0 _ _).trans (teq ((by decide) : (0 : Int32) = (0 : Int32))).1) (by decide) (by decide) k) ?_
  refine Run.pre (fun _ k => XS.iload X367.here hx rfl (hb hby d10_118) rfl  k) ?_
  show Run p e below s _ _ _ (T367.setTop (mkF m 120 #[.val (.int (-(own_of (((mm / 100) / 100) / 100)))), .val (.int (8 : Int32)), .val (.ref bf), .val (.int (-(own_of (((mm / 100) / 100) / 100)))), .val (.int (own_of (((mm / 100) / 100) % 100))), .val (.int (0 : Int32)), .val (.int (0 : Int32))] [(.int (0 : Int32))]))
  exact Run.retI hS (by first | exact Nat.le_refl _ | (rw [e367]; exact (Nat.le_trans (Nat.le_trans (Nat.le_trans (Nat.le_trans (Nat.le_trans (Nat.le_trans (Nat.le_trans (Nat.le_trans (Nat.zero_le _) (Keep.of_wr W332).1) (Keep.of_wr W337).1) (Keep.of_wr W342).1) (Keep.of_wr W347).1) (Keep.of_wr W352).1) (Keep.of_wr W357).1) (Keep.of_wr W362).1) (Keep.of_wr W367).1))) X367 hx hret hlk (hb hby d10_120) (by first | (rw [e367]; exact ⟨rfl, N367, K367, V_bf_367⟩) | exact ⟨rfl, N367, K367, V_bf_367⟩) (by decide) (by decide)
set_option maxRecDepth 65536 in
set_option maxHeartbeats 40000000 in
theorem rmTS_8 (l : Launch) (Z : State) (a0 : Array Value) (hw : ∀ d ∈ tables_1, d.before a0 Z = true) (mm : Nat) (cs : Int32) (od : Addr) (ko : ClassId) (td : Addr) (kt : ClassId) (h0 : Heap) (n0 : Nat) (Z0 : n0 ≤ h0.size) (OL : Old Z n0 h0) (hm : mm < 2147483648) (lo : 10000000 ≤ mm) (hi : mm < 100000000) (SC : Sta Z Z.heap "java/lang/String" "COMPACT_STRINGS" "Z" (.int cs)) (hcs : ¬ cs = 0) (SO : Sta Z Z.heap "java/lang/Integer" "DigitOnes" "[B" (.ref od)) (ST : Sta Z Z.heap "java/lang/Integer" "DigitTens" "[B" (.ref td)) (AO : Arv Z Z.heap od ko .byte 100 own_DO (.int 0)) (AT : Arv Z Z.heap td kt .byte 100 own_DT (.int 0)) :
    Con l (⟨"java/lang/Integer", "toString", "(I)Ljava/lang/String;"⟩ : MethodName) jdk_33_method_10_code 3 (some (.object "java/lang/String")) ({ frames := 2, cells := 2, slots := 12, locals := 27 } : Room) Z #[(.int (own_of mm))] h0 (fun _ => True) (fun v h L vm => ∃ o : Addr, ∃ b : Addr, ∃ k : ClassId, v = some (.ref o) ∧ Fr n0 L ∧ Keep h0 h [] ∧ h0.size ≤ o ∧ Exa Z h o "java/lang/String" ∧ Fld Z h o "java/lang/String" "value" "[B" (.ref b) ∧ Fld Z h o "java/lang/String" "coder" "B" (.int 0) ∧ Arv Z h b k .byte 8 [(.int (nar .byte (own_of (48 + (((mm / 100) / 100) / 100) / 10)))), (.int (nar .byte (own_of (48 + (((mm / 100) / 100) / 100) % 10)))), (.int (nar .byte (own_of (48 + (((mm / 100) / 100) % 100) / 10)))), (.int (nar .byte (own_of (48 + (((mm / 100) / 100) % 100) % 10)))), (.int (nar .byte (own_of (48 + ((mm / 100) % 100) / 10)))), (.int (nar .byte (own_of (48 + ((mm / 100) % 100) % 10)))), (.int (nar .byte (own_of (48 + (mm % 100) / 10)))), (.int (nar .byte (own_of (48 + (mm % 100) % 10))))] (.int 0)) := by
  refine Con.mk (plainFor_of_name pn_8) (fun m => show entryFrame m #[(.int (own_of mm))] 3 = mkF m 0 #[.val (.int (own_of mm)), .unset, .unset] [] by first | (simp [entryFrame, mkF, argsToLocals, Value.category]; done) | rfl) ?_
  intro p e s m below meth c s₁ vm0 hx hby hml hown hnm hret hlk hZ X0 e0 hS hs0 hP0
  have N0 := Fr.nil n0
  refine Run.pre (fun _ k => XS.iloadN X0.here hx rfl (hb hby d8_0) rfl  k) ?_
  show Run p e below s _ _ _ (s₁.setTop (mkF m 1 #[.val (.int (own_of mm)), .unset, .unset] [(.int (own_of mm))]))
  refine Run.callS hS (by first | exact Nat.le_refl _ | (rw [e0]; exact (Nat.zero_le _))) X0 hx hZ (y := (⟨"java/lang/Integer", "stringSize", "(I)I"⟩ : MethodName)) hown (hw _ (List.mem_of_getElem? (i := 50) rfl)) (hw _ (List.mem_of_getElem? (i := 51) rfl)) (hw _ (List.mem_of_getElem? (i := 21) rfl)) (hw _ (List.mem_of_getElem? (i := 52) rfl)) (by decide) (W := 0) (rmSS l Z a0 hw mm h0 n0 (Nat.le_trans Z0 (Keep.refl h0 []).1) hm) e0 (by decide) (by decide) (by decide) (by decide) (fun _ _ => trivial) (g := (mkF m 1 #[.val (.int (own_of mm)), .unset, .unset] [(.int (own_of mm))])) rfl (by rw [hml]; rfl) (argsL := [(.int (own_of mm))]) (rest := []) (lenOf pd_8 rfl) rfl (by show 2 * 0 + _ ≤ _; exact Nat.le_of_eq rfl) (hb hby d8_1) ?_
  intro v368 T368 L368 X368 hS hZ hown hV368 hQ368
  obtain ⟨rfl, Nq368, he368⟩ := hQ368
  have N368 := Fr.app N0 Nq368
  have e368 : T368.heap = h0 := he368
  rw [own_dgt_8 lo hi]
  show Run p e below s _ _ _ (T368.setTop (mkF m 4 #[.val (.int (own_of mm)), .unset, .unset] [(.int (8 : Int32))]))
  refine Run.pre (fun _ k => XS.istoreN X368.here hx rfl (hb hby d8_4) rfl (l' := #[.val (.int (own_of mm)), .val (.int (8 : Int32)), .unset]) rfl k) ?_
  show Run p e below s _ _ _ (T368.setTop (mkF m 5 #[.val (.int (own_of mm)), .val (.int (8 : Int32)), .unset] []))
  obtain ⟨T369, X369, e369, st369⟩ := getS2 X368 hx hZ hown (host := "") (Or.inl (hw _ (List.mem_of_getElem? (i := 53) rfl))) Via.refl e368 (SC.ext OL.2) (g := (mkF m 5 #[.val (.int (own_of mm)), .val (.int (8 : Int32)), .unset] [])) rfl (hb hby d8_5)
  refine Run.pre st369 ?_
  show Run p e below s _ _ _ (T369.setTop (mkF m 8 #[.val (.int (own_of mm)), .val (.int (8 : Int32)), .unset] [(.int cs)]))
  refine Run.pre (fun _ k => XS.ifNo X369.here hx rfl (hb hby d8_8) rfl ((if0 _ _).trans (feq (hcs : ¬ (cs = (0 : Int32)))).1) k) ?_
  refine Run.pre (fun _ k => XS.iloadN X369.here hx rfl (hb hby d8_11) rfl  k) ?_
  show Run p e below s _ _ _ (T369.setTop (mkF m 12 #[.val (.int (own_of mm)), .val (.int (8 : Int32)), .unset] [(.int (8 : Int32))]))
  obtain ⟨T370, h370, k370, X370, e370, E370, A370, st370⟩ := newP X369 hx hZ (hw _ (List.mem_of_getElem? (i := 7) rfl)) e369 (g := (mkF m 12 #[.val (.int (own_of mm)), .val (.int (8 : Int32)), .unset] [(.int (8 : Int32))])) rfl (hb hby d8_12) rfl (by decide) (cap := 8) (by decide) (by decide) (by decide) (by decide)
  obtain ⟨b370, g370⟩ : ∃ z, z = h0.size := ⟨_, rfl⟩
  rw [← g370] at A370 st370
  refine Run.pre st370 ?_
  have V_b370 : Arv Z h370 b370 k370 .byte (8 : Int32) [(.int (0 : Int32)), (.int (0 : Int32)), (.int (0 : Int32)), (.int (0 : Int32)), (.int (0 : Int32)), (.int (0 : Int32)), (.int (0 : Int32)), (.int (0 : Int32))] (.int (0 : Int32)) := (Arv.new A370 (by decide)).pad (pad_rep [] (.int (0 : Int32)) 8)
  have gn_b370 : n0 ≤ b370 := Nat.le_trans (Nat.le_trans Z0 (Keep.refl h0 []).1) (Nat.le_of_eq g370.symm)
  have sz_b370 : h0.size ≤ b370 := Nat.le_trans (Keep.refl h0 []).1 (Nat.le_of_eq g370.symm)
  have K370 : Keep h0 h370 [] := (Keep.refl h0 []).ext E370
  show Run p e below s _ _ _ (T370.setTop (mkF m 14 #[.val (.int (own_of mm)), .val (.int (8 : Int32)), .unset] [(.ref b370)]))
  refine Run.pre (fun _ k => XS.astoreN X370.here hx rfl (hb hby d8_14) rfl rfl (l' := #[.val (.int (own_of mm)), .val (.int (8 : Int32)), .val (.ref b370)]) rfl k) ?_
  refine Run.pre (fun _ k => XS.iloadN X370.here hx rfl (hb hby d8_15) rfl  k) ?_
  refine Run.pre (fun _ k => XS.iloadN X370.here hx rfl (hb hby d8_16) rfl  k) ?_
  refine Run.pre (fun _ k => XS.aloadN X370.here hx rfl (hb hby d8_17) rfl rfl k) ?_
  show Run p e below s _ _ _ (T370.setTop (mkF m 18 #[.val (.int (own_of mm)), .val (.int (8 : Int32)), .val (.ref b370)] [(.ref b370), (.int (8 : Int32)), (.int (own_of mm))]))
  have f371 := (OL.ext E370)
  refine Run.callS hS (by first | exact Nat.le_refl _ | (rw [e370]; exact (Nat.le_trans (Nat.le_of_eq (congrArg Array.size e368)) E370.1))) X370 hx hZ (y := (⟨"java/lang/Integer", "getChars", "(II[B)I"⟩ : MethodName)) hown (hw _ (List.mem_of_getElem? (i := 54) rfl)) (hw _ (List.mem_of_getElem? (i := 55) rfl)) (hw _ (List.mem_of_getElem? (i := 21) rfl)) (hw _ (List.mem_of_getElem? (i := 56) rfl)) (by decide) (W := 0) (rmGC_8 l Z a0 hw mm od ko td kt b370 k370 h370 n0 (Nat.le_trans Z0 K370.1) f371 hm lo hi SO ST AO AT V_b370 gn_b370) e370 (by decide) (by decide) (by decide) (by decide) (fun _ _ => trivial) (g := (mkF m 18 #[.val (.int (own_of mm)), .val (.int (8 : Int32)), .val (.ref b370)] [(.ref b370), (.int (8 : Int32)), (.int (own_of mm))])) rfl (by rw [hml]; rfl) (argsL := [(.int (own_of mm)), (.int (8 : Int32)), (.ref b370)]) (rest := []) (lenOf pd_9 rfl) rfl (by show 2 * 0 + _ ≤ _; exact Nat.le_of_eq rfl) (hb hby d8_18) ?_
  intro v372 T372 L372 X372 hS hZ hown hV372 hQ372
  obtain ⟨rfl, Nq372, Kc372, vb372⟩ := hQ372
  have N372 := Fr.app N368 Nq372
  have K372 : Keep h0 T372.heap [] := K370.trans Kc372 (allS (Or.inr sz_b370) all0)
  show Run p e below s _ _ _ (T372.setTop (mkF m 21 #[.val (.int (own_of mm)), .val (.int (8 : Int32)), .val (.ref b370)] [(.int (0 : Int32))]))
  refine Run.pre (fun _ k => XS.pop X372.here hx rfl (hb hby d8_21) rfl rfl k) ?_
  show Run p e below s _ _ _ (T372.setTop (mkF m 22 #[.val (.int (own_of mm)), .val (.int (8 : Int32)), .val (.ref b370)] []))
  obtain ⟨T373, h373, X373, e373, E373, A373, D373, -, st373⟩ := newO X372 hx hZ hown (hw _ (List.mem_of_getElem? (i := 59) rfl)) (hw _ (List.mem_of_getElem? (i := 6) rfl)) (hw _ (List.mem_of_getElem? (i := 5) rfl)) rfl (g := (mkF m 22 #[.val (.int (own_of mm)), .val (.int (8 : Int32)), .val (.ref b370)] [])) rfl (hb hby d8_22) (by decide) (by decide)
  obtain ⟨b373, g373⟩ : ∃ z, z = T372.heap.size := ⟨_, rfl⟩
  rw [← g373] at A373 D373 st373
  refine Run.pre st373 ?_
  have gn_b373 : n0 ≤ b373 := Nat.le_trans (Nat.le_trans Z0 K372.1) (Nat.le_of_eq g373.symm)
  have sz_b373 : h0.size ≤ b373 := Nat.le_trans K372.1 (Nat.le_of_eq g373.symm)
  have K373 : Keep h0 h373 [] := K372.ext E373
  have F_value_b373 : Fld Z h373 b373 "java/lang/String" "value" "[B" .null := D373 (Or.inr (hw _ (List.mem_of_getElem? (i := 8) rfl))) (ty := (.array .byte)) (by decide)
  have F_coder_b373 : Fld Z h373 b373 "java/lang/String" "coder" "B" (.int (0 : Int32)) := D373 (Or.inr (hw _ (List.mem_of_getElem? (i := 9) rfl))) (ty := .byte) (by decide)
  refine Run.pre (fun _ k => XS.dup X373.here hx rfl (hb hby d8_25) rfl rfl k) ?_
  refine Run.pre (fun _ k => XS.aloadN X373.here hx rfl (hb hby d8_26) rfl rfl k) ?_
  refine Run.pre (fun _ k => XS.iconst X373.here hx rfl (hb hby d8_27) k) ?_
  show Run p e below s _ _ _ (T373.setTop (mkF m 28 #[.val (.int (own_of mm)), .val (.int (8 : Int32)), .val (.ref b370)] [(.int (0 : Int32)), (.ref b370), (.ref b373), (.ref b373)]))
  refine Run.callI hS (by first | exact Nat.le_refl _ | (rw [e373]; exact (Nat.le_trans (Nat.le_refl _) E373.1))) X373 hx hZ (y := (⟨"java/lang/String", "<init>", "([BB)V"⟩ : MethodName)) rfl hown (hw _ (List.mem_of_getElem? (i := 60) rfl)) (hw _ (List.mem_of_getElem? (i := 61) rfl)) (hw _ (List.mem_of_getElem? (i := 63) rfl)) (hw _ (List.mem_of_getElem? (i := 5) rfl)) (by decide) (a := b373) (W := 1) (rmBB l Z a0 hw b373 b370 h373 n0 (Nat.le_trans Z0 K373.1) A373 F_value_b373 F_coder_b373 gn_b373) e373 (by decide) (by decide) (by decide) (by decide) (fun _ _ => trivial) (g := (mkF m 28 #[.val (.int (own_of mm)), .val (.int (8 : Int32)), .val (.ref b370)] [(.int (0 : Int32)), (.ref b370), (.ref b373), (.ref b373)])) rfl (by rw [hml]; rfl) (argsL := [(.ref b370), (.int (0 : Int32))]) (rest := [(.ref b373)]) (lenOf pd_10 rfl) rfl (by show 2 * 0 + _ ≤ _; exact Nat.le_of_eq rfl) (hb hby d8_28) ?_
  intro v374 T374 L374 X374 hS hZ hown hV374 hQ374
  obtain ⟨rfl, Nq374, Kc374, fv374, fc374⟩ := hQ374
  have N374 := Fr.app N372 Nq374
  have K374 : Keep h0 T374.heap [] := K373.trans Kc374 (allS (Or.inr sz_b373) all0)
  show Run p e below s _ _ _ (T374.setTop (mkF m 31 #[.val (.int (own_of mm)), .val (.int (8 : Int32)), .val (.ref b370)] [(.ref b373)]))
  have f375 := (A373.keep Kc374)
  have f376 := ((vb372.ext E373).keep Kc374 (ninS (Nat.ne_of_lt (Nat.lt_of_lt_of_le vb372.lt (Nat.le_of_eq g373.symm))) nin0))
  exact Run.retA hS (Nat.le_refl _) X374 hx hret rfl rfl hlk (hb hby d8_31) ⟨b373, b370, k370, rfl, N374, K374, sz_b373, f375, fv374, fc374, f376⟩ (by decide) (by decide)
theorem own_good_8 {mm : Nat} (hm : mm < 2147483648) (lo : 10000000 ≤ mm) (hi : mm < 100000000) : own_good mm [(.int (nar .byte (own_of (48 + (((mm / 100) / 100) / 100) / 10)))), (.int (nar .byte (own_of (48 + (((mm / 100) / 100) / 100) % 10)))), (.int (nar .byte (own_of (48 + (((mm / 100) / 100) % 100) / 10)))), (.int (nar .byte (own_of (48 + (((mm / 100) / 100) % 100) % 10)))), (.int (nar .byte (own_of (48 + ((mm / 100) % 100) / 10)))), (.int (nar .byte (own_of (48 + ((mm / 100) % 100) % 10)))), (.int (nar .byte (own_of (48 + (mm % 100) / 10)))), (.int (nar .byte (own_of (48 + (mm % 100) % 10))))] :=
  ⟨Or.inr ⟨by rw [own_dgt_8 lo hi]; decide, by rw [own_dgt_8 lo hi]; decide, by rw [own_dgt_8 lo hi]; decide, nar .byte (own_of (48 + (mm % 100) % 10)), by rw [own_dgt_8 lo hi]; rfl, own_heq hm (q := 1) rfl (by decide) (by decide) (by omega)⟩,
   Or.inr ⟨by rw [own_dgt_8 lo hi]; decide, by rw [own_dgt_8 lo hi]; decide, by rw [own_dgt_8 lo hi]; decide, nar .byte (own_of (48 + (mm % 100) / 10)), by rw [own_dgt_8 lo hi]; rfl, own_heq hm (q := 10) rfl (by decide) (by decide) (by omega)⟩,
   Or.inr ⟨by rw [own_dgt_8 lo hi]; decide, by rw [own_dgt_8 lo hi]; decide, by rw [own_dgt_8 lo hi]; decide, nar .byte (own_of (48 + ((mm / 100) % 100) % 10)), by rw [own_dgt_8 lo hi]; rfl, own_heq hm (q := 100) rfl (by decide) (by decide) (by omega)⟩,
   Or.inr ⟨by rw [own_dgt_8 lo hi]; decide, by rw [own_dgt_8 lo hi]; decide, by rw [own_dgt_8 lo hi]; decide, nar .byte (own_of (48 + ((mm / 100) % 100) / 10)), by rw [own_dgt_8 lo hi]; rfl, own_heq hm (q := 1000) rfl (by decide) (by decide) (by omega)⟩,
   Or.inr ⟨by rw [own_dgt_8 lo hi]; decide, by rw [own_dgt_8 lo hi]; decide, by rw [own_dgt_8 lo hi]; decide, nar .byte (own_of (48 + (((mm / 100) / 100) % 100) % 10)), by rw [own_dgt_8 lo hi]; rfl, own_heq hm (q := 10000) rfl (by decide) (by decide) (by omega)⟩,
   Or.inr ⟨by rw [own_dgt_8 lo hi]; decide, by rw [own_dgt_8 lo hi]; decide, by rw [own_dgt_8 lo hi]; decide, nar .byte (own_of (48 + (((mm / 100) / 100) % 100) / 10)), by rw [own_dgt_8 lo hi]; rfl, own_heq hm (q := 100000) rfl (by decide) (by decide) (by omega)⟩,
   Or.inr ⟨by rw [own_dgt_8 lo hi]; decide, by rw [own_dgt_8 lo hi]; decide, by rw [own_dgt_8 lo hi]; decide, nar .byte (own_of (48 + (((mm / 100) / 100) / 100) % 10)), by rw [own_dgt_8 lo hi]; rfl, own_heq hm (q := 1000000) rfl (by decide) (by decide) (by omega)⟩,
   Or.inr ⟨by rw [own_dgt_8 lo hi]; decide, by rw [own_dgt_8 lo hi]; decide, by rw [own_dgt_8 lo hi]; decide, nar .byte (own_of (48 + (((mm / 100) / 100) / 100) / 10)), by rw [own_dgt_8 lo hi]; rfl, own_heq hm (q := 10000000) rfl (by decide) (by decide) (by omega)⟩,
   Or.inl (by rw [own_dgt_8 lo hi]; decide),
   Or.inl (by rw [own_dgt_8 lo hi]; decide)⟩
set_option maxRecDepth 65536 in
set_option maxHeartbeats 40000000 in
theorem rmGC_9 (l : Launch) (Z : State) (a0 : Array Value) (hw : ∀ d ∈ tables_1, d.before a0 Z = true) (mm : Nat) (od : Addr) (ko : ClassId) (td : Addr) (kt : ClassId) (bf : Addr) (kb : ClassId) (h0 : Heap) (n0 : Nat) (Z0 : n0 ≤ h0.size) (OL : Old Z n0 h0) (hm : mm < 2147483648) (lo : 100000000 ≤ mm) (hi : mm < 1000000000) (SO : Sta Z Z.heap "java/lang/Integer" "DigitOnes" "[B" (.ref od)) (ST : Sta Z Z.heap "java/lang/Integer" "DigitTens" "[B" (.ref td)) (AO : Arv Z Z.heap od ko .byte 100 own_DO (.int 0)) (AT : Arv Z Z.heap td kt .byte 100 own_DT (.int 0)) (AB : Arv Z h0 bf kb .byte 9 [(.int (0 : Int32)), (.int (0 : Int32)), (.int (0 : Int32)), (.int (0 : Int32)), (.int (0 : Int32)), (.int (0 : Int32)), (.int (0 : Int32)), (.int (0 : Int32)), (.int (0 : Int32))] (.int 0)) (g_bf : n0 ≤ bf) :
    Con l (⟨"java/lang/Integer", "getChars", "(II[B)I"⟩ : MethodName) jdk_33_method_12_code 7 (some .int) ({ frames := 0, cells := 0, slots := 0, locals := 0 } : Room) Z #[(.int (own_of mm)), (.int (9 : Int32)), (.ref bf)] h0 (fun _ => True) (fun v h L vm => v = some (.int 0) ∧ Fr n0 L ∧ Keep h0 h [bf] ∧ Arv Z h bf kb .byte 9 [(.int (nar .byte (own_of (48 + ((((mm / 100) / 100) / 100) / 100) % 10)))), (.int (nar .byte (own_of (48 + ((((mm / 100) / 100) / 100) % 100) / 10)))), (.int (nar .byte (own_of (48 + ((((mm / 100) / 100) / 100) % 100) % 10)))), (.int (nar .byte (own_of (48 + (((mm / 100) / 100) % 100) / 10)))), (.int (nar .byte (own_of (48 + (((mm / 100) / 100) % 100) % 10)))), (.int (nar .byte (own_of (48 + ((mm / 100) % 100) / 10)))), (.int (nar .byte (own_of (48 + ((mm / 100) % 100) % 10)))), (.int (nar .byte (own_of (48 + (mm % 100) / 10)))), (.int (nar .byte (own_of (48 + (mm % 100) % 10))))] (.int 0)) := by
  refine Con.mk (plainFor_of_name pn_10) (fun m => show entryFrame m #[(.int (own_of mm)), (.int (9 : Int32)), (.ref bf)] 7 = mkF m 0 #[.val (.int (own_of mm)), .val (.int (9 : Int32)), .val (.ref bf), .unset, .unset, .unset, .unset] [] by first | (simp [entryFrame, mkF, argsToLocals, Value.category]; done) | rfl) ?_
  intro p e s m below meth c s₁ vm0 hx hby hml hown hnm hret hlk hZ X0 e0 hS hs0 hP0
  have N0 := Fr.nil n0
  refine Run.pre (fun _ k => XS.iloadN X0.here hx rfl (hb hby d10_0) rfl  k) ?_
  show Run p e below s _ _ _ (s₁.setTop (mkF m 1 #[.val (.int (own_of mm)), .val (.int (9 : Int32)), .val (.ref bf), .unset, .unset, .unset, .unset] [(.int (9 : Int32))]))
  refine Run.pre (fun _ k => XS.istore X0.here hx rfl (hb hby d10_1) rfl (l' := #[.val (.int (own_of mm)), .val (.int (9 : Int32)), .val (.ref bf), .unset, .unset, .val (.int (9 : Int32)), .unset]) rfl k) ?_
  refine Run.pre (fun _ k => XS.iloadN X0.here hx rfl (hb hby d10_3) rfl  k) ?_
  show Run p e below s _ _ _ (s₁.setTop (mkF m 4 #[.val (.int (own_of mm)), .val (.int (9 : Int32)), .val (.ref bf), .unset, .unset, .val (.int (9 : Int32)), .unset] [(.int (own_of mm))]))
  refine Run.pre (fun _ k => XS.ifYes X0.here hx rfl (pc0 := 4) (pc' := 11) rfl (hb hby d10_4) rfl ((if0 _ _).trans (flt ((own_nofl hm (by have e : ((0 : Int32)).toInt = 0 := (by decide); omega)) : ¬ ((own_of mm) < (0 : Int32)))).2.1) (by decide) (by decide) k) ?_
  refine Run.pre (fun _ k => XS.iconst X0.here hx rfl (hb hby d10_11) k) ?_
  show Run p e below s _ _ _ (s₁.setTop (mkF m 12 #[.val (.int (own_of mm)), .val (.int (9 : Int32)), .val (.ref bf), .unset, .unset, .val (.int (9 : Int32)), .unset] [(.int (0 : Int32))]))
  refine Run.pre (fun _ k => XS.istore X0.here hx rfl (hb hby d10_12) rfl (l' := #[.val (.int (own_of mm)), .val (.int (9 : Int32)), .val (.ref bf), .unset, .unset, .val (.int (9 : Int32)), .val (.int (0 : Int32))]) rfl k) ?_
  refine Run.pre (fun _ k => XS.iload X0.here hx rfl (hb hby d10_14) rfl  k) ?_
  show Run p e below s _ _ _ (s₁.setTop (mkF m 16 #[.val (.int (own_of mm)), .val (.int (9 : Int32)), .val (.ref bf), .unset, .unset, .val (.int (9 : Int32)), .val (.int (0 : Int32))] [(.int (0 : Int32))]))
  refine Run.pre (fun _ k => XS.ifNo X0.here hx rfl (hb hby d10_16) rfl ((if0 _ _).trans (teq ((by decide) : (0 : Int32) = (0 : Int32))).2) k) ?_
  refine Run.pre (fun _ k => XS.iloadN X0.here hx rfl (hb hby d10_19) rfl  k) ?_
  show Run p e below s _ _ _ (s₁.setTop (mkF m 20 #[.val (.int (own_of mm)), .val (.int (9 : Int32)), .val (.ref bf), .unset, .unset, .val (.int (9 : Int32)), .val (.int (0 : Int32))] [(.int (own_of mm))]))
  refine Run.pre (fun _ k => XS.ineg X0.here hx rfl (hb hby d10_20) rfl k) ?_
  show Run p e below s _ _ _ (s₁.setTop (mkF m 21 #[.val (.int (own_of mm)), .val (.int (9 : Int32)), .val (.ref bf), .unset, .unset, .val (.int (9 : Int32)), .val (.int (0 : Int32))] [(.int (-(own_of mm)))]))
  refine Run.pre (fun _ k => XS.istoreN X0.here hx rfl (hb hby d10_21) rfl (l' := #[.val (.int (-(own_of mm))), .val (.int (9 : Int32)), .val (.ref bf), .unset, .unset, .val (.int (9 : Int32)), .val (.int (0 : Int32))]) rfl k) ?_
  refine Run.pre (fun _ k => XS.iloadN X0.here hx rfl (hb hby d10_22) rfl  k) ?_
  refine Run.pre (fun _ k => XS.bipush X0.here hx rfl (hb hby d10_23) k) ?_
  show Run p e below s _ _ _ (s₁.setTop (mkF m 25 #[.val (.int (-(own_of mm))), .val (.int (9 : Int32)), .val (.ref bf), .unset, .unset, .val (.int (9 : Int32)), .val (.int (0 : Int32))] [(.int (-100 : Int32)), (.int (-(own_of mm)))]))
  refine Run.pre (fun _ k => XS.icmpNo X0.here hx rfl (hb hby d10_25) rfl (flt ((own_nltng (show mm < 2147483648 by omega) (by have e : ((-100 : Int32)).toInt = -100 := (by decide); omega)) : ¬ ((-100 : Int32) < (-(own_of mm))))).2.2.1 k) ?_
  refine Run.pre (fun _ k => XS.iloadN X0.here hx rfl (hb hby d10_28) rfl  k) ?_
  refine Run.pre (fun _ k => XS.bipush X0.here hx rfl (hb hby d10_29) k) ?_
  show Run p e below s _ _ _ (s₁.setTop (mkF m 31 #[.val (.int (-(own_of mm))), .val (.int (9 : Int32)), .val (.ref bf), .unset, .unset, .val (.int (9 : Int32)), .val (.int (0 : Int32))] [(.int (100 : Int32)), (.int (-(own_of mm)))]))
  refine Run.pre (fun _ k => XS.idiv X0.here hx rfl (hb hby d10_31) rfl (by decide) k) ?_
  show Run p e below s _ _ _ (s₁.setTop (mkF m 32 #[.val (.int (-(own_of mm))), .val (.int (9 : Int32)), .val (.ref bf), .unset, .unset, .val (.int (9 : Int32)), .val (.int (0 : Int32))] [(.int ((-(own_of mm)) / (100 : Int32)))]))
  refine Run.pre (fun _ k => XS.istoreN X0.here hx rfl (hb hby d10_32) rfl (l' := #[.val (.int (-(own_of mm))), .val (.int (9 : Int32)), .val (.ref bf), .val (.int ((-(own_of mm)) / (100 : Int32))), .unset, .val (.int (9 : Int32)), .val (.int (0 : Int32))]) rfl k) ?_
  refine Run.pre (fun _ k => XS.iloadN X0.here hx rfl (hb hby d10_33) rfl  k) ?_
  refine Run.pre (fun _ k => XS.bipush X0.here hx rfl (hb hby d10_34) k) ?_
  show Run p e below s _ _ _ (s₁.setTop (mkF m 36 #[.val (.int (-(own_of mm))), .val (.int (9 : Int32)), .val (.ref bf), .val (.int ((-(own_of mm)) / (100 : Int32))), .unset, .val (.int (9 : Int32)), .val (.int (0 : Int32))] [(.int (100 : Int32)), (.int ((-(own_of mm)) / (100 : Int32)))]))
  refine Run.pre (fun _ k => XS.imul X0.here hx rfl (hb hby d10_36) rfl k) ?_
  refine Run.pre (fun _ k => XS.iloadN X0.here hx rfl (hb hby d10_37) rfl  k) ?_
  show Run p e below s _ _ _ (s₁.setTop (mkF m 38 #[.val (.int (-(own_of mm))), .val (.int (9 : Int32)), .val (.ref bf), .val (.int ((-(own_of mm)) / (100 : Int32))), .unset, .val (.int (9 : Int32)), .val (.int (0 : Int32))] [(.int (-(own_of mm))), (.int (((-(own_of mm)) / (100 : Int32)) * (100 : Int32)))]))
  refine Run.pre (fun _ k => XS.isub X0.here hx rfl (hb hby d10_38) rfl k) ?_
  show Run p e below s _ _ _ (s₁.setTop (mkF m 39 #[.val (.int (-(own_of mm))), .val (.int (9 : Int32)), .val (.ref bf), .val (.int ((-(own_of mm)) / (100 : Int32))), .unset, .val (.int (9 : Int32)), .val (.int (0 : Int32))] [(.int ((((-(own_of mm)) / (100 : Int32)) * (100 : Int32)) - (-(own_of mm))))]))
  refine Run.pre (fun _ k => XS.istore X0.here hx rfl (hb hby d10_39) rfl (l' := #[.val (.int (-(own_of mm))), .val (.int (9 : Int32)), .val (.ref bf), .val (.int ((-(own_of mm)) / (100 : Int32))), .val (.int ((((-(own_of mm)) / (100 : Int32)) * (100 : Int32)) - (-(own_of mm)))), .val (.int (9 : Int32)), .val (.int (0 : Int32))]) rfl k) ?_
  refine Run.pre (fun _ k => XS.iloadN X0.here hx rfl (hb hby d10_41) rfl  k) ?_
  show Run p e below s _ _ _ (s₁.setTop (mkF m 42 #[.val (.int (-(own_of mm))), .val (.int (9 : Int32)), .val (.ref bf), .val (.int ((-(own_of mm)) / (100 : Int32))), .val (.int ((((-(own_of mm)) / (100 : Int32)) * (100 : Int32)) - (-(own_of mm)))), .val (.int (9 : Int32)), .val (.int (0 : Int32))] [(.int ((-(own_of mm)) / (100 : Int32)))]))
  refine Run.pre (fun _ k => XS.istoreN X0.here hx rfl (hb hby d10_42) rfl (l' := #[.val (.int ((-(own_of mm)) / (100 : Int32))), .val (.int (9 : Int32)), .val (.ref bf), .val (.int ((-(own_of mm)) / (100 : Int32))), .val (.int ((((-(own_of mm)) / (100 : Int32)) * (100 : Int32)) - (-(own_of mm)))), .val (.int (9 : Int32)), .val (.int (0 : Int32))]) rfl k) ?_
  show Run p e below s _ _ _ (s₁.setTop (mkF m 43 #[.val (.int ((-(own_of mm)) / (100 : Int32))), .val (.int (9 : Int32)), .val (.ref bf), .val (.int ((-(own_of mm)) / (100 : Int32))), .val (.int ((((-(own_of mm)) / (100 : Int32)) * (100 : Int32)) - (-(own_of mm)))), .val (.int (9 : Int32)), .val (.int (0 : Int32))] []))
  rw [own_div (show mm < 2147483648 by omega), own_rem (show mm < 2147483648 by omega)]
  refine Run.pre (fun _ k => XS.aloadN X0.here hx rfl (hb hby d10_43) rfl rfl k) ?_
  show Run p e below s _ _ _ (s₁.setTop (mkF m 44 #[.val (.int (-(own_of (mm / 100)))), .val (.int (9 : Int32)), .val (.ref bf), .val (.int (-(own_of (mm / 100)))), .val (.int (own_of (mm % 100))), .val (.int (9 : Int32)), .val (.int (0 : Int32))] [(.ref bf)]))
  refine Run.pre (fun _ k => XS.iinc X0.here hx rfl (hb hby d10_44) rfl (l' := #[.val (.int (-(own_of (mm / 100)))), .val (.int (9 : Int32)), .val (.ref bf), .val (.int (-(own_of (mm / 100)))), .val (.int (own_of (mm % 100))), .val (.int (8 : Int32)), .val (.int (0 : Int32))]) rfl k) ?_
  refine Run.pre (fun _ k => XS.iload X0.here hx rfl (hb hby d10_47) rfl  k) ?_
  show Run p e below s _ _ _ (s₁.setTop (mkF m 49 #[.val (.int (-(own_of (mm / 100)))), .val (.int (9 : Int32)), .val (.ref bf), .val (.int (-(own_of (mm / 100)))), .val (.int (own_of (mm % 100))), .val (.int (8 : Int32)), .val (.int (0 : Int32))] [(.int (8 : Int32)), (.ref bf)]))
  obtain ⟨T377, X377, e377, st377⟩ := getS2 X0 hx hZ hown (host := "") (Or.inl (hw _ (List.mem_of_getElem? (i := 57) rfl))) Via.refl e0 (SO.ext OL.2) (g := (mkF m 49 #[.val (.int (-(own_of (mm / 100)))), .val (.int (9 : Int32)), .val (.ref bf), .val (.int (-(own_of (mm / 100)))), .val (.int (own_of (mm % 100))), .val (.int (8 : Int32)), .val (.int (0 : Int32))] [(.int (8 : Int32)), (.ref bf)])) rfl (hb hby d10_49)
  refine Run.pre st377 ?_
  refine Run.pre (fun _ k => XS.iload X377.here hx rfl (hb hby d10_52) rfl  k) ?_
  show Run p e below s _ _ _ (T377.setTop (mkF m 54 #[.val (.int (-(own_of (mm / 100)))), .val (.int (9 : Int32)), .val (.ref bf), .val (.int (-(own_of (mm / 100)))), .val (.int (own_of (mm % 100))), .val (.int (8 : Int32)), .val (.int (0 : Int32))] [(.int (own_of (mm % 100))), (.ref od), (.int (8 : Int32)), (.ref bf)]))
  obtain ⟨c378, Ar378, -, S378, N378, H378, -⟩ := id (AO.ext OL.2)
  have hin378 : ¬ ((own_of (mm % 100)) < 0 ∨ c378.slots.size ≤ ((own_of (mm % 100))).toNatClampNeg) := inb_of S378 (own_in100 (show (mm % 100) < 100 by omega))
  refine Run.pre (X377.baloadBytes hx (j := (own_of (mm % 100))) (v := (.int (own_of (48 + (mm % 100) % 10)))) (by rw [e377]; exact Ar378.1) (State.isArrayOf_alike hZ.alike Ar378.2.1) Ar378.2.2 hin378 (H378.at hin378 (own_getO (show (mm % 100) < 100 by omega))) (g := (mkF m 54 #[.val (.int (-(own_of (mm / 100)))), .val (.int (9 : Int32)), .val (.ref bf), .val (.int (-(own_of (mm / 100)))), .val (.int (own_of (mm % 100))), .val (.int (8 : Int32)), .val (.int (0 : Int32))] [(.int (own_of (mm % 100))), (.ref od), (.int (8 : Int32)), (.ref bf)])) rfl rfl (hb hby d10_54)) ?_
  show Run p e below s _ _ _ (T377.setTop (mkF m 55 #[.val (.int (-(own_of (mm / 100)))), .val (.int (9 : Int32)), .val (.ref bf), .val (.int (-(own_of (mm / 100)))), .val (.int (own_of (mm % 100))), .val (.int (8 : Int32)), .val (.int (0 : Int32))] [(.int (own_of (48 + (mm % 100) % 10))), (.int (8 : Int32)), (.ref bf)]))
  obtain ⟨c379, Ar379, q379, S379, N379, H379, G379⟩ := id AB
  have hin379 : ¬ ((8 : Int32) < 0 ∨ c379.slots.size ≤ ((8 : Int32)).toNatClampNeg) := inb_of S379 ⟨by decide, by decide⟩
  obtain ⟨T380, h380, X380, e380, W380, st380⟩ := stB X377 hx hZ e377 Ar379 (j := (8 : Int32)) hin379 (g := (mkF m 55 #[.val (.int (-(own_of (mm / 100)))), .val (.int (9 : Int32)), .val (.ref bf), .val (.int (-(own_of (mm / 100)))), .val (.int (own_of (mm % 100))), .val (.int (8 : Int32)), .val (.int (0 : Int32))] [(.int (own_of (48 + (mm % 100) % 10))), (.int (8 : Int32)), (.ref bf)])) rfl rfl (hb hby d10_55)
  refine Run.pre st380 ?_
  have V_bf_380 : Arv Z h380 bf kb .byte (9 : Int32) [(.int (0 : Int32)), (.int (0 : Int32)), (.int (0 : Int32)), (.int (0 : Int32)), (.int (0 : Int32)), (.int (0 : Int32)), (.int (0 : Int32)), (.int (0 : Int32)), (.int (nar .byte (own_of (48 + (mm % 100) % 10))))] (.int (0 : Int32)) := Arv.set Ar379 q379 S379 N379 H379 G379 (fits_nar_byte _) W380 8 rfl (Nat.le_of_ble_eq_true rfl)
  have K380 : Keep h0 h380 [bf] := (Keep.refl h0 [bf]).wr W380 (Or.inl (by simp))
  have N380 := Fr.snoc X380 N0 g_bf
  refine Run.pre (fun _ k => XS.aloadN X380.here hx rfl (hb hby d10_56) rfl rfl k) ?_
  show Run p e below s _ _ _ (T380.setTop (mkF m 57 #[.val (.int (-(own_of (mm / 100)))), .val (.int (9 : Int32)), .val (.ref bf), .val (.int (-(own_of (mm / 100)))), .val (.int (own_of (mm % 100))), .val (.int (8 : Int32)), .val (.int (0 : Int32))] [(.ref bf)]))
  refine Run.pre (fun _ k => XS.iinc X380.here hx rfl (hb hby d10_57) rfl (l' := #[.val (.int (-(own_of (mm / 100)))), .val (.int (9 : Int32)), .val (.ref bf), .val (.int (-(own_of (mm / 100)))), .val (.int (own_of (mm % 100))), .val (.int (7 : Int32)), .val (.int (0 : Int32))]) rfl k) ?_
  refine Run.pre (fun _ k => XS.iload X380.here hx rfl (hb hby d10_60) rfl  k) ?_
  show Run p e below s _ _ _ (T380.setTop (mkF m 62 #[.val (.int (-(own_of (mm / 100)))), .val (.int (9 : Int32)), .val (.ref bf), .val (.int (-(own_of (mm / 100)))), .val (.int (own_of (mm % 100))), .val (.int (7 : Int32)), .val (.int (0 : Int32))] [(.int (7 : Int32)), (.ref bf)]))
  have f381 := (OL.wr W380 g_bf)
  obtain ⟨T382, X382, e382, st382⟩ := getS2 X380 hx hZ hown (host := "") (Or.inl (hw _ (List.mem_of_getElem? (i := 58) rfl))) Via.refl e380 (ST.ext f381.2) (g := (mkF m 62 #[.val (.int (-(own_of (mm / 100)))), .val (.int (9 : Int32)), .val (.ref bf), .val (.int (-(own_of (mm / 100)))), .val (.int (own_of (mm % 100))), .val (.int (7 : Int32)), .val (.int (0 : Int32))] [(.int (7 : Int32)), (.ref bf)])) rfl (hb hby d10_62)
  refine Run.pre st382 ?_
  refine Run.pre (fun _ k => XS.iload X382.here hx rfl (hb hby d10_65) rfl  k) ?_
  show Run p e below s _ _ _ (T382.setTop (mkF m 67 #[.val (.int (-(own_of (mm / 100)))), .val (.int (9 : Int32)), .val (.ref bf), .val (.int (-(own_of (mm / 100)))), .val (.int (own_of (mm % 100))), .val (.int (7 : Int32)), .val (.int (0 : Int32))] [(.int (own_of (mm % 100))), (.ref td), (.int (7 : Int32)), (.ref bf)]))
  obtain ⟨c383, Ar383, -, S383, N383, H383, -⟩ := id (AT.ext f381.2)
  have hin383 : ¬ ((own_of (mm % 100)) < 0 ∨ c383.slots.size ≤ ((own_of (mm % 100))).toNatClampNeg) := inb_of S383 (own_in100 (show (mm % 100) < 100 by omega))
  refine Run.pre (X382.baloadBytes hx (j := (own_of (mm % 100))) (v := (.int (own_of (48 + (mm % 100) / 10)))) (by rw [e382]; exact Ar383.1) (State.isArrayOf_alike hZ.alike Ar383.2.1) Ar383.2.2 hin383 (H383.at hin383 (own_getT (show (mm % 100) < 100 by omega))) (g := (mkF m 67 #[.val (.int (-(own_of (mm / 100)))), .val (.int (9 : Int32)), .val (.ref bf), .val (.int (-(own_of (mm / 100)))), .val (.int (own_of (mm % 100))), .val (.int (7 : Int32)), .val (.int (0 : Int32))] [(.int (own_of (mm % 100))), (.ref td), (.int (7 : Int32)), (.ref bf)])) rfl rfl (hb hby d10_67)) ?_
  show Run p e below s _ _ _ (T382.setTop (mkF m 68 #[.val (.int (-(own_of (mm / 100)))), .val (.int (9 : Int32)), .val (.ref bf), .val (.int (-(own_of (mm / 100)))), .val (.int (own_of (mm % 100))), .val (.int (7 : Int32)), .val (.int (0 : Int32))] [(.int (own_of (48 + (mm % 100) / 10))), (.int (7 : Int32)), (.ref bf)]))
  obtain ⟨c384, Ar384, q384, S384, N384, H384, G384⟩ := id V_bf_380
  have hin384 : ¬ ((7 : Int32) < 0 ∨ c384.slots.size ≤ ((7 : Int32)).toNatClampNeg) := inb_of S384 ⟨by decide, by decide⟩
  obtain ⟨T385, h385, X385, e385, W385, st385⟩ := stB X382 hx hZ e382 Ar384 (j := (7 : Int32)) hin384 (g := (mkF m 68 #[.val (.int (-(own_of (mm / 100)))), .val (.int (9 : Int32)), .val (.ref bf), .val (.int (-(own_of (mm / 100)))), .val (.int (own_of (mm % 100))), .val (.int (7 : Int32)), .val (.int (0 : Int32))] [(.int (own_of (48 + (mm % 100) / 10))), (.int (7 : Int32)), (.ref bf)])) rfl rfl (hb hby d10_68)
  refine Run.pre st385 ?_
  have V_bf_385 : Arv Z h385 bf kb .byte (9 : Int32) [(.int (0 : Int32)), (.int (0 : Int32)), (.int (0 : Int32)), (.int (0 : Int32)), (.int (0 : Int32)), (.int (0 : Int32)), (.int (0 : Int32)), (.int (nar .byte (own_of (48 + (mm % 100) / 10)))), (.int (nar .byte (own_of (48 + (mm % 100) % 10))))] (.int (0 : Int32)) := Arv.set Ar384 q384 S384 N384 H384 G384 (fits_nar_byte _) W385 7 rfl (Nat.le_of_ble_eq_true rfl)
  have K385 : Keep h0 h385 [bf] := K380.wr W385 (Or.inl (by simp))
  have N385 := Fr.snoc X385 N380 g_bf
  refine Run.pre (fun _ k => XS.goto X385.here hx rfl (pc0 := 69) (pc' := 22) rfl (hb hby d10_69) (by decide) (by decide) k) ?_
  refine Run.pre (fun _ k => XS.iloadN X385.here hx rfl (hb hby d10_22) rfl  k) ?_
  refine Run.pre (fun _ k => XS.bipush X385.here hx rfl (hb hby d10_23) k) ?_
  show Run p e below s _ _ _ (T385.setTop (mkF m 25 #[.val (.int (-(own_of (mm / 100)))), .val (.int (9 : Int32)), .val (.ref bf), .val (.int (-(own_of (mm / 100)))), .val (.int (own_of (mm % 100))), .val (.int (7 : Int32)), .val (.int (0 : Int32))] [(.int (-100 : Int32)), (.int (-(own_of (mm / 100))))]))
  refine Run.pre (fun _ k => XS.icmpNo X385.here hx rfl (hb hby d10_25) rfl (flt ((own_nltng (show (mm / 100) < 2147483648 by omega) (by have e : ((-100 : Int32)).toInt = -100 := (by decide); omega)) : ¬ ((-100 : Int32) < (-(own_of (mm / 100)))))).2.2.1 k) ?_
  refine Run.pre (fun _ k => XS.iloadN X385.here hx rfl (hb hby d10_28) rfl  k) ?_
  refine Run.pre (fun _ k => XS.bipush X385.here hx rfl (hb hby d10_29) k) ?_
  show Run p e below s _ _ _ (T385.setTop (mkF m 31 #[.val (.int (-(own_of (mm / 100)))), .val (.int (9 : Int32)), .val (.ref bf), .val (.int (-(own_of (mm / 100)))), .val (.int (own_of (mm % 100))), .val (.int (7 : Int32)), .val (.int (0 : Int32))] [(.int (100 : Int32)), (.int (-(own_of (mm / 100))))]))
  refine Run.pre (fun _ k => XS.idiv X385.here hx rfl (hb hby d10_31) rfl (by decide) k) ?_
  show Run p e below s _ _ _ (T385.setTop (mkF m 32 #[.val (.int (-(own_of (mm / 100)))), .val (.int (9 : Int32)), .val (.ref bf), .val (.int (-(own_of (mm / 100)))), .val (.int (own_of (mm % 100))), .val (.int (7 : Int32)), .val (.int (0 : Int32))] [(.int ((-(own_of (mm / 100))) / (100 : Int32)))]))
  refine Run.pre (fun _ k => XS.istoreN X385.here hx rfl (hb hby d10_32) rfl (l' := #[.val (.int (-(own_of (mm / 100)))), .val (.int (9 : Int32)), .val (.ref bf), .val (.int ((-(own_of (mm / 100))) / (100 : Int32))), .val (.int (own_of (mm % 100))), .val (.int (7 : Int32)), .val (.int (0 : Int32))]) rfl k) ?_
  refine Run.pre (fun _ k => XS.iloadN X385.here hx rfl (hb hby d10_33) rfl  k) ?_
  refine Run.pre (fun _ k => XS.bipush X385.here hx rfl (hb hby d10_34) k) ?_
  show Run p e below s _ _ _ (T385.setTop (mkF m 36 #[.val (.int (-(own_of (mm / 100)))), .val (.int (9 : Int32)), .val (.ref bf), .val (.int ((-(own_of (mm / 100))) / (100 : Int32))), .val (.int (own_of (mm % 100))), .val (.int (7 : Int32)), .val (.int (0 : Int32))] [(.int (100 : Int32)), (.int ((-(own_of (mm / 100))) / (100 : Int32)))]))
  refine Run.pre (fun _ k => XS.imul X385.here hx rfl (hb hby d10_36) rfl k) ?_
  refine Run.pre (fun _ k => XS.iloadN X385.here hx rfl (hb hby d10_37) rfl  k) ?_
  show Run p e below s _ _ _ (T385.setTop (mkF m 38 #[.val (.int (-(own_of (mm / 100)))), .val (.int (9 : Int32)), .val (.ref bf), .val (.int ((-(own_of (mm / 100))) / (100 : Int32))), .val (.int (own_of (mm % 100))), .val (.int (7 : Int32)), .val (.int (0 : Int32))] [(.int (-(own_of (mm / 100)))), (.int (((-(own_of (mm / 100))) / (100 : Int32)) * (100 : Int32)))]))
  refine Run.pre (fun _ k => XS.isub X385.here hx rfl (hb hby d10_38) rfl k) ?_
  show Run p e below s _ _ _ (T385.setTop (mkF m 39 #[.val (.int (-(own_of (mm / 100)))), .val (.int (9 : Int32)), .val (.ref bf), .val (.int ((-(own_of (mm / 100))) / (100 : Int32))), .val (.int (own_of (mm % 100))), .val (.int (7 : Int32)), .val (.int (0 : Int32))] [(.int ((((-(own_of (mm / 100))) / (100 : Int32)) * (100 : Int32)) - (-(own_of (mm / 100)))))]))
  refine Run.pre (fun _ k => XS.istore X385.here hx rfl (hb hby d10_39) rfl (l' := #[.val (.int (-(own_of (mm / 100)))), .val (.int (9 : Int32)), .val (.ref bf), .val (.int ((-(own_of (mm / 100))) / (100 : Int32))), .val (.int ((((-(own_of (mm / 100))) / (100 : Int32)) * (100 : Int32)) - (-(own_of (mm / 100))))), .val (.int (7 : Int32)), .val (.int (0 : Int32))]) rfl k) ?_
  refine Run.pre (fun _ k => XS.iloadN X385.here hx rfl (hb hby d10_41) rfl  k) ?_
  show Run p e below s _ _ _ (T385.setTop (mkF m 42 #[.val (.int (-(own_of (mm / 100)))), .val (.int (9 : Int32)), .val (.ref bf), .val (.int ((-(own_of (mm / 100))) / (100 : Int32))), .val (.int ((((-(own_of (mm / 100))) / (100 : Int32)) * (100 : Int32)) - (-(own_of (mm / 100))))), .val (.int (7 : Int32)), .val (.int (0 : Int32))] [(.int ((-(own_of (mm / 100))) / (100 : Int32)))]))
  refine Run.pre (fun _ k => XS.istoreN X385.here hx rfl (hb hby d10_42) rfl (l' := #[.val (.int ((-(own_of (mm / 100))) / (100 : Int32))), .val (.int (9 : Int32)), .val (.ref bf), .val (.int ((-(own_of (mm / 100))) / (100 : Int32))), .val (.int ((((-(own_of (mm / 100))) / (100 : Int32)) * (100 : Int32)) - (-(own_of (mm / 100))))), .val (.int (7 : Int32)), .val (.int (0 : Int32))]) rfl k) ?_
  show Run p e below s _ _ _ (T385.setTop (mkF m 43 #[.val (.int ((-(own_of (mm / 100))) / (100 : Int32))), .val (.int (9 : Int32)), .val (.ref bf), .val (.int ((-(own_of (mm / 100))) / (100 : Int32))), .val (.int ((((-(own_of (mm / 100))) / (100 : Int32)) * (100 : Int32)) - (-(own_of (mm / 100))))), .val (.int (7 : Int32)), .val (.int (0 : Int32))] []))
  rw [own_div (show (mm / 100) < 2147483648 by omega), own_rem (show (mm / 100) < 2147483648 by omega)]
  refine Run.pre (fun _ k => XS.aloadN X385.here hx rfl (hb hby d10_43) rfl rfl k) ?_
  show Run p e below s _ _ _ (T385.setTop (mkF m 44 #[.val (.int (-(own_of ((mm / 100) / 100)))), .val (.int (9 : Int32)), .val (.ref bf), .val (.int (-(own_of ((mm / 100) / 100)))), .val (.int (own_of ((mm / 100) % 100))), .val (.int (7 : Int32)), .val (.int (0 : Int32))] [(.ref bf)]))
  refine Run.pre (fun _ k => XS.iinc X385.here hx rfl (hb hby d10_44) rfl (l' := #[.val (.int (-(own_of ((mm / 100) / 100)))), .val (.int (9 : Int32)), .val (.ref bf), .val (.int (-(own_of ((mm / 100) / 100)))), .val (.int (own_of ((mm / 100) % 100))), .val (.int (6 : Int32)), .val (.int (0 : Int32))]) rfl k) ?_
  refine Run.pre (fun _ k => XS.iload X385.here hx rfl (hb hby d10_47) rfl  k) ?_
  show Run p e below s _ _ _ (T385.setTop (mkF m 49 #[.val (.int (-(own_of ((mm / 100) / 100)))), .val (.int (9 : Int32)), .val (.ref bf), .val (.int (-(own_of ((mm / 100) / 100)))), .val (.int (own_of ((mm / 100) % 100))), .val (.int (6 : Int32)), .val (.int (0 : Int32))] [(.int (6 : Int32)), (.ref bf)]))
  have f386 := (f381.wr W385 g_bf)
  obtain ⟨T387, X387, e387, st387⟩ := getS2 X385 hx hZ hown (host := "") (Or.inl (hw _ (List.mem_of_getElem? (i := 57) rfl))) Via.refl e385 (SO.ext f386.2) (g := (mkF m 49 #[.val (.int (-(own_of ((mm / 100) / 100)))), .val (.int (9 : Int32)), .val (.ref bf), .val (.int (-(own_of ((mm / 100) / 100)))), .val (.int (own_of ((mm / 100) % 100))), .val (.int (6 : Int32)), .val (.int (0 : Int32))] [(.int (6 : Int32)), (.ref bf)])) rfl (hb hby d10_49)
  refine Run.pre st387 ?_
  refine Run.pre (fun _ k => XS.iload X387.here hx rfl (hb hby d10_52) rfl  k) ?_
  show Run p e below s _ _ _ (T387.setTop (mkF m 54 #[.val (.int (-(own_of ((mm / 100) / 100)))), .val (.int (9 : Int32)), .val (.ref bf), .val (.int (-(own_of ((mm / 100) / 100)))), .val (.int (own_of ((mm / 100) % 100))), .val (.int (6 : Int32)), .val (.int (0 : Int32))] [(.int (own_of ((mm / 100) % 100))), (.ref od), (.int (6 : Int32)), (.ref bf)]))
  obtain ⟨c388, Ar388, -, S388, N388, H388, -⟩ := id (AO.ext f386.2)
  have hin388 : ¬ ((own_of ((mm / 100) % 100)) < 0 ∨ c388.slots.size ≤ ((own_of ((mm / 100) % 100))).toNatClampNeg) := inb_of S388 (own_in100 (show ((mm / 100) % 100) < 100 by omega))
  refine Run.pre (X387.baloadBytes hx (j := (own_of ((mm / 100) % 100))) (v := (.int (own_of (48 + ((mm / 100) % 100) % 10)))) (by rw [e387]; exact Ar388.1) (State.isArrayOf_alike hZ.alike Ar388.2.1) Ar388.2.2 hin388 (H388.at hin388 (own_getO (show ((mm / 100) % 100) < 100 by omega))) (g := (mkF m 54 #[.val (.int (-(own_of ((mm / 100) / 100)))), .val (.int (9 : Int32)), .val (.ref bf), .val (.int (-(own_of ((mm / 100) / 100)))), .val (.int (own_of ((mm / 100) % 100))), .val (.int (6 : Int32)), .val (.int (0 : Int32))] [(.int (own_of ((mm / 100) % 100))), (.ref od), (.int (6 : Int32)), (.ref bf)])) rfl rfl (hb hby d10_54)) ?_
  show Run p e below s _ _ _ (T387.setTop (mkF m 55 #[.val (.int (-(own_of ((mm / 100) / 100)))), .val (.int (9 : Int32)), .val (.ref bf), .val (.int (-(own_of ((mm / 100) / 100)))), .val (.int (own_of ((mm / 100) % 100))), .val (.int (6 : Int32)), .val (.int (0 : Int32))] [(.int (own_of (48 + ((mm / 100) % 100) % 10))), (.int (6 : Int32)), (.ref bf)]))
  obtain ⟨c389, Ar389, q389, S389, N389, H389, G389⟩ := id V_bf_385
  have hin389 : ¬ ((6 : Int32) < 0 ∨ c389.slots.size ≤ ((6 : Int32)).toNatClampNeg) := inb_of S389 ⟨by decide, by decide⟩
  obtain ⟨T390, h390, X390, e390, W390, st390⟩ := stB X387 hx hZ e387 Ar389 (j := (6 : Int32)) hin389 (g := (mkF m 55 #[.val (.int (-(own_of ((mm / 100) / 100)))), .val (.int (9 : Int32)), .val (.ref bf), .val (.int (-(own_of ((mm / 100) / 100)))), .val (.int (own_of ((mm / 100) % 100))), .val (.int (6 : Int32)), .val (.int (0 : Int32))] [(.int (own_of (48 + ((mm / 100) % 100) % 10))), (.int (6 : Int32)), (.ref bf)])) rfl rfl (hb hby d10_55)
  refine Run.pre st390 ?_
  have V_bf_390 : Arv Z h390 bf kb .byte (9 : Int32) [(.int (0 : Int32)), (.int (0 : Int32)), (.int (0 : Int32)), (.int (0 : Int32)), (.int (0 : Int32)), (.int (0 : Int32)), (.int (nar .byte (own_of (48 + ((mm / 100) % 100) % 10)))), (.int (nar .byte (own_of (48 + (mm % 100) / 10)))), (.int (nar .byte (own_of (48 + (mm % 100) % 10))))] (.int (0 : Int32)) := Arv.set Ar389 q389 S389 N389 H389 G389 (fits_nar_byte _) W390 6 rfl (Nat.le_of_ble_eq_true rfl)
  have K390 : Keep h0 h390 [bf] := K385.wr W390 (Or.inl (by simp))
  have N390 := Fr.snoc X390 N385 g_bf
  refine Run.pre (fun _ k => XS.aloadN X390.here hx rfl (hb hby d10_56) rfl rfl k) ?_
  show Run p e below s _ _ _ (T390.setTop (mkF m 57 #[.val (.int (-(own_of ((mm / 100) / 100)))), .val (.int (9 : Int32)), .val (.ref bf), .val (.int (-(own_of ((mm / 100) / 100)))), .val (.int (own_of ((mm / 100) % 100))), .val (.int (6 : Int32)), .val (.int (0 : Int32))] [(.ref bf)]))
  refine Run.pre (fun _ k => XS.iinc X390.here hx rfl (hb hby d10_57) rfl (l' := #[.val (.int (-(own_of ((mm / 100) / 100)))), .val (.int (9 : Int32)), .val (.ref bf), .val (.int (-(own_of ((mm / 100) / 100)))), .val (.int (own_of ((mm / 100) % 100))), .val (.int (5 : Int32)), .val (.int (0 : Int32))]) rfl k) ?_
  refine Run.pre (fun _ k => XS.iload X390.here hx rfl (hb hby d10_60) rfl  k) ?_
  show Run p e below s _ _ _ (T390.setTop (mkF m 62 #[.val (.int (-(own_of ((mm / 100) / 100)))), .val (.int (9 : Int32)), .val (.ref bf), .val (.int (-(own_of ((mm / 100) / 100)))), .val (.int (own_of ((mm / 100) % 100))), .val (.int (5 : Int32)), .val (.int (0 : Int32))] [(.int (5 : Int32)), (.ref bf)]))
  have f391 := (f386.wr W390 g_bf)
  obtain ⟨T392, X392, e392, st392⟩ := getS2 X390 hx hZ hown (host := "") (Or.inl (hw _ (List.mem_of_getElem? (i := 58) rfl))) Via.refl e390 (ST.ext f391.2) (g := (mkF m 62 #[.val (.int (-(own_of ((mm / 100) / 100)))), .val (.int (9 : Int32)), .val (.ref bf), .val (.int (-(own_of ((mm / 100) / 100)))), .val (.int (own_of ((mm / 100) % 100))), .val (.int (5 : Int32)), .val (.int (0 : Int32))] [(.int (5 : Int32)), (.ref bf)])) rfl (hb hby d10_62)
  refine Run.pre st392 ?_
  refine Run.pre (fun _ k => XS.iload X392.here hx rfl (hb hby d10_65) rfl  k) ?_
  show Run p e below s _ _ _ (T392.setTop (mkF m 67 #[.val (.int (-(own_of ((mm / 100) / 100)))), .val (.int (9 : Int32)), .val (.ref bf), .val (.int (-(own_of ((mm / 100) / 100)))), .val (.int (own_of ((mm / 100) % 100))), .val (.int (5 : Int32)), .val (.int (0 : Int32))] [(.int (own_of ((mm / 100) % 100))), (.ref td), (.int (5 : Int32)), (.ref bf)]))
  obtain ⟨c393, Ar393, -, S393, N393, H393, -⟩ := id (AT.ext f391.2)
  have hin393 : ¬ ((own_of ((mm / 100) % 100)) < 0 ∨ c393.slots.size ≤ ((own_of ((mm / 100) % 100))).toNatClampNeg) := inb_of S393 (own_in100 (show ((mm / 100) % 100) < 100 by omega))
  refine Run.pre (X392.baloadBytes hx (j := (own_of ((mm / 100) % 100))) (v := (.int (own_of (48 + ((mm / 100) % 100) / 10)))) (by rw [e392]; exact Ar393.1) (State.isArrayOf_alike hZ.alike Ar393.2.1) Ar393.2.2 hin393 (H393.at hin393 (own_getT (show ((mm / 100) % 100) < 100 by omega))) (g := (mkF m 67 #[.val (.int (-(own_of ((mm / 100) / 100)))), .val (.int (9 : Int32)), .val (.ref bf), .val (.int (-(own_of ((mm / 100) / 100)))), .val (.int (own_of ((mm / 100) % 100))), .val (.int (5 : Int32)), .val (.int (0 : Int32))] [(.int (own_of ((mm / 100) % 100))), (.ref td), (.int (5 : Int32)), (.ref bf)])) rfl rfl (hb hby d10_67)) ?_
  show Run p e below s _ _ _ (T392.setTop (mkF m 68 #[.val (.int (-(own_of ((mm / 100) / 100)))), .val (.int (9 : Int32)), .val (.ref bf), .val (.int (-(own_of ((mm / 100) / 100)))), .val (.int (own_of ((mm / 100) % 100))), .val (.int (5 : Int32)), .val (.int (0 : Int32))] [(.int (own_of (48 + ((mm / 100) % 100) / 10))), (.int (5 : Int32)), (.ref bf)]))
  obtain ⟨c394, Ar394, q394, S394, N394, H394, G394⟩ := id V_bf_390
  have hin394 : ¬ ((5 : Int32) < 0 ∨ c394.slots.size ≤ ((5 : Int32)).toNatClampNeg) := inb_of S394 ⟨by decide, by decide⟩
  obtain ⟨T395, h395, X395, e395, W395, st395⟩ := stB X392 hx hZ e392 Ar394 (j := (5 : Int32)) hin394 (g := (mkF m 68 #[.val (.int (-(own_of ((mm / 100) / 100)))), .val (.int (9 : Int32)), .val (.ref bf), .val (.int (-(own_of ((mm / 100) / 100)))), .val (.int (own_of ((mm / 100) % 100))), .val (.int (5 : Int32)), .val (.int (0 : Int32))] [(.int (own_of (48 + ((mm / 100) % 100) / 10))), (.int (5 : Int32)), (.ref bf)])) rfl rfl (hb hby d10_68)
  refine Run.pre st395 ?_
  have V_bf_395 : Arv Z h395 bf kb .byte (9 : Int32) [(.int (0 : Int32)), (.int (0 : Int32)), (.int (0 : Int32)), (.int (0 : Int32)), (.int (0 : Int32)), (.int (nar .byte (own_of (48 + ((mm / 100) % 100) / 10)))), (.int (nar .byte (own_of (48 + ((mm / 100) % 100) % 10)))), (.int (nar .byte (own_of (48 + (mm % 100) / 10)))), (.int (nar .byte (own_of (48 + (mm % 100) % 10))))] (.int (0 : Int32)) := Arv.set Ar394 q394 S394 N394 H394 G394 (fits_nar_byte _) W395 5 rfl (Nat.le_of_ble_eq_true rfl)
  have K395 : Keep h0 h395 [bf] := K390.wr W395 (Or.inl (by simp))
  have N395 := Fr.snoc X395 N390 g_bf
  refine Run.pre (fun _ k => XS.goto X395.here hx rfl (pc0 := 69) (pc' := 22) rfl (hb hby d10_69) (by decide) (by decide) k) ?_
  refine Run.pre (fun _ k => XS.iloadN X395.here hx rfl (hb hby d10_22) rfl  k) ?_
  refine Run.pre (fun _ k => XS.bipush X395.here hx rfl (hb hby d10_23) k) ?_
  show Run p e below s _ _ _ (T395.setTop (mkF m 25 #[.val (.int (-(own_of ((mm / 100) / 100)))), .val (.int (9 : Int32)), .val (.ref bf), .val (.int (-(own_of ((mm / 100) / 100)))), .val (.int (own_of ((mm / 100) % 100))), .val (.int (5 : Int32)), .val (.int (0 : Int32))] [(.int (-100 : Int32)), (.int (-(own_of ((mm / 100) / 100))))]))
  refine Run.pre (fun _ k => XS.icmpNo X395.here hx rfl (hb hby d10_25) rfl (flt ((own_nltng (show ((mm / 100) / 100) < 2147483648 by omega) (by have e : ((-100 : Int32)).toInt = -100 := (by decide); omega)) : ¬ ((-100 : Int32) < (-(own_of ((mm / 100) / 100)))))).2.2.1 k) ?_
  refine Run.pre (fun _ k => XS.iloadN X395.here hx rfl (hb hby d10_28) rfl  k) ?_
  refine Run.pre (fun _ k => XS.bipush X395.here hx rfl (hb hby d10_29) k) ?_
  show Run p e below s _ _ _ (T395.setTop (mkF m 31 #[.val (.int (-(own_of ((mm / 100) / 100)))), .val (.int (9 : Int32)), .val (.ref bf), .val (.int (-(own_of ((mm / 100) / 100)))), .val (.int (own_of ((mm / 100) % 100))), .val (.int (5 : Int32)), .val (.int (0 : Int32))] [(.int (100 : Int32)), (.int (-(own_of ((mm / 100) / 100))))]))
  refine Run.pre (fun _ k => XS.idiv X395.here hx rfl (hb hby d10_31) rfl (by decide) k) ?_
  show Run p e below s _ _ _ (T395.setTop (mkF m 32 #[.val (.int (-(own_of ((mm / 100) / 100)))), .val (.int (9 : Int32)), .val (.ref bf), .val (.int (-(own_of ((mm / 100) / 100)))), .val (.int (own_of ((mm / 100) % 100))), .val (.int (5 : Int32)), .val (.int (0 : Int32))] [(.int ((-(own_of ((mm / 100) / 100))) / (100 : Int32)))]))
  refine Run.pre (fun _ k => XS.istoreN X395.here hx rfl (hb hby d10_32) rfl (l' := #[.val (.int (-(own_of ((mm / 100) / 100)))), .val (.int (9 : Int32)), .val (.ref bf), .val (.int ((-(own_of ((mm / 100) / 100))) / (100 : Int32))), .val (.int (own_of ((mm / 100) % 100))), .val (.int (5 : Int32)), .val (.int (0 : Int32))]) rfl k) ?_
  refine Run.pre (fun _ k => XS.iloadN X395.here hx rfl (hb hby d10_33) rfl  k) ?_
  refine Run.pre (fun _ k => XS.bipush X395.here hx rfl (hb hby d10_34) k) ?_
  show Run p e below s _ _ _ (T395.setTop (mkF m 36 #[.val (.int (-(own_of ((mm / 100) / 100)))), .val (.int (9 : Int32)), .val (.ref bf), .val (.int ((-(own_of ((mm / 100) / 100))) / (100 : Int32))), .val (.int (own_of ((mm / 100) % 100))), .val (.int (5 : Int32)), .val (.int (0 : Int32))] [(.int (100 : Int32)), (.int ((-(own_of ((mm / 100) / 100))) / (100 : Int32)))]))
  refine Run.pre (fun _ k => XS.imul X395.here hx rfl (hb hby d10_36) rfl k) ?_
  refine Run.pre (fun _ k => XS.iloadN X395.here hx rfl (hb hby d10_37) rfl  k) ?_
  show Run p e below s _ _ _ (T395.setTop (mkF m 38 #[.val (.int (-(own_of ((mm / 100) / 100)))), .val (.int (9 : Int32)), .val (.ref bf), .val (.int ((-(own_of ((mm / 100) / 100))) / (100 : Int32))), .val (.int (own_of ((mm / 100) % 100))), .val (.int (5 : Int32)), .val (.int (0 : Int32))] [(.int (-(own_of ((mm / 100) / 100)))), (.int (((-(own_of ((mm / 100) / 100))) / (100 : Int32)) * (100 : Int32)))]))
  refine Run.pre (fun _ k => XS.isub X395.here hx rfl (hb hby d10_38) rfl k) ?_
  show Run p e below s _ _ _ (T395.setTop (mkF m 39 #[.val (.int (-(own_of ((mm / 100) / 100)))), .val (.int (9 : Int32)), .val (.ref bf), .val (.int ((-(own_of ((mm / 100) / 100))) / (100 : Int32))), .val (.int (own_of ((mm / 100) % 100))), .val (.int (5 : Int32)), .val (.int (0 : Int32))] [(.int ((((-(own_of ((mm / 100) / 100))) / (100 : Int32)) * (100 : Int32)) - (-(own_of ((mm / 100) / 100)))))]))
  refine Run.pre (fun _ k => XS.istore X395.here hx rfl (hb hby d10_39) rfl (l' := #[.val (.int (-(own_of ((mm / 100) / 100)))), .val (.int (9 : Int32)), .val (.ref bf), .val (.int ((-(own_of ((mm / 100) / 100))) / (100 : Int32))), .val (.int ((((-(own_of ((mm / 100) / 100))) / (100 : Int32)) * (100 : Int32)) - (-(own_of ((mm / 100) / 100))))), .val (.int (5 : Int32)), .val (.int (0 : Int32))]) rfl k) ?_
  refine Run.pre (fun _ k => XS.iloadN X395.here hx rfl (hb hby d10_41) rfl  k) ?_
  show Run p e below s _ _ _ (T395.setTop (mkF m 42 #[.val (.int (-(own_of ((mm / 100) / 100)))), .val (.int (9 : Int32)), .val (.ref bf), .val (.int ((-(own_of ((mm / 100) / 100))) / (100 : Int32))), .val (.int ((((-(own_of ((mm / 100) / 100))) / (100 : Int32)) * (100 : Int32)) - (-(own_of ((mm / 100) / 100))))), .val (.int (5 : Int32)), .val (.int (0 : Int32))] [(.int ((-(own_of ((mm / 100) / 100))) / (100 : Int32)))]))
  refine Run.pre (fun _ k => XS.istoreN X395.here hx rfl (hb hby d10_42) rfl (l' := #[.val (.int ((-(own_of ((mm / 100) / 100))) / (100 : Int32))), .val (.int (9 : Int32)), .val (.ref bf), .val (.int ((-(own_of ((mm / 100) / 100))) / (100 : Int32))), .val (.int ((((-(own_of ((mm / 100) / 100))) / (100 : Int32)) * (100 : Int32)) - (-(own_of ((mm / 100) / 100))))), .val (.int (5 : Int32)), .val (.int (0 : Int32))]) rfl k) ?_
  show Run p e below s _ _ _ (T395.setTop (mkF m 43 #[.val (.int ((-(own_of ((mm / 100) / 100))) / (100 : Int32))), .val (.int (9 : Int32)), .val (.ref bf), .val (.int ((-(own_of ((mm / 100) / 100))) / (100 : Int32))), .val (.int ((((-(own_of ((mm / 100) / 100))) / (100 : Int32)) * (100 : Int32)) - (-(own_of ((mm / 100) / 100))))), .val (.int (5 : Int32)), .val (.int (0 : Int32))] []))
  rw [own_div (show ((mm / 100) / 100) < 2147483648 by omega), own_rem (show ((mm / 100) / 100) < 2147483648 by omega)]
  refine Run.pre (fun _ k => XS.aloadN X395.here hx rfl (hb hby d10_43) rfl rfl k) ?_
  show Run p e below s _ _ _ (T395.setTop (mkF m 44 #[.val (.int (-(own_of (((mm / 100) / 100) / 100)))), .val (.int (9 : Int32)), .val (.ref bf), .val (.int (-(own_of (((mm / 100) / 100) / 100)))), .val (.int (own_of (((mm / 100) / 100) % 100))), .val (.int (5 : Int32)), .val (.int (0 : Int32))] [(.ref bf)]))
  refine Run.pre (fun _ k => XS.iinc X395.here hx rfl (hb hby d10_44) rfl (l' := #[.val (.int (-(own_of (((mm / 100) / 100) / 100)))), .val (.int (9 : Int32)), .val (.ref bf), .val (.int (-(own_of (((mm / 100) / 100) / 100)))), .val (.int (own_of (((mm / 100) / 100) % 100))), .val (.int (4 : Int32)), .val (.int (0 : Int32))]) rfl k) ?_
  refine Run.pre (fun _ k => XS.iload X395.here hx rfl (hb hby d10_47) rfl  k) ?_
  show Run p e below s _ _ _ (T395.setTop (mkF m 49 #[.val (.int (-(own_of (((mm / 100) / 100) / 100)))), .val (.int (9 : Int32)), .val (.ref bf), .val (.int (-(own_of (((mm / 100) / 100) / 100)))), .val (.int (own_of (((mm / 100) / 100) % 100))), .val (.int (4 : Int32)), .val (.int (0 : Int32))] [(.int (4 : Int32)), (.ref bf)]))
  have f396 := (f391.wr W395 g_bf)
  obtain ⟨T397, X397, e397, st397⟩ := getS2 X395 hx hZ hown (host := "") (Or.inl (hw _ (List.mem_of_getElem? (i := 57) rfl))) Via.refl e395 (SO.ext f396.2) (g := (mkF m 49 #[.val (.int (-(own_of (((mm / 100) / 100) / 100)))), .val (.int (9 : Int32)), .val (.ref bf), .val (.int (-(own_of (((mm / 100) / 100) / 100)))), .val (.int (own_of (((mm / 100) / 100) % 100))), .val (.int (4 : Int32)), .val (.int (0 : Int32))] [(.int (4 : Int32)), (.ref bf)])) rfl (hb hby d10_49)
  refine Run.pre st397 ?_
  refine Run.pre (fun _ k => XS.iload X397.here hx rfl (hb hby d10_52) rfl  k) ?_
  show Run p e below s _ _ _ (T397.setTop (mkF m 54 #[.val (.int (-(own_of (((mm / 100) / 100) / 100)))), .val (.int (9 : Int32)), .val (.ref bf), .val (.int (-(own_of (((mm / 100) / 100) / 100)))), .val (.int (own_of (((mm / 100) / 100) % 100))), .val (.int (4 : Int32)), .val (.int (0 : Int32))] [(.int (own_of (((mm / 100) / 100) % 100))), (.ref od), (.int (4 : Int32)), (.ref bf)]))
  obtain ⟨c398, Ar398, -, S398, N398, H398, -⟩ := id (AO.ext f396.2)
  have hin398 : ¬ ((own_of (((mm / 100) / 100) % 100)) < 0 ∨ c398.slots.size ≤ ((own_of (((mm / 100) / 100) % 100))).toNatClampNeg) := inb_of S398 (own_in100 (show (((mm / 100) / 100) % 100) < 100 by omega))
  refine Run.pre (X397.baloadBytes hx (j := (own_of (((mm / 100) / 100) % 100))) (v := (.int (own_of (48 + (((mm / 100) / 100) % 100) % 10)))) (by rw [e397]; exact Ar398.1) (State.isArrayOf_alike hZ.alike Ar398.2.1) Ar398.2.2 hin398 (H398.at hin398 (own_getO (show (((mm / 100) / 100) % 100) < 100 by omega))) (g := (mkF m 54 #[.val (.int (-(own_of (((mm / 100) / 100) / 100)))), .val (.int (9 : Int32)), .val (.ref bf), .val (.int (-(own_of (((mm / 100) / 100) / 100)))), .val (.int (own_of (((mm / 100) / 100) % 100))), .val (.int (4 : Int32)), .val (.int (0 : Int32))] [(.int (own_of (((mm / 100) / 100) % 100))), (.ref od), (.int (4 : Int32)), (.ref bf)])) rfl rfl (hb hby d10_54)) ?_
  show Run p e below s _ _ _ (T397.setTop (mkF m 55 #[.val (.int (-(own_of (((mm / 100) / 100) / 100)))), .val (.int (9 : Int32)), .val (.ref bf), .val (.int (-(own_of (((mm / 100) / 100) / 100)))), .val (.int (own_of (((mm / 100) / 100) % 100))), .val (.int (4 : Int32)), .val (.int (0 : Int32))] [(.int (own_of (48 + (((mm / 100) / 100) % 100) % 10))), (.int (4 : Int32)), (.ref bf)]))
  obtain ⟨c399, Ar399, q399, S399, N399, H399, G399⟩ := id V_bf_395
  have hin399 : ¬ ((4 : Int32) < 0 ∨ c399.slots.size ≤ ((4 : Int32)).toNatClampNeg) := inb_of S399 ⟨by decide, by decide⟩
  obtain ⟨T400, h400, X400, e400, W400, st400⟩ := stB X397 hx hZ e397 Ar399 (j := (4 : Int32)) hin399 (g := (mkF m 55 #[.val (.int (-(own_of (((mm / 100) / 100) / 100)))), .val (.int (9 : Int32)), .val (.ref bf), .val (.int (-(own_of (((mm / 100) / 100) / 100)))), .val (.int (own_of (((mm / 100) / 100) % 100))), .val (.int (4 : Int32)), .val (.int (0 : Int32))] [(.int (own_of (48 + (((mm / 100) / 100) % 100) % 10))), (.int (4 : Int32)), (.ref bf)])) rfl rfl (hb hby d10_55)
  refine Run.pre st400 ?_
  have V_bf_400 : Arv Z h400 bf kb .byte (9 : Int32) [(.int (0 : Int32)), (.int (0 : Int32)), (.int (0 : Int32)), (.int (0 : Int32)), (.int (nar .byte (own_of (48 + (((mm / 100) / 100) % 100) % 10)))), (.int (nar .byte (own_of (48 + ((mm / 100) % 100) / 10)))), (.int (nar .byte (own_of (48 + ((mm / 100) % 100) % 10)))), (.int (nar .byte (own_of (48 + (mm % 100) / 10)))), (.int (nar .byte (own_of (48 + (mm % 100) % 10))))] (.int (0 : Int32)) := Arv.set Ar399 q399 S399 N399 H399 G399 (fits_nar_byte _) W400 4 rfl (Nat.le_of_ble_eq_true rfl)
  have K400 : Keep h0 h400 [bf] := K395.wr W400 (Or.inl (by simp))
  have N400 := Fr.snoc X400 N395 g_bf
  refine Run.pre (fun _ k => XS.aloadN X400.here hx rfl (hb hby d10_56) rfl rfl k) ?_
  show Run p e below s _ _ _ (T400.setTop (mkF m 57 #[.val (.int (-(own_of (((mm / 100) / 100) / 100)))), .val (.int (9 : Int32)), .val (.ref bf), .val (.int (-(own_of (((mm / 100) / 100) / 100)))), .val (.int (own_of (((mm / 100) / 100) % 100))), .val (.int (4 : Int32)), .val (.int (0 : Int32))] [(.ref bf)]))
  refine Run.pre (fun _ k => XS.iinc X400.here hx rfl (hb hby d10_57) rfl (l' := #[.val (.int (-(own_of (((mm / 100) / 100) / 100)))), .val (.int (9 : Int32)), .val (.ref bf), .val (.int (-(own_of (((mm / 100) / 100) / 100)))), .val (.int (own_of (((mm / 100) / 100) % 100))), .val (.int (3 : Int32)), .val (.int (0 : Int32))]) rfl k) ?_
  refine Run.pre (fun _ k => XS.iload X400.here hx rfl (hb hby d10_60) rfl  k) ?_
  show Run p e below s _ _ _ (T400.setTop (mkF m 62 #[.val (.int (-(own_of (((mm / 100) / 100) / 100)))), .val (.int (9 : Int32)), .val (.ref bf), .val (.int (-(own_of (((mm / 100) / 100) / 100)))), .val (.int (own_of (((mm / 100) / 100) % 100))), .val (.int (3 : Int32)), .val (.int (0 : Int32))] [(.int (3 : Int32)), (.ref bf)]))
  have f401 := (f396.wr W400 g_bf)
  obtain ⟨T402, X402, e402, st402⟩ := getS2 X400 hx hZ hown (host := "") (Or.inl (hw _ (List.mem_of_getElem? (i := 58) rfl))) Via.refl e400 (ST.ext f401.2) (g := (mkF m 62 #[.val (.int (-(own_of (((mm / 100) / 100) / 100)))), .val (.int (9 : Int32)), .val (.ref bf), .val (.int (-(own_of (((mm / 100) / 100) / 100)))), .val (.int (own_of (((mm / 100) / 100) % 100))), .val (.int (3 : Int32)), .val (.int (0 : Int32))] [(.int (3 : Int32)), (.ref bf)])) rfl (hb hby d10_62)
  refine Run.pre st402 ?_
  refine Run.pre (fun _ k => XS.iload X402.here hx rfl (hb hby d10_65) rfl  k) ?_
  show Run p e below s _ _ _ (T402.setTop (mkF m 67 #[.val (.int (-(own_of (((mm / 100) / 100) / 100)))), .val (.int (9 : Int32)), .val (.ref bf), .val (.int (-(own_of (((mm / 100) / 100) / 100)))), .val (.int (own_of (((mm / 100) / 100) % 100))), .val (.int (3 : Int32)), .val (.int (0 : Int32))] [(.int (own_of (((mm / 100) / 100) % 100))), (.ref td), (.int (3 : Int32)), (.ref bf)]))
  obtain ⟨c403, Ar403, -, S403, N403, H403, -⟩ := id (AT.ext f401.2)
  have hin403 : ¬ ((own_of (((mm / 100) / 100) % 100)) < 0 ∨ c403.slots.size ≤ ((own_of (((mm / 100) / 100) % 100))).toNatClampNeg) := inb_of S403 (own_in100 (show (((mm / 100) / 100) % 100) < 100 by omega))
  refine Run.pre (X402.baloadBytes hx (j := (own_of (((mm / 100) / 100) % 100))) (v := (.int (own_of (48 + (((mm / 100) / 100) % 100) / 10)))) (by rw [e402]; exact Ar403.1) (State.isArrayOf_alike hZ.alike Ar403.2.1) Ar403.2.2 hin403 (H403.at hin403 (own_getT (show (((mm / 100) / 100) % 100) < 100 by omega))) (g := (mkF m 67 #[.val (.int (-(own_of (((mm / 100) / 100) / 100)))), .val (.int (9 : Int32)), .val (.ref bf), .val (.int (-(own_of (((mm / 100) / 100) / 100)))), .val (.int (own_of (((mm / 100) / 100) % 100))), .val (.int (3 : Int32)), .val (.int (0 : Int32))] [(.int (own_of (((mm / 100) / 100) % 100))), (.ref td), (.int (3 : Int32)), (.ref bf)])) rfl rfl (hb hby d10_67)) ?_
  show Run p e below s _ _ _ (T402.setTop (mkF m 68 #[.val (.int (-(own_of (((mm / 100) / 100) / 100)))), .val (.int (9 : Int32)), .val (.ref bf), .val (.int (-(own_of (((mm / 100) / 100) / 100)))), .val (.int (own_of (((mm / 100) / 100) % 100))), .val (.int (3 : Int32)), .val (.int (0 : Int32))] [(.int (own_of (48 + (((mm / 100) / 100) % 100) / 10))), (.int (3 : Int32)), (.ref bf)]))
  obtain ⟨c404, Ar404, q404, S404, N404, H404, G404⟩ := id V_bf_400
  have hin404 : ¬ ((3 : Int32) < 0 ∨ c404.slots.size ≤ ((3 : Int32)).toNatClampNeg) := inb_of S404 ⟨by decide, by decide⟩
  obtain ⟨T405, h405, X405, e405, W405, st405⟩ := stB X402 hx hZ e402 Ar404 (j := (3 : Int32)) hin404 (g := (mkF m 68 #[.val (.int (-(own_of (((mm / 100) / 100) / 100)))), .val (.int (9 : Int32)), .val (.ref bf), .val (.int (-(own_of (((mm / 100) / 100) / 100)))), .val (.int (own_of (((mm / 100) / 100) % 100))), .val (.int (3 : Int32)), .val (.int (0 : Int32))] [(.int (own_of (48 + (((mm / 100) / 100) % 100) / 10))), (.int (3 : Int32)), (.ref bf)])) rfl rfl (hb hby d10_68)
  refine Run.pre st405 ?_
  have V_bf_405 : Arv Z h405 bf kb .byte (9 : Int32) [(.int (0 : Int32)), (.int (0 : Int32)), (.int (0 : Int32)), (.int (nar .byte (own_of (48 + (((mm / 100) / 100) % 100) / 10)))), (.int (nar .byte (own_of (48 + (((mm / 100) / 100) % 100) % 10)))), (.int (nar .byte (own_of (48 + ((mm / 100) % 100) / 10)))), (.int (nar .byte (own_of (48 + ((mm / 100) % 100) % 10)))), (.int (nar .byte (own_of (48 + (mm % 100) / 10)))), (.int (nar .byte (own_of (48 + (mm % 100) % 10))))] (.int (0 : Int32)) := Arv.set Ar404 q404 S404 N404 H404 G404 (fits_nar_byte _) W405 3 rfl (Nat.le_of_ble_eq_true rfl)
  have K405 : Keep h0 h405 [bf] := K400.wr W405 (Or.inl (by simp))
  have N405 := Fr.snoc X405 N400 g_bf
  refine Run.pre (fun _ k => XS.goto X405.here hx rfl (pc0 := 69) (pc' := 22) rfl (hb hby d10_69) (by decide) (by decide) k) ?_
  refine Run.pre (fun _ k => XS.iloadN X405.here hx rfl (hb hby d10_22) rfl  k) ?_
  refine Run.pre (fun _ k => XS.bipush X405.here hx rfl (hb hby d10_23) k) ?_
  show Run p e below s _ _ _ (T405.setTop (mkF m 25 #[.val (.int (-(own_of (((mm / 100) / 100) / 100)))), .val (.int (9 : Int32)), .val (.ref bf), .val (.int (-(own_of (((mm / 100) / 100) / 100)))), .val (.int (own_of (((mm / 100) / 100) % 100))), .val (.int (3 : Int32)), .val (.int (0 : Int32))] [(.int (-100 : Int32)), (.int (-(own_of (((mm / 100) / 100) / 100))))]))
  refine Run.pre (fun _ k => XS.icmpNo X405.here hx rfl (hb hby d10_25) rfl (flt ((own_nltng (show (((mm / 100) / 100) / 100) < 2147483648 by omega) (by have e : ((-100 : Int32)).toInt = -100 := (by decide); omega)) : ¬ ((-100 : Int32) < (-(own_of (((mm / 100) / 100) / 100)))))).2.2.1 k) ?_
  refine Run.pre (fun _ k => XS.iloadN X405.here hx rfl (hb hby d10_28) rfl  k) ?_
  refine Run.pre (fun _ k => XS.bipush X405.here hx rfl (hb hby d10_29) k) ?_
  show Run p e below s _ _ _ (T405.setTop (mkF m 31 #[.val (.int (-(own_of (((mm / 100) / 100) / 100)))), .val (.int (9 : Int32)), .val (.ref bf), .val (.int (-(own_of (((mm / 100) / 100) / 100)))), .val (.int (own_of (((mm / 100) / 100) % 100))), .val (.int (3 : Int32)), .val (.int (0 : Int32))] [(.int (100 : Int32)), (.int (-(own_of (((mm / 100) / 100) / 100))))]))
  refine Run.pre (fun _ k => XS.idiv X405.here hx rfl (hb hby d10_31) rfl (by decide) k) ?_
  show Run p e below s _ _ _ (T405.setTop (mkF m 32 #[.val (.int (-(own_of (((mm / 100) / 100) / 100)))), .val (.int (9 : Int32)), .val (.ref bf), .val (.int (-(own_of (((mm / 100) / 100) / 100)))), .val (.int (own_of (((mm / 100) / 100) % 100))), .val (.int (3 : Int32)), .val (.int (0 : Int32))] [(.int ((-(own_of (((mm / 100) / 100) / 100))) / (100 : Int32)))]))
  refine Run.pre (fun _ k => XS.istoreN X405.here hx rfl (hb hby d10_32) rfl (l' := #[.val (.int (-(own_of (((mm / 100) / 100) / 100)))), .val (.int (9 : Int32)), .val (.ref bf), .val (.int ((-(own_of (((mm / 100) / 100) / 100))) / (100 : Int32))), .val (.int (own_of (((mm / 100) / 100) % 100))), .val (.int (3 : Int32)), .val (.int (0 : Int32))]) rfl k) ?_
  refine Run.pre (fun _ k => XS.iloadN X405.here hx rfl (hb hby d10_33) rfl  k) ?_
  refine Run.pre (fun _ k => XS.bipush X405.here hx rfl (hb hby d10_34) k) ?_
  show Run p e below s _ _ _ (T405.setTop (mkF m 36 #[.val (.int (-(own_of (((mm / 100) / 100) / 100)))), .val (.int (9 : Int32)), .val (.ref bf), .val (.int ((-(own_of (((mm / 100) / 100) / 100))) / (100 : Int32))), .val (.int (own_of (((mm / 100) / 100) % 100))), .val (.int (3 : Int32)), .val (.int (0 : Int32))] [(.int (100 : Int32)), (.int ((-(own_of (((mm / 100) / 100) / 100))) / (100 : Int32)))]))
  refine Run.pre (fun _ k => XS.imul X405.here hx rfl (hb hby d10_36) rfl k) ?_
  refine Run.pre (fun _ k => XS.iloadN X405.here hx rfl (hb hby d10_37) rfl  k) ?_
  show Run p e below s _ _ _ (T405.setTop (mkF m 38 #[.val (.int (-(own_of (((mm / 100) / 100) / 100)))), .val (.int (9 : Int32)), .val (.ref bf), .val (.int ((-(own_of (((mm / 100) / 100) / 100))) / (100 : Int32))), .val (.int (own_of (((mm / 100) / 100) % 100))), .val (.int (3 : Int32)), .val (.int (0 : Int32))] [(.int (-(own_of (((mm / 100) / 100) / 100)))), (.int (((-(own_of (((mm / 100) / 100) / 100))) / (100 : Int32)) * (100 : Int32)))]))
  refine Run.pre (fun _ k => XS.isub X405.here hx rfl (hb hby d10_38) rfl k) ?_
  show Run p e below s _ _ _ (T405.setTop (mkF m 39 #[.val (.int (-(own_of (((mm / 100) / 100) / 100)))), .val (.int (9 : Int32)), .val (.ref bf), .val (.int ((-(own_of (((mm / 100) / 100) / 100))) / (100 : Int32))), .val (.int (own_of (((mm / 100) / 100) % 100))), .val (.int (3 : Int32)), .val (.int (0 : Int32))] [(.int ((((-(own_of (((mm / 100) / 100) / 100))) / (100 : Int32)) * (100 : Int32)) - (-(own_of (((mm / 100) / 100) / 100)))))]))
  refine Run.pre (fun _ k => XS.istore X405.here hx rfl (hb hby d10_39) rfl (l' := #[.val (.int (-(own_of (((mm / 100) / 100) / 100)))), .val (.int (9 : Int32)), .val (.ref bf), .val (.int ((-(own_of (((mm / 100) / 100) / 100))) / (100 : Int32))), .val (.int ((((-(own_of (((mm / 100) / 100) / 100))) / (100 : Int32)) * (100 : Int32)) - (-(own_of (((mm / 100) / 100) / 100))))), .val (.int (3 : Int32)), .val (.int (0 : Int32))]) rfl k) ?_
  refine Run.pre (fun _ k => XS.iloadN X405.here hx rfl (hb hby d10_41) rfl  k) ?_
  show Run p e below s _ _ _ (T405.setTop (mkF m 42 #[.val (.int (-(own_of (((mm / 100) / 100) / 100)))), .val (.int (9 : Int32)), .val (.ref bf), .val (.int ((-(own_of (((mm / 100) / 100) / 100))) / (100 : Int32))), .val (.int ((((-(own_of (((mm / 100) / 100) / 100))) / (100 : Int32)) * (100 : Int32)) - (-(own_of (((mm / 100) / 100) / 100))))), .val (.int (3 : Int32)), .val (.int (0 : Int32))] [(.int ((-(own_of (((mm / 100) / 100) / 100))) / (100 : Int32)))]))
  refine Run.pre (fun _ k => XS.istoreN X405.here hx rfl (hb hby d10_42) rfl (l' := #[.val (.int ((-(own_of (((mm / 100) / 100) / 100))) / (100 : Int32))), .val (.int (9 : Int32)), .val (.ref bf), .val (.int ((-(own_of (((mm / 100) / 100) / 100))) / (100 : Int32))), .val (.int ((((-(own_of (((mm / 100) / 100) / 100))) / (100 : Int32)) * (100 : Int32)) - (-(own_of (((mm / 100) / 100) / 100))))), .val (.int (3 : Int32)), .val (.int (0 : Int32))]) rfl k) ?_
  show Run p e below s _ _ _ (T405.setTop (mkF m 43 #[.val (.int ((-(own_of (((mm / 100) / 100) / 100))) / (100 : Int32))), .val (.int (9 : Int32)), .val (.ref bf), .val (.int ((-(own_of (((mm / 100) / 100) / 100))) / (100 : Int32))), .val (.int ((((-(own_of (((mm / 100) / 100) / 100))) / (100 : Int32)) * (100 : Int32)) - (-(own_of (((mm / 100) / 100) / 100))))), .val (.int (3 : Int32)), .val (.int (0 : Int32))] []))
  rw [own_div (show (((mm / 100) / 100) / 100) < 2147483648 by omega), own_rem (show (((mm / 100) / 100) / 100) < 2147483648 by omega)]
  refine Run.pre (fun _ k => XS.aloadN X405.here hx rfl (hb hby d10_43) rfl rfl k) ?_
  show Run p e below s _ _ _ (T405.setTop (mkF m 44 #[.val (.int (-(own_of ((((mm / 100) / 100) / 100) / 100)))), .val (.int (9 : Int32)), .val (.ref bf), .val (.int (-(own_of ((((mm / 100) / 100) / 100) / 100)))), .val (.int (own_of ((((mm / 100) / 100) / 100) % 100))), .val (.int (3 : Int32)), .val (.int (0 : Int32))] [(.ref bf)]))
  refine Run.pre (fun _ k => XS.iinc X405.here hx rfl (hb hby d10_44) rfl (l' := #[.val (.int (-(own_of ((((mm / 100) / 100) / 100) / 100)))), .val (.int (9 : Int32)), .val (.ref bf), .val (.int (-(own_of ((((mm / 100) / 100) / 100) / 100)))), .val (.int (own_of ((((mm / 100) / 100) / 100) % 100))), .val (.int (2 : Int32)), .val (.int (0 : Int32))]) rfl k) ?_
  refine Run.pre (fun _ k => XS.iload X405.here hx rfl (hb hby d10_47) rfl  k) ?_
  show Run p e below s _ _ _ (T405.setTop (mkF m 49 #[.val (.int (-(own_of ((((mm / 100) / 100) / 100) / 100)))), .val (.int (9 : Int32)), .val (.ref bf), .val (.int (-(own_of ((((mm / 100) / 100) / 100) / 100)))), .val (.int (own_of ((((mm / 100) / 100) / 100) % 100))), .val (.int (2 : Int32)), .val (.int (0 : Int32))] [(.int (2 : Int32)), (.ref bf)]))
  have f406 := (f401.wr W405 g_bf)
  obtain ⟨T407, X407, e407, st407⟩ := getS2 X405 hx hZ hown (host := "") (Or.inl (hw _ (List.mem_of_getElem? (i := 57) rfl))) Via.refl e405 (SO.ext f406.2) (g := (mkF m 49 #[.val (.int (-(own_of ((((mm / 100) / 100) / 100) / 100)))), .val (.int (9 : Int32)), .val (.ref bf), .val (.int (-(own_of ((((mm / 100) / 100) / 100) / 100)))), .val (.int (own_of ((((mm / 100) / 100) / 100) % 100))), .val (.int (2 : Int32)), .val (.int (0 : Int32))] [(.int (2 : Int32)), (.ref bf)])) rfl (hb hby d10_49)
  refine Run.pre st407 ?_
  refine Run.pre (fun _ k => XS.iload X407.here hx rfl (hb hby d10_52) rfl  k) ?_
  show Run p e below s _ _ _ (T407.setTop (mkF m 54 #[.val (.int (-(own_of ((((mm / 100) / 100) / 100) / 100)))), .val (.int (9 : Int32)), .val (.ref bf), .val (.int (-(own_of ((((mm / 100) / 100) / 100) / 100)))), .val (.int (own_of ((((mm / 100) / 100) / 100) % 100))), .val (.int (2 : Int32)), .val (.int (0 : Int32))] [(.int (own_of ((((mm / 100) / 100) / 100) % 100))), (.ref od), (.int (2 : Int32)), (.ref bf)]))
  obtain ⟨c408, Ar408, -, S408, N408, H408, -⟩ := id (AO.ext f406.2)
  have hin408 : ¬ ((own_of ((((mm / 100) / 100) / 100) % 100)) < 0 ∨ c408.slots.size ≤ ((own_of ((((mm / 100) / 100) / 100) % 100))).toNatClampNeg) := inb_of S408 (own_in100 (show ((((mm / 100) / 100) / 100) % 100) < 100 by omega))
  refine Run.pre (X407.baloadBytes hx (j := (own_of ((((mm / 100) / 100) / 100) % 100))) (v := (.int (own_of (48 + ((((mm / 100) / 100) / 100) % 100) % 10)))) (by rw [e407]; exact Ar408.1) (State.isArrayOf_alike hZ.alike Ar408.2.1) Ar408.2.2 hin408 (H408.at hin408 (own_getO (show ((((mm / 100) / 100) / 100) % 100) < 100 by omega))) (g := (mkF m 54 #[.val (.int (-(own_of ((((mm / 100) / 100) / 100) / 100)))), .val (.int (9 : Int32)), .val (.ref bf), .val (.int (-(own_of ((((mm / 100) / 100) / 100) / 100)))), .val (.int (own_of ((((mm / 100) / 100) / 100) % 100))), .val (.int (2 : Int32)), .val (.int (0 : Int32))] [(.int (own_of ((((mm / 100) / 100) / 100) % 100))), (.ref od), (.int (2 : Int32)), (.ref bf)])) rfl rfl (hb hby d10_54)) ?_
  show Run p e below s _ _ _ (T407.setTop (mkF m 55 #[.val (.int (-(own_of ((((mm / 100) / 100) / 100) / 100)))), .val (.int (9 : Int32)), .val (.ref bf), .val (.int (-(own_of ((((mm / 100) / 100) / 100) / 100)))), .val (.int (own_of ((((mm / 100) / 100) / 100) % 100))), .val (.int (2 : Int32)), .val (.int (0 : Int32))] [(.int (own_of (48 + ((((mm / 100) / 100) / 100) % 100) % 10))), (.int (2 : Int32)), (.ref bf)]))
  obtain ⟨c409, Ar409, q409, S409, N409, H409, G409⟩ := id V_bf_405
  have hin409 : ¬ ((2 : Int32) < 0 ∨ c409.slots.size ≤ ((2 : Int32)).toNatClampNeg) := inb_of S409 ⟨by decide, by decide⟩
  obtain ⟨T410, h410, X410, e410, W410, st410⟩ := stB X407 hx hZ e407 Ar409 (j := (2 : Int32)) hin409 (g := (mkF m 55 #[.val (.int (-(own_of ((((mm / 100) / 100) / 100) / 100)))), .val (.int (9 : Int32)), .val (.ref bf), .val (.int (-(own_of ((((mm / 100) / 100) / 100) / 100)))), .val (.int (own_of ((((mm / 100) / 100) / 100) % 100))), .val (.int (2 : Int32)), .val (.int (0 : Int32))] [(.int (own_of (48 + ((((mm / 100) / 100) / 100) % 100) % 10))), (.int (2 : Int32)), (.ref bf)])) rfl rfl (hb hby d10_55)
  refine Run.pre st410 ?_
  have V_bf_410 : Arv Z h410 bf kb .byte (9 : Int32) [(.int (0 : Int32)), (.int (0 : Int32)), (.int (nar .byte (own_of (48 + ((((mm / 100) / 100) / 100) % 100) % 10)))), (.int (nar .byte (own_of (48 + (((mm / 100) / 100) % 100) / 10)))), (.int (nar .byte (own_of (48 + (((mm / 100) / 100) % 100) % 10)))), (.int (nar .byte (own_of (48 + ((mm / 100) % 100) / 10)))), (.int (nar .byte (own_of (48 + ((mm / 100) % 100) % 10)))), (.int (nar .byte (own_of (48 + (mm % 100) / 10)))), (.int (nar .byte (own_of (48 + (mm % 100) % 10))))] (.int (0 : Int32)) := Arv.set Ar409 q409 S409 N409 H409 G409 (fits_nar_byte _) W410 2 rfl (Nat.le_of_ble_eq_true rfl)
  have K410 : Keep h0 h410 [bf] := K405.wr W410 (Or.inl (by simp))
  have N410 := Fr.snoc X410 N405 g_bf
  refine Run.pre (fun _ k => XS.aloadN X410.here hx rfl (hb hby d10_56) rfl rfl k) ?_
  show Run p e below s _ _ _ (T410.setTop (mkF m 57 #[.val (.int (-(own_of ((((mm / 100) / 100) / 100) / 100)))), .val (.int (9 : Int32)), .val (.ref bf), .val (.int (-(own_of ((((mm / 100) / 100) / 100) / 100)))), .val (.int (own_of ((((mm / 100) / 100) / 100) % 100))), .val (.int (2 : Int32)), .val (.int (0 : Int32))] [(.ref bf)]))
  refine Run.pre (fun _ k => XS.iinc X410.here hx rfl (hb hby d10_57) rfl (l' := #[.val (.int (-(own_of ((((mm / 100) / 100) / 100) / 100)))), .val (.int (9 : Int32)), .val (.ref bf), .val (.int (-(own_of ((((mm / 100) / 100) / 100) / 100)))), .val (.int (own_of ((((mm / 100) / 100) / 100) % 100))), .val (.int (1 : Int32)), .val (.int (0 : Int32))]) rfl k) ?_
  refine Run.pre (fun _ k => XS.iload X410.here hx rfl (hb hby d10_60) rfl  k) ?_
  show Run p e below s _ _ _ (T410.setTop (mkF m 62 #[.val (.int (-(own_of ((((mm / 100) / 100) / 100) / 100)))), .val (.int (9 : Int32)), .val (.ref bf), .val (.int (-(own_of ((((mm / 100) / 100) / 100) / 100)))), .val (.int (own_of ((((mm / 100) / 100) / 100) % 100))), .val (.int (1 : Int32)), .val (.int (0 : Int32))] [(.int (1 : Int32)), (.ref bf)]))
  have f411 := (f406.wr W410 g_bf)
  obtain ⟨T412, X412, e412, st412⟩ := getS2 X410 hx hZ hown (host := "") (Or.inl (hw _ (List.mem_of_getElem? (i := 58) rfl))) Via.refl e410 (ST.ext f411.2) (g := (mkF m 62 #[.val (.int (-(own_of ((((mm / 100) / 100) / 100) / 100)))), .val (.int (9 : Int32)), .val (.ref bf), .val (.int (-(own_of ((((mm / 100) / 100) / 100) / 100)))), .val (.int (own_of ((((mm / 100) / 100) / 100) % 100))), .val (.int (1 : Int32)), .val (.int (0 : Int32))] [(.int (1 : Int32)), (.ref bf)])) rfl (hb hby d10_62)
  refine Run.pre st412 ?_
  refine Run.pre (fun _ k => XS.iload X412.here hx rfl (hb hby d10_65) rfl  k) ?_
  show Run p e below s _ _ _ (T412.setTop (mkF m 67 #[.val (.int (-(own_of ((((mm / 100) / 100) / 100) / 100)))), .val (.int (9 : Int32)), .val (.ref bf), .val (.int (-(own_of ((((mm / 100) / 100) / 100) / 100)))), .val (.int (own_of ((((mm / 100) / 100) / 100) % 100))), .val (.int (1 : Int32)), .val (.int (0 : Int32))] [(.int (own_of ((((mm / 100) / 100) / 100) % 100))), (.ref td), (.int (1 : Int32)), (.ref bf)]))
  obtain ⟨c413, Ar413, -, S413, N413, H413, -⟩ := id (AT.ext f411.2)
  have hin413 : ¬ ((own_of ((((mm / 100) / 100) / 100) % 100)) < 0 ∨ c413.slots.size ≤ ((own_of ((((mm / 100) / 100) / 100) % 100))).toNatClampNeg) := inb_of S413 (own_in100 (show ((((mm / 100) / 100) / 100) % 100) < 100 by omega))
  refine Run.pre (X412.baloadBytes hx (j := (own_of ((((mm / 100) / 100) / 100) % 100))) (v := (.int (own_of (48 + ((((mm / 100) / 100) / 100) % 100) / 10)))) (by rw [e412]; exact Ar413.1) (State.isArrayOf_alike hZ.alike Ar413.2.1) Ar413.2.2 hin413 (H413.at hin413 (own_getT (show ((((mm / 100) / 100) / 100) % 100) < 100 by omega))) (g := (mkF m 67 #[.val (.int (-(own_of ((((mm / 100) / 100) / 100) / 100)))), .val (.int (9 : Int32)), .val (.ref bf), .val (.int (-(own_of ((((mm / 100) / 100) / 100) / 100)))), .val (.int (own_of ((((mm / 100) / 100) / 100) % 100))), .val (.int (1 : Int32)), .val (.int (0 : Int32))] [(.int (own_of ((((mm / 100) / 100) / 100) % 100))), (.ref td), (.int (1 : Int32)), (.ref bf)])) rfl rfl (hb hby d10_67)) ?_
  show Run p e below s _ _ _ (T412.setTop (mkF m 68 #[.val (.int (-(own_of ((((mm / 100) / 100) / 100) / 100)))), .val (.int (9 : Int32)), .val (.ref bf), .val (.int (-(own_of ((((mm / 100) / 100) / 100) / 100)))), .val (.int (own_of ((((mm / 100) / 100) / 100) % 100))), .val (.int (1 : Int32)), .val (.int (0 : Int32))] [(.int (own_of (48 + ((((mm / 100) / 100) / 100) % 100) / 10))), (.int (1 : Int32)), (.ref bf)]))
  obtain ⟨c414, Ar414, q414, S414, N414, H414, G414⟩ := id V_bf_410
  have hin414 : ¬ ((1 : Int32) < 0 ∨ c414.slots.size ≤ ((1 : Int32)).toNatClampNeg) := inb_of S414 ⟨by decide, by decide⟩
  obtain ⟨T415, h415, X415, e415, W415, st415⟩ := stB X412 hx hZ e412 Ar414 (j := (1 : Int32)) hin414 (g := (mkF m 68 #[.val (.int (-(own_of ((((mm / 100) / 100) / 100) / 100)))), .val (.int (9 : Int32)), .val (.ref bf), .val (.int (-(own_of ((((mm / 100) / 100) / 100) / 100)))), .val (.int (own_of ((((mm / 100) / 100) / 100) % 100))), .val (.int (1 : Int32)), .val (.int (0 : Int32))] [(.int (own_of (48 + ((((mm / 100) / 100) / 100) % 100) / 10))), (.int (1 : Int32)), (.ref bf)])) rfl rfl (hb hby d10_68)
  refine Run.pre st415 ?_
  have V_bf_415 : Arv Z h415 bf kb .byte (9 : Int32) [(.int (0 : Int32)), (.int (nar .byte (own_of (48 + ((((mm / 100) / 100) / 100) % 100) / 10)))), (.int (nar .byte (own_of (48 + ((((mm / 100) / 100) / 100) % 100) % 10)))), (.int (nar .byte (own_of (48 + (((mm / 100) / 100) % 100) / 10)))), (.int (nar .byte (own_of (48 + (((mm / 100) / 100) % 100) % 10)))), (.int (nar .byte (own_of (48 + ((mm / 100) % 100) / 10)))), (.int (nar .byte (own_of (48 + ((mm / 100) % 100) % 10)))), (.int (nar .byte (own_of (48 + (mm % 100) / 10)))), (.int (nar .byte (own_of (48 + (mm % 100) % 10))))] (.int (0 : Int32)) := Arv.set Ar414 q414 S414 N414 H414 G414 (fits_nar_byte _) W415 1 rfl (Nat.le_of_ble_eq_true rfl)
  have K415 : Keep h0 h415 [bf] := K410.wr W415 (Or.inl (by simp))
  have N415 := Fr.snoc X415 N410 g_bf
  refine Run.pre (fun _ k => XS.goto X415.here hx rfl (pc0 := 69) (pc' := 22) rfl (hb hby d10_69) (by decide) (by decide) k) ?_
  refine Run.pre (fun _ k => XS.iloadN X415.here hx rfl (hb hby d10_22) rfl  k) ?_
  refine Run.pre (fun _ k => XS.bipush X415.here hx rfl (hb hby d10_23) k) ?_
  show Run p e below s _ _ _ (T415.setTop (mkF m 25 #[.val (.int (-(own_of ((((mm / 100) / 100) / 100) / 100)))), .val (.int (9 : Int32)), .val (.ref bf), .val (.int (-(own_of ((((mm / 100) / 100) / 100) / 100)))), .val (.int (own_of ((((mm / 100) / 100) / 100) % 100))), .val (.int (1 : Int32)), .val (.int (0 : Int32))] [(.int (-100 : Int32)), (.int (-(own_of ((((mm / 100) / 100) / 100) / 100))))]))
  refine Run.pre (fun _ k => XS.icmpYes X415.here hx rfl (pc0 := 25) (pc' := 72) rfl (hb hby d10_25) rfl (tlt ((own_ltng (show ((((mm / 100) / 100) / 100) / 100) < 2147483648 by omega) (by have e : ((-100 : Int32)).toInt = -100 := (by decide); omega)) : (-100 : Int32) < (-(own_of ((((mm / 100) / 100) / 100) / 100))))).2.2.1 (by decide) (by decide) k) ?_
  refine Run.pre (fun _ k => XS.aloadN X415.here hx rfl (hb hby d10_72) rfl rfl k) ?_
  show Run p e below s _ _ _ (T415.setTop (mkF m 73 #[.val (.int (-(own_of ((((mm / 100) / 100) / 100) / 100)))), .val (.int (9 : Int32)), .val (.ref bf), .val (.int (-(own_of ((((mm / 100) / 100) / 100) / 100)))), .val (.int (own_of ((((mm / 100) / 100) / 100) % 100))), .val (.int (1 : Int32)), .val (.int (0 : Int32))] [(.ref bf)]))
  refine Run.pre (fun _ k => XS.iinc X415.here hx rfl (hb hby d10_73) rfl (l' := #[.val (.int (-(own_of ((((mm / 100) / 100) / 100) / 100)))), .val (.int (9 : Int32)), .val (.ref bf), .val (.int (-(own_of ((((mm / 100) / 100) / 100) / 100)))), .val (.int (own_of ((((mm / 100) / 100) / 100) % 100))), .val (.int (0 : Int32)), .val (.int (0 : Int32))]) rfl k) ?_
  refine Run.pre (fun _ k => XS.iload X415.here hx rfl (hb hby d10_76) rfl  k) ?_
  show Run p e below s _ _ _ (T415.setTop (mkF m 78 #[.val (.int (-(own_of ((((mm / 100) / 100) / 100) / 100)))), .val (.int (9 : Int32)), .val (.ref bf), .val (.int (-(own_of ((((mm / 100) / 100) / 100) / 100)))), .val (.int (own_of ((((mm / 100) / 100) / 100) % 100))), .val (.int (0 : Int32)), .val (.int (0 : Int32))] [(.int (0 : Int32)), (.ref bf)]))
  have f416 := (f411.wr W415 g_bf)
  obtain ⟨T417, X417, e417, st417⟩ := getS2 X415 hx hZ hown (host := "") (Or.inl (hw _ (List.mem_of_getElem? (i := 57) rfl))) Via.refl e415 (SO.ext f416.2) (g := (mkF m 78 #[.val (.int (-(own_of ((((mm / 100) / 100) / 100) / 100)))), .val (.int (9 : Int32)), .val (.ref bf), .val (.int (-(own_of ((((mm / 100) / 100) / 100) / 100)))), .val (.int (own_of ((((mm / 100) / 100) / 100) % 100))), .val (.int (0 : Int32)), .val (.int (0 : Int32))] [(.int (0 : Int32)), (.ref bf)])) rfl (hb hby d10_78)
  refine Run.pre st417 ?_
  refine Run.pre (fun _ k => XS.iloadN X417.here hx rfl (hb hby d10_81) rfl  k) ?_
  show Run p e below s _ _ _ (T417.setTop (mkF m 82 #[.val (.int (-(own_of ((((mm / 100) / 100) / 100) / 100)))), .val (.int (9 : Int32)), .val (.ref bf), .val (.int (-(own_of ((((mm / 100) / 100) / 100) / 100)))), .val (.int (own_of ((((mm / 100) / 100) / 100) % 100))), .val (.int (0 : Int32)), .val (.int (0 : Int32))] [(.int (-(own_of ((((mm / 100) / 100) / 100) / 100)))), (.ref od), (.int (0 : Int32)), (.ref bf)]))
  refine Run.pre (fun _ k => XS.ineg X417.here hx rfl (hb hby d10_82) rfl k) ?_
  show Run p e below s _ _ _ (T417.setTop (mkF m 83 #[.val (.int (-(own_of ((((mm / 100) / 100) / 100) / 100)))), .val (.int (9 : Int32)), .val (.ref bf), .val (.int (-(own_of ((((mm / 100) / 100) / 100) / 100)))), .val (.int (own_of ((((mm / 100) / 100) / 100) % 100))), .val (.int (0 : Int32)), .val (.int (0 : Int32))] [(.int (-(-(own_of ((((mm / 100) / 100) / 100) / 100))))), (.ref od), (.int (0 : Int32)), (.ref bf)]))
  obtain ⟨c418, Ar418, -, S418, N418, H418, -⟩ := id (AO.ext f416.2)
  have hin418 : ¬ ((-(-(own_of ((((mm / 100) / 100) / 100) / 100)))) < 0 ∨ c418.slots.size ≤ ((-(-(own_of ((((mm / 100) / 100) / 100) / 100))))).toNatClampNeg) := inb_of S418 (by rw [Int32.neg_neg]; exact own_in100 (show ((((mm / 100) / 100) / 100) / 100) < 100 by omega))
  refine Run.pre (X417.baloadBytes hx (j := (-(-(own_of ((((mm / 100) / 100) / 100) / 100))))) (v := (.int (own_of (48 + ((((mm / 100) / 100) / 100) / 100) % 10)))) (by rw [e417]; exact Ar418.1) (State.isArrayOf_alike hZ.alike Ar418.2.1) Ar418.2.2 hin418 (H418.at hin418 (by rw [Int32.neg_neg]; exact own_getO (show ((((mm / 100) / 100) / 100) / 100) < 100 by omega))) (g := (mkF m 83 #[.val (.int (-(own_of ((((mm / 100) / 100) / 100) / 100)))), .val (.int (9 : Int32)), .val (.ref bf), .val (.int (-(own_of ((((mm / 100) / 100) / 100) / 100)))), .val (.int (own_of ((((mm / 100) / 100) / 100) % 100))), .val (.int (0 : Int32)), .val (.int (0 : Int32))] [(.int (-(-(own_of ((((mm / 100) / 100) / 100) / 100))))), (.ref od), (.int (0 : Int32)), (.ref bf)])) rfl rfl (hb hby d10_83)) ?_
  show Run p e below s _ _ _ (T417.setTop (mkF m 84 #[.val (.int (-(own_of ((((mm / 100) / 100) / 100) / 100)))), .val (.int (9 : Int32)), .val (.ref bf), .val (.int (-(own_of ((((mm / 100) / 100) / 100) / 100)))), .val (.int (own_of ((((mm / 100) / 100) / 100) % 100))), .val (.int (0 : Int32)), .val (.int (0 : Int32))] [(.int (own_of (48 + ((((mm / 100) / 100) / 100) / 100) % 10))), (.int (0 : Int32)), (.ref bf)]))
  obtain ⟨c419, Ar419, q419, S419, N419, H419, G419⟩ := id V_bf_415
  have hin419 : ¬ ((0 : Int32) < 0 ∨ c419.slots.size ≤ ((0 : Int32)).toNatClampNeg) := inb_of S419 ⟨by decide, by decide⟩
  obtain ⟨T420, h420, X420, e420, W420, st420⟩ := stB X417 hx hZ e417 Ar419 (j := (0 : Int32)) hin419 (g := (mkF m 84 #[.val (.int (-(own_of ((((mm / 100) / 100) / 100) / 100)))), .val (.int (9 : Int32)), .val (.ref bf), .val (.int (-(own_of ((((mm / 100) / 100) / 100) / 100)))), .val (.int (own_of ((((mm / 100) / 100) / 100) % 100))), .val (.int (0 : Int32)), .val (.int (0 : Int32))] [(.int (own_of (48 + ((((mm / 100) / 100) / 100) / 100) % 10))), (.int (0 : Int32)), (.ref bf)])) rfl rfl (hb hby d10_84)
  refine Run.pre st420 ?_
  have V_bf_420 : Arv Z h420 bf kb .byte (9 : Int32) [(.int (nar .byte (own_of (48 + ((((mm / 100) / 100) / 100) / 100) % 10)))), (.int (nar .byte (own_of (48 + ((((mm / 100) / 100) / 100) % 100) / 10)))), (.int (nar .byte (own_of (48 + ((((mm / 100) / 100) / 100) % 100) % 10)))), (.int (nar .byte (own_of (48 + (((mm / 100) / 100) % 100) / 10)))), (.int (nar .byte (own_of (48 + (((mm / 100) / 100) % 100) % 10)))), (.int (nar .byte (own_of (48 + ((mm / 100) % 100) / 10)))), (.int (nar .byte (own_of (48 + ((mm / 100) % 100) % 10)))), (.int (nar .byte (own_of (48 + (mm % 100) / 10)))), (.int (nar .byte (own_of (48 + (mm % 100) % 10))))] (.int (0 : Int32)) := Arv.set Ar419 q419 S419 N419 H419 G419 (fits_nar_byte _) W420 0 rfl (Nat.le_of_ble_eq_true rfl)
  have K420 : Keep h0 h420 [bf] := K415.wr W420 (Or.inl (by simp))
  have N420 := Fr.snoc X420 N415 g_bf
  refine Run.pre (fun _ k => XS.iloadN X420.here hx rfl (hb hby d10_85) rfl  k) ?_
  refine Run.pre (fun _ k => XS.bipush X420.here hx rfl (hb hby d10_86) k) ?_
  show Run p e below s _ _ _ (T420.setTop (mkF m 88 #[.val (.int (-(own_of ((((mm / 100) / 100) / 100) / 100)))), .val (.int (9 : Int32)), .val (.ref bf), .val (.int (-(own_of ((((mm / 100) / 100) / 100) / 100)))), .val (.int (own_of ((((mm / 100) / 100) / 100) % 100))), .val (.int (0 : Int32)), .val (.int (0 : Int32))] [(.int (-9 : Int32)), (.int (-(own_of ((((mm / 100) / 100) / 100) / 100))))]))
  refine Run.pre (fun _ k => XS.icmpYes X420.here hx rfl (pc0 := 88) (pc' := 104) rfl (hb hby d10_88) rfl (flt ((own_nnglt (show ((((mm / 100) / 100) / 100) / 100) < 2147483648 by omega) (by have e : ((-9 : Int32)).toInt = -9 := (by decide); omega)) : ¬ ((-(own_of ((((mm / 100) / 100) / 100) / 100))) < (-9 : Int32)))).2.1 (by decide) (by decide) k) ?_
  refine Run.pre (fun _ k => XS.iload X420.here hx rfl (hb hby d10_104) rfl  k) ?_
  show Run p e below s _ _ _ (T420.setTop (mkF m 106 #[.val (.int (-(own_of ((((mm / 100) / 100) / 100) / 100)))), .val (.int (9 : Int32)), .val (.ref bf), .val (.int (-(own_of ((((mm / 100) / 100) / 100) / 100)))), .val (.int (own_of ((((mm / 100) / 100) / 100) % 100))), .val (.int (0 : Int32)), .val (.int (0 : Int32))] [(.int (0 : Int32))]))
  refine Run.pre (fun _ k => XS.ifYes X420.here hx rfl (pc0 := 106) (pc' := 118) rfl (hb hby d10_106) rfl ((if0 _ _).trans (teq ((by decide) : (0 : Int32) = (0 : Int32))).1) (by decide) (by decide) k) ?_
  refine Run.pre (fun _ k => XS.iload X420.here hx rfl (hb hby d10_118) rfl  k) ?_
  show Run p e below s _ _ _ (T420.setTop (mkF m 120 #[.val (.int (-(own_of ((((mm / 100) / 100) / 100) / 100)))), .val (.int (9 : Int32)), .val (.ref bf), .val (.int (-(own_of ((((mm / 100) / 100) / 100) / 100)))), .val (.int (own_of ((((mm / 100) / 100) / 100) % 100))), .val (.int (0 : Int32)), .val (.int (0 : Int32))] [(.int (0 : Int32))]))
  exact Run.retI hS (by first | exact Nat.le_refl _ | (rw [e420]; exact (Nat.le_trans (Nat.le_trans (Nat.le_trans (Nat.le_trans (Nat.le_trans (Nat.le_trans (Nat.le_trans (Nat.le_trans (Nat.le_trans (Nat.zero_le _) (Keep.of_wr W380).1) (Keep.of_wr W385).1) (Keep.of_wr W390).1) (Keep.of_wr W395).1) (Keep.of_wr W400).1) (Keep.of_wr W405).1) (Keep.of_wr W410).1) (Keep.of_wr W415).1) (Keep.of_wr W420).1))) X420 hx hret hlk (hb hby d10_120) (by first | (rw [e420]; exact ⟨rfl, N420, K420, V_bf_420⟩) | exact ⟨rfl, N420, K420, V_bf_420⟩) (by decide) (by decide)
set_option maxRecDepth 65536 in
set_option maxHeartbeats 40000000 in
theorem rmTS_9 (l : Launch) (Z : State) (a0 : Array Value) (hw : ∀ d ∈ tables_1, d.before a0 Z = true) (mm : Nat) (cs : Int32) (od : Addr) (ko : ClassId) (td : Addr) (kt : ClassId) (h0 : Heap) (n0 : Nat) (Z0 : n0 ≤ h0.size) (OL : Old Z n0 h0) (hm : mm < 2147483648) (lo : 100000000 ≤ mm) (hi : mm < 1000000000) (SC : Sta Z Z.heap "java/lang/String" "COMPACT_STRINGS" "Z" (.int cs)) (hcs : ¬ cs = 0) (SO : Sta Z Z.heap "java/lang/Integer" "DigitOnes" "[B" (.ref od)) (ST : Sta Z Z.heap "java/lang/Integer" "DigitTens" "[B" (.ref td)) (AO : Arv Z Z.heap od ko .byte 100 own_DO (.int 0)) (AT : Arv Z Z.heap td kt .byte 100 own_DT (.int 0)) :
    Con l (⟨"java/lang/Integer", "toString", "(I)Ljava/lang/String;"⟩ : MethodName) jdk_33_method_10_code 3 (some (.object "java/lang/String")) ({ frames := 2, cells := 2, slots := 13, locals := 27 } : Room) Z #[(.int (own_of mm))] h0 (fun _ => True) (fun v h L vm => ∃ o : Addr, ∃ b : Addr, ∃ k : ClassId, v = some (.ref o) ∧ Fr n0 L ∧ Keep h0 h [] ∧ h0.size ≤ o ∧ Exa Z h o "java/lang/String" ∧ Fld Z h o "java/lang/String" "value" "[B" (.ref b) ∧ Fld Z h o "java/lang/String" "coder" "B" (.int 0) ∧ Arv Z h b k .byte 9 [(.int (nar .byte (own_of (48 + ((((mm / 100) / 100) / 100) / 100) % 10)))), (.int (nar .byte (own_of (48 + ((((mm / 100) / 100) / 100) % 100) / 10)))), (.int (nar .byte (own_of (48 + ((((mm / 100) / 100) / 100) % 100) % 10)))), (.int (nar .byte (own_of (48 + (((mm / 100) / 100) % 100) / 10)))), (.int (nar .byte (own_of (48 + (((mm / 100) / 100) % 100) % 10)))), (.int (nar .byte (own_of (48 + ((mm / 100) % 100) / 10)))), (.int (nar .byte (own_of (48 + ((mm / 100) % 100) % 10)))), (.int (nar .byte (own_of (48 + (mm % 100) / 10)))), (.int (nar .byte (own_of (48 + (mm % 100) % 10))))] (.int 0)) := by
  refine Con.mk (plainFor_of_name pn_8) (fun m => show entryFrame m #[(.int (own_of mm))] 3 = mkF m 0 #[.val (.int (own_of mm)), .unset, .unset] [] by first | (simp [entryFrame, mkF, argsToLocals, Value.category]; done) | rfl) ?_
  intro p e s m below meth c s₁ vm0 hx hby hml hown hnm hret hlk hZ X0 e0 hS hs0 hP0
  have N0 := Fr.nil n0
  refine Run.pre (fun _ k => XS.iloadN X0.here hx rfl (hb hby d8_0) rfl  k) ?_
  show Run p e below s _ _ _ (s₁.setTop (mkF m 1 #[.val (.int (own_of mm)), .unset, .unset] [(.int (own_of mm))]))
  refine Run.callS hS (by first | exact Nat.le_refl _ | (rw [e0]; exact (Nat.zero_le _))) X0 hx hZ (y := (⟨"java/lang/Integer", "stringSize", "(I)I"⟩ : MethodName)) hown (hw _ (List.mem_of_getElem? (i := 50) rfl)) (hw _ (List.mem_of_getElem? (i := 51) rfl)) (hw _ (List.mem_of_getElem? (i := 21) rfl)) (hw _ (List.mem_of_getElem? (i := 52) rfl)) (by decide) (W := 0) (rmSS l Z a0 hw mm h0 n0 (Nat.le_trans Z0 (Keep.refl h0 []).1) hm) e0 (by decide) (by decide) (by decide) (by decide) (fun _ _ => trivial) (g := (mkF m 1 #[.val (.int (own_of mm)), .unset, .unset] [(.int (own_of mm))])) rfl (by rw [hml]; rfl) (argsL := [(.int (own_of mm))]) (rest := []) (lenOf pd_8 rfl) rfl (by show 2 * 0 + _ ≤ _; exact Nat.le_of_eq rfl) (hb hby d8_1) ?_
  intro v421 T421 L421 X421 hS hZ hown hV421 hQ421
  obtain ⟨rfl, Nq421, he421⟩ := hQ421
  have N421 := Fr.app N0 Nq421
  have e421 : T421.heap = h0 := he421
  rw [own_dgt_9 lo hi]
  show Run p e below s _ _ _ (T421.setTop (mkF m 4 #[.val (.int (own_of mm)), .unset, .unset] [(.int (9 : Int32))]))
  refine Run.pre (fun _ k => XS.istoreN X421.here hx rfl (hb hby d8_4) rfl (l' := #[.val (.int (own_of mm)), .val (.int (9 : Int32)), .unset]) rfl k) ?_
  show Run p e below s _ _ _ (T421.setTop (mkF m 5 #[.val (.int (own_of mm)), .val (.int (9 : Int32)), .unset] []))
  obtain ⟨T422, X422, e422, st422⟩ := getS2 X421 hx hZ hown (host := "") (Or.inl (hw _ (List.mem_of_getElem? (i := 53) rfl))) Via.refl e421 (SC.ext OL.2) (g := (mkF m 5 #[.val (.int (own_of mm)), .val (.int (9 : Int32)), .unset] [])) rfl (hb hby d8_5)
  refine Run.pre st422 ?_
  show Run p e below s _ _ _ (T422.setTop (mkF m 8 #[.val (.int (own_of mm)), .val (.int (9 : Int32)), .unset] [(.int cs)]))
  refine Run.pre (fun _ k => XS.ifNo X422.here hx rfl (hb hby d8_8) rfl ((if0 _ _).trans (feq (hcs : ¬ (cs = (0 : Int32)))).1) k) ?_
  refine Run.pre (fun _ k => XS.iloadN X422.here hx rfl (hb hby d8_11) rfl  k) ?_
  show Run p e below s _ _ _ (T422.setTop (mkF m 12 #[.val (.int (own_of mm)), .val (.int (9 : Int32)), .unset] [(.int (9 : Int32))]))
  obtain ⟨T423, h423, k423, X423, e423, E423, A423, st423⟩ := newP X422 hx hZ (hw _ (List.mem_of_getElem? (i := 7) rfl)) e422 (g := (mkF m 12 #[.val (.int (own_of mm)), .val (.int (9 : Int32)), .unset] [(.int (9 : Int32))])) rfl (hb hby d8_12) rfl (by decide) (cap := 9) (by decide) (by decide) (by decide) (by decide)
  obtain ⟨b423, g423⟩ : ∃ z, z = h0.size := ⟨_, rfl⟩
  rw [← g423] at A423 st423
  refine Run.pre st423 ?_
  have V_b423 : Arv Z h423 b423 k423 .byte (9 : Int32) [(.int (0 : Int32)), (.int (0 : Int32)), (.int (0 : Int32)), (.int (0 : Int32)), (.int (0 : Int32)), (.int (0 : Int32)), (.int (0 : Int32)), (.int (0 : Int32)), (.int (0 : Int32))] (.int (0 : Int32)) := (Arv.new A423 (by decide)).pad (pad_rep [] (.int (0 : Int32)) 9)
  have gn_b423 : n0 ≤ b423 := Nat.le_trans (Nat.le_trans Z0 (Keep.refl h0 []).1) (Nat.le_of_eq g423.symm)
  have sz_b423 : h0.size ≤ b423 := Nat.le_trans (Keep.refl h0 []).1 (Nat.le_of_eq g423.symm)
  have K423 : Keep h0 h423 [] := (Keep.refl h0 []).ext E423
  show Run p e below s _ _ _ (T423.setTop (mkF m 14 #[.val (.int (own_of mm)), .val (.int (9 : Int32)), .unset] [(.ref b423)]))
  refine Run.pre (fun _ k => XS.astoreN X423.here hx rfl (hb hby d8_14) rfl rfl (l' := #[.val (.int (own_of mm)), .val (.int (9 : Int32)), .val (.ref b423)]) rfl k) ?_
  refine Run.pre (fun _ k => XS.iloadN X423.here hx rfl (hb hby d8_15) rfl  k) ?_
  refine Run.pre (fun _ k => XS.iloadN X423.here hx rfl (hb hby d8_16) rfl  k) ?_
  refine Run.pre (fun _ k => XS.aloadN X423.here hx rfl (hb hby d8_17) rfl rfl k) ?_
  show Run p e below s _ _ _ (T423.setTop (mkF m 18 #[.val (.int (own_of mm)), .val (.int (9 : Int32)), .val (.ref b423)] [(.ref b423), (.int (9 : Int32)), (.int (own_of mm))]))
  have f424 := (OL.ext E423)
  refine Run.callS hS (by first | exact Nat.le_refl _ | (rw [e423]; exact (Nat.le_trans (Nat.le_of_eq (congrArg Array.size e421)) E423.1))) X423 hx hZ (y := (⟨"java/lang/Integer", "getChars", "(II[B)I"⟩ : MethodName)) hown (hw _ (List.mem_of_getElem? (i := 54) rfl)) (hw _ (List.mem_of_getElem? (i := 55) rfl)) (hw _ (List.mem_of_getElem? (i := 21) rfl)) (hw _ (List.mem_of_getElem? (i := 56) rfl)) (by decide) (W := 0) (rmGC_9 l Z a0 hw mm od ko td kt b423 k423 h423 n0 (Nat.le_trans Z0 K423.1) f424 hm lo hi SO ST AO AT V_b423 gn_b423) e423 (by decide) (by decide) (by decide) (by decide) (fun _ _ => trivial) (g := (mkF m 18 #[.val (.int (own_of mm)), .val (.int (9 : Int32)), .val (.ref b423)] [(.ref b423), (.int (9 : Int32)), (.int (own_of mm))])) rfl (by rw [hml]; rfl) (argsL := [(.int (own_of mm)), (.int (9 : Int32)), (.ref b423)]) (rest := []) (lenOf pd_9 rfl) rfl (by show 2 * 0 + _ ≤ _; exact Nat.le_of_eq rfl) (hb hby d8_18) ?_
  intro v425 T425 L425 X425 hS hZ hown hV425 hQ425
  obtain ⟨rfl, Nq425, Kc425, vb425⟩ := hQ425
  have N425 := Fr.app N421 Nq425
  have K425 : Keep h0 T425.heap [] := K423.trans Kc425 (allS (Or.inr sz_b423) all0)
  show Run p e below s _ _ _ (T425.setTop (mkF m 21 #[.val (.int (own_of mm)), .val (.int (9 : Int32)), .val (.ref b423)] [(.int (0 : Int32))]))
  refine Run.pre (fun _ k => XS.pop X425.here hx rfl (hb hby d8_21) rfl rfl k) ?_
  show Run p e below s _ _ _ (T425.setTop (mkF m 22 #[.val (.int (own_of mm)), .val (.int (9 : Int32)), .val (.ref b423)] []))
  obtain ⟨T426, h426, X426, e426, E426, A426, D426, -, st426⟩ := newO X425 hx hZ hown (hw _ (List.mem_of_getElem? (i := 59) rfl)) (hw _ (List.mem_of_getElem? (i := 6) rfl)) (hw _ (List.mem_of_getElem? (i := 5) rfl)) rfl (g := (mkF m 22 #[.val (.int (own_of mm)), .val (.int (9 : Int32)), .val (.ref b423)] [])) rfl (hb hby d8_22) (by decide) (by decide)
  obtain ⟨b426, g426⟩ : ∃ z, z = T425.heap.size := ⟨_, rfl⟩
  rw [← g426] at A426 D426 st426
  refine Run.pre st426 ?_
  have gn_b426 : n0 ≤ b426 := Nat.le_trans (Nat.le_trans Z0 K425.1) (Nat.le_of_eq g426.symm)
  have sz_b426 : h0.size ≤ b426 := Nat.le_trans K425.1 (Nat.le_of_eq g426.symm)
  have K426 : Keep h0 h426 [] := K425.ext E426
  have F_value_b426 : Fld Z h426 b426 "java/lang/String" "value" "[B" .null := D426 (Or.inr (hw _ (List.mem_of_getElem? (i := 8) rfl))) (ty := (.array .byte)) (by decide)
  have F_coder_b426 : Fld Z h426 b426 "java/lang/String" "coder" "B" (.int (0 : Int32)) := D426 (Or.inr (hw _ (List.mem_of_getElem? (i := 9) rfl))) (ty := .byte) (by decide)
  refine Run.pre (fun _ k => XS.dup X426.here hx rfl (hb hby d8_25) rfl rfl k) ?_
  refine Run.pre (fun _ k => XS.aloadN X426.here hx rfl (hb hby d8_26) rfl rfl k) ?_
  refine Run.pre (fun _ k => XS.iconst X426.here hx rfl (hb hby d8_27) k) ?_
  show Run p e below s _ _ _ (T426.setTop (mkF m 28 #[.val (.int (own_of mm)), .val (.int (9 : Int32)), .val (.ref b423)] [(.int (0 : Int32)), (.ref b423), (.ref b426), (.ref b426)]))
  refine Run.callI hS (by first | exact Nat.le_refl _ | (rw [e426]; exact (Nat.le_trans (Nat.le_refl _) E426.1))) X426 hx hZ (y := (⟨"java/lang/String", "<init>", "([BB)V"⟩ : MethodName)) rfl hown (hw _ (List.mem_of_getElem? (i := 60) rfl)) (hw _ (List.mem_of_getElem? (i := 61) rfl)) (hw _ (List.mem_of_getElem? (i := 63) rfl)) (hw _ (List.mem_of_getElem? (i := 5) rfl)) (by decide) (a := b426) (W := 1) (rmBB l Z a0 hw b426 b423 h426 n0 (Nat.le_trans Z0 K426.1) A426 F_value_b426 F_coder_b426 gn_b426) e426 (by decide) (by decide) (by decide) (by decide) (fun _ _ => trivial) (g := (mkF m 28 #[.val (.int (own_of mm)), .val (.int (9 : Int32)), .val (.ref b423)] [(.int (0 : Int32)), (.ref b423), (.ref b426), (.ref b426)])) rfl (by rw [hml]; rfl) (argsL := [(.ref b423), (.int (0 : Int32))]) (rest := [(.ref b426)]) (lenOf pd_10 rfl) rfl (by show 2 * 0 + _ ≤ _; exact Nat.le_of_eq rfl) (hb hby d8_28) ?_
  intro v427 T427 L427 X427 hS hZ hown hV427 hQ427
  obtain ⟨rfl, Nq427, Kc427, fv427, fc427⟩ := hQ427
  have N427 := Fr.app N425 Nq427
  have K427 : Keep h0 T427.heap [] := K426.trans Kc427 (allS (Or.inr sz_b426) all0)
  show Run p e below s _ _ _ (T427.setTop (mkF m 31 #[.val (.int (own_of mm)), .val (.int (9 : Int32)), .val (.ref b423)] [(.ref b426)]))
  have f428 := (A426.keep Kc427)
  have f429 := ((vb425.ext E426).keep Kc427 (ninS (Nat.ne_of_lt (Nat.lt_of_lt_of_le vb425.lt (Nat.le_of_eq g426.symm))) nin0))
  exact Run.retA hS (Nat.le_refl _) X427 hx hret rfl rfl hlk (hb hby d8_31) ⟨b426, b423, k423, rfl, N427, K427, sz_b426, f428, fv427, fc427, f429⟩ (by decide) (by decide)
theorem own_good_9 {mm : Nat} (hm : mm < 2147483648) (lo : 100000000 ≤ mm) (hi : mm < 1000000000) : own_good mm [(.int (nar .byte (own_of (48 + ((((mm / 100) / 100) / 100) / 100) % 10)))), (.int (nar .byte (own_of (48 + ((((mm / 100) / 100) / 100) % 100) / 10)))), (.int (nar .byte (own_of (48 + ((((mm / 100) / 100) / 100) % 100) % 10)))), (.int (nar .byte (own_of (48 + (((mm / 100) / 100) % 100) / 10)))), (.int (nar .byte (own_of (48 + (((mm / 100) / 100) % 100) % 10)))), (.int (nar .byte (own_of (48 + ((mm / 100) % 100) / 10)))), (.int (nar .byte (own_of (48 + ((mm / 100) % 100) % 10)))), (.int (nar .byte (own_of (48 + (mm % 100) / 10)))), (.int (nar .byte (own_of (48 + (mm % 100) % 10))))] :=
  ⟨Or.inr ⟨by rw [own_dgt_9 lo hi]; decide, by rw [own_dgt_9 lo hi]; decide, by rw [own_dgt_9 lo hi]; decide, nar .byte (own_of (48 + (mm % 100) % 10)), by rw [own_dgt_9 lo hi]; rfl, own_heq hm (q := 1) rfl (by decide) (by decide) (by omega)⟩,
   Or.inr ⟨by rw [own_dgt_9 lo hi]; decide, by rw [own_dgt_9 lo hi]; decide, by rw [own_dgt_9 lo hi]; decide, nar .byte (own_of (48 + (mm % 100) / 10)), by rw [own_dgt_9 lo hi]; rfl, own_heq hm (q := 10) rfl (by decide) (by decide) (by omega)⟩,
   Or.inr ⟨by rw [own_dgt_9 lo hi]; decide, by rw [own_dgt_9 lo hi]; decide, by rw [own_dgt_9 lo hi]; decide, nar .byte (own_of (48 + ((mm / 100) % 100) % 10)), by rw [own_dgt_9 lo hi]; rfl, own_heq hm (q := 100) rfl (by decide) (by decide) (by omega)⟩,
   Or.inr ⟨by rw [own_dgt_9 lo hi]; decide, by rw [own_dgt_9 lo hi]; decide, by rw [own_dgt_9 lo hi]; decide, nar .byte (own_of (48 + ((mm / 100) % 100) / 10)), by rw [own_dgt_9 lo hi]; rfl, own_heq hm (q := 1000) rfl (by decide) (by decide) (by omega)⟩,
   Or.inr ⟨by rw [own_dgt_9 lo hi]; decide, by rw [own_dgt_9 lo hi]; decide, by rw [own_dgt_9 lo hi]; decide, nar .byte (own_of (48 + (((mm / 100) / 100) % 100) % 10)), by rw [own_dgt_9 lo hi]; rfl, own_heq hm (q := 10000) rfl (by decide) (by decide) (by omega)⟩,
   Or.inr ⟨by rw [own_dgt_9 lo hi]; decide, by rw [own_dgt_9 lo hi]; decide, by rw [own_dgt_9 lo hi]; decide, nar .byte (own_of (48 + (((mm / 100) / 100) % 100) / 10)), by rw [own_dgt_9 lo hi]; rfl, own_heq hm (q := 100000) rfl (by decide) (by decide) (by omega)⟩,
   Or.inr ⟨by rw [own_dgt_9 lo hi]; decide, by rw [own_dgt_9 lo hi]; decide, by rw [own_dgt_9 lo hi]; decide, nar .byte (own_of (48 + ((((mm / 100) / 100) / 100) % 100) % 10)), by rw [own_dgt_9 lo hi]; rfl, own_heq hm (q := 1000000) rfl (by decide) (by decide) (by omega)⟩,
   Or.inr ⟨by rw [own_dgt_9 lo hi]; decide, by rw [own_dgt_9 lo hi]; decide, by rw [own_dgt_9 lo hi]; decide, nar .byte (own_of (48 + ((((mm / 100) / 100) / 100) % 100) / 10)), by rw [own_dgt_9 lo hi]; rfl, own_heq hm (q := 10000000) rfl (by decide) (by decide) (by omega)⟩,
   Or.inr ⟨by rw [own_dgt_9 lo hi]; decide, by rw [own_dgt_9 lo hi]; decide, by rw [own_dgt_9 lo hi]; decide, nar .byte (own_of (48 + ((((mm / 100) / 100) / 100) / 100) % 10)), by rw [own_dgt_9 lo hi]; rfl, own_heq hm (q := 100000000) rfl (by decide) (by decide) (by omega)⟩,
   Or.inl (by rw [own_dgt_9 lo hi]; decide)⟩
set_option maxRecDepth 65536 in
set_option maxHeartbeats 40000000 in
theorem rmGC_10 (l : Launch) (Z : State) (a0 : Array Value) (hw : ∀ d ∈ tables_1, d.before a0 Z = true) (mm : Nat) (od : Addr) (ko : ClassId) (td : Addr) (kt : ClassId) (bf : Addr) (kb : ClassId) (h0 : Heap) (n0 : Nat) (Z0 : n0 ≤ h0.size) (OL : Old Z n0 h0) (hm : mm < 2147483648) (lo : 1000000000 ≤ mm) (hi : mm < 10000000000) (SO : Sta Z Z.heap "java/lang/Integer" "DigitOnes" "[B" (.ref od)) (ST : Sta Z Z.heap "java/lang/Integer" "DigitTens" "[B" (.ref td)) (AO : Arv Z Z.heap od ko .byte 100 own_DO (.int 0)) (AT : Arv Z Z.heap td kt .byte 100 own_DT (.int 0)) (AB : Arv Z h0 bf kb .byte 10 [(.int (0 : Int32)), (.int (0 : Int32)), (.int (0 : Int32)), (.int (0 : Int32)), (.int (0 : Int32)), (.int (0 : Int32)), (.int (0 : Int32)), (.int (0 : Int32)), (.int (0 : Int32)), (.int (0 : Int32))] (.int 0)) (g_bf : n0 ≤ bf) :
    Con l (⟨"java/lang/Integer", "getChars", "(II[B)I"⟩ : MethodName) jdk_33_method_12_code 7 (some .int) ({ frames := 0, cells := 0, slots := 0, locals := 0 } : Room) Z #[(.int (own_of mm)), (.int (10 : Int32)), (.ref bf)] h0 (fun _ => True) (fun v h L vm => v = some (.int 0) ∧ Fr n0 L ∧ Keep h0 h [bf] ∧ Arv Z h bf kb .byte 10 [(.int (nar .byte (own_of (48 + ((((mm / 100) / 100) / 100) / 100) / 10)))), (.int (nar .byte (own_of (48 + ((((mm / 100) / 100) / 100) / 100) % 10)))), (.int (nar .byte (own_of (48 + ((((mm / 100) / 100) / 100) % 100) / 10)))), (.int (nar .byte (own_of (48 + ((((mm / 100) / 100) / 100) % 100) % 10)))), (.int (nar .byte (own_of (48 + (((mm / 100) / 100) % 100) / 10)))), (.int (nar .byte (own_of (48 + (((mm / 100) / 100) % 100) % 10)))), (.int (nar .byte (own_of (48 + ((mm / 100) % 100) / 10)))), (.int (nar .byte (own_of (48 + ((mm / 100) % 100) % 10)))), (.int (nar .byte (own_of (48 + (mm % 100) / 10)))), (.int (nar .byte (own_of (48 + (mm % 100) % 10))))] (.int 0)) := by
  refine Con.mk (plainFor_of_name pn_10) (fun m => show entryFrame m #[(.int (own_of mm)), (.int (10 : Int32)), (.ref bf)] 7 = mkF m 0 #[.val (.int (own_of mm)), .val (.int (10 : Int32)), .val (.ref bf), .unset, .unset, .unset, .unset] [] by first | (simp [entryFrame, mkF, argsToLocals, Value.category]; done) | rfl) ?_
  intro p e s m below meth c s₁ vm0 hx hby hml hown hnm hret hlk hZ X0 e0 hS hs0 hP0
  have N0 := Fr.nil n0
  refine Run.pre (fun _ k => XS.iloadN X0.here hx rfl (hb hby d10_0) rfl  k) ?_
  show Run p e below s _ _ _ (s₁.setTop (mkF m 1 #[.val (.int (own_of mm)), .val (.int (10 : Int32)), .val (.ref bf), .unset, .unset, .unset, .unset] [(.int (10 : Int32))]))
  refine Run.pre (fun _ k => XS.istore X0.here hx rfl (hb hby d10_1) rfl (l' := #[.val (.int (own_of mm)), .val (.int (10 : Int32)), .val (.ref bf), .unset, .unset, .val (.int (10 : Int32)), .unset]) rfl k) ?_
  refine Run.pre (fun _ k => XS.iloadN X0.here hx rfl (hb hby d10_3) rfl  k) ?_
  show Run p e below s _ _ _ (s₁.setTop (mkF m 4 #[.val (.int (own_of mm)), .val (.int (10 : Int32)), .val (.ref bf), .unset, .unset, .val (.int (10 : Int32)), .unset] [(.int (own_of mm))]))
  refine Run.pre (fun _ k => XS.ifYes X0.here hx rfl (pc0 := 4) (pc' := 11) rfl (hb hby d10_4) rfl ((if0 _ _).trans (flt ((own_nofl hm (by have e : ((0 : Int32)).toInt = 0 := (by decide); omega)) : ¬ ((own_of mm) < (0 : Int32)))).2.1) (by decide) (by decide) k) ?_
  refine Run.pre (fun _ k => XS.iconst X0.here hx rfl (hb hby d10_11) k) ?_
  show Run p e below s _ _ _ (s₁.setTop (mkF m 12 #[.val (.int (own_of mm)), .val (.int (10 : Int32)), .val (.ref bf), .unset, .unset, .val (.int (10 : Int32)), .unset] [(.int (0 : Int32))]))
  refine Run.pre (fun _ k => XS.istore X0.here hx rfl (hb hby d10_12) rfl (l' := #[.val (.int (own_of mm)), .val (.int (10 : Int32)), .val (.ref bf), .unset, .unset, .val (.int (10 : Int32)), .val (.int (0 : Int32))]) rfl k) ?_
  refine Run.pre (fun _ k => XS.iload X0.here hx rfl (hb hby d10_14) rfl  k) ?_
  show Run p e below s _ _ _ (s₁.setTop (mkF m 16 #[.val (.int (own_of mm)), .val (.int (10 : Int32)), .val (.ref bf), .unset, .unset, .val (.int (10 : Int32)), .val (.int (0 : Int32))] [(.int (0 : Int32))]))
  refine Run.pre (fun _ k => XS.ifNo X0.here hx rfl (hb hby d10_16) rfl ((if0 _ _).trans (teq ((by decide) : (0 : Int32) = (0 : Int32))).2) k) ?_
  refine Run.pre (fun _ k => XS.iloadN X0.here hx rfl (hb hby d10_19) rfl  k) ?_
  show Run p e below s _ _ _ (s₁.setTop (mkF m 20 #[.val (.int (own_of mm)), .val (.int (10 : Int32)), .val (.ref bf), .unset, .unset, .val (.int (10 : Int32)), .val (.int (0 : Int32))] [(.int (own_of mm))]))
  refine Run.pre (fun _ k => XS.ineg X0.here hx rfl (hb hby d10_20) rfl k) ?_
  show Run p e below s _ _ _ (s₁.setTop (mkF m 21 #[.val (.int (own_of mm)), .val (.int (10 : Int32)), .val (.ref bf), .unset, .unset, .val (.int (10 : Int32)), .val (.int (0 : Int32))] [(.int (-(own_of mm)))]))
  refine Run.pre (fun _ k => XS.istoreN X0.here hx rfl (hb hby d10_21) rfl (l' := #[.val (.int (-(own_of mm))), .val (.int (10 : Int32)), .val (.ref bf), .unset, .unset, .val (.int (10 : Int32)), .val (.int (0 : Int32))]) rfl k) ?_
  refine Run.pre (fun _ k => XS.iloadN X0.here hx rfl (hb hby d10_22) rfl  k) ?_
  refine Run.pre (fun _ k => XS.bipush X0.here hx rfl (hb hby d10_23) k) ?_
  show Run p e below s _ _ _ (s₁.setTop (mkF m 25 #[.val (.int (-(own_of mm))), .val (.int (10 : Int32)), .val (.ref bf), .unset, .unset, .val (.int (10 : Int32)), .val (.int (0 : Int32))] [(.int (-100 : Int32)), (.int (-(own_of mm)))]))
  refine Run.pre (fun _ k => XS.icmpNo X0.here hx rfl (hb hby d10_25) rfl (flt ((own_nltng (show mm < 2147483648 by omega) (by have e : ((-100 : Int32)).toInt = -100 := (by decide); omega)) : ¬ ((-100 : Int32) < (-(own_of mm))))).2.2.1 k) ?_
  refine Run.pre (fun _ k => XS.iloadN X0.here hx rfl (hb hby d10_28) rfl  k) ?_
  refine Run.pre (fun _ k => XS.bipush X0.here hx rfl (hb hby d10_29) k) ?_
  show Run p e below s _ _ _ (s₁.setTop (mkF m 31 #[.val (.int (-(own_of mm))), .val (.int (10 : Int32)), .val (.ref bf), .unset, .unset, .val (.int (10 : Int32)), .val (.int (0 : Int32))] [(.int (100 : Int32)), (.int (-(own_of mm)))]))
  refine Run.pre (fun _ k => XS.idiv X0.here hx rfl (hb hby d10_31) rfl (by decide) k) ?_
  show Run p e below s _ _ _ (s₁.setTop (mkF m 32 #[.val (.int (-(own_of mm))), .val (.int (10 : Int32)), .val (.ref bf), .unset, .unset, .val (.int (10 : Int32)), .val (.int (0 : Int32))] [(.int ((-(own_of mm)) / (100 : Int32)))]))
  refine Run.pre (fun _ k => XS.istoreN X0.here hx rfl (hb hby d10_32) rfl (l' := #[.val (.int (-(own_of mm))), .val (.int (10 : Int32)), .val (.ref bf), .val (.int ((-(own_of mm)) / (100 : Int32))), .unset, .val (.int (10 : Int32)), .val (.int (0 : Int32))]) rfl k) ?_
  refine Run.pre (fun _ k => XS.iloadN X0.here hx rfl (hb hby d10_33) rfl  k) ?_
  refine Run.pre (fun _ k => XS.bipush X0.here hx rfl (hb hby d10_34) k) ?_
  show Run p e below s _ _ _ (s₁.setTop (mkF m 36 #[.val (.int (-(own_of mm))), .val (.int (10 : Int32)), .val (.ref bf), .val (.int ((-(own_of mm)) / (100 : Int32))), .unset, .val (.int (10 : Int32)), .val (.int (0 : Int32))] [(.int (100 : Int32)), (.int ((-(own_of mm)) / (100 : Int32)))]))
  refine Run.pre (fun _ k => XS.imul X0.here hx rfl (hb hby d10_36) rfl k) ?_
  refine Run.pre (fun _ k => XS.iloadN X0.here hx rfl (hb hby d10_37) rfl  k) ?_
  show Run p e below s _ _ _ (s₁.setTop (mkF m 38 #[.val (.int (-(own_of mm))), .val (.int (10 : Int32)), .val (.ref bf), .val (.int ((-(own_of mm)) / (100 : Int32))), .unset, .val (.int (10 : Int32)), .val (.int (0 : Int32))] [(.int (-(own_of mm))), (.int (((-(own_of mm)) / (100 : Int32)) * (100 : Int32)))]))
  refine Run.pre (fun _ k => XS.isub X0.here hx rfl (hb hby d10_38) rfl k) ?_
  show Run p e below s _ _ _ (s₁.setTop (mkF m 39 #[.val (.int (-(own_of mm))), .val (.int (10 : Int32)), .val (.ref bf), .val (.int ((-(own_of mm)) / (100 : Int32))), .unset, .val (.int (10 : Int32)), .val (.int (0 : Int32))] [(.int ((((-(own_of mm)) / (100 : Int32)) * (100 : Int32)) - (-(own_of mm))))]))
  refine Run.pre (fun _ k => XS.istore X0.here hx rfl (hb hby d10_39) rfl (l' := #[.val (.int (-(own_of mm))), .val (.int (10 : Int32)), .val (.ref bf), .val (.int ((-(own_of mm)) / (100 : Int32))), .val (.int ((((-(own_of mm)) / (100 : Int32)) * (100 : Int32)) - (-(own_of mm)))), .val (.int (10 : Int32)), .val (.int (0 : Int32))]) rfl k) ?_
  refine Run.pre (fun _ k => XS.iloadN X0.here hx rfl (hb hby d10_41) rfl  k) ?_
  show Run p e below s _ _ _ (s₁.setTop (mkF m 42 #[.val (.int (-(own_of mm))), .val (.int (10 : Int32)), .val (.ref bf), .val (.int ((-(own_of mm)) / (100 : Int32))), .val (.int ((((-(own_of mm)) / (100 : Int32)) * (100 : Int32)) - (-(own_of mm)))), .val (.int (10 : Int32)), .val (.int (0 : Int32))] [(.int ((-(own_of mm)) / (100 : Int32)))]))
  refine Run.pre (fun _ k => XS.istoreN X0.here hx rfl (hb hby d10_42) rfl (l' := #[.val (.int ((-(own_of mm)) / (100 : Int32))), .val (.int (10 : Int32)), .val (.ref bf), .val (.int ((-(own_of mm)) / (100 : Int32))), .val (.int ((((-(own_of mm)) / (100 : Int32)) * (100 : Int32)) - (-(own_of mm)))), .val (.int (10 : Int32)), .val (.int (0 : Int32))]) rfl k) ?_
  show Run p e below s _ _ _ (s₁.setTop (mkF m 43 #[.val (.int ((-(own_of mm)) / (100 : Int32))), .val (.int (10 : Int32)), .val (.ref bf), .val (.int ((-(own_of mm)) / (100 : Int32))), .val (.int ((((-(own_of mm)) / (100 : Int32)) * (100 : Int32)) - (-(own_of mm)))), .val (.int (10 : Int32)), .val (.int (0 : Int32))] []))
  rw [own_div (show mm < 2147483648 by omega), own_rem (show mm < 2147483648 by omega)]
  refine Run.pre (fun _ k => XS.aloadN X0.here hx rfl (hb hby d10_43) rfl rfl k) ?_
  show Run p e below s _ _ _ (s₁.setTop (mkF m 44 #[.val (.int (-(own_of (mm / 100)))), .val (.int (10 : Int32)), .val (.ref bf), .val (.int (-(own_of (mm / 100)))), .val (.int (own_of (mm % 100))), .val (.int (10 : Int32)), .val (.int (0 : Int32))] [(.ref bf)]))
  refine Run.pre (fun _ k => XS.iinc X0.here hx rfl (hb hby d10_44) rfl (l' := #[.val (.int (-(own_of (mm / 100)))), .val (.int (10 : Int32)), .val (.ref bf), .val (.int (-(own_of (mm / 100)))), .val (.int (own_of (mm % 100))), .val (.int (9 : Int32)), .val (.int (0 : Int32))]) rfl k) ?_
  refine Run.pre (fun _ k => XS.iload X0.here hx rfl (hb hby d10_47) rfl  k) ?_
  show Run p e below s _ _ _ (s₁.setTop (mkF m 49 #[.val (.int (-(own_of (mm / 100)))), .val (.int (10 : Int32)), .val (.ref bf), .val (.int (-(own_of (mm / 100)))), .val (.int (own_of (mm % 100))), .val (.int (9 : Int32)), .val (.int (0 : Int32))] [(.int (9 : Int32)), (.ref bf)]))
  obtain ⟨T430, X430, e430, st430⟩ := getS2 X0 hx hZ hown (host := "") (Or.inl (hw _ (List.mem_of_getElem? (i := 57) rfl))) Via.refl e0 (SO.ext OL.2) (g := (mkF m 49 #[.val (.int (-(own_of (mm / 100)))), .val (.int (10 : Int32)), .val (.ref bf), .val (.int (-(own_of (mm / 100)))), .val (.int (own_of (mm % 100))), .val (.int (9 : Int32)), .val (.int (0 : Int32))] [(.int (9 : Int32)), (.ref bf)])) rfl (hb hby d10_49)
  refine Run.pre st430 ?_
  refine Run.pre (fun _ k => XS.iload X430.here hx rfl (hb hby d10_52) rfl  k) ?_
  show Run p e below s _ _ _ (T430.setTop (mkF m 54 #[.val (.int (-(own_of (mm / 100)))), .val (.int (10 : Int32)), .val (.ref bf), .val (.int (-(own_of (mm / 100)))), .val (.int (own_of (mm % 100))), .val (.int (9 : Int32)), .val (.int (0 : Int32))] [(.int (own_of (mm % 100))), (.ref od), (.int (9 : Int32)), (.ref bf)]))
  obtain ⟨c431, Ar431, -, S431, N431, H431, -⟩ := id (AO.ext OL.2)
  have hin431 : ¬ ((own_of (mm % 100)) < 0 ∨ c431.slots.size ≤ ((own_of (mm % 100))).toNatClampNeg) := inb_of S431 (own_in100 (show (mm % 100) < 100 by omega))
  refine Run.pre (X430.baloadBytes hx (j := (own_of (mm % 100))) (v := (.int (own_of (48 + (mm % 100) % 10)))) (by rw [e430]; exact Ar431.1) (State.isArrayOf_alike hZ.alike Ar431.2.1) Ar431.2.2 hin431 (H431.at hin431 (own_getO (show (mm % 100) < 100 by omega))) (g := (mkF m 54 #[.val (.int (-(own_of (mm / 100)))), .val (.int (10 : Int32)), .val (.ref bf), .val (.int (-(own_of (mm / 100)))), .val (.int (own_of (mm % 100))), .val (.int (9 : Int32)), .val (.int (0 : Int32))] [(.int (own_of (mm % 100))), (.ref od), (.int (9 : Int32)), (.ref bf)])) rfl rfl (hb hby d10_54)) ?_
  show Run p e below s _ _ _ (T430.setTop (mkF m 55 #[.val (.int (-(own_of (mm / 100)))), .val (.int (10 : Int32)), .val (.ref bf), .val (.int (-(own_of (mm / 100)))), .val (.int (own_of (mm % 100))), .val (.int (9 : Int32)), .val (.int (0 : Int32))] [(.int (own_of (48 + (mm % 100) % 10))), (.int (9 : Int32)), (.ref bf)]))
  obtain ⟨c432, Ar432, q432, S432, N432, H432, G432⟩ := id AB
  have hin432 : ¬ ((9 : Int32) < 0 ∨ c432.slots.size ≤ ((9 : Int32)).toNatClampNeg) := inb_of S432 ⟨by decide, by decide⟩
  obtain ⟨T433, h433, X433, e433, W433, st433⟩ := stB X430 hx hZ e430 Ar432 (j := (9 : Int32)) hin432 (g := (mkF m 55 #[.val (.int (-(own_of (mm / 100)))), .val (.int (10 : Int32)), .val (.ref bf), .val (.int (-(own_of (mm / 100)))), .val (.int (own_of (mm % 100))), .val (.int (9 : Int32)), .val (.int (0 : Int32))] [(.int (own_of (48 + (mm % 100) % 10))), (.int (9 : Int32)), (.ref bf)])) rfl rfl (hb hby d10_55)
  refine Run.pre st433 ?_
  have V_bf_433 : Arv Z h433 bf kb .byte (10 : Int32) [(.int (0 : Int32)), (.int (0 : Int32)), (.int (0 : Int32)), (.int (0 : Int32)), (.int (0 : Int32)), (.int (0 : Int32)), (.int (0 : Int32)), (.int (0 : Int32)), (.int (0 : Int32)), (.int (nar .byte (own_of (48 + (mm % 100) % 10))))] (.int (0 : Int32)) := Arv.set Ar432 q432 S432 N432 H432 G432 (fits_nar_byte _) W433 9 rfl (Nat.le_of_ble_eq_true rfl)
  have K433 : Keep h0 h433 [bf] := (Keep.refl h0 [bf]).wr W433 (Or.inl (by simp))
  have N433 := Fr.snoc X433 N0 g_bf
  refine Run.pre (fun _ k => XS.aloadN X433.here hx rfl (hb hby d10_56) rfl rfl k) ?_
  show Run p e below s _ _ _ (T433.setTop (mkF m 57 #[.val (.int (-(own_of (mm / 100)))), .val (.int (10 : Int32)), .val (.ref bf), .val (.int (-(own_of (mm / 100)))), .val (.int (own_of (mm % 100))), .val (.int (9 : Int32)), .val (.int (0 : Int32))] [(.ref bf)]))
  refine Run.pre (fun _ k => XS.iinc X433.here hx rfl (hb hby d10_57) rfl (l' := #[.val (.int (-(own_of (mm / 100)))), .val (.int (10 : Int32)), .val (.ref bf), .val (.int (-(own_of (mm / 100)))), .val (.int (own_of (mm % 100))), .val (.int (8 : Int32)), .val (.int (0 : Int32))]) rfl k) ?_
  refine Run.pre (fun _ k => XS.iload X433.here hx rfl (hb hby d10_60) rfl  k) ?_
  show Run p e below s _ _ _ (T433.setTop (mkF m 62 #[.val (.int (-(own_of (mm / 100)))), .val (.int (10 : Int32)), .val (.ref bf), .val (.int (-(own_of (mm / 100)))), .val (.int (own_of (mm % 100))), .val (.int (8 : Int32)), .val (.int (0 : Int32))] [(.int (8 : Int32)), (.ref bf)]))
  have f434 := (OL.wr W433 g_bf)
  obtain ⟨T435, X435, e435, st435⟩ := getS2 X433 hx hZ hown (host := "") (Or.inl (hw _ (List.mem_of_getElem? (i := 58) rfl))) Via.refl e433 (ST.ext f434.2) (g := (mkF m 62 #[.val (.int (-(own_of (mm / 100)))), .val (.int (10 : Int32)), .val (.ref bf), .val (.int (-(own_of (mm / 100)))), .val (.int (own_of (mm % 100))), .val (.int (8 : Int32)), .val (.int (0 : Int32))] [(.int (8 : Int32)), (.ref bf)])) rfl (hb hby d10_62)
  refine Run.pre st435 ?_
  refine Run.pre (fun _ k => XS.iload X435.here hx rfl (hb hby d10_65) rfl  k) ?_
  show Run p e below s _ _ _ (T435.setTop (mkF m 67 #[.val (.int (-(own_of (mm / 100)))), .val (.int (10 : Int32)), .val (.ref bf), .val (.int (-(own_of (mm / 100)))), .val (.int (own_of (mm % 100))), .val (.int (8 : Int32)), .val (.int (0 : Int32))] [(.int (own_of (mm % 100))), (.ref td), (.int (8 : Int32)), (.ref bf)]))
  obtain ⟨c436, Ar436, -, S436, N436, H436, -⟩ := id (AT.ext f434.2)
  have hin436 : ¬ ((own_of (mm % 100)) < 0 ∨ c436.slots.size ≤ ((own_of (mm % 100))).toNatClampNeg) := inb_of S436 (own_in100 (show (mm % 100) < 100 by omega))
  refine Run.pre (X435.baloadBytes hx (j := (own_of (mm % 100))) (v := (.int (own_of (48 + (mm % 100) / 10)))) (by rw [e435]; exact Ar436.1) (State.isArrayOf_alike hZ.alike Ar436.2.1) Ar436.2.2 hin436 (H436.at hin436 (own_getT (show (mm % 100) < 100 by omega))) (g := (mkF m 67 #[.val (.int (-(own_of (mm / 100)))), .val (.int (10 : Int32)), .val (.ref bf), .val (.int (-(own_of (mm / 100)))), .val (.int (own_of (mm % 100))), .val (.int (8 : Int32)), .val (.int (0 : Int32))] [(.int (own_of (mm % 100))), (.ref td), (.int (8 : Int32)), (.ref bf)])) rfl rfl (hb hby d10_67)) ?_
  show Run p e below s _ _ _ (T435.setTop (mkF m 68 #[.val (.int (-(own_of (mm / 100)))), .val (.int (10 : Int32)), .val (.ref bf), .val (.int (-(own_of (mm / 100)))), .val (.int (own_of (mm % 100))), .val (.int (8 : Int32)), .val (.int (0 : Int32))] [(.int (own_of (48 + (mm % 100) / 10))), (.int (8 : Int32)), (.ref bf)]))
  obtain ⟨c437, Ar437, q437, S437, N437, H437, G437⟩ := id V_bf_433
  have hin437 : ¬ ((8 : Int32) < 0 ∨ c437.slots.size ≤ ((8 : Int32)).toNatClampNeg) := inb_of S437 ⟨by decide, by decide⟩
  obtain ⟨T438, h438, X438, e438, W438, st438⟩ := stB X435 hx hZ e435 Ar437 (j := (8 : Int32)) hin437 (g := (mkF m 68 #[.val (.int (-(own_of (mm / 100)))), .val (.int (10 : Int32)), .val (.ref bf), .val (.int (-(own_of (mm / 100)))), .val (.int (own_of (mm % 100))), .val (.int (8 : Int32)), .val (.int (0 : Int32))] [(.int (own_of (48 + (mm % 100) / 10))), (.int (8 : Int32)), (.ref bf)])) rfl rfl (hb hby d10_68)
  refine Run.pre st438 ?_
  have V_bf_438 : Arv Z h438 bf kb .byte (10 : Int32) [(.int (0 : Int32)), (.int (0 : Int32)), (.int (0 : Int32)), (.int (0 : Int32)), (.int (0 : Int32)), (.int (0 : Int32)), (.int (0 : Int32)), (.int (0 : Int32)), (.int (nar .byte (own_of (48 + (mm % 100) / 10)))), (.int (nar .byte (own_of (48 + (mm % 100) % 10))))] (.int (0 : Int32)) := Arv.set Ar437 q437 S437 N437 H437 G437 (fits_nar_byte _) W438 8 rfl (Nat.le_of_ble_eq_true rfl)
  have K438 : Keep h0 h438 [bf] := K433.wr W438 (Or.inl (by simp))
  have N438 := Fr.snoc X438 N433 g_bf
  refine Run.pre (fun _ k => XS.goto X438.here hx rfl (pc0 := 69) (pc' := 22) rfl (hb hby d10_69) (by decide) (by decide) k) ?_
  refine Run.pre (fun _ k => XS.iloadN X438.here hx rfl (hb hby d10_22) rfl  k) ?_
  refine Run.pre (fun _ k => XS.bipush X438.here hx rfl (hb hby d10_23) k) ?_
  show Run p e below s _ _ _ (T438.setTop (mkF m 25 #[.val (.int (-(own_of (mm / 100)))), .val (.int (10 : Int32)), .val (.ref bf), .val (.int (-(own_of (mm / 100)))), .val (.int (own_of (mm % 100))), .val (.int (8 : Int32)), .val (.int (0 : Int32))] [(.int (-100 : Int32)), (.int (-(own_of (mm / 100))))]))
  refine Run.pre (fun _ k => XS.icmpNo X438.here hx rfl (hb hby d10_25) rfl (flt ((own_nltng (show (mm / 100) < 2147483648 by omega) (by have e : ((-100 : Int32)).toInt = -100 := (by decide); omega)) : ¬ ((-100 : Int32) < (-(own_of (mm / 100)))))).2.2.1 k) ?_
  refine Run.pre (fun _ k => XS.iloadN X438.here hx rfl (hb hby d10_28) rfl  k) ?_
  refine Run.pre (fun _ k => XS.bipush X438.here hx rfl (hb hby d10_29) k) ?_
  show Run p e below s _ _ _ (T438.setTop (mkF m 31 #[.val (.int (-(own_of (mm / 100)))), .val (.int (10 : Int32)), .val (.ref bf), .val (.int (-(own_of (mm / 100)))), .val (.int (own_of (mm % 100))), .val (.int (8 : Int32)), .val (.int (0 : Int32))] [(.int (100 : Int32)), (.int (-(own_of (mm / 100))))]))
  refine Run.pre (fun _ k => XS.idiv X438.here hx rfl (hb hby d10_31) rfl (by decide) k) ?_
  show Run p e below s _ _ _ (T438.setTop (mkF m 32 #[.val (.int (-(own_of (mm / 100)))), .val (.int (10 : Int32)), .val (.ref bf), .val (.int (-(own_of (mm / 100)))), .val (.int (own_of (mm % 100))), .val (.int (8 : Int32)), .val (.int (0 : Int32))] [(.int ((-(own_of (mm / 100))) / (100 : Int32)))]))
  refine Run.pre (fun _ k => XS.istoreN X438.here hx rfl (hb hby d10_32) rfl (l' := #[.val (.int (-(own_of (mm / 100)))), .val (.int (10 : Int32)), .val (.ref bf), .val (.int ((-(own_of (mm / 100))) / (100 : Int32))), .val (.int (own_of (mm % 100))), .val (.int (8 : Int32)), .val (.int (0 : Int32))]) rfl k) ?_
  refine Run.pre (fun _ k => XS.iloadN X438.here hx rfl (hb hby d10_33) rfl  k) ?_
  refine Run.pre (fun _ k => XS.bipush X438.here hx rfl (hb hby d10_34) k) ?_
  show Run p e below s _ _ _ (T438.setTop (mkF m 36 #[.val (.int (-(own_of (mm / 100)))), .val (.int (10 : Int32)), .val (.ref bf), .val (.int ((-(own_of (mm / 100))) / (100 : Int32))), .val (.int (own_of (mm % 100))), .val (.int (8 : Int32)), .val (.int (0 : Int32))] [(.int (100 : Int32)), (.int ((-(own_of (mm / 100))) / (100 : Int32)))]))
  refine Run.pre (fun _ k => XS.imul X438.here hx rfl (hb hby d10_36) rfl k) ?_
  refine Run.pre (fun _ k => XS.iloadN X438.here hx rfl (hb hby d10_37) rfl  k) ?_
  show Run p e below s _ _ _ (T438.setTop (mkF m 38 #[.val (.int (-(own_of (mm / 100)))), .val (.int (10 : Int32)), .val (.ref bf), .val (.int ((-(own_of (mm / 100))) / (100 : Int32))), .val (.int (own_of (mm % 100))), .val (.int (8 : Int32)), .val (.int (0 : Int32))] [(.int (-(own_of (mm / 100)))), (.int (((-(own_of (mm / 100))) / (100 : Int32)) * (100 : Int32)))]))
  refine Run.pre (fun _ k => XS.isub X438.here hx rfl (hb hby d10_38) rfl k) ?_
  show Run p e below s _ _ _ (T438.setTop (mkF m 39 #[.val (.int (-(own_of (mm / 100)))), .val (.int (10 : Int32)), .val (.ref bf), .val (.int ((-(own_of (mm / 100))) / (100 : Int32))), .val (.int (own_of (mm % 100))), .val (.int (8 : Int32)), .val (.int (0 : Int32))] [(.int ((((-(own_of (mm / 100))) / (100 : Int32)) * (100 : Int32)) - (-(own_of (mm / 100)))))]))
  refine Run.pre (fun _ k => XS.istore X438.here hx rfl (hb hby d10_39) rfl (l' := #[.val (.int (-(own_of (mm / 100)))), .val (.int (10 : Int32)), .val (.ref bf), .val (.int ((-(own_of (mm / 100))) / (100 : Int32))), .val (.int ((((-(own_of (mm / 100))) / (100 : Int32)) * (100 : Int32)) - (-(own_of (mm / 100))))), .val (.int (8 : Int32)), .val (.int (0 : Int32))]) rfl k) ?_
  refine Run.pre (fun _ k => XS.iloadN X438.here hx rfl (hb hby d10_41) rfl  k) ?_
  show Run p e below s _ _ _ (T438.setTop (mkF m 42 #[.val (.int (-(own_of (mm / 100)))), .val (.int (10 : Int32)), .val (.ref bf), .val (.int ((-(own_of (mm / 100))) / (100 : Int32))), .val (.int ((((-(own_of (mm / 100))) / (100 : Int32)) * (100 : Int32)) - (-(own_of (mm / 100))))), .val (.int (8 : Int32)), .val (.int (0 : Int32))] [(.int ((-(own_of (mm / 100))) / (100 : Int32)))]))
  refine Run.pre (fun _ k => XS.istoreN X438.here hx rfl (hb hby d10_42) rfl (l' := #[.val (.int ((-(own_of (mm / 100))) / (100 : Int32))), .val (.int (10 : Int32)), .val (.ref bf), .val (.int ((-(own_of (mm / 100))) / (100 : Int32))), .val (.int ((((-(own_of (mm / 100))) / (100 : Int32)) * (100 : Int32)) - (-(own_of (mm / 100))))), .val (.int (8 : Int32)), .val (.int (0 : Int32))]) rfl k) ?_
  show Run p e below s _ _ _ (T438.setTop (mkF m 43 #[.val (.int ((-(own_of (mm / 100))) / (100 : Int32))), .val (.int (10 : Int32)), .val (.ref bf), .val (.int ((-(own_of (mm / 100))) / (100 : Int32))), .val (.int ((((-(own_of (mm / 100))) / (100 : Int32)) * (100 : Int32)) - (-(own_of (mm / 100))))), .val (.int (8 : Int32)), .val (.int (0 : Int32))] []))
  rw [own_div (show (mm / 100) < 2147483648 by omega), own_rem (show (mm / 100) < 2147483648 by omega)]
  refine Run.pre (fun _ k => XS.aloadN X438.here hx rfl (hb hby d10_43) rfl rfl k) ?_
  show Run p e below s _ _ _ (T438.setTop (mkF m 44 #[.val (.int (-(own_of ((mm / 100) / 100)))), .val (.int (10 : Int32)), .val (.ref bf), .val (.int (-(own_of ((mm / 100) / 100)))), .val (.int (own_of ((mm / 100) % 100))), .val (.int (8 : Int32)), .val (.int (0 : Int32))] [(.ref bf)]))
  refine Run.pre (fun _ k => XS.iinc X438.here hx rfl (hb hby d10_44) rfl (l' := #[.val (.int (-(own_of ((mm / 100) / 100)))), .val (.int (10 : Int32)), .val (.ref bf), .val (.int (-(own_of ((mm / 100) / 100)))), .val (.int (own_of ((mm / 100) % 100))), .val (.int (7 : Int32)), .val (.int (0 : Int32))]) rfl k) ?_
  refine Run.pre (fun _ k => XS.iload X438.here hx rfl (hb hby d10_47) rfl  k) ?_
  show Run p e below s _ _ _ (T438.setTop (mkF m 49 #[.val (.int (-(own_of ((mm / 100) / 100)))), .val (.int (10 : Int32)), .val (.ref bf), .val (.int (-(own_of ((mm / 100) / 100)))), .val (.int (own_of ((mm / 100) % 100))), .val (.int (7 : Int32)), .val (.int (0 : Int32))] [(.int (7 : Int32)), (.ref bf)]))
  have f439 := (f434.wr W438 g_bf)
  obtain ⟨T440, X440, e440, st440⟩ := getS2 X438 hx hZ hown (host := "") (Or.inl (hw _ (List.mem_of_getElem? (i := 57) rfl))) Via.refl e438 (SO.ext f439.2) (g := (mkF m 49 #[.val (.int (-(own_of ((mm / 100) / 100)))), .val (.int (10 : Int32)), .val (.ref bf), .val (.int (-(own_of ((mm / 100) / 100)))), .val (.int (own_of ((mm / 100) % 100))), .val (.int (7 : Int32)), .val (.int (0 : Int32))] [(.int (7 : Int32)), (.ref bf)])) rfl (hb hby d10_49)
  refine Run.pre st440 ?_
  refine Run.pre (fun _ k => XS.iload X440.here hx rfl (hb hby d10_52) rfl  k) ?_
  show Run p e below s _ _ _ (T440.setTop (mkF m 54 #[.val (.int (-(own_of ((mm / 100) / 100)))), .val (.int (10 : Int32)), .val (.ref bf), .val (.int (-(own_of ((mm / 100) / 100)))), .val (.int (own_of ((mm / 100) % 100))), .val (.int (7 : Int32)), .val (.int (0 : Int32))] [(.int (own_of ((mm / 100) % 100))), (.ref od), (.int (7 : Int32)), (.ref bf)]))
  obtain ⟨c441, Ar441, -, S441, N441, H441, -⟩ := id (AO.ext f439.2)
  have hin441 : ¬ ((own_of ((mm / 100) % 100)) < 0 ∨ c441.slots.size ≤ ((own_of ((mm / 100) % 100))).toNatClampNeg) := inb_of S441 (own_in100 (show ((mm / 100) % 100) < 100 by omega))
  refine Run.pre (X440.baloadBytes hx (j := (own_of ((mm / 100) % 100))) (v := (.int (own_of (48 + ((mm / 100) % 100) % 10)))) (by rw [e440]; exact Ar441.1) (State.isArrayOf_alike hZ.alike Ar441.2.1) Ar441.2.2 hin441 (H441.at hin441 (own_getO (show ((mm / 100) % 100) < 100 by omega))) (g := (mkF m 54 #[.val (.int (-(own_of ((mm / 100) / 100)))), .val (.int (10 : Int32)), .val (.ref bf), .val (.int (-(own_of ((mm / 100) / 100)))), .val (.int (own_of ((mm / 100) % 100))), .val (.int (7 : Int32)), .val (.int (0 : Int32))] [(.int (own_of ((mm / 100) % 100))), (.ref od), (.int (7 : Int32)), (.ref bf)])) rfl rfl (hb hby d10_54)) ?_
  show Run p e below s _ _ _ (T440.setTop (mkF m 55 #[.val (.int (-(own_of ((mm / 100) / 100)))), .val (.int (10 : Int32)), .val (.ref bf), .val (.int (-(own_of ((mm / 100) / 100)))), .val (.int (own_of ((mm / 100) % 100))), .val (.int (7 : Int32)), .val (.int (0 : Int32))] [(.int (own_of (48 + ((mm / 100) % 100) % 10))), (.int (7 : Int32)), (.ref bf)]))
  obtain ⟨c442, Ar442, q442, S442, N442, H442, G442⟩ := id V_bf_438
  have hin442 : ¬ ((7 : Int32) < 0 ∨ c442.slots.size ≤ ((7 : Int32)).toNatClampNeg) := inb_of S442 ⟨by decide, by decide⟩
  obtain ⟨T443, h443, X443, e443, W443, st443⟩ := stB X440 hx hZ e440 Ar442 (j := (7 : Int32)) hin442 (g := (mkF m 55 #[.val (.int (-(own_of ((mm / 100) / 100)))), .val (.int (10 : Int32)), .val (.ref bf), .val (.int (-(own_of ((mm / 100) / 100)))), .val (.int (own_of ((mm / 100) % 100))), .val (.int (7 : Int32)), .val (.int (0 : Int32))] [(.int (own_of (48 + ((mm / 100) % 100) % 10))), (.int (7 : Int32)), (.ref bf)])) rfl rfl (hb hby d10_55)
  refine Run.pre st443 ?_
  have V_bf_443 : Arv Z h443 bf kb .byte (10 : Int32) [(.int (0 : Int32)), (.int (0 : Int32)), (.int (0 : Int32)), (.int (0 : Int32)), (.int (0 : Int32)), (.int (0 : Int32)), (.int (0 : Int32)), (.int (nar .byte (own_of (48 + ((mm / 100) % 100) % 10)))), (.int (nar .byte (own_of (48 + (mm % 100) / 10)))), (.int (nar .byte (own_of (48 + (mm % 100) % 10))))] (.int (0 : Int32)) := Arv.set Ar442 q442 S442 N442 H442 G442 (fits_nar_byte _) W443 7 rfl (Nat.le_of_ble_eq_true rfl)
  have K443 : Keep h0 h443 [bf] := K438.wr W443 (Or.inl (by simp))
  have N443 := Fr.snoc X443 N438 g_bf
  refine Run.pre (fun _ k => XS.aloadN X443.here hx rfl (hb hby d10_56) rfl rfl k) ?_
  show Run p e below s _ _ _ (T443.setTop (mkF m 57 #[.val (.int (-(own_of ((mm / 100) / 100)))), .val (.int (10 : Int32)), .val (.ref bf), .val (.int (-(own_of ((mm / 100) / 100)))), .val (.int (own_of ((mm / 100) % 100))), .val (.int (7 : Int32)), .val (.int (0 : Int32))] [(.ref bf)]))
  refine Run.pre (fun _ k => XS.iinc X443.here hx rfl (hb hby d10_57) rfl (l' := #[.val (.int (-(own_of ((mm / 100) / 100)))), .val (.int (10 : Int32)), .val (.ref bf), .val (.int (-(own_of ((mm / 100) / 100)))), .val (.int (own_of ((mm / 100) % 100))), .val (.int (6 : Int32)), .val (.int (0 : Int32))]) rfl k) ?_
  refine Run.pre (fun _ k => XS.iload X443.here hx rfl (hb hby d10_60) rfl  k) ?_
  show Run p e below s _ _ _ (T443.setTop (mkF m 62 #[.val (.int (-(own_of ((mm / 100) / 100)))), .val (.int (10 : Int32)), .val (.ref bf), .val (.int (-(own_of ((mm / 100) / 100)))), .val (.int (own_of ((mm / 100) % 100))), .val (.int (6 : Int32)), .val (.int (0 : Int32))] [(.int (6 : Int32)), (.ref bf)]))
  have f444 := (f439.wr W443 g_bf)
  obtain ⟨T445, X445, e445, st445⟩ := getS2 X443 hx hZ hown (host := "") (Or.inl (hw _ (List.mem_of_getElem? (i := 58) rfl))) Via.refl e443 (ST.ext f444.2) (g := (mkF m 62 #[.val (.int (-(own_of ((mm / 100) / 100)))), .val (.int (10 : Int32)), .val (.ref bf), .val (.int (-(own_of ((mm / 100) / 100)))), .val (.int (own_of ((mm / 100) % 100))), .val (.int (6 : Int32)), .val (.int (0 : Int32))] [(.int (6 : Int32)), (.ref bf)])) rfl (hb hby d10_62)
  refine Run.pre st445 ?_
  refine Run.pre (fun _ k => XS.iload X445.here hx rfl (hb hby d10_65) rfl  k) ?_
  show Run p e below s _ _ _ (T445.setTop (mkF m 67 #[.val (.int (-(own_of ((mm / 100) / 100)))), .val (.int (10 : Int32)), .val (.ref bf), .val (.int (-(own_of ((mm / 100) / 100)))), .val (.int (own_of ((mm / 100) % 100))), .val (.int (6 : Int32)), .val (.int (0 : Int32))] [(.int (own_of ((mm / 100) % 100))), (.ref td), (.int (6 : Int32)), (.ref bf)]))
  obtain ⟨c446, Ar446, -, S446, N446, H446, -⟩ := id (AT.ext f444.2)
  have hin446 : ¬ ((own_of ((mm / 100) % 100)) < 0 ∨ c446.slots.size ≤ ((own_of ((mm / 100) % 100))).toNatClampNeg) := inb_of S446 (own_in100 (show ((mm / 100) % 100) < 100 by omega))
  refine Run.pre (X445.baloadBytes hx (j := (own_of ((mm / 100) % 100))) (v := (.int (own_of (48 + ((mm / 100) % 100) / 10)))) (by rw [e445]; exact Ar446.1) (State.isArrayOf_alike hZ.alike Ar446.2.1) Ar446.2.2 hin446 (H446.at hin446 (own_getT (show ((mm / 100) % 100) < 100 by omega))) (g := (mkF m 67 #[.val (.int (-(own_of ((mm / 100) / 100)))), .val (.int (10 : Int32)), .val (.ref bf), .val (.int (-(own_of ((mm / 100) / 100)))), .val (.int (own_of ((mm / 100) % 100))), .val (.int (6 : Int32)), .val (.int (0 : Int32))] [(.int (own_of ((mm / 100) % 100))), (.ref td), (.int (6 : Int32)), (.ref bf)])) rfl rfl (hb hby d10_67)) ?_
  show Run p e below s _ _ _ (T445.setTop (mkF m 68 #[.val (.int (-(own_of ((mm / 100) / 100)))), .val (.int (10 : Int32)), .val (.ref bf), .val (.int (-(own_of ((mm / 100) / 100)))), .val (.int (own_of ((mm / 100) % 100))), .val (.int (6 : Int32)), .val (.int (0 : Int32))] [(.int (own_of (48 + ((mm / 100) % 100) / 10))), (.int (6 : Int32)), (.ref bf)]))
  obtain ⟨c447, Ar447, q447, S447, N447, H447, G447⟩ := id V_bf_443
  have hin447 : ¬ ((6 : Int32) < 0 ∨ c447.slots.size ≤ ((6 : Int32)).toNatClampNeg) := inb_of S447 ⟨by decide, by decide⟩
  obtain ⟨T448, h448, X448, e448, W448, st448⟩ := stB X445 hx hZ e445 Ar447 (j := (6 : Int32)) hin447 (g := (mkF m 68 #[.val (.int (-(own_of ((mm / 100) / 100)))), .val (.int (10 : Int32)), .val (.ref bf), .val (.int (-(own_of ((mm / 100) / 100)))), .val (.int (own_of ((mm / 100) % 100))), .val (.int (6 : Int32)), .val (.int (0 : Int32))] [(.int (own_of (48 + ((mm / 100) % 100) / 10))), (.int (6 : Int32)), (.ref bf)])) rfl rfl (hb hby d10_68)
  refine Run.pre st448 ?_
  have V_bf_448 : Arv Z h448 bf kb .byte (10 : Int32) [(.int (0 : Int32)), (.int (0 : Int32)), (.int (0 : Int32)), (.int (0 : Int32)), (.int (0 : Int32)), (.int (0 : Int32)), (.int (nar .byte (own_of (48 + ((mm / 100) % 100) / 10)))), (.int (nar .byte (own_of (48 + ((mm / 100) % 100) % 10)))), (.int (nar .byte (own_of (48 + (mm % 100) / 10)))), (.int (nar .byte (own_of (48 + (mm % 100) % 10))))] (.int (0 : Int32)) := Arv.set Ar447 q447 S447 N447 H447 G447 (fits_nar_byte _) W448 6 rfl (Nat.le_of_ble_eq_true rfl)
  have K448 : Keep h0 h448 [bf] := K443.wr W448 (Or.inl (by simp))
  have N448 := Fr.snoc X448 N443 g_bf
  refine Run.pre (fun _ k => XS.goto X448.here hx rfl (pc0 := 69) (pc' := 22) rfl (hb hby d10_69) (by decide) (by decide) k) ?_
  refine Run.pre (fun _ k => XS.iloadN X448.here hx rfl (hb hby d10_22) rfl  k) ?_
  refine Run.pre (fun _ k => XS.bipush X448.here hx rfl (hb hby d10_23) k) ?_
  show Run p e below s _ _ _ (T448.setTop (mkF m 25 #[.val (.int (-(own_of ((mm / 100) / 100)))), .val (.int (10 : Int32)), .val (.ref bf), .val (.int (-(own_of ((mm / 100) / 100)))), .val (.int (own_of ((mm / 100) % 100))), .val (.int (6 : Int32)), .val (.int (0 : Int32))] [(.int (-100 : Int32)), (.int (-(own_of ((mm / 100) / 100))))]))
  refine Run.pre (fun _ k => XS.icmpNo X448.here hx rfl (hb hby d10_25) rfl (flt ((own_nltng (show ((mm / 100) / 100) < 2147483648 by omega) (by have e : ((-100 : Int32)).toInt = -100 := (by decide); omega)) : ¬ ((-100 : Int32) < (-(own_of ((mm / 100) / 100)))))).2.2.1 k) ?_
  refine Run.pre (fun _ k => XS.iloadN X448.here hx rfl (hb hby d10_28) rfl  k) ?_
  refine Run.pre (fun _ k => XS.bipush X448.here hx rfl (hb hby d10_29) k) ?_
  show Run p e below s _ _ _ (T448.setTop (mkF m 31 #[.val (.int (-(own_of ((mm / 100) / 100)))), .val (.int (10 : Int32)), .val (.ref bf), .val (.int (-(own_of ((mm / 100) / 100)))), .val (.int (own_of ((mm / 100) % 100))), .val (.int (6 : Int32)), .val (.int (0 : Int32))] [(.int (100 : Int32)), (.int (-(own_of ((mm / 100) / 100))))]))
  refine Run.pre (fun _ k => XS.idiv X448.here hx rfl (hb hby d10_31) rfl (by decide) k) ?_
  show Run p e below s _ _ _ (T448.setTop (mkF m 32 #[.val (.int (-(own_of ((mm / 100) / 100)))), .val (.int (10 : Int32)), .val (.ref bf), .val (.int (-(own_of ((mm / 100) / 100)))), .val (.int (own_of ((mm / 100) % 100))), .val (.int (6 : Int32)), .val (.int (0 : Int32))] [(.int ((-(own_of ((mm / 100) / 100))) / (100 : Int32)))]))
  refine Run.pre (fun _ k => XS.istoreN X448.here hx rfl (hb hby d10_32) rfl (l' := #[.val (.int (-(own_of ((mm / 100) / 100)))), .val (.int (10 : Int32)), .val (.ref bf), .val (.int ((-(own_of ((mm / 100) / 100))) / (100 : Int32))), .val (.int (own_of ((mm / 100) % 100))), .val (.int (6 : Int32)), .val (.int (0 : Int32))]) rfl k) ?_
  refine Run.pre (fun _ k => XS.iloadN X448.here hx rfl (hb hby d10_33) rfl  k) ?_
  refine Run.pre (fun _ k => XS.bipush X448.here hx rfl (hb hby d10_34) k) ?_
  show Run p e below s _ _ _ (T448.setTop (mkF m 36 #[.val (.int (-(own_of ((mm / 100) / 100)))), .val (.int (10 : Int32)), .val (.ref bf), .val (.int ((-(own_of ((mm / 100) / 100))) / (100 : Int32))), .val (.int (own_of ((mm / 100) % 100))), .val (.int (6 : Int32)), .val (.int (0 : Int32))] [(.int (100 : Int32)), (.int ((-(own_of ((mm / 100) / 100))) / (100 : Int32)))]))
  refine Run.pre (fun _ k => XS.imul X448.here hx rfl (hb hby d10_36) rfl k) ?_
  refine Run.pre (fun _ k => XS.iloadN X448.here hx rfl (hb hby d10_37) rfl  k) ?_
  show Run p e below s _ _ _ (T448.setTop (mkF m 38 #[.val (.int (-(own_of ((mm / 100) / 100)))), .val (.int (10 : Int32)), .val (.ref bf), .val (.int ((-(own_of ((mm / 100) / 100))) / (100 : Int32))), .val (.int (own_of ((mm / 100) % 100))), .val (.int (6 : Int32)), .val (.int (0 : Int32))] [(.int (-(own_of ((mm / 100) / 100)))), (.int (((-(own_of ((mm / 100) / 100))) / (100 : Int32)) * (100 : Int32)))]))
  refine Run.pre (fun _ k => XS.isub X448.here hx rfl (hb hby d10_38) rfl k) ?_
  show Run p e below s _ _ _ (T448.setTop (mkF m 39 #[.val (.int (-(own_of ((mm / 100) / 100)))), .val (.int (10 : Int32)), .val (.ref bf), .val (.int ((-(own_of ((mm / 100) / 100))) / (100 : Int32))), .val (.int (own_of ((mm / 100) % 100))), .val (.int (6 : Int32)), .val (.int (0 : Int32))] [(.int ((((-(own_of ((mm / 100) / 100))) / (100 : Int32)) * (100 : Int32)) - (-(own_of ((mm / 100) / 100)))))]))
  refine Run.pre (fun _ k => XS.istore X448.here hx rfl (hb hby d10_39) rfl (l' := #[.val (.int (-(own_of ((mm / 100) / 100)))), .val (.int (10 : Int32)), .val (.ref bf), .val (.int ((-(own_of ((mm / 100) / 100))) / (100 : Int32))), .val (.int ((((-(own_of ((mm / 100) / 100))) / (100 : Int32)) * (100 : Int32)) - (-(own_of ((mm / 100) / 100))))), .val (.int (6 : Int32)), .val (.int (0 : Int32))]) rfl k) ?_
  refine Run.pre (fun _ k => XS.iloadN X448.here hx rfl (hb hby d10_41) rfl  k) ?_
  show Run p e below s _ _ _ (T448.setTop (mkF m 42 #[.val (.int (-(own_of ((mm / 100) / 100)))), .val (.int (10 : Int32)), .val (.ref bf), .val (.int ((-(own_of ((mm / 100) / 100))) / (100 : Int32))), .val (.int ((((-(own_of ((mm / 100) / 100))) / (100 : Int32)) * (100 : Int32)) - (-(own_of ((mm / 100) / 100))))), .val (.int (6 : Int32)), .val (.int (0 : Int32))] [(.int ((-(own_of ((mm / 100) / 100))) / (100 : Int32)))]))
  refine Run.pre (fun _ k => XS.istoreN X448.here hx rfl (hb hby d10_42) rfl (l' := #[.val (.int ((-(own_of ((mm / 100) / 100))) / (100 : Int32))), .val (.int (10 : Int32)), .val (.ref bf), .val (.int ((-(own_of ((mm / 100) / 100))) / (100 : Int32))), .val (.int ((((-(own_of ((mm / 100) / 100))) / (100 : Int32)) * (100 : Int32)) - (-(own_of ((mm / 100) / 100))))), .val (.int (6 : Int32)), .val (.int (0 : Int32))]) rfl k) ?_
  show Run p e below s _ _ _ (T448.setTop (mkF m 43 #[.val (.int ((-(own_of ((mm / 100) / 100))) / (100 : Int32))), .val (.int (10 : Int32)), .val (.ref bf), .val (.int ((-(own_of ((mm / 100) / 100))) / (100 : Int32))), .val (.int ((((-(own_of ((mm / 100) / 100))) / (100 : Int32)) * (100 : Int32)) - (-(own_of ((mm / 100) / 100))))), .val (.int (6 : Int32)), .val (.int (0 : Int32))] []))
  rw [own_div (show ((mm / 100) / 100) < 2147483648 by omega), own_rem (show ((mm / 100) / 100) < 2147483648 by omega)]
  refine Run.pre (fun _ k => XS.aloadN X448.here hx rfl (hb hby d10_43) rfl rfl k) ?_
  show Run p e below s _ _ _ (T448.setTop (mkF m 44 #[.val (.int (-(own_of (((mm / 100) / 100) / 100)))), .val (.int (10 : Int32)), .val (.ref bf), .val (.int (-(own_of (((mm / 100) / 100) / 100)))), .val (.int (own_of (((mm / 100) / 100) % 100))), .val (.int (6 : Int32)), .val (.int (0 : Int32))] [(.ref bf)]))
  refine Run.pre (fun _ k => XS.iinc X448.here hx rfl (hb hby d10_44) rfl (l' := #[.val (.int (-(own_of (((mm / 100) / 100) / 100)))), .val (.int (10 : Int32)), .val (.ref bf), .val (.int (-(own_of (((mm / 100) / 100) / 100)))), .val (.int (own_of (((mm / 100) / 100) % 100))), .val (.int (5 : Int32)), .val (.int (0 : Int32))]) rfl k) ?_
  refine Run.pre (fun _ k => XS.iload X448.here hx rfl (hb hby d10_47) rfl  k) ?_
  show Run p e below s _ _ _ (T448.setTop (mkF m 49 #[.val (.int (-(own_of (((mm / 100) / 100) / 100)))), .val (.int (10 : Int32)), .val (.ref bf), .val (.int (-(own_of (((mm / 100) / 100) / 100)))), .val (.int (own_of (((mm / 100) / 100) % 100))), .val (.int (5 : Int32)), .val (.int (0 : Int32))] [(.int (5 : Int32)), (.ref bf)]))
  have f449 := (f444.wr W448 g_bf)
  obtain ⟨T450, X450, e450, st450⟩ := getS2 X448 hx hZ hown (host := "") (Or.inl (hw _ (List.mem_of_getElem? (i := 57) rfl))) Via.refl e448 (SO.ext f449.2) (g := (mkF m 49 #[.val (.int (-(own_of (((mm / 100) / 100) / 100)))), .val (.int (10 : Int32)), .val (.ref bf), .val (.int (-(own_of (((mm / 100) / 100) / 100)))), .val (.int (own_of (((mm / 100) / 100) % 100))), .val (.int (5 : Int32)), .val (.int (0 : Int32))] [(.int (5 : Int32)), (.ref bf)])) rfl (hb hby d10_49)
  refine Run.pre st450 ?_
  refine Run.pre (fun _ k => XS.iload X450.here hx rfl (hb hby d10_52) rfl  k) ?_
  show Run p e below s _ _ _ (T450.setTop (mkF m 54 #[.val (.int (-(own_of (((mm / 100) / 100) / 100)))), .val (.int (10 : Int32)), .val (.ref bf), .val (.int (-(own_of (((mm / 100) / 100) / 100)))), .val (.int (own_of (((mm / 100) / 100) % 100))), .val (.int (5 : Int32)), .val (.int (0 : Int32))] [(.int (own_of (((mm / 100) / 100) % 100))), (.ref od), (.int (5 : Int32)), (.ref bf)]))
  obtain ⟨c451, Ar451, -, S451, N451, H451, -⟩ := id (AO.ext f449.2)
  have hin451 : ¬ ((own_of (((mm / 100) / 100) % 100)) < 0 ∨ c451.slots.size ≤ ((own_of (((mm / 100) / 100) % 100))).toNatClampNeg) := inb_of S451 (own_in100 (show (((mm / 100) / 100) % 100) < 100 by omega))
  refine Run.pre (X450.baloadBytes hx (j := (own_of (((mm / 100) / 100) % 100))) (v := (.int (own_of (48 + (((mm / 100) / 100) % 100) % 10)))) (by rw [e450]; exact Ar451.1) (State.isArrayOf_alike hZ.alike Ar451.2.1) Ar451.2.2 hin451 (H451.at hin451 (own_getO (show (((mm / 100) / 100) % 100) < 100 by omega))) (g := (mkF m 54 #[.val (.int (-(own_of (((mm / 100) / 100) / 100)))), .val (.int (10 : Int32)), .val (.ref bf), .val (.int (-(own_of (((mm / 100) / 100) / 100)))), .val (.int (own_of (((mm / 100) / 100) % 100))), .val (.int (5 : Int32)), .val (.int (0 : Int32))] [(.int (own_of (((mm / 100) / 100) % 100))), (.ref od), (.int (5 : Int32)), (.ref bf)])) rfl rfl (hb hby d10_54)) ?_
  show Run p e below s _ _ _ (T450.setTop (mkF m 55 #[.val (.int (-(own_of (((mm / 100) / 100) / 100)))), .val (.int (10 : Int32)), .val (.ref bf), .val (.int (-(own_of (((mm / 100) / 100) / 100)))), .val (.int (own_of (((mm / 100) / 100) % 100))), .val (.int (5 : Int32)), .val (.int (0 : Int32))] [(.int (own_of (48 + (((mm / 100) / 100) % 100) % 10))), (.int (5 : Int32)), (.ref bf)]))
  obtain ⟨c452, Ar452, q452, S452, N452, H452, G452⟩ := id V_bf_448
  have hin452 : ¬ ((5 : Int32) < 0 ∨ c452.slots.size ≤ ((5 : Int32)).toNatClampNeg) := inb_of S452 ⟨by decide, by decide⟩
  obtain ⟨T453, h453, X453, e453, W453, st453⟩ := stB X450 hx hZ e450 Ar452 (j := (5 : Int32)) hin452 (g := (mkF m 55 #[.val (.int (-(own_of (((mm / 100) / 100) / 100)))), .val (.int (10 : Int32)), .val (.ref bf), .val (.int (-(own_of (((mm / 100) / 100) / 100)))), .val (.int (own_of (((mm / 100) / 100) % 100))), .val (.int (5 : Int32)), .val (.int (0 : Int32))] [(.int (own_of (48 + (((mm / 100) / 100) % 100) % 10))), (.int (5 : Int32)), (.ref bf)])) rfl rfl (hb hby d10_55)
  refine Run.pre st453 ?_
  have V_bf_453 : Arv Z h453 bf kb .byte (10 : Int32) [(.int (0 : Int32)), (.int (0 : Int32)), (.int (0 : Int32)), (.int (0 : Int32)), (.int (0 : Int32)), (.int (nar .byte (own_of (48 + (((mm / 100) / 100) % 100) % 10)))), (.int (nar .byte (own_of (48 + ((mm / 100) % 100) / 10)))), (.int (nar .byte (own_of (48 + ((mm / 100) % 100) % 10)))), (.int (nar .byte (own_of (48 + (mm % 100) / 10)))), (.int (nar .byte (own_of (48 + (mm % 100) % 10))))] (.int (0 : Int32)) := Arv.set Ar452 q452 S452 N452 H452 G452 (fits_nar_byte _) W453 5 rfl (Nat.le_of_ble_eq_true rfl)
  have K453 : Keep h0 h453 [bf] := K448.wr W453 (Or.inl (by simp))
  have N453 := Fr.snoc X453 N448 g_bf
  refine Run.pre (fun _ k => XS.aloadN X453.here hx rfl (hb hby d10_56) rfl rfl k) ?_
  show Run p e below s _ _ _ (T453.setTop (mkF m 57 #[.val (.int (-(own_of (((mm / 100) / 100) / 100)))), .val (.int (10 : Int32)), .val (.ref bf), .val (.int (-(own_of (((mm / 100) / 100) / 100)))), .val (.int (own_of (((mm / 100) / 100) % 100))), .val (.int (5 : Int32)), .val (.int (0 : Int32))] [(.ref bf)]))
  refine Run.pre (fun _ k => XS.iinc X453.here hx rfl (hb hby d10_57) rfl (l' := #[.val (.int (-(own_of (((mm / 100) / 100) / 100)))), .val (.int (10 : Int32)), .val (.ref bf), .val (.int (-(own_of (((mm / 100) / 100) / 100)))), .val (.int (own_of (((mm / 100) / 100) % 100))), .val (.int (4 : Int32)), .val (.int (0 : Int32))]) rfl k) ?_
  refine Run.pre (fun _ k => XS.iload X453.here hx rfl (hb hby d10_60) rfl  k) ?_
  show Run p e below s _ _ _ (T453.setTop (mkF m 62 #[.val (.int (-(own_of (((mm / 100) / 100) / 100)))), .val (.int (10 : Int32)), .val (.ref bf), .val (.int (-(own_of (((mm / 100) / 100) / 100)))), .val (.int (own_of (((mm / 100) / 100) % 100))), .val (.int (4 : Int32)), .val (.int (0 : Int32))] [(.int (4 : Int32)), (.ref bf)]))
  have f454 := (f449.wr W453 g_bf)
  obtain ⟨T455, X455, e455, st455⟩ := getS2 X453 hx hZ hown (host := "") (Or.inl (hw _ (List.mem_of_getElem? (i := 58) rfl))) Via.refl e453 (ST.ext f454.2) (g := (mkF m 62 #[.val (.int (-(own_of (((mm / 100) / 100) / 100)))), .val (.int (10 : Int32)), .val (.ref bf), .val (.int (-(own_of (((mm / 100) / 100) / 100)))), .val (.int (own_of (((mm / 100) / 100) % 100))), .val (.int (4 : Int32)), .val (.int (0 : Int32))] [(.int (4 : Int32)), (.ref bf)])) rfl (hb hby d10_62)
  refine Run.pre st455 ?_
  refine Run.pre (fun _ k => XS.iload X455.here hx rfl (hb hby d10_65) rfl  k) ?_
  show Run p e below s _ _ _ (T455.setTop (mkF m 67 #[.val (.int (-(own_of (((mm / 100) / 100) / 100)))), .val (.int (10 : Int32)), .val (.ref bf), .val (.int (-(own_of (((mm / 100) / 100) / 100)))), .val (.int (own_of (((mm / 100) / 100) % 100))), .val (.int (4 : Int32)), .val (.int (0 : Int32))] [(.int (own_of (((mm / 100) / 100) % 100))), (.ref td), (.int (4 : Int32)), (.ref bf)]))
  obtain ⟨c456, Ar456, -, S456, N456, H456, -⟩ := id (AT.ext f454.2)
  have hin456 : ¬ ((own_of (((mm / 100) / 100) % 100)) < 0 ∨ c456.slots.size ≤ ((own_of (((mm / 100) / 100) % 100))).toNatClampNeg) := inb_of S456 (own_in100 (show (((mm / 100) / 100) % 100) < 100 by omega))
  refine Run.pre (X455.baloadBytes hx (j := (own_of (((mm / 100) / 100) % 100))) (v := (.int (own_of (48 + (((mm / 100) / 100) % 100) / 10)))) (by rw [e455]; exact Ar456.1) (State.isArrayOf_alike hZ.alike Ar456.2.1) Ar456.2.2 hin456 (H456.at hin456 (own_getT (show (((mm / 100) / 100) % 100) < 100 by omega))) (g := (mkF m 67 #[.val (.int (-(own_of (((mm / 100) / 100) / 100)))), .val (.int (10 : Int32)), .val (.ref bf), .val (.int (-(own_of (((mm / 100) / 100) / 100)))), .val (.int (own_of (((mm / 100) / 100) % 100))), .val (.int (4 : Int32)), .val (.int (0 : Int32))] [(.int (own_of (((mm / 100) / 100) % 100))), (.ref td), (.int (4 : Int32)), (.ref bf)])) rfl rfl (hb hby d10_67)) ?_
  show Run p e below s _ _ _ (T455.setTop (mkF m 68 #[.val (.int (-(own_of (((mm / 100) / 100) / 100)))), .val (.int (10 : Int32)), .val (.ref bf), .val (.int (-(own_of (((mm / 100) / 100) / 100)))), .val (.int (own_of (((mm / 100) / 100) % 100))), .val (.int (4 : Int32)), .val (.int (0 : Int32))] [(.int (own_of (48 + (((mm / 100) / 100) % 100) / 10))), (.int (4 : Int32)), (.ref bf)]))
  obtain ⟨c457, Ar457, q457, S457, N457, H457, G457⟩ := id V_bf_453
  have hin457 : ¬ ((4 : Int32) < 0 ∨ c457.slots.size ≤ ((4 : Int32)).toNatClampNeg) := inb_of S457 ⟨by decide, by decide⟩
  obtain ⟨T458, h458, X458, e458, W458, st458⟩ := stB X455 hx hZ e455 Ar457 (j := (4 : Int32)) hin457 (g := (mkF m 68 #[.val (.int (-(own_of (((mm / 100) / 100) / 100)))), .val (.int (10 : Int32)), .val (.ref bf), .val (.int (-(own_of (((mm / 100) / 100) / 100)))), .val (.int (own_of (((mm / 100) / 100) % 100))), .val (.int (4 : Int32)), .val (.int (0 : Int32))] [(.int (own_of (48 + (((mm / 100) / 100) % 100) / 10))), (.int (4 : Int32)), (.ref bf)])) rfl rfl (hb hby d10_68)
  refine Run.pre st458 ?_
  have V_bf_458 : Arv Z h458 bf kb .byte (10 : Int32) [(.int (0 : Int32)), (.int (0 : Int32)), (.int (0 : Int32)), (.int (0 : Int32)), (.int (nar .byte (own_of (48 + (((mm / 100) / 100) % 100) / 10)))), (.int (nar .byte (own_of (48 + (((mm / 100) / 100) % 100) % 10)))), (.int (nar .byte (own_of (48 + ((mm / 100) % 100) / 10)))), (.int (nar .byte (own_of (48 + ((mm / 100) % 100) % 10)))), (.int (nar .byte (own_of (48 + (mm % 100) / 10)))), (.int (nar .byte (own_of (48 + (mm % 100) % 10))))] (.int (0 : Int32)) := Arv.set Ar457 q457 S457 N457 H457 G457 (fits_nar_byte _) W458 4 rfl (Nat.le_of_ble_eq_true rfl)
  have K458 : Keep h0 h458 [bf] := K453.wr W458 (Or.inl (by simp))
  have N458 := Fr.snoc X458 N453 g_bf
  refine Run.pre (fun _ k => XS.goto X458.here hx rfl (pc0 := 69) (pc' := 22) rfl (hb hby d10_69) (by decide) (by decide) k) ?_
  refine Run.pre (fun _ k => XS.iloadN X458.here hx rfl (hb hby d10_22) rfl  k) ?_
  refine Run.pre (fun _ k => XS.bipush X458.here hx rfl (hb hby d10_23) k) ?_
  show Run p e below s _ _ _ (T458.setTop (mkF m 25 #[.val (.int (-(own_of (((mm / 100) / 100) / 100)))), .val (.int (10 : Int32)), .val (.ref bf), .val (.int (-(own_of (((mm / 100) / 100) / 100)))), .val (.int (own_of (((mm / 100) / 100) % 100))), .val (.int (4 : Int32)), .val (.int (0 : Int32))] [(.int (-100 : Int32)), (.int (-(own_of (((mm / 100) / 100) / 100))))]))
  refine Run.pre (fun _ k => XS.icmpNo X458.here hx rfl (hb hby d10_25) rfl (flt ((own_nltng (show (((mm / 100) / 100) / 100) < 2147483648 by omega) (by have e : ((-100 : Int32)).toInt = -100 := (by decide); omega)) : ¬ ((-100 : Int32) < (-(own_of (((mm / 100) / 100) / 100)))))).2.2.1 k) ?_
  refine Run.pre (fun _ k => XS.iloadN X458.here hx rfl (hb hby d10_28) rfl  k) ?_
  refine Run.pre (fun _ k => XS.bipush X458.here hx rfl (hb hby d10_29) k) ?_
  show Run p e below s _ _ _ (T458.setTop (mkF m 31 #[.val (.int (-(own_of (((mm / 100) / 100) / 100)))), .val (.int (10 : Int32)), .val (.ref bf), .val (.int (-(own_of (((mm / 100) / 100) / 100)))), .val (.int (own_of (((mm / 100) / 100) % 100))), .val (.int (4 : Int32)), .val (.int (0 : Int32))] [(.int (100 : Int32)), (.int (-(own_of (((mm / 100) / 100) / 100))))]))
  refine Run.pre (fun _ k => XS.idiv X458.here hx rfl (hb hby d10_31) rfl (by decide) k) ?_
  show Run p e below s _ _ _ (T458.setTop (mkF m 32 #[.val (.int (-(own_of (((mm / 100) / 100) / 100)))), .val (.int (10 : Int32)), .val (.ref bf), .val (.int (-(own_of (((mm / 100) / 100) / 100)))), .val (.int (own_of (((mm / 100) / 100) % 100))), .val (.int (4 : Int32)), .val (.int (0 : Int32))] [(.int ((-(own_of (((mm / 100) / 100) / 100))) / (100 : Int32)))]))
  refine Run.pre (fun _ k => XS.istoreN X458.here hx rfl (hb hby d10_32) rfl (l' := #[.val (.int (-(own_of (((mm / 100) / 100) / 100)))), .val (.int (10 : Int32)), .val (.ref bf), .val (.int ((-(own_of (((mm / 100) / 100) / 100))) / (100 : Int32))), .val (.int (own_of (((mm / 100) / 100) % 100))), .val (.int (4 : Int32)), .val (.int (0 : Int32))]) rfl k) ?_
  refine Run.pre (fun _ k => XS.iloadN X458.here hx rfl (hb hby d10_33) rfl  k) ?_
  refine Run.pre (fun _ k => XS.bipush X458.here hx rfl (hb hby d10_34) k) ?_
  show Run p e below s _ _ _ (T458.setTop (mkF m 36 #[.val (.int (-(own_of (((mm / 100) / 100) / 100)))), .val (.int (10 : Int32)), .val (.ref bf), .val (.int ((-(own_of (((mm / 100) / 100) / 100))) / (100 : Int32))), .val (.int (own_of (((mm / 100) / 100) % 100))), .val (.int (4 : Int32)), .val (.int (0 : Int32))] [(.int (100 : Int32)), (.int ((-(own_of (((mm / 100) / 100) / 100))) / (100 : Int32)))]))
  refine Run.pre (fun _ k => XS.imul X458.here hx rfl (hb hby d10_36) rfl k) ?_
  refine Run.pre (fun _ k => XS.iloadN X458.here hx rfl (hb hby d10_37) rfl  k) ?_
  show Run p e below s _ _ _ (T458.setTop (mkF m 38 #[.val (.int (-(own_of (((mm / 100) / 100) / 100)))), .val (.int (10 : Int32)), .val (.ref bf), .val (.int ((-(own_of (((mm / 100) / 100) / 100))) / (100 : Int32))), .val (.int (own_of (((mm / 100) / 100) % 100))), .val (.int (4 : Int32)), .val (.int (0 : Int32))] [(.int (-(own_of (((mm / 100) / 100) / 100)))), (.int (((-(own_of (((mm / 100) / 100) / 100))) / (100 : Int32)) * (100 : Int32)))]))
  refine Run.pre (fun _ k => XS.isub X458.here hx rfl (hb hby d10_38) rfl k) ?_
  show Run p e below s _ _ _ (T458.setTop (mkF m 39 #[.val (.int (-(own_of (((mm / 100) / 100) / 100)))), .val (.int (10 : Int32)), .val (.ref bf), .val (.int ((-(own_of (((mm / 100) / 100) / 100))) / (100 : Int32))), .val (.int (own_of (((mm / 100) / 100) % 100))), .val (.int (4 : Int32)), .val (.int (0 : Int32))] [(.int ((((-(own_of (((mm / 100) / 100) / 100))) / (100 : Int32)) * (100 : Int32)) - (-(own_of (((mm / 100) / 100) / 100)))))]))
  refine Run.pre (fun _ k => XS.istore X458.here hx rfl (hb hby d10_39) rfl (l' := #[.val (.int (-(own_of (((mm / 100) / 100) / 100)))), .val (.int (10 : Int32)), .val (.ref bf), .val (.int ((-(own_of (((mm / 100) / 100) / 100))) / (100 : Int32))), .val (.int ((((-(own_of (((mm / 100) / 100) / 100))) / (100 : Int32)) * (100 : Int32)) - (-(own_of (((mm / 100) / 100) / 100))))), .val (.int (4 : Int32)), .val (.int (0 : Int32))]) rfl k) ?_
  refine Run.pre (fun _ k => XS.iloadN X458.here hx rfl (hb hby d10_41) rfl  k) ?_
  show Run p e below s _ _ _ (T458.setTop (mkF m 42 #[.val (.int (-(own_of (((mm / 100) / 100) / 100)))), .val (.int (10 : Int32)), .val (.ref bf), .val (.int ((-(own_of (((mm / 100) / 100) / 100))) / (100 : Int32))), .val (.int ((((-(own_of (((mm / 100) / 100) / 100))) / (100 : Int32)) * (100 : Int32)) - (-(own_of (((mm / 100) / 100) / 100))))), .val (.int (4 : Int32)), .val (.int (0 : Int32))] [(.int ((-(own_of (((mm / 100) / 100) / 100))) / (100 : Int32)))]))
  refine Run.pre (fun _ k => XS.istoreN X458.here hx rfl (hb hby d10_42) rfl (l' := #[.val (.int ((-(own_of (((mm / 100) / 100) / 100))) / (100 : Int32))), .val (.int (10 : Int32)), .val (.ref bf), .val (.int ((-(own_of (((mm / 100) / 100) / 100))) / (100 : Int32))), .val (.int ((((-(own_of (((mm / 100) / 100) / 100))) / (100 : Int32)) * (100 : Int32)) - (-(own_of (((mm / 100) / 100) / 100))))), .val (.int (4 : Int32)), .val (.int (0 : Int32))]) rfl k) ?_
  show Run p e below s _ _ _ (T458.setTop (mkF m 43 #[.val (.int ((-(own_of (((mm / 100) / 100) / 100))) / (100 : Int32))), .val (.int (10 : Int32)), .val (.ref bf), .val (.int ((-(own_of (((mm / 100) / 100) / 100))) / (100 : Int32))), .val (.int ((((-(own_of (((mm / 100) / 100) / 100))) / (100 : Int32)) * (100 : Int32)) - (-(own_of (((mm / 100) / 100) / 100))))), .val (.int (4 : Int32)), .val (.int (0 : Int32))] []))
  rw [own_div (show (((mm / 100) / 100) / 100) < 2147483648 by omega), own_rem (show (((mm / 100) / 100) / 100) < 2147483648 by omega)]
  refine Run.pre (fun _ k => XS.aloadN X458.here hx rfl (hb hby d10_43) rfl rfl k) ?_
  show Run p e below s _ _ _ (T458.setTop (mkF m 44 #[.val (.int (-(own_of ((((mm / 100) / 100) / 100) / 100)))), .val (.int (10 : Int32)), .val (.ref bf), .val (.int (-(own_of ((((mm / 100) / 100) / 100) / 100)))), .val (.int (own_of ((((mm / 100) / 100) / 100) % 100))), .val (.int (4 : Int32)), .val (.int (0 : Int32))] [(.ref bf)]))
  refine Run.pre (fun _ k => XS.iinc X458.here hx rfl (hb hby d10_44) rfl (l' := #[.val (.int (-(own_of ((((mm / 100) / 100) / 100) / 100)))), .val (.int (10 : Int32)), .val (.ref bf), .val (.int (-(own_of ((((mm / 100) / 100) / 100) / 100)))), .val (.int (own_of ((((mm / 100) / 100) / 100) % 100))), .val (.int (3 : Int32)), .val (.int (0 : Int32))]) rfl k) ?_
  refine Run.pre (fun _ k => XS.iload X458.here hx rfl (hb hby d10_47) rfl  k) ?_
  show Run p e below s _ _ _ (T458.setTop (mkF m 49 #[.val (.int (-(own_of ((((mm / 100) / 100) / 100) / 100)))), .val (.int (10 : Int32)), .val (.ref bf), .val (.int (-(own_of ((((mm / 100) / 100) / 100) / 100)))), .val (.int (own_of ((((mm / 100) / 100) / 100) % 100))), .val (.int (3 : Int32)), .val (.int (0 : Int32))] [(.int (3 : Int32)), (.ref bf)]))
  have f459 := (f454.wr W458 g_bf)
  obtain ⟨T460, X460, e460, st460⟩ := getS2 X458 hx hZ hown (host := "") (Or.inl (hw _ (List.mem_of_getElem? (i := 57) rfl))) Via.refl e458 (SO.ext f459.2) (g := (mkF m 49 #[.val (.int (-(own_of ((((mm / 100) / 100) / 100) / 100)))), .val (.int (10 : Int32)), .val (.ref bf), .val (.int (-(own_of ((((mm / 100) / 100) / 100) / 100)))), .val (.int (own_of ((((mm / 100) / 100) / 100) % 100))), .val (.int (3 : Int32)), .val (.int (0 : Int32))] [(.int (3 : Int32)), (.ref bf)])) rfl (hb hby d10_49)
  refine Run.pre st460 ?_
  refine Run.pre (fun _ k => XS.iload X460.here hx rfl (hb hby d10_52) rfl  k) ?_
  show Run p e below s _ _ _ (T460.setTop (mkF m 54 #[.val (.int (-(own_of ((((mm / 100) / 100) / 100) / 100)))), .val (.int (10 : Int32)), .val (.ref bf), .val (.int (-(own_of ((((mm / 100) / 100) / 100) / 100)))), .val (.int (own_of ((((mm / 100) / 100) / 100) % 100))), .val (.int (3 : Int32)), .val (.int (0 : Int32))] [(.int (own_of ((((mm / 100) / 100) / 100) % 100))), (.ref od), (.int (3 : Int32)), (.ref bf)]))
  obtain ⟨c461, Ar461, -, S461, N461, H461, -⟩ := id (AO.ext f459.2)
  have hin461 : ¬ ((own_of ((((mm / 100) / 100) / 100) % 100)) < 0 ∨ c461.slots.size ≤ ((own_of ((((mm / 100) / 100) / 100) % 100))).toNatClampNeg) := inb_of S461 (own_in100 (show ((((mm / 100) / 100) / 100) % 100) < 100 by omega))
  refine Run.pre (X460.baloadBytes hx (j := (own_of ((((mm / 100) / 100) / 100) % 100))) (v := (.int (own_of (48 + ((((mm / 100) / 100) / 100) % 100) % 10)))) (by rw [e460]; exact Ar461.1) (State.isArrayOf_alike hZ.alike Ar461.2.1) Ar461.2.2 hin461 (H461.at hin461 (own_getO (show ((((mm / 100) / 100) / 100) % 100) < 100 by omega))) (g := (mkF m 54 #[.val (.int (-(own_of ((((mm / 100) / 100) / 100) / 100)))), .val (.int (10 : Int32)), .val (.ref bf), .val (.int (-(own_of ((((mm / 100) / 100) / 100) / 100)))), .val (.int (own_of ((((mm / 100) / 100) / 100) % 100))), .val (.int (3 : Int32)), .val (.int (0 : Int32))] [(.int (own_of ((((mm / 100) / 100) / 100) % 100))), (.ref od), (.int (3 : Int32)), (.ref bf)])) rfl rfl (hb hby d10_54)) ?_
  show Run p e below s _ _ _ (T460.setTop (mkF m 55 #[.val (.int (-(own_of ((((mm / 100) / 100) / 100) / 100)))), .val (.int (10 : Int32)), .val (.ref bf), .val (.int (-(own_of ((((mm / 100) / 100) / 100) / 100)))), .val (.int (own_of ((((mm / 100) / 100) / 100) % 100))), .val (.int (3 : Int32)), .val (.int (0 : Int32))] [(.int (own_of (48 + ((((mm / 100) / 100) / 100) % 100) % 10))), (.int (3 : Int32)), (.ref bf)]))
  obtain ⟨c462, Ar462, q462, S462, N462, H462, G462⟩ := id V_bf_458
  have hin462 : ¬ ((3 : Int32) < 0 ∨ c462.slots.size ≤ ((3 : Int32)).toNatClampNeg) := inb_of S462 ⟨by decide, by decide⟩
  obtain ⟨T463, h463, X463, e463, W463, st463⟩ := stB X460 hx hZ e460 Ar462 (j := (3 : Int32)) hin462 (g := (mkF m 55 #[.val (.int (-(own_of ((((mm / 100) / 100) / 100) / 100)))), .val (.int (10 : Int32)), .val (.ref bf), .val (.int (-(own_of ((((mm / 100) / 100) / 100) / 100)))), .val (.int (own_of ((((mm / 100) / 100) / 100) % 100))), .val (.int (3 : Int32)), .val (.int (0 : Int32))] [(.int (own_of (48 + ((((mm / 100) / 100) / 100) % 100) % 10))), (.int (3 : Int32)), (.ref bf)])) rfl rfl (hb hby d10_55)
  refine Run.pre st463 ?_
  have V_bf_463 : Arv Z h463 bf kb .byte (10 : Int32) [(.int (0 : Int32)), (.int (0 : Int32)), (.int (0 : Int32)), (.int (nar .byte (own_of (48 + ((((mm / 100) / 100) / 100) % 100) % 10)))), (.int (nar .byte (own_of (48 + (((mm / 100) / 100) % 100) / 10)))), (.int (nar .byte (own_of (48 + (((mm / 100) / 100) % 100) % 10)))), (.int (nar .byte (own_of (48 + ((mm / 100) % 100) / 10)))), (.int (nar .byte (own_of (48 + ((mm / 100) % 100) % 10)))), (.int (nar .byte (own_of (48 + (mm % 100) / 10)))), (.int (nar .byte (own_of (48 + (mm % 100) % 10))))] (.int (0 : Int32)) := Arv.set Ar462 q462 S462 N462 H462 G462 (fits_nar_byte _) W463 3 rfl (Nat.le_of_ble_eq_true rfl)
  have K463 : Keep h0 h463 [bf] := K458.wr W463 (Or.inl (by simp))
  have N463 := Fr.snoc X463 N458 g_bf
  refine Run.pre (fun _ k => XS.aloadN X463.here hx rfl (hb hby d10_56) rfl rfl k) ?_
  show Run p e below s _ _ _ (T463.setTop (mkF m 57 #[.val (.int (-(own_of ((((mm / 100) / 100) / 100) / 100)))), .val (.int (10 : Int32)), .val (.ref bf), .val (.int (-(own_of ((((mm / 100) / 100) / 100) / 100)))), .val (.int (own_of ((((mm / 100) / 100) / 100) % 100))), .val (.int (3 : Int32)), .val (.int (0 : Int32))] [(.ref bf)]))
  refine Run.pre (fun _ k => XS.iinc X463.here hx rfl (hb hby d10_57) rfl (l' := #[.val (.int (-(own_of ((((mm / 100) / 100) / 100) / 100)))), .val (.int (10 : Int32)), .val (.ref bf), .val (.int (-(own_of ((((mm / 100) / 100) / 100) / 100)))), .val (.int (own_of ((((mm / 100) / 100) / 100) % 100))), .val (.int (2 : Int32)), .val (.int (0 : Int32))]) rfl k) ?_
  refine Run.pre (fun _ k => XS.iload X463.here hx rfl (hb hby d10_60) rfl  k) ?_
  show Run p e below s _ _ _ (T463.setTop (mkF m 62 #[.val (.int (-(own_of ((((mm / 100) / 100) / 100) / 100)))), .val (.int (10 : Int32)), .val (.ref bf), .val (.int (-(own_of ((((mm / 100) / 100) / 100) / 100)))), .val (.int (own_of ((((mm / 100) / 100) / 100) % 100))), .val (.int (2 : Int32)), .val (.int (0 : Int32))] [(.int (2 : Int32)), (.ref bf)]))
  have f464 := (f459.wr W463 g_bf)
  obtain ⟨T465, X465, e465, st465⟩ := getS2 X463 hx hZ hown (host := "") (Or.inl (hw _ (List.mem_of_getElem? (i := 58) rfl))) Via.refl e463 (ST.ext f464.2) (g := (mkF m 62 #[.val (.int (-(own_of ((((mm / 100) / 100) / 100) / 100)))), .val (.int (10 : Int32)), .val (.ref bf), .val (.int (-(own_of ((((mm / 100) / 100) / 100) / 100)))), .val (.int (own_of ((((mm / 100) / 100) / 100) % 100))), .val (.int (2 : Int32)), .val (.int (0 : Int32))] [(.int (2 : Int32)), (.ref bf)])) rfl (hb hby d10_62)
  refine Run.pre st465 ?_
  refine Run.pre (fun _ k => XS.iload X465.here hx rfl (hb hby d10_65) rfl  k) ?_
  show Run p e below s _ _ _ (T465.setTop (mkF m 67 #[.val (.int (-(own_of ((((mm / 100) / 100) / 100) / 100)))), .val (.int (10 : Int32)), .val (.ref bf), .val (.int (-(own_of ((((mm / 100) / 100) / 100) / 100)))), .val (.int (own_of ((((mm / 100) / 100) / 100) % 100))), .val (.int (2 : Int32)), .val (.int (0 : Int32))] [(.int (own_of ((((mm / 100) / 100) / 100) % 100))), (.ref td), (.int (2 : Int32)), (.ref bf)]))
  obtain ⟨c466, Ar466, -, S466, N466, H466, -⟩ := id (AT.ext f464.2)
  have hin466 : ¬ ((own_of ((((mm / 100) / 100) / 100) % 100)) < 0 ∨ c466.slots.size ≤ ((own_of ((((mm / 100) / 100) / 100) % 100))).toNatClampNeg) := inb_of S466 (own_in100 (show ((((mm / 100) / 100) / 100) % 100) < 100 by omega))
  refine Run.pre (X465.baloadBytes hx (j := (own_of ((((mm / 100) / 100) / 100) % 100))) (v := (.int (own_of (48 + ((((mm / 100) / 100) / 100) % 100) / 10)))) (by rw [e465]; exact Ar466.1) (State.isArrayOf_alike hZ.alike Ar466.2.1) Ar466.2.2 hin466 (H466.at hin466 (own_getT (show ((((mm / 100) / 100) / 100) % 100) < 100 by omega))) (g := (mkF m 67 #[.val (.int (-(own_of ((((mm / 100) / 100) / 100) / 100)))), .val (.int (10 : Int32)), .val (.ref bf), .val (.int (-(own_of ((((mm / 100) / 100) / 100) / 100)))), .val (.int (own_of ((((mm / 100) / 100) / 100) % 100))), .val (.int (2 : Int32)), .val (.int (0 : Int32))] [(.int (own_of ((((mm / 100) / 100) / 100) % 100))), (.ref td), (.int (2 : Int32)), (.ref bf)])) rfl rfl (hb hby d10_67)) ?_
  show Run p e below s _ _ _ (T465.setTop (mkF m 68 #[.val (.int (-(own_of ((((mm / 100) / 100) / 100) / 100)))), .val (.int (10 : Int32)), .val (.ref bf), .val (.int (-(own_of ((((mm / 100) / 100) / 100) / 100)))), .val (.int (own_of ((((mm / 100) / 100) / 100) % 100))), .val (.int (2 : Int32)), .val (.int (0 : Int32))] [(.int (own_of (48 + ((((mm / 100) / 100) / 100) % 100) / 10))), (.int (2 : Int32)), (.ref bf)]))
  obtain ⟨c467, Ar467, q467, S467, N467, H467, G467⟩ := id V_bf_463
  have hin467 : ¬ ((2 : Int32) < 0 ∨ c467.slots.size ≤ ((2 : Int32)).toNatClampNeg) := inb_of S467 ⟨by decide, by decide⟩
  obtain ⟨T468, h468, X468, e468, W468, st468⟩ := stB X465 hx hZ e465 Ar467 (j := (2 : Int32)) hin467 (g := (mkF m 68 #[.val (.int (-(own_of ((((mm / 100) / 100) / 100) / 100)))), .val (.int (10 : Int32)), .val (.ref bf), .val (.int (-(own_of ((((mm / 100) / 100) / 100) / 100)))), .val (.int (own_of ((((mm / 100) / 100) / 100) % 100))), .val (.int (2 : Int32)), .val (.int (0 : Int32))] [(.int (own_of (48 + ((((mm / 100) / 100) / 100) % 100) / 10))), (.int (2 : Int32)), (.ref bf)])) rfl rfl (hb hby d10_68)
  refine Run.pre st468 ?_
  have V_bf_468 : Arv Z h468 bf kb .byte (10 : Int32) [(.int (0 : Int32)), (.int (0 : Int32)), (.int (nar .byte (own_of (48 + ((((mm / 100) / 100) / 100) % 100) / 10)))), (.int (nar .byte (own_of (48 + ((((mm / 100) / 100) / 100) % 100) % 10)))), (.int (nar .byte (own_of (48 + (((mm / 100) / 100) % 100) / 10)))), (.int (nar .byte (own_of (48 + (((mm / 100) / 100) % 100) % 10)))), (.int (nar .byte (own_of (48 + ((mm / 100) % 100) / 10)))), (.int (nar .byte (own_of (48 + ((mm / 100) % 100) % 10)))), (.int (nar .byte (own_of (48 + (mm % 100) / 10)))), (.int (nar .byte (own_of (48 + (mm % 100) % 10))))] (.int (0 : Int32)) := Arv.set Ar467 q467 S467 N467 H467 G467 (fits_nar_byte _) W468 2 rfl (Nat.le_of_ble_eq_true rfl)
  have K468 : Keep h0 h468 [bf] := K463.wr W468 (Or.inl (by simp))
  have N468 := Fr.snoc X468 N463 g_bf
  refine Run.pre (fun _ k => XS.goto X468.here hx rfl (pc0 := 69) (pc' := 22) rfl (hb hby d10_69) (by decide) (by decide) k) ?_
  refine Run.pre (fun _ k => XS.iloadN X468.here hx rfl (hb hby d10_22) rfl  k) ?_
  refine Run.pre (fun _ k => XS.bipush X468.here hx rfl (hb hby d10_23) k) ?_
  show Run p e below s _ _ _ (T468.setTop (mkF m 25 #[.val (.int (-(own_of ((((mm / 100) / 100) / 100) / 100)))), .val (.int (10 : Int32)), .val (.ref bf), .val (.int (-(own_of ((((mm / 100) / 100) / 100) / 100)))), .val (.int (own_of ((((mm / 100) / 100) / 100) % 100))), .val (.int (2 : Int32)), .val (.int (0 : Int32))] [(.int (-100 : Int32)), (.int (-(own_of ((((mm / 100) / 100) / 100) / 100))))]))
  refine Run.pre (fun _ k => XS.icmpYes X468.here hx rfl (pc0 := 25) (pc' := 72) rfl (hb hby d10_25) rfl (tlt ((own_ltng (show ((((mm / 100) / 100) / 100) / 100) < 2147483648 by omega) (by have e : ((-100 : Int32)).toInt = -100 := (by decide); omega)) : (-100 : Int32) < (-(own_of ((((mm / 100) / 100) / 100) / 100))))).2.2.1 (by decide) (by decide) k) ?_
  refine Run.pre (fun _ k => XS.aloadN X468.here hx rfl (hb hby d10_72) rfl rfl k) ?_
  show Run p e below s _ _ _ (T468.setTop (mkF m 73 #[.val (.int (-(own_of ((((mm / 100) / 100) / 100) / 100)))), .val (.int (10 : Int32)), .val (.ref bf), .val (.int (-(own_of ((((mm / 100) / 100) / 100) / 100)))), .val (.int (own_of ((((mm / 100) / 100) / 100) % 100))), .val (.int (2 : Int32)), .val (.int (0 : Int32))] [(.ref bf)]))
  refine Run.pre (fun _ k => XS.iinc X468.here hx rfl (hb hby d10_73) rfl (l' := #[.val (.int (-(own_of ((((mm / 100) / 100) / 100) / 100)))), .val (.int (10 : Int32)), .val (.ref bf), .val (.int (-(own_of ((((mm / 100) / 100) / 100) / 100)))), .val (.int (own_of ((((mm / 100) / 100) / 100) % 100))), .val (.int (1 : Int32)), .val (.int (0 : Int32))]) rfl k) ?_
  refine Run.pre (fun _ k => XS.iload X468.here hx rfl (hb hby d10_76) rfl  k) ?_
  show Run p e below s _ _ _ (T468.setTop (mkF m 78 #[.val (.int (-(own_of ((((mm / 100) / 100) / 100) / 100)))), .val (.int (10 : Int32)), .val (.ref bf), .val (.int (-(own_of ((((mm / 100) / 100) / 100) / 100)))), .val (.int (own_of ((((mm / 100) / 100) / 100) % 100))), .val (.int (1 : Int32)), .val (.int (0 : Int32))] [(.int (1 : Int32)), (.ref bf)]))
  have f469 := (f464.wr W468 g_bf)
  obtain ⟨T470, X470, e470, st470⟩ := getS2 X468 hx hZ hown (host := "") (Or.inl (hw _ (List.mem_of_getElem? (i := 57) rfl))) Via.refl e468 (SO.ext f469.2) (g := (mkF m 78 #[.val (.int (-(own_of ((((mm / 100) / 100) / 100) / 100)))), .val (.int (10 : Int32)), .val (.ref bf), .val (.int (-(own_of ((((mm / 100) / 100) / 100) / 100)))), .val (.int (own_of ((((mm / 100) / 100) / 100) % 100))), .val (.int (1 : Int32)), .val (.int (0 : Int32))] [(.int (1 : Int32)), (.ref bf)])) rfl (hb hby d10_78)
  refine Run.pre st470 ?_
  refine Run.pre (fun _ k => XS.iloadN X470.here hx rfl (hb hby d10_81) rfl  k) ?_
  show Run p e below s _ _ _ (T470.setTop (mkF m 82 #[.val (.int (-(own_of ((((mm / 100) / 100) / 100) / 100)))), .val (.int (10 : Int32)), .val (.ref bf), .val (.int (-(own_of ((((mm / 100) / 100) / 100) / 100)))), .val (.int (own_of ((((mm / 100) / 100) / 100) % 100))), .val (.int (1 : Int32)), .val (.int (0 : Int32))] [(.int (-(own_of ((((mm / 100) / 100) / 100) / 100)))), (.ref od), (.int (1 : Int32)), (.ref bf)]))
  refine Run.pre (fun _ k => XS.ineg X470.here hx rfl (hb hby d10_82) rfl k) ?_
  show Run p e below s _ _ _ (T470.setTop (mkF m 83 #[.val (.int (-(own_of ((((mm / 100) / 100) / 100) / 100)))), .val (.int (10 : Int32)), .val (.ref bf), .val (.int (-(own_of ((((mm / 100) / 100) / 100) / 100)))), .val (.int (own_of ((((mm / 100) / 100) / 100) % 100))), .val (.int (1 : Int32)), .val (.int (0 : Int32))] [(.int (-(-(own_of ((((mm / 100) / 100) / 100) / 100))))), (.ref od), (.int (1 : Int32)), (.ref bf)]))
  obtain ⟨c471, Ar471, -, S471, N471, H471, -⟩ := id (AO.ext f469.2)
  have hin471 : ¬ ((-(-(own_of ((((mm / 100) / 100) / 100) / 100)))) < 0 ∨ c471.slots.size ≤ ((-(-(own_of ((((mm / 100) / 100) / 100) / 100))))).toNatClampNeg) := inb_of S471 (by rw [Int32.neg_neg]; exact own_in100 (show ((((mm / 100) / 100) / 100) / 100) < 100 by omega))
  refine Run.pre (X470.baloadBytes hx (j := (-(-(own_of ((((mm / 100) / 100) / 100) / 100))))) (v := (.int (own_of (48 + ((((mm / 100) / 100) / 100) / 100) % 10)))) (by rw [e470]; exact Ar471.1) (State.isArrayOf_alike hZ.alike Ar471.2.1) Ar471.2.2 hin471 (H471.at hin471 (by rw [Int32.neg_neg]; exact own_getO (show ((((mm / 100) / 100) / 100) / 100) < 100 by omega))) (g := (mkF m 83 #[.val (.int (-(own_of ((((mm / 100) / 100) / 100) / 100)))), .val (.int (10 : Int32)), .val (.ref bf), .val (.int (-(own_of ((((mm / 100) / 100) / 100) / 100)))), .val (.int (own_of ((((mm / 100) / 100) / 100) % 100))), .val (.int (1 : Int32)), .val (.int (0 : Int32))] [(.int (-(-(own_of ((((mm / 100) / 100) / 100) / 100))))), (.ref od), (.int (1 : Int32)), (.ref bf)])) rfl rfl (hb hby d10_83)) ?_
  show Run p e below s _ _ _ (T470.setTop (mkF m 84 #[.val (.int (-(own_of ((((mm / 100) / 100) / 100) / 100)))), .val (.int (10 : Int32)), .val (.ref bf), .val (.int (-(own_of ((((mm / 100) / 100) / 100) / 100)))), .val (.int (own_of ((((mm / 100) / 100) / 100) % 100))), .val (.int (1 : Int32)), .val (.int (0 : Int32))] [(.int (own_of (48 + ((((mm / 100) / 100) / 100) / 100) % 10))), (.int (1 : Int32)), (.ref bf)]))
  obtain ⟨c472, Ar472, q472, S472, N472, H472, G472⟩ := id V_bf_468
  have hin472 : ¬ ((1 : Int32) < 0 ∨ c472.slots.size ≤ ((1 : Int32)).toNatClampNeg) := inb_of S472 ⟨by decide, by decide⟩
  obtain ⟨T473, h473, X473, e473, W473, st473⟩ := stB X470 hx hZ e470 Ar472 (j := (1 : Int32)) hin472 (g := (mkF m 84 #[.val (.int (-(own_of ((((mm / 100) / 100) / 100) / 100)))), .val (.int (10 : Int32)), .val (.ref bf), .val (.int (-(own_of ((((mm / 100) / 100) / 100) / 100)))), .val (.int (own_of ((((mm / 100) / 100) / 100) % 100))), .val (.int (1 : Int32)), .val (.int (0 : Int32))] [(.int (own_of (48 + ((((mm / 100) / 100) / 100) / 100) % 10))), (.int (1 : Int32)), (.ref bf)])) rfl rfl (hb hby d10_84)
  refine Run.pre st473 ?_
  have V_bf_473 : Arv Z h473 bf kb .byte (10 : Int32) [(.int (0 : Int32)), (.int (nar .byte (own_of (48 + ((((mm / 100) / 100) / 100) / 100) % 10)))), (.int (nar .byte (own_of (48 + ((((mm / 100) / 100) / 100) % 100) / 10)))), (.int (nar .byte (own_of (48 + ((((mm / 100) / 100) / 100) % 100) % 10)))), (.int (nar .byte (own_of (48 + (((mm / 100) / 100) % 100) / 10)))), (.int (nar .byte (own_of (48 + (((mm / 100) / 100) % 100) % 10)))), (.int (nar .byte (own_of (48 + ((mm / 100) % 100) / 10)))), (.int (nar .byte (own_of (48 + ((mm / 100) % 100) % 10)))), (.int (nar .byte (own_of (48 + (mm % 100) / 10)))), (.int (nar .byte (own_of (48 + (mm % 100) % 10))))] (.int (0 : Int32)) := Arv.set Ar472 q472 S472 N472 H472 G472 (fits_nar_byte _) W473 1 rfl (Nat.le_of_ble_eq_true rfl)
  have K473 : Keep h0 h473 [bf] := K468.wr W473 (Or.inl (by simp))
  have N473 := Fr.snoc X473 N468 g_bf
  refine Run.pre (fun _ k => XS.iloadN X473.here hx rfl (hb hby d10_85) rfl  k) ?_
  refine Run.pre (fun _ k => XS.bipush X473.here hx rfl (hb hby d10_86) k) ?_
  show Run p e below s _ _ _ (T473.setTop (mkF m 88 #[.val (.int (-(own_of ((((mm / 100) / 100) / 100) / 100)))), .val (.int (10 : Int32)), .val (.ref bf), .val (.int (-(own_of ((((mm / 100) / 100) / 100) / 100)))), .val (.int (own_of ((((mm / 100) / 100) / 100) % 100))), .val (.int (1 : Int32)), .val (.int (0 : Int32))] [(.int (-9 : Int32)), (.int (-(own_of ((((mm / 100) / 100) / 100) / 100))))]))
  refine Run.pre (fun _ k => XS.icmpNo X473.here hx rfl (hb hby d10_88) rfl (tlt ((own_nglt (show ((((mm / 100) / 100) / 100) / 100) < 2147483648 by omega) (by have e : ((-9 : Int32)).toInt = -9 := (by decide); omega)) : (-(own_of ((((mm / 100) / 100) / 100) / 100))) < (-9 : Int32))).2.1 k) ?_
  refine Run.pre (fun _ k => XS.aloadN X473.here hx rfl (hb hby d10_91) rfl rfl k) ?_
  show Run p e below s _ _ _ (T473.setTop (mkF m 92 #[.val (.int (-(own_of ((((mm / 100) / 100) / 100) / 100)))), .val (.int (10 : Int32)), .val (.ref bf), .val (.int (-(own_of ((((mm / 100) / 100) / 100) / 100)))), .val (.int (own_of ((((mm / 100) / 100) / 100) % 100))), .val (.int (1 : Int32)), .val (.int (0 : Int32))] [(.ref bf)]))
  refine Run.pre (fun _ k => XS.iinc X473.here hx rfl (hb hby d10_92) rfl (l' := #[.val (.int (-(own_of ((((mm / 100) / 100) / 100) / 100)))), .val (.int (10 : Int32)), .val (.ref bf), .val (.int (-(own_of ((((mm / 100) / 100) / 100) / 100)))), .val (.int (own_of ((((mm / 100) / 100) / 100) % 100))), .val (.int (0 : Int32)), .val (.int (0 : Int32))]) rfl k) ?_
  refine Run.pre (fun _ k => XS.iload X473.here hx rfl (hb hby d10_95) rfl  k) ?_
  show Run p e below s _ _ _ (T473.setTop (mkF m 97 #[.val (.int (-(own_of ((((mm / 100) / 100) / 100) / 100)))), .val (.int (10 : Int32)), .val (.ref bf), .val (.int (-(own_of ((((mm / 100) / 100) / 100) / 100)))), .val (.int (own_of ((((mm / 100) / 100) / 100) % 100))), .val (.int (0 : Int32)), .val (.int (0 : Int32))] [(.int (0 : Int32)), (.ref bf)]))
  have f474 := (f469.wr W473 g_bf)
  obtain ⟨T475, X475, e475, st475⟩ := getS2 X473 hx hZ hown (host := "") (Or.inl (hw _ (List.mem_of_getElem? (i := 58) rfl))) Via.refl e473 (ST.ext f474.2) (g := (mkF m 97 #[.val (.int (-(own_of ((((mm / 100) / 100) / 100) / 100)))), .val (.int (10 : Int32)), .val (.ref bf), .val (.int (-(own_of ((((mm / 100) / 100) / 100) / 100)))), .val (.int (own_of ((((mm / 100) / 100) / 100) % 100))), .val (.int (0 : Int32)), .val (.int (0 : Int32))] [(.int (0 : Int32)), (.ref bf)])) rfl (hb hby d10_97)
  refine Run.pre st475 ?_
  refine Run.pre (fun _ k => XS.iloadN X475.here hx rfl (hb hby d10_100) rfl  k) ?_
  show Run p e below s _ _ _ (T475.setTop (mkF m 101 #[.val (.int (-(own_of ((((mm / 100) / 100) / 100) / 100)))), .val (.int (10 : Int32)), .val (.ref bf), .val (.int (-(own_of ((((mm / 100) / 100) / 100) / 100)))), .val (.int (own_of ((((mm / 100) / 100) / 100) % 100))), .val (.int (0 : Int32)), .val (.int (0 : Int32))] [(.int (-(own_of ((((mm / 100) / 100) / 100) / 100)))), (.ref td), (.int (0 : Int32)), (.ref bf)]))
  refine Run.pre (fun _ k => XS.ineg X475.here hx rfl (hb hby d10_101) rfl k) ?_
  show Run p e below s _ _ _ (T475.setTop (mkF m 102 #[.val (.int (-(own_of ((((mm / 100) / 100) / 100) / 100)))), .val (.int (10 : Int32)), .val (.ref bf), .val (.int (-(own_of ((((mm / 100) / 100) / 100) / 100)))), .val (.int (own_of ((((mm / 100) / 100) / 100) % 100))), .val (.int (0 : Int32)), .val (.int (0 : Int32))] [(.int (-(-(own_of ((((mm / 100) / 100) / 100) / 100))))), (.ref td), (.int (0 : Int32)), (.ref bf)]))
  obtain ⟨c476, Ar476, -, S476, N476, H476, -⟩ := id (AT.ext f474.2)
  have hin476 : ¬ ((-(-(own_of ((((mm / 100) / 100) / 100) / 100)))) < 0 ∨ c476.slots.size ≤ ((-(-(own_of ((((mm / 100) / 100) / 100) / 100))))).toNatClampNeg) := inb_of S476 (by rw [Int32.neg_neg]; exact own_in100 (show ((((mm / 100) / 100) / 100) / 100) < 100 by omega))
  refine Run.pre (X475.baloadBytes hx (j := (-(-(own_of ((((mm / 100) / 100) / 100) / 100))))) (v := (.int (own_of (48 + ((((mm / 100) / 100) / 100) / 100) / 10)))) (by rw [e475]; exact Ar476.1) (State.isArrayOf_alike hZ.alike Ar476.2.1) Ar476.2.2 hin476 (H476.at hin476 (by rw [Int32.neg_neg]; exact own_getT (show ((((mm / 100) / 100) / 100) / 100) < 100 by omega))) (g := (mkF m 102 #[.val (.int (-(own_of ((((mm / 100) / 100) / 100) / 100)))), .val (.int (10 : Int32)), .val (.ref bf), .val (.int (-(own_of ((((mm / 100) / 100) / 100) / 100)))), .val (.int (own_of ((((mm / 100) / 100) / 100) % 100))), .val (.int (0 : Int32)), .val (.int (0 : Int32))] [(.int (-(-(own_of ((((mm / 100) / 100) / 100) / 100))))), (.ref td), (.int (0 : Int32)), (.ref bf)])) rfl rfl (hb hby d10_102)) ?_
  show Run p e below s _ _ _ (T475.setTop (mkF m 103 #[.val (.int (-(own_of ((((mm / 100) / 100) / 100) / 100)))), .val (.int (10 : Int32)), .val (.ref bf), .val (.int (-(own_of ((((mm / 100) / 100) / 100) / 100)))), .val (.int (own_of ((((mm / 100) / 100) / 100) % 100))), .val (.int (0 : Int32)), .val (.int (0 : Int32))] [(.int (own_of (48 + ((((mm / 100) / 100) / 100) / 100) / 10))), (.int (0 : Int32)), (.ref bf)]))
  obtain ⟨c477, Ar477, q477, S477, N477, H477, G477⟩ := id V_bf_473
  have hin477 : ¬ ((0 : Int32) < 0 ∨ c477.slots.size ≤ ((0 : Int32)).toNatClampNeg) := inb_of S477 ⟨by decide, by decide⟩
  obtain ⟨T478, h478, X478, e478, W478, st478⟩ := stB X475 hx hZ e475 Ar477 (j := (0 : Int32)) hin477 (g := (mkF m 103 #[.val (.int (-(own_of ((((mm / 100) / 100) / 100) / 100)))), .val (.int (10 : Int32)), .val (.ref bf), .val (.int (-(own_of ((((mm / 100) / 100) / 100) / 100)))), .val (.int (own_of ((((mm / 100) / 100) / 100) % 100))), .val (.int (0 : Int32)), .val (.int (0 : Int32))] [(.int (own_of (48 + ((((mm / 100) / 100) / 100) / 100) / 10))), (.int (0 : Int32)), (.ref bf)])) rfl rfl (hb hby d10_103)
  refine Run.pre st478 ?_
  have V_bf_478 : Arv Z h478 bf kb .byte (10 : Int32) [(.int (nar .byte (own_of (48 + ((((mm / 100) / 100) / 100) / 100) / 10)))), (.int (nar .byte (own_of (48 + ((((mm / 100) / 100) / 100) / 100) % 10)))), (.int (nar .byte (own_of (48 + ((((mm / 100) / 100) / 100) % 100) / 10)))), (.int (nar .byte (own_of (48 + ((((mm / 100) / 100) / 100) % 100) % 10)))), (.int (nar .byte (own_of (48 + (((mm / 100) / 100) % 100) / 10)))), (.int (nar .byte (own_of (48 + (((mm / 100) / 100) % 100) % 10)))), (.int (nar .byte (own_of (48 + ((mm / 100) % 100) / 10)))), (.int (nar .byte (own_of (48 + ((mm / 100) % 100) % 10)))), (.int (nar .byte (own_of (48 + (mm % 100) / 10)))), (.int (nar .byte (own_of (48 + (mm % 100) % 10))))] (.int (0 : Int32)) := Arv.set Ar477 q477 S477 N477 H477 G477 (fits_nar_byte _) W478 0 rfl (Nat.le_of_ble_eq_true rfl)
  have K478 : Keep h0 h478 [bf] := K473.wr W478 (Or.inl (by simp))
  have N478 := Fr.snoc X478 N473 g_bf
  refine Run.pre (fun _ k => XS.iload X478.here hx rfl (hb hby d10_104) rfl  k) ?_
  show Run p e below s _ _ _ (T478.setTop (mkF m 106 #[.val (.int (-(own_of ((((mm / 100) / 100) / 100) / 100)))), .val (.int (10 : Int32)), .val (.ref bf), .val (.int (-(own_of ((((mm / 100) / 100) / 100) / 100)))), .val (.int (own_of ((((mm / 100) / 100) / 100) % 100))), .val (.int (0 : Int32)), .val (.int (0 : Int32))] [(.int (0 : Int32))]))
  refine Run.pre (fun _ k => XS.ifYes X478.here hx rfl (pc0 := 106) (pc' := 118) rfl (hb hby d10_106) rfl ((if0 _ _).trans (teq ((by decide) : (0 : Int32) = (0 : Int32))).1) (by decide) (by decide) k) ?_
  refine Run.pre (fun _ k => XS.iload X478.here hx rfl (hb hby d10_118) rfl  k) ?_
  show Run p e below s _ _ _ (T478.setTop (mkF m 120 #[.val (.int (-(own_of ((((mm / 100) / 100) / 100) / 100)))), .val (.int (10 : Int32)), .val (.ref bf), .val (.int (-(own_of ((((mm / 100) / 100) / 100) / 100)))), .val (.int (own_of ((((mm / 100) / 100) / 100) % 100))), .val (.int (0 : Int32)), .val (.int (0 : Int32))] [(.int (0 : Int32))]))
  exact Run.retI hS (by first | exact Nat.le_refl _ | (rw [e478]; exact (Nat.le_trans (Nat.le_trans (Nat.le_trans (Nat.le_trans (Nat.le_trans (Nat.le_trans (Nat.le_trans (Nat.le_trans (Nat.le_trans (Nat.le_trans (Nat.zero_le _) (Keep.of_wr W433).1) (Keep.of_wr W438).1) (Keep.of_wr W443).1) (Keep.of_wr W448).1) (Keep.of_wr W453).1) (Keep.of_wr W458).1) (Keep.of_wr W463).1) (Keep.of_wr W468).1) (Keep.of_wr W473).1) (Keep.of_wr W478).1))) X478 hx hret hlk (hb hby d10_120) (by first | (rw [e478]; exact ⟨rfl, N478, K478, V_bf_478⟩) | exact ⟨rfl, N478, K478, V_bf_478⟩) (by decide) (by decide)
set_option maxRecDepth 65536 in
set_option maxHeartbeats 40000000 in
theorem rmTS_10 (l : Launch) (Z : State) (a0 : Array Value) (hw : ∀ d ∈ tables_1, d.before a0 Z = true) (mm : Nat) (cs : Int32) (od : Addr) (ko : ClassId) (td : Addr) (kt : ClassId) (h0 : Heap) (n0 : Nat) (Z0 : n0 ≤ h0.size) (OL : Old Z n0 h0) (hm : mm < 2147483648) (lo : 1000000000 ≤ mm) (hi : mm < 10000000000) (SC : Sta Z Z.heap "java/lang/String" "COMPACT_STRINGS" "Z" (.int cs)) (hcs : ¬ cs = 0) (SO : Sta Z Z.heap "java/lang/Integer" "DigitOnes" "[B" (.ref od)) (ST : Sta Z Z.heap "java/lang/Integer" "DigitTens" "[B" (.ref td)) (AO : Arv Z Z.heap od ko .byte 100 own_DO (.int 0)) (AT : Arv Z Z.heap td kt .byte 100 own_DT (.int 0)) :
    Con l (⟨"java/lang/Integer", "toString", "(I)Ljava/lang/String;"⟩ : MethodName) jdk_33_method_10_code 3 (some (.object "java/lang/String")) ({ frames := 2, cells := 2, slots := 14, locals := 27 } : Room) Z #[(.int (own_of mm))] h0 (fun _ => True) (fun v h L vm => ∃ o : Addr, ∃ b : Addr, ∃ k : ClassId, v = some (.ref o) ∧ Fr n0 L ∧ Keep h0 h [] ∧ h0.size ≤ o ∧ Exa Z h o "java/lang/String" ∧ Fld Z h o "java/lang/String" "value" "[B" (.ref b) ∧ Fld Z h o "java/lang/String" "coder" "B" (.int 0) ∧ Arv Z h b k .byte 10 [(.int (nar .byte (own_of (48 + ((((mm / 100) / 100) / 100) / 100) / 10)))), (.int (nar .byte (own_of (48 + ((((mm / 100) / 100) / 100) / 100) % 10)))), (.int (nar .byte (own_of (48 + ((((mm / 100) / 100) / 100) % 100) / 10)))), (.int (nar .byte (own_of (48 + ((((mm / 100) / 100) / 100) % 100) % 10)))), (.int (nar .byte (own_of (48 + (((mm / 100) / 100) % 100) / 10)))), (.int (nar .byte (own_of (48 + (((mm / 100) / 100) % 100) % 10)))), (.int (nar .byte (own_of (48 + ((mm / 100) % 100) / 10)))), (.int (nar .byte (own_of (48 + ((mm / 100) % 100) % 10)))), (.int (nar .byte (own_of (48 + (mm % 100) / 10)))), (.int (nar .byte (own_of (48 + (mm % 100) % 10))))] (.int 0)) := by
  refine Con.mk (plainFor_of_name pn_8) (fun m => show entryFrame m #[(.int (own_of mm))] 3 = mkF m 0 #[.val (.int (own_of mm)), .unset, .unset] [] by first | (simp [entryFrame, mkF, argsToLocals, Value.category]; done) | rfl) ?_
  intro p e s m below meth c s₁ vm0 hx hby hml hown hnm hret hlk hZ X0 e0 hS hs0 hP0
  have N0 := Fr.nil n0
  refine Run.pre (fun _ k => XS.iloadN X0.here hx rfl (hb hby d8_0) rfl  k) ?_
  show Run p e below s _ _ _ (s₁.setTop (mkF m 1 #[.val (.int (own_of mm)), .unset, .unset] [(.int (own_of mm))]))
  refine Run.callS hS (by first | exact Nat.le_refl _ | (rw [e0]; exact (Nat.zero_le _))) X0 hx hZ (y := (⟨"java/lang/Integer", "stringSize", "(I)I"⟩ : MethodName)) hown (hw _ (List.mem_of_getElem? (i := 50) rfl)) (hw _ (List.mem_of_getElem? (i := 51) rfl)) (hw _ (List.mem_of_getElem? (i := 21) rfl)) (hw _ (List.mem_of_getElem? (i := 52) rfl)) (by decide) (W := 0) (rmSS l Z a0 hw mm h0 n0 (Nat.le_trans Z0 (Keep.refl h0 []).1) hm) e0 (by decide) (by decide) (by decide) (by decide) (fun _ _ => trivial) (g := (mkF m 1 #[.val (.int (own_of mm)), .unset, .unset] [(.int (own_of mm))])) rfl (by rw [hml]; rfl) (argsL := [(.int (own_of mm))]) (rest := []) (lenOf pd_8 rfl) rfl (by show 2 * 0 + _ ≤ _; exact Nat.le_of_eq rfl) (hb hby d8_1) ?_
  intro v479 T479 L479 X479 hS hZ hown hV479 hQ479
  obtain ⟨rfl, Nq479, he479⟩ := hQ479
  have N479 := Fr.app N0 Nq479
  have e479 : T479.heap = h0 := he479
  rw [own_dgt_10 lo hi]
  show Run p e below s _ _ _ (T479.setTop (mkF m 4 #[.val (.int (own_of mm)), .unset, .unset] [(.int (10 : Int32))]))
  refine Run.pre (fun _ k => XS.istoreN X479.here hx rfl (hb hby d8_4) rfl (l' := #[.val (.int (own_of mm)), .val (.int (10 : Int32)), .unset]) rfl k) ?_
  show Run p e below s _ _ _ (T479.setTop (mkF m 5 #[.val (.int (own_of mm)), .val (.int (10 : Int32)), .unset] []))
  obtain ⟨T480, X480, e480, st480⟩ := getS2 X479 hx hZ hown (host := "") (Or.inl (hw _ (List.mem_of_getElem? (i := 53) rfl))) Via.refl e479 (SC.ext OL.2) (g := (mkF m 5 #[.val (.int (own_of mm)), .val (.int (10 : Int32)), .unset] [])) rfl (hb hby d8_5)
  refine Run.pre st480 ?_
  show Run p e below s _ _ _ (T480.setTop (mkF m 8 #[.val (.int (own_of mm)), .val (.int (10 : Int32)), .unset] [(.int cs)]))
  refine Run.pre (fun _ k => XS.ifNo X480.here hx rfl (hb hby d8_8) rfl ((if0 _ _).trans (feq (hcs : ¬ (cs = (0 : Int32)))).1) k) ?_
  refine Run.pre (fun _ k => XS.iloadN X480.here hx rfl (hb hby d8_11) rfl  k) ?_
  show Run p e below s _ _ _ (T480.setTop (mkF m 12 #[.val (.int (own_of mm)), .val (.int (10 : Int32)), .unset] [(.int (10 : Int32))]))
  obtain ⟨T481, h481, k481, X481, e481, E481, A481, st481⟩ := newP X480 hx hZ (hw _ (List.mem_of_getElem? (i := 7) rfl)) e480 (g := (mkF m 12 #[.val (.int (own_of mm)), .val (.int (10 : Int32)), .unset] [(.int (10 : Int32))])) rfl (hb hby d8_12) rfl (by decide) (cap := 10) (by decide) (by decide) (by decide) (by decide)
  obtain ⟨b481, g481⟩ : ∃ z, z = h0.size := ⟨_, rfl⟩
  rw [← g481] at A481 st481
  refine Run.pre st481 ?_
  have V_b481 : Arv Z h481 b481 k481 .byte (10 : Int32) [(.int (0 : Int32)), (.int (0 : Int32)), (.int (0 : Int32)), (.int (0 : Int32)), (.int (0 : Int32)), (.int (0 : Int32)), (.int (0 : Int32)), (.int (0 : Int32)), (.int (0 : Int32)), (.int (0 : Int32))] (.int (0 : Int32)) := (Arv.new A481 (by decide)).pad (pad_rep [] (.int (0 : Int32)) 10)
  have gn_b481 : n0 ≤ b481 := Nat.le_trans (Nat.le_trans Z0 (Keep.refl h0 []).1) (Nat.le_of_eq g481.symm)
  have sz_b481 : h0.size ≤ b481 := Nat.le_trans (Keep.refl h0 []).1 (Nat.le_of_eq g481.symm)
  have K481 : Keep h0 h481 [] := (Keep.refl h0 []).ext E481
  show Run p e below s _ _ _ (T481.setTop (mkF m 14 #[.val (.int (own_of mm)), .val (.int (10 : Int32)), .unset] [(.ref b481)]))
  refine Run.pre (fun _ k => XS.astoreN X481.here hx rfl (hb hby d8_14) rfl rfl (l' := #[.val (.int (own_of mm)), .val (.int (10 : Int32)), .val (.ref b481)]) rfl k) ?_
  refine Run.pre (fun _ k => XS.iloadN X481.here hx rfl (hb hby d8_15) rfl  k) ?_
  refine Run.pre (fun _ k => XS.iloadN X481.here hx rfl (hb hby d8_16) rfl  k) ?_
  refine Run.pre (fun _ k => XS.aloadN X481.here hx rfl (hb hby d8_17) rfl rfl k) ?_
  show Run p e below s _ _ _ (T481.setTop (mkF m 18 #[.val (.int (own_of mm)), .val (.int (10 : Int32)), .val (.ref b481)] [(.ref b481), (.int (10 : Int32)), (.int (own_of mm))]))
  have f482 := (OL.ext E481)
  refine Run.callS hS (by first | exact Nat.le_refl _ | (rw [e481]; exact (Nat.le_trans (Nat.le_of_eq (congrArg Array.size e479)) E481.1))) X481 hx hZ (y := (⟨"java/lang/Integer", "getChars", "(II[B)I"⟩ : MethodName)) hown (hw _ (List.mem_of_getElem? (i := 54) rfl)) (hw _ (List.mem_of_getElem? (i := 55) rfl)) (hw _ (List.mem_of_getElem? (i := 21) rfl)) (hw _ (List.mem_of_getElem? (i := 56) rfl)) (by decide) (W := 0) (rmGC_10 l Z a0 hw mm od ko td kt b481 k481 h481 n0 (Nat.le_trans Z0 K481.1) f482 hm lo hi SO ST AO AT V_b481 gn_b481) e481 (by decide) (by decide) (by decide) (by decide) (fun _ _ => trivial) (g := (mkF m 18 #[.val (.int (own_of mm)), .val (.int (10 : Int32)), .val (.ref b481)] [(.ref b481), (.int (10 : Int32)), (.int (own_of mm))])) rfl (by rw [hml]; rfl) (argsL := [(.int (own_of mm)), (.int (10 : Int32)), (.ref b481)]) (rest := []) (lenOf pd_9 rfl) rfl (by show 2 * 0 + _ ≤ _; exact Nat.le_of_eq rfl) (hb hby d8_18) ?_
  intro v483 T483 L483 X483 hS hZ hown hV483 hQ483
  obtain ⟨rfl, Nq483, Kc483, vb483⟩ := hQ483
  have N483 := Fr.app N479 Nq483
  have K483 : Keep h0 T483.heap [] := K481.trans Kc483 (allS (Or.inr sz_b481) all0)
  show Run p e below s _ _ _ (T483.setTop (mkF m 21 #[.val (.int (own_of mm)), .val (.int (10 : Int32)), .val (.ref b481)] [(.int (0 : Int32))]))
  refine Run.pre (fun _ k => XS.pop X483.here hx rfl (hb hby d8_21) rfl rfl k) ?_
  show Run p e below s _ _ _ (T483.setTop (mkF m 22 #[.val (.int (own_of mm)), .val (.int (10 : Int32)), .val (.ref b481)] []))
  obtain ⟨T484, h484, X484, e484, E484, A484, D484, -, st484⟩ := newO X483 hx hZ hown (hw _ (List.mem_of_getElem? (i := 59) rfl)) (hw _ (List.mem_of_getElem? (i := 6) rfl)) (hw _ (List.mem_of_getElem? (i := 5) rfl)) rfl (g := (mkF m 22 #[.val (.int (own_of mm)), .val (.int (10 : Int32)), .val (.ref b481)] [])) rfl (hb hby d8_22) (by decide) (by decide)
  obtain ⟨b484, g484⟩ : ∃ z, z = T483.heap.size := ⟨_, rfl⟩
  rw [← g484] at A484 D484 st484
  refine Run.pre st484 ?_
  have gn_b484 : n0 ≤ b484 := Nat.le_trans (Nat.le_trans Z0 K483.1) (Nat.le_of_eq g484.symm)
  have sz_b484 : h0.size ≤ b484 := Nat.le_trans K483.1 (Nat.le_of_eq g484.symm)
  have K484 : Keep h0 h484 [] := K483.ext E484
  have F_value_b484 : Fld Z h484 b484 "java/lang/String" "value" "[B" .null := D484 (Or.inr (hw _ (List.mem_of_getElem? (i := 8) rfl))) (ty := (.array .byte)) (by decide)
  have F_coder_b484 : Fld Z h484 b484 "java/lang/String" "coder" "B" (.int (0 : Int32)) := D484 (Or.inr (hw _ (List.mem_of_getElem? (i := 9) rfl))) (ty := .byte) (by decide)
  refine Run.pre (fun _ k => XS.dup X484.here hx rfl (hb hby d8_25) rfl rfl k) ?_
  refine Run.pre (fun _ k => XS.aloadN X484.here hx rfl (hb hby d8_26) rfl rfl k) ?_
  refine Run.pre (fun _ k => XS.iconst X484.here hx rfl (hb hby d8_27) k) ?_
  show Run p e below s _ _ _ (T484.setTop (mkF m 28 #[.val (.int (own_of mm)), .val (.int (10 : Int32)), .val (.ref b481)] [(.int (0 : Int32)), (.ref b481), (.ref b484), (.ref b484)]))
  refine Run.callI hS (by first | exact Nat.le_refl _ | (rw [e484]; exact (Nat.le_trans (Nat.le_refl _) E484.1))) X484 hx hZ (y := (⟨"java/lang/String", "<init>", "([BB)V"⟩ : MethodName)) rfl hown (hw _ (List.mem_of_getElem? (i := 60) rfl)) (hw _ (List.mem_of_getElem? (i := 61) rfl)) (hw _ (List.mem_of_getElem? (i := 63) rfl)) (hw _ (List.mem_of_getElem? (i := 5) rfl)) (by decide) (a := b484) (W := 1) (rmBB l Z a0 hw b484 b481 h484 n0 (Nat.le_trans Z0 K484.1) A484 F_value_b484 F_coder_b484 gn_b484) e484 (by decide) (by decide) (by decide) (by decide) (fun _ _ => trivial) (g := (mkF m 28 #[.val (.int (own_of mm)), .val (.int (10 : Int32)), .val (.ref b481)] [(.int (0 : Int32)), (.ref b481), (.ref b484), (.ref b484)])) rfl (by rw [hml]; rfl) (argsL := [(.ref b481), (.int (0 : Int32))]) (rest := [(.ref b484)]) (lenOf pd_10 rfl) rfl (by show 2 * 0 + _ ≤ _; exact Nat.le_of_eq rfl) (hb hby d8_28) ?_
  intro v485 T485 L485 X485 hS hZ hown hV485 hQ485
  obtain ⟨rfl, Nq485, Kc485, fv485, fc485⟩ := hQ485
  have N485 := Fr.app N483 Nq485
  have K485 : Keep h0 T485.heap [] := K484.trans Kc485 (allS (Or.inr sz_b484) all0)
  show Run p e below s _ _ _ (T485.setTop (mkF m 31 #[.val (.int (own_of mm)), .val (.int (10 : Int32)), .val (.ref b481)] [(.ref b484)]))
  have f486 := (A484.keep Kc485)
  have f487 := ((vb483.ext E484).keep Kc485 (ninS (Nat.ne_of_lt (Nat.lt_of_lt_of_le vb483.lt (Nat.le_of_eq g484.symm))) nin0))
  exact Run.retA hS (Nat.le_refl _) X485 hx hret rfl rfl hlk (hb hby d8_31) ⟨b484, b481, k481, rfl, N485, K485, sz_b484, f486, fv485, fc485, f487⟩ (by decide) (by decide)
theorem own_good_10 {mm : Nat} (hm : mm < 2147483648) (lo : 1000000000 ≤ mm) (hi : mm < 10000000000) : own_good mm [(.int (nar .byte (own_of (48 + ((((mm / 100) / 100) / 100) / 100) / 10)))), (.int (nar .byte (own_of (48 + ((((mm / 100) / 100) / 100) / 100) % 10)))), (.int (nar .byte (own_of (48 + ((((mm / 100) / 100) / 100) % 100) / 10)))), (.int (nar .byte (own_of (48 + ((((mm / 100) / 100) / 100) % 100) % 10)))), (.int (nar .byte (own_of (48 + (((mm / 100) / 100) % 100) / 10)))), (.int (nar .byte (own_of (48 + (((mm / 100) / 100) % 100) % 10)))), (.int (nar .byte (own_of (48 + ((mm / 100) % 100) / 10)))), (.int (nar .byte (own_of (48 + ((mm / 100) % 100) % 10)))), (.int (nar .byte (own_of (48 + (mm % 100) / 10)))), (.int (nar .byte (own_of (48 + (mm % 100) % 10))))] :=
  ⟨Or.inr ⟨by rw [own_dgt_10 lo hi]; decide, by rw [own_dgt_10 lo hi]; decide, by rw [own_dgt_10 lo hi]; decide, nar .byte (own_of (48 + (mm % 100) % 10)), by rw [own_dgt_10 lo hi]; rfl, own_heq hm (q := 1) rfl (by decide) (by decide) (by omega)⟩,
   Or.inr ⟨by rw [own_dgt_10 lo hi]; decide, by rw [own_dgt_10 lo hi]; decide, by rw [own_dgt_10 lo hi]; decide, nar .byte (own_of (48 + (mm % 100) / 10)), by rw [own_dgt_10 lo hi]; rfl, own_heq hm (q := 10) rfl (by decide) (by decide) (by omega)⟩,
   Or.inr ⟨by rw [own_dgt_10 lo hi]; decide, by rw [own_dgt_10 lo hi]; decide, by rw [own_dgt_10 lo hi]; decide, nar .byte (own_of (48 + ((mm / 100) % 100) % 10)), by rw [own_dgt_10 lo hi]; rfl, own_heq hm (q := 100) rfl (by decide) (by decide) (by omega)⟩,
   Or.inr ⟨by rw [own_dgt_10 lo hi]; decide, by rw [own_dgt_10 lo hi]; decide, by rw [own_dgt_10 lo hi]; decide, nar .byte (own_of (48 + ((mm / 100) % 100) / 10)), by rw [own_dgt_10 lo hi]; rfl, own_heq hm (q := 1000) rfl (by decide) (by decide) (by omega)⟩,
   Or.inr ⟨by rw [own_dgt_10 lo hi]; decide, by rw [own_dgt_10 lo hi]; decide, by rw [own_dgt_10 lo hi]; decide, nar .byte (own_of (48 + (((mm / 100) / 100) % 100) % 10)), by rw [own_dgt_10 lo hi]; rfl, own_heq hm (q := 10000) rfl (by decide) (by decide) (by omega)⟩,
   Or.inr ⟨by rw [own_dgt_10 lo hi]; decide, by rw [own_dgt_10 lo hi]; decide, by rw [own_dgt_10 lo hi]; decide, nar .byte (own_of (48 + (((mm / 100) / 100) % 100) / 10)), by rw [own_dgt_10 lo hi]; rfl, own_heq hm (q := 100000) rfl (by decide) (by decide) (by omega)⟩,
   Or.inr ⟨by rw [own_dgt_10 lo hi]; decide, by rw [own_dgt_10 lo hi]; decide, by rw [own_dgt_10 lo hi]; decide, nar .byte (own_of (48 + ((((mm / 100) / 100) / 100) % 100) % 10)), by rw [own_dgt_10 lo hi]; rfl, own_heq hm (q := 1000000) rfl (by decide) (by decide) (by omega)⟩,
   Or.inr ⟨by rw [own_dgt_10 lo hi]; decide, by rw [own_dgt_10 lo hi]; decide, by rw [own_dgt_10 lo hi]; decide, nar .byte (own_of (48 + ((((mm / 100) / 100) / 100) % 100) / 10)), by rw [own_dgt_10 lo hi]; rfl, own_heq hm (q := 10000000) rfl (by decide) (by decide) (by omega)⟩,
   Or.inr ⟨by rw [own_dgt_10 lo hi]; decide, by rw [own_dgt_10 lo hi]; decide, by rw [own_dgt_10 lo hi]; decide, nar .byte (own_of (48 + ((((mm / 100) / 100) / 100) / 100) % 10)), by rw [own_dgt_10 lo hi]; rfl, own_heq hm (q := 100000000) rfl (by decide) (by decide) (by omega)⟩,
   Or.inr ⟨by rw [own_dgt_10 lo hi]; decide, by rw [own_dgt_10 lo hi]; decide, by rw [own_dgt_10 lo hi]; decide, nar .byte (own_of (48 + ((((mm / 100) / 100) / 100) / 100) / 10)), by rw [own_dgt_10 lo hi]; rfl, own_heq hm (q := 1000000000) rfl (by decide) (by decide) (by omega)⟩⟩
theorem d7_0 : decode jdk_33_method_31_code 0 = .ok (.aload_n 0, 1) := by decide +kernel
theorem d7_1 : decode jdk_33_method_31_code 1 = .ok (.getfield 205, 3) := by decide +kernel
theorem pd_11 : parseMethodDescriptor "(I)Ljava/lang/String;" = some ⟨[.int], some (.object "java/lang/String")⟩ := by decide +kernel
theorem d7_4 : decode jdk_33_method_31_code 4 = .ok (.invokestatic 9, 3) := by decide +kernel
theorem d7_7 : decode jdk_33_method_31_code 7 = .ok (.areturn, 1) := by decide +kernel
theorem pn_7 : plainName "java/lang/Integer" = true := by first | (simp [plainName, overriddenIn]; done) | decide +kernel
set_option maxRecDepth 65536 in
set_option maxHeartbeats 40000000 in
theorem rmT0 (l : Launch) (Z : State) (a0 : Array Value) (hw : ∀ d ∈ tables_1, d.before a0 Z = true) (a : Addr) (mm : Nat) (cs : Int32) (od : Addr) (ko : ClassId) (td : Addr) (kt : ClassId) (h0 : Heap) (n0 : Nat) (Z0 : n0 ≤ h0.size) (OL : Old Z n0 h0) (hm : mm < 2147483648) (SC : Sta Z Z.heap "java/lang/String" "COMPACT_STRINGS" "Z" (.int cs)) (hcs : ¬ cs = 0) (SO : Sta Z Z.heap "java/lang/Integer" "DigitOnes" "[B" (.ref od)) (ST : Sta Z Z.heap "java/lang/Integer" "DigitTens" "[B" (.ref td)) (AO : Arv Z Z.heap od ko .byte 100 own_DO (.int 0)) (AT : Arv Z Z.heap td kt .byte 100 own_DT (.int 0)) (E_a : Exa Z h0 a "java/lang/Integer") (FI : Fld Z h0 a "java/lang/Integer" "value" "I" (.int (own_of mm))) :
    Con l (⟨"java/lang/Integer", "toString", "()Ljava/lang/String;"⟩ : MethodName) jdk_33_method_31_code 1 (some (.object "java/lang/String")) ({ frames := 3, cells := 2, slots := 14, locals := 41 } : Room) Z #[(.ref a)] h0 (fun _ => True) (fun v h L vm => ∃ o : Addr, ∃ b : Addr, ∃ k : ClassId, ∃ vs : List Value, v = some (.ref o) ∧ Fr n0 L ∧ Keep h0 h [] ∧ h0.size ≤ o ∧ Exa Z h o "java/lang/String" ∧ Fld Z h o "java/lang/String" "value" "[B" (.ref b) ∧ Fld Z h o "java/lang/String" "coder" "B" (.int 0) ∧ Arv Z h b k .byte (own_dgt mm) vs (.int 0) ∧ own_good mm vs) := by
  refine Con.mk (plainFor_of_name pn_7) (fun m => show entryFrame m #[(.ref a)] 1 = mkF m 0 #[.val (.ref a)] [] by first | (simp [entryFrame, mkF, argsToLocals, Value.category]; done) | rfl) ?_
  intro p e s m below meth c s₁ vm0 hx hby hml hown hnm hret hlk hZ X0 e0 hS hs0 hP0
  have N0 := Fr.nil n0
  refine Run.pre (fun _ k => XS.aloadN X0.here hx rfl (hb hby d7_0) rfl rfl k) ?_
  show Run p e below s _ _ _ (s₁.setTop (mkF m 1 #[.val (.ref a)] [(.ref a)]))
  obtain ⟨T488, X488, e488, st488⟩ := getF X0 hx hZ hown (host := "") (Or.inl (hw _ (List.mem_of_getElem? (i := 40) rfl))) Via.refl e0 FI (g := (mkF m 1 #[.val (.ref a)] [(.ref a)])) rfl rfl (hb hby d7_1)
  refine Run.pre st488 ?_
  show Run p e below s _ _ _ (T488.setTop (mkF m 4 #[.val (.ref a)] [(.int (own_of mm))]))
  rcases own_cases hm with ⟨lo, hi⟩ | ⟨lo, hi⟩ | ⟨lo, hi⟩ | ⟨lo, hi⟩ | ⟨lo, hi⟩ | ⟨lo, hi⟩ | ⟨lo, hi⟩ | ⟨lo, hi⟩ | ⟨lo, hi⟩ | ⟨lo, hi⟩
  · skip
    show Run p e below s _ _ _ (T488.setTop (mkF m 4 #[.val (.ref a)] [(.int (own_of mm))]))
    refine Run.callS hS (by first | exact Nat.le_refl _ | (rw [e488]; exact (Nat.zero_le _))) X488 hx hZ (y := (⟨"java/lang/Integer", "toString", "(I)Ljava/lang/String;"⟩ : MethodName)) hown (hw _ (List.mem_of_getElem? (i := 47) rfl)) (hw _ (List.mem_of_getElem? (i := 48) rfl)) (hw _ (List.mem_of_getElem? (i := 21) rfl)) (hw _ (List.mem_of_getElem? (i := 49) rfl)) (by decide) (W := 0) (rmTS_1 l Z a0 hw mm cs od ko td kt h0 n0 (Nat.le_trans Z0 (Keep.refl h0 []).1) OL hm lo hi SC hcs SO ST AO AT) e488 (by decide) (by decide) (by decide) (by decide) (fun _ _ => trivial) (g := (mkF m 4 #[.val (.ref a)] [(.int (own_of mm))])) rfl (by rw [hml]; rfl) (argsL := [(.int (own_of mm))]) (rest := []) (lenOf pd_11 rfl) rfl (by show 2 * 0 + _ ≤ _; exact Nat.le_of_eq rfl) (hb hby d7_4) ?_
    intro v489 T489 L489 X489 hS hZ hown hV489 hQ489
    obtain ⟨o489, b489, k489, rfl, Nq489, Kc489, sz489, eo489, fv489, fc489, vb489⟩ := hQ489
    have N489 := Fr.app N0 Nq489
    have K489 : Keep h0 T489.heap [] := (Keep.refl h0 []).trans Kc489 all0
    have sz_o489 : h0.size ≤ o489 := Nat.le_trans (Keep.refl h0 []).1 sz489
    have gn_o489 : n0 ≤ o489 := Nat.le_trans Z0 sz_o489
    show Run p e below s _ _ _ (T489.setTop (mkF m 7 #[.val (.ref a)] [(.ref o489)]))
    exact Run.retA hS (Nat.le_refl _) X489 hx hret rfl rfl hlk (hb hby d7_7) ⟨o489, b489, k489, _, rfl, N489, K489, sz_o489, eo489, fv489, fc489, (by rw [own_dgt_1 lo hi]; exact vb489), own_good_1 hm lo hi⟩ (by decide) (by decide)
  · skip
    show Run p e below s _ _ _ (T488.setTop (mkF m 4 #[.val (.ref a)] [(.int (own_of mm))]))
    refine Run.callS hS (by first | exact Nat.le_refl _ | (rw [e488]; exact (Nat.zero_le _))) X488 hx hZ (y := (⟨"java/lang/Integer", "toString", "(I)Ljava/lang/String;"⟩ : MethodName)) hown (hw _ (List.mem_of_getElem? (i := 47) rfl)) (hw _ (List.mem_of_getElem? (i := 48) rfl)) (hw _ (List.mem_of_getElem? (i := 21) rfl)) (hw _ (List.mem_of_getElem? (i := 49) rfl)) (by decide) (W := 0) (rmTS_2 l Z a0 hw mm cs od ko td kt h0 n0 (Nat.le_trans Z0 (Keep.refl h0 []).1) OL hm lo hi SC hcs SO ST AO AT) e488 (by decide) (by decide) (by decide) (by decide) (fun _ _ => trivial) (g := (mkF m 4 #[.val (.ref a)] [(.int (own_of mm))])) rfl (by rw [hml]; rfl) (argsL := [(.int (own_of mm))]) (rest := []) (lenOf pd_11 rfl) rfl (by show 2 * 0 + _ ≤ _; exact Nat.le_of_eq rfl) (hb hby d7_4) ?_
    intro v490 T490 L490 X490 hS hZ hown hV490 hQ490
    obtain ⟨o490, b490, k490, rfl, Nq490, Kc490, sz490, eo490, fv490, fc490, vb490⟩ := hQ490
    have N490 := Fr.app N0 Nq490
    have K490 : Keep h0 T490.heap [] := (Keep.refl h0 []).trans Kc490 all0
    have sz_o490 : h0.size ≤ o490 := Nat.le_trans (Keep.refl h0 []).1 sz490
    have gn_o490 : n0 ≤ o490 := Nat.le_trans Z0 sz_o490
    show Run p e below s _ _ _ (T490.setTop (mkF m 7 #[.val (.ref a)] [(.ref o490)]))
    exact Run.retA hS (Nat.le_refl _) X490 hx hret rfl rfl hlk (hb hby d7_7) ⟨o490, b490, k490, _, rfl, N490, K490, sz_o490, eo490, fv490, fc490, (by rw [own_dgt_2 lo hi]; exact vb490), own_good_2 hm lo hi⟩ (by decide) (by decide)
  · skip
    show Run p e below s _ _ _ (T488.setTop (mkF m 4 #[.val (.ref a)] [(.int (own_of mm))]))
    refine Run.callS hS (by first | exact Nat.le_refl _ | (rw [e488]; exact (Nat.zero_le _))) X488 hx hZ (y := (⟨"java/lang/Integer", "toString", "(I)Ljava/lang/String;"⟩ : MethodName)) hown (hw _ (List.mem_of_getElem? (i := 47) rfl)) (hw _ (List.mem_of_getElem? (i := 48) rfl)) (hw _ (List.mem_of_getElem? (i := 21) rfl)) (hw _ (List.mem_of_getElem? (i := 49) rfl)) (by decide) (W := 0) (rmTS_3 l Z a0 hw mm cs od ko td kt h0 n0 (Nat.le_trans Z0 (Keep.refl h0 []).1) OL hm lo hi SC hcs SO ST AO AT) e488 (by decide) (by decide) (by decide) (by decide) (fun _ _ => trivial) (g := (mkF m 4 #[.val (.ref a)] [(.int (own_of mm))])) rfl (by rw [hml]; rfl) (argsL := [(.int (own_of mm))]) (rest := []) (lenOf pd_11 rfl) rfl (by show 2 * 0 + _ ≤ _; exact Nat.le_of_eq rfl) (hb hby d7_4) ?_
    intro v491 T491 L491 X491 hS hZ hown hV491 hQ491
    obtain ⟨o491, b491, k491, rfl, Nq491, Kc491, sz491, eo491, fv491, fc491, vb491⟩ := hQ491
    have N491 := Fr.app N0 Nq491
    have K491 : Keep h0 T491.heap [] := (Keep.refl h0 []).trans Kc491 all0
    have sz_o491 : h0.size ≤ o491 := Nat.le_trans (Keep.refl h0 []).1 sz491
    have gn_o491 : n0 ≤ o491 := Nat.le_trans Z0 sz_o491
    show Run p e below s _ _ _ (T491.setTop (mkF m 7 #[.val (.ref a)] [(.ref o491)]))
    exact Run.retA hS (Nat.le_refl _) X491 hx hret rfl rfl hlk (hb hby d7_7) ⟨o491, b491, k491, _, rfl, N491, K491, sz_o491, eo491, fv491, fc491, (by rw [own_dgt_3 lo hi]; exact vb491), own_good_3 hm lo hi⟩ (by decide) (by decide)
  · skip
    show Run p e below s _ _ _ (T488.setTop (mkF m 4 #[.val (.ref a)] [(.int (own_of mm))]))
    refine Run.callS hS (by first | exact Nat.le_refl _ | (rw [e488]; exact (Nat.zero_le _))) X488 hx hZ (y := (⟨"java/lang/Integer", "toString", "(I)Ljava/lang/String;"⟩ : MethodName)) hown (hw _ (List.mem_of_getElem? (i := 47) rfl)) (hw _ (List.mem_of_getElem? (i := 48) rfl)) (hw _ (List.mem_of_getElem? (i := 21) rfl)) (hw _ (List.mem_of_getElem? (i := 49) rfl)) (by decide) (W := 0) (rmTS_4 l Z a0 hw mm cs od ko td kt h0 n0 (Nat.le_trans Z0 (Keep.refl h0 []).1) OL hm lo hi SC hcs SO ST AO AT) e488 (by decide) (by decide) (by decide) (by decide) (fun _ _ => trivial) (g := (mkF m 4 #[.val (.ref a)] [(.int (own_of mm))])) rfl (by rw [hml]; rfl) (argsL := [(.int (own_of mm))]) (rest := []) (lenOf pd_11 rfl) rfl (by show 2 * 0 + _ ≤ _; exact Nat.le_of_eq rfl) (hb hby d7_4) ?_
    intro v492 T492 L492 X492 hS hZ hown hV492 hQ492
    obtain ⟨o492, b492, k492, rfl, Nq492, Kc492, sz492, eo492, fv492, fc492, vb492⟩ := hQ492
    have N492 := Fr.app N0 Nq492
    have K492 : Keep h0 T492.heap [] := (Keep.refl h0 []).trans Kc492 all0
    have sz_o492 : h0.size ≤ o492 := Nat.le_trans (Keep.refl h0 []).1 sz492
    have gn_o492 : n0 ≤ o492 := Nat.le_trans Z0 sz_o492
    show Run p e below s _ _ _ (T492.setTop (mkF m 7 #[.val (.ref a)] [(.ref o492)]))
    exact Run.retA hS (Nat.le_refl _) X492 hx hret rfl rfl hlk (hb hby d7_7) ⟨o492, b492, k492, _, rfl, N492, K492, sz_o492, eo492, fv492, fc492, (by rw [own_dgt_4 lo hi]; exact vb492), own_good_4 hm lo hi⟩ (by decide) (by decide)
  · skip
    show Run p e below s _ _ _ (T488.setTop (mkF m 4 #[.val (.ref a)] [(.int (own_of mm))]))
    refine Run.callS hS (by first | exact Nat.le_refl _ | (rw [e488]; exact (Nat.zero_le _))) X488 hx hZ (y := (⟨"java/lang/Integer", "toString", "(I)Ljava/lang/String;"⟩ : MethodName)) hown (hw _ (List.mem_of_getElem? (i := 47) rfl)) (hw _ (List.mem_of_getElem? (i := 48) rfl)) (hw _ (List.mem_of_getElem? (i := 21) rfl)) (hw _ (List.mem_of_getElem? (i := 49) rfl)) (by decide) (W := 0) (rmTS_5 l Z a0 hw mm cs od ko td kt h0 n0 (Nat.le_trans Z0 (Keep.refl h0 []).1) OL hm lo hi SC hcs SO ST AO AT) e488 (by decide) (by decide) (by decide) (by decide) (fun _ _ => trivial) (g := (mkF m 4 #[.val (.ref a)] [(.int (own_of mm))])) rfl (by rw [hml]; rfl) (argsL := [(.int (own_of mm))]) (rest := []) (lenOf pd_11 rfl) rfl (by show 2 * 0 + _ ≤ _; exact Nat.le_of_eq rfl) (hb hby d7_4) ?_
    intro v493 T493 L493 X493 hS hZ hown hV493 hQ493
    obtain ⟨o493, b493, k493, rfl, Nq493, Kc493, sz493, eo493, fv493, fc493, vb493⟩ := hQ493
    have N493 := Fr.app N0 Nq493
    have K493 : Keep h0 T493.heap [] := (Keep.refl h0 []).trans Kc493 all0
    have sz_o493 : h0.size ≤ o493 := Nat.le_trans (Keep.refl h0 []).1 sz493
    have gn_o493 : n0 ≤ o493 := Nat.le_trans Z0 sz_o493
    show Run p e below s _ _ _ (T493.setTop (mkF m 7 #[.val (.ref a)] [(.ref o493)]))
    exact Run.retA hS (Nat.le_refl _) X493 hx hret rfl rfl hlk (hb hby d7_7) ⟨o493, b493, k493, _, rfl, N493, K493, sz_o493, eo493, fv493, fc493, (by rw [own_dgt_5 lo hi]; exact vb493), own_good_5 hm lo hi⟩ (by decide) (by decide)
  · skip
    show Run p e below s _ _ _ (T488.setTop (mkF m 4 #[.val (.ref a)] [(.int (own_of mm))]))
    refine Run.callS hS (by first | exact Nat.le_refl _ | (rw [e488]; exact (Nat.zero_le _))) X488 hx hZ (y := (⟨"java/lang/Integer", "toString", "(I)Ljava/lang/String;"⟩ : MethodName)) hown (hw _ (List.mem_of_getElem? (i := 47) rfl)) (hw _ (List.mem_of_getElem? (i := 48) rfl)) (hw _ (List.mem_of_getElem? (i := 21) rfl)) (hw _ (List.mem_of_getElem? (i := 49) rfl)) (by decide) (W := 0) (rmTS_6 l Z a0 hw mm cs od ko td kt h0 n0 (Nat.le_trans Z0 (Keep.refl h0 []).1) OL hm lo hi SC hcs SO ST AO AT) e488 (by decide) (by decide) (by decide) (by decide) (fun _ _ => trivial) (g := (mkF m 4 #[.val (.ref a)] [(.int (own_of mm))])) rfl (by rw [hml]; rfl) (argsL := [(.int (own_of mm))]) (rest := []) (lenOf pd_11 rfl) rfl (by show 2 * 0 + _ ≤ _; exact Nat.le_of_eq rfl) (hb hby d7_4) ?_
    intro v494 T494 L494 X494 hS hZ hown hV494 hQ494
    obtain ⟨o494, b494, k494, rfl, Nq494, Kc494, sz494, eo494, fv494, fc494, vb494⟩ := hQ494
    have N494 := Fr.app N0 Nq494
    have K494 : Keep h0 T494.heap [] := (Keep.refl h0 []).trans Kc494 all0
    have sz_o494 : h0.size ≤ o494 := Nat.le_trans (Keep.refl h0 []).1 sz494
    have gn_o494 : n0 ≤ o494 := Nat.le_trans Z0 sz_o494
    show Run p e below s _ _ _ (T494.setTop (mkF m 7 #[.val (.ref a)] [(.ref o494)]))
    exact Run.retA hS (Nat.le_refl _) X494 hx hret rfl rfl hlk (hb hby d7_7) ⟨o494, b494, k494, _, rfl, N494, K494, sz_o494, eo494, fv494, fc494, (by rw [own_dgt_6 lo hi]; exact vb494), own_good_6 hm lo hi⟩ (by decide) (by decide)
  · skip
    show Run p e below s _ _ _ (T488.setTop (mkF m 4 #[.val (.ref a)] [(.int (own_of mm))]))
    refine Run.callS hS (by first | exact Nat.le_refl _ | (rw [e488]; exact (Nat.zero_le _))) X488 hx hZ (y := (⟨"java/lang/Integer", "toString", "(I)Ljava/lang/String;"⟩ : MethodName)) hown (hw _ (List.mem_of_getElem? (i := 47) rfl)) (hw _ (List.mem_of_getElem? (i := 48) rfl)) (hw _ (List.mem_of_getElem? (i := 21) rfl)) (hw _ (List.mem_of_getElem? (i := 49) rfl)) (by decide) (W := 0) (rmTS_7 l Z a0 hw mm cs od ko td kt h0 n0 (Nat.le_trans Z0 (Keep.refl h0 []).1) OL hm lo hi SC hcs SO ST AO AT) e488 (by decide) (by decide) (by decide) (by decide) (fun _ _ => trivial) (g := (mkF m 4 #[.val (.ref a)] [(.int (own_of mm))])) rfl (by rw [hml]; rfl) (argsL := [(.int (own_of mm))]) (rest := []) (lenOf pd_11 rfl) rfl (by show 2 * 0 + _ ≤ _; exact Nat.le_of_eq rfl) (hb hby d7_4) ?_
    intro v495 T495 L495 X495 hS hZ hown hV495 hQ495
    obtain ⟨o495, b495, k495, rfl, Nq495, Kc495, sz495, eo495, fv495, fc495, vb495⟩ := hQ495
    have N495 := Fr.app N0 Nq495
    have K495 : Keep h0 T495.heap [] := (Keep.refl h0 []).trans Kc495 all0
    have sz_o495 : h0.size ≤ o495 := Nat.le_trans (Keep.refl h0 []).1 sz495
    have gn_o495 : n0 ≤ o495 := Nat.le_trans Z0 sz_o495
    show Run p e below s _ _ _ (T495.setTop (mkF m 7 #[.val (.ref a)] [(.ref o495)]))
    exact Run.retA hS (Nat.le_refl _) X495 hx hret rfl rfl hlk (hb hby d7_7) ⟨o495, b495, k495, _, rfl, N495, K495, sz_o495, eo495, fv495, fc495, (by rw [own_dgt_7 lo hi]; exact vb495), own_good_7 hm lo hi⟩ (by decide) (by decide)
  · skip
    show Run p e below s _ _ _ (T488.setTop (mkF m 4 #[.val (.ref a)] [(.int (own_of mm))]))
    refine Run.callS hS (by first | exact Nat.le_refl _ | (rw [e488]; exact (Nat.zero_le _))) X488 hx hZ (y := (⟨"java/lang/Integer", "toString", "(I)Ljava/lang/String;"⟩ : MethodName)) hown (hw _ (List.mem_of_getElem? (i := 47) rfl)) (hw _ (List.mem_of_getElem? (i := 48) rfl)) (hw _ (List.mem_of_getElem? (i := 21) rfl)) (hw _ (List.mem_of_getElem? (i := 49) rfl)) (by decide) (W := 0) (rmTS_8 l Z a0 hw mm cs od ko td kt h0 n0 (Nat.le_trans Z0 (Keep.refl h0 []).1) OL hm lo hi SC hcs SO ST AO AT) e488 (by decide) (by decide) (by decide) (by decide) (fun _ _ => trivial) (g := (mkF m 4 #[.val (.ref a)] [(.int (own_of mm))])) rfl (by rw [hml]; rfl) (argsL := [(.int (own_of mm))]) (rest := []) (lenOf pd_11 rfl) rfl (by show 2 * 0 + _ ≤ _; exact Nat.le_of_eq rfl) (hb hby d7_4) ?_
    intro v496 T496 L496 X496 hS hZ hown hV496 hQ496
    obtain ⟨o496, b496, k496, rfl, Nq496, Kc496, sz496, eo496, fv496, fc496, vb496⟩ := hQ496
    have N496 := Fr.app N0 Nq496
    have K496 : Keep h0 T496.heap [] := (Keep.refl h0 []).trans Kc496 all0
    have sz_o496 : h0.size ≤ o496 := Nat.le_trans (Keep.refl h0 []).1 sz496
    have gn_o496 : n0 ≤ o496 := Nat.le_trans Z0 sz_o496
    show Run p e below s _ _ _ (T496.setTop (mkF m 7 #[.val (.ref a)] [(.ref o496)]))
    exact Run.retA hS (Nat.le_refl _) X496 hx hret rfl rfl hlk (hb hby d7_7) ⟨o496, b496, k496, _, rfl, N496, K496, sz_o496, eo496, fv496, fc496, (by rw [own_dgt_8 lo hi]; exact vb496), own_good_8 hm lo hi⟩ (by decide) (by decide)
  · skip
    show Run p e below s _ _ _ (T488.setTop (mkF m 4 #[.val (.ref a)] [(.int (own_of mm))]))
    refine Run.callS hS (by first | exact Nat.le_refl _ | (rw [e488]; exact (Nat.zero_le _))) X488 hx hZ (y := (⟨"java/lang/Integer", "toString", "(I)Ljava/lang/String;"⟩ : MethodName)) hown (hw _ (List.mem_of_getElem? (i := 47) rfl)) (hw _ (List.mem_of_getElem? (i := 48) rfl)) (hw _ (List.mem_of_getElem? (i := 21) rfl)) (hw _ (List.mem_of_getElem? (i := 49) rfl)) (by decide) (W := 0) (rmTS_9 l Z a0 hw mm cs od ko td kt h0 n0 (Nat.le_trans Z0 (Keep.refl h0 []).1) OL hm lo hi SC hcs SO ST AO AT) e488 (by decide) (by decide) (by decide) (by decide) (fun _ _ => trivial) (g := (mkF m 4 #[.val (.ref a)] [(.int (own_of mm))])) rfl (by rw [hml]; rfl) (argsL := [(.int (own_of mm))]) (rest := []) (lenOf pd_11 rfl) rfl (by show 2 * 0 + _ ≤ _; exact Nat.le_of_eq rfl) (hb hby d7_4) ?_
    intro v497 T497 L497 X497 hS hZ hown hV497 hQ497
    obtain ⟨o497, b497, k497, rfl, Nq497, Kc497, sz497, eo497, fv497, fc497, vb497⟩ := hQ497
    have N497 := Fr.app N0 Nq497
    have K497 : Keep h0 T497.heap [] := (Keep.refl h0 []).trans Kc497 all0
    have sz_o497 : h0.size ≤ o497 := Nat.le_trans (Keep.refl h0 []).1 sz497
    have gn_o497 : n0 ≤ o497 := Nat.le_trans Z0 sz_o497
    show Run p e below s _ _ _ (T497.setTop (mkF m 7 #[.val (.ref a)] [(.ref o497)]))
    exact Run.retA hS (Nat.le_refl _) X497 hx hret rfl rfl hlk (hb hby d7_7) ⟨o497, b497, k497, _, rfl, N497, K497, sz_o497, eo497, fv497, fc497, (by rw [own_dgt_9 lo hi]; exact vb497), own_good_9 hm lo hi⟩ (by decide) (by decide)
  · skip
    show Run p e below s _ _ _ (T488.setTop (mkF m 4 #[.val (.ref a)] [(.int (own_of mm))]))
    refine Run.callS hS (by first | exact Nat.le_refl _ | (rw [e488]; exact (Nat.zero_le _))) X488 hx hZ (y := (⟨"java/lang/Integer", "toString", "(I)Ljava/lang/String;"⟩ : MethodName)) hown (hw _ (List.mem_of_getElem? (i := 47) rfl)) (hw _ (List.mem_of_getElem? (i := 48) rfl)) (hw _ (List.mem_of_getElem? (i := 21) rfl)) (hw _ (List.mem_of_getElem? (i := 49) rfl)) (by decide) (W := 0) (rmTS_10 l Z a0 hw mm cs od ko td kt h0 n0 (Nat.le_trans Z0 (Keep.refl h0 []).1) OL hm lo hi SC hcs SO ST AO AT) e488 (by decide) (by decide) (by decide) (by decide) (fun _ _ => trivial) (g := (mkF m 4 #[.val (.ref a)] [(.int (own_of mm))])) rfl (by rw [hml]; rfl) (argsL := [(.int (own_of mm))]) (rest := []) (lenOf pd_11 rfl) rfl (by show 2 * 0 + _ ≤ _; exact Nat.le_of_eq rfl) (hb hby d7_4) ?_
    intro v498 T498 L498 X498 hS hZ hown hV498 hQ498
    obtain ⟨o498, b498, k498, rfl, Nq498, Kc498, sz498, eo498, fv498, fc498, vb498⟩ := hQ498
    have N498 := Fr.app N0 Nq498
    have K498 : Keep h0 T498.heap [] := (Keep.refl h0 []).trans Kc498 all0
    have sz_o498 : h0.size ≤ o498 := Nat.le_trans (Keep.refl h0 []).1 sz498
    have gn_o498 : n0 ≤ o498 := Nat.le_trans Z0 sz_o498
    show Run p e below s _ _ _ (T498.setTop (mkF m 7 #[.val (.ref a)] [(.ref o498)]))
    exact Run.retA hS (Nat.le_refl _) X498 hx hret rfl rfl hlk (hb hby d7_7) ⟨o498, b498, k498, _, rfl, N498, K498, sz_o498, eo498, fv498, fc498, (by rw [own_dgt_10 lo hi]; exact vb498), own_good_10 hm lo hi⟩ (by decide) (by decide)
theorem d1_0 : decode prog_7_method_2_code 0 = .ok (.aload_n 0, 1) := by decide +kernel
theorem d1_1 : decode prog_7_method_2_code 1 = .ok (.ifnonnull 8, 3) := by decide +kernel
theorem d1_9 : decode prog_7_method_2_code 9 = .ok (.aload_n 0, 1) := by decide +kernel
theorem pd_12 : parseMethodDescriptor "()Ljava/lang/String;" = some ⟨[], some (.object "java/lang/String")⟩ := by decide +kernel
theorem d1_10 : decode prog_7_method_2_code 10 = .ok (.invokevirtual 9, 3) := by decide +kernel
theorem d1_13 : decode prog_7_method_2_code 13 = .ok (.areturn, 1) := by decide +kernel
theorem pn_1 : plainName "com/example/hyra/hyra/model/SeatCount" = true := by first | (simp [plainName, overriddenIn]; done) | decide +kernel
set_option maxRecDepth 65536 in
set_option maxHeartbeats 40000000 in
theorem rmTW (l : Launch) (Z : State) (a0 : Array Value) (hw : ∀ d ∈ tables_1, d.before a0 Z = true) (a : Addr) (mm : Nat) (cs : Int32) (od : Addr) (ko : ClassId) (td : Addr) (kt : ClassId) (h0 : Heap) (n0 : Nat) (Z0 : n0 ≤ h0.size) (OL : Old Z n0 h0) (hm : mm < 2147483648) (SC : Sta Z Z.heap "java/lang/String" "COMPACT_STRINGS" "Z" (.int cs)) (hcs : ¬ cs = 0) (SO : Sta Z Z.heap "java/lang/Integer" "DigitOnes" "[B" (.ref od)) (ST : Sta Z Z.heap "java/lang/Integer" "DigitTens" "[B" (.ref td)) (AO : Arv Z Z.heap od ko .byte 100 own_DO (.int 0)) (AT : Arv Z Z.heap td kt .byte 100 own_DT (.int 0)) (E_a : Exa Z h0 a "java/lang/Integer") (FI : Fld Z h0 a "java/lang/Integer" "value" "I" (.int (own_of mm))) :
    Con l (⟨"com/example/hyra/hyra/model/SeatCount", "toWire", "(Ljava/lang/Integer;)Ljava/lang/String;"⟩ : MethodName) prog_7_method_2_code 1 (some (.object "java/lang/String")) ({ frames := 4, cells := 2, slots := 14, locals := 53 } : Room) Z #[(.ref a)] h0 (fun _ => True) (fun v h L vm => ∃ o : Addr, ∃ b : Addr, ∃ k : ClassId, ∃ vs : List Value, v = some (.ref o) ∧ Fr n0 L ∧ Keep h0 h [] ∧ h0.size ≤ o ∧ Exa Z h o "java/lang/String" ∧ Fld Z h o "java/lang/String" "value" "[B" (.ref b) ∧ Fld Z h o "java/lang/String" "coder" "B" (.int 0) ∧ Arv Z h b k .byte (own_dgt mm) vs (.int 0) ∧ own_good mm vs) := by
  refine Con.mk (plainFor_of_name pn_1) (fun m => show entryFrame m #[(.ref a)] 1 = mkF m 0 #[.val (.ref a)] [] by first | (simp [entryFrame, mkF, argsToLocals, Value.category]; done) | rfl) ?_
  intro p e s m below meth c s₁ vm0 hx hby hml hown hnm hret hlk hZ X0 e0 hS hs0 hP0
  have N0 := Fr.nil n0
  refine Run.pre (fun _ k => XS.aloadN X0.here hx rfl (hb hby d1_0) rfl rfl k) ?_
  show Run p e below s _ _ _ (s₁.setTop (mkF m 1 #[.val (.ref a)] [(.ref a)]))
  refine Run.pre (fun _ k => XS.ifnonnullYes X0.here hx rfl (pc0 := 1) (pc' := 9) rfl (hb hby d1_1) rfl (by decide) (by decide) k) ?_
  refine Run.pre (fun _ k => XS.aloadN X0.here hx rfl (hb hby d1_9) rfl rfl k) ?_
  show Run p e below s _ _ _ (s₁.setTop (mkF m 10 #[.val (.ref a)] [(.ref a)]))
  refine Run.callV hS (by first | exact Nat.le_refl _ | (rw [e0]; exact (Nat.zero_le _))) X0 hx hZ (y := (⟨"java/lang/Integer", "toString", "()Ljava/lang/String;"⟩ : MethodName)) (z := (⟨"java/lang/Integer", "toString", "()Ljava/lang/String;"⟩ : MethodName)) hown (hw _ (List.mem_of_getElem? (i := 42) rfl)) (hw _ (List.mem_of_getElem? (i := 43) rfl)) (notFace_of_selects (args := #[]) (mvT hZ (hw _ (List.mem_of_getElem? (i := 45) rfl)))) (hw _ (List.mem_of_getElem? (i := 45) rfl)) (hw _ (List.mem_of_getElem? (i := 44) rfl)) (hw _ (List.mem_of_getElem? (i := 46) rfl)) (hw _ (List.mem_of_getElem? (i := 21) rfl)) (by decide) (b := a) E_a (W := 0) (rmT0 l Z a0 hw a mm cs od ko td kt h0 n0 (Nat.le_trans Z0 (Keep.refl h0 []).1) OL hm SC hcs SO ST AO AT E_a FI) e0 (by decide) (by decide) (by decide) (by decide) (fun _ _ => trivial) (g := (mkF m 10 #[.val (.ref a)] [(.ref a)])) rfl (by rw [hml]; rfl) (argsL := []) (rest := []) (lenOf pd_12 rfl) rfl (by show 2 * 0 + _ ≤ _; exact Nat.le_of_eq rfl) (hb hby d1_10) ?_
  intro v499 T499 L499 X499 hS hZ hown hV499 hQ499
  obtain ⟨o499, b499, k499, vs499, rfl, Nq499, Kc499, sz499, eo499, fv499, fc499, vb499, gd499⟩ := hQ499
  have N499 := Fr.app N0 Nq499
  have K499 : Keep h0 T499.heap [] := (Keep.refl h0 []).trans Kc499 all0
  have sz_o499 : h0.size ≤ o499 := Nat.le_trans (Keep.refl h0 []).1 sz499
  have gn_o499 : n0 ≤ o499 := Nat.le_trans Z0 sz_o499
  show Run p e below s _ _ _ (T499.setTop (mkF m 13 #[.val (.ref a)] [(.ref o499)]))
  exact Run.retA hS (Nat.le_refl _) X499 hx hret rfl rfl hlk (hb hby d1_13) ⟨o499, b499, k499, vs499, rfl, N499, K499, sz_o499, eo499, fv499, fc499, vb499, gd499⟩ (by decide) (by decide)
theorem own_strAtoms {Z : State} {a0 : Array Value} (hw : ∀ d ∈ tables_1, d.before a0 Z = true) : ∀ a ∈ Bundle.stringAtoms, a.before a0 Z = true := by
  intro d hd
  simp only [Bundle.stringAtoms, Bundle.sN, List.mem_cons, List.not_mem_nil, or_false] at hd
  rcases hd with rfl | rfl | rfl | rfl | rfl | rfl | rfl
  · exact (hw _ (List.mem_of_getElem? (i := 5) rfl))
  · exact (hw _ (List.mem_of_getElem? (i := 6) rfl))
  · exact (hw _ (List.mem_of_getElem? (i := 7) rfl))
  · exact (hw _ (List.mem_of_getElem? (i := 8) rfl))
  · exact (hw _ (List.mem_of_getElem? (i := 9) rfl))
  · exact (hw _ (List.mem_of_getElem? (i := 10) rfl))
  · exact (hw _ (List.mem_of_getElem? (i := 11) rfl))
theorem d1_4 : decode prog_7_method_2_code 4 = .ok (.ldc 7, 2) := by decide +kernel
theorem d1_6 : decode prog_7_method_2_code 6 = .ok (.goto 7, 3) := by decide +kernel
set_option maxRecDepth 65536 in
set_option maxHeartbeats 40000000 in
theorem rmTN (l : Launch) (Z : State) (a0 : Array Value) (hw : ∀ d ∈ tables_1, d.before a0 Z = true)  (h0 : Heap) (n0 : Nat) (Z0 : n0 ≤ h0.size) (OL : Old Z n0 h0) (hH : Jvm.Lit.constHeld Z "com/example/hyra/hyra/model/SeatCount" 7) (hcw : Jvm.Lit.compactW.before a0 Z = true) :
    Con l (⟨"com/example/hyra/hyra/model/SeatCount", "toWire", "(Ljava/lang/Integer;)Ljava/lang/String;"⟩ : MethodName) prog_7_method_2_code 1 (some (.object "java/lang/String")) ({ frames := 0, cells := 2, slots := 4, locals := 0 } : Room) Z #[.null] h0 (fun vm => IB Z vm []) (fun v h L vm => ∃ o : Addr, ∃ b : Addr, ∃ k : ClassId, v = some (.ref o) ∧ Fr n0 L ∧ Keep h0 h [] ∧ Exa Z h o "java/lang/String" ∧ Fld Z h o "java/lang/String" "value" "[B" (.ref b) ∧ Arv Z h b k .byte 0 [] (.int 0)) := by
  refine Con.mk (plainFor_of_name pn_1) (fun m => show entryFrame m #[.null] 1 = mkF m 0 #[.val .null] [] by first | (simp [entryFrame, mkF, argsToLocals, Value.category]; done) | rfl) ?_
  intro p e s m below meth c s₁ vm0 hx hby hml hown hnm hret hlk hZ X0 e0 hS hs0 hP0
  have N0 := Fr.nil n0
  refine Run.pre (fun _ k => XS.aloadN X0.here hx rfl (hb hby d1_0) rfl rfl k) ?_
  show Run p e below s _ _ _ (s₁.setTop (mkF m 1 #[.val .null] [.null]))
  refine Run.pre (fun _ k => XS.ifnonnullNo X0.here hx rfl (hb hby d1_1) rfl k) ?_
  show Run p e below s _ _ _ (s₁.setTop (mkF m 4 #[.val .null] []))
  obtain ⟨al, T9, h9, k9, bl, kl, X9, e9, E9, hS, hk9, hZ, hown, El, Cl, Vl, Bl, -, -, I9, Lt9, st9⟩ := ldcSVL (s := s) X0 hx hZ hown (hw _ (List.mem_of_getElem? (i := 4) rfl)) (own_strAtoms hw) e0 hS (Nat.zero_le _) (Fr.nil _) (fun b cl q => by rw [hs0]; exact OL.2.2 b cl q) hP0 (by simp) hH hcw (vs := []) (z := 0) ⟨by simp, rfl⟩ (by decide) rfl (g := (mkF m 4 #[.val .null] [])) rfl (hb hby d1_4) (n := 0) (by decide) (by decide) (by decide) (by decide)
  refine Run.pre st9 ?_
  have K9 : Keep h0 h9 [] := (Keep.refl h0 []).ext E9
  refine Run.pre (fun _ k => XS.goto X9.here hx rfl (pc0 := 6) (pc' := 13) rfl (hb hby d1_6) (by decide) (by decide) k) ?_
  show Run p e below s _ _ _ (T9.setTop (mkF m 13 #[.val .null] [(.ref al)]))
  exact Run.retA hS (by first | exact Nat.le_refl _ | (rw [e9]; exact hk9)) X9 hx hret rfl rfl hlk (hb hby d1_13) (by first | (rw [e9]; exact ⟨al, bl, kl, rfl, N0, K9, El, Vl, Bl⟩) | exact ⟨al, bl, kl, rfl, N0, K9, El, Vl, Bl⟩) (by decide) (by decide)
theorem d2_0 : decode jdk_42_method_55_code 0 = .ok (.aload_n 0, 1) := by decide +kernel
theorem d2_1 : decode jdk_42_method_55_code 1 = .ok (.getfield 9, 3) := by decide +kernel
theorem d2_4 : decode jdk_42_method_55_code 4 = .ok (.arraylength, 1) := by decide +kernel
theorem d2_5 : decode jdk_42_method_55_code 5 = .ok (.ifCond .ne 7, 3) := by decide +kernel
theorem d2_8 : decode jdk_42_method_55_code 8 = .ok (.iconst 1, 1) := by decide +kernel
theorem d2_9 : decode jdk_42_method_55_code 9 = .ok (.goto 4, 3) := by decide +kernel
theorem d2_13 : decode jdk_42_method_55_code 13 = .ok (.ireturn, 1) := by decide +kernel
theorem pn_2 : plainName "java/lang/String" = true := by first | (simp [plainName, overriddenIn]; done) | decide +kernel
set_option maxRecDepth 65536 in
set_option maxHeartbeats 40000000 in
theorem rmIE (l : Launch) (Z : State) (a0 : Array Value) (hw : ∀ d ∈ tables_1, d.before a0 Z = true) (a : Addr) (b : Addr) (k : ClassId) (h0 : Heap) (n0 : Nat) (Z0 : n0 ≤ h0.size) (FV : Fld Z h0 a "java/lang/String" "value" "[B" (.ref b)) (AB : Arv Z h0 b k .byte 0 [] (.int 0)) :
    Con l (⟨"java/lang/String", "isEmpty", "()Z"⟩ : MethodName) jdk_42_method_55_code 1 (some .boolean) ({ frames := 0, cells := 0, slots := 0, locals := 0 } : Room) Z #[(.ref a)] h0 (fun _ => True) (fun v h L vm => v = some (.int 1) ∧ Fr n0 L ∧ h = h0) := by
  refine Con.mk (plainFor_of_name pn_2) (fun m => show entryFrame m #[(.ref a)] 1 = mkF m 0 #[.val (.ref a)] [] by first | (simp [entryFrame, mkF, argsToLocals, Value.category]; done) | rfl) ?_
  intro p e s m below meth c s₁ vm0 hx hby hml hown hnm hret hlk hZ X0 e0 hS hs0 hP0
  have N0 := Fr.nil n0
  refine Run.pre (fun _ k => XS.aloadN X0.here hx rfl (hb hby d2_0) rfl rfl k) ?_
  show Run p e below s _ _ _ (s₁.setTop (mkF m 1 #[.val (.ref a)] [(.ref a)]))
  obtain ⟨T500, X500, e500, st500⟩ := getF X0 hx hZ hown (host := "") (Or.inl (hw _ (List.mem_of_getElem? (i := 17) rfl))) Via.refl e0 FV (g := (mkF m 1 #[.val (.ref a)] [(.ref a)])) rfl rfl (hb hby d2_1)
  refine Run.pre st500 ?_
  show Run p e below s _ _ _ (T500.setTop (mkF m 4 #[.val (.ref a)] [(.ref b)]))
  obtain ⟨c501, Ar501, -, S501, N501, -, -⟩ := id AB
  refine Run.pre (X500.arraylength hx (by rw [e500]; exact Ar501.1) (State.isArrayOf_alike hZ.alike Ar501.2.1) (g := (mkF m 4 #[.val (.ref a)] [(.ref b)])) rfl rfl (hb hby d2_4)) ?_
  rw [len_of S501 N501]
  show Run p e below s _ _ _ (T500.setTop (mkF m 5 #[.val (.ref a)] [(.int (0 : Int32))]))
  refine Run.pre (fun _ k => XS.ifNo X500.here hx rfl (hb hby d2_5) rfl ((if0 _ _).trans (teq ((by decide) : (0 : Int32) = (0 : Int32))).2) k) ?_
  refine Run.pre (fun _ k => XS.iconst X500.here hx rfl (hb hby d2_8) k) ?_
  refine Run.pre (fun _ k => XS.goto X500.here hx rfl (pc0 := 9) (pc' := 13) rfl (hb hby d2_9) (by decide) (by decide) k) ?_
  show Run p e below s _ _ _ (T500.setTop (mkF m 13 #[.val (.ref a)] [(.int (1 : Int32))]))
  exact Run.retN hS (by first | exact Nat.le_refl _ | (rw [e500]; exact (Nat.zero_le _))) X500 hx hret (t := .boolean) (by simp) hlk (hb hby d2_13) (by first | (rw [e500]; exact ⟨rfl, N0, rfl⟩) | exact ⟨rfl, N0, rfl⟩) (by decide) (by decide)
theorem pd_13 : parseMethodDescriptor "(I)Ljava/lang/Integer;" = some ⟨[.int], some (.object "java/lang/Integer")⟩ := by decide +kernel
theorem pd_14 : parseMethodDescriptor "(Ljava/lang/Integer;)Ljava/lang/String;" = some ⟨[(.object "java/lang/Integer")], some (.object "java/lang/String")⟩ := by decide +kernel
theorem pd_15 : parseMethodDescriptor "()I" = some ⟨[], some .int⟩ := by decide +kernel
theorem pd_16 : parseMethodDescriptor "(Ljava/lang/String;IIII)Z" = some ⟨[(.object "java/lang/String"), .int, .int, .int, .int], some .boolean⟩ := by decide +kernel
theorem pn_0 : plainName "com/example/hyra/hyra/model/SeatCountToWirePinLaw" = true := by first | (simp [plainName, overriddenIn]; done) | decide +kernel
set_option maxRecDepth 65536 in
set_option maxHeartbeats 40000000 in
theorem rm0 (l : Launch) (Z : State) (a0 : Array Value) (hw : ∀ d ∈ tables_1, d.before a0 Z = true) (xx : Int32) (md : Int32) (cs : Int32) (fw : Value) (od : Addr) (ko : ClassId) (td : Addr) (kt : ClassId) (ca : Addr) (kc : ClassId) (vc : List Value) (h0 : Heap) (n0 : Nat) (Z0 : n0 ≤ h0.size) (OL : Old Z n0 h0) (SC : Sta Z Z.heap "java/lang/String" "COMPACT_STRINGS" "Z" (.int cs)) (hcs : ¬ cs = 0) (SF : Sta Z Z.heap "jdk/internal/util/Preconditions" "SIOOBE_FORMATTER" "Ljava/util/function/BiFunction;" fw) (hfw : fw.isRef = true) (SO : Sta Z Z.heap "java/lang/Integer" "DigitOnes" "[B" (.ref od)) (ST : Sta Z Z.heap "java/lang/Integer" "DigitTens" "[B" (.ref td)) (AO : Arv Z Z.heap od ko .byte 100 own_DO (.int 0)) (AT : Arv Z Z.heap td kt .byte 100 own_DT (.int 0)) (SH : Sta Z Z.heap "java/lang/Integer$IntegerCache" "high" "I" (.int 127)) (SCa : Sta Z Z.heap "java/lang/Integer$IntegerCache" "cache" "[Ljava/lang/Integer;" (.ref ca)) (ACa : Arv Z Z.heap ca kc (.object "java/lang/Integer") 256 vc .null) (hC : ∀ i : Nat, i < 256 → ∃ w, vc.getD i .null = .ref w ∧ Exa Z Z.heap w "java/lang/Integer" ∧ Fld Z Z.heap w "java/lang/Integer" "value" "I" (.int (own_of i - 128))) (hH : Jvm.Lit.constHeld Z "com/example/hyra/hyra/model/SeatCount" 7) (hcw : Jvm.Lit.compactW.before a0 Z = true) :
    Con l x code maxLocals ret room_1 Z #[(.int xx), (.int md)] h0 (fun vm => IB Z vm []) (fun v h L vm => v = some (.int 1) ∧ Fr n0 L) := by
  refine Con.mk (plainFor_of_name pn_0) (fun m => show entryFrame m #[(.int xx), (.int md)] maxLocals = mkF m 0 #[.val (.int xx), .val (.int md), .unset, .unset, .unset] [] by first | (simp [entryFrame, mkF, argsToLocals, Value.category, maxLocals]; done) | rfl) ?_
  intro p e s m below meth c s₁ vm0 hx hby hml hown hnm hret hlk hZ X0 e0 hS hs0 hP0
  have hml : c.maxLocals = 5 := hml
  have N0 := Fr.nil n0
  refine Run.pre (fun _ k => XS.iloadN X0.here hx rfl (hb hby at_0) rfl  k) ?_
  refine Run.pre (fun _ k => XS.iconst X0.here hx rfl (hb hby at_1) k) ?_
  show Run p e below s _ _ _ (s₁.setTop (mkF m 2 #[.val (.int xx), .val (.int md), .unset, .unset, .unset] [(.int (1 : Int32)), (.int md)]))
  refine Run.pre (fun _ k => XS.iand X0.here hx rfl (hb hby at_2) rfl k) ?_
  show Run p e below s _ _ _ (s₁.setTop (mkF m 3 #[.val (.int xx), .val (.int md), .unset, .unset, .unset] [(.int (md &&& (1 : Int32)))]))
  by_cases hc502 : (md &&& (1 : Int32)) = (0 : Int32)
  · skip
    refine Run.pre (fun _ k => XS.ifYes X0.here hx rfl (pc0 := 3) (pc' := 28) rfl (hb hby at_3) rfl ((if0 _ _).trans (teq (hc502 : (md &&& (1 : Int32)) = (0 : Int32))).1) (by decide) (by decide) k) ?_
    refine Run.pre (fun _ k => XS.iloadN X0.here hx rfl (hb hby at_28) rfl  k) ?_
    show Run p e below s _ _ _ (s₁.setTop (mkF m 29 #[.val (.int xx), .val (.int md), .unset, .unset, .unset] [(.int xx)]))
    refine Run.pre (X0.ldcInt hx hown (mvT hZ (hw _ (List.mem_of_getElem? (i := 18) rfl))) (g := (mkF m 29 #[.val (.int xx), .val (.int md), .unset, .unset, .unset] [(.int xx)])) rfl (hb hby at_29)) ?_
    show Run p e below s _ _ _ (s₁.setTop (mkF m 31 #[.val (.int xx), .val (.int md), .unset, .unset, .unset] [(.int (2147483647 : Int32)), (.int xx)]))
    refine Run.pre (fun _ k => XS.iand X0.here hx rfl (hb hby at_31) rfl k) ?_
    show Run p e below s _ _ _ (s₁.setTop (mkF m 32 #[.val (.int xx), .val (.int md), .unset, .unset, .unset] [(.int (xx &&& (2147483647 : Int32)))]))
    refine Run.pre (fun _ k => XS.istoreN X0.here hx rfl (hb hby at_32) rfl (l' := #[.val (.int xx), .val (.int md), .val (.int (xx &&& (2147483647 : Int32))), .unset, .unset]) rfl k) ?_
    show Run p e below s _ _ _ (s₁.setTop (mkF m 33 #[.val (.int xx), .val (.int md), .val (.int (xx &&& (2147483647 : Int32))), .unset, .unset] []))
    obtain ⟨mm, emm, hm⟩ := own_and31 xx
    rw [← emm]
    refine Run.pre (fun _ k => XS.iloadN X0.here hx rfl (hb hby at_33) rfl  k) ?_
    show Run p e below s _ _ _ (s₁.setTop (mkF m 34 #[.val (.int xx), .val (.int md), .val (.int (own_of mm)), .unset, .unset] [(.int (own_of mm))]))
    refine Run.callS hS (by first | exact Nat.le_refl _ | (rw [e0]; exact (Nat.zero_le _))) X0 hx hZ (y := (⟨"java/lang/Integer", "valueOf", "(I)Ljava/lang/Integer;"⟩ : MethodName)) hown (hw _ (List.mem_of_getElem? (i := 19) rfl)) (hw _ (List.mem_of_getElem? (i := 20) rfl)) (hw _ (List.mem_of_getElem? (i := 21) rfl)) (hw _ (List.mem_of_getElem? (i := 22) rfl)) (by decide) (W := 0) (rmVO l Z a0 hw mm ca kc vc h0 n0 (Nat.le_trans Z0 (Keep.refl h0 []).1) OL hm SH SCa ACa hC) e0 (by decide) (by decide) (by decide) (by decide) (fun _ _ => trivial) (g := (mkF m 34 #[.val (.int xx), .val (.int md), .val (.int (own_of mm)), .unset, .unset] [(.int (own_of mm))])) rfl (by rw [hml]; rfl) (argsL := [(.int (own_of mm))]) (rest := []) (lenOf pd_13 rfl) rfl (by show 2 * 0 + _ ≤ _; exact Nat.le_of_eq rfl) (hb hby at_34) ?_
    intro v503 T503 L503 X503 hS hZ hown hV503 hQ503
    obtain ⟨o503, rfl, Nq503, Kc503, eo503, fi503⟩ := hQ503
    have N503 := Fr.app N0 Nq503
    have K503 : Keep h0 T503.heap [] := (Keep.refl h0 []).trans Kc503 all0
    show Run p e below s _ _ _ (T503.setTop (mkF m 37 #[.val (.int xx), .val (.int md), .val (.int (own_of mm)), .unset, .unset] [(.ref o503)]))
    have f504 := (OL.keep Kc503 all0)
    refine Run.callS hS (Nat.le_refl _) X503 hx hZ (y := (⟨"com/example/hyra/hyra/model/SeatCount", "toWire", "(Ljava/lang/Integer;)Ljava/lang/String;"⟩ : MethodName)) hown (hw _ (List.mem_of_getElem? (i := 0) rfl)) (hw _ (List.mem_of_getElem? (i := 1) rfl)) (hw _ (List.mem_of_getElem? (i := 2) rfl)) (hw _ (List.mem_of_getElem? (i := 3) rfl)) (by decide) (W := 0) (rmTW l Z a0 hw o503 mm cs od ko td kt T503.heap n0 (Nat.le_trans Z0 K503.1) f504 hm SC hcs SO ST AO AT eo503 fi503) rfl (by decide) (by decide) (by decide) (by decide) (fun _ _ => trivial) (g := (mkF m 37 #[.val (.int xx), .val (.int md), .val (.int (own_of mm)), .unset, .unset] [(.ref o503)])) rfl (by rw [hml]; rfl) (argsL := [(.ref o503)]) (rest := []) (lenOf pd_14 rfl) rfl (by show 2 * 0 + _ ≤ _; exact Nat.le_of_eq rfl) (hb hby at_37) ?_
    intro v505 T505 L505 X505 hS hZ hown hV505 hQ505
    obtain ⟨o505, b505, k505, vs505, rfl, Nq505, Kc505, sz505, eo505, fv505, fc505, vb505, gd505⟩ := hQ505
    have N505 := Fr.app N503 Nq505
    have K505 : Keep h0 T505.heap [] := K503.trans Kc505 all0
    have sz_o505 : h0.size ≤ o505 := Nat.le_trans K503.1 sz505
    have gn_o505 : n0 ≤ o505 := Nat.le_trans Z0 sz_o505
    show Run p e below s _ _ _ (T505.setTop (mkF m 40 #[.val (.int xx), .val (.int md), .val (.int (own_of mm)), .unset, .unset] [(.ref o505)]))
    refine Run.pre (fun _ k => XS.astoreN X505.here hx rfl (hb hby at_40) rfl rfl (l' := #[.val (.int xx), .val (.int md), .val (.int (own_of mm)), .val (.ref o505), .unset]) rfl k) ?_
    refine Run.pre (fun _ k => XS.aloadN X505.here hx rfl (hb hby at_41) rfl rfl k) ?_
    show Run p e below s _ _ _ (T505.setTop (mkF m 42 #[.val (.int xx), .val (.int md), .val (.int (own_of mm)), .val (.ref o505), .unset] [(.ref o505)]))
    refine Run.pre (fun _ k => XS.ifnonnullYes X505.here hx rfl (pc0 := 42) (pc' := 47) rfl (hb hby at_42) rfl (by decide) (by decide) k) ?_
    refine Run.pre (fun _ k => XS.iloadN X505.here hx rfl (hb hby at_47) rfl  k) ?_
    show Run p e below s _ _ _ (T505.setTop (mkF m 48 #[.val (.int xx), .val (.int md), .val (.int (own_of mm)), .val (.ref o505), .unset] [(.int (own_of mm))]))
    refine Run.callS hS (Nat.le_refl _) X505 hx hZ (y := (⟨"com/example/hyra/hyra/model/SeatCountToWirePinLaw", "digits", "(I)I"⟩ : MethodName)) hown (hw _ (List.mem_of_getElem? (i := 66) rfl)) (hw _ (List.mem_of_getElem? (i := 67) rfl)) (hw _ (List.mem_of_getElem? (i := 68) rfl)) (hw _ (List.mem_of_getElem? (i := 69) rfl)) (by decide) (W := 0) (rmDg l Z a0 hw mm T505.heap n0 (Nat.le_trans Z0 K505.1) hm) rfl (by decide) (by decide) (by decide) (by decide) (fun _ _ => trivial) (g := (mkF m 48 #[.val (.int xx), .val (.int md), .val (.int (own_of mm)), .val (.ref o505), .unset] [(.int (own_of mm))])) rfl (by rw [hml]; rfl) (argsL := [(.int (own_of mm))]) (rest := []) (lenOf pd_8 rfl) rfl (by show 2 * 0 + _ ≤ _; exact Nat.le_of_eq rfl) (hb hby at_48) ?_
    intro v506 T506 L506 X506 hS hZ hown hV506 hQ506
    obtain ⟨rfl, Nq506, he506⟩ := hQ506
    have N506 := Fr.app N505 Nq506
    have e506 : T506.heap = T505.heap := he506
    show Run p e below s _ _ _ (T506.setTop (mkF m 51 #[.val (.int xx), .val (.int md), .val (.int (own_of mm)), .val (.ref o505), .unset] [(.int (own_dgt mm))]))
    refine Run.pre (fun _ k => XS.istore X506.here hx rfl (hb hby at_51) rfl (l' := #[.val (.int xx), .val (.int md), .val (.int (own_of mm)), .val (.ref o505), .val (.int (own_dgt mm))]) rfl k) ?_
    refine Run.pre (fun _ k => XS.aloadN X506.here hx rfl (hb hby at_53) rfl rfl k) ?_
    show Run p e below s _ _ _ (T506.setTop (mkF m 54 #[.val (.int xx), .val (.int md), .val (.int (own_of mm)), .val (.ref o505), .val (.int (own_dgt mm))] [(.ref o505)]))
    have f507 := (f504.keep Kc505 all0)
    refine Run.callV hS (by first | exact Nat.le_refl _ | (rw [e506]; exact (Nat.le_of_eq (congrArg Array.size e506)))) X506 hx hZ (y := (⟨"java/lang/String", "length", "()I"⟩ : MethodName)) (z := (⟨"java/lang/String", "length", "()I"⟩ : MethodName)) hown (hw _ (List.mem_of_getElem? (i := 75) rfl)) (hw _ (List.mem_of_getElem? (i := 76) rfl)) (notFace_of_selects (args := #[]) (mvT hZ (hw _ (List.mem_of_getElem? (i := 78) rfl)))) (hw _ (List.mem_of_getElem? (i := 78) rfl)) (hw _ (List.mem_of_getElem? (i := 77) rfl)) (hw _ (List.mem_of_getElem? (i := 79) rfl)) (hw _ (List.mem_of_getElem? (i := 5) rfl)) (by decide) (b := o505) eo505 (W := 0) (rmLen l Z a0 hw o505 b505 k505 (own_dgt mm) _ cs T505.heap n0 (Nat.le_trans Z0 K505.1) f507 SC hcs eo505 fv505 fc505 vb505) e506 (by decide) (by decide) (by decide) (by decide) (fun _ _ => trivial) (g := (mkF m 54 #[.val (.int xx), .val (.int md), .val (.int (own_of mm)), .val (.ref o505), .val (.int (own_dgt mm))] [(.ref o505)])) rfl (by rw [hml]; rfl) (argsL := []) (rest := []) (lenOf pd_15 rfl) rfl (by show 2 * 0 + _ ≤ _; exact Nat.le_of_eq rfl) (hb hby at_54) ?_
    intro v508 T508 L508 X508 hS hZ hown hV508 hQ508
    obtain ⟨rfl, Nq508, he508⟩ := hQ508
    have N508 := Fr.app N506 Nq508
    have e508 : T508.heap = T505.heap := he508
    refine Run.pre (fun _ k => XS.iload X508.here hx rfl (hb hby at_57) rfl  k) ?_
    show Run p e below s _ _ _ (T508.setTop (mkF m 59 #[.val (.int xx), .val (.int md), .val (.int (own_of mm)), .val (.ref o505), .val (.int (own_dgt mm))] [(.int (own_dgt mm)), (.int (own_dgt mm))]))
    refine Run.pre (fun _ k => XS.icmpYes X508.here hx rfl (pc0 := 59) (pc' := 64) rfl (hb hby at_59) rfl (teq (rfl : (own_dgt mm) = (own_dgt mm))).1 (by decide) (by decide) k) ?_
    refine Run.pre (fun _ k => XS.aloadN X508.here hx rfl (hb hby at_64) rfl rfl k) ?_
    refine Run.pre (fun _ k => XS.iload X508.here hx rfl (hb hby at_65) rfl  k) ?_
    refine Run.pre (fun _ k => XS.iloadN X508.here hx rfl (hb hby at_67) rfl  k) ?_
    show Run p e below s _ _ _ (T508.setTop (mkF m 68 #[.val (.int xx), .val (.int md), .val (.int (own_of mm)), .val (.ref o505), .val (.int (own_dgt mm))] [(.int (own_of mm)), (.int (own_dgt mm)), (.ref o505)]))
    refine Run.pre (fun _ k => XS.iconst X508.here hx rfl (hb hby at_68) k) ?_
    refine Run.pre (fun _ k => XS.iconst X508.here hx rfl (hb hby at_69) k) ?_
    show Run p e below s _ _ _ (T508.setTop (mkF m 70 #[.val (.int xx), .val (.int md), .val (.int (own_of mm)), .val (.ref o505), .val (.int (own_dgt mm))] [(.int (1 : Int32)), (.int (0 : Int32)), (.int (own_of mm)), (.int (own_dgt mm)), (.ref o505)]))
    refine Run.callS hS (by first | exact Nat.le_refl _ | (rw [e508]; exact (Nat.le_of_eq (congrArg Array.size e508)))) X508 hx hZ (y := (⟨"com/example/hyra/hyra/model/SeatCountToWirePinLaw", "d", "(Ljava/lang/String;IIII)Z"⟩ : MethodName)) hown (hw _ (List.mem_of_getElem? (i := 86) rfl)) (hw _ (List.mem_of_getElem? (i := 87) rfl)) (hw _ (List.mem_of_getElem? (i := 68) rfl)) (hw _ (List.mem_of_getElem? (i := 88) rfl)) (by decide) (W := 0) (rmD l Z a0 hw o505 b505 k505 vs505 mm 0 1 cs fw T505.heap n0 (Nat.le_trans Z0 K505.1) f507 SC hcs SF hfw eo505 fv505 fc505 vb505 gd505.1 (by decide)) e508 (by decide) (by decide) (by decide) (by decide) (fun _ _ => trivial) (g := (mkF m 70 #[.val (.int xx), .val (.int md), .val (.int (own_of mm)), .val (.ref o505), .val (.int (own_dgt mm))] [(.int (1 : Int32)), (.int (0 : Int32)), (.int (own_of mm)), (.int (own_dgt mm)), (.ref o505)])) rfl (by rw [hml]; rfl) (argsL := [(.ref o505), (.int (own_dgt mm)), (.int (own_of mm)), (.int (0 : Int32)), (.int (1 : Int32))]) (rest := []) (lenOf pd_16 rfl) rfl (by show 2 * 0 + _ ≤ _; exact Nat.le_of_eq rfl) (hb hby at_70) ?_
    intro v509 T509 L509 X509 hS hZ hown hV509 hQ509
    obtain ⟨rfl, Nq509, he509⟩ := hQ509
    have N509 := Fr.app N508 Nq509
    have e509 : T509.heap = T505.heap := he509
    show Run p e below s _ _ _ (T509.setTop (mkF m 73 #[.val (.int xx), .val (.int md), .val (.int (own_of mm)), .val (.ref o505), .val (.int (own_dgt mm))] [(.int (1 : Int32))]))
    refine Run.pre (fun _ k => XS.ifNo X509.here hx rfl (hb hby at_73) rfl ((if0 _ _).trans (feq ((by decide) : ¬ ((1 : Int32) = (0 : Int32)))).1) k) ?_
    refine Run.pre (fun _ k => XS.aloadN X509.here hx rfl (hb hby at_76) rfl rfl k) ?_
    refine Run.pre (fun _ k => XS.iload X509.here hx rfl (hb hby at_77) rfl  k) ?_
    refine Run.pre (fun _ k => XS.iloadN X509.here hx rfl (hb hby at_79) rfl  k) ?_
    show Run p e below s _ _ _ (T509.setTop (mkF m 80 #[.val (.int xx), .val (.int md), .val (.int (own_of mm)), .val (.ref o505), .val (.int (own_dgt mm))] [(.int (own_of mm)), (.int (own_dgt mm)), (.ref o505)]))
    refine Run.pre (fun _ k => XS.iconst X509.here hx rfl (hb hby at_80) k) ?_
    refine Run.pre (fun _ k => XS.bipush X509.here hx rfl (hb hby at_81) k) ?_
    show Run p e below s _ _ _ (T509.setTop (mkF m 83 #[.val (.int xx), .val (.int md), .val (.int (own_of mm)), .val (.ref o505), .val (.int (own_dgt mm))] [(.int (10 : Int32)), (.int (1 : Int32)), (.int (own_of mm)), (.int (own_dgt mm)), (.ref o505)]))
    refine Run.callS hS (by first | exact Nat.le_refl _ | (rw [e509]; exact (Nat.le_of_eq (congrArg Array.size e509)))) X509 hx hZ (y := (⟨"com/example/hyra/hyra/model/SeatCountToWirePinLaw", "d", "(Ljava/lang/String;IIII)Z"⟩ : MethodName)) hown (hw _ (List.mem_of_getElem? (i := 86) rfl)) (hw _ (List.mem_of_getElem? (i := 87) rfl)) (hw _ (List.mem_of_getElem? (i := 68) rfl)) (hw _ (List.mem_of_getElem? (i := 88) rfl)) (by decide) (W := 0) (rmD l Z a0 hw o505 b505 k505 vs505 mm 1 10 cs fw T505.heap n0 (Nat.le_trans Z0 K505.1) f507 SC hcs SF hfw eo505 fv505 fc505 vb505 gd505.2.1 (by decide)) e509 (by decide) (by decide) (by decide) (by decide) (fun _ _ => trivial) (g := (mkF m 83 #[.val (.int xx), .val (.int md), .val (.int (own_of mm)), .val (.ref o505), .val (.int (own_dgt mm))] [(.int (10 : Int32)), (.int (1 : Int32)), (.int (own_of mm)), (.int (own_dgt mm)), (.ref o505)])) rfl (by rw [hml]; rfl) (argsL := [(.ref o505), (.int (own_dgt mm)), (.int (own_of mm)), (.int (1 : Int32)), (.int (10 : Int32))]) (rest := []) (lenOf pd_16 rfl) rfl (by show 2 * 0 + _ ≤ _; exact Nat.le_of_eq rfl) (hb hby at_83) ?_
    intro v510 T510 L510 X510 hS hZ hown hV510 hQ510
    obtain ⟨rfl, Nq510, he510⟩ := hQ510
    have N510 := Fr.app N509 Nq510
    have e510 : T510.heap = T505.heap := he510
    show Run p e below s _ _ _ (T510.setTop (mkF m 86 #[.val (.int xx), .val (.int md), .val (.int (own_of mm)), .val (.ref o505), .val (.int (own_dgt mm))] [(.int (1 : Int32))]))
    refine Run.pre (fun _ k => XS.ifNo X510.here hx rfl (hb hby at_86) rfl ((if0 _ _).trans (feq ((by decide) : ¬ ((1 : Int32) = (0 : Int32)))).1) k) ?_
    refine Run.pre (fun _ k => XS.aloadN X510.here hx rfl (hb hby at_89) rfl rfl k) ?_
    refine Run.pre (fun _ k => XS.iload X510.here hx rfl (hb hby at_90) rfl  k) ?_
    refine Run.pre (fun _ k => XS.iloadN X510.here hx rfl (hb hby at_92) rfl  k) ?_
    show Run p e below s _ _ _ (T510.setTop (mkF m 93 #[.val (.int xx), .val (.int md), .val (.int (own_of mm)), .val (.ref o505), .val (.int (own_dgt mm))] [(.int (own_of mm)), (.int (own_dgt mm)), (.ref o505)]))
    refine Run.pre (fun _ k => XS.iconst X510.here hx rfl (hb hby at_93) k) ?_
    refine Run.pre (fun _ k => XS.bipush X510.here hx rfl (hb hby at_94) k) ?_
    show Run p e below s _ _ _ (T510.setTop (mkF m 96 #[.val (.int xx), .val (.int md), .val (.int (own_of mm)), .val (.ref o505), .val (.int (own_dgt mm))] [(.int (100 : Int32)), (.int (2 : Int32)), (.int (own_of mm)), (.int (own_dgt mm)), (.ref o505)]))
    refine Run.callS hS (by first | exact Nat.le_refl _ | (rw [e510]; exact (Nat.le_of_eq (congrArg Array.size e510)))) X510 hx hZ (y := (⟨"com/example/hyra/hyra/model/SeatCountToWirePinLaw", "d", "(Ljava/lang/String;IIII)Z"⟩ : MethodName)) hown (hw _ (List.mem_of_getElem? (i := 86) rfl)) (hw _ (List.mem_of_getElem? (i := 87) rfl)) (hw _ (List.mem_of_getElem? (i := 68) rfl)) (hw _ (List.mem_of_getElem? (i := 88) rfl)) (by decide) (W := 0) (rmD l Z a0 hw o505 b505 k505 vs505 mm 2 100 cs fw T505.heap n0 (Nat.le_trans Z0 K505.1) f507 SC hcs SF hfw eo505 fv505 fc505 vb505 gd505.2.2.1 (by decide)) e510 (by decide) (by decide) (by decide) (by decide) (fun _ _ => trivial) (g := (mkF m 96 #[.val (.int xx), .val (.int md), .val (.int (own_of mm)), .val (.ref o505), .val (.int (own_dgt mm))] [(.int (100 : Int32)), (.int (2 : Int32)), (.int (own_of mm)), (.int (own_dgt mm)), (.ref o505)])) rfl (by rw [hml]; rfl) (argsL := [(.ref o505), (.int (own_dgt mm)), (.int (own_of mm)), (.int (2 : Int32)), (.int (100 : Int32))]) (rest := []) (lenOf pd_16 rfl) rfl (by show 2 * 0 + _ ≤ _; exact Nat.le_of_eq rfl) (hb hby at_96) ?_
    intro v511 T511 L511 X511 hS hZ hown hV511 hQ511
    obtain ⟨rfl, Nq511, he511⟩ := hQ511
    have N511 := Fr.app N510 Nq511
    have e511 : T511.heap = T505.heap := he511
    show Run p e below s _ _ _ (T511.setTop (mkF m 99 #[.val (.int xx), .val (.int md), .val (.int (own_of mm)), .val (.ref o505), .val (.int (own_dgt mm))] [(.int (1 : Int32))]))
    refine Run.pre (fun _ k => XS.ifNo X511.here hx rfl (hb hby at_99) rfl ((if0 _ _).trans (feq ((by decide) : ¬ ((1 : Int32) = (0 : Int32)))).1) k) ?_
    refine Run.pre (fun _ k => XS.aloadN X511.here hx rfl (hb hby at_102) rfl rfl k) ?_
    refine Run.pre (fun _ k => XS.iload X511.here hx rfl (hb hby at_103) rfl  k) ?_
    refine Run.pre (fun _ k => XS.iloadN X511.here hx rfl (hb hby at_105) rfl  k) ?_
    show Run p e below s _ _ _ (T511.setTop (mkF m 106 #[.val (.int xx), .val (.int md), .val (.int (own_of mm)), .val (.ref o505), .val (.int (own_dgt mm))] [(.int (own_of mm)), (.int (own_dgt mm)), (.ref o505)]))
    refine Run.pre (fun _ k => XS.iconst X511.here hx rfl (hb hby at_106) k) ?_
    refine Run.pre (fun _ k => XS.sipush X511.here hx rfl (hb hby at_107) k) ?_
    show Run p e below s _ _ _ (T511.setTop (mkF m 110 #[.val (.int xx), .val (.int md), .val (.int (own_of mm)), .val (.ref o505), .val (.int (own_dgt mm))] [(.int (1000 : Int32)), (.int (3 : Int32)), (.int (own_of mm)), (.int (own_dgt mm)), (.ref o505)]))
    refine Run.callS hS (by first | exact Nat.le_refl _ | (rw [e511]; exact (Nat.le_of_eq (congrArg Array.size e511)))) X511 hx hZ (y := (⟨"com/example/hyra/hyra/model/SeatCountToWirePinLaw", "d", "(Ljava/lang/String;IIII)Z"⟩ : MethodName)) hown (hw _ (List.mem_of_getElem? (i := 86) rfl)) (hw _ (List.mem_of_getElem? (i := 87) rfl)) (hw _ (List.mem_of_getElem? (i := 68) rfl)) (hw _ (List.mem_of_getElem? (i := 88) rfl)) (by decide) (W := 0) (rmD l Z a0 hw o505 b505 k505 vs505 mm 3 1000 cs fw T505.heap n0 (Nat.le_trans Z0 K505.1) f507 SC hcs SF hfw eo505 fv505 fc505 vb505 gd505.2.2.2.1 (by decide)) e511 (by decide) (by decide) (by decide) (by decide) (fun _ _ => trivial) (g := (mkF m 110 #[.val (.int xx), .val (.int md), .val (.int (own_of mm)), .val (.ref o505), .val (.int (own_dgt mm))] [(.int (1000 : Int32)), (.int (3 : Int32)), (.int (own_of mm)), (.int (own_dgt mm)), (.ref o505)])) rfl (by rw [hml]; rfl) (argsL := [(.ref o505), (.int (own_dgt mm)), (.int (own_of mm)), (.int (3 : Int32)), (.int (1000 : Int32))]) (rest := []) (lenOf pd_16 rfl) rfl (by show 2 * 0 + _ ≤ _; exact Nat.le_of_eq rfl) (hb hby at_110) ?_
    intro v512 T512 L512 X512 hS hZ hown hV512 hQ512
    obtain ⟨rfl, Nq512, he512⟩ := hQ512
    have N512 := Fr.app N511 Nq512
    have e512 : T512.heap = T505.heap := he512
    show Run p e below s _ _ _ (T512.setTop (mkF m 113 #[.val (.int xx), .val (.int md), .val (.int (own_of mm)), .val (.ref o505), .val (.int (own_dgt mm))] [(.int (1 : Int32))]))
    refine Run.pre (fun _ k => XS.ifNo X512.here hx rfl (hb hby at_113) rfl ((if0 _ _).trans (feq ((by decide) : ¬ ((1 : Int32) = (0 : Int32)))).1) k) ?_
    refine Run.pre (fun _ k => XS.aloadN X512.here hx rfl (hb hby at_116) rfl rfl k) ?_
    refine Run.pre (fun _ k => XS.iload X512.here hx rfl (hb hby at_117) rfl  k) ?_
    refine Run.pre (fun _ k => XS.iloadN X512.here hx rfl (hb hby at_119) rfl  k) ?_
    show Run p e below s _ _ _ (T512.setTop (mkF m 120 #[.val (.int xx), .val (.int md), .val (.int (own_of mm)), .val (.ref o505), .val (.int (own_dgt mm))] [(.int (own_of mm)), (.int (own_dgt mm)), (.ref o505)]))
    refine Run.pre (fun _ k => XS.iconst X512.here hx rfl (hb hby at_120) k) ?_
    refine Run.pre (fun _ k => XS.sipush X512.here hx rfl (hb hby at_121) k) ?_
    show Run p e below s _ _ _ (T512.setTop (mkF m 124 #[.val (.int xx), .val (.int md), .val (.int (own_of mm)), .val (.ref o505), .val (.int (own_dgt mm))] [(.int (10000 : Int32)), (.int (4 : Int32)), (.int (own_of mm)), (.int (own_dgt mm)), (.ref o505)]))
    refine Run.callS hS (by first | exact Nat.le_refl _ | (rw [e512]; exact (Nat.le_of_eq (congrArg Array.size e512)))) X512 hx hZ (y := (⟨"com/example/hyra/hyra/model/SeatCountToWirePinLaw", "d", "(Ljava/lang/String;IIII)Z"⟩ : MethodName)) hown (hw _ (List.mem_of_getElem? (i := 86) rfl)) (hw _ (List.mem_of_getElem? (i := 87) rfl)) (hw _ (List.mem_of_getElem? (i := 68) rfl)) (hw _ (List.mem_of_getElem? (i := 88) rfl)) (by decide) (W := 0) (rmD l Z a0 hw o505 b505 k505 vs505 mm 4 10000 cs fw T505.heap n0 (Nat.le_trans Z0 K505.1) f507 SC hcs SF hfw eo505 fv505 fc505 vb505 gd505.2.2.2.2.1 (by decide)) e512 (by decide) (by decide) (by decide) (by decide) (fun _ _ => trivial) (g := (mkF m 124 #[.val (.int xx), .val (.int md), .val (.int (own_of mm)), .val (.ref o505), .val (.int (own_dgt mm))] [(.int (10000 : Int32)), (.int (4 : Int32)), (.int (own_of mm)), (.int (own_dgt mm)), (.ref o505)])) rfl (by rw [hml]; rfl) (argsL := [(.ref o505), (.int (own_dgt mm)), (.int (own_of mm)), (.int (4 : Int32)), (.int (10000 : Int32))]) (rest := []) (lenOf pd_16 rfl) rfl (by show 2 * 0 + _ ≤ _; exact Nat.le_of_eq rfl) (hb hby at_124) ?_
    intro v513 T513 L513 X513 hS hZ hown hV513 hQ513
    obtain ⟨rfl, Nq513, he513⟩ := hQ513
    have N513 := Fr.app N512 Nq513
    have e513 : T513.heap = T505.heap := he513
    show Run p e below s _ _ _ (T513.setTop (mkF m 127 #[.val (.int xx), .val (.int md), .val (.int (own_of mm)), .val (.ref o505), .val (.int (own_dgt mm))] [(.int (1 : Int32))]))
    refine Run.pre (fun _ k => XS.ifNo X513.here hx rfl (hb hby at_127) rfl ((if0 _ _).trans (feq ((by decide) : ¬ ((1 : Int32) = (0 : Int32)))).1) k) ?_
    refine Run.pre (fun _ k => XS.aloadN X513.here hx rfl (hb hby at_130) rfl rfl k) ?_
    refine Run.pre (fun _ k => XS.iload X513.here hx rfl (hb hby at_131) rfl  k) ?_
    refine Run.pre (fun _ k => XS.iloadN X513.here hx rfl (hb hby at_133) rfl  k) ?_
    show Run p e below s _ _ _ (T513.setTop (mkF m 134 #[.val (.int xx), .val (.int md), .val (.int (own_of mm)), .val (.ref o505), .val (.int (own_dgt mm))] [(.int (own_of mm)), (.int (own_dgt mm)), (.ref o505)]))
    refine Run.pre (fun _ k => XS.iconst X513.here hx rfl (hb hby at_134) k) ?_
    show Run p e below s _ _ _ (T513.setTop (mkF m 135 #[.val (.int xx), .val (.int md), .val (.int (own_of mm)), .val (.ref o505), .val (.int (own_dgt mm))] [(.int (5 : Int32)), (.int (own_of mm)), (.int (own_dgt mm)), (.ref o505)]))
    refine Run.pre (X513.ldcInt hx hown (mvT hZ (hw _ (List.mem_of_getElem? (i := 70) rfl))) (g := (mkF m 135 #[.val (.int xx), .val (.int md), .val (.int (own_of mm)), .val (.ref o505), .val (.int (own_dgt mm))] [(.int (5 : Int32)), (.int (own_of mm)), (.int (own_dgt mm)), (.ref o505)])) rfl (hb hby at_135)) ?_
    show Run p e below s _ _ _ (T513.setTop (mkF m 137 #[.val (.int xx), .val (.int md), .val (.int (own_of mm)), .val (.ref o505), .val (.int (own_dgt mm))] [(.int (100000 : Int32)), (.int (5 : Int32)), (.int (own_of mm)), (.int (own_dgt mm)), (.ref o505)]))
    refine Run.callS hS (by first | exact Nat.le_refl _ | (rw [e513]; exact (Nat.le_of_eq (congrArg Array.size e513)))) X513 hx hZ (y := (⟨"com/example/hyra/hyra/model/SeatCountToWirePinLaw", "d", "(Ljava/lang/String;IIII)Z"⟩ : MethodName)) hown (hw _ (List.mem_of_getElem? (i := 86) rfl)) (hw _ (List.mem_of_getElem? (i := 87) rfl)) (hw _ (List.mem_of_getElem? (i := 68) rfl)) (hw _ (List.mem_of_getElem? (i := 88) rfl)) (by decide) (W := 0) (rmD l Z a0 hw o505 b505 k505 vs505 mm 5 100000 cs fw T505.heap n0 (Nat.le_trans Z0 K505.1) f507 SC hcs SF hfw eo505 fv505 fc505 vb505 gd505.2.2.2.2.2.1 (by decide)) e513 (by decide) (by decide) (by decide) (by decide) (fun _ _ => trivial) (g := (mkF m 137 #[.val (.int xx), .val (.int md), .val (.int (own_of mm)), .val (.ref o505), .val (.int (own_dgt mm))] [(.int (100000 : Int32)), (.int (5 : Int32)), (.int (own_of mm)), (.int (own_dgt mm)), (.ref o505)])) rfl (by rw [hml]; rfl) (argsL := [(.ref o505), (.int (own_dgt mm)), (.int (own_of mm)), (.int (5 : Int32)), (.int (100000 : Int32))]) (rest := []) (lenOf pd_16 rfl) rfl (by show 2 * 0 + _ ≤ _; exact Nat.le_of_eq rfl) (hb hby at_137) ?_
    intro v514 T514 L514 X514 hS hZ hown hV514 hQ514
    obtain ⟨rfl, Nq514, he514⟩ := hQ514
    have N514 := Fr.app N513 Nq514
    have e514 : T514.heap = T505.heap := he514
    show Run p e below s _ _ _ (T514.setTop (mkF m 140 #[.val (.int xx), .val (.int md), .val (.int (own_of mm)), .val (.ref o505), .val (.int (own_dgt mm))] [(.int (1 : Int32))]))
    refine Run.pre (fun _ k => XS.ifNo X514.here hx rfl (hb hby at_140) rfl ((if0 _ _).trans (feq ((by decide) : ¬ ((1 : Int32) = (0 : Int32)))).1) k) ?_
    refine Run.pre (fun _ k => XS.aloadN X514.here hx rfl (hb hby at_143) rfl rfl k) ?_
    refine Run.pre (fun _ k => XS.iload X514.here hx rfl (hb hby at_144) rfl  k) ?_
    refine Run.pre (fun _ k => XS.iloadN X514.here hx rfl (hb hby at_146) rfl  k) ?_
    show Run p e below s _ _ _ (T514.setTop (mkF m 147 #[.val (.int xx), .val (.int md), .val (.int (own_of mm)), .val (.ref o505), .val (.int (own_dgt mm))] [(.int (own_of mm)), (.int (own_dgt mm)), (.ref o505)]))
    refine Run.pre (fun _ k => XS.bipush X514.here hx rfl (hb hby at_147) k) ?_
    show Run p e below s _ _ _ (T514.setTop (mkF m 149 #[.val (.int xx), .val (.int md), .val (.int (own_of mm)), .val (.ref o505), .val (.int (own_dgt mm))] [(.int (6 : Int32)), (.int (own_of mm)), (.int (own_dgt mm)), (.ref o505)]))
    refine Run.pre (X514.ldcInt hx hown (mvT hZ (hw _ (List.mem_of_getElem? (i := 71) rfl))) (g := (mkF m 149 #[.val (.int xx), .val (.int md), .val (.int (own_of mm)), .val (.ref o505), .val (.int (own_dgt mm))] [(.int (6 : Int32)), (.int (own_of mm)), (.int (own_dgt mm)), (.ref o505)])) rfl (hb hby at_149)) ?_
    show Run p e below s _ _ _ (T514.setTop (mkF m 151 #[.val (.int xx), .val (.int md), .val (.int (own_of mm)), .val (.ref o505), .val (.int (own_dgt mm))] [(.int (1000000 : Int32)), (.int (6 : Int32)), (.int (own_of mm)), (.int (own_dgt mm)), (.ref o505)]))
    refine Run.callS hS (by first | exact Nat.le_refl _ | (rw [e514]; exact (Nat.le_of_eq (congrArg Array.size e514)))) X514 hx hZ (y := (⟨"com/example/hyra/hyra/model/SeatCountToWirePinLaw", "d", "(Ljava/lang/String;IIII)Z"⟩ : MethodName)) hown (hw _ (List.mem_of_getElem? (i := 86) rfl)) (hw _ (List.mem_of_getElem? (i := 87) rfl)) (hw _ (List.mem_of_getElem? (i := 68) rfl)) (hw _ (List.mem_of_getElem? (i := 88) rfl)) (by decide) (W := 0) (rmD l Z a0 hw o505 b505 k505 vs505 mm 6 1000000 cs fw T505.heap n0 (Nat.le_trans Z0 K505.1) f507 SC hcs SF hfw eo505 fv505 fc505 vb505 gd505.2.2.2.2.2.2.1 (by decide)) e514 (by decide) (by decide) (by decide) (by decide) (fun _ _ => trivial) (g := (mkF m 151 #[.val (.int xx), .val (.int md), .val (.int (own_of mm)), .val (.ref o505), .val (.int (own_dgt mm))] [(.int (1000000 : Int32)), (.int (6 : Int32)), (.int (own_of mm)), (.int (own_dgt mm)), (.ref o505)])) rfl (by rw [hml]; rfl) (argsL := [(.ref o505), (.int (own_dgt mm)), (.int (own_of mm)), (.int (6 : Int32)), (.int (1000000 : Int32))]) (rest := []) (lenOf pd_16 rfl) rfl (by show 2 * 0 + _ ≤ _; exact Nat.le_of_eq rfl) (hb hby at_151) ?_
    intro v515 T515 L515 X515 hS hZ hown hV515 hQ515
    obtain ⟨rfl, Nq515, he515⟩ := hQ515
    have N515 := Fr.app N514 Nq515
    have e515 : T515.heap = T505.heap := he515
    show Run p e below s _ _ _ (T515.setTop (mkF m 154 #[.val (.int xx), .val (.int md), .val (.int (own_of mm)), .val (.ref o505), .val (.int (own_dgt mm))] [(.int (1 : Int32))]))
    refine Run.pre (fun _ k => XS.ifNo X515.here hx rfl (hb hby at_154) rfl ((if0 _ _).trans (feq ((by decide) : ¬ ((1 : Int32) = (0 : Int32)))).1) k) ?_
    refine Run.pre (fun _ k => XS.aloadN X515.here hx rfl (hb hby at_157) rfl rfl k) ?_
    refine Run.pre (fun _ k => XS.iload X515.here hx rfl (hb hby at_158) rfl  k) ?_
    refine Run.pre (fun _ k => XS.iloadN X515.here hx rfl (hb hby at_160) rfl  k) ?_
    show Run p e below s _ _ _ (T515.setTop (mkF m 161 #[.val (.int xx), .val (.int md), .val (.int (own_of mm)), .val (.ref o505), .val (.int (own_dgt mm))] [(.int (own_of mm)), (.int (own_dgt mm)), (.ref o505)]))
    refine Run.pre (fun _ k => XS.bipush X515.here hx rfl (hb hby at_161) k) ?_
    show Run p e below s _ _ _ (T515.setTop (mkF m 163 #[.val (.int xx), .val (.int md), .val (.int (own_of mm)), .val (.ref o505), .val (.int (own_dgt mm))] [(.int (7 : Int32)), (.int (own_of mm)), (.int (own_dgt mm)), (.ref o505)]))
    refine Run.pre (X515.ldcInt hx hown (mvT hZ (hw _ (List.mem_of_getElem? (i := 72) rfl))) (g := (mkF m 163 #[.val (.int xx), .val (.int md), .val (.int (own_of mm)), .val (.ref o505), .val (.int (own_dgt mm))] [(.int (7 : Int32)), (.int (own_of mm)), (.int (own_dgt mm)), (.ref o505)])) rfl (hb hby at_163)) ?_
    show Run p e below s _ _ _ (T515.setTop (mkF m 165 #[.val (.int xx), .val (.int md), .val (.int (own_of mm)), .val (.ref o505), .val (.int (own_dgt mm))] [(.int (10000000 : Int32)), (.int (7 : Int32)), (.int (own_of mm)), (.int (own_dgt mm)), (.ref o505)]))
    refine Run.callS hS (by first | exact Nat.le_refl _ | (rw [e515]; exact (Nat.le_of_eq (congrArg Array.size e515)))) X515 hx hZ (y := (⟨"com/example/hyra/hyra/model/SeatCountToWirePinLaw", "d", "(Ljava/lang/String;IIII)Z"⟩ : MethodName)) hown (hw _ (List.mem_of_getElem? (i := 86) rfl)) (hw _ (List.mem_of_getElem? (i := 87) rfl)) (hw _ (List.mem_of_getElem? (i := 68) rfl)) (hw _ (List.mem_of_getElem? (i := 88) rfl)) (by decide) (W := 0) (rmD l Z a0 hw o505 b505 k505 vs505 mm 7 10000000 cs fw T505.heap n0 (Nat.le_trans Z0 K505.1) f507 SC hcs SF hfw eo505 fv505 fc505 vb505 gd505.2.2.2.2.2.2.2.1 (by decide)) e515 (by decide) (by decide) (by decide) (by decide) (fun _ _ => trivial) (g := (mkF m 165 #[.val (.int xx), .val (.int md), .val (.int (own_of mm)), .val (.ref o505), .val (.int (own_dgt mm))] [(.int (10000000 : Int32)), (.int (7 : Int32)), (.int (own_of mm)), (.int (own_dgt mm)), (.ref o505)])) rfl (by rw [hml]; rfl) (argsL := [(.ref o505), (.int (own_dgt mm)), (.int (own_of mm)), (.int (7 : Int32)), (.int (10000000 : Int32))]) (rest := []) (lenOf pd_16 rfl) rfl (by show 2 * 0 + _ ≤ _; exact Nat.le_of_eq rfl) (hb hby at_165) ?_
    intro v516 T516 L516 X516 hS hZ hown hV516 hQ516
    obtain ⟨rfl, Nq516, he516⟩ := hQ516
    have N516 := Fr.app N515 Nq516
    have e516 : T516.heap = T505.heap := he516
    show Run p e below s _ _ _ (T516.setTop (mkF m 168 #[.val (.int xx), .val (.int md), .val (.int (own_of mm)), .val (.ref o505), .val (.int (own_dgt mm))] [(.int (1 : Int32))]))
    refine Run.pre (fun _ k => XS.ifNo X516.here hx rfl (hb hby at_168) rfl ((if0 _ _).trans (feq ((by decide) : ¬ ((1 : Int32) = (0 : Int32)))).1) k) ?_
    refine Run.pre (fun _ k => XS.aloadN X516.here hx rfl (hb hby at_171) rfl rfl k) ?_
    refine Run.pre (fun _ k => XS.iload X516.here hx rfl (hb hby at_172) rfl  k) ?_
    refine Run.pre (fun _ k => XS.iloadN X516.here hx rfl (hb hby at_174) rfl  k) ?_
    show Run p e below s _ _ _ (T516.setTop (mkF m 175 #[.val (.int xx), .val (.int md), .val (.int (own_of mm)), .val (.ref o505), .val (.int (own_dgt mm))] [(.int (own_of mm)), (.int (own_dgt mm)), (.ref o505)]))
    refine Run.pre (fun _ k => XS.bipush X516.here hx rfl (hb hby at_175) k) ?_
    show Run p e below s _ _ _ (T516.setTop (mkF m 177 #[.val (.int xx), .val (.int md), .val (.int (own_of mm)), .val (.ref o505), .val (.int (own_dgt mm))] [(.int (8 : Int32)), (.int (own_of mm)), (.int (own_dgt mm)), (.ref o505)]))
    refine Run.pre (X516.ldcInt hx hown (mvT hZ (hw _ (List.mem_of_getElem? (i := 73) rfl))) (g := (mkF m 177 #[.val (.int xx), .val (.int md), .val (.int (own_of mm)), .val (.ref o505), .val (.int (own_dgt mm))] [(.int (8 : Int32)), (.int (own_of mm)), (.int (own_dgt mm)), (.ref o505)])) rfl (hb hby at_177)) ?_
    show Run p e below s _ _ _ (T516.setTop (mkF m 179 #[.val (.int xx), .val (.int md), .val (.int (own_of mm)), .val (.ref o505), .val (.int (own_dgt mm))] [(.int (100000000 : Int32)), (.int (8 : Int32)), (.int (own_of mm)), (.int (own_dgt mm)), (.ref o505)]))
    refine Run.callS hS (by first | exact Nat.le_refl _ | (rw [e516]; exact (Nat.le_of_eq (congrArg Array.size e516)))) X516 hx hZ (y := (⟨"com/example/hyra/hyra/model/SeatCountToWirePinLaw", "d", "(Ljava/lang/String;IIII)Z"⟩ : MethodName)) hown (hw _ (List.mem_of_getElem? (i := 86) rfl)) (hw _ (List.mem_of_getElem? (i := 87) rfl)) (hw _ (List.mem_of_getElem? (i := 68) rfl)) (hw _ (List.mem_of_getElem? (i := 88) rfl)) (by decide) (W := 0) (rmD l Z a0 hw o505 b505 k505 vs505 mm 8 100000000 cs fw T505.heap n0 (Nat.le_trans Z0 K505.1) f507 SC hcs SF hfw eo505 fv505 fc505 vb505 gd505.2.2.2.2.2.2.2.2.1 (by decide)) e516 (by decide) (by decide) (by decide) (by decide) (fun _ _ => trivial) (g := (mkF m 179 #[.val (.int xx), .val (.int md), .val (.int (own_of mm)), .val (.ref o505), .val (.int (own_dgt mm))] [(.int (100000000 : Int32)), (.int (8 : Int32)), (.int (own_of mm)), (.int (own_dgt mm)), (.ref o505)])) rfl (by rw [hml]; rfl) (argsL := [(.ref o505), (.int (own_dgt mm)), (.int (own_of mm)), (.int (8 : Int32)), (.int (100000000 : Int32))]) (rest := []) (lenOf pd_16 rfl) rfl (by show 2 * 0 + _ ≤ _; exact Nat.le_of_eq rfl) (hb hby at_179) ?_
    intro v517 T517 L517 X517 hS hZ hown hV517 hQ517
    obtain ⟨rfl, Nq517, he517⟩ := hQ517
    have N517 := Fr.app N516 Nq517
    have e517 : T517.heap = T505.heap := he517
    show Run p e below s _ _ _ (T517.setTop (mkF m 182 #[.val (.int xx), .val (.int md), .val (.int (own_of mm)), .val (.ref o505), .val (.int (own_dgt mm))] [(.int (1 : Int32))]))
    refine Run.pre (fun _ k => XS.ifNo X517.here hx rfl (hb hby at_182) rfl ((if0 _ _).trans (feq ((by decide) : ¬ ((1 : Int32) = (0 : Int32)))).1) k) ?_
    refine Run.pre (fun _ k => XS.aloadN X517.here hx rfl (hb hby at_185) rfl rfl k) ?_
    refine Run.pre (fun _ k => XS.iload X517.here hx rfl (hb hby at_186) rfl  k) ?_
    refine Run.pre (fun _ k => XS.iloadN X517.here hx rfl (hb hby at_188) rfl  k) ?_
    show Run p e below s _ _ _ (T517.setTop (mkF m 189 #[.val (.int xx), .val (.int md), .val (.int (own_of mm)), .val (.ref o505), .val (.int (own_dgt mm))] [(.int (own_of mm)), (.int (own_dgt mm)), (.ref o505)]))
    refine Run.pre (fun _ k => XS.bipush X517.here hx rfl (hb hby at_189) k) ?_
    show Run p e below s _ _ _ (T517.setTop (mkF m 191 #[.val (.int xx), .val (.int md), .val (.int (own_of mm)), .val (.ref o505), .val (.int (own_dgt mm))] [(.int (9 : Int32)), (.int (own_of mm)), (.int (own_dgt mm)), (.ref o505)]))
    refine Run.pre (X517.ldcInt hx hown (mvT hZ (hw _ (List.mem_of_getElem? (i := 74) rfl))) (g := (mkF m 191 #[.val (.int xx), .val (.int md), .val (.int (own_of mm)), .val (.ref o505), .val (.int (own_dgt mm))] [(.int (9 : Int32)), (.int (own_of mm)), (.int (own_dgt mm)), (.ref o505)])) rfl (hb hby at_191)) ?_
    show Run p e below s _ _ _ (T517.setTop (mkF m 193 #[.val (.int xx), .val (.int md), .val (.int (own_of mm)), .val (.ref o505), .val (.int (own_dgt mm))] [(.int (1000000000 : Int32)), (.int (9 : Int32)), (.int (own_of mm)), (.int (own_dgt mm)), (.ref o505)]))
    refine Run.callS hS (by first | exact Nat.le_refl _ | (rw [e517]; exact (Nat.le_of_eq (congrArg Array.size e517)))) X517 hx hZ (y := (⟨"com/example/hyra/hyra/model/SeatCountToWirePinLaw", "d", "(Ljava/lang/String;IIII)Z"⟩ : MethodName)) hown (hw _ (List.mem_of_getElem? (i := 86) rfl)) (hw _ (List.mem_of_getElem? (i := 87) rfl)) (hw _ (List.mem_of_getElem? (i := 68) rfl)) (hw _ (List.mem_of_getElem? (i := 88) rfl)) (by decide) (W := 0) (rmD l Z a0 hw o505 b505 k505 vs505 mm 9 1000000000 cs fw T505.heap n0 (Nat.le_trans Z0 K505.1) f507 SC hcs SF hfw eo505 fv505 fc505 vb505 gd505.2.2.2.2.2.2.2.2.2 (by decide)) e517 (by decide) (by decide) (by decide) (by decide) (fun _ _ => trivial) (g := (mkF m 193 #[.val (.int xx), .val (.int md), .val (.int (own_of mm)), .val (.ref o505), .val (.int (own_dgt mm))] [(.int (1000000000 : Int32)), (.int (9 : Int32)), (.int (own_of mm)), (.int (own_dgt mm)), (.ref o505)])) rfl (by rw [hml]; rfl) (argsL := [(.ref o505), (.int (own_dgt mm)), (.int (own_of mm)), (.int (9 : Int32)), (.int (1000000000 : Int32))]) (rest := []) (lenOf pd_16 rfl) rfl (by show 2 * 0 + _ ≤ _; exact Nat.le_of_eq rfl) (hb hby at_193) ?_
    intro v518 T518 L518 X518 hS hZ hown hV518 hQ518
    obtain ⟨rfl, Nq518, he518⟩ := hQ518
    have N518 := Fr.app N517 Nq518
    have e518 : T518.heap = T505.heap := he518
    show Run p e below s _ _ _ (T518.setTop (mkF m 196 #[.val (.int xx), .val (.int md), .val (.int (own_of mm)), .val (.ref o505), .val (.int (own_dgt mm))] [(.int (1 : Int32))]))
    refine Run.pre (fun _ k => XS.ifNo X518.here hx rfl (hb hby at_196) rfl ((if0 _ _).trans (feq ((by decide) : ¬ ((1 : Int32) = (0 : Int32)))).1) k) ?_
    refine Run.pre (fun _ k => XS.iconst X518.here hx rfl (hb hby at_199) k) ?_
    refine Run.pre (fun _ k => XS.goto X518.here hx rfl (pc0 := 200) (pc' := 204) rfl (hb hby at_200) (by decide) (by decide) k) ?_
    show Run p e below s _ _ _ (T518.setTop (mkF m 204 #[.val (.int xx), .val (.int md), .val (.int (own_of mm)), .val (.ref o505), .val (.int (own_dgt mm))] [(.int (1 : Int32))]))
    exact Run.retN hS (by first | exact Nat.le_refl _ | (rw [e518]; exact (Nat.le_of_eq (congrArg Array.size e518)))) X518 hx hret (t := .boolean) (by simp) hlk (hb hby at_204) (by first | (rw [e518]; exact ⟨rfl, N518⟩) | exact ⟨rfl, N518⟩) (by decide) (by decide)
  · skip
    refine Run.pre (fun _ k => XS.ifNo X0.here hx rfl (hb hby at_3) rfl ((if0 _ _).trans (feq (hc502 : ¬ ((md &&& (1 : Int32)) = (0 : Int32)))).1) k) ?_
    refine Run.pre (fun _ k => XS.aconstNull X0.here hx rfl (hb hby at_6) k) ?_
    show Run p e below s _ _ _ (s₁.setTop (mkF m 7 #[.val (.int xx), .val (.int md), .unset, .unset, .unset] [.null]))
    refine Run.callS hS (by first | exact Nat.le_refl _ | (rw [e0]; exact (Nat.zero_le _))) X0 hx hZ (y := (⟨"com/example/hyra/hyra/model/SeatCount", "toWire", "(Ljava/lang/Integer;)Ljava/lang/String;"⟩ : MethodName)) hown (hw _ (List.mem_of_getElem? (i := 0) rfl)) (hw _ (List.mem_of_getElem? (i := 1) rfl)) (hw _ (List.mem_of_getElem? (i := 2) rfl)) (hw _ (List.mem_of_getElem? (i := 3) rfl)) (by decide) (W := 0) (rmTN l Z a0 hw h0 n0 (Nat.le_trans Z0 (Keep.refl h0 []).1) OL hH hcw) e0 (by decide) (by decide) (by decide) (by decide) (fun _ q => own_ibStays hP0 q) (g := (mkF m 7 #[.val (.int xx), .val (.int md), .unset, .unset, .unset] [.null])) rfl (by rw [hml]; rfl) (argsL := [.null]) (rest := []) (lenOf pd_14 rfl) rfl (by show 2 * 0 + _ ≤ _; exact Nat.le_of_eq rfl) (hb hby at_7) ?_
    intro v519 T519 L519 X519 hS hZ hown hV519 hQ519
    obtain ⟨o519, b519, k519, rfl, Nq519, Kc519, eo519, fv519, vb519⟩ := hQ519
    have N519 := Fr.app N0 Nq519
    have K519 : Keep h0 T519.heap [] := (Keep.refl h0 []).trans Kc519 all0
    show Run p e below s _ _ _ (T519.setTop (mkF m 10 #[.val (.int xx), .val (.int md), .unset, .unset, .unset] [(.ref o519)]))
    refine Run.pre (fun _ k => XS.astoreN X519.here hx rfl (hb hby at_10) rfl rfl (l' := #[.val (.int xx), .val (.int md), .val (.ref o519), .unset, .unset]) rfl k) ?_
    refine Run.pre (fun _ k => XS.aloadN X519.here hx rfl (hb hby at_11) rfl rfl k) ?_
    show Run p e below s _ _ _ (T519.setTop (mkF m 12 #[.val (.int xx), .val (.int md), .val (.ref o519), .unset, .unset] [(.ref o519)]))
    refine Run.pre (fun _ k => XS.ifnullNo X519.here hx rfl (hb hby at_12) rfl k) ?_
    refine Run.pre (fun _ k => XS.aloadN X519.here hx rfl (hb hby at_15) rfl rfl k) ?_
    show Run p e below s _ _ _ (T519.setTop (mkF m 16 #[.val (.int xx), .val (.int md), .val (.ref o519), .unset, .unset] [(.ref o519)]))
    refine Run.callV hS (Nat.le_refl _) X519 hx hZ (y := (⟨"java/lang/String", "isEmpty", "()Z"⟩ : MethodName)) (z := (⟨"java/lang/String", "isEmpty", "()Z"⟩ : MethodName)) hown (hw _ (List.mem_of_getElem? (i := 12) rfl)) (hw _ (List.mem_of_getElem? (i := 13) rfl)) (notFace_of_selects (args := #[]) (mvT hZ (hw _ (List.mem_of_getElem? (i := 15) rfl)))) (hw _ (List.mem_of_getElem? (i := 15) rfl)) (hw _ (List.mem_of_getElem? (i := 14) rfl)) (hw _ (List.mem_of_getElem? (i := 16) rfl)) (hw _ (List.mem_of_getElem? (i := 5) rfl)) (by decide) (b := o519) eo519 (W := 0) (rmIE l Z a0 hw o519 b519 k519 T519.heap n0 (Nat.le_trans Z0 K519.1) fv519 vb519) rfl (by decide) (by decide) (by decide) (by decide) (fun _ _ => trivial) (g := (mkF m 16 #[.val (.int xx), .val (.int md), .val (.ref o519), .unset, .unset] [(.ref o519)])) rfl (by rw [hml]; rfl) (argsL := []) (rest := []) (lenOf pd_3 rfl) rfl (by show 2 * 0 + _ ≤ _; exact Nat.le_of_eq rfl) (hb hby at_16) ?_
    intro v520 T520 L520 X520 hS hZ hown hV520 hQ520
    obtain ⟨rfl, Nq520, he520⟩ := hQ520
    have N520 := Fr.app N519 Nq520
    have e520 : T520.heap = T519.heap := he520
    show Run p e below s _ _ _ (T520.setTop (mkF m 19 #[.val (.int xx), .val (.int md), .val (.ref o519), .unset, .unset] [(.int (1 : Int32))]))
    refine Run.pre (fun _ k => XS.ifNo X520.here hx rfl (hb hby at_19) rfl ((if0 _ _).trans (feq ((by decide) : ¬ ((1 : Int32) = (0 : Int32)))).1) k) ?_
    refine Run.pre (fun _ k => XS.iconst X520.here hx rfl (hb hby at_22) k) ?_
    refine Run.pre (fun _ k => XS.goto X520.here hx rfl (pc0 := 23) (pc' := 27) rfl (hb hby at_23) (by decide) (by decide) k) ?_
    show Run p e below s _ _ _ (T520.setTop (mkF m 27 #[.val (.int xx), .val (.int md), .val (.ref o519), .unset, .unset] [(.int (1 : Int32))]))
    exact Run.retN hS (by first | exact Nat.le_refl _ | (rw [e520]; exact (Nat.le_of_eq (congrArg Array.size e520)))) X520 hx hret (t := .boolean) (by simp) hlk (hb hby at_27) (by first | (rw [e520]; exact ⟨rfl, N520⟩) | exact ⟨rfl, N520⟩) (by decide) (by decide)
theorem own_held {s : State} {tb : Tables} {e : Env} {args : Array Value} (h : Calls_1 tb e args s) : Jvm.Lit.constHeld s "com/example/hyra/hyra/model/SeatCount" 7 := by
  obtain ⟨h1, -⟩ := h
  exact h1 ("com/example/hyra/hyra/model/SeatCount", 7) (by simp [consts_1])
set_option maxRecDepth 65536 in
set_option maxHeartbeats 40000000 in
theorem comes_1 {Post : Tables → Env → Array Value → State → Outcome → State → Prop} (hpost : ∀ tb e args s v u, (limb_1_1.after args s (.returned v) u = true ∧ limb_1_2.after args s (.returned v) u = true ∧ True) → ReturnedEndW s (.returned v) u (Jvm.fieldLocs frame_1_writes args s ++ Jvm.arrayLocs frame_1_arrays args s ++ Jvm.staticLocs frame_1_statics s) 16 1152 → Post tb e args s (.returned v) u) :
    ArmFor flags0 classFile x code maxLocals ret World_1 tables_1 room_1 Calls_1 rest_1 Pre_1 Post := by
  intro l hfl _ _ p e ha hc hk s m args below hf hA hF happ hP
  obtain ⟨hcalls, hrest, hpre⟩ := hP
  obtain ⟨-, -, -, hnamed, -, -, -, hat⟩ := (Spec.applies_iff hf).mp happ
  obtain ⟨hg, hn⟩ := and_e (Cond.before_iff.mp (show (Jvm.Cond.and given_1 narrow_1).before args s = true from hpre))
  obtain ⟨g0, gr0⟩ := and_e hg
  obtain ⟨g1, gr1⟩ := and_e gr0
  obtain ⟨w0, w1, rfl⟩ : ∃ w0 w1 : Value, args = #[w0, w1] := by
    have hs : args.size = 2 := by simpa [Cond.value, given_1] using g0
    obtain ⟨L⟩ := args
    match L, hs with
    | [w0, w1], _ => exact ⟨w0, w1, rfl⟩
  have hw := fun d (hd : d ∈ tables_1) => atoms_spec (ws := Jvm.Cond.code x code maxLocals ret :: tables_1) hat d (List.mem_cons_of_mem _ hd)
  have hfit : Fit s := own_fit hF
  obtain ⟨hsets, hown0⟩ := atoms_of _ (rest_1_c_eq ▸ (show rest_1_c.before _ s = true from hrest))
  have hr0 := Cond.before_iff.mp hown0
  obtain ⟨i0, ei0⟩ := is_v g1
  obtain rfl : w0 = (.int i0) := Option.some.inj ei0
  obtain ⟨i1, ei1⟩ := is_v gr1
  obtain rfl : w1 = (.int i1) := Option.some.inj ei1
  obtain ⟨cs0, ecs⟩ := is_v (Cond.before_iff.mp (hsets _ (List.mem_of_getElem? (i := 9) rfl)))
  have S_C := Sta.start ecs (Or.inl (hsets _ (List.mem_of_getElem? (i := 8) rfl)))
  have hcs0 : ¬ cs0 = 0 := own_ne0 ecs (Cond.before_iff.mp (hsets _ (List.mem_of_getElem? (i := 10) rfl)))
  obtain ⟨fw0, efw, hfw0⟩ := isR_v (Cond.before_iff.mp (hsets _ (List.mem_of_getElem? (i := 16) rfl)))
  have S_F := Sta.start efw (Or.inl (hsets _ (List.mem_of_getElem? (i := 15) rfl)))
  obtain ⟨w_O, ev_O⟩ := exa_v (Cond.before_iff.mp (hsets _ (List.mem_of_getElem? (i := 20) rfl)))
  have S_O := Sta.start ev_O (Or.inl (hsets _ (List.mem_of_getElem? (i := 19) rfl)))
  have E_O := Exa.start ev_O (Cond.before_iff.mp (hsets _ (List.mem_of_getElem? (i := 20) rfl)))
  obtain ⟨cl_O, Ar_O⟩ := own_byteArr ev_O E_O (hw _ (List.mem_of_getElem? (i := 7) rfl)) (Cond.before_iff.mp (hsets _ (List.mem_of_getElem? (i := 21) rfl)))
  have A_O := own_digA (vs := own_DO) hfit ev_O Ar_O (own_len ev_O Ar_O (Cond.before_iff.mp (hsets _ (List.mem_of_getElem? (i := 21) rfl)))) own_uO rfl (Cond.before_iff.mp (hsets _ (List.mem_of_getElem? (i := 22) rfl)))
  obtain ⟨w_T, ev_T⟩ := exa_v (Cond.before_iff.mp (hsets _ (List.mem_of_getElem? (i := 25) rfl)))
  have S_T := Sta.start ev_T (Or.inl (hsets _ (List.mem_of_getElem? (i := 24) rfl)))
  have E_T := Exa.start ev_T (Cond.before_iff.mp (hsets _ (List.mem_of_getElem? (i := 25) rfl)))
  obtain ⟨cl_T, Ar_T⟩ := own_byteArr ev_T E_T (hw _ (List.mem_of_getElem? (i := 7) rfl)) (Cond.before_iff.mp (hsets _ (List.mem_of_getElem? (i := 26) rfl)))
  have A_T := own_digA (vs := own_DT) hfit ev_T Ar_T (own_len ev_T Ar_T (Cond.before_iff.mp (hsets _ (List.mem_of_getElem? (i := 26) rfl)))) own_uT rfl (Cond.before_iff.mp (hsets _ (List.mem_of_getElem? (i := 27) rfl)))
  have S_Hi := own_staInt (Cond.before_iff.mp (hsets _ (List.mem_of_getElem? (i := 3) rfl))) (Or.inl (hsets _ (List.mem_of_getElem? (i := 1) rfl)))
  obtain ⟨w_Ca, ev_Ca⟩ := exa_v (Cond.before_iff.mp (hsets _ (List.mem_of_getElem? (i := 5) rfl)))
  have S_Ca := Sta.start ev_Ca (Or.inr ⟨(hw _ (List.mem_of_getElem? (i := 24) rfl)), (hsets _ (List.mem_of_getElem? (i := 2) rfl))⟩)
  obtain ⟨cl_Ca, Ar_Ca⟩ := Arr.start ev_Ca (Cond.before_iff.mp (hsets _ (List.mem_of_getElem? (i := 4) rfl)))
  obtain ⟨vc0, A_Ca, hC0⟩ := own_cacheA ev_Ca hfit Ar_Ca (own_len ev_Ca Ar_Ca (Cond.before_iff.mp (hsets _ (List.mem_of_getElem? (i := 6) rfl)))) (Cond.before_iff.mp (hsets _ (List.mem_of_getElem? (i := 7) rfl)))
  have hH := own_held hcalls
  obtain ⟨n, o, h1, h2, h3, _, L, rfl, ⟨rfl, N⟩, hq⟩ := rm0 l s _ hw i0 i1 cs0 fw0 w_O cl_O.cls w_T cl_T.cls w_Ca cl_Ca.cls vc0 s.heap s.heap.size (Nat.le_refl _) (Old.start s) S_C hcs0 S_F hfw0 S_O S_T A_O A_T S_Hi S_Ca A_Ca hC0 hH (hsets _ (List.mem_of_getElem? (i := 10) rfl)) tables_1 p e ha hc hk s m _ below hf ((Spec.applies_iff_loose hf).mp happ).1 ⟨rfl, State.Warmed39.refl s, rfl, ⟨#[], by simp, by simp⟩⟩ trivial
  refine ⟨n, _, h1, h2, h3, hpost _ _ _ _ _ _ ⟨Cond.after_iff.mpr rfl, Cond.after_iff.mpr (eq_i res_at (Term.int_eval (1)) rfl), trivial⟩ ⟨hq.1, hq.2.1, hq.2.2.1, (hq.2.2.2.sift fun y hy => Or.inr (N y hy)).mono (by decide) (by decide)⟩⟩
theorem main_1_1 : Claimed_1_1 := comes_1 fun _ _ _ _ _ _ h hF => ⟨h.1, hF⟩
theorem main_1_2 : Claimed_1_2 := comes_1 fun _ _ _ _ _ _ h hF => ⟨h.2.1, hF⟩
end Jvm.Pilot.@@N@@
namespace Jvm.Pilot.@@N@@
open Jvm Jvm.ClassFile Sem Op Lib Jvm.Free Jvm.Stand Jvm.Pilot.@@N@@.Jvm.D
/-! MADE BY PROGRAM (witnessworld.py) out of the Statement's table words and the real class files: 21 classes; the members and pool entries that the words name. The judged class is class 1, her method 1. -/
namespace start1
open Jvm.ClassFile
def u (s : String) : CpInfo := .utf8 (stringToUtf16 s)
/-- a pool by its gaps: so many unusable entries, then the entry; so many at the end -/
def gap : Nat → List CpInfo → List CpInfo
  | 0, r => r
  | n + 1, r => .unusable :: gap n r
def poolList (es : List (Nat × CpInfo)) (last : Nat) : List CpInfo := es.foldr (fun e r => gap e.1 (e.2 :: r)) (gap last [])
def pool (es : List (Nat × CpInfo)) (last : Nat) : Array CpInfo := ⟨poolList es last⟩
def fileOf (pool : Array CpInfo) (this : Nat) (attrs : Array Attribute := #[]) (ms : Array MethodInfo := #[]) (fl : Nat := 33) (sup : Nat := 0) (ifs : Array Nat := #[]) (fds : Array FieldInfo := #[]) : ClassFile where
  minorVersion := 0
  majorVersion := 65
  constantPool := pool
  accessFlags := fl
  thisClass := this
  superClass := sup
  interfaces := ifs
  fields := fds
  methods := ms
  attributes := attrs
def plain (name : String) (sup : Option ClassId) : Class where
  name := name
  kind := .ordinary
  loader := none
  accessFlags := 33
  super := sup
  interfaces := #[]
  cf := none
  fields := #[]
  methods := #[]
  instanceTypes := #[]
  staticTypes := #[]
  resolved := #[]
  callSites := []
  init := .initialized
  statics := none
  mirror := none

def pool0 : Array CpInfo := pool [(5, u "<init>"), (0, u "()V"), (1, .class_ 10), (1, u "java/lang/Object")] 113

def k0c0 : Code := { maxStack := 0, maxLocals := 1, code := object_method_1_code, exceptionTable := #[], attributes := #[] }
def k0m0 : Method := { name := "<init>", desc := "()V", sig := { parameters := [], returnType := none }, accessFlags := 1, code := some k0c0 }
/-- java/lang/Object -/
def k0 : Class := { plain "java/lang/Object" none with
  accessFlags := 33
  interfaces := #[]
  cf := some (fileOf pool0 8 #[] #[{ accessFlags := 1, nameIndex := 5, descriptorIndex := 6, attributes := #[] }] 33 0 #[] #[])
  fields := #[]
  methods := #[k0m0]
  instanceTypes := #[]
  staticTypes := #[]
  resolved := Array.replicate 124 none
  statics := none }

def pool1 : Array CpInfo := pool [(2, .class_ 4), (1, u "java/lang/Object"), (0, u "<init>"), (0, u "()V"), (0, .methodref 8 9), (0, .class_ 10), (0, .nameAndType 11 12), (0, u "com/example/hyra/hyra/model/SeatCount"), (0, u "toWire"), (0, u "(Ljava/lang/Integer;)Ljava/lang/String;"), (0, .methodref 14 15), (0, .class_ 16), (0, .nameAndType 17 18), (0, u "java/lang/String"), (0, u "isEmpty"), (0, u "()Z"), (0, .integer 2147483647), (0, .methodref 21 22), (0, .class_ 23), (0, .nameAndType 24 25), (0, u "java/lang/Integer"), (0, u "valueOf"), (0, u "(I)Ljava/lang/Integer;"), (0, .methodref 27 28), (0, .class_ 29), (0, .nameAndType 30 31), (0, u "com/example/hyra/hyra/model/SeatCountToWirePinLaw"), (0, u "digits"), (0, u "(I)I"), (0, .methodref 14 33), (0, .nameAndType 34 35), (0, u "length"), (0, u "()I"), (0, .methodref 27 37), (0, .nameAndType 38 39), (0, u "d"), (0, u "(Ljava/lang/String;IIII)Z"), (0, .integer 100000), (0, .integer 1000000), (0, .integer 10000000), (0, .integer 100000000), (0, .integer 1000000000), (0, .methodref 14 46), (0, .nameAndType 47 48), (0, u "charAt"), (0, u "(I)C"), (2, u "law"), (0, u "(II)Z")] 3

def k1m0 : Method := { name := "<init>", desc := "()V", sig := { parameters := [], returnType := none }, accessFlags := 2, code := none }
def k1c1 : Code := { maxStack := 5, maxLocals := 5, code := code, exceptionTable := #[], attributes := #[] }
def k1m1 : Method := { name := "law", desc := "(II)Z", sig := { parameters := [.int, .int], returnType := some .boolean }, accessFlags := 9, code := some k1c1 }
def k1c2 : Code := { maxStack := 2, maxLocals := 1, code := method_3_code, exceptionTable := #[], attributes := #[] }
def k1m2 : Method := { name := "digits", desc := "(I)I", sig := { parameters := [.int], returnType := some .int }, accessFlags := 10, code := some k1c2 }
def k1c3 : Code := { maxStack := 4, maxLocals := 5, code := method_4_code, exceptionTable := #[], attributes := #[] }
def k1m3 : Method := { name := "d", desc := "(Ljava/lang/String;IIII)Z", sig := { parameters := [(.object "java/lang/String"), .int, .int, .int, .int], returnType := some .boolean }, accessFlags := 10, code := some k1c3 }
/-- com/example/hyra/hyra/model/SeatCountToWirePinLaw -/
def k1 : Class := { plain "com/example/hyra/hyra/model/SeatCountToWirePinLaw" (some 0) with
  accessFlags := 49
  interfaces := #[]
  cf := some (fileOf pool1 27 #[] #[{ accessFlags := 2, nameIndex := 5, descriptorIndex := 6, attributes := #[] }, { accessFlags := 9, nameIndex := 51, descriptorIndex := 52, attributes := #[] }, { accessFlags := 10, nameIndex := 30, descriptorIndex := 31, attributes := #[] }, { accessFlags := 10, nameIndex := 38, descriptorIndex := 39, attributes := #[] }] 49 2 #[] #[])
  fields := #[]
  methods := #[k1m0, k1m1, k1m2, k1m3]
  instanceTypes := #[]
  staticTypes := #[]
  resolved := Array.replicate 56 none
  statics := none }

def pool2 : Array CpInfo := pool [(2, .class_ 4), (1, u "java/lang/Object"), (0, u "<init>"), (0, u "()V"), (0, .string 8), (0, u ""), (0, .methodref 10 11), (0, .class_ 12), (0, .nameAndType 13 14), (0, u "java/lang/Integer"), (0, u "toString"), (0, u "()Ljava/lang/String;"), (7, .class_ 24), (1, u "com/example/hyra/hyra/model/SeatCount"), (0, u "DIGITS"), (0, u "Ljava/util/regex/Pattern;"), (32, u "toWire"), (0, u "(Ljava/lang/Integer;)Ljava/lang/String;")] 20

def k2m0 : Method := { name := "<init>", desc := "()V", sig := { parameters := [], returnType := none }, accessFlags := 2, code := none }
def k2c1 : Code := { maxStack := 1, maxLocals := 1, code := prog_7_method_2_code, exceptionTable := #[], attributes := #[] }
def k2m1 : Method := { name := "toWire", desc := "(Ljava/lang/Integer;)Ljava/lang/String;", sig := { parameters := [(.object "java/lang/Integer")], returnType := some (.object "java/lang/String") }, accessFlags := 9, code := some k2c1 }
/-- com/example/hyra/hyra/model/SeatCount -/
def k2 : Class := { plain "com/example/hyra/hyra/model/SeatCount" (some 0) with
  accessFlags := 49
  interfaces := #[]
  cf := some (fileOf pool2 22 #[] #[{ accessFlags := 2, nameIndex := 5, descriptorIndex := 6, attributes := #[] }, { accessFlags := 9, nameIndex := 59, descriptorIndex := 60, attributes := #[] }] 49 2 #[] #[{ accessFlags := 26, nameIndex := 25, descriptorIndex := 26, attributes := #[] }])
  fields := #[{ name := "DIGITS", type := (.object "java/util/regex/Pattern"), accessFlags := 26, slot := 0, constantValue := 0 }]
  methods := #[k2m0, k2m1]
  instanceTypes := #[]
  staticTypes := #[(.object "java/util/regex/Pattern")]
  resolved := Array.replicate 81 none
  statics := none }

def pool3 : Array CpInfo := pool [(1, .class_ 2), (0, u "java/io/Serializable"), (0, .class_ 4), (0, u "java/lang/Object")] 2

/-- java/io/Serializable -/
def k3 : Class := { plain "java/io/Serializable" (some 0) with
  accessFlags := 1537
  interfaces := #[]
  cf := some (fileOf pool3 1 #[] #[] 1537 3 #[] #[])
  fields := #[]
  methods := #[]
  instanceTypes := #[]
  staticTypes := #[]
  resolved := Array.replicate 7 none
  statics := none }

def pool4 : Array CpInfo := pool [(1, .class_ 2), (0, u "java/lang/Comparable"), (0, .class_ 4), (0, u "java/lang/Object")] 7

/-- java/lang/Comparable -/
def k4 : Class := { plain "java/lang/Comparable" (some 0) with
  accessFlags := 1537
  interfaces := #[]
  cf := some (fileOf pool4 1 #[] #[] 1537 3 #[] #[])
  fields := #[]
  methods := #[]
  instanceTypes := #[]
  staticTypes := #[]
  resolved := Array.replicate 12 none
  statics := none }

def pool5 : Array CpInfo := pool [(2, .class_ 4), (1, u "java/lang/CharSequence"), (42, .class_ 48), (0, u "java/lang/CharSequence$1CodePointIterator"), (10, .class_ 60), (0, u "java/lang/CharSequence$1CharIterator"), (5, .class_ 67), (0, u "java/lang/Object")] 63

/-- java/lang/CharSequence -/
def k5 : Class := { plain "java/lang/CharSequence" (some 0) with
  accessFlags := 1537
  interfaces := #[]
  cf := some (fileOf pool5 2 #[.nestMembers #[47, 59]] #[] 1537 66 #[] #[])
  fields := #[]
  methods := #[]
  instanceTypes := #[]
  staticTypes := #[]
  resolved := Array.replicate 131 none
  statics := none }

def pool6 : Array CpInfo := pool [(1, .class_ 2), (0, u "java/lang/constant/Constable"), (0, .class_ 4), (0, u "java/lang/Object")] 6

/-- java/lang/constant/Constable -/
def k6 : Class := { plain "java/lang/constant/Constable" (some 0) with
  accessFlags := 1537
  interfaces := #[]
  cf := some (fileOf pool6 1 #[] #[] 1537 3 #[] #[])
  fields := #[]
  methods := #[]
  instanceTypes := #[]
  staticTypes := #[]
  resolved := Array.replicate 11 none
  statics := none }

def pool7 : Array CpInfo := pool [(1, .class_ 2), (0, u "java/lang/constant/ConstantDesc"), (0, .class_ 4), (0, u "java/lang/Object")] 32

/-- java/lang/constant/ConstantDesc -/
def k7 : Class := { plain "java/lang/constant/ConstantDesc" (some 0) with
  accessFlags := 1537
  interfaces := #[]
  cf := some (fileOf pool7 1 #[] #[] 1537 3 #[] #[])
  fields := #[]
  methods := #[]
  instanceTypes := #[]
  staticTypes := #[]
  resolved := Array.replicate 37 none
  statics := none }

def pool8 : Array CpInfo := pool [(1, .methodref 2 3), (0, .class_ 4), (0, .nameAndType 5 6), (0, u "java/lang/Object"), (0, u "<init>"), (0, u "()V"), (2, .fieldref 10 11), (0, .class_ 12), (0, .nameAndType 13 14), (0, u "java/lang/String"), (0, u "value"), (0, u "[B"), (0, .fieldref 10 16), (0, .nameAndType 17 18), (0, u "coder"), (0, u "B"), (2, u "hash"), (0, u "I"), (2, u "hashIsZero"), (0, u "Z"), (11, .fieldref 10 39), (0, .nameAndType 40 26), (0, u "COMPACT_STRINGS"), (66, .class_ 109), (1, u "java/lang/StringLatin1"), (32, u "()Z"), (68, u "([BB)V"), (122, u "()I"), (0, .methodref 10 336), (0, .nameAndType 17 337), (0, u "()B"), (25, u "([BI)C"), (27, u "(II)V"), (35, u "(I)C"), (64, .methodref 10 493), (0, .nameAndType 494 142), (0, u "isLatin1"), (0, .methodref 107 496), (0, .nameAndType 497 363), (0, u "charAt"), (3, u "checkIndex"), (5, u "length"), (67, .class_ 576), (0, u "java/lang/CharSequence"), (22, u "CASE_INSENSITIVE_ORDER"), (0, u "Ljava/util/Comparator;"), (91, u "isEmpty"), (360, .fieldref 1054 1055), (0, .class_ 1056), (0, .nameAndType 1057 1058), (0, u "jdk/internal/util/Preconditions"), (0, u "SIOOBE_FORMATTER"), (0, u "Ljava/util/function/BiFunction;"), (0, .methodref 1054 1060), (0, .nameAndType 501 1061), (0, u "(IILjava/util/function/BiFunction;)I"), (39, u "serialPersistentFields"), (0, u "[Ljava/io/ObjectStreamField;"), (0, .class_ 1104), (0, u "java/lang/String$CaseInsensitiveComparator"), (1, .class_ 1107), (0, u "java/io/Serializable"), (0, .class_ 1109), (0, u "java/lang/Comparable"), (0, .class_ 1111), (0, u "java/lang/constant/Constable"), (0, .class_ 1113), (0, u "java/lang/constant/ConstantDesc"), (2, u "serialVersionUID"), (0, u "J"), (3, u "REPL"), (0, u "C"), (2, u "LATIN1"), (1, u "UTF16")] 323

def k8m0 : Method := { name := "<init>", desc := "()V", sig := { parameters := [], returnType := none }, accessFlags := 1, code := none }
def k8c1 : Code := { maxStack := 2, maxLocals := 1, code := jdk_42_method_54_code, exceptionTable := #[], attributes := #[] }
def k8m1 : Method := { name := "length", desc := "()I", sig := { parameters := [], returnType := some .int }, accessFlags := 1, code := some k8c1 }
def k8c2 : Code := { maxStack := 1, maxLocals := 1, code := jdk_42_method_55_code, exceptionTable := #[], attributes := #[] }
def k8m2 : Method := { name := "isEmpty", desc := "()Z", sig := { parameters := [], returnType := some .boolean }, accessFlags := 1, code := some k8c2 }
def k8c3 : Code := { maxStack := 2, maxLocals := 2, code := jdk_42_method_56_code, exceptionTable := #[], attributes := #[] }
def k8m3 : Method := { name := "charAt", desc := "(I)C", sig := { parameters := [.int], returnType := some .char }, accessFlags := 1, code := some k8c3 }
def k8c4 : Code := { maxStack := 2, maxLocals := 3, code := jdk_42_method_151_code, exceptionTable := #[], attributes := #[] }
def k8m4 : Method := { name := "<init>", desc := "([BB)V", sig := { parameters := [(.array .byte), .byte], returnType := none }, accessFlags := 0, code := some k8c4 }
def k8c5 : Code := { maxStack := 1, maxLocals := 1, code := jdk_42_method_152_code, exceptionTable := #[], attributes := #[] }
def k8m5 : Method := { name := "coder", desc := "()B", sig := { parameters := [], returnType := some .byte }, accessFlags := 0, code := some k8c5 }
def k8c6 : Code := { maxStack := 1, maxLocals := 1, code := jdk_42_method_154_code, exceptionTable := #[], attributes := #[] }
def k8m6 : Method := { name := "isLatin1", desc := "()Z", sig := { parameters := [], returnType := some .boolean }, accessFlags := 0, code := some k8c6 }
def k8c7 : Code := { maxStack := 3, maxLocals := 2, code := jdk_42_method_155_code, exceptionTable := #[], attributes := #[] }
def k8m7 : Method := { name := "checkIndex", desc := "(II)V", sig := { parameters := [.int, .int], returnType := none }, accessFlags := 8, code := some k8c7 }
/-- java/lang/String -/
def k8 : Class := { plain "java/lang/String" (some 0) with
  accessFlags := 49
  interfaces := #[3, 4, 5, 6, 7]
  cf := some (fileOf pool8 10 #[.nestMembers #[1103]] #[{ accessFlags := 1, nameIndex := 5, descriptorIndex := 6, attributes := #[] }, { accessFlags := 1, nameIndex := 507, descriptorIndex := 334, attributes := #[] }, { accessFlags := 1, nameIndex := 692, descriptorIndex := 142, attributes := #[] }, { accessFlags := 1, nameIndex := 497, descriptorIndex := 427, attributes := #[] }, { accessFlags := 0, nameIndex := 5, descriptorIndex := 211, attributes := #[] }, { accessFlags := 0, nameIndex := 17, descriptorIndex := 337, attributes := #[] }, { accessFlags := 0, nameIndex := 494, descriptorIndex := 142, attributes := #[] }, { accessFlags := 8, nameIndex := 501, descriptorIndex := 391, attributes := #[] }] 49 2 #[1106, 1108, 575, 1110, 1112] #[{ accessFlags := 18, nameIndex := 13, descriptorIndex := 14, attributes := #[] }, { accessFlags := 18, nameIndex := 17, descriptorIndex := 18, attributes := #[] }, { accessFlags := 2, nameIndex := 21, descriptorIndex := 22, attributes := #[] }, { accessFlags := 2, nameIndex := 25, descriptorIndex := 26, attributes := #[] }, { accessFlags := 26, nameIndex := 1116, descriptorIndex := 1117, attributes := #[] }, { accessFlags := 24, nameIndex := 40, descriptorIndex := 26, attributes := #[] }, { accessFlags := 26, nameIndex := 1101, descriptorIndex := 1102, attributes := #[] }, { accessFlags := 26, nameIndex := 1121, descriptorIndex := 1122, attributes := #[] }, { accessFlags := 25, nameIndex := 599, descriptorIndex := 600, attributes := #[] }, { accessFlags := 24, nameIndex := 1125, descriptorIndex := 18, attributes := #[] }, { accessFlags := 24, nameIndex := 1127, descriptorIndex := 18, attributes := #[] }])
  fields := #[{ name := "value", type := (.array .byte), accessFlags := 18, slot := 0, constantValue := 0 }, { name := "coder", type := .byte, accessFlags := 18, slot := 1, constantValue := 0 }, { name := "hash", type := .int, accessFlags := 2, slot := 2, constantValue := 0 }, { name := "hashIsZero", type := .boolean, accessFlags := 2, slot := 3, constantValue := 0 }, { name := "serialVersionUID", type := .long, accessFlags := 26, slot := 0, constantValue := 0 }, { name := "COMPACT_STRINGS", type := .boolean, accessFlags := 24, slot := 1, constantValue := 0 }, { name := "serialPersistentFields", type := (.array (.object "java/io/ObjectStreamField")), accessFlags := 26, slot := 2, constantValue := 0 }, { name := "REPL", type := .char, accessFlags := 26, slot := 3, constantValue := 0 }, { name := "CASE_INSENSITIVE_ORDER", type := (.object "java/util/Comparator"), accessFlags := 25, slot := 4, constantValue := 0 }, { name := "LATIN1", type := .byte, accessFlags := 24, slot := 5, constantValue := 0 }, { name := "UTF16", type := .byte, accessFlags := 24, slot := 6, constantValue := 0 }]
  methods := #[k8m0, k8m1, k8m2, k8m3, k8m4, k8m5, k8m6, k8m7]
  instanceTypes := #[(.array .byte), .byte, .int, .boolean]
  staticTypes := #[.long, .boolean, (.array (.object "java/io/ObjectStreamField")), .char, (.object "java/util/Comparator"), .byte, .byte]
  resolved := Array.replicate 1451 none
  statics := some 0 }

def pool9 : Array CpInfo := pool [(1, .methodref 2 3), (0, .class_ 4), (0, .nameAndType 5 6), (0, u "java/lang/Object"), (0, u "<init>"), (0, u "()V"), (1, .class_ 10), (1, u "java/lang/Number"), (2, .class_ 14), (0, u "java/io/Serializable"), (0, u "serialVersionUID"), (0, u "J")] 20

def k9c0 : Code := { maxStack := 1, maxLocals := 1, code := jdk_18_method_1_code, exceptionTable := #[], attributes := #[] }
def k9m0 : Method := { name := "<init>", desc := "()V", sig := { parameters := [], returnType := none }, accessFlags := 1, code := some k9c0 }
/-- java/lang/Number -/
def k9 : Class := { plain "java/lang/Number" (some 0) with
  accessFlags := 1057
  interfaces := #[3]
  cf := some (fileOf pool9 8 #[] #[{ accessFlags := 1, nameIndex := 5, descriptorIndex := 6, attributes := #[] }] 1057 2 #[13] #[{ accessFlags := 26, nameIndex := 15, descriptorIndex := 16, attributes := #[] }])
  fields := #[{ name := "serialVersionUID", type := .long, accessFlags := 26, slot := 0, constantValue := 0 }]
  methods := #[k9m0]
  instanceTypes := #[]
  staticTypes := #[.long]
  resolved := Array.replicate 37 none
  statics := none }

def pool10 : Array CpInfo := pool [(1, .class_ 2), (0, u "java/lang/Integer"), (2, .class_ 6), (0, u "java/lang/String"), (2, .methodref 1 10), (0, .nameAndType 11 12), (0, u "toString"), (0, u "(I)Ljava/lang/String;"), (0, .fieldref 5 14), (0, .nameAndType 15 16), (0, u "COMPACT_STRINGS"), (0, u "Z"), (2, u "digits"), (0, u "[C"), (33, u "(I)I"), (10, .methodref 5 66), (0, .nameAndType 67 68), (0, u "<init>"), (0, u "([BB)V"), (3, .methodref 1 73), (0, .nameAndType 74 54), (0, u "stringSize"), (0, .methodref 1 76), (0, .nameAndType 77 78), (0, u "getChars"), (0, u "(II[B)I"), (4, .fieldref 1 84), (0, .nameAndType 85 86), (0, u "DigitOnes"), (0, u "[B"), (0, .fieldref 1 88), (0, .nameAndType 89 86), (0, u "DigitTens"), (10, .nameAndType 67 101), (0, u "()V"), (13, u "()Ljava/lang/String;"), (71, u "valueOf"), (0, u "(I)Ljava/lang/Integer;"), (0, .class_ 190), (0, u "java/lang/Integer$IntegerCache"), (0, .fieldref 189 192), (0, .nameAndType 193 194), (0, u "high"), (0, u "I"), (0, .fieldref 189 196), (0, .nameAndType 197 198), (0, u "cache"), (0, u "[Ljava/lang/Integer;"), (0, .methodref 1 200), (0, .nameAndType 67 201), (0, u "(I)V"), (0, .methodref 203 100), (0, .class_ 204), (0, u "java/lang/Number"), (0, .fieldref 1 206), (0, .nameAndType 207 194), (0, u "value"), (94, u "TYPE"), (0, u "Ljava/lang/Class;"), (0, .class_ 305), (0, u "java/lang/Comparable"), (0, .class_ 307), (0, u "java/lang/constant/Constable"), (0, .class_ 309), (0, u "java/lang/constant/ConstantDesc"), (0, u "MIN_VALUE"), (1, u "MAX_VALUE"), (3, u "SIZE"), (1, u "BYTES"), (1, u "serialVersionUID"), (0, u "J")] 131

def k10c0 : Code := { maxStack := 4, maxLocals := 3, code := jdk_33_method_10_code, exceptionTable := #[], attributes := #[] }
def k10m0 : Method := { name := "toString", desc := "(I)Ljava/lang/String;", sig := { parameters := [.int], returnType := some (.object "java/lang/String") }, accessFlags := 9, code := some k10c0 }
def k10c1 : Code := { maxStack := 4, maxLocals := 7, code := jdk_33_method_12_code, exceptionTable := #[], attributes := #[] }
def k10m1 : Method := { name := "getChars", desc := "(II[B)I", sig := { parameters := [.int, .int, (.array .byte)], returnType := some .int }, accessFlags := 8, code := some k10c1 }
def k10c2 : Code := { maxStack := 2, maxLocals := 4, code := jdk_33_method_13_code, exceptionTable := #[], attributes := #[] }
def k10m2 : Method := { name := "stringSize", desc := "(I)I", sig := { parameters := [.int], returnType := some .int }, accessFlags := 8, code := some k10c2 }
def k10c3 : Code := { maxStack := 3, maxLocals := 1, code := jdk_33_method_22_code, exceptionTable := #[], attributes := #[] }
def k10m3 : Method := { name := "valueOf", desc := "(I)Ljava/lang/Integer;", sig := { parameters := [.int], returnType := some (.object "java/lang/Integer") }, accessFlags := 9, code := some k10c3 }
def k10c4 : Code := { maxStack := 2, maxLocals := 2, code := jdk_33_method_23_code, exceptionTable := #[], attributes := #[] }
def k10m4 : Method := { name := "<init>", desc := "(I)V", sig := { parameters := [.int], returnType := none }, accessFlags := 1, code := some k10c4 }
def k10c5 : Code := { maxStack := 1, maxLocals := 1, code := jdk_33_method_31_code, exceptionTable := #[], attributes := #[] }
def k10m5 : Method := { name := "toString", desc := "()Ljava/lang/String;", sig := { parameters := [], returnType := some (.object "java/lang/String") }, accessFlags := 1, code := some k10c5 }
/-- java/lang/Integer -/
def k10 : Class := { plain "java/lang/Integer" (some 9) with
  accessFlags := 49
  interfaces := #[4, 6, 7]
  cf := some (fileOf pool10 1 #[.nestMembers #[189]] #[{ accessFlags := 9, nameIndex := 11, descriptorIndex := 12, attributes := #[] }, { accessFlags := 8, nameIndex := 77, descriptorIndex := 78, attributes := #[] }, { accessFlags := 8, nameIndex := 74, descriptorIndex := 54, attributes := #[] }, { accessFlags := 9, nameIndex := 187, descriptorIndex := 188, attributes := #[] }, { accessFlags := 1, nameIndex := 67, descriptorIndex := 201, attributes := #[] }, { accessFlags := 1, nameIndex := 11, descriptorIndex := 115, attributes := #[] }] 49 203 #[304, 306, 308] #[{ accessFlags := 25, nameIndex := 310, descriptorIndex := 194, attributes := #[] }, { accessFlags := 25, nameIndex := 312, descriptorIndex := 194, attributes := #[] }, { accessFlags := 25, nameIndex := 302, descriptorIndex := 303, attributes := #[] }, { accessFlags := 24, nameIndex := 19, descriptorIndex := 20, attributes := #[] }, { accessFlags := 24, nameIndex := 89, descriptorIndex := 86, attributes := #[] }, { accessFlags := 24, nameIndex := 85, descriptorIndex := 86, attributes := #[] }, { accessFlags := 18, nameIndex := 207, descriptorIndex := 194, attributes := #[] }, { accessFlags := 25, nameIndex := 316, descriptorIndex := 194, attributes := #[] }, { accessFlags := 25, nameIndex := 318, descriptorIndex := 194, attributes := #[] }, { accessFlags := 26, nameIndex := 320, descriptorIndex := 321, attributes := #[] }])
  fields := #[{ name := "MIN_VALUE", type := .int, accessFlags := 25, slot := 0, constantValue := 0 }, { name := "MAX_VALUE", type := .int, accessFlags := 25, slot := 1, constantValue := 0 }, { name := "TYPE", type := (.object "java/lang/Class"), accessFlags := 25, slot := 2, constantValue := 0 }, { name := "digits", type := (.array .char), accessFlags := 24, slot := 3, constantValue := 0 }, { name := "DigitTens", type := (.array .byte), accessFlags := 24, slot := 4, constantValue := 0 }, { name := "DigitOnes", type := (.array .byte), accessFlags := 24, slot := 5, constantValue := 0 }, { name := "value", type := .int, accessFlags := 18, slot := 0, constantValue := 0 }, { name := "SIZE", type := .int, accessFlags := 25, slot := 6, constantValue := 0 }, { name := "BYTES", type := .int, accessFlags := 25, slot := 7, constantValue := 0 }, { name := "serialVersionUID", type := .long, accessFlags := 26, slot := 8, constantValue := 0 }]
  methods := #[k10m0, k10m1, k10m2, k10m3, k10m4, k10m5]
  instanceTypes := #[.int]
  staticTypes := #[.int, .int, (.object "java/lang/Class"), (.array .char), (.array .byte), (.array .byte), .int, .int, .long]
  resolved := Array.replicate 453 none
  statics := some 1 }

def pool11 : Array CpInfo := pool [(2, .class_ 4), (1, u "java/lang/Object"), (0, u "<init>"), (0, u "()V"), (0, .class_ 8), (0, u "java/lang/Integer"), (7, .class_ 18), (1, u "java/lang/Integer$IntegerCache"), (0, u "$assertionsDisabled"), (0, u "Z"), (26, u "high"), (0, u "I"), (8, u "archivedCache"), (0, u "[Ljava/lang/Integer;"), (12, u "cache"), (0, u "low")] 27

def k11m0 : Method := { name := "<init>", desc := "()V", sig := { parameters := [], returnType := none }, accessFlags := 2, code := none }
/-- java/lang/Integer$IntegerCache -/
def k11 : Class := { plain "java/lang/Integer$IntegerCache" (some 0) with
  accessFlags := 48
  interfaces := #[]
  cf := some (fileOf pool11 16 #[.nestHost 7] #[{ accessFlags := 2, nameIndex := 5, descriptorIndex := 6, attributes := #[] }] 48 2 #[] #[{ accessFlags := 24, nameIndex := 72, descriptorIndex := 48, attributes := #[] }, { accessFlags := 24, nameIndex := 47, descriptorIndex := 48, attributes := #[] }, { accessFlags := 24, nameIndex := 71, descriptorIndex := 58, attributes := #[] }, { accessFlags := 8, nameIndex := 57, descriptorIndex := 58, attributes := #[] }, { accessFlags := 4120, nameIndex := 19, descriptorIndex := 20, attributes := #[] }])
  fields := #[{ name := "low", type := .int, accessFlags := 24, slot := 0, constantValue := 0 }, { name := "high", type := .int, accessFlags := 24, slot := 1, constantValue := 0 }, { name := "cache", type := (.array (.object "java/lang/Integer")), accessFlags := 24, slot := 2, constantValue := 0 }, { name := "archivedCache", type := (.array (.object "java/lang/Integer")), accessFlags := 8, slot := 3, constantValue := 0 }, { name := "$assertionsDisabled", type := .boolean, accessFlags := 4120, slot := 4, constantValue := 0 }]
  methods := #[k11m0]
  instanceTypes := #[]
  staticTypes := #[.int, .int, (.array (.object "java/lang/Integer")), (.array (.object "java/lang/Integer")), .boolean]
  resolved := Array.replicate 100 none
  statics := some 2 }

def pool12 : Array CpInfo := pool [(1, .class_ 2), (0, u "java/lang/String"), (1, .class_ 6), (1, u "java/lang/Object"), (0, u "<init>"), (0, u "()V"), (0, .methodref 1 10), (0, .nameAndType 11 12), (0, u "checkIndex"), (0, u "(II)V"), (1, .class_ 16), (1, u "java/lang/StringLatin1"), (36, u "([BI)C"), (67, u "$assertionsDisabled"), (0, u "Z"), (98, .class_ 223), (1, u "java/lang/StringLatin1$LinesSpliterator"), (28, u "charAt"), (137, .class_ 391), (0, u "java/lang/StringLatin1$CharsSpliterator")] 3

def k12m0 : Method := { name := "<init>", desc := "()V", sig := { parameters := [], returnType := none }, accessFlags := 0, code := none }
def k12c1 : Code := { maxStack := 2, maxLocals := 2, code := jdk_43_method_2_code, exceptionTable := #[], attributes := #[] }
def k12m1 : Method := { name := "charAt", desc := "([BI)C", sig := { parameters := [(.array .byte), .int], returnType := some .char }, accessFlags := 9, code := some k12c1 }
/-- java/lang/StringLatin1 -/
def k12 : Class := { plain "java/lang/StringLatin1" (some 0) with
  accessFlags := 48
  interfaces := #[]
  cf := some (fileOf pool12 14 #[.nestMembers #[390, 221]] #[{ accessFlags := 0, nameIndex := 7, descriptorIndex := 8, attributes := #[] }, { accessFlags := 9, nameIndex := 252, descriptorIndex := 53, attributes := #[] }] 48 4 #[] #[{ accessFlags := 4120, nameIndex := 121, descriptorIndex := 122, attributes := #[] }])
  fields := #[{ name := "$assertionsDisabled", type := .boolean, accessFlags := 4120, slot := 0, constantValue := 0 }]
  methods := #[k12m0, k12m1]
  instanceTypes := #[]
  staticTypes := #[.boolean]
  resolved := Array.replicate 395 none
  statics := none }

def pool13 : Array CpInfo := pool [(2, .class_ 4), (1, u "java/lang/Object"), (0, u "<init>"), (0, u "()V"), (17, .class_ 26), (1, u "jdk/internal/util/Preconditions"), (6, u "checkIndex"), (21, .class_ 56), (0, u "jdk/internal/util/Preconditions$4"), (57, .class_ 115), (0, u "jdk/internal/util/Preconditions$1"), (7, u "SIOOBE_FORMATTER"), (0, u "Ljava/util/function/BiFunction;"), (0, .class_ 126), (0, u "jdk/internal/util/Preconditions$2"), (3, u "AIOOBE_FORMATTER"), (0, .class_ 132), (0, u "jdk/internal/util/Preconditions$3"), (3, u "IOOBE_FORMATTER"), (41, u "(IILjava/util/function/BiFunction;)I")] 15

def k13m0 : Method := { name := "<init>", desc := "()V", sig := { parameters := [], returnType := none }, accessFlags := 1, code := none }
def k13c1 : Code := { maxStack := 3, maxLocals := 3, code := jdk_41_method_11_code, exceptionTable := #[], attributes := #[] }
def k13m1 : Method := { name := "checkIndex", desc := "(IILjava/util/function/BiFunction;)I", sig := { parameters := [.int, .int, (.object "java/util/function/BiFunction")], returnType := some .int }, accessFlags := 9, code := some k13c1 }
/-- jdk/internal/util/Preconditions -/
def k13 : Class := { plain "jdk/internal/util/Preconditions" (some 0) with
  accessFlags := 33
  interfaces := #[]
  cf := some (fileOf pool13 24 #[.nestMembers #[55, 131, 125, 114]] #[{ accessFlags := 1, nameIndex := 5, descriptorIndex := 6, attributes := #[] }, { accessFlags := 9, nameIndex := 33, descriptorIndex := 178, attributes := #[] }] 33 2 #[] #[{ accessFlags := 25, nameIndex := 123, descriptorIndex := 124, attributes := #[] }, { accessFlags := 25, nameIndex := 130, descriptorIndex := 124, attributes := #[] }, { accessFlags := 25, nameIndex := 136, descriptorIndex := 124, attributes := #[] }])
  fields := #[{ name := "SIOOBE_FORMATTER", type := (.object "java/util/function/BiFunction"), accessFlags := 25, slot := 0, constantValue := 0 }, { name := "AIOOBE_FORMATTER", type := (.object "java/util/function/BiFunction"), accessFlags := 25, slot := 1, constantValue := 0 }, { name := "IOOBE_FORMATTER", type := (.object "java/util/function/BiFunction"), accessFlags := 25, slot := 2, constantValue := 0 }]
  methods := #[k13m0, k13m1]
  instanceTypes := #[]
  staticTypes := #[(.object "java/util/function/BiFunction"), (.object "java/util/function/BiFunction"), (.object "java/util/function/BiFunction")]
  resolved := Array.replicate 194 none
  statics := some 3 }

def pool14 : Array CpInfo := pool [(9, u "<init>"), (6, .class_ 18), (1, u "java/lang/Object"), (0, u "()V"), (1, .class_ 23), (1, u "jdk/internal/util/ArraysSupport"), (0, u "LOG2_ARRAY_LONG_INDEX_SCALE"), (0, u "I"), (2, u "U"), (0, u "Ljdk/internal/misc/Unsafe;"), (8, u "BIG_ENDIAN"), (0, u "Z"), (8, u "LOG2_BYTE_BIT_SIZE"), (4, u "LOG2_ARRAY_INT_INDEX_SCALE"), (54, u "JLA"), (0, u "Ljdk/internal/access/JavaLangAccess;"), (11, u "LOG2_ARRAY_BOOLEAN_INDEX_SCALE"), (9, u "LOG2_ARRAY_BYTE_INDEX_SCALE"), (5, u "LOG2_ARRAY_CHAR_INDEX_SCALE"), (5, u "LOG2_ARRAY_SHORT_INDEX_SCALE"), (18, u "LOG2_ARRAY_FLOAT_INDEX_SCALE"), (24, u "LOG2_ARRAY_DOUBLE_INDEX_SCALE"), (89, u "T_BOOLEAN"), (2, u "T_CHAR"), (1, u "T_FLOAT"), (1, u "T_DOUBLE"), (1, u "T_BYTE"), (1, u "T_SHORT"), (1, u "T_INT"), (1, u "T_LONG"), (1, u "SOFT_MAX_ARRAY_LENGTH")] 83

def k14m0 : Method := { name := "<init>", desc := "()V", sig := { parameters := [], returnType := none }, accessFlags := 2, code := none }
/-- jdk/internal/util/ArraysSupport -/
def k14 : Class := { plain "jdk/internal/util/ArraysSupport" (some 0) with
  accessFlags := 33
  interfaces := #[]
  cf := some (fileOf pool14 21 #[] #[{ accessFlags := 2, nameIndex := 9, descriptorIndex := 19, attributes := #[] }] 33 16 #[] #[{ accessFlags := 24, nameIndex := 28, descriptorIndex := 29, attributes := #[] }, { accessFlags := 26, nameIndex := 38, descriptorIndex := 39, attributes := #[] }, { accessFlags := 25, nameIndex := 121, descriptorIndex := 25, attributes := #[] }, { accessFlags := 25, nameIndex := 131, descriptorIndex := 25, attributes := #[] }, { accessFlags := 25, nameIndex := 137, descriptorIndex := 25, attributes := #[] }, { accessFlags := 25, nameIndex := 143, descriptorIndex := 25, attributes := #[] }, { accessFlags := 25, nameIndex := 53, descriptorIndex := 25, attributes := #[] }, { accessFlags := 25, nameIndex := 24, descriptorIndex := 25, attributes := #[] }, { accessFlags := 25, nameIndex := 162, descriptorIndex := 25, attributes := #[] }, { accessFlags := 25, nameIndex := 187, descriptorIndex := 25, attributes := #[] }, { accessFlags := 26, nameIndex := 48, descriptorIndex := 25, attributes := #[] }, { accessFlags := 25, nameIndex := 277, descriptorIndex := 25, attributes := #[] }, { accessFlags := 25, nameIndex := 280, descriptorIndex := 25, attributes := #[] }, { accessFlags := 25, nameIndex := 282, descriptorIndex := 25, attributes := #[] }, { accessFlags := 25, nameIndex := 284, descriptorIndex := 25, attributes := #[] }, { accessFlags := 25, nameIndex := 286, descriptorIndex := 25, attributes := #[] }, { accessFlags := 25, nameIndex := 288, descriptorIndex := 25, attributes := #[] }, { accessFlags := 25, nameIndex := 290, descriptorIndex := 25, attributes := #[] }, { accessFlags := 25, nameIndex := 292, descriptorIndex := 25, attributes := #[] }, { accessFlags := 26, nameIndex := 108, descriptorIndex := 109, attributes := #[] }, { accessFlags := 25, nameIndex := 294, descriptorIndex := 25, attributes := #[] }])
  fields := #[{ name := "U", type := (.object "jdk/internal/misc/Unsafe"), accessFlags := 24, slot := 0, constantValue := 0 }, { name := "BIG_ENDIAN", type := .boolean, accessFlags := 26, slot := 1, constantValue := 0 }, { name := "LOG2_ARRAY_BOOLEAN_INDEX_SCALE", type := .int, accessFlags := 25, slot := 2, constantValue := 0 }, { name := "LOG2_ARRAY_BYTE_INDEX_SCALE", type := .int, accessFlags := 25, slot := 3, constantValue := 0 }, { name := "LOG2_ARRAY_CHAR_INDEX_SCALE", type := .int, accessFlags := 25, slot := 4, constantValue := 0 }, { name := "LOG2_ARRAY_SHORT_INDEX_SCALE", type := .int, accessFlags := 25, slot := 5, constantValue := 0 }, { name := "LOG2_ARRAY_INT_INDEX_SCALE", type := .int, accessFlags := 25, slot := 6, constantValue := 0 }, { name := "LOG2_ARRAY_LONG_INDEX_SCALE", type := .int, accessFlags := 25, slot := 7, constantValue := 0 }, { name := "LOG2_ARRAY_FLOAT_INDEX_SCALE", type := .int, accessFlags := 25, slot := 8, constantValue := 0 }, { name := "LOG2_ARRAY_DOUBLE_INDEX_SCALE", type := .int, accessFlags := 25, slot := 9, constantValue := 0 }, { name := "LOG2_BYTE_BIT_SIZE", type := .int, accessFlags := 26, slot := 10, constantValue := 0 }, { name := "T_BOOLEAN", type := .int, accessFlags := 25, slot := 11, constantValue := 0 }, { name := "T_CHAR", type := .int, accessFlags := 25, slot := 12, constantValue := 0 }, { name := "T_FLOAT", type := .int, accessFlags := 25, slot := 13, constantValue := 0 }, { name := "T_DOUBLE", type := .int, accessFlags := 25, slot := 14, constantValue := 0 }, { name := "T_BYTE", type := .int, accessFlags := 25, slot := 15, constantValue := 0 }, { name := "T_SHORT", type := .int, accessFlags := 25, slot := 16, constantValue := 0 }, { name := "T_INT", type := .int, accessFlags := 25, slot := 17, constantValue := 0 }, { name := "T_LONG", type := .int, accessFlags := 25, slot := 18, constantValue := 0 }, { name := "JLA", type := (.object "jdk/internal/access/JavaLangAccess"), accessFlags := 26, slot := 19, constantValue := 0 }, { name := "SOFT_MAX_ARRAY_LENGTH", type := .int, accessFlags := 25, slot := 20, constantValue := 0 }]
  methods := #[k14m0]
  instanceTypes := #[]
  staticTypes := #[(.object "jdk/internal/misc/Unsafe"), .boolean, .int, .int, .int, .int, .int, .int, .int, .int, .int, .int, .int, .int, .int, .int, .int, .int, .int, (.object "jdk/internal/access/JavaLangAccess"), .int]
  resolved := Array.replicate 378 none
  statics := none }

def pool15 : Array CpInfo := pool [(1, u "java/lang/Cloneable"), (0, .class_ 1), (0, u "java/lang/Object"), (0, .class_ 3)] 3

/-- java/lang/Cloneable -/
def k15 : Class := { plain "java/lang/Cloneable" (some 0) with
  accessFlags := 1537
  interfaces := #[]
  cf := some (fileOf pool15 2 #[] #[] 1537 4 #[] #[])
  fields := #[]
  methods := #[]
  instanceTypes := #[]
  staticTypes := #[]
  resolved := Array.replicate 8 none
  statics := none }

/-- the primitive byte -/
def k16 : Class := { plain "byte" none with kind := .primitive 'B', accessFlags := 0x411 }
/-- [B -/
def k17 : Class := { plain "[B" (some 0) with kind := .array 16 .byte, interfaces := #[15, 3], accessFlags := 1041 }

/-- the primitive int -/
def k18 : Class := { plain "int" none with kind := .primitive 'I', accessFlags := 0x411 }
/-- [I -/
def k19 : Class := { plain "[I" (some 0) with kind := .array 18 .int, interfaces := #[15, 3], accessFlags := 1041 }

/-- [Ljava/lang/Integer; -/
def k20 : Class := { plain "[Ljava/lang/Integer;" (some 0) with kind := .array 10 (.object "java/lang/Integer"), interfaces := #[15, 3], accessFlags := 1041 }

def heap : Heap := #[{ cls := 8, slots := #[.long 0, .int 1, .null, .int 0, .null, .int 0, .int 0], vm := .statics 8 },
  { cls := 10, slots := #[.int 0, .int 0, .null, .null, .ref 262, .ref 261, .int 0, .int 0, .long 0], vm := .statics 10 },
  { cls := 11, slots := #[.int 0, .int 127, .ref 4, .null, .int 0], vm := .statics 11 },
  { cls := 13, slots := #[.null, .null, .null], vm := .statics 13 },
  { cls := 20, slots := #[.ref 5, .ref 6, .ref 7, .ref 8, .ref 9, .ref 10, .ref 11, .ref 12, .ref 13, .ref 14, .ref 15, .ref 16, .ref 17, .ref 18, .ref 19, .ref 20, .ref 21, .ref 22, .ref 23, .ref 24, .ref 25, .ref 26, .ref 27, .ref 28, .ref 29, .ref 30, .ref 31, .ref 32, .ref 33, .ref 34, .ref 35, .ref 36, .ref 37, .ref 38, .ref 39, .ref 40, .ref 41, .ref 42, .ref 43, .ref 44, .ref 45, .ref 46, .ref 47, .ref 48, .ref 49, .ref 50, .ref 51, .ref 52, .ref 53, .ref 54, .ref 55, .ref 56, .ref 57, .ref 58, .ref 59, .ref 60, .ref 61, .ref 62, .ref 63, .ref 64, .ref 65, .ref 66, .ref 67, .ref 68, .ref 69, .ref 70, .ref 71, .ref 72, .ref 73, .ref 74, .ref 75, .ref 76, .ref 77, .ref 78, .ref 79, .ref 80, .ref 81, .ref 82, .ref 83, .ref 84, .ref 85, .ref 86, .ref 87, .ref 88, .ref 89, .ref 90, .ref 91, .ref 92, .ref 93, .ref 94, .ref 95, .ref 96, .ref 97, .ref 98, .ref 99, .ref 100, .ref 101, .ref 102, .ref 103, .ref 104, .ref 105, .ref 106, .ref 107, .ref 108, .ref 109, .ref 110, .ref 111, .ref 112, .ref 113, .ref 114, .ref 115, .ref 116, .ref 117, .ref 118, .ref 119, .ref 120, .ref 121, .ref 122, .ref 123, .ref 124, .ref 125, .ref 126, .ref 127, .ref 128, .ref 129, .ref 130, .ref 131, .ref 132, .ref 133, .ref 134, .ref 135, .ref 136, .ref 137, .ref 138, .ref 139, .ref 140, .ref 141, .ref 142, .ref 143, .ref 144, .ref 145, .ref 146, .ref 147, .ref 148, .ref 149, .ref 150, .ref 151, .ref 152, .ref 153, .ref 154, .ref 155, .ref 156, .ref 157, .ref 158, .ref 159, .ref 160, .ref 161, .ref 162, .ref 163, .ref 164, .ref 165, .ref 166, .ref 167, .ref 168, .ref 169, .ref 170, .ref 171, .ref 172, .ref 173, .ref 174, .ref 175, .ref 176, .ref 177, .ref 178, .ref 179, .ref 180, .ref 181, .ref 182, .ref 183, .ref 184, .ref 185, .ref 186, .ref 187, .ref 188, .ref 189, .ref 190, .ref 191, .ref 192, .ref 193, .ref 194, .ref 195, .ref 196, .ref 197, .ref 198, .ref 199, .ref 200, .ref 201, .ref 202, .ref 203, .ref 204, .ref 205, .ref 206, .ref 207, .ref 208, .ref 209, .ref 210, .ref 211, .ref 212, .ref 213, .ref 214, .ref 215, .ref 216, .ref 217, .ref 218, .ref 219, .ref 220, .ref 221, .ref 222, .ref 223, .ref 224, .ref 225, .ref 226, .ref 227, .ref 228, .ref 229, .ref 230, .ref 231, .ref 232, .ref 233, .ref 234, .ref 235, .ref 236, .ref 237, .ref 238, .ref 239, .ref 240, .ref 241, .ref 242, .ref 243, .ref 244, .ref 245, .ref 246, .ref 247, .ref 248, .ref 249, .ref 250, .ref 251, .ref 252, .ref 253, .ref 254, .ref 255, .ref 256, .ref 257, .ref 258, .ref 259, .ref 260], vm := .none },
  { cls := 10, slots := #[.int (-128)], vm := .none },
  { cls := 10, slots := #[.int (-127)], vm := .none },
  { cls := 10, slots := #[.int (-126)], vm := .none },
  { cls := 10, slots := #[.int (-125)], vm := .none },
  { cls := 10, slots := #[.int (-124)], vm := .none },
  { cls := 10, slots := #[.int (-123)], vm := .none },
  { cls := 10, slots := #[.int (-122)], vm := .none },
  { cls := 10, slots := #[.int (-121)], vm := .none },
  { cls := 10, slots := #[.int (-120)], vm := .none },
  { cls := 10, slots := #[.int (-119)], vm := .none },
  { cls := 10, slots := #[.int (-118)], vm := .none },
  { cls := 10, slots := #[.int (-117)], vm := .none },
  { cls := 10, slots := #[.int (-116)], vm := .none },
  { cls := 10, slots := #[.int (-115)], vm := .none },
  { cls := 10, slots := #[.int (-114)], vm := .none },
  { cls := 10, slots := #[.int (-113)], vm := .none },
  { cls := 10, slots := #[.int (-112)], vm := .none },
  { cls := 10, slots := #[.int (-111)], vm := .none },
  { cls := 10, slots := #[.int (-110)], vm := .none },
  { cls := 10, slots := #[.int (-109)], vm := .none },
  { cls := 10, slots := #[.int (-108)], vm := .none },
  { cls := 10, slots := #[.int (-107)], vm := .none },
  { cls := 10, slots := #[.int (-106)], vm := .none },
  { cls := 10, slots := #[.int (-105)], vm := .none },
  { cls := 10, slots := #[.int (-104)], vm := .none },
  { cls := 10, slots := #[.int (-103)], vm := .none },
  { cls := 10, slots := #[.int (-102)], vm := .none },
  { cls := 10, slots := #[.int (-101)], vm := .none },
  { cls := 10, slots := #[.int (-100)], vm := .none },
  { cls := 10, slots := #[.int (-99)], vm := .none },
  { cls := 10, slots := #[.int (-98)], vm := .none },
  { cls := 10, slots := #[.int (-97)], vm := .none },
  { cls := 10, slots := #[.int (-96)], vm := .none },
  { cls := 10, slots := #[.int (-95)], vm := .none },
  { cls := 10, slots := #[.int (-94)], vm := .none },
  { cls := 10, slots := #[.int (-93)], vm := .none },
  { cls := 10, slots := #[.int (-92)], vm := .none },
  { cls := 10, slots := #[.int (-91)], vm := .none },
  { cls := 10, slots := #[.int (-90)], vm := .none },
  { cls := 10, slots := #[.int (-89)], vm := .none },
  { cls := 10, slots := #[.int (-88)], vm := .none },
  { cls := 10, slots := #[.int (-87)], vm := .none },
  { cls := 10, slots := #[.int (-86)], vm := .none },
  { cls := 10, slots := #[.int (-85)], vm := .none },
  { cls := 10, slots := #[.int (-84)], vm := .none },
  { cls := 10, slots := #[.int (-83)], vm := .none },
  { cls := 10, slots := #[.int (-82)], vm := .none },
  { cls := 10, slots := #[.int (-81)], vm := .none },
  { cls := 10, slots := #[.int (-80)], vm := .none },
  { cls := 10, slots := #[.int (-79)], vm := .none },
  { cls := 10, slots := #[.int (-78)], vm := .none },
  { cls := 10, slots := #[.int (-77)], vm := .none },
  { cls := 10, slots := #[.int (-76)], vm := .none },
  { cls := 10, slots := #[.int (-75)], vm := .none },
  { cls := 10, slots := #[.int (-74)], vm := .none },
  { cls := 10, slots := #[.int (-73)], vm := .none },
  { cls := 10, slots := #[.int (-72)], vm := .none },
  { cls := 10, slots := #[.int (-71)], vm := .none },
  { cls := 10, slots := #[.int (-70)], vm := .none },
  { cls := 10, slots := #[.int (-69)], vm := .none },
  { cls := 10, slots := #[.int (-68)], vm := .none },
  { cls := 10, slots := #[.int (-67)], vm := .none },
  { cls := 10, slots := #[.int (-66)], vm := .none },
  { cls := 10, slots := #[.int (-65)], vm := .none },
  { cls := 10, slots := #[.int (-64)], vm := .none },
  { cls := 10, slots := #[.int (-63)], vm := .none },
  { cls := 10, slots := #[.int (-62)], vm := .none },
  { cls := 10, slots := #[.int (-61)], vm := .none },
  { cls := 10, slots := #[.int (-60)], vm := .none },
  { cls := 10, slots := #[.int (-59)], vm := .none },
  { cls := 10, slots := #[.int (-58)], vm := .none },
  { cls := 10, slots := #[.int (-57)], vm := .none },
  { cls := 10, slots := #[.int (-56)], vm := .none },
  { cls := 10, slots := #[.int (-55)], vm := .none },
  { cls := 10, slots := #[.int (-54)], vm := .none },
  { cls := 10, slots := #[.int (-53)], vm := .none },
  { cls := 10, slots := #[.int (-52)], vm := .none },
  { cls := 10, slots := #[.int (-51)], vm := .none },
  { cls := 10, slots := #[.int (-50)], vm := .none },
  { cls := 10, slots := #[.int (-49)], vm := .none },
  { cls := 10, slots := #[.int (-48)], vm := .none },
  { cls := 10, slots := #[.int (-47)], vm := .none },
  { cls := 10, slots := #[.int (-46)], vm := .none },
  { cls := 10, slots := #[.int (-45)], vm := .none },
  { cls := 10, slots := #[.int (-44)], vm := .none },
  { cls := 10, slots := #[.int (-43)], vm := .none },
  { cls := 10, slots := #[.int (-42)], vm := .none },
  { cls := 10, slots := #[.int (-41)], vm := .none },
  { cls := 10, slots := #[.int (-40)], vm := .none },
  { cls := 10, slots := #[.int (-39)], vm := .none },
  { cls := 10, slots := #[.int (-38)], vm := .none },
  { cls := 10, slots := #[.int (-37)], vm := .none },
  { cls := 10, slots := #[.int (-36)], vm := .none },
  { cls := 10, slots := #[.int (-35)], vm := .none },
  { cls := 10, slots := #[.int (-34)], vm := .none },
  { cls := 10, slots := #[.int (-33)], vm := .none },
  { cls := 10, slots := #[.int (-32)], vm := .none },
  { cls := 10, slots := #[.int (-31)], vm := .none },
  { cls := 10, slots := #[.int (-30)], vm := .none },
  { cls := 10, slots := #[.int (-29)], vm := .none },
  { cls := 10, slots := #[.int (-28)], vm := .none },
  { cls := 10, slots := #[.int (-27)], vm := .none },
  { cls := 10, slots := #[.int (-26)], vm := .none },
  { cls := 10, slots := #[.int (-25)], vm := .none },
  { cls := 10, slots := #[.int (-24)], vm := .none },
  { cls := 10, slots := #[.int (-23)], vm := .none },
  { cls := 10, slots := #[.int (-22)], vm := .none },
  { cls := 10, slots := #[.int (-21)], vm := .none },
  { cls := 10, slots := #[.int (-20)], vm := .none },
  { cls := 10, slots := #[.int (-19)], vm := .none },
  { cls := 10, slots := #[.int (-18)], vm := .none },
  { cls := 10, slots := #[.int (-17)], vm := .none },
  { cls := 10, slots := #[.int (-16)], vm := .none },
  { cls := 10, slots := #[.int (-15)], vm := .none },
  { cls := 10, slots := #[.int (-14)], vm := .none },
  { cls := 10, slots := #[.int (-13)], vm := .none },
  { cls := 10, slots := #[.int (-12)], vm := .none },
  { cls := 10, slots := #[.int (-11)], vm := .none },
  { cls := 10, slots := #[.int (-10)], vm := .none },
  { cls := 10, slots := #[.int (-9)], vm := .none },
  { cls := 10, slots := #[.int (-8)], vm := .none },
  { cls := 10, slots := #[.int (-7)], vm := .none },
  { cls := 10, slots := #[.int (-6)], vm := .none },
  { cls := 10, slots := #[.int (-5)], vm := .none },
  { cls := 10, slots := #[.int (-4)], vm := .none },
  { cls := 10, slots := #[.int (-3)], vm := .none },
  { cls := 10, slots := #[.int (-2)], vm := .none },
  { cls := 10, slots := #[.int (-1)], vm := .none },
  { cls := 10, slots := #[.int 0], vm := .none },
  { cls := 10, slots := #[.int 1], vm := .none },
  { cls := 10, slots := #[.int 2], vm := .none },
  { cls := 10, slots := #[.int 3], vm := .none },
  { cls := 10, slots := #[.int 4], vm := .none },
  { cls := 10, slots := #[.int 5], vm := .none },
  { cls := 10, slots := #[.int 6], vm := .none },
  { cls := 10, slots := #[.int 7], vm := .none },
  { cls := 10, slots := #[.int 8], vm := .none },
  { cls := 10, slots := #[.int 9], vm := .none },
  { cls := 10, slots := #[.int 10], vm := .none },
  { cls := 10, slots := #[.int 11], vm := .none },
  { cls := 10, slots := #[.int 12], vm := .none },
  { cls := 10, slots := #[.int 13], vm := .none },
  { cls := 10, slots := #[.int 14], vm := .none },
  { cls := 10, slots := #[.int 15], vm := .none },
  { cls := 10, slots := #[.int 16], vm := .none },
  { cls := 10, slots := #[.int 17], vm := .none },
  { cls := 10, slots := #[.int 18], vm := .none },
  { cls := 10, slots := #[.int 19], vm := .none },
  { cls := 10, slots := #[.int 20], vm := .none },
  { cls := 10, slots := #[.int 21], vm := .none },
  { cls := 10, slots := #[.int 22], vm := .none },
  { cls := 10, slots := #[.int 23], vm := .none },
  { cls := 10, slots := #[.int 24], vm := .none },
  { cls := 10, slots := #[.int 25], vm := .none },
  { cls := 10, slots := #[.int 26], vm := .none },
  { cls := 10, slots := #[.int 27], vm := .none },
  { cls := 10, slots := #[.int 28], vm := .none },
  { cls := 10, slots := #[.int 29], vm := .none },
  { cls := 10, slots := #[.int 30], vm := .none },
  { cls := 10, slots := #[.int 31], vm := .none },
  { cls := 10, slots := #[.int 32], vm := .none },
  { cls := 10, slots := #[.int 33], vm := .none },
  { cls := 10, slots := #[.int 34], vm := .none },
  { cls := 10, slots := #[.int 35], vm := .none },
  { cls := 10, slots := #[.int 36], vm := .none },
  { cls := 10, slots := #[.int 37], vm := .none },
  { cls := 10, slots := #[.int 38], vm := .none },
  { cls := 10, slots := #[.int 39], vm := .none },
  { cls := 10, slots := #[.int 40], vm := .none },
  { cls := 10, slots := #[.int 41], vm := .none },
  { cls := 10, slots := #[.int 42], vm := .none },
  { cls := 10, slots := #[.int 43], vm := .none },
  { cls := 10, slots := #[.int 44], vm := .none },
  { cls := 10, slots := #[.int 45], vm := .none },
  { cls := 10, slots := #[.int 46], vm := .none },
  { cls := 10, slots := #[.int 47], vm := .none },
  { cls := 10, slots := #[.int 48], vm := .none },
  { cls := 10, slots := #[.int 49], vm := .none },
  { cls := 10, slots := #[.int 50], vm := .none },
  { cls := 10, slots := #[.int 51], vm := .none },
  { cls := 10, slots := #[.int 52], vm := .none },
  { cls := 10, slots := #[.int 53], vm := .none },
  { cls := 10, slots := #[.int 54], vm := .none },
  { cls := 10, slots := #[.int 55], vm := .none },
  { cls := 10, slots := #[.int 56], vm := .none },
  { cls := 10, slots := #[.int 57], vm := .none },
  { cls := 10, slots := #[.int 58], vm := .none },
  { cls := 10, slots := #[.int 59], vm := .none },
  { cls := 10, slots := #[.int 60], vm := .none },
  { cls := 10, slots := #[.int 61], vm := .none },
  { cls := 10, slots := #[.int 62], vm := .none },
  { cls := 10, slots := #[.int 63], vm := .none },
  { cls := 10, slots := #[.int 64], vm := .none },
  { cls := 10, slots := #[.int 65], vm := .none },
  { cls := 10, slots := #[.int 66], vm := .none },
  { cls := 10, slots := #[.int 67], vm := .none },
  { cls := 10, slots := #[.int 68], vm := .none },
  { cls := 10, slots := #[.int 69], vm := .none },
  { cls := 10, slots := #[.int 70], vm := .none },
  { cls := 10, slots := #[.int 71], vm := .none },
  { cls := 10, slots := #[.int 72], vm := .none },
  { cls := 10, slots := #[.int 73], vm := .none },
  { cls := 10, slots := #[.int 74], vm := .none },
  { cls := 10, slots := #[.int 75], vm := .none },
  { cls := 10, slots := #[.int 76], vm := .none },
  { cls := 10, slots := #[.int 77], vm := .none },
  { cls := 10, slots := #[.int 78], vm := .none },
  { cls := 10, slots := #[.int 79], vm := .none },
  { cls := 10, slots := #[.int 80], vm := .none },
  { cls := 10, slots := #[.int 81], vm := .none },
  { cls := 10, slots := #[.int 82], vm := .none },
  { cls := 10, slots := #[.int 83], vm := .none },
  { cls := 10, slots := #[.int 84], vm := .none },
  { cls := 10, slots := #[.int 85], vm := .none },
  { cls := 10, slots := #[.int 86], vm := .none },
  { cls := 10, slots := #[.int 87], vm := .none },
  { cls := 10, slots := #[.int 88], vm := .none },
  { cls := 10, slots := #[.int 89], vm := .none },
  { cls := 10, slots := #[.int 90], vm := .none },
  { cls := 10, slots := #[.int 91], vm := .none },
  { cls := 10, slots := #[.int 92], vm := .none },
  { cls := 10, slots := #[.int 93], vm := .none },
  { cls := 10, slots := #[.int 94], vm := .none },
  { cls := 10, slots := #[.int 95], vm := .none },
  { cls := 10, slots := #[.int 96], vm := .none },
  { cls := 10, slots := #[.int 97], vm := .none },
  { cls := 10, slots := #[.int 98], vm := .none },
  { cls := 10, slots := #[.int 99], vm := .none },
  { cls := 10, slots := #[.int 100], vm := .none },
  { cls := 10, slots := #[.int 101], vm := .none },
  { cls := 10, slots := #[.int 102], vm := .none },
  { cls := 10, slots := #[.int 103], vm := .none },
  { cls := 10, slots := #[.int 104], vm := .none },
  { cls := 10, slots := #[.int 105], vm := .none },
  { cls := 10, slots := #[.int 106], vm := .none },
  { cls := 10, slots := #[.int 107], vm := .none },
  { cls := 10, slots := #[.int 108], vm := .none },
  { cls := 10, slots := #[.int 109], vm := .none },
  { cls := 10, slots := #[.int 110], vm := .none },
  { cls := 10, slots := #[.int 111], vm := .none },
  { cls := 10, slots := #[.int 112], vm := .none },
  { cls := 10, slots := #[.int 113], vm := .none },
  { cls := 10, slots := #[.int 114], vm := .none },
  { cls := 10, slots := #[.int 115], vm := .none },
  { cls := 10, slots := #[.int 116], vm := .none },
  { cls := 10, slots := #[.int 117], vm := .none },
  { cls := 10, slots := #[.int 118], vm := .none },
  { cls := 10, slots := #[.int 119], vm := .none },
  { cls := 10, slots := #[.int 120], vm := .none },
  { cls := 10, slots := #[.int 121], vm := .none },
  { cls := 10, slots := #[.int 122], vm := .none },
  { cls := 10, slots := #[.int 123], vm := .none },
  { cls := 10, slots := #[.int 124], vm := .none },
  { cls := 10, slots := #[.int 125], vm := .none },
  { cls := 10, slots := #[.int 126], vm := .none },
  { cls := 10, slots := #[.int 127], vm := .none },
  { cls := 17, slots := #[.int 48, .int 49, .int 50, .int 51, .int 52, .int 53, .int 54, .int 55, .int 56, .int 57, .int 48, .int 49, .int 50, .int 51, .int 52, .int 53, .int 54, .int 55, .int 56, .int 57, .int 48, .int 49, .int 50, .int 51, .int 52, .int 53, .int 54, .int 55, .int 56, .int 57, .int 48, .int 49, .int 50, .int 51, .int 52, .int 53, .int 54, .int 55, .int 56, .int 57, .int 48, .int 49, .int 50, .int 51, .int 52, .int 53, .int 54, .int 55, .int 56, .int 57, .int 48, .int 49, .int 50, .int 51, .int 52, .int 53, .int 54, .int 55, .int 56, .int 57, .int 48, .int 49, .int 50, .int 51, .int 52, .int 53, .int 54, .int 55, .int 56, .int 57, .int 48, .int 49, .int 50, .int 51, .int 52, .int 53, .int 54, .int 55, .int 56, .int 57, .int 48, .int 49, .int 50, .int 51, .int 52, .int 53, .int 54, .int 55, .int 56, .int 57, .int 48, .int 49, .int 50, .int 51, .int 52, .int 53, .int 54, .int 55, .int 56, .int 57], vm := .none },
  { cls := 17, slots := #[.int 48, .int 48, .int 48, .int 48, .int 48, .int 48, .int 48, .int 48, .int 48, .int 48, .int 49, .int 49, .int 49, .int 49, .int 49, .int 49, .int 49, .int 49, .int 49, .int 49, .int 50, .int 50, .int 50, .int 50, .int 50, .int 50, .int 50, .int 50, .int 50, .int 50, .int 51, .int 51, .int 51, .int 51, .int 51, .int 51, .int 51, .int 51, .int 51, .int 51, .int 52, .int 52, .int 52, .int 52, .int 52, .int 52, .int 52, .int 52, .int 52, .int 52, .int 53, .int 53, .int 53, .int 53, .int 53, .int 53, .int 53, .int 53, .int 53, .int 53, .int 54, .int 54, .int 54, .int 54, .int 54, .int 54, .int 54, .int 54, .int 54, .int 54, .int 55, .int 55, .int 55, .int 55, .int 55, .int 55, .int 55, .int 55, .int 55, .int 55, .int 56, .int 56, .int 56, .int 56, .int 56, .int 56, .int 56, .int 56, .int 56, .int 56, .int 57, .int 57, .int 57, .int 57, .int 57, .int 57, .int 57, .int 57, .int 57, .int 57], vm := .none }]
def classes : Array Class := #[k0, k1, k2, k3, k4, k5, k6, k7, k8, k9, k10, k11, k12, k13, k14, k15, k16, k17, k18, k19, k20]
def interned : List (Array UInt16 × Addr) := []
def slotsUsed : Nat := 736
def theMethod : MethodId := ⟨1, 1⟩
def args0 : Array Value := #[.int 5, .int 0]
def aboutOver (below : List Frame) : State where
  vm := { classes := classes, interned := interned.toArray }
  heap := heap
  slotsUsed := slotsUsed
  threads := #[{ frames := .invoking theMethod args0 :: below }]
def below0 : List Frame := [.native { method := ⟨0, 0⟩, args := #[] }]
def about1 : State := aboutOver below0
def p0 : Program := .bare "" "" ""
def e0 : Env := launch0.env 0 0 0
theorem w_frames : about1.frames = Frame.invoking theMethod args0 :: below0 := rfl
set_option maxRecDepth 65536 in
theorem w_args : argsFit about1.vm theMethod args0 = true := by decide +kernel
set_option maxRecDepth 65536 in
theorem w_heap : heapFits about1 = true := by decide +kernel
set_option maxRecDepth 65536 in
theorem w_runnable : about1.curStatus? = some .runnable := by decide +kernel
set_option maxRecDepth 65536 in
theorem w_alone : about1.alone = true := by decide +kernel
set_option maxRecDepth 65536 in
theorem w_named : about1.methodNamed? x = some theMethod := by decide +kernel
set_option maxRecDepth 65536 in
theorem w_hears : about1.hears theMethod below0 = true := by decide +kernel
set_option maxRecDepth 65536 in
theorem w_ripe : about1.ripe theMethod args0 below0 = true := by decide +kernel
theorem w_running : about1.status = .running := rfl
set_option maxRecDepth 65536 in
theorem w_room : about1.hasRoom e0.platform room_1 = true :=
  launch0.hasRoom_least _ room_1 (by decide +kernel) (by decide +kernel) (by decide +kernel) (by decide +kernel) (by decide +kernel) (by decide +kernel)
theorem allAtoms_all (ts : List Jvm.Cond) (a : Array Jvm.Value) (st : Jvm.State) : (allAtoms ts).before a st = ts.all (fun c => c.before a st) := by
  induction ts with
  | nil => rfl
  | cons c t ih =>
    show (Jvm.Cond.and c (allAtoms t)).before a st = _
    rw [Jvm.Cond.before_and, ih, List.all_cons]
def words1 : List Jvm.Cond := Jvm.Cond.code x code maxLocals ret :: tables_1
/-- a 'code' word, met by the world's own term for the bytes: nothing is compared byte by byte -/
theorem code_word {y : MethodName} {bytes : ByteArray} {mx : Nat} {rt : Option FieldType} {a : Array Value} {s : State} {m : MethodId} {meth : Method} {c : Code} (h1 : s.methodNamed? y = some m) (h2 : s.vm.method? m = some meth) (h3 : meth.code = some c) (h4 : c.code = bytes)
    (h5 : (c.maxLocals == mx && c.exceptionTable.isEmpty && decide (c.maxStack ≤ mostOperands) && decide (meth.sig.returnType = rt) && !meth.locks && decide (parseMethodDescriptor y.desc = some meth.sig)) = true) : (Jvm.Cond.code y bytes mx rt).before a s = true := by
  simp only [Bool.and_eq_true, beq_iff_eq, Bool.not_eq_true', decide_eq_true_eq] at h5
  obtain ⟨⟨⟨⟨⟨g1, g2⟩, g3⟩, g4⟩, g5⟩, g6⟩ := h5
  simp [Cond.before, Cond.holds, Cond.value, h1, h2, h3, h4, g1, g2, g3, g4, g5, g6]
def isCode : Jvm.Cond → Bool
  | .code _ _ _ _ => true
  | _ => false
theorem all_split {L : List Jvm.Cond} {P : Jvm.Cond → Bool} (h1 : L.all (fun c => isCode c || P c) = true) (h2 : ∀ c ∈ L.filter isCode, P c = true) : L.all P = true := by
  refine List.all_eq_true.mpr fun c hc => ?_
  have h := List.all_eq_true.mp h1 c hc
  rcases Bool.eq_false_or_eq_true (isCode c) with hi | hi
  · exact h2 c (List.mem_filter.mpr ⟨hc, hi⟩)
  · simpa [hi] using h
set_option maxRecDepth 65536 in
theorem w_c0 : (Jvm.Cond.code x code maxLocals ret).before args0 about1 = true := code_word (m := ⟨1, 1⟩) (meth := k1m1) (c := k1c1) (by decide +kernel) rfl rfl rfl (by decide +kernel)
set_option maxRecDepth 65536 in
theorem w_c1 : (Jvm.Cond.code ({ cls := "com/example/hyra/hyra/model/SeatCount", name := "toWire", desc := "(Ljava/lang/Integer;)Ljava/lang/String;" } : Jvm.MethodName) prog_7_method_2_code (1 : Nat) (Option.some (Jvm.ClassFile.FieldType.object "java/lang/String"))).before args0 about1 = true := code_word (m := ⟨2, 1⟩) (meth := k2m1) (c := k2c1) (by decide +kernel) rfl rfl rfl (by decide +kernel)
set_option maxRecDepth 65536 in
theorem w_c2 : (Jvm.Cond.code ({ cls := "java/lang/String", name := "isEmpty", desc := "()Z" } : Jvm.MethodName) jdk_42_method_55_code (1 : Nat) (Option.some Jvm.ClassFile.FieldType.boolean)).before args0 about1 = true := code_word (m := ⟨8, 2⟩) (meth := k8m2) (c := k8c2) (by decide +kernel) rfl rfl rfl (by decide +kernel)
set_option maxRecDepth 65536 in
theorem w_c3 : (Jvm.Cond.code ({ cls := "java/lang/Integer", name := "valueOf", desc := "(I)Ljava/lang/Integer;" } : Jvm.MethodName) jdk_33_method_22_code (1 : Nat) (Option.some (Jvm.ClassFile.FieldType.object "java/lang/Integer"))).before args0 about1 = true := code_word (m := ⟨10, 3⟩) (meth := k10m3) (c := k10c3) (by decide +kernel) rfl rfl rfl (by decide +kernel)
set_option maxRecDepth 65536 in
theorem w_c4 : (Jvm.Cond.code ({ cls := "java/lang/Integer", name := "<init>", desc := "(I)V" } : Jvm.MethodName) jdk_33_method_23_code (2 : Nat) (Option.none : Option Jvm.ClassFile.FieldType)).before args0 about1 = true := code_word (m := ⟨10, 4⟩) (meth := k10m4) (c := k10c4) (by decide +kernel) rfl rfl rfl (by decide +kernel)
set_option maxRecDepth 65536 in
theorem w_c5 : (Jvm.Cond.code ({ cls := "java/lang/Number", name := "<init>", desc := "()V" } : Jvm.MethodName) jdk_18_method_1_code (1 : Nat) (Option.none : Option Jvm.ClassFile.FieldType)).before args0 about1 = true := code_word (m := ⟨9, 0⟩) (meth := k9m0) (c := k9c0) (by decide +kernel) rfl rfl rfl (by decide +kernel)
set_option maxRecDepth 65536 in
theorem w_c6 : (Jvm.Cond.code ({ cls := "java/lang/Object", name := "<init>", desc := "()V" } : Jvm.MethodName) object_method_1_code (1 : Nat) (Option.none : Option Jvm.ClassFile.FieldType)).before args0 about1 = true := code_word (m := ⟨0, 0⟩) (meth := k0m0) (c := k0c0) (by decide +kernel) rfl rfl rfl (by decide +kernel)
set_option maxRecDepth 65536 in
theorem w_c7 : (Jvm.Cond.code ({ cls := "java/lang/Integer", name := "toString", desc := "()Ljava/lang/String;" } : Jvm.MethodName) jdk_33_method_31_code (1 : Nat) (Option.some (Jvm.ClassFile.FieldType.object "java/lang/String"))).before args0 about1 = true := code_word (m := ⟨10, 5⟩) (meth := k10m5) (c := k10c5) (by decide +kernel) rfl rfl rfl (by decide +kernel)
set_option maxRecDepth 65536 in
theorem w_c8 : (Jvm.Cond.code ({ cls := "java/lang/Integer", name := "toString", desc := "(I)Ljava/lang/String;" } : Jvm.MethodName) jdk_33_method_10_code (3 : Nat) (Option.some (Jvm.ClassFile.FieldType.object "java/lang/String"))).before args0 about1 = true := code_word (m := ⟨10, 0⟩) (meth := k10m0) (c := k10c0) (by decide +kernel) rfl rfl rfl (by decide +kernel)
set_option maxRecDepth 65536 in
theorem w_c9 : (Jvm.Cond.code ({ cls := "java/lang/Integer", name := "stringSize", desc := "(I)I" } : Jvm.MethodName) jdk_33_method_13_code (4 : Nat) (Option.some Jvm.ClassFile.FieldType.int)).before args0 about1 = true := code_word (m := ⟨10, 2⟩) (meth := k10m2) (c := k10c2) (by decide +kernel) rfl rfl rfl (by decide +kernel)
set_option maxRecDepth 65536 in
theorem w_c10 : (Jvm.Cond.code ({ cls := "java/lang/Integer", name := "getChars", desc := "(II[B)I" } : Jvm.MethodName) jdk_33_method_12_code (7 : Nat) (Option.some Jvm.ClassFile.FieldType.int)).before args0 about1 = true := code_word (m := ⟨10, 1⟩) (meth := k10m1) (c := k10c1) (by decide +kernel) rfl rfl rfl (by decide +kernel)
set_option maxRecDepth 65536 in
theorem w_c11 : (Jvm.Cond.code ({ cls := "java/lang/String", name := "<init>", desc := "([BB)V" } : Jvm.MethodName) jdk_42_method_151_code (3 : Nat) (Option.none : Option Jvm.ClassFile.FieldType)).before args0 about1 = true := code_word (m := ⟨8, 4⟩) (meth := k8m4) (c := k8c4) (by decide +kernel) rfl rfl rfl (by decide +kernel)
set_option maxRecDepth 65536 in
theorem w_c12 : (Jvm.Cond.code ({ cls := "com/example/hyra/hyra/model/SeatCountToWirePinLaw", name := "digits", desc := "(I)I" } : Jvm.MethodName) method_3_code (1 : Nat) (Option.some Jvm.ClassFile.FieldType.int)).before args0 about1 = true := code_word (m := ⟨1, 2⟩) (meth := k1m2) (c := k1c2) (by decide +kernel) rfl rfl rfl (by decide +kernel)
set_option maxRecDepth 65536 in
theorem w_c13 : (Jvm.Cond.code ({ cls := "java/lang/String", name := "length", desc := "()I" } : Jvm.MethodName) jdk_42_method_54_code (1 : Nat) (Option.some Jvm.ClassFile.FieldType.int)).before args0 about1 = true := code_word (m := ⟨8, 1⟩) (meth := k8m1) (c := k8c1) (by decide +kernel) rfl rfl rfl (by decide +kernel)
set_option maxRecDepth 65536 in
theorem w_c14 : (Jvm.Cond.code ({ cls := "java/lang/String", name := "coder", desc := "()B" } : Jvm.MethodName) jdk_42_method_152_code (1 : Nat) (Option.some Jvm.ClassFile.FieldType.byte)).before args0 about1 = true := code_word (m := ⟨8, 5⟩) (meth := k8m5) (c := k8c5) (by decide +kernel) rfl rfl rfl (by decide +kernel)
set_option maxRecDepth 65536 in
theorem w_c15 : (Jvm.Cond.code ({ cls := "com/example/hyra/hyra/model/SeatCountToWirePinLaw", name := "d", desc := "(Ljava/lang/String;IIII)Z" } : Jvm.MethodName) method_4_code (5 : Nat) (Option.some Jvm.ClassFile.FieldType.boolean)).before args0 about1 = true := code_word (m := ⟨1, 3⟩) (meth := k1m3) (c := k1c3) (by decide +kernel) rfl rfl rfl (by decide +kernel)
set_option maxRecDepth 65536 in
theorem w_c16 : (Jvm.Cond.code ({ cls := "java/lang/String", name := "charAt", desc := "(I)C" } : Jvm.MethodName) jdk_42_method_56_code (2 : Nat) (Option.some Jvm.ClassFile.FieldType.char)).before args0 about1 = true := code_word (m := ⟨8, 3⟩) (meth := k8m3) (c := k8c3) (by decide +kernel) rfl rfl rfl (by decide +kernel)
set_option maxRecDepth 65536 in
theorem w_c17 : (Jvm.Cond.code ({ cls := "java/lang/String", name := "isLatin1", desc := "()Z" } : Jvm.MethodName) jdk_42_method_154_code (1 : Nat) (Option.some Jvm.ClassFile.FieldType.boolean)).before args0 about1 = true := code_word (m := ⟨8, 6⟩) (meth := k8m6) (c := k8c6) (by decide +kernel) rfl rfl rfl (by decide +kernel)
set_option maxRecDepth 65536 in
theorem w_c18 : (Jvm.Cond.code ({ cls := "java/lang/StringLatin1", name := "charAt", desc := "([BI)C" } : Jvm.MethodName) jdk_43_method_2_code (2 : Nat) (Option.some Jvm.ClassFile.FieldType.char)).before args0 about1 = true := code_word (m := ⟨12, 1⟩) (meth := k12m1) (c := k12c1) (by decide +kernel) rfl rfl rfl (by decide +kernel)
set_option maxRecDepth 65536 in
theorem w_c19 : (Jvm.Cond.code ({ cls := "java/lang/String", name := "checkIndex", desc := "(II)V" } : Jvm.MethodName) jdk_42_method_155_code (2 : Nat) (Option.none : Option Jvm.ClassFile.FieldType)).before args0 about1 = true := code_word (m := ⟨8, 7⟩) (meth := k8m7) (c := k8c7) (by decide +kernel) rfl rfl rfl (by decide +kernel)
set_option maxRecDepth 65536 in
theorem w_c20 : (Jvm.Cond.code ({ cls := "jdk/internal/util/Preconditions", name := "checkIndex", desc := "(IILjava/util/function/BiFunction;)I" } : Jvm.MethodName) jdk_41_method_11_code (3 : Nat) (Option.some Jvm.ClassFile.FieldType.int)).before args0 about1 = true := code_word (m := ⟨13, 1⟩) (meth := k13m1) (c := k13c1) (by decide +kernel) rfl rfl rfl (by decide +kernel)
def codes1 : List Jvm.Cond := [Jvm.Cond.code x code maxLocals ret, Jvm.Cond.code ({ cls := "com/example/hyra/hyra/model/SeatCount", name := "toWire", desc := "(Ljava/lang/Integer;)Ljava/lang/String;" } : Jvm.MethodName) prog_7_method_2_code (1 : Nat) (Option.some (Jvm.ClassFile.FieldType.object "java/lang/String")), Jvm.Cond.code ({ cls := "java/lang/String", name := "isEmpty", desc := "()Z" } : Jvm.MethodName) jdk_42_method_55_code (1 : Nat) (Option.some Jvm.ClassFile.FieldType.boolean), Jvm.Cond.code ({ cls := "java/lang/Integer", name := "valueOf", desc := "(I)Ljava/lang/Integer;" } : Jvm.MethodName) jdk_33_method_22_code (1 : Nat) (Option.some (Jvm.ClassFile.FieldType.object "java/lang/Integer")), Jvm.Cond.code ({ cls := "java/lang/Integer", name := "<init>", desc := "(I)V" } : Jvm.MethodName) jdk_33_method_23_code (2 : Nat) (Option.none : Option Jvm.ClassFile.FieldType), Jvm.Cond.code ({ cls := "java/lang/Number", name := "<init>", desc := "()V" } : Jvm.MethodName) jdk_18_method_1_code (1 : Nat) (Option.none : Option Jvm.ClassFile.FieldType), Jvm.Cond.code ({ cls := "java/lang/Object", name := "<init>", desc := "()V" } : Jvm.MethodName) object_method_1_code (1 : Nat) (Option.none : Option Jvm.ClassFile.FieldType), Jvm.Cond.code ({ cls := "java/lang/Integer", name := "toString", desc := "()Ljava/lang/String;" } : Jvm.MethodName) jdk_33_method_31_code (1 : Nat) (Option.some (Jvm.ClassFile.FieldType.object "java/lang/String")), Jvm.Cond.code ({ cls := "java/lang/Integer", name := "toString", desc := "(I)Ljava/lang/String;" } : Jvm.MethodName) jdk_33_method_10_code (3 : Nat) (Option.some (Jvm.ClassFile.FieldType.object "java/lang/String")), Jvm.Cond.code ({ cls := "java/lang/Integer", name := "stringSize", desc := "(I)I" } : Jvm.MethodName) jdk_33_method_13_code (4 : Nat) (Option.some Jvm.ClassFile.FieldType.int), Jvm.Cond.code ({ cls := "java/lang/Integer", name := "getChars", desc := "(II[B)I" } : Jvm.MethodName) jdk_33_method_12_code (7 : Nat) (Option.some Jvm.ClassFile.FieldType.int), Jvm.Cond.code ({ cls := "java/lang/String", name := "<init>", desc := "([BB)V" } : Jvm.MethodName) jdk_42_method_151_code (3 : Nat) (Option.none : Option Jvm.ClassFile.FieldType), Jvm.Cond.code ({ cls := "com/example/hyra/hyra/model/SeatCountToWirePinLaw", name := "digits", desc := "(I)I" } : Jvm.MethodName) method_3_code (1 : Nat) (Option.some Jvm.ClassFile.FieldType.int), Jvm.Cond.code ({ cls := "java/lang/String", name := "length", desc := "()I" } : Jvm.MethodName) jdk_42_method_54_code (1 : Nat) (Option.some Jvm.ClassFile.FieldType.int), Jvm.Cond.code ({ cls := "java/lang/String", name := "coder", desc := "()B" } : Jvm.MethodName) jdk_42_method_152_code (1 : Nat) (Option.some Jvm.ClassFile.FieldType.byte), Jvm.Cond.code ({ cls := "com/example/hyra/hyra/model/SeatCountToWirePinLaw", name := "d", desc := "(Ljava/lang/String;IIII)Z" } : Jvm.MethodName) method_4_code (5 : Nat) (Option.some Jvm.ClassFile.FieldType.boolean), Jvm.Cond.code ({ cls := "java/lang/String", name := "charAt", desc := "(I)C" } : Jvm.MethodName) jdk_42_method_56_code (2 : Nat) (Option.some Jvm.ClassFile.FieldType.char), Jvm.Cond.code ({ cls := "java/lang/String", name := "isLatin1", desc := "()Z" } : Jvm.MethodName) jdk_42_method_154_code (1 : Nat) (Option.some Jvm.ClassFile.FieldType.boolean), Jvm.Cond.code ({ cls := "java/lang/StringLatin1", name := "charAt", desc := "([BI)C" } : Jvm.MethodName) jdk_43_method_2_code (2 : Nat) (Option.some Jvm.ClassFile.FieldType.char), Jvm.Cond.code ({ cls := "java/lang/String", name := "checkIndex", desc := "(II)V" } : Jvm.MethodName) jdk_42_method_155_code (2 : Nat) (Option.none : Option Jvm.ClassFile.FieldType), Jvm.Cond.code ({ cls := "jdk/internal/util/Preconditions", name := "checkIndex", desc := "(IILjava/util/function/BiFunction;)I" } : Jvm.MethodName) jdk_41_method_11_code (3 : Nat) (Option.some Jvm.ClassFile.FieldType.int)]
set_option maxRecDepth 65536 in
theorem codes_eq : words1.filter isCode = codes1 := rfl
theorem w_codes : ∀ c ∈ words1.filter isCode, c.before args0 about1 = true := by
  rw [codes_eq]
  intro c hc
  simp only [codes1, List.mem_cons, List.not_mem_nil, or_false] at hc
  rcases hc with rfl | rfl | rfl | rfl | rfl | rfl | rfl | rfl | rfl | rfl | rfl | rfl | rfl | rfl | rfl | rfl | rfl | rfl | rfl | rfl | rfl
  · exact w_c0
  · exact w_c1
  · exact w_c2
  · exact w_c3
  · exact w_c4
  · exact w_c5
  · exact w_c6
  · exact w_c7
  · exact w_c8
  · exact w_c9
  · exact w_c10
  · exact w_c11
  · exact w_c12
  · exact w_c13
  · exact w_c14
  · exact w_c15
  · exact w_c16
  · exact w_c17
  · exact w_c18
  · exact w_c19
  · exact w_c20
set_option maxRecDepth 65536 in
theorem w_t1 : (words1.take 24).all (fun c => isCode c || c.before args0 about1) = true := by decide +kernel
set_option maxRecDepth 65536 in
theorem w_t2 : ((words1.drop 24).take 24).all (fun c => isCode c || c.before args0 about1) = true := by decide +kernel
set_option maxRecDepth 65536 in
theorem w_t3 : (((words1.drop 24).drop 24).take 24).all (fun c => isCode c || c.before args0 about1) = true := by decide +kernel
set_option maxRecDepth 65536 in
theorem w_t4 : ((((words1.drop 24).drop 24).drop 24).take 24).all (fun c => isCode c || c.before args0 about1) = true := by decide +kernel
set_option maxRecDepth 65536 in
theorem w_t5 : ((((words1.drop 24).drop 24).drop 24).drop 24).all (fun c => isCode c || c.before args0 about1) = true := by decide +kernel
theorem w_tables : (allAtoms (Jvm.Cond.code x code maxLocals ret :: tables_1)).before args0 about1 = true := by
  rw [allAtoms_all]
  show words1.all (fun c => c.before args0 about1) = true
  refine all_split ?_ w_codes
  rw [← List.take_append_drop 24 words1, List.all_append, w_t1, ← List.take_append_drop 24 (words1.drop 24), List.all_append, w_t2, ← List.take_append_drop 24 ((words1.drop 24).drop 24), List.all_append, w_t3, ← List.take_append_drop 24 (((words1.drop 24).drop 24).drop 24), List.all_append, w_t4, w_t5]
  rfl
set_option maxRecDepth 65536 in
theorem w_rest : rest_1_c.before args0 about1 = true := by decide +kernel
set_option maxRecDepth 65536 in
theorem w_case : (Jvm.Cond.and given_1 narrow_1).before args0 about1 = true := by decide +kernel
set_option maxRecDepth 65536 in
theorem w_consts : constsHeld consts_1 about1 := Jvm.Lit.constsHeldB_iff.mp (by decide +kernel)
theorem w_applies : (headSpec (Jvm.Cond.code x code maxLocals ret :: tables_1) room_1).applies x e0.platform about1 = true :=
  (Spec.applies_iff w_frames).mpr ⟨w_running, w_runnable, w_alone, w_named, w_hears, w_ripe, w_room, w_tables⟩
theorem atStart : AtStart classFile x code maxLocals ret World_1 tables_1 room_1 Calls_1 rest_1 Pre_1 launch0 p0 e0 about1 theMethod args0 below0 :=
  ⟨lists_1, trivial, launch0.admits_env _ _ _, launch0.least_env, fairChoices_fair.cas, fairChoices_fair.clock, w_frames, w_args, w_heap, w_applies, ⟨w_consts, trivial⟩, w_rest, w_case⟩
end start1
theorem witness_1 : WitnessClaimed_1 := ⟨start1.p0, start1.e0, start1.about1, start1.theMethod, start1.args0, start1.below0, start1.atStart⟩
end Jvm.Pilot.@@N@@
