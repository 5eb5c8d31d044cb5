import JvmDerived
import JvmDerived.Pilot.@@N@@Statement
import JvmDerived.Pilot.@@N@@Code
set_option linter.unusedVariables false
set_option linter.unusedSimpArgs false
namespace Jvm.Pilot.@@N@@
open Jvm Jvm.ClassFile Sem Op Lib Jvm.Free Jvm.Stand Jvm.LawKit Jvm.RoadKit Bundle Jvm.Pilot.@@N@@.Jvm.D
section Own
variable {p : Program} {l : Launch} {e : Env} {R : Room} {s : State} {m : MethodId} {args : Array Value} {below : List Frame} {meth : Method} {c : Code} {T : State} {locs : List Loc} {cells slots : Nat} {Z : State} {a0 : Array Value} {h : Heap}
/-- from the state S the body ends well: it returns v, leaves the heap and the written places as Q says, within kc cells and ks slots -/
def Run (p : Program) (e : Env) (below : List Frame) (s : State) (Q : Option Value → Heap → List Loc → Prop) (kc ks : Nat) (S : State) : Prop := ∃ s₂ o, Steps p.tables e below S s₂ ∧ s₂.status = .running ∧ Ended s₂ below o ∧ ∃ v L, o = .returned v ∧ Q v s₂.heap L ∧ FrameEnd s o s₂ L kc ks
variable {Q : Option Value → Heap → List Loc → Prop} {kc ks : Nat}
theorem Run.pre {S S' : State} (h : ∀ t, Steps p.tables e below S' t → Steps p.tables e below S t) (k : Run p e below s Q kc ks S') : Run p e below s Q kc ks S := by
  obtain ⟨s₂, o, h1, r⟩ := k; exact ⟨s₂, o, h _ h1, r⟩
theorem Run.out (X : Stand p l e R s m args below meth c T locs cells slots) (hx : p.tables.exec = Jvm.exec) {pc : Nat} {Ls : Array Slot} {w : Value} {t : FieldType} {i : Instr} {rest : List Value} (hret : meth.sig.returnType = some t) (hn : narrow t w = w)
    (hi : (i = .ireturn ∧ (t = .int ∨ t = .boolean ∨ t = .byte ∨ t = .char ∨ t = .short) ∧ ∃ z, w = .int z) ∨ (i = .lreturn ∧ t = .long ∧ ∃ z, w = .long z) ∨ (i = .dreturn ∧ t = .double ∧ ∃ z, w = .double z) ∨ (i = .freturn ∧ t = .float ∧ ∃ z, w = .float z) ∨ (i = .areturn ∧ t.isReference = true ∧ w.isRef = true))
    (hlk : meth.locks = false) (hd : decode c.code pc = .ok (i, 1)) (hq : Q (some w) T.heap locs) (hc : cells ≤ kc) (hs : slots ≤ ks) : Run p e below s Q kc ks (T.setTop (mkF m pc Ls (w :: rest))) := by
  obtain ⟨fs, hr, hrun, hended, hW, hsame⟩ := X.leave (v := some w) (fun h => by rw [hret] at h; cases h) hlk
  exact ⟨_, _, retOut X hx hret hn hi hd hr, hrun, hended, _, _, rfl, hq, ⟨_, rfl⟩, hW, hsame.mono hc hs⟩
theorem Run.retN (X : Stand p l e R s m args below meth c T locs cells slots) (hx : p.tables.exec = Jvm.exec) {pc : Nat} {Ls : Array Slot} {z : Int32} {t : FieldType} {rest : List Value} (hret : meth.sig.returnType = some t) (ht : t = .boolean ∨ t = .byte ∨ t = .char ∨ t = .short) (hlk : meth.locks = false)
    (hd : decode c.code pc = .ok (.ireturn, 1)) (hq : Q (some (.int (nar t z))) T.heap locs) (hc : cells ≤ kc) (hs : slots ≤ ks) : Run p e below s Q kc ks (T.setTop (mkF m pc Ls (.int z :: rest))) := by
  obtain ⟨fs, hr, hrun, hended, hW, hsame⟩ := X.leave (v := some (.int (nar t z))) (fun h => by rw [hret] at h; cases h) hlk
  exact ⟨_, _, Jvm.RoadKit.retN X hx hret ht hd hr, hrun, hended, _, _, rfl, hq, ⟨_, rfl⟩, hW, hsame.mono hc hs⟩
theorem Run.retI (X : Stand p l e R s m args below meth c T locs cells slots) (hx : p.tables.exec = Jvm.exec) {pc : Nat} {Ls : Array Slot} {z : Int32} {rest : List Value} (hret : meth.sig.returnType = some .int) (hlk : meth.locks = false)
    (hd : decode c.code pc = .ok (.ireturn, 1)) (hq : Q (some (.int z)) T.heap locs) (hc : cells ≤ kc) (hs : slots ≤ ks) : Run p e below s Q kc ks (T.setTop (mkF m pc Ls (.int z :: rest))) := Run.out X hx hret rfl (Or.inl ⟨rfl, Or.inl rfl, z, rfl⟩) hlk hd hq hc hs
theorem Run.retJ (X : Stand p l e R s m args below meth c T locs cells slots) (hx : p.tables.exec = Jvm.exec) {pc : Nat} {Ls : Array Slot} {z : Int64} {rest : List Value} (hret : meth.sig.returnType = some .long) (hlk : meth.locks = false)
    (hd : decode c.code pc = .ok (.lreturn, 1)) (hq : Q (some (.long z)) T.heap locs) (hc : cells ≤ kc) (hs : slots ≤ ks) : Run p e below s Q kc ks (T.setTop (mkF m pc Ls (.long z :: rest))) := Run.out X hx hret rfl (Or.inr (Or.inl ⟨rfl, rfl, z, rfl⟩)) hlk hd hq hc hs
theorem Run.retA (X : Stand p l e R s m args below meth c T locs cells slots) (hx : p.tables.exec = Jvm.exec) {pc : Nat} {Ls : Array Slot} {w : Value} {t : FieldType} {rest : List Value} (hret : meth.sig.returnType = some t) (ht : t.isReference = true) (hw : w.isRef = true) (hlk : meth.locks = false)
    (hd : decode c.code pc = .ok (.areturn, 1)) (hq : Q (some w) T.heap locs) (hc : cells ≤ kc) (hs : slots ≤ ks) : Run p e below s Q kc ks (T.setTop (mkF m pc Ls (w :: rest))) := Run.out X hx hret (by cases t <;> cases w <;> simp_all [FieldType.isReference, Value.isRef, narrow]) (Or.inr (Or.inr (Or.inr (Or.inr ⟨rfl, ht, hw⟩)))) hlk hd hq hc hs
theorem Run.retV (X : Stand p l e R s m args below meth c T locs cells slots) (hx : p.tables.exec = Jvm.exec) {pc : Nat} {Ls : Array Slot} (hret : meth.sig.returnType = none) (hlk : meth.locks = false)
    (hd : decode c.code pc = .ok (.return_, 1)) (hq : Q none T.heap locs) (hc : cells ≤ kc) (hs : slots ≤ ks) : Run p e below s Q kc ks (T.setTop (mkF m pc Ls [])) := by
  obtain ⟨fs, hr, hrun, hended, hW, hsame⟩ := X.leave (v := none) (fun _ => rfl) hlk
  exact ⟨_, _, X.returnOut hx hret hd hr, hrun, hended, _, _, rfl, hq, ⟨_, rfl⟩, hW, hsame.mono hc hs⟩
/-- a body's contract, at the heap h0 and the arguments as' -/
def Con (l : Launch) (y : MethodName) (bytes : ByteArray) (maxL : Nat) (ret : Option FieldType) (rm : Room) (Z : State) (as' : Array Value) (h0 : Heap) (Q : Option Value → Heap → List Loc → Prop) : Prop :=
  ∀ ws, MetFree l y (head1 (Jvm.Cond.code y bytes maxL ret :: ws) rm) (fun a U => a = as' ∧ Z.Warmed39 U.vm ∧ U.heap = h0) (fun _ _ _ _ _ => True) (fun _ U o U' => ∃ v L, o = .returned v ∧ Q v U'.heap L ∧ FrameEnd U o U' L rm.cells rm.slots)
theorem Con.mk {y : MethodName} {bytes : ByteArray} {maxL : Nat} {ret : Option FieldType} {rm : Room} {as' : Array Value} {h0 : Heap} {F : MethodId → JFrame} (hpl : plainFor y = true) (hef : ∀ m, entryFrame m as' maxL = F m)
    (body : ∀ (p : Program) (e : Env) (s : State) (m : MethodId) (below : List Frame) (meth : Method) (c : Code) (s₁ : State), p.tables.exec = Jvm.exec → c.code = bytes → c.maxLocals = maxL → s.vm.findClass y.cls = some m.cls → meth.name = y.name → meth.sig.returnType = ret → meth.locks = false → Z.Warmed39 s.vm →
      Stand p l e rm s m as' below meth c s₁ [] 0 0 → s₁.heap = h0 → Run p e below s Q rm.cells rm.slots (s₁.setTop (F m))) : Con l y bytes maxL ret rm Z as' h0 Q := by
  intro ws
  refine MetFree.of_bodySF hpl hisR ?_
  intro p e s m args below meth c s₁ Bd hml0 hP hK
  obtain ⟨rfl, hZ, hh⟩ := hP
  have k := body p e s m below meth c s₁ Bd.exec Bd.bytes hml0 (findClass_of_methodNamed Bd.named) (name_of_methodNamed Bd.named Bd.method).1 Bd.returns Bd.notSynchronized hZ (Stand.of_body Bd) (by rw [← hh, Bd.state]; rfl)
  rw [← hef m] at k
  exact k
theorem Con.back {y : MethodName} {bytes : ByteArray} {maxL : Nat} {ret : Option FieldType} {rm : Room} {len W : Nat} {as' : Array Value} (hM : Con l y bytes maxL ret rm Z as' h Q) (hZ : Z.Warmed39 s.vm) (wc : (Jvm.Cond.code y bytes maxL ret).before a0 Z = true) (wz : (Jvm.Cond.initialized y.cls).before a0 Z = true) (hf : rm.frames + 1 ≤ R.frames) (hl : W + (maxL + 11) + rm.locals ≤ R.locals) :
    Back l R p e below s args y len W (fun A a => a = as' ∧ A.U.heap = h ∧ A.cells + rm.cells ≤ R.cells ∧ A.slots + rm.slots ≤ R.slots) (fun A _ v B => ∃ L, Q v B.U.heap L ∧ B.locs = A.locs ++ L ∧ B.cells = A.cells + rm.cells ∧ B.slots = A.slots + rm.slots) :=
  backOf (hM []) hZ wc wz hf hl
section Calls
variable {y : MethodName} {bytes : ByteArray} {maxL : Nat} {rt : Option FieldType} {rm : Room} {W : Nat} {own : String} {index : Nat} {Qc : Option Value → Heap → List Loc → Prop} {g : JFrame} {argsL rest : List Value} {as' : Array Value}
theorem Run.callS (X : Stand p l e R s m args below meth c T locs cells slots) (hx : p.tables.exec = Jvm.exec) (hZ : Z.Warmed39 s.vm) (hown : s.vm.findClass own = some m.cls) (w1 : (Jvm.Cond.methodLink own index y).before a0 Z = true) (w2 : (Jvm.Cond.static y).before a0 Z = true) (w3 : (Jvm.Cond.initialized y.cls).before a0 Z = true) (w4 : (Jvm.Cond.code y bytes maxL rt).before a0 Z = true)
    (hy : y.cls ≠ "java/lang/invoke/MethodHandle" ∧ y.cls ≠ "java/lang/invoke/VarHandle") (hM : Con l y bytes maxL rt rm Z argsL.toArray h Qc) (eT : T.heap = h) (hfr : rm.frames + 1 ≤ R.frames) (hlo : W + (maxL + 11) + rm.locals ≤ R.locals) (hce : cells + rm.cells ≤ R.cells) (hsl : slots + rm.slots ≤ R.slots)
    (hg : g.method = m) (hsize : g.locals.size = c.maxLocals) (hlen : ∀ sig, parseMethodDescriptor y.desc = some sig → argsL.length = sig.parameters.length) (hstack : g.stack = argsL.reverse ++ rest) (hW : 2 * g.monitorRoom + (rest.map fun v => v.category).sum ≤ W) (hdg : decode c.code g.pc = .ok (.invokestatic index, 3))
    (k : ∀ v T' L, Stand p l e R s m args below meth c T' (locs ++ L) (cells + rm.cells) (slots + rm.slots) → Qc v T'.heap L → Run p e below s Q kc ks (T'.setTop { g with pc := g.pc + 3, stack := v.toList ++ rest })) : Run p e below s Q kc ks (T.setTop g) := by
  obtain ⟨v, vm₁, ⟨T', L', c', n'⟩, -, X', ⟨L, hQ, l1, l2, l3⟩, st⟩ := Jvm.LawKit.callS X hx hown (mvT hZ w1) (mvT hZ w2) (mvT hZ w3) (mvT hZ w4) hy (hM.back (W := W) hZ w4 w3 hfr hlo) hg hsize hlen hstack hW hdg (fun _ _ => ⟨rfl, eT, hce, hsl⟩)
  dsimp only [Pt.U, Pt.locs, Pt.cells, Pt.slots] at X' l1 l2 l3 st hQ
  subst l1 l2 l3
  exact Run.pre st (k v T' L X' hQ)
theorem Run.callI (X : Stand p l e R s m args below meth c T locs cells slots) (hx : p.tables.exec = Jvm.exec) (hZ : Z.Warmed39 s.vm) (hy1 : y.name = "<init>") (hown : s.vm.findClass own = some m.cls) (w1 : (Jvm.Cond.methodLink own index y).before a0 Z = true) (w2 : (Jvm.Cond.instanceMethod y).before a0 Z = true) (w4 : (Jvm.Cond.code y bytes maxL none).before a0 Z = true) (w3 : (Jvm.Cond.initialized y.cls).before a0 Z = true)
    (hy : y.cls ≠ "java/lang/invoke/MethodHandle" ∧ y.cls ≠ "java/lang/invoke/VarHandle") {a : Addr} (hM : Con l y bytes maxL none rm Z (.ref a :: argsL).toArray h Qc) (eT : T.heap = h) (hfr : rm.frames + 1 ≤ R.frames) (hlo : W + (maxL + 11) + rm.locals ≤ R.locals) (hce : cells + rm.cells ≤ R.cells) (hsl : slots + rm.slots ≤ R.slots)
    (hg : g.method = m) (hsize : g.locals.size = c.maxLocals) (hlen : ∀ sig, parseMethodDescriptor y.desc = some sig → argsL.length = sig.parameters.length) (hstack : g.stack = argsL.reverse ++ .ref a :: rest) (hW : 2 * g.monitorRoom + (rest.map fun v => v.category).sum ≤ W) (hdg : decode c.code g.pc = .ok (.invokespecial index, 3))
    (k : ∀ v T' L, Stand p l e R s m args below meth c T' (locs ++ L) (cells + rm.cells) (slots + rm.slots) → Qc v T'.heap L → Run p e below s Q kc ks (T'.setTop { g with pc := g.pc + 3, stack := v.toList ++ rest })) : Run p e below s Q kc ks (T.setTop g) := by
  obtain ⟨v, vm₁, ⟨T', L', c', n'⟩, -, X', ⟨L, hQ, l1, l2, l3⟩, st⟩ := X.specialBack hx hy1 hown (mvT hZ w1) (mvT hZ w2) (mvT hZ w4) hy (hM.back (W := W) hZ w4 w3 hfr hlo) hg hsize (Steps.refl _) hlen hstack hW hdg (fun _ _ => ⟨rfl, eT, hce, hsl⟩)
  dsimp only [Pt.U, Pt.locs, Pt.cells, Pt.slots] at X' l1 l2 l3 st hQ
  subst l1 l2 l3
  exact Run.pre (fun _ q => st.trans q) (k v T' L X' hQ)
theorem Run.callP (X : Stand p l e R s m args below meth c T locs cells slots) (hx : p.tables.exec = Jvm.exec) (hZ : Z.Warmed39 s.vm) (hown : s.vm.findClass own = some m.cls) (w1 : (Jvm.Cond.methodLink own index y).before a0 Z = true) (w2 : (Jvm.Cond.instanceMethod y).before a0 Z = true) (w5 : (Jvm.Cond.selects y.cls y y).before a0 Z = true) (w6 : (Jvm.Cond.privateMethod y).before a0 Z = true) (w4 : (Jvm.Cond.code y bytes maxL rt).before a0 Z = true) (w3 : (Jvm.Cond.initialized y.cls).before a0 Z = true)
    (hy : y.cls ≠ "java/lang/invoke/MethodHandle" ∧ y.cls ≠ "java/lang/invoke/VarHandle") {a : Addr} {C : String} (E : Exa Z h a C) (hM : Con l y bytes maxL rt rm Z (.ref a :: argsL).toArray h Qc) (eT : T.heap = h) (hfr : rm.frames + 1 ≤ R.frames) (hlo : W + (maxL + 11) + rm.locals ≤ R.locals) (hce : cells + rm.cells ≤ R.cells) (hsl : slots + rm.slots ≤ R.slots)
    (hg : g.method = m) (hsize : g.locals.size = c.maxLocals) (hlen : ∀ sig, parseMethodDescriptor y.desc = some sig → argsL.length = sig.parameters.length) (hstack : g.stack = argsL.reverse ++ .ref a :: rest) (hW : 2 * g.monitorRoom + (rest.map fun v => v.category).sum ≤ W) (hdg : decode c.code g.pc = .ok (.invokevirtual index, 3))
    (k : ∀ v T' L, Stand p l e R s m args below meth c T' (locs ++ L) (cells + rm.cells) (slots + rm.slots) → Qc v T'.heap L → Run p e below s Q kc ks (T'.setTop { g with pc := g.pc + 3, stack := v.toList ++ rest })) : Run p e below s Q kc ks (T.setTop g) := by
  obtain ⟨cell, kk, q1, -, -, q4, -⟩ := E
  obtain ⟨v, vm₁, ⟨T', L', c', n'⟩, -, X', ⟨L, hQ, l1, l2, l3⟩, st⟩ := X.privateBack hx hown (mvT hZ w1) (mvT hZ w2) (mvT hZ w5) (Cond.privateMethod_at (mvP hZ w6 (args := #[]))) (mvT hZ w4) hy (hM.back (W := W) hZ w4 w3 hfr hlo) hg hsize (Steps.refl _) (a := a) (by rw [eT]; exact q1) (fun q e => by rw [e] at q4; cases q4) hlen hstack hW hdg (fun _ _ => ⟨rfl, eT, hce, hsl⟩)
  dsimp only [Pt.U, Pt.locs, Pt.cells, Pt.slots] at X' l1 l2 l3 st hQ
  subst l1 l2 l3
  exact Run.pre (fun _ q => st.trans q) (k v T' L X' hQ)
theorem Run.callV {z : MethodName} {C : String} (X : Stand p l e R s m args below meth c T locs cells slots) (hx : p.tables.exec = Jvm.exec) (hZ : Z.Warmed39 s.vm) (hown : s.vm.findClass own = some m.cls) (w1 : (Jvm.Cond.methodLink own index y).before a0 Z = true) (w2 : (Jvm.Cond.declares y).before a0 Z = true) (hnf : NotFace s y) (w5 : (Jvm.Cond.selects C y z).before a0 Z = true) (w6 : (Jvm.Cond.instanceMethod z).before a0 Z = true) (w4 : (Jvm.Cond.code z bytes maxL rt).before a0 Z = true) (w3 : (Jvm.Cond.initialized z.cls).before a0 Z = true)
    (hy : y.cls ≠ "java/lang/invoke/MethodHandle" ∧ y.cls ≠ "java/lang/invoke/VarHandle") {b : Addr} (E : Exa Z h b C) (hM : Con l z bytes maxL rt rm Z (.ref b :: argsL).toArray h Qc) (eT : T.heap = h) (hfr : rm.frames + 1 ≤ R.frames) (hlo : W + (maxL + 11) + rm.locals ≤ R.locals) (hce : cells + rm.cells ≤ R.cells) (hsl : slots + rm.slots ≤ R.slots)
    (hg : g.method = m) (hsize : g.locals.size = c.maxLocals) (hlen : ∀ sig, parseMethodDescriptor y.desc = some sig → argsL.length = sig.parameters.length) (hstack : g.stack = argsL.reverse ++ .ref b :: rest) (hW : 2 * g.monitorRoom + (rest.map fun v => v.category).sum ≤ W) (hdg : decode c.code g.pc = .ok (.invokevirtual index, 3))
    (k : ∀ v T' L, Stand p l e R s m args below meth c T' (locs ++ L) (cells + rm.cells) (slots + rm.slots) → Qc v T'.heap L → Run p e below s Q kc ks (T'.setTop { g with pc := g.pc + 3, stack := v.toList ++ rest })) : Run p e below s Q kc ks (T.setTop g) := by
  obtain ⟨cB, kB, qa, qb, qc⟩ := isOf hZ eT E
  obtain ⟨v, vm₁, ⟨T', L', c', n'⟩, -, X', ⟨L, hQ, l1, l2, l3⟩, st⟩ := X.virtualBack hx hown (mvT hZ w1) (mvT hZ w2) hnf (mvT hZ w5) (mvT hZ w6) hy (hM.back (W := W) hZ w4 w3 hfr hlo) qa qc hg hsize (Steps.refl _) hlen hstack hW hdg (fun _ _ => ⟨rfl, eT, hce, hsl⟩)
  dsimp only [Pt.U, Pt.locs, Pt.cells, Pt.slots] at X' l1 l2 l3 st hQ
  subst l1 l2 l3
  exact Run.pre (fun _ q => st.trans q) (k v T' L X' hQ)
theorem Run.callU {z : MethodName} {C owner : String} (X : Stand p l e R s m args below meth c T locs cells slots) (hx : p.tables.exec = Jvm.exec) (hZ : Z.Warmed39 s.vm) (hown : s.vm.findClass own = some m.cls) (w1 : (Jvm.Cond.methodLink own index y).before a0 Z = true) (w2 : (Jvm.Cond.sameMethod y.cls owner y.name y.desc).before a0 Z = true) (w7 : (Jvm.Cond.declares ⟨owner, y.name, y.desc⟩).before a0 Z = true) (w5 : (Jvm.Cond.selects C y z).before a0 Z = true) (w6 : (Jvm.Cond.instanceMethod z).before a0 Z = true) (w4 : (Jvm.Cond.code z bytes maxL rt).before a0 Z = true) (w3 : (Jvm.Cond.initialized z.cls).before a0 Z = true)
    (hy : owner ≠ "java/lang/invoke/MethodHandle" ∧ owner ≠ "java/lang/invoke/VarHandle") {b : Addr} (E : Exa Z h b C) (hM : Con l z bytes maxL rt rm Z (.ref b :: argsL).toArray h Qc) (eT : T.heap = h) (hfr : rm.frames + 1 ≤ R.frames) (hlo : W + (maxL + 11) + rm.locals ≤ R.locals) (hce : cells + rm.cells ≤ R.cells) (hsl : slots + rm.slots ≤ R.slots)
    (hg : g.method = m) (hsize : g.locals.size = c.maxLocals) (hlen : ∀ sig, parseMethodDescriptor y.desc = some sig → argsL.length = sig.parameters.length) (hstack : g.stack = argsL.reverse ++ .ref b :: rest) (hW : 2 * g.monitorRoom + (rest.map fun v => v.category).sum ≤ W) (hdg : decode c.code g.pc = .ok (.invokevirtual index, 3))
    (k : ∀ v T' L, Stand p l e R s m args below meth c T' (locs ++ L) (cells + rm.cells) (slots + rm.slots) → Qc v T'.heap L → Run p e below s Q kc ks (T'.setTop { g with pc := g.pc + 3, stack := v.toList ++ rest })) : Run p e below s Q kc ks (T.setTop g) := by
  obtain ⟨cB, kB, qa, qb, qc⟩ := isOf hZ eT E
  obtain ⟨v, vm₁, ⟨T', L', c', n'⟩, -, X', ⟨L, hQ, l1, l2, l3⟩, st⟩ := X.virtualBackUp hx hown (mvT hZ w1) (mvT hZ w2) (mvT hZ w7) hy (mvT hZ w5) (mvT hZ w6) (hM.back (W := W) hZ w4 w3 hfr hlo) qa qc hg hsize (Steps.refl _) hlen hstack hW hdg (fun _ _ => ⟨rfl, eT, hce, hsl⟩)
  dsimp only [Pt.U, Pt.locs, Pt.cells, Pt.slots] at X' l1 l2 l3 st hQ
  subst l1 l2 l3
  exact Run.pre (fun _ q => st.trans q) (k v T' L X' hQ)
theorem Run.callF {xi : MethodName} {C : String} {count : Nat} (X : Stand p l e R s m args below meth c T locs cells slots) (hx : p.tables.exec = Jvm.exec) (hZ : Z.Warmed39 s.vm) (hown : s.vm.findClass own = some m.cls) (w1 : (Jvm.Cond.methodLink own index xi).before a0 Z = true) (w2 : (Jvm.Cond.declares xi).before a0 Z = true) (w7 : (Jvm.Cond.interfaceMethod xi.cls xi.cls xi.name xi.desc).before args s = true) (w5 : (Jvm.Cond.selects C xi y).before a0 Z = true) (w6 : (Jvm.Cond.instanceMethod y).before a0 Z = true) (w8 : (Jvm.Cond.publicMethod y).before a0 Z = true) (w9 : (Jvm.Cond.unhidden C xi.name xi.desc).before a0 Z = true) (w10 : (Jvm.Cond.castable C xi.cls).before a0 Z = true) (w4 : (Jvm.Cond.code y bytes maxL rt).before a0 Z = true) (w3 : (Jvm.Cond.initialized y.cls).before a0 Z = true)
    (hy : xi.cls ≠ "java/lang/invoke/MethodHandle" ∧ xi.cls ≠ "java/lang/invoke/VarHandle") {b : Addr} (E : Exa Z h b C) (hM : Con l y bytes maxL rt rm Z (.ref b :: argsL).toArray h Qc) (eT : T.heap = h) (hfr : rm.frames + 1 ≤ R.frames) (hlo : W + (maxL + 11) + rm.locals ≤ R.locals) (hce : cells + rm.cells ≤ R.cells) (hsl : slots + rm.slots ≤ R.slots)
    (hg : g.method = m) (hsize : g.locals.size = c.maxLocals) (hlen : ∀ sig, parseMethodDescriptor xi.desc = some sig → argsL.length = sig.parameters.length) (hstack : g.stack = argsL.reverse ++ .ref b :: rest) (hW : 2 * g.monitorRoom + (rest.map fun v => v.category).sum ≤ W) (hdg : decode c.code g.pc = .ok (.invokeinterface index count, 5))
    (k : ∀ v T' L, Stand p l e R s m args below meth c T' (locs ++ L) (cells + rm.cells) (slots + rm.slots) → Qc v T'.heap L → Run p e below s Q kc ks (T'.setTop { g with pc := g.pc + 5, stack := v.toList ++ rest })) : Run p e below s Q kc ks (T.setTop g) := by
  obtain ⟨cB, kB, qa, qb, qc⟩ := isOf hZ eT E
  obtain ⟨v, vm₁, ⟨T', L', c', n'⟩, -, X', ⟨L, hQ, l1, l2, l3⟩, st⟩ := X.interfaceBack hx hown (mvT hZ w1) (mvT hZ w2) w7 (mvT hZ w5) (mvT hZ w6) (mvT hZ w8) (mvT hZ w9) (mvT hZ w10) hy (hM.back (W := W) hZ w4 w3 hfr hlo) qa qb qc hg hsize (Steps.refl _) hlen hstack hW hdg (fun _ _ => ⟨rfl, eT, hce, hsl⟩)
  dsimp only [Pt.U, Pt.locs, Pt.cells, Pt.slots] at X' l1 l2 l3 st hQ
  subst l1 l2 l3
  exact Run.pre (fun _ q => st.trans q) (k v T' L X' hQ)
end Calls
/-! from the case's words to facts on the heap -/
theorem own_fldInt {args : Array Value} {t : Term} {C n d : String} {k : Int32} {a : Addr} (ht : t.eval args Z none [] Z = some (.ref a)) (h : (Jvm.Cond.eq (Term.field t C n d) (Term.int k)).value args Z none Z [] = some true) : Fld Z Z.heap a C n d (.int k) := by
  obtain ⟨x, y, e1, e2, -, k2⟩ := cmp_v (Or.inl h)
  have e3 : y = .int k := (Option.some.inj ((Term.int_eval k).symm.trans e2)).symm
  subst e3
  obtain ⟨z, rfl⟩ := k2
  have e4 := fld_at (C := C) (n := n) (dd := d) ht
  rw [e4] at e1
  have q : z = k := by
    have hh : (Jvm.Cond.eq (Term.field t C n d) (Term.int k)).value args Z none Z [] = some (decide (z = k)) := by simp [Jvm.Cond.value, e4, e1, e2]
    exact gotT hh h
  subst q
  exact Fld.start e1
theorem own_fldLong {args : Array Value} {t : Term} {C n d : String} {k : Int64} {a : Addr} (ht : t.eval args Z none [] Z = some (.ref a)) (h : (Jvm.Cond.eq (Term.field t C n d) (Term.long k)).value args Z none Z [] = some true) : Fld Z Z.heap a C n d (.long k) := by
  obtain ⟨x, y, e1, e2, -, k2⟩ := cmp_v (Or.inl h)
  have e3 : y = .long k := (Option.some.inj (show some (Value.long k) = some y from e2)).symm
  subst e3
  obtain ⟨z, rfl⟩ := k2
  have e4 := fld_at (C := C) (n := n) (dd := d) ht
  have q : z = k := gotT (eq_L e1 e2) h
  rw [e4] at e1
  subst q
  exact Fld.start e1
theorem own_len {args : Array Value} {t : Term} {n : Int32} {a : Addr} {cl : Cell} {ty : FieldType} (ht : t.eval args Z none [] Z = some (.ref a)) (A : Arr Z Z.heap a cl ty) (h : (Jvm.Cond.eq (Term.length t) (Term.int n)).value args Z none Z [] = some true) : cl.slots.size < 2 ^ 31 ∧ cl.slots.size.toInt32 = n := by
  obtain ⟨x, y, e1, e2, -, k2⟩ := cmp_v (Or.inl h)
  have ha : Z.arrayAt? a = some cl := A.fin (Vm.Alike.refl _)
  by_cases hl : cl.slots.size < 2 ^ 31
  · refine ⟨hl, ?_⟩
    have e3 := len_f ht ha hl
    have hh : (Jvm.Cond.eq (Term.length t) (Term.int n)).value args Z none Z [] = some (decide (cl.slots.size.toInt32 = n)) := by
      have e4 : (Term.int n).eval args Z none [] Z = some (.int n) := Term.int_eval n
      simp [Jvm.Cond.value, e3, e4]
    exact gotT hh h
  · exfalso
    simp [Term.eval, ht, ha, hl] at e1
theorem own_elem {args : Array Value} {t u : Term} {j : Int32} {a w : Addr} {cl : Cell} (ht : t.eval args Z none [] Z = some (.ref a)) (hu : u.eval args Z none [] Z = some (.ref w)) (hc : Z.heap[a]? = some cl) (h : (Jvm.Cond.eq (Term.elem t (Term.int j)) u).value args Z none Z [] = some true) : cl.slots[j.toNatClampNeg]? = some (.ref w) := by
  obtain ⟨x, y, e1, e2, k1, k2⟩ := cmp_v (Or.inl h)
  cases hu.symm.trans e2
  have q := gotT (eq_R e1 e2 k2.2 rfl) h
  subst q
  exact (elem_in e1 ht (Term.int_eval j) hc).2
theorem own_fldRef {args : Array Value} {t u : Term} {C n d : String} {a w : Addr} (ht : t.eval args Z none [] Z = some (.ref a)) (hu : u.eval args Z none [] Z = some (.ref w)) (h : (Jvm.Cond.eq (Term.field t C n d) u).value args Z none Z [] = some true) : Fld Z Z.heap a C n d (.ref w) := by
  obtain ⟨x, y, e1, e2, k1, k2⟩ := cmp_v (Or.inl h)
  cases hu.symm.trans e2
  have q := gotT (eq_R e1 e2 k2.2 rfl) h
  subst q
  rw [fld_at ht] at e1
  exact Fld.start e1
theorem own_fldNull {args : Array Value} {t : Term} {C n d : String} {a : Addr} (ht : t.eval args Z none [] Z = some (.ref a)) (h : (Jvm.Cond.eq (Term.field t C n d) Term.null).value args Z none Z [] = some true) : Fld Z Z.heap a C n d .null := by
  have e1 := null_v h
  rw [fld_at ht] at e1
  exact Fld.start e1
theorem own_fit {s : State} (hF : heapFits s = true) : Fit s := fun {y c} hc i hi => by
  obtain ⟨ha, rfl⟩ := Array.getElem?_eq_some_iff.mp hc
  have q := List.all_eq_true.mp ((Array.all_eq_true_iff_forall_mem.mp hF) _ (Array.getElem_mem ha)) i (List.mem_range.mpr hi)
  simpa [Array.getElem?_eq_getElem hi] using q
end Own
theorem d2_0 : decode prog_5_method_1_code 0 = .ok (.getstatic 10, 3) := by decide +kernel
theorem d2_3 : decode prog_5_method_1_code 3 = .ok (.invokevirtual 14, 3) := by decide +kernel
theorem d2_6 : decode prog_5_method_1_code 6 = .ok (.checkcast 15, 3) := by decide +kernel
theorem d2_9 : decode prog_5_method_1_code 9 = .ok (.areturn, 1) := by decide +kernel
theorem pn_2 : plainName "com/example/portcullis/portcullis/digest/DigestAlgorithm" = true := by first | (simp [plainName, overriddenIn]; done) | decide +kernel
set_option maxRecDepth 65536 in
set_option maxHeartbeats 40000000 in
theorem rm2 (l : Launch) (Z : State) (a0 : Array Value) (hw : ∀ d ∈ tables_1, d.before a0 Z = true) (vv : Addr) (kv : ClassId) (w0 : Addr) (w1 : Addr) (h0 : Heap) (n0 : Nat) (Z0 : n0 ≤ h0.size) (OL : Old Z n0 h0) (SV : Sta Z Z.heap "com/example/portcullis/portcullis/digest/DigestAlgorithm" "$VALUES" "[Lcom/example/portcullis/portcullis/digest/DigestAlgorithm;" (.ref vv)) (EV : Exa Z Z.heap vv "[Lcom/example/portcullis/portcullis/digest/DigestAlgorithm;") (AV : Arv Z Z.heap vv kv (.object "com/example/portcullis/portcullis/digest/DigestAlgorithm") 2 [(.ref w0), (.ref w1)] .null) :
    Con l (⟨"com/example/portcullis/portcullis/digest/DigestAlgorithm", "values", "()[Lcom/example/portcullis/portcullis/digest/DigestAlgorithm;"⟩ : MethodName) prog_5_method_1_code 0 (some (.array (.object "com/example/portcullis/portcullis/digest/DigestAlgorithm"))) ({ frames := 1, cells := 1, slots := 2, locals := 14 } : Room) Z #[] h0 (fun v h L => ∃ b : Addr, v = some (.ref b) ∧ Fr n0 L ∧ Keep h0 h [] ∧ h0.size ≤ b ∧ Arv Z h b kv (.object "com/example/portcullis/portcullis/digest/DigestAlgorithm") 2 [(.ref w0), (.ref w1)] .null) := by
  refine Con.mk (plainFor_of_name pn_2) (fun m => show entryFrame m #[] 0 = mkF m 0 #[] [] by first | (simp [entryFrame, mkF, argsToLocals, Value.category]; done) | rfl) ?_
  intro p e s m below meth c s₁ hx hby hml hown hnm hret hlk hZ X0 e0
  have N0 := Fr.nil n0
  show Run p e below s _ _ _ (s₁.setTop (mkF m 0 #[] []))
  obtain ⟨T1, X1, e1, st1⟩ := getS2 X0 hx hZ hown (host := "") (Or.inl (hw _ (List.mem_of_getElem? (i := 9) rfl))) Via.refl e0 (SV.ext OL.2) (g := (mkF m 0 #[] [])) rfl (hb hby d2_0)
  refine Run.pre st1 ?_
  show Run p e below s _ _ _ (T1.setTop (mkF m 3 #[] [(.ref vv)]))
  obtain ⟨T2, h2, X2, e2, E2, V2, A2, st2⟩ := cloneH X1 hx hZ hown (hw _ (List.mem_of_getElem? (i := 11) rfl)) (hw _ (List.mem_of_getElem? (i := 12) rfl)) (hw _ (List.mem_of_getElem? (i := 16) rfl)) (hw _ (List.mem_of_getElem? (i := 14) rfl)) (hw _ (List.mem_of_getElem? (i := 15) rfl)) (hw _ (List.mem_of_getElem? (i := 17) rfl)) e1 ((AV.ext OL.2)).arh (EV.ext OL.2) (g := (mkF m 3 #[] [(.ref vv)])) rfl (by rw [hml]; rfl) rfl (hb hby d2_3) (by decide) (W := 0) (cap := 2) (by show 2 * 0 + _ ≤ _; exact Nat.le_of_eq rfl) (by decide) (by decide) (by decide) (by decide)
  obtain ⟨b2, g2⟩ : ∃ z, z = h0.size := ⟨_, rfl⟩
  rw [← g2] at V2 A2 st2
  refine Run.pre st2 ?_
  have gn_b2 : n0 ≤ b2 := Nat.le_trans (Nat.le_trans Z0 (Keep.refl h0 []).1) (Nat.le_of_eq g2.symm)
  have sz_b2 : h0.size ≤ b2 := Nat.le_trans (Keep.refl h0 []).1 (Nat.le_of_eq g2.symm)
  have V_b2 : Arv Z h2 b2 kv (.object "com/example/portcullis/portcullis/digest/DigestAlgorithm") (2 : Int32) [(.ref w0), (.ref w1)] .null := V2
  have K2 : Keep h0 h2 [] := (Keep.refl h0 []).ext E2
  show Run p e below s _ _ _ (T2.setTop (mkF m 6 #[] [(.ref b2)]))
  obtain ⟨T3, X3, e3, st3⟩ := castY X2 hx hZ hown (hw _ (List.mem_of_getElem? (i := 20) rfl)) e2 (Ins.self A2) (g := (mkF m 6 #[] [(.ref b2)])) rfl rfl (hb hby d2_6)
  refine Run.pre st3 ?_
  show Run p e below s _ _ _ (T3.setTop (mkF m 9 #[] [(.ref b2)]))
  exact Run.retA X3 hx hret rfl rfl hlk (hb hby d2_9) (by first | (rw [e3]; exact ⟨b2, rfl, N0, K2, sz_b2, V_b2⟩) | exact ⟨b2, rfl, N0, K2, sz_b2, V_b2⟩) (by decide) (by decide)
theorem d4_0 : decode jdk_31_method_10_code 0 = .ok (.aload_n 0, 1) := by decide +kernel
theorem d4_1 : decode jdk_31_method_10_code 1 = .ok (.ifnonnull 11, 3) := by decide +kernel
theorem d4_12 : decode jdk_31_method_10_code 12 = .ok (.aload_n 0, 1) := by decide +kernel
theorem d4_13 : decode jdk_31_method_10_code 13 = .ok (.areturn, 1) := by decide +kernel
theorem pn_4 : plainName "java/util/Objects" = true := by first | (simp [plainName, overriddenIn]; done) | decide +kernel
set_option maxRecDepth 65536 in
set_option maxHeartbeats 40000000 in
theorem rm4 (l : Launch) (Z : State) (a0 : Array Value) (hw : ∀ d ∈ tables_1, d.before a0 Z = true) (xo : Addr) (h0 : Heap) (n0 : Nat) (Z0 : n0 ≤ h0.size) :
    Con l (⟨"java/util/Objects", "requireNonNull", "(Ljava/lang/Object;)Ljava/lang/Object;"⟩ : MethodName) jdk_31_method_10_code 1 (some (.object "java/lang/Object")) ({ frames := 0, cells := 0, slots := 0, locals := 0 } : Room) Z #[(.ref xo)] h0 (fun v h L => v = some (.ref xo) ∧ Fr n0 L ∧ h = h0) := by
  refine Con.mk (plainFor_of_name pn_4) (fun m => show entryFrame m #[(.ref xo)] 1 = mkF m 0 #[.val (.ref xo)] [] by first | (simp [entryFrame, mkF, argsToLocals, Value.category]; done) | rfl) ?_
  intro p e s m below meth c s₁ hx hby hml hown hnm hret hlk hZ X0 e0
  have N0 := Fr.nil n0
  show Run p e below s _ _ _ (s₁.setTop (mkF m 0 #[.val (.ref xo)] []))
  refine Run.pre (fun _ k => XS.aloadN X0.here hx rfl (hb hby d4_0) rfl rfl k) ?_
  show Run p e below s _ _ _ (s₁.setTop (mkF m 1 #[.val (.ref xo)] [(.ref xo)]))
  refine Run.pre (fun _ k => XS.ifnonnullYes X0.here hx rfl (pc0 := 1) (pc' := 12) rfl (hb hby d4_1) rfl (by decide) (by decide) k) ?_
  show Run p e below s _ _ _ (s₁.setTop (mkF m 12 #[.val (.ref xo)] []))
  refine Run.pre (fun _ k => XS.aloadN X0.here hx rfl (hb hby d4_12) rfl rfl k) ?_
  show Run p e below s _ _ _ (s₁.setTop (mkF m 13 #[.val (.ref xo)] [(.ref xo)]))
  exact Run.retA X0 hx hret rfl rfl hlk (hb hby d4_13) (by first | (rw [e0]; exact ⟨rfl, N0, rfl⟩) | exact ⟨rfl, N0, rfl⟩) (by decide) (by decide)
theorem d5_0 : decode jdk_32_method_2_code 0 = .ok (.aload_n 0, 1) := by decide +kernel
theorem d5_1 : decode jdk_32_method_2_code 1 = .ok (.invokespecial 7, 3) := by decide +kernel
theorem d5_4 : decode jdk_32_method_2_code 4 = .ok (.aload_n 0, 1) := by decide +kernel
theorem d5_5 : decode jdk_32_method_2_code 5 = .ok (.aload_n 1, 1) := by decide +kernel
theorem d5_6 : decode jdk_32_method_2_code 6 = .ok (.putfield 13, 3) := by decide +kernel
theorem d5_9 : decode jdk_32_method_2_code 9 = .ok (.return_, 1) := by decide +kernel
theorem pn_5 : plainName "java/util/Optional" = true := by first | (simp [plainName, overriddenIn]; done) | decide +kernel
set_option maxRecDepth 65536 in
set_option maxHeartbeats 40000000 in
theorem rm5 (l : Launch) (Z : State) (a0 : Array Value) (hw : ∀ d ∈ tables_1, d.before a0 Z = true) (a : Addr) (xo : Addr) (h0 : Heap) (n0 : Nat) (Z0 : n0 ≤ h0.size) (E_a : Exa Z h0 a "java/util/Optional") (FV : Fld Z h0 a "java/util/Optional" "value" "Ljava/lang/Object;" .null) (g_a : n0 ≤ a) :
    Con l (⟨"java/util/Optional", "<init>", "(Ljava/lang/Object;)V"⟩ : MethodName) jdk_32_method_2_code 2 none ({ frames := 1, cells := 0, slots := 0, locals := 12 } : Room) Z #[(.ref a), (.ref xo)] h0 (fun v h L => v = none ∧ Fr n0 L ∧ Keep h0 h [a] ∧ Fld Z h a "java/util/Optional" "value" "Ljava/lang/Object;" (.ref xo)) := by
  refine Con.mk (plainFor_of_name pn_5) (fun m => show entryFrame m #[(.ref a), (.ref xo)] 2 = mkF m 0 #[.val (.ref a), .val (.ref xo)] [] by first | (simp [entryFrame, mkF, argsToLocals, Value.category]; done) | rfl) ?_
  intro p e s m below meth c s₁ hx hby hml hown hnm hret hlk hZ X0 e0
  have N0 := Fr.nil n0
  show Run p e below s _ _ _ (s₁.setTop (mkF m 0 #[.val (.ref a), .val (.ref xo)] []))
  refine Run.pre (fun _ k => XS.aloadN X0.here hx rfl (hb hby d5_0) rfl rfl k) ?_
  show Run p e below s _ _ _ (s₁.setTop (mkF m 1 #[.val (.ref a), .val (.ref xo)] [(.ref a)]))
  obtain ⟨T4, X4, e4, st4⟩ := initO X0 hx hZ hown (hw _ (List.mem_of_getElem? (i := 38) rfl)) (hw _ (List.mem_of_getElem? (i := 39) rfl)) (hw _ (List.mem_of_getElem? (i := 40) rfl)) e0 (g := (mkF m 1 #[.val (.ref a), .val (.ref xo)] [(.ref a)])) rfl (by rw [hml]; rfl) rfl (hb hby d5_1) (by decide) (W := 0) (by show 2 * 0 + _ ≤ _; exact Nat.le_of_eq rfl) (by decide)
  refine Run.pre st4 ?_
  show Run p e below s _ _ _ (T4.setTop (mkF m 4 #[.val (.ref a), .val (.ref xo)] []))
  refine Run.pre (fun _ k => XS.aloadN X4.here hx rfl (hb hby d5_4) rfl rfl k) ?_
  show Run p e below s _ _ _ (T4.setTop (mkF m 5 #[.val (.ref a), .val (.ref xo)] [(.ref a)]))
  refine Run.pre (fun _ k => XS.aloadN X4.here hx rfl (hb hby d5_5) rfl rfl k) ?_
  show Run p e below s _ _ _ (T4.setTop (mkF m 6 #[.val (.ref a), .val (.ref xo)] [(.ref xo), (.ref a)]))
  obtain ⟨T5, h5, X5, e5, W5, st5⟩ := putF X4 hx hZ hown (host := "") (Or.inl (hw _ (List.mem_of_getElem? (i := 41) rfl))) Via.refl e4 FV E_a (Or.inr ⟨(hw _ (List.mem_of_getElem? (i := 42) rfl)), rfl, hnm⟩) (hw _ (List.mem_of_getElem? (i := 29) rfl)) (ty := (.object "java/lang/Object")) (by decide) rfl rfl (g := (mkF m 6 #[.val (.ref a), .val (.ref xo)] [(.ref xo), (.ref a)])) rfl rfl (hb hby d5_6)
  refine Run.pre st5 ?_
  have Fw5 := FV.same W5
  have K5 : Keep h0 h5 [a] := (Keep.refl h0 [a]).wr W5 (Or.inl (by simp))
  have N5 := Fr.snoc X5 N0 g_a
  show Run p e below s _ _ _ (T5.setTop (mkF m 9 #[.val (.ref a), .val (.ref xo)] []))
  exact Run.retV X5 hx hret hlk (hb hby d5_9) (by first | (rw [e5]; exact ⟨rfl, N5, K5, Fw5⟩) | exact ⟨rfl, N5, K5, Fw5⟩) (by decide) (by decide)
theorem d3_0 : decode jdk_32_method_3_code 0 = .ok (.new 2, 3) := by decide +kernel
theorem d3_3 : decode jdk_32_method_3_code 3 = .ok (.dup, 1) := by decide +kernel
theorem d3_4 : decode jdk_32_method_3_code 4 = .ok (.aload_n 0, 1) := by decide +kernel
theorem pd_0 : parseMethodDescriptor "(Ljava/lang/Object;)Ljava/lang/Object;" = some ⟨[(.object "java/lang/Object")], some (.object "java/lang/Object")⟩ := by decide +kernel
theorem d3_5 : decode jdk_32_method_3_code 5 = .ok (.invokestatic 17, 3) := by decide +kernel
theorem pd_1 : parseMethodDescriptor "(Ljava/lang/Object;)V" = some ⟨[(.object "java/lang/Object")], none⟩ := by decide +kernel
theorem d3_8 : decode jdk_32_method_3_code 8 = .ok (.invokespecial 23, 3) := by decide +kernel
theorem d3_11 : decode jdk_32_method_3_code 11 = .ok (.areturn, 1) := by decide +kernel
theorem pn_3 : plainName "java/util/Optional" = true := by first | (simp [plainName, overriddenIn]; done) | decide +kernel
set_option maxRecDepth 65536 in
set_option maxHeartbeats 40000000 in
theorem rm3 (l : Launch) (Z : State) (a0 : Array Value) (hw : ∀ d ∈ tables_1, d.before a0 Z = true) (xo : Addr) (h0 : Heap) (n0 : Nat) (Z0 : n0 ≤ h0.size) :
    Con l (⟨"java/util/Optional", "of", "(Ljava/lang/Object;)Ljava/util/Optional;"⟩ : MethodName) jdk_32_method_3_code 1 (some (.object "java/util/Optional")) ({ frames := 2, cells := 1, slots := 1, locals := 26 } : Room) Z #[(.ref xo)] h0 (fun v h L => ∃ b : Addr, v = some (.ref b) ∧ Fr n0 L ∧ Keep h0 h [] ∧ h0.size ≤ b ∧ Exa Z h b "java/util/Optional" ∧ Fld Z h b "java/util/Optional" "value" "Ljava/lang/Object;" (.ref xo)) := by
  refine Con.mk (plainFor_of_name pn_3) (fun m => show entryFrame m #[(.ref xo)] 1 = mkF m 0 #[.val (.ref xo)] [] by first | (simp [entryFrame, mkF, argsToLocals, Value.category]; done) | rfl) ?_
  intro p e s m below meth c s₁ hx hby hml hown hnm hret hlk hZ X0 e0
  have N0 := Fr.nil n0
  show Run p e below s _ _ _ (s₁.setTop (mkF m 0 #[.val (.ref xo)] []))
  obtain ⟨T6, h6, X6, e6, E6, A6, D6, -, st6⟩ := newO X0 hx hZ hown (hw _ (List.mem_of_getElem? (i := 28) rfl)) (hw _ (List.mem_of_getElem? (i := 29) rfl)) (hw _ (List.mem_of_getElem? (i := 26) rfl)) e0 (g := (mkF m 0 #[.val (.ref xo)] [])) rfl (hb hby d3_0) (by decide) (by decide)
  obtain ⟨b6, g6⟩ : ∃ z, z = h0.size := ⟨_, rfl⟩
  rw [← g6] at A6 D6 st6
  refine Run.pre st6 ?_
  have gn_b6 : n0 ≤ b6 := Nat.le_trans (Nat.le_trans Z0 (Keep.refl h0 []).1) (Nat.le_of_eq g6.symm)
  have sz_b6 : h0.size ≤ b6 := Nat.le_trans (Keep.refl h0 []).1 (Nat.le_of_eq g6.symm)
  have K6 : Keep h0 h6 [] := (Keep.refl h0 []).ext E6
  have F_value_b6 : Fld Z h6 b6 "java/util/Optional" "value" "Ljava/lang/Object;" .null := D6 (Or.inr (hw _ (List.mem_of_getElem? (i := 42) rfl))) (ty := (.object "java/lang/Object")) (by decide)
  show Run p e below s _ _ _ (T6.setTop (mkF m 3 #[.val (.ref xo)] [(.ref b6)]))
  refine Run.pre (fun _ k => XS.dup X6.here hx rfl (hb hby d3_3) rfl rfl k) ?_
  show Run p e below s _ _ _ (T6.setTop (mkF m 4 #[.val (.ref xo)] [(.ref b6), (.ref b6)]))
  refine Run.pre (fun _ k => XS.aloadN X6.here hx rfl (hb hby d3_4) rfl rfl k) ?_
  show Run p e below s _ _ _ (T6.setTop (mkF m 5 #[.val (.ref xo)] [(.ref xo), (.ref b6), (.ref b6)]))
  refine Run.callS X6 hx hZ (y := (⟨"java/util/Objects", "requireNonNull", "(Ljava/lang/Object;)Ljava/lang/Object;"⟩ : MethodName)) hown (hw _ (List.mem_of_getElem? (i := 30) rfl)) (hw _ (List.mem_of_getElem? (i := 31) rfl)) (hw _ (List.mem_of_getElem? (i := 32) rfl)) (hw _ (List.mem_of_getElem? (i := 33) rfl)) (by decide) (W := 2) (rm4 l Z a0 hw xo h6 n0 (Nat.le_trans Z0 K6.1)) e6 (by decide) (by decide) (by decide) (by decide) (g := (mkF m 5 #[.val (.ref xo)] [(.ref xo), (.ref b6), (.ref b6)])) rfl (by rw [hml]; rfl) (argsL := [(.ref xo)]) (rest := [(.ref b6), (.ref b6)]) (lenOf pd_0 rfl) rfl (by show 2 * 0 + _ ≤ _; exact Nat.le_of_eq rfl) (hb hby d3_5) ?_
  intro v7 T7 L7 X7 hQ7
  obtain ⟨rfl, Nq7, he7⟩ := hQ7
  have N7 := Fr.app N0 Nq7
  have e7 : T7.heap = h6 := he7
  show Run p e below s _ _ _ (T7.setTop (mkF m 8 #[.val (.ref xo)] [(.ref xo), (.ref b6), (.ref b6)]))
  refine Run.callI X7 hx hZ (y := (⟨"java/util/Optional", "<init>", "(Ljava/lang/Object;)V"⟩ : MethodName)) rfl hown (hw _ (List.mem_of_getElem? (i := 34) rfl)) (hw _ (List.mem_of_getElem? (i := 35) rfl)) (hw _ (List.mem_of_getElem? (i := 37) rfl)) (hw _ (List.mem_of_getElem? (i := 26) rfl)) (by decide) (a := b6) (W := 1) (rm5 l Z a0 hw b6 xo h6 n0 (Nat.le_trans Z0 K6.1) A6 F_value_b6 gn_b6) e7 (by decide) (by decide) (by decide) (by decide) (g := (mkF m 8 #[.val (.ref xo)] [(.ref xo), (.ref b6), (.ref b6)])) rfl (by rw [hml]; rfl) (argsL := [(.ref xo)]) (rest := [(.ref b6)]) (lenOf pd_1 rfl) rfl (by show 2 * 0 + _ ≤ _; exact Nat.le_of_eq rfl) (hb hby d3_8) ?_
  intro v8 T8 L8 X8 hQ8
  obtain ⟨rfl, Nq8, Kc8, fv8⟩ := hQ8
  have N8 := Fr.app N7 Nq8
  have K8 : Keep h0 T8.heap [] := K6.trans Kc8 (allS (Or.inr sz_b6) all0)
  show Run p e below s _ _ _ (T8.setTop (mkF m 11 #[.val (.ref xo)] [(.ref b6)]))
  have f9 := (A6.keep Kc8)
  exact Run.retA X8 hx hret rfl rfl hlk (hb hby d3_11) ⟨b6, rfl, N8, K8, sz_b6, f9, fv8⟩ (by decide) (by decide)
theorem d7_0 : decode jdk_32_method_15_code 0 = .ok (.aload_n 0, 1) := by decide +kernel
theorem d7_1 : decode jdk_32_method_15_code 1 = .ok (.getfield 13, 3) := by decide +kernel
theorem d7_4 : decode jdk_32_method_15_code 4 = .ok (.ifnull 10, 3) := by decide +kernel
theorem d7_7 : decode jdk_32_method_15_code 7 = .ok (.aload_n 0, 1) := by decide +kernel
theorem d7_8 : decode jdk_32_method_15_code 8 = .ok (.getfield 13, 3) := by decide +kernel
theorem d7_11 : decode jdk_32_method_15_code 11 = .ok (.goto 4, 3) := by decide +kernel
theorem d7_15 : decode jdk_32_method_15_code 15 = .ok (.areturn, 1) := by decide +kernel
theorem pn_7 : plainName "java/util/Optional" = true := by first | (simp [plainName, overriddenIn]; done) | decide +kernel
set_option maxRecDepth 65536 in
set_option maxHeartbeats 40000000 in
theorem rm7_v (l : Launch) (Z : State) (a0 : Array Value) (hw : ∀ d ∈ tables_1, d.before a0 Z = true) (a : Addr) (xo : Addr) (h0 : Heap) (n0 : Nat) (Z0 : n0 ≤ h0.size) (FV : Fld Z h0 a "java/util/Optional" "value" "Ljava/lang/Object;" (.ref xo)) :
    Con l (⟨"java/util/Optional", "orElse", "(Ljava/lang/Object;)Ljava/lang/Object;"⟩ : MethodName) jdk_32_method_15_code 2 (some (.object "java/lang/Object")) ({ frames := 0, cells := 0, slots := 0, locals := 0 } : Room) Z #[(.ref a), .null] h0 (fun v h L => v = some (.ref xo) ∧ Fr n0 L ∧ h = h0) := by
  refine Con.mk (plainFor_of_name pn_7) (fun m => show entryFrame m #[(.ref a), .null] 2 = mkF m 0 #[.val (.ref a), .val .null] [] by first | (simp [entryFrame, mkF, argsToLocals, Value.category]; done) | rfl) ?_
  intro p e s m below meth c s₁ hx hby hml hown hnm hret hlk hZ X0 e0
  have N0 := Fr.nil n0
  show Run p e below s _ _ _ (s₁.setTop (mkF m 0 #[.val (.ref a), .val .null] []))
  refine Run.pre (fun _ k => XS.aloadN X0.here hx rfl (hb hby d7_0) rfl rfl k) ?_
  show Run p e below s _ _ _ (s₁.setTop (mkF m 1 #[.val (.ref a), .val .null] [(.ref a)]))
  obtain ⟨T10, X10, e10, st10⟩ := getF X0 hx hZ hown (host := "") (Or.inl (hw _ (List.mem_of_getElem? (i := 41) rfl))) Via.refl e0 FV (g := (mkF m 1 #[.val (.ref a), .val .null] [(.ref a)])) rfl rfl (hb hby d7_1)
  refine Run.pre st10 ?_
  show Run p e below s _ _ _ (T10.setTop (mkF m 4 #[.val (.ref a), .val .null] [(.ref xo)]))
  refine Run.pre (fun _ k => XS.ifnullNo X10.here hx rfl (hb hby d7_4) rfl k) ?_
  show Run p e below s _ _ _ (T10.setTop (mkF m 7 #[.val (.ref a), .val .null] []))
  refine Run.pre (fun _ k => XS.aloadN X10.here hx rfl (hb hby d7_7) rfl rfl k) ?_
  show Run p e below s _ _ _ (T10.setTop (mkF m 8 #[.val (.ref a), .val .null] [(.ref a)]))
  obtain ⟨T11, X11, e11, st11⟩ := getF X10 hx hZ hown (host := "") (Or.inl (hw _ (List.mem_of_getElem? (i := 41) rfl))) Via.refl e10 FV (g := (mkF m 8 #[.val (.ref a), .val .null] [(.ref a)])) rfl rfl (hb hby d7_8)
  refine Run.pre st11 ?_
  show Run p e below s _ _ _ (T11.setTop (mkF m 11 #[.val (.ref a), .val .null] [(.ref xo)]))
  refine Run.pre (fun _ k => XS.goto X11.here hx rfl (pc0 := 11) (pc' := 15) rfl (hb hby d7_11) (by decide) (by decide) k) ?_
  show Run p e below s _ _ _ (T11.setTop (mkF m 15 #[.val (.ref a), .val .null] [(.ref xo)]))
  exact Run.retA X11 hx hret rfl rfl hlk (hb hby d7_15) (by first | (rw [e11]; exact ⟨rfl, N0, rfl⟩) | exact ⟨rfl, N0, rfl⟩) (by decide) (by decide)
theorem d7_14 : decode jdk_32_method_15_code 14 = .ok (.aload_n 1, 1) := by decide +kernel
set_option maxRecDepth 65536 in
set_option maxHeartbeats 40000000 in
theorem rm7_n (l : Launch) (Z : State) (a0 : Array Value) (hw : ∀ d ∈ tables_1, d.before a0 Z = true) (a : Addr) (h0 : Heap) (n0 : Nat) (Z0 : n0 ≤ h0.size) (FV : Fld Z h0 a "java/util/Optional" "value" "Ljava/lang/Object;" .null) :
    Con l (⟨"java/util/Optional", "orElse", "(Ljava/lang/Object;)Ljava/lang/Object;"⟩ : MethodName) jdk_32_method_15_code 2 (some (.object "java/lang/Object")) ({ frames := 0, cells := 0, slots := 0, locals := 0 } : Room) Z #[(.ref a), .null] h0 (fun v h L => v = some .null ∧ Fr n0 L ∧ h = h0) := by
  refine Con.mk (plainFor_of_name pn_7) (fun m => show entryFrame m #[(.ref a), .null] 2 = mkF m 0 #[.val (.ref a), .val .null] [] by first | (simp [entryFrame, mkF, argsToLocals, Value.category]; done) | rfl) ?_
  intro p e s m below meth c s₁ hx hby hml hown hnm hret hlk hZ X0 e0
  have N0 := Fr.nil n0
  show Run p e below s _ _ _ (s₁.setTop (mkF m 0 #[.val (.ref a), .val .null] []))
  refine Run.pre (fun _ k => XS.aloadN X0.here hx rfl (hb hby d7_0) rfl rfl k) ?_
  show Run p e below s _ _ _ (s₁.setTop (mkF m 1 #[.val (.ref a), .val .null] [(.ref a)]))
  obtain ⟨T12, X12, e12, st12⟩ := getF X0 hx hZ hown (host := "") (Or.inl (hw _ (List.mem_of_getElem? (i := 41) rfl))) Via.refl e0 FV (g := (mkF m 1 #[.val (.ref a), .val .null] [(.ref a)])) rfl rfl (hb hby d7_1)
  refine Run.pre st12 ?_
  show Run p e below s _ _ _ (T12.setTop (mkF m 4 #[.val (.ref a), .val .null] [.null]))
  refine Run.pre (fun _ k => XS.ifnullYes X12.here hx rfl (pc0 := 4) (pc' := 14) rfl (hb hby d7_4) rfl (by decide) (by decide) k) ?_
  show Run p e below s _ _ _ (T12.setTop (mkF m 14 #[.val (.ref a), .val .null] []))
  refine Run.pre (fun _ k => XS.aloadN X12.here hx rfl (hb hby d7_14) rfl rfl k) ?_
  show Run p e below s _ _ _ (T12.setTop (mkF m 15 #[.val (.ref a), .val .null] [.null]))
  exact Run.retA X12 hx hret rfl rfl hlk (hb hby d7_15) (by first | (rw [e12]; exact ⟨rfl, N0, rfl⟩) | exact ⟨rfl, N0, rfl⟩) (by decide) (by decide)
theorem d8_0 : decode jdk_32_method_1_code 0 = .ok (.getstatic 1, 3) := by decide +kernel
theorem d8_3 : decode jdk_32_method_1_code 3 = .ok (.astore_n 0, 1) := by decide +kernel
theorem d8_4 : decode jdk_32_method_1_code 4 = .ok (.aload_n 0, 1) := by decide +kernel
theorem d8_5 : decode jdk_32_method_1_code 5 = .ok (.areturn, 1) := by decide +kernel
theorem pn_8 : plainName "java/util/Optional" = true := by first | (simp [plainName, overriddenIn]; done) | decide +kernel
set_option maxRecDepth 65536 in
set_option maxHeartbeats 40000000 in
theorem rm8 (l : Launch) (Z : State) (a0 : Array Value) (hw : ∀ d ∈ tables_1, d.before a0 Z = true) (we : Addr) (h0 : Heap) (n0 : Nat) (Z0 : n0 ≤ h0.size) (OL : Old Z n0 h0) (SE : Sta Z Z.heap "java/util/Optional" "EMPTY" "Ljava/util/Optional;" (.ref we)) :
    Con l (⟨"java/util/Optional", "empty", "()Ljava/util/Optional;"⟩ : MethodName) jdk_32_method_1_code 1 (some (.object "java/util/Optional")) ({ frames := 0, cells := 0, slots := 0, locals := 0 } : Room) Z #[] h0 (fun v h L => v = some (.ref we) ∧ Fr n0 L ∧ h = h0) := by
  refine Con.mk (plainFor_of_name pn_8) (fun m => show entryFrame m #[] 1 = mkF m 0 #[.unset] [] by first | (simp [entryFrame, mkF, argsToLocals, Value.category]; done) | rfl) ?_
  intro p e s m below meth c s₁ hx hby hml hown hnm hret hlk hZ X0 e0
  have N0 := Fr.nil n0
  show Run p e below s _ _ _ (s₁.setTop (mkF m 0 #[.unset] []))
  obtain ⟨T13, X13, e13, st13⟩ := getS2 X0 hx hZ hown (host := "") (Or.inl (hw _ (List.mem_of_getElem? (i := 53) rfl))) Via.refl e0 (SE.ext OL.2) (g := (mkF m 0 #[.unset] [])) rfl (hb hby d8_0)
  refine Run.pre st13 ?_
  show Run p e below s _ _ _ (T13.setTop (mkF m 3 #[.unset] [(.ref we)]))
  refine Run.pre (fun _ k => XS.astoreN X13.here hx rfl (hb hby d8_3) rfl rfl (l' := #[.val (.ref we)]) rfl k) ?_
  show Run p e below s _ _ _ (T13.setTop (mkF m 4 #[.val (.ref we)] []))
  refine Run.pre (fun _ k => XS.aloadN X13.here hx rfl (hb hby d8_4) rfl rfl k) ?_
  show Run p e below s _ _ _ (T13.setTop (mkF m 5 #[.val (.ref we)] [(.ref we)]))
  exact Run.retA X13 hx hret rfl rfl hlk (hb hby d8_5) (by first | (rw [e13]; exact ⟨rfl, N0, rfl⟩) | exact ⟨rfl, N0, rfl⟩) (by decide) (by decide)
theorem pd_2 : parseMethodDescriptor "()[Lcom/example/portcullis/portcullis/digest/DigestAlgorithm;" = some ⟨[], some (.array (.object "com/example/portcullis/portcullis/digest/DigestAlgorithm"))⟩ := by decide +kernel
theorem d1_0 : decode prog_5_method_6_code 0 = .ok (.invokestatic 37, 3) := by decide +kernel
theorem d1_3 : decode prog_5_method_6_code 3 = .ok (.astore_n 1, 1) := by decide +kernel
theorem d1_4 : decode prog_5_method_6_code 4 = .ok (.aload_n 1, 1) := by decide +kernel
theorem d1_5 : decode prog_5_method_6_code 5 = .ok (.arraylength, 1) := by decide +kernel
theorem d1_6 : decode prog_5_method_6_code 6 = .ok (.istore_n 2, 1) := by decide +kernel
theorem d1_7 : decode prog_5_method_6_code 7 = .ok (.iconst 0, 1) := by decide +kernel
theorem d1_8 : decode prog_5_method_6_code 8 = .ok (.istore_n 3, 1) := by decide +kernel
theorem d1_9 : decode prog_5_method_6_code 9 = .ok (.iload_n 3, 1) := by decide +kernel
theorem d1_10 : decode prog_5_method_6_code 10 = .ok (.iload_n 2, 1) := by decide +kernel
theorem d1_11 : decode prog_5_method_6_code 11 = .ok (.if_icmp .ge 31, 3) := by decide +kernel
theorem d1_14 : decode prog_5_method_6_code 14 = .ok (.aload_n 1, 1) := by decide +kernel
theorem d1_15 : decode prog_5_method_6_code 15 = .ok (.iload_n 3, 1) := by decide +kernel
theorem d1_16 : decode prog_5_method_6_code 16 = .ok (.aaload, 1) := by decide +kernel
theorem d1_17 : decode prog_5_method_6_code 17 = .ok (.astore 4, 2) := by decide +kernel
theorem d1_19 : decode prog_5_method_6_code 19 = .ok (.aload 4, 2) := by decide +kernel
theorem d1_21 : decode prog_5_method_6_code 21 = .ok (.getfield 33, 3) := by decide +kernel
theorem d1_24 : decode prog_5_method_6_code 24 = .ok (.iconst 2, 1) := by decide +kernel
theorem d1_25 : decode prog_5_method_6_code 25 = .ok (.imul, 1) := by decide +kernel
theorem d1_26 : decode prog_5_method_6_code 26 = .ok (.iload_n 0, 1) := by decide +kernel
theorem d1_27 : decode prog_5_method_6_code 27 = .ok (.if_icmp .ne 9, 3) := by decide +kernel
theorem d1_30 : decode prog_5_method_6_code 30 = .ok (.aload 4, 2) := by decide +kernel
theorem pd_3 : parseMethodDescriptor "(Ljava/lang/Object;)Ljava/util/Optional;" = some ⟨[(.object "java/lang/Object")], some (.object "java/util/Optional")⟩ := by decide +kernel
theorem d1_32 : decode prog_5_method_6_code 32 = .ok (.invokestatic 47, 3) := by decide +kernel
theorem d1_35 : decode prog_5_method_6_code 35 = .ok (.areturn, 1) := by decide +kernel
theorem pn_1 : plainName "com/example/portcullis/portcullis/digest/DigestAlgorithm" = true := by first | (simp [plainName, overriddenIn]; done) | decide +kernel
set_option maxRecDepth 65536 in
set_option maxHeartbeats 40000000 in
theorem rm1_a (l : Launch) (Z : State) (a0 : Array Value) (hw : ∀ d ∈ tables_1, d.before a0 Z = true) (d : Int32) (vv : Addr) (kv : ClassId) (w0 : Addr) (w1 : Addr) (we : Addr) (h0 : Heap) (n0 : Nat) (Z0 : n0 ≤ h0.size) (OL : Old Z n0 h0) (SV : Sta Z Z.heap "com/example/portcullis/portcullis/digest/DigestAlgorithm" "$VALUES" "[Lcom/example/portcullis/portcullis/digest/DigestAlgorithm;" (.ref vv)) (EV : Exa Z Z.heap vv "[Lcom/example/portcullis/portcullis/digest/DigestAlgorithm;") (AV : Arv Z Z.heap vv kv (.object "com/example/portcullis/portcullis/digest/DigestAlgorithm") 2 [(.ref w0), (.ref w1)] .null) (SE : Sta Z Z.heap "java/util/Optional" "EMPTY" "Ljava/util/Optional;" (.ref we)) (EE : Exa Z Z.heap we "java/util/Optional") (FE : Fld Z Z.heap we "java/util/Optional" "value" "Ljava/lang/Object;" .null) (L0 : Fld Z Z.heap w0 "com/example/portcullis/portcullis/digest/DigestAlgorithm" "length" "I" (.int 16)) (L1 : Fld Z Z.heap w1 "com/example/portcullis/portcullis/digest/DigestAlgorithm" "length" "I" (.int 32)) (hd : d = 32) :
    Con l (⟨"com/example/portcullis/portcullis/digest/DigestAlgorithm", "fromHexLength", "(I)Ljava/util/Optional;"⟩ : MethodName) prog_5_method_6_code 5 (some (.object "java/util/Optional")) ({ frames := 3, cells := 2, slots := 3, locals := 38 } : Room) Z #[(.int d)] h0 (fun v h L => ∃ b : Addr, v = some (.ref b) ∧ Fr n0 L ∧ Keep h0 h [] ∧ Exa Z h b "java/util/Optional" ∧ Fld Z h b "java/util/Optional" "value" "Ljava/lang/Object;" (.ref w0)) := by
  refine Con.mk (plainFor_of_name pn_1) (fun m => show entryFrame m #[(.int d)] 5 = mkF m 0 #[.val (.int d), .unset, .unset, .unset, .unset] [] by first | (simp [entryFrame, mkF, argsToLocals, Value.category]; done) | rfl) ?_
  intro p e s m below meth c s₁ hx hby hml hown hnm hret hlk hZ X0 e0
  have N0 := Fr.nil n0
  show Run p e below s _ _ _ (s₁.setTop (mkF m 0 #[.val (.int d), .unset, .unset, .unset, .unset] []))
  refine Run.callS X0 hx hZ (y := (⟨"com/example/portcullis/portcullis/digest/DigestAlgorithm", "values", "()[Lcom/example/portcullis/portcullis/digest/DigestAlgorithm;"⟩ : MethodName)) hown (hw _ (List.mem_of_getElem? (i := 6) rfl)) (hw _ (List.mem_of_getElem? (i := 7) rfl)) (hw _ (List.mem_of_getElem? (i := 1) rfl)) (hw _ (List.mem_of_getElem? (i := 8) rfl)) (by decide) (W := 0) (rm2 l Z a0 hw vv kv w0 w1 h0 n0 (Nat.le_trans Z0 (Keep.refl h0 []).1) OL SV EV AV) e0 (by decide) (by decide) (by decide) (by decide) (g := (mkF m 0 #[.val (.int d), .unset, .unset, .unset, .unset] [])) rfl (by rw [hml]; rfl) (argsL := []) (rest := []) (lenOf pd_2 rfl) rfl (by show 2 * 0 + _ ≤ _; exact Nat.le_of_eq rfl) (hb hby d1_0) ?_
  intro v14 T14 L14 X14 hQ14
  obtain ⟨b14, rfl, Nq14, Kc14, sz14, vb14⟩ := hQ14
  have N14 := Fr.app N0 Nq14
  have K14 : Keep h0 T14.heap [] := (Keep.refl h0 []).trans Kc14 all0
  have sz_b14 : h0.size ≤ b14 := Nat.le_trans (Keep.refl h0 []).1 sz14
  have gn_b14 : n0 ≤ b14 := Nat.le_trans Z0 sz_b14
  show Run p e below s _ _ _ (T14.setTop (mkF m 3 #[.val (.int d), .unset, .unset, .unset, .unset] [(.ref b14)]))
  refine Run.pre (fun _ k => XS.astoreN X14.here hx rfl (hb hby d1_3) rfl rfl (l' := #[.val (.int d), .val (.ref b14), .unset, .unset, .unset]) rfl k) ?_
  show Run p e below s _ _ _ (T14.setTop (mkF m 4 #[.val (.int d), .val (.ref b14), .unset, .unset, .unset] []))
  refine Run.pre (fun _ k => XS.aloadN X14.here hx rfl (hb hby d1_4) rfl rfl k) ?_
  show Run p e below s _ _ _ (T14.setTop (mkF m 5 #[.val (.int d), .val (.ref b14), .unset, .unset, .unset] [(.ref b14)]))
  obtain ⟨c15, Ar15, -, S15, N15, -, -⟩ := id vb14
  refine Run.pre (X14.arraylength hx Ar15.1 (State.isArrayOf_alike hZ.alike Ar15.2.1) (g := (mkF m 5 #[.val (.int d), .val (.ref b14), .unset, .unset, .unset] [(.ref b14)])) rfl rfl (hb hby d1_5)) ?_
  rw [len_of S15 N15]
  show Run p e below s _ _ _ (T14.setTop (mkF m 6 #[.val (.int d), .val (.ref b14), .unset, .unset, .unset] [(.int (2 : Int32))]))
  refine Run.pre (fun _ k => XS.istoreN X14.here hx rfl (hb hby d1_6) rfl (l' := #[.val (.int d), .val (.ref b14), .val (.int (2 : Int32)), .unset, .unset]) rfl k) ?_
  show Run p e below s _ _ _ (T14.setTop (mkF m 7 #[.val (.int d), .val (.ref b14), .val (.int (2 : Int32)), .unset, .unset] []))
  refine Run.pre (fun _ k => XS.iconst X14.here hx rfl (hb hby d1_7) k) ?_
  show Run p e below s _ _ _ (T14.setTop (mkF m 8 #[.val (.int d), .val (.ref b14), .val (.int (2 : Int32)), .unset, .unset] [(.int (0 : Int32))]))
  refine Run.pre (fun _ k => XS.istoreN X14.here hx rfl (hb hby d1_8) rfl (l' := #[.val (.int d), .val (.ref b14), .val (.int (2 : Int32)), .val (.int (0 : Int32)), .unset]) rfl k) ?_
  show Run p e below s _ _ _ (T14.setTop (mkF m 9 #[.val (.int d), .val (.ref b14), .val (.int (2 : Int32)), .val (.int (0 : Int32)), .unset] []))
  refine Run.pre (fun _ k => XS.iloadN X14.here hx rfl (hb hby d1_9) rfl  k) ?_
  show Run p e below s _ _ _ (T14.setTop (mkF m 10 #[.val (.int d), .val (.ref b14), .val (.int (2 : Int32)), .val (.int (0 : Int32)), .unset] [(.int (0 : Int32))]))
  refine Run.pre (fun _ k => XS.iloadN X14.here hx rfl (hb hby d1_10) rfl  k) ?_
  show Run p e below s _ _ _ (T14.setTop (mkF m 11 #[.val (.int d), .val (.ref b14), .val (.int (2 : Int32)), .val (.int (0 : Int32)), .unset] [(.int (2 : Int32)), (.int (0 : Int32))]))
  refine Run.pre (fun _ k => XS.icmpNo X14.here hx rfl (hb hby d1_11) rfl (tlt ((by decide) : (0 : Int32) < (2 : Int32))).2.1 k) ?_
  show Run p e below s _ _ _ (T14.setTop (mkF m 14 #[.val (.int d), .val (.ref b14), .val (.int (2 : Int32)), .val (.int (0 : Int32)), .unset] []))
  refine Run.pre (fun _ k => XS.aloadN X14.here hx rfl (hb hby d1_14) rfl rfl k) ?_
  show Run p e below s _ _ _ (T14.setTop (mkF m 15 #[.val (.int d), .val (.ref b14), .val (.int (2 : Int32)), .val (.int (0 : Int32)), .unset] [(.ref b14)]))
  refine Run.pre (fun _ k => XS.iloadN X14.here hx rfl (hb hby d1_15) rfl  k) ?_
  show Run p e below s _ _ _ (T14.setTop (mkF m 16 #[.val (.int d), .val (.ref b14), .val (.int (2 : Int32)), .val (.int (0 : Int32)), .unset] [(.int (0 : Int32)), (.ref b14)]))
  obtain ⟨c16, Ar16, -, S16, N16, H16, -⟩ := id vb14
  have hin16 : ¬ ((0 : Int32) < 0 ∨ c16.slots.size ≤ ((0 : Int32)).toNatClampNeg) := inb_of S16 ⟨by decide, by decide⟩
  refine Run.pre (X14.aaload hx (j := (0 : Int32)) (v := (.ref w0)) Ar16.1 (State.isArrayOf_alike hZ.alike Ar16.2.1) rfl Ar16.2.2 hin16 (H16.at hin16 rfl) (g := (mkF m 16 #[.val (.int d), .val (.ref b14), .val (.int (2 : Int32)), .val (.int (0 : Int32)), .unset] [(.int (0 : Int32)), (.ref b14)])) rfl rfl (hb hby d1_16)) ?_
  show Run p e below s _ _ _ (T14.setTop (mkF m 17 #[.val (.int d), .val (.ref b14), .val (.int (2 : Int32)), .val (.int (0 : Int32)), .unset] [(.ref w0)]))
  refine Run.pre (fun _ k => XS.astore X14.here hx rfl (hb hby d1_17) rfl rfl (l' := #[.val (.int d), .val (.ref b14), .val (.int (2 : Int32)), .val (.int (0 : Int32)), .val (.ref w0)]) rfl k) ?_
  show Run p e below s _ _ _ (T14.setTop (mkF m 19 #[.val (.int d), .val (.ref b14), .val (.int (2 : Int32)), .val (.int (0 : Int32)), .val (.ref w0)] []))
  refine Run.pre (fun _ k => XS.aload X14.here hx rfl (hb hby d1_19) rfl rfl k) ?_
  show Run p e below s _ _ _ (T14.setTop (mkF m 21 #[.val (.int d), .val (.ref b14), .val (.int (2 : Int32)), .val (.int (0 : Int32)), .val (.ref w0)] [(.ref w0)]))
  have f17 := (OL.keep Kc14 all0)
  obtain ⟨T18, X18, e18, st18⟩ := getF X14 hx hZ hown (host := "") (Or.inl (hw _ (List.mem_of_getElem? (i := 22) rfl))) Via.refl rfl (L0.ext f17.2) (g := (mkF m 21 #[.val (.int d), .val (.ref b14), .val (.int (2 : Int32)), .val (.int (0 : Int32)), .val (.ref w0)] [(.ref w0)])) rfl rfl (hb hby d1_21)
  refine Run.pre st18 ?_
  show Run p e below s _ _ _ (T18.setTop (mkF m 24 #[.val (.int d), .val (.ref b14), .val (.int (2 : Int32)), .val (.int (0 : Int32)), .val (.ref w0)] [(.int (16 : Int32))]))
  refine Run.pre (fun _ k => XS.iconst X18.here hx rfl (hb hby d1_24) k) ?_
  show Run p e below s _ _ _ (T18.setTop (mkF m 25 #[.val (.int d), .val (.ref b14), .val (.int (2 : Int32)), .val (.int (0 : Int32)), .val (.ref w0)] [(.int (2 : Int32)), (.int (16 : Int32))]))
  refine Run.pre (fun _ k => XS.imul X18.here hx rfl (hb hby d1_25) rfl k) ?_
  show Run p e below s _ _ _ (T18.setTop (mkF m 26 #[.val (.int d), .val (.ref b14), .val (.int (2 : Int32)), .val (.int (0 : Int32)), .val (.ref w0)] [(.int (32 : Int32))]))
  refine Run.pre (fun _ k => XS.iloadN X18.here hx rfl (hb hby d1_26) rfl  k) ?_
  show Run p e below s _ _ _ (T18.setTop (mkF m 27 #[.val (.int d), .val (.ref b14), .val (.int (2 : Int32)), .val (.int (0 : Int32)), .val (.ref w0)] [(.int d), (.int (32 : Int32))]))
  refine Run.pre (fun _ k => XS.icmpNo X18.here hx rfl (hb hby d1_27) rfl (teq (hd.symm : (32 : Int32) = d)).2 k) ?_
  show Run p e below s _ _ _ (T18.setTop (mkF m 30 #[.val (.int d), .val (.ref b14), .val (.int (2 : Int32)), .val (.int (0 : Int32)), .val (.ref w0)] []))
  refine Run.pre (fun _ k => XS.aload X18.here hx rfl (hb hby d1_30) rfl rfl k) ?_
  show Run p e below s _ _ _ (T18.setTop (mkF m 32 #[.val (.int d), .val (.ref b14), .val (.int (2 : Int32)), .val (.int (0 : Int32)), .val (.ref w0)] [(.ref w0)]))
  refine Run.callS X18 hx hZ (y := (⟨"java/util/Optional", "of", "(Ljava/lang/Object;)Ljava/util/Optional;"⟩ : MethodName)) hown (hw _ (List.mem_of_getElem? (i := 24) rfl)) (hw _ (List.mem_of_getElem? (i := 25) rfl)) (hw _ (List.mem_of_getElem? (i := 26) rfl)) (hw _ (List.mem_of_getElem? (i := 27) rfl)) (by decide) (W := 0) (rm3 l Z a0 hw w0 T14.heap n0 (Nat.le_trans Z0 K14.1)) e18 (by decide) (by decide) (by decide) (by decide) (g := (mkF m 32 #[.val (.int d), .val (.ref b14), .val (.int (2 : Int32)), .val (.int (0 : Int32)), .val (.ref w0)] [(.ref w0)])) rfl (by rw [hml]; rfl) (argsL := [(.ref w0)]) (rest := []) (lenOf pd_3 rfl) rfl (by show 2 * 0 + _ ≤ _; exact Nat.le_of_eq rfl) (hb hby d1_32) ?_
  intro v19 T19 L19 X19 hQ19
  obtain ⟨b19, rfl, Nq19, Kc19, sz19, eb19, fv19⟩ := hQ19
  have N19 := Fr.app N14 Nq19
  have K19 : Keep h0 T19.heap [] := K14.trans Kc19 all0
  have sz_b19 : h0.size ≤ b19 := Nat.le_trans K14.1 sz19
  have gn_b19 : n0 ≤ b19 := Nat.le_trans Z0 sz_b19
  show Run p e below s _ _ _ (T19.setTop (mkF m 35 #[.val (.int d), .val (.ref b14), .val (.int (2 : Int32)), .val (.int (0 : Int32)), .val (.ref w0)] [(.ref b19)]))
  exact Run.retA X19 hx hret rfl rfl hlk (hb hby d1_35) ⟨b19, rfl, N19, K19, eb19, fv19⟩ (by decide) (by decide)
theorem d1_36 : decode prog_5_method_6_code 36 = .ok (.iinc 3 1, 3) := by decide +kernel
theorem d1_39 : decode prog_5_method_6_code 39 = .ok (.goto (-30), 3) := by decide +kernel
set_option maxRecDepth 65536 in
set_option maxHeartbeats 40000000 in
theorem rm1_b (l : Launch) (Z : State) (a0 : Array Value) (hw : ∀ d ∈ tables_1, d.before a0 Z = true) (d : Int32) (vv : Addr) (kv : ClassId) (w0 : Addr) (w1 : Addr) (we : Addr) (h0 : Heap) (n0 : Nat) (Z0 : n0 ≤ h0.size) (OL : Old Z n0 h0) (SV : Sta Z Z.heap "com/example/portcullis/portcullis/digest/DigestAlgorithm" "$VALUES" "[Lcom/example/portcullis/portcullis/digest/DigestAlgorithm;" (.ref vv)) (EV : Exa Z Z.heap vv "[Lcom/example/portcullis/portcullis/digest/DigestAlgorithm;") (AV : Arv Z Z.heap vv kv (.object "com/example/portcullis/portcullis/digest/DigestAlgorithm") 2 [(.ref w0), (.ref w1)] .null) (SE : Sta Z Z.heap "java/util/Optional" "EMPTY" "Ljava/util/Optional;" (.ref we)) (EE : Exa Z Z.heap we "java/util/Optional") (FE : Fld Z Z.heap we "java/util/Optional" "value" "Ljava/lang/Object;" .null) (L0 : Fld Z Z.heap w0 "com/example/portcullis/portcullis/digest/DigestAlgorithm" "length" "I" (.int 16)) (L1 : Fld Z Z.heap w1 "com/example/portcullis/portcullis/digest/DigestAlgorithm" "length" "I" (.int 32)) (hd : d = 64) :
    Con l (⟨"com/example/portcullis/portcullis/digest/DigestAlgorithm", "fromHexLength", "(I)Ljava/util/Optional;"⟩ : MethodName) prog_5_method_6_code 5 (some (.object "java/util/Optional")) ({ frames := 3, cells := 2, slots := 3, locals := 38 } : Room) Z #[(.int d)] h0 (fun v h L => ∃ b : Addr, v = some (.ref b) ∧ Fr n0 L ∧ Keep h0 h [] ∧ Exa Z h b "java/util/Optional" ∧ Fld Z h b "java/util/Optional" "value" "Ljava/lang/Object;" (.ref w1)) := by
  refine Con.mk (plainFor_of_name pn_1) (fun m => show entryFrame m #[(.int d)] 5 = mkF m 0 #[.val (.int d), .unset, .unset, .unset, .unset] [] by first | (simp [entryFrame, mkF, argsToLocals, Value.category]; done) | rfl) ?_
  intro p e s m below meth c s₁ hx hby hml hown hnm hret hlk hZ X0 e0
  have N0 := Fr.nil n0
  show Run p e below s _ _ _ (s₁.setTop (mkF m 0 #[.val (.int d), .unset, .unset, .unset, .unset] []))
  refine Run.callS X0 hx hZ (y := (⟨"com/example/portcullis/portcullis/digest/DigestAlgorithm", "values", "()[Lcom/example/portcullis/portcullis/digest/DigestAlgorithm;"⟩ : MethodName)) hown (hw _ (List.mem_of_getElem? (i := 6) rfl)) (hw _ (List.mem_of_getElem? (i := 7) rfl)) (hw _ (List.mem_of_getElem? (i := 1) rfl)) (hw _ (List.mem_of_getElem? (i := 8) rfl)) (by decide) (W := 0) (rm2 l Z a0 hw vv kv w0 w1 h0 n0 (Nat.le_trans Z0 (Keep.refl h0 []).1) OL SV EV AV) e0 (by decide) (by decide) (by decide) (by decide) (g := (mkF m 0 #[.val (.int d), .unset, .unset, .unset, .unset] [])) rfl (by rw [hml]; rfl) (argsL := []) (rest := []) (lenOf pd_2 rfl) rfl (by show 2 * 0 + _ ≤ _; exact Nat.le_of_eq rfl) (hb hby d1_0) ?_
  intro v20 T20 L20 X20 hQ20
  obtain ⟨b20, rfl, Nq20, Kc20, sz20, vb20⟩ := hQ20
  have N20 := Fr.app N0 Nq20
  have K20 : Keep h0 T20.heap [] := (Keep.refl h0 []).trans Kc20 all0
  have sz_b20 : h0.size ≤ b20 := Nat.le_trans (Keep.refl h0 []).1 sz20
  have gn_b20 : n0 ≤ b20 := Nat.le_trans Z0 sz_b20
  show Run p e below s _ _ _ (T20.setTop (mkF m 3 #[.val (.int d), .unset, .unset, .unset, .unset] [(.ref b20)]))
  refine Run.pre (fun _ k => XS.astoreN X20.here hx rfl (hb hby d1_3) rfl rfl (l' := #[.val (.int d), .val (.ref b20), .unset, .unset, .unset]) rfl k) ?_
  show Run p e below s _ _ _ (T20.setTop (mkF m 4 #[.val (.int d), .val (.ref b20), .unset, .unset, .unset] []))
  refine Run.pre (fun _ k => XS.aloadN X20.here hx rfl (hb hby d1_4) rfl rfl k) ?_
  show Run p e below s _ _ _ (T20.setTop (mkF m 5 #[.val (.int d), .val (.ref b20), .unset, .unset, .unset] [(.ref b20)]))
  obtain ⟨c21, Ar21, -, S21, N21, -, -⟩ := id vb20
  refine Run.pre (X20.arraylength hx Ar21.1 (State.isArrayOf_alike hZ.alike Ar21.2.1) (g := (mkF m 5 #[.val (.int d), .val (.ref b20), .unset, .unset, .unset] [(.ref b20)])) rfl rfl (hb hby d1_5)) ?_
  rw [len_of S21 N21]
  show Run p e below s _ _ _ (T20.setTop (mkF m 6 #[.val (.int d), .val (.ref b20), .unset, .unset, .unset] [(.int (2 : Int32))]))
  refine Run.pre (fun _ k => XS.istoreN X20.here hx rfl (hb hby d1_6) rfl (l' := #[.val (.int d), .val (.ref b20), .val (.int (2 : Int32)), .unset, .unset]) rfl k) ?_
  show Run p e below s _ _ _ (T20.setTop (mkF m 7 #[.val (.int d), .val (.ref b20), .val (.int (2 : Int32)), .unset, .unset] []))
  refine Run.pre (fun _ k => XS.iconst X20.here hx rfl (hb hby d1_7) k) ?_
  show Run p e below s _ _ _ (T20.setTop (mkF m 8 #[.val (.int d), .val (.ref b20), .val (.int (2 : Int32)), .unset, .unset] [(.int (0 : Int32))]))
  refine Run.pre (fun _ k => XS.istoreN X20.here hx rfl (hb hby d1_8) rfl (l' := #[.val (.int d), .val (.ref b20), .val (.int (2 : Int32)), .val (.int (0 : Int32)), .unset]) rfl k) ?_
  show Run p e below s _ _ _ (T20.setTop (mkF m 9 #[.val (.int d), .val (.ref b20), .val (.int (2 : Int32)), .val (.int (0 : Int32)), .unset] []))
  refine Run.pre (fun _ k => XS.iloadN X20.here hx rfl (hb hby d1_9) rfl  k) ?_
  show Run p e below s _ _ _ (T20.setTop (mkF m 10 #[.val (.int d), .val (.ref b20), .val (.int (2 : Int32)), .val (.int (0 : Int32)), .unset] [(.int (0 : Int32))]))
  refine Run.pre (fun _ k => XS.iloadN X20.here hx rfl (hb hby d1_10) rfl  k) ?_
  show Run p e below s _ _ _ (T20.setTop (mkF m 11 #[.val (.int d), .val (.ref b20), .val (.int (2 : Int32)), .val (.int (0 : Int32)), .unset] [(.int (2 : Int32)), (.int (0 : Int32))]))
  refine Run.pre (fun _ k => XS.icmpNo X20.here hx rfl (hb hby d1_11) rfl (tlt ((by decide) : (0 : Int32) < (2 : Int32))).2.1 k) ?_
  show Run p e below s _ _ _ (T20.setTop (mkF m 14 #[.val (.int d), .val (.ref b20), .val (.int (2 : Int32)), .val (.int (0 : Int32)), .unset] []))
  refine Run.pre (fun _ k => XS.aloadN X20.here hx rfl (hb hby d1_14) rfl rfl k) ?_
  show Run p e below s _ _ _ (T20.setTop (mkF m 15 #[.val (.int d), .val (.ref b20), .val (.int (2 : Int32)), .val (.int (0 : Int32)), .unset] [(.ref b20)]))
  refine Run.pre (fun _ k => XS.iloadN X20.here hx rfl (hb hby d1_15) rfl  k) ?_
  show Run p e below s _ _ _ (T20.setTop (mkF m 16 #[.val (.int d), .val (.ref b20), .val (.int (2 : Int32)), .val (.int (0 : Int32)), .unset] [(.int (0 : Int32)), (.ref b20)]))
  obtain ⟨c22, Ar22, -, S22, N22, H22, -⟩ := id vb20
  have hin22 : ¬ ((0 : Int32) < 0 ∨ c22.slots.size ≤ ((0 : Int32)).toNatClampNeg) := inb_of S22 ⟨by decide, by decide⟩
  refine Run.pre (X20.aaload hx (j := (0 : Int32)) (v := (.ref w0)) Ar22.1 (State.isArrayOf_alike hZ.alike Ar22.2.1) rfl Ar22.2.2 hin22 (H22.at hin22 rfl) (g := (mkF m 16 #[.val (.int d), .val (.ref b20), .val (.int (2 : Int32)), .val (.int (0 : Int32)), .unset] [(.int (0 : Int32)), (.ref b20)])) rfl rfl (hb hby d1_16)) ?_
  show Run p e below s _ _ _ (T20.setTop (mkF m 17 #[.val (.int d), .val (.ref b20), .val (.int (2 : Int32)), .val (.int (0 : Int32)), .unset] [(.ref w0)]))
  refine Run.pre (fun _ k => XS.astore X20.here hx rfl (hb hby d1_17) rfl rfl (l' := #[.val (.int d), .val (.ref b20), .val (.int (2 : Int32)), .val (.int (0 : Int32)), .val (.ref w0)]) rfl k) ?_
  show Run p e below s _ _ _ (T20.setTop (mkF m 19 #[.val (.int d), .val (.ref b20), .val (.int (2 : Int32)), .val (.int (0 : Int32)), .val (.ref w0)] []))
  refine Run.pre (fun _ k => XS.aload X20.here hx rfl (hb hby d1_19) rfl rfl k) ?_
  show Run p e below s _ _ _ (T20.setTop (mkF m 21 #[.val (.int d), .val (.ref b20), .val (.int (2 : Int32)), .val (.int (0 : Int32)), .val (.ref w0)] [(.ref w0)]))
  have f23 := (OL.keep Kc20 all0)
  obtain ⟨T24, X24, e24, st24⟩ := getF X20 hx hZ hown (host := "") (Or.inl (hw _ (List.mem_of_getElem? (i := 22) rfl))) Via.refl rfl (L0.ext f23.2) (g := (mkF m 21 #[.val (.int d), .val (.ref b20), .val (.int (2 : Int32)), .val (.int (0 : Int32)), .val (.ref w0)] [(.ref w0)])) rfl rfl (hb hby d1_21)
  refine Run.pre st24 ?_
  show Run p e below s _ _ _ (T24.setTop (mkF m 24 #[.val (.int d), .val (.ref b20), .val (.int (2 : Int32)), .val (.int (0 : Int32)), .val (.ref w0)] [(.int (16 : Int32))]))
  refine Run.pre (fun _ k => XS.iconst X24.here hx rfl (hb hby d1_24) k) ?_
  show Run p e below s _ _ _ (T24.setTop (mkF m 25 #[.val (.int d), .val (.ref b20), .val (.int (2 : Int32)), .val (.int (0 : Int32)), .val (.ref w0)] [(.int (2 : Int32)), (.int (16 : Int32))]))
  refine Run.pre (fun _ k => XS.imul X24.here hx rfl (hb hby d1_25) rfl k) ?_
  show Run p e below s _ _ _ (T24.setTop (mkF m 26 #[.val (.int d), .val (.ref b20), .val (.int (2 : Int32)), .val (.int (0 : Int32)), .val (.ref w0)] [(.int (32 : Int32))]))
  refine Run.pre (fun _ k => XS.iloadN X24.here hx rfl (hb hby d1_26) rfl  k) ?_
  show Run p e below s _ _ _ (T24.setTop (mkF m 27 #[.val (.int d), .val (.ref b20), .val (.int (2 : Int32)), .val (.int (0 : Int32)), .val (.ref w0)] [(.int d), (.int (32 : Int32))]))
  refine Run.pre (fun _ k => XS.icmpYes X24.here hx rfl (pc0 := 27) (pc' := 36) rfl (hb hby d1_27) rfl (feq ((by rw [hd]; decide) : ¬ ((32 : Int32) = d))).2 (by decide) (by decide) k) ?_
  show Run p e below s _ _ _ (T24.setTop (mkF m 36 #[.val (.int d), .val (.ref b20), .val (.int (2 : Int32)), .val (.int (0 : Int32)), .val (.ref w0)] []))
  refine Run.pre (fun _ k => XS.iinc X24.here hx rfl (hb hby d1_36) rfl (l' := #[.val (.int d), .val (.ref b20), .val (.int (2 : Int32)), .val (.int (1 : Int32)), .val (.ref w0)]) rfl k) ?_
  show Run p e below s _ _ _ (T24.setTop (mkF m 39 #[.val (.int d), .val (.ref b20), .val (.int (2 : Int32)), .val (.int (1 : Int32)), .val (.ref w0)] []))
  refine Run.pre (fun _ k => XS.goto X24.here hx rfl (pc0 := 39) (pc' := 9) rfl (hb hby d1_39) (by decide) (by decide) k) ?_
  show Run p e below s _ _ _ (T24.setTop (mkF m 9 #[.val (.int d), .val (.ref b20), .val (.int (2 : Int32)), .val (.int (1 : Int32)), .val (.ref w0)] []))
  refine Run.pre (fun _ k => XS.iloadN X24.here hx rfl (hb hby d1_9) rfl  k) ?_
  show Run p e below s _ _ _ (T24.setTop (mkF m 10 #[.val (.int d), .val (.ref b20), .val (.int (2 : Int32)), .val (.int (1 : Int32)), .val (.ref w0)] [(.int (1 : Int32))]))
  refine Run.pre (fun _ k => XS.iloadN X24.here hx rfl (hb hby d1_10) rfl  k) ?_
  show Run p e below s _ _ _ (T24.setTop (mkF m 11 #[.val (.int d), .val (.ref b20), .val (.int (2 : Int32)), .val (.int (1 : Int32)), .val (.ref w0)] [(.int (2 : Int32)), (.int (1 : Int32))]))
  refine Run.pre (fun _ k => XS.icmpNo X24.here hx rfl (hb hby d1_11) rfl (tlt ((by decide) : (1 : Int32) < (2 : Int32))).2.1 k) ?_
  show Run p e below s _ _ _ (T24.setTop (mkF m 14 #[.val (.int d), .val (.ref b20), .val (.int (2 : Int32)), .val (.int (1 : Int32)), .val (.ref w0)] []))
  refine Run.pre (fun _ k => XS.aloadN X24.here hx rfl (hb hby d1_14) rfl rfl k) ?_
  show Run p e below s _ _ _ (T24.setTop (mkF m 15 #[.val (.int d), .val (.ref b20), .val (.int (2 : Int32)), .val (.int (1 : Int32)), .val (.ref w0)] [(.ref b20)]))
  refine Run.pre (fun _ k => XS.iloadN X24.here hx rfl (hb hby d1_15) rfl  k) ?_
  show Run p e below s _ _ _ (T24.setTop (mkF m 16 #[.val (.int d), .val (.ref b20), .val (.int (2 : Int32)), .val (.int (1 : Int32)), .val (.ref w0)] [(.int (1 : Int32)), (.ref b20)]))
  obtain ⟨c25, Ar25, -, S25, N25, H25, -⟩ := id vb20
  have hin25 : ¬ ((1 : Int32) < 0 ∨ c25.slots.size ≤ ((1 : Int32)).toNatClampNeg) := inb_of S25 ⟨by decide, by decide⟩
  refine Run.pre (X24.aaload hx (j := (1 : Int32)) (v := (.ref w1)) (by rw [e24]; exact Ar25.1) (State.isArrayOf_alike hZ.alike Ar25.2.1) rfl Ar25.2.2 hin25 (H25.at hin25 rfl) (g := (mkF m 16 #[.val (.int d), .val (.ref b20), .val (.int (2 : Int32)), .val (.int (1 : Int32)), .val (.ref w0)] [(.int (1 : Int32)), (.ref b20)])) rfl rfl (hb hby d1_16)) ?_
  show Run p e below s _ _ _ (T24.setTop (mkF m 17 #[.val (.int d), .val (.ref b20), .val (.int (2 : Int32)), .val (.int (1 : Int32)), .val (.ref w0)] [(.ref w1)]))
  refine Run.pre (fun _ k => XS.astore X24.here hx rfl (hb hby d1_17) rfl rfl (l' := #[.val (.int d), .val (.ref b20), .val (.int (2 : Int32)), .val (.int (1 : Int32)), .val (.ref w1)]) rfl k) ?_
  show Run p e below s _ _ _ (T24.setTop (mkF m 19 #[.val (.int d), .val (.ref b20), .val (.int (2 : Int32)), .val (.int (1 : Int32)), .val (.ref w1)] []))
  refine Run.pre (fun _ k => XS.aload X24.here hx rfl (hb hby d1_19) rfl rfl k) ?_
  show Run p e below s _ _ _ (T24.setTop (mkF m 21 #[.val (.int d), .val (.ref b20), .val (.int (2 : Int32)), .val (.int (1 : Int32)), .val (.ref w1)] [(.ref w1)]))
  obtain ⟨T26, X26, e26, st26⟩ := getF X24 hx hZ hown (host := "") (Or.inl (hw _ (List.mem_of_getElem? (i := 22) rfl))) Via.refl e24 (L1.ext f23.2) (g := (mkF m 21 #[.val (.int d), .val (.ref b20), .val (.int (2 : Int32)), .val (.int (1 : Int32)), .val (.ref w1)] [(.ref w1)])) rfl rfl (hb hby d1_21)
  refine Run.pre st26 ?_
  show Run p e below s _ _ _ (T26.setTop (mkF m 24 #[.val (.int d), .val (.ref b20), .val (.int (2 : Int32)), .val (.int (1 : Int32)), .val (.ref w1)] [(.int (32 : Int32))]))
  refine Run.pre (fun _ k => XS.iconst X26.here hx rfl (hb hby d1_24) k) ?_
  show Run p e below s _ _ _ (T26.setTop (mkF m 25 #[.val (.int d), .val (.ref b20), .val (.int (2 : Int32)), .val (.int (1 : Int32)), .val (.ref w1)] [(.int (2 : Int32)), (.int (32 : Int32))]))
  refine Run.pre (fun _ k => XS.imul X26.here hx rfl (hb hby d1_25) rfl k) ?_
  show Run p e below s _ _ _ (T26.setTop (mkF m 26 #[.val (.int d), .val (.ref b20), .val (.int (2 : Int32)), .val (.int (1 : Int32)), .val (.ref w1)] [(.int (64 : Int32))]))
  refine Run.pre (fun _ k => XS.iloadN X26.here hx rfl (hb hby d1_26) rfl  k) ?_
  show Run p e below s _ _ _ (T26.setTop (mkF m 27 #[.val (.int d), .val (.ref b20), .val (.int (2 : Int32)), .val (.int (1 : Int32)), .val (.ref w1)] [(.int d), (.int (64 : Int32))]))
  refine Run.pre (fun _ k => XS.icmpNo X26.here hx rfl (hb hby d1_27) rfl (teq (hd.symm : (64 : Int32) = d)).2 k) ?_
  show Run p e below s _ _ _ (T26.setTop (mkF m 30 #[.val (.int d), .val (.ref b20), .val (.int (2 : Int32)), .val (.int (1 : Int32)), .val (.ref w1)] []))
  refine Run.pre (fun _ k => XS.aload X26.here hx rfl (hb hby d1_30) rfl rfl k) ?_
  show Run p e below s _ _ _ (T26.setTop (mkF m 32 #[.val (.int d), .val (.ref b20), .val (.int (2 : Int32)), .val (.int (1 : Int32)), .val (.ref w1)] [(.ref w1)]))
  refine Run.callS X26 hx hZ (y := (⟨"java/util/Optional", "of", "(Ljava/lang/Object;)Ljava/util/Optional;"⟩ : MethodName)) hown (hw _ (List.mem_of_getElem? (i := 24) rfl)) (hw _ (List.mem_of_getElem? (i := 25) rfl)) (hw _ (List.mem_of_getElem? (i := 26) rfl)) (hw _ (List.mem_of_getElem? (i := 27) rfl)) (by decide) (W := 0) (rm3 l Z a0 hw w1 T20.heap n0 (Nat.le_trans Z0 K20.1)) e26 (by decide) (by decide) (by decide) (by decide) (g := (mkF m 32 #[.val (.int d), .val (.ref b20), .val (.int (2 : Int32)), .val (.int (1 : Int32)), .val (.ref w1)] [(.ref w1)])) rfl (by rw [hml]; rfl) (argsL := [(.ref w1)]) (rest := []) (lenOf pd_3 rfl) rfl (by show 2 * 0 + _ ≤ _; exact Nat.le_of_eq rfl) (hb hby d1_32) ?_
  intro v27 T27 L27 X27 hQ27
  obtain ⟨b27, rfl, Nq27, Kc27, sz27, eb27, fv27⟩ := hQ27
  have N27 := Fr.app N20 Nq27
  have K27 : Keep h0 T27.heap [] := K20.trans Kc27 all0
  have sz_b27 : h0.size ≤ b27 := Nat.le_trans K20.1 sz27
  have gn_b27 : n0 ≤ b27 := Nat.le_trans Z0 sz_b27
  show Run p e below s _ _ _ (T27.setTop (mkF m 35 #[.val (.int d), .val (.ref b20), .val (.int (2 : Int32)), .val (.int (1 : Int32)), .val (.ref w1)] [(.ref b27)]))
  exact Run.retA X27 hx hret rfl rfl hlk (hb hby d1_35) ⟨b27, rfl, N27, K27, eb27, fv27⟩ (by decide) (by decide)
theorem pd_4 : parseMethodDescriptor "()Ljava/util/Optional;" = some ⟨[], some (.object "java/util/Optional")⟩ := by decide +kernel
theorem d1_42 : decode prog_5_method_6_code 42 = .ok (.invokestatic 53, 3) := by decide +kernel
theorem d1_45 : decode prog_5_method_6_code 45 = .ok (.areturn, 1) := by decide +kernel
set_option maxRecDepth 65536 in
set_option maxHeartbeats 40000000 in
theorem rm1_c (l : Launch) (Z : State) (a0 : Array Value) (hw : ∀ d ∈ tables_1, d.before a0 Z = true) (d : Int32) (vv : Addr) (kv : ClassId) (w0 : Addr) (w1 : Addr) (we : Addr) (h0 : Heap) (n0 : Nat) (Z0 : n0 ≤ h0.size) (OL : Old Z n0 h0) (SV : Sta Z Z.heap "com/example/portcullis/portcullis/digest/DigestAlgorithm" "$VALUES" "[Lcom/example/portcullis/portcullis/digest/DigestAlgorithm;" (.ref vv)) (EV : Exa Z Z.heap vv "[Lcom/example/portcullis/portcullis/digest/DigestAlgorithm;") (AV : Arv Z Z.heap vv kv (.object "com/example/portcullis/portcullis/digest/DigestAlgorithm") 2 [(.ref w0), (.ref w1)] .null) (SE : Sta Z Z.heap "java/util/Optional" "EMPTY" "Ljava/util/Optional;" (.ref we)) (EE : Exa Z Z.heap we "java/util/Optional") (FE : Fld Z Z.heap we "java/util/Optional" "value" "Ljava/lang/Object;" .null) (L0 : Fld Z Z.heap w0 "com/example/portcullis/portcullis/digest/DigestAlgorithm" "length" "I" (.int 16)) (L1 : Fld Z Z.heap w1 "com/example/portcullis/portcullis/digest/DigestAlgorithm" "length" "I" (.int 32)) (hd : ¬ d = 32) (hd2 : ¬ d = 64) :
    Con l (⟨"com/example/portcullis/portcullis/digest/DigestAlgorithm", "fromHexLength", "(I)Ljava/util/Optional;"⟩ : MethodName) prog_5_method_6_code 5 (some (.object "java/util/Optional")) ({ frames := 2, cells := 1, slots := 2, locals := 25 } : Room) Z #[(.int d)] h0 (fun v h L => ∃ b : Addr, v = some (.ref b) ∧ Fr n0 L ∧ Keep h0 h [] ∧ Exa Z h b "java/util/Optional" ∧ Fld Z h b "java/util/Optional" "value" "Ljava/lang/Object;" .null) := by
  refine Con.mk (plainFor_of_name pn_1) (fun m => show entryFrame m #[(.int d)] 5 = mkF m 0 #[.val (.int d), .unset, .unset, .unset, .unset] [] by first | (simp [entryFrame, mkF, argsToLocals, Value.category]; done) | rfl) ?_
  intro p e s m below meth c s₁ hx hby hml hown hnm hret hlk hZ X0 e0
  have N0 := Fr.nil n0
  show Run p e below s _ _ _ (s₁.setTop (mkF m 0 #[.val (.int d), .unset, .unset, .unset, .unset] []))
  refine Run.callS X0 hx hZ (y := (⟨"com/example/portcullis/portcullis/digest/DigestAlgorithm", "values", "()[Lcom/example/portcullis/portcullis/digest/DigestAlgorithm;"⟩ : MethodName)) hown (hw _ (List.mem_of_getElem? (i := 6) rfl)) (hw _ (List.mem_of_getElem? (i := 7) rfl)) (hw _ (List.mem_of_getElem? (i := 1) rfl)) (hw _ (List.mem_of_getElem? (i := 8) rfl)) (by decide) (W := 0) (rm2 l Z a0 hw vv kv w0 w1 h0 n0 (Nat.le_trans Z0 (Keep.refl h0 []).1) OL SV EV AV) e0 (by decide) (by decide) (by decide) (by decide) (g := (mkF m 0 #[.val (.int d), .unset, .unset, .unset, .unset] [])) rfl (by rw [hml]; rfl) (argsL := []) (rest := []) (lenOf pd_2 rfl) rfl (by show 2 * 0 + _ ≤ _; exact Nat.le_of_eq rfl) (hb hby d1_0) ?_
  intro v28 T28 L28 X28 hQ28
  obtain ⟨b28, rfl, Nq28, Kc28, sz28, vb28⟩ := hQ28
  have N28 := Fr.app N0 Nq28
  have K28 : Keep h0 T28.heap [] := (Keep.refl h0 []).trans Kc28 all0
  have sz_b28 : h0.size ≤ b28 := Nat.le_trans (Keep.refl h0 []).1 sz28
  have gn_b28 : n0 ≤ b28 := Nat.le_trans Z0 sz_b28
  show Run p e below s _ _ _ (T28.setTop (mkF m 3 #[.val (.int d), .unset, .unset, .unset, .unset] [(.ref b28)]))
  refine Run.pre (fun _ k => XS.astoreN X28.here hx rfl (hb hby d1_3) rfl rfl (l' := #[.val (.int d), .val (.ref b28), .unset, .unset, .unset]) rfl k) ?_
  show Run p e below s _ _ _ (T28.setTop (mkF m 4 #[.val (.int d), .val (.ref b28), .unset, .unset, .unset] []))
  refine Run.pre (fun _ k => XS.aloadN X28.here hx rfl (hb hby d1_4) rfl rfl k) ?_
  show Run p e below s _ _ _ (T28.setTop (mkF m 5 #[.val (.int d), .val (.ref b28), .unset, .unset, .unset] [(.ref b28)]))
  obtain ⟨c29, Ar29, -, S29, N29, -, -⟩ := id vb28
  refine Run.pre (X28.arraylength hx Ar29.1 (State.isArrayOf_alike hZ.alike Ar29.2.1) (g := (mkF m 5 #[.val (.int d), .val (.ref b28), .unset, .unset, .unset] [(.ref b28)])) rfl rfl (hb hby d1_5)) ?_
  rw [len_of S29 N29]
  show Run p e below s _ _ _ (T28.setTop (mkF m 6 #[.val (.int d), .val (.ref b28), .unset, .unset, .unset] [(.int (2 : Int32))]))
  refine Run.pre (fun _ k => XS.istoreN X28.here hx rfl (hb hby d1_6) rfl (l' := #[.val (.int d), .val (.ref b28), .val (.int (2 : Int32)), .unset, .unset]) rfl k) ?_
  show Run p e below s _ _ _ (T28.setTop (mkF m 7 #[.val (.int d), .val (.ref b28), .val (.int (2 : Int32)), .unset, .unset] []))
  refine Run.pre (fun _ k => XS.iconst X28.here hx rfl (hb hby d1_7) k) ?_
  show Run p e below s _ _ _ (T28.setTop (mkF m 8 #[.val (.int d), .val (.ref b28), .val (.int (2 : Int32)), .unset, .unset] [(.int (0 : Int32))]))
  refine Run.pre (fun _ k => XS.istoreN X28.here hx rfl (hb hby d1_8) rfl (l' := #[.val (.int d), .val (.ref b28), .val (.int (2 : Int32)), .val (.int (0 : Int32)), .unset]) rfl k) ?_
  show Run p e below s _ _ _ (T28.setTop (mkF m 9 #[.val (.int d), .val (.ref b28), .val (.int (2 : Int32)), .val (.int (0 : Int32)), .unset] []))
  refine Run.pre (fun _ k => XS.iloadN X28.here hx rfl (hb hby d1_9) rfl  k) ?_
  show Run p e below s _ _ _ (T28.setTop (mkF m 10 #[.val (.int d), .val (.ref b28), .val (.int (2 : Int32)), .val (.int (0 : Int32)), .unset] [(.int (0 : Int32))]))
  refine Run.pre (fun _ k => XS.iloadN X28.here hx rfl (hb hby d1_10) rfl  k) ?_
  show Run p e below s _ _ _ (T28.setTop (mkF m 11 #[.val (.int d), .val (.ref b28), .val (.int (2 : Int32)), .val (.int (0 : Int32)), .unset] [(.int (2 : Int32)), (.int (0 : Int32))]))
  refine Run.pre (fun _ k => XS.icmpNo X28.here hx rfl (hb hby d1_11) rfl (tlt ((by decide) : (0 : Int32) < (2 : Int32))).2.1 k) ?_
  show Run p e below s _ _ _ (T28.setTop (mkF m 14 #[.val (.int d), .val (.ref b28), .val (.int (2 : Int32)), .val (.int (0 : Int32)), .unset] []))
  refine Run.pre (fun _ k => XS.aloadN X28.here hx rfl (hb hby d1_14) rfl rfl k) ?_
  show Run p e below s _ _ _ (T28.setTop (mkF m 15 #[.val (.int d), .val (.ref b28), .val (.int (2 : Int32)), .val (.int (0 : Int32)), .unset] [(.ref b28)]))
  refine Run.pre (fun _ k => XS.iloadN X28.here hx rfl (hb hby d1_15) rfl  k) ?_
  show Run p e below s _ _ _ (T28.setTop (mkF m 16 #[.val (.int d), .val (.ref b28), .val (.int (2 : Int32)), .val (.int (0 : Int32)), .unset] [(.int (0 : Int32)), (.ref b28)]))
  obtain ⟨c30, Ar30, -, S30, N30, H30, -⟩ := id vb28
  have hin30 : ¬ ((0 : Int32) < 0 ∨ c30.slots.size ≤ ((0 : Int32)).toNatClampNeg) := inb_of S30 ⟨by decide, by decide⟩
  refine Run.pre (X28.aaload hx (j := (0 : Int32)) (v := (.ref w0)) Ar30.1 (State.isArrayOf_alike hZ.alike Ar30.2.1) rfl Ar30.2.2 hin30 (H30.at hin30 rfl) (g := (mkF m 16 #[.val (.int d), .val (.ref b28), .val (.int (2 : Int32)), .val (.int (0 : Int32)), .unset] [(.int (0 : Int32)), (.ref b28)])) rfl rfl (hb hby d1_16)) ?_
  show Run p e below s _ _ _ (T28.setTop (mkF m 17 #[.val (.int d), .val (.ref b28), .val (.int (2 : Int32)), .val (.int (0 : Int32)), .unset] [(.ref w0)]))
  refine Run.pre (fun _ k => XS.astore X28.here hx rfl (hb hby d1_17) rfl rfl (l' := #[.val (.int d), .val (.ref b28), .val (.int (2 : Int32)), .val (.int (0 : Int32)), .val (.ref w0)]) rfl k) ?_
  show Run p e below s _ _ _ (T28.setTop (mkF m 19 #[.val (.int d), .val (.ref b28), .val (.int (2 : Int32)), .val (.int (0 : Int32)), .val (.ref w0)] []))
  refine Run.pre (fun _ k => XS.aload X28.here hx rfl (hb hby d1_19) rfl rfl k) ?_
  show Run p e below s _ _ _ (T28.setTop (mkF m 21 #[.val (.int d), .val (.ref b28), .val (.int (2 : Int32)), .val (.int (0 : Int32)), .val (.ref w0)] [(.ref w0)]))
  have f31 := (OL.keep Kc28 all0)
  obtain ⟨T32, X32, e32, st32⟩ := getF X28 hx hZ hown (host := "") (Or.inl (hw _ (List.mem_of_getElem? (i := 22) rfl))) Via.refl rfl (L0.ext f31.2) (g := (mkF m 21 #[.val (.int d), .val (.ref b28), .val (.int (2 : Int32)), .val (.int (0 : Int32)), .val (.ref w0)] [(.ref w0)])) rfl rfl (hb hby d1_21)
  refine Run.pre st32 ?_
  show Run p e below s _ _ _ (T32.setTop (mkF m 24 #[.val (.int d), .val (.ref b28), .val (.int (2 : Int32)), .val (.int (0 : Int32)), .val (.ref w0)] [(.int (16 : Int32))]))
  refine Run.pre (fun _ k => XS.iconst X32.here hx rfl (hb hby d1_24) k) ?_
  show Run p e below s _ _ _ (T32.setTop (mkF m 25 #[.val (.int d), .val (.ref b28), .val (.int (2 : Int32)), .val (.int (0 : Int32)), .val (.ref w0)] [(.int (2 : Int32)), (.int (16 : Int32))]))
  refine Run.pre (fun _ k => XS.imul X32.here hx rfl (hb hby d1_25) rfl k) ?_
  show Run p e below s _ _ _ (T32.setTop (mkF m 26 #[.val (.int d), .val (.ref b28), .val (.int (2 : Int32)), .val (.int (0 : Int32)), .val (.ref w0)] [(.int (32 : Int32))]))
  refine Run.pre (fun _ k => XS.iloadN X32.here hx rfl (hb hby d1_26) rfl  k) ?_
  show Run p e below s _ _ _ (T32.setTop (mkF m 27 #[.val (.int d), .val (.ref b28), .val (.int (2 : Int32)), .val (.int (0 : Int32)), .val (.ref w0)] [(.int d), (.int (32 : Int32))]))
  refine Run.pre (fun _ k => XS.icmpYes X32.here hx rfl (pc0 := 27) (pc' := 36) rfl (hb hby d1_27) rfl (feq ((fun q => hd q.symm) : ¬ ((32 : Int32) = d))).2 (by decide) (by decide) k) ?_
  show Run p e below s _ _ _ (T32.setTop (mkF m 36 #[.val (.int d), .val (.ref b28), .val (.int (2 : Int32)), .val (.int (0 : Int32)), .val (.ref w0)] []))
  refine Run.pre (fun _ k => XS.iinc X32.here hx rfl (hb hby d1_36) rfl (l' := #[.val (.int d), .val (.ref b28), .val (.int (2 : Int32)), .val (.int (1 : Int32)), .val (.ref w0)]) rfl k) ?_
  show Run p e below s _ _ _ (T32.setTop (mkF m 39 #[.val (.int d), .val (.ref b28), .val (.int (2 : Int32)), .val (.int (1 : Int32)), .val (.ref w0)] []))
  refine Run.pre (fun _ k => XS.goto X32.here hx rfl (pc0 := 39) (pc' := 9) rfl (hb hby d1_39) (by decide) (by decide) k) ?_
  show Run p e below s _ _ _ (T32.setTop (mkF m 9 #[.val (.int d), .val (.ref b28), .val (.int (2 : Int32)), .val (.int (1 : Int32)), .val (.ref w0)] []))
  refine Run.pre (fun _ k => XS.iloadN X32.here hx rfl (hb hby d1_9) rfl  k) ?_
  show Run p e below s _ _ _ (T32.setTop (mkF m 10 #[.val (.int d), .val (.ref b28), .val (.int (2 : Int32)), .val (.int (1 : Int32)), .val (.ref w0)] [(.int (1 : Int32))]))
  refine Run.pre (fun _ k => XS.iloadN X32.here hx rfl (hb hby d1_10) rfl  k) ?_
  show Run p e below s _ _ _ (T32.setTop (mkF m 11 #[.val (.int d), .val (.ref b28), .val (.int (2 : Int32)), .val (.int (1 : Int32)), .val (.ref w0)] [(.int (2 : Int32)), (.int (1 : Int32))]))
  refine Run.pre (fun _ k => XS.icmpNo X32.here hx rfl (hb hby d1_11) rfl (tlt ((by decide) : (1 : Int32) < (2 : Int32))).2.1 k) ?_
  show Run p e below s _ _ _ (T32.setTop (mkF m 14 #[.val (.int d), .val (.ref b28), .val (.int (2 : Int32)), .val (.int (1 : Int32)), .val (.ref w0)] []))
  refine Run.pre (fun _ k => XS.aloadN X32.here hx rfl (hb hby d1_14) rfl rfl k) ?_
  show Run p e below s _ _ _ (T32.setTop (mkF m 15 #[.val (.int d), .val (.ref b28), .val (.int (2 : Int32)), .val (.int (1 : Int32)), .val (.ref w0)] [(.ref b28)]))
  refine Run.pre (fun _ k => XS.iloadN X32.here hx rfl (hb hby d1_15) rfl  k) ?_
  show Run p e below s _ _ _ (T32.setTop (mkF m 16 #[.val (.int d), .val (.ref b28), .val (.int (2 : Int32)), .val (.int (1 : Int32)), .val (.ref w0)] [(.int (1 : Int32)), (.ref b28)]))
  obtain ⟨c33, Ar33, -, S33, N33, H33, -⟩ := id vb28
  have hin33 : ¬ ((1 : Int32) < 0 ∨ c33.slots.size ≤ ((1 : Int32)).toNatClampNeg) := inb_of S33 ⟨by decide, by decide⟩
  refine Run.pre (X32.aaload hx (j := (1 : Int32)) (v := (.ref w1)) (by rw [e32]; exact Ar33.1) (State.isArrayOf_alike hZ.alike Ar33.2.1) rfl Ar33.2.2 hin33 (H33.at hin33 rfl) (g := (mkF m 16 #[.val (.int d), .val (.ref b28), .val (.int (2 : Int32)), .val (.int (1 : Int32)), .val (.ref w0)] [(.int (1 : Int32)), (.ref b28)])) rfl rfl (hb hby d1_16)) ?_
  show Run p e below s _ _ _ (T32.setTop (mkF m 17 #[.val (.int d), .val (.ref b28), .val (.int (2 : Int32)), .val (.int (1 : Int32)), .val (.ref w0)] [(.ref w1)]))
  refine Run.pre (fun _ k => XS.astore X32.here hx rfl (hb hby d1_17) rfl rfl (l' := #[.val (.int d), .val (.ref b28), .val (.int (2 : Int32)), .val (.int (1 : Int32)), .val (.ref w1)]) rfl k) ?_
  show Run p e below s _ _ _ (T32.setTop (mkF m 19 #[.val (.int d), .val (.ref b28), .val (.int (2 : Int32)), .val (.int (1 : Int32)), .val (.ref w1)] []))
  refine Run.pre (fun _ k => XS.aload X32.here hx rfl (hb hby d1_19) rfl rfl k) ?_
  show Run p e below s _ _ _ (T32.setTop (mkF m 21 #[.val (.int d), .val (.ref b28), .val (.int (2 : Int32)), .val (.int (1 : Int32)), .val (.ref w1)] [(.ref w1)]))
  obtain ⟨T34, X34, e34, st34⟩ := getF X32 hx hZ hown (host := "") (Or.inl (hw _ (List.mem_of_getElem? (i := 22) rfl))) Via.refl e32 (L1.ext f31.2) (g := (mkF m 21 #[.val (.int d), .val (.ref b28), .val (.int (2 : Int32)), .val (.int (1 : Int32)), .val (.ref w1)] [(.ref w1)])) rfl rfl (hb hby d1_21)
  refine Run.pre st34 ?_
  show Run p e below s _ _ _ (T34.setTop (mkF m 24 #[.val (.int d), .val (.ref b28), .val (.int (2 : Int32)), .val (.int (1 : Int32)), .val (.ref w1)] [(.int (32 : Int32))]))
  refine Run.pre (fun _ k => XS.iconst X34.here hx rfl (hb hby d1_24) k) ?_
  show Run p e below s _ _ _ (T34.setTop (mkF m 25 #[.val (.int d), .val (.ref b28), .val (.int (2 : Int32)), .val (.int (1 : Int32)), .val (.ref w1)] [(.int (2 : Int32)), (.int (32 : Int32))]))
  refine Run.pre (fun _ k => XS.imul X34.here hx rfl (hb hby d1_25) rfl k) ?_
  show Run p e below s _ _ _ (T34.setTop (mkF m 26 #[.val (.int d), .val (.ref b28), .val (.int (2 : Int32)), .val (.int (1 : Int32)), .val (.ref w1)] [(.int (64 : Int32))]))
  refine Run.pre (fun _ k => XS.iloadN X34.here hx rfl (hb hby d1_26) rfl  k) ?_
  show Run p e below s _ _ _ (T34.setTop (mkF m 27 #[.val (.int d), .val (.ref b28), .val (.int (2 : Int32)), .val (.int (1 : Int32)), .val (.ref w1)] [(.int d), (.int (64 : Int32))]))
  refine Run.pre (fun _ k => XS.icmpYes X34.here hx rfl (pc0 := 27) (pc' := 36) rfl (hb hby d1_27) rfl (feq ((fun q => hd2 q.symm) : ¬ ((64 : Int32) = d))).2 (by decide) (by decide) k) ?_
  show Run p e below s _ _ _ (T34.setTop (mkF m 36 #[.val (.int d), .val (.ref b28), .val (.int (2 : Int32)), .val (.int (1 : Int32)), .val (.ref w1)] []))
  refine Run.pre (fun _ k => XS.iinc X34.here hx rfl (hb hby d1_36) rfl (l' := #[.val (.int d), .val (.ref b28), .val (.int (2 : Int32)), .val (.int (2 : Int32)), .val (.ref w1)]) rfl k) ?_
  show Run p e below s _ _ _ (T34.setTop (mkF m 39 #[.val (.int d), .val (.ref b28), .val (.int (2 : Int32)), .val (.int (2 : Int32)), .val (.ref w1)] []))
  refine Run.pre (fun _ k => XS.goto X34.here hx rfl (pc0 := 39) (pc' := 9) rfl (hb hby d1_39) (by decide) (by decide) k) ?_
  show Run p e below s _ _ _ (T34.setTop (mkF m 9 #[.val (.int d), .val (.ref b28), .val (.int (2 : Int32)), .val (.int (2 : Int32)), .val (.ref w1)] []))
  refine Run.pre (fun _ k => XS.iloadN X34.here hx rfl (hb hby d1_9) rfl  k) ?_
  show Run p e below s _ _ _ (T34.setTop (mkF m 10 #[.val (.int d), .val (.ref b28), .val (.int (2 : Int32)), .val (.int (2 : Int32)), .val (.ref w1)] [(.int (2 : Int32))]))
  refine Run.pre (fun _ k => XS.iloadN X34.here hx rfl (hb hby d1_10) rfl  k) ?_
  show Run p e below s _ _ _ (T34.setTop (mkF m 11 #[.val (.int d), .val (.ref b28), .val (.int (2 : Int32)), .val (.int (2 : Int32)), .val (.ref w1)] [(.int (2 : Int32)), (.int (2 : Int32))]))
  refine Run.pre (fun _ k => XS.icmpYes X34.here hx rfl (pc0 := 11) (pc' := 42) rfl (hb hby d1_11) rfl (flt ((by decide) : ¬ ((2 : Int32) < (2 : Int32)))).2.1 (by decide) (by decide) k) ?_
  show Run p e below s _ _ _ (T34.setTop (mkF m 42 #[.val (.int d), .val (.ref b28), .val (.int (2 : Int32)), .val (.int (2 : Int32)), .val (.ref w1)] []))
  refine Run.callS X34 hx hZ (y := (⟨"java/util/Optional", "empty", "()Ljava/util/Optional;"⟩ : MethodName)) hown (hw _ (List.mem_of_getElem? (i := 50) rfl)) (hw _ (List.mem_of_getElem? (i := 51) rfl)) (hw _ (List.mem_of_getElem? (i := 26) rfl)) (hw _ (List.mem_of_getElem? (i := 52) rfl)) (by decide) (W := 0) (rm8 l Z a0 hw we T28.heap n0 (Nat.le_trans Z0 K28.1) f31 SE) e34 (by decide) (by decide) (by decide) (by decide) (g := (mkF m 42 #[.val (.int d), .val (.ref b28), .val (.int (2 : Int32)), .val (.int (2 : Int32)), .val (.ref w1)] [])) rfl (by rw [hml]; rfl) (argsL := []) (rest := []) (lenOf pd_4 rfl) rfl (by show 2 * 0 + _ ≤ _; exact Nat.le_of_eq rfl) (hb hby d1_42) ?_
  intro v35 T35 L35 X35 hQ35
  obtain ⟨rfl, Nq35, he35⟩ := hQ35
  have N35 := Fr.app N28 Nq35
  have e35 : T35.heap = T28.heap := he35
  show Run p e below s _ _ _ (T35.setTop (mkF m 45 #[.val (.int d), .val (.ref b28), .val (.int (2 : Int32)), .val (.int (2 : Int32)), .val (.ref w1)] [(.ref we)]))
  exact Run.retA X35 hx hret rfl rfl hlk (hb hby d1_45) (by first | (rw [e35]; exact ⟨we, rfl, N35, K28, (EE.ext f31.2), (FE.ext f31.2)⟩) | exact ⟨we, rfl, N35, K28, (EE.ext f31.2), (FE.ext f31.2)⟩) (by decide) (by decide)
theorem pd_5 : parseMethodDescriptor "(I)Ljava/util/Optional;" = some ⟨[.int], some (.object "java/util/Optional")⟩ := by decide +kernel
theorem pn_0 : plainName "com/example/portcullis/portcullis/digest/DigestAlgorithmFromHexLengthPinLaw" = true := by first | (simp [plainName, overriddenIn]; done) | decide +kernel
set_option maxRecDepth 65536 in
set_option maxHeartbeats 40000000 in
theorem rm0 (l : Launch) (Z : State) (a0 : Array Value) (hw : ∀ d ∈ tables_1, d.before a0 Z = true) (pz : Int32) (px : Int32) (vv : Addr) (kv : ClassId) (w0 : Addr) (w1 : Addr) (we : Addr) (h0 : Heap) (n0 : Nat) (Z0 : n0 ≤ h0.size) (OL : Old Z n0 h0) (SV : Sta Z Z.heap "com/example/portcullis/portcullis/digest/DigestAlgorithm" "$VALUES" "[Lcom/example/portcullis/portcullis/digest/DigestAlgorithm;" (.ref vv)) (EV : Exa Z Z.heap vv "[Lcom/example/portcullis/portcullis/digest/DigestAlgorithm;") (AV : Arv Z Z.heap vv kv (.object "com/example/portcullis/portcullis/digest/DigestAlgorithm") 2 [(.ref w0), (.ref w1)] .null) (SE : Sta Z Z.heap "java/util/Optional" "EMPTY" "Ljava/util/Optional;" (.ref we)) (EE : Exa Z Z.heap we "java/util/Optional") (FE : Fld Z Z.heap we "java/util/Optional" "value" "Ljava/lang/Object;" .null) (L0 : Fld Z Z.heap w0 "com/example/portcullis/portcullis/digest/DigestAlgorithm" "length" "I" (.int 16)) (L1 : Fld Z Z.heap w1 "com/example/portcullis/portcullis/digest/DigestAlgorithm" "length" "I" (.int 32)) (S0 : Sta Z Z.heap "com/example/portcullis/portcullis/digest/DigestAlgorithm" "MD5" "Lcom/example/portcullis/portcullis/digest/DigestAlgorithm;" (.ref w0)) (S1 : Sta Z Z.heap "com/example/portcullis/portcullis/digest/DigestAlgorithm" "SHA_256" "Lcom/example/portcullis/portcullis/digest/DigestAlgorithm;" (.ref w1)) (E0 : Exa Z Z.heap w0 "com/example/portcullis/portcullis/digest/DigestAlgorithm") (E1 : Exa Z Z.heap w1 "com/example/portcullis/portcullis/digest/DigestAlgorithm") :
    Con l x code maxLocals ret room_1 Z #[(.int pz), (.int px)] h0 (fun v h L => v = some (.int 1) ∧ Fr n0 L) := by
  refine Con.mk (plainFor_of_name pn_0) (fun m => show entryFrame m #[(.int pz), (.int px)] maxLocals = mkF m 0 #[.val (.int pz), .val (.int px), .unset, .unset, .unset, .unset] [] by first | (simp [entryFrame, mkF, argsToLocals, Value.category, maxLocals]; done) | rfl) ?_
  intro p e s m below meth c s₁ hx hby hml hown hnm hret hlk hZ X0 e0
  have hml : c.maxLocals = 6 := hml
  have N0 := Fr.nil n0
  show Run p e below s _ _ _ (s₁.setTop (mkF m 0 #[.val (.int pz), .val (.int px), .unset, .unset, .unset, .unset] []))
  refine Run.pre (fun _ k => XS.iloadN X0.here hx rfl (hb hby at_0) rfl  k) ?_
  show Run p e below s _ _ _ (s₁.setTop (mkF m 1 #[.val (.int pz), .val (.int px), .unset, .unset, .unset, .unset] [(.int pz)]))
  refine Run.pre (fun _ k => XS.iconst X0.here hx rfl (hb hby at_1) k) ?_
  show Run p e below s _ _ _ (s₁.setTop (mkF m 2 #[.val (.int pz), .val (.int px), .unset, .unset, .unset, .unset] [(.int (3 : Int32)), (.int pz)]))
  refine Run.pre (fun _ k => XS.iand X0.here hx rfl (hb hby at_2) rfl k) ?_
  show Run p e below s _ _ _ (s₁.setTop (mkF m 3 #[.val (.int pz), .val (.int px), .unset, .unset, .unset, .unset] [(.int (pz &&& (3 : Int32)))]))
  refine Run.pre (fun _ k => XS.istoreN X0.here hx rfl (hb hby at_3) rfl (l' := #[.val (.int pz), .val (.int px), .val (.int (pz &&& (3 : Int32))), .unset, .unset, .unset]) rfl k) ?_
  show Run p e below s _ _ _ (s₁.setTop (mkF m 4 #[.val (.int pz), .val (.int px), .val (.int (pz &&& (3 : Int32))), .unset, .unset, .unset] []))
  refine Run.pre (fun _ k => XS.iloadN X0.here hx rfl (hb hby at_4) rfl  k) ?_
  show Run p e below s _ _ _ (s₁.setTop (mkF m 5 #[.val (.int pz), .val (.int px), .val (.int (pz &&& (3 : Int32))), .unset, .unset, .unset] [(.int (pz &&& (3 : Int32)))]))
  by_cases hc36 : (pz &&& (3 : Int32)) = (0 : Int32)
  · skip
    refine Run.pre (fun _ k => XS.ifNo X0.here hx rfl (hb hby at_5) rfl ((if0 _ _).trans (teq (hc36 : (pz &&& (3 : Int32)) = (0 : Int32))).2) k) ?_
    show Run p e below s _ _ _ (s₁.setTop (mkF m 8 #[.val (.int pz), .val (.int px), .val (.int (pz &&& (3 : Int32))), .unset, .unset, .unset] []))
    refine Run.pre (fun _ k => XS.bipush X0.here hx rfl (hb hby at_8) k) ?_
    show Run p e below s _ _ _ (s₁.setTop (mkF m 10 #[.val (.int pz), .val (.int px), .val (.int (pz &&& (3 : Int32))), .unset, .unset, .unset] [(.int (32 : Int32))]))
    refine Run.pre (fun _ k => XS.istoreN X0.here hx rfl (hb hby at_10) rfl (l' := #[.val (.int pz), .val (.int px), .val (.int (pz &&& (3 : Int32))), .val (.int (32 : Int32)), .unset, .unset]) rfl k) ?_
    show Run p e below s _ _ _ (s₁.setTop (mkF m 11 #[.val (.int pz), .val (.int px), .val (.int (pz &&& (3 : Int32))), .val (.int (32 : Int32)), .unset, .unset] []))
    refine Run.pre (fun _ k => XS.goto X0.here hx rfl (pc0 := 11) (pc' := 43) rfl (hb hby at_11) (by decide) (by decide) k) ?_
    show Run p e below s _ _ _ (s₁.setTop (mkF m 43 #[.val (.int pz), .val (.int px), .val (.int (pz &&& (3 : Int32))), .val (.int (32 : Int32)), .unset, .unset] []))
    refine Run.pre (fun _ k => XS.iloadN X0.here hx rfl (hb hby at_43) rfl  k) ?_
    show Run p e below s _ _ _ (s₁.setTop (mkF m 44 #[.val (.int pz), .val (.int px), .val (.int (pz &&& (3 : Int32))), .val (.int (32 : Int32)), .unset, .unset] [(.int (32 : Int32))]))
    refine Run.pre (fun _ k => XS.bipush X0.here hx rfl (hb hby at_44) k) ?_
    show Run p e below s _ _ _ (s₁.setTop (mkF m 46 #[.val (.int pz), .val (.int px), .val (.int (pz &&& (3 : Int32))), .val (.int (32 : Int32)), .unset, .unset] [(.int (32 : Int32)), (.int (32 : Int32))]))
    refine Run.pre (fun _ k => XS.icmpNo X0.here hx rfl (hb hby at_46) rfl (teq ((by decide) : (32 : Int32) = (32 : Int32))).2 k) ?_
    show Run p e below s _ _ _ (s₁.setTop (mkF m 49 #[.val (.int pz), .val (.int px), .val (.int (pz &&& (3 : Int32))), .val (.int (32 : Int32)), .unset, .unset] []))
    obtain ⟨T37, X37, e37, st37⟩ := getS2 X0 hx hZ hown (host := "") (Or.inl (hw _ (List.mem_of_getElem? (i := 0) rfl))) Via.refl e0 (S0.ext OL.2) (g := (mkF m 49 #[.val (.int pz), .val (.int px), .val (.int (pz &&& (3 : Int32))), .val (.int (32 : Int32)), .unset, .unset] [])) rfl (hb hby at_49)
    refine Run.pre st37 ?_
    show Run p e below s _ _ _ (T37.setTop (mkF m 52 #[.val (.int pz), .val (.int px), .val (.int (pz &&& (3 : Int32))), .val (.int (32 : Int32)), .unset, .unset] [(.ref w0)]))
    refine Run.pre (fun _ k => XS.astore X37.here hx rfl (hb hby at_52) rfl rfl (l' := #[.val (.int pz), .val (.int px), .val (.int (pz &&& (3 : Int32))), .val (.int (32 : Int32)), .val (.ref w0), .unset]) rfl k) ?_
    show Run p e below s _ _ _ (T37.setTop (mkF m 54 #[.val (.int pz), .val (.int px), .val (.int (pz &&& (3 : Int32))), .val (.int (32 : Int32)), .val (.ref w0), .unset] []))
    refine Run.pre (fun _ k => XS.goto X37.here hx rfl (pc0 := 54) (pc' := 74) rfl (hb hby at_54) (by decide) (by decide) k) ?_
    show Run p e below s _ _ _ (T37.setTop (mkF m 74 #[.val (.int pz), .val (.int px), .val (.int (pz &&& (3 : Int32))), .val (.int (32 : Int32)), .val (.ref w0), .unset] []))
    refine Run.pre (fun _ k => XS.iloadN X37.here hx rfl (hb hby at_74) rfl  k) ?_
    show Run p e below s _ _ _ (T37.setTop (mkF m 75 #[.val (.int pz), .val (.int px), .val (.int (pz &&& (3 : Int32))), .val (.int (32 : Int32)), .val (.ref w0), .unset] [(.int (32 : Int32))]))
    refine Run.callS X37 hx hZ (y := (⟨"com/example/portcullis/portcullis/digest/DigestAlgorithm", "fromHexLength", "(I)Ljava/util/Optional;"⟩ : MethodName)) hown (hw _ (List.mem_of_getElem? (i := 3) rfl)) (hw _ (List.mem_of_getElem? (i := 4) rfl)) (hw _ (List.mem_of_getElem? (i := 1) rfl)) (hw _ (List.mem_of_getElem? (i := 5) rfl)) (by decide) (W := 0) (rm1_a l Z a0 hw (32 : Int32) vv kv w0 w1 we h0 n0 (Nat.le_trans Z0 (Keep.refl h0 []).1) OL SV EV AV SE EE FE L0 L1 rfl) e37 (by decide) (by decide) (by decide) (by decide) (g := (mkF m 75 #[.val (.int pz), .val (.int px), .val (.int (pz &&& (3 : Int32))), .val (.int (32 : Int32)), .val (.ref w0), .unset] [(.int (32 : Int32))])) rfl (by rw [hml]; rfl) (argsL := [(.int (32 : Int32))]) (rest := []) (lenOf pd_5 rfl) rfl (by show 2 * 0 + _ ≤ _; exact Nat.le_of_eq rfl) (hb hby at_75) ?_
    intro v38 T38 L38 X38 hQ38
    obtain ⟨b38, rfl, Nq38, Kc38, eb38, fv38⟩ := hQ38
    have N38 := Fr.app N0 Nq38
    have K38 : Keep h0 T38.heap [] := (Keep.refl h0 []).trans Kc38 all0
    show Run p e below s _ _ _ (T38.setTop (mkF m 78 #[.val (.int pz), .val (.int px), .val (.int (pz &&& (3 : Int32))), .val (.int (32 : Int32)), .val (.ref w0), .unset] [(.ref b38)]))
    refine Run.pre (fun _ k => XS.aconstNull X38.here hx rfl (hb hby at_78) k) ?_
    show Run p e below s _ _ _ (T38.setTop (mkF m 79 #[.val (.int pz), .val (.int px), .val (.int (pz &&& (3 : Int32))), .val (.int (32 : Int32)), .val (.ref w0), .unset] [.null, (.ref b38)]))
    refine Run.callV X38 hx hZ (y := (⟨"java/util/Optional", "orElse", "(Ljava/lang/Object;)Ljava/lang/Object;"⟩ : MethodName)) (z := (⟨"java/util/Optional", "orElse", "(Ljava/lang/Object;)Ljava/lang/Object;"⟩ : MethodName)) hown (hw _ (List.mem_of_getElem? (i := 43) rfl)) (hw _ (List.mem_of_getElem? (i := 44) rfl)) (notFace_of_selects (args := #[]) (mvT hZ (hw _ (List.mem_of_getElem? (i := 46) rfl)))) (hw _ (List.mem_of_getElem? (i := 46) rfl)) (hw _ (List.mem_of_getElem? (i := 45) rfl)) (hw _ (List.mem_of_getElem? (i := 47) rfl)) (hw _ (List.mem_of_getElem? (i := 26) rfl)) (by decide) (b := b38) eb38 (W := 0) (rm7_v l Z a0 hw b38 w0 T38.heap n0 (Nat.le_trans Z0 K38.1) fv38) rfl (by decide) (by decide) (by decide) (by decide) (g := (mkF m 79 #[.val (.int pz), .val (.int px), .val (.int (pz &&& (3 : Int32))), .val (.int (32 : Int32)), .val (.ref w0), .unset] [.null, (.ref b38)])) rfl (by rw [hml]; rfl) (argsL := [.null]) (rest := []) (lenOf pd_0 rfl) rfl (by show 2 * 0 + _ ≤ _; exact Nat.le_of_eq rfl) (hb hby at_79) ?_
    intro v39 T39 L39 X39 hQ39
    obtain ⟨rfl, Nq39, he39⟩ := hQ39
    have N39 := Fr.app N38 Nq39
    have e39 : T39.heap = T38.heap := he39
    show Run p e below s _ _ _ (T39.setTop (mkF m 82 #[.val (.int pz), .val (.int px), .val (.int (pz &&& (3 : Int32))), .val (.int (32 : Int32)), .val (.ref w0), .unset] [(.ref w0)]))
    have f40 := (OL.keep Kc38 all0)
    obtain ⟨T41, X41, e41, st41⟩ := castY X39 hx hZ hown (hw _ (List.mem_of_getElem? (i := 48) rfl)) e39 (Ins.self (E0.ext f40.2)) (g := (mkF m 82 #[.val (.int pz), .val (.int px), .val (.int (pz &&& (3 : Int32))), .val (.int (32 : Int32)), .val (.ref w0), .unset] [(.ref w0)])) rfl rfl (hb hby at_82)
    refine Run.pre st41 ?_
    show Run p e below s _ _ _ (T41.setTop (mkF m 85 #[.val (.int pz), .val (.int px), .val (.int (pz &&& (3 : Int32))), .val (.int (32 : Int32)), .val (.ref w0), .unset] [(.ref w0)]))
    refine Run.pre (fun _ k => XS.astore X41.here hx rfl (hb hby at_85) rfl rfl (l' := #[.val (.int pz), .val (.int px), .val (.int (pz &&& (3 : Int32))), .val (.int (32 : Int32)), .val (.ref w0), .val (.ref w0)]) rfl k) ?_
    show Run p e below s _ _ _ (T41.setTop (mkF m 87 #[.val (.int pz), .val (.int px), .val (.int (pz &&& (3 : Int32))), .val (.int (32 : Int32)), .val (.ref w0), .val (.ref w0)] []))
    refine Run.pre (fun _ k => XS.aload X41.here hx rfl (hb hby at_87) rfl rfl k) ?_
    show Run p e below s _ _ _ (T41.setTop (mkF m 89 #[.val (.int pz), .val (.int px), .val (.int (pz &&& (3 : Int32))), .val (.int (32 : Int32)), .val (.ref w0), .val (.ref w0)] [(.ref w0)]))
    refine Run.pre (fun _ k => XS.aload X41.here hx rfl (hb hby at_89) rfl rfl k) ?_
    show Run p e below s _ _ _ (T41.setTop (mkF m 91 #[.val (.int pz), .val (.int px), .val (.int (pz &&& (3 : Int32))), .val (.int (32 : Int32)), .val (.ref w0), .val (.ref w0)] [(.ref w0), (.ref w0)]))
    refine Run.pre (fun _ k => Jvm.RoadKit.acmp (g := (mkF m 91 #[.val (.int pz), .val (.int px), .val (.int (pz &&& (3 : Int32))), .val (.int (32 : Int32)), .val (.ref w0), .val (.ref w0)] [(.ref w0), (.ref w0)])) X41 hx rfl rfl rfl (pc0 := 91) (pc' := 94) (same := true) rfl (hb hby at_91) rfl (decide_eq_true rfl) (by decide) (by decide) k) ?_
    show Run p e below s _ _ _ (T41.setTop (mkF m 94 #[.val (.int pz), .val (.int px), .val (.int (pz &&& (3 : Int32))), .val (.int (32 : Int32)), .val (.ref w0), .val (.ref w0)] []))
    refine Run.pre (fun _ k => XS.iconst X41.here hx rfl (hb hby at_94) k) ?_
    show Run p e below s _ _ _ (T41.setTop (mkF m 95 #[.val (.int pz), .val (.int px), .val (.int (pz &&& (3 : Int32))), .val (.int (32 : Int32)), .val (.ref w0), .val (.ref w0)] [(.int (1 : Int32))]))
    refine Run.pre (fun _ k => XS.goto X41.here hx rfl (pc0 := 95) (pc' := 99) rfl (hb hby at_95) (by decide) (by decide) k) ?_
    show Run p e below s _ _ _ (T41.setTop (mkF m 99 #[.val (.int pz), .val (.int px), .val (.int (pz &&& (3 : Int32))), .val (.int (32 : Int32)), .val (.ref w0), .val (.ref w0)] [(.int (1 : Int32))]))
    exact Run.retN X41 hx hret (t := .boolean) (by simp) hlk (hb hby at_99) (by first | (rw [e41]; exact ⟨rfl, N39⟩) | exact ⟨rfl, N39⟩) (by decide) (by decide)
  · skip
    refine Run.pre (fun _ k => XS.ifYes X0.here hx rfl (pc0 := 5) (pc' := 14) rfl (hb hby at_5) rfl ((if0 _ _).trans (feq (hc36 : ¬ ((pz &&& (3 : Int32)) = (0 : Int32)))).2) (by decide) (by decide) k) ?_
    show Run p e below s _ _ _ (s₁.setTop (mkF m 14 #[.val (.int pz), .val (.int px), .val (.int (pz &&& (3 : Int32))), .unset, .unset, .unset] []))
    refine Run.pre (fun _ k => XS.iloadN X0.here hx rfl (hb hby at_14) rfl  k) ?_
    show Run p e below s _ _ _ (s₁.setTop (mkF m 15 #[.val (.int pz), .val (.int px), .val (.int (pz &&& (3 : Int32))), .unset, .unset, .unset] [(.int (pz &&& (3 : Int32)))]))
    refine Run.pre (fun _ k => XS.iconst X0.here hx rfl (hb hby at_15) k) ?_
    show Run p e below s _ _ _ (s₁.setTop (mkF m 16 #[.val (.int pz), .val (.int px), .val (.int (pz &&& (3 : Int32))), .unset, .unset, .unset] [(.int (1 : Int32)), (.int (pz &&& (3 : Int32)))]))
    by_cases hc42 : (pz &&& (3 : Int32)) = (1 : Int32)
    · skip
      refine Run.pre (fun _ k => XS.icmpNo X0.here hx rfl (hb hby at_16) rfl (teq (hc42 : (pz &&& (3 : Int32)) = (1 : Int32))).2 k) ?_
      show Run p e below s _ _ _ (s₁.setTop (mkF m 19 #[.val (.int pz), .val (.int px), .val (.int (pz &&& (3 : Int32))), .unset, .unset, .unset] []))
      refine Run.pre (fun _ k => XS.bipush X0.here hx rfl (hb hby at_19) k) ?_
      show Run p e below s _ _ _ (s₁.setTop (mkF m 21 #[.val (.int pz), .val (.int px), .val (.int (pz &&& (3 : Int32))), .unset, .unset, .unset] [(.int (64 : Int32))]))
      refine Run.pre (fun _ k => XS.istoreN X0.here hx rfl (hb hby at_21) rfl (l' := #[.val (.int pz), .val (.int px), .val (.int (pz &&& (3 : Int32))), .val (.int (64 : Int32)), .unset, .unset]) rfl k) ?_
      show Run p e below s _ _ _ (s₁.setTop (mkF m 22 #[.val (.int pz), .val (.int px), .val (.int (pz &&& (3 : Int32))), .val (.int (64 : Int32)), .unset, .unset] []))
      refine Run.pre (fun _ k => XS.goto X0.here hx rfl (pc0 := 22) (pc' := 43) rfl (hb hby at_22) (by decide) (by decide) k) ?_
      show Run p e below s _ _ _ (s₁.setTop (mkF m 43 #[.val (.int pz), .val (.int px), .val (.int (pz &&& (3 : Int32))), .val (.int (64 : Int32)), .unset, .unset] []))
      refine Run.pre (fun _ k => XS.iloadN X0.here hx rfl (hb hby at_43) rfl  k) ?_
      show Run p e below s _ _ _ (s₁.setTop (mkF m 44 #[.val (.int pz), .val (.int px), .val (.int (pz &&& (3 : Int32))), .val (.int (64 : Int32)), .unset, .unset] [(.int (64 : Int32))]))
      refine Run.pre (fun _ k => XS.bipush X0.here hx rfl (hb hby at_44) k) ?_
      show Run p e below s _ _ _ (s₁.setTop (mkF m 46 #[.val (.int pz), .val (.int px), .val (.int (pz &&& (3 : Int32))), .val (.int (64 : Int32)), .unset, .unset] [(.int (32 : Int32)), (.int (64 : Int32))]))
      refine Run.pre (fun _ k => XS.icmpYes X0.here hx rfl (pc0 := 46) (pc' := 57) rfl (hb hby at_46) rfl (feq ((by decide) : ¬ ((64 : Int32) = (32 : Int32)))).2 (by decide) (by decide) k) ?_
      show Run p e below s _ _ _ (s₁.setTop (mkF m 57 #[.val (.int pz), .val (.int px), .val (.int (pz &&& (3 : Int32))), .val (.int (64 : Int32)), .unset, .unset] []))
      refine Run.pre (fun _ k => XS.iloadN X0.here hx rfl (hb hby at_57) rfl  k) ?_
      show Run p e below s _ _ _ (s₁.setTop (mkF m 58 #[.val (.int pz), .val (.int px), .val (.int (pz &&& (3 : Int32))), .val (.int (64 : Int32)), .unset, .unset] [(.int (64 : Int32))]))
      refine Run.pre (fun _ k => XS.bipush X0.here hx rfl (hb hby at_58) k) ?_
      show Run p e below s _ _ _ (s₁.setTop (mkF m 60 #[.val (.int pz), .val (.int px), .val (.int (pz &&& (3 : Int32))), .val (.int (64 : Int32)), .unset, .unset] [(.int (64 : Int32)), (.int (64 : Int32))]))
      refine Run.pre (fun _ k => XS.icmpNo X0.here hx rfl (hb hby at_60) rfl (teq ((by decide) : (64 : Int32) = (64 : Int32))).2 k) ?_
      show Run p e below s _ _ _ (s₁.setTop (mkF m 63 #[.val (.int pz), .val (.int px), .val (.int (pz &&& (3 : Int32))), .val (.int (64 : Int32)), .unset, .unset] []))
      obtain ⟨T43, X43, e43, st43⟩ := getS2 X0 hx hZ hown (host := "") (Or.inl (hw _ (List.mem_of_getElem? (i := 54) rfl))) Via.refl e0 (S1.ext OL.2) (g := (mkF m 63 #[.val (.int pz), .val (.int px), .val (.int (pz &&& (3 : Int32))), .val (.int (64 : Int32)), .unset, .unset] [])) rfl (hb hby at_63)
      refine Run.pre st43 ?_
      show Run p e below s _ _ _ (T43.setTop (mkF m 66 #[.val (.int pz), .val (.int px), .val (.int (pz &&& (3 : Int32))), .val (.int (64 : Int32)), .unset, .unset] [(.ref w1)]))
      refine Run.pre (fun _ k => XS.astore X43.here hx rfl (hb hby at_66) rfl rfl (l' := #[.val (.int pz), .val (.int px), .val (.int (pz &&& (3 : Int32))), .val (.int (64 : Int32)), .val (.ref w1), .unset]) rfl k) ?_
      show Run p e below s _ _ _ (T43.setTop (mkF m 68 #[.val (.int pz), .val (.int px), .val (.int (pz &&& (3 : Int32))), .val (.int (64 : Int32)), .val (.ref w1), .unset] []))
      refine Run.pre (fun _ k => XS.goto X43.here hx rfl (pc0 := 68) (pc' := 74) rfl (hb hby at_68) (by decide) (by decide) k) ?_
      show Run p e below s _ _ _ (T43.setTop (mkF m 74 #[.val (.int pz), .val (.int px), .val (.int (pz &&& (3 : Int32))), .val (.int (64 : Int32)), .val (.ref w1), .unset] []))
      refine Run.pre (fun _ k => XS.iloadN X43.here hx rfl (hb hby at_74) rfl  k) ?_
      show Run p e below s _ _ _ (T43.setTop (mkF m 75 #[.val (.int pz), .val (.int px), .val (.int (pz &&& (3 : Int32))), .val (.int (64 : Int32)), .val (.ref w1), .unset] [(.int (64 : Int32))]))
      refine Run.callS X43 hx hZ (y := (⟨"com/example/portcullis/portcullis/digest/DigestAlgorithm", "fromHexLength", "(I)Ljava/util/Optional;"⟩ : MethodName)) hown (hw _ (List.mem_of_getElem? (i := 3) rfl)) (hw _ (List.mem_of_getElem? (i := 4) rfl)) (hw _ (List.mem_of_getElem? (i := 1) rfl)) (hw _ (List.mem_of_getElem? (i := 5) rfl)) (by decide) (W := 0) (rm1_b l Z a0 hw (64 : Int32) vv kv w0 w1 we h0 n0 (Nat.le_trans Z0 (Keep.refl h0 []).1) OL SV EV AV SE EE FE L0 L1 rfl) e43 (by decide) (by decide) (by decide) (by decide) (g := (mkF m 75 #[.val (.int pz), .val (.int px), .val (.int (pz &&& (3 : Int32))), .val (.int (64 : Int32)), .val (.ref w1), .unset] [(.int (64 : Int32))])) rfl (by rw [hml]; rfl) (argsL := [(.int (64 : Int32))]) (rest := []) (lenOf pd_5 rfl) rfl (by show 2 * 0 + _ ≤ _; exact Nat.le_of_eq rfl) (hb hby at_75) ?_
      intro v44 T44 L44 X44 hQ44
      obtain ⟨b44, rfl, Nq44, Kc44, eb44, fv44⟩ := hQ44
      have N44 := Fr.app N0 Nq44
      have K44 : Keep h0 T44.heap [] := (Keep.refl h0 []).trans Kc44 all0
      show Run p e below s _ _ _ (T44.setTop (mkF m 78 #[.val (.int pz), .val (.int px), .val (.int (pz &&& (3 : Int32))), .val (.int (64 : Int32)), .val (.ref w1), .unset] [(.ref b44)]))
      refine Run.pre (fun _ k => XS.aconstNull X44.here hx rfl (hb hby at_78) k) ?_
      show Run p e below s _ _ _ (T44.setTop (mkF m 79 #[.val (.int pz), .val (.int px), .val (.int (pz &&& (3 : Int32))), .val (.int (64 : Int32)), .val (.ref w1), .unset] [.null, (.ref b44)]))
      refine Run.callV X44 hx hZ (y := (⟨"java/util/Optional", "orElse", "(Ljava/lang/Object;)Ljava/lang/Object;"⟩ : MethodName)) (z := (⟨"java/util/Optional", "orElse", "(Ljava/lang/Object;)Ljava/lang/Object;"⟩ : MethodName)) hown (hw _ (List.mem_of_getElem? (i := 43) rfl)) (hw _ (List.mem_of_getElem? (i := 44) rfl)) (notFace_of_selects (args := #[]) (mvT hZ (hw _ (List.mem_of_getElem? (i := 46) rfl)))) (hw _ (List.mem_of_getElem? (i := 46) rfl)) (hw _ (List.mem_of_getElem? (i := 45) rfl)) (hw _ (List.mem_of_getElem? (i := 47) rfl)) (hw _ (List.mem_of_getElem? (i := 26) rfl)) (by decide) (b := b44) eb44 (W := 0) (rm7_v l Z a0 hw b44 w1 T44.heap n0 (Nat.le_trans Z0 K44.1) fv44) rfl (by decide) (by decide) (by decide) (by decide) (g := (mkF m 79 #[.val (.int pz), .val (.int px), .val (.int (pz &&& (3 : Int32))), .val (.int (64 : Int32)), .val (.ref w1), .unset] [.null, (.ref b44)])) rfl (by rw [hml]; rfl) (argsL := [.null]) (rest := []) (lenOf pd_0 rfl) rfl (by show 2 * 0 + _ ≤ _; exact Nat.le_of_eq rfl) (hb hby at_79) ?_
      intro v45 T45 L45 X45 hQ45
      obtain ⟨rfl, Nq45, he45⟩ := hQ45
      have N45 := Fr.app N44 Nq45
      have e45 : T45.heap = T44.heap := he45
      show Run p e below s _ _ _ (T45.setTop (mkF m 82 #[.val (.int pz), .val (.int px), .val (.int (pz &&& (3 : Int32))), .val (.int (64 : Int32)), .val (.ref w1), .unset] [(.ref w1)]))
      have f46 := (OL.keep Kc44 all0)
      obtain ⟨T47, X47, e47, st47⟩ := castY X45 hx hZ hown (hw _ (List.mem_of_getElem? (i := 48) rfl)) e45 (Ins.self (E1.ext f46.2)) (g := (mkF m 82 #[.val (.int pz), .val (.int px), .val (.int (pz &&& (3 : Int32))), .val (.int (64 : Int32)), .val (.ref w1), .unset] [(.ref w1)])) rfl rfl (hb hby at_82)
      refine Run.pre st47 ?_
      show Run p e below s _ _ _ (T47.setTop (mkF m 85 #[.val (.int pz), .val (.int px), .val (.int (pz &&& (3 : Int32))), .val (.int (64 : Int32)), .val (.ref w1), .unset] [(.ref w1)]))
      refine Run.pre (fun _ k => XS.astore X47.here hx rfl (hb hby at_85) rfl rfl (l' := #[.val (.int pz), .val (.int px), .val (.int (pz &&& (3 : Int32))), .val (.int (64 : Int32)), .val (.ref w1), .val (.ref w1)]) rfl k) ?_
      show Run p e below s _ _ _ (T47.setTop (mkF m 87 #[.val (.int pz), .val (.int px), .val (.int (pz &&& (3 : Int32))), .val (.int (64 : Int32)), .val (.ref w1), .val (.ref w1)] []))
      refine Run.pre (fun _ k => XS.aload X47.here hx rfl (hb hby at_87) rfl rfl k) ?_
      show Run p e below s _ _ _ (T47.setTop (mkF m 89 #[.val (.int pz), .val (.int px), .val (.int (pz &&& (3 : Int32))), .val (.int (64 : Int32)), .val (.ref w1), .val (.ref w1)] [(.ref w1)]))
      refine Run.pre (fun _ k => XS.aload X47.here hx rfl (hb hby at_89) rfl rfl k) ?_
      show Run p e below s _ _ _ (T47.setTop (mkF m 91 #[.val (.int pz), .val (.int px), .val (.int (pz &&& (3 : Int32))), .val (.int (64 : Int32)), .val (.ref w1), .val (.ref w1)] [(.ref w1), (.ref w1)]))
      refine Run.pre (fun _ k => Jvm.RoadKit.acmp (g := (mkF m 91 #[.val (.int pz), .val (.int px), .val (.int (pz &&& (3 : Int32))), .val (.int (64 : Int32)), .val (.ref w1), .val (.ref w1)] [(.ref w1), (.ref w1)])) X47 hx rfl rfl rfl (pc0 := 91) (pc' := 94) (same := true) rfl (hb hby at_91) rfl (decide_eq_true rfl) (by decide) (by decide) k) ?_
      show Run p e below s _ _ _ (T47.setTop (mkF m 94 #[.val (.int pz), .val (.int px), .val (.int (pz &&& (3 : Int32))), .val (.int (64 : Int32)), .val (.ref w1), .val (.ref w1)] []))
      refine Run.pre (fun _ k => XS.iconst X47.here hx rfl (hb hby at_94) k) ?_
      show Run p e below s _ _ _ (T47.setTop (mkF m 95 #[.val (.int pz), .val (.int px), .val (.int (pz &&& (3 : Int32))), .val (.int (64 : Int32)), .val (.ref w1), .val (.ref w1)] [(.int (1 : Int32))]))
      refine Run.pre (fun _ k => XS.goto X47.here hx rfl (pc0 := 95) (pc' := 99) rfl (hb hby at_95) (by decide) (by decide) k) ?_
      show Run p e below s _ _ _ (T47.setTop (mkF m 99 #[.val (.int pz), .val (.int px), .val (.int (pz &&& (3 : Int32))), .val (.int (64 : Int32)), .val (.ref w1), .val (.ref w1)] [(.int (1 : Int32))]))
      exact Run.retN X47 hx hret (t := .boolean) (by simp) hlk (hb hby at_99) (by first | (rw [e47]; exact ⟨rfl, N45⟩) | exact ⟨rfl, N45⟩) (by decide) (by decide)
    · skip
      refine Run.pre (fun _ k => XS.icmpYes X0.here hx rfl (pc0 := 16) (pc' := 25) rfl (hb hby at_16) rfl (feq (hc42 : ¬ ((pz &&& (3 : Int32)) = (1 : Int32)))).2 (by decide) (by decide) k) ?_
      show Run p e below s _ _ _ (s₁.setTop (mkF m 25 #[.val (.int pz), .val (.int px), .val (.int (pz &&& (3 : Int32))), .unset, .unset, .unset] []))
      refine Run.pre (fun _ k => XS.iloadN X0.here hx rfl (hb hby at_25) rfl  k) ?_
      show Run p e below s _ _ _ (s₁.setTop (mkF m 26 #[.val (.int pz), .val (.int px), .val (.int (pz &&& (3 : Int32))), .unset, .unset, .unset] [(.int (pz &&& (3 : Int32)))]))
      refine Run.pre (fun _ k => XS.iconst X0.here hx rfl (hb hby at_26) k) ?_
      show Run p e below s _ _ _ (s₁.setTop (mkF m 27 #[.val (.int pz), .val (.int px), .val (.int (pz &&& (3 : Int32))), .unset, .unset, .unset] [(.int (2 : Int32)), (.int (pz &&& (3 : Int32)))]))
      by_cases hc48 : (pz &&& (3 : Int32)) = (2 : Int32)
      · skip
        refine Run.pre (fun _ k => XS.icmpNo X0.here hx rfl (hb hby at_27) rfl (teq (hc48 : (pz &&& (3 : Int32)) = (2 : Int32))).2 k) ?_
        show Run p e below s _ _ _ (s₁.setTop (mkF m 30 #[.val (.int pz), .val (.int px), .val (.int (pz &&& (3 : Int32))), .unset, .unset, .unset] []))
        refine Run.pre (fun _ k => XS.bipush X0.here hx rfl (hb hby at_30) k) ?_
        show Run p e below s _ _ _ (s₁.setTop (mkF m 32 #[.val (.int pz), .val (.int px), .val (.int (pz &&& (3 : Int32))), .unset, .unset, .unset] [(.int (16 : Int32))]))
        refine Run.pre (fun _ k => XS.iloadN X0.here hx rfl (hb hby at_32) rfl  k) ?_
        show Run p e below s _ _ _ (s₁.setTop (mkF m 33 #[.val (.int pz), .val (.int px), .val (.int (pz &&& (3 : Int32))), .unset, .unset, .unset] [(.int px), (.int (16 : Int32))]))
        refine Run.pre (fun _ k => XS.bipush X0.here hx rfl (hb hby at_33) k) ?_
        show Run p e below s _ _ _ (s₁.setTop (mkF m 35 #[.val (.int pz), .val (.int px), .val (.int (pz &&& (3 : Int32))), .unset, .unset, .unset] [(.int (63 : Int32)), (.int px), (.int (16 : Int32))]))
        refine Run.pre (fun _ k => XS.iand X0.here hx rfl (hb hby at_35) rfl k) ?_
        show Run p e below s _ _ _ (s₁.setTop (mkF m 36 #[.val (.int pz), .val (.int px), .val (.int (pz &&& (3 : Int32))), .unset, .unset, .unset] [(.int (px &&& (63 : Int32))), (.int (16 : Int32))]))
        refine Run.pre (fun _ k => XS.iadd X0.here hx rfl (hb hby at_36) rfl k) ?_
        show Run p e below s _ _ _ (s₁.setTop (mkF m 37 #[.val (.int pz), .val (.int px), .val (.int (pz &&& (3 : Int32))), .unset, .unset, .unset] [(.int ((16 : Int32) + (px &&& (63 : Int32))))]))
        refine Run.pre (fun _ k => XS.istoreN X0.here hx rfl (hb hby at_37) rfl (l' := #[.val (.int pz), .val (.int px), .val (.int (pz &&& (3 : Int32))), .val (.int ((16 : Int32) + (px &&& (63 : Int32)))), .unset, .unset]) rfl k) ?_
        show Run p e below s _ _ _ (s₁.setTop (mkF m 38 #[.val (.int pz), .val (.int px), .val (.int (pz &&& (3 : Int32))), .val (.int ((16 : Int32) + (px &&& (63 : Int32)))), .unset, .unset] []))
        refine Run.pre (fun _ k => XS.goto X0.here hx rfl (pc0 := 38) (pc' := 43) rfl (hb hby at_38) (by decide) (by decide) k) ?_
        show Run p e below s _ _ _ (s₁.setTop (mkF m 43 #[.val (.int pz), .val (.int px), .val (.int (pz &&& (3 : Int32))), .val (.int ((16 : Int32) + (px &&& (63 : Int32)))), .unset, .unset] []))
        refine Run.pre (fun _ k => XS.iloadN X0.here hx rfl (hb hby at_43) rfl  k) ?_
        show Run p e below s _ _ _ (s₁.setTop (mkF m 44 #[.val (.int pz), .val (.int px), .val (.int (pz &&& (3 : Int32))), .val (.int ((16 : Int32) + (px &&& (63 : Int32)))), .unset, .unset] [(.int ((16 : Int32) + (px &&& (63 : Int32))))]))
        refine Run.pre (fun _ k => XS.bipush X0.here hx rfl (hb hby at_44) k) ?_
        show Run p e below s _ _ _ (s₁.setTop (mkF m 46 #[.val (.int pz), .val (.int px), .val (.int (pz &&& (3 : Int32))), .val (.int ((16 : Int32) + (px &&& (63 : Int32)))), .unset, .unset] [(.int (32 : Int32)), (.int ((16 : Int32) + (px &&& (63 : Int32))))]))
        by_cases hc49 : ((16 : Int32) + (px &&& (63 : Int32))) = (32 : Int32)
        · skip
          refine Run.pre (fun _ k => XS.icmpNo X0.here hx rfl (hb hby at_46) rfl (teq (hc49 : ((16 : Int32) + (px &&& (63 : Int32))) = (32 : Int32))).2 k) ?_
          show Run p e below s _ _ _ (s₁.setTop (mkF m 49 #[.val (.int pz), .val (.int px), .val (.int (pz &&& (3 : Int32))), .val (.int ((16 : Int32) + (px &&& (63 : Int32)))), .unset, .unset] []))
          obtain ⟨T50, X50, e50, st50⟩ := getS2 X0 hx hZ hown (host := "") (Or.inl (hw _ (List.mem_of_getElem? (i := 0) rfl))) Via.refl e0 (S0.ext OL.2) (g := (mkF m 49 #[.val (.int pz), .val (.int px), .val (.int (pz &&& (3 : Int32))), .val (.int ((16 : Int32) + (px &&& (63 : Int32)))), .unset, .unset] [])) rfl (hb hby at_49)
          refine Run.pre st50 ?_
          show Run p e below s _ _ _ (T50.setTop (mkF m 52 #[.val (.int pz), .val (.int px), .val (.int (pz &&& (3 : Int32))), .val (.int ((16 : Int32) + (px &&& (63 : Int32)))), .unset, .unset] [(.ref w0)]))
          refine Run.pre (fun _ k => XS.astore X50.here hx rfl (hb hby at_52) rfl rfl (l' := #[.val (.int pz), .val (.int px), .val (.int (pz &&& (3 : Int32))), .val (.int ((16 : Int32) + (px &&& (63 : Int32)))), .val (.ref w0), .unset]) rfl k) ?_
          show Run p e below s _ _ _ (T50.setTop (mkF m 54 #[.val (.int pz), .val (.int px), .val (.int (pz &&& (3 : Int32))), .val (.int ((16 : Int32) + (px &&& (63 : Int32)))), .val (.ref w0), .unset] []))
          refine Run.pre (fun _ k => XS.goto X50.here hx rfl (pc0 := 54) (pc' := 74) rfl (hb hby at_54) (by decide) (by decide) k) ?_
          show Run p e below s _ _ _ (T50.setTop (mkF m 74 #[.val (.int pz), .val (.int px), .val (.int (pz &&& (3 : Int32))), .val (.int ((16 : Int32) + (px &&& (63 : Int32)))), .val (.ref w0), .unset] []))
          refine Run.pre (fun _ k => XS.iloadN X50.here hx rfl (hb hby at_74) rfl  k) ?_
          show Run p e below s _ _ _ (T50.setTop (mkF m 75 #[.val (.int pz), .val (.int px), .val (.int (pz &&& (3 : Int32))), .val (.int ((16 : Int32) + (px &&& (63 : Int32)))), .val (.ref w0), .unset] [(.int ((16 : Int32) + (px &&& (63 : Int32))))]))
          refine Run.callS X50 hx hZ (y := (⟨"com/example/portcullis/portcullis/digest/DigestAlgorithm", "fromHexLength", "(I)Ljava/util/Optional;"⟩ : MethodName)) hown (hw _ (List.mem_of_getElem? (i := 3) rfl)) (hw _ (List.mem_of_getElem? (i := 4) rfl)) (hw _ (List.mem_of_getElem? (i := 1) rfl)) (hw _ (List.mem_of_getElem? (i := 5) rfl)) (by decide) (W := 0) (rm1_a l Z a0 hw ((16 : Int32) + (px &&& (63 : Int32))) vv kv w0 w1 we h0 n0 (Nat.le_trans Z0 (Keep.refl h0 []).1) OL SV EV AV SE EE FE L0 L1 hc49) e50 (by decide) (by decide) (by decide) (by decide) (g := (mkF m 75 #[.val (.int pz), .val (.int px), .val (.int (pz &&& (3 : Int32))), .val (.int ((16 : Int32) + (px &&& (63 : Int32)))), .val (.ref w0), .unset] [(.int ((16 : Int32) + (px &&& (63 : Int32))))])) rfl (by rw [hml]; rfl) (argsL := [(.int ((16 : Int32) + (px &&& (63 : Int32))))]) (rest := []) (lenOf pd_5 rfl) rfl (by show 2 * 0 + _ ≤ _; exact Nat.le_of_eq rfl) (hb hby at_75) ?_
          intro v51 T51 L51 X51 hQ51
          obtain ⟨b51, rfl, Nq51, Kc51, eb51, fv51⟩ := hQ51
          have N51 := Fr.app N0 Nq51
          have K51 : Keep h0 T51.heap [] := (Keep.refl h0 []).trans Kc51 all0
          show Run p e below s _ _ _ (T51.setTop (mkF m 78 #[.val (.int pz), .val (.int px), .val (.int (pz &&& (3 : Int32))), .val (.int ((16 : Int32) + (px &&& (63 : Int32)))), .val (.ref w0), .unset] [(.ref b51)]))
          refine Run.pre (fun _ k => XS.aconstNull X51.here hx rfl (hb hby at_78) k) ?_
          show Run p e below s _ _ _ (T51.setTop (mkF m 79 #[.val (.int pz), .val (.int px), .val (.int (pz &&& (3 : Int32))), .val (.int ((16 : Int32) + (px &&& (63 : Int32)))), .val (.ref w0), .unset] [.null, (.ref b51)]))
          refine Run.callV X51 hx hZ (y := (⟨"java/util/Optional", "orElse", "(Ljava/lang/Object;)Ljava/lang/Object;"⟩ : MethodName)) (z := (⟨"java/util/Optional", "orElse", "(Ljava/lang/Object;)Ljava/lang/Object;"⟩ : MethodName)) hown (hw _ (List.mem_of_getElem? (i := 43) rfl)) (hw _ (List.mem_of_getElem? (i := 44) rfl)) (notFace_of_selects (args := #[]) (mvT hZ (hw _ (List.mem_of_getElem? (i := 46) rfl)))) (hw _ (List.mem_of_getElem? (i := 46) rfl)) (hw _ (List.mem_of_getElem? (i := 45) rfl)) (hw _ (List.mem_of_getElem? (i := 47) rfl)) (hw _ (List.mem_of_getElem? (i := 26) rfl)) (by decide) (b := b51) eb51 (W := 0) (rm7_v l Z a0 hw b51 w0 T51.heap n0 (Nat.le_trans Z0 K51.1) fv51) rfl (by decide) (by decide) (by decide) (by decide) (g := (mkF m 79 #[.val (.int pz), .val (.int px), .val (.int (pz &&& (3 : Int32))), .val (.int ((16 : Int32) + (px &&& (63 : Int32)))), .val (.ref w0), .unset] [.null, (.ref b51)])) rfl (by rw [hml]; rfl) (argsL := [.null]) (rest := []) (lenOf pd_0 rfl) rfl (by show 2 * 0 + _ ≤ _; exact Nat.le_of_eq rfl) (hb hby at_79) ?_
          intro v52 T52 L52 X52 hQ52
          obtain ⟨rfl, Nq52, he52⟩ := hQ52
          have N52 := Fr.app N51 Nq52
          have e52 : T52.heap = T51.heap := he52
          show Run p e below s _ _ _ (T52.setTop (mkF m 82 #[.val (.int pz), .val (.int px), .val (.int (pz &&& (3 : Int32))), .val (.int ((16 : Int32) + (px &&& (63 : Int32)))), .val (.ref w0), .unset] [(.ref w0)]))
          have f53 := (OL.keep Kc51 all0)
          obtain ⟨T54, X54, e54, st54⟩ := castY X52 hx hZ hown (hw _ (List.mem_of_getElem? (i := 48) rfl)) e52 (Ins.self (E0.ext f53.2)) (g := (mkF m 82 #[.val (.int pz), .val (.int px), .val (.int (pz &&& (3 : Int32))), .val (.int ((16 : Int32) + (px &&& (63 : Int32)))), .val (.ref w0), .unset] [(.ref w0)])) rfl rfl (hb hby at_82)
          refine Run.pre st54 ?_
          show Run p e below s _ _ _ (T54.setTop (mkF m 85 #[.val (.int pz), .val (.int px), .val (.int (pz &&& (3 : Int32))), .val (.int ((16 : Int32) + (px &&& (63 : Int32)))), .val (.ref w0), .unset] [(.ref w0)]))
          refine Run.pre (fun _ k => XS.astore X54.here hx rfl (hb hby at_85) rfl rfl (l' := #[.val (.int pz), .val (.int px), .val (.int (pz &&& (3 : Int32))), .val (.int ((16 : Int32) + (px &&& (63 : Int32)))), .val (.ref w0), .val (.ref w0)]) rfl k) ?_
          show Run p e below s _ _ _ (T54.setTop (mkF m 87 #[.val (.int pz), .val (.int px), .val (.int (pz &&& (3 : Int32))), .val (.int ((16 : Int32) + (px &&& (63 : Int32)))), .val (.ref w0), .val (.ref w0)] []))
          refine Run.pre (fun _ k => XS.aload X54.here hx rfl (hb hby at_87) rfl rfl k) ?_
          show Run p e below s _ _ _ (T54.setTop (mkF m 89 #[.val (.int pz), .val (.int px), .val (.int (pz &&& (3 : Int32))), .val (.int ((16 : Int32) + (px &&& (63 : Int32)))), .val (.ref w0), .val (.ref w0)] [(.ref w0)]))
          refine Run.pre (fun _ k => XS.aload X54.here hx rfl (hb hby at_89) rfl rfl k) ?_
          show Run p e below s _ _ _ (T54.setTop (mkF m 91 #[.val (.int pz), .val (.int px), .val (.int (pz &&& (3 : Int32))), .val (.int ((16 : Int32) + (px &&& (63 : Int32)))), .val (.ref w0), .val (.ref w0)] [(.ref w0), (.ref w0)]))
          refine Run.pre (fun _ k => Jvm.RoadKit.acmp (g := (mkF m 91 #[.val (.int pz), .val (.int px), .val (.int (pz &&& (3 : Int32))), .val (.int ((16 : Int32) + (px &&& (63 : Int32)))), .val (.ref w0), .val (.ref w0)] [(.ref w0), (.ref w0)])) X54 hx rfl rfl rfl (pc0 := 91) (pc' := 94) (same := true) rfl (hb hby at_91) rfl (decide_eq_true rfl) (by decide) (by decide) k) ?_
          show Run p e below s _ _ _ (T54.setTop (mkF m 94 #[.val (.int pz), .val (.int px), .val (.int (pz &&& (3 : Int32))), .val (.int ((16 : Int32) + (px &&& (63 : Int32)))), .val (.ref w0), .val (.ref w0)] []))
          refine Run.pre (fun _ k => XS.iconst X54.here hx rfl (hb hby at_94) k) ?_
          show Run p e below s _ _ _ (T54.setTop (mkF m 95 #[.val (.int pz), .val (.int px), .val (.int (pz &&& (3 : Int32))), .val (.int ((16 : Int32) + (px &&& (63 : Int32)))), .val (.ref w0), .val (.ref w0)] [(.int (1 : Int32))]))
          refine Run.pre (fun _ k => XS.goto X54.here hx rfl (pc0 := 95) (pc' := 99) rfl (hb hby at_95) (by decide) (by decide) k) ?_
          show Run p e below s _ _ _ (T54.setTop (mkF m 99 #[.val (.int pz), .val (.int px), .val (.int (pz &&& (3 : Int32))), .val (.int ((16 : Int32) + (px &&& (63 : Int32)))), .val (.ref w0), .val (.ref w0)] [(.int (1 : Int32))]))
          exact Run.retN X54 hx hret (t := .boolean) (by simp) hlk (hb hby at_99) (by first | (rw [e54]; exact ⟨rfl, N52⟩) | exact ⟨rfl, N52⟩) (by decide) (by decide)
        · skip
          refine Run.pre (fun _ k => XS.icmpYes X0.here hx rfl (pc0 := 46) (pc' := 57) rfl (hb hby at_46) rfl (feq (hc49 : ¬ (((16 : Int32) + (px &&& (63 : Int32))) = (32 : Int32)))).2 (by decide) (by decide) k) ?_
          show Run p e below s _ _ _ (s₁.setTop (mkF m 57 #[.val (.int pz), .val (.int px), .val (.int (pz &&& (3 : Int32))), .val (.int ((16 : Int32) + (px &&& (63 : Int32)))), .unset, .unset] []))
          refine Run.pre (fun _ k => XS.iloadN X0.here hx rfl (hb hby at_57) rfl  k) ?_
          show Run p e below s _ _ _ (s₁.setTop (mkF m 58 #[.val (.int pz), .val (.int px), .val (.int (pz &&& (3 : Int32))), .val (.int ((16 : Int32) + (px &&& (63 : Int32)))), .unset, .unset] [(.int ((16 : Int32) + (px &&& (63 : Int32))))]))
          refine Run.pre (fun _ k => XS.bipush X0.here hx rfl (hb hby at_58) k) ?_
          show Run p e below s _ _ _ (s₁.setTop (mkF m 60 #[.val (.int pz), .val (.int px), .val (.int (pz &&& (3 : Int32))), .val (.int ((16 : Int32) + (px &&& (63 : Int32)))), .unset, .unset] [(.int (64 : Int32)), (.int ((16 : Int32) + (px &&& (63 : Int32))))]))
          by_cases hc55 : ((16 : Int32) + (px &&& (63 : Int32))) = (64 : Int32)
          · skip
            refine Run.pre (fun _ k => XS.icmpNo X0.here hx rfl (hb hby at_60) rfl (teq (hc55 : ((16 : Int32) + (px &&& (63 : Int32))) = (64 : Int32))).2 k) ?_
            show Run p e below s _ _ _ (s₁.setTop (mkF m 63 #[.val (.int pz), .val (.int px), .val (.int (pz &&& (3 : Int32))), .val (.int ((16 : Int32) + (px &&& (63 : Int32)))), .unset, .unset] []))
            obtain ⟨T56, X56, e56, st56⟩ := getS2 X0 hx hZ hown (host := "") (Or.inl (hw _ (List.mem_of_getElem? (i := 54) rfl))) Via.refl e0 (S1.ext OL.2) (g := (mkF m 63 #[.val (.int pz), .val (.int px), .val (.int (pz &&& (3 : Int32))), .val (.int ((16 : Int32) + (px &&& (63 : Int32)))), .unset, .unset] [])) rfl (hb hby at_63)
            refine Run.pre st56 ?_
            show Run p e below s _ _ _ (T56.setTop (mkF m 66 #[.val (.int pz), .val (.int px), .val (.int (pz &&& (3 : Int32))), .val (.int ((16 : Int32) + (px &&& (63 : Int32)))), .unset, .unset] [(.ref w1)]))
            refine Run.pre (fun _ k => XS.astore X56.here hx rfl (hb hby at_66) rfl rfl (l' := #[.val (.int pz), .val (.int px), .val (.int (pz &&& (3 : Int32))), .val (.int ((16 : Int32) + (px &&& (63 : Int32)))), .val (.ref w1), .unset]) rfl k) ?_
            show Run p e below s _ _ _ (T56.setTop (mkF m 68 #[.val (.int pz), .val (.int px), .val (.int (pz &&& (3 : Int32))), .val (.int ((16 : Int32) + (px &&& (63 : Int32)))), .val (.ref w1), .unset] []))
            refine Run.pre (fun _ k => XS.goto X56.here hx rfl (pc0 := 68) (pc' := 74) rfl (hb hby at_68) (by decide) (by decide) k) ?_
            show Run p e below s _ _ _ (T56.setTop (mkF m 74 #[.val (.int pz), .val (.int px), .val (.int (pz &&& (3 : Int32))), .val (.int ((16 : Int32) + (px &&& (63 : Int32)))), .val (.ref w1), .unset] []))
            refine Run.pre (fun _ k => XS.iloadN X56.here hx rfl (hb hby at_74) rfl  k) ?_
            show Run p e below s _ _ _ (T56.setTop (mkF m 75 #[.val (.int pz), .val (.int px), .val (.int (pz &&& (3 : Int32))), .val (.int ((16 : Int32) + (px &&& (63 : Int32)))), .val (.ref w1), .unset] [(.int ((16 : Int32) + (px &&& (63 : Int32))))]))
            refine Run.callS X56 hx hZ (y := (⟨"com/example/portcullis/portcullis/digest/DigestAlgorithm", "fromHexLength", "(I)Ljava/util/Optional;"⟩ : MethodName)) hown (hw _ (List.mem_of_getElem? (i := 3) rfl)) (hw _ (List.mem_of_getElem? (i := 4) rfl)) (hw _ (List.mem_of_getElem? (i := 1) rfl)) (hw _ (List.mem_of_getElem? (i := 5) rfl)) (by decide) (W := 0) (rm1_b l Z a0 hw ((16 : Int32) + (px &&& (63 : Int32))) vv kv w0 w1 we h0 n0 (Nat.le_trans Z0 (Keep.refl h0 []).1) OL SV EV AV SE EE FE L0 L1 hc55) e56 (by decide) (by decide) (by decide) (by decide) (g := (mkF m 75 #[.val (.int pz), .val (.int px), .val (.int (pz &&& (3 : Int32))), .val (.int ((16 : Int32) + (px &&& (63 : Int32)))), .val (.ref w1), .unset] [(.int ((16 : Int32) + (px &&& (63 : Int32))))])) rfl (by rw [hml]; rfl) (argsL := [(.int ((16 : Int32) + (px &&& (63 : Int32))))]) (rest := []) (lenOf pd_5 rfl) rfl (by show 2 * 0 + _ ≤ _; exact Nat.le_of_eq rfl) (hb hby at_75) ?_
            intro v57 T57 L57 X57 hQ57
            obtain ⟨b57, rfl, Nq57, Kc57, eb57, fv57⟩ := hQ57
            have N57 := Fr.app N0 Nq57
            have K57 : Keep h0 T57.heap [] := (Keep.refl h0 []).trans Kc57 all0
            show Run p e below s _ _ _ (T57.setTop (mkF m 78 #[.val (.int pz), .val (.int px), .val (.int (pz &&& (3 : Int32))), .val (.int ((16 : Int32) + (px &&& (63 : Int32)))), .val (.ref w1), .unset] [(.ref b57)]))
            refine Run.pre (fun _ k => XS.aconstNull X57.here hx rfl (hb hby at_78) k) ?_
            show Run p e below s _ _ _ (T57.setTop (mkF m 79 #[.val (.int pz), .val (.int px), .val (.int (pz &&& (3 : Int32))), .val (.int ((16 : Int32) + (px &&& (63 : Int32)))), .val (.ref w1), .unset] [.null, (.ref b57)]))
            refine Run.callV X57 hx hZ (y := (⟨"java/util/Optional", "orElse", "(Ljava/lang/Object;)Ljava/lang/Object;"⟩ : MethodName)) (z := (⟨"java/util/Optional", "orElse", "(Ljava/lang/Object;)Ljava/lang/Object;"⟩ : MethodName)) hown (hw _ (List.mem_of_getElem? (i := 43) rfl)) (hw _ (List.mem_of_getElem? (i := 44) rfl)) (notFace_of_selects (args := #[]) (mvT hZ (hw _ (List.mem_of_getElem? (i := 46) rfl)))) (hw _ (List.mem_of_getElem? (i := 46) rfl)) (hw _ (List.mem_of_getElem? (i := 45) rfl)) (hw _ (List.mem_of_getElem? (i := 47) rfl)) (hw _ (List.mem_of_getElem? (i := 26) rfl)) (by decide) (b := b57) eb57 (W := 0) (rm7_v l Z a0 hw b57 w1 T57.heap n0 (Nat.le_trans Z0 K57.1) fv57) rfl (by decide) (by decide) (by decide) (by decide) (g := (mkF m 79 #[.val (.int pz), .val (.int px), .val (.int (pz &&& (3 : Int32))), .val (.int ((16 : Int32) + (px &&& (63 : Int32)))), .val (.ref w1), .unset] [.null, (.ref b57)])) rfl (by rw [hml]; rfl) (argsL := [.null]) (rest := []) (lenOf pd_0 rfl) rfl (by show 2 * 0 + _ ≤ _; exact Nat.le_of_eq rfl) (hb hby at_79) ?_
            intro v58 T58 L58 X58 hQ58
            obtain ⟨rfl, Nq58, he58⟩ := hQ58
            have N58 := Fr.app N57 Nq58
            have e58 : T58.heap = T57.heap := he58
            show Run p e below s _ _ _ (T58.setTop (mkF m 82 #[.val (.int pz), .val (.int px), .val (.int (pz &&& (3 : Int32))), .val (.int ((16 : Int32) + (px &&& (63 : Int32)))), .val (.ref w1), .unset] [(.ref w1)]))
            have f59 := (OL.keep Kc57 all0)
            obtain ⟨T60, X60, e60, st60⟩ := castY X58 hx hZ hown (hw _ (List.mem_of_getElem? (i := 48) rfl)) e58 (Ins.self (E1.ext f59.2)) (g := (mkF m 82 #[.val (.int pz), .val (.int px), .val (.int (pz &&& (3 : Int32))), .val (.int ((16 : Int32) + (px &&& (63 : Int32)))), .val (.ref w1), .unset] [(.ref w1)])) rfl rfl (hb hby at_82)
            refine Run.pre st60 ?_
            show Run p e below s _ _ _ (T60.setTop (mkF m 85 #[.val (.int pz), .val (.int px), .val (.int (pz &&& (3 : Int32))), .val (.int ((16 : Int32) + (px &&& (63 : Int32)))), .val (.ref w1), .unset] [(.ref w1)]))
            refine Run.pre (fun _ k => XS.astore X60.here hx rfl (hb hby at_85) rfl rfl (l' := #[.val (.int pz), .val (.int px), .val (.int (pz &&& (3 : Int32))), .val (.int ((16 : Int32) + (px &&& (63 : Int32)))), .val (.ref w1), .val (.ref w1)]) rfl k) ?_
            show Run p e below s _ _ _ (T60.setTop (mkF m 87 #[.val (.int pz), .val (.int px), .val (.int (pz &&& (3 : Int32))), .val (.int ((16 : Int32) + (px &&& (63 : Int32)))), .val (.ref w1), .val (.ref w1)] []))
            refine Run.pre (fun _ k => XS.aload X60.here hx rfl (hb hby at_87) rfl rfl k) ?_
            show Run p e below s _ _ _ (T60.setTop (mkF m 89 #[.val (.int pz), .val (.int px), .val (.int (pz &&& (3 : Int32))), .val (.int ((16 : Int32) + (px &&& (63 : Int32)))), .val (.ref w1), .val (.ref w1)] [(.ref w1)]))
            refine Run.pre (fun _ k => XS.aload X60.here hx rfl (hb hby at_89) rfl rfl k) ?_
            show Run p e below s _ _ _ (T60.setTop (mkF m 91 #[.val (.int pz), .val (.int px), .val (.int (pz &&& (3 : Int32))), .val (.int ((16 : Int32) + (px &&& (63 : Int32)))), .val (.ref w1), .val (.ref w1)] [(.ref w1), (.ref w1)]))
            refine Run.pre (fun _ k => Jvm.RoadKit.acmp (g := (mkF m 91 #[.val (.int pz), .val (.int px), .val (.int (pz &&& (3 : Int32))), .val (.int ((16 : Int32) + (px &&& (63 : Int32)))), .val (.ref w1), .val (.ref w1)] [(.ref w1), (.ref w1)])) X60 hx rfl rfl rfl (pc0 := 91) (pc' := 94) (same := true) rfl (hb hby at_91) rfl (decide_eq_true rfl) (by decide) (by decide) k) ?_
            show Run p e below s _ _ _ (T60.setTop (mkF m 94 #[.val (.int pz), .val (.int px), .val (.int (pz &&& (3 : Int32))), .val (.int ((16 : Int32) + (px &&& (63 : Int32)))), .val (.ref w1), .val (.ref w1)] []))
            refine Run.pre (fun _ k => XS.iconst X60.here hx rfl (hb hby at_94) k) ?_
            show Run p e below s _ _ _ (T60.setTop (mkF m 95 #[.val (.int pz), .val (.int px), .val (.int (pz &&& (3 : Int32))), .val (.int ((16 : Int32) + (px &&& (63 : Int32)))), .val (.ref w1), .val (.ref w1)] [(.int (1 : Int32))]))
            refine Run.pre (fun _ k => XS.goto X60.here hx rfl (pc0 := 95) (pc' := 99) rfl (hb hby at_95) (by decide) (by decide) k) ?_
            show Run p e below s _ _ _ (T60.setTop (mkF m 99 #[.val (.int pz), .val (.int px), .val (.int (pz &&& (3 : Int32))), .val (.int ((16 : Int32) + (px &&& (63 : Int32)))), .val (.ref w1), .val (.ref w1)] [(.int (1 : Int32))]))
            exact Run.retN X60 hx hret (t := .boolean) (by simp) hlk (hb hby at_99) (by first | (rw [e60]; exact ⟨rfl, N58⟩) | exact ⟨rfl, N58⟩) (by decide) (by decide)
          · skip
            refine Run.pre (fun _ k => XS.icmpYes X0.here hx rfl (pc0 := 60) (pc' := 71) rfl (hb hby at_60) rfl (feq (hc55 : ¬ (((16 : Int32) + (px &&& (63 : Int32))) = (64 : Int32)))).2 (by decide) (by decide) k) ?_
            show Run p e below s _ _ _ (s₁.setTop (mkF m 71 #[.val (.int pz), .val (.int px), .val (.int (pz &&& (3 : Int32))), .val (.int ((16 : Int32) + (px &&& (63 : Int32)))), .unset, .unset] []))
            refine Run.pre (fun _ k => XS.aconstNull X0.here hx rfl (hb hby at_71) k) ?_
            show Run p e below s _ _ _ (s₁.setTop (mkF m 72 #[.val (.int pz), .val (.int px), .val (.int (pz &&& (3 : Int32))), .val (.int ((16 : Int32) + (px &&& (63 : Int32)))), .unset, .unset] [.null]))
            refine Run.pre (fun _ k => XS.astore X0.here hx rfl (hb hby at_72) rfl rfl (l' := #[.val (.int pz), .val (.int px), .val (.int (pz &&& (3 : Int32))), .val (.int ((16 : Int32) + (px &&& (63 : Int32)))), .val .null, .unset]) rfl k) ?_
            show Run p e below s _ _ _ (s₁.setTop (mkF m 74 #[.val (.int pz), .val (.int px), .val (.int (pz &&& (3 : Int32))), .val (.int ((16 : Int32) + (px &&& (63 : Int32)))), .val .null, .unset] []))
            refine Run.pre (fun _ k => XS.iloadN X0.here hx rfl (hb hby at_74) rfl  k) ?_
            show Run p e below s _ _ _ (s₁.setTop (mkF m 75 #[.val (.int pz), .val (.int px), .val (.int (pz &&& (3 : Int32))), .val (.int ((16 : Int32) + (px &&& (63 : Int32)))), .val .null, .unset] [(.int ((16 : Int32) + (px &&& (63 : Int32))))]))
            refine Run.callS X0 hx hZ (y := (⟨"com/example/portcullis/portcullis/digest/DigestAlgorithm", "fromHexLength", "(I)Ljava/util/Optional;"⟩ : MethodName)) hown (hw _ (List.mem_of_getElem? (i := 3) rfl)) (hw _ (List.mem_of_getElem? (i := 4) rfl)) (hw _ (List.mem_of_getElem? (i := 1) rfl)) (hw _ (List.mem_of_getElem? (i := 5) rfl)) (by decide) (W := 0) (rm1_c l Z a0 hw ((16 : Int32) + (px &&& (63 : Int32))) vv kv w0 w1 we h0 n0 (Nat.le_trans Z0 (Keep.refl h0 []).1) OL SV EV AV SE EE FE L0 L1 hc49 hc55) e0 (by decide) (by decide) (by decide) (by decide) (g := (mkF m 75 #[.val (.int pz), .val (.int px), .val (.int (pz &&& (3 : Int32))), .val (.int ((16 : Int32) + (px &&& (63 : Int32)))), .val .null, .unset] [(.int ((16 : Int32) + (px &&& (63 : Int32))))])) rfl (by rw [hml]; rfl) (argsL := [(.int ((16 : Int32) + (px &&& (63 : Int32))))]) (rest := []) (lenOf pd_5 rfl) rfl (by show 2 * 0 + _ ≤ _; exact Nat.le_of_eq rfl) (hb hby at_75) ?_
            intro v61 T61 L61 X61 hQ61
            obtain ⟨b61, rfl, Nq61, Kc61, eb61, fv61⟩ := hQ61
            have N61 := Fr.app N0 Nq61
            have K61 : Keep h0 T61.heap [] := (Keep.refl h0 []).trans Kc61 all0
            show Run p e below s _ _ _ (T61.setTop (mkF m 78 #[.val (.int pz), .val (.int px), .val (.int (pz &&& (3 : Int32))), .val (.int ((16 : Int32) + (px &&& (63 : Int32)))), .val .null, .unset] [(.ref b61)]))
            refine Run.pre (fun _ k => XS.aconstNull X61.here hx rfl (hb hby at_78) k) ?_
            show Run p e below s _ _ _ (T61.setTop (mkF m 79 #[.val (.int pz), .val (.int px), .val (.int (pz &&& (3 : Int32))), .val (.int ((16 : Int32) + (px &&& (63 : Int32)))), .val .null, .unset] [.null, (.ref b61)]))
            refine Run.callV X61 hx hZ (y := (⟨"java/util/Optional", "orElse", "(Ljava/lang/Object;)Ljava/lang/Object;"⟩ : MethodName)) (z := (⟨"java/util/Optional", "orElse", "(Ljava/lang/Object;)Ljava/lang/Object;"⟩ : MethodName)) hown (hw _ (List.mem_of_getElem? (i := 43) rfl)) (hw _ (List.mem_of_getElem? (i := 44) rfl)) (notFace_of_selects (args := #[]) (mvT hZ (hw _ (List.mem_of_getElem? (i := 46) rfl)))) (hw _ (List.mem_of_getElem? (i := 46) rfl)) (hw _ (List.mem_of_getElem? (i := 45) rfl)) (hw _ (List.mem_of_getElem? (i := 47) rfl)) (hw _ (List.mem_of_getElem? (i := 26) rfl)) (by decide) (b := b61) eb61 (W := 0) (rm7_n l Z a0 hw b61 T61.heap n0 (Nat.le_trans Z0 K61.1) fv61) rfl (by decide) (by decide) (by decide) (by decide) (g := (mkF m 79 #[.val (.int pz), .val (.int px), .val (.int (pz &&& (3 : Int32))), .val (.int ((16 : Int32) + (px &&& (63 : Int32)))), .val .null, .unset] [.null, (.ref b61)])) rfl (by rw [hml]; rfl) (argsL := [.null]) (rest := []) (lenOf pd_0 rfl) rfl (by show 2 * 0 + _ ≤ _; exact Nat.le_of_eq rfl) (hb hby at_79) ?_
            intro v62 T62 L62 X62 hQ62
            obtain ⟨rfl, Nq62, he62⟩ := hQ62
            have N62 := Fr.app N61 Nq62
            have e62 : T62.heap = T61.heap := he62
            show Run p e below s _ _ _ (T62.setTop (mkF m 82 #[.val (.int pz), .val (.int px), .val (.int (pz &&& (3 : Int32))), .val (.int ((16 : Int32) + (px &&& (63 : Int32)))), .val .null, .unset] [.null]))
            refine Run.pre (X62.checkcastNull hx (g := (mkF m 82 #[.val (.int pz), .val (.int px), .val (.int (pz &&& (3 : Int32))), .val (.int ((16 : Int32) + (px &&& (63 : Int32)))), .val .null, .unset] [.null])) rfl rfl (hb hby at_82)) ?_
            show Run p e below s _ _ _ (T62.setTop (mkF m 85 #[.val (.int pz), .val (.int px), .val (.int (pz &&& (3 : Int32))), .val (.int ((16 : Int32) + (px &&& (63 : Int32)))), .val .null, .unset] [.null]))
            refine Run.pre (fun _ k => XS.astore X62.here hx rfl (hb hby at_85) rfl rfl (l' := #[.val (.int pz), .val (.int px), .val (.int (pz &&& (3 : Int32))), .val (.int ((16 : Int32) + (px &&& (63 : Int32)))), .val .null, .val .null]) rfl k) ?_
            show Run p e below s _ _ _ (T62.setTop (mkF m 87 #[.val (.int pz), .val (.int px), .val (.int (pz &&& (3 : Int32))), .val (.int ((16 : Int32) + (px &&& (63 : Int32)))), .val .null, .val .null] []))
            refine Run.pre (fun _ k => XS.aload X62.here hx rfl (hb hby at_87) rfl rfl k) ?_
            show Run p e below s _ _ _ (T62.setTop (mkF m 89 #[.val (.int pz), .val (.int px), .val (.int (pz &&& (3 : Int32))), .val (.int ((16 : Int32) + (px &&& (63 : Int32)))), .val .null, .val .null] [.null]))
            refine Run.pre (fun _ k => XS.aload X62.here hx rfl (hb hby at_89) rfl rfl k) ?_
            show Run p e below s _ _ _ (T62.setTop (mkF m 91 #[.val (.int pz), .val (.int px), .val (.int (pz &&& (3 : Int32))), .val (.int ((16 : Int32) + (px &&& (63 : Int32)))), .val .null, .val .null] [.null, .null]))
            refine Run.pre (fun _ k => Jvm.RoadKit.acmp (g := (mkF m 91 #[.val (.int pz), .val (.int px), .val (.int (pz &&& (3 : Int32))), .val (.int ((16 : Int32) + (px &&& (63 : Int32)))), .val .null, .val .null] [.null, .null])) X62 hx rfl rfl rfl (pc0 := 91) (pc' := 94) (same := true) rfl (hb hby at_91) rfl (decide_eq_true rfl) (by decide) (by decide) k) ?_
            show Run p e below s _ _ _ (T62.setTop (mkF m 94 #[.val (.int pz), .val (.int px), .val (.int (pz &&& (3 : Int32))), .val (.int ((16 : Int32) + (px &&& (63 : Int32)))), .val .null, .val .null] []))
            refine Run.pre (fun _ k => XS.iconst X62.here hx rfl (hb hby at_94) k) ?_
            show Run p e below s _ _ _ (T62.setTop (mkF m 95 #[.val (.int pz), .val (.int px), .val (.int (pz &&& (3 : Int32))), .val (.int ((16 : Int32) + (px &&& (63 : Int32)))), .val .null, .val .null] [(.int (1 : Int32))]))
            refine Run.pre (fun _ k => XS.goto X62.here hx rfl (pc0 := 95) (pc' := 99) rfl (hb hby at_95) (by decide) (by decide) k) ?_
            show Run p e below s _ _ _ (T62.setTop (mkF m 99 #[.val (.int pz), .val (.int px), .val (.int (pz &&& (3 : Int32))), .val (.int ((16 : Int32) + (px &&& (63 : Int32)))), .val .null, .val .null] [(.int (1 : Int32))]))
            exact Run.retN X62 hx hret (t := .boolean) (by simp) hlk (hb hby at_99) (by first | (rw [e62]; exact ⟨rfl, N62⟩) | exact ⟨rfl, N62⟩) (by decide) (by decide)
      · skip
        refine Run.pre (fun _ k => XS.icmpYes X0.here hx rfl (pc0 := 27) (pc' := 41) rfl (hb hby at_27) rfl (feq (hc48 : ¬ ((pz &&& (3 : Int32)) = (2 : Int32)))).2 (by decide) (by decide) k) ?_
        show Run p e below s _ _ _ (s₁.setTop (mkF m 41 #[.val (.int pz), .val (.int px), .val (.int (pz &&& (3 : Int32))), .unset, .unset, .unset] []))
        refine Run.pre (fun _ k => XS.iloadN X0.here hx rfl (hb hby at_41) rfl  k) ?_
        show Run p e below s _ _ _ (s₁.setTop (mkF m 42 #[.val (.int pz), .val (.int px), .val (.int (pz &&& (3 : Int32))), .unset, .unset, .unset] [(.int px)]))
        refine Run.pre (fun _ k => XS.istoreN X0.here hx rfl (hb hby at_42) rfl (l' := #[.val (.int pz), .val (.int px), .val (.int (pz &&& (3 : Int32))), .val (.int px), .unset, .unset]) rfl k) ?_
        show Run p e below s _ _ _ (s₁.setTop (mkF m 43 #[.val (.int pz), .val (.int px), .val (.int (pz &&& (3 : Int32))), .val (.int px), .unset, .unset] []))
        refine Run.pre (fun _ k => XS.iloadN X0.here hx rfl (hb hby at_43) rfl  k) ?_
        show Run p e below s _ _ _ (s₁.setTop (mkF m 44 #[.val (.int pz), .val (.int px), .val (.int (pz &&& (3 : Int32))), .val (.int px), .unset, .unset] [(.int px)]))
        refine Run.pre (fun _ k => XS.bipush X0.here hx rfl (hb hby at_44) k) ?_
        show Run p e below s _ _ _ (s₁.setTop (mkF m 46 #[.val (.int pz), .val (.int px), .val (.int (pz &&& (3 : Int32))), .val (.int px), .unset, .unset] [(.int (32 : Int32)), (.int px)]))
        by_cases hc63 : px = (32 : Int32)
        · skip
          refine Run.pre (fun _ k => XS.icmpNo X0.here hx rfl (hb hby at_46) rfl (teq (hc63 : px = (32 : Int32))).2 k) ?_
          show Run p e below s _ _ _ (s₁.setTop (mkF m 49 #[.val (.int pz), .val (.int px), .val (.int (pz &&& (3 : Int32))), .val (.int px), .unset, .unset] []))
          obtain ⟨T64, X64, e64, st64⟩ := getS2 X0 hx hZ hown (host := "") (Or.inl (hw _ (List.mem_of_getElem? (i := 0) rfl))) Via.refl e0 (S0.ext OL.2) (g := (mkF m 49 #[.val (.int pz), .val (.int px), .val (.int (pz &&& (3 : Int32))), .val (.int px), .unset, .unset] [])) rfl (hb hby at_49)
          refine Run.pre st64 ?_
          show Run p e below s _ _ _ (T64.setTop (mkF m 52 #[.val (.int pz), .val (.int px), .val (.int (pz &&& (3 : Int32))), .val (.int px), .unset, .unset] [(.ref w0)]))
          refine Run.pre (fun _ k => XS.astore X64.here hx rfl (hb hby at_52) rfl rfl (l' := #[.val (.int pz), .val (.int px), .val (.int (pz &&& (3 : Int32))), .val (.int px), .val (.ref w0), .unset]) rfl k) ?_
          show Run p e below s _ _ _ (T64.setTop (mkF m 54 #[.val (.int pz), .val (.int px), .val (.int (pz &&& (3 : Int32))), .val (.int px), .val (.ref w0), .unset] []))
          refine Run.pre (fun _ k => XS.goto X64.here hx rfl (pc0 := 54) (pc' := 74) rfl (hb hby at_54) (by decide) (by decide) k) ?_
          show Run p e below s _ _ _ (T64.setTop (mkF m 74 #[.val (.int pz), .val (.int px), .val (.int (pz &&& (3 : Int32))), .val (.int px), .val (.ref w0), .unset] []))
          refine Run.pre (fun _ k => XS.iloadN X64.here hx rfl (hb hby at_74) rfl  k) ?_
          show Run p e below s _ _ _ (T64.setTop (mkF m 75 #[.val (.int pz), .val (.int px), .val (.int (pz &&& (3 : Int32))), .val (.int px), .val (.ref w0), .unset] [(.int px)]))
          refine Run.callS X64 hx hZ (y := (⟨"com/example/portcullis/portcullis/digest/DigestAlgorithm", "fromHexLength", "(I)Ljava/util/Optional;"⟩ : MethodName)) hown (hw _ (List.mem_of_getElem? (i := 3) rfl)) (hw _ (List.mem_of_getElem? (i := 4) rfl)) (hw _ (List.mem_of_getElem? (i := 1) rfl)) (hw _ (List.mem_of_getElem? (i := 5) rfl)) (by decide) (W := 0) (rm1_a l Z a0 hw px vv kv w0 w1 we h0 n0 (Nat.le_trans Z0 (Keep.refl h0 []).1) OL SV EV AV SE EE FE L0 L1 hc63) e64 (by decide) (by decide) (by decide) (by decide) (g := (mkF m 75 #[.val (.int pz), .val (.int px), .val (.int (pz &&& (3 : Int32))), .val (.int px), .val (.ref w0), .unset] [(.int px)])) rfl (by rw [hml]; rfl) (argsL := [(.int px)]) (rest := []) (lenOf pd_5 rfl) rfl (by show 2 * 0 + _ ≤ _; exact Nat.le_of_eq rfl) (hb hby at_75) ?_
          intro v65 T65 L65 X65 hQ65
          obtain ⟨b65, rfl, Nq65, Kc65, eb65, fv65⟩ := hQ65
          have N65 := Fr.app N0 Nq65
          have K65 : Keep h0 T65.heap [] := (Keep.refl h0 []).trans Kc65 all0
          show Run p e below s _ _ _ (T65.setTop (mkF m 78 #[.val (.int pz), .val (.int px), .val (.int (pz &&& (3 : Int32))), .val (.int px), .val (.ref w0), .unset] [(.ref b65)]))
          refine Run.pre (fun _ k => XS.aconstNull X65.here hx rfl (hb hby at_78) k) ?_
          show Run p e below s _ _ _ (T65.setTop (mkF m 79 #[.val (.int pz), .val (.int px), .val (.int (pz &&& (3 : Int32))), .val (.int px), .val (.ref w0), .unset] [.null, (.ref b65)]))
          refine Run.callV X65 hx hZ (y := (⟨"java/util/Optional", "orElse", "(Ljava/lang/Object;)Ljava/lang/Object;"⟩ : MethodName)) (z := (⟨"java/util/Optional", "orElse", "(Ljava/lang/Object;)Ljava/lang/Object;"⟩ : MethodName)) hown (hw _ (List.mem_of_getElem? (i := 43) rfl)) (hw _ (List.mem_of_getElem? (i := 44) rfl)) (notFace_of_selects (args := #[]) (mvT hZ (hw _ (List.mem_of_getElem? (i := 46) rfl)))) (hw _ (List.mem_of_getElem? (i := 46) rfl)) (hw _ (List.mem_of_getElem? (i := 45) rfl)) (hw _ (List.mem_of_getElem? (i := 47) rfl)) (hw _ (List.mem_of_getElem? (i := 26) rfl)) (by decide) (b := b65) eb65 (W := 0) (rm7_v l Z a0 hw b65 w0 T65.heap n0 (Nat.le_trans Z0 K65.1) fv65) rfl (by decide) (by decide) (by decide) (by decide) (g := (mkF m 79 #[.val (.int pz), .val (.int px), .val (.int (pz &&& (3 : Int32))), .val (.int px), .val (.ref w0), .unset] [.null, (.ref b65)])) rfl (by rw [hml]; rfl) (argsL := [.null]) (rest := []) (lenOf pd_0 rfl) rfl (by show 2 * 0 + _ ≤ _; exact Nat.le_of_eq rfl) (hb hby at_79) ?_
          intro v66 T66 L66 X66 hQ66
          obtain ⟨rfl, Nq66, he66⟩ := hQ66
          have N66 := Fr.app N65 Nq66
          have e66 : T66.heap = T65.heap := he66
          show Run p e below s _ _ _ (T66.setTop (mkF m 82 #[.val (.int pz), .val (.int px), .val (.int (pz &&& (3 : Int32))), .val (.int px), .val (.ref w0), .unset] [(.ref w0)]))
          have f67 := (OL.keep Kc65 all0)
          obtain ⟨T68, X68, e68, st68⟩ := castY X66 hx hZ hown (hw _ (List.mem_of_getElem? (i := 48) rfl)) e66 (Ins.self (E0.ext f67.2)) (g := (mkF m 82 #[.val (.int pz), .val (.int px), .val (.int (pz &&& (3 : Int32))), .val (.int px), .val (.ref w0), .unset] [(.ref w0)])) rfl rfl (hb hby at_82)
          refine Run.pre st68 ?_
          show Run p e below s _ _ _ (T68.setTop (mkF m 85 #[.val (.int pz), .val (.int px), .val (.int (pz &&& (3 : Int32))), .val (.int px), .val (.ref w0), .unset] [(.ref w0)]))
          refine Run.pre (fun _ k => XS.astore X68.here hx rfl (hb hby at_85) rfl rfl (l' := #[.val (.int pz), .val (.int px), .val (.int (pz &&& (3 : Int32))), .val (.int px), .val (.ref w0), .val (.ref w0)]) rfl k) ?_
          show Run p e below s _ _ _ (T68.setTop (mkF m 87 #[.val (.int pz), .val (.int px), .val (.int (pz &&& (3 : Int32))), .val (.int px), .val (.ref w0), .val (.ref w0)] []))
          refine Run.pre (fun _ k => XS.aload X68.here hx rfl (hb hby at_87) rfl rfl k) ?_
          show Run p e below s _ _ _ (T68.setTop (mkF m 89 #[.val (.int pz), .val (.int px), .val (.int (pz &&& (3 : Int32))), .val (.int px), .val (.ref w0), .val (.ref w0)] [(.ref w0)]))
          refine Run.pre (fun _ k => XS.aload X68.here hx rfl (hb hby at_89) rfl rfl k) ?_
          show Run p e below s _ _ _ (T68.setTop (mkF m 91 #[.val (.int pz), .val (.int px), .val (.int (pz &&& (3 : Int32))), .val (.int px), .val (.ref w0), .val (.ref w0)] [(.ref w0), (.ref w0)]))
          refine Run.pre (fun _ k => Jvm.RoadKit.acmp (g := (mkF m 91 #[.val (.int pz), .val (.int px), .val (.int (pz &&& (3 : Int32))), .val (.int px), .val (.ref w0), .val (.ref w0)] [(.ref w0), (.ref w0)])) X68 hx rfl rfl rfl (pc0 := 91) (pc' := 94) (same := true) rfl (hb hby at_91) rfl (decide_eq_true rfl) (by decide) (by decide) k) ?_
          show Run p e below s _ _ _ (T68.setTop (mkF m 94 #[.val (.int pz), .val (.int px), .val (.int (pz &&& (3 : Int32))), .val (.int px), .val (.ref w0), .val (.ref w0)] []))
          refine Run.pre (fun _ k => XS.iconst X68.here hx rfl (hb hby at_94) k) ?_
          show Run p e below s _ _ _ (T68.setTop (mkF m 95 #[.val (.int pz), .val (.int px), .val (.int (pz &&& (3 : Int32))), .val (.int px), .val (.ref w0), .val (.ref w0)] [(.int (1 : Int32))]))
          refine Run.pre (fun _ k => XS.goto X68.here hx rfl (pc0 := 95) (pc' := 99) rfl (hb hby at_95) (by decide) (by decide) k) ?_
          show Run p e below s _ _ _ (T68.setTop (mkF m 99 #[.val (.int pz), .val (.int px), .val (.int (pz &&& (3 : Int32))), .val (.int px), .val (.ref w0), .val (.ref w0)] [(.int (1 : Int32))]))
          exact Run.retN X68 hx hret (t := .boolean) (by simp) hlk (hb hby at_99) (by first | (rw [e68]; exact ⟨rfl, N66⟩) | exact ⟨rfl, N66⟩) (by decide) (by decide)
        · skip
          refine Run.pre (fun _ k => XS.icmpYes X0.here hx rfl (pc0 := 46) (pc' := 57) rfl (hb hby at_46) rfl (feq (hc63 : ¬ (px = (32 : Int32)))).2 (by decide) (by decide) k) ?_
          show Run p e below s _ _ _ (s₁.setTop (mkF m 57 #[.val (.int pz), .val (.int px), .val (.int (pz &&& (3 : Int32))), .val (.int px), .unset, .unset] []))
          refine Run.pre (fun _ k => XS.iloadN X0.here hx rfl (hb hby at_57) rfl  k) ?_
          show Run p e below s _ _ _ (s₁.setTop (mkF m 58 #[.val (.int pz), .val (.int px), .val (.int (pz &&& (3 : Int32))), .val (.int px), .unset, .unset] [(.int px)]))
          refine Run.pre (fun _ k => XS.bipush X0.here hx rfl (hb hby at_58) k) ?_
          show Run p e below s _ _ _ (s₁.setTop (mkF m 60 #[.val (.int pz), .val (.int px), .val (.int (pz &&& (3 : Int32))), .val (.int px), .unset, .unset] [(.int (64 : Int32)), (.int px)]))
          by_cases hc69 : px = (64 : Int32)
          · skip
            refine Run.pre (fun _ k => XS.icmpNo X0.here hx rfl (hb hby at_60) rfl (teq (hc69 : px = (64 : Int32))).2 k) ?_
            show Run p e below s _ _ _ (s₁.setTop (mkF m 63 #[.val (.int pz), .val (.int px), .val (.int (pz &&& (3 : Int32))), .val (.int px), .unset, .unset] []))
            obtain ⟨T70, X70, e70, st70⟩ := getS2 X0 hx hZ hown (host := "") (Or.inl (hw _ (List.mem_of_getElem? (i := 54) rfl))) Via.refl e0 (S1.ext OL.2) (g := (mkF m 63 #[.val (.int pz), .val (.int px), .val (.int (pz &&& (3 : Int32))), .val (.int px), .unset, .unset] [])) rfl (hb hby at_63)
            refine Run.pre st70 ?_
            show Run p e below s _ _ _ (T70.setTop (mkF m 66 #[.val (.int pz), .val (.int px), .val (.int (pz &&& (3 : Int32))), .val (.int px), .unset, .unset] [(.ref w1)]))
            refine Run.pre (fun _ k => XS.astore X70.here hx rfl (hb hby at_66) rfl rfl (l' := #[.val (.int pz), .val (.int px), .val (.int (pz &&& (3 : Int32))), .val (.int px), .val (.ref w1), .unset]) rfl k) ?_
            show Run p e below s _ _ _ (T70.setTop (mkF m 68 #[.val (.int pz), .val (.int px), .val (.int (pz &&& (3 : Int32))), .val (.int px), .val (.ref w1), .unset] []))
            refine Run.pre (fun _ k => XS.goto X70.here hx rfl (pc0 := 68) (pc' := 74) rfl (hb hby at_68) (by decide) (by decide) k) ?_
            show Run p e below s _ _ _ (T70.setTop (mkF m 74 #[.val (.int pz), .val (.int px), .val (.int (pz &&& (3 : Int32))), .val (.int px), .val (.ref w1), .unset] []))
            refine Run.pre (fun _ k => XS.iloadN X70.here hx rfl (hb hby at_74) rfl  k) ?_
            show Run p e below s _ _ _ (T70.setTop (mkF m 75 #[.val (.int pz), .val (.int px), .val (.int (pz &&& (3 : Int32))), .val (.int px), .val (.ref w1), .unset] [(.int px)]))
            refine Run.callS X70 hx hZ (y := (⟨"com/example/portcullis/portcullis/digest/DigestAlgorithm", "fromHexLength", "(I)Ljava/util/Optional;"⟩ : MethodName)) hown (hw _ (List.mem_of_getElem? (i := 3) rfl)) (hw _ (List.mem_of_getElem? (i := 4) rfl)) (hw _ (List.mem_of_getElem? (i := 1) rfl)) (hw _ (List.mem_of_getElem? (i := 5) rfl)) (by decide) (W := 0) (rm1_b l Z a0 hw px vv kv w0 w1 we h0 n0 (Nat.le_trans Z0 (Keep.refl h0 []).1) OL SV EV AV SE EE FE L0 L1 hc69) e70 (by decide) (by decide) (by decide) (by decide) (g := (mkF m 75 #[.val (.int pz), .val (.int px), .val (.int (pz &&& (3 : Int32))), .val (.int px), .val (.ref w1), .unset] [(.int px)])) rfl (by rw [hml]; rfl) (argsL := [(.int px)]) (rest := []) (lenOf pd_5 rfl) rfl (by show 2 * 0 + _ ≤ _; exact Nat.le_of_eq rfl) (hb hby at_75) ?_
            intro v71 T71 L71 X71 hQ71
            obtain ⟨b71, rfl, Nq71, Kc71, eb71, fv71⟩ := hQ71
            have N71 := Fr.app N0 Nq71
            have K71 : Keep h0 T71.heap [] := (Keep.refl h0 []).trans Kc71 all0
            show Run p e below s _ _ _ (T71.setTop (mkF m 78 #[.val (.int pz), .val (.int px), .val (.int (pz &&& (3 : Int32))), .val (.int px), .val (.ref w1), .unset] [(.ref b71)]))
            refine Run.pre (fun _ k => XS.aconstNull X71.here hx rfl (hb hby at_78) k) ?_
            show Run p e below s _ _ _ (T71.setTop (mkF m 79 #[.val (.int pz), .val (.int px), .val (.int (pz &&& (3 : Int32))), .val (.int px), .val (.ref w1), .unset] [.null, (.ref b71)]))
            refine Run.callV X71 hx hZ (y := (⟨"java/util/Optional", "orElse", "(Ljava/lang/Object;)Ljava/lang/Object;"⟩ : MethodName)) (z := (⟨"java/util/Optional", "orElse", "(Ljava/lang/Object;)Ljava/lang/Object;"⟩ : MethodName)) hown (hw _ (List.mem_of_getElem? (i := 43) rfl)) (hw _ (List.mem_of_getElem? (i := 44) rfl)) (notFace_of_selects (args := #[]) (mvT hZ (hw _ (List.mem_of_getElem? (i := 46) rfl)))) (hw _ (List.mem_of_getElem? (i := 46) rfl)) (hw _ (List.mem_of_getElem? (i := 45) rfl)) (hw _ (List.mem_of_getElem? (i := 47) rfl)) (hw _ (List.mem_of_getElem? (i := 26) rfl)) (by decide) (b := b71) eb71 (W := 0) (rm7_v l Z a0 hw b71 w1 T71.heap n0 (Nat.le_trans Z0 K71.1) fv71) rfl (by decide) (by decide) (by decide) (by decide) (g := (mkF m 79 #[.val (.int pz), .val (.int px), .val (.int (pz &&& (3 : Int32))), .val (.int px), .val (.ref w1), .unset] [.null, (.ref b71)])) rfl (by rw [hml]; rfl) (argsL := [.null]) (rest := []) (lenOf pd_0 rfl) rfl (by show 2 * 0 + _ ≤ _; exact Nat.le_of_eq rfl) (hb hby at_79) ?_
            intro v72 T72 L72 X72 hQ72
            obtain ⟨rfl, Nq72, he72⟩ := hQ72
            have N72 := Fr.app N71 Nq72
            have e72 : T72.heap = T71.heap := he72
            show Run p e below s _ _ _ (T72.setTop (mkF m 82 #[.val (.int pz), .val (.int px), .val (.int (pz &&& (3 : Int32))), .val (.int px), .val (.ref w1), .unset] [(.ref w1)]))
            have f73 := (OL.keep Kc71 all0)
            obtain ⟨T74, X74, e74, st74⟩ := castY X72 hx hZ hown (hw _ (List.mem_of_getElem? (i := 48) rfl)) e72 (Ins.self (E1.ext f73.2)) (g := (mkF m 82 #[.val (.int pz), .val (.int px), .val (.int (pz &&& (3 : Int32))), .val (.int px), .val (.ref w1), .unset] [(.ref w1)])) rfl rfl (hb hby at_82)
            refine Run.pre st74 ?_
            show Run p e below s _ _ _ (T74.setTop (mkF m 85 #[.val (.int pz), .val (.int px), .val (.int (pz &&& (3 : Int32))), .val (.int px), .val (.ref w1), .unset] [(.ref w1)]))
            refine Run.pre (fun _ k => XS.astore X74.here hx rfl (hb hby at_85) rfl rfl (l' := #[.val (.int pz), .val (.int px), .val (.int (pz &&& (3 : Int32))), .val (.int px), .val (.ref w1), .val (.ref w1)]) rfl k) ?_
            show Run p e below s _ _ _ (T74.setTop (mkF m 87 #[.val (.int pz), .val (.int px), .val (.int (pz &&& (3 : Int32))), .val (.int px), .val (.ref w1), .val (.ref w1)] []))
            refine Run.pre (fun _ k => XS.aload X74.here hx rfl (hb hby at_87) rfl rfl k) ?_
            show Run p e below s _ _ _ (T74.setTop (mkF m 89 #[.val (.int pz), .val (.int px), .val (.int (pz &&& (3 : Int32))), .val (.int px), .val (.ref w1), .val (.ref w1)] [(.ref w1)]))
            refine Run.pre (fun _ k => XS.aload X74.here hx rfl (hb hby at_89) rfl rfl k) ?_
            show Run p e below s _ _ _ (T74.setTop (mkF m 91 #[.val (.int pz), .val (.int px), .val (.int (pz &&& (3 : Int32))), .val (.int px), .val (.ref w1), .val (.ref w1)] [(.ref w1), (.ref w1)]))
            refine Run.pre (fun _ k => Jvm.RoadKit.acmp (g := (mkF m 91 #[.val (.int pz), .val (.int px), .val (.int (pz &&& (3 : Int32))), .val (.int px), .val (.ref w1), .val (.ref w1)] [(.ref w1), (.ref w1)])) X74 hx rfl rfl rfl (pc0 := 91) (pc' := 94) (same := true) rfl (hb hby at_91) rfl (decide_eq_true rfl) (by decide) (by decide) k) ?_
            show Run p e below s _ _ _ (T74.setTop (mkF m 94 #[.val (.int pz), .val (.int px), .val (.int (pz &&& (3 : Int32))), .val (.int px), .val (.ref w1), .val (.ref w1)] []))
            refine Run.pre (fun _ k => XS.iconst X74.here hx rfl (hb hby at_94) k) ?_
            show Run p e below s _ _ _ (T74.setTop (mkF m 95 #[.val (.int pz), .val (.int px), .val (.int (pz &&& (3 : Int32))), .val (.int px), .val (.ref w1), .val (.ref w1)] [(.int (1 : Int32))]))
            refine Run.pre (fun _ k => XS.goto X74.here hx rfl (pc0 := 95) (pc' := 99) rfl (hb hby at_95) (by decide) (by decide) k) ?_
            show Run p e below s _ _ _ (T74.setTop (mkF m 99 #[.val (.int pz), .val (.int px), .val (.int (pz &&& (3 : Int32))), .val (.int px), .val (.ref w1), .val (.ref w1)] [(.int (1 : Int32))]))
            exact Run.retN X74 hx hret (t := .boolean) (by simp) hlk (hb hby at_99) (by first | (rw [e74]; exact ⟨rfl, N72⟩) | exact ⟨rfl, N72⟩) (by decide) (by decide)
          · skip
            refine Run.pre (fun _ k => XS.icmpYes X0.here hx rfl (pc0 := 60) (pc' := 71) rfl (hb hby at_60) rfl (feq (hc69 : ¬ (px = (64 : Int32)))).2 (by decide) (by decide) k) ?_
            show Run p e below s _ _ _ (s₁.setTop (mkF m 71 #[.val (.int pz), .val (.int px), .val (.int (pz &&& (3 : Int32))), .val (.int px), .unset, .unset] []))
            refine Run.pre (fun _ k => XS.aconstNull X0.here hx rfl (hb hby at_71) k) ?_
            show Run p e below s _ _ _ (s₁.setTop (mkF m 72 #[.val (.int pz), .val (.int px), .val (.int (pz &&& (3 : Int32))), .val (.int px), .unset, .unset] [.null]))
            refine Run.pre (fun _ k => XS.astore X0.here hx rfl (hb hby at_72) rfl rfl (l' := #[.val (.int pz), .val (.int px), .val (.int (pz &&& (3 : Int32))), .val (.int px), .val .null, .unset]) rfl k) ?_
            show Run p e below s _ _ _ (s₁.setTop (mkF m 74 #[.val (.int pz), .val (.int px), .val (.int (pz &&& (3 : Int32))), .val (.int px), .val .null, .unset] []))
            refine Run.pre (fun _ k => XS.iloadN X0.here hx rfl (hb hby at_74) rfl  k) ?_
            show Run p e below s _ _ _ (s₁.setTop (mkF m 75 #[.val (.int pz), .val (.int px), .val (.int (pz &&& (3 : Int32))), .val (.int px), .val .null, .unset] [(.int px)]))
            refine Run.callS X0 hx hZ (y := (⟨"com/example/portcullis/portcullis/digest/DigestAlgorithm", "fromHexLength", "(I)Ljava/util/Optional;"⟩ : MethodName)) hown (hw _ (List.mem_of_getElem? (i := 3) rfl)) (hw _ (List.mem_of_getElem? (i := 4) rfl)) (hw _ (List.mem_of_getElem? (i := 1) rfl)) (hw _ (List.mem_of_getElem? (i := 5) rfl)) (by decide) (W := 0) (rm1_c l Z a0 hw px vv kv w0 w1 we h0 n0 (Nat.le_trans Z0 (Keep.refl h0 []).1) OL SV EV AV SE EE FE L0 L1 hc63 hc69) e0 (by decide) (by decide) (by decide) (by decide) (g := (mkF m 75 #[.val (.int pz), .val (.int px), .val (.int (pz &&& (3 : Int32))), .val (.int px), .val .null, .unset] [(.int px)])) rfl (by rw [hml]; rfl) (argsL := [(.int px)]) (rest := []) (lenOf pd_5 rfl) rfl (by show 2 * 0 + _ ≤ _; exact Nat.le_of_eq rfl) (hb hby at_75) ?_
            intro v75 T75 L75 X75 hQ75
            obtain ⟨b75, rfl, Nq75, Kc75, eb75, fv75⟩ := hQ75
            have N75 := Fr.app N0 Nq75
            have K75 : Keep h0 T75.heap [] := (Keep.refl h0 []).trans Kc75 all0
            show Run p e below s _ _ _ (T75.setTop (mkF m 78 #[.val (.int pz), .val (.int px), .val (.int (pz &&& (3 : Int32))), .val (.int px), .val .null, .unset] [(.ref b75)]))
            refine Run.pre (fun _ k => XS.aconstNull X75.here hx rfl (hb hby at_78) k) ?_
            show Run p e below s _ _ _ (T75.setTop (mkF m 79 #[.val (.int pz), .val (.int px), .val (.int (pz &&& (3 : Int32))), .val (.int px), .val .null, .unset] [.null, (.ref b75)]))
            refine Run.callV X75 hx hZ (y := (⟨"java/util/Optional", "orElse", "(Ljava/lang/Object;)Ljava/lang/Object;"⟩ : MethodName)) (z := (⟨"java/util/Optional", "orElse", "(Ljava/lang/Object;)Ljava/lang/Object;"⟩ : MethodName)) hown (hw _ (List.mem_of_getElem? (i := 43) rfl)) (hw _ (List.mem_of_getElem? (i := 44) rfl)) (notFace_of_selects (args := #[]) (mvT hZ (hw _ (List.mem_of_getElem? (i := 46) rfl)))) (hw _ (List.mem_of_getElem? (i := 46) rfl)) (hw _ (List.mem_of_getElem? (i := 45) rfl)) (hw _ (List.mem_of_getElem? (i := 47) rfl)) (hw _ (List.mem_of_getElem? (i := 26) rfl)) (by decide) (b := b75) eb75 (W := 0) (rm7_n l Z a0 hw b75 T75.heap n0 (Nat.le_trans Z0 K75.1) fv75) rfl (by decide) (by decide) (by decide) (by decide) (g := (mkF m 79 #[.val (.int pz), .val (.int px), .val (.int (pz &&& (3 : Int32))), .val (.int px), .val .null, .unset] [.null, (.ref b75)])) rfl (by rw [hml]; rfl) (argsL := [.null]) (rest := []) (lenOf pd_0 rfl) rfl (by show 2 * 0 + _ ≤ _; exact Nat.le_of_eq rfl) (hb hby at_79) ?_
            intro v76 T76 L76 X76 hQ76
            obtain ⟨rfl, Nq76, he76⟩ := hQ76
            have N76 := Fr.app N75 Nq76
            have e76 : T76.heap = T75.heap := he76
            show Run p e below s _ _ _ (T76.setTop (mkF m 82 #[.val (.int pz), .val (.int px), .val (.int (pz &&& (3 : Int32))), .val (.int px), .val .null, .unset] [.null]))
            refine Run.pre (X76.checkcastNull hx (g := (mkF m 82 #[.val (.int pz), .val (.int px), .val (.int (pz &&& (3 : Int32))), .val (.int px), .val .null, .unset] [.null])) rfl rfl (hb hby at_82)) ?_
            show Run p e below s _ _ _ (T76.setTop (mkF m 85 #[.val (.int pz), .val (.int px), .val (.int (pz &&& (3 : Int32))), .val (.int px), .val .null, .unset] [.null]))
            refine Run.pre (fun _ k => XS.astore X76.here hx rfl (hb hby at_85) rfl rfl (l' := #[.val (.int pz), .val (.int px), .val (.int (pz &&& (3 : Int32))), .val (.int px), .val .null, .val .null]) rfl k) ?_
            show Run p e below s _ _ _ (T76.setTop (mkF m 87 #[.val (.int pz), .val (.int px), .val (.int (pz &&& (3 : Int32))), .val (.int px), .val .null, .val .null] []))
            refine Run.pre (fun _ k => XS.aload X76.here hx rfl (hb hby at_87) rfl rfl k) ?_
            show Run p e below s _ _ _ (T76.setTop (mkF m 89 #[.val (.int pz), .val (.int px), .val (.int (pz &&& (3 : Int32))), .val (.int px), .val .null, .val .null] [.null]))
            refine Run.pre (fun _ k => XS.aload X76.here hx rfl (hb hby at_89) rfl rfl k) ?_
            show Run p e below s _ _ _ (T76.setTop (mkF m 91 #[.val (.int pz), .val (.int px), .val (.int (pz &&& (3 : Int32))), .val (.int px), .val .null, .val .null] [.null, .null]))
            refine Run.pre (fun _ k => Jvm.RoadKit.acmp (g := (mkF m 91 #[.val (.int pz), .val (.int px), .val (.int (pz &&& (3 : Int32))), .val (.int px), .val .null, .val .null] [.null, .null])) X76 hx rfl rfl rfl (pc0 := 91) (pc' := 94) (same := true) rfl (hb hby at_91) rfl (decide_eq_true rfl) (by decide) (by decide) k) ?_
            show Run p e below s _ _ _ (T76.setTop (mkF m 94 #[.val (.int pz), .val (.int px), .val (.int (pz &&& (3 : Int32))), .val (.int px), .val .null, .val .null] []))
            refine Run.pre (fun _ k => XS.iconst X76.here hx rfl (hb hby at_94) k) ?_
            show Run p e below s _ _ _ (T76.setTop (mkF m 95 #[.val (.int pz), .val (.int px), .val (.int (pz &&& (3 : Int32))), .val (.int px), .val .null, .val .null] [(.int (1 : Int32))]))
            refine Run.pre (fun _ k => XS.goto X76.here hx rfl (pc0 := 95) (pc' := 99) rfl (hb hby at_95) (by decide) (by decide) k) ?_
            show Run p e below s _ _ _ (T76.setTop (mkF m 99 #[.val (.int pz), .val (.int px), .val (.int (pz &&& (3 : Int32))), .val (.int px), .val .null, .val .null] [(.int (1 : Int32))]))
            exact Run.retN X76 hx hret (t := .boolean) (by simp) hlk (hb hby at_99) (by first | (rw [e76]; exact ⟨rfl, N76⟩) | exact ⟨rfl, N76⟩) (by decide) (by decide)
set_option maxRecDepth 65536 in
set_option maxHeartbeats 40000000 in
theorem comes_1 {Post : Tables → Env → Array Value → State → Outcome → State → Prop} (hpost : ∀ tb e args s v u, (limb_1_1.after args s (.returned v) u = true ∧ limb_1_2.after args s (.returned v) u = true ∧ True) → FrameEnd s (.returned v) u (Jvm.fieldLocs frame_1_writes args s ++ Jvm.arrayLocs frame_1_arrays args s ++ Jvm.staticLocs frame_1_statics s) 16 128 → Post tb e args s (.returned v) u) :
    ArmFor flags0 classFile x code maxLocals ret World_1 tables_1 room_1 Calls_1 rest_1 Pre_1 Post := by
  intro l hfl _ _ p e ha hc hk s m args below hf hA hF happ hP
  obtain ⟨hcalls, hrest, hpre⟩ := hP
  obtain ⟨-, -, -, hnamed, -, -, -, hat⟩ := (Spec.applies_iff hf).mp happ
  obtain ⟨hg, hn⟩ := and_e (Cond.before_iff.mp (show (Jvm.Cond.and given_1 narrow_1).before args s = true from hpre))
  obtain ⟨g0, gr0⟩ := and_e hg
  obtain ⟨g1, gr1⟩ := and_e gr0
  obtain ⟨w0, w1, rfl⟩ : ∃ w0 w1 : Value, args = #[w0, w1] := by
    have hs : args.size = 2 := by simpa [Cond.value, given_1] using g0
    obtain ⟨L⟩ := args
    match L, hs with
    | [w0, w1], _ => exact ⟨w0, w1, rfl⟩
  have hw := fun d (hd : d ∈ tables_1) => atoms_spec (ws := Jvm.Cond.code x code maxLocals ret :: tables_1) hat d (List.mem_cons_of_mem _ hd)
  have hfit : Fit s := own_fit hF
  obtain ⟨hsets, hown0⟩ := atoms_of _ (rest_1_c_eq ▸ (show rest_1_c.before _ s = true from hrest))
  have hr0 := Cond.before_iff.mp hown0
  obtain ⟨i0, ei0⟩ := is_v g1
  obtain rfl : w0 = (.int i0) := Option.some.inj ei0
  obtain ⟨i1, ei1⟩ := is_v gr1
  obtain rfl : w1 = (.int i1) := Option.some.inj ei1
  obtain ⟨nn0, nnr0⟩ := and_e hn
  obtain ⟨nn1, nnr1⟩ := and_e nnr0
  obtain ⟨nn2, nnr2⟩ := and_e nnr1
  obtain ⟨nn3, nnr3⟩ := and_e nnr2
  obtain ⟨nn4, nnr4⟩ := and_e nnr3
  obtain ⟨nn5, nnr5⟩ := and_e nnr4
  obtain ⟨nn6, nnr6⟩ := and_e nnr5
  obtain ⟨nn7, nnr7⟩ := and_e nnr6
  obtain ⟨w_MD5, ev_MD5⟩ := exa_v nn0
  have S_MD5 := Sta.start ev_MD5 (Or.inr ⟨(hw _ (List.mem_of_getElem? (i := 1) rfl)), (hw _ (List.mem_of_getElem? (i := 2) rfl))⟩)
  have E_MD5 := Exa.start ev_MD5 nn0
  obtain ⟨w__VALUES, ev__VALUES⟩ := exa_v nn2
  have S__VALUES := Sta.start ev__VALUES (Or.inr ⟨(hw _ (List.mem_of_getElem? (i := 1) rfl)), (hw _ (List.mem_of_getElem? (i := 10) rfl))⟩)
  have E__VALUES := Exa.start ev__VALUES nn2
  obtain ⟨w_SHA_256, ev_SHA_256⟩ := exa_v nn5
  have S_SHA_256 := Sta.start ev_SHA_256 (Or.inr ⟨(hw _ (List.mem_of_getElem? (i := 1) rfl)), (hw _ (List.mem_of_getElem? (i := 18) rfl))⟩)
  have E_SHA_256 := Exa.start ev_SHA_256 nn5
  obtain ⟨cl__VALUES, Ar__VALUES⟩ := Arr.start ev__VALUES nn1
  obtain ⟨hl__VALUES, hz__VALUES⟩ := own_len ev__VALUES Ar__VALUES nn3
  have el__VALUES_0 := own_elem ev__VALUES ev_MD5 Ar__VALUES.1 nn4
  have el__VALUES_1 := own_elem ev__VALUES ev_SHA_256 Ar__VALUES.1 nn6
  have F_MD5_length := own_fldInt ev_MD5 nn7
  have F_SHA_256_length := own_fldInt ev_SHA_256 nnr7
  have A__VALUES : Arv s s.heap w__VALUES cl__VALUES.cls (Jvm.ClassFile.FieldType.object "com/example/portcullis/portcullis/digest/DigestAlgorithm") 2 [(.ref w_MD5), (.ref w_SHA_256)] .null := Arv.start hfit Ar__VALUES hl__VALUES hz__VALUES (by decide) rfl ⟨el__VALUES_0, el__VALUES_1, trivial⟩
  have cE := Cond.before_iff.mp (hsets _ (List.mem_of_getElem? (i := 2) rfl))
  obtain ⟨w_E, ev_E⟩ := exa_v cE
  have S_E := Sta.start ev_E (Or.inl (hsets _ (List.mem_of_getElem? (i := 1) rfl)))
  have E_E := Exa.start ev_E cE
  have F_E := own_fldNull ev_E (Cond.before_iff.mp (hsets _ (List.mem_of_getElem? (i := 3) rfl)))
  obtain ⟨n, o, h1, h2, h3, _, L, rfl, ⟨rfl, N⟩, hq⟩ := rm0 l s _ hw i0 i1 w__VALUES cl__VALUES.cls w_MD5 w_SHA_256 w_E s.heap s.heap.size (Nat.le_refl _) (Old.start s) S__VALUES E__VALUES A__VALUES S_E E_E F_E F_MD5_length F_SHA_256_length S_MD5 S_SHA_256 E_MD5 E_SHA_256 tables_1 p e ha hc hk s m _ below hf ((Spec.applies_iff_loose hf).mp happ).1 ⟨rfl, State.Warmed39.refl s, rfl⟩ trivial
  refine ⟨n, _, h1, h2, h3, hpost _ _ _ _ _ _ ⟨Cond.after_iff.mpr rfl, Cond.after_iff.mpr (eq_i res_at (Term.int_eval (1)) rfl), trivial⟩ ⟨hq.1, hq.2.1, (hq.2.2.sift fun y hy => Or.inr (N y hy)).mono (by decide) (by decide)⟩⟩
theorem main_1_1 : Claimed_1_1 := comes_1 fun _ _ _ _ _ _ h hF => ⟨h.1, hF⟩
theorem main_1_2 : Claimed_1_2 := comes_1 fun _ _ _ _ _ _ h hF => ⟨h.2.1, hF⟩
end Jvm.Pilot.@@N@@
namespace Jvm.Pilot.@@N@@
open Jvm Jvm.ClassFile Sem Op Lib Jvm.Free Jvm.Stand Jvm.Pilot.@@N@@.Jvm.D
/-! MADE BY PROGRAM (witnessworld.py) out of the Statement's table words and the real class files: 15 classes; the members and pool entries that the words name. The judged class is class 1, her method 1. -/
namespace start1
open Jvm.ClassFile
def u (s : String) : CpInfo := .utf8 (stringToUtf16 s)
/-- a pool by its gaps: so many unusable entries, then the entry; so many at the end -/
def gap : Nat → List CpInfo → List CpInfo
  | 0, r => r
  | n + 1, r => .unusable :: gap n r
def poolList (es : List (Nat × CpInfo)) (last : Nat) : List CpInfo := es.foldr (fun e r => gap e.1 (e.2 :: r)) (gap last [])
def pool (es : List (Nat × CpInfo)) (last : Nat) : Array CpInfo := ⟨poolList es last⟩
def fileOf (pool : Array CpInfo) (this : Nat) (attrs : Array Attribute := #[]) (ms : Array MethodInfo := #[]) (fl : Nat := 33) (sup : Nat := 0) (ifs : Array Nat := #[]) (fds : Array FieldInfo := #[]) : ClassFile where
  minorVersion := 0
  majorVersion := 65
  constantPool := pool
  accessFlags := fl
  thisClass := this
  superClass := sup
  interfaces := ifs
  fields := fds
  methods := ms
  attributes := attrs
def plain (name : String) (sup : Option ClassId) : Class where
  name := name
  kind := .ordinary
  loader := none
  accessFlags := 33
  super := sup
  interfaces := #[]
  cf := none
  fields := #[]
  methods := #[]
  instanceTypes := #[]
  staticTypes := #[]
  resolved := #[]
  callSites := []
  init := .initialized
  statics := none
  mirror := none

def pool0 : Array CpInfo := pool [(5, u "<init>"), (0, u "()V"), (1, .class_ 10), (1, u "java/lang/Object"), (85, u "clone"), (0, u "()Ljava/lang/Object;")] 26

def k0c0 : Code := { maxStack := 0, maxLocals := 1, code := object_method_1_code, exceptionTable := #[], attributes := #[] }
def k0m0 : Method := { name := "<init>", desc := "()V", sig := { parameters := [], returnType := none }, accessFlags := 1, code := some k0c0 }
def k0m1 : Method := { name := "clone", desc := "()Ljava/lang/Object;", sig := { parameters := [], returnType := some (.object "java/lang/Object") }, accessFlags := 260, code := none }
/-- java/lang/Object -/
def k0 : Class := { plain "java/lang/Object" none with
  accessFlags := 33
  interfaces := #[]
  cf := some (fileOf pool0 8 #[] #[{ accessFlags := 1, nameIndex := 5, descriptorIndex := 6, attributes := #[] }, { accessFlags := 260, nameIndex := 96, descriptorIndex := 97, attributes := #[] }] 33 0 #[] #[])
  fields := #[]
  methods := #[k0m0, k0m1]
  instanceTypes := #[]
  staticTypes := #[]
  resolved := Array.replicate 124 none
  statics := none }

def pool1 : Array CpInfo := pool [(2, .class_ 4), (1, u "java/lang/Object"), (0, u "<init>"), (0, u "()V"), (0, .fieldref 8 9), (0, .class_ 10), (0, .nameAndType 11 12), (0, u "com/example/portcullis/portcullis/digest/DigestAlgorithm"), (0, u "MD5"), (0, u "Lcom/example/portcullis/portcullis/digest/DigestAlgorithm;"), (0, .fieldref 8 14), (0, .nameAndType 15 12), (0, u "SHA_256"), (0, .methodref 8 17), (0, .nameAndType 18 19), (0, u "fromHexLength"), (0, u "(I)Ljava/util/Optional;"), (0, .methodref 21 22), (0, .class_ 23), (0, .nameAndType 24 25), (0, u "java/util/Optional"), (0, u "orElse"), (0, u "(Ljava/lang/Object;)Ljava/lang/Object;"), (0, .class_ 27), (0, u "com/example/portcullis/portcullis/digest/DigestAlgorithmFromHexLengthPinLaw"), (2, u "law"), (0, u "(II)Z")] 3

def k1m0 : Method := { name := "<init>", desc := "()V", sig := { parameters := [], returnType := none }, accessFlags := 1, code := none }
def k1c1 : Code := { maxStack := 3, maxLocals := 6, code := code, exceptionTable := #[], attributes := #[] }
def k1m1 : Method := { name := "law", desc := "(II)Z", sig := { parameters := [.int, .int], returnType := some .boolean }, accessFlags := 9, code := some k1c1 }
/-- com/example/portcullis/portcullis/digest/DigestAlgorithmFromHexLengthPinLaw -/
def k1 : Class := { plain "com/example/portcullis/portcullis/digest/DigestAlgorithmFromHexLengthPinLaw" (some 0) with
  accessFlags := 49
  interfaces := #[]
  cf := some (fileOf pool1 26 #[] #[{ accessFlags := 1, nameIndex := 5, descriptorIndex := 6, attributes := #[] }, { accessFlags := 9, nameIndex := 30, descriptorIndex := 31, attributes := #[] }] 49 2 #[] #[])
  fields := #[]
  methods := #[k1m0, k1m1]
  instanceTypes := #[]
  staticTypes := #[]
  resolved := Array.replicate 35 none
  statics := none }

def pool2 : Array CpInfo := pool [(1, .class_ 2), (0, u "java/lang/constant/Constable"), (0, .class_ 4), (0, u "java/lang/Object")] 6

/-- java/lang/constant/Constable -/
def k2 : Class := { plain "java/lang/constant/Constable" (some 0) with
  accessFlags := 1537
  interfaces := #[]
  cf := some (fileOf pool2 1 #[] #[] 1537 3 #[] #[])
  fields := #[]
  methods := #[]
  instanceTypes := #[]
  staticTypes := #[]
  resolved := Array.replicate 11 none
  statics := none }

def pool3 : Array CpInfo := pool [(1, .class_ 2), (0, u "java/lang/Comparable"), (0, .class_ 4), (0, u "java/lang/Object")] 7

/-- java/lang/Comparable -/
def k3 : Class := { plain "java/lang/Comparable" (some 0) with
  accessFlags := 1537
  interfaces := #[]
  cf := some (fileOf pool3 1 #[] #[] 1537 3 #[] #[])
  fields := #[]
  methods := #[]
  instanceTypes := #[]
  staticTypes := #[]
  resolved := Array.replicate 12 none
  statics := none }

def pool4 : Array CpInfo := pool [(1, .class_ 2), (0, u "java/io/Serializable"), (0, .class_ 4), (0, u "java/lang/Object")] 2

/-- java/io/Serializable -/
def k4 : Class := { plain "java/io/Serializable" (some 0) with
  accessFlags := 1537
  interfaces := #[]
  cf := some (fileOf pool4 1 #[] #[] 1537 3 #[] #[])
  fields := #[]
  methods := #[]
  instanceTypes := #[]
  staticTypes := #[]
  resolved := Array.replicate 7 none
  statics := none }

def pool5 : Array CpInfo := pool [(2, .class_ 4), (1, u "java/lang/Enum"), (0, u "name"), (0, u "Ljava/lang/String;"), (2, u "ordinal"), (0, u "I"), (1, .class_ 14), (1, u "java/lang/Object"), (4, u "hash"), (86, .class_ 108), (1, u "java/lang/Enum$EnumDesc"), (2, .class_ 112), (0, u "java/lang/constant/Constable"), (0, .class_ 114), (0, u "java/lang/Comparable"), (0, .class_ 116), (0, u "java/io/Serializable")] 87

/-- java/lang/Enum -/
def k5 : Class := { plain "java/lang/Enum" (some 0) with
  accessFlags := 1057
  interfaces := #[2, 3, 4]
  cf := some (fileOf pool5 2 #[.nestMembers #[106]] #[] 1057 12 #[111, 113, 115] #[{ accessFlags := 18, nameIndex := 5, descriptorIndex := 6, attributes := #[] }, { accessFlags := 18, nameIndex := 9, descriptorIndex := 10, attributes := #[] }, { accessFlags := 2, nameIndex := 19, descriptorIndex := 10, attributes := #[] }])
  fields := #[{ name := "name", type := (.object "java/lang/String"), accessFlags := 18, slot := 0, constantValue := 0 }, { name := "ordinal", type := .int, accessFlags := 18, slot := 1, constantValue := 0 }, { name := "hash", type := .int, accessFlags := 2, slot := 2, constantValue := 0 }]
  methods := #[]
  instanceTypes := #[(.object "java/lang/String"), .int, .int]
  staticTypes := #[]
  resolved := Array.replicate 204 none
  statics := none }

def pool6 : Array CpInfo := pool [(1, .class_ 2), (0, u "com/example/portcullis/portcullis/digest/DigestAlgorithm"), (2, u "MD5"), (0, u "Lcom/example/portcullis/portcullis/digest/DigestAlgorithm;"), (2, u "SHA_256"), (0, .fieldref 1 11), (0, .nameAndType 12 13), (0, u "$VALUES"), (0, u "[Lcom/example/portcullis/portcullis/digest/DigestAlgorithm;"), (0, .methodref 15 16), (0, .class_ 13), (0, .nameAndType 17 18), (0, u "clone"), (0, u "()Ljava/lang/Object;"), (1, .class_ 22), (1, u "java/lang/Enum"), (8, u "token"), (0, u "Ljava/lang/String;"), (0, .fieldref 1 34), (0, .nameAndType 35 36), (0, u "length"), (0, u "I"), (0, .methodref 1 38), (0, .nameAndType 39 40), (0, u "values"), (0, u "()[Lcom/example/portcullis/portcullis/digest/DigestAlgorithm;"), (6, .methodref 48 49), (0, .class_ 50), (0, .nameAndType 51 52), (0, u "java/util/Optional"), (0, u "of"), (0, u "(Ljava/lang/Object;)Ljava/util/Optional;"), (0, .methodref 48 54), (0, .nameAndType 55 56), (0, u "empty"), (0, u "()Ljava/util/Optional;"), (31, u "HEX"), (0, u "Ljava/util/HexFormat;"), (33, u "QOP_AUTH"), (13, u "fromHexLength"), (0, u "(I)Ljava/util/Optional;")] 30

def k6c0 : Code := { maxStack := 1, maxLocals := 0, code := prog_5_method_1_code, exceptionTable := #[], attributes := #[] }
def k6m0 : Method := { name := "values", desc := "()[Lcom/example/portcullis/portcullis/digest/DigestAlgorithm;", sig := { parameters := [], returnType := some (.array (.object "com/example/portcullis/portcullis/digest/DigestAlgorithm")) }, accessFlags := 9, code := some k6c0 }
def k6c1 : Code := { maxStack := 2, maxLocals := 5, code := prog_5_method_6_code, exceptionTable := #[], attributes := #[] }
def k6m1 : Method := { name := "fromHexLength", desc := "(I)Ljava/util/Optional;", sig := { parameters := [.int], returnType := some (.object "java/util/Optional") }, accessFlags := 9, code := some k6c1 }
/-- com/example/portcullis/portcullis/digest/DigestAlgorithm -/
def k6 : Class := { plain "com/example/portcullis/portcullis/digest/DigestAlgorithm" (some 5) with
  accessFlags := 16433
  interfaces := #[]
  cf := some (fileOf pool6 1 #[] #[{ accessFlags := 9, nameIndex := 39, descriptorIndex := 40, attributes := #[] }, { accessFlags := 9, nameIndex := 137, descriptorIndex := 138, attributes := #[] }] 16433 20 #[] #[{ accessFlags := 16409, nameIndex := 5, descriptorIndex := 6, attributes := #[] }, { accessFlags := 16409, nameIndex := 9, descriptorIndex := 6, attributes := #[] }, { accessFlags := 26, nameIndex := 123, descriptorIndex := 32, attributes := #[] }, { accessFlags := 26, nameIndex := 88, descriptorIndex := 89, attributes := #[] }, { accessFlags := 18, nameIndex := 31, descriptorIndex := 32, attributes := #[] }, { accessFlags := 18, nameIndex := 35, descriptorIndex := 36, attributes := #[] }, { accessFlags := 4122, nameIndex := 12, descriptorIndex := 13, attributes := #[] }])
  fields := #[{ name := "MD5", type := (.object "com/example/portcullis/portcullis/digest/DigestAlgorithm"), accessFlags := 16409, slot := 0, constantValue := 0 }, { name := "SHA_256", type := (.object "com/example/portcullis/portcullis/digest/DigestAlgorithm"), accessFlags := 16409, slot := 1, constantValue := 0 }, { name := "QOP_AUTH", type := (.object "java/lang/String"), accessFlags := 26, slot := 2, constantValue := 0 }, { name := "HEX", type := (.object "java/util/HexFormat"), accessFlags := 26, slot := 3, constantValue := 0 }, { name := "token", type := (.object "java/lang/String"), accessFlags := 18, slot := 3, constantValue := 0 }, { name := "length", type := .int, accessFlags := 18, slot := 4, constantValue := 0 }, { name := "$VALUES", type := (.array (.object "com/example/portcullis/portcullis/digest/DigestAlgorithm")), accessFlags := 4122, slot := 4, constantValue := 0 }]
  methods := #[k6m0, k6m1]
  instanceTypes := #[(.object "java/lang/String"), .int, .int, (.object "java/lang/String"), .int]
  staticTypes := #[(.object "com/example/portcullis/portcullis/digest/DigestAlgorithm"), (.object "com/example/portcullis/portcullis/digest/DigestAlgorithm"), (.object "java/lang/String"), (.object "java/util/HexFormat"), (.array (.object "com/example/portcullis/portcullis/digest/DigestAlgorithm"))]
  resolved := Array.replicate 169 none
  statics := some 0 }

def pool7 : Array CpInfo := pool [(1, .class_ 2), (0, u "java/lang/Cloneable"), (0, .class_ 4), (0, u "java/lang/Object")] 2

/-- java/lang/Cloneable -/
def k7 : Class := { plain "java/lang/Cloneable" (some 0) with
  accessFlags := 1537
  interfaces := #[]
  cf := some (fileOf pool7 1 #[] #[] 1537 3 #[] #[])
  fields := #[]
  methods := #[]
  instanceTypes := #[]
  staticTypes := #[]
  resolved := Array.replicate 7 none
  statics := none }

def pool8 : Array CpInfo := pool [(1, .fieldref 2 3), (0, .class_ 4), (0, .nameAndType 5 6), (0, u "java/util/Optional"), (0, u "EMPTY"), (0, u "Ljava/util/Optional;"), (0, .methodref 8 9), (0, .class_ 10), (0, .nameAndType 11 12), (0, u "java/lang/Object"), (0, u "<init>"), (0, u "()V"), (0, .fieldref 2 14), (0, .nameAndType 15 16), (0, u "value"), (0, u "Ljava/lang/Object;"), (0, .methodref 18 19), (0, .class_ 20), (0, .nameAndType 21 22), (0, u "java/util/Objects"), (0, u "requireNonNull"), (0, u "(Ljava/lang/Object;)Ljava/lang/Object;"), (0, .methodref 2 24), (0, .nameAndType 11 25), (0, u "(Ljava/lang/Object;)V"), (29, u "empty"), (0, u "()Ljava/util/Optional;"), (8, u "(Ljava/lang/Object;)Ljava/util/Optional;"), (16, u "of"), (82, u "orElse")] 21

def k8c0 : Code := { maxStack := 1, maxLocals := 1, code := jdk_32_method_1_code, exceptionTable := #[], attributes := #[] }
def k8m0 : Method := { name := "empty", desc := "()Ljava/util/Optional;", sig := { parameters := [], returnType := some (.object "java/util/Optional") }, accessFlags := 9, code := some k8c0 }
def k8c1 : Code := { maxStack := 2, maxLocals := 2, code := jdk_32_method_2_code, exceptionTable := #[], attributes := #[] }
def k8m1 : Method := { name := "<init>", desc := "(Ljava/lang/Object;)V", sig := { parameters := [(.object "java/lang/Object")], returnType := none }, accessFlags := 2, code := some k8c1 }
def k8c2 : Code := { maxStack := 3, maxLocals := 1, code := jdk_32_method_3_code, exceptionTable := #[], attributes := #[] }
def k8m2 : Method := { name := "of", desc := "(Ljava/lang/Object;)Ljava/util/Optional;", sig := { parameters := [(.object "java/lang/Object")], returnType := some (.object "java/util/Optional") }, accessFlags := 9, code := some k8c2 }
def k8c3 : Code := { maxStack := 1, maxLocals := 2, code := jdk_32_method_15_code, exceptionTable := #[], attributes := #[] }
def k8m3 : Method := { name := "orElse", desc := "(Ljava/lang/Object;)Ljava/lang/Object;", sig := { parameters := [(.object "java/lang/Object")], returnType := some (.object "java/lang/Object") }, accessFlags := 1, code := some k8c3 }
/-- java/util/Optional -/
def k8 : Class := { plain "java/util/Optional" (some 0) with
  accessFlags := 49
  interfaces := #[]
  cf := some (fileOf pool8 2 #[] #[{ accessFlags := 9, nameIndex := 55, descriptorIndex := 56, attributes := #[] }, { accessFlags := 2, nameIndex := 11, descriptorIndex := 25, attributes := #[] }, { accessFlags := 9, nameIndex := 82, descriptorIndex := 65, attributes := #[] }, { accessFlags := 1, nameIndex := 165, descriptorIndex := 22, attributes := #[] }] 49 8 #[] #[{ accessFlags := 26, nameIndex := 5, descriptorIndex := 6, attributes := #[] }, { accessFlags := 18, nameIndex := 15, descriptorIndex := 16, attributes := #[] }])
  fields := #[{ name := "EMPTY", type := (.object "java/util/Optional"), accessFlags := 26, slot := 0, constantValue := 0 }, { name := "value", type := (.object "java/lang/Object"), accessFlags := 18, slot := 0, constantValue := 0 }]
  methods := #[k8m0, k8m1, k8m2, k8m3]
  instanceTypes := #[(.object "java/lang/Object")]
  staticTypes := #[(.object "java/util/Optional")]
  resolved := Array.replicate 187 none
  statics := some 1 }

def pool9 : Array CpInfo := pool [(2, .class_ 4), (1, u "java/lang/Object"), (0, u "<init>"), (0, u "()V"), (35, .class_ 44), (1, u "java/util/Objects"), (0, u "requireNonNull"), (0, u "(Ljava/lang/Object;)Ljava/lang/Object;")] 137

def k9m0 : Method := { name := "<init>", desc := "()V", sig := { parameters := [], returnType := none }, accessFlags := 2, code := none }
def k9c1 : Code := { maxStack := 2, maxLocals := 1, code := jdk_31_method_10_code, exceptionTable := #[], attributes := #[] }
def k9m1 : Method := { name := "requireNonNull", desc := "(Ljava/lang/Object;)Ljava/lang/Object;", sig := { parameters := [(.object "java/lang/Object")], returnType := some (.object "java/lang/Object") }, accessFlags := 9, code := some k9c1 }
/-- java/util/Objects -/
def k9 : Class := { plain "java/util/Objects" (some 0) with
  accessFlags := 49
  interfaces := #[]
  cf := some (fileOf pool9 42 #[] #[{ accessFlags := 2, nameIndex := 5, descriptorIndex := 6, attributes := #[] }, { accessFlags := 9, nameIndex := 45, descriptorIndex := 46, attributes := #[] }] 49 2 #[] #[])
  fields := #[]
  methods := #[k9m0, k9m1]
  instanceTypes := #[]
  staticTypes := #[]
  resolved := Array.replicate 184 none
  statics := none }

/-- the primitive byte -/
def k10 : Class := { plain "byte" none with kind := .primitive 'B', accessFlags := 0x411 }
/-- [B -/
def k11 : Class := { plain "[B" (some 0) with kind := .array 10 .byte, interfaces := #[7, 4], accessFlags := 1041 }

/-- the primitive int -/
def k12 : Class := { plain "int" none with kind := .primitive 'I', accessFlags := 0x411 }
/-- [I -/
def k13 : Class := { plain "[I" (some 0) with kind := .array 12 .int, interfaces := #[7, 4], accessFlags := 1041 }

/-- [Lcom/example/portcullis/portcullis/digest/DigestAlgorithm; -/
def k14 : Class := { plain "[Lcom/example/portcullis/portcullis/digest/DigestAlgorithm;" (some 0) with kind := .array 6 (.object "com/example/portcullis/portcullis/digest/DigestAlgorithm"), interfaces := #[7, 4], accessFlags := 1041 }

def heap : Heap := #[{ cls := 6, slots := #[.ref 3, .ref 4, .null, .null, .ref 2], vm := .statics 6 },
  { cls := 8, slots := #[.ref 5], vm := .statics 8 },
  { cls := 14, slots := #[.ref 3, .ref 4], vm := .none },
  { cls := 6, slots := #[.null, .int 0, .int 0, .null, .int 16], vm := .none },
  { cls := 6, slots := #[.null, .int 1, .int 0, .null, .int 32], vm := .none },
  { cls := 8, slots := #[.null], vm := .none }]
def classes : Array Class := #[k0, k1, k2, k3, k4, k5, k6, k7, k8, k9, k10, k11, k12, k13, k14]
def interned : List (Array UInt16 × Addr) := []
def slotsUsed : Nat := 19
def theMethod : MethodId := ⟨1, 1⟩
def args0 : Array Value := #[.int 1, .int 3]
def aboutOver (below : List Frame) : State where
  vm := { classes := classes, interned := interned.toArray }
  heap := heap
  slotsUsed := slotsUsed
  threads := #[{ frames := .invoking theMethod args0 :: below }]
def below0 : List Frame := [.native { method := ⟨0, 0⟩, args := #[] }]
def about1 : State := aboutOver below0
def p0 : Program := .bare "" "" ""
def e0 : Env := launch0.env 0 0 0
theorem w_frames : about1.frames = Frame.invoking theMethod args0 :: below0 := rfl
set_option maxRecDepth 65536 in
theorem w_args : argsFit about1.vm theMethod args0 = true := by decide +kernel
set_option maxRecDepth 65536 in
theorem w_heap : heapFits about1 = true := by decide +kernel
set_option maxRecDepth 65536 in
theorem w_runnable : about1.curStatus? = some .runnable := by decide +kernel
set_option maxRecDepth 65536 in
theorem w_alone : about1.alone = true := by decide +kernel
set_option maxRecDepth 65536 in
theorem w_named : about1.methodNamed? x = some theMethod := by decide +kernel
set_option maxRecDepth 65536 in
theorem w_hears : about1.hears theMethod below0 = true := by decide +kernel
set_option maxRecDepth 65536 in
theorem w_ripe : about1.ripe theMethod args0 below0 = true := by decide +kernel
theorem w_running : about1.status = .running := rfl
set_option maxRecDepth 65536 in
theorem w_room : about1.hasRoom e0.platform room_1 = true :=
  launch0.hasRoom_least _ room_1 (by decide +kernel) (by decide +kernel) (by decide +kernel) (by decide +kernel) (by decide +kernel) (by decide +kernel)
theorem allAtoms_all (ts : List Jvm.Cond) (a : Array Jvm.Value) (st : Jvm.State) : (allAtoms ts).before a st = ts.all (fun c => c.before a st) := by
  induction ts with
  | nil => rfl
  | cons c t ih =>
    show (Jvm.Cond.and c (allAtoms t)).before a st = _
    rw [Jvm.Cond.before_and, ih, List.all_cons]
def words1 : List Jvm.Cond := Jvm.Cond.code x code maxLocals ret :: tables_1
/-- a 'code' word, met by the world's own term for the bytes: nothing is compared byte by byte -/
theorem code_word {y : MethodName} {bytes : ByteArray} {mx : Nat} {rt : Option FieldType} {a : Array Value} {s : State} {m : MethodId} {meth : Method} {c : Code} (h1 : s.methodNamed? y = some m) (h2 : s.vm.method? m = some meth) (h3 : meth.code = some c) (h4 : c.code = bytes)
    (h5 : (c.maxLocals == mx && c.exceptionTable.isEmpty && decide (c.maxStack ≤ mostOperands) && decide (meth.sig.returnType = rt) && !meth.locks && decide (parseMethodDescriptor y.desc = some meth.sig)) = true) : (Jvm.Cond.code y bytes mx rt).before a s = true := by
  simp only [Bool.and_eq_true, beq_iff_eq, Bool.not_eq_true', decide_eq_true_eq] at h5
  obtain ⟨⟨⟨⟨⟨g1, g2⟩, g3⟩, g4⟩, g5⟩, g6⟩ := h5
  simp [Cond.before, Cond.holds, Cond.value, h1, h2, h3, h4, g1, g2, g3, g4, g5, g6]
def isCode : Jvm.Cond → Bool
  | .code _ _ _ _ => true
  | _ => false
theorem all_split {L : List Jvm.Cond} {P : Jvm.Cond → Bool} (h1 : L.all (fun c => isCode c || P c) = true) (h2 : ∀ c ∈ L.filter isCode, P c = true) : L.all P = true := by
  refine List.all_eq_true.mpr fun c hc => ?_
  have h := List.all_eq_true.mp h1 c hc
  rcases Bool.eq_false_or_eq_true (isCode c) with hi | hi
  · exact h2 c (List.mem_filter.mpr ⟨hc, hi⟩)
  · simpa [hi] using h
set_option maxRecDepth 65536 in
theorem w_c0 : (Jvm.Cond.code x code maxLocals ret).before args0 about1 = true := code_word (m := ⟨1, 1⟩) (meth := k1m1) (c := k1c1) (by decide +kernel) rfl rfl rfl (by decide +kernel)
set_option maxRecDepth 65536 in
theorem w_c1 : (Jvm.Cond.code ({ cls := "com/example/portcullis/portcullis/digest/DigestAlgorithm", name := "fromHexLength", desc := "(I)Ljava/util/Optional;" } : Jvm.MethodName) prog_5_method_6_code (5 : Nat) (Option.some (Jvm.ClassFile.FieldType.object "java/util/Optional"))).before args0 about1 = true := code_word (m := ⟨6, 1⟩) (meth := k6m1) (c := k6c1) (by decide +kernel) rfl rfl rfl (by decide +kernel)
set_option maxRecDepth 65536 in
theorem w_c2 : (Jvm.Cond.code ({ cls := "com/example/portcullis/portcullis/digest/DigestAlgorithm", name := "values", desc := "()[Lcom/example/portcullis/portcullis/digest/DigestAlgorithm;" } : Jvm.MethodName) prog_5_method_1_code (0 : Nat) (Option.some (Jvm.ClassFile.FieldType.array (Jvm.ClassFile.FieldType.object "com/example/portcullis/portcullis/digest/DigestAlgorithm")))).before args0 about1 = true := code_word (m := ⟨6, 0⟩) (meth := k6m0) (c := k6c0) (by decide +kernel) rfl rfl rfl (by decide +kernel)
set_option maxRecDepth 65536 in
theorem w_c3 : (Jvm.Cond.code ({ cls := "java/util/Optional", name := "of", desc := "(Ljava/lang/Object;)Ljava/util/Optional;" } : Jvm.MethodName) jdk_32_method_3_code (1 : Nat) (Option.some (Jvm.ClassFile.FieldType.object "java/util/Optional"))).before args0 about1 = true := code_word (m := ⟨8, 2⟩) (meth := k8m2) (c := k8c2) (by decide +kernel) rfl rfl rfl (by decide +kernel)
set_option maxRecDepth 65536 in
theorem w_c4 : (Jvm.Cond.code ({ cls := "java/util/Objects", name := "requireNonNull", desc := "(Ljava/lang/Object;)Ljava/lang/Object;" } : Jvm.MethodName) jdk_31_method_10_code (1 : Nat) (Option.some (Jvm.ClassFile.FieldType.object "java/lang/Object"))).before args0 about1 = true := code_word (m := ⟨9, 1⟩) (meth := k9m1) (c := k9c1) (by decide +kernel) rfl rfl rfl (by decide +kernel)
set_option maxRecDepth 65536 in
theorem w_c5 : (Jvm.Cond.code ({ cls := "java/util/Optional", name := "<init>", desc := "(Ljava/lang/Object;)V" } : Jvm.MethodName) jdk_32_method_2_code (2 : Nat) (Option.none : Option Jvm.ClassFile.FieldType)).before args0 about1 = true := code_word (m := ⟨8, 1⟩) (meth := k8m1) (c := k8c1) (by decide +kernel) rfl rfl rfl (by decide +kernel)
set_option maxRecDepth 65536 in
theorem w_c6 : (Jvm.Cond.code ({ cls := "java/lang/Object", name := "<init>", desc := "()V" } : Jvm.MethodName) object_method_1_code (1 : Nat) (Option.none : Option Jvm.ClassFile.FieldType)).before args0 about1 = true := code_word (m := ⟨0, 0⟩) (meth := k0m0) (c := k0c0) (by decide +kernel) rfl rfl rfl (by decide +kernel)
set_option maxRecDepth 65536 in
theorem w_c7 : (Jvm.Cond.code ({ cls := "java/util/Optional", name := "orElse", desc := "(Ljava/lang/Object;)Ljava/lang/Object;" } : Jvm.MethodName) jdk_32_method_15_code (2 : Nat) (Option.some (Jvm.ClassFile.FieldType.object "java/lang/Object"))).before args0 about1 = true := code_word (m := ⟨8, 3⟩) (meth := k8m3) (c := k8c3) (by decide +kernel) rfl rfl rfl (by decide +kernel)
set_option maxRecDepth 65536 in
theorem w_c8 : (Jvm.Cond.code ({ cls := "java/util/Optional", name := "empty", desc := "()Ljava/util/Optional;" } : Jvm.MethodName) jdk_32_method_1_code (1 : Nat) (Option.some (Jvm.ClassFile.FieldType.object "java/util/Optional"))).before args0 about1 = true := code_word (m := ⟨8, 0⟩) (meth := k8m0) (c := k8c0) (by decide +kernel) rfl rfl rfl (by decide +kernel)
def codes1 : List Jvm.Cond := [Jvm.Cond.code x code maxLocals ret, Jvm.Cond.code ({ cls := "com/example/portcullis/portcullis/digest/DigestAlgorithm", name := "fromHexLength", desc := "(I)Ljava/util/Optional;" } : Jvm.MethodName) prog_5_method_6_code (5 : Nat) (Option.some (Jvm.ClassFile.FieldType.object "java/util/Optional")), Jvm.Cond.code ({ cls := "com/example/portcullis/portcullis/digest/DigestAlgorithm", name := "values", desc := "()[Lcom/example/portcullis/portcullis/digest/DigestAlgorithm;" } : Jvm.MethodName) prog_5_method_1_code (0 : Nat) (Option.some (Jvm.ClassFile.FieldType.array (Jvm.ClassFile.FieldType.object "com/example/portcullis/portcullis/digest/DigestAlgorithm"))), Jvm.Cond.code ({ cls := "java/util/Optional", name := "of", desc := "(Ljava/lang/Object;)Ljava/util/Optional;" } : Jvm.MethodName) jdk_32_method_3_code (1 : Nat) (Option.some (Jvm.ClassFile.FieldType.object "java/util/Optional")), Jvm.Cond.code ({ cls := "java/util/Objects", name := "requireNonNull", desc := "(Ljava/lang/Object;)Ljava/lang/Object;" } : Jvm.MethodName) jdk_31_method_10_code (1 : Nat) (Option.some (Jvm.ClassFile.FieldType.object "java/lang/Object")), Jvm.Cond.code ({ cls := "java/util/Optional", name := "<init>", desc := "(Ljava/lang/Object;)V" } : Jvm.MethodName) jdk_32_method_2_code (2 : Nat) (Option.none : Option Jvm.ClassFile.FieldType), Jvm.Cond.code ({ cls := "java/lang/Object", name := "<init>", desc := "()V" } : Jvm.MethodName) object_method_1_code (1 : Nat) (Option.none : Option Jvm.ClassFile.FieldType), Jvm.Cond.code ({ cls := "java/util/Optional", name := "orElse", desc := "(Ljava/lang/Object;)Ljava/lang/Object;" } : Jvm.MethodName) jdk_32_method_15_code (2 : Nat) (Option.some (Jvm.ClassFile.FieldType.object "java/lang/Object")), Jvm.Cond.code ({ cls := "java/util/Optional", name := "empty", desc := "()Ljava/util/Optional;" } : Jvm.MethodName) jdk_32_method_1_code (1 : Nat) (Option.some (Jvm.ClassFile.FieldType.object "java/util/Optional"))]
set_option maxRecDepth 65536 in
theorem codes_eq : words1.filter isCode = codes1 := rfl
theorem w_codes : ∀ c ∈ words1.filter isCode, c.before args0 about1 = true := by
  rw [codes_eq]
  intro c hc
  simp only [codes1, List.mem_cons, List.not_mem_nil, or_false] at hc
  rcases hc with rfl | rfl | rfl | rfl | rfl | rfl | rfl | rfl | rfl
  · exact w_c0
  · exact w_c1
  · exact w_c2
  · exact w_c3
  · exact w_c4
  · exact w_c5
  · exact w_c6
  · exact w_c7
  · exact w_c8
set_option maxRecDepth 65536 in
theorem w_t1 : (words1.take 24).all (fun c => isCode c || c.before args0 about1) = true := by decide +kernel
set_option maxRecDepth 65536 in
theorem w_t2 : ((words1.drop 24).take 24).all (fun c => isCode c || c.before args0 about1) = true := by decide +kernel
set_option maxRecDepth 65536 in
theorem w_t3 : ((words1.drop 24).drop 24).all (fun c => isCode c || c.before args0 about1) = true := by decide +kernel
theorem w_tables : (allAtoms (Jvm.Cond.code x code maxLocals ret :: tables_1)).before args0 about1 = true := by
  rw [allAtoms_all]
  show words1.all (fun c => c.before args0 about1) = true
  refine all_split ?_ w_codes
  rw [← List.take_append_drop 24 words1, List.all_append, w_t1, ← List.take_append_drop 24 (words1.drop 24), List.all_append, w_t2, w_t3]
  rfl
set_option maxRecDepth 65536 in
theorem w_rest : rest_1_c.before args0 about1 = true := by decide +kernel
set_option maxRecDepth 65536 in
theorem w_case : (Jvm.Cond.and given_1 narrow_1).before args0 about1 = true := by decide +kernel
theorem w_applies : (headSpec (Jvm.Cond.code x code maxLocals ret :: tables_1) room_1).applies x e0.platform about1 = true :=
  (Spec.applies_iff w_frames).mpr ⟨w_running, w_runnable, w_alone, w_named, w_hears, w_ripe, w_room, w_tables⟩
theorem atStart : AtStart classFile x code maxLocals ret World_1 tables_1 room_1 Calls_1 rest_1 Pre_1 launch0 p0 e0 about1 theMethod args0 below0 :=
  ⟨lists_1, trivial, launch0.admits_env _ _ _, launch0.least_env, fairChoices_fair.cas, fairChoices_fair.clock, w_frames, w_args, w_heap, w_applies, trivial, w_rest, w_case⟩
end start1
theorem witness_1 : WitnessClaimed_1 := ⟨start1.p0, start1.e0, start1.about1, start1.theMethod, start1.args0, start1.below0, start1.atStart⟩
end Jvm.Pilot.@@N@@
