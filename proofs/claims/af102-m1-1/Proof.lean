import JvmDerived
import JvmDerived.Pilot.@@N@@Statement
import JvmDerived.Pilot.@@N@@Code
set_option linter.unusedVariables false
set_option linter.unusedSimpArgs false
namespace Jvm.Pilot.@@N@@
open Jvm Jvm.ClassFile Sem Op Lib Jvm.Free Jvm.Stand Jvm.LawKit Jvm.RoadKit Bundle Jvm.Pilot.@@N@@.Jvm.D
section Own
variable {p : Program} {l : Launch} {e : Env} {R : Room} {s : State} {m : MethodId} {args : Array Value} {below : List Frame} {meth : Method} {c : Code} {T : State} {locs : List Loc} {cells slots : Nat} {Z : State} {a0 : Array Value} {h : Heap}
/-- from the state S the body ends well: it returns v, leaves the heap and the written places as Q says, within kc cells and ks slots -/
def Run (p : Program) (e : Env) (below : List Frame) (s : State) (Q : Option Value → Heap → List Loc → Prop) (kc ks : Nat) (S : State) : Prop := ∃ s₂ o, Steps p.tables e below S s₂ ∧ s₂.status = .running ∧ Ended s₂ below o ∧ ∃ v L, o = .returned v ∧ Q v s₂.heap L ∧ FrameEnd s o s₂ L kc ks
variable {Q : Option Value → Heap → List Loc → Prop} {kc ks : Nat}
theorem Run.pre {S S' : State} (h : ∀ t, Steps p.tables e below S' t → Steps p.tables e below S t) (k : Run p e below s Q kc ks S') : Run p e below s Q kc ks S := by
  obtain ⟨s₂, o, h1, r⟩ := k; exact ⟨s₂, o, h _ h1, r⟩
theorem Run.out (X : Stand p l e R s m args below meth c T locs cells slots) (hx : p.tables.exec = Jvm.exec) {pc : Nat} {Ls : Array Slot} {w : Value} {t : FieldType} {i : Instr} {rest : List Value} (hret : meth.sig.returnType = some t) (hn : narrow t w = w)
    (hi : (i = .ireturn ∧ (t = .int ∨ t = .boolean ∨ t = .byte ∨ t = .char ∨ t = .short) ∧ ∃ z, w = .int z) ∨ (i = .lreturn ∧ t = .long ∧ ∃ z, w = .long z) ∨ (i = .dreturn ∧ t = .double ∧ ∃ z, w = .double z) ∨ (i = .freturn ∧ t = .float ∧ ∃ z, w = .float z) ∨ (i = .areturn ∧ t.isReference = true ∧ w.isRef = true))
    (hlk : meth.locks = false) (hd : decode c.code pc = .ok (i, 1)) (hq : Q (some w) T.heap locs) (hc : cells ≤ kc) (hs : slots ≤ ks) : Run p e below s Q kc ks (T.setTop (mkF m pc Ls (w :: rest))) := by
  obtain ⟨fs, hr, hrun, hended, hW, hsame⟩ := X.leave (v := some w) (fun h => by rw [hret] at h; cases h) hlk
  exact ⟨_, _, retOut X hx hret hn hi hd hr, hrun, hended, _, _, rfl, hq, ⟨_, rfl⟩, hW, hsame.mono hc hs⟩
theorem Run.retN (X : Stand p l e R s m args below meth c T locs cells slots) (hx : p.tables.exec = Jvm.exec) {pc : Nat} {Ls : Array Slot} {z : Int32} {t : FieldType} {rest : List Value} (hret : meth.sig.returnType = some t) (ht : t = .boolean ∨ t = .byte ∨ t = .char ∨ t = .short) (hlk : meth.locks = false)
    (hd : decode c.code pc = .ok (.ireturn, 1)) (hq : Q (some (.int (nar t z))) T.heap locs) (hc : cells ≤ kc) (hs : slots ≤ ks) : Run p e below s Q kc ks (T.setTop (mkF m pc Ls (.int z :: rest))) := by
  obtain ⟨fs, hr, hrun, hended, hW, hsame⟩ := X.leave (v := some (.int (nar t z))) (fun h => by rw [hret] at h; cases h) hlk
  exact ⟨_, _, Jvm.RoadKit.retN X hx hret ht hd hr, hrun, hended, _, _, rfl, hq, ⟨_, rfl⟩, hW, hsame.mono hc hs⟩
theorem Run.retI (X : Stand p l e R s m args below meth c T locs cells slots) (hx : p.tables.exec = Jvm.exec) {pc : Nat} {Ls : Array Slot} {z : Int32} {rest : List Value} (hret : meth.sig.returnType = some .int) (hlk : meth.locks = false)
    (hd : decode c.code pc = .ok (.ireturn, 1)) (hq : Q (some (.int z)) T.heap locs) (hc : cells ≤ kc) (hs : slots ≤ ks) : Run p e below s Q kc ks (T.setTop (mkF m pc Ls (.int z :: rest))) := Run.out X hx hret rfl (Or.inl ⟨rfl, Or.inl rfl, z, rfl⟩) hlk hd hq hc hs
theorem Run.retJ (X : Stand p l e R s m args below meth c T locs cells slots) (hx : p.tables.exec = Jvm.exec) {pc : Nat} {Ls : Array Slot} {z : Int64} {rest : List Value} (hret : meth.sig.returnType = some .long) (hlk : meth.locks = false)
    (hd : decode c.code pc = .ok (.lreturn, 1)) (hq : Q (some (.long z)) T.heap locs) (hc : cells ≤ kc) (hs : slots ≤ ks) : Run p e below s Q kc ks (T.setTop (mkF m pc Ls (.long z :: rest))) := Run.out X hx hret rfl (Or.inr (Or.inl ⟨rfl, rfl, z, rfl⟩)) hlk hd hq hc hs
theorem Run.retA (X : Stand p l e R s m args below meth c T locs cells slots) (hx : p.tables.exec = Jvm.exec) {pc : Nat} {Ls : Array Slot} {w : Value} {t : FieldType} {rest : List Value} (hret : meth.sig.returnType = some t) (ht : t.isReference = true) (hw : w.isRef = true) (hlk : meth.locks = false)
    (hd : decode c.code pc = .ok (.areturn, 1)) (hq : Q (some w) T.heap locs) (hc : cells ≤ kc) (hs : slots ≤ ks) : Run p e below s Q kc ks (T.setTop (mkF m pc Ls (w :: rest))) := Run.out X hx hret (by cases t <;> cases w <;> simp_all [FieldType.isReference, Value.isRef, narrow]) (Or.inr (Or.inr (Or.inr (Or.inr ⟨rfl, ht, hw⟩)))) hlk hd hq hc hs
theorem Run.retV (X : Stand p l e R s m args below meth c T locs cells slots) (hx : p.tables.exec = Jvm.exec) {pc : Nat} {Ls : Array Slot} (hret : meth.sig.returnType = none) (hlk : meth.locks = false)
    (hd : decode c.code pc = .ok (.return_, 1)) (hq : Q none T.heap locs) (hc : cells ≤ kc) (hs : slots ≤ ks) : Run p e below s Q kc ks (T.setTop (mkF m pc Ls [])) := by
  obtain ⟨fs, hr, hrun, hended, hW, hsame⟩ := X.leave (v := none) (fun _ => rfl) hlk
  exact ⟨_, _, X.returnOut hx hret hd hr, hrun, hended, _, _, rfl, hq, ⟨_, rfl⟩, hW, hsame.mono hc hs⟩
/-- a body's contract, at the heap h0 and the arguments as' -/
def Con (l : Launch) (y : MethodName) (bytes : ByteArray) (maxL : Nat) (ret : Option FieldType) (rm : Room) (Z : State) (as' : Array Value) (h0 : Heap) (Q : Option Value → Heap → List Loc → Prop) : Prop :=
  ∀ ws, MetFree l y (head1 (Jvm.Cond.code y bytes maxL ret :: ws) rm) (fun a U => a = as' ∧ Z.Warmed39 U.vm ∧ U.heap = h0) (fun _ _ _ _ _ => True) (fun _ U o U' => ∃ v L, o = .returned v ∧ Q v U'.heap L ∧ FrameEnd U o U' L rm.cells rm.slots)
theorem Con.mk {y : MethodName} {bytes : ByteArray} {maxL : Nat} {ret : Option FieldType} {rm : Room} {as' : Array Value} {h0 : Heap} {F : MethodId → JFrame} (hpl : plainFor y = true) (hef : ∀ m, entryFrame m as' maxL = F m)
    (body : ∀ (p : Program) (e : Env) (s : State) (m : MethodId) (below : List Frame) (meth : Method) (c : Code) (s₁ : State), p.tables.exec = Jvm.exec → c.code = bytes → c.maxLocals = maxL → s.vm.findClass y.cls = some m.cls → meth.name = y.name → meth.sig.returnType = ret → meth.locks = false → Z.Warmed39 s.vm →
      Stand p l e rm s m as' below meth c s₁ [] 0 0 → s₁.heap = h0 → Run p e below s Q rm.cells rm.slots (s₁.setTop (F m))) : Con l y bytes maxL ret rm Z as' h0 Q := by
  intro ws
  refine MetFree.of_bodySF hpl hisR ?_
  intro p e s m args below meth c s₁ Bd hml0 hP hK
  obtain ⟨rfl, hZ, hh⟩ := hP
  have k := body p e s m below meth c s₁ Bd.exec Bd.bytes hml0 (findClass_of_methodNamed Bd.named) (name_of_methodNamed Bd.named Bd.method).1 Bd.returns Bd.notSynchronized hZ (Stand.of_body Bd) (by rw [← hh, Bd.state]; rfl)
  rw [← hef m] at k
  exact k
theorem Con.back {y : MethodName} {bytes : ByteArray} {maxL : Nat} {ret : Option FieldType} {rm : Room} {len W : Nat} {as' : Array Value} (hM : Con l y bytes maxL ret rm Z as' h Q) (hZ : Z.Warmed39 s.vm) (wc : (Jvm.Cond.code y bytes maxL ret).before a0 Z = true) (wz : (Jvm.Cond.initialized y.cls).before a0 Z = true) (hf : rm.frames + 1 ≤ R.frames) (hl : W + (maxL + 11) + rm.locals ≤ R.locals) :
    Back l R p e below s args y len W (fun A a => a = as' ∧ A.U.heap = h ∧ A.cells + rm.cells ≤ R.cells ∧ A.slots + rm.slots ≤ R.slots) (fun A _ v B => ∃ L, Q v B.U.heap L ∧ B.locs = A.locs ++ L ∧ B.cells = A.cells + rm.cells ∧ B.slots = A.slots + rm.slots) :=
  backOf (hM []) hZ wc wz hf hl
section Calls
variable {y : MethodName} {bytes : ByteArray} {maxL : Nat} {rt : Option FieldType} {rm : Room} {W : Nat} {own : String} {index : Nat} {Qc : Option Value → Heap → List Loc → Prop} {g : JFrame} {argsL rest : List Value} {as' : Array Value}
theorem Run.callS (X : Stand p l e R s m args below meth c T locs cells slots) (hx : p.tables.exec = Jvm.exec) (hZ : Z.Warmed39 s.vm) (hown : s.vm.findClass own = some m.cls) (w1 : (Jvm.Cond.methodLink own index y).before a0 Z = true) (w2 : (Jvm.Cond.static y).before a0 Z = true) (w3 : (Jvm.Cond.initialized y.cls).before a0 Z = true) (w4 : (Jvm.Cond.code y bytes maxL rt).before a0 Z = true)
    (hy : y.cls ≠ "java/lang/invoke/MethodHandle" ∧ y.cls ≠ "java/lang/invoke/VarHandle") (hM : Con l y bytes maxL rt rm Z argsL.toArray h Qc) (eT : T.heap = h) (hfr : rm.frames + 1 ≤ R.frames) (hlo : W + (maxL + 11) + rm.locals ≤ R.locals) (hce : cells + rm.cells ≤ R.cells) (hsl : slots + rm.slots ≤ R.slots)
    (hg : g.method = m) (hsize : g.locals.size = c.maxLocals) (hlen : ∀ sig, parseMethodDescriptor y.desc = some sig → argsL.length = sig.parameters.length) (hstack : g.stack = argsL.reverse ++ rest) (hW : 2 * g.monitorRoom + (rest.map fun v => v.category).sum ≤ W) (hdg : decode c.code g.pc = .ok (.invokestatic index, 3))
    (k : ∀ v T' L, Stand p l e R s m args below meth c T' (locs ++ L) (cells + rm.cells) (slots + rm.slots) → Qc v T'.heap L → Run p e below s Q kc ks (T'.setTop { g with pc := g.pc + 3, stack := v.toList ++ rest })) : Run p e below s Q kc ks (T.setTop g) := by
  obtain ⟨v, vm₁, ⟨T', L', c', n'⟩, -, X', ⟨L, hQ, l1, l2, l3⟩, st⟩ := Jvm.LawKit.callS X hx hown (mvT hZ w1) (mvT hZ w2) (mvT hZ w3) (mvT hZ w4) hy (hM.back (W := W) hZ w4 w3 hfr hlo) hg hsize hlen hstack hW hdg (fun _ _ => ⟨rfl, eT, hce, hsl⟩)
  dsimp only [Pt.U, Pt.locs, Pt.cells, Pt.slots] at X' l1 l2 l3 st hQ
  subst l1 l2 l3
  exact Run.pre st (k v T' L X' hQ)
theorem Run.callI (X : Stand p l e R s m args below meth c T locs cells slots) (hx : p.tables.exec = Jvm.exec) (hZ : Z.Warmed39 s.vm) (hy1 : y.name = "<init>") (hown : s.vm.findClass own = some m.cls) (w1 : (Jvm.Cond.methodLink own index y).before a0 Z = true) (w2 : (Jvm.Cond.instanceMethod y).before a0 Z = true) (w4 : (Jvm.Cond.code y bytes maxL none).before a0 Z = true) (w3 : (Jvm.Cond.initialized y.cls).before a0 Z = true)
    (hy : y.cls ≠ "java/lang/invoke/MethodHandle" ∧ y.cls ≠ "java/lang/invoke/VarHandle") {a : Addr} (hM : Con l y bytes maxL none rm Z (.ref a :: argsL).toArray h Qc) (eT : T.heap = h) (hfr : rm.frames + 1 ≤ R.frames) (hlo : W + (maxL + 11) + rm.locals ≤ R.locals) (hce : cells + rm.cells ≤ R.cells) (hsl : slots + rm.slots ≤ R.slots)
    (hg : g.method = m) (hsize : g.locals.size = c.maxLocals) (hlen : ∀ sig, parseMethodDescriptor y.desc = some sig → argsL.length = sig.parameters.length) (hstack : g.stack = argsL.reverse ++ .ref a :: rest) (hW : 2 * g.monitorRoom + (rest.map fun v => v.category).sum ≤ W) (hdg : decode c.code g.pc = .ok (.invokespecial index, 3))
    (k : ∀ v T' L, Stand p l e R s m args below meth c T' (locs ++ L) (cells + rm.cells) (slots + rm.slots) → Qc v T'.heap L → Run p e below s Q kc ks (T'.setTop { g with pc := g.pc + 3, stack := v.toList ++ rest })) : Run p e below s Q kc ks (T.setTop g) := by
  obtain ⟨v, vm₁, ⟨T', L', c', n'⟩, -, X', ⟨L, hQ, l1, l2, l3⟩, st⟩ := X.specialBack hx hy1 hown (mvT hZ w1) (mvT hZ w2) (mvT hZ w4) hy (hM.back (W := W) hZ w4 w3 hfr hlo) hg hsize (Steps.refl _) hlen hstack hW hdg (fun _ _ => ⟨rfl, eT, hce, hsl⟩)
  dsimp only [Pt.U, Pt.locs, Pt.cells, Pt.slots] at X' l1 l2 l3 st hQ
  subst l1 l2 l3
  exact Run.pre (fun _ q => st.trans q) (k v T' L X' hQ)
theorem Run.callP (X : Stand p l e R s m args below meth c T locs cells slots) (hx : p.tables.exec = Jvm.exec) (hZ : Z.Warmed39 s.vm) (hown : s.vm.findClass own = some m.cls) (w1 : (Jvm.Cond.methodLink own index y).before a0 Z = true) (w2 : (Jvm.Cond.instanceMethod y).before a0 Z = true) (w5 : (Jvm.Cond.selects y.cls y y).before a0 Z = true) (w6 : (Jvm.Cond.privateMethod y).before a0 Z = true) (w4 : (Jvm.Cond.code y bytes maxL rt).before a0 Z = true) (w3 : (Jvm.Cond.initialized y.cls).before a0 Z = true)
    (hy : y.cls ≠ "java/lang/invoke/MethodHandle" ∧ y.cls ≠ "java/lang/invoke/VarHandle") {a : Addr} {C : String} (E : Exa Z h a C) (hM : Con l y bytes maxL rt rm Z (.ref a :: argsL).toArray h Qc) (eT : T.heap = h) (hfr : rm.frames + 1 ≤ R.frames) (hlo : W + (maxL + 11) + rm.locals ≤ R.locals) (hce : cells + rm.cells ≤ R.cells) (hsl : slots + rm.slots ≤ R.slots)
    (hg : g.method = m) (hsize : g.locals.size = c.maxLocals) (hlen : ∀ sig, parseMethodDescriptor y.desc = some sig → argsL.length = sig.parameters.length) (hstack : g.stack = argsL.reverse ++ .ref a :: rest) (hW : 2 * g.monitorRoom + (rest.map fun v => v.category).sum ≤ W) (hdg : decode c.code g.pc = .ok (.invokevirtual index, 3))
    (k : ∀ v T' L, Stand p l e R s m args below meth c T' (locs ++ L) (cells + rm.cells) (slots + rm.slots) → Qc v T'.heap L → Run p e below s Q kc ks (T'.setTop { g with pc := g.pc + 3, stack := v.toList ++ rest })) : Run p e below s Q kc ks (T.setTop g) := by
  obtain ⟨cell, kk, q1, -, -, q4, -⟩ := E
  obtain ⟨v, vm₁, ⟨T', L', c', n'⟩, -, X', ⟨L, hQ, l1, l2, l3⟩, st⟩ := X.privateBack hx hown (mvT hZ w1) (mvT hZ w2) (mvT hZ w5) (Cond.privateMethod_at (mvP hZ w6 (args := #[]))) (mvT hZ w4) hy (hM.back (W := W) hZ w4 w3 hfr hlo) hg hsize (Steps.refl _) (a := a) (by rw [eT]; exact q1) (fun q e => by rw [e] at q4; cases q4) hlen hstack hW hdg (fun _ _ => ⟨rfl, eT, hce, hsl⟩)
  dsimp only [Pt.U, Pt.locs, Pt.cells, Pt.slots] at X' l1 l2 l3 st hQ
  subst l1 l2 l3
  exact Run.pre (fun _ q => st.trans q) (k v T' L X' hQ)
theorem Run.callV {z : MethodName} {C : String} (X : Stand p l e R s m args below meth c T locs cells slots) (hx : p.tables.exec = Jvm.exec) (hZ : Z.Warmed39 s.vm) (hown : s.vm.findClass own = some m.cls) (w1 : (Jvm.Cond.methodLink own index y).before a0 Z = true) (w2 : (Jvm.Cond.declares y).before a0 Z = true) (hnf : NotFace s y) (w5 : (Jvm.Cond.selects C y z).before a0 Z = true) (w6 : (Jvm.Cond.instanceMethod z).before a0 Z = true) (w4 : (Jvm.Cond.code z bytes maxL rt).before a0 Z = true) (w3 : (Jvm.Cond.initialized z.cls).before a0 Z = true)
    (hy : y.cls ≠ "java/lang/invoke/MethodHandle" ∧ y.cls ≠ "java/lang/invoke/VarHandle") {b : Addr} (E : Exa Z h b C) (hM : Con l z bytes maxL rt rm Z (.ref b :: argsL).toArray h Qc) (eT : T.heap = h) (hfr : rm.frames + 1 ≤ R.frames) (hlo : W + (maxL + 11) + rm.locals ≤ R.locals) (hce : cells + rm.cells ≤ R.cells) (hsl : slots + rm.slots ≤ R.slots)
    (hg : g.method = m) (hsize : g.locals.size = c.maxLocals) (hlen : ∀ sig, parseMethodDescriptor y.desc = some sig → argsL.length = sig.parameters.length) (hstack : g.stack = argsL.reverse ++ .ref b :: rest) (hW : 2 * g.monitorRoom + (rest.map fun v => v.category).sum ≤ W) (hdg : decode c.code g.pc = .ok (.invokevirtual index, 3))
    (k : ∀ v T' L, Stand p l e R s m args below meth c T' (locs ++ L) (cells + rm.cells) (slots + rm.slots) → Qc v T'.heap L → Run p e below s Q kc ks (T'.setTop { g with pc := g.pc + 3, stack := v.toList ++ rest })) : Run p e below s Q kc ks (T.setTop g) := by
  obtain ⟨cB, kB, qa, qb, qc⟩ := isOf hZ eT E
  obtain ⟨v, vm₁, ⟨T', L', c', n'⟩, -, X', ⟨L, hQ, l1, l2, l3⟩, st⟩ := X.virtualBack hx hown (mvT hZ w1) (mvT hZ w2) hnf (mvT hZ w5) (mvT hZ w6) hy (hM.back (W := W) hZ w4 w3 hfr hlo) qa qc hg hsize (Steps.refl _) hlen hstack hW hdg (fun _ _ => ⟨rfl, eT, hce, hsl⟩)
  dsimp only [Pt.U, Pt.locs, Pt.cells, Pt.slots] at X' l1 l2 l3 st hQ
  subst l1 l2 l3
  exact Run.pre (fun _ q => st.trans q) (k v T' L X' hQ)
theorem Run.callU {z : MethodName} {C owner : String} (X : Stand p l e R s m args below meth c T locs cells slots) (hx : p.tables.exec = Jvm.exec) (hZ : Z.Warmed39 s.vm) (hown : s.vm.findClass own = some m.cls) (w1 : (Jvm.Cond.methodLink own index y).before a0 Z = true) (w2 : (Jvm.Cond.sameMethod y.cls owner y.name y.desc).before a0 Z = true) (w7 : (Jvm.Cond.declares ⟨owner, y.name, y.desc⟩).before a0 Z = true) (w5 : (Jvm.Cond.selects C y z).before a0 Z = true) (w6 : (Jvm.Cond.instanceMethod z).before a0 Z = true) (w4 : (Jvm.Cond.code z bytes maxL rt).before a0 Z = true) (w3 : (Jvm.Cond.initialized z.cls).before a0 Z = true)
    (hy : owner ≠ "java/lang/invoke/MethodHandle" ∧ owner ≠ "java/lang/invoke/VarHandle") {b : Addr} (E : Exa Z h b C) (hM : Con l z bytes maxL rt rm Z (.ref b :: argsL).toArray h Qc) (eT : T.heap = h) (hfr : rm.frames + 1 ≤ R.frames) (hlo : W + (maxL + 11) + rm.locals ≤ R.locals) (hce : cells + rm.cells ≤ R.cells) (hsl : slots + rm.slots ≤ R.slots)
    (hg : g.method = m) (hsize : g.locals.size = c.maxLocals) (hlen : ∀ sig, parseMethodDescriptor y.desc = some sig → argsL.length = sig.parameters.length) (hstack : g.stack = argsL.reverse ++ .ref b :: rest) (hW : 2 * g.monitorRoom + (rest.map fun v => v.category).sum ≤ W) (hdg : decode c.code g.pc = .ok (.invokevirtual index, 3))
    (k : ∀ v T' L, Stand p l e R s m args below meth c T' (locs ++ L) (cells + rm.cells) (slots + rm.slots) → Qc v T'.heap L → Run p e below s Q kc ks (T'.setTop { g with pc := g.pc + 3, stack := v.toList ++ rest })) : Run p e below s Q kc ks (T.setTop g) := by
  obtain ⟨cB, kB, qa, qb, qc⟩ := isOf hZ eT E
  obtain ⟨v, vm₁, ⟨T', L', c', n'⟩, -, X', ⟨L, hQ, l1, l2, l3⟩, st⟩ := X.virtualBackUp hx hown (mvT hZ w1) (mvT hZ w2) (mvT hZ w7) hy (mvT hZ w5) (mvT hZ w6) (hM.back (W := W) hZ w4 w3 hfr hlo) qa qc hg hsize (Steps.refl _) hlen hstack hW hdg (fun _ _ => ⟨rfl, eT, hce, hsl⟩)
  dsimp only [Pt.U, Pt.locs, Pt.cells, Pt.slots] at X' l1 l2 l3 st hQ
  subst l1 l2 l3
  exact Run.pre (fun _ q => st.trans q) (k v T' L X' hQ)
theorem Run.callF {xi : MethodName} {C : String} {count : Nat} (X : Stand p l e R s m args below meth c T locs cells slots) (hx : p.tables.exec = Jvm.exec) (hZ : Z.Warmed39 s.vm) (hown : s.vm.findClass own = some m.cls) (w1 : (Jvm.Cond.methodLink own index xi).before a0 Z = true) (w2 : (Jvm.Cond.declares xi).before a0 Z = true) (w7 : (Jvm.Cond.interfaceMethod xi.cls xi.cls xi.name xi.desc).before args s = true) (w5 : (Jvm.Cond.selects C xi y).before a0 Z = true) (w6 : (Jvm.Cond.instanceMethod y).before a0 Z = true) (w8 : (Jvm.Cond.publicMethod y).before a0 Z = true) (w9 : (Jvm.Cond.unhidden C xi.name xi.desc).before a0 Z = true) (w10 : (Jvm.Cond.castable C xi.cls).before a0 Z = true) (w4 : (Jvm.Cond.code y bytes maxL rt).before a0 Z = true) (w3 : (Jvm.Cond.initialized y.cls).before a0 Z = true)
    (hy : xi.cls ≠ "java/lang/invoke/MethodHandle" ∧ xi.cls ≠ "java/lang/invoke/VarHandle") {b : Addr} (E : Exa Z h b C) (hM : Con l y bytes maxL rt rm Z (.ref b :: argsL).toArray h Qc) (eT : T.heap = h) (hfr : rm.frames + 1 ≤ R.frames) (hlo : W + (maxL + 11) + rm.locals ≤ R.locals) (hce : cells + rm.cells ≤ R.cells) (hsl : slots + rm.slots ≤ R.slots)
    (hg : g.method = m) (hsize : g.locals.size = c.maxLocals) (hlen : ∀ sig, parseMethodDescriptor xi.desc = some sig → argsL.length = sig.parameters.length) (hstack : g.stack = argsL.reverse ++ .ref b :: rest) (hW : 2 * g.monitorRoom + (rest.map fun v => v.category).sum ≤ W) (hdg : decode c.code g.pc = .ok (.invokeinterface index count, 5))
    (k : ∀ v T' L, Stand p l e R s m args below meth c T' (locs ++ L) (cells + rm.cells) (slots + rm.slots) → Qc v T'.heap L → Run p e below s Q kc ks (T'.setTop { g with pc := g.pc + 5, stack := v.toList ++ rest })) : Run p e below s Q kc ks (T.setTop g) := by
  obtain ⟨cB, kB, qa, qb, qc⟩ := isOf hZ eT E
  obtain ⟨v, vm₁, ⟨T', L', c', n'⟩, -, X', ⟨L, hQ, l1, l2, l3⟩, st⟩ := X.interfaceBack hx hown (mvT hZ w1) (mvT hZ w2) w7 (mvT hZ w5) (mvT hZ w6) (mvT hZ w8) (mvT hZ w9) (mvT hZ w10) hy (hM.back (W := W) hZ w4 w3 hfr hlo) qa qb qc hg hsize (Steps.refl _) hlen hstack hW hdg (fun _ _ => ⟨rfl, eT, hce, hsl⟩)
  dsimp only [Pt.U, Pt.locs, Pt.cells, Pt.slots] at X' l1 l2 l3 st hQ
  subst l1 l2 l3
  exact Run.pre (fun _ q => st.trans q) (k v T' L X' hQ)
end Calls
/-! from the case's words to facts on the heap -/
theorem own_fldInt {args : Array Value} {t : Term} {C n d : String} {k : Int32} {a : Addr} (ht : t.eval args Z none [] Z = some (.ref a)) (h : (Jvm.Cond.eq (Term.field t C n d) (Term.int k)).value args Z none Z [] = some true) : Fld Z Z.heap a C n d (.int k) := by
  obtain ⟨x, y, e1, e2, -, k2⟩ := cmp_v (Or.inl h)
  have e3 : y = .int k := (Option.some.inj ((Term.int_eval k).symm.trans e2)).symm
  subst e3
  obtain ⟨z, rfl⟩ := k2
  have e4 := fld_at (C := C) (n := n) (dd := d) ht
  rw [e4] at e1
  have q : z = k := by
    have hh : (Jvm.Cond.eq (Term.field t C n d) (Term.int k)).value args Z none Z [] = some (decide (z = k)) := by simp [Jvm.Cond.value, e4, e1, e2]
    exact gotT hh h
  subst q
  exact Fld.start e1
theorem own_fldLong {args : Array Value} {t : Term} {C n d : String} {k : Int64} {a : Addr} (ht : t.eval args Z none [] Z = some (.ref a)) (h : (Jvm.Cond.eq (Term.field t C n d) (Term.long k)).value args Z none Z [] = some true) : Fld Z Z.heap a C n d (.long k) := by
  obtain ⟨x, y, e1, e2, -, k2⟩ := cmp_v (Or.inl h)
  have e3 : y = .long k := (Option.some.inj (show some (Value.long k) = some y from e2)).symm
  subst e3
  obtain ⟨z, rfl⟩ := k2
  have e4 := fld_at (C := C) (n := n) (dd := d) ht
  have q : z = k := gotT (eq_L e1 e2) h
  rw [e4] at e1
  subst q
  exact Fld.start e1
theorem own_len {args : Array Value} {t : Term} {n : Int32} {a : Addr} {cl : Cell} {ty : FieldType} (ht : t.eval args Z none [] Z = some (.ref a)) (A : Arr Z Z.heap a cl ty) (h : (Jvm.Cond.eq (Term.length t) (Term.int n)).value args Z none Z [] = some true) : cl.slots.size < 2 ^ 31 ∧ cl.slots.size.toInt32 = n := by
  obtain ⟨x, y, e1, e2, -, k2⟩ := cmp_v (Or.inl h)
  have ha : Z.arrayAt? a = some cl := A.fin (Vm.Alike.refl _)
  by_cases hl : cl.slots.size < 2 ^ 31
  · refine ⟨hl, ?_⟩
    have e3 := len_f ht ha hl
    have hh : (Jvm.Cond.eq (Term.length t) (Term.int n)).value args Z none Z [] = some (decide (cl.slots.size.toInt32 = n)) := by
      have e4 : (Term.int n).eval args Z none [] Z = some (.int n) := Term.int_eval n
      simp [Jvm.Cond.value, e3, e4]
    exact gotT hh h
  · exfalso
    simp [Term.eval, ht, ha, hl] at e1
theorem own_elem {args : Array Value} {t u : Term} {j : Int32} {a w : Addr} {cl : Cell} (ht : t.eval args Z none [] Z = some (.ref a)) (hu : u.eval args Z none [] Z = some (.ref w)) (hc : Z.heap[a]? = some cl) (h : (Jvm.Cond.eq (Term.elem t (Term.int j)) u).value args Z none Z [] = some true) : cl.slots[j.toNatClampNeg]? = some (.ref w) := by
  obtain ⟨x, y, e1, e2, k1, k2⟩ := cmp_v (Or.inl h)
  cases hu.symm.trans e2
  have q := gotT (eq_R e1 e2 k2.2 rfl) h
  subst q
  exact (elem_in e1 ht (Term.int_eval j) hc).2
theorem own_fldRef {args : Array Value} {t u : Term} {C n d : String} {a w : Addr} (ht : t.eval args Z none [] Z = some (.ref a)) (hu : u.eval args Z none [] Z = some (.ref w)) (h : (Jvm.Cond.eq (Term.field t C n d) u).value args Z none Z [] = some true) : Fld Z Z.heap a C n d (.ref w) := by
  obtain ⟨x, y, e1, e2, k1, k2⟩ := cmp_v (Or.inl h)
  cases hu.symm.trans e2
  have q := gotT (eq_R e1 e2 k2.2 rfl) h
  subst q
  rw [fld_at ht] at e1
  exact Fld.start e1
theorem own_fldNull {args : Array Value} {t : Term} {C n d : String} {a : Addr} (ht : t.eval args Z none [] Z = some (.ref a)) (h : (Jvm.Cond.eq (Term.field t C n d) Term.null).value args Z none Z [] = some true) : Fld Z Z.heap a C n d .null := by
  have e1 := null_v h
  rw [fld_at ht] at e1
  exact Fld.start e1
theorem own_fit {s : State} (hF : heapFits s = true) : Fit s := fun {y c} hc i hi => by
  obtain ⟨ha, rfl⟩ := Array.getElem?_eq_some_iff.mp hc
  have q := List.all_eq_true.mp ((Array.all_eq_true_iff_forall_mem.mp hF) _ (Array.getElem_mem ha)) i (List.mem_range.mpr hi)
  simpa [Array.getElem?_eq_getElem hi] using q
end Own
def own_pick (i : Int32) (w0 w1 w2 w3 w4 w5 : Addr) : Addr := if i = 0 then w0 else if i = 1 then w1 else if i = 2 then w2 else if i = 3 then w3 else if i = 4 then w4 else w5
def own_fin (i : Int32) : Int32 := if i = 0 then 0 else if i = 1 then 0 else if i = 2 then 0 else 1
def own_wait (a w1 w2 : Addr) : Int32 := if a = w1 then 1 else if a = w2 then 1 else 0
theorem own_plain (i : Int32) (w0 w1 w2 w3 w4 w5 : Addr) (n0_1 : w0 ≠ w1) (n0_2 : w0 ≠ w2) (n1_2 : w1 ≠ w2) (n3_0 : w3 ≠ w0) (n3_1 : w3 ≠ w1) (n3_2 : w3 ≠ w2) (n4_0 : w4 ≠ w0) (n4_1 : w4 ≠ w1) (n4_2 : w4 ≠ w2) (n5_0 : w5 ≠ w0) (n5_1 : w5 ≠ w1) (n5_2 : w5 ≠ w2) : own_wait (own_pick i w0 w1 w2 w3 w4 w5) w1 w2 = (if i = 1 then 1 else if i = 2 then 1 else 0) ∧ (own_fin i = 0 → own_pick i w0 w1 w2 w3 w4 w5 ≠ w0 → ¬ i = 1 → i = 2) ∧ (¬ own_fin i = 0 → ¬ i = 1 ∧ ¬ i = 2) ∧ (own_pick i w0 w1 w2 w3 w4 w5 = w0 → ¬ i = 1 ∧ ¬ i = 2) := by
  by_cases c0 : i = 0
  · subst c0; simp [own_wait, own_fin, own_pick, n0_1, n0_2, n1_2, n3_0, n3_1, n3_2, n4_0, n4_1, n4_2, n5_0, n5_1, n5_2, Ne.symm n0_1, Ne.symm n0_2, Ne.symm n1_2, Ne.symm n3_0, Ne.symm n3_1, Ne.symm n3_2, Ne.symm n4_0, Ne.symm n4_1, Ne.symm n4_2, Ne.symm n5_0, Ne.symm n5_1, Ne.symm n5_2]
  by_cases c1 : i = 1
  · subst c1; simp [own_wait, own_fin, own_pick, n0_1, n0_2, n1_2, n3_0, n3_1, n3_2, n4_0, n4_1, n4_2, n5_0, n5_1, n5_2, Ne.symm n0_1, Ne.symm n0_2, Ne.symm n1_2, Ne.symm n3_0, Ne.symm n3_1, Ne.symm n3_2, Ne.symm n4_0, Ne.symm n4_1, Ne.symm n4_2, Ne.symm n5_0, Ne.symm n5_1, Ne.symm n5_2]
  by_cases c2 : i = 2
  · subst c2; simp [own_wait, own_fin, own_pick, n0_1, n0_2, n1_2, n3_0, n3_1, n3_2, n4_0, n4_1, n4_2, n5_0, n5_1, n5_2, Ne.symm n0_1, Ne.symm n0_2, Ne.symm n1_2, Ne.symm n3_0, Ne.symm n3_1, Ne.symm n3_2, Ne.symm n4_0, Ne.symm n4_1, Ne.symm n4_2, Ne.symm n5_0, Ne.symm n5_1, Ne.symm n5_2]
  by_cases c3 : i = 3
  · subst c3; simp [own_wait, own_fin, own_pick, n0_1, n0_2, n1_2, n3_0, n3_1, n3_2, n4_0, n4_1, n4_2, n5_0, n5_1, n5_2, Ne.symm n0_1, Ne.symm n0_2, Ne.symm n1_2, Ne.symm n3_0, Ne.symm n3_1, Ne.symm n3_2, Ne.symm n4_0, Ne.symm n4_1, Ne.symm n4_2, Ne.symm n5_0, Ne.symm n5_1, Ne.symm n5_2]
  by_cases c4 : i = 4
  · subst c4; simp [own_wait, own_fin, own_pick, n0_1, n0_2, n1_2, n3_0, n3_1, n3_2, n4_0, n4_1, n4_2, n5_0, n5_1, n5_2, Ne.symm n0_1, Ne.symm n0_2, Ne.symm n1_2, Ne.symm n3_0, Ne.symm n3_1, Ne.symm n3_2, Ne.symm n4_0, Ne.symm n4_1, Ne.symm n4_2, Ne.symm n5_0, Ne.symm n5_1, Ne.symm n5_2]
  simp [own_wait, own_fin, own_pick, c0, c1, c2, c3, c4, n0_1, n0_2, n1_2, n3_0, n3_1, n3_2, n4_0, n4_1, n4_2, n5_0, n5_1, n5_2, Ne.symm n0_1, Ne.symm n0_2, Ne.symm n1_2, Ne.symm n3_0, Ne.symm n3_1, Ne.symm n3_2, Ne.symm n4_0, Ne.symm n4_1, Ne.symm n4_2, Ne.symm n5_0, Ne.symm n5_1, Ne.symm n5_2]
theorem d1_0 : decode method_3_code 0 = .ok (.iload_n 0, 1) := by decide +kernel
theorem d1_1 : decode method_3_code 1 = .ok (.ifCond .ne 7, 3) := by decide +kernel
theorem d1_4 : decode method_3_code 4 = .ok (.getstatic 23, 3) := by decide +kernel
theorem d1_7 : decode method_3_code 7 = .ok (.areturn, 1) := by decide +kernel
theorem d1_8 : decode method_3_code 8 = .ok (.iload_n 0, 1) := by decide +kernel
theorem d1_9 : decode method_3_code 9 = .ok (.iconst 1, 1) := by decide +kernel
theorem d1_10 : decode method_3_code 10 = .ok (.if_icmp .ne 7, 3) := by decide +kernel
theorem d1_13 : decode method_3_code 13 = .ok (.getstatic 27, 3) := by decide +kernel
theorem d1_16 : decode method_3_code 16 = .ok (.areturn, 1) := by decide +kernel
theorem d1_17 : decode method_3_code 17 = .ok (.iload_n 0, 1) := by decide +kernel
theorem d1_18 : decode method_3_code 18 = .ok (.iconst 2, 1) := by decide +kernel
theorem d1_19 : decode method_3_code 19 = .ok (.if_icmp .ne 7, 3) := by decide +kernel
theorem d1_22 : decode method_3_code 22 = .ok (.getstatic 30, 3) := by decide +kernel
theorem d1_25 : decode method_3_code 25 = .ok (.areturn, 1) := by decide +kernel
theorem d1_26 : decode method_3_code 26 = .ok (.iload_n 0, 1) := by decide +kernel
theorem d1_27 : decode method_3_code 27 = .ok (.iconst 3, 1) := by decide +kernel
theorem d1_28 : decode method_3_code 28 = .ok (.if_icmp .ne 7, 3) := by decide +kernel
theorem d1_31 : decode method_3_code 31 = .ok (.getstatic 33, 3) := by decide +kernel
theorem d1_34 : decode method_3_code 34 = .ok (.areturn, 1) := by decide +kernel
theorem d1_35 : decode method_3_code 35 = .ok (.iload_n 0, 1) := by decide +kernel
theorem d1_36 : decode method_3_code 36 = .ok (.iconst 4, 1) := by decide +kernel
theorem d1_37 : decode method_3_code 37 = .ok (.if_icmp .ne 7, 3) := by decide +kernel
theorem d1_40 : decode method_3_code 40 = .ok (.getstatic 36, 3) := by decide +kernel
theorem d1_43 : decode method_3_code 43 = .ok (.areturn, 1) := by decide +kernel
theorem d1_44 : decode method_3_code 44 = .ok (.getstatic 39, 3) := by decide +kernel
theorem d1_47 : decode method_3_code 47 = .ok (.areturn, 1) := by decide +kernel
theorem pn_1 : plainName "com/example/panelfix/panelfix/model/StatusIsWaitingPinLaw" = true := by first | (simp [plainName, overriddenIn]; done) | decide +kernel
set_option maxRecDepth 65536 in
set_option maxHeartbeats 40000000 in
theorem rm1 (l : Launch) (Z : State) (a0 : Array Value) (hw : ∀ d ∈ tables_1, d.before a0 Z = true) (i : Int32) (w0 : Addr) (w1 : Addr) (w2 : Addr) (w3 : Addr) (w4 : Addr) (w5 : Addr) (h0 : Heap) (n0 : Nat) (Z0 : n0 ≤ h0.size) (OL : Old Z n0 h0) (S0 : Sta Z Z.heap "com/example/panelfix/panelfix/model/Fixing$Status" "PENDING" "Lcom/example/panelfix/panelfix/model/Fixing$Status;" (.ref w0)) (S1 : Sta Z Z.heap "com/example/panelfix/panelfix/model/Fixing$Status" "POSTPONED" "Lcom/example/panelfix/panelfix/model/Fixing$Status;" (.ref w1)) (S2 : Sta Z Z.heap "com/example/panelfix/panelfix/model/Fixing$Status" "FALLBACK" "Lcom/example/panelfix/panelfix/model/Fixing$Status;" (.ref w2)) (S3 : Sta Z Z.heap "com/example/panelfix/panelfix/model/Fixing$Status" "FIXED" "Lcom/example/panelfix/panelfix/model/Fixing$Status;" (.ref w3)) (S4 : Sta Z Z.heap "com/example/panelfix/panelfix/model/Fixing$Status" "NO_FIX" "Lcom/example/panelfix/panelfix/model/Fixing$Status;" (.ref w4)) (S5 : Sta Z Z.heap "com/example/panelfix/panelfix/model/Fixing$Status" "PREVIOUS" "Lcom/example/panelfix/panelfix/model/Fixing$Status;" (.ref w5)) :
    Con l (⟨"com/example/panelfix/panelfix/model/StatusIsWaitingPinLaw", "pick", "(I)Lcom/example/panelfix/panelfix/model/Fixing$Status;"⟩ : MethodName) method_3_code 1 (some (.object "com/example/panelfix/panelfix/model/Fixing$Status")) ({ frames := 0, cells := 0, slots := 0, locals := 0 } : Room) Z #[(.int i)] h0 (fun v h L => v = some (.ref (own_pick i w0 w1 w2 w3 w4 w5)) ∧ Fr n0 L ∧ h = h0) := by
  refine Con.mk (plainFor_of_name pn_1) (fun m => show entryFrame m #[(.int i)] 1 = mkF m 0 #[.val (.int i)] [] by first | (simp [entryFrame, mkF, argsToLocals, Value.category]; done) | rfl) ?_
  intro p e s m below meth c s₁ hx hby hml hown hnm hret hlk hZ X0 e0
  have N0 := Fr.nil n0
  show Run p e below s _ _ _ (s₁.setTop (mkF m 0 #[.val (.int i)] []))
  refine Run.pre (fun _ k => XS.iloadN X0.here hx rfl (hb hby d1_0) rfl  k) ?_
  show Run p e below s _ _ _ (s₁.setTop (mkF m 1 #[.val (.int i)] [(.int i)]))
  by_cases hc1 : i = (0 : Int32)
  · skip
    refine Run.pre (fun _ k => XS.ifNo X0.here hx rfl (hb hby d1_1) rfl ((if0 _ _).trans (teq (hc1 : i = (0 : Int32))).2) k) ?_
    show Run p e below s _ _ _ (s₁.setTop (mkF m 4 #[.val (.int i)] []))
    obtain ⟨T2, X2, e2, st2⟩ := getS2 X0 hx hZ hown (host := "") (Or.inl (hw _ (List.mem_of_getElem? (i := 5) rfl))) Via.refl e0 (S0.ext OL.2) (g := (mkF m 4 #[.val (.int i)] [])) rfl (hb hby d1_4)
    refine Run.pre st2 ?_
    show Run p e below s _ _ _ (T2.setTop (mkF m 7 #[.val (.int i)] [(.ref w0)]))
    exact Run.retA X2 hx hret rfl rfl hlk (hb hby d1_7) (by first | (rw [e2]; exact ⟨by simp [own_pick, hc1], N0, rfl⟩) | exact ⟨by simp [own_pick, hc1], N0, rfl⟩) (by decide) (by decide)
  · skip
    refine Run.pre (fun _ k => XS.ifYes X0.here hx rfl (pc0 := 1) (pc' := 8) rfl (hb hby d1_1) rfl ((if0 _ _).trans (feq (hc1 : ¬ (i = (0 : Int32)))).2) (by decide) (by decide) k) ?_
    show Run p e below s _ _ _ (s₁.setTop (mkF m 8 #[.val (.int i)] []))
    refine Run.pre (fun _ k => XS.iloadN X0.here hx rfl (hb hby d1_8) rfl  k) ?_
    show Run p e below s _ _ _ (s₁.setTop (mkF m 9 #[.val (.int i)] [(.int i)]))
    refine Run.pre (fun _ k => XS.iconst X0.here hx rfl (hb hby d1_9) k) ?_
    show Run p e below s _ _ _ (s₁.setTop (mkF m 10 #[.val (.int i)] [(.int (1 : Int32)), (.int i)]))
    by_cases hc3 : i = (1 : Int32)
    · skip
      refine Run.pre (fun _ k => XS.icmpNo X0.here hx rfl (hb hby d1_10) rfl (teq (hc3 : i = (1 : Int32))).2 k) ?_
      show Run p e below s _ _ _ (s₁.setTop (mkF m 13 #[.val (.int i)] []))
      obtain ⟨T4, X4, e4, st4⟩ := getS2 X0 hx hZ hown (host := "") (Or.inl (hw _ (List.mem_of_getElem? (i := 27) rfl))) Via.refl e0 (S1.ext OL.2) (g := (mkF m 13 #[.val (.int i)] [])) rfl (hb hby d1_13)
      refine Run.pre st4 ?_
      show Run p e below s _ _ _ (T4.setTop (mkF m 16 #[.val (.int i)] [(.ref w1)]))
      exact Run.retA X4 hx hret rfl rfl hlk (hb hby d1_16) (by first | (rw [e4]; exact ⟨by simp [own_pick, hc1, hc3], N0, rfl⟩) | exact ⟨by simp [own_pick, hc1, hc3], N0, rfl⟩) (by decide) (by decide)
    · skip
      refine Run.pre (fun _ k => XS.icmpYes X0.here hx rfl (pc0 := 10) (pc' := 17) rfl (hb hby d1_10) rfl (feq (hc3 : ¬ (i = (1 : Int32)))).2 (by decide) (by decide) k) ?_
      show Run p e below s _ _ _ (s₁.setTop (mkF m 17 #[.val (.int i)] []))
      refine Run.pre (fun _ k => XS.iloadN X0.here hx rfl (hb hby d1_17) rfl  k) ?_
      show Run p e below s _ _ _ (s₁.setTop (mkF m 18 #[.val (.int i)] [(.int i)]))
      refine Run.pre (fun _ k => XS.iconst X0.here hx rfl (hb hby d1_18) k) ?_
      show Run p e below s _ _ _ (s₁.setTop (mkF m 19 #[.val (.int i)] [(.int (2 : Int32)), (.int i)]))
      by_cases hc5 : i = (2 : Int32)
      · skip
        refine Run.pre (fun _ k => XS.icmpNo X0.here hx rfl (hb hby d1_19) rfl (teq (hc5 : i = (2 : Int32))).2 k) ?_
        show Run p e below s _ _ _ (s₁.setTop (mkF m 22 #[.val (.int i)] []))
        obtain ⟨T6, X6, e6, st6⟩ := getS2 X0 hx hZ hown (host := "") (Or.inl (hw _ (List.mem_of_getElem? (i := 26) rfl))) Via.refl e0 (S2.ext OL.2) (g := (mkF m 22 #[.val (.int i)] [])) rfl (hb hby d1_22)
        refine Run.pre st6 ?_
        show Run p e below s _ _ _ (T6.setTop (mkF m 25 #[.val (.int i)] [(.ref w2)]))
        exact Run.retA X6 hx hret rfl rfl hlk (hb hby d1_25) (by first | (rw [e6]; exact ⟨by simp [own_pick, hc1, hc3, hc5], N0, rfl⟩) | exact ⟨by simp [own_pick, hc1, hc3, hc5], N0, rfl⟩) (by decide) (by decide)
      · skip
        refine Run.pre (fun _ k => XS.icmpYes X0.here hx rfl (pc0 := 19) (pc' := 26) rfl (hb hby d1_19) rfl (feq (hc5 : ¬ (i = (2 : Int32)))).2 (by decide) (by decide) k) ?_
        show Run p e below s _ _ _ (s₁.setTop (mkF m 26 #[.val (.int i)] []))
        refine Run.pre (fun _ k => XS.iloadN X0.here hx rfl (hb hby d1_26) rfl  k) ?_
        show Run p e below s _ _ _ (s₁.setTop (mkF m 27 #[.val (.int i)] [(.int i)]))
        refine Run.pre (fun _ k => XS.iconst X0.here hx rfl (hb hby d1_27) k) ?_
        show Run p e below s _ _ _ (s₁.setTop (mkF m 28 #[.val (.int i)] [(.int (3 : Int32)), (.int i)]))
        by_cases hc7 : i = (3 : Int32)
        · skip
          refine Run.pre (fun _ k => XS.icmpNo X0.here hx rfl (hb hby d1_28) rfl (teq (hc7 : i = (3 : Int32))).2 k) ?_
          show Run p e below s _ _ _ (s₁.setTop (mkF m 31 #[.val (.int i)] []))
          obtain ⟨T8, X8, e8, st8⟩ := getS2 X0 hx hZ hown (host := "") (Or.inl (hw _ (List.mem_of_getElem? (i := 24) rfl))) Via.refl e0 (S3.ext OL.2) (g := (mkF m 31 #[.val (.int i)] [])) rfl (hb hby d1_31)
          refine Run.pre st8 ?_
          show Run p e below s _ _ _ (T8.setTop (mkF m 34 #[.val (.int i)] [(.ref w3)]))
          exact Run.retA X8 hx hret rfl rfl hlk (hb hby d1_34) (by first | (rw [e8]; exact ⟨by simp [own_pick, hc1, hc3, hc5, hc7], N0, rfl⟩) | exact ⟨by simp [own_pick, hc1, hc3, hc5, hc7], N0, rfl⟩) (by decide) (by decide)
        · skip
          refine Run.pre (fun _ k => XS.icmpYes X0.here hx rfl (pc0 := 28) (pc' := 35) rfl (hb hby d1_28) rfl (feq (hc7 : ¬ (i = (3 : Int32)))).2 (by decide) (by decide) k) ?_
          show Run p e below s _ _ _ (s₁.setTop (mkF m 35 #[.val (.int i)] []))
          refine Run.pre (fun _ k => XS.iloadN X0.here hx rfl (hb hby d1_35) rfl  k) ?_
          show Run p e below s _ _ _ (s₁.setTop (mkF m 36 #[.val (.int i)] [(.int i)]))
          refine Run.pre (fun _ k => XS.iconst X0.here hx rfl (hb hby d1_36) k) ?_
          show Run p e below s _ _ _ (s₁.setTop (mkF m 37 #[.val (.int i)] [(.int (4 : Int32)), (.int i)]))
          by_cases hc9 : i = (4 : Int32)
          · skip
            refine Run.pre (fun _ k => XS.icmpNo X0.here hx rfl (hb hby d1_37) rfl (teq (hc9 : i = (4 : Int32))).2 k) ?_
            show Run p e below s _ _ _ (s₁.setTop (mkF m 40 #[.val (.int i)] []))
            obtain ⟨T10, X10, e10, st10⟩ := getS2 X0 hx hZ hown (host := "") (Or.inl (hw _ (List.mem_of_getElem? (i := 30) rfl))) Via.refl e0 (S4.ext OL.2) (g := (mkF m 40 #[.val (.int i)] [])) rfl (hb hby d1_40)
            refine Run.pre st10 ?_
            show Run p e below s _ _ _ (T10.setTop (mkF m 43 #[.val (.int i)] [(.ref w4)]))
            exact Run.retA X10 hx hret rfl rfl hlk (hb hby d1_43) (by first | (rw [e10]; exact ⟨by simp [own_pick, hc1, hc3, hc5, hc7, hc9], N0, rfl⟩) | exact ⟨by simp [own_pick, hc1, hc3, hc5, hc7, hc9], N0, rfl⟩) (by decide) (by decide)
          · skip
            refine Run.pre (fun _ k => XS.icmpYes X0.here hx rfl (pc0 := 37) (pc' := 44) rfl (hb hby d1_37) rfl (feq (hc9 : ¬ (i = (4 : Int32)))).2 (by decide) (by decide) k) ?_
            show Run p e below s _ _ _ (s₁.setTop (mkF m 44 #[.val (.int i)] []))
            obtain ⟨T11, X11, e11, st11⟩ := getS2 X0 hx hZ hown (host := "") (Or.inl (hw _ (List.mem_of_getElem? (i := 28) rfl))) Via.refl e0 (S5.ext OL.2) (g := (mkF m 44 #[.val (.int i)] [])) rfl (hb hby d1_44)
            refine Run.pre st11 ?_
            show Run p e below s _ _ _ (T11.setTop (mkF m 47 #[.val (.int i)] [(.ref w5)]))
            exact Run.retA X11 hx hret rfl rfl hlk (hb hby d1_47) (by first | (rw [e11]; exact ⟨by simp [own_pick, hc1, hc3, hc5, hc7, hc9], N0, rfl⟩) | exact ⟨by simp [own_pick, hc1, hc3, hc5, hc7, hc9], N0, rfl⟩) (by decide) (by decide)
theorem d2_0 : decode prog_39_method_6_code 0 = .ok (.aload_n 0, 1) := by decide +kernel
theorem d2_1 : decode prog_39_method_6_code 1 = .ok (.getstatic 7, 3) := by decide +kernel
theorem d2_4 : decode prog_39_method_6_code 4 = .ok (.if_acmp .eq 10, 3) := by decide +kernel
theorem d2_14 : decode prog_39_method_6_code 14 = .ok (.iconst 1, 1) := by decide +kernel
theorem d2_15 : decode prog_39_method_6_code 15 = .ok (.goto 4, 3) := by decide +kernel
theorem d2_19 : decode prog_39_method_6_code 19 = .ok (.ireturn, 1) := by decide +kernel
theorem d2_7 : decode prog_39_method_6_code 7 = .ok (.aload_n 0, 1) := by decide +kernel
theorem d2_8 : decode prog_39_method_6_code 8 = .ok (.getstatic 10, 3) := by decide +kernel
theorem d2_11 : decode prog_39_method_6_code 11 = .ok (.if_acmp .ne 7, 3) := by decide +kernel
theorem d2_18 : decode prog_39_method_6_code 18 = .ok (.iconst 0, 1) := by decide +kernel
theorem pn_2 : plainName "com/example/panelfix/panelfix/model/Fixing$Status" = true := by first | (simp [plainName, overriddenIn]; done) | decide +kernel
set_option maxRecDepth 65536 in
set_option maxHeartbeats 40000000 in
theorem rm2 (l : Launch) (Z : State) (a0 : Array Value) (hw : ∀ d ∈ tables_1, d.before a0 Z = true) (a : Addr) (w1 : Addr) (w2 : Addr) (h0 : Heap) (n0 : Nat) (Z0 : n0 ≤ h0.size) (OL : Old Z n0 h0) (S1 : Sta Z Z.heap "com/example/panelfix/panelfix/model/Fixing$Status" "POSTPONED" "Lcom/example/panelfix/panelfix/model/Fixing$Status;" (.ref w1)) (S2 : Sta Z Z.heap "com/example/panelfix/panelfix/model/Fixing$Status" "FALLBACK" "Lcom/example/panelfix/panelfix/model/Fixing$Status;" (.ref w2)) :
    Con l (⟨"com/example/panelfix/panelfix/model/Fixing$Status", "isWaiting", "()Z"⟩ : MethodName) prog_39_method_6_code 1 (some .boolean) ({ frames := 0, cells := 0, slots := 0, locals := 0 } : Room) Z #[(.ref a)] h0 (fun v h L => v = some (.int (own_wait a w1 w2)) ∧ Fr n0 L ∧ h = h0) := by
  refine Con.mk (plainFor_of_name pn_2) (fun m => show entryFrame m #[(.ref a)] 1 = mkF m 0 #[.val (.ref a)] [] by first | (simp [entryFrame, mkF, argsToLocals, Value.category]; done) | rfl) ?_
  intro p e s m below meth c s₁ hx hby hml hown hnm hret hlk hZ X0 e0
  have N0 := Fr.nil n0
  show Run p e below s _ _ _ (s₁.setTop (mkF m 0 #[.val (.ref a)] []))
  refine Run.pre (fun _ k => XS.aloadN X0.here hx rfl (hb hby d2_0) rfl rfl k) ?_
  show Run p e below s _ _ _ (s₁.setTop (mkF m 1 #[.val (.ref a)] [(.ref a)]))
  obtain ⟨T12, X12, e12, st12⟩ := getS2 X0 hx hZ hown (host := "") (Or.inl (hw _ (List.mem_of_getElem? (i := 13) rfl))) Via.refl e0 (S1.ext OL.2) (g := (mkF m 1 #[.val (.ref a)] [(.ref a)])) rfl (hb hby d2_1)
  refine Run.pre st12 ?_
  show Run p e below s _ _ _ (T12.setTop (mkF m 4 #[.val (.ref a)] [(.ref w1), (.ref a)]))
  by_cases ha13 : a = w1
  · skip
    refine Run.pre (fun _ k => Jvm.RoadKit.acmp (g := (mkF m 4 #[.val (.ref a)] [(.ref w1), (.ref a)])) X12 hx rfl rfl rfl (pc0 := 4) (pc' := 14) (same := true) rfl (hb hby d2_4) rfl (decide_eq_true (congrArg Value.ref ha13)) (by decide) (by decide) k) ?_
    show Run p e below s _ _ _ (T12.setTop (mkF m 14 #[.val (.ref a)] []))
    refine Run.pre (fun _ k => XS.iconst X12.here hx rfl (hb hby d2_14) k) ?_
    show Run p e below s _ _ _ (T12.setTop (mkF m 15 #[.val (.ref a)] [(.int (1 : Int32))]))
    refine Run.pre (fun _ k => XS.goto X12.here hx rfl (pc0 := 15) (pc' := 19) rfl (hb hby d2_15) (by decide) (by decide) k) ?_
    show Run p e below s _ _ _ (T12.setTop (mkF m 19 #[.val (.ref a)] [(.int (1 : Int32))]))
    exact Run.retN X12 hx hret (t := .boolean) (by simp) hlk (hb hby d2_19) (by first | (rw [e12]; exact ⟨by simp [own_wait, nar, ha13], N0, rfl⟩) | exact ⟨by simp [own_wait, nar, ha13], N0, rfl⟩) (by decide) (by decide)
  · skip
    refine Run.pre (fun _ k => Jvm.RoadKit.acmp (g := (mkF m 4 #[.val (.ref a)] [(.ref w1), (.ref a)])) X12 hx rfl rfl rfl (pc0 := 4) (pc' := 7) (same := false) rfl (hb hby d2_4) rfl (decide_eq_false fun q => ha13 (Value.ref.inj q)) (by decide) (by decide) k) ?_
    show Run p e below s _ _ _ (T12.setTop (mkF m 7 #[.val (.ref a)] []))
    refine Run.pre (fun _ k => XS.aloadN X12.here hx rfl (hb hby d2_7) rfl rfl k) ?_
    show Run p e below s _ _ _ (T12.setTop (mkF m 8 #[.val (.ref a)] [(.ref a)]))
    obtain ⟨T14, X14, e14, st14⟩ := getS2 X12 hx hZ hown (host := "") (Or.inl (hw _ (List.mem_of_getElem? (i := 15) rfl))) Via.refl e12 (S2.ext OL.2) (g := (mkF m 8 #[.val (.ref a)] [(.ref a)])) rfl (hb hby d2_8)
    refine Run.pre st14 ?_
    show Run p e below s _ _ _ (T14.setTop (mkF m 11 #[.val (.ref a)] [(.ref w2), (.ref a)]))
    by_cases ha15 : a = w2
    · skip
      refine Run.pre (fun _ k => Jvm.RoadKit.acmp (g := (mkF m 11 #[.val (.ref a)] [(.ref w2), (.ref a)])) X14 hx rfl rfl rfl (pc0 := 11) (pc' := 14) (same := true) rfl (hb hby d2_11) rfl (decide_eq_true (congrArg Value.ref ha15)) (by decide) (by decide) k) ?_
      show Run p e below s _ _ _ (T14.setTop (mkF m 14 #[.val (.ref a)] []))
      refine Run.pre (fun _ k => XS.iconst X14.here hx rfl (hb hby d2_14) k) ?_
      show Run p e below s _ _ _ (T14.setTop (mkF m 15 #[.val (.ref a)] [(.int (1 : Int32))]))
      refine Run.pre (fun _ k => XS.goto X14.here hx rfl (pc0 := 15) (pc' := 19) rfl (hb hby d2_15) (by decide) (by decide) k) ?_
      show Run p e below s _ _ _ (T14.setTop (mkF m 19 #[.val (.ref a)] [(.int (1 : Int32))]))
      exact Run.retN X14 hx hret (t := .boolean) (by simp) hlk (hb hby d2_19) (by first | (rw [e14]; exact ⟨by simp [own_wait, nar, ha13, ha15], N0, rfl⟩) | exact ⟨by simp [own_wait, nar, ha13, ha15], N0, rfl⟩) (by decide) (by decide)
    · skip
      refine Run.pre (fun _ k => Jvm.RoadKit.acmp (g := (mkF m 11 #[.val (.ref a)] [(.ref w2), (.ref a)])) X14 hx rfl rfl rfl (pc0 := 11) (pc' := 18) (same := false) rfl (hb hby d2_11) rfl (decide_eq_false fun q => ha15 (Value.ref.inj q)) (by decide) (by decide) k) ?_
      show Run p e below s _ _ _ (T14.setTop (mkF m 18 #[.val (.ref a)] []))
      refine Run.pre (fun _ k => XS.iconst X14.here hx rfl (hb hby d2_18) k) ?_
      show Run p e below s _ _ _ (T14.setTop (mkF m 19 #[.val (.ref a)] [(.int (0 : Int32))]))
      exact Run.retN X14 hx hret (t := .boolean) (by simp) hlk (hb hby d2_19) (by first | (rw [e14]; exact ⟨by simp [own_wait, nar, ha13, ha15], N0, rfl⟩) | exact ⟨by simp [own_wait, nar, ha13, ha15], N0, rfl⟩) (by decide) (by decide)
theorem d3_0 : decode prog_39_method_5_code 0 = .ok (.aload_n 0, 1) := by decide +kernel
theorem d3_1 : decode prog_39_method_5_code 1 = .ok (.getfield 41, 3) := by decide +kernel
theorem d3_4 : decode prog_39_method_5_code 4 = .ok (.ireturn, 1) := by decide +kernel
theorem pn_3 : plainName "com/example/panelfix/panelfix/model/Fixing$Status" = true := by first | (simp [plainName, overriddenIn]; done) | decide +kernel
set_option maxRecDepth 65536 in
set_option maxHeartbeats 40000000 in
theorem rm3 (l : Launch) (Z : State) (a0 : Array Value) (hw : ∀ d ∈ tables_1, d.before a0 Z = true) (a : Addr) (f : Int32) (h0 : Heap) (n0 : Nat) (Z0 : n0 ≤ h0.size) (FF : Fld Z h0 a "com/example/panelfix/panelfix/model/Fixing$Status" "isFinal" "Z" (.int f)) (h01 : f = 0 ∨ f = 1) :
    Con l (⟨"com/example/panelfix/panelfix/model/Fixing$Status", "isFinal", "()Z"⟩ : MethodName) prog_39_method_5_code 1 (some .boolean) ({ frames := 0, cells := 0, slots := 0, locals := 0 } : Room) Z #[(.ref a)] h0 (fun v h L => v = some (.int f) ∧ Fr n0 L ∧ h = h0) := by
  refine Con.mk (plainFor_of_name pn_3) (fun m => show entryFrame m #[(.ref a)] 1 = mkF m 0 #[.val (.ref a)] [] by first | (simp [entryFrame, mkF, argsToLocals, Value.category]; done) | rfl) ?_
  intro p e s m below meth c s₁ hx hby hml hown hnm hret hlk hZ X0 e0
  have N0 := Fr.nil n0
  show Run p e below s _ _ _ (s₁.setTop (mkF m 0 #[.val (.ref a)] []))
  refine Run.pre (fun _ k => XS.aloadN X0.here hx rfl (hb hby d3_0) rfl rfl k) ?_
  show Run p e below s _ _ _ (s₁.setTop (mkF m 1 #[.val (.ref a)] [(.ref a)]))
  obtain ⟨T16, X16, e16, st16⟩ := getF X0 hx hZ hown (host := "") (Or.inl (hw _ (List.mem_of_getElem? (i := 22) rfl))) Via.refl e0 FF (g := (mkF m 1 #[.val (.ref a)] [(.ref a)])) rfl rfl (hb hby d3_1)
  refine Run.pre st16 ?_
  show Run p e below s _ _ _ (T16.setTop (mkF m 4 #[.val (.ref a)] [(.int f)]))
  exact Run.retN X16 hx hret (t := .boolean) (by simp) hlk (hb hby d3_4) (by first | (rw [e16]; exact ⟨by rcases h01 with rfl | rfl <;> rfl, N0, rfl⟩) | exact ⟨by rcases h01 with rfl | rfl <;> rfl, N0, rfl⟩) (by decide) (by decide)
theorem pd_0 : parseMethodDescriptor "(I)Lcom/example/panelfix/panelfix/model/Fixing$Status;" = some ⟨[.int], some (.object "com/example/panelfix/panelfix/model/Fixing$Status")⟩ := by decide +kernel
theorem pd_1 : parseMethodDescriptor "()Z" = some ⟨[], some .boolean⟩ := by decide +kernel
theorem pn_0 : plainName "com/example/panelfix/panelfix/model/StatusIsWaitingPinLaw" = true := by first | (simp [plainName, overriddenIn]; done) | decide +kernel
set_option maxRecDepth 65536 in
set_option maxHeartbeats 40000000 in
theorem rm0 (l : Launch) (Z : State) (a0 : Array Value) (hw : ∀ d ∈ tables_1, d.before a0 Z = true) (pz : Int32) (w0 : Addr) (w1 : Addr) (w2 : Addr) (w3 : Addr) (w4 : Addr) (w5 : Addr) (h0 : Heap) (n0 : Nat) (Z0 : n0 ≤ h0.size) (OL : Old Z n0 h0) (S0 : Sta Z Z.heap "com/example/panelfix/panelfix/model/Fixing$Status" "PENDING" "Lcom/example/panelfix/panelfix/model/Fixing$Status;" (.ref w0)) (S1 : Sta Z Z.heap "com/example/panelfix/panelfix/model/Fixing$Status" "POSTPONED" "Lcom/example/panelfix/panelfix/model/Fixing$Status;" (.ref w1)) (S2 : Sta Z Z.heap "com/example/panelfix/panelfix/model/Fixing$Status" "FALLBACK" "Lcom/example/panelfix/panelfix/model/Fixing$Status;" (.ref w2)) (S3 : Sta Z Z.heap "com/example/panelfix/panelfix/model/Fixing$Status" "FIXED" "Lcom/example/panelfix/panelfix/model/Fixing$Status;" (.ref w3)) (S4 : Sta Z Z.heap "com/example/panelfix/panelfix/model/Fixing$Status" "NO_FIX" "Lcom/example/panelfix/panelfix/model/Fixing$Status;" (.ref w4)) (S5 : Sta Z Z.heap "com/example/panelfix/panelfix/model/Fixing$Status" "PREVIOUS" "Lcom/example/panelfix/panelfix/model/Fixing$Status;" (.ref w5)) (EP : Exa Z h0 (own_pick ((pz &&& (2147483647 : Int32)) % (6 : Int32)) w0 w1 w2 w3 w4 w5) "com/example/panelfix/panelfix/model/Fixing$Status") (FP : Fld Z h0 (own_pick ((pz &&& (2147483647 : Int32)) % (6 : Int32)) w0 w1 w2 w3 w4 w5) "com/example/panelfix/panelfix/model/Fixing$Status" "isFinal" "Z" (.int (own_fin ((pz &&& (2147483647 : Int32)) % (6 : Int32))))) (n0_1 : w0 ≠ w1) (n0_2 : w0 ≠ w2) (n1_2 : w1 ≠ w2) (n3_0 : w3 ≠ w0) (n3_1 : w3 ≠ w1) (n3_2 : w3 ≠ w2) (n4_0 : w4 ≠ w0) (n4_1 : w4 ≠ w1) (n4_2 : w4 ≠ w2) (n5_0 : w5 ≠ w0) (n5_1 : w5 ≠ w1) (n5_2 : w5 ≠ w2) :
    Con l x code maxLocals ret room_1 Z #[(.int pz)] h0 (fun v h L => v = some (.int 1) ∧ Fr n0 L) := by
  refine Con.mk (plainFor_of_name pn_0) (fun m => show entryFrame m #[(.int pz)] maxLocals = mkF m 0 #[.val (.int pz), .unset, .unset, .unset, .unset, .unset] [] by first | (simp [entryFrame, mkF, argsToLocals, Value.category, maxLocals]; done) | rfl) ?_
  intro p e s m below meth c s₁ hx hby hml hown hnm hret hlk hZ X0 e0
  have hml : c.maxLocals = 6 := hml
  have N0 := Fr.nil n0
  show Run p e below s _ _ _ (s₁.setTop (mkF m 0 #[.val (.int pz), .unset, .unset, .unset, .unset, .unset] []))
  refine Run.pre (fun _ k => XS.iloadN X0.here hx rfl (hb hby at_0) rfl  k) ?_
  show Run p e below s _ _ _ (s₁.setTop (mkF m 1 #[.val (.int pz), .unset, .unset, .unset, .unset, .unset] [(.int pz)]))
  refine Run.pre (X0.ldcInt hx hown (mvT hZ (hw _ (List.mem_of_getElem? (i := 0) rfl))) (g := (mkF m 1 #[.val (.int pz), .unset, .unset, .unset, .unset, .unset] [(.int pz)])) rfl (hb hby at_1)) ?_
  show Run p e below s _ _ _ (s₁.setTop (mkF m 3 #[.val (.int pz), .unset, .unset, .unset, .unset, .unset] [(.int (2147483647 : Int32)), (.int pz)]))
  refine Run.pre (fun _ k => XS.iand X0.here hx rfl (hb hby at_3) rfl k) ?_
  show Run p e below s _ _ _ (s₁.setTop (mkF m 4 #[.val (.int pz), .unset, .unset, .unset, .unset, .unset] [(.int (pz &&& (2147483647 : Int32)))]))
  refine Run.pre (fun _ k => XS.bipush X0.here hx rfl (hb hby at_4) k) ?_
  show Run p e below s _ _ _ (s₁.setTop (mkF m 6 #[.val (.int pz), .unset, .unset, .unset, .unset, .unset] [(.int (6 : Int32)), (.int (pz &&& (2147483647 : Int32)))]))
  refine Run.pre (fun _ k => iremM X0 hx rfl (hb hby at_6) rfl (by decide) k) ?_
  show Run p e below s _ _ _ (s₁.setTop (mkF m 7 #[.val (.int pz), .unset, .unset, .unset, .unset, .unset] [(.int ((pz &&& (2147483647 : Int32)) % (6 : Int32)))]))
  refine Run.pre (fun _ k => XS.istoreN X0.here hx rfl (hb hby at_7) rfl (l' := #[.val (.int pz), .val (.int ((pz &&& (2147483647 : Int32)) % (6 : Int32))), .unset, .unset, .unset, .unset]) rfl k) ?_
  show Run p e below s _ _ _ (s₁.setTop (mkF m 8 #[.val (.int pz), .val (.int ((pz &&& (2147483647 : Int32)) % (6 : Int32))), .unset, .unset, .unset, .unset] []))
  refine Run.pre (fun _ k => XS.iloadN X0.here hx rfl (hb hby at_8) rfl  k) ?_
  show Run p e below s _ _ _ (s₁.setTop (mkF m 9 #[.val (.int pz), .val (.int ((pz &&& (2147483647 : Int32)) % (6 : Int32))), .unset, .unset, .unset, .unset] [(.int ((pz &&& (2147483647 : Int32)) % (6 : Int32)))]))
  refine Run.callS X0 hx hZ (y := (⟨"com/example/panelfix/panelfix/model/StatusIsWaitingPinLaw", "pick", "(I)Lcom/example/panelfix/panelfix/model/Fixing$Status;"⟩ : MethodName)) hown (hw _ (List.mem_of_getElem? (i := 1) rfl)) (hw _ (List.mem_of_getElem? (i := 2) rfl)) (hw _ (List.mem_of_getElem? (i := 3) rfl)) (hw _ (List.mem_of_getElem? (i := 4) rfl)) (by decide) (W := 0) (rm1 l Z a0 hw ((pz &&& (2147483647 : Int32)) % (6 : Int32)) w0 w1 w2 w3 w4 w5 h0 n0 Z0 OL S0 S1 S2 S3 S4 S5) e0 (by decide) (by decide) (by decide) (by decide) (g := (mkF m 9 #[.val (.int pz), .val (.int ((pz &&& (2147483647 : Int32)) % (6 : Int32))), .unset, .unset, .unset, .unset] [(.int ((pz &&& (2147483647 : Int32)) % (6 : Int32)))])) rfl (by rw [hml]; rfl) (argsL := [(.int ((pz &&& (2147483647 : Int32)) % (6 : Int32)))]) (rest := []) (lenOf pd_0 rfl) rfl (by show 2 * 0 + _ ≤ _; exact Nat.le_of_eq rfl) (hb hby at_9) ?_
  intro v17 T17 L17 X17 hQ17
  obtain ⟨rfl, Nq17, he17⟩ := hQ17
  have N17 := Fr.app N0 Nq17
  have e17 : T17.heap = h0 := he17
  show Run p e below s _ _ _ (T17.setTop (mkF m 12 #[.val (.int pz), .val (.int ((pz &&& (2147483647 : Int32)) % (6 : Int32))), .unset, .unset, .unset, .unset] [(.ref (own_pick ((pz &&& (2147483647 : Int32)) % (6 : Int32)) w0 w1 w2 w3 w4 w5))]))
  refine Run.pre (fun _ k => XS.astoreN X17.here hx rfl (hb hby at_12) rfl rfl (l' := #[.val (.int pz), .val (.int ((pz &&& (2147483647 : Int32)) % (6 : Int32))), .val (.ref (own_pick ((pz &&& (2147483647 : Int32)) % (6 : Int32)) w0 w1 w2 w3 w4 w5)), .unset, .unset, .unset]) rfl k) ?_
  show Run p e below s _ _ _ (T17.setTop (mkF m 13 #[.val (.int pz), .val (.int ((pz &&& (2147483647 : Int32)) % (6 : Int32))), .val (.ref (own_pick ((pz &&& (2147483647 : Int32)) % (6 : Int32)) w0 w1 w2 w3 w4 w5)), .unset, .unset, .unset] []))
  refine Run.pre (fun _ k => XS.aloadN X17.here hx rfl (hb hby at_13) rfl rfl k) ?_
  show Run p e below s _ _ _ (T17.setTop (mkF m 14 #[.val (.int pz), .val (.int ((pz &&& (2147483647 : Int32)) % (6 : Int32))), .val (.ref (own_pick ((pz &&& (2147483647 : Int32)) % (6 : Int32)) w0 w1 w2 w3 w4 w5)), .unset, .unset, .unset] [(.ref (own_pick ((pz &&& (2147483647 : Int32)) % (6 : Int32)) w0 w1 w2 w3 w4 w5))]))
  refine Run.callV X17 hx hZ (y := (⟨"com/example/panelfix/panelfix/model/Fixing$Status", "isWaiting", "()Z"⟩ : MethodName)) (z := (⟨"com/example/panelfix/panelfix/model/Fixing$Status", "isWaiting", "()Z"⟩ : MethodName)) hown (hw _ (List.mem_of_getElem? (i := 8) rfl)) (hw _ (List.mem_of_getElem? (i := 9) rfl)) (notFace_of_selects (args := #[]) (mvT hZ (hw _ (List.mem_of_getElem? (i := 11) rfl)))) (hw _ (List.mem_of_getElem? (i := 11) rfl)) (hw _ (List.mem_of_getElem? (i := 10) rfl)) (hw _ (List.mem_of_getElem? (i := 12) rfl)) (hw _ (List.mem_of_getElem? (i := 6) rfl)) (by decide) (b := (own_pick ((pz &&& (2147483647 : Int32)) % (6 : Int32)) w0 w1 w2 w3 w4 w5)) EP (W := 0) (rm2 l Z a0 hw (own_pick ((pz &&& (2147483647 : Int32)) % (6 : Int32)) w0 w1 w2 w3 w4 w5) w1 w2 h0 n0 Z0 OL S1 S2) e17 (by decide) (by decide) (by decide) (by decide) (g := (mkF m 14 #[.val (.int pz), .val (.int ((pz &&& (2147483647 : Int32)) % (6 : Int32))), .val (.ref (own_pick ((pz &&& (2147483647 : Int32)) % (6 : Int32)) w0 w1 w2 w3 w4 w5)), .unset, .unset, .unset] [(.ref (own_pick ((pz &&& (2147483647 : Int32)) % (6 : Int32)) w0 w1 w2 w3 w4 w5))])) rfl (by rw [hml]; rfl) (argsL := []) (rest := []) (lenOf pd_1 rfl) rfl (by show 2 * 0 + _ ≤ _; exact Nat.le_of_eq rfl) (hb hby at_14) ?_
  intro v18 T18 L18 X18 hQ18
  obtain ⟨rfl, Nq18, he18⟩ := hQ18
  have N18 := Fr.app N17 Nq18
  have e18 : T18.heap = h0 := he18
  show Run p e below s _ _ _ (T18.setTop (mkF m 17 #[.val (.int pz), .val (.int ((pz &&& (2147483647 : Int32)) % (6 : Int32))), .val (.ref (own_pick ((pz &&& (2147483647 : Int32)) % (6 : Int32)) w0 w1 w2 w3 w4 w5)), .unset, .unset, .unset] [(.int (own_wait (own_pick ((pz &&& (2147483647 : Int32)) % (6 : Int32)) w0 w1 w2 w3 w4 w5) w1 w2))]))
  refine Run.pre (fun _ k => XS.istoreN X18.here hx rfl (hb hby at_17) rfl (l' := #[.val (.int pz), .val (.int ((pz &&& (2147483647 : Int32)) % (6 : Int32))), .val (.ref (own_pick ((pz &&& (2147483647 : Int32)) % (6 : Int32)) w0 w1 w2 w3 w4 w5)), .val (.int (own_wait (own_pick ((pz &&& (2147483647 : Int32)) % (6 : Int32)) w0 w1 w2 w3 w4 w5) w1 w2)), .unset, .unset]) rfl k) ?_
  show Run p e below s _ _ _ (T18.setTop (mkF m 18 #[.val (.int pz), .val (.int ((pz &&& (2147483647 : Int32)) % (6 : Int32))), .val (.ref (own_pick ((pz &&& (2147483647 : Int32)) % (6 : Int32)) w0 w1 w2 w3 w4 w5)), .val (.int (own_wait (own_pick ((pz &&& (2147483647 : Int32)) % (6 : Int32)) w0 w1 w2 w3 w4 w5) w1 w2)), .unset, .unset] []))
  refine Run.pre (fun _ k => XS.iloadN X18.here hx rfl (hb hby at_18) rfl  k) ?_
  show Run p e below s _ _ _ (T18.setTop (mkF m 19 #[.val (.int pz), .val (.int ((pz &&& (2147483647 : Int32)) % (6 : Int32))), .val (.ref (own_pick ((pz &&& (2147483647 : Int32)) % (6 : Int32)) w0 w1 w2 w3 w4 w5)), .val (.int (own_wait (own_pick ((pz &&& (2147483647 : Int32)) % (6 : Int32)) w0 w1 w2 w3 w4 w5) w1 w2)), .unset, .unset] [(.int ((pz &&& (2147483647 : Int32)) % (6 : Int32)))]))
  refine Run.pre (fun _ k => XS.iconst X18.here hx rfl (hb hby at_19) k) ?_
  show Run p e below s _ _ _ (T18.setTop (mkF m 20 #[.val (.int pz), .val (.int ((pz &&& (2147483647 : Int32)) % (6 : Int32))), .val (.ref (own_pick ((pz &&& (2147483647 : Int32)) % (6 : Int32)) w0 w1 w2 w3 w4 w5)), .val (.int (own_wait (own_pick ((pz &&& (2147483647 : Int32)) % (6 : Int32)) w0 w1 w2 w3 w4 w5) w1 w2)), .unset, .unset] [(.int (1 : Int32)), (.int ((pz &&& (2147483647 : Int32)) % (6 : Int32)))]))
  by_cases hc19 : ((pz &&& (2147483647 : Int32)) % (6 : Int32)) = (1 : Int32)
  · skip
    refine Run.pre (fun _ k => XS.icmpYes X18.here hx rfl (pc0 := 20) (pc' := 28) rfl (hb hby at_20) rfl (teq (hc19 : ((pz &&& (2147483647 : Int32)) % (6 : Int32)) = (1 : Int32))).1 (by decide) (by decide) k) ?_
    show Run p e below s _ _ _ (T18.setTop (mkF m 28 #[.val (.int pz), .val (.int ((pz &&& (2147483647 : Int32)) % (6 : Int32))), .val (.ref (own_pick ((pz &&& (2147483647 : Int32)) % (6 : Int32)) w0 w1 w2 w3 w4 w5)), .val (.int (own_wait (own_pick ((pz &&& (2147483647 : Int32)) % (6 : Int32)) w0 w1 w2 w3 w4 w5) w1 w2)), .unset, .unset] []))
    refine Run.pre (fun _ k => XS.iconst X18.here hx rfl (hb hby at_28) k) ?_
    show Run p e below s _ _ _ (T18.setTop (mkF m 29 #[.val (.int pz), .val (.int ((pz &&& (2147483647 : Int32)) % (6 : Int32))), .val (.ref (own_pick ((pz &&& (2147483647 : Int32)) % (6 : Int32)) w0 w1 w2 w3 w4 w5)), .val (.int (own_wait (own_pick ((pz &&& (2147483647 : Int32)) % (6 : Int32)) w0 w1 w2 w3 w4 w5) w1 w2)), .unset, .unset] [(.int (1 : Int32))]))
    refine Run.pre (fun _ k => XS.goto X18.here hx rfl (pc0 := 29) (pc' := 33) rfl (hb hby at_29) (by decide) (by decide) k) ?_
    show Run p e below s _ _ _ (T18.setTop (mkF m 33 #[.val (.int pz), .val (.int ((pz &&& (2147483647 : Int32)) % (6 : Int32))), .val (.ref (own_pick ((pz &&& (2147483647 : Int32)) % (6 : Int32)) w0 w1 w2 w3 w4 w5)), .val (.int (own_wait (own_pick ((pz &&& (2147483647 : Int32)) % (6 : Int32)) w0 w1 w2 w3 w4 w5) w1 w2)), .unset, .unset] [(.int (1 : Int32))]))
    refine Run.pre (fun _ k => XS.istore X18.here hx rfl (hb hby at_33) rfl (l' := #[.val (.int pz), .val (.int ((pz &&& (2147483647 : Int32)) % (6 : Int32))), .val (.ref (own_pick ((pz &&& (2147483647 : Int32)) % (6 : Int32)) w0 w1 w2 w3 w4 w5)), .val (.int (own_wait (own_pick ((pz &&& (2147483647 : Int32)) % (6 : Int32)) w0 w1 w2 w3 w4 w5) w1 w2)), .val (.int (1 : Int32)), .unset]) rfl k) ?_
    show Run p e below s _ _ _ (T18.setTop (mkF m 35 #[.val (.int pz), .val (.int ((pz &&& (2147483647 : Int32)) % (6 : Int32))), .val (.ref (own_pick ((pz &&& (2147483647 : Int32)) % (6 : Int32)) w0 w1 w2 w3 w4 w5)), .val (.int (own_wait (own_pick ((pz &&& (2147483647 : Int32)) % (6 : Int32)) w0 w1 w2 w3 w4 w5) w1 w2)), .val (.int (1 : Int32)), .unset] []))
    refine Run.pre (fun _ k => XS.iloadN X18.here hx rfl (hb hby at_35) rfl  k) ?_
    show Run p e below s _ _ _ (T18.setTop (mkF m 36 #[.val (.int pz), .val (.int ((pz &&& (2147483647 : Int32)) % (6 : Int32))), .val (.ref (own_pick ((pz &&& (2147483647 : Int32)) % (6 : Int32)) w0 w1 w2 w3 w4 w5)), .val (.int (own_wait (own_pick ((pz &&& (2147483647 : Int32)) % (6 : Int32)) w0 w1 w2 w3 w4 w5) w1 w2)), .val (.int (1 : Int32)), .unset] [(.int (own_wait (own_pick ((pz &&& (2147483647 : Int32)) % (6 : Int32)) w0 w1 w2 w3 w4 w5) w1 w2))]))
    refine Run.pre (fun _ k => XS.aloadN X18.here hx rfl (hb hby at_36) rfl rfl k) ?_
    show Run p e below s _ _ _ (T18.setTop (mkF m 37 #[.val (.int pz), .val (.int ((pz &&& (2147483647 : Int32)) % (6 : Int32))), .val (.ref (own_pick ((pz &&& (2147483647 : Int32)) % (6 : Int32)) w0 w1 w2 w3 w4 w5)), .val (.int (own_wait (own_pick ((pz &&& (2147483647 : Int32)) % (6 : Int32)) w0 w1 w2 w3 w4 w5) w1 w2)), .val (.int (1 : Int32)), .unset] [(.ref (own_pick ((pz &&& (2147483647 : Int32)) % (6 : Int32)) w0 w1 w2 w3 w4 w5)), (.int (own_wait (own_pick ((pz &&& (2147483647 : Int32)) % (6 : Int32)) w0 w1 w2 w3 w4 w5) w1 w2))]))
    refine Run.callV X18 hx hZ (y := (⟨"com/example/panelfix/panelfix/model/Fixing$Status", "isFinal", "()Z"⟩ : MethodName)) (z := (⟨"com/example/panelfix/panelfix/model/Fixing$Status", "isFinal", "()Z"⟩ : MethodName)) hown (hw _ (List.mem_of_getElem? (i := 17) rfl)) (hw _ (List.mem_of_getElem? (i := 18) rfl)) (notFace_of_selects (args := #[]) (mvT hZ (hw _ (List.mem_of_getElem? (i := 20) rfl)))) (hw _ (List.mem_of_getElem? (i := 20) rfl)) (hw _ (List.mem_of_getElem? (i := 19) rfl)) (hw _ (List.mem_of_getElem? (i := 21) rfl)) (hw _ (List.mem_of_getElem? (i := 6) rfl)) (by decide) (b := (own_pick ((pz &&& (2147483647 : Int32)) % (6 : Int32)) w0 w1 w2 w3 w4 w5)) EP (W := 1) (rm3 l Z a0 hw (own_pick ((pz &&& (2147483647 : Int32)) % (6 : Int32)) w0 w1 w2 w3 w4 w5) (own_fin ((pz &&& (2147483647 : Int32)) % (6 : Int32))) h0 n0 Z0 FP (by unfold own_fin; repeat' split; all_goals simp)) e18 (by decide) (by decide) (by decide) (by decide) (g := (mkF m 37 #[.val (.int pz), .val (.int ((pz &&& (2147483647 : Int32)) % (6 : Int32))), .val (.ref (own_pick ((pz &&& (2147483647 : Int32)) % (6 : Int32)) w0 w1 w2 w3 w4 w5)), .val (.int (own_wait (own_pick ((pz &&& (2147483647 : Int32)) % (6 : Int32)) w0 w1 w2 w3 w4 w5) w1 w2)), .val (.int (1 : Int32)), .unset] [(.ref (own_pick ((pz &&& (2147483647 : Int32)) % (6 : Int32)) w0 w1 w2 w3 w4 w5)), (.int (own_wait (own_pick ((pz &&& (2147483647 : Int32)) % (6 : Int32)) w0 w1 w2 w3 w4 w5) w1 w2))])) rfl (by rw [hml]; rfl) (argsL := []) (rest := [(.int (own_wait (own_pick ((pz &&& (2147483647 : Int32)) % (6 : Int32)) w0 w1 w2 w3 w4 w5) w1 w2))]) (lenOf pd_1 rfl) rfl (by show 2 * 0 + _ ≤ _; exact Nat.le_of_eq rfl) (hb hby at_37) ?_
    intro v20 T20 L20 X20 hQ20
    obtain ⟨rfl, Nq20, he20⟩ := hQ20
    have N20 := Fr.app N18 Nq20
    have e20 : T20.heap = h0 := he20
    show Run p e below s _ _ _ (T20.setTop (mkF m 40 #[.val (.int pz), .val (.int ((pz &&& (2147483647 : Int32)) % (6 : Int32))), .val (.ref (own_pick ((pz &&& (2147483647 : Int32)) % (6 : Int32)) w0 w1 w2 w3 w4 w5)), .val (.int (own_wait (own_pick ((pz &&& (2147483647 : Int32)) % (6 : Int32)) w0 w1 w2 w3 w4 w5) w1 w2)), .val (.int (1 : Int32)), .unset] [(.int (own_fin ((pz &&& (2147483647 : Int32)) % (6 : Int32)))), (.int (own_wait (own_pick ((pz &&& (2147483647 : Int32)) % (6 : Int32)) w0 w1 w2 w3 w4 w5) w1 w2))]))
    by_cases hc21 : (own_fin ((pz &&& (2147483647 : Int32)) % (6 : Int32))) = (0 : Int32)
    · skip
      refine Run.pre (fun _ k => XS.ifNo X20.here hx rfl (hb hby at_40) rfl ((if0 _ _).trans (teq (hc21 : (own_fin ((pz &&& (2147483647 : Int32)) % (6 : Int32))) = (0 : Int32))).2) k) ?_
      show Run p e below s _ _ _ (T20.setTop (mkF m 43 #[.val (.int pz), .val (.int ((pz &&& (2147483647 : Int32)) % (6 : Int32))), .val (.ref (own_pick ((pz &&& (2147483647 : Int32)) % (6 : Int32)) w0 w1 w2 w3 w4 w5)), .val (.int (own_wait (own_pick ((pz &&& (2147483647 : Int32)) % (6 : Int32)) w0 w1 w2 w3 w4 w5) w1 w2)), .val (.int (1 : Int32)), .unset] [(.int (own_wait (own_pick ((pz &&& (2147483647 : Int32)) % (6 : Int32)) w0 w1 w2 w3 w4 w5) w1 w2))]))
      refine Run.pre (fun _ k => XS.aloadN X20.here hx rfl (hb hby at_43) rfl rfl k) ?_
      show Run p e below s _ _ _ (T20.setTop (mkF m 44 #[.val (.int pz), .val (.int ((pz &&& (2147483647 : Int32)) % (6 : Int32))), .val (.ref (own_pick ((pz &&& (2147483647 : Int32)) % (6 : Int32)) w0 w1 w2 w3 w4 w5)), .val (.int (own_wait (own_pick ((pz &&& (2147483647 : Int32)) % (6 : Int32)) w0 w1 w2 w3 w4 w5) w1 w2)), .val (.int (1 : Int32)), .unset] [(.ref (own_pick ((pz &&& (2147483647 : Int32)) % (6 : Int32)) w0 w1 w2 w3 w4 w5)), (.int (own_wait (own_pick ((pz &&& (2147483647 : Int32)) % (6 : Int32)) w0 w1 w2 w3 w4 w5) w1 w2))]))
      obtain ⟨T22, X22, e22, st22⟩ := getS2 X20 hx hZ hown (host := "") (Or.inl (hw _ (List.mem_of_getElem? (i := 5) rfl))) Via.refl e20 (S0.ext OL.2) (g := (mkF m 44 #[.val (.int pz), .val (.int ((pz &&& (2147483647 : Int32)) % (6 : Int32))), .val (.ref (own_pick ((pz &&& (2147483647 : Int32)) % (6 : Int32)) w0 w1 w2 w3 w4 w5)), .val (.int (own_wait (own_pick ((pz &&& (2147483647 : Int32)) % (6 : Int32)) w0 w1 w2 w3 w4 w5) w1 w2)), .val (.int (1 : Int32)), .unset] [(.ref (own_pick ((pz &&& (2147483647 : Int32)) % (6 : Int32)) w0 w1 w2 w3 w4 w5)), (.int (own_wait (own_pick ((pz &&& (2147483647 : Int32)) % (6 : Int32)) w0 w1 w2 w3 w4 w5) w1 w2))])) rfl (hb hby at_44)
      refine Run.pre st22 ?_
      show Run p e below s _ _ _ (T22.setTop (mkF m 47 #[.val (.int pz), .val (.int ((pz &&& (2147483647 : Int32)) % (6 : Int32))), .val (.ref (own_pick ((pz &&& (2147483647 : Int32)) % (6 : Int32)) w0 w1 w2 w3 w4 w5)), .val (.int (own_wait (own_pick ((pz &&& (2147483647 : Int32)) % (6 : Int32)) w0 w1 w2 w3 w4 w5) w1 w2)), .val (.int (1 : Int32)), .unset] [(.ref w0), (.ref (own_pick ((pz &&& (2147483647 : Int32)) % (6 : Int32)) w0 w1 w2 w3 w4 w5)), (.int (own_wait (own_pick ((pz &&& (2147483647 : Int32)) % (6 : Int32)) w0 w1 w2 w3 w4 w5) w1 w2))]))
      by_cases ha23 : (own_pick ((pz &&& (2147483647 : Int32)) % (6 : Int32)) w0 w1 w2 w3 w4 w5) = w0
      · skip
        refine Run.pre (fun _ k => Jvm.RoadKit.acmp (g := (mkF m 47 #[.val (.int pz), .val (.int ((pz &&& (2147483647 : Int32)) % (6 : Int32))), .val (.ref (own_pick ((pz &&& (2147483647 : Int32)) % (6 : Int32)) w0 w1 w2 w3 w4 w5)), .val (.int (own_wait (own_pick ((pz &&& (2147483647 : Int32)) % (6 : Int32)) w0 w1 w2 w3 w4 w5) w1 w2)), .val (.int (1 : Int32)), .unset] [(.ref w0), (.ref (own_pick ((pz &&& (2147483647 : Int32)) % (6 : Int32)) w0 w1 w2 w3 w4 w5)), (.int (own_wait (own_pick ((pz &&& (2147483647 : Int32)) % (6 : Int32)) w0 w1 w2 w3 w4 w5) w1 w2))])) X22 hx rfl rfl rfl (pc0 := 47) (pc' := 54) (same := true) rfl (hb hby at_47) rfl (decide_eq_true (congrArg Value.ref ha23)) (by decide) (by decide) k) ?_
        show Run p e below s _ _ _ (T22.setTop (mkF m 54 #[.val (.int pz), .val (.int ((pz &&& (2147483647 : Int32)) % (6 : Int32))), .val (.ref (own_pick ((pz &&& (2147483647 : Int32)) % (6 : Int32)) w0 w1 w2 w3 w4 w5)), .val (.int (own_wait (own_pick ((pz &&& (2147483647 : Int32)) % (6 : Int32)) w0 w1 w2 w3 w4 w5) w1 w2)), .val (.int (1 : Int32)), .unset] [(.int (own_wait (own_pick ((pz &&& (2147483647 : Int32)) % (6 : Int32)) w0 w1 w2 w3 w4 w5) w1 w2))]))
        refine Run.pre (fun _ k => XS.iconst X22.here hx rfl (hb hby at_54) k) ?_
        show Run p e below s _ _ _ (T22.setTop (mkF m 55 #[.val (.int pz), .val (.int ((pz &&& (2147483647 : Int32)) % (6 : Int32))), .val (.ref (own_pick ((pz &&& (2147483647 : Int32)) % (6 : Int32)) w0 w1 w2 w3 w4 w5)), .val (.int (own_wait (own_pick ((pz &&& (2147483647 : Int32)) % (6 : Int32)) w0 w1 w2 w3 w4 w5) w1 w2)), .val (.int (1 : Int32)), .unset] [(.int (0 : Int32)), (.int (own_wait (own_pick ((pz &&& (2147483647 : Int32)) % (6 : Int32)) w0 w1 w2 w3 w4 w5) w1 w2))]))
        exact absurd hc19 ((own_plain ((pz &&& (2147483647 : Int32)) % (6 : Int32)) w0 w1 w2 w3 w4 w5 n0_1 n0_2 n1_2 n3_0 n3_1 n3_2 n4_0 n4_1 n4_2 n5_0 n5_1 n5_2).2.2.2 ha23).1
      · skip
        refine Run.pre (fun _ k => Jvm.RoadKit.acmp (g := (mkF m 47 #[.val (.int pz), .val (.int ((pz &&& (2147483647 : Int32)) % (6 : Int32))), .val (.ref (own_pick ((pz &&& (2147483647 : Int32)) % (6 : Int32)) w0 w1 w2 w3 w4 w5)), .val (.int (own_wait (own_pick ((pz &&& (2147483647 : Int32)) % (6 : Int32)) w0 w1 w2 w3 w4 w5) w1 w2)), .val (.int (1 : Int32)), .unset] [(.ref w0), (.ref (own_pick ((pz &&& (2147483647 : Int32)) % (6 : Int32)) w0 w1 w2 w3 w4 w5)), (.int (own_wait (own_pick ((pz &&& (2147483647 : Int32)) % (6 : Int32)) w0 w1 w2 w3 w4 w5) w1 w2))])) X22 hx rfl rfl rfl (pc0 := 47) (pc' := 50) (same := false) rfl (hb hby at_47) rfl (decide_eq_false fun q => ha23 (Value.ref.inj q)) (by decide) (by decide) k) ?_
        show Run p e below s _ _ _ (T22.setTop (mkF m 50 #[.val (.int pz), .val (.int ((pz &&& (2147483647 : Int32)) % (6 : Int32))), .val (.ref (own_pick ((pz &&& (2147483647 : Int32)) % (6 : Int32)) w0 w1 w2 w3 w4 w5)), .val (.int (own_wait (own_pick ((pz &&& (2147483647 : Int32)) % (6 : Int32)) w0 w1 w2 w3 w4 w5) w1 w2)), .val (.int (1 : Int32)), .unset] [(.int (own_wait (own_pick ((pz &&& (2147483647 : Int32)) % (6 : Int32)) w0 w1 w2 w3 w4 w5) w1 w2))]))
        refine Run.pre (fun _ k => XS.iconst X22.here hx rfl (hb hby at_50) k) ?_
        show Run p e below s _ _ _ (T22.setTop (mkF m 51 #[.val (.int pz), .val (.int ((pz &&& (2147483647 : Int32)) % (6 : Int32))), .val (.ref (own_pick ((pz &&& (2147483647 : Int32)) % (6 : Int32)) w0 w1 w2 w3 w4 w5)), .val (.int (own_wait (own_pick ((pz &&& (2147483647 : Int32)) % (6 : Int32)) w0 w1 w2 w3 w4 w5) w1 w2)), .val (.int (1 : Int32)), .unset] [(.int (1 : Int32)), (.int (own_wait (own_pick ((pz &&& (2147483647 : Int32)) % (6 : Int32)) w0 w1 w2 w3 w4 w5) w1 w2))]))
        refine Run.pre (fun _ k => XS.goto X22.here hx rfl (pc0 := 51) (pc' := 55) rfl (hb hby at_51) (by decide) (by decide) k) ?_
        show Run p e below s _ _ _ (T22.setTop (mkF m 55 #[.val (.int pz), .val (.int ((pz &&& (2147483647 : Int32)) % (6 : Int32))), .val (.ref (own_pick ((pz &&& (2147483647 : Int32)) % (6 : Int32)) w0 w1 w2 w3 w4 w5)), .val (.int (own_wait (own_pick ((pz &&& (2147483647 : Int32)) % (6 : Int32)) w0 w1 w2 w3 w4 w5) w1 w2)), .val (.int (1 : Int32)), .unset] [(.int (1 : Int32)), (.int (own_wait (own_pick ((pz &&& (2147483647 : Int32)) % (6 : Int32)) w0 w1 w2 w3 w4 w5) w1 w2))]))
        refine Run.pre (fun _ k => XS.icmpNo X22.here hx rfl (hb hby at_55) rfl (teq (((own_plain ((pz &&& (2147483647 : Int32)) % (6 : Int32)) w0 w1 w2 w3 w4 w5 n0_1 n0_2 n1_2 n3_0 n3_1 n3_2 n4_0 n4_1 n4_2 n5_0 n5_1 n5_2).1.trans (by simp [hc19])) : (own_wait (own_pick ((pz &&& (2147483647 : Int32)) % (6 : Int32)) w0 w1 w2 w3 w4 w5) w1 w2) = (1 : Int32))).2 k) ?_
        show Run p e below s _ _ _ (T22.setTop (mkF m 58 #[.val (.int pz), .val (.int ((pz &&& (2147483647 : Int32)) % (6 : Int32))), .val (.ref (own_pick ((pz &&& (2147483647 : Int32)) % (6 : Int32)) w0 w1 w2 w3 w4 w5)), .val (.int (own_wait (own_pick ((pz &&& (2147483647 : Int32)) % (6 : Int32)) w0 w1 w2 w3 w4 w5) w1 w2)), .val (.int (1 : Int32)), .unset] []))
        refine Run.pre (fun _ k => XS.iconst X22.here hx rfl (hb hby at_58) k) ?_
        show Run p e below s _ _ _ (T22.setTop (mkF m 59 #[.val (.int pz), .val (.int ((pz &&& (2147483647 : Int32)) % (6 : Int32))), .val (.ref (own_pick ((pz &&& (2147483647 : Int32)) % (6 : Int32)) w0 w1 w2 w3 w4 w5)), .val (.int (own_wait (own_pick ((pz &&& (2147483647 : Int32)) % (6 : Int32)) w0 w1 w2 w3 w4 w5) w1 w2)), .val (.int (1 : Int32)), .unset] [(.int (1 : Int32))]))
        refine Run.pre (fun _ k => XS.goto X22.here hx rfl (pc0 := 59) (pc' := 63) rfl (hb hby at_59) (by decide) (by decide) k) ?_
        show Run p e below s _ _ _ (T22.setTop (mkF m 63 #[.val (.int pz), .val (.int ((pz &&& (2147483647 : Int32)) % (6 : Int32))), .val (.ref (own_pick ((pz &&& (2147483647 : Int32)) % (6 : Int32)) w0 w1 w2 w3 w4 w5)), .val (.int (own_wait (own_pick ((pz &&& (2147483647 : Int32)) % (6 : Int32)) w0 w1 w2 w3 w4 w5) w1 w2)), .val (.int (1 : Int32)), .unset] [(.int (1 : Int32))]))
        refine Run.pre (fun _ k => XS.istore X22.here hx rfl (hb hby at_63) rfl (l' := #[.val (.int pz), .val (.int ((pz &&& (2147483647 : Int32)) % (6 : Int32))), .val (.ref (own_pick ((pz &&& (2147483647 : Int32)) % (6 : Int32)) w0 w1 w2 w3 w4 w5)), .val (.int (own_wait (own_pick ((pz &&& (2147483647 : Int32)) % (6 : Int32)) w0 w1 w2 w3 w4 w5) w1 w2)), .val (.int (1 : Int32)), .val (.int (1 : Int32))]) rfl k) ?_
        show Run p e below s _ _ _ (T22.setTop (mkF m 65 #[.val (.int pz), .val (.int ((pz &&& (2147483647 : Int32)) % (6 : Int32))), .val (.ref (own_pick ((pz &&& (2147483647 : Int32)) % (6 : Int32)) w0 w1 w2 w3 w4 w5)), .val (.int (own_wait (own_pick ((pz &&& (2147483647 : Int32)) % (6 : Int32)) w0 w1 w2 w3 w4 w5) w1 w2)), .val (.int (1 : Int32)), .val (.int (1 : Int32))] []))
        refine Run.pre (fun _ k => XS.iloadN X22.here hx rfl (hb hby at_65) rfl  k) ?_
        show Run p e below s _ _ _ (T22.setTop (mkF m 66 #[.val (.int pz), .val (.int ((pz &&& (2147483647 : Int32)) % (6 : Int32))), .val (.ref (own_pick ((pz &&& (2147483647 : Int32)) % (6 : Int32)) w0 w1 w2 w3 w4 w5)), .val (.int (own_wait (own_pick ((pz &&& (2147483647 : Int32)) % (6 : Int32)) w0 w1 w2 w3 w4 w5) w1 w2)), .val (.int (1 : Int32)), .val (.int (1 : Int32))] [(.int (own_wait (own_pick ((pz &&& (2147483647 : Int32)) % (6 : Int32)) w0 w1 w2 w3 w4 w5) w1 w2))]))
        refine Run.pre (fun _ k => XS.iload X22.here hx rfl (hb hby at_66) rfl  k) ?_
        show Run p e below s _ _ _ (T22.setTop (mkF m 68 #[.val (.int pz), .val (.int ((pz &&& (2147483647 : Int32)) % (6 : Int32))), .val (.ref (own_pick ((pz &&& (2147483647 : Int32)) % (6 : Int32)) w0 w1 w2 w3 w4 w5)), .val (.int (own_wait (own_pick ((pz &&& (2147483647 : Int32)) % (6 : Int32)) w0 w1 w2 w3 w4 w5) w1 w2)), .val (.int (1 : Int32)), .val (.int (1 : Int32))] [(.int (1 : Int32)), (.int (own_wait (own_pick ((pz &&& (2147483647 : Int32)) % (6 : Int32)) w0 w1 w2 w3 w4 w5) w1 w2))]))
        refine Run.pre (fun _ k => XS.icmpNo X22.here hx rfl (hb hby at_68) rfl (teq (((own_plain ((pz &&& (2147483647 : Int32)) % (6 : Int32)) w0 w1 w2 w3 w4 w5 n0_1 n0_2 n1_2 n3_0 n3_1 n3_2 n4_0 n4_1 n4_2 n5_0 n5_1 n5_2).1.trans (by simp [hc19])) : (own_wait (own_pick ((pz &&& (2147483647 : Int32)) % (6 : Int32)) w0 w1 w2 w3 w4 w5) w1 w2) = (1 : Int32))).2 k) ?_
        show Run p e below s _ _ _ (T22.setTop (mkF m 71 #[.val (.int pz), .val (.int ((pz &&& (2147483647 : Int32)) % (6 : Int32))), .val (.ref (own_pick ((pz &&& (2147483647 : Int32)) % (6 : Int32)) w0 w1 w2 w3 w4 w5)), .val (.int (own_wait (own_pick ((pz &&& (2147483647 : Int32)) % (6 : Int32)) w0 w1 w2 w3 w4 w5) w1 w2)), .val (.int (1 : Int32)), .val (.int (1 : Int32))] []))
        refine Run.pre (fun _ k => XS.iload X22.here hx rfl (hb hby at_71) rfl  k) ?_
        show Run p e below s _ _ _ (T22.setTop (mkF m 73 #[.val (.int pz), .val (.int ((pz &&& (2147483647 : Int32)) % (6 : Int32))), .val (.ref (own_pick ((pz &&& (2147483647 : Int32)) % (6 : Int32)) w0 w1 w2 w3 w4 w5)), .val (.int (own_wait (own_pick ((pz &&& (2147483647 : Int32)) % (6 : Int32)) w0 w1 w2 w3 w4 w5) w1 w2)), .val (.int (1 : Int32)), .val (.int (1 : Int32))] [(.int (1 : Int32))]))
        refine Run.pre (fun _ k => XS.ifNo X22.here hx rfl (hb hby at_73) rfl ((if0 _ _).trans (feq ((by decide) : ¬ ((1 : Int32) = (0 : Int32)))).1) k) ?_
        show Run p e below s _ _ _ (T22.setTop (mkF m 76 #[.val (.int pz), .val (.int ((pz &&& (2147483647 : Int32)) % (6 : Int32))), .val (.ref (own_pick ((pz &&& (2147483647 : Int32)) % (6 : Int32)) w0 w1 w2 w3 w4 w5)), .val (.int (own_wait (own_pick ((pz &&& (2147483647 : Int32)) % (6 : Int32)) w0 w1 w2 w3 w4 w5) w1 w2)), .val (.int (1 : Int32)), .val (.int (1 : Int32))] []))
        refine Run.pre (fun _ k => XS.iconst X22.here hx rfl (hb hby at_76) k) ?_
        show Run p e below s _ _ _ (T22.setTop (mkF m 77 #[.val (.int pz), .val (.int ((pz &&& (2147483647 : Int32)) % (6 : Int32))), .val (.ref (own_pick ((pz &&& (2147483647 : Int32)) % (6 : Int32)) w0 w1 w2 w3 w4 w5)), .val (.int (own_wait (own_pick ((pz &&& (2147483647 : Int32)) % (6 : Int32)) w0 w1 w2 w3 w4 w5) w1 w2)), .val (.int (1 : Int32)), .val (.int (1 : Int32))] [(.int (1 : Int32))]))
        refine Run.pre (fun _ k => XS.goto X22.here hx rfl (pc0 := 77) (pc' := 81) rfl (hb hby at_77) (by decide) (by decide) k) ?_
        show Run p e below s _ _ _ (T22.setTop (mkF m 81 #[.val (.int pz), .val (.int ((pz &&& (2147483647 : Int32)) % (6 : Int32))), .val (.ref (own_pick ((pz &&& (2147483647 : Int32)) % (6 : Int32)) w0 w1 w2 w3 w4 w5)), .val (.int (own_wait (own_pick ((pz &&& (2147483647 : Int32)) % (6 : Int32)) w0 w1 w2 w3 w4 w5) w1 w2)), .val (.int (1 : Int32)), .val (.int (1 : Int32))] [(.int (1 : Int32))]))
        exact Run.retN X22 hx hret (t := .boolean) (by simp) hlk (hb hby at_81) (by first | (rw [e22]; exact ⟨rfl, N20⟩) | exact ⟨rfl, N20⟩) (by decide) (by decide)
    · skip
      refine Run.pre (fun _ k => XS.ifYes X20.here hx rfl (pc0 := 40) (pc' := 54) rfl (hb hby at_40) rfl ((if0 _ _).trans (feq (hc21 : ¬ ((own_fin ((pz &&& (2147483647 : Int32)) % (6 : Int32))) = (0 : Int32)))).2) (by decide) (by decide) k) ?_
      show Run p e below s _ _ _ (T20.setTop (mkF m 54 #[.val (.int pz), .val (.int ((pz &&& (2147483647 : Int32)) % (6 : Int32))), .val (.ref (own_pick ((pz &&& (2147483647 : Int32)) % (6 : Int32)) w0 w1 w2 w3 w4 w5)), .val (.int (own_wait (own_pick ((pz &&& (2147483647 : Int32)) % (6 : Int32)) w0 w1 w2 w3 w4 w5) w1 w2)), .val (.int (1 : Int32)), .unset] [(.int (own_wait (own_pick ((pz &&& (2147483647 : Int32)) % (6 : Int32)) w0 w1 w2 w3 w4 w5) w1 w2))]))
      refine Run.pre (fun _ k => XS.iconst X20.here hx rfl (hb hby at_54) k) ?_
      show Run p e below s _ _ _ (T20.setTop (mkF m 55 #[.val (.int pz), .val (.int ((pz &&& (2147483647 : Int32)) % (6 : Int32))), .val (.ref (own_pick ((pz &&& (2147483647 : Int32)) % (6 : Int32)) w0 w1 w2 w3 w4 w5)), .val (.int (own_wait (own_pick ((pz &&& (2147483647 : Int32)) % (6 : Int32)) w0 w1 w2 w3 w4 w5) w1 w2)), .val (.int (1 : Int32)), .unset] [(.int (0 : Int32)), (.int (own_wait (own_pick ((pz &&& (2147483647 : Int32)) % (6 : Int32)) w0 w1 w2 w3 w4 w5) w1 w2))]))
      exact absurd hc19 ((own_plain ((pz &&& (2147483647 : Int32)) % (6 : Int32)) w0 w1 w2 w3 w4 w5 n0_1 n0_2 n1_2 n3_0 n3_1 n3_2 n4_0 n4_1 n4_2 n5_0 n5_1 n5_2).2.2.1 hc21).1
  · skip
    refine Run.pre (fun _ k => XS.icmpNo X18.here hx rfl (hb hby at_20) rfl (feq (hc19 : ¬ (((pz &&& (2147483647 : Int32)) % (6 : Int32)) = (1 : Int32)))).1 k) ?_
    show Run p e below s _ _ _ (T18.setTop (mkF m 23 #[.val (.int pz), .val (.int ((pz &&& (2147483647 : Int32)) % (6 : Int32))), .val (.ref (own_pick ((pz &&& (2147483647 : Int32)) % (6 : Int32)) w0 w1 w2 w3 w4 w5)), .val (.int (own_wait (own_pick ((pz &&& (2147483647 : Int32)) % (6 : Int32)) w0 w1 w2 w3 w4 w5) w1 w2)), .unset, .unset] []))
    refine Run.pre (fun _ k => XS.iloadN X18.here hx rfl (hb hby at_23) rfl  k) ?_
    show Run p e below s _ _ _ (T18.setTop (mkF m 24 #[.val (.int pz), .val (.int ((pz &&& (2147483647 : Int32)) % (6 : Int32))), .val (.ref (own_pick ((pz &&& (2147483647 : Int32)) % (6 : Int32)) w0 w1 w2 w3 w4 w5)), .val (.int (own_wait (own_pick ((pz &&& (2147483647 : Int32)) % (6 : Int32)) w0 w1 w2 w3 w4 w5) w1 w2)), .unset, .unset] [(.int ((pz &&& (2147483647 : Int32)) % (6 : Int32)))]))
    refine Run.pre (fun _ k => XS.iconst X18.here hx rfl (hb hby at_24) k) ?_
    show Run p e below s _ _ _ (T18.setTop (mkF m 25 #[.val (.int pz), .val (.int ((pz &&& (2147483647 : Int32)) % (6 : Int32))), .val (.ref (own_pick ((pz &&& (2147483647 : Int32)) % (6 : Int32)) w0 w1 w2 w3 w4 w5)), .val (.int (own_wait (own_pick ((pz &&& (2147483647 : Int32)) % (6 : Int32)) w0 w1 w2 w3 w4 w5) w1 w2)), .unset, .unset] [(.int (2 : Int32)), (.int ((pz &&& (2147483647 : Int32)) % (6 : Int32)))]))
    by_cases hc24 : ((pz &&& (2147483647 : Int32)) % (6 : Int32)) = (2 : Int32)
    · skip
      refine Run.pre (fun _ k => XS.icmpNo X18.here hx rfl (hb hby at_25) rfl (teq (hc24 : ((pz &&& (2147483647 : Int32)) % (6 : Int32)) = (2 : Int32))).2 k) ?_
      show Run p e below s _ _ _ (T18.setTop (mkF m 28 #[.val (.int pz), .val (.int ((pz &&& (2147483647 : Int32)) % (6 : Int32))), .val (.ref (own_pick ((pz &&& (2147483647 : Int32)) % (6 : Int32)) w0 w1 w2 w3 w4 w5)), .val (.int (own_wait (own_pick ((pz &&& (2147483647 : Int32)) % (6 : Int32)) w0 w1 w2 w3 w4 w5) w1 w2)), .unset, .unset] []))
      refine Run.pre (fun _ k => XS.iconst X18.here hx rfl (hb hby at_28) k) ?_
      show Run p e below s _ _ _ (T18.setTop (mkF m 29 #[.val (.int pz), .val (.int ((pz &&& (2147483647 : Int32)) % (6 : Int32))), .val (.ref (own_pick ((pz &&& (2147483647 : Int32)) % (6 : Int32)) w0 w1 w2 w3 w4 w5)), .val (.int (own_wait (own_pick ((pz &&& (2147483647 : Int32)) % (6 : Int32)) w0 w1 w2 w3 w4 w5) w1 w2)), .unset, .unset] [(.int (1 : Int32))]))
      refine Run.pre (fun _ k => XS.goto X18.here hx rfl (pc0 := 29) (pc' := 33) rfl (hb hby at_29) (by decide) (by decide) k) ?_
      show Run p e below s _ _ _ (T18.setTop (mkF m 33 #[.val (.int pz), .val (.int ((pz &&& (2147483647 : Int32)) % (6 : Int32))), .val (.ref (own_pick ((pz &&& (2147483647 : Int32)) % (6 : Int32)) w0 w1 w2 w3 w4 w5)), .val (.int (own_wait (own_pick ((pz &&& (2147483647 : Int32)) % (6 : Int32)) w0 w1 w2 w3 w4 w5) w1 w2)), .unset, .unset] [(.int (1 : Int32))]))
      refine Run.pre (fun _ k => XS.istore X18.here hx rfl (hb hby at_33) rfl (l' := #[.val (.int pz), .val (.int ((pz &&& (2147483647 : Int32)) % (6 : Int32))), .val (.ref (own_pick ((pz &&& (2147483647 : Int32)) % (6 : Int32)) w0 w1 w2 w3 w4 w5)), .val (.int (own_wait (own_pick ((pz &&& (2147483647 : Int32)) % (6 : Int32)) w0 w1 w2 w3 w4 w5) w1 w2)), .val (.int (1 : Int32)), .unset]) rfl k) ?_
      show Run p e below s _ _ _ (T18.setTop (mkF m 35 #[.val (.int pz), .val (.int ((pz &&& (2147483647 : Int32)) % (6 : Int32))), .val (.ref (own_pick ((pz &&& (2147483647 : Int32)) % (6 : Int32)) w0 w1 w2 w3 w4 w5)), .val (.int (own_wait (own_pick ((pz &&& (2147483647 : Int32)) % (6 : Int32)) w0 w1 w2 w3 w4 w5) w1 w2)), .val (.int (1 : Int32)), .unset] []))
      refine Run.pre (fun _ k => XS.iloadN X18.here hx rfl (hb hby at_35) rfl  k) ?_
      show Run p e below s _ _ _ (T18.setTop (mkF m 36 #[.val (.int pz), .val (.int ((pz &&& (2147483647 : Int32)) % (6 : Int32))), .val (.ref (own_pick ((pz &&& (2147483647 : Int32)) % (6 : Int32)) w0 w1 w2 w3 w4 w5)), .val (.int (own_wait (own_pick ((pz &&& (2147483647 : Int32)) % (6 : Int32)) w0 w1 w2 w3 w4 w5) w1 w2)), .val (.int (1 : Int32)), .unset] [(.int (own_wait (own_pick ((pz &&& (2147483647 : Int32)) % (6 : Int32)) w0 w1 w2 w3 w4 w5) w1 w2))]))
      refine Run.pre (fun _ k => XS.aloadN X18.here hx rfl (hb hby at_36) rfl rfl k) ?_
      show Run p e below s _ _ _ (T18.setTop (mkF m 37 #[.val (.int pz), .val (.int ((pz &&& (2147483647 : Int32)) % (6 : Int32))), .val (.ref (own_pick ((pz &&& (2147483647 : Int32)) % (6 : Int32)) w0 w1 w2 w3 w4 w5)), .val (.int (own_wait (own_pick ((pz &&& (2147483647 : Int32)) % (6 : Int32)) w0 w1 w2 w3 w4 w5) w1 w2)), .val (.int (1 : Int32)), .unset] [(.ref (own_pick ((pz &&& (2147483647 : Int32)) % (6 : Int32)) w0 w1 w2 w3 w4 w5)), (.int (own_wait (own_pick ((pz &&& (2147483647 : Int32)) % (6 : Int32)) w0 w1 w2 w3 w4 w5) w1 w2))]))
      refine Run.callV X18 hx hZ (y := (⟨"com/example/panelfix/panelfix/model/Fixing$Status", "isFinal", "()Z"⟩ : MethodName)) (z := (⟨"com/example/panelfix/panelfix/model/Fixing$Status", "isFinal", "()Z"⟩ : MethodName)) hown (hw _ (List.mem_of_getElem? (i := 17) rfl)) (hw _ (List.mem_of_getElem? (i := 18) rfl)) (notFace_of_selects (args := #[]) (mvT hZ (hw _ (List.mem_of_getElem? (i := 20) rfl)))) (hw _ (List.mem_of_getElem? (i := 20) rfl)) (hw _ (List.mem_of_getElem? (i := 19) rfl)) (hw _ (List.mem_of_getElem? (i := 21) rfl)) (hw _ (List.mem_of_getElem? (i := 6) rfl)) (by decide) (b := (own_pick ((pz &&& (2147483647 : Int32)) % (6 : Int32)) w0 w1 w2 w3 w4 w5)) EP (W := 1) (rm3 l Z a0 hw (own_pick ((pz &&& (2147483647 : Int32)) % (6 : Int32)) w0 w1 w2 w3 w4 w5) (own_fin ((pz &&& (2147483647 : Int32)) % (6 : Int32))) h0 n0 Z0 FP (by unfold own_fin; repeat' split; all_goals simp)) e18 (by decide) (by decide) (by decide) (by decide) (g := (mkF m 37 #[.val (.int pz), .val (.int ((pz &&& (2147483647 : Int32)) % (6 : Int32))), .val (.ref (own_pick ((pz &&& (2147483647 : Int32)) % (6 : Int32)) w0 w1 w2 w3 w4 w5)), .val (.int (own_wait (own_pick ((pz &&& (2147483647 : Int32)) % (6 : Int32)) w0 w1 w2 w3 w4 w5) w1 w2)), .val (.int (1 : Int32)), .unset] [(.ref (own_pick ((pz &&& (2147483647 : Int32)) % (6 : Int32)) w0 w1 w2 w3 w4 w5)), (.int (own_wait (own_pick ((pz &&& (2147483647 : Int32)) % (6 : Int32)) w0 w1 w2 w3 w4 w5) w1 w2))])) rfl (by rw [hml]; rfl) (argsL := []) (rest := [(.int (own_wait (own_pick ((pz &&& (2147483647 : Int32)) % (6 : Int32)) w0 w1 w2 w3 w4 w5) w1 w2))]) (lenOf pd_1 rfl) rfl (by show 2 * 0 + _ ≤ _; exact Nat.le_of_eq rfl) (hb hby at_37) ?_
      intro v25 T25 L25 X25 hQ25
      obtain ⟨rfl, Nq25, he25⟩ := hQ25
      have N25 := Fr.app N18 Nq25
      have e25 : T25.heap = h0 := he25
      show Run p e below s _ _ _ (T25.setTop (mkF m 40 #[.val (.int pz), .val (.int ((pz &&& (2147483647 : Int32)) % (6 : Int32))), .val (.ref (own_pick ((pz &&& (2147483647 : Int32)) % (6 : Int32)) w0 w1 w2 w3 w4 w5)), .val (.int (own_wait (own_pick ((pz &&& (2147483647 : Int32)) % (6 : Int32)) w0 w1 w2 w3 w4 w5) w1 w2)), .val (.int (1 : Int32)), .unset] [(.int (own_fin ((pz &&& (2147483647 : Int32)) % (6 : Int32)))), (.int (own_wait (own_pick ((pz &&& (2147483647 : Int32)) % (6 : Int32)) w0 w1 w2 w3 w4 w5) w1 w2))]))
      by_cases hc26 : (own_fin ((pz &&& (2147483647 : Int32)) % (6 : Int32))) = (0 : Int32)
      · skip
        refine Run.pre (fun _ k => XS.ifNo X25.here hx rfl (hb hby at_40) rfl ((if0 _ _).trans (teq (hc26 : (own_fin ((pz &&& (2147483647 : Int32)) % (6 : Int32))) = (0 : Int32))).2) k) ?_
        show Run p e below s _ _ _ (T25.setTop (mkF m 43 #[.val (.int pz), .val (.int ((pz &&& (2147483647 : Int32)) % (6 : Int32))), .val (.ref (own_pick ((pz &&& (2147483647 : Int32)) % (6 : Int32)) w0 w1 w2 w3 w4 w5)), .val (.int (own_wait (own_pick ((pz &&& (2147483647 : Int32)) % (6 : Int32)) w0 w1 w2 w3 w4 w5) w1 w2)), .val (.int (1 : Int32)), .unset] [(.int (own_wait (own_pick ((pz &&& (2147483647 : Int32)) % (6 : Int32)) w0 w1 w2 w3 w4 w5) w1 w2))]))
        refine Run.pre (fun _ k => XS.aloadN X25.here hx rfl (hb hby at_43) rfl rfl k) ?_
        show Run p e below s _ _ _ (T25.setTop (mkF m 44 #[.val (.int pz), .val (.int ((pz &&& (2147483647 : Int32)) % (6 : Int32))), .val (.ref (own_pick ((pz &&& (2147483647 : Int32)) % (6 : Int32)) w0 w1 w2 w3 w4 w5)), .val (.int (own_wait (own_pick ((pz &&& (2147483647 : Int32)) % (6 : Int32)) w0 w1 w2 w3 w4 w5) w1 w2)), .val (.int (1 : Int32)), .unset] [(.ref (own_pick ((pz &&& (2147483647 : Int32)) % (6 : Int32)) w0 w1 w2 w3 w4 w5)), (.int (own_wait (own_pick ((pz &&& (2147483647 : Int32)) % (6 : Int32)) w0 w1 w2 w3 w4 w5) w1 w2))]))
        obtain ⟨T27, X27, e27, st27⟩ := getS2 X25 hx hZ hown (host := "") (Or.inl (hw _ (List.mem_of_getElem? (i := 5) rfl))) Via.refl e25 (S0.ext OL.2) (g := (mkF m 44 #[.val (.int pz), .val (.int ((pz &&& (2147483647 : Int32)) % (6 : Int32))), .val (.ref (own_pick ((pz &&& (2147483647 : Int32)) % (6 : Int32)) w0 w1 w2 w3 w4 w5)), .val (.int (own_wait (own_pick ((pz &&& (2147483647 : Int32)) % (6 : Int32)) w0 w1 w2 w3 w4 w5) w1 w2)), .val (.int (1 : Int32)), .unset] [(.ref (own_pick ((pz &&& (2147483647 : Int32)) % (6 : Int32)) w0 w1 w2 w3 w4 w5)), (.int (own_wait (own_pick ((pz &&& (2147483647 : Int32)) % (6 : Int32)) w0 w1 w2 w3 w4 w5) w1 w2))])) rfl (hb hby at_44)
        refine Run.pre st27 ?_
        show Run p e below s _ _ _ (T27.setTop (mkF m 47 #[.val (.int pz), .val (.int ((pz &&& (2147483647 : Int32)) % (6 : Int32))), .val (.ref (own_pick ((pz &&& (2147483647 : Int32)) % (6 : Int32)) w0 w1 w2 w3 w4 w5)), .val (.int (own_wait (own_pick ((pz &&& (2147483647 : Int32)) % (6 : Int32)) w0 w1 w2 w3 w4 w5) w1 w2)), .val (.int (1 : Int32)), .unset] [(.ref w0), (.ref (own_pick ((pz &&& (2147483647 : Int32)) % (6 : Int32)) w0 w1 w2 w3 w4 w5)), (.int (own_wait (own_pick ((pz &&& (2147483647 : Int32)) % (6 : Int32)) w0 w1 w2 w3 w4 w5) w1 w2))]))
        by_cases ha28 : (own_pick ((pz &&& (2147483647 : Int32)) % (6 : Int32)) w0 w1 w2 w3 w4 w5) = w0
        · skip
          refine Run.pre (fun _ k => Jvm.RoadKit.acmp (g := (mkF m 47 #[.val (.int pz), .val (.int ((pz &&& (2147483647 : Int32)) % (6 : Int32))), .val (.ref (own_pick ((pz &&& (2147483647 : Int32)) % (6 : Int32)) w0 w1 w2 w3 w4 w5)), .val (.int (own_wait (own_pick ((pz &&& (2147483647 : Int32)) % (6 : Int32)) w0 w1 w2 w3 w4 w5) w1 w2)), .val (.int (1 : Int32)), .unset] [(.ref w0), (.ref (own_pick ((pz &&& (2147483647 : Int32)) % (6 : Int32)) w0 w1 w2 w3 w4 w5)), (.int (own_wait (own_pick ((pz &&& (2147483647 : Int32)) % (6 : Int32)) w0 w1 w2 w3 w4 w5) w1 w2))])) X27 hx rfl rfl rfl (pc0 := 47) (pc' := 54) (same := true) rfl (hb hby at_47) rfl (decide_eq_true (congrArg Value.ref ha28)) (by decide) (by decide) k) ?_
          show Run p e below s _ _ _ (T27.setTop (mkF m 54 #[.val (.int pz), .val (.int ((pz &&& (2147483647 : Int32)) % (6 : Int32))), .val (.ref (own_pick ((pz &&& (2147483647 : Int32)) % (6 : Int32)) w0 w1 w2 w3 w4 w5)), .val (.int (own_wait (own_pick ((pz &&& (2147483647 : Int32)) % (6 : Int32)) w0 w1 w2 w3 w4 w5) w1 w2)), .val (.int (1 : Int32)), .unset] [(.int (own_wait (own_pick ((pz &&& (2147483647 : Int32)) % (6 : Int32)) w0 w1 w2 w3 w4 w5) w1 w2))]))
          refine Run.pre (fun _ k => XS.iconst X27.here hx rfl (hb hby at_54) k) ?_
          show Run p e below s _ _ _ (T27.setTop (mkF m 55 #[.val (.int pz), .val (.int ((pz &&& (2147483647 : Int32)) % (6 : Int32))), .val (.ref (own_pick ((pz &&& (2147483647 : Int32)) % (6 : Int32)) w0 w1 w2 w3 w4 w5)), .val (.int (own_wait (own_pick ((pz &&& (2147483647 : Int32)) % (6 : Int32)) w0 w1 w2 w3 w4 w5) w1 w2)), .val (.int (1 : Int32)), .unset] [(.int (0 : Int32)), (.int (own_wait (own_pick ((pz &&& (2147483647 : Int32)) % (6 : Int32)) w0 w1 w2 w3 w4 w5) w1 w2))]))
          exact absurd hc24 ((own_plain ((pz &&& (2147483647 : Int32)) % (6 : Int32)) w0 w1 w2 w3 w4 w5 n0_1 n0_2 n1_2 n3_0 n3_1 n3_2 n4_0 n4_1 n4_2 n5_0 n5_1 n5_2).2.2.2 ha28).2
        · skip
          refine Run.pre (fun _ k => Jvm.RoadKit.acmp (g := (mkF m 47 #[.val (.int pz), .val (.int ((pz &&& (2147483647 : Int32)) % (6 : Int32))), .val (.ref (own_pick ((pz &&& (2147483647 : Int32)) % (6 : Int32)) w0 w1 w2 w3 w4 w5)), .val (.int (own_wait (own_pick ((pz &&& (2147483647 : Int32)) % (6 : Int32)) w0 w1 w2 w3 w4 w5) w1 w2)), .val (.int (1 : Int32)), .unset] [(.ref w0), (.ref (own_pick ((pz &&& (2147483647 : Int32)) % (6 : Int32)) w0 w1 w2 w3 w4 w5)), (.int (own_wait (own_pick ((pz &&& (2147483647 : Int32)) % (6 : Int32)) w0 w1 w2 w3 w4 w5) w1 w2))])) X27 hx rfl rfl rfl (pc0 := 47) (pc' := 50) (same := false) rfl (hb hby at_47) rfl (decide_eq_false fun q => ha28 (Value.ref.inj q)) (by decide) (by decide) k) ?_
          show Run p e below s _ _ _ (T27.setTop (mkF m 50 #[.val (.int pz), .val (.int ((pz &&& (2147483647 : Int32)) % (6 : Int32))), .val (.ref (own_pick ((pz &&& (2147483647 : Int32)) % (6 : Int32)) w0 w1 w2 w3 w4 w5)), .val (.int (own_wait (own_pick ((pz &&& (2147483647 : Int32)) % (6 : Int32)) w0 w1 w2 w3 w4 w5) w1 w2)), .val (.int (1 : Int32)), .unset] [(.int (own_wait (own_pick ((pz &&& (2147483647 : Int32)) % (6 : Int32)) w0 w1 w2 w3 w4 w5) w1 w2))]))
          refine Run.pre (fun _ k => XS.iconst X27.here hx rfl (hb hby at_50) k) ?_
          show Run p e below s _ _ _ (T27.setTop (mkF m 51 #[.val (.int pz), .val (.int ((pz &&& (2147483647 : Int32)) % (6 : Int32))), .val (.ref (own_pick ((pz &&& (2147483647 : Int32)) % (6 : Int32)) w0 w1 w2 w3 w4 w5)), .val (.int (own_wait (own_pick ((pz &&& (2147483647 : Int32)) % (6 : Int32)) w0 w1 w2 w3 w4 w5) w1 w2)), .val (.int (1 : Int32)), .unset] [(.int (1 : Int32)), (.int (own_wait (own_pick ((pz &&& (2147483647 : Int32)) % (6 : Int32)) w0 w1 w2 w3 w4 w5) w1 w2))]))
          refine Run.pre (fun _ k => XS.goto X27.here hx rfl (pc0 := 51) (pc' := 55) rfl (hb hby at_51) (by decide) (by decide) k) ?_
          show Run p e below s _ _ _ (T27.setTop (mkF m 55 #[.val (.int pz), .val (.int ((pz &&& (2147483647 : Int32)) % (6 : Int32))), .val (.ref (own_pick ((pz &&& (2147483647 : Int32)) % (6 : Int32)) w0 w1 w2 w3 w4 w5)), .val (.int (own_wait (own_pick ((pz &&& (2147483647 : Int32)) % (6 : Int32)) w0 w1 w2 w3 w4 w5) w1 w2)), .val (.int (1 : Int32)), .unset] [(.int (1 : Int32)), (.int (own_wait (own_pick ((pz &&& (2147483647 : Int32)) % (6 : Int32)) w0 w1 w2 w3 w4 w5) w1 w2))]))
          refine Run.pre (fun _ k => XS.icmpNo X27.here hx rfl (hb hby at_55) rfl (teq (((own_plain ((pz &&& (2147483647 : Int32)) % (6 : Int32)) w0 w1 w2 w3 w4 w5 n0_1 n0_2 n1_2 n3_0 n3_1 n3_2 n4_0 n4_1 n4_2 n5_0 n5_1 n5_2).1.trans (by simp [hc19, hc24])) : (own_wait (own_pick ((pz &&& (2147483647 : Int32)) % (6 : Int32)) w0 w1 w2 w3 w4 w5) w1 w2) = (1 : Int32))).2 k) ?_
          show Run p e below s _ _ _ (T27.setTop (mkF m 58 #[.val (.int pz), .val (.int ((pz &&& (2147483647 : Int32)) % (6 : Int32))), .val (.ref (own_pick ((pz &&& (2147483647 : Int32)) % (6 : Int32)) w0 w1 w2 w3 w4 w5)), .val (.int (own_wait (own_pick ((pz &&& (2147483647 : Int32)) % (6 : Int32)) w0 w1 w2 w3 w4 w5) w1 w2)), .val (.int (1 : Int32)), .unset] []))
          refine Run.pre (fun _ k => XS.iconst X27.here hx rfl (hb hby at_58) k) ?_
          show Run p e below s _ _ _ (T27.setTop (mkF m 59 #[.val (.int pz), .val (.int ((pz &&& (2147483647 : Int32)) % (6 : Int32))), .val (.ref (own_pick ((pz &&& (2147483647 : Int32)) % (6 : Int32)) w0 w1 w2 w3 w4 w5)), .val (.int (own_wait (own_pick ((pz &&& (2147483647 : Int32)) % (6 : Int32)) w0 w1 w2 w3 w4 w5) w1 w2)), .val (.int (1 : Int32)), .unset] [(.int (1 : Int32))]))
          refine Run.pre (fun _ k => XS.goto X27.here hx rfl (pc0 := 59) (pc' := 63) rfl (hb hby at_59) (by decide) (by decide) k) ?_
          show Run p e below s _ _ _ (T27.setTop (mkF m 63 #[.val (.int pz), .val (.int ((pz &&& (2147483647 : Int32)) % (6 : Int32))), .val (.ref (own_pick ((pz &&& (2147483647 : Int32)) % (6 : Int32)) w0 w1 w2 w3 w4 w5)), .val (.int (own_wait (own_pick ((pz &&& (2147483647 : Int32)) % (6 : Int32)) w0 w1 w2 w3 w4 w5) w1 w2)), .val (.int (1 : Int32)), .unset] [(.int (1 : Int32))]))
          refine Run.pre (fun _ k => XS.istore X27.here hx rfl (hb hby at_63) rfl (l' := #[.val (.int pz), .val (.int ((pz &&& (2147483647 : Int32)) % (6 : Int32))), .val (.ref (own_pick ((pz &&& (2147483647 : Int32)) % (6 : Int32)) w0 w1 w2 w3 w4 w5)), .val (.int (own_wait (own_pick ((pz &&& (2147483647 : Int32)) % (6 : Int32)) w0 w1 w2 w3 w4 w5) w1 w2)), .val (.int (1 : Int32)), .val (.int (1 : Int32))]) rfl k) ?_
          show Run p e below s _ _ _ (T27.setTop (mkF m 65 #[.val (.int pz), .val (.int ((pz &&& (2147483647 : Int32)) % (6 : Int32))), .val (.ref (own_pick ((pz &&& (2147483647 : Int32)) % (6 : Int32)) w0 w1 w2 w3 w4 w5)), .val (.int (own_wait (own_pick ((pz &&& (2147483647 : Int32)) % (6 : Int32)) w0 w1 w2 w3 w4 w5) w1 w2)), .val (.int (1 : Int32)), .val (.int (1 : Int32))] []))
          refine Run.pre (fun _ k => XS.iloadN X27.here hx rfl (hb hby at_65) rfl  k) ?_
          show Run p e below s _ _ _ (T27.setTop (mkF m 66 #[.val (.int pz), .val (.int ((pz &&& (2147483647 : Int32)) % (6 : Int32))), .val (.ref (own_pick ((pz &&& (2147483647 : Int32)) % (6 : Int32)) w0 w1 w2 w3 w4 w5)), .val (.int (own_wait (own_pick ((pz &&& (2147483647 : Int32)) % (6 : Int32)) w0 w1 w2 w3 w4 w5) w1 w2)), .val (.int (1 : Int32)), .val (.int (1 : Int32))] [(.int (own_wait (own_pick ((pz &&& (2147483647 : Int32)) % (6 : Int32)) w0 w1 w2 w3 w4 w5) w1 w2))]))
          refine Run.pre (fun _ k => XS.iload X27.here hx rfl (hb hby at_66) rfl  k) ?_
          show Run p e below s _ _ _ (T27.setTop (mkF m 68 #[.val (.int pz), .val (.int ((pz &&& (2147483647 : Int32)) % (6 : Int32))), .val (.ref (own_pick ((pz &&& (2147483647 : Int32)) % (6 : Int32)) w0 w1 w2 w3 w4 w5)), .val (.int (own_wait (own_pick ((pz &&& (2147483647 : Int32)) % (6 : Int32)) w0 w1 w2 w3 w4 w5) w1 w2)), .val (.int (1 : Int32)), .val (.int (1 : Int32))] [(.int (1 : Int32)), (.int (own_wait (own_pick ((pz &&& (2147483647 : Int32)) % (6 : Int32)) w0 w1 w2 w3 w4 w5) w1 w2))]))
          refine Run.pre (fun _ k => XS.icmpNo X27.here hx rfl (hb hby at_68) rfl (teq (((own_plain ((pz &&& (2147483647 : Int32)) % (6 : Int32)) w0 w1 w2 w3 w4 w5 n0_1 n0_2 n1_2 n3_0 n3_1 n3_2 n4_0 n4_1 n4_2 n5_0 n5_1 n5_2).1.trans (by simp [hc19, hc24])) : (own_wait (own_pick ((pz &&& (2147483647 : Int32)) % (6 : Int32)) w0 w1 w2 w3 w4 w5) w1 w2) = (1 : Int32))).2 k) ?_
          show Run p e below s _ _ _ (T27.setTop (mkF m 71 #[.val (.int pz), .val (.int ((pz &&& (2147483647 : Int32)) % (6 : Int32))), .val (.ref (own_pick ((pz &&& (2147483647 : Int32)) % (6 : Int32)) w0 w1 w2 w3 w4 w5)), .val (.int (own_wait (own_pick ((pz &&& (2147483647 : Int32)) % (6 : Int32)) w0 w1 w2 w3 w4 w5) w1 w2)), .val (.int (1 : Int32)), .val (.int (1 : Int32))] []))
          refine Run.pre (fun _ k => XS.iload X27.here hx rfl (hb hby at_71) rfl  k) ?_
          show Run p e below s _ _ _ (T27.setTop (mkF m 73 #[.val (.int pz), .val (.int ((pz &&& (2147483647 : Int32)) % (6 : Int32))), .val (.ref (own_pick ((pz &&& (2147483647 : Int32)) % (6 : Int32)) w0 w1 w2 w3 w4 w5)), .val (.int (own_wait (own_pick ((pz &&& (2147483647 : Int32)) % (6 : Int32)) w0 w1 w2 w3 w4 w5) w1 w2)), .val (.int (1 : Int32)), .val (.int (1 : Int32))] [(.int (1 : Int32))]))
          refine Run.pre (fun _ k => XS.ifNo X27.here hx rfl (hb hby at_73) rfl ((if0 _ _).trans (feq ((by decide) : ¬ ((1 : Int32) = (0 : Int32)))).1) k) ?_
          show Run p e below s _ _ _ (T27.setTop (mkF m 76 #[.val (.int pz), .val (.int ((pz &&& (2147483647 : Int32)) % (6 : Int32))), .val (.ref (own_pick ((pz &&& (2147483647 : Int32)) % (6 : Int32)) w0 w1 w2 w3 w4 w5)), .val (.int (own_wait (own_pick ((pz &&& (2147483647 : Int32)) % (6 : Int32)) w0 w1 w2 w3 w4 w5) w1 w2)), .val (.int (1 : Int32)), .val (.int (1 : Int32))] []))
          refine Run.pre (fun _ k => XS.iconst X27.here hx rfl (hb hby at_76) k) ?_
          show Run p e below s _ _ _ (T27.setTop (mkF m 77 #[.val (.int pz), .val (.int ((pz &&& (2147483647 : Int32)) % (6 : Int32))), .val (.ref (own_pick ((pz &&& (2147483647 : Int32)) % (6 : Int32)) w0 w1 w2 w3 w4 w5)), .val (.int (own_wait (own_pick ((pz &&& (2147483647 : Int32)) % (6 : Int32)) w0 w1 w2 w3 w4 w5) w1 w2)), .val (.int (1 : Int32)), .val (.int (1 : Int32))] [(.int (1 : Int32))]))
          refine Run.pre (fun _ k => XS.goto X27.here hx rfl (pc0 := 77) (pc' := 81) rfl (hb hby at_77) (by decide) (by decide) k) ?_
          show Run p e below s _ _ _ (T27.setTop (mkF m 81 #[.val (.int pz), .val (.int ((pz &&& (2147483647 : Int32)) % (6 : Int32))), .val (.ref (own_pick ((pz &&& (2147483647 : Int32)) % (6 : Int32)) w0 w1 w2 w3 w4 w5)), .val (.int (own_wait (own_pick ((pz &&& (2147483647 : Int32)) % (6 : Int32)) w0 w1 w2 w3 w4 w5) w1 w2)), .val (.int (1 : Int32)), .val (.int (1 : Int32))] [(.int (1 : Int32))]))
          exact Run.retN X27 hx hret (t := .boolean) (by simp) hlk (hb hby at_81) (by first | (rw [e27]; exact ⟨rfl, N25⟩) | exact ⟨rfl, N25⟩) (by decide) (by decide)
      · skip
        refine Run.pre (fun _ k => XS.ifYes X25.here hx rfl (pc0 := 40) (pc' := 54) rfl (hb hby at_40) rfl ((if0 _ _).trans (feq (hc26 : ¬ ((own_fin ((pz &&& (2147483647 : Int32)) % (6 : Int32))) = (0 : Int32)))).2) (by decide) (by decide) k) ?_
        show Run p e below s _ _ _ (T25.setTop (mkF m 54 #[.val (.int pz), .val (.int ((pz &&& (2147483647 : Int32)) % (6 : Int32))), .val (.ref (own_pick ((pz &&& (2147483647 : Int32)) % (6 : Int32)) w0 w1 w2 w3 w4 w5)), .val (.int (own_wait (own_pick ((pz &&& (2147483647 : Int32)) % (6 : Int32)) w0 w1 w2 w3 w4 w5) w1 w2)), .val (.int (1 : Int32)), .unset] [(.int (own_wait (own_pick ((pz &&& (2147483647 : Int32)) % (6 : Int32)) w0 w1 w2 w3 w4 w5) w1 w2))]))
        refine Run.pre (fun _ k => XS.iconst X25.here hx rfl (hb hby at_54) k) ?_
        show Run p e below s _ _ _ (T25.setTop (mkF m 55 #[.val (.int pz), .val (.int ((pz &&& (2147483647 : Int32)) % (6 : Int32))), .val (.ref (own_pick ((pz &&& (2147483647 : Int32)) % (6 : Int32)) w0 w1 w2 w3 w4 w5)), .val (.int (own_wait (own_pick ((pz &&& (2147483647 : Int32)) % (6 : Int32)) w0 w1 w2 w3 w4 w5) w1 w2)), .val (.int (1 : Int32)), .unset] [(.int (0 : Int32)), (.int (own_wait (own_pick ((pz &&& (2147483647 : Int32)) % (6 : Int32)) w0 w1 w2 w3 w4 w5) w1 w2))]))
        exact absurd hc24 ((own_plain ((pz &&& (2147483647 : Int32)) % (6 : Int32)) w0 w1 w2 w3 w4 w5 n0_1 n0_2 n1_2 n3_0 n3_1 n3_2 n4_0 n4_1 n4_2 n5_0 n5_1 n5_2).2.2.1 hc26).2
    · skip
      refine Run.pre (fun _ k => XS.icmpYes X18.here hx rfl (pc0 := 25) (pc' := 32) rfl (hb hby at_25) rfl (feq (hc24 : ¬ (((pz &&& (2147483647 : Int32)) % (6 : Int32)) = (2 : Int32)))).2 (by decide) (by decide) k) ?_
      show Run p e below s _ _ _ (T18.setTop (mkF m 32 #[.val (.int pz), .val (.int ((pz &&& (2147483647 : Int32)) % (6 : Int32))), .val (.ref (own_pick ((pz &&& (2147483647 : Int32)) % (6 : Int32)) w0 w1 w2 w3 w4 w5)), .val (.int (own_wait (own_pick ((pz &&& (2147483647 : Int32)) % (6 : Int32)) w0 w1 w2 w3 w4 w5) w1 w2)), .unset, .unset] []))
      refine Run.pre (fun _ k => XS.iconst X18.here hx rfl (hb hby at_32) k) ?_
      show Run p e below s _ _ _ (T18.setTop (mkF m 33 #[.val (.int pz), .val (.int ((pz &&& (2147483647 : Int32)) % (6 : Int32))), .val (.ref (own_pick ((pz &&& (2147483647 : Int32)) % (6 : Int32)) w0 w1 w2 w3 w4 w5)), .val (.int (own_wait (own_pick ((pz &&& (2147483647 : Int32)) % (6 : Int32)) w0 w1 w2 w3 w4 w5) w1 w2)), .unset, .unset] [(.int (0 : Int32))]))
      refine Run.pre (fun _ k => XS.istore X18.here hx rfl (hb hby at_33) rfl (l' := #[.val (.int pz), .val (.int ((pz &&& (2147483647 : Int32)) % (6 : Int32))), .val (.ref (own_pick ((pz &&& (2147483647 : Int32)) % (6 : Int32)) w0 w1 w2 w3 w4 w5)), .val (.int (own_wait (own_pick ((pz &&& (2147483647 : Int32)) % (6 : Int32)) w0 w1 w2 w3 w4 w5) w1 w2)), .val (.int (0 : Int32)), .unset]) rfl k) ?_
      show Run p e below s _ _ _ (T18.setTop (mkF m 35 #[.val (.int pz), .val (.int ((pz &&& (2147483647 : Int32)) % (6 : Int32))), .val (.ref (own_pick ((pz &&& (2147483647 : Int32)) % (6 : Int32)) w0 w1 w2 w3 w4 w5)), .val (.int (own_wait (own_pick ((pz &&& (2147483647 : Int32)) % (6 : Int32)) w0 w1 w2 w3 w4 w5) w1 w2)), .val (.int (0 : Int32)), .unset] []))
      refine Run.pre (fun _ k => XS.iloadN X18.here hx rfl (hb hby at_35) rfl  k) ?_
      show Run p e below s _ _ _ (T18.setTop (mkF m 36 #[.val (.int pz), .val (.int ((pz &&& (2147483647 : Int32)) % (6 : Int32))), .val (.ref (own_pick ((pz &&& (2147483647 : Int32)) % (6 : Int32)) w0 w1 w2 w3 w4 w5)), .val (.int (own_wait (own_pick ((pz &&& (2147483647 : Int32)) % (6 : Int32)) w0 w1 w2 w3 w4 w5) w1 w2)), .val (.int (0 : Int32)), .unset] [(.int (own_wait (own_pick ((pz &&& (2147483647 : Int32)) % (6 : Int32)) w0 w1 w2 w3 w4 w5) w1 w2))]))
      refine Run.pre (fun _ k => XS.aloadN X18.here hx rfl (hb hby at_36) rfl rfl k) ?_
      show Run p e below s _ _ _ (T18.setTop (mkF m 37 #[.val (.int pz), .val (.int ((pz &&& (2147483647 : Int32)) % (6 : Int32))), .val (.ref (own_pick ((pz &&& (2147483647 : Int32)) % (6 : Int32)) w0 w1 w2 w3 w4 w5)), .val (.int (own_wait (own_pick ((pz &&& (2147483647 : Int32)) % (6 : Int32)) w0 w1 w2 w3 w4 w5) w1 w2)), .val (.int (0 : Int32)), .unset] [(.ref (own_pick ((pz &&& (2147483647 : Int32)) % (6 : Int32)) w0 w1 w2 w3 w4 w5)), (.int (own_wait (own_pick ((pz &&& (2147483647 : Int32)) % (6 : Int32)) w0 w1 w2 w3 w4 w5) w1 w2))]))
      refine Run.callV X18 hx hZ (y := (⟨"com/example/panelfix/panelfix/model/Fixing$Status", "isFinal", "()Z"⟩ : MethodName)) (z := (⟨"com/example/panelfix/panelfix/model/Fixing$Status", "isFinal", "()Z"⟩ : MethodName)) hown (hw _ (List.mem_of_getElem? (i := 17) rfl)) (hw _ (List.mem_of_getElem? (i := 18) rfl)) (notFace_of_selects (args := #[]) (mvT hZ (hw _ (List.mem_of_getElem? (i := 20) rfl)))) (hw _ (List.mem_of_getElem? (i := 20) rfl)) (hw _ (List.mem_of_getElem? (i := 19) rfl)) (hw _ (List.mem_of_getElem? (i := 21) rfl)) (hw _ (List.mem_of_getElem? (i := 6) rfl)) (by decide) (b := (own_pick ((pz &&& (2147483647 : Int32)) % (6 : Int32)) w0 w1 w2 w3 w4 w5)) EP (W := 1) (rm3 l Z a0 hw (own_pick ((pz &&& (2147483647 : Int32)) % (6 : Int32)) w0 w1 w2 w3 w4 w5) (own_fin ((pz &&& (2147483647 : Int32)) % (6 : Int32))) h0 n0 Z0 FP (by unfold own_fin; repeat' split; all_goals simp)) e18 (by decide) (by decide) (by decide) (by decide) (g := (mkF m 37 #[.val (.int pz), .val (.int ((pz &&& (2147483647 : Int32)) % (6 : Int32))), .val (.ref (own_pick ((pz &&& (2147483647 : Int32)) % (6 : Int32)) w0 w1 w2 w3 w4 w5)), .val (.int (own_wait (own_pick ((pz &&& (2147483647 : Int32)) % (6 : Int32)) w0 w1 w2 w3 w4 w5) w1 w2)), .val (.int (0 : Int32)), .unset] [(.ref (own_pick ((pz &&& (2147483647 : Int32)) % (6 : Int32)) w0 w1 w2 w3 w4 w5)), (.int (own_wait (own_pick ((pz &&& (2147483647 : Int32)) % (6 : Int32)) w0 w1 w2 w3 w4 w5) w1 w2))])) rfl (by rw [hml]; rfl) (argsL := []) (rest := [(.int (own_wait (own_pick ((pz &&& (2147483647 : Int32)) % (6 : Int32)) w0 w1 w2 w3 w4 w5) w1 w2))]) (lenOf pd_1 rfl) rfl (by show 2 * 0 + _ ≤ _; exact Nat.le_of_eq rfl) (hb hby at_37) ?_
      intro v29 T29 L29 X29 hQ29
      obtain ⟨rfl, Nq29, he29⟩ := hQ29
      have N29 := Fr.app N18 Nq29
      have e29 : T29.heap = h0 := he29
      show Run p e below s _ _ _ (T29.setTop (mkF m 40 #[.val (.int pz), .val (.int ((pz &&& (2147483647 : Int32)) % (6 : Int32))), .val (.ref (own_pick ((pz &&& (2147483647 : Int32)) % (6 : Int32)) w0 w1 w2 w3 w4 w5)), .val (.int (own_wait (own_pick ((pz &&& (2147483647 : Int32)) % (6 : Int32)) w0 w1 w2 w3 w4 w5) w1 w2)), .val (.int (0 : Int32)), .unset] [(.int (own_fin ((pz &&& (2147483647 : Int32)) % (6 : Int32)))), (.int (own_wait (own_pick ((pz &&& (2147483647 : Int32)) % (6 : Int32)) w0 w1 w2 w3 w4 w5) w1 w2))]))
      by_cases hc30 : (own_fin ((pz &&& (2147483647 : Int32)) % (6 : Int32))) = (0 : Int32)
      · skip
        refine Run.pre (fun _ k => XS.ifNo X29.here hx rfl (hb hby at_40) rfl ((if0 _ _).trans (teq (hc30 : (own_fin ((pz &&& (2147483647 : Int32)) % (6 : Int32))) = (0 : Int32))).2) k) ?_
        show Run p e below s _ _ _ (T29.setTop (mkF m 43 #[.val (.int pz), .val (.int ((pz &&& (2147483647 : Int32)) % (6 : Int32))), .val (.ref (own_pick ((pz &&& (2147483647 : Int32)) % (6 : Int32)) w0 w1 w2 w3 w4 w5)), .val (.int (own_wait (own_pick ((pz &&& (2147483647 : Int32)) % (6 : Int32)) w0 w1 w2 w3 w4 w5) w1 w2)), .val (.int (0 : Int32)), .unset] [(.int (own_wait (own_pick ((pz &&& (2147483647 : Int32)) % (6 : Int32)) w0 w1 w2 w3 w4 w5) w1 w2))]))
        refine Run.pre (fun _ k => XS.aloadN X29.here hx rfl (hb hby at_43) rfl rfl k) ?_
        show Run p e below s _ _ _ (T29.setTop (mkF m 44 #[.val (.int pz), .val (.int ((pz &&& (2147483647 : Int32)) % (6 : Int32))), .val (.ref (own_pick ((pz &&& (2147483647 : Int32)) % (6 : Int32)) w0 w1 w2 w3 w4 w5)), .val (.int (own_wait (own_pick ((pz &&& (2147483647 : Int32)) % (6 : Int32)) w0 w1 w2 w3 w4 w5) w1 w2)), .val (.int (0 : Int32)), .unset] [(.ref (own_pick ((pz &&& (2147483647 : Int32)) % (6 : Int32)) w0 w1 w2 w3 w4 w5)), (.int (own_wait (own_pick ((pz &&& (2147483647 : Int32)) % (6 : Int32)) w0 w1 w2 w3 w4 w5) w1 w2))]))
        obtain ⟨T31, X31, e31, st31⟩ := getS2 X29 hx hZ hown (host := "") (Or.inl (hw _ (List.mem_of_getElem? (i := 5) rfl))) Via.refl e29 (S0.ext OL.2) (g := (mkF m 44 #[.val (.int pz), .val (.int ((pz &&& (2147483647 : Int32)) % (6 : Int32))), .val (.ref (own_pick ((pz &&& (2147483647 : Int32)) % (6 : Int32)) w0 w1 w2 w3 w4 w5)), .val (.int (own_wait (own_pick ((pz &&& (2147483647 : Int32)) % (6 : Int32)) w0 w1 w2 w3 w4 w5) w1 w2)), .val (.int (0 : Int32)), .unset] [(.ref (own_pick ((pz &&& (2147483647 : Int32)) % (6 : Int32)) w0 w1 w2 w3 w4 w5)), (.int (own_wait (own_pick ((pz &&& (2147483647 : Int32)) % (6 : Int32)) w0 w1 w2 w3 w4 w5) w1 w2))])) rfl (hb hby at_44)
        refine Run.pre st31 ?_
        show Run p e below s _ _ _ (T31.setTop (mkF m 47 #[.val (.int pz), .val (.int ((pz &&& (2147483647 : Int32)) % (6 : Int32))), .val (.ref (own_pick ((pz &&& (2147483647 : Int32)) % (6 : Int32)) w0 w1 w2 w3 w4 w5)), .val (.int (own_wait (own_pick ((pz &&& (2147483647 : Int32)) % (6 : Int32)) w0 w1 w2 w3 w4 w5) w1 w2)), .val (.int (0 : Int32)), .unset] [(.ref w0), (.ref (own_pick ((pz &&& (2147483647 : Int32)) % (6 : Int32)) w0 w1 w2 w3 w4 w5)), (.int (own_wait (own_pick ((pz &&& (2147483647 : Int32)) % (6 : Int32)) w0 w1 w2 w3 w4 w5) w1 w2))]))
        by_cases ha32 : (own_pick ((pz &&& (2147483647 : Int32)) % (6 : Int32)) w0 w1 w2 w3 w4 w5) = w0
        · skip
          refine Run.pre (fun _ k => Jvm.RoadKit.acmp (g := (mkF m 47 #[.val (.int pz), .val (.int ((pz &&& (2147483647 : Int32)) % (6 : Int32))), .val (.ref (own_pick ((pz &&& (2147483647 : Int32)) % (6 : Int32)) w0 w1 w2 w3 w4 w5)), .val (.int (own_wait (own_pick ((pz &&& (2147483647 : Int32)) % (6 : Int32)) w0 w1 w2 w3 w4 w5) w1 w2)), .val (.int (0 : Int32)), .unset] [(.ref w0), (.ref (own_pick ((pz &&& (2147483647 : Int32)) % (6 : Int32)) w0 w1 w2 w3 w4 w5)), (.int (own_wait (own_pick ((pz &&& (2147483647 : Int32)) % (6 : Int32)) w0 w1 w2 w3 w4 w5) w1 w2))])) X31 hx rfl rfl rfl (pc0 := 47) (pc' := 54) (same := true) rfl (hb hby at_47) rfl (decide_eq_true (congrArg Value.ref ha32)) (by decide) (by decide) k) ?_
          show Run p e below s _ _ _ (T31.setTop (mkF m 54 #[.val (.int pz), .val (.int ((pz &&& (2147483647 : Int32)) % (6 : Int32))), .val (.ref (own_pick ((pz &&& (2147483647 : Int32)) % (6 : Int32)) w0 w1 w2 w3 w4 w5)), .val (.int (own_wait (own_pick ((pz &&& (2147483647 : Int32)) % (6 : Int32)) w0 w1 w2 w3 w4 w5) w1 w2)), .val (.int (0 : Int32)), .unset] [(.int (own_wait (own_pick ((pz &&& (2147483647 : Int32)) % (6 : Int32)) w0 w1 w2 w3 w4 w5) w1 w2))]))
          refine Run.pre (fun _ k => XS.iconst X31.here hx rfl (hb hby at_54) k) ?_
          show Run p e below s _ _ _ (T31.setTop (mkF m 55 #[.val (.int pz), .val (.int ((pz &&& (2147483647 : Int32)) % (6 : Int32))), .val (.ref (own_pick ((pz &&& (2147483647 : Int32)) % (6 : Int32)) w0 w1 w2 w3 w4 w5)), .val (.int (own_wait (own_pick ((pz &&& (2147483647 : Int32)) % (6 : Int32)) w0 w1 w2 w3 w4 w5) w1 w2)), .val (.int (0 : Int32)), .unset] [(.int (0 : Int32)), (.int (own_wait (own_pick ((pz &&& (2147483647 : Int32)) % (6 : Int32)) w0 w1 w2 w3 w4 w5) w1 w2))]))
          refine Run.pre (fun _ k => XS.icmpNo X31.here hx rfl (hb hby at_55) rfl (teq (((own_plain ((pz &&& (2147483647 : Int32)) % (6 : Int32)) w0 w1 w2 w3 w4 w5 n0_1 n0_2 n1_2 n3_0 n3_1 n3_2 n4_0 n4_1 n4_2 n5_0 n5_1 n5_2).1.trans (by simp [hc19, hc24])) : (own_wait (own_pick ((pz &&& (2147483647 : Int32)) % (6 : Int32)) w0 w1 w2 w3 w4 w5) w1 w2) = (0 : Int32))).2 k) ?_
          show Run p e below s _ _ _ (T31.setTop (mkF m 58 #[.val (.int pz), .val (.int ((pz &&& (2147483647 : Int32)) % (6 : Int32))), .val (.ref (own_pick ((pz &&& (2147483647 : Int32)) % (6 : Int32)) w0 w1 w2 w3 w4 w5)), .val (.int (own_wait (own_pick ((pz &&& (2147483647 : Int32)) % (6 : Int32)) w0 w1 w2 w3 w4 w5) w1 w2)), .val (.int (0 : Int32)), .unset] []))
          refine Run.pre (fun _ k => XS.iconst X31.here hx rfl (hb hby at_58) k) ?_
          show Run p e below s _ _ _ (T31.setTop (mkF m 59 #[.val (.int pz), .val (.int ((pz &&& (2147483647 : Int32)) % (6 : Int32))), .val (.ref (own_pick ((pz &&& (2147483647 : Int32)) % (6 : Int32)) w0 w1 w2 w3 w4 w5)), .val (.int (own_wait (own_pick ((pz &&& (2147483647 : Int32)) % (6 : Int32)) w0 w1 w2 w3 w4 w5) w1 w2)), .val (.int (0 : Int32)), .unset] [(.int (1 : Int32))]))
          refine Run.pre (fun _ k => XS.goto X31.here hx rfl (pc0 := 59) (pc' := 63) rfl (hb hby at_59) (by decide) (by decide) k) ?_
          show Run p e below s _ _ _ (T31.setTop (mkF m 63 #[.val (.int pz), .val (.int ((pz &&& (2147483647 : Int32)) % (6 : Int32))), .val (.ref (own_pick ((pz &&& (2147483647 : Int32)) % (6 : Int32)) w0 w1 w2 w3 w4 w5)), .val (.int (own_wait (own_pick ((pz &&& (2147483647 : Int32)) % (6 : Int32)) w0 w1 w2 w3 w4 w5) w1 w2)), .val (.int (0 : Int32)), .unset] [(.int (1 : Int32))]))
          refine Run.pre (fun _ k => XS.istore X31.here hx rfl (hb hby at_63) rfl (l' := #[.val (.int pz), .val (.int ((pz &&& (2147483647 : Int32)) % (6 : Int32))), .val (.ref (own_pick ((pz &&& (2147483647 : Int32)) % (6 : Int32)) w0 w1 w2 w3 w4 w5)), .val (.int (own_wait (own_pick ((pz &&& (2147483647 : Int32)) % (6 : Int32)) w0 w1 w2 w3 w4 w5) w1 w2)), .val (.int (0 : Int32)), .val (.int (1 : Int32))]) rfl k) ?_
          show Run p e below s _ _ _ (T31.setTop (mkF m 65 #[.val (.int pz), .val (.int ((pz &&& (2147483647 : Int32)) % (6 : Int32))), .val (.ref (own_pick ((pz &&& (2147483647 : Int32)) % (6 : Int32)) w0 w1 w2 w3 w4 w5)), .val (.int (own_wait (own_pick ((pz &&& (2147483647 : Int32)) % (6 : Int32)) w0 w1 w2 w3 w4 w5) w1 w2)), .val (.int (0 : Int32)), .val (.int (1 : Int32))] []))
          refine Run.pre (fun _ k => XS.iloadN X31.here hx rfl (hb hby at_65) rfl  k) ?_
          show Run p e below s _ _ _ (T31.setTop (mkF m 66 #[.val (.int pz), .val (.int ((pz &&& (2147483647 : Int32)) % (6 : Int32))), .val (.ref (own_pick ((pz &&& (2147483647 : Int32)) % (6 : Int32)) w0 w1 w2 w3 w4 w5)), .val (.int (own_wait (own_pick ((pz &&& (2147483647 : Int32)) % (6 : Int32)) w0 w1 w2 w3 w4 w5) w1 w2)), .val (.int (0 : Int32)), .val (.int (1 : Int32))] [(.int (own_wait (own_pick ((pz &&& (2147483647 : Int32)) % (6 : Int32)) w0 w1 w2 w3 w4 w5) w1 w2))]))
          refine Run.pre (fun _ k => XS.iload X31.here hx rfl (hb hby at_66) rfl  k) ?_
          show Run p e below s _ _ _ (T31.setTop (mkF m 68 #[.val (.int pz), .val (.int ((pz &&& (2147483647 : Int32)) % (6 : Int32))), .val (.ref (own_pick ((pz &&& (2147483647 : Int32)) % (6 : Int32)) w0 w1 w2 w3 w4 w5)), .val (.int (own_wait (own_pick ((pz &&& (2147483647 : Int32)) % (6 : Int32)) w0 w1 w2 w3 w4 w5) w1 w2)), .val (.int (0 : Int32)), .val (.int (1 : Int32))] [(.int (0 : Int32)), (.int (own_wait (own_pick ((pz &&& (2147483647 : Int32)) % (6 : Int32)) w0 w1 w2 w3 w4 w5) w1 w2))]))
          refine Run.pre (fun _ k => XS.icmpNo X31.here hx rfl (hb hby at_68) rfl (teq (((own_plain ((pz &&& (2147483647 : Int32)) % (6 : Int32)) w0 w1 w2 w3 w4 w5 n0_1 n0_2 n1_2 n3_0 n3_1 n3_2 n4_0 n4_1 n4_2 n5_0 n5_1 n5_2).1.trans (by simp [hc19, hc24])) : (own_wait (own_pick ((pz &&& (2147483647 : Int32)) % (6 : Int32)) w0 w1 w2 w3 w4 w5) w1 w2) = (0 : Int32))).2 k) ?_
          show Run p e below s _ _ _ (T31.setTop (mkF m 71 #[.val (.int pz), .val (.int ((pz &&& (2147483647 : Int32)) % (6 : Int32))), .val (.ref (own_pick ((pz &&& (2147483647 : Int32)) % (6 : Int32)) w0 w1 w2 w3 w4 w5)), .val (.int (own_wait (own_pick ((pz &&& (2147483647 : Int32)) % (6 : Int32)) w0 w1 w2 w3 w4 w5) w1 w2)), .val (.int (0 : Int32)), .val (.int (1 : Int32))] []))
          refine Run.pre (fun _ k => XS.iload X31.here hx rfl (hb hby at_71) rfl  k) ?_
          show Run p e below s _ _ _ (T31.setTop (mkF m 73 #[.val (.int pz), .val (.int ((pz &&& (2147483647 : Int32)) % (6 : Int32))), .val (.ref (own_pick ((pz &&& (2147483647 : Int32)) % (6 : Int32)) w0 w1 w2 w3 w4 w5)), .val (.int (own_wait (own_pick ((pz &&& (2147483647 : Int32)) % (6 : Int32)) w0 w1 w2 w3 w4 w5) w1 w2)), .val (.int (0 : Int32)), .val (.int (1 : Int32))] [(.int (1 : Int32))]))
          refine Run.pre (fun _ k => XS.ifNo X31.here hx rfl (hb hby at_73) rfl ((if0 _ _).trans (feq ((by decide) : ¬ ((1 : Int32) = (0 : Int32)))).1) k) ?_
          show Run p e below s _ _ _ (T31.setTop (mkF m 76 #[.val (.int pz), .val (.int ((pz &&& (2147483647 : Int32)) % (6 : Int32))), .val (.ref (own_pick ((pz &&& (2147483647 : Int32)) % (6 : Int32)) w0 w1 w2 w3 w4 w5)), .val (.int (own_wait (own_pick ((pz &&& (2147483647 : Int32)) % (6 : Int32)) w0 w1 w2 w3 w4 w5) w1 w2)), .val (.int (0 : Int32)), .val (.int (1 : Int32))] []))
          refine Run.pre (fun _ k => XS.iconst X31.here hx rfl (hb hby at_76) k) ?_
          show Run p e below s _ _ _ (T31.setTop (mkF m 77 #[.val (.int pz), .val (.int ((pz &&& (2147483647 : Int32)) % (6 : Int32))), .val (.ref (own_pick ((pz &&& (2147483647 : Int32)) % (6 : Int32)) w0 w1 w2 w3 w4 w5)), .val (.int (own_wait (own_pick ((pz &&& (2147483647 : Int32)) % (6 : Int32)) w0 w1 w2 w3 w4 w5) w1 w2)), .val (.int (0 : Int32)), .val (.int (1 : Int32))] [(.int (1 : Int32))]))
          refine Run.pre (fun _ k => XS.goto X31.here hx rfl (pc0 := 77) (pc' := 81) rfl (hb hby at_77) (by decide) (by decide) k) ?_
          show Run p e below s _ _ _ (T31.setTop (mkF m 81 #[.val (.int pz), .val (.int ((pz &&& (2147483647 : Int32)) % (6 : Int32))), .val (.ref (own_pick ((pz &&& (2147483647 : Int32)) % (6 : Int32)) w0 w1 w2 w3 w4 w5)), .val (.int (own_wait (own_pick ((pz &&& (2147483647 : Int32)) % (6 : Int32)) w0 w1 w2 w3 w4 w5) w1 w2)), .val (.int (0 : Int32)), .val (.int (1 : Int32))] [(.int (1 : Int32))]))
          exact Run.retN X31 hx hret (t := .boolean) (by simp) hlk (hb hby at_81) (by first | (rw [e31]; exact ⟨rfl, N29⟩) | exact ⟨rfl, N29⟩) (by decide) (by decide)
        · skip
          refine Run.pre (fun _ k => Jvm.RoadKit.acmp (g := (mkF m 47 #[.val (.int pz), .val (.int ((pz &&& (2147483647 : Int32)) % (6 : Int32))), .val (.ref (own_pick ((pz &&& (2147483647 : Int32)) % (6 : Int32)) w0 w1 w2 w3 w4 w5)), .val (.int (own_wait (own_pick ((pz &&& (2147483647 : Int32)) % (6 : Int32)) w0 w1 w2 w3 w4 w5) w1 w2)), .val (.int (0 : Int32)), .unset] [(.ref w0), (.ref (own_pick ((pz &&& (2147483647 : Int32)) % (6 : Int32)) w0 w1 w2 w3 w4 w5)), (.int (own_wait (own_pick ((pz &&& (2147483647 : Int32)) % (6 : Int32)) w0 w1 w2 w3 w4 w5) w1 w2))])) X31 hx rfl rfl rfl (pc0 := 47) (pc' := 50) (same := false) rfl (hb hby at_47) rfl (decide_eq_false fun q => ha32 (Value.ref.inj q)) (by decide) (by decide) k) ?_
          show Run p e below s _ _ _ (T31.setTop (mkF m 50 #[.val (.int pz), .val (.int ((pz &&& (2147483647 : Int32)) % (6 : Int32))), .val (.ref (own_pick ((pz &&& (2147483647 : Int32)) % (6 : Int32)) w0 w1 w2 w3 w4 w5)), .val (.int (own_wait (own_pick ((pz &&& (2147483647 : Int32)) % (6 : Int32)) w0 w1 w2 w3 w4 w5) w1 w2)), .val (.int (0 : Int32)), .unset] [(.int (own_wait (own_pick ((pz &&& (2147483647 : Int32)) % (6 : Int32)) w0 w1 w2 w3 w4 w5) w1 w2))]))
          refine Run.pre (fun _ k => XS.iconst X31.here hx rfl (hb hby at_50) k) ?_
          show Run p e below s _ _ _ (T31.setTop (mkF m 51 #[.val (.int pz), .val (.int ((pz &&& (2147483647 : Int32)) % (6 : Int32))), .val (.ref (own_pick ((pz &&& (2147483647 : Int32)) % (6 : Int32)) w0 w1 w2 w3 w4 w5)), .val (.int (own_wait (own_pick ((pz &&& (2147483647 : Int32)) % (6 : Int32)) w0 w1 w2 w3 w4 w5) w1 w2)), .val (.int (0 : Int32)), .unset] [(.int (1 : Int32)), (.int (own_wait (own_pick ((pz &&& (2147483647 : Int32)) % (6 : Int32)) w0 w1 w2 w3 w4 w5) w1 w2))]))
          refine Run.pre (fun _ k => XS.goto X31.here hx rfl (pc0 := 51) (pc' := 55) rfl (hb hby at_51) (by decide) (by decide) k) ?_
          show Run p e below s _ _ _ (T31.setTop (mkF m 55 #[.val (.int pz), .val (.int ((pz &&& (2147483647 : Int32)) % (6 : Int32))), .val (.ref (own_pick ((pz &&& (2147483647 : Int32)) % (6 : Int32)) w0 w1 w2 w3 w4 w5)), .val (.int (own_wait (own_pick ((pz &&& (2147483647 : Int32)) % (6 : Int32)) w0 w1 w2 w3 w4 w5) w1 w2)), .val (.int (0 : Int32)), .unset] [(.int (1 : Int32)), (.int (own_wait (own_pick ((pz &&& (2147483647 : Int32)) % (6 : Int32)) w0 w1 w2 w3 w4 w5) w1 w2))]))
          exact absurd ((own_plain ((pz &&& (2147483647 : Int32)) % (6 : Int32)) w0 w1 w2 w3 w4 w5 n0_1 n0_2 n1_2 n3_0 n3_1 n3_2 n4_0 n4_1 n4_2 n5_0 n5_1 n5_2).2.1 hc30 ha32 hc19) hc24
      · skip
        refine Run.pre (fun _ k => XS.ifYes X29.here hx rfl (pc0 := 40) (pc' := 54) rfl (hb hby at_40) rfl ((if0 _ _).trans (feq (hc30 : ¬ ((own_fin ((pz &&& (2147483647 : Int32)) % (6 : Int32))) = (0 : Int32)))).2) (by decide) (by decide) k) ?_
        show Run p e below s _ _ _ (T29.setTop (mkF m 54 #[.val (.int pz), .val (.int ((pz &&& (2147483647 : Int32)) % (6 : Int32))), .val (.ref (own_pick ((pz &&& (2147483647 : Int32)) % (6 : Int32)) w0 w1 w2 w3 w4 w5)), .val (.int (own_wait (own_pick ((pz &&& (2147483647 : Int32)) % (6 : Int32)) w0 w1 w2 w3 w4 w5) w1 w2)), .val (.int (0 : Int32)), .unset] [(.int (own_wait (own_pick ((pz &&& (2147483647 : Int32)) % (6 : Int32)) w0 w1 w2 w3 w4 w5) w1 w2))]))
        refine Run.pre (fun _ k => XS.iconst X29.here hx rfl (hb hby at_54) k) ?_
        show Run p e below s _ _ _ (T29.setTop (mkF m 55 #[.val (.int pz), .val (.int ((pz &&& (2147483647 : Int32)) % (6 : Int32))), .val (.ref (own_pick ((pz &&& (2147483647 : Int32)) % (6 : Int32)) w0 w1 w2 w3 w4 w5)), .val (.int (own_wait (own_pick ((pz &&& (2147483647 : Int32)) % (6 : Int32)) w0 w1 w2 w3 w4 w5) w1 w2)), .val (.int (0 : Int32)), .unset] [(.int (0 : Int32)), (.int (own_wait (own_pick ((pz &&& (2147483647 : Int32)) % (6 : Int32)) w0 w1 w2 w3 w4 w5) w1 w2))]))
        refine Run.pre (fun _ k => XS.icmpNo X29.here hx rfl (hb hby at_55) rfl (teq (((own_plain ((pz &&& (2147483647 : Int32)) % (6 : Int32)) w0 w1 w2 w3 w4 w5 n0_1 n0_2 n1_2 n3_0 n3_1 n3_2 n4_0 n4_1 n4_2 n5_0 n5_1 n5_2).1.trans (by simp [hc19, hc24])) : (own_wait (own_pick ((pz &&& (2147483647 : Int32)) % (6 : Int32)) w0 w1 w2 w3 w4 w5) w1 w2) = (0 : Int32))).2 k) ?_
        show Run p e below s _ _ _ (T29.setTop (mkF m 58 #[.val (.int pz), .val (.int ((pz &&& (2147483647 : Int32)) % (6 : Int32))), .val (.ref (own_pick ((pz &&& (2147483647 : Int32)) % (6 : Int32)) w0 w1 w2 w3 w4 w5)), .val (.int (own_wait (own_pick ((pz &&& (2147483647 : Int32)) % (6 : Int32)) w0 w1 w2 w3 w4 w5) w1 w2)), .val (.int (0 : Int32)), .unset] []))
        refine Run.pre (fun _ k => XS.iconst X29.here hx rfl (hb hby at_58) k) ?_
        show Run p e below s _ _ _ (T29.setTop (mkF m 59 #[.val (.int pz), .val (.int ((pz &&& (2147483647 : Int32)) % (6 : Int32))), .val (.ref (own_pick ((pz &&& (2147483647 : Int32)) % (6 : Int32)) w0 w1 w2 w3 w4 w5)), .val (.int (own_wait (own_pick ((pz &&& (2147483647 : Int32)) % (6 : Int32)) w0 w1 w2 w3 w4 w5) w1 w2)), .val (.int (0 : Int32)), .unset] [(.int (1 : Int32))]))
        refine Run.pre (fun _ k => XS.goto X29.here hx rfl (pc0 := 59) (pc' := 63) rfl (hb hby at_59) (by decide) (by decide) k) ?_
        show Run p e below s _ _ _ (T29.setTop (mkF m 63 #[.val (.int pz), .val (.int ((pz &&& (2147483647 : Int32)) % (6 : Int32))), .val (.ref (own_pick ((pz &&& (2147483647 : Int32)) % (6 : Int32)) w0 w1 w2 w3 w4 w5)), .val (.int (own_wait (own_pick ((pz &&& (2147483647 : Int32)) % (6 : Int32)) w0 w1 w2 w3 w4 w5) w1 w2)), .val (.int (0 : Int32)), .unset] [(.int (1 : Int32))]))
        refine Run.pre (fun _ k => XS.istore X29.here hx rfl (hb hby at_63) rfl (l' := #[.val (.int pz), .val (.int ((pz &&& (2147483647 : Int32)) % (6 : Int32))), .val (.ref (own_pick ((pz &&& (2147483647 : Int32)) % (6 : Int32)) w0 w1 w2 w3 w4 w5)), .val (.int (own_wait (own_pick ((pz &&& (2147483647 : Int32)) % (6 : Int32)) w0 w1 w2 w3 w4 w5) w1 w2)), .val (.int (0 : Int32)), .val (.int (1 : Int32))]) rfl k) ?_
        show Run p e below s _ _ _ (T29.setTop (mkF m 65 #[.val (.int pz), .val (.int ((pz &&& (2147483647 : Int32)) % (6 : Int32))), .val (.ref (own_pick ((pz &&& (2147483647 : Int32)) % (6 : Int32)) w0 w1 w2 w3 w4 w5)), .val (.int (own_wait (own_pick ((pz &&& (2147483647 : Int32)) % (6 : Int32)) w0 w1 w2 w3 w4 w5) w1 w2)), .val (.int (0 : Int32)), .val (.int (1 : Int32))] []))
        refine Run.pre (fun _ k => XS.iloadN X29.here hx rfl (hb hby at_65) rfl  k) ?_
        show Run p e below s _ _ _ (T29.setTop (mkF m 66 #[.val (.int pz), .val (.int ((pz &&& (2147483647 : Int32)) % (6 : Int32))), .val (.ref (own_pick ((pz &&& (2147483647 : Int32)) % (6 : Int32)) w0 w1 w2 w3 w4 w5)), .val (.int (own_wait (own_pick ((pz &&& (2147483647 : Int32)) % (6 : Int32)) w0 w1 w2 w3 w4 w5) w1 w2)), .val (.int (0 : Int32)), .val (.int (1 : Int32))] [(.int (own_wait (own_pick ((pz &&& (2147483647 : Int32)) % (6 : Int32)) w0 w1 w2 w3 w4 w5) w1 w2))]))
        refine Run.pre (fun _ k => XS.iload X29.here hx rfl (hb hby at_66) rfl  k) ?_
        show Run p e below s _ _ _ (T29.setTop (mkF m 68 #[.val (.int pz), .val (.int ((pz &&& (2147483647 : Int32)) % (6 : Int32))), .val (.ref (own_pick ((pz &&& (2147483647 : Int32)) % (6 : Int32)) w0 w1 w2 w3 w4 w5)), .val (.int (own_wait (own_pick ((pz &&& (2147483647 : Int32)) % (6 : Int32)) w0 w1 w2 w3 w4 w5) w1 w2)), .val (.int (0 : Int32)), .val (.int (1 : Int32))] [(.int (0 : Int32)), (.int (own_wait (own_pick ((pz &&& (2147483647 : Int32)) % (6 : Int32)) w0 w1 w2 w3 w4 w5) w1 w2))]))
        refine Run.pre (fun _ k => XS.icmpNo X29.here hx rfl (hb hby at_68) rfl (teq (((own_plain ((pz &&& (2147483647 : Int32)) % (6 : Int32)) w0 w1 w2 w3 w4 w5 n0_1 n0_2 n1_2 n3_0 n3_1 n3_2 n4_0 n4_1 n4_2 n5_0 n5_1 n5_2).1.trans (by simp [hc19, hc24])) : (own_wait (own_pick ((pz &&& (2147483647 : Int32)) % (6 : Int32)) w0 w1 w2 w3 w4 w5) w1 w2) = (0 : Int32))).2 k) ?_
        show Run p e below s _ _ _ (T29.setTop (mkF m 71 #[.val (.int pz), .val (.int ((pz &&& (2147483647 : Int32)) % (6 : Int32))), .val (.ref (own_pick ((pz &&& (2147483647 : Int32)) % (6 : Int32)) w0 w1 w2 w3 w4 w5)), .val (.int (own_wait (own_pick ((pz &&& (2147483647 : Int32)) % (6 : Int32)) w0 w1 w2 w3 w4 w5) w1 w2)), .val (.int (0 : Int32)), .val (.int (1 : Int32))] []))
        refine Run.pre (fun _ k => XS.iload X29.here hx rfl (hb hby at_71) rfl  k) ?_
        show Run p e below s _ _ _ (T29.setTop (mkF m 73 #[.val (.int pz), .val (.int ((pz &&& (2147483647 : Int32)) % (6 : Int32))), .val (.ref (own_pick ((pz &&& (2147483647 : Int32)) % (6 : Int32)) w0 w1 w2 w3 w4 w5)), .val (.int (own_wait (own_pick ((pz &&& (2147483647 : Int32)) % (6 : Int32)) w0 w1 w2 w3 w4 w5) w1 w2)), .val (.int (0 : Int32)), .val (.int (1 : Int32))] [(.int (1 : Int32))]))
        refine Run.pre (fun _ k => XS.ifNo X29.here hx rfl (hb hby at_73) rfl ((if0 _ _).trans (feq ((by decide) : ¬ ((1 : Int32) = (0 : Int32)))).1) k) ?_
        show Run p e below s _ _ _ (T29.setTop (mkF m 76 #[.val (.int pz), .val (.int ((pz &&& (2147483647 : Int32)) % (6 : Int32))), .val (.ref (own_pick ((pz &&& (2147483647 : Int32)) % (6 : Int32)) w0 w1 w2 w3 w4 w5)), .val (.int (own_wait (own_pick ((pz &&& (2147483647 : Int32)) % (6 : Int32)) w0 w1 w2 w3 w4 w5) w1 w2)), .val (.int (0 : Int32)), .val (.int (1 : Int32))] []))
        refine Run.pre (fun _ k => XS.iconst X29.here hx rfl (hb hby at_76) k) ?_
        show Run p e below s _ _ _ (T29.setTop (mkF m 77 #[.val (.int pz), .val (.int ((pz &&& (2147483647 : Int32)) % (6 : Int32))), .val (.ref (own_pick ((pz &&& (2147483647 : Int32)) % (6 : Int32)) w0 w1 w2 w3 w4 w5)), .val (.int (own_wait (own_pick ((pz &&& (2147483647 : Int32)) % (6 : Int32)) w0 w1 w2 w3 w4 w5) w1 w2)), .val (.int (0 : Int32)), .val (.int (1 : Int32))] [(.int (1 : Int32))]))
        refine Run.pre (fun _ k => XS.goto X29.here hx rfl (pc0 := 77) (pc' := 81) rfl (hb hby at_77) (by decide) (by decide) k) ?_
        show Run p e below s _ _ _ (T29.setTop (mkF m 81 #[.val (.int pz), .val (.int ((pz &&& (2147483647 : Int32)) % (6 : Int32))), .val (.ref (own_pick ((pz &&& (2147483647 : Int32)) % (6 : Int32)) w0 w1 w2 w3 w4 w5)), .val (.int (own_wait (own_pick ((pz &&& (2147483647 : Int32)) % (6 : Int32)) w0 w1 w2 w3 w4 w5) w1 w2)), .val (.int (0 : Int32)), .val (.int (1 : Int32))] [(.int (1 : Int32))]))
        exact Run.retN X29 hx hret (t := .boolean) (by simp) hlk (hb hby at_81) (by first | (rw [e29]; exact ⟨rfl, N29⟩) | exact ⟨rfl, N29⟩) (by decide) (by decide)
set_option maxRecDepth 65536 in
set_option maxHeartbeats 40000000 in
theorem comes_1 {Post : Tables → Env → Array Value → State → Outcome → State → Prop} (hpost : ∀ tb e args s v u, (limb_1_1.after args s (.returned v) u = true ∧ limb_1_2.after args s (.returned v) u = true ∧ True) → FrameEnd s (.returned v) u (Jvm.fieldLocs frame_1_writes args s ++ Jvm.arrayLocs frame_1_arrays args s ++ Jvm.staticLocs frame_1_statics s) 0 0 → Post tb e args s (.returned v) u) :
    ArmFor flags0 classFile x code maxLocals ret World_1 tables_1 room_1 Calls_1 rest_1 Pre_1 Post := by
  intro l hfl _ _ p e ha hc hk s m args below hf hA hF happ hP
  obtain ⟨hcalls, hrest, hpre⟩ := hP
  obtain ⟨-, -, -, hnamed, -, -, -, hat⟩ := (Spec.applies_iff hf).mp happ
  obtain ⟨hg, hn⟩ := and_e (Cond.before_iff.mp (show (Jvm.Cond.and given_1 narrow_1).before args s = true from hpre))
  obtain ⟨g0, gr0⟩ := and_e hg
  obtain ⟨w0, rfl⟩ : ∃ w0 : Value, args = #[w0] := by
    have hs : args.size = 1 := by simpa [Cond.value, given_1] using g0
    obtain ⟨L⟩ := args
    match L, hs with
    | [w0], _ => exact ⟨w0, rfl⟩
  have hw := fun d (hd : d ∈ tables_1) => atoms_spec (ws := Jvm.Cond.code x code maxLocals ret :: tables_1) hat d (List.mem_cons_of_mem _ hd)
  have hfit : Fit s := own_fit hF
  obtain ⟨i0, ei0⟩ := is_v gr0
  obtain rfl : w0 = (.int i0) := Option.some.inj ei0
  obtain ⟨nn0, nnr0⟩ := and_e hn
  obtain ⟨nn1, nnr1⟩ := and_e nnr0
  obtain ⟨nn2, nnr2⟩ := and_e nnr1
  obtain ⟨nn3, nnr3⟩ := and_e nnr2
  obtain ⟨nn4, nnr4⟩ := and_e nnr3
  obtain ⟨nn5, nnr5⟩ := and_e nnr4
  obtain ⟨nn6, nnr6⟩ := and_e nnr5
  obtain ⟨nn7, nnr7⟩ := and_e nnr6
  obtain ⟨nn8, nnr8⟩ := and_e nnr7
  obtain ⟨nn9, nnr9⟩ := and_e nnr8
  obtain ⟨nn10, nnr10⟩ := and_e nnr9
  obtain ⟨nn11, nnr11⟩ := and_e nnr10
  obtain ⟨nn12, nnr12⟩ := and_e nnr11
  obtain ⟨nn13, nnr13⟩ := and_e nnr12
  obtain ⟨nn14, nnr14⟩ := and_e nnr13
  obtain ⟨nn15, nnr15⟩ := and_e nnr14
  obtain ⟨nn16, nnr16⟩ := and_e nnr15
  obtain ⟨w_PENDING, ev_PENDING⟩ := exa_v nn0
  have S_PENDING := Sta.start ev_PENDING (Or.inr ⟨(hw _ (List.mem_of_getElem? (i := 6) rfl)), (hw _ (List.mem_of_getElem? (i := 7) rfl))⟩)
  have E_PENDING := Exa.start ev_PENDING nn0
  obtain ⟨w_POSTPONED, ev_POSTPONED⟩ := exa_v nn1
  have S_POSTPONED := Sta.start ev_POSTPONED (Or.inr ⟨(hw _ (List.mem_of_getElem? (i := 6) rfl)), (hw _ (List.mem_of_getElem? (i := 14) rfl))⟩)
  have E_POSTPONED := Exa.start ev_POSTPONED nn1
  obtain ⟨w_FALLBACK, ev_FALLBACK⟩ := exa_v nn4
  have S_FALLBACK := Sta.start ev_FALLBACK (Or.inr ⟨(hw _ (List.mem_of_getElem? (i := 6) rfl)), (hw _ (List.mem_of_getElem? (i := 16) rfl))⟩)
  have E_FALLBACK := Exa.start ev_FALLBACK nn4
  obtain ⟨w_FIXED, ev_FIXED⟩ := exa_v nn7
  have S_FIXED := Sta.start ev_FIXED (Or.inr ⟨(hw _ (List.mem_of_getElem? (i := 6) rfl)), (hw _ (List.mem_of_getElem? (i := 25) rfl))⟩)
  have E_FIXED := Exa.start ev_FIXED nn7
  obtain ⟨w_PREVIOUS, ev_PREVIOUS⟩ := exa_v nn12
  have S_PREVIOUS := Sta.start ev_PREVIOUS (Or.inr ⟨(hw _ (List.mem_of_getElem? (i := 6) rfl)), (hw _ (List.mem_of_getElem? (i := 29) rfl))⟩)
  have E_PREVIOUS := Exa.start ev_PREVIOUS nn12
  obtain ⟨w_NO_FIX, ev_NO_FIX⟩ := exa_v nn15
  have S_NO_FIX := Sta.start ev_NO_FIX (Or.inr ⟨(hw _ (List.mem_of_getElem? (i := 6) rfl)), (hw _ (List.mem_of_getElem? (i := 31) rfl))⟩)
  have E_NO_FIX := Exa.start ev_NO_FIX nn15
  have F_PENDING_ordinal := own_fldInt ev_PENDING nn2
  have F_POSTPONED_ordinal := own_fldInt ev_POSTPONED nn3
  have F_FALLBACK_ordinal := own_fldInt ev_FALLBACK nn5
  have F_PENDING_isFinal := own_fldInt ev_PENDING nn6
  have F_FIXED_ordinal := own_fldInt ev_FIXED nn8
  have F_FIXED_isFinal := own_fldInt ev_FIXED nn9
  have F_FALLBACK_isFinal := own_fldInt ev_FALLBACK nn10
  have F_POSTPONED_isFinal := own_fldInt ev_POSTPONED nn11
  have F_PREVIOUS_ordinal := own_fldInt ev_PREVIOUS nn13
  have F_PREVIOUS_isFinal := own_fldInt ev_PREVIOUS nn14
  have F_NO_FIX_ordinal := own_fldInt ev_NO_FIX nn16
  have F_NO_FIX_isFinal := own_fldInt ev_NO_FIX nnr16
  have EP : Exa s s.heap (own_pick ((i0 &&& 2147483647) % 6) w_PENDING w_POSTPONED w_FALLBACK w_FIXED w_NO_FIX w_PREVIOUS) "com/example/panelfix/panelfix/model/Fixing$Status" := by
    unfold own_pick
    repeat' split
    all_goals assumption
  have FP : Fld s s.heap (own_pick ((i0 &&& 2147483647) % 6) w_PENDING w_POSTPONED w_FALLBACK w_FIXED w_NO_FIX w_PREVIOUS) "com/example/panelfix/panelfix/model/Fixing$Status" "isFinal" "Z" (.int (own_fin ((i0 &&& 2147483647) % 6))) := by
    unfold own_pick own_fin
    repeat' split
    all_goals first | assumption | contradiction
  obtain ⟨n, o, h1, h2, h3, _, L, rfl, ⟨rfl, N⟩, hq⟩ := rm0 l s _ hw i0 w_PENDING w_POSTPONED w_FALLBACK w_FIXED w_NO_FIX w_PREVIOUS s.heap s.heap.size (Nat.le_refl _) (Old.start s) S_PENDING S_POSTPONED S_FALLBACK S_FIXED S_NO_FIX S_PREVIOUS EP FP (F_PENDING_ordinal.ne F_POSTPONED_ordinal (by decide)) (F_PENDING_ordinal.ne F_FALLBACK_ordinal (by decide)) (F_POSTPONED_ordinal.ne F_FALLBACK_ordinal (by decide)) (F_FIXED_ordinal.ne F_PENDING_ordinal (by decide)) (F_FIXED_ordinal.ne F_POSTPONED_ordinal (by decide)) (F_FIXED_ordinal.ne F_FALLBACK_ordinal (by decide)) (F_NO_FIX_ordinal.ne F_PENDING_ordinal (by decide)) (F_NO_FIX_ordinal.ne F_POSTPONED_ordinal (by decide)) (F_NO_FIX_ordinal.ne F_FALLBACK_ordinal (by decide)) (F_PREVIOUS_ordinal.ne F_PENDING_ordinal (by decide)) (F_PREVIOUS_ordinal.ne F_POSTPONED_ordinal (by decide)) (F_PREVIOUS_ordinal.ne F_FALLBACK_ordinal (by decide)) tables_1 p e ha hc hk s m _ below hf ((Spec.applies_iff_loose hf).mp happ).1 ⟨rfl, State.Warmed39.refl s, rfl⟩ trivial
  refine ⟨n, _, h1, h2, h3, hpost _ _ _ _ _ _ ⟨Cond.after_iff.mpr rfl, Cond.after_iff.mpr (eq_i res_at (Term.int_eval (1)) rfl), trivial⟩ ⟨hq.1, hq.2.1, (hq.2.2.sift fun y hy => Or.inr (N y hy)).mono (by decide) (by decide)⟩⟩
theorem main_1_1 : Claimed_1_1 := comes_1 fun _ _ _ _ _ _ h hF => ⟨h.1, hF⟩
theorem main_1_2 : Claimed_1_2 := comes_1 fun _ _ _ _ _ _ h hF => ⟨h.2.1, hF⟩
end Jvm.Pilot.@@N@@
namespace Jvm.Pilot.@@N@@
open Jvm Jvm.ClassFile Sem Op Lib Jvm.Free Jvm.Stand Jvm.Pilot.@@N@@.Jvm.D
/-! MADE BY PROGRAM (witnessworld.py) out of the Statement's table words and the real class files: 12 classes; the members and pool entries that the words name. The judged class is class 1, her method 1. -/
namespace start1
open Jvm.ClassFile
def u (s : String) : CpInfo := .utf8 (stringToUtf16 s)
/-- a pool by its gaps: so many unusable entries, then the entry; so many at the end -/
def gap : Nat → List CpInfo → List CpInfo
  | 0, r => r
  | n + 1, r => .unusable :: gap n r
def poolList (es : List (Nat × CpInfo)) (last : Nat) : List CpInfo := es.foldr (fun e r => gap e.1 (e.2 :: r)) (gap last [])
def pool (es : List (Nat × CpInfo)) (last : Nat) : Array CpInfo := ⟨poolList es last⟩
def fileOf (pool : Array CpInfo) (this : Nat) (attrs : Array Attribute := #[]) (ms : Array MethodInfo := #[]) (fl : Nat := 33) (sup : Nat := 0) (ifs : Array Nat := #[]) (fds : Array FieldInfo := #[]) : ClassFile where
  minorVersion := 0
  majorVersion := 65
  constantPool := pool
  accessFlags := fl
  thisClass := this
  superClass := sup
  interfaces := ifs
  fields := fds
  methods := ms
  attributes := attrs
def plain (name : String) (sup : Option ClassId) : Class where
  name := name
  kind := .ordinary
  loader := none
  accessFlags := 33
  super := sup
  interfaces := #[]
  cf := none
  fields := #[]
  methods := #[]
  instanceTypes := #[]
  staticTypes := #[]
  resolved := #[]
  callSites := []
  init := .initialized
  statics := none
  mirror := none

def pool0 : Array CpInfo := pool [(5, u "<init>"), (0, u "()V"), (1, .class_ 10), (1, u "java/lang/Object")] 113

def k0m0 : Method := { name := "<init>", desc := "()V", sig := { parameters := [], returnType := none }, accessFlags := 1, code := none }
/-- java/lang/Object -/
def k0 : Class := { plain "java/lang/Object" none with
  accessFlags := 33
  interfaces := #[]
  cf := some (fileOf pool0 8 #[] #[{ accessFlags := 1, nameIndex := 5, descriptorIndex := 6, attributes := #[] }] 33 0 #[] #[])
  fields := #[]
  methods := #[k0m0]
  instanceTypes := #[]
  staticTypes := #[]
  resolved := Array.replicate 124 none
  statics := none }

def pool1 : Array CpInfo := pool [(2, .class_ 4), (1, u "java/lang/Object"), (0, u "<init>"), (0, u "()V"), (0, .integer 2147483647), (0, .methodref 9 10), (0, .class_ 11), (0, .nameAndType 12 13), (0, u "com/example/panelfix/panelfix/model/StatusIsWaitingPinLaw"), (0, u "pick"), (0, u "(I)Lcom/example/panelfix/panelfix/model/Fixing$Status;"), (0, .methodref 15 16), (0, .class_ 17), (0, .nameAndType 18 19), (0, u "com/example/panelfix/panelfix/model/Fixing$Status"), (0, u "isWaiting"), (0, u "()Z"), (0, .methodref 15 21), (0, .nameAndType 22 19), (0, u "isFinal"), (0, .fieldref 15 24), (0, .nameAndType 25 26), (0, u "PENDING"), (0, u "Lcom/example/panelfix/panelfix/model/Fixing$Status;"), (0, .fieldref 15 28), (0, .nameAndType 29 26), (0, u "POSTPONED"), (0, .fieldref 15 31), (0, .nameAndType 32 26), (0, u "FALLBACK"), (0, .fieldref 15 34), (0, .nameAndType 35 26), (0, u "FIXED"), (0, .fieldref 15 37), (0, .nameAndType 38 26), (0, u "NO_FIX"), (0, .fieldref 15 40), (0, .nameAndType 41 26), (0, u "PREVIOUS"), (2, u "law"), (0, u "(I)Z")] 7

def k1m0 : Method := { name := "<init>", desc := "()V", sig := { parameters := [], returnType := none }, accessFlags := 1, code := none }
def k1c1 : Code := { maxStack := 3, maxLocals := 6, code := code, exceptionTable := #[], attributes := #[] }
def k1m1 : Method := { name := "law", desc := "(I)Z", sig := { parameters := [.int], returnType := some .boolean }, accessFlags := 9, code := some k1c1 }
def k1c2 : Code := { maxStack := 2, maxLocals := 1, code := method_3_code, exceptionTable := #[], attributes := #[] }
def k1m2 : Method := { name := "pick", desc := "(I)Lcom/example/panelfix/panelfix/model/Fixing$Status;", sig := { parameters := [.int], returnType := some (.object "com/example/panelfix/panelfix/model/Fixing$Status") }, accessFlags := 10, code := some k1c2 }
/-- com/example/panelfix/panelfix/model/StatusIsWaitingPinLaw -/
def k1 : Class := { plain "com/example/panelfix/panelfix/model/StatusIsWaitingPinLaw" (some 0) with
  accessFlags := 49
  interfaces := #[]
  cf := some (fileOf pool1 9 #[] #[{ accessFlags := 1, nameIndex := 5, descriptorIndex := 6, attributes := #[] }, { accessFlags := 9, nameIndex := 44, descriptorIndex := 45, attributes := #[] }, { accessFlags := 10, nameIndex := 12, descriptorIndex := 13, attributes := #[] }] 49 2 #[] #[])
  fields := #[]
  methods := #[k1m0, k1m1, k1m2]
  instanceTypes := #[]
  staticTypes := #[]
  resolved := Array.replicate 53 none
  statics := none }

def pool2 : Array CpInfo := pool [(1, .class_ 2), (0, u "java/lang/constant/Constable"), (0, .class_ 4), (0, u "java/lang/Object")] 6

/-- java/lang/constant/Constable -/
def k2 : Class := { plain "java/lang/constant/Constable" (some 0) with
  accessFlags := 1537
  interfaces := #[]
  cf := some (fileOf pool2 1 #[] #[] 1537 3 #[] #[])
  fields := #[]
  methods := #[]
  instanceTypes := #[]
  staticTypes := #[]
  resolved := Array.replicate 11 none
  statics := none }

def pool3 : Array CpInfo := pool [(1, .class_ 2), (0, u "java/lang/Comparable"), (0, .class_ 4), (0, u "java/lang/Object")] 7

/-- java/lang/Comparable -/
def k3 : Class := { plain "java/lang/Comparable" (some 0) with
  accessFlags := 1537
  interfaces := #[]
  cf := some (fileOf pool3 1 #[] #[] 1537 3 #[] #[])
  fields := #[]
  methods := #[]
  instanceTypes := #[]
  staticTypes := #[]
  resolved := Array.replicate 12 none
  statics := none }

def pool4 : Array CpInfo := pool [(1, .class_ 2), (0, u "java/io/Serializable"), (0, .class_ 4), (0, u "java/lang/Object")] 2

/-- java/io/Serializable -/
def k4 : Class := { plain "java/io/Serializable" (some 0) with
  accessFlags := 1537
  interfaces := #[]
  cf := some (fileOf pool4 1 #[] #[] 1537 3 #[] #[])
  fields := #[]
  methods := #[]
  instanceTypes := #[]
  staticTypes := #[]
  resolved := Array.replicate 7 none
  statics := none }

def pool5 : Array CpInfo := pool [(2, .class_ 4), (1, u "java/lang/Enum"), (0, u "name"), (0, u "Ljava/lang/String;"), (2, u "ordinal"), (0, u "I"), (1, .class_ 14), (1, u "java/lang/Object"), (4, u "hash"), (86, .class_ 108), (1, u "java/lang/Enum$EnumDesc"), (2, .class_ 112), (0, u "java/lang/constant/Constable"), (0, .class_ 114), (0, u "java/lang/Comparable"), (0, .class_ 116), (0, u "java/io/Serializable")] 87

/-- java/lang/Enum -/
def k5 : Class := { plain "java/lang/Enum" (some 0) with
  accessFlags := 1057
  interfaces := #[2, 3, 4]
  cf := some (fileOf pool5 2 #[.nestMembers #[106]] #[] 1057 12 #[111, 113, 115] #[{ accessFlags := 18, nameIndex := 5, descriptorIndex := 6, attributes := #[] }, { accessFlags := 18, nameIndex := 9, descriptorIndex := 10, attributes := #[] }, { accessFlags := 2, nameIndex := 19, descriptorIndex := 10, attributes := #[] }])
  fields := #[{ name := "name", type := (.object "java/lang/String"), accessFlags := 18, slot := 0, constantValue := 0 }, { name := "ordinal", type := .int, accessFlags := 18, slot := 1, constantValue := 0 }, { name := "hash", type := .int, accessFlags := 2, slot := 2, constantValue := 0 }]
  methods := #[]
  instanceTypes := #[(.object "java/lang/String"), .int, .int]
  staticTypes := #[]
  resolved := Array.replicate 204 none
  statics := none }

def pool6 : Array CpInfo := pool [(1, .class_ 2), (0, u "com/example/panelfix/panelfix/model/Fixing$Status"), (2, u "PENDING"), (0, u "Lcom/example/panelfix/panelfix/model/Fixing$Status;"), (0, .fieldref 1 8), (0, .nameAndType 9 6), (0, u "POSTPONED"), (0, .fieldref 1 11), (0, .nameAndType 12 6), (0, u "FALLBACK"), (2, u "FIXED"), (2, u "NO_FIX"), (2, u "PREVIOUS"), (2, u "$VALUES"), (0, u "[Lcom/example/panelfix/panelfix/model/Fixing$Status;"), (6, .class_ 34), (1, u "java/lang/Enum"), (6, .fieldref 1 42), (0, .nameAndType 43 44), (0, u "isFinal"), (0, u "Z"), (46, u "()Z"), (0, u "isWaiting"), (6, .class_ 100), (0, u "com/example/panelfix/panelfix/model/Fixing")] 2

def k6c0 : Code := { maxStack := 1, maxLocals := 1, code := prog_39_method_5_code, exceptionTable := #[], attributes := #[] }
def k6m0 : Method := { name := "isFinal", desc := "()Z", sig := { parameters := [], returnType := some .boolean }, accessFlags := 1, code := some k6c0 }
def k6c1 : Code := { maxStack := 2, maxLocals := 1, code := prog_39_method_6_code, exceptionTable := #[], attributes := #[] }
def k6m1 : Method := { name := "isWaiting", desc := "()Z", sig := { parameters := [], returnType := some .boolean }, accessFlags := 1, code := some k6c1 }
/-- com/example/panelfix/panelfix/model/Fixing$Status -/
def k6 : Class := { plain "com/example/panelfix/panelfix/model/Fixing$Status" (some 5) with
  accessFlags := 16433
  interfaces := #[]
  cf := some (fileOf pool6 1 #[.nestHost 99] #[{ accessFlags := 1, nameIndex := 43, descriptorIndex := 91, attributes := #[] }, { accessFlags := 1, nameIndex := 92, descriptorIndex := 91, attributes := #[] }] 16433 32 #[] #[{ accessFlags := 16409, nameIndex := 5, descriptorIndex := 6, attributes := #[] }, { accessFlags := 16409, nameIndex := 9, descriptorIndex := 6, attributes := #[] }, { accessFlags := 16409, nameIndex := 12, descriptorIndex := 6, attributes := #[] }, { accessFlags := 16409, nameIndex := 15, descriptorIndex := 6, attributes := #[] }, { accessFlags := 16409, nameIndex := 18, descriptorIndex := 6, attributes := #[] }, { accessFlags := 16409, nameIndex := 21, descriptorIndex := 6, attributes := #[] }, { accessFlags := 18, nameIndex := 43, descriptorIndex := 44, attributes := #[] }, { accessFlags := 4122, nameIndex := 24, descriptorIndex := 25, attributes := #[] }])
  fields := #[{ name := "PENDING", type := (.object "com/example/panelfix/panelfix/model/Fixing$Status"), accessFlags := 16409, slot := 0, constantValue := 0 }, { name := "POSTPONED", type := (.object "com/example/panelfix/panelfix/model/Fixing$Status"), accessFlags := 16409, slot := 1, constantValue := 0 }, { name := "FALLBACK", type := (.object "com/example/panelfix/panelfix/model/Fixing$Status"), accessFlags := 16409, slot := 2, constantValue := 0 }, { name := "FIXED", type := (.object "com/example/panelfix/panelfix/model/Fixing$Status"), accessFlags := 16409, slot := 3, constantValue := 0 }, { name := "NO_FIX", type := (.object "com/example/panelfix/panelfix/model/Fixing$Status"), accessFlags := 16409, slot := 4, constantValue := 0 }, { name := "PREVIOUS", type := (.object "com/example/panelfix/panelfix/model/Fixing$Status"), accessFlags := 16409, slot := 5, constantValue := 0 }, { name := "isFinal", type := .boolean, accessFlags := 18, slot := 3, constantValue := 0 }, { name := "$VALUES", type := (.array (.object "com/example/panelfix/panelfix/model/Fixing$Status")), accessFlags := 4122, slot := 6, constantValue := 0 }]
  methods := #[k6m0, k6m1]
  instanceTypes := #[(.object "java/lang/String"), .int, .int, .boolean]
  staticTypes := #[(.object "com/example/panelfix/panelfix/model/Fixing$Status"), (.object "com/example/panelfix/panelfix/model/Fixing$Status"), (.object "com/example/panelfix/panelfix/model/Fixing$Status"), (.object "com/example/panelfix/panelfix/model/Fixing$Status"), (.object "com/example/panelfix/panelfix/model/Fixing$Status"), (.object "com/example/panelfix/panelfix/model/Fixing$Status"), (.array (.object "com/example/panelfix/panelfix/model/Fixing$Status"))]
  resolved := Array.replicate 103 none
  statics := some 0 }

def pool7 : Array CpInfo := pool [(1, u "java/lang/Cloneable"), (0, .class_ 1), (0, u "java/lang/Object"), (0, .class_ 3)] 3

/-- java/lang/Cloneable -/
def k7 : Class := { plain "java/lang/Cloneable" (some 0) with
  accessFlags := 1537
  interfaces := #[]
  cf := some (fileOf pool7 2 #[] #[] 1537 4 #[] #[])
  fields := #[]
  methods := #[]
  instanceTypes := #[]
  staticTypes := #[]
  resolved := Array.replicate 8 none
  statics := none }

/-- the primitive byte -/
def k8 : Class := { plain "byte" none with kind := .primitive 'B', accessFlags := 0x411 }
/-- [B -/
def k9 : Class := { plain "[B" (some 0) with kind := .array 8 .byte, interfaces := #[7, 4], accessFlags := 1041 }

/-- the primitive int -/
def k10 : Class := { plain "int" none with kind := .primitive 'I', accessFlags := 0x411 }
/-- [I -/
def k11 : Class := { plain "[I" (some 0) with kind := .array 10 .int, interfaces := #[7, 4], accessFlags := 1041 }

def heap : Heap := #[{ cls := 6, slots := #[.ref 1, .ref 2, .ref 3, .ref 4, .ref 5, .ref 6, .null], vm := .statics 6 },
  { cls := 6, slots := #[.null, .int 0, .int 0, .int 0], vm := .none },
  { cls := 6, slots := #[.null, .int 1, .int 0, .int 0], vm := .none },
  { cls := 6, slots := #[.null, .int 2, .int 0, .int 0], vm := .none },
  { cls := 6, slots := #[.null, .int 3, .int 0, .int 1], vm := .none },
  { cls := 6, slots := #[.null, .int 4, .int 0, .int 1], vm := .none },
  { cls := 6, slots := #[.null, .int 5, .int 0, .int 1], vm := .none }]
def classes : Array Class := #[k0, k1, k2, k3, k4, k5, k6, k7, k8, k9, k10, k11]
def interned : List (Array UInt16 × Addr) := []
def slotsUsed : Nat := 31
def theMethod : MethodId := ⟨1, 1⟩
def args0 : Array Value := #[.int 5]
def aboutOver (below : List Frame) : State where
  vm := { classes := classes, interned := interned.toArray }
  heap := heap
  slotsUsed := slotsUsed
  threads := #[{ frames := .invoking theMethod args0 :: below }]
def below0 : List Frame := [.native { method := ⟨0, 0⟩, args := #[] }]
def about1 : State := aboutOver below0
def p0 : Program := .bare "" "" ""
def e0 : Env := launch0.env 0 0 0
theorem w_frames : about1.frames = Frame.invoking theMethod args0 :: below0 := rfl
set_option maxRecDepth 65536 in
theorem w_args : argsFit about1.vm theMethod args0 = true := by decide +kernel
set_option maxRecDepth 65536 in
theorem w_heap : heapFits about1 = true := by decide +kernel
set_option maxRecDepth 65536 in
theorem w_runnable : about1.curStatus? = some .runnable := by decide +kernel
set_option maxRecDepth 65536 in
theorem w_alone : about1.alone = true := by decide +kernel
set_option maxRecDepth 65536 in
theorem w_named : about1.methodNamed? x = some theMethod := by decide +kernel
set_option maxRecDepth 65536 in
theorem w_hears : about1.hears theMethod below0 = true := by decide +kernel
set_option maxRecDepth 65536 in
theorem w_ripe : about1.ripe theMethod args0 below0 = true := by decide +kernel
theorem w_running : about1.status = .running := rfl
set_option maxRecDepth 65536 in
theorem w_room : about1.hasRoom e0.platform room_1 = true :=
  launch0.hasRoom_least _ room_1 (by decide +kernel) (by decide +kernel) (by decide +kernel) (by decide +kernel) (by decide +kernel) (by decide +kernel)
theorem allAtoms_all (ts : List Jvm.Cond) (a : Array Jvm.Value) (st : Jvm.State) : (allAtoms ts).before a st = ts.all (fun c => c.before a st) := by
  induction ts with
  | nil => rfl
  | cons c t ih =>
    show (Jvm.Cond.and c (allAtoms t)).before a st = _
    rw [Jvm.Cond.before_and, ih, List.all_cons]
def words1 : List Jvm.Cond := Jvm.Cond.code x code maxLocals ret :: tables_1
/-- a 'code' word, met by the world's own term for the bytes: nothing is compared byte by byte -/
theorem code_word {y : MethodName} {bytes : ByteArray} {mx : Nat} {rt : Option FieldType} {a : Array Value} {s : State} {m : MethodId} {meth : Method} {c : Code} (h1 : s.methodNamed? y = some m) (h2 : s.vm.method? m = some meth) (h3 : meth.code = some c) (h4 : c.code = bytes)
    (h5 : (c.maxLocals == mx && c.exceptionTable.isEmpty && decide (c.maxStack ≤ mostOperands) && decide (meth.sig.returnType = rt) && !meth.locks && decide (parseMethodDescriptor y.desc = some meth.sig)) = true) : (Jvm.Cond.code y bytes mx rt).before a s = true := by
  simp only [Bool.and_eq_true, beq_iff_eq, Bool.not_eq_true', decide_eq_true_eq] at h5
  obtain ⟨⟨⟨⟨⟨g1, g2⟩, g3⟩, g4⟩, g5⟩, g6⟩ := h5
  simp [Cond.before, Cond.holds, Cond.value, h1, h2, h3, h4, g1, g2, g3, g4, g5, g6]
def isCode : Jvm.Cond → Bool
  | .code _ _ _ _ => true
  | _ => false
theorem all_split {L : List Jvm.Cond} {P : Jvm.Cond → Bool} (h1 : L.all (fun c => isCode c || P c) = true) (h2 : ∀ c ∈ L.filter isCode, P c = true) : L.all P = true := by
  refine List.all_eq_true.mpr fun c hc => ?_
  have h := List.all_eq_true.mp h1 c hc
  rcases Bool.eq_false_or_eq_true (isCode c) with hi | hi
  · exact h2 c (List.mem_filter.mpr ⟨hc, hi⟩)
  · simpa [hi] using h
set_option maxRecDepth 65536 in
theorem w_c0 : (Jvm.Cond.code x code maxLocals ret).before args0 about1 = true := code_word (m := ⟨1, 1⟩) (meth := k1m1) (c := k1c1) (by decide +kernel) rfl rfl rfl (by decide +kernel)
set_option maxRecDepth 65536 in
theorem w_c1 : (Jvm.Cond.code ({ cls := "com/example/panelfix/panelfix/model/StatusIsWaitingPinLaw", name := "pick", desc := "(I)Lcom/example/panelfix/panelfix/model/Fixing$Status;" } : Jvm.MethodName) method_3_code (1 : Nat) (Option.some (Jvm.ClassFile.FieldType.object "com/example/panelfix/panelfix/model/Fixing$Status"))).before args0 about1 = true := code_word (m := ⟨1, 2⟩) (meth := k1m2) (c := k1c2) (by decide +kernel) rfl rfl rfl (by decide +kernel)
set_option maxRecDepth 65536 in
theorem w_c2 : (Jvm.Cond.code ({ cls := "com/example/panelfix/panelfix/model/Fixing$Status", name := "isWaiting", desc := "()Z" } : Jvm.MethodName) prog_39_method_6_code (1 : Nat) (Option.some Jvm.ClassFile.FieldType.boolean)).before args0 about1 = true := code_word (m := ⟨6, 1⟩) (meth := k6m1) (c := k6c1) (by decide +kernel) rfl rfl rfl (by decide +kernel)
set_option maxRecDepth 65536 in
theorem w_c3 : (Jvm.Cond.code ({ cls := "com/example/panelfix/panelfix/model/Fixing$Status", name := "isFinal", desc := "()Z" } : Jvm.MethodName) prog_39_method_5_code (1 : Nat) (Option.some Jvm.ClassFile.FieldType.boolean)).before args0 about1 = true := code_word (m := ⟨6, 0⟩) (meth := k6m0) (c := k6c0) (by decide +kernel) rfl rfl rfl (by decide +kernel)
def codes1 : List Jvm.Cond := [Jvm.Cond.code x code maxLocals ret, Jvm.Cond.code ({ cls := "com/example/panelfix/panelfix/model/StatusIsWaitingPinLaw", name := "pick", desc := "(I)Lcom/example/panelfix/panelfix/model/Fixing$Status;" } : Jvm.MethodName) method_3_code (1 : Nat) (Option.some (Jvm.ClassFile.FieldType.object "com/example/panelfix/panelfix/model/Fixing$Status")), Jvm.Cond.code ({ cls := "com/example/panelfix/panelfix/model/Fixing$Status", name := "isWaiting", desc := "()Z" } : Jvm.MethodName) prog_39_method_6_code (1 : Nat) (Option.some Jvm.ClassFile.FieldType.boolean), Jvm.Cond.code ({ cls := "com/example/panelfix/panelfix/model/Fixing$Status", name := "isFinal", desc := "()Z" } : Jvm.MethodName) prog_39_method_5_code (1 : Nat) (Option.some Jvm.ClassFile.FieldType.boolean)]
set_option maxRecDepth 65536 in
theorem codes_eq : words1.filter isCode = codes1 := rfl
theorem w_codes : ∀ c ∈ words1.filter isCode, c.before args0 about1 = true := by
  rw [codes_eq]
  intro c hc
  simp only [codes1, List.mem_cons, List.not_mem_nil, or_false] at hc
  rcases hc with rfl | rfl | rfl | rfl
  · exact w_c0
  · exact w_c1
  · exact w_c2
  · exact w_c3
set_option maxRecDepth 65536 in
theorem w_t1 : (words1.take 24).all (fun c => isCode c || c.before args0 about1) = true := by decide +kernel
set_option maxRecDepth 65536 in
theorem w_t2 : (words1.drop 24).all (fun c => isCode c || c.before args0 about1) = true := by decide +kernel
theorem w_tables : (allAtoms (Jvm.Cond.code x code maxLocals ret :: tables_1)).before args0 about1 = true := by
  rw [allAtoms_all]
  show words1.all (fun c => c.before args0 about1) = true
  refine all_split ?_ w_codes
  rw [← List.take_append_drop 24 words1, List.all_append, w_t1, w_t2]
  rfl
set_option maxRecDepth 65536 in
theorem w_case : (Jvm.Cond.and given_1 narrow_1).before args0 about1 = true := by decide +kernel
theorem w_applies : (headSpec (Jvm.Cond.code x code maxLocals ret :: tables_1) room_1).applies x e0.platform about1 = true :=
  (Spec.applies_iff w_frames).mpr ⟨w_running, w_runnable, w_alone, w_named, w_hears, w_ripe, w_room, w_tables⟩
theorem atStart : AtStart classFile x code maxLocals ret World_1 tables_1 room_1 Calls_1 rest_1 Pre_1 launch0 p0 e0 about1 theMethod args0 below0 :=
  ⟨lists_1, trivial, launch0.admits_env _ _ _, launch0.least_env, fairChoices_fair.cas, fairChoices_fair.clock, w_frames, w_args, w_heap, w_applies, trivial, trivial, w_case⟩
end start1
theorem witness_1 : WitnessClaimed_1 := ⟨start1.p0, start1.e0, start1.about1, start1.theMethod, start1.args0, start1.below0, start1.atStart⟩
end Jvm.Pilot.@@N@@
