import JvmDerived
import JvmDerived.Pilot.@@N@@Statement
import JvmDerived.Pilot.@@N@@Code
set_option linter.unusedVariables false
set_option linter.unusedSimpArgs false
namespace Jvm.Pilot.@@N@@
open Jvm Jvm.ClassFile Sem Op Lib Jvm.Free Jvm.Stand Jvm.LawKit Jvm.RoadKit Bundle Jvm.Pilot.@@N@@.Jvm.D
section Own
variable {p : Program} {l : Launch} {e : Env} {R : Room} {s : State} {m : MethodId} {args : Array Value} {below : List Frame} {meth : Method} {c : Code} {T : State} {locs : List Loc} {cells slots : Nat} {Z : State} {a0 : Array Value} {h : Heap}
/-- from the state S the body ends well: it returns v, leaves the heap and the written places as Q says, within kc cells and ks slots -/
def Run (p : Program) (e : Env) (below : List Frame) (s : State) (Q : Option Value → Heap → List Loc → Prop) (kc ks : Nat) (S : State) : Prop := ∃ s₂ o, Steps p.tables e below S s₂ ∧ s₂.status = .running ∧ Ended s₂ below o ∧ ∃ v L, o = .returned v ∧ Q v s₂.heap L ∧ FrameEnd s o s₂ L kc ks
variable {Q : Option Value → Heap → List Loc → Prop} {kc ks : Nat}
theorem Run.pre {S S' : State} (h : ∀ t, Steps p.tables e below S' t → Steps p.tables e below S t) (k : Run p e below s Q kc ks S') : Run p e below s Q kc ks S := by
  obtain ⟨s₂, o, h1, r⟩ := k; exact ⟨s₂, o, h _ h1, r⟩
theorem Run.out (X : Stand p l e R s m args below meth c T locs cells slots) (hx : p.tables.exec = Jvm.exec) {pc : Nat} {Ls : Array Slot} {w : Value} {t : FieldType} {i : Instr} {rest : List Value} (hret : meth.sig.returnType = some t) (hn : narrow t w = w)
    (hi : (i = .ireturn ∧ (t = .int ∨ t = .boolean ∨ t = .byte ∨ t = .char ∨ t = .short) ∧ ∃ z, w = .int z) ∨ (i = .lreturn ∧ t = .long ∧ ∃ z, w = .long z) ∨ (i = .dreturn ∧ t = .double ∧ ∃ z, w = .double z) ∨ (i = .freturn ∧ t = .float ∧ ∃ z, w = .float z) ∨ (i = .areturn ∧ t.isReference = true ∧ w.isRef = true))
    (hlk : meth.locks = false) (hd : decode c.code pc = .ok (i, 1)) (hq : Q (some w) T.heap locs) (hc : cells ≤ kc) (hs : slots ≤ ks) : Run p e below s Q kc ks (T.setTop (mkF m pc Ls (w :: rest))) := by
  obtain ⟨fs, hr, hrun, hended, hW, hsame⟩ := X.leave (v := some w) (fun h => by rw [hret] at h; cases h) hlk
  exact ⟨_, _, retOut X hx hret hn hi hd hr, hrun, hended, _, _, rfl, hq, ⟨_, rfl⟩, hW, hsame.mono hc hs⟩
theorem Run.retN (X : Stand p l e R s m args below meth c T locs cells slots) (hx : p.tables.exec = Jvm.exec) {pc : Nat} {Ls : Array Slot} {z : Int32} {t : FieldType} {rest : List Value} (hret : meth.sig.returnType = some t) (ht : t = .boolean ∨ t = .byte ∨ t = .char ∨ t = .short) (hlk : meth.locks = false)
    (hd : decode c.code pc = .ok (.ireturn, 1)) (hq : Q (some (.int (nar t z))) T.heap locs) (hc : cells ≤ kc) (hs : slots ≤ ks) : Run p e below s Q kc ks (T.setTop (mkF m pc Ls (.int z :: rest))) := by
  obtain ⟨fs, hr, hrun, hended, hW, hsame⟩ := X.leave (v := some (.int (nar t z))) (fun h => by rw [hret] at h; cases h) hlk
  exact ⟨_, _, Jvm.RoadKit.retN X hx hret ht hd hr, hrun, hended, _, _, rfl, hq, ⟨_, rfl⟩, hW, hsame.mono hc hs⟩
theorem Run.retI (X : Stand p l e R s m args below meth c T locs cells slots) (hx : p.tables.exec = Jvm.exec) {pc : Nat} {Ls : Array Slot} {z : Int32} {rest : List Value} (hret : meth.sig.returnType = some .int) (hlk : meth.locks = false)
    (hd : decode c.code pc = .ok (.ireturn, 1)) (hq : Q (some (.int z)) T.heap locs) (hc : cells ≤ kc) (hs : slots ≤ ks) : Run p e below s Q kc ks (T.setTop (mkF m pc Ls (.int z :: rest))) := Run.out X hx hret rfl (Or.inl ⟨rfl, Or.inl rfl, z, rfl⟩) hlk hd hq hc hs
theorem Run.retJ (X : Stand p l e R s m args below meth c T locs cells slots) (hx : p.tables.exec = Jvm.exec) {pc : Nat} {Ls : Array Slot} {z : Int64} {rest : List Value} (hret : meth.sig.returnType = some .long) (hlk : meth.locks = false)
    (hd : decode c.code pc = .ok (.lreturn, 1)) (hq : Q (some (.long z)) T.heap locs) (hc : cells ≤ kc) (hs : slots ≤ ks) : Run p e below s Q kc ks (T.setTop (mkF m pc Ls (.long z :: rest))) := Run.out X hx hret rfl (Or.inr (Or.inl ⟨rfl, rfl, z, rfl⟩)) hlk hd hq hc hs
theorem Run.retA (X : Stand p l e R s m args below meth c T locs cells slots) (hx : p.tables.exec = Jvm.exec) {pc : Nat} {Ls : Array Slot} {w : Value} {t : FieldType} {rest : List Value} (hret : meth.sig.returnType = some t) (ht : t.isReference = true) (hw : w.isRef = true) (hlk : meth.locks = false)
    (hd : decode c.code pc = .ok (.areturn, 1)) (hq : Q (some w) T.heap locs) (hc : cells ≤ kc) (hs : slots ≤ ks) : Run p e below s Q kc ks (T.setTop (mkF m pc Ls (w :: rest))) := Run.out X hx hret (by cases t <;> cases w <;> simp_all [FieldType.isReference, Value.isRef, narrow]) (Or.inr (Or.inr (Or.inr (Or.inr ⟨rfl, ht, hw⟩)))) hlk hd hq hc hs
theorem Run.retV (X : Stand p l e R s m args below meth c T locs cells slots) (hx : p.tables.exec = Jvm.exec) {pc : Nat} {Ls : Array Slot} (hret : meth.sig.returnType = none) (hlk : meth.locks = false)
    (hd : decode c.code pc = .ok (.return_, 1)) (hq : Q none T.heap locs) (hc : cells ≤ kc) (hs : slots ≤ ks) : Run p e below s Q kc ks (T.setTop (mkF m pc Ls [])) := by
  obtain ⟨fs, hr, hrun, hended, hW, hsame⟩ := X.leave (v := none) (fun _ => rfl) hlk
  exact ⟨_, _, X.returnOut hx hret hd hr, hrun, hended, _, _, rfl, hq, ⟨_, rfl⟩, hW, hsame.mono hc hs⟩
/-- a body's contract, at the heap h0 and the arguments as' -/
def Con (l : Launch) (y : MethodName) (bytes : ByteArray) (maxL : Nat) (ret : Option FieldType) (rm : Room) (Z : State) (as' : Array Value) (h0 : Heap) (Q : Option Value → Heap → List Loc → Prop) : Prop :=
  ∀ ws, MetFree l y (head1 (Jvm.Cond.code y bytes maxL ret :: ws) rm) (fun a U => a = as' ∧ Z.Warmed39 U.vm ∧ U.heap = h0) (fun _ _ _ _ _ => True) (fun _ U o U' => ∃ v L, o = .returned v ∧ Q v U'.heap L ∧ FrameEnd U o U' L rm.cells rm.slots)
theorem Con.mk {y : MethodName} {bytes : ByteArray} {maxL : Nat} {ret : Option FieldType} {rm : Room} {as' : Array Value} {h0 : Heap} {F : MethodId → JFrame} (hpl : plainFor y = true) (hef : ∀ m, entryFrame m as' maxL = F m)
    (body : ∀ (p : Program) (e : Env) (s : State) (m : MethodId) (below : List Frame) (meth : Method) (c : Code) (s₁ : State), p.tables.exec = Jvm.exec → c.code = bytes → c.maxLocals = maxL → s.vm.findClass y.cls = some m.cls → meth.name = y.name → meth.sig.returnType = ret → meth.locks = false → Z.Warmed39 s.vm →
      Stand p l e rm s m as' below meth c s₁ [] 0 0 → s₁.heap = h0 → Run p e below s Q rm.cells rm.slots (s₁.setTop (F m))) : Con l y bytes maxL ret rm Z as' h0 Q := by
  intro ws
  refine MetFree.of_bodySF hpl hisR ?_
  intro p e s m args below meth c s₁ Bd hml0 hP hK
  obtain ⟨rfl, hZ, hh⟩ := hP
  have k := body p e s m below meth c s₁ Bd.exec Bd.bytes hml0 (findClass_of_methodNamed Bd.named) (name_of_methodNamed Bd.named Bd.method).1 Bd.returns Bd.notSynchronized hZ (Stand.of_body Bd) (by rw [← hh, Bd.state]; rfl)
  rw [← hef m] at k
  exact k
theorem Con.back {y : MethodName} {bytes : ByteArray} {maxL : Nat} {ret : Option FieldType} {rm : Room} {len W : Nat} {as' : Array Value} (hM : Con l y bytes maxL ret rm Z as' h Q) (hZ : Z.Warmed39 s.vm) (wc : (Jvm.Cond.code y bytes maxL ret).before a0 Z = true) (wz : (Jvm.Cond.initialized y.cls).before a0 Z = true) (hf : rm.frames + 1 ≤ R.frames) (hl : W + (maxL + 11) + rm.locals ≤ R.locals) :
    Back l R p e below s args y len W (fun A a => a = as' ∧ A.U.heap = h ∧ A.cells + rm.cells ≤ R.cells ∧ A.slots + rm.slots ≤ R.slots) (fun A _ v B => ∃ L, Q v B.U.heap L ∧ B.locs = A.locs ++ L ∧ B.cells = A.cells + rm.cells ∧ B.slots = A.slots + rm.slots) :=
  backOf (hM []) hZ wc wz hf hl
section Calls
variable {y : MethodName} {bytes : ByteArray} {maxL : Nat} {rt : Option FieldType} {rm : Room} {W : Nat} {own : String} {index : Nat} {Qc : Option Value → Heap → List Loc → Prop} {g : JFrame} {argsL rest : List Value} {as' : Array Value}
theorem Run.callS (X : Stand p l e R s m args below meth c T locs cells slots) (hx : p.tables.exec = Jvm.exec) (hZ : Z.Warmed39 s.vm) (hown : s.vm.findClass own = some m.cls) (w1 : (Jvm.Cond.methodLink own index y).before a0 Z = true) (w2 : (Jvm.Cond.static y).before a0 Z = true) (w3 : (Jvm.Cond.initialized y.cls).before a0 Z = true) (w4 : (Jvm.Cond.code y bytes maxL rt).before a0 Z = true)
    (hy : y.cls ≠ "java/lang/invoke/MethodHandle" ∧ y.cls ≠ "java/lang/invoke/VarHandle") (hM : Con l y bytes maxL rt rm Z argsL.toArray h Qc) (eT : T.heap = h) (hfr : rm.frames + 1 ≤ R.frames) (hlo : W + (maxL + 11) + rm.locals ≤ R.locals) (hce : cells + rm.cells ≤ R.cells) (hsl : slots + rm.slots ≤ R.slots)
    (hg : g.method = m) (hsize : g.locals.size = c.maxLocals) (hlen : ∀ sig, parseMethodDescriptor y.desc = some sig → argsL.length = sig.parameters.length) (hstack : g.stack = argsL.reverse ++ rest) (hW : 2 * g.monitorRoom + (rest.map fun v => v.category).sum ≤ W) (hdg : decode c.code g.pc = .ok (.invokestatic index, 3))
    (k : ∀ v T' L, Stand p l e R s m args below meth c T' (locs ++ L) (cells + rm.cells) (slots + rm.slots) → Qc v T'.heap L → Run p e below s Q kc ks (T'.setTop { g with pc := g.pc + 3, stack := v.toList ++ rest })) : Run p e below s Q kc ks (T.setTop g) := by
  obtain ⟨v, vm₁, ⟨T', L', c', n'⟩, -, X', ⟨L, hQ, l1, l2, l3⟩, st⟩ := Jvm.LawKit.callS X hx hown (mvT hZ w1) (mvT hZ w2) (mvT hZ w3) (mvT hZ w4) hy (hM.back (W := W) hZ w4 w3 hfr hlo) hg hsize hlen hstack hW hdg (fun _ _ => ⟨rfl, eT, hce, hsl⟩)
  dsimp only [Pt.U, Pt.locs, Pt.cells, Pt.slots] at X' l1 l2 l3 st hQ
  subst l1 l2 l3
  exact Run.pre st (k v T' L X' hQ)
theorem Run.callI (X : Stand p l e R s m args below meth c T locs cells slots) (hx : p.tables.exec = Jvm.exec) (hZ : Z.Warmed39 s.vm) (hy1 : y.name = "<init>") (hown : s.vm.findClass own = some m.cls) (w1 : (Jvm.Cond.methodLink own index y).before a0 Z = true) (w2 : (Jvm.Cond.instanceMethod y).before a0 Z = true) (w4 : (Jvm.Cond.code y bytes maxL none).before a0 Z = true) (w3 : (Jvm.Cond.initialized y.cls).before a0 Z = true)
    (hy : y.cls ≠ "java/lang/invoke/MethodHandle" ∧ y.cls ≠ "java/lang/invoke/VarHandle") {a : Addr} (hM : Con l y bytes maxL none rm Z (.ref a :: argsL).toArray h Qc) (eT : T.heap = h) (hfr : rm.frames + 1 ≤ R.frames) (hlo : W + (maxL + 11) + rm.locals ≤ R.locals) (hce : cells + rm.cells ≤ R.cells) (hsl : slots + rm.slots ≤ R.slots)
    (hg : g.method = m) (hsize : g.locals.size = c.maxLocals) (hlen : ∀ sig, parseMethodDescriptor y.desc = some sig → argsL.length = sig.parameters.length) (hstack : g.stack = argsL.reverse ++ .ref a :: rest) (hW : 2 * g.monitorRoom + (rest.map fun v => v.category).sum ≤ W) (hdg : decode c.code g.pc = .ok (.invokespecial index, 3))
    (k : ∀ v T' L, Stand p l e R s m args below meth c T' (locs ++ L) (cells + rm.cells) (slots + rm.slots) → Qc v T'.heap L → Run p e below s Q kc ks (T'.setTop { g with pc := g.pc + 3, stack := v.toList ++ rest })) : Run p e below s Q kc ks (T.setTop g) := by
  obtain ⟨v, vm₁, ⟨T', L', c', n'⟩, -, X', ⟨L, hQ, l1, l2, l3⟩, st⟩ := X.specialBack hx hy1 hown (mvT hZ w1) (mvT hZ w2) (mvT hZ w4) hy (hM.back (W := W) hZ w4 w3 hfr hlo) hg hsize (Steps.refl _) hlen hstack hW hdg (fun _ _ => ⟨rfl, eT, hce, hsl⟩)
  dsimp only [Pt.U, Pt.locs, Pt.cells, Pt.slots] at X' l1 l2 l3 st hQ
  subst l1 l2 l3
  exact Run.pre (fun _ q => st.trans q) (k v T' L X' hQ)
theorem Run.callP (X : Stand p l e R s m args below meth c T locs cells slots) (hx : p.tables.exec = Jvm.exec) (hZ : Z.Warmed39 s.vm) (hown : s.vm.findClass own = some m.cls) (w1 : (Jvm.Cond.methodLink own index y).before a0 Z = true) (w2 : (Jvm.Cond.instanceMethod y).before a0 Z = true) (w5 : (Jvm.Cond.selects y.cls y y).before a0 Z = true) (w6 : (Jvm.Cond.privateMethod y).before a0 Z = true) (w4 : (Jvm.Cond.code y bytes maxL rt).before a0 Z = true) (w3 : (Jvm.Cond.initialized y.cls).before a0 Z = true)
    (hy : y.cls ≠ "java/lang/invoke/MethodHandle" ∧ y.cls ≠ "java/lang/invoke/VarHandle") {a : Addr} {C : String} (E : Exa Z h a C) (hM : Con l y bytes maxL rt rm Z (.ref a :: argsL).toArray h Qc) (eT : T.heap = h) (hfr : rm.frames + 1 ≤ R.frames) (hlo : W + (maxL + 11) + rm.locals ≤ R.locals) (hce : cells + rm.cells ≤ R.cells) (hsl : slots + rm.slots ≤ R.slots)
    (hg : g.method = m) (hsize : g.locals.size = c.maxLocals) (hlen : ∀ sig, parseMethodDescriptor y.desc = some sig → argsL.length = sig.parameters.length) (hstack : g.stack = argsL.reverse ++ .ref a :: rest) (hW : 2 * g.monitorRoom + (rest.map fun v => v.category).sum ≤ W) (hdg : decode c.code g.pc = .ok (.invokevirtual index, 3))
    (k : ∀ v T' L, Stand p l e R s m args below meth c T' (locs ++ L) (cells + rm.cells) (slots + rm.slots) → Qc v T'.heap L → Run p e below s Q kc ks (T'.setTop { g with pc := g.pc + 3, stack := v.toList ++ rest })) : Run p e below s Q kc ks (T.setTop g) := by
  obtain ⟨cell, kk, q1, -, -, q4, -⟩ := E
  obtain ⟨v, vm₁, ⟨T', L', c', n'⟩, -, X', ⟨L, hQ, l1, l2, l3⟩, st⟩ := X.privateBack hx hown (mvT hZ w1) (mvT hZ w2) (mvT hZ w5) (Cond.privateMethod_at (mvP hZ w6 (args := #[]))) (mvT hZ w4) hy (hM.back (W := W) hZ w4 w3 hfr hlo) hg hsize (Steps.refl _) (a := a) (by rw [eT]; exact q1) (fun q e => by rw [e] at q4; cases q4) hlen hstack hW hdg (fun _ _ => ⟨rfl, eT, hce, hsl⟩)
  dsimp only [Pt.U, Pt.locs, Pt.cells, Pt.slots] at X' l1 l2 l3 st hQ
  subst l1 l2 l3
  exact Run.pre (fun _ q => st.trans q) (k v T' L X' hQ)
theorem Run.callV {z : MethodName} {C : String} (X : Stand p l e R s m args below meth c T locs cells slots) (hx : p.tables.exec = Jvm.exec) (hZ : Z.Warmed39 s.vm) (hown : s.vm.findClass own = some m.cls) (w1 : (Jvm.Cond.methodLink own index y).before a0 Z = true) (w2 : (Jvm.Cond.declares y).before a0 Z = true) (hnf : NotFace s y) (w5 : (Jvm.Cond.selects C y z).before a0 Z = true) (w6 : (Jvm.Cond.instanceMethod z).before a0 Z = true) (w4 : (Jvm.Cond.code z bytes maxL rt).before a0 Z = true) (w3 : (Jvm.Cond.initialized z.cls).before a0 Z = true)
    (hy : y.cls ≠ "java/lang/invoke/MethodHandle" ∧ y.cls ≠ "java/lang/invoke/VarHandle") {b : Addr} (E : Exa Z h b C) (hM : Con l z bytes maxL rt rm Z (.ref b :: argsL).toArray h Qc) (eT : T.heap = h) (hfr : rm.frames + 1 ≤ R.frames) (hlo : W + (maxL + 11) + rm.locals ≤ R.locals) (hce : cells + rm.cells ≤ R.cells) (hsl : slots + rm.slots ≤ R.slots)
    (hg : g.method = m) (hsize : g.locals.size = c.maxLocals) (hlen : ∀ sig, parseMethodDescriptor y.desc = some sig → argsL.length = sig.parameters.length) (hstack : g.stack = argsL.reverse ++ .ref b :: rest) (hW : 2 * g.monitorRoom + (rest.map fun v => v.category).sum ≤ W) (hdg : decode c.code g.pc = .ok (.invokevirtual index, 3))
    (k : ∀ v T' L, Stand p l e R s m args below meth c T' (locs ++ L) (cells + rm.cells) (slots + rm.slots) → Qc v T'.heap L → Run p e below s Q kc ks (T'.setTop { g with pc := g.pc + 3, stack := v.toList ++ rest })) : Run p e below s Q kc ks (T.setTop g) := by
  obtain ⟨cB, kB, qa, qb, qc⟩ := isOf hZ eT E
  obtain ⟨v, vm₁, ⟨T', L', c', n'⟩, -, X', ⟨L, hQ, l1, l2, l3⟩, st⟩ := X.virtualBack hx hown (mvT hZ w1) (mvT hZ w2) hnf (mvT hZ w5) (mvT hZ w6) hy (hM.back (W := W) hZ w4 w3 hfr hlo) qa qc hg hsize (Steps.refl _) hlen hstack hW hdg (fun _ _ => ⟨rfl, eT, hce, hsl⟩)
  dsimp only [Pt.U, Pt.locs, Pt.cells, Pt.slots] at X' l1 l2 l3 st hQ
  subst l1 l2 l3
  exact Run.pre (fun _ q => st.trans q) (k v T' L X' hQ)
theorem Run.callU {z : MethodName} {C owner : String} (X : Stand p l e R s m args below meth c T locs cells slots) (hx : p.tables.exec = Jvm.exec) (hZ : Z.Warmed39 s.vm) (hown : s.vm.findClass own = some m.cls) (w1 : (Jvm.Cond.methodLink own index y).before a0 Z = true) (w2 : (Jvm.Cond.sameMethod y.cls owner y.name y.desc).before a0 Z = true) (w7 : (Jvm.Cond.declares ⟨owner, y.name, y.desc⟩).before a0 Z = true) (w5 : (Jvm.Cond.selects C y z).before a0 Z = true) (w6 : (Jvm.Cond.instanceMethod z).before a0 Z = true) (w4 : (Jvm.Cond.code z bytes maxL rt).before a0 Z = true) (w3 : (Jvm.Cond.initialized z.cls).before a0 Z = true)
    (hy : owner ≠ "java/lang/invoke/MethodHandle" ∧ owner ≠ "java/lang/invoke/VarHandle") {b : Addr} (E : Exa Z h b C) (hM : Con l z bytes maxL rt rm Z (.ref b :: argsL).toArray h Qc) (eT : T.heap = h) (hfr : rm.frames + 1 ≤ R.frames) (hlo : W + (maxL + 11) + rm.locals ≤ R.locals) (hce : cells + rm.cells ≤ R.cells) (hsl : slots + rm.slots ≤ R.slots)
    (hg : g.method = m) (hsize : g.locals.size = c.maxLocals) (hlen : ∀ sig, parseMethodDescriptor y.desc = some sig → argsL.length = sig.parameters.length) (hstack : g.stack = argsL.reverse ++ .ref b :: rest) (hW : 2 * g.monitorRoom + (rest.map fun v => v.category).sum ≤ W) (hdg : decode c.code g.pc = .ok (.invokevirtual index, 3))
    (k : ∀ v T' L, Stand p l e R s m args below meth c T' (locs ++ L) (cells + rm.cells) (slots + rm.slots) → Qc v T'.heap L → Run p e below s Q kc ks (T'.setTop { g with pc := g.pc + 3, stack := v.toList ++ rest })) : Run p e below s Q kc ks (T.setTop g) := by
  obtain ⟨cB, kB, qa, qb, qc⟩ := isOf hZ eT E
  obtain ⟨v, vm₁, ⟨T', L', c', n'⟩, -, X', ⟨L, hQ, l1, l2, l3⟩, st⟩ := X.virtualBackUp hx hown (mvT hZ w1) (mvT hZ w2) (mvT hZ w7) hy (mvT hZ w5) (mvT hZ w6) (hM.back (W := W) hZ w4 w3 hfr hlo) qa qc hg hsize (Steps.refl _) hlen hstack hW hdg (fun _ _ => ⟨rfl, eT, hce, hsl⟩)
  dsimp only [Pt.U, Pt.locs, Pt.cells, Pt.slots] at X' l1 l2 l3 st hQ
  subst l1 l2 l3
  exact Run.pre (fun _ q => st.trans q) (k v T' L X' hQ)
theorem Run.callF {xi : MethodName} {C : String} {count : Nat} (X : Stand p l e R s m args below meth c T locs cells slots) (hx : p.tables.exec = Jvm.exec) (hZ : Z.Warmed39 s.vm) (hown : s.vm.findClass own = some m.cls) (w1 : (Jvm.Cond.methodLink own index xi).before a0 Z = true) (w2 : (Jvm.Cond.declares xi).before a0 Z = true) (w7 : (Jvm.Cond.interfaceMethod xi.cls xi.cls xi.name xi.desc).before args s = true) (w5 : (Jvm.Cond.selects C xi y).before a0 Z = true) (w6 : (Jvm.Cond.instanceMethod y).before a0 Z = true) (w8 : (Jvm.Cond.publicMethod y).before a0 Z = true) (w9 : (Jvm.Cond.unhidden C xi.name xi.desc).before a0 Z = true) (w10 : (Jvm.Cond.castable C xi.cls).before a0 Z = true) (w4 : (Jvm.Cond.code y bytes maxL rt).before a0 Z = true) (w3 : (Jvm.Cond.initialized y.cls).before a0 Z = true)
    (hy : xi.cls ≠ "java/lang/invoke/MethodHandle" ∧ xi.cls ≠ "java/lang/invoke/VarHandle") {b : Addr} (E : Exa Z h b C) (hM : Con l y bytes maxL rt rm Z (.ref b :: argsL).toArray h Qc) (eT : T.heap = h) (hfr : rm.frames + 1 ≤ R.frames) (hlo : W + (maxL + 11) + rm.locals ≤ R.locals) (hce : cells + rm.cells ≤ R.cells) (hsl : slots + rm.slots ≤ R.slots)
    (hg : g.method = m) (hsize : g.locals.size = c.maxLocals) (hlen : ∀ sig, parseMethodDescriptor xi.desc = some sig → argsL.length = sig.parameters.length) (hstack : g.stack = argsL.reverse ++ .ref b :: rest) (hW : 2 * g.monitorRoom + (rest.map fun v => v.category).sum ≤ W) (hdg : decode c.code g.pc = .ok (.invokeinterface index count, 5))
    (k : ∀ v T' L, Stand p l e R s m args below meth c T' (locs ++ L) (cells + rm.cells) (slots + rm.slots) → Qc v T'.heap L → Run p e below s Q kc ks (T'.setTop { g with pc := g.pc + 5, stack := v.toList ++ rest })) : Run p e below s Q kc ks (T.setTop g) := by
  obtain ⟨cB, kB, qa, qb, qc⟩ := isOf hZ eT E
  obtain ⟨v, vm₁, ⟨T', L', c', n'⟩, -, X', ⟨L, hQ, l1, l2, l3⟩, st⟩ := X.interfaceBack hx hown (mvT hZ w1) (mvT hZ w2) w7 (mvT hZ w5) (mvT hZ w6) (mvT hZ w8) (mvT hZ w9) (mvT hZ w10) hy (hM.back (W := W) hZ w4 w3 hfr hlo) qa qb qc hg hsize (Steps.refl _) hlen hstack hW hdg (fun _ _ => ⟨rfl, eT, hce, hsl⟩)
  dsimp only [Pt.U, Pt.locs, Pt.cells, Pt.slots] at X' l1 l2 l3 st hQ
  subst l1 l2 l3
  exact Run.pre (fun _ q => st.trans q) (k v T' L X' hQ)
end Calls
/-! from the case's words to facts on the heap -/
theorem own_fldInt {args : Array Value} {t : Term} {C n d : String} {k : Int32} {a : Addr} (ht : t.eval args Z none [] Z = some (.ref a)) (h : (Jvm.Cond.eq (Term.field t C n d) (Term.int k)).value args Z none Z [] = some true) : Fld Z Z.heap a C n d (.int k) := by
  obtain ⟨x, y, e1, e2, -, k2⟩ := cmp_v (Or.inl h)
  have e3 : y = .int k := (Option.some.inj ((Term.int_eval k).symm.trans e2)).symm
  subst e3
  obtain ⟨z, rfl⟩ := k2
  have e4 := fld_at (C := C) (n := n) (dd := d) ht
  rw [e4] at e1
  have q : z = k := by
    have hh : (Jvm.Cond.eq (Term.field t C n d) (Term.int k)).value args Z none Z [] = some (decide (z = k)) := by simp [Jvm.Cond.value, e4, e1, e2]
    exact gotT hh h
  subst q
  exact Fld.start e1
theorem own_fldLong {args : Array Value} {t : Term} {C n d : String} {k : Int64} {a : Addr} (ht : t.eval args Z none [] Z = some (.ref a)) (h : (Jvm.Cond.eq (Term.field t C n d) (Term.long k)).value args Z none Z [] = some true) : Fld Z Z.heap a C n d (.long k) := by
  obtain ⟨x, y, e1, e2, -, k2⟩ := cmp_v (Or.inl h)
  have e3 : y = .long k := (Option.some.inj (show some (Value.long k) = some y from e2)).symm
  subst e3
  obtain ⟨z, rfl⟩ := k2
  have e4 := fld_at (C := C) (n := n) (dd := d) ht
  have q : z = k := gotT (eq_L e1 e2) h
  rw [e4] at e1
  subst q
  exact Fld.start e1
theorem own_len {args : Array Value} {t : Term} {n : Int32} {a : Addr} {cl : Cell} {ty : FieldType} (ht : t.eval args Z none [] Z = some (.ref a)) (A : Arr Z Z.heap a cl ty) (h : (Jvm.Cond.eq (Term.length t) (Term.int n)).value args Z none Z [] = some true) : cl.slots.size < 2 ^ 31 ∧ cl.slots.size.toInt32 = n := by
  obtain ⟨x, y, e1, e2, -, k2⟩ := cmp_v (Or.inl h)
  have ha : Z.arrayAt? a = some cl := A.fin (Vm.Alike.refl _)
  by_cases hl : cl.slots.size < 2 ^ 31
  · refine ⟨hl, ?_⟩
    have e3 := len_f ht ha hl
    have hh : (Jvm.Cond.eq (Term.length t) (Term.int n)).value args Z none Z [] = some (decide (cl.slots.size.toInt32 = n)) := by
      have e4 : (Term.int n).eval args Z none [] Z = some (.int n) := Term.int_eval n
      simp [Jvm.Cond.value, e3, e4]
    exact gotT hh h
  · exfalso
    simp [Term.eval, ht, ha, hl] at e1
theorem own_elem {args : Array Value} {t u : Term} {j : Int32} {a w : Addr} {cl : Cell} (ht : t.eval args Z none [] Z = some (.ref a)) (hu : u.eval args Z none [] Z = some (.ref w)) (hc : Z.heap[a]? = some cl) (h : (Jvm.Cond.eq (Term.elem t (Term.int j)) u).value args Z none Z [] = some true) : cl.slots[j.toNatClampNeg]? = some (.ref w) := by
  obtain ⟨x, y, e1, e2, k1, k2⟩ := cmp_v (Or.inl h)
  cases hu.symm.trans e2
  have q := gotT (eq_R e1 e2 k2.2 rfl) h
  subst q
  exact (elem_in e1 ht (Term.int_eval j) hc).2
theorem own_fldRef {args : Array Value} {t u : Term} {C n d : String} {a w : Addr} (ht : t.eval args Z none [] Z = some (.ref a)) (hu : u.eval args Z none [] Z = some (.ref w)) (h : (Jvm.Cond.eq (Term.field t C n d) u).value args Z none Z [] = some true) : Fld Z Z.heap a C n d (.ref w) := by
  obtain ⟨x, y, e1, e2, k1, k2⟩ := cmp_v (Or.inl h)
  cases hu.symm.trans e2
  have q := gotT (eq_R e1 e2 k2.2 rfl) h
  subst q
  rw [fld_at ht] at e1
  exact Fld.start e1
theorem own_fldNull {args : Array Value} {t : Term} {C n d : String} {a : Addr} (ht : t.eval args Z none [] Z = some (.ref a)) (h : (Jvm.Cond.eq (Term.field t C n d) Term.null).value args Z none Z [] = some true) : Fld Z Z.heap a C n d .null := by
  have e1 := null_v h
  rw [fld_at ht] at e1
  exact Fld.start e1
theorem own_neArv {a b : Addr} {C : String} {k : ClassId} {ty : FieldType} {z : Int32} {vs : List Value} {d : Value} {n : Nat} (E : Exa Z h a C) (wi : (Jvm.Cond.instantiable C n).before a0 Z = true) (A : Arv Z h b k ty z vs d) : b ≠ a := by
  obtain ⟨c, A', -⟩ := A; exact (ne_arr E wi A').symm
theorem own_ibStays {vm vm' : Vm} {Ts : List String} (h : IB Z vm Ts) (q : (s.setVm vm).WarmedH vm') : IB Z vm' Ts := by
  obtain ⟨more, e, r⟩ := h; exact ⟨more, by rw [q.interned_eq]; exact e, r⟩
theorem own_ne0 {args : Array Value} {t : Term} {z : Int32} (e : t.eval args Z none [] Z = some (.int z)) (h : (Jvm.Cond.not (Jvm.Cond.eq t (Term.int 0))).value args Z none Z [] = some true) : ¬ z = 0 := by
  have h1 := not_v h
  have e0 : (Term.int 0).eval args Z none [] Z = some (.int 0) := Term.int_eval 0
  have hh : (Jvm.Cond.eq t (Term.int 0)).value args Z none Z [] = some (decide (z = 0)) := by simp [Jvm.Cond.value, e, e0]
  exact gotF hh h1
theorem own_staInt {args : Array Value} {C n d : String} {k : Int32} (h : (Jvm.Cond.eq (Term.static C n d) (Term.int k)).value args Z none Z [] = some true) (hi : (Jvm.Cond.initializedFor C n d).before args Z = true ∨ ((Jvm.Cond.initialized C).before args Z = true ∧ (Jvm.Cond.laysStatic C n d).before args Z = true)) : Sta Z Z.heap C n d (.int k) := by
  obtain ⟨x, y, e1, e2, -, k2⟩ := cmp_v (Or.inl h)
  have e3 : y = .int k := (Option.some.inj ((Term.int_eval k).symm.trans e2)).symm
  subst e3
  obtain ⟨z, rfl⟩ := k2
  have hh : (Jvm.Cond.eq (Term.static C n d) (Term.int k)).value args Z none Z [] = some (decide (z = k)) := by simp [Jvm.Cond.value, e1, e2]
  have q := gotT hh h
  subst q
  exact Sta.start e1 hi
theorem own_cat1 {v : Value} (h : v.isRef = true) : v.category = 1 := by rcases ref_cases h with rfl | ⟨_, rfl⟩ <;> rfl
theorem own_fit {s : State} (hF : heapFits s = true) : Fit s := fun {y c} hc i hi => by
  obtain ⟨ha, rfl⟩ := Array.getElem?_eq_some_iff.mp hc
  have q := List.all_eq_true.mp ((Array.all_eq_true_iff_forall_mem.mp hF) _ (Array.getElem_mem ha)) i (List.mem_range.mpr hi)
  simpa [Array.getElem?_eq_getElem hi] using q
end Own
def own_gcv (b0 b1 : Int32) : Int32 := nar .char (((((b0 &&& (255 : Int32)) <<< ((0 : Int32) &&& 31)) ||| ((b1 &&& (255 : Int32)) <<< ((8 : Int32) &&& 31)))).toUInt32.toUInt16.toUInt32.toInt32)
def own_b0 (c : Int32) : Int32 := nar .byte ((c >>> ((0 : Int32) &&& 31)).toInt8.toInt32)
def own_b1 (c : Int32) : Int32 := nar .byte ((c >>> ((8 : Int32) &&& 31)).toInt8.toInt32)
theorem own_bits (x : BitVec 16) : ((((((x.setWidth 32).sshiftRight 0).setWidth 8).signExtend 32 &&& 255#32) <<< 0) ||| (((((x.setWidth 32).sshiftRight 8).setWidth 8).signExtend 32 &&& 255#32) <<< 8)).setWidth 16 = x := by
  apply BitVec.eq_of_getLsbD_eq
  intro i hi
  have h255 : ∀ j : Nat, (255#32).getLsbD j = decide (j < 8) := by
    intro j
    by_cases hj : j < 32
    · have : ∀ k : Fin 32, (255#32).getLsbD k.1 = decide (k.1 < 8) := by decide
      exact this ⟨j, hj⟩
    · rw [BitVec.getLsbD_of_ge _ _ (by omega)]; simp; omega
  simp only [BitVec.getLsbD_setWidth, BitVec.getLsbD_or, BitVec.getLsbD_and, BitVec.getLsbD_shiftLeft, BitVec.getLsbD_signExtend, h255]
  rcases Nat.lt_or_ge i 8 with h | h
  · have h1 : ¬ 8 ≤ i := by omega
    have h3 : i < 16 := by omega
    simp [h, h1, h3, BitVec.getLsbD_sshiftRight, show i < 32 by omega]
  · have h1 : ¬ i < 8 := by omega
    have h2 : i - 8 < 8 := by omega
    have h3 : 8 + (i - 8) = i := by omega
    simp [h, h1, h2, h3, BitVec.getLsbD_sshiftRight, show i < 32 by omega, show i < 16 by omega, show i - 8 < 32 by omega, BitVec.getElem_sshiftRight]
theorem own_w (c : Int32) : (c.toUInt32.toUInt16.toUInt32.toInt32).toBitVec = (c.toBitVec.setWidth 16).setWidth 32 := by
  first | rfl | (simp [-BitVec.setWidth_setWidth]; done) | skip
theorem own_v (c : Int32) : (c.toInt8.toInt32).toBitVec = (c.toBitVec.setWidth 8).signExtend 32 := by
  rw [← BitVec.signExtend_eq_setWidth_of_le c.toBitVec (show 8 ≤ 32 by decide)]
  rfl
theorem own_gc (c : Int32) (h : nar .char c = c) : own_gcv (own_b0 c) (own_b1 c) = c := by
  have e : c.toBitVec = (c.toBitVec.setWidth 16).setWidth 32 := (own_w c).symm.trans (congrArg Int32.toBitVec h) |>.symm
  have k := own_bits (c.toBitVec.setWidth 16)
  rw [← e] at k
  have k2 : (own_gcv (own_b0 c) (own_b1 c)).toBitVec = (c.toBitVec.setWidth 16).setWidth 32 := by
    conv => rhs; rw [← k]
    simp only [own_gcv, own_b0, own_b1, nar, own_w, own_v, Int32.toBitVec_or, Int32.toBitVec_and, Int32.toBitVec_shiftLeft, Int32.toBitVec_shiftRight]
    have f0 : (Int32.toBitVec 0 &&& Int32.toBitVec 31).smod 32 = 0#32 := by decide
    have f8 : (Int32.toBitVec 8 &&& Int32.toBitVec 31).smod 32 = 8#32 := by decide
    have f255 : Int32.toBitVec 255 = 255#32 := by decide
    have g : ∀ y : BitVec 8, (y.signExtend 32).setWidth 8 = y := fun y => by
      apply BitVec.eq_of_getLsbD_eq; intro i hi; simp [BitVec.getLsbD_setWidth, BitVec.getElem_signExtend, hi, show i < 32 by omega]
    have g2 : ∀ z : BitVec 16, (z.setWidth 32).setWidth 16 = z := fun z => by
      apply BitVec.eq_of_getLsbD_eq; intro i hi; simp [BitVec.getLsbD_setWidth, hi, show i < 32 by omega]
    rw [f0, f8, f255, g, g, g2]
    rfl
  exact Int32.toBitVec_inj.mp (k2.trans e.symm)

theorem d6_0 : decode jdk_52_method_21_code 0 = .ok (.iconst 0, 1) := by decide +kernel
theorem d6_1 : decode jdk_52_method_21_code 1 = .ok (.istore 5, 2) := by decide +kernel
theorem d6_3 : decode jdk_52_method_21_code 3 = .ok (.iload 5, 2) := by decide +kernel
theorem d6_5 : decode jdk_52_method_21_code 5 = .ok (.iload 4, 2) := by decide +kernel
theorem d6_7 : decode jdk_52_method_21_code 7 = .ok (.if_icmp .ge 37, 3) := by decide +kernel
theorem d6_10 : decode jdk_52_method_21_code 10 = .ok (.aload_n 0, 1) := by decide +kernel
theorem d6_11 : decode jdk_52_method_21_code 11 = .ok (.iload_n 1, 1) := by decide +kernel
theorem d6_12 : decode jdk_52_method_21_code 12 = .ok (.caload, 1) := by decide +kernel
theorem d6_13 : decode jdk_52_method_21_code 13 = .ok (.istore 6, 2) := by decide +kernel
theorem d6_15 : decode jdk_52_method_21_code 15 = .ok (.iload 6, 2) := by decide +kernel
theorem d6_17 : decode jdk_52_method_21_code 17 = .ok (.sipush 255, 3) := by decide +kernel
theorem d6_20 : decode jdk_52_method_21_code 20 = .ok (.if_icmp .le 6, 3) := by decide +kernel
theorem d6_23 : decode jdk_52_method_21_code 23 = .ok (.iload 5, 2) := by decide +kernel
theorem d6_25 : decode jdk_52_method_21_code 25 = .ok (.ireturn, 1) := by decide +kernel
theorem pn_6 : plainName "java/lang/StringUTF16" = true := by first | (simp [plainName, overriddenIn]; done) | decide +kernel
set_option maxRecDepth 65536 in
set_option maxHeartbeats 40000000 in
theorem rmC2_4_0 (l : Launch) (Z : State) (a0 : Array Value) (hw : ∀ d ∈ tables_1, d.before a0 Z = true) (ar : Addr) (ds : Addr) (kc : ClassId) (kb : ClassId) (c0 : Int32) (c1 : Int32) (c2 : Int32) (c3 : Int32) (h0 : Heap) (n0 : Nat) (Z0 : n0 ≤ h0.size) (AC : Arv Z h0 ar kc .char 4 [(.int c0), (.int c1), (.int c2), (.int c3)] (.int 0)) (AB : Arv Z h0 ds kb .byte 4 [(.int (0 : Int32)), (.int (0 : Int32)), (.int (0 : Int32)), (.int (0 : Int32))] (.int 0)) (nad : ar ≠ ds) (g_ds : n0 ≤ ds) (q0 : (255 : Int32) < c0) :
    Con l (⟨"java/lang/StringUTF16", "compress", "([CI[BII)I"⟩ : MethodName) jdk_52_method_21_code 7 (some .int) ({ frames := 0, cells := 0, slots := 0, locals := 0 } : Room) Z #[(.ref ar), (.int (0 : Int32)), (.ref ds), (.int (0 : Int32)), (.int (4 : Int32))] h0 (fun v h L => v = some (.int 0) ∧ Fr n0 L ∧ Keep h0 h [ds]) := by
  refine Con.mk (plainFor_of_name pn_6) (fun m => show entryFrame m #[(.ref ar), (.int (0 : Int32)), (.ref ds), (.int (0 : Int32)), (.int (4 : Int32))] 7 = mkF m 0 #[.val (.ref ar), .val (.int (0 : Int32)), .val (.ref ds), .val (.int (0 : Int32)), .val (.int (4 : Int32)), .unset, .unset] [] by first | (simp [entryFrame, mkF, argsToLocals, Value.category]; done) | rfl) ?_
  intro p e s m below meth c s₁ hx hby hml hown hnm hret hlk hZ X0 e0
  have N0 := Fr.nil n0
  show Run p e below s _ _ _ (s₁.setTop (mkF m 0 #[.val (.ref ar), .val (.int (0 : Int32)), .val (.ref ds), .val (.int (0 : Int32)), .val (.int (4 : Int32)), .unset, .unset] []))
  refine Run.pre (fun _ k => XS.iconst X0.here hx rfl (hb hby d6_0) k) ?_
  show Run p e below s _ _ _ (s₁.setTop (mkF m 1 #[.val (.ref ar), .val (.int (0 : Int32)), .val (.ref ds), .val (.int (0 : Int32)), .val (.int (4 : Int32)), .unset, .unset] [(.int (0 : Int32))]))
  refine Run.pre (fun _ k => XS.istore X0.here hx rfl (hb hby d6_1) rfl (l' := #[.val (.ref ar), .val (.int (0 : Int32)), .val (.ref ds), .val (.int (0 : Int32)), .val (.int (4 : Int32)), .val (.int (0 : Int32)), .unset]) rfl k) ?_
  show Run p e below s _ _ _ (s₁.setTop (mkF m 3 #[.val (.ref ar), .val (.int (0 : Int32)), .val (.ref ds), .val (.int (0 : Int32)), .val (.int (4 : Int32)), .val (.int (0 : Int32)), .unset] []))
  refine Run.pre (fun _ k => XS.iload X0.here hx rfl (hb hby d6_3) rfl  k) ?_
  show Run p e below s _ _ _ (s₁.setTop (mkF m 5 #[.val (.ref ar), .val (.int (0 : Int32)), .val (.ref ds), .val (.int (0 : Int32)), .val (.int (4 : Int32)), .val (.int (0 : Int32)), .unset] [(.int (0 : Int32))]))
  refine Run.pre (fun _ k => XS.iload X0.here hx rfl (hb hby d6_5) rfl  k) ?_
  show Run p e below s _ _ _ (s₁.setTop (mkF m 7 #[.val (.ref ar), .val (.int (0 : Int32)), .val (.ref ds), .val (.int (0 : Int32)), .val (.int (4 : Int32)), .val (.int (0 : Int32)), .unset] [(.int (4 : Int32)), (.int (0 : Int32))]))
  refine Run.pre (fun _ k => XS.icmpNo X0.here hx rfl (hb hby d6_7) rfl (tlt ((by decide) : (0 : Int32) < (4 : Int32))).2.1 k) ?_
  show Run p e below s _ _ _ (s₁.setTop (mkF m 10 #[.val (.ref ar), .val (.int (0 : Int32)), .val (.ref ds), .val (.int (0 : Int32)), .val (.int (4 : Int32)), .val (.int (0 : Int32)), .unset] []))
  refine Run.pre (fun _ k => XS.aloadN X0.here hx rfl (hb hby d6_10) rfl rfl k) ?_
  show Run p e below s _ _ _ (s₁.setTop (mkF m 11 #[.val (.ref ar), .val (.int (0 : Int32)), .val (.ref ds), .val (.int (0 : Int32)), .val (.int (4 : Int32)), .val (.int (0 : Int32)), .unset] [(.ref ar)]))
  refine Run.pre (fun _ k => XS.iloadN X0.here hx rfl (hb hby d6_11) rfl  k) ?_
  show Run p e below s _ _ _ (s₁.setTop (mkF m 12 #[.val (.ref ar), .val (.int (0 : Int32)), .val (.ref ds), .val (.int (0 : Int32)), .val (.int (4 : Int32)), .val (.int (0 : Int32)), .unset] [(.int (0 : Int32)), (.ref ar)]))
  obtain ⟨c1, Ar1, -, S1, N1, H1, -⟩ := id AC
  have hin1 : ¬ ((0 : Int32) < 0 ∨ c1.slots.size ≤ ((0 : Int32)).toNatClampNeg) := inb_of S1 ⟨by decide, by decide⟩
  refine Run.pre (X0.caload hx (j := (0 : Int32)) (v := (.int c0)) (by rw [e0]; exact Ar1.1) (State.isArrayOf_alike hZ.alike Ar1.2.1) Ar1.2.2 hin1 (H1.at hin1 rfl) (g := (mkF m 12 #[.val (.ref ar), .val (.int (0 : Int32)), .val (.ref ds), .val (.int (0 : Int32)), .val (.int (4 : Int32)), .val (.int (0 : Int32)), .unset] [(.int (0 : Int32)), (.ref ar)])) rfl rfl (hb hby d6_12)) ?_
  show Run p e below s _ _ _ (s₁.setTop (mkF m 13 #[.val (.ref ar), .val (.int (0 : Int32)), .val (.ref ds), .val (.int (0 : Int32)), .val (.int (4 : Int32)), .val (.int (0 : Int32)), .unset] [(.int c0)]))
  refine Run.pre (fun _ k => XS.istore X0.here hx rfl (hb hby d6_13) rfl (l' := #[.val (.ref ar), .val (.int (0 : Int32)), .val (.ref ds), .val (.int (0 : Int32)), .val (.int (4 : Int32)), .val (.int (0 : Int32)), .val (.int c0)]) rfl k) ?_
  show Run p e below s _ _ _ (s₁.setTop (mkF m 15 #[.val (.ref ar), .val (.int (0 : Int32)), .val (.ref ds), .val (.int (0 : Int32)), .val (.int (4 : Int32)), .val (.int (0 : Int32)), .val (.int c0)] []))
  refine Run.pre (fun _ k => XS.iload X0.here hx rfl (hb hby d6_15) rfl  k) ?_
  show Run p e below s _ _ _ (s₁.setTop (mkF m 17 #[.val (.ref ar), .val (.int (0 : Int32)), .val (.ref ds), .val (.int (0 : Int32)), .val (.int (4 : Int32)), .val (.int (0 : Int32)), .val (.int c0)] [(.int c0)]))
  refine Run.pre (fun _ k => XS.sipush X0.here hx rfl (hb hby d6_17) k) ?_
  show Run p e below s _ _ _ (s₁.setTop (mkF m 20 #[.val (.ref ar), .val (.int (0 : Int32)), .val (.ref ds), .val (.int (0 : Int32)), .val (.int (4 : Int32)), .val (.int (0 : Int32)), .val (.int c0)] [(.int (255 : Int32)), (.int c0)]))
  refine Run.pre (fun _ k => XS.icmpNo X0.here hx rfl (hb hby d6_20) rfl (tlt (q0 : (255 : Int32) < c0)).2.2.2 k) ?_
  show Run p e below s _ _ _ (s₁.setTop (mkF m 23 #[.val (.ref ar), .val (.int (0 : Int32)), .val (.ref ds), .val (.int (0 : Int32)), .val (.int (4 : Int32)), .val (.int (0 : Int32)), .val (.int c0)] []))
  refine Run.pre (fun _ k => XS.iload X0.here hx rfl (hb hby d6_23) rfl  k) ?_
  show Run p e below s _ _ _ (s₁.setTop (mkF m 25 #[.val (.ref ar), .val (.int (0 : Int32)), .val (.ref ds), .val (.int (0 : Int32)), .val (.int (4 : Int32)), .val (.int (0 : Int32)), .val (.int c0)] [(.int (0 : Int32))]))
  exact Run.retI X0 hx hret hlk (hb hby d6_25) (by first | (rw [e0]; exact ⟨rfl, N0, (Keep.refl h0 [ds])⟩) | exact ⟨rfl, N0, (Keep.refl h0 [ds])⟩) (by decide) (by decide)
theorem d6_26 : decode jdk_52_method_21_code 26 = .ok (.aload_n 2, 1) := by decide +kernel
theorem d6_27 : decode jdk_52_method_21_code 27 = .ok (.iload_n 3, 1) := by decide +kernel
theorem d6_28 : decode jdk_52_method_21_code 28 = .ok (.iload 6, 2) := by decide +kernel
theorem d6_30 : decode jdk_52_method_21_code 30 = .ok (.i2b, 1) := by decide +kernel
theorem d6_31 : decode jdk_52_method_21_code 31 = .ok (.bastore, 1) := by decide +kernel
theorem d6_32 : decode jdk_52_method_21_code 32 = .ok (.iinc 1 1, 3) := by decide +kernel
theorem d6_35 : decode jdk_52_method_21_code 35 = .ok (.iinc 3 1, 3) := by decide +kernel
theorem d6_38 : decode jdk_52_method_21_code 38 = .ok (.iinc 5 1, 3) := by decide +kernel
theorem d6_41 : decode jdk_52_method_21_code 41 = .ok (.goto (-38), 3) := by decide +kernel
set_option maxRecDepth 65536 in
set_option maxHeartbeats 40000000 in
theorem rmC2_4_1 (l : Launch) (Z : State) (a0 : Array Value) (hw : ∀ d ∈ tables_1, d.before a0 Z = true) (ar : Addr) (ds : Addr) (kc : ClassId) (kb : ClassId) (c0 : Int32) (c1 : Int32) (c2 : Int32) (c3 : Int32) (h0 : Heap) (n0 : Nat) (Z0 : n0 ≤ h0.size) (AC : Arv Z h0 ar kc .char 4 [(.int c0), (.int c1), (.int c2), (.int c3)] (.int 0)) (AB : Arv Z h0 ds kb .byte 4 [(.int (0 : Int32)), (.int (0 : Int32)), (.int (0 : Int32)), (.int (0 : Int32))] (.int 0)) (nad : ar ≠ ds) (g_ds : n0 ≤ ds) (q0 : ¬ (255 : Int32) < c0) (q1 : (255 : Int32) < c1) :
    Con l (⟨"java/lang/StringUTF16", "compress", "([CI[BII)I"⟩ : MethodName) jdk_52_method_21_code 7 (some .int) ({ frames := 0, cells := 0, slots := 0, locals := 0 } : Room) Z #[(.ref ar), (.int (0 : Int32)), (.ref ds), (.int (0 : Int32)), (.int (4 : Int32))] h0 (fun v h L => v = some (.int 1) ∧ Fr n0 L ∧ Keep h0 h [ds]) := by
  refine Con.mk (plainFor_of_name pn_6) (fun m => show entryFrame m #[(.ref ar), (.int (0 : Int32)), (.ref ds), (.int (0 : Int32)), (.int (4 : Int32))] 7 = mkF m 0 #[.val (.ref ar), .val (.int (0 : Int32)), .val (.ref ds), .val (.int (0 : Int32)), .val (.int (4 : Int32)), .unset, .unset] [] by first | (simp [entryFrame, mkF, argsToLocals, Value.category]; done) | rfl) ?_
  intro p e s m below meth c s₁ hx hby hml hown hnm hret hlk hZ X0 e0
  have N0 := Fr.nil n0
  show Run p e below s _ _ _ (s₁.setTop (mkF m 0 #[.val (.ref ar), .val (.int (0 : Int32)), .val (.ref ds), .val (.int (0 : Int32)), .val (.int (4 : Int32)), .unset, .unset] []))
  refine Run.pre (fun _ k => XS.iconst X0.here hx rfl (hb hby d6_0) k) ?_
  show Run p e below s _ _ _ (s₁.setTop (mkF m 1 #[.val (.ref ar), .val (.int (0 : Int32)), .val (.ref ds), .val (.int (0 : Int32)), .val (.int (4 : Int32)), .unset, .unset] [(.int (0 : Int32))]))
  refine Run.pre (fun _ k => XS.istore X0.here hx rfl (hb hby d6_1) rfl (l' := #[.val (.ref ar), .val (.int (0 : Int32)), .val (.ref ds), .val (.int (0 : Int32)), .val (.int (4 : Int32)), .val (.int (0 : Int32)), .unset]) rfl k) ?_
  show Run p e below s _ _ _ (s₁.setTop (mkF m 3 #[.val (.ref ar), .val (.int (0 : Int32)), .val (.ref ds), .val (.int (0 : Int32)), .val (.int (4 : Int32)), .val (.int (0 : Int32)), .unset] []))
  refine Run.pre (fun _ k => XS.iload X0.here hx rfl (hb hby d6_3) rfl  k) ?_
  show Run p e below s _ _ _ (s₁.setTop (mkF m 5 #[.val (.ref ar), .val (.int (0 : Int32)), .val (.ref ds), .val (.int (0 : Int32)), .val (.int (4 : Int32)), .val (.int (0 : Int32)), .unset] [(.int (0 : Int32))]))
  refine Run.pre (fun _ k => XS.iload X0.here hx rfl (hb hby d6_5) rfl  k) ?_
  show Run p e below s _ _ _ (s₁.setTop (mkF m 7 #[.val (.ref ar), .val (.int (0 : Int32)), .val (.ref ds), .val (.int (0 : Int32)), .val (.int (4 : Int32)), .val (.int (0 : Int32)), .unset] [(.int (4 : Int32)), (.int (0 : Int32))]))
  refine Run.pre (fun _ k => XS.icmpNo X0.here hx rfl (hb hby d6_7) rfl (tlt ((by decide) : (0 : Int32) < (4 : Int32))).2.1 k) ?_
  show Run p e below s _ _ _ (s₁.setTop (mkF m 10 #[.val (.ref ar), .val (.int (0 : Int32)), .val (.ref ds), .val (.int (0 : Int32)), .val (.int (4 : Int32)), .val (.int (0 : Int32)), .unset] []))
  refine Run.pre (fun _ k => XS.aloadN X0.here hx rfl (hb hby d6_10) rfl rfl k) ?_
  show Run p e below s _ _ _ (s₁.setTop (mkF m 11 #[.val (.ref ar), .val (.int (0 : Int32)), .val (.ref ds), .val (.int (0 : Int32)), .val (.int (4 : Int32)), .val (.int (0 : Int32)), .unset] [(.ref ar)]))
  refine Run.pre (fun _ k => XS.iloadN X0.here hx rfl (hb hby d6_11) rfl  k) ?_
  show Run p e below s _ _ _ (s₁.setTop (mkF m 12 #[.val (.ref ar), .val (.int (0 : Int32)), .val (.ref ds), .val (.int (0 : Int32)), .val (.int (4 : Int32)), .val (.int (0 : Int32)), .unset] [(.int (0 : Int32)), (.ref ar)]))
  obtain ⟨c2, Ar2, -, S2, N2, H2, -⟩ := id AC
  have hin2 : ¬ ((0 : Int32) < 0 ∨ c2.slots.size ≤ ((0 : Int32)).toNatClampNeg) := inb_of S2 ⟨by decide, by decide⟩
  refine Run.pre (X0.caload hx (j := (0 : Int32)) (v := (.int c0)) (by rw [e0]; exact Ar2.1) (State.isArrayOf_alike hZ.alike Ar2.2.1) Ar2.2.2 hin2 (H2.at hin2 rfl) (g := (mkF m 12 #[.val (.ref ar), .val (.int (0 : Int32)), .val (.ref ds), .val (.int (0 : Int32)), .val (.int (4 : Int32)), .val (.int (0 : Int32)), .unset] [(.int (0 : Int32)), (.ref ar)])) rfl rfl (hb hby d6_12)) ?_
  show Run p e below s _ _ _ (s₁.setTop (mkF m 13 #[.val (.ref ar), .val (.int (0 : Int32)), .val (.ref ds), .val (.int (0 : Int32)), .val (.int (4 : Int32)), .val (.int (0 : Int32)), .unset] [(.int c0)]))
  refine Run.pre (fun _ k => XS.istore X0.here hx rfl (hb hby d6_13) rfl (l' := #[.val (.ref ar), .val (.int (0 : Int32)), .val (.ref ds), .val (.int (0 : Int32)), .val (.int (4 : Int32)), .val (.int (0 : Int32)), .val (.int c0)]) rfl k) ?_
  show Run p e below s _ _ _ (s₁.setTop (mkF m 15 #[.val (.ref ar), .val (.int (0 : Int32)), .val (.ref ds), .val (.int (0 : Int32)), .val (.int (4 : Int32)), .val (.int (0 : Int32)), .val (.int c0)] []))
  refine Run.pre (fun _ k => XS.iload X0.here hx rfl (hb hby d6_15) rfl  k) ?_
  show Run p e below s _ _ _ (s₁.setTop (mkF m 17 #[.val (.ref ar), .val (.int (0 : Int32)), .val (.ref ds), .val (.int (0 : Int32)), .val (.int (4 : Int32)), .val (.int (0 : Int32)), .val (.int c0)] [(.int c0)]))
  refine Run.pre (fun _ k => XS.sipush X0.here hx rfl (hb hby d6_17) k) ?_
  show Run p e below s _ _ _ (s₁.setTop (mkF m 20 #[.val (.ref ar), .val (.int (0 : Int32)), .val (.ref ds), .val (.int (0 : Int32)), .val (.int (4 : Int32)), .val (.int (0 : Int32)), .val (.int c0)] [(.int (255 : Int32)), (.int c0)]))
  refine Run.pre (fun _ k => XS.icmpYes X0.here hx rfl (pc0 := 20) (pc' := 26) rfl (hb hby d6_20) rfl (flt (q0 : ¬ ((255 : Int32) < c0))).2.2.2 (by decide) (by decide) k) ?_
  show Run p e below s _ _ _ (s₁.setTop (mkF m 26 #[.val (.ref ar), .val (.int (0 : Int32)), .val (.ref ds), .val (.int (0 : Int32)), .val (.int (4 : Int32)), .val (.int (0 : Int32)), .val (.int c0)] []))
  refine Run.pre (fun _ k => XS.aloadN X0.here hx rfl (hb hby d6_26) rfl rfl k) ?_
  show Run p e below s _ _ _ (s₁.setTop (mkF m 27 #[.val (.ref ar), .val (.int (0 : Int32)), .val (.ref ds), .val (.int (0 : Int32)), .val (.int (4 : Int32)), .val (.int (0 : Int32)), .val (.int c0)] [(.ref ds)]))
  refine Run.pre (fun _ k => XS.iloadN X0.here hx rfl (hb hby d6_27) rfl  k) ?_
  show Run p e below s _ _ _ (s₁.setTop (mkF m 28 #[.val (.ref ar), .val (.int (0 : Int32)), .val (.ref ds), .val (.int (0 : Int32)), .val (.int (4 : Int32)), .val (.int (0 : Int32)), .val (.int c0)] [(.int (0 : Int32)), (.ref ds)]))
  refine Run.pre (fun _ k => XS.iload X0.here hx rfl (hb hby d6_28) rfl  k) ?_
  show Run p e below s _ _ _ (s₁.setTop (mkF m 30 #[.val (.ref ar), .val (.int (0 : Int32)), .val (.ref ds), .val (.int (0 : Int32)), .val (.int (4 : Int32)), .val (.int (0 : Int32)), .val (.int c0)] [(.int c0), (.int (0 : Int32)), (.ref ds)]))
  refine Run.pre (fun _ k => XS.i2b X0.here hx rfl (hb hby d6_30) rfl k) ?_
  show Run p e below s _ _ _ (s₁.setTop (mkF m 31 #[.val (.ref ar), .val (.int (0 : Int32)), .val (.ref ds), .val (.int (0 : Int32)), .val (.int (4 : Int32)), .val (.int (0 : Int32)), .val (.int c0)] [(.int (c0.toInt8.toInt32)), (.int (0 : Int32)), (.ref ds)]))
  obtain ⟨c3, Ar3, q3, S3, N3, H3, G3⟩ := id AB
  have hin3 : ¬ ((0 : Int32) < 0 ∨ c3.slots.size ≤ ((0 : Int32)).toNatClampNeg) := inb_of S3 ⟨by decide, by decide⟩
  obtain ⟨T4, h4, X4, e4, W4, st4⟩ := stB X0 hx hZ e0 Ar3 (j := (0 : Int32)) hin3 (g := (mkF m 31 #[.val (.ref ar), .val (.int (0 : Int32)), .val (.ref ds), .val (.int (0 : Int32)), .val (.int (4 : Int32)), .val (.int (0 : Int32)), .val (.int c0)] [(.int (c0.toInt8.toInt32)), (.int (0 : Int32)), (.ref ds)])) rfl rfl (hb hby d6_31)
  refine Run.pre st4 ?_
  have V_ds_4 : Arv Z h4 ds kb .byte (4 : Int32) [(.int (nar .byte (c0.toInt8.toInt32))), (.int (0 : Int32)), (.int (0 : Int32)), (.int (0 : Int32))] (.int (0 : Int32)) := Arv.set Ar3 q3 S3 N3 H3 G3 (fits_nar_byte _) W4 0 rfl (Nat.le_of_ble_eq_true rfl)
  have K4 : Keep h0 h4 [ds] := (Keep.refl h0 [ds]).wr W4 (Or.inl (by simp))
  have N4 := Fr.snoc X4 N0 g_ds
  show Run p e below s _ _ _ (T4.setTop (mkF m 32 #[.val (.ref ar), .val (.int (0 : Int32)), .val (.ref ds), .val (.int (0 : Int32)), .val (.int (4 : Int32)), .val (.int (0 : Int32)), .val (.int c0)] []))
  refine Run.pre (fun _ k => XS.iinc X4.here hx rfl (hb hby d6_32) rfl (l' := #[.val (.ref ar), .val (.int (1 : Int32)), .val (.ref ds), .val (.int (0 : Int32)), .val (.int (4 : Int32)), .val (.int (0 : Int32)), .val (.int c0)]) rfl k) ?_
  show Run p e below s _ _ _ (T4.setTop (mkF m 35 #[.val (.ref ar), .val (.int (1 : Int32)), .val (.ref ds), .val (.int (0 : Int32)), .val (.int (4 : Int32)), .val (.int (0 : Int32)), .val (.int c0)] []))
  refine Run.pre (fun _ k => XS.iinc X4.here hx rfl (hb hby d6_35) rfl (l' := #[.val (.ref ar), .val (.int (1 : Int32)), .val (.ref ds), .val (.int (1 : Int32)), .val (.int (4 : Int32)), .val (.int (0 : Int32)), .val (.int c0)]) rfl k) ?_
  show Run p e below s _ _ _ (T4.setTop (mkF m 38 #[.val (.ref ar), .val (.int (1 : Int32)), .val (.ref ds), .val (.int (1 : Int32)), .val (.int (4 : Int32)), .val (.int (0 : Int32)), .val (.int c0)] []))
  refine Run.pre (fun _ k => XS.iinc X4.here hx rfl (hb hby d6_38) rfl (l' := #[.val (.ref ar), .val (.int (1 : Int32)), .val (.ref ds), .val (.int (1 : Int32)), .val (.int (4 : Int32)), .val (.int (1 : Int32)), .val (.int c0)]) rfl k) ?_
  show Run p e below s _ _ _ (T4.setTop (mkF m 41 #[.val (.ref ar), .val (.int (1 : Int32)), .val (.ref ds), .val (.int (1 : Int32)), .val (.int (4 : Int32)), .val (.int (1 : Int32)), .val (.int c0)] []))
  refine Run.pre (fun _ k => XS.goto X4.here hx rfl (pc0 := 41) (pc' := 3) rfl (hb hby d6_41) (by decide) (by decide) k) ?_
  show Run p e below s _ _ _ (T4.setTop (mkF m 3 #[.val (.ref ar), .val (.int (1 : Int32)), .val (.ref ds), .val (.int (1 : Int32)), .val (.int (4 : Int32)), .val (.int (1 : Int32)), .val (.int c0)] []))
  refine Run.pre (fun _ k => XS.iload X4.here hx rfl (hb hby d6_3) rfl  k) ?_
  show Run p e below s _ _ _ (T4.setTop (mkF m 5 #[.val (.ref ar), .val (.int (1 : Int32)), .val (.ref ds), .val (.int (1 : Int32)), .val (.int (4 : Int32)), .val (.int (1 : Int32)), .val (.int c0)] [(.int (1 : Int32))]))
  refine Run.pre (fun _ k => XS.iload X4.here hx rfl (hb hby d6_5) rfl  k) ?_
  show Run p e below s _ _ _ (T4.setTop (mkF m 7 #[.val (.ref ar), .val (.int (1 : Int32)), .val (.ref ds), .val (.int (1 : Int32)), .val (.int (4 : Int32)), .val (.int (1 : Int32)), .val (.int c0)] [(.int (4 : Int32)), (.int (1 : Int32))]))
  refine Run.pre (fun _ k => XS.icmpNo X4.here hx rfl (hb hby d6_7) rfl (tlt ((by decide) : (1 : Int32) < (4 : Int32))).2.1 k) ?_
  show Run p e below s _ _ _ (T4.setTop (mkF m 10 #[.val (.ref ar), .val (.int (1 : Int32)), .val (.ref ds), .val (.int (1 : Int32)), .val (.int (4 : Int32)), .val (.int (1 : Int32)), .val (.int c0)] []))
  refine Run.pre (fun _ k => XS.aloadN X4.here hx rfl (hb hby d6_10) rfl rfl k) ?_
  show Run p e below s _ _ _ (T4.setTop (mkF m 11 #[.val (.ref ar), .val (.int (1 : Int32)), .val (.ref ds), .val (.int (1 : Int32)), .val (.int (4 : Int32)), .val (.int (1 : Int32)), .val (.int c0)] [(.ref ar)]))
  refine Run.pre (fun _ k => XS.iloadN X4.here hx rfl (hb hby d6_11) rfl  k) ?_
  show Run p e below s _ _ _ (T4.setTop (mkF m 12 #[.val (.ref ar), .val (.int (1 : Int32)), .val (.ref ds), .val (.int (1 : Int32)), .val (.int (4 : Int32)), .val (.int (1 : Int32)), .val (.int c0)] [(.int (1 : Int32)), (.ref ar)]))
  have f5 := (AC.other W4 nad)
  obtain ⟨c6, Ar6, -, S6, N6, H6, -⟩ := id f5
  have hin6 : ¬ ((1 : Int32) < 0 ∨ c6.slots.size ≤ ((1 : Int32)).toNatClampNeg) := inb_of S6 ⟨by decide, by decide⟩
  refine Run.pre (X4.caload hx (j := (1 : Int32)) (v := (.int c1)) (by rw [e4]; exact Ar6.1) (State.isArrayOf_alike hZ.alike Ar6.2.1) Ar6.2.2 hin6 (H6.at hin6 rfl) (g := (mkF m 12 #[.val (.ref ar), .val (.int (1 : Int32)), .val (.ref ds), .val (.int (1 : Int32)), .val (.int (4 : Int32)), .val (.int (1 : Int32)), .val (.int c0)] [(.int (1 : Int32)), (.ref ar)])) rfl rfl (hb hby d6_12)) ?_
  show Run p e below s _ _ _ (T4.setTop (mkF m 13 #[.val (.ref ar), .val (.int (1 : Int32)), .val (.ref ds), .val (.int (1 : Int32)), .val (.int (4 : Int32)), .val (.int (1 : Int32)), .val (.int c0)] [(.int c1)]))
  refine Run.pre (fun _ k => XS.istore X4.here hx rfl (hb hby d6_13) rfl (l' := #[.val (.ref ar), .val (.int (1 : Int32)), .val (.ref ds), .val (.int (1 : Int32)), .val (.int (4 : Int32)), .val (.int (1 : Int32)), .val (.int c1)]) rfl k) ?_
  show Run p e below s _ _ _ (T4.setTop (mkF m 15 #[.val (.ref ar), .val (.int (1 : Int32)), .val (.ref ds), .val (.int (1 : Int32)), .val (.int (4 : Int32)), .val (.int (1 : Int32)), .val (.int c1)] []))
  refine Run.pre (fun _ k => XS.iload X4.here hx rfl (hb hby d6_15) rfl  k) ?_
  show Run p e below s _ _ _ (T4.setTop (mkF m 17 #[.val (.ref ar), .val (.int (1 : Int32)), .val (.ref ds), .val (.int (1 : Int32)), .val (.int (4 : Int32)), .val (.int (1 : Int32)), .val (.int c1)] [(.int c1)]))
  refine Run.pre (fun _ k => XS.sipush X4.here hx rfl (hb hby d6_17) k) ?_
  show Run p e below s _ _ _ (T4.setTop (mkF m 20 #[.val (.ref ar), .val (.int (1 : Int32)), .val (.ref ds), .val (.int (1 : Int32)), .val (.int (4 : Int32)), .val (.int (1 : Int32)), .val (.int c1)] [(.int (255 : Int32)), (.int c1)]))
  refine Run.pre (fun _ k => XS.icmpNo X4.here hx rfl (hb hby d6_20) rfl (tlt (q1 : (255 : Int32) < c1)).2.2.2 k) ?_
  show Run p e below s _ _ _ (T4.setTop (mkF m 23 #[.val (.ref ar), .val (.int (1 : Int32)), .val (.ref ds), .val (.int (1 : Int32)), .val (.int (4 : Int32)), .val (.int (1 : Int32)), .val (.int c1)] []))
  refine Run.pre (fun _ k => XS.iload X4.here hx rfl (hb hby d6_23) rfl  k) ?_
  show Run p e below s _ _ _ (T4.setTop (mkF m 25 #[.val (.ref ar), .val (.int (1 : Int32)), .val (.ref ds), .val (.int (1 : Int32)), .val (.int (4 : Int32)), .val (.int (1 : Int32)), .val (.int c1)] [(.int (1 : Int32))]))
  exact Run.retI X4 hx hret hlk (hb hby d6_25) (by first | (rw [e4]; exact ⟨rfl, N4, K4⟩) | exact ⟨rfl, N4, K4⟩) (by decide) (by decide)
set_option maxRecDepth 65536 in
set_option maxHeartbeats 40000000 in
theorem rmC2_4_2 (l : Launch) (Z : State) (a0 : Array Value) (hw : ∀ d ∈ tables_1, d.before a0 Z = true) (ar : Addr) (ds : Addr) (kc : ClassId) (kb : ClassId) (c0 : Int32) (c1 : Int32) (c2 : Int32) (c3 : Int32) (h0 : Heap) (n0 : Nat) (Z0 : n0 ≤ h0.size) (AC : Arv Z h0 ar kc .char 4 [(.int c0), (.int c1), (.int c2), (.int c3)] (.int 0)) (AB : Arv Z h0 ds kb .byte 4 [(.int (0 : Int32)), (.int (0 : Int32)), (.int (0 : Int32)), (.int (0 : Int32))] (.int 0)) (nad : ar ≠ ds) (g_ds : n0 ≤ ds) (q0 : ¬ (255 : Int32) < c0) (q1 : ¬ (255 : Int32) < c1) (q2 : (255 : Int32) < c2) :
    Con l (⟨"java/lang/StringUTF16", "compress", "([CI[BII)I"⟩ : MethodName) jdk_52_method_21_code 7 (some .int) ({ frames := 0, cells := 0, slots := 0, locals := 0 } : Room) Z #[(.ref ar), (.int (0 : Int32)), (.ref ds), (.int (0 : Int32)), (.int (4 : Int32))] h0 (fun v h L => v = some (.int 2) ∧ Fr n0 L ∧ Keep h0 h [ds]) := by
  refine Con.mk (plainFor_of_name pn_6) (fun m => show entryFrame m #[(.ref ar), (.int (0 : Int32)), (.ref ds), (.int (0 : Int32)), (.int (4 : Int32))] 7 = mkF m 0 #[.val (.ref ar), .val (.int (0 : Int32)), .val (.ref ds), .val (.int (0 : Int32)), .val (.int (4 : Int32)), .unset, .unset] [] by first | (simp [entryFrame, mkF, argsToLocals, Value.category]; done) | rfl) ?_
  intro p e s m below meth c s₁ hx hby hml hown hnm hret hlk hZ X0 e0
  have N0 := Fr.nil n0
  show Run p e below s _ _ _ (s₁.setTop (mkF m 0 #[.val (.ref ar), .val (.int (0 : Int32)), .val (.ref ds), .val (.int (0 : Int32)), .val (.int (4 : Int32)), .unset, .unset] []))
  refine Run.pre (fun _ k => XS.iconst X0.here hx rfl (hb hby d6_0) k) ?_
  show Run p e below s _ _ _ (s₁.setTop (mkF m 1 #[.val (.ref ar), .val (.int (0 : Int32)), .val (.ref ds), .val (.int (0 : Int32)), .val (.int (4 : Int32)), .unset, .unset] [(.int (0 : Int32))]))
  refine Run.pre (fun _ k => XS.istore X0.here hx rfl (hb hby d6_1) rfl (l' := #[.val (.ref ar), .val (.int (0 : Int32)), .val (.ref ds), .val (.int (0 : Int32)), .val (.int (4 : Int32)), .val (.int (0 : Int32)), .unset]) rfl k) ?_
  show Run p e below s _ _ _ (s₁.setTop (mkF m 3 #[.val (.ref ar), .val (.int (0 : Int32)), .val (.ref ds), .val (.int (0 : Int32)), .val (.int (4 : Int32)), .val (.int (0 : Int32)), .unset] []))
  refine Run.pre (fun _ k => XS.iload X0.here hx rfl (hb hby d6_3) rfl  k) ?_
  show Run p e below s _ _ _ (s₁.setTop (mkF m 5 #[.val (.ref ar), .val (.int (0 : Int32)), .val (.ref ds), .val (.int (0 : Int32)), .val (.int (4 : Int32)), .val (.int (0 : Int32)), .unset] [(.int (0 : Int32))]))
  refine Run.pre (fun _ k => XS.iload X0.here hx rfl (hb hby d6_5) rfl  k) ?_
  show Run p e below s _ _ _ (s₁.setTop (mkF m 7 #[.val (.ref ar), .val (.int (0 : Int32)), .val (.ref ds), .val (.int (0 : Int32)), .val (.int (4 : Int32)), .val (.int (0 : Int32)), .unset] [(.int (4 : Int32)), (.int (0 : Int32))]))
  refine Run.pre (fun _ k => XS.icmpNo X0.here hx rfl (hb hby d6_7) rfl (tlt ((by decide) : (0 : Int32) < (4 : Int32))).2.1 k) ?_
  show Run p e below s _ _ _ (s₁.setTop (mkF m 10 #[.val (.ref ar), .val (.int (0 : Int32)), .val (.ref ds), .val (.int (0 : Int32)), .val (.int (4 : Int32)), .val (.int (0 : Int32)), .unset] []))
  refine Run.pre (fun _ k => XS.aloadN X0.here hx rfl (hb hby d6_10) rfl rfl k) ?_
  show Run p e below s _ _ _ (s₁.setTop (mkF m 11 #[.val (.ref ar), .val (.int (0 : Int32)), .val (.ref ds), .val (.int (0 : Int32)), .val (.int (4 : Int32)), .val (.int (0 : Int32)), .unset] [(.ref ar)]))
  refine Run.pre (fun _ k => XS.iloadN X0.here hx rfl (hb hby d6_11) rfl  k) ?_
  show Run p e below s _ _ _ (s₁.setTop (mkF m 12 #[.val (.ref ar), .val (.int (0 : Int32)), .val (.ref ds), .val (.int (0 : Int32)), .val (.int (4 : Int32)), .val (.int (0 : Int32)), .unset] [(.int (0 : Int32)), (.ref ar)]))
  obtain ⟨c7, Ar7, -, S7, N7, H7, -⟩ := id AC
  have hin7 : ¬ ((0 : Int32) < 0 ∨ c7.slots.size ≤ ((0 : Int32)).toNatClampNeg) := inb_of S7 ⟨by decide, by decide⟩
  refine Run.pre (X0.caload hx (j := (0 : Int32)) (v := (.int c0)) (by rw [e0]; exact Ar7.1) (State.isArrayOf_alike hZ.alike Ar7.2.1) Ar7.2.2 hin7 (H7.at hin7 rfl) (g := (mkF m 12 #[.val (.ref ar), .val (.int (0 : Int32)), .val (.ref ds), .val (.int (0 : Int32)), .val (.int (4 : Int32)), .val (.int (0 : Int32)), .unset] [(.int (0 : Int32)), (.ref ar)])) rfl rfl (hb hby d6_12)) ?_
  show Run p e below s _ _ _ (s₁.setTop (mkF m 13 #[.val (.ref ar), .val (.int (0 : Int32)), .val (.ref ds), .val (.int (0 : Int32)), .val (.int (4 : Int32)), .val (.int (0 : Int32)), .unset] [(.int c0)]))
  refine Run.pre (fun _ k => XS.istore X0.here hx rfl (hb hby d6_13) rfl (l' := #[.val (.ref ar), .val (.int (0 : Int32)), .val (.ref ds), .val (.int (0 : Int32)), .val (.int (4 : Int32)), .val (.int (0 : Int32)), .val (.int c0)]) rfl k) ?_
  show Run p e below s _ _ _ (s₁.setTop (mkF m 15 #[.val (.ref ar), .val (.int (0 : Int32)), .val (.ref ds), .val (.int (0 : Int32)), .val (.int (4 : Int32)), .val (.int (0 : Int32)), .val (.int c0)] []))
  refine Run.pre (fun _ k => XS.iload X0.here hx rfl (hb hby d6_15) rfl  k) ?_
  show Run p e below s _ _ _ (s₁.setTop (mkF m 17 #[.val (.ref ar), .val (.int (0 : Int32)), .val (.ref ds), .val (.int (0 : Int32)), .val (.int (4 : Int32)), .val (.int (0 : Int32)), .val (.int c0)] [(.int c0)]))
  refine Run.pre (fun _ k => XS.sipush X0.here hx rfl (hb hby d6_17) k) ?_
  show Run p e below s _ _ _ (s₁.setTop (mkF m 20 #[.val (.ref ar), .val (.int (0 : Int32)), .val (.ref ds), .val (.int (0 : Int32)), .val (.int (4 : Int32)), .val (.int (0 : Int32)), .val (.int c0)] [(.int (255 : Int32)), (.int c0)]))
  refine Run.pre (fun _ k => XS.icmpYes X0.here hx rfl (pc0 := 20) (pc' := 26) rfl (hb hby d6_20) rfl (flt (q0 : ¬ ((255 : Int32) < c0))).2.2.2 (by decide) (by decide) k) ?_
  show Run p e below s _ _ _ (s₁.setTop (mkF m 26 #[.val (.ref ar), .val (.int (0 : Int32)), .val (.ref ds), .val (.int (0 : Int32)), .val (.int (4 : Int32)), .val (.int (0 : Int32)), .val (.int c0)] []))
  refine Run.pre (fun _ k => XS.aloadN X0.here hx rfl (hb hby d6_26) rfl rfl k) ?_
  show Run p e below s _ _ _ (s₁.setTop (mkF m 27 #[.val (.ref ar), .val (.int (0 : Int32)), .val (.ref ds), .val (.int (0 : Int32)), .val (.int (4 : Int32)), .val (.int (0 : Int32)), .val (.int c0)] [(.ref ds)]))
  refine Run.pre (fun _ k => XS.iloadN X0.here hx rfl (hb hby d6_27) rfl  k) ?_
  show Run p e below s _ _ _ (s₁.setTop (mkF m 28 #[.val (.ref ar), .val (.int (0 : Int32)), .val (.ref ds), .val (.int (0 : Int32)), .val (.int (4 : Int32)), .val (.int (0 : Int32)), .val (.int c0)] [(.int (0 : Int32)), (.ref ds)]))
  refine Run.pre (fun _ k => XS.iload X0.here hx rfl (hb hby d6_28) rfl  k) ?_
  show Run p e below s _ _ _ (s₁.setTop (mkF m 30 #[.val (.ref ar), .val (.int (0 : Int32)), .val (.ref ds), .val (.int (0 : Int32)), .val (.int (4 : Int32)), .val (.int (0 : Int32)), .val (.int c0)] [(.int c0), (.int (0 : Int32)), (.ref ds)]))
  refine Run.pre (fun _ k => XS.i2b X0.here hx rfl (hb hby d6_30) rfl k) ?_
  show Run p e below s _ _ _ (s₁.setTop (mkF m 31 #[.val (.ref ar), .val (.int (0 : Int32)), .val (.ref ds), .val (.int (0 : Int32)), .val (.int (4 : Int32)), .val (.int (0 : Int32)), .val (.int c0)] [(.int (c0.toInt8.toInt32)), (.int (0 : Int32)), (.ref ds)]))
  obtain ⟨c8, Ar8, q8, S8, N8, H8, G8⟩ := id AB
  have hin8 : ¬ ((0 : Int32) < 0 ∨ c8.slots.size ≤ ((0 : Int32)).toNatClampNeg) := inb_of S8 ⟨by decide, by decide⟩
  obtain ⟨T9, h9, X9, e9, W9, st9⟩ := stB X0 hx hZ e0 Ar8 (j := (0 : Int32)) hin8 (g := (mkF m 31 #[.val (.ref ar), .val (.int (0 : Int32)), .val (.ref ds), .val (.int (0 : Int32)), .val (.int (4 : Int32)), .val (.int (0 : Int32)), .val (.int c0)] [(.int (c0.toInt8.toInt32)), (.int (0 : Int32)), (.ref ds)])) rfl rfl (hb hby d6_31)
  refine Run.pre st9 ?_
  have V_ds_9 : Arv Z h9 ds kb .byte (4 : Int32) [(.int (nar .byte (c0.toInt8.toInt32))), (.int (0 : Int32)), (.int (0 : Int32)), (.int (0 : Int32))] (.int (0 : Int32)) := Arv.set Ar8 q8 S8 N8 H8 G8 (fits_nar_byte _) W9 0 rfl (Nat.le_of_ble_eq_true rfl)
  have K9 : Keep h0 h9 [ds] := (Keep.refl h0 [ds]).wr W9 (Or.inl (by simp))
  have N9 := Fr.snoc X9 N0 g_ds
  show Run p e below s _ _ _ (T9.setTop (mkF m 32 #[.val (.ref ar), .val (.int (0 : Int32)), .val (.ref ds), .val (.int (0 : Int32)), .val (.int (4 : Int32)), .val (.int (0 : Int32)), .val (.int c0)] []))
  refine Run.pre (fun _ k => XS.iinc X9.here hx rfl (hb hby d6_32) rfl (l' := #[.val (.ref ar), .val (.int (1 : Int32)), .val (.ref ds), .val (.int (0 : Int32)), .val (.int (4 : Int32)), .val (.int (0 : Int32)), .val (.int c0)]) rfl k) ?_
  show Run p e below s _ _ _ (T9.setTop (mkF m 35 #[.val (.ref ar), .val (.int (1 : Int32)), .val (.ref ds), .val (.int (0 : Int32)), .val (.int (4 : Int32)), .val (.int (0 : Int32)), .val (.int c0)] []))
  refine Run.pre (fun _ k => XS.iinc X9.here hx rfl (hb hby d6_35) rfl (l' := #[.val (.ref ar), .val (.int (1 : Int32)), .val (.ref ds), .val (.int (1 : Int32)), .val (.int (4 : Int32)), .val (.int (0 : Int32)), .val (.int c0)]) rfl k) ?_
  show Run p e below s _ _ _ (T9.setTop (mkF m 38 #[.val (.ref ar), .val (.int (1 : Int32)), .val (.ref ds), .val (.int (1 : Int32)), .val (.int (4 : Int32)), .val (.int (0 : Int32)), .val (.int c0)] []))
  refine Run.pre (fun _ k => XS.iinc X9.here hx rfl (hb hby d6_38) rfl (l' := #[.val (.ref ar), .val (.int (1 : Int32)), .val (.ref ds), .val (.int (1 : Int32)), .val (.int (4 : Int32)), .val (.int (1 : Int32)), .val (.int c0)]) rfl k) ?_
  show Run p e below s _ _ _ (T9.setTop (mkF m 41 #[.val (.ref ar), .val (.int (1 : Int32)), .val (.ref ds), .val (.int (1 : Int32)), .val (.int (4 : Int32)), .val (.int (1 : Int32)), .val (.int c0)] []))
  refine Run.pre (fun _ k => XS.goto X9.here hx rfl (pc0 := 41) (pc' := 3) rfl (hb hby d6_41) (by decide) (by decide) k) ?_
  show Run p e below s _ _ _ (T9.setTop (mkF m 3 #[.val (.ref ar), .val (.int (1 : Int32)), .val (.ref ds), .val (.int (1 : Int32)), .val (.int (4 : Int32)), .val (.int (1 : Int32)), .val (.int c0)] []))
  refine Run.pre (fun _ k => XS.iload X9.here hx rfl (hb hby d6_3) rfl  k) ?_
  show Run p e below s _ _ _ (T9.setTop (mkF m 5 #[.val (.ref ar), .val (.int (1 : Int32)), .val (.ref ds), .val (.int (1 : Int32)), .val (.int (4 : Int32)), .val (.int (1 : Int32)), .val (.int c0)] [(.int (1 : Int32))]))
  refine Run.pre (fun _ k => XS.iload X9.here hx rfl (hb hby d6_5) rfl  k) ?_
  show Run p e below s _ _ _ (T9.setTop (mkF m 7 #[.val (.ref ar), .val (.int (1 : Int32)), .val (.ref ds), .val (.int (1 : Int32)), .val (.int (4 : Int32)), .val (.int (1 : Int32)), .val (.int c0)] [(.int (4 : Int32)), (.int (1 : Int32))]))
  refine Run.pre (fun _ k => XS.icmpNo X9.here hx rfl (hb hby d6_7) rfl (tlt ((by decide) : (1 : Int32) < (4 : Int32))).2.1 k) ?_
  show Run p e below s _ _ _ (T9.setTop (mkF m 10 #[.val (.ref ar), .val (.int (1 : Int32)), .val (.ref ds), .val (.int (1 : Int32)), .val (.int (4 : Int32)), .val (.int (1 : Int32)), .val (.int c0)] []))
  refine Run.pre (fun _ k => XS.aloadN X9.here hx rfl (hb hby d6_10) rfl rfl k) ?_
  show Run p e below s _ _ _ (T9.setTop (mkF m 11 #[.val (.ref ar), .val (.int (1 : Int32)), .val (.ref ds), .val (.int (1 : Int32)), .val (.int (4 : Int32)), .val (.int (1 : Int32)), .val (.int c0)] [(.ref ar)]))
  refine Run.pre (fun _ k => XS.iloadN X9.here hx rfl (hb hby d6_11) rfl  k) ?_
  show Run p e below s _ _ _ (T9.setTop (mkF m 12 #[.val (.ref ar), .val (.int (1 : Int32)), .val (.ref ds), .val (.int (1 : Int32)), .val (.int (4 : Int32)), .val (.int (1 : Int32)), .val (.int c0)] [(.int (1 : Int32)), (.ref ar)]))
  have f10 := (AC.other W9 nad)
  obtain ⟨c11, Ar11, -, S11, N11, H11, -⟩ := id f10
  have hin11 : ¬ ((1 : Int32) < 0 ∨ c11.slots.size ≤ ((1 : Int32)).toNatClampNeg) := inb_of S11 ⟨by decide, by decide⟩
  refine Run.pre (X9.caload hx (j := (1 : Int32)) (v := (.int c1)) (by rw [e9]; exact Ar11.1) (State.isArrayOf_alike hZ.alike Ar11.2.1) Ar11.2.2 hin11 (H11.at hin11 rfl) (g := (mkF m 12 #[.val (.ref ar), .val (.int (1 : Int32)), .val (.ref ds), .val (.int (1 : Int32)), .val (.int (4 : Int32)), .val (.int (1 : Int32)), .val (.int c0)] [(.int (1 : Int32)), (.ref ar)])) rfl rfl (hb hby d6_12)) ?_
  show Run p e below s _ _ _ (T9.setTop (mkF m 13 #[.val (.ref ar), .val (.int (1 : Int32)), .val (.ref ds), .val (.int (1 : Int32)), .val (.int (4 : Int32)), .val (.int (1 : Int32)), .val (.int c0)] [(.int c1)]))
  refine Run.pre (fun _ k => XS.istore X9.here hx rfl (hb hby d6_13) rfl (l' := #[.val (.ref ar), .val (.int (1 : Int32)), .val (.ref ds), .val (.int (1 : Int32)), .val (.int (4 : Int32)), .val (.int (1 : Int32)), .val (.int c1)]) rfl k) ?_
  show Run p e below s _ _ _ (T9.setTop (mkF m 15 #[.val (.ref ar), .val (.int (1 : Int32)), .val (.ref ds), .val (.int (1 : Int32)), .val (.int (4 : Int32)), .val (.int (1 : Int32)), .val (.int c1)] []))
  refine Run.pre (fun _ k => XS.iload X9.here hx rfl (hb hby d6_15) rfl  k) ?_
  show Run p e below s _ _ _ (T9.setTop (mkF m 17 #[.val (.ref ar), .val (.int (1 : Int32)), .val (.ref ds), .val (.int (1 : Int32)), .val (.int (4 : Int32)), .val (.int (1 : Int32)), .val (.int c1)] [(.int c1)]))
  refine Run.pre (fun _ k => XS.sipush X9.here hx rfl (hb hby d6_17) k) ?_
  show Run p e below s _ _ _ (T9.setTop (mkF m 20 #[.val (.ref ar), .val (.int (1 : Int32)), .val (.ref ds), .val (.int (1 : Int32)), .val (.int (4 : Int32)), .val (.int (1 : Int32)), .val (.int c1)] [(.int (255 : Int32)), (.int c1)]))
  refine Run.pre (fun _ k => XS.icmpYes X9.here hx rfl (pc0 := 20) (pc' := 26) rfl (hb hby d6_20) rfl (flt (q1 : ¬ ((255 : Int32) < c1))).2.2.2 (by decide) (by decide) k) ?_
  show Run p e below s _ _ _ (T9.setTop (mkF m 26 #[.val (.ref ar), .val (.int (1 : Int32)), .val (.ref ds), .val (.int (1 : Int32)), .val (.int (4 : Int32)), .val (.int (1 : Int32)), .val (.int c1)] []))
  refine Run.pre (fun _ k => XS.aloadN X9.here hx rfl (hb hby d6_26) rfl rfl k) ?_
  show Run p e below s _ _ _ (T9.setTop (mkF m 27 #[.val (.ref ar), .val (.int (1 : Int32)), .val (.ref ds), .val (.int (1 : Int32)), .val (.int (4 : Int32)), .val (.int (1 : Int32)), .val (.int c1)] [(.ref ds)]))
  refine Run.pre (fun _ k => XS.iloadN X9.here hx rfl (hb hby d6_27) rfl  k) ?_
  show Run p e below s _ _ _ (T9.setTop (mkF m 28 #[.val (.ref ar), .val (.int (1 : Int32)), .val (.ref ds), .val (.int (1 : Int32)), .val (.int (4 : Int32)), .val (.int (1 : Int32)), .val (.int c1)] [(.int (1 : Int32)), (.ref ds)]))
  refine Run.pre (fun _ k => XS.iload X9.here hx rfl (hb hby d6_28) rfl  k) ?_
  show Run p e below s _ _ _ (T9.setTop (mkF m 30 #[.val (.ref ar), .val (.int (1 : Int32)), .val (.ref ds), .val (.int (1 : Int32)), .val (.int (4 : Int32)), .val (.int (1 : Int32)), .val (.int c1)] [(.int c1), (.int (1 : Int32)), (.ref ds)]))
  refine Run.pre (fun _ k => XS.i2b X9.here hx rfl (hb hby d6_30) rfl k) ?_
  show Run p e below s _ _ _ (T9.setTop (mkF m 31 #[.val (.ref ar), .val (.int (1 : Int32)), .val (.ref ds), .val (.int (1 : Int32)), .val (.int (4 : Int32)), .val (.int (1 : Int32)), .val (.int c1)] [(.int (c1.toInt8.toInt32)), (.int (1 : Int32)), (.ref ds)]))
  obtain ⟨c12, Ar12, q12, S12, N12, H12, G12⟩ := id V_ds_9
  have hin12 : ¬ ((1 : Int32) < 0 ∨ c12.slots.size ≤ ((1 : Int32)).toNatClampNeg) := inb_of S12 ⟨by decide, by decide⟩
  obtain ⟨T13, h13, X13, e13, W13, st13⟩ := stB X9 hx hZ e9 Ar12 (j := (1 : Int32)) hin12 (g := (mkF m 31 #[.val (.ref ar), .val (.int (1 : Int32)), .val (.ref ds), .val (.int (1 : Int32)), .val (.int (4 : Int32)), .val (.int (1 : Int32)), .val (.int c1)] [(.int (c1.toInt8.toInt32)), (.int (1 : Int32)), (.ref ds)])) rfl rfl (hb hby d6_31)
  refine Run.pre st13 ?_
  have V_ds_13 : Arv Z h13 ds kb .byte (4 : Int32) [(.int (nar .byte (c0.toInt8.toInt32))), (.int (nar .byte (c1.toInt8.toInt32))), (.int (0 : Int32)), (.int (0 : Int32))] (.int (0 : Int32)) := Arv.set Ar12 q12 S12 N12 H12 G12 (fits_nar_byte _) W13 1 rfl (Nat.le_of_ble_eq_true rfl)
  have K13 : Keep h0 h13 [ds] := K9.wr W13 (Or.inl (by simp))
  have N13 := Fr.snoc X13 N9 g_ds
  show Run p e below s _ _ _ (T13.setTop (mkF m 32 #[.val (.ref ar), .val (.int (1 : Int32)), .val (.ref ds), .val (.int (1 : Int32)), .val (.int (4 : Int32)), .val (.int (1 : Int32)), .val (.int c1)] []))
  refine Run.pre (fun _ k => XS.iinc X13.here hx rfl (hb hby d6_32) rfl (l' := #[.val (.ref ar), .val (.int (2 : Int32)), .val (.ref ds), .val (.int (1 : Int32)), .val (.int (4 : Int32)), .val (.int (1 : Int32)), .val (.int c1)]) rfl k) ?_
  show Run p e below s _ _ _ (T13.setTop (mkF m 35 #[.val (.ref ar), .val (.int (2 : Int32)), .val (.ref ds), .val (.int (1 : Int32)), .val (.int (4 : Int32)), .val (.int (1 : Int32)), .val (.int c1)] []))
  refine Run.pre (fun _ k => XS.iinc X13.here hx rfl (hb hby d6_35) rfl (l' := #[.val (.ref ar), .val (.int (2 : Int32)), .val (.ref ds), .val (.int (2 : Int32)), .val (.int (4 : Int32)), .val (.int (1 : Int32)), .val (.int c1)]) rfl k) ?_
  show Run p e below s _ _ _ (T13.setTop (mkF m 38 #[.val (.ref ar), .val (.int (2 : Int32)), .val (.ref ds), .val (.int (2 : Int32)), .val (.int (4 : Int32)), .val (.int (1 : Int32)), .val (.int c1)] []))
  refine Run.pre (fun _ k => XS.iinc X13.here hx rfl (hb hby d6_38) rfl (l' := #[.val (.ref ar), .val (.int (2 : Int32)), .val (.ref ds), .val (.int (2 : Int32)), .val (.int (4 : Int32)), .val (.int (2 : Int32)), .val (.int c1)]) rfl k) ?_
  show Run p e below s _ _ _ (T13.setTop (mkF m 41 #[.val (.ref ar), .val (.int (2 : Int32)), .val (.ref ds), .val (.int (2 : Int32)), .val (.int (4 : Int32)), .val (.int (2 : Int32)), .val (.int c1)] []))
  refine Run.pre (fun _ k => XS.goto X13.here hx rfl (pc0 := 41) (pc' := 3) rfl (hb hby d6_41) (by decide) (by decide) k) ?_
  show Run p e below s _ _ _ (T13.setTop (mkF m 3 #[.val (.ref ar), .val (.int (2 : Int32)), .val (.ref ds), .val (.int (2 : Int32)), .val (.int (4 : Int32)), .val (.int (2 : Int32)), .val (.int c1)] []))
  refine Run.pre (fun _ k => XS.iload X13.here hx rfl (hb hby d6_3) rfl  k) ?_
  show Run p e below s _ _ _ (T13.setTop (mkF m 5 #[.val (.ref ar), .val (.int (2 : Int32)), .val (.ref ds), .val (.int (2 : Int32)), .val (.int (4 : Int32)), .val (.int (2 : Int32)), .val (.int c1)] [(.int (2 : Int32))]))
  refine Run.pre (fun _ k => XS.iload X13.here hx rfl (hb hby d6_5) rfl  k) ?_
  show Run p e below s _ _ _ (T13.setTop (mkF m 7 #[.val (.ref ar), .val (.int (2 : Int32)), .val (.ref ds), .val (.int (2 : Int32)), .val (.int (4 : Int32)), .val (.int (2 : Int32)), .val (.int c1)] [(.int (4 : Int32)), (.int (2 : Int32))]))
  refine Run.pre (fun _ k => XS.icmpNo X13.here hx rfl (hb hby d6_7) rfl (tlt ((by decide) : (2 : Int32) < (4 : Int32))).2.1 k) ?_
  show Run p e below s _ _ _ (T13.setTop (mkF m 10 #[.val (.ref ar), .val (.int (2 : Int32)), .val (.ref ds), .val (.int (2 : Int32)), .val (.int (4 : Int32)), .val (.int (2 : Int32)), .val (.int c1)] []))
  refine Run.pre (fun _ k => XS.aloadN X13.here hx rfl (hb hby d6_10) rfl rfl k) ?_
  show Run p e below s _ _ _ (T13.setTop (mkF m 11 #[.val (.ref ar), .val (.int (2 : Int32)), .val (.ref ds), .val (.int (2 : Int32)), .val (.int (4 : Int32)), .val (.int (2 : Int32)), .val (.int c1)] [(.ref ar)]))
  refine Run.pre (fun _ k => XS.iloadN X13.here hx rfl (hb hby d6_11) rfl  k) ?_
  show Run p e below s _ _ _ (T13.setTop (mkF m 12 #[.val (.ref ar), .val (.int (2 : Int32)), .val (.ref ds), .val (.int (2 : Int32)), .val (.int (4 : Int32)), .val (.int (2 : Int32)), .val (.int c1)] [(.int (2 : Int32)), (.ref ar)]))
  have f14 := (f10.other W13 nad)
  obtain ⟨c15, Ar15, -, S15, N15, H15, -⟩ := id f14
  have hin15 : ¬ ((2 : Int32) < 0 ∨ c15.slots.size ≤ ((2 : Int32)).toNatClampNeg) := inb_of S15 ⟨by decide, by decide⟩
  refine Run.pre (X13.caload hx (j := (2 : Int32)) (v := (.int c2)) (by rw [e13]; exact Ar15.1) (State.isArrayOf_alike hZ.alike Ar15.2.1) Ar15.2.2 hin15 (H15.at hin15 rfl) (g := (mkF m 12 #[.val (.ref ar), .val (.int (2 : Int32)), .val (.ref ds), .val (.int (2 : Int32)), .val (.int (4 : Int32)), .val (.int (2 : Int32)), .val (.int c1)] [(.int (2 : Int32)), (.ref ar)])) rfl rfl (hb hby d6_12)) ?_
  show Run p e below s _ _ _ (T13.setTop (mkF m 13 #[.val (.ref ar), .val (.int (2 : Int32)), .val (.ref ds), .val (.int (2 : Int32)), .val (.int (4 : Int32)), .val (.int (2 : Int32)), .val (.int c1)] [(.int c2)]))
  refine Run.pre (fun _ k => XS.istore X13.here hx rfl (hb hby d6_13) rfl (l' := #[.val (.ref ar), .val (.int (2 : Int32)), .val (.ref ds), .val (.int (2 : Int32)), .val (.int (4 : Int32)), .val (.int (2 : Int32)), .val (.int c2)]) rfl k) ?_
  show Run p e below s _ _ _ (T13.setTop (mkF m 15 #[.val (.ref ar), .val (.int (2 : Int32)), .val (.ref ds), .val (.int (2 : Int32)), .val (.int (4 : Int32)), .val (.int (2 : Int32)), .val (.int c2)] []))
  refine Run.pre (fun _ k => XS.iload X13.here hx rfl (hb hby d6_15) rfl  k) ?_
  show Run p e below s _ _ _ (T13.setTop (mkF m 17 #[.val (.ref ar), .val (.int (2 : Int32)), .val (.ref ds), .val (.int (2 : Int32)), .val (.int (4 : Int32)), .val (.int (2 : Int32)), .val (.int c2)] [(.int c2)]))
  refine Run.pre (fun _ k => XS.sipush X13.here hx rfl (hb hby d6_17) k) ?_
  show Run p e below s _ _ _ (T13.setTop (mkF m 20 #[.val (.ref ar), .val (.int (2 : Int32)), .val (.ref ds), .val (.int (2 : Int32)), .val (.int (4 : Int32)), .val (.int (2 : Int32)), .val (.int c2)] [(.int (255 : Int32)), (.int c2)]))
  refine Run.pre (fun _ k => XS.icmpNo X13.here hx rfl (hb hby d6_20) rfl (tlt (q2 : (255 : Int32) < c2)).2.2.2 k) ?_
  show Run p e below s _ _ _ (T13.setTop (mkF m 23 #[.val (.ref ar), .val (.int (2 : Int32)), .val (.ref ds), .val (.int (2 : Int32)), .val (.int (4 : Int32)), .val (.int (2 : Int32)), .val (.int c2)] []))
  refine Run.pre (fun _ k => XS.iload X13.here hx rfl (hb hby d6_23) rfl  k) ?_
  show Run p e below s _ _ _ (T13.setTop (mkF m 25 #[.val (.ref ar), .val (.int (2 : Int32)), .val (.ref ds), .val (.int (2 : Int32)), .val (.int (4 : Int32)), .val (.int (2 : Int32)), .val (.int c2)] [(.int (2 : Int32))]))
  exact Run.retI X13 hx hret hlk (hb hby d6_25) (by first | (rw [e13]; exact ⟨rfl, N13, K13⟩) | exact ⟨rfl, N13, K13⟩) (by decide) (by decide)
set_option maxRecDepth 65536 in
set_option maxHeartbeats 40000000 in
theorem rmC2_4_3 (l : Launch) (Z : State) (a0 : Array Value) (hw : ∀ d ∈ tables_1, d.before a0 Z = true) (ar : Addr) (ds : Addr) (kc : ClassId) (kb : ClassId) (c0 : Int32) (c1 : Int32) (c2 : Int32) (c3 : Int32) (h0 : Heap) (n0 : Nat) (Z0 : n0 ≤ h0.size) (AC : Arv Z h0 ar kc .char 4 [(.int c0), (.int c1), (.int c2), (.int c3)] (.int 0)) (AB : Arv Z h0 ds kb .byte 4 [(.int (0 : Int32)), (.int (0 : Int32)), (.int (0 : Int32)), (.int (0 : Int32))] (.int 0)) (nad : ar ≠ ds) (g_ds : n0 ≤ ds) (q0 : ¬ (255 : Int32) < c0) (q1 : ¬ (255 : Int32) < c1) (q2 : ¬ (255 : Int32) < c2) (q3 : (255 : Int32) < c3) :
    Con l (⟨"java/lang/StringUTF16", "compress", "([CI[BII)I"⟩ : MethodName) jdk_52_method_21_code 7 (some .int) ({ frames := 0, cells := 0, slots := 0, locals := 0 } : Room) Z #[(.ref ar), (.int (0 : Int32)), (.ref ds), (.int (0 : Int32)), (.int (4 : Int32))] h0 (fun v h L => v = some (.int 3) ∧ Fr n0 L ∧ Keep h0 h [ds]) := by
  refine Con.mk (plainFor_of_name pn_6) (fun m => show entryFrame m #[(.ref ar), (.int (0 : Int32)), (.ref ds), (.int (0 : Int32)), (.int (4 : Int32))] 7 = mkF m 0 #[.val (.ref ar), .val (.int (0 : Int32)), .val (.ref ds), .val (.int (0 : Int32)), .val (.int (4 : Int32)), .unset, .unset] [] by first | (simp [entryFrame, mkF, argsToLocals, Value.category]; done) | rfl) ?_
  intro p e s m below meth c s₁ hx hby hml hown hnm hret hlk hZ X0 e0
  have N0 := Fr.nil n0
  show Run p e below s _ _ _ (s₁.setTop (mkF m 0 #[.val (.ref ar), .val (.int (0 : Int32)), .val (.ref ds), .val (.int (0 : Int32)), .val (.int (4 : Int32)), .unset, .unset] []))
  refine Run.pre (fun _ k => XS.iconst X0.here hx rfl (hb hby d6_0) k) ?_
  show Run p e below s _ _ _ (s₁.setTop (mkF m 1 #[.val (.ref ar), .val (.int (0 : Int32)), .val (.ref ds), .val (.int (0 : Int32)), .val (.int (4 : Int32)), .unset, .unset] [(.int (0 : Int32))]))
  refine Run.pre (fun _ k => XS.istore X0.here hx rfl (hb hby d6_1) rfl (l' := #[.val (.ref ar), .val (.int (0 : Int32)), .val (.ref ds), .val (.int (0 : Int32)), .val (.int (4 : Int32)), .val (.int (0 : Int32)), .unset]) rfl k) ?_
  show Run p e below s _ _ _ (s₁.setTop (mkF m 3 #[.val (.ref ar), .val (.int (0 : Int32)), .val (.ref ds), .val (.int (0 : Int32)), .val (.int (4 : Int32)), .val (.int (0 : Int32)), .unset] []))
  refine Run.pre (fun _ k => XS.iload X0.here hx rfl (hb hby d6_3) rfl  k) ?_
  show Run p e below s _ _ _ (s₁.setTop (mkF m 5 #[.val (.ref ar), .val (.int (0 : Int32)), .val (.ref ds), .val (.int (0 : Int32)), .val (.int (4 : Int32)), .val (.int (0 : Int32)), .unset] [(.int (0 : Int32))]))
  refine Run.pre (fun _ k => XS.iload X0.here hx rfl (hb hby d6_5) rfl  k) ?_
  show Run p e below s _ _ _ (s₁.setTop (mkF m 7 #[.val (.ref ar), .val (.int (0 : Int32)), .val (.ref ds), .val (.int (0 : Int32)), .val (.int (4 : Int32)), .val (.int (0 : Int32)), .unset] [(.int (4 : Int32)), (.int (0 : Int32))]))
  refine Run.pre (fun _ k => XS.icmpNo X0.here hx rfl (hb hby d6_7) rfl (tlt ((by decide) : (0 : Int32) < (4 : Int32))).2.1 k) ?_
  show Run p e below s _ _ _ (s₁.setTop (mkF m 10 #[.val (.ref ar), .val (.int (0 : Int32)), .val (.ref ds), .val (.int (0 : Int32)), .val (.int (4 : Int32)), .val (.int (0 : Int32)), .unset] []))
  refine Run.pre (fun _ k => XS.aloadN X0.here hx rfl (hb hby d6_10) rfl rfl k) ?_
  show Run p e below s _ _ _ (s₁.setTop (mkF m 11 #[.val (.ref ar), .val (.int (0 : Int32)), .val (.ref ds), .val (.int (0 : Int32)), .val (.int (4 : Int32)), .val (.int (0 : Int32)), .unset] [(.ref ar)]))
  refine Run.pre (fun _ k => XS.iloadN X0.here hx rfl (hb hby d6_11) rfl  k) ?_
  show Run p e below s _ _ _ (s₁.setTop (mkF m 12 #[.val (.ref ar), .val (.int (0 : Int32)), .val (.ref ds), .val (.int (0 : Int32)), .val (.int (4 : Int32)), .val (.int (0 : Int32)), .unset] [(.int (0 : Int32)), (.ref ar)]))
  obtain ⟨c16, Ar16, -, S16, N16, H16, -⟩ := id AC
  have hin16 : ¬ ((0 : Int32) < 0 ∨ c16.slots.size ≤ ((0 : Int32)).toNatClampNeg) := inb_of S16 ⟨by decide, by decide⟩
  refine Run.pre (X0.caload hx (j := (0 : Int32)) (v := (.int c0)) (by rw [e0]; exact Ar16.1) (State.isArrayOf_alike hZ.alike Ar16.2.1) Ar16.2.2 hin16 (H16.at hin16 rfl) (g := (mkF m 12 #[.val (.ref ar), .val (.int (0 : Int32)), .val (.ref ds), .val (.int (0 : Int32)), .val (.int (4 : Int32)), .val (.int (0 : Int32)), .unset] [(.int (0 : Int32)), (.ref ar)])) rfl rfl (hb hby d6_12)) ?_
  show Run p e below s _ _ _ (s₁.setTop (mkF m 13 #[.val (.ref ar), .val (.int (0 : Int32)), .val (.ref ds), .val (.int (0 : Int32)), .val (.int (4 : Int32)), .val (.int (0 : Int32)), .unset] [(.int c0)]))
  refine Run.pre (fun _ k => XS.istore X0.here hx rfl (hb hby d6_13) rfl (l' := #[.val (.ref ar), .val (.int (0 : Int32)), .val (.ref ds), .val (.int (0 : Int32)), .val (.int (4 : Int32)), .val (.int (0 : Int32)), .val (.int c0)]) rfl k) ?_
  show Run p e below s _ _ _ (s₁.setTop (mkF m 15 #[.val (.ref ar), .val (.int (0 : Int32)), .val (.ref ds), .val (.int (0 : Int32)), .val (.int (4 : Int32)), .val (.int (0 : Int32)), .val (.int c0)] []))
  refine Run.pre (fun _ k => XS.iload X0.here hx rfl (hb hby d6_15) rfl  k) ?_
  show Run p e below s _ _ _ (s₁.setTop (mkF m 17 #[.val (.ref ar), .val (.int (0 : Int32)), .val (.ref ds), .val (.int (0 : Int32)), .val (.int (4 : Int32)), .val (.int (0 : Int32)), .val (.int c0)] [(.int c0)]))
  refine Run.pre (fun _ k => XS.sipush X0.here hx rfl (hb hby d6_17) k) ?_
  show Run p e below s _ _ _ (s₁.setTop (mkF m 20 #[.val (.ref ar), .val (.int (0 : Int32)), .val (.ref ds), .val (.int (0 : Int32)), .val (.int (4 : Int32)), .val (.int (0 : Int32)), .val (.int c0)] [(.int (255 : Int32)), (.int c0)]))
  refine Run.pre (fun _ k => XS.icmpYes X0.here hx rfl (pc0 := 20) (pc' := 26) rfl (hb hby d6_20) rfl (flt (q0 : ¬ ((255 : Int32) < c0))).2.2.2 (by decide) (by decide) k) ?_
  show Run p e below s _ _ _ (s₁.setTop (mkF m 26 #[.val (.ref ar), .val (.int (0 : Int32)), .val (.ref ds), .val (.int (0 : Int32)), .val (.int (4 : Int32)), .val (.int (0 : Int32)), .val (.int c0)] []))
  refine Run.pre (fun _ k => XS.aloadN X0.here hx rfl (hb hby d6_26) rfl rfl k) ?_
  show Run p e below s _ _ _ (s₁.setTop (mkF m 27 #[.val (.ref ar), .val (.int (0 : Int32)), .val (.ref ds), .val (.int (0 : Int32)), .val (.int (4 : Int32)), .val (.int (0 : Int32)), .val (.int c0)] [(.ref ds)]))
  refine Run.pre (fun _ k => XS.iloadN X0.here hx rfl (hb hby d6_27) rfl  k) ?_
  show Run p e below s _ _ _ (s₁.setTop (mkF m 28 #[.val (.ref ar), .val (.int (0 : Int32)), .val (.ref ds), .val (.int (0 : Int32)), .val (.int (4 : Int32)), .val (.int (0 : Int32)), .val (.int c0)] [(.int (0 : Int32)), (.ref ds)]))
  refine Run.pre (fun _ k => XS.iload X0.here hx rfl (hb hby d6_28) rfl  k) ?_
  show Run p e below s _ _ _ (s₁.setTop (mkF m 30 #[.val (.ref ar), .val (.int (0 : Int32)), .val (.ref ds), .val (.int (0 : Int32)), .val (.int (4 : Int32)), .val (.int (0 : Int32)), .val (.int c0)] [(.int c0), (.int (0 : Int32)), (.ref ds)]))
  refine Run.pre (fun _ k => XS.i2b X0.here hx rfl (hb hby d6_30) rfl k) ?_
  show Run p e below s _ _ _ (s₁.setTop (mkF m 31 #[.val (.ref ar), .val (.int (0 : Int32)), .val (.ref ds), .val (.int (0 : Int32)), .val (.int (4 : Int32)), .val (.int (0 : Int32)), .val (.int c0)] [(.int (c0.toInt8.toInt32)), (.int (0 : Int32)), (.ref ds)]))
  obtain ⟨c17, Ar17, q17, S17, N17, H17, G17⟩ := id AB
  have hin17 : ¬ ((0 : Int32) < 0 ∨ c17.slots.size ≤ ((0 : Int32)).toNatClampNeg) := inb_of S17 ⟨by decide, by decide⟩
  obtain ⟨T18, h18, X18, e18, W18, st18⟩ := stB X0 hx hZ e0 Ar17 (j := (0 : Int32)) hin17 (g := (mkF m 31 #[.val (.ref ar), .val (.int (0 : Int32)), .val (.ref ds), .val (.int (0 : Int32)), .val (.int (4 : Int32)), .val (.int (0 : Int32)), .val (.int c0)] [(.int (c0.toInt8.toInt32)), (.int (0 : Int32)), (.ref ds)])) rfl rfl (hb hby d6_31)
  refine Run.pre st18 ?_
  have V_ds_18 : Arv Z h18 ds kb .byte (4 : Int32) [(.int (nar .byte (c0.toInt8.toInt32))), (.int (0 : Int32)), (.int (0 : Int32)), (.int (0 : Int32))] (.int (0 : Int32)) := Arv.set Ar17 q17 S17 N17 H17 G17 (fits_nar_byte _) W18 0 rfl (Nat.le_of_ble_eq_true rfl)
  have K18 : Keep h0 h18 [ds] := (Keep.refl h0 [ds]).wr W18 (Or.inl (by simp))
  have N18 := Fr.snoc X18 N0 g_ds
  show Run p e below s _ _ _ (T18.setTop (mkF m 32 #[.val (.ref ar), .val (.int (0 : Int32)), .val (.ref ds), .val (.int (0 : Int32)), .val (.int (4 : Int32)), .val (.int (0 : Int32)), .val (.int c0)] []))
  refine Run.pre (fun _ k => XS.iinc X18.here hx rfl (hb hby d6_32) rfl (l' := #[.val (.ref ar), .val (.int (1 : Int32)), .val (.ref ds), .val (.int (0 : Int32)), .val (.int (4 : Int32)), .val (.int (0 : Int32)), .val (.int c0)]) rfl k) ?_
  show Run p e below s _ _ _ (T18.setTop (mkF m 35 #[.val (.ref ar), .val (.int (1 : Int32)), .val (.ref ds), .val (.int (0 : Int32)), .val (.int (4 : Int32)), .val (.int (0 : Int32)), .val (.int c0)] []))
  refine Run.pre (fun _ k => XS.iinc X18.here hx rfl (hb hby d6_35) rfl (l' := #[.val (.ref ar), .val (.int (1 : Int32)), .val (.ref ds), .val (.int (1 : Int32)), .val (.int (4 : Int32)), .val (.int (0 : Int32)), .val (.int c0)]) rfl k) ?_
  show Run p e below s _ _ _ (T18.setTop (mkF m 38 #[.val (.ref ar), .val (.int (1 : Int32)), .val (.ref ds), .val (.int (1 : Int32)), .val (.int (4 : Int32)), .val (.int (0 : Int32)), .val (.int c0)] []))
  refine Run.pre (fun _ k => XS.iinc X18.here hx rfl (hb hby d6_38) rfl (l' := #[.val (.ref ar), .val (.int (1 : Int32)), .val (.ref ds), .val (.int (1 : Int32)), .val (.int (4 : Int32)), .val (.int (1 : Int32)), .val (.int c0)]) rfl k) ?_
  show Run p e below s _ _ _ (T18.setTop (mkF m 41 #[.val (.ref ar), .val (.int (1 : Int32)), .val (.ref ds), .val (.int (1 : Int32)), .val (.int (4 : Int32)), .val (.int (1 : Int32)), .val (.int c0)] []))
  refine Run.pre (fun _ k => XS.goto X18.here hx rfl (pc0 := 41) (pc' := 3) rfl (hb hby d6_41) (by decide) (by decide) k) ?_
  show Run p e below s _ _ _ (T18.setTop (mkF m 3 #[.val (.ref ar), .val (.int (1 : Int32)), .val (.ref ds), .val (.int (1 : Int32)), .val (.int (4 : Int32)), .val (.int (1 : Int32)), .val (.int c0)] []))
  refine Run.pre (fun _ k => XS.iload X18.here hx rfl (hb hby d6_3) rfl  k) ?_
  show Run p e below s _ _ _ (T18.setTop (mkF m 5 #[.val (.ref ar), .val (.int (1 : Int32)), .val (.ref ds), .val (.int (1 : Int32)), .val (.int (4 : Int32)), .val (.int (1 : Int32)), .val (.int c0)] [(.int (1 : Int32))]))
  refine Run.pre (fun _ k => XS.iload X18.here hx rfl (hb hby d6_5) rfl  k) ?_
  show Run p e below s _ _ _ (T18.setTop (mkF m 7 #[.val (.ref ar), .val (.int (1 : Int32)), .val (.ref ds), .val (.int (1 : Int32)), .val (.int (4 : Int32)), .val (.int (1 : Int32)), .val (.int c0)] [(.int (4 : Int32)), (.int (1 : Int32))]))
  refine Run.pre (fun _ k => XS.icmpNo X18.here hx rfl (hb hby d6_7) rfl (tlt ((by decide) : (1 : Int32) < (4 : Int32))).2.1 k) ?_
  show Run p e below s _ _ _ (T18.setTop (mkF m 10 #[.val (.ref ar), .val (.int (1 : Int32)), .val (.ref ds), .val (.int (1 : Int32)), .val (.int (4 : Int32)), .val (.int (1 : Int32)), .val (.int c0)] []))
  refine Run.pre (fun _ k => XS.aloadN X18.here hx rfl (hb hby d6_10) rfl rfl k) ?_
  show Run p e below s _ _ _ (T18.setTop (mkF m 11 #[.val (.ref ar), .val (.int (1 : Int32)), .val (.ref ds), .val (.int (1 : Int32)), .val (.int (4 : Int32)), .val (.int (1 : Int32)), .val (.int c0)] [(.ref ar)]))
  refine Run.pre (fun _ k => XS.iloadN X18.here hx rfl (hb hby d6_11) rfl  k) ?_
  show Run p e below s _ _ _ (T18.setTop (mkF m 12 #[.val (.ref ar), .val (.int (1 : Int32)), .val (.ref ds), .val (.int (1 : Int32)), .val (.int (4 : Int32)), .val (.int (1 : Int32)), .val (.int c0)] [(.int (1 : Int32)), (.ref ar)]))
  have f19 := (AC.other W18 nad)
  obtain ⟨c20, Ar20, -, S20, N20, H20, -⟩ := id f19
  have hin20 : ¬ ((1 : Int32) < 0 ∨ c20.slots.size ≤ ((1 : Int32)).toNatClampNeg) := inb_of S20 ⟨by decide, by decide⟩
  refine Run.pre (X18.caload hx (j := (1 : Int32)) (v := (.int c1)) (by rw [e18]; exact Ar20.1) (State.isArrayOf_alike hZ.alike Ar20.2.1) Ar20.2.2 hin20 (H20.at hin20 rfl) (g := (mkF m 12 #[.val (.ref ar), .val (.int (1 : Int32)), .val (.ref ds), .val (.int (1 : Int32)), .val (.int (4 : Int32)), .val (.int (1 : Int32)), .val (.int c0)] [(.int (1 : Int32)), (.ref ar)])) rfl rfl (hb hby d6_12)) ?_
  show Run p e below s _ _ _ (T18.setTop (mkF m 13 #[.val (.ref ar), .val (.int (1 : Int32)), .val (.ref ds), .val (.int (1 : Int32)), .val (.int (4 : Int32)), .val (.int (1 : Int32)), .val (.int c0)] [(.int c1)]))
  refine Run.pre (fun _ k => XS.istore X18.here hx rfl (hb hby d6_13) rfl (l' := #[.val (.ref ar), .val (.int (1 : Int32)), .val (.ref ds), .val (.int (1 : Int32)), .val (.int (4 : Int32)), .val (.int (1 : Int32)), .val (.int c1)]) rfl k) ?_
  show Run p e below s _ _ _ (T18.setTop (mkF m 15 #[.val (.ref ar), .val (.int (1 : Int32)), .val (.ref ds), .val (.int (1 : Int32)), .val (.int (4 : Int32)), .val (.int (1 : Int32)), .val (.int c1)] []))
  refine Run.pre (fun _ k => XS.iload X18.here hx rfl (hb hby d6_15) rfl  k) ?_
  show Run p e below s _ _ _ (T18.setTop (mkF m 17 #[.val (.ref ar), .val (.int (1 : Int32)), .val (.ref ds), .val (.int (1 : Int32)), .val (.int (4 : Int32)), .val (.int (1 : Int32)), .val (.int c1)] [(.int c1)]))
  refine Run.pre (fun _ k => XS.sipush X18.here hx rfl (hb hby d6_17) k) ?_
  show Run p e below s _ _ _ (T18.setTop (mkF m 20 #[.val (.ref ar), .val (.int (1 : Int32)), .val (.ref ds), .val (.int (1 : Int32)), .val (.int (4 : Int32)), .val (.int (1 : Int32)), .val (.int c1)] [(.int (255 : Int32)), (.int c1)]))
  refine Run.pre (fun _ k => XS.icmpYes X18.here hx rfl (pc0 := 20) (pc' := 26) rfl (hb hby d6_20) rfl (flt (q1 : ¬ ((255 : Int32) < c1))).2.2.2 (by decide) (by decide) k) ?_
  show Run p e below s _ _ _ (T18.setTop (mkF m 26 #[.val (.ref ar), .val (.int (1 : Int32)), .val (.ref ds), .val (.int (1 : Int32)), .val (.int (4 : Int32)), .val (.int (1 : Int32)), .val (.int c1)] []))
  refine Run.pre (fun _ k => XS.aloadN X18.here hx rfl (hb hby d6_26) rfl rfl k) ?_
  show Run p e below s _ _ _ (T18.setTop (mkF m 27 #[.val (.ref ar), .val (.int (1 : Int32)), .val (.ref ds), .val (.int (1 : Int32)), .val (.int (4 : Int32)), .val (.int (1 : Int32)), .val (.int c1)] [(.ref ds)]))
  refine Run.pre (fun _ k => XS.iloadN X18.here hx rfl (hb hby d6_27) rfl  k) ?_
  show Run p e below s _ _ _ (T18.setTop (mkF m 28 #[.val (.ref ar), .val (.int (1 : Int32)), .val (.ref ds), .val (.int (1 : Int32)), .val (.int (4 : Int32)), .val (.int (1 : Int32)), .val (.int c1)] [(.int (1 : Int32)), (.ref ds)]))
  refine Run.pre (fun _ k => XS.iload X18.here hx rfl (hb hby d6_28) rfl  k) ?_
  show Run p e below s _ _ _ (T18.setTop (mkF m 30 #[.val (.ref ar), .val (.int (1 : Int32)), .val (.ref ds), .val (.int (1 : Int32)), .val (.int (4 : Int32)), .val (.int (1 : Int32)), .val (.int c1)] [(.int c1), (.int (1 : Int32)), (.ref ds)]))
  refine Run.pre (fun _ k => XS.i2b X18.here hx rfl (hb hby d6_30) rfl k) ?_
  show Run p e below s _ _ _ (T18.setTop (mkF m 31 #[.val (.ref ar), .val (.int (1 : Int32)), .val (.ref ds), .val (.int (1 : Int32)), .val (.int (4 : Int32)), .val (.int (1 : Int32)), .val (.int c1)] [(.int (c1.toInt8.toInt32)), (.int (1 : Int32)), (.ref ds)]))
  obtain ⟨c21, Ar21, q21, S21, N21, H21, G21⟩ := id V_ds_18
  have hin21 : ¬ ((1 : Int32) < 0 ∨ c21.slots.size ≤ ((1 : Int32)).toNatClampNeg) := inb_of S21 ⟨by decide, by decide⟩
  obtain ⟨T22, h22, X22, e22, W22, st22⟩ := stB X18 hx hZ e18 Ar21 (j := (1 : Int32)) hin21 (g := (mkF m 31 #[.val (.ref ar), .val (.int (1 : Int32)), .val (.ref ds), .val (.int (1 : Int32)), .val (.int (4 : Int32)), .val (.int (1 : Int32)), .val (.int c1)] [(.int (c1.toInt8.toInt32)), (.int (1 : Int32)), (.ref ds)])) rfl rfl (hb hby d6_31)
  refine Run.pre st22 ?_
  have V_ds_22 : Arv Z h22 ds kb .byte (4 : Int32) [(.int (nar .byte (c0.toInt8.toInt32))), (.int (nar .byte (c1.toInt8.toInt32))), (.int (0 : Int32)), (.int (0 : Int32))] (.int (0 : Int32)) := Arv.set Ar21 q21 S21 N21 H21 G21 (fits_nar_byte _) W22 1 rfl (Nat.le_of_ble_eq_true rfl)
  have K22 : Keep h0 h22 [ds] := K18.wr W22 (Or.inl (by simp))
  have N22 := Fr.snoc X22 N18 g_ds
  show Run p e below s _ _ _ (T22.setTop (mkF m 32 #[.val (.ref ar), .val (.int (1 : Int32)), .val (.ref ds), .val (.int (1 : Int32)), .val (.int (4 : Int32)), .val (.int (1 : Int32)), .val (.int c1)] []))
  refine Run.pre (fun _ k => XS.iinc X22.here hx rfl (hb hby d6_32) rfl (l' := #[.val (.ref ar), .val (.int (2 : Int32)), .val (.ref ds), .val (.int (1 : Int32)), .val (.int (4 : Int32)), .val (.int (1 : Int32)), .val (.int c1)]) rfl k) ?_
  show Run p e below s _ _ _ (T22.setTop (mkF m 35 #[.val (.ref ar), .val (.int (2 : Int32)), .val (.ref ds), .val (.int (1 : Int32)), .val (.int (4 : Int32)), .val (.int (1 : Int32)), .val (.int c1)] []))
  refine Run.pre (fun _ k => XS.iinc X22.here hx rfl (hb hby d6_35) rfl (l' := #[.val (.ref ar), .val (.int (2 : Int32)), .val (.ref ds), .val (.int (2 : Int32)), .val (.int (4 : Int32)), .val (.int (1 : Int32)), .val (.int c1)]) rfl k) ?_
  show Run p e below s _ _ _ (T22.setTop (mkF m 38 #[.val (.ref ar), .val (.int (2 : Int32)), .val (.ref ds), .val (.int (2 : Int32)), .val (.int (4 : Int32)), .val (.int (1 : Int32)), .val (.int c1)] []))
  refine Run.pre (fun _ k => XS.iinc X22.here hx rfl (hb hby d6_38) rfl (l' := #[.val (.ref ar), .val (.int (2 : Int32)), .val (.ref ds), .val (.int (2 : Int32)), .val (.int (4 : Int32)), .val (.int (2 : Int32)), .val (.int c1)]) rfl k) ?_
  show Run p e below s _ _ _ (T22.setTop (mkF m 41 #[.val (.ref ar), .val (.int (2 : Int32)), .val (.ref ds), .val (.int (2 : Int32)), .val (.int (4 : Int32)), .val (.int (2 : Int32)), .val (.int c1)] []))
  refine Run.pre (fun _ k => XS.goto X22.here hx rfl (pc0 := 41) (pc' := 3) rfl (hb hby d6_41) (by decide) (by decide) k) ?_
  show Run p e below s _ _ _ (T22.setTop (mkF m 3 #[.val (.ref ar), .val (.int (2 : Int32)), .val (.ref ds), .val (.int (2 : Int32)), .val (.int (4 : Int32)), .val (.int (2 : Int32)), .val (.int c1)] []))
  refine Run.pre (fun _ k => XS.iload X22.here hx rfl (hb hby d6_3) rfl  k) ?_
  show Run p e below s _ _ _ (T22.setTop (mkF m 5 #[.val (.ref ar), .val (.int (2 : Int32)), .val (.ref ds), .val (.int (2 : Int32)), .val (.int (4 : Int32)), .val (.int (2 : Int32)), .val (.int c1)] [(.int (2 : Int32))]))
  refine Run.pre (fun _ k => XS.iload X22.here hx rfl (hb hby d6_5) rfl  k) ?_
  show Run p e below s _ _ _ (T22.setTop (mkF m 7 #[.val (.ref ar), .val (.int (2 : Int32)), .val (.ref ds), .val (.int (2 : Int32)), .val (.int (4 : Int32)), .val (.int (2 : Int32)), .val (.int c1)] [(.int (4 : Int32)), (.int (2 : Int32))]))
  refine Run.pre (fun _ k => XS.icmpNo X22.here hx rfl (hb hby d6_7) rfl (tlt ((by decide) : (2 : Int32) < (4 : Int32))).2.1 k) ?_
  show Run p e below s _ _ _ (T22.setTop (mkF m 10 #[.val (.ref ar), .val (.int (2 : Int32)), .val (.ref ds), .val (.int (2 : Int32)), .val (.int (4 : Int32)), .val (.int (2 : Int32)), .val (.int c1)] []))
  refine Run.pre (fun _ k => XS.aloadN X22.here hx rfl (hb hby d6_10) rfl rfl k) ?_
  show Run p e below s _ _ _ (T22.setTop (mkF m 11 #[.val (.ref ar), .val (.int (2 : Int32)), .val (.ref ds), .val (.int (2 : Int32)), .val (.int (4 : Int32)), .val (.int (2 : Int32)), .val (.int c1)] [(.ref ar)]))
  refine Run.pre (fun _ k => XS.iloadN X22.here hx rfl (hb hby d6_11) rfl  k) ?_
  show Run p e below s _ _ _ (T22.setTop (mkF m 12 #[.val (.ref ar), .val (.int (2 : Int32)), .val (.ref ds), .val (.int (2 : Int32)), .val (.int (4 : Int32)), .val (.int (2 : Int32)), .val (.int c1)] [(.int (2 : Int32)), (.ref ar)]))
  have f23 := (f19.other W22 nad)
  obtain ⟨c24, Ar24, -, S24, N24, H24, -⟩ := id f23
  have hin24 : ¬ ((2 : Int32) < 0 ∨ c24.slots.size ≤ ((2 : Int32)).toNatClampNeg) := inb_of S24 ⟨by decide, by decide⟩
  refine Run.pre (X22.caload hx (j := (2 : Int32)) (v := (.int c2)) (by rw [e22]; exact Ar24.1) (State.isArrayOf_alike hZ.alike Ar24.2.1) Ar24.2.2 hin24 (H24.at hin24 rfl) (g := (mkF m 12 #[.val (.ref ar), .val (.int (2 : Int32)), .val (.ref ds), .val (.int (2 : Int32)), .val (.int (4 : Int32)), .val (.int (2 : Int32)), .val (.int c1)] [(.int (2 : Int32)), (.ref ar)])) rfl rfl (hb hby d6_12)) ?_
  show Run p e below s _ _ _ (T22.setTop (mkF m 13 #[.val (.ref ar), .val (.int (2 : Int32)), .val (.ref ds), .val (.int (2 : Int32)), .val (.int (4 : Int32)), .val (.int (2 : Int32)), .val (.int c1)] [(.int c2)]))
  refine Run.pre (fun _ k => XS.istore X22.here hx rfl (hb hby d6_13) rfl (l' := #[.val (.ref ar), .val (.int (2 : Int32)), .val (.ref ds), .val (.int (2 : Int32)), .val (.int (4 : Int32)), .val (.int (2 : Int32)), .val (.int c2)]) rfl k) ?_
  show Run p e below s _ _ _ (T22.setTop (mkF m 15 #[.val (.ref ar), .val (.int (2 : Int32)), .val (.ref ds), .val (.int (2 : Int32)), .val (.int (4 : Int32)), .val (.int (2 : Int32)), .val (.int c2)] []))
  refine Run.pre (fun _ k => XS.iload X22.here hx rfl (hb hby d6_15) rfl  k) ?_
  show Run p e below s _ _ _ (T22.setTop (mkF m 17 #[.val (.ref ar), .val (.int (2 : Int32)), .val (.ref ds), .val (.int (2 : Int32)), .val (.int (4 : Int32)), .val (.int (2 : Int32)), .val (.int c2)] [(.int c2)]))
  refine Run.pre (fun _ k => XS.sipush X22.here hx rfl (hb hby d6_17) k) ?_
  show Run p e below s _ _ _ (T22.setTop (mkF m 20 #[.val (.ref ar), .val (.int (2 : Int32)), .val (.ref ds), .val (.int (2 : Int32)), .val (.int (4 : Int32)), .val (.int (2 : Int32)), .val (.int c2)] [(.int (255 : Int32)), (.int c2)]))
  refine Run.pre (fun _ k => XS.icmpYes X22.here hx rfl (pc0 := 20) (pc' := 26) rfl (hb hby d6_20) rfl (flt (q2 : ¬ ((255 : Int32) < c2))).2.2.2 (by decide) (by decide) k) ?_
  show Run p e below s _ _ _ (T22.setTop (mkF m 26 #[.val (.ref ar), .val (.int (2 : Int32)), .val (.ref ds), .val (.int (2 : Int32)), .val (.int (4 : Int32)), .val (.int (2 : Int32)), .val (.int c2)] []))
  refine Run.pre (fun _ k => XS.aloadN X22.here hx rfl (hb hby d6_26) rfl rfl k) ?_
  show Run p e below s _ _ _ (T22.setTop (mkF m 27 #[.val (.ref ar), .val (.int (2 : Int32)), .val (.ref ds), .val (.int (2 : Int32)), .val (.int (4 : Int32)), .val (.int (2 : Int32)), .val (.int c2)] [(.ref ds)]))
  refine Run.pre (fun _ k => XS.iloadN X22.here hx rfl (hb hby d6_27) rfl  k) ?_
  show Run p e below s _ _ _ (T22.setTop (mkF m 28 #[.val (.ref ar), .val (.int (2 : Int32)), .val (.ref ds), .val (.int (2 : Int32)), .val (.int (4 : Int32)), .val (.int (2 : Int32)), .val (.int c2)] [(.int (2 : Int32)), (.ref ds)]))
  refine Run.pre (fun _ k => XS.iload X22.here hx rfl (hb hby d6_28) rfl  k) ?_
  show Run p e below s _ _ _ (T22.setTop (mkF m 30 #[.val (.ref ar), .val (.int (2 : Int32)), .val (.ref ds), .val (.int (2 : Int32)), .val (.int (4 : Int32)), .val (.int (2 : Int32)), .val (.int c2)] [(.int c2), (.int (2 : Int32)), (.ref ds)]))
  refine Run.pre (fun _ k => XS.i2b X22.here hx rfl (hb hby d6_30) rfl k) ?_
  show Run p e below s _ _ _ (T22.setTop (mkF m 31 #[.val (.ref ar), .val (.int (2 : Int32)), .val (.ref ds), .val (.int (2 : Int32)), .val (.int (4 : Int32)), .val (.int (2 : Int32)), .val (.int c2)] [(.int (c2.toInt8.toInt32)), (.int (2 : Int32)), (.ref ds)]))
  obtain ⟨c25, Ar25, q25, S25, N25, H25, G25⟩ := id V_ds_22
  have hin25 : ¬ ((2 : Int32) < 0 ∨ c25.slots.size ≤ ((2 : Int32)).toNatClampNeg) := inb_of S25 ⟨by decide, by decide⟩
  obtain ⟨T26, h26, X26, e26, W26, st26⟩ := stB X22 hx hZ e22 Ar25 (j := (2 : Int32)) hin25 (g := (mkF m 31 #[.val (.ref ar), .val (.int (2 : Int32)), .val (.ref ds), .val (.int (2 : Int32)), .val (.int (4 : Int32)), .val (.int (2 : Int32)), .val (.int c2)] [(.int (c2.toInt8.toInt32)), (.int (2 : Int32)), (.ref ds)])) rfl rfl (hb hby d6_31)
  refine Run.pre st26 ?_
  have V_ds_26 : Arv Z h26 ds kb .byte (4 : Int32) [(.int (nar .byte (c0.toInt8.toInt32))), (.int (nar .byte (c1.toInt8.toInt32))), (.int (nar .byte (c2.toInt8.toInt32))), (.int (0 : Int32))] (.int (0 : Int32)) := Arv.set Ar25 q25 S25 N25 H25 G25 (fits_nar_byte _) W26 2 rfl (Nat.le_of_ble_eq_true rfl)
  have K26 : Keep h0 h26 [ds] := K22.wr W26 (Or.inl (by simp))
  have N26 := Fr.snoc X26 N22 g_ds
  show Run p e below s _ _ _ (T26.setTop (mkF m 32 #[.val (.ref ar), .val (.int (2 : Int32)), .val (.ref ds), .val (.int (2 : Int32)), .val (.int (4 : Int32)), .val (.int (2 : Int32)), .val (.int c2)] []))
  refine Run.pre (fun _ k => XS.iinc X26.here hx rfl (hb hby d6_32) rfl (l' := #[.val (.ref ar), .val (.int (3 : Int32)), .val (.ref ds), .val (.int (2 : Int32)), .val (.int (4 : Int32)), .val (.int (2 : Int32)), .val (.int c2)]) rfl k) ?_
  show Run p e below s _ _ _ (T26.setTop (mkF m 35 #[.val (.ref ar), .val (.int (3 : Int32)), .val (.ref ds), .val (.int (2 : Int32)), .val (.int (4 : Int32)), .val (.int (2 : Int32)), .val (.int c2)] []))
  refine Run.pre (fun _ k => XS.iinc X26.here hx rfl (hb hby d6_35) rfl (l' := #[.val (.ref ar), .val (.int (3 : Int32)), .val (.ref ds), .val (.int (3 : Int32)), .val (.int (4 : Int32)), .val (.int (2 : Int32)), .val (.int c2)]) rfl k) ?_
  show Run p e below s _ _ _ (T26.setTop (mkF m 38 #[.val (.ref ar), .val (.int (3 : Int32)), .val (.ref ds), .val (.int (3 : Int32)), .val (.int (4 : Int32)), .val (.int (2 : Int32)), .val (.int c2)] []))
  refine Run.pre (fun _ k => XS.iinc X26.here hx rfl (hb hby d6_38) rfl (l' := #[.val (.ref ar), .val (.int (3 : Int32)), .val (.ref ds), .val (.int (3 : Int32)), .val (.int (4 : Int32)), .val (.int (3 : Int32)), .val (.int c2)]) rfl k) ?_
  show Run p e below s _ _ _ (T26.setTop (mkF m 41 #[.val (.ref ar), .val (.int (3 : Int32)), .val (.ref ds), .val (.int (3 : Int32)), .val (.int (4 : Int32)), .val (.int (3 : Int32)), .val (.int c2)] []))
  refine Run.pre (fun _ k => XS.goto X26.here hx rfl (pc0 := 41) (pc' := 3) rfl (hb hby d6_41) (by decide) (by decide) k) ?_
  show Run p e below s _ _ _ (T26.setTop (mkF m 3 #[.val (.ref ar), .val (.int (3 : Int32)), .val (.ref ds), .val (.int (3 : Int32)), .val (.int (4 : Int32)), .val (.int (3 : Int32)), .val (.int c2)] []))
  refine Run.pre (fun _ k => XS.iload X26.here hx rfl (hb hby d6_3) rfl  k) ?_
  show Run p e below s _ _ _ (T26.setTop (mkF m 5 #[.val (.ref ar), .val (.int (3 : Int32)), .val (.ref ds), .val (.int (3 : Int32)), .val (.int (4 : Int32)), .val (.int (3 : Int32)), .val (.int c2)] [(.int (3 : Int32))]))
  refine Run.pre (fun _ k => XS.iload X26.here hx rfl (hb hby d6_5) rfl  k) ?_
  show Run p e below s _ _ _ (T26.setTop (mkF m 7 #[.val (.ref ar), .val (.int (3 : Int32)), .val (.ref ds), .val (.int (3 : Int32)), .val (.int (4 : Int32)), .val (.int (3 : Int32)), .val (.int c2)] [(.int (4 : Int32)), (.int (3 : Int32))]))
  refine Run.pre (fun _ k => XS.icmpNo X26.here hx rfl (hb hby d6_7) rfl (tlt ((by decide) : (3 : Int32) < (4 : Int32))).2.1 k) ?_
  show Run p e below s _ _ _ (T26.setTop (mkF m 10 #[.val (.ref ar), .val (.int (3 : Int32)), .val (.ref ds), .val (.int (3 : Int32)), .val (.int (4 : Int32)), .val (.int (3 : Int32)), .val (.int c2)] []))
  refine Run.pre (fun _ k => XS.aloadN X26.here hx rfl (hb hby d6_10) rfl rfl k) ?_
  show Run p e below s _ _ _ (T26.setTop (mkF m 11 #[.val (.ref ar), .val (.int (3 : Int32)), .val (.ref ds), .val (.int (3 : Int32)), .val (.int (4 : Int32)), .val (.int (3 : Int32)), .val (.int c2)] [(.ref ar)]))
  refine Run.pre (fun _ k => XS.iloadN X26.here hx rfl (hb hby d6_11) rfl  k) ?_
  show Run p e below s _ _ _ (T26.setTop (mkF m 12 #[.val (.ref ar), .val (.int (3 : Int32)), .val (.ref ds), .val (.int (3 : Int32)), .val (.int (4 : Int32)), .val (.int (3 : Int32)), .val (.int c2)] [(.int (3 : Int32)), (.ref ar)]))
  have f27 := (f23.other W26 nad)
  obtain ⟨c28, Ar28, -, S28, N28, H28, -⟩ := id f27
  have hin28 : ¬ ((3 : Int32) < 0 ∨ c28.slots.size ≤ ((3 : Int32)).toNatClampNeg) := inb_of S28 ⟨by decide, by decide⟩
  refine Run.pre (X26.caload hx (j := (3 : Int32)) (v := (.int c3)) (by rw [e26]; exact Ar28.1) (State.isArrayOf_alike hZ.alike Ar28.2.1) Ar28.2.2 hin28 (H28.at hin28 rfl) (g := (mkF m 12 #[.val (.ref ar), .val (.int (3 : Int32)), .val (.ref ds), .val (.int (3 : Int32)), .val (.int (4 : Int32)), .val (.int (3 : Int32)), .val (.int c2)] [(.int (3 : Int32)), (.ref ar)])) rfl rfl (hb hby d6_12)) ?_
  show Run p e below s _ _ _ (T26.setTop (mkF m 13 #[.val (.ref ar), .val (.int (3 : Int32)), .val (.ref ds), .val (.int (3 : Int32)), .val (.int (4 : Int32)), .val (.int (3 : Int32)), .val (.int c2)] [(.int c3)]))
  refine Run.pre (fun _ k => XS.istore X26.here hx rfl (hb hby d6_13) rfl (l' := #[.val (.ref ar), .val (.int (3 : Int32)), .val (.ref ds), .val (.int (3 : Int32)), .val (.int (4 : Int32)), .val (.int (3 : Int32)), .val (.int c3)]) rfl k) ?_
  show Run p e below s _ _ _ (T26.setTop (mkF m 15 #[.val (.ref ar), .val (.int (3 : Int32)), .val (.ref ds), .val (.int (3 : Int32)), .val (.int (4 : Int32)), .val (.int (3 : Int32)), .val (.int c3)] []))
  refine Run.pre (fun _ k => XS.iload X26.here hx rfl (hb hby d6_15) rfl  k) ?_
  show Run p e below s _ _ _ (T26.setTop (mkF m 17 #[.val (.ref ar), .val (.int (3 : Int32)), .val (.ref ds), .val (.int (3 : Int32)), .val (.int (4 : Int32)), .val (.int (3 : Int32)), .val (.int c3)] [(.int c3)]))
  refine Run.pre (fun _ k => XS.sipush X26.here hx rfl (hb hby d6_17) k) ?_
  show Run p e below s _ _ _ (T26.setTop (mkF m 20 #[.val (.ref ar), .val (.int (3 : Int32)), .val (.ref ds), .val (.int (3 : Int32)), .val (.int (4 : Int32)), .val (.int (3 : Int32)), .val (.int c3)] [(.int (255 : Int32)), (.int c3)]))
  refine Run.pre (fun _ k => XS.icmpNo X26.here hx rfl (hb hby d6_20) rfl (tlt (q3 : (255 : Int32) < c3)).2.2.2 k) ?_
  show Run p e below s _ _ _ (T26.setTop (mkF m 23 #[.val (.ref ar), .val (.int (3 : Int32)), .val (.ref ds), .val (.int (3 : Int32)), .val (.int (4 : Int32)), .val (.int (3 : Int32)), .val (.int c3)] []))
  refine Run.pre (fun _ k => XS.iload X26.here hx rfl (hb hby d6_23) rfl  k) ?_
  show Run p e below s _ _ _ (T26.setTop (mkF m 25 #[.val (.ref ar), .val (.int (3 : Int32)), .val (.ref ds), .val (.int (3 : Int32)), .val (.int (4 : Int32)), .val (.int (3 : Int32)), .val (.int c3)] [(.int (3 : Int32))]))
  exact Run.retI X26 hx hret hlk (hb hby d6_25) (by first | (rw [e26]; exact ⟨rfl, N26, K26⟩) | exact ⟨rfl, N26, K26⟩) (by decide) (by decide)
theorem d6_44 : decode jdk_52_method_21_code 44 = .ok (.iload 4, 2) := by decide +kernel
theorem d6_46 : decode jdk_52_method_21_code 46 = .ok (.ireturn, 1) := by decide +kernel
set_option maxRecDepth 65536 in
set_option maxHeartbeats 40000000 in
theorem rmC2_4_4 (l : Launch) (Z : State) (a0 : Array Value) (hw : ∀ d ∈ tables_1, d.before a0 Z = true) (ar : Addr) (ds : Addr) (kc : ClassId) (kb : ClassId) (c0 : Int32) (c1 : Int32) (c2 : Int32) (c3 : Int32) (h0 : Heap) (n0 : Nat) (Z0 : n0 ≤ h0.size) (AC : Arv Z h0 ar kc .char 4 [(.int c0), (.int c1), (.int c2), (.int c3)] (.int 0)) (AB : Arv Z h0 ds kb .byte 4 [(.int (0 : Int32)), (.int (0 : Int32)), (.int (0 : Int32)), (.int (0 : Int32))] (.int 0)) (nad : ar ≠ ds) (g_ds : n0 ≤ ds) (q0 : ¬ (255 : Int32) < c0) (q1 : ¬ (255 : Int32) < c1) (q2 : ¬ (255 : Int32) < c2) (q3 : ¬ (255 : Int32) < c3) :
    Con l (⟨"java/lang/StringUTF16", "compress", "([CI[BII)I"⟩ : MethodName) jdk_52_method_21_code 7 (some .int) ({ frames := 0, cells := 0, slots := 0, locals := 0 } : Room) Z #[(.ref ar), (.int (0 : Int32)), (.ref ds), (.int (0 : Int32)), (.int (4 : Int32))] h0 (fun v h L => v = some (.int 4) ∧ Fr n0 L ∧ Keep h0 h [ds] ∧ Arv Z h ds kb .byte 4 [(.int (nar .byte (c0.toInt8.toInt32))), (.int (nar .byte (c1.toInt8.toInt32))), (.int (nar .byte (c2.toInt8.toInt32))), (.int (nar .byte (c3.toInt8.toInt32)))] (.int 0)) := by
  refine Con.mk (plainFor_of_name pn_6) (fun m => show entryFrame m #[(.ref ar), (.int (0 : Int32)), (.ref ds), (.int (0 : Int32)), (.int (4 : Int32))] 7 = mkF m 0 #[.val (.ref ar), .val (.int (0 : Int32)), .val (.ref ds), .val (.int (0 : Int32)), .val (.int (4 : Int32)), .unset, .unset] [] by first | (simp [entryFrame, mkF, argsToLocals, Value.category]; done) | rfl) ?_
  intro p e s m below meth c s₁ hx hby hml hown hnm hret hlk hZ X0 e0
  have N0 := Fr.nil n0
  show Run p e below s _ _ _ (s₁.setTop (mkF m 0 #[.val (.ref ar), .val (.int (0 : Int32)), .val (.ref ds), .val (.int (0 : Int32)), .val (.int (4 : Int32)), .unset, .unset] []))
  refine Run.pre (fun _ k => XS.iconst X0.here hx rfl (hb hby d6_0) k) ?_
  show Run p e below s _ _ _ (s₁.setTop (mkF m 1 #[.val (.ref ar), .val (.int (0 : Int32)), .val (.ref ds), .val (.int (0 : Int32)), .val (.int (4 : Int32)), .unset, .unset] [(.int (0 : Int32))]))
  refine Run.pre (fun _ k => XS.istore X0.here hx rfl (hb hby d6_1) rfl (l' := #[.val (.ref ar), .val (.int (0 : Int32)), .val (.ref ds), .val (.int (0 : Int32)), .val (.int (4 : Int32)), .val (.int (0 : Int32)), .unset]) rfl k) ?_
  show Run p e below s _ _ _ (s₁.setTop (mkF m 3 #[.val (.ref ar), .val (.int (0 : Int32)), .val (.ref ds), .val (.int (0 : Int32)), .val (.int (4 : Int32)), .val (.int (0 : Int32)), .unset] []))
  refine Run.pre (fun _ k => XS.iload X0.here hx rfl (hb hby d6_3) rfl  k) ?_
  show Run p e below s _ _ _ (s₁.setTop (mkF m 5 #[.val (.ref ar), .val (.int (0 : Int32)), .val (.ref ds), .val (.int (0 : Int32)), .val (.int (4 : Int32)), .val (.int (0 : Int32)), .unset] [(.int (0 : Int32))]))
  refine Run.pre (fun _ k => XS.iload X0.here hx rfl (hb hby d6_5) rfl  k) ?_
  show Run p e below s _ _ _ (s₁.setTop (mkF m 7 #[.val (.ref ar), .val (.int (0 : Int32)), .val (.ref ds), .val (.int (0 : Int32)), .val (.int (4 : Int32)), .val (.int (0 : Int32)), .unset] [(.int (4 : Int32)), (.int (0 : Int32))]))
  refine Run.pre (fun _ k => XS.icmpNo X0.here hx rfl (hb hby d6_7) rfl (tlt ((by decide) : (0 : Int32) < (4 : Int32))).2.1 k) ?_
  show Run p e below s _ _ _ (s₁.setTop (mkF m 10 #[.val (.ref ar), .val (.int (0 : Int32)), .val (.ref ds), .val (.int (0 : Int32)), .val (.int (4 : Int32)), .val (.int (0 : Int32)), .unset] []))
  refine Run.pre (fun _ k => XS.aloadN X0.here hx rfl (hb hby d6_10) rfl rfl k) ?_
  show Run p e below s _ _ _ (s₁.setTop (mkF m 11 #[.val (.ref ar), .val (.int (0 : Int32)), .val (.ref ds), .val (.int (0 : Int32)), .val (.int (4 : Int32)), .val (.int (0 : Int32)), .unset] [(.ref ar)]))
  refine Run.pre (fun _ k => XS.iloadN X0.here hx rfl (hb hby d6_11) rfl  k) ?_
  show Run p e below s _ _ _ (s₁.setTop (mkF m 12 #[.val (.ref ar), .val (.int (0 : Int32)), .val (.ref ds), .val (.int (0 : Int32)), .val (.int (4 : Int32)), .val (.int (0 : Int32)), .unset] [(.int (0 : Int32)), (.ref ar)]))
  obtain ⟨c29, Ar29, -, S29, N29, H29, -⟩ := id AC
  have hin29 : ¬ ((0 : Int32) < 0 ∨ c29.slots.size ≤ ((0 : Int32)).toNatClampNeg) := inb_of S29 ⟨by decide, by decide⟩
  refine Run.pre (X0.caload hx (j := (0 : Int32)) (v := (.int c0)) (by rw [e0]; exact Ar29.1) (State.isArrayOf_alike hZ.alike Ar29.2.1) Ar29.2.2 hin29 (H29.at hin29 rfl) (g := (mkF m 12 #[.val (.ref ar), .val (.int (0 : Int32)), .val (.ref ds), .val (.int (0 : Int32)), .val (.int (4 : Int32)), .val (.int (0 : Int32)), .unset] [(.int (0 : Int32)), (.ref ar)])) rfl rfl (hb hby d6_12)) ?_
  show Run p e below s _ _ _ (s₁.setTop (mkF m 13 #[.val (.ref ar), .val (.int (0 : Int32)), .val (.ref ds), .val (.int (0 : Int32)), .val (.int (4 : Int32)), .val (.int (0 : Int32)), .unset] [(.int c0)]))
  refine Run.pre (fun _ k => XS.istore X0.here hx rfl (hb hby d6_13) rfl (l' := #[.val (.ref ar), .val (.int (0 : Int32)), .val (.ref ds), .val (.int (0 : Int32)), .val (.int (4 : Int32)), .val (.int (0 : Int32)), .val (.int c0)]) rfl k) ?_
  show Run p e below s _ _ _ (s₁.setTop (mkF m 15 #[.val (.ref ar), .val (.int (0 : Int32)), .val (.ref ds), .val (.int (0 : Int32)), .val (.int (4 : Int32)), .val (.int (0 : Int32)), .val (.int c0)] []))
  refine Run.pre (fun _ k => XS.iload X0.here hx rfl (hb hby d6_15) rfl  k) ?_
  show Run p e below s _ _ _ (s₁.setTop (mkF m 17 #[.val (.ref ar), .val (.int (0 : Int32)), .val (.ref ds), .val (.int (0 : Int32)), .val (.int (4 : Int32)), .val (.int (0 : Int32)), .val (.int c0)] [(.int c0)]))
  refine Run.pre (fun _ k => XS.sipush X0.here hx rfl (hb hby d6_17) k) ?_
  show Run p e below s _ _ _ (s₁.setTop (mkF m 20 #[.val (.ref ar), .val (.int (0 : Int32)), .val (.ref ds), .val (.int (0 : Int32)), .val (.int (4 : Int32)), .val (.int (0 : Int32)), .val (.int c0)] [(.int (255 : Int32)), (.int c0)]))
  refine Run.pre (fun _ k => XS.icmpYes X0.here hx rfl (pc0 := 20) (pc' := 26) rfl (hb hby d6_20) rfl (flt (q0 : ¬ ((255 : Int32) < c0))).2.2.2 (by decide) (by decide) k) ?_
  show Run p e below s _ _ _ (s₁.setTop (mkF m 26 #[.val (.ref ar), .val (.int (0 : Int32)), .val (.ref ds), .val (.int (0 : Int32)), .val (.int (4 : Int32)), .val (.int (0 : Int32)), .val (.int c0)] []))
  refine Run.pre (fun _ k => XS.aloadN X0.here hx rfl (hb hby d6_26) rfl rfl k) ?_
  show Run p e below s _ _ _ (s₁.setTop (mkF m 27 #[.val (.ref ar), .val (.int (0 : Int32)), .val (.ref ds), .val (.int (0 : Int32)), .val (.int (4 : Int32)), .val (.int (0 : Int32)), .val (.int c0)] [(.ref ds)]))
  refine Run.pre (fun _ k => XS.iloadN X0.here hx rfl (hb hby d6_27) rfl  k) ?_
  show Run p e below s _ _ _ (s₁.setTop (mkF m 28 #[.val (.ref ar), .val (.int (0 : Int32)), .val (.ref ds), .val (.int (0 : Int32)), .val (.int (4 : Int32)), .val (.int (0 : Int32)), .val (.int c0)] [(.int (0 : Int32)), (.ref ds)]))
  refine Run.pre (fun _ k => XS.iload X0.here hx rfl (hb hby d6_28) rfl  k) ?_
  show Run p e below s _ _ _ (s₁.setTop (mkF m 30 #[.val (.ref ar), .val (.int (0 : Int32)), .val (.ref ds), .val (.int (0 : Int32)), .val (.int (4 : Int32)), .val (.int (0 : Int32)), .val (.int c0)] [(.int c0), (.int (0 : Int32)), (.ref ds)]))
  refine Run.pre (fun _ k => XS.i2b X0.here hx rfl (hb hby d6_30) rfl k) ?_
  show Run p e below s _ _ _ (s₁.setTop (mkF m 31 #[.val (.ref ar), .val (.int (0 : Int32)), .val (.ref ds), .val (.int (0 : Int32)), .val (.int (4 : Int32)), .val (.int (0 : Int32)), .val (.int c0)] [(.int (c0.toInt8.toInt32)), (.int (0 : Int32)), (.ref ds)]))
  obtain ⟨c30, Ar30, q30, S30, N30, H30, G30⟩ := id AB
  have hin30 : ¬ ((0 : Int32) < 0 ∨ c30.slots.size ≤ ((0 : Int32)).toNatClampNeg) := inb_of S30 ⟨by decide, by decide⟩
  obtain ⟨T31, h31, X31, e31, W31, st31⟩ := stB X0 hx hZ e0 Ar30 (j := (0 : Int32)) hin30 (g := (mkF m 31 #[.val (.ref ar), .val (.int (0 : Int32)), .val (.ref ds), .val (.int (0 : Int32)), .val (.int (4 : Int32)), .val (.int (0 : Int32)), .val (.int c0)] [(.int (c0.toInt8.toInt32)), (.int (0 : Int32)), (.ref ds)])) rfl rfl (hb hby d6_31)
  refine Run.pre st31 ?_
  have V_ds_31 : Arv Z h31 ds kb .byte (4 : Int32) [(.int (nar .byte (c0.toInt8.toInt32))), (.int (0 : Int32)), (.int (0 : Int32)), (.int (0 : Int32))] (.int (0 : Int32)) := Arv.set Ar30 q30 S30 N30 H30 G30 (fits_nar_byte _) W31 0 rfl (Nat.le_of_ble_eq_true rfl)
  have K31 : Keep h0 h31 [ds] := (Keep.refl h0 [ds]).wr W31 (Or.inl (by simp))
  have N31 := Fr.snoc X31 N0 g_ds
  show Run p e below s _ _ _ (T31.setTop (mkF m 32 #[.val (.ref ar), .val (.int (0 : Int32)), .val (.ref ds), .val (.int (0 : Int32)), .val (.int (4 : Int32)), .val (.int (0 : Int32)), .val (.int c0)] []))
  refine Run.pre (fun _ k => XS.iinc X31.here hx rfl (hb hby d6_32) rfl (l' := #[.val (.ref ar), .val (.int (1 : Int32)), .val (.ref ds), .val (.int (0 : Int32)), .val (.int (4 : Int32)), .val (.int (0 : Int32)), .val (.int c0)]) rfl k) ?_
  show Run p e below s _ _ _ (T31.setTop (mkF m 35 #[.val (.ref ar), .val (.int (1 : Int32)), .val (.ref ds), .val (.int (0 : Int32)), .val (.int (4 : Int32)), .val (.int (0 : Int32)), .val (.int c0)] []))
  refine Run.pre (fun _ k => XS.iinc X31.here hx rfl (hb hby d6_35) rfl (l' := #[.val (.ref ar), .val (.int (1 : Int32)), .val (.ref ds), .val (.int (1 : Int32)), .val (.int (4 : Int32)), .val (.int (0 : Int32)), .val (.int c0)]) rfl k) ?_
  show Run p e below s _ _ _ (T31.setTop (mkF m 38 #[.val (.ref ar), .val (.int (1 : Int32)), .val (.ref ds), .val (.int (1 : Int32)), .val (.int (4 : Int32)), .val (.int (0 : Int32)), .val (.int c0)] []))
  refine Run.pre (fun _ k => XS.iinc X31.here hx rfl (hb hby d6_38) rfl (l' := #[.val (.ref ar), .val (.int (1 : Int32)), .val (.ref ds), .val (.int (1 : Int32)), .val (.int (4 : Int32)), .val (.int (1 : Int32)), .val (.int c0)]) rfl k) ?_
  show Run p e below s _ _ _ (T31.setTop (mkF m 41 #[.val (.ref ar), .val (.int (1 : Int32)), .val (.ref ds), .val (.int (1 : Int32)), .val (.int (4 : Int32)), .val (.int (1 : Int32)), .val (.int c0)] []))
  refine Run.pre (fun _ k => XS.goto X31.here hx rfl (pc0 := 41) (pc' := 3) rfl (hb hby d6_41) (by decide) (by decide) k) ?_
  show Run p e below s _ _ _ (T31.setTop (mkF m 3 #[.val (.ref ar), .val (.int (1 : Int32)), .val (.ref ds), .val (.int (1 : Int32)), .val (.int (4 : Int32)), .val (.int (1 : Int32)), .val (.int c0)] []))
  refine Run.pre (fun _ k => XS.iload X31.here hx rfl (hb hby d6_3) rfl  k) ?_
  show Run p e below s _ _ _ (T31.setTop (mkF m 5 #[.val (.ref ar), .val (.int (1 : Int32)), .val (.ref ds), .val (.int (1 : Int32)), .val (.int (4 : Int32)), .val (.int (1 : Int32)), .val (.int c0)] [(.int (1 : Int32))]))
  refine Run.pre (fun _ k => XS.iload X31.here hx rfl (hb hby d6_5) rfl  k) ?_
  show Run p e below s _ _ _ (T31.setTop (mkF m 7 #[.val (.ref ar), .val (.int (1 : Int32)), .val (.ref ds), .val (.int (1 : Int32)), .val (.int (4 : Int32)), .val (.int (1 : Int32)), .val (.int c0)] [(.int (4 : Int32)), (.int (1 : Int32))]))
  refine Run.pre (fun _ k => XS.icmpNo X31.here hx rfl (hb hby d6_7) rfl (tlt ((by decide) : (1 : Int32) < (4 : Int32))).2.1 k) ?_
  show Run p e below s _ _ _ (T31.setTop (mkF m 10 #[.val (.ref ar), .val (.int (1 : Int32)), .val (.ref ds), .val (.int (1 : Int32)), .val (.int (4 : Int32)), .val (.int (1 : Int32)), .val (.int c0)] []))
  refine Run.pre (fun _ k => XS.aloadN X31.here hx rfl (hb hby d6_10) rfl rfl k) ?_
  show Run p e below s _ _ _ (T31.setTop (mkF m 11 #[.val (.ref ar), .val (.int (1 : Int32)), .val (.ref ds), .val (.int (1 : Int32)), .val (.int (4 : Int32)), .val (.int (1 : Int32)), .val (.int c0)] [(.ref ar)]))
  refine Run.pre (fun _ k => XS.iloadN X31.here hx rfl (hb hby d6_11) rfl  k) ?_
  show Run p e below s _ _ _ (T31.setTop (mkF m 12 #[.val (.ref ar), .val (.int (1 : Int32)), .val (.ref ds), .val (.int (1 : Int32)), .val (.int (4 : Int32)), .val (.int (1 : Int32)), .val (.int c0)] [(.int (1 : Int32)), (.ref ar)]))
  have f32 := (AC.other W31 nad)
  obtain ⟨c33, Ar33, -, S33, N33, H33, -⟩ := id f32
  have hin33 : ¬ ((1 : Int32) < 0 ∨ c33.slots.size ≤ ((1 : Int32)).toNatClampNeg) := inb_of S33 ⟨by decide, by decide⟩
  refine Run.pre (X31.caload hx (j := (1 : Int32)) (v := (.int c1)) (by rw [e31]; exact Ar33.1) (State.isArrayOf_alike hZ.alike Ar33.2.1) Ar33.2.2 hin33 (H33.at hin33 rfl) (g := (mkF m 12 #[.val (.ref ar), .val (.int (1 : Int32)), .val (.ref ds), .val (.int (1 : Int32)), .val (.int (4 : Int32)), .val (.int (1 : Int32)), .val (.int c0)] [(.int (1 : Int32)), (.ref ar)])) rfl rfl (hb hby d6_12)) ?_
  show Run p e below s _ _ _ (T31.setTop (mkF m 13 #[.val (.ref ar), .val (.int (1 : Int32)), .val (.ref ds), .val (.int (1 : Int32)), .val (.int (4 : Int32)), .val (.int (1 : Int32)), .val (.int c0)] [(.int c1)]))
  refine Run.pre (fun _ k => XS.istore X31.here hx rfl (hb hby d6_13) rfl (l' := #[.val (.ref ar), .val (.int (1 : Int32)), .val (.ref ds), .val (.int (1 : Int32)), .val (.int (4 : Int32)), .val (.int (1 : Int32)), .val (.int c1)]) rfl k) ?_
  show Run p e below s _ _ _ (T31.setTop (mkF m 15 #[.val (.ref ar), .val (.int (1 : Int32)), .val (.ref ds), .val (.int (1 : Int32)), .val (.int (4 : Int32)), .val (.int (1 : Int32)), .val (.int c1)] []))
  refine Run.pre (fun _ k => XS.iload X31.here hx rfl (hb hby d6_15) rfl  k) ?_
  show Run p e below s _ _ _ (T31.setTop (mkF m 17 #[.val (.ref ar), .val (.int (1 : Int32)), .val (.ref ds), .val (.int (1 : Int32)), .val (.int (4 : Int32)), .val (.int (1 : Int32)), .val (.int c1)] [(.int c1)]))
  refine Run.pre (fun _ k => XS.sipush X31.here hx rfl (hb hby d6_17) k) ?_
  show Run p e below s _ _ _ (T31.setTop (mkF m 20 #[.val (.ref ar), .val (.int (1 : Int32)), .val (.ref ds), .val (.int (1 : Int32)), .val (.int (4 : Int32)), .val (.int (1 : Int32)), .val (.int c1)] [(.int (255 : Int32)), (.int c1)]))
  refine Run.pre (fun _ k => XS.icmpYes X31.here hx rfl (pc0 := 20) (pc' := 26) rfl (hb hby d6_20) rfl (flt (q1 : ¬ ((255 : Int32) < c1))).2.2.2 (by decide) (by decide) k) ?_
  show Run p e below s _ _ _ (T31.setTop (mkF m 26 #[.val (.ref ar), .val (.int (1 : Int32)), .val (.ref ds), .val (.int (1 : Int32)), .val (.int (4 : Int32)), .val (.int (1 : Int32)), .val (.int c1)] []))
  refine Run.pre (fun _ k => XS.aloadN X31.here hx rfl (hb hby d6_26) rfl rfl k) ?_
  show Run p e below s _ _ _ (T31.setTop (mkF m 27 #[.val (.ref ar), .val (.int (1 : Int32)), .val (.ref ds), .val (.int (1 : Int32)), .val (.int (4 : Int32)), .val (.int (1 : Int32)), .val (.int c1)] [(.ref ds)]))
  refine Run.pre (fun _ k => XS.iloadN X31.here hx rfl (hb hby d6_27) rfl  k) ?_
  show Run p e below s _ _ _ (T31.setTop (mkF m 28 #[.val (.ref ar), .val (.int (1 : Int32)), .val (.ref ds), .val (.int (1 : Int32)), .val (.int (4 : Int32)), .val (.int (1 : Int32)), .val (.int c1)] [(.int (1 : Int32)), (.ref ds)]))
  refine Run.pre (fun _ k => XS.iload X31.here hx rfl (hb hby d6_28) rfl  k) ?_
  show Run p e below s _ _ _ (T31.setTop (mkF m 30 #[.val (.ref ar), .val (.int (1 : Int32)), .val (.ref ds), .val (.int (1 : Int32)), .val (.int (4 : Int32)), .val (.int (1 : Int32)), .val (.int c1)] [(.int c1), (.int (1 : Int32)), (.ref ds)]))
  refine Run.pre (fun _ k => XS.i2b X31.here hx rfl (hb hby d6_30) rfl k) ?_
  show Run p e below s _ _ _ (T31.setTop (mkF m 31 #[.val (.ref ar), .val (.int (1 : Int32)), .val (.ref ds), .val (.int (1 : Int32)), .val (.int (4 : Int32)), .val (.int (1 : Int32)), .val (.int c1)] [(.int (c1.toInt8.toInt32)), (.int (1 : Int32)), (.ref ds)]))
  obtain ⟨c34, Ar34, q34, S34, N34, H34, G34⟩ := id V_ds_31
  have hin34 : ¬ ((1 : Int32) < 0 ∨ c34.slots.size ≤ ((1 : Int32)).toNatClampNeg) := inb_of S34 ⟨by decide, by decide⟩
  obtain ⟨T35, h35, X35, e35, W35, st35⟩ := stB X31 hx hZ e31 Ar34 (j := (1 : Int32)) hin34 (g := (mkF m 31 #[.val (.ref ar), .val (.int (1 : Int32)), .val (.ref ds), .val (.int (1 : Int32)), .val (.int (4 : Int32)), .val (.int (1 : Int32)), .val (.int c1)] [(.int (c1.toInt8.toInt32)), (.int (1 : Int32)), (.ref ds)])) rfl rfl (hb hby d6_31)
  refine Run.pre st35 ?_
  have V_ds_35 : Arv Z h35 ds kb .byte (4 : Int32) [(.int (nar .byte (c0.toInt8.toInt32))), (.int (nar .byte (c1.toInt8.toInt32))), (.int (0 : Int32)), (.int (0 : Int32))] (.int (0 : Int32)) := Arv.set Ar34 q34 S34 N34 H34 G34 (fits_nar_byte _) W35 1 rfl (Nat.le_of_ble_eq_true rfl)
  have K35 : Keep h0 h35 [ds] := K31.wr W35 (Or.inl (by simp))
  have N35 := Fr.snoc X35 N31 g_ds
  show Run p e below s _ _ _ (T35.setTop (mkF m 32 #[.val (.ref ar), .val (.int (1 : Int32)), .val (.ref ds), .val (.int (1 : Int32)), .val (.int (4 : Int32)), .val (.int (1 : Int32)), .val (.int c1)] []))
  refine Run.pre (fun _ k => XS.iinc X35.here hx rfl (hb hby d6_32) rfl (l' := #[.val (.ref ar), .val (.int (2 : Int32)), .val (.ref ds), .val (.int (1 : Int32)), .val (.int (4 : Int32)), .val (.int (1 : Int32)), .val (.int c1)]) rfl k) ?_
  show Run p e below s _ _ _ (T35.setTop (mkF m 35 #[.val (.ref ar), .val (.int (2 : Int32)), .val (.ref ds), .val (.int (1 : Int32)), .val (.int (4 : Int32)), .val (.int (1 : Int32)), .val (.int c1)] []))
  refine Run.pre (fun _ k => XS.iinc X35.here hx rfl (hb hby d6_35) rfl (l' := #[.val (.ref ar), .val (.int (2 : Int32)), .val (.ref ds), .val (.int (2 : Int32)), .val (.int (4 : Int32)), .val (.int (1 : Int32)), .val (.int c1)]) rfl k) ?_
  show Run p e below s _ _ _ (T35.setTop (mkF m 38 #[.val (.ref ar), .val (.int (2 : Int32)), .val (.ref ds), .val (.int (2 : Int32)), .val (.int (4 : Int32)), .val (.int (1 : Int32)), .val (.int c1)] []))
  refine Run.pre (fun _ k => XS.iinc X35.here hx rfl (hb hby d6_38) rfl (l' := #[.val (.ref ar), .val (.int (2 : Int32)), .val (.ref ds), .val (.int (2 : Int32)), .val (.int (4 : Int32)), .val (.int (2 : Int32)), .val (.int c1)]) rfl k) ?_
  show Run p e below s _ _ _ (T35.setTop (mkF m 41 #[.val (.ref ar), .val (.int (2 : Int32)), .val (.ref ds), .val (.int (2 : Int32)), .val (.int (4 : Int32)), .val (.int (2 : Int32)), .val (.int c1)] []))
  refine Run.pre (fun _ k => XS.goto X35.here hx rfl (pc0 := 41) (pc' := 3) rfl (hb hby d6_41) (by decide) (by decide) k) ?_
  show Run p e below s _ _ _ (T35.setTop (mkF m 3 #[.val (.ref ar), .val (.int (2 : Int32)), .val (.ref ds), .val (.int (2 : Int32)), .val (.int (4 : Int32)), .val (.int (2 : Int32)), .val (.int c1)] []))
  refine Run.pre (fun _ k => XS.iload X35.here hx rfl (hb hby d6_3) rfl  k) ?_
  show Run p e below s _ _ _ (T35.setTop (mkF m 5 #[.val (.ref ar), .val (.int (2 : Int32)), .val (.ref ds), .val (.int (2 : Int32)), .val (.int (4 : Int32)), .val (.int (2 : Int32)), .val (.int c1)] [(.int (2 : Int32))]))
  refine Run.pre (fun _ k => XS.iload X35.here hx rfl (hb hby d6_5) rfl  k) ?_
  show Run p e below s _ _ _ (T35.setTop (mkF m 7 #[.val (.ref ar), .val (.int (2 : Int32)), .val (.ref ds), .val (.int (2 : Int32)), .val (.int (4 : Int32)), .val (.int (2 : Int32)), .val (.int c1)] [(.int (4 : Int32)), (.int (2 : Int32))]))
  refine Run.pre (fun _ k => XS.icmpNo X35.here hx rfl (hb hby d6_7) rfl (tlt ((by decide) : (2 : Int32) < (4 : Int32))).2.1 k) ?_
  show Run p e below s _ _ _ (T35.setTop (mkF m 10 #[.val (.ref ar), .val (.int (2 : Int32)), .val (.ref ds), .val (.int (2 : Int32)), .val (.int (4 : Int32)), .val (.int (2 : Int32)), .val (.int c1)] []))
  refine Run.pre (fun _ k => XS.aloadN X35.here hx rfl (hb hby d6_10) rfl rfl k) ?_
  show Run p e below s _ _ _ (T35.setTop (mkF m 11 #[.val (.ref ar), .val (.int (2 : Int32)), .val (.ref ds), .val (.int (2 : Int32)), .val (.int (4 : Int32)), .val (.int (2 : Int32)), .val (.int c1)] [(.ref ar)]))
  refine Run.pre (fun _ k => XS.iloadN X35.here hx rfl (hb hby d6_11) rfl  k) ?_
  show Run p e below s _ _ _ (T35.setTop (mkF m 12 #[.val (.ref ar), .val (.int (2 : Int32)), .val (.ref ds), .val (.int (2 : Int32)), .val (.int (4 : Int32)), .val (.int (2 : Int32)), .val (.int c1)] [(.int (2 : Int32)), (.ref ar)]))
  have f36 := (f32.other W35 nad)
  obtain ⟨c37, Ar37, -, S37, N37, H37, -⟩ := id f36
  have hin37 : ¬ ((2 : Int32) < 0 ∨ c37.slots.size ≤ ((2 : Int32)).toNatClampNeg) := inb_of S37 ⟨by decide, by decide⟩
  refine Run.pre (X35.caload hx (j := (2 : Int32)) (v := (.int c2)) (by rw [e35]; exact Ar37.1) (State.isArrayOf_alike hZ.alike Ar37.2.1) Ar37.2.2 hin37 (H37.at hin37 rfl) (g := (mkF m 12 #[.val (.ref ar), .val (.int (2 : Int32)), .val (.ref ds), .val (.int (2 : Int32)), .val (.int (4 : Int32)), .val (.int (2 : Int32)), .val (.int c1)] [(.int (2 : Int32)), (.ref ar)])) rfl rfl (hb hby d6_12)) ?_
  show Run p e below s _ _ _ (T35.setTop (mkF m 13 #[.val (.ref ar), .val (.int (2 : Int32)), .val (.ref ds), .val (.int (2 : Int32)), .val (.int (4 : Int32)), .val (.int (2 : Int32)), .val (.int c1)] [(.int c2)]))
  refine Run.pre (fun _ k => XS.istore X35.here hx rfl (hb hby d6_13) rfl (l' := #[.val (.ref ar), .val (.int (2 : Int32)), .val (.ref ds), .val (.int (2 : Int32)), .val (.int (4 : Int32)), .val (.int (2 : Int32)), .val (.int c2)]) rfl k) ?_
  show Run p e below s _ _ _ (T35.setTop (mkF m 15 #[.val (.ref ar), .val (.int (2 : Int32)), .val (.ref ds), .val (.int (2 : Int32)), .val (.int (4 : Int32)), .val (.int (2 : Int32)), .val (.int c2)] []))
  refine Run.pre (fun _ k => XS.iload X35.here hx rfl (hb hby d6_15) rfl  k) ?_
  show Run p e below s _ _ _ (T35.setTop (mkF m 17 #[.val (.ref ar), .val (.int (2 : Int32)), .val (.ref ds), .val (.int (2 : Int32)), .val (.int (4 : Int32)), .val (.int (2 : Int32)), .val (.int c2)] [(.int c2)]))
  refine Run.pre (fun _ k => XS.sipush X35.here hx rfl (hb hby d6_17) k) ?_
  show Run p e below s _ _ _ (T35.setTop (mkF m 20 #[.val (.ref ar), .val (.int (2 : Int32)), .val (.ref ds), .val (.int (2 : Int32)), .val (.int (4 : Int32)), .val (.int (2 : Int32)), .val (.int c2)] [(.int (255 : Int32)), (.int c2)]))
  refine Run.pre (fun _ k => XS.icmpYes X35.here hx rfl (pc0 := 20) (pc' := 26) rfl (hb hby d6_20) rfl (flt (q2 : ¬ ((255 : Int32) < c2))).2.2.2 (by decide) (by decide) k) ?_
  show Run p e below s _ _ _ (T35.setTop (mkF m 26 #[.val (.ref ar), .val (.int (2 : Int32)), .val (.ref ds), .val (.int (2 : Int32)), .val (.int (4 : Int32)), .val (.int (2 : Int32)), .val (.int c2)] []))
  refine Run.pre (fun _ k => XS.aloadN X35.here hx rfl (hb hby d6_26) rfl rfl k) ?_
  show Run p e below s _ _ _ (T35.setTop (mkF m 27 #[.val (.ref ar), .val (.int (2 : Int32)), .val (.ref ds), .val (.int (2 : Int32)), .val (.int (4 : Int32)), .val (.int (2 : Int32)), .val (.int c2)] [(.ref ds)]))
  refine Run.pre (fun _ k => XS.iloadN X35.here hx rfl (hb hby d6_27) rfl  k) ?_
  show Run p e below s _ _ _ (T35.setTop (mkF m 28 #[.val (.ref ar), .val (.int (2 : Int32)), .val (.ref ds), .val (.int (2 : Int32)), .val (.int (4 : Int32)), .val (.int (2 : Int32)), .val (.int c2)] [(.int (2 : Int32)), (.ref ds)]))
  refine Run.pre (fun _ k => XS.iload X35.here hx rfl (hb hby d6_28) rfl  k) ?_
  show Run p e below s _ _ _ (T35.setTop (mkF m 30 #[.val (.ref ar), .val (.int (2 : Int32)), .val (.ref ds), .val (.int (2 : Int32)), .val (.int (4 : Int32)), .val (.int (2 : Int32)), .val (.int c2)] [(.int c2), (.int (2 : Int32)), (.ref ds)]))
  refine Run.pre (fun _ k => XS.i2b X35.here hx rfl (hb hby d6_30) rfl k) ?_
  show Run p e below s _ _ _ (T35.setTop (mkF m 31 #[.val (.ref ar), .val (.int (2 : Int32)), .val (.ref ds), .val (.int (2 : Int32)), .val (.int (4 : Int32)), .val (.int (2 : Int32)), .val (.int c2)] [(.int (c2.toInt8.toInt32)), (.int (2 : Int32)), (.ref ds)]))
  obtain ⟨c38, Ar38, q38, S38, N38, H38, G38⟩ := id V_ds_35
  have hin38 : ¬ ((2 : Int32) < 0 ∨ c38.slots.size ≤ ((2 : Int32)).toNatClampNeg) := inb_of S38 ⟨by decide, by decide⟩
  obtain ⟨T39, h39, X39, e39, W39, st39⟩ := stB X35 hx hZ e35 Ar38 (j := (2 : Int32)) hin38 (g := (mkF m 31 #[.val (.ref ar), .val (.int (2 : Int32)), .val (.ref ds), .val (.int (2 : Int32)), .val (.int (4 : Int32)), .val (.int (2 : Int32)), .val (.int c2)] [(.int (c2.toInt8.toInt32)), (.int (2 : Int32)), (.ref ds)])) rfl rfl (hb hby d6_31)
  refine Run.pre st39 ?_
  have V_ds_39 : Arv Z h39 ds kb .byte (4 : Int32) [(.int (nar .byte (c0.toInt8.toInt32))), (.int (nar .byte (c1.toInt8.toInt32))), (.int (nar .byte (c2.toInt8.toInt32))), (.int (0 : Int32))] (.int (0 : Int32)) := Arv.set Ar38 q38 S38 N38 H38 G38 (fits_nar_byte _) W39 2 rfl (Nat.le_of_ble_eq_true rfl)
  have K39 : Keep h0 h39 [ds] := K35.wr W39 (Or.inl (by simp))
  have N39 := Fr.snoc X39 N35 g_ds
  show Run p e below s _ _ _ (T39.setTop (mkF m 32 #[.val (.ref ar), .val (.int (2 : Int32)), .val (.ref ds), .val (.int (2 : Int32)), .val (.int (4 : Int32)), .val (.int (2 : Int32)), .val (.int c2)] []))
  refine Run.pre (fun _ k => XS.iinc X39.here hx rfl (hb hby d6_32) rfl (l' := #[.val (.ref ar), .val (.int (3 : Int32)), .val (.ref ds), .val (.int (2 : Int32)), .val (.int (4 : Int32)), .val (.int (2 : Int32)), .val (.int c2)]) rfl k) ?_
  show Run p e below s _ _ _ (T39.setTop (mkF m 35 #[.val (.ref ar), .val (.int (3 : Int32)), .val (.ref ds), .val (.int (2 : Int32)), .val (.int (4 : Int32)), .val (.int (2 : Int32)), .val (.int c2)] []))
  refine Run.pre (fun _ k => XS.iinc X39.here hx rfl (hb hby d6_35) rfl (l' := #[.val (.ref ar), .val (.int (3 : Int32)), .val (.ref ds), .val (.int (3 : Int32)), .val (.int (4 : Int32)), .val (.int (2 : Int32)), .val (.int c2)]) rfl k) ?_
  show Run p e below s _ _ _ (T39.setTop (mkF m 38 #[.val (.ref ar), .val (.int (3 : Int32)), .val (.ref ds), .val (.int (3 : Int32)), .val (.int (4 : Int32)), .val (.int (2 : Int32)), .val (.int c2)] []))
  refine Run.pre (fun _ k => XS.iinc X39.here hx rfl (hb hby d6_38) rfl (l' := #[.val (.ref ar), .val (.int (3 : Int32)), .val (.ref ds), .val (.int (3 : Int32)), .val (.int (4 : Int32)), .val (.int (3 : Int32)), .val (.int c2)]) rfl k) ?_
  show Run p e below s _ _ _ (T39.setTop (mkF m 41 #[.val (.ref ar), .val (.int (3 : Int32)), .val (.ref ds), .val (.int (3 : Int32)), .val (.int (4 : Int32)), .val (.int (3 : Int32)), .val (.int c2)] []))
  refine Run.pre (fun _ k => XS.goto X39.here hx rfl (pc0 := 41) (pc' := 3) rfl (hb hby d6_41) (by decide) (by decide) k) ?_
  show Run p e below s _ _ _ (T39.setTop (mkF m 3 #[.val (.ref ar), .val (.int (3 : Int32)), .val (.ref ds), .val (.int (3 : Int32)), .val (.int (4 : Int32)), .val (.int (3 : Int32)), .val (.int c2)] []))
  refine Run.pre (fun _ k => XS.iload X39.here hx rfl (hb hby d6_3) rfl  k) ?_
  show Run p e below s _ _ _ (T39.setTop (mkF m 5 #[.val (.ref ar), .val (.int (3 : Int32)), .val (.ref ds), .val (.int (3 : Int32)), .val (.int (4 : Int32)), .val (.int (3 : Int32)), .val (.int c2)] [(.int (3 : Int32))]))
  refine Run.pre (fun _ k => XS.iload X39.here hx rfl (hb hby d6_5) rfl  k) ?_
  show Run p e below s _ _ _ (T39.setTop (mkF m 7 #[.val (.ref ar), .val (.int (3 : Int32)), .val (.ref ds), .val (.int (3 : Int32)), .val (.int (4 : Int32)), .val (.int (3 : Int32)), .val (.int c2)] [(.int (4 : Int32)), (.int (3 : Int32))]))
  refine Run.pre (fun _ k => XS.icmpNo X39.here hx rfl (hb hby d6_7) rfl (tlt ((by decide) : (3 : Int32) < (4 : Int32))).2.1 k) ?_
  show Run p e below s _ _ _ (T39.setTop (mkF m 10 #[.val (.ref ar), .val (.int (3 : Int32)), .val (.ref ds), .val (.int (3 : Int32)), .val (.int (4 : Int32)), .val (.int (3 : Int32)), .val (.int c2)] []))
  refine Run.pre (fun _ k => XS.aloadN X39.here hx rfl (hb hby d6_10) rfl rfl k) ?_
  show Run p e below s _ _ _ (T39.setTop (mkF m 11 #[.val (.ref ar), .val (.int (3 : Int32)), .val (.ref ds), .val (.int (3 : Int32)), .val (.int (4 : Int32)), .val (.int (3 : Int32)), .val (.int c2)] [(.ref ar)]))
  refine Run.pre (fun _ k => XS.iloadN X39.here hx rfl (hb hby d6_11) rfl  k) ?_
  show Run p e below s _ _ _ (T39.setTop (mkF m 12 #[.val (.ref ar), .val (.int (3 : Int32)), .val (.ref ds), .val (.int (3 : Int32)), .val (.int (4 : Int32)), .val (.int (3 : Int32)), .val (.int c2)] [(.int (3 : Int32)), (.ref ar)]))
  have f40 := (f36.other W39 nad)
  obtain ⟨c41, Ar41, -, S41, N41, H41, -⟩ := id f40
  have hin41 : ¬ ((3 : Int32) < 0 ∨ c41.slots.size ≤ ((3 : Int32)).toNatClampNeg) := inb_of S41 ⟨by decide, by decide⟩
  refine Run.pre (X39.caload hx (j := (3 : Int32)) (v := (.int c3)) (by rw [e39]; exact Ar41.1) (State.isArrayOf_alike hZ.alike Ar41.2.1) Ar41.2.2 hin41 (H41.at hin41 rfl) (g := (mkF m 12 #[.val (.ref ar), .val (.int (3 : Int32)), .val (.ref ds), .val (.int (3 : Int32)), .val (.int (4 : Int32)), .val (.int (3 : Int32)), .val (.int c2)] [(.int (3 : Int32)), (.ref ar)])) rfl rfl (hb hby d6_12)) ?_
  show Run p e below s _ _ _ (T39.setTop (mkF m 13 #[.val (.ref ar), .val (.int (3 : Int32)), .val (.ref ds), .val (.int (3 : Int32)), .val (.int (4 : Int32)), .val (.int (3 : Int32)), .val (.int c2)] [(.int c3)]))
  refine Run.pre (fun _ k => XS.istore X39.here hx rfl (hb hby d6_13) rfl (l' := #[.val (.ref ar), .val (.int (3 : Int32)), .val (.ref ds), .val (.int (3 : Int32)), .val (.int (4 : Int32)), .val (.int (3 : Int32)), .val (.int c3)]) rfl k) ?_
  show Run p e below s _ _ _ (T39.setTop (mkF m 15 #[.val (.ref ar), .val (.int (3 : Int32)), .val (.ref ds), .val (.int (3 : Int32)), .val (.int (4 : Int32)), .val (.int (3 : Int32)), .val (.int c3)] []))
  refine Run.pre (fun _ k => XS.iload X39.here hx rfl (hb hby d6_15) rfl  k) ?_
  show Run p e below s _ _ _ (T39.setTop (mkF m 17 #[.val (.ref ar), .val (.int (3 : Int32)), .val (.ref ds), .val (.int (3 : Int32)), .val (.int (4 : Int32)), .val (.int (3 : Int32)), .val (.int c3)] [(.int c3)]))
  refine Run.pre (fun _ k => XS.sipush X39.here hx rfl (hb hby d6_17) k) ?_
  show Run p e below s _ _ _ (T39.setTop (mkF m 20 #[.val (.ref ar), .val (.int (3 : Int32)), .val (.ref ds), .val (.int (3 : Int32)), .val (.int (4 : Int32)), .val (.int (3 : Int32)), .val (.int c3)] [(.int (255 : Int32)), (.int c3)]))
  refine Run.pre (fun _ k => XS.icmpYes X39.here hx rfl (pc0 := 20) (pc' := 26) rfl (hb hby d6_20) rfl (flt (q3 : ¬ ((255 : Int32) < c3))).2.2.2 (by decide) (by decide) k) ?_
  show Run p e below s _ _ _ (T39.setTop (mkF m 26 #[.val (.ref ar), .val (.int (3 : Int32)), .val (.ref ds), .val (.int (3 : Int32)), .val (.int (4 : Int32)), .val (.int (3 : Int32)), .val (.int c3)] []))
  refine Run.pre (fun _ k => XS.aloadN X39.here hx rfl (hb hby d6_26) rfl rfl k) ?_
  show Run p e below s _ _ _ (T39.setTop (mkF m 27 #[.val (.ref ar), .val (.int (3 : Int32)), .val (.ref ds), .val (.int (3 : Int32)), .val (.int (4 : Int32)), .val (.int (3 : Int32)), .val (.int c3)] [(.ref ds)]))
  refine Run.pre (fun _ k => XS.iloadN X39.here hx rfl (hb hby d6_27) rfl  k) ?_
  show Run p e below s _ _ _ (T39.setTop (mkF m 28 #[.val (.ref ar), .val (.int (3 : Int32)), .val (.ref ds), .val (.int (3 : Int32)), .val (.int (4 : Int32)), .val (.int (3 : Int32)), .val (.int c3)] [(.int (3 : Int32)), (.ref ds)]))
  refine Run.pre (fun _ k => XS.iload X39.here hx rfl (hb hby d6_28) rfl  k) ?_
  show Run p e below s _ _ _ (T39.setTop (mkF m 30 #[.val (.ref ar), .val (.int (3 : Int32)), .val (.ref ds), .val (.int (3 : Int32)), .val (.int (4 : Int32)), .val (.int (3 : Int32)), .val (.int c3)] [(.int c3), (.int (3 : Int32)), (.ref ds)]))
  refine Run.pre (fun _ k => XS.i2b X39.here hx rfl (hb hby d6_30) rfl k) ?_
  show Run p e below s _ _ _ (T39.setTop (mkF m 31 #[.val (.ref ar), .val (.int (3 : Int32)), .val (.ref ds), .val (.int (3 : Int32)), .val (.int (4 : Int32)), .val (.int (3 : Int32)), .val (.int c3)] [(.int (c3.toInt8.toInt32)), (.int (3 : Int32)), (.ref ds)]))
  obtain ⟨c42, Ar42, q42, S42, N42, H42, G42⟩ := id V_ds_39
  have hin42 : ¬ ((3 : Int32) < 0 ∨ c42.slots.size ≤ ((3 : Int32)).toNatClampNeg) := inb_of S42 ⟨by decide, by decide⟩
  obtain ⟨T43, h43, X43, e43, W43, st43⟩ := stB X39 hx hZ e39 Ar42 (j := (3 : Int32)) hin42 (g := (mkF m 31 #[.val (.ref ar), .val (.int (3 : Int32)), .val (.ref ds), .val (.int (3 : Int32)), .val (.int (4 : Int32)), .val (.int (3 : Int32)), .val (.int c3)] [(.int (c3.toInt8.toInt32)), (.int (3 : Int32)), (.ref ds)])) rfl rfl (hb hby d6_31)
  refine Run.pre st43 ?_
  have V_ds_43 : Arv Z h43 ds kb .byte (4 : Int32) [(.int (nar .byte (c0.toInt8.toInt32))), (.int (nar .byte (c1.toInt8.toInt32))), (.int (nar .byte (c2.toInt8.toInt32))), (.int (nar .byte (c3.toInt8.toInt32)))] (.int (0 : Int32)) := Arv.set Ar42 q42 S42 N42 H42 G42 (fits_nar_byte _) W43 3 rfl (Nat.le_of_ble_eq_true rfl)
  have K43 : Keep h0 h43 [ds] := K39.wr W43 (Or.inl (by simp))
  have N43 := Fr.snoc X43 N39 g_ds
  show Run p e below s _ _ _ (T43.setTop (mkF m 32 #[.val (.ref ar), .val (.int (3 : Int32)), .val (.ref ds), .val (.int (3 : Int32)), .val (.int (4 : Int32)), .val (.int (3 : Int32)), .val (.int c3)] []))
  refine Run.pre (fun _ k => XS.iinc X43.here hx rfl (hb hby d6_32) rfl (l' := #[.val (.ref ar), .val (.int (4 : Int32)), .val (.ref ds), .val (.int (3 : Int32)), .val (.int (4 : Int32)), .val (.int (3 : Int32)), .val (.int c3)]) rfl k) ?_
  show Run p e below s _ _ _ (T43.setTop (mkF m 35 #[.val (.ref ar), .val (.int (4 : Int32)), .val (.ref ds), .val (.int (3 : Int32)), .val (.int (4 : Int32)), .val (.int (3 : Int32)), .val (.int c3)] []))
  refine Run.pre (fun _ k => XS.iinc X43.here hx rfl (hb hby d6_35) rfl (l' := #[.val (.ref ar), .val (.int (4 : Int32)), .val (.ref ds), .val (.int (4 : Int32)), .val (.int (4 : Int32)), .val (.int (3 : Int32)), .val (.int c3)]) rfl k) ?_
  show Run p e below s _ _ _ (T43.setTop (mkF m 38 #[.val (.ref ar), .val (.int (4 : Int32)), .val (.ref ds), .val (.int (4 : Int32)), .val (.int (4 : Int32)), .val (.int (3 : Int32)), .val (.int c3)] []))
  refine Run.pre (fun _ k => XS.iinc X43.here hx rfl (hb hby d6_38) rfl (l' := #[.val (.ref ar), .val (.int (4 : Int32)), .val (.ref ds), .val (.int (4 : Int32)), .val (.int (4 : Int32)), .val (.int (4 : Int32)), .val (.int c3)]) rfl k) ?_
  show Run p e below s _ _ _ (T43.setTop (mkF m 41 #[.val (.ref ar), .val (.int (4 : Int32)), .val (.ref ds), .val (.int (4 : Int32)), .val (.int (4 : Int32)), .val (.int (4 : Int32)), .val (.int c3)] []))
  refine Run.pre (fun _ k => XS.goto X43.here hx rfl (pc0 := 41) (pc' := 3) rfl (hb hby d6_41) (by decide) (by decide) k) ?_
  show Run p e below s _ _ _ (T43.setTop (mkF m 3 #[.val (.ref ar), .val (.int (4 : Int32)), .val (.ref ds), .val (.int (4 : Int32)), .val (.int (4 : Int32)), .val (.int (4 : Int32)), .val (.int c3)] []))
  refine Run.pre (fun _ k => XS.iload X43.here hx rfl (hb hby d6_3) rfl  k) ?_
  show Run p e below s _ _ _ (T43.setTop (mkF m 5 #[.val (.ref ar), .val (.int (4 : Int32)), .val (.ref ds), .val (.int (4 : Int32)), .val (.int (4 : Int32)), .val (.int (4 : Int32)), .val (.int c3)] [(.int (4 : Int32))]))
  refine Run.pre (fun _ k => XS.iload X43.here hx rfl (hb hby d6_5) rfl  k) ?_
  show Run p e below s _ _ _ (T43.setTop (mkF m 7 #[.val (.ref ar), .val (.int (4 : Int32)), .val (.ref ds), .val (.int (4 : Int32)), .val (.int (4 : Int32)), .val (.int (4 : Int32)), .val (.int c3)] [(.int (4 : Int32)), (.int (4 : Int32))]))
  refine Run.pre (fun _ k => XS.icmpYes X43.here hx rfl (pc0 := 7) (pc' := 44) rfl (hb hby d6_7) rfl (flt ((by decide) : ¬ ((4 : Int32) < (4 : Int32)))).2.1 (by decide) (by decide) k) ?_
  show Run p e below s _ _ _ (T43.setTop (mkF m 44 #[.val (.ref ar), .val (.int (4 : Int32)), .val (.ref ds), .val (.int (4 : Int32)), .val (.int (4 : Int32)), .val (.int (4 : Int32)), .val (.int c3)] []))
  refine Run.pre (fun _ k => XS.iload X43.here hx rfl (hb hby d6_44) rfl  k) ?_
  show Run p e below s _ _ _ (T43.setTop (mkF m 46 #[.val (.ref ar), .val (.int (4 : Int32)), .val (.ref ds), .val (.int (4 : Int32)), .val (.int (4 : Int32)), .val (.int (4 : Int32)), .val (.int c3)] [(.int (4 : Int32))]))
  exact Run.retI X43 hx hret hlk (hb hby d6_46) (by first | (rw [e43]; exact ⟨rfl, N43, K43, V_ds_43⟩) | exact ⟨rfl, N43, K43, V_ds_43⟩) (by decide) (by decide)
theorem d18_0 : decode jdk_52_method_3_code 0 = .ok (.iload_n 0, 1) := by decide +kernel
theorem d18_1 : decode jdk_52_method_3_code 1 = .ok (.ifCond .ge 11, 3) := by decide +kernel
theorem d18_12 : decode jdk_52_method_3_code 12 = .ok (.iload_n 0, 1) := by decide +kernel
theorem d18_13 : decode jdk_52_method_3_code 13 = .ok (.ldc 20, 2) := by decide +kernel
theorem d18_15 : decode jdk_52_method_3_code 15 = .ok (.if_icmp .lt 40, 3) := by decide +kernel
theorem d18_55 : decode jdk_52_method_3_code 55 = .ok (.iload_n 0, 1) := by decide +kernel
theorem d18_56 : decode jdk_52_method_3_code 56 = .ok (.iconst 1, 1) := by decide +kernel
theorem d18_57 : decode jdk_52_method_3_code 57 = .ok (.ishl, 1) := by decide +kernel
theorem d18_58 : decode jdk_52_method_3_code 58 = .ok (.ireturn, 1) := by decide +kernel
theorem pn_18 : plainName "java/lang/StringUTF16" = true := by first | (simp [plainName, overriddenIn]; done) | decide +kernel
set_option maxRecDepth 65536 in
set_option maxHeartbeats 40000000 in
theorem rmNL_4 (l : Launch) (Z : State) (a0 : Array Value) (hw : ∀ d ∈ tables_1, d.before a0 Z = true)  (h0 : Heap) (n0 : Nat) (Z0 : n0 ≤ h0.size) :
    Con l (⟨"java/lang/StringUTF16", "newBytesLength", "(I)I"⟩ : MethodName) jdk_52_method_3_code 1 (some .int) ({ frames := 0, cells := 0, slots := 0, locals := 0 } : Room) Z #[(.int (4 : Int32))] h0 (fun v h L => v = some (.int 8) ∧ Fr n0 L ∧ h = h0) := by
  refine Con.mk (plainFor_of_name pn_18) (fun m => show entryFrame m #[(.int (4 : Int32))] 1 = mkF m 0 #[.val (.int (4 : Int32))] [] by first | (simp [entryFrame, mkF, argsToLocals, Value.category]; done) | rfl) ?_
  intro p e s m below meth c s₁ hx hby hml hown hnm hret hlk hZ X0 e0
  have N0 := Fr.nil n0
  show Run p e below s _ _ _ (s₁.setTop (mkF m 0 #[.val (.int (4 : Int32))] []))
  refine Run.pre (fun _ k => XS.iloadN X0.here hx rfl (hb hby d18_0) rfl  k) ?_
  show Run p e below s _ _ _ (s₁.setTop (mkF m 1 #[.val (.int (4 : Int32))] [(.int (4 : Int32))]))
  refine Run.pre (fun _ k => XS.ifYes X0.here hx rfl (pc0 := 1) (pc' := 12) rfl (hb hby d18_1) rfl ((if0 _ _).trans (flt ((by decide) : ¬ ((4 : Int32) < (0 : Int32)))).2.1) (by decide) (by decide) k) ?_
  show Run p e below s _ _ _ (s₁.setTop (mkF m 12 #[.val (.int (4 : Int32))] []))
  refine Run.pre (fun _ k => XS.iloadN X0.here hx rfl (hb hby d18_12) rfl  k) ?_
  show Run p e below s _ _ _ (s₁.setTop (mkF m 13 #[.val (.int (4 : Int32))] [(.int (4 : Int32))]))
  refine Run.pre (X0.ldcInt hx hown (mvT hZ (hw _ (List.mem_of_getElem? (i := 76) rfl))) (g := (mkF m 13 #[.val (.int (4 : Int32))] [(.int (4 : Int32))])) rfl (hb hby d18_13)) ?_
  show Run p e below s _ _ _ (s₁.setTop (mkF m 15 #[.val (.int (4 : Int32))] [(.int (1073741823 : Int32)), (.int (4 : Int32))]))
  refine Run.pre (fun _ k => XS.icmpYes X0.here hx rfl (pc0 := 15) (pc' := 55) rfl (hb hby d18_15) rfl (tlt ((by decide) : (4 : Int32) < (1073741823 : Int32))).1 (by decide) (by decide) k) ?_
  show Run p e below s _ _ _ (s₁.setTop (mkF m 55 #[.val (.int (4 : Int32))] []))
  refine Run.pre (fun _ k => XS.iloadN X0.here hx rfl (hb hby d18_55) rfl  k) ?_
  show Run p e below s _ _ _ (s₁.setTop (mkF m 56 #[.val (.int (4 : Int32))] [(.int (4 : Int32))]))
  refine Run.pre (fun _ k => XS.iconst X0.here hx rfl (hb hby d18_56) k) ?_
  show Run p e below s _ _ _ (s₁.setTop (mkF m 57 #[.val (.int (4 : Int32))] [(.int (1 : Int32)), (.int (4 : Int32))]))
  refine Run.pre (fun _ k => XS.ishl X0.here hx rfl (hb hby d18_57) rfl k) ?_
  show Run p e below s _ _ _ (s₁.setTop (mkF m 58 #[.val (.int (4 : Int32))] [(.int (8 : Int32))]))
  exact Run.retI X0 hx hret hlk (hb hby d18_58) (by first | (rw [e0]; exact ⟨rfl, N0, rfl⟩) | exact ⟨rfl, N0, rfl⟩) (by decide) (by decide)
theorem d17_0 : decode jdk_52_method_2_code 0 = .ok (.iload_n 0, 1) := by decide +kernel
theorem pd_0 : parseMethodDescriptor "(I)I" = some ⟨[.int], some .int⟩ := by decide +kernel
theorem d17_1 : decode jdk_52_method_2_code 1 = .ok (.invokestatic 11, 3) := by decide +kernel
theorem d17_4 : decode jdk_52_method_2_code 4 = .ok (.newarray .byte, 2) := by decide +kernel
theorem d17_6 : decode jdk_52_method_2_code 6 = .ok (.areturn, 1) := by decide +kernel
theorem pn_17 : plainName "java/lang/StringUTF16" = true := by first | (simp [plainName, overriddenIn]; done) | decide +kernel
set_option maxRecDepth 65536 in
set_option maxHeartbeats 40000000 in
theorem rmNF_4 (l : Launch) (Z : State) (a0 : Array Value) (hw : ∀ d ∈ tables_1, d.before a0 Z = true)  (h0 : Heap) (n0 : Nat) (Z0 : n0 ≤ h0.size) :
    Con l (⟨"java/lang/StringUTF16", "newBytesFor", "(I)[B"⟩ : MethodName) jdk_52_method_2_code 1 (some (.array .byte)) ({ frames := 1, cells := 1, slots := 8, locals := 12 } : Room) Z #[(.int (4 : Int32))] h0 (fun v h L => ∃ b : Addr, ∃ k : ClassId, v = some (.ref b) ∧ Fr n0 L ∧ Keep h0 h [] ∧ h0.size ≤ b ∧ Arv Z h b k .byte 8 [(.int (0 : Int32)), (.int (0 : Int32)), (.int (0 : Int32)), (.int (0 : Int32)), (.int (0 : Int32)), (.int (0 : Int32)), (.int (0 : Int32)), (.int (0 : Int32))] (.int 0)) := by
  refine Con.mk (plainFor_of_name pn_17) (fun m => show entryFrame m #[(.int (4 : Int32))] 1 = mkF m 0 #[.val (.int (4 : Int32))] [] by first | (simp [entryFrame, mkF, argsToLocals, Value.category]; done) | rfl) ?_
  intro p e s m below meth c s₁ hx hby hml hown hnm hret hlk hZ X0 e0
  have N0 := Fr.nil n0
  show Run p e below s _ _ _ (s₁.setTop (mkF m 0 #[.val (.int (4 : Int32))] []))
  refine Run.pre (fun _ k => XS.iloadN X0.here hx rfl (hb hby d17_0) rfl  k) ?_
  show Run p e below s _ _ _ (s₁.setTop (mkF m 1 #[.val (.int (4 : Int32))] [(.int (4 : Int32))]))
  refine Run.callS X0 hx hZ (y := (⟨"java/lang/StringUTF16", "newBytesLength", "(I)I"⟩ : MethodName)) hown (hw _ (List.mem_of_getElem? (i := 73) rfl)) (hw _ (List.mem_of_getElem? (i := 74) rfl)) (hw _ (List.mem_of_getElem? (i := 22) rfl)) (hw _ (List.mem_of_getElem? (i := 75) rfl)) (by decide) (W := 0) (rmNL_4 l Z a0 hw h0 n0 (Nat.le_trans Z0 (Keep.refl h0 []).1)) e0 (by decide) (by decide) (by decide) (by decide) (g := (mkF m 1 #[.val (.int (4 : Int32))] [(.int (4 : Int32))])) rfl (by rw [hml]; rfl) (argsL := [(.int (4 : Int32))]) (rest := []) (lenOf pd_0 rfl) rfl (by show 2 * 0 + _ ≤ _; exact Nat.le_of_eq rfl) (hb hby d17_1) ?_
  intro v44 T44 L44 X44 hQ44
  obtain ⟨rfl, Nq44, he44⟩ := hQ44
  have N44 := Fr.app N0 Nq44
  have e44 : T44.heap = h0 := he44
  show Run p e below s _ _ _ (T44.setTop (mkF m 4 #[.val (.int (4 : Int32))] [(.int (8 : Int32))]))
  obtain ⟨T45, h45, k45, X45, e45, E45, A45, st45⟩ := newP X44 hx hZ (hw _ (List.mem_of_getElem? (i := 24) rfl)) e44 (g := (mkF m 4 #[.val (.int (4 : Int32))] [(.int (8 : Int32))])) rfl (hb hby d17_4) rfl (by decide) (cap := 8) (by decide) (by decide) (by decide) (by decide)
  obtain ⟨b45, g45⟩ : ∃ z, z = h0.size := ⟨_, rfl⟩
  rw [← g45] at A45 st45
  refine Run.pre st45 ?_
  have V_b45 : Arv Z h45 b45 k45 .byte (8 : Int32) [(.int (0 : Int32)), (.int (0 : Int32)), (.int (0 : Int32)), (.int (0 : Int32)), (.int (0 : Int32)), (.int (0 : Int32)), (.int (0 : Int32)), (.int (0 : Int32))] (.int (0 : Int32)) := (Arv.new A45 (by decide)).pad (pad_rep [] (.int (0 : Int32)) 8)
  have gn_b45 : n0 ≤ b45 := Nat.le_trans (Nat.le_trans Z0 (Keep.refl h0 []).1) (Nat.le_of_eq g45.symm)
  have sz_b45 : h0.size ≤ b45 := Nat.le_trans (Keep.refl h0 []).1 (Nat.le_of_eq g45.symm)
  have K45 : Keep h0 h45 [] := (Keep.refl h0 []).ext E45
  show Run p e below s _ _ _ (T45.setTop (mkF m 6 #[.val (.int (4 : Int32))] [(.ref b45)]))
  exact Run.retA X45 hx hret rfl rfl hlk (hb hby d17_6) (by first | (rw [e45]; exact ⟨b45, k45, rfl, N44, K45, sz_b45, V_b45⟩) | exact ⟨b45, k45, rfl, N44, K45, sz_b45, V_b45⟩) (by decide) (by decide)
theorem d19_0 : decode jdk_52_method_4_code 0 = .ok (.getstatic 44, 3) := by decide +kernel
theorem d19_3 : decode jdk_52_method_4_code 3 = .ok (.ifCond .ne 25, 3) := by decide +kernel
theorem d19_28 : decode jdk_52_method_4_code 28 = .ok (.iload_n 1, 1) := by decide +kernel
theorem d19_29 : decode jdk_52_method_4_code 29 = .ok (.iconst 1, 1) := by decide +kernel
theorem d19_30 : decode jdk_52_method_4_code 30 = .ok (.ishl, 1) := by decide +kernel
theorem d19_31 : decode jdk_52_method_4_code 31 = .ok (.istore_n 1, 1) := by decide +kernel
theorem d19_32 : decode jdk_52_method_4_code 32 = .ok (.aload_n 0, 1) := by decide +kernel
theorem d19_33 : decode jdk_52_method_4_code 33 = .ok (.iload_n 1, 1) := by decide +kernel
theorem d19_34 : decode jdk_52_method_4_code 34 = .ok (.iinc 1 1, 3) := by decide +kernel
theorem d19_37 : decode jdk_52_method_4_code 37 = .ok (.iload_n 2, 1) := by decide +kernel
theorem d19_38 : decode jdk_52_method_4_code 38 = .ok (.getstatic 59, 3) := by decide +kernel
theorem d19_41 : decode jdk_52_method_4_code 41 = .ok (.ishr, 1) := by decide +kernel
theorem d19_42 : decode jdk_52_method_4_code 42 = .ok (.i2b, 1) := by decide +kernel
theorem d19_43 : decode jdk_52_method_4_code 43 = .ok (.bastore, 1) := by decide +kernel
theorem d19_44 : decode jdk_52_method_4_code 44 = .ok (.aload_n 0, 1) := by decide +kernel
theorem d19_45 : decode jdk_52_method_4_code 45 = .ok (.iload_n 1, 1) := by decide +kernel
theorem d19_46 : decode jdk_52_method_4_code 46 = .ok (.iload_n 2, 1) := by decide +kernel
theorem d19_47 : decode jdk_52_method_4_code 47 = .ok (.getstatic 63, 3) := by decide +kernel
theorem d19_50 : decode jdk_52_method_4_code 50 = .ok (.ishr, 1) := by decide +kernel
theorem d19_51 : decode jdk_52_method_4_code 51 = .ok (.i2b, 1) := by decide +kernel
theorem d19_52 : decode jdk_52_method_4_code 52 = .ok (.bastore, 1) := by decide +kernel
theorem d19_53 : decode jdk_52_method_4_code 53 = .ok (.return_, 1) := by decide +kernel
theorem pn_19 : plainName "java/lang/StringUTF16" = true := by first | (simp [plainName, overriddenIn]; done) | decide +kernel
set_option maxRecDepth 65536 in
set_option maxHeartbeats 40000000 in
theorem rmPC_4_0 (l : Launch) (Z : State) (a0 : Array Value) (hw : ∀ d ∈ tables_1, d.before a0 Z = true) (b : Addr) (kb : ClassId) (cj : Int32) (y0 : Int32) (y1 : Int32) (y2 : Int32) (y3 : Int32) (y4 : Int32) (y5 : Int32) (y6 : Int32) (y7 : Int32) (h0 : Heap) (n0 : Nat) (Z0 : n0 ≤ h0.size) (OL : Old Z n0 h0) (SA : Sta Z Z.heap "java/lang/StringUTF16" "$assertionsDisabled" "Z" (.int 1)) (SH : Sta Z Z.heap "java/lang/StringUTF16" "HI_BYTE_SHIFT" "I" (.int 0)) (SL : Sta Z Z.heap "java/lang/StringUTF16" "LO_BYTE_SHIFT" "I" (.int 8)) (AB : Arv Z h0 b kb .byte 8 [(.int y0), (.int y1), (.int y2), (.int y3), (.int y4), (.int y5), (.int y6), (.int y7)] (.int 0)) (g_b : n0 ≤ b) :
    Con l (⟨"java/lang/StringUTF16", "putChar", "([BII)V"⟩ : MethodName) jdk_52_method_4_code 3 none ({ frames := 0, cells := 0, slots := 0, locals := 0 } : Room) Z #[(.ref b), (.int (0 : Int32)), (.int cj)] h0 (fun v h L => v = none ∧ Fr n0 L ∧ Keep h0 h [b] ∧ Arv Z h b kb .byte 8 [(.int (own_b0 cj)), (.int (own_b1 cj)), (.int y2), (.int y3), (.int y4), (.int y5), (.int y6), (.int y7)] (.int 0)) := by
  refine Con.mk (plainFor_of_name pn_19) (fun m => show entryFrame m #[(.ref b), (.int (0 : Int32)), (.int cj)] 3 = mkF m 0 #[.val (.ref b), .val (.int (0 : Int32)), .val (.int cj)] [] by first | (simp [entryFrame, mkF, argsToLocals, Value.category]; done) | rfl) ?_
  intro p e s m below meth c s₁ hx hby hml hown hnm hret hlk hZ X0 e0
  have N0 := Fr.nil n0
  show Run p e below s _ _ _ (s₁.setTop (mkF m 0 #[.val (.ref b), .val (.int (0 : Int32)), .val (.int cj)] []))
  obtain ⟨T46, X46, e46, st46⟩ := getS2 X0 hx hZ hown (host := "") (Or.inl (hw _ (List.mem_of_getElem? (i := 80) rfl))) Via.refl e0 (SA.ext OL.2) (g := (mkF m 0 #[.val (.ref b), .val (.int (0 : Int32)), .val (.int cj)] [])) rfl (hb hby d19_0)
  refine Run.pre st46 ?_
  show Run p e below s _ _ _ (T46.setTop (mkF m 3 #[.val (.ref b), .val (.int (0 : Int32)), .val (.int cj)] [(.int (1 : Int32))]))
  refine Run.pre (fun _ k => XS.ifYes X46.here hx rfl (pc0 := 3) (pc' := 28) rfl (hb hby d19_3) rfl ((if0 _ _).trans (feq ((by decide) : ¬ ((1 : Int32) = (0 : Int32)))).2) (by decide) (by decide) k) ?_
  show Run p e below s _ _ _ (T46.setTop (mkF m 28 #[.val (.ref b), .val (.int (0 : Int32)), .val (.int cj)] []))
  refine Run.pre (fun _ k => XS.iloadN X46.here hx rfl (hb hby d19_28) rfl  k) ?_
  show Run p e below s _ _ _ (T46.setTop (mkF m 29 #[.val (.ref b), .val (.int (0 : Int32)), .val (.int cj)] [(.int (0 : Int32))]))
  refine Run.pre (fun _ k => XS.iconst X46.here hx rfl (hb hby d19_29) k) ?_
  show Run p e below s _ _ _ (T46.setTop (mkF m 30 #[.val (.ref b), .val (.int (0 : Int32)), .val (.int cj)] [(.int (1 : Int32)), (.int (0 : Int32))]))
  refine Run.pre (fun _ k => XS.ishl X46.here hx rfl (hb hby d19_30) rfl k) ?_
  show Run p e below s _ _ _ (T46.setTop (mkF m 31 #[.val (.ref b), .val (.int (0 : Int32)), .val (.int cj)] [(.int (0 : Int32))]))
  refine Run.pre (fun _ k => XS.istoreN X46.here hx rfl (hb hby d19_31) rfl (l' := #[.val (.ref b), .val (.int (0 : Int32)), .val (.int cj)]) rfl k) ?_
  show Run p e below s _ _ _ (T46.setTop (mkF m 32 #[.val (.ref b), .val (.int (0 : Int32)), .val (.int cj)] []))
  refine Run.pre (fun _ k => XS.aloadN X46.here hx rfl (hb hby d19_32) rfl rfl k) ?_
  show Run p e below s _ _ _ (T46.setTop (mkF m 33 #[.val (.ref b), .val (.int (0 : Int32)), .val (.int cj)] [(.ref b)]))
  refine Run.pre (fun _ k => XS.iloadN X46.here hx rfl (hb hby d19_33) rfl  k) ?_
  show Run p e below s _ _ _ (T46.setTop (mkF m 34 #[.val (.ref b), .val (.int (0 : Int32)), .val (.int cj)] [(.int (0 : Int32)), (.ref b)]))
  refine Run.pre (fun _ k => XS.iinc X46.here hx rfl (hb hby d19_34) rfl (l' := #[.val (.ref b), .val (.int (1 : Int32)), .val (.int cj)]) rfl k) ?_
  show Run p e below s _ _ _ (T46.setTop (mkF m 37 #[.val (.ref b), .val (.int (1 : Int32)), .val (.int cj)] [(.int (0 : Int32)), (.ref b)]))
  refine Run.pre (fun _ k => XS.iloadN X46.here hx rfl (hb hby d19_37) rfl  k) ?_
  show Run p e below s _ _ _ (T46.setTop (mkF m 38 #[.val (.ref b), .val (.int (1 : Int32)), .val (.int cj)] [(.int cj), (.int (0 : Int32)), (.ref b)]))
  obtain ⟨T47, X47, e47, st47⟩ := getS2 X46 hx hZ hown (host := "") (Or.inl (hw _ (List.mem_of_getElem? (i := 81) rfl))) Via.refl e46 (SH.ext OL.2) (g := (mkF m 38 #[.val (.ref b), .val (.int (1 : Int32)), .val (.int cj)] [(.int cj), (.int (0 : Int32)), (.ref b)])) rfl (hb hby d19_38)
  refine Run.pre st47 ?_
  show Run p e below s _ _ _ (T47.setTop (mkF m 41 #[.val (.ref b), .val (.int (1 : Int32)), .val (.int cj)] [(.int (0 : Int32)), (.int cj), (.int (0 : Int32)), (.ref b)]))
  refine Run.pre (fun _ k => XS.ishr X47.here hx rfl (hb hby d19_41) rfl k) ?_
  show Run p e below s _ _ _ (T47.setTop (mkF m 42 #[.val (.ref b), .val (.int (1 : Int32)), .val (.int cj)] [(.int (cj >>> ((0 : Int32) &&& 31))), (.int (0 : Int32)), (.ref b)]))
  refine Run.pre (fun _ k => XS.i2b X47.here hx rfl (hb hby d19_42) rfl k) ?_
  show Run p e below s _ _ _ (T47.setTop (mkF m 43 #[.val (.ref b), .val (.int (1 : Int32)), .val (.int cj)] [(.int ((cj >>> ((0 : Int32) &&& 31)).toInt8.toInt32)), (.int (0 : Int32)), (.ref b)]))
  obtain ⟨c48, Ar48, q48, S48, N48, H48, G48⟩ := id AB
  have hin48 : ¬ ((0 : Int32) < 0 ∨ c48.slots.size ≤ ((0 : Int32)).toNatClampNeg) := inb_of S48 ⟨by decide, by decide⟩
  obtain ⟨T49, h49, X49, e49, W49, st49⟩ := stB X47 hx hZ e47 Ar48 (j := (0 : Int32)) hin48 (g := (mkF m 43 #[.val (.ref b), .val (.int (1 : Int32)), .val (.int cj)] [(.int ((cj >>> ((0 : Int32) &&& 31)).toInt8.toInt32)), (.int (0 : Int32)), (.ref b)])) rfl rfl (hb hby d19_43)
  refine Run.pre st49 ?_
  have V_b_49 : Arv Z h49 b kb .byte (8 : Int32) [(.int (nar .byte ((cj >>> ((0 : Int32) &&& 31)).toInt8.toInt32))), (.int y1), (.int y2), (.int y3), (.int y4), (.int y5), (.int y6), (.int y7)] (.int (0 : Int32)) := Arv.set Ar48 q48 S48 N48 H48 G48 (fits_nar_byte _) W49 0 rfl (Nat.le_of_ble_eq_true rfl)
  have K49 : Keep h0 h49 [b] := (Keep.refl h0 [b]).wr W49 (Or.inl (by simp))
  have N49 := Fr.snoc X49 N0 g_b
  show Run p e below s _ _ _ (T49.setTop (mkF m 44 #[.val (.ref b), .val (.int (1 : Int32)), .val (.int cj)] []))
  refine Run.pre (fun _ k => XS.aloadN X49.here hx rfl (hb hby d19_44) rfl rfl k) ?_
  show Run p e below s _ _ _ (T49.setTop (mkF m 45 #[.val (.ref b), .val (.int (1 : Int32)), .val (.int cj)] [(.ref b)]))
  refine Run.pre (fun _ k => XS.iloadN X49.here hx rfl (hb hby d19_45) rfl  k) ?_
  show Run p e below s _ _ _ (T49.setTop (mkF m 46 #[.val (.ref b), .val (.int (1 : Int32)), .val (.int cj)] [(.int (1 : Int32)), (.ref b)]))
  refine Run.pre (fun _ k => XS.iloadN X49.here hx rfl (hb hby d19_46) rfl  k) ?_
  show Run p e below s _ _ _ (T49.setTop (mkF m 47 #[.val (.ref b), .val (.int (1 : Int32)), .val (.int cj)] [(.int cj), (.int (1 : Int32)), (.ref b)]))
  have f50 := (OL.wr W49 g_b)
  obtain ⟨T51, X51, e51, st51⟩ := getS2 X49 hx hZ hown (host := "") (Or.inl (hw _ (List.mem_of_getElem? (i := 82) rfl))) Via.refl e49 (SL.ext f50.2) (g := (mkF m 47 #[.val (.ref b), .val (.int (1 : Int32)), .val (.int cj)] [(.int cj), (.int (1 : Int32)), (.ref b)])) rfl (hb hby d19_47)
  refine Run.pre st51 ?_
  show Run p e below s _ _ _ (T51.setTop (mkF m 50 #[.val (.ref b), .val (.int (1 : Int32)), .val (.int cj)] [(.int (8 : Int32)), (.int cj), (.int (1 : Int32)), (.ref b)]))
  refine Run.pre (fun _ k => XS.ishr X51.here hx rfl (hb hby d19_50) rfl k) ?_
  show Run p e below s _ _ _ (T51.setTop (mkF m 51 #[.val (.ref b), .val (.int (1 : Int32)), .val (.int cj)] [(.int (cj >>> ((8 : Int32) &&& 31))), (.int (1 : Int32)), (.ref b)]))
  refine Run.pre (fun _ k => XS.i2b X51.here hx rfl (hb hby d19_51) rfl k) ?_
  show Run p e below s _ _ _ (T51.setTop (mkF m 52 #[.val (.ref b), .val (.int (1 : Int32)), .val (.int cj)] [(.int ((cj >>> ((8 : Int32) &&& 31)).toInt8.toInt32)), (.int (1 : Int32)), (.ref b)]))
  obtain ⟨c52, Ar52, q52, S52, N52, H52, G52⟩ := id V_b_49
  have hin52 : ¬ ((1 : Int32) < 0 ∨ c52.slots.size ≤ ((1 : Int32)).toNatClampNeg) := inb_of S52 ⟨by decide, by decide⟩
  obtain ⟨T53, h53, X53, e53, W53, st53⟩ := stB X51 hx hZ e51 Ar52 (j := (1 : Int32)) hin52 (g := (mkF m 52 #[.val (.ref b), .val (.int (1 : Int32)), .val (.int cj)] [(.int ((cj >>> ((8 : Int32) &&& 31)).toInt8.toInt32)), (.int (1 : Int32)), (.ref b)])) rfl rfl (hb hby d19_52)
  refine Run.pre st53 ?_
  have V_b_53 : Arv Z h53 b kb .byte (8 : Int32) [(.int (nar .byte ((cj >>> ((0 : Int32) &&& 31)).toInt8.toInt32))), (.int (nar .byte ((cj >>> ((8 : Int32) &&& 31)).toInt8.toInt32))), (.int y2), (.int y3), (.int y4), (.int y5), (.int y6), (.int y7)] (.int (0 : Int32)) := Arv.set Ar52 q52 S52 N52 H52 G52 (fits_nar_byte _) W53 1 rfl (Nat.le_of_ble_eq_true rfl)
  have K53 : Keep h0 h53 [b] := K49.wr W53 (Or.inl (by simp))
  have N53 := Fr.snoc X53 N49 g_b
  show Run p e below s _ _ _ (T53.setTop (mkF m 53 #[.val (.ref b), .val (.int (1 : Int32)), .val (.int cj)] []))
  exact Run.retV X53 hx hret hlk (hb hby d19_53) (by first | (rw [e53]; exact ⟨rfl, N53, K53, V_b_53⟩) | exact ⟨rfl, N53, K53, V_b_53⟩) (by decide) (by decide)
theorem d20_0 : decode jdk_52_method_5_code 0 = .ok (.getstatic 44, 3) := by decide +kernel
theorem d20_3 : decode jdk_52_method_5_code 3 = .ok (.ifCond .ne 25, 3) := by decide +kernel
theorem d20_28 : decode jdk_52_method_5_code 28 = .ok (.iload_n 1, 1) := by decide +kernel
theorem d20_29 : decode jdk_52_method_5_code 29 = .ok (.iconst 1, 1) := by decide +kernel
theorem d20_30 : decode jdk_52_method_5_code 30 = .ok (.ishl, 1) := by decide +kernel
theorem d20_31 : decode jdk_52_method_5_code 31 = .ok (.istore_n 1, 1) := by decide +kernel
theorem d20_32 : decode jdk_52_method_5_code 32 = .ok (.aload_n 0, 1) := by decide +kernel
theorem d20_33 : decode jdk_52_method_5_code 33 = .ok (.iload_n 1, 1) := by decide +kernel
theorem d20_34 : decode jdk_52_method_5_code 34 = .ok (.iinc 1 1, 3) := by decide +kernel
theorem d20_37 : decode jdk_52_method_5_code 37 = .ok (.baload, 1) := by decide +kernel
theorem d20_38 : decode jdk_52_method_5_code 38 = .ok (.sipush 255, 3) := by decide +kernel
theorem d20_41 : decode jdk_52_method_5_code 41 = .ok (.iand, 1) := by decide +kernel
theorem d20_42 : decode jdk_52_method_5_code 42 = .ok (.getstatic 59, 3) := by decide +kernel
theorem d20_45 : decode jdk_52_method_5_code 45 = .ok (.ishl, 1) := by decide +kernel
theorem d20_46 : decode jdk_52_method_5_code 46 = .ok (.aload_n 0, 1) := by decide +kernel
theorem d20_47 : decode jdk_52_method_5_code 47 = .ok (.iload_n 1, 1) := by decide +kernel
theorem d20_48 : decode jdk_52_method_5_code 48 = .ok (.baload, 1) := by decide +kernel
theorem d20_49 : decode jdk_52_method_5_code 49 = .ok (.sipush 255, 3) := by decide +kernel
theorem d20_52 : decode jdk_52_method_5_code 52 = .ok (.iand, 1) := by decide +kernel
theorem d20_53 : decode jdk_52_method_5_code 53 = .ok (.getstatic 63, 3) := by decide +kernel
theorem d20_56 : decode jdk_52_method_5_code 56 = .ok (.ishl, 1) := by decide +kernel
theorem d20_57 : decode jdk_52_method_5_code 57 = .ok (.ior, 1) := by decide +kernel
theorem d20_58 : decode jdk_52_method_5_code 58 = .ok (.i2c, 1) := by decide +kernel
theorem d20_59 : decode jdk_52_method_5_code 59 = .ok (.ireturn, 1) := by decide +kernel
theorem pn_20 : plainName "java/lang/StringUTF16" = true := by first | (simp [plainName, overriddenIn]; done) | decide +kernel
set_option maxRecDepth 65536 in
set_option maxHeartbeats 40000000 in
theorem rmGC_4_0 (l : Launch) (Z : State) (a0 : Array Value) (hw : ∀ d ∈ tables_1, d.before a0 Z = true) (b : Addr) (kb : ClassId) (y0 : Int32) (y1 : Int32) (y2 : Int32) (y3 : Int32) (y4 : Int32) (y5 : Int32) (y6 : Int32) (y7 : Int32) (h0 : Heap) (n0 : Nat) (Z0 : n0 ≤ h0.size) (OL : Old Z n0 h0) (SA : Sta Z Z.heap "java/lang/StringUTF16" "$assertionsDisabled" "Z" (.int 1)) (SH : Sta Z Z.heap "java/lang/StringUTF16" "HI_BYTE_SHIFT" "I" (.int 0)) (SL : Sta Z Z.heap "java/lang/StringUTF16" "LO_BYTE_SHIFT" "I" (.int 8)) (AB : Arv Z h0 b kb .byte 8 [(.int y0), (.int y1), (.int y2), (.int y3), (.int y4), (.int y5), (.int y6), (.int y7)] (.int 0)) :
    Con l (⟨"java/lang/StringUTF16", "getChar", "([BI)C"⟩ : MethodName) jdk_52_method_5_code 2 (some .char) ({ frames := 0, cells := 0, slots := 0, locals := 0 } : Room) Z #[(.ref b), (.int (0 : Int32))] h0 (fun v h L => v = some (.int (own_gcv y0 y1)) ∧ Fr n0 L ∧ h = h0) := by
  refine Con.mk (plainFor_of_name pn_20) (fun m => show entryFrame m #[(.ref b), (.int (0 : Int32))] 2 = mkF m 0 #[.val (.ref b), .val (.int (0 : Int32))] [] by first | (simp [entryFrame, mkF, argsToLocals, Value.category]; done) | rfl) ?_
  intro p e s m below meth c s₁ hx hby hml hown hnm hret hlk hZ X0 e0
  have N0 := Fr.nil n0
  show Run p e below s _ _ _ (s₁.setTop (mkF m 0 #[.val (.ref b), .val (.int (0 : Int32))] []))
  obtain ⟨T54, X54, e54, st54⟩ := getS2 X0 hx hZ hown (host := "") (Or.inl (hw _ (List.mem_of_getElem? (i := 80) rfl))) Via.refl e0 (SA.ext OL.2) (g := (mkF m 0 #[.val (.ref b), .val (.int (0 : Int32))] [])) rfl (hb hby d20_0)
  refine Run.pre st54 ?_
  show Run p e below s _ _ _ (T54.setTop (mkF m 3 #[.val (.ref b), .val (.int (0 : Int32))] [(.int (1 : Int32))]))
  refine Run.pre (fun _ k => XS.ifYes X54.here hx rfl (pc0 := 3) (pc' := 28) rfl (hb hby d20_3) rfl ((if0 _ _).trans (feq ((by decide) : ¬ ((1 : Int32) = (0 : Int32)))).2) (by decide) (by decide) k) ?_
  show Run p e below s _ _ _ (T54.setTop (mkF m 28 #[.val (.ref b), .val (.int (0 : Int32))] []))
  refine Run.pre (fun _ k => XS.iloadN X54.here hx rfl (hb hby d20_28) rfl  k) ?_
  show Run p e below s _ _ _ (T54.setTop (mkF m 29 #[.val (.ref b), .val (.int (0 : Int32))] [(.int (0 : Int32))]))
  refine Run.pre (fun _ k => XS.iconst X54.here hx rfl (hb hby d20_29) k) ?_
  show Run p e below s _ _ _ (T54.setTop (mkF m 30 #[.val (.ref b), .val (.int (0 : Int32))] [(.int (1 : Int32)), (.int (0 : Int32))]))
  refine Run.pre (fun _ k => XS.ishl X54.here hx rfl (hb hby d20_30) rfl k) ?_
  show Run p e below s _ _ _ (T54.setTop (mkF m 31 #[.val (.ref b), .val (.int (0 : Int32))] [(.int (0 : Int32))]))
  refine Run.pre (fun _ k => XS.istoreN X54.here hx rfl (hb hby d20_31) rfl (l' := #[.val (.ref b), .val (.int (0 : Int32))]) rfl k) ?_
  show Run p e below s _ _ _ (T54.setTop (mkF m 32 #[.val (.ref b), .val (.int (0 : Int32))] []))
  refine Run.pre (fun _ k => XS.aloadN X54.here hx rfl (hb hby d20_32) rfl rfl k) ?_
  show Run p e below s _ _ _ (T54.setTop (mkF m 33 #[.val (.ref b), .val (.int (0 : Int32))] [(.ref b)]))
  refine Run.pre (fun _ k => XS.iloadN X54.here hx rfl (hb hby d20_33) rfl  k) ?_
  show Run p e below s _ _ _ (T54.setTop (mkF m 34 #[.val (.ref b), .val (.int (0 : Int32))] [(.int (0 : Int32)), (.ref b)]))
  refine Run.pre (fun _ k => XS.iinc X54.here hx rfl (hb hby d20_34) rfl (l' := #[.val (.ref b), .val (.int (1 : Int32))]) rfl k) ?_
  show Run p e below s _ _ _ (T54.setTop (mkF m 37 #[.val (.ref b), .val (.int (1 : Int32))] [(.int (0 : Int32)), (.ref b)]))
  obtain ⟨c55, Ar55, -, S55, N55, H55, -⟩ := id AB
  have hin55 : ¬ ((0 : Int32) < 0 ∨ c55.slots.size ≤ ((0 : Int32)).toNatClampNeg) := inb_of S55 ⟨by decide, by decide⟩
  refine Run.pre (X54.baloadBytes hx (j := (0 : Int32)) (v := (.int y0)) (by rw [e54]; exact Ar55.1) (State.isArrayOf_alike hZ.alike Ar55.2.1) Ar55.2.2 hin55 (H55.at hin55 rfl) (g := (mkF m 37 #[.val (.ref b), .val (.int (1 : Int32))] [(.int (0 : Int32)), (.ref b)])) rfl rfl (hb hby d20_37)) ?_
  show Run p e below s _ _ _ (T54.setTop (mkF m 38 #[.val (.ref b), .val (.int (1 : Int32))] [(.int y0)]))
  refine Run.pre (fun _ k => XS.sipush X54.here hx rfl (hb hby d20_38) k) ?_
  show Run p e below s _ _ _ (T54.setTop (mkF m 41 #[.val (.ref b), .val (.int (1 : Int32))] [(.int (255 : Int32)), (.int y0)]))
  refine Run.pre (fun _ k => XS.iand X54.here hx rfl (hb hby d20_41) rfl k) ?_
  show Run p e below s _ _ _ (T54.setTop (mkF m 42 #[.val (.ref b), .val (.int (1 : Int32))] [(.int (y0 &&& (255 : Int32)))]))
  obtain ⟨T56, X56, e56, st56⟩ := getS2 X54 hx hZ hown (host := "") (Or.inl (hw _ (List.mem_of_getElem? (i := 81) rfl))) Via.refl e54 (SH.ext OL.2) (g := (mkF m 42 #[.val (.ref b), .val (.int (1 : Int32))] [(.int (y0 &&& (255 : Int32)))])) rfl (hb hby d20_42)
  refine Run.pre st56 ?_
  show Run p e below s _ _ _ (T56.setTop (mkF m 45 #[.val (.ref b), .val (.int (1 : Int32))] [(.int (0 : Int32)), (.int (y0 &&& (255 : Int32)))]))
  refine Run.pre (fun _ k => XS.ishl X56.here hx rfl (hb hby d20_45) rfl k) ?_
  show Run p e below s _ _ _ (T56.setTop (mkF m 46 #[.val (.ref b), .val (.int (1 : Int32))] [(.int ((y0 &&& (255 : Int32)) <<< ((0 : Int32) &&& 31)))]))
  refine Run.pre (fun _ k => XS.aloadN X56.here hx rfl (hb hby d20_46) rfl rfl k) ?_
  show Run p e below s _ _ _ (T56.setTop (mkF m 47 #[.val (.ref b), .val (.int (1 : Int32))] [(.ref b), (.int ((y0 &&& (255 : Int32)) <<< ((0 : Int32) &&& 31)))]))
  refine Run.pre (fun _ k => XS.iloadN X56.here hx rfl (hb hby d20_47) rfl  k) ?_
  show Run p e below s _ _ _ (T56.setTop (mkF m 48 #[.val (.ref b), .val (.int (1 : Int32))] [(.int (1 : Int32)), (.ref b), (.int ((y0 &&& (255 : Int32)) <<< ((0 : Int32) &&& 31)))]))
  obtain ⟨c57, Ar57, -, S57, N57, H57, -⟩ := id AB
  have hin57 : ¬ ((1 : Int32) < 0 ∨ c57.slots.size ≤ ((1 : Int32)).toNatClampNeg) := inb_of S57 ⟨by decide, by decide⟩
  refine Run.pre (X56.baloadBytes hx (j := (1 : Int32)) (v := (.int y1)) (by rw [e56]; exact Ar57.1) (State.isArrayOf_alike hZ.alike Ar57.2.1) Ar57.2.2 hin57 (H57.at hin57 rfl) (g := (mkF m 48 #[.val (.ref b), .val (.int (1 : Int32))] [(.int (1 : Int32)), (.ref b), (.int ((y0 &&& (255 : Int32)) <<< ((0 : Int32) &&& 31)))])) rfl rfl (hb hby d20_48)) ?_
  show Run p e below s _ _ _ (T56.setTop (mkF m 49 #[.val (.ref b), .val (.int (1 : Int32))] [(.int y1), (.int ((y0 &&& (255 : Int32)) <<< ((0 : Int32) &&& 31)))]))
  refine Run.pre (fun _ k => XS.sipush X56.here hx rfl (hb hby d20_49) k) ?_
  show Run p e below s _ _ _ (T56.setTop (mkF m 52 #[.val (.ref b), .val (.int (1 : Int32))] [(.int (255 : Int32)), (.int y1), (.int ((y0 &&& (255 : Int32)) <<< ((0 : Int32) &&& 31)))]))
  refine Run.pre (fun _ k => XS.iand X56.here hx rfl (hb hby d20_52) rfl k) ?_
  show Run p e below s _ _ _ (T56.setTop (mkF m 53 #[.val (.ref b), .val (.int (1 : Int32))] [(.int (y1 &&& (255 : Int32))), (.int ((y0 &&& (255 : Int32)) <<< ((0 : Int32) &&& 31)))]))
  obtain ⟨T58, X58, e58, st58⟩ := getS2 X56 hx hZ hown (host := "") (Or.inl (hw _ (List.mem_of_getElem? (i := 82) rfl))) Via.refl e56 (SL.ext OL.2) (g := (mkF m 53 #[.val (.ref b), .val (.int (1 : Int32))] [(.int (y1 &&& (255 : Int32))), (.int ((y0 &&& (255 : Int32)) <<< ((0 : Int32) &&& 31)))])) rfl (hb hby d20_53)
  refine Run.pre st58 ?_
  show Run p e below s _ _ _ (T58.setTop (mkF m 56 #[.val (.ref b), .val (.int (1 : Int32))] [(.int (8 : Int32)), (.int (y1 &&& (255 : Int32))), (.int ((y0 &&& (255 : Int32)) <<< ((0 : Int32) &&& 31)))]))
  refine Run.pre (fun _ k => XS.ishl X58.here hx rfl (hb hby d20_56) rfl k) ?_
  show Run p e below s _ _ _ (T58.setTop (mkF m 57 #[.val (.ref b), .val (.int (1 : Int32))] [(.int ((y1 &&& (255 : Int32)) <<< ((8 : Int32) &&& 31))), (.int ((y0 &&& (255 : Int32)) <<< ((0 : Int32) &&& 31)))]))
  refine Run.pre (fun _ k => XS.ior X58.here hx rfl (hb hby d20_57) rfl k) ?_
  show Run p e below s _ _ _ (T58.setTop (mkF m 58 #[.val (.ref b), .val (.int (1 : Int32))] [(.int (((y0 &&& (255 : Int32)) <<< ((0 : Int32) &&& 31)) ||| ((y1 &&& (255 : Int32)) <<< ((8 : Int32) &&& 31))))]))
  refine Run.pre (fun _ k => XS.i2c X58.here hx rfl (hb hby d20_58) rfl k) ?_
  show Run p e below s _ _ _ (T58.setTop (mkF m 59 #[.val (.ref b), .val (.int (1 : Int32))] [(.int ((((y0 &&& (255 : Int32)) <<< ((0 : Int32) &&& 31)) ||| ((y1 &&& (255 : Int32)) <<< ((8 : Int32) &&& 31))).toUInt32.toUInt16.toUInt32.toInt32))]))
  exact Run.retN X58 hx hret (t := .char) (by simp) hlk (hb hby d20_59) (by first | (rw [e58]; exact ⟨rfl, N0, rfl⟩) | exact ⟨rfl, N0, rfl⟩) (by decide) (by decide)
set_option maxRecDepth 65536 in
set_option maxHeartbeats 40000000 in
theorem rmPC_4_1 (l : Launch) (Z : State) (a0 : Array Value) (hw : ∀ d ∈ tables_1, d.before a0 Z = true) (b : Addr) (kb : ClassId) (cj : Int32) (y0 : Int32) (y1 : Int32) (y2 : Int32) (y3 : Int32) (y4 : Int32) (y5 : Int32) (y6 : Int32) (y7 : Int32) (h0 : Heap) (n0 : Nat) (Z0 : n0 ≤ h0.size) (OL : Old Z n0 h0) (SA : Sta Z Z.heap "java/lang/StringUTF16" "$assertionsDisabled" "Z" (.int 1)) (SH : Sta Z Z.heap "java/lang/StringUTF16" "HI_BYTE_SHIFT" "I" (.int 0)) (SL : Sta Z Z.heap "java/lang/StringUTF16" "LO_BYTE_SHIFT" "I" (.int 8)) (AB : Arv Z h0 b kb .byte 8 [(.int y0), (.int y1), (.int y2), (.int y3), (.int y4), (.int y5), (.int y6), (.int y7)] (.int 0)) (g_b : n0 ≤ b) :
    Con l (⟨"java/lang/StringUTF16", "putChar", "([BII)V"⟩ : MethodName) jdk_52_method_4_code 3 none ({ frames := 0, cells := 0, slots := 0, locals := 0 } : Room) Z #[(.ref b), (.int (1 : Int32)), (.int cj)] h0 (fun v h L => v = none ∧ Fr n0 L ∧ Keep h0 h [b] ∧ Arv Z h b kb .byte 8 [(.int y0), (.int y1), (.int (own_b0 cj)), (.int (own_b1 cj)), (.int y4), (.int y5), (.int y6), (.int y7)] (.int 0)) := by
  refine Con.mk (plainFor_of_name pn_19) (fun m => show entryFrame m #[(.ref b), (.int (1 : Int32)), (.int cj)] 3 = mkF m 0 #[.val (.ref b), .val (.int (1 : Int32)), .val (.int cj)] [] by first | (simp [entryFrame, mkF, argsToLocals, Value.category]; done) | rfl) ?_
  intro p e s m below meth c s₁ hx hby hml hown hnm hret hlk hZ X0 e0
  have N0 := Fr.nil n0
  show Run p e below s _ _ _ (s₁.setTop (mkF m 0 #[.val (.ref b), .val (.int (1 : Int32)), .val (.int cj)] []))
  obtain ⟨T59, X59, e59, st59⟩ := getS2 X0 hx hZ hown (host := "") (Or.inl (hw _ (List.mem_of_getElem? (i := 80) rfl))) Via.refl e0 (SA.ext OL.2) (g := (mkF m 0 #[.val (.ref b), .val (.int (1 : Int32)), .val (.int cj)] [])) rfl (hb hby d19_0)
  refine Run.pre st59 ?_
  show Run p e below s _ _ _ (T59.setTop (mkF m 3 #[.val (.ref b), .val (.int (1 : Int32)), .val (.int cj)] [(.int (1 : Int32))]))
  refine Run.pre (fun _ k => XS.ifYes X59.here hx rfl (pc0 := 3) (pc' := 28) rfl (hb hby d19_3) rfl ((if0 _ _).trans (feq ((by decide) : ¬ ((1 : Int32) = (0 : Int32)))).2) (by decide) (by decide) k) ?_
  show Run p e below s _ _ _ (T59.setTop (mkF m 28 #[.val (.ref b), .val (.int (1 : Int32)), .val (.int cj)] []))
  refine Run.pre (fun _ k => XS.iloadN X59.here hx rfl (hb hby d19_28) rfl  k) ?_
  show Run p e below s _ _ _ (T59.setTop (mkF m 29 #[.val (.ref b), .val (.int (1 : Int32)), .val (.int cj)] [(.int (1 : Int32))]))
  refine Run.pre (fun _ k => XS.iconst X59.here hx rfl (hb hby d19_29) k) ?_
  show Run p e below s _ _ _ (T59.setTop (mkF m 30 #[.val (.ref b), .val (.int (1 : Int32)), .val (.int cj)] [(.int (1 : Int32)), (.int (1 : Int32))]))
  refine Run.pre (fun _ k => XS.ishl X59.here hx rfl (hb hby d19_30) rfl k) ?_
  show Run p e below s _ _ _ (T59.setTop (mkF m 31 #[.val (.ref b), .val (.int (1 : Int32)), .val (.int cj)] [(.int (2 : Int32))]))
  refine Run.pre (fun _ k => XS.istoreN X59.here hx rfl (hb hby d19_31) rfl (l' := #[.val (.ref b), .val (.int (2 : Int32)), .val (.int cj)]) rfl k) ?_
  show Run p e below s _ _ _ (T59.setTop (mkF m 32 #[.val (.ref b), .val (.int (2 : Int32)), .val (.int cj)] []))
  refine Run.pre (fun _ k => XS.aloadN X59.here hx rfl (hb hby d19_32) rfl rfl k) ?_
  show Run p e below s _ _ _ (T59.setTop (mkF m 33 #[.val (.ref b), .val (.int (2 : Int32)), .val (.int cj)] [(.ref b)]))
  refine Run.pre (fun _ k => XS.iloadN X59.here hx rfl (hb hby d19_33) rfl  k) ?_
  show Run p e below s _ _ _ (T59.setTop (mkF m 34 #[.val (.ref b), .val (.int (2 : Int32)), .val (.int cj)] [(.int (2 : Int32)), (.ref b)]))
  refine Run.pre (fun _ k => XS.iinc X59.here hx rfl (hb hby d19_34) rfl (l' := #[.val (.ref b), .val (.int (3 : Int32)), .val (.int cj)]) rfl k) ?_
  show Run p e below s _ _ _ (T59.setTop (mkF m 37 #[.val (.ref b), .val (.int (3 : Int32)), .val (.int cj)] [(.int (2 : Int32)), (.ref b)]))
  refine Run.pre (fun _ k => XS.iloadN X59.here hx rfl (hb hby d19_37) rfl  k) ?_
  show Run p e below s _ _ _ (T59.setTop (mkF m 38 #[.val (.ref b), .val (.int (3 : Int32)), .val (.int cj)] [(.int cj), (.int (2 : Int32)), (.ref b)]))
  obtain ⟨T60, X60, e60, st60⟩ := getS2 X59 hx hZ hown (host := "") (Or.inl (hw _ (List.mem_of_getElem? (i := 81) rfl))) Via.refl e59 (SH.ext OL.2) (g := (mkF m 38 #[.val (.ref b), .val (.int (3 : Int32)), .val (.int cj)] [(.int cj), (.int (2 : Int32)), (.ref b)])) rfl (hb hby d19_38)
  refine Run.pre st60 ?_
  show Run p e below s _ _ _ (T60.setTop (mkF m 41 #[.val (.ref b), .val (.int (3 : Int32)), .val (.int cj)] [(.int (0 : Int32)), (.int cj), (.int (2 : Int32)), (.ref b)]))
  refine Run.pre (fun _ k => XS.ishr X60.here hx rfl (hb hby d19_41) rfl k) ?_
  show Run p e below s _ _ _ (T60.setTop (mkF m 42 #[.val (.ref b), .val (.int (3 : Int32)), .val (.int cj)] [(.int (cj >>> ((0 : Int32) &&& 31))), (.int (2 : Int32)), (.ref b)]))
  refine Run.pre (fun _ k => XS.i2b X60.here hx rfl (hb hby d19_42) rfl k) ?_
  show Run p e below s _ _ _ (T60.setTop (mkF m 43 #[.val (.ref b), .val (.int (3 : Int32)), .val (.int cj)] [(.int ((cj >>> ((0 : Int32) &&& 31)).toInt8.toInt32)), (.int (2 : Int32)), (.ref b)]))
  obtain ⟨c61, Ar61, q61, S61, N61, H61, G61⟩ := id AB
  have hin61 : ¬ ((2 : Int32) < 0 ∨ c61.slots.size ≤ ((2 : Int32)).toNatClampNeg) := inb_of S61 ⟨by decide, by decide⟩
  obtain ⟨T62, h62, X62, e62, W62, st62⟩ := stB X60 hx hZ e60 Ar61 (j := (2 : Int32)) hin61 (g := (mkF m 43 #[.val (.ref b), .val (.int (3 : Int32)), .val (.int cj)] [(.int ((cj >>> ((0 : Int32) &&& 31)).toInt8.toInt32)), (.int (2 : Int32)), (.ref b)])) rfl rfl (hb hby d19_43)
  refine Run.pre st62 ?_
  have V_b_62 : Arv Z h62 b kb .byte (8 : Int32) [(.int y0), (.int y1), (.int (nar .byte ((cj >>> ((0 : Int32) &&& 31)).toInt8.toInt32))), (.int y3), (.int y4), (.int y5), (.int y6), (.int y7)] (.int (0 : Int32)) := Arv.set Ar61 q61 S61 N61 H61 G61 (fits_nar_byte _) W62 2 rfl (Nat.le_of_ble_eq_true rfl)
  have K62 : Keep h0 h62 [b] := (Keep.refl h0 [b]).wr W62 (Or.inl (by simp))
  have N62 := Fr.snoc X62 N0 g_b
  show Run p e below s _ _ _ (T62.setTop (mkF m 44 #[.val (.ref b), .val (.int (3 : Int32)), .val (.int cj)] []))
  refine Run.pre (fun _ k => XS.aloadN X62.here hx rfl (hb hby d19_44) rfl rfl k) ?_
  show Run p e below s _ _ _ (T62.setTop (mkF m 45 #[.val (.ref b), .val (.int (3 : Int32)), .val (.int cj)] [(.ref b)]))
  refine Run.pre (fun _ k => XS.iloadN X62.here hx rfl (hb hby d19_45) rfl  k) ?_
  show Run p e below s _ _ _ (T62.setTop (mkF m 46 #[.val (.ref b), .val (.int (3 : Int32)), .val (.int cj)] [(.int (3 : Int32)), (.ref b)]))
  refine Run.pre (fun _ k => XS.iloadN X62.here hx rfl (hb hby d19_46) rfl  k) ?_
  show Run p e below s _ _ _ (T62.setTop (mkF m 47 #[.val (.ref b), .val (.int (3 : Int32)), .val (.int cj)] [(.int cj), (.int (3 : Int32)), (.ref b)]))
  have f63 := (OL.wr W62 g_b)
  obtain ⟨T64, X64, e64, st64⟩ := getS2 X62 hx hZ hown (host := "") (Or.inl (hw _ (List.mem_of_getElem? (i := 82) rfl))) Via.refl e62 (SL.ext f63.2) (g := (mkF m 47 #[.val (.ref b), .val (.int (3 : Int32)), .val (.int cj)] [(.int cj), (.int (3 : Int32)), (.ref b)])) rfl (hb hby d19_47)
  refine Run.pre st64 ?_
  show Run p e below s _ _ _ (T64.setTop (mkF m 50 #[.val (.ref b), .val (.int (3 : Int32)), .val (.int cj)] [(.int (8 : Int32)), (.int cj), (.int (3 : Int32)), (.ref b)]))
  refine Run.pre (fun _ k => XS.ishr X64.here hx rfl (hb hby d19_50) rfl k) ?_
  show Run p e below s _ _ _ (T64.setTop (mkF m 51 #[.val (.ref b), .val (.int (3 : Int32)), .val (.int cj)] [(.int (cj >>> ((8 : Int32) &&& 31))), (.int (3 : Int32)), (.ref b)]))
  refine Run.pre (fun _ k => XS.i2b X64.here hx rfl (hb hby d19_51) rfl k) ?_
  show Run p e below s _ _ _ (T64.setTop (mkF m 52 #[.val (.ref b), .val (.int (3 : Int32)), .val (.int cj)] [(.int ((cj >>> ((8 : Int32) &&& 31)).toInt8.toInt32)), (.int (3 : Int32)), (.ref b)]))
  obtain ⟨c65, Ar65, q65, S65, N65, H65, G65⟩ := id V_b_62
  have hin65 : ¬ ((3 : Int32) < 0 ∨ c65.slots.size ≤ ((3 : Int32)).toNatClampNeg) := inb_of S65 ⟨by decide, by decide⟩
  obtain ⟨T66, h66, X66, e66, W66, st66⟩ := stB X64 hx hZ e64 Ar65 (j := (3 : Int32)) hin65 (g := (mkF m 52 #[.val (.ref b), .val (.int (3 : Int32)), .val (.int cj)] [(.int ((cj >>> ((8 : Int32) &&& 31)).toInt8.toInt32)), (.int (3 : Int32)), (.ref b)])) rfl rfl (hb hby d19_52)
  refine Run.pre st66 ?_
  have V_b_66 : Arv Z h66 b kb .byte (8 : Int32) [(.int y0), (.int y1), (.int (nar .byte ((cj >>> ((0 : Int32) &&& 31)).toInt8.toInt32))), (.int (nar .byte ((cj >>> ((8 : Int32) &&& 31)).toInt8.toInt32))), (.int y4), (.int y5), (.int y6), (.int y7)] (.int (0 : Int32)) := Arv.set Ar65 q65 S65 N65 H65 G65 (fits_nar_byte _) W66 3 rfl (Nat.le_of_ble_eq_true rfl)
  have K66 : Keep h0 h66 [b] := K62.wr W66 (Or.inl (by simp))
  have N66 := Fr.snoc X66 N62 g_b
  show Run p e below s _ _ _ (T66.setTop (mkF m 53 #[.val (.ref b), .val (.int (3 : Int32)), .val (.int cj)] []))
  exact Run.retV X66 hx hret hlk (hb hby d19_53) (by first | (rw [e66]; exact ⟨rfl, N66, K66, V_b_66⟩) | exact ⟨rfl, N66, K66, V_b_66⟩) (by decide) (by decide)
set_option maxRecDepth 65536 in
set_option maxHeartbeats 40000000 in
theorem rmGC_4_1 (l : Launch) (Z : State) (a0 : Array Value) (hw : ∀ d ∈ tables_1, d.before a0 Z = true) (b : Addr) (kb : ClassId) (y0 : Int32) (y1 : Int32) (y2 : Int32) (y3 : Int32) (y4 : Int32) (y5 : Int32) (y6 : Int32) (y7 : Int32) (h0 : Heap) (n0 : Nat) (Z0 : n0 ≤ h0.size) (OL : Old Z n0 h0) (SA : Sta Z Z.heap "java/lang/StringUTF16" "$assertionsDisabled" "Z" (.int 1)) (SH : Sta Z Z.heap "java/lang/StringUTF16" "HI_BYTE_SHIFT" "I" (.int 0)) (SL : Sta Z Z.heap "java/lang/StringUTF16" "LO_BYTE_SHIFT" "I" (.int 8)) (AB : Arv Z h0 b kb .byte 8 [(.int y0), (.int y1), (.int y2), (.int y3), (.int y4), (.int y5), (.int y6), (.int y7)] (.int 0)) :
    Con l (⟨"java/lang/StringUTF16", "getChar", "([BI)C"⟩ : MethodName) jdk_52_method_5_code 2 (some .char) ({ frames := 0, cells := 0, slots := 0, locals := 0 } : Room) Z #[(.ref b), (.int (1 : Int32))] h0 (fun v h L => v = some (.int (own_gcv y2 y3)) ∧ Fr n0 L ∧ h = h0) := by
  refine Con.mk (plainFor_of_name pn_20) (fun m => show entryFrame m #[(.ref b), (.int (1 : Int32))] 2 = mkF m 0 #[.val (.ref b), .val (.int (1 : Int32))] [] by first | (simp [entryFrame, mkF, argsToLocals, Value.category]; done) | rfl) ?_
  intro p e s m below meth c s₁ hx hby hml hown hnm hret hlk hZ X0 e0
  have N0 := Fr.nil n0
  show Run p e below s _ _ _ (s₁.setTop (mkF m 0 #[.val (.ref b), .val (.int (1 : Int32))] []))
  obtain ⟨T67, X67, e67, st67⟩ := getS2 X0 hx hZ hown (host := "") (Or.inl (hw _ (List.mem_of_getElem? (i := 80) rfl))) Via.refl e0 (SA.ext OL.2) (g := (mkF m 0 #[.val (.ref b), .val (.int (1 : Int32))] [])) rfl (hb hby d20_0)
  refine Run.pre st67 ?_
  show Run p e below s _ _ _ (T67.setTop (mkF m 3 #[.val (.ref b), .val (.int (1 : Int32))] [(.int (1 : Int32))]))
  refine Run.pre (fun _ k => XS.ifYes X67.here hx rfl (pc0 := 3) (pc' := 28) rfl (hb hby d20_3) rfl ((if0 _ _).trans (feq ((by decide) : ¬ ((1 : Int32) = (0 : Int32)))).2) (by decide) (by decide) k) ?_
  show Run p e below s _ _ _ (T67.setTop (mkF m 28 #[.val (.ref b), .val (.int (1 : Int32))] []))
  refine Run.pre (fun _ k => XS.iloadN X67.here hx rfl (hb hby d20_28) rfl  k) ?_
  show Run p e below s _ _ _ (T67.setTop (mkF m 29 #[.val (.ref b), .val (.int (1 : Int32))] [(.int (1 : Int32))]))
  refine Run.pre (fun _ k => XS.iconst X67.here hx rfl (hb hby d20_29) k) ?_
  show Run p e below s _ _ _ (T67.setTop (mkF m 30 #[.val (.ref b), .val (.int (1 : Int32))] [(.int (1 : Int32)), (.int (1 : Int32))]))
  refine Run.pre (fun _ k => XS.ishl X67.here hx rfl (hb hby d20_30) rfl k) ?_
  show Run p e below s _ _ _ (T67.setTop (mkF m 31 #[.val (.ref b), .val (.int (1 : Int32))] [(.int (2 : Int32))]))
  refine Run.pre (fun _ k => XS.istoreN X67.here hx rfl (hb hby d20_31) rfl (l' := #[.val (.ref b), .val (.int (2 : Int32))]) rfl k) ?_
  show Run p e below s _ _ _ (T67.setTop (mkF m 32 #[.val (.ref b), .val (.int (2 : Int32))] []))
  refine Run.pre (fun _ k => XS.aloadN X67.here hx rfl (hb hby d20_32) rfl rfl k) ?_
  show Run p e below s _ _ _ (T67.setTop (mkF m 33 #[.val (.ref b), .val (.int (2 : Int32))] [(.ref b)]))
  refine Run.pre (fun _ k => XS.iloadN X67.here hx rfl (hb hby d20_33) rfl  k) ?_
  show Run p e below s _ _ _ (T67.setTop (mkF m 34 #[.val (.ref b), .val (.int (2 : Int32))] [(.int (2 : Int32)), (.ref b)]))
  refine Run.pre (fun _ k => XS.iinc X67.here hx rfl (hb hby d20_34) rfl (l' := #[.val (.ref b), .val (.int (3 : Int32))]) rfl k) ?_
  show Run p e below s _ _ _ (T67.setTop (mkF m 37 #[.val (.ref b), .val (.int (3 : Int32))] [(.int (2 : Int32)), (.ref b)]))
  obtain ⟨c68, Ar68, -, S68, N68, H68, -⟩ := id AB
  have hin68 : ¬ ((2 : Int32) < 0 ∨ c68.slots.size ≤ ((2 : Int32)).toNatClampNeg) := inb_of S68 ⟨by decide, by decide⟩
  refine Run.pre (X67.baloadBytes hx (j := (2 : Int32)) (v := (.int y2)) (by rw [e67]; exact Ar68.1) (State.isArrayOf_alike hZ.alike Ar68.2.1) Ar68.2.2 hin68 (H68.at hin68 rfl) (g := (mkF m 37 #[.val (.ref b), .val (.int (3 : Int32))] [(.int (2 : Int32)), (.ref b)])) rfl rfl (hb hby d20_37)) ?_
  show Run p e below s _ _ _ (T67.setTop (mkF m 38 #[.val (.ref b), .val (.int (3 : Int32))] [(.int y2)]))
  refine Run.pre (fun _ k => XS.sipush X67.here hx rfl (hb hby d20_38) k) ?_
  show Run p e below s _ _ _ (T67.setTop (mkF m 41 #[.val (.ref b), .val (.int (3 : Int32))] [(.int (255 : Int32)), (.int y2)]))
  refine Run.pre (fun _ k => XS.iand X67.here hx rfl (hb hby d20_41) rfl k) ?_
  show Run p e below s _ _ _ (T67.setTop (mkF m 42 #[.val (.ref b), .val (.int (3 : Int32))] [(.int (y2 &&& (255 : Int32)))]))
  obtain ⟨T69, X69, e69, st69⟩ := getS2 X67 hx hZ hown (host := "") (Or.inl (hw _ (List.mem_of_getElem? (i := 81) rfl))) Via.refl e67 (SH.ext OL.2) (g := (mkF m 42 #[.val (.ref b), .val (.int (3 : Int32))] [(.int (y2 &&& (255 : Int32)))])) rfl (hb hby d20_42)
  refine Run.pre st69 ?_
  show Run p e below s _ _ _ (T69.setTop (mkF m 45 #[.val (.ref b), .val (.int (3 : Int32))] [(.int (0 : Int32)), (.int (y2 &&& (255 : Int32)))]))
  refine Run.pre (fun _ k => XS.ishl X69.here hx rfl (hb hby d20_45) rfl k) ?_
  show Run p e below s _ _ _ (T69.setTop (mkF m 46 #[.val (.ref b), .val (.int (3 : Int32))] [(.int ((y2 &&& (255 : Int32)) <<< ((0 : Int32) &&& 31)))]))
  refine Run.pre (fun _ k => XS.aloadN X69.here hx rfl (hb hby d20_46) rfl rfl k) ?_
  show Run p e below s _ _ _ (T69.setTop (mkF m 47 #[.val (.ref b), .val (.int (3 : Int32))] [(.ref b), (.int ((y2 &&& (255 : Int32)) <<< ((0 : Int32) &&& 31)))]))
  refine Run.pre (fun _ k => XS.iloadN X69.here hx rfl (hb hby d20_47) rfl  k) ?_
  show Run p e below s _ _ _ (T69.setTop (mkF m 48 #[.val (.ref b), .val (.int (3 : Int32))] [(.int (3 : Int32)), (.ref b), (.int ((y2 &&& (255 : Int32)) <<< ((0 : Int32) &&& 31)))]))
  obtain ⟨c70, Ar70, -, S70, N70, H70, -⟩ := id AB
  have hin70 : ¬ ((3 : Int32) < 0 ∨ c70.slots.size ≤ ((3 : Int32)).toNatClampNeg) := inb_of S70 ⟨by decide, by decide⟩
  refine Run.pre (X69.baloadBytes hx (j := (3 : Int32)) (v := (.int y3)) (by rw [e69]; exact Ar70.1) (State.isArrayOf_alike hZ.alike Ar70.2.1) Ar70.2.2 hin70 (H70.at hin70 rfl) (g := (mkF m 48 #[.val (.ref b), .val (.int (3 : Int32))] [(.int (3 : Int32)), (.ref b), (.int ((y2 &&& (255 : Int32)) <<< ((0 : Int32) &&& 31)))])) rfl rfl (hb hby d20_48)) ?_
  show Run p e below s _ _ _ (T69.setTop (mkF m 49 #[.val (.ref b), .val (.int (3 : Int32))] [(.int y3), (.int ((y2 &&& (255 : Int32)) <<< ((0 : Int32) &&& 31)))]))
  refine Run.pre (fun _ k => XS.sipush X69.here hx rfl (hb hby d20_49) k) ?_
  show Run p e below s _ _ _ (T69.setTop (mkF m 52 #[.val (.ref b), .val (.int (3 : Int32))] [(.int (255 : Int32)), (.int y3), (.int ((y2 &&& (255 : Int32)) <<< ((0 : Int32) &&& 31)))]))
  refine Run.pre (fun _ k => XS.iand X69.here hx rfl (hb hby d20_52) rfl k) ?_
  show Run p e below s _ _ _ (T69.setTop (mkF m 53 #[.val (.ref b), .val (.int (3 : Int32))] [(.int (y3 &&& (255 : Int32))), (.int ((y2 &&& (255 : Int32)) <<< ((0 : Int32) &&& 31)))]))
  obtain ⟨T71, X71, e71, st71⟩ := getS2 X69 hx hZ hown (host := "") (Or.inl (hw _ (List.mem_of_getElem? (i := 82) rfl))) Via.refl e69 (SL.ext OL.2) (g := (mkF m 53 #[.val (.ref b), .val (.int (3 : Int32))] [(.int (y3 &&& (255 : Int32))), (.int ((y2 &&& (255 : Int32)) <<< ((0 : Int32) &&& 31)))])) rfl (hb hby d20_53)
  refine Run.pre st71 ?_
  show Run p e below s _ _ _ (T71.setTop (mkF m 56 #[.val (.ref b), .val (.int (3 : Int32))] [(.int (8 : Int32)), (.int (y3 &&& (255 : Int32))), (.int ((y2 &&& (255 : Int32)) <<< ((0 : Int32) &&& 31)))]))
  refine Run.pre (fun _ k => XS.ishl X71.here hx rfl (hb hby d20_56) rfl k) ?_
  show Run p e below s _ _ _ (T71.setTop (mkF m 57 #[.val (.ref b), .val (.int (3 : Int32))] [(.int ((y3 &&& (255 : Int32)) <<< ((8 : Int32) &&& 31))), (.int ((y2 &&& (255 : Int32)) <<< ((0 : Int32) &&& 31)))]))
  refine Run.pre (fun _ k => XS.ior X71.here hx rfl (hb hby d20_57) rfl k) ?_
  show Run p e below s _ _ _ (T71.setTop (mkF m 58 #[.val (.ref b), .val (.int (3 : Int32))] [(.int (((y2 &&& (255 : Int32)) <<< ((0 : Int32) &&& 31)) ||| ((y3 &&& (255 : Int32)) <<< ((8 : Int32) &&& 31))))]))
  refine Run.pre (fun _ k => XS.i2c X71.here hx rfl (hb hby d20_58) rfl k) ?_
  show Run p e below s _ _ _ (T71.setTop (mkF m 59 #[.val (.ref b), .val (.int (3 : Int32))] [(.int ((((y2 &&& (255 : Int32)) <<< ((0 : Int32) &&& 31)) ||| ((y3 &&& (255 : Int32)) <<< ((8 : Int32) &&& 31))).toUInt32.toUInt16.toUInt32.toInt32))]))
  exact Run.retN X71 hx hret (t := .char) (by simp) hlk (hb hby d20_59) (by first | (rw [e71]; exact ⟨rfl, N0, rfl⟩) | exact ⟨rfl, N0, rfl⟩) (by decide) (by decide)
set_option maxRecDepth 65536 in
set_option maxHeartbeats 40000000 in
theorem rmPC_4_2 (l : Launch) (Z : State) (a0 : Array Value) (hw : ∀ d ∈ tables_1, d.before a0 Z = true) (b : Addr) (kb : ClassId) (cj : Int32) (y0 : Int32) (y1 : Int32) (y2 : Int32) (y3 : Int32) (y4 : Int32) (y5 : Int32) (y6 : Int32) (y7 : Int32) (h0 : Heap) (n0 : Nat) (Z0 : n0 ≤ h0.size) (OL : Old Z n0 h0) (SA : Sta Z Z.heap "java/lang/StringUTF16" "$assertionsDisabled" "Z" (.int 1)) (SH : Sta Z Z.heap "java/lang/StringUTF16" "HI_BYTE_SHIFT" "I" (.int 0)) (SL : Sta Z Z.heap "java/lang/StringUTF16" "LO_BYTE_SHIFT" "I" (.int 8)) (AB : Arv Z h0 b kb .byte 8 [(.int y0), (.int y1), (.int y2), (.int y3), (.int y4), (.int y5), (.int y6), (.int y7)] (.int 0)) (g_b : n0 ≤ b) :
    Con l (⟨"java/lang/StringUTF16", "putChar", "([BII)V"⟩ : MethodName) jdk_52_method_4_code 3 none ({ frames := 0, cells := 0, slots := 0, locals := 0 } : Room) Z #[(.ref b), (.int (2 : Int32)), (.int cj)] h0 (fun v h L => v = none ∧ Fr n0 L ∧ Keep h0 h [b] ∧ Arv Z h b kb .byte 8 [(.int y0), (.int y1), (.int y2), (.int y3), (.int (own_b0 cj)), (.int (own_b1 cj)), (.int y6), (.int y7)] (.int 0)) := by
  refine Con.mk (plainFor_of_name pn_19) (fun m => show entryFrame m #[(.ref b), (.int (2 : Int32)), (.int cj)] 3 = mkF m 0 #[.val (.ref b), .val (.int (2 : Int32)), .val (.int cj)] [] by first | (simp [entryFrame, mkF, argsToLocals, Value.category]; done) | rfl) ?_
  intro p e s m below meth c s₁ hx hby hml hown hnm hret hlk hZ X0 e0
  have N0 := Fr.nil n0
  show Run p e below s _ _ _ (s₁.setTop (mkF m 0 #[.val (.ref b), .val (.int (2 : Int32)), .val (.int cj)] []))
  obtain ⟨T72, X72, e72, st72⟩ := getS2 X0 hx hZ hown (host := "") (Or.inl (hw _ (List.mem_of_getElem? (i := 80) rfl))) Via.refl e0 (SA.ext OL.2) (g := (mkF m 0 #[.val (.ref b), .val (.int (2 : Int32)), .val (.int cj)] [])) rfl (hb hby d19_0)
  refine Run.pre st72 ?_
  show Run p e below s _ _ _ (T72.setTop (mkF m 3 #[.val (.ref b), .val (.int (2 : Int32)), .val (.int cj)] [(.int (1 : Int32))]))
  refine Run.pre (fun _ k => XS.ifYes X72.here hx rfl (pc0 := 3) (pc' := 28) rfl (hb hby d19_3) rfl ((if0 _ _).trans (feq ((by decide) : ¬ ((1 : Int32) = (0 : Int32)))).2) (by decide) (by decide) k) ?_
  show Run p e below s _ _ _ (T72.setTop (mkF m 28 #[.val (.ref b), .val (.int (2 : Int32)), .val (.int cj)] []))
  refine Run.pre (fun _ k => XS.iloadN X72.here hx rfl (hb hby d19_28) rfl  k) ?_
  show Run p e below s _ _ _ (T72.setTop (mkF m 29 #[.val (.ref b), .val (.int (2 : Int32)), .val (.int cj)] [(.int (2 : Int32))]))
  refine Run.pre (fun _ k => XS.iconst X72.here hx rfl (hb hby d19_29) k) ?_
  show Run p e below s _ _ _ (T72.setTop (mkF m 30 #[.val (.ref b), .val (.int (2 : Int32)), .val (.int cj)] [(.int (1 : Int32)), (.int (2 : Int32))]))
  refine Run.pre (fun _ k => XS.ishl X72.here hx rfl (hb hby d19_30) rfl k) ?_
  show Run p e below s _ _ _ (T72.setTop (mkF m 31 #[.val (.ref b), .val (.int (2 : Int32)), .val (.int cj)] [(.int (4 : Int32))]))
  refine Run.pre (fun _ k => XS.istoreN X72.here hx rfl (hb hby d19_31) rfl (l' := #[.val (.ref b), .val (.int (4 : Int32)), .val (.int cj)]) rfl k) ?_
  show Run p e below s _ _ _ (T72.setTop (mkF m 32 #[.val (.ref b), .val (.int (4 : Int32)), .val (.int cj)] []))
  refine Run.pre (fun _ k => XS.aloadN X72.here hx rfl (hb hby d19_32) rfl rfl k) ?_
  show Run p e below s _ _ _ (T72.setTop (mkF m 33 #[.val (.ref b), .val (.int (4 : Int32)), .val (.int cj)] [(.ref b)]))
  refine Run.pre (fun _ k => XS.iloadN X72.here hx rfl (hb hby d19_33) rfl  k) ?_
  show Run p e below s _ _ _ (T72.setTop (mkF m 34 #[.val (.ref b), .val (.int (4 : Int32)), .val (.int cj)] [(.int (4 : Int32)), (.ref b)]))
  refine Run.pre (fun _ k => XS.iinc X72.here hx rfl (hb hby d19_34) rfl (l' := #[.val (.ref b), .val (.int (5 : Int32)), .val (.int cj)]) rfl k) ?_
  show Run p e below s _ _ _ (T72.setTop (mkF m 37 #[.val (.ref b), .val (.int (5 : Int32)), .val (.int cj)] [(.int (4 : Int32)), (.ref b)]))
  refine Run.pre (fun _ k => XS.iloadN X72.here hx rfl (hb hby d19_37) rfl  k) ?_
  show Run p e below s _ _ _ (T72.setTop (mkF m 38 #[.val (.ref b), .val (.int (5 : Int32)), .val (.int cj)] [(.int cj), (.int (4 : Int32)), (.ref b)]))
  obtain ⟨T73, X73, e73, st73⟩ := getS2 X72 hx hZ hown (host := "") (Or.inl (hw _ (List.mem_of_getElem? (i := 81) rfl))) Via.refl e72 (SH.ext OL.2) (g := (mkF m 38 #[.val (.ref b), .val (.int (5 : Int32)), .val (.int cj)] [(.int cj), (.int (4 : Int32)), (.ref b)])) rfl (hb hby d19_38)
  refine Run.pre st73 ?_
  show Run p e below s _ _ _ (T73.setTop (mkF m 41 #[.val (.ref b), .val (.int (5 : Int32)), .val (.int cj)] [(.int (0 : Int32)), (.int cj), (.int (4 : Int32)), (.ref b)]))
  refine Run.pre (fun _ k => XS.ishr X73.here hx rfl (hb hby d19_41) rfl k) ?_
  show Run p e below s _ _ _ (T73.setTop (mkF m 42 #[.val (.ref b), .val (.int (5 : Int32)), .val (.int cj)] [(.int (cj >>> ((0 : Int32) &&& 31))), (.int (4 : Int32)), (.ref b)]))
  refine Run.pre (fun _ k => XS.i2b X73.here hx rfl (hb hby d19_42) rfl k) ?_
  show Run p e below s _ _ _ (T73.setTop (mkF m 43 #[.val (.ref b), .val (.int (5 : Int32)), .val (.int cj)] [(.int ((cj >>> ((0 : Int32) &&& 31)).toInt8.toInt32)), (.int (4 : Int32)), (.ref b)]))
  obtain ⟨c74, Ar74, q74, S74, N74, H74, G74⟩ := id AB
  have hin74 : ¬ ((4 : Int32) < 0 ∨ c74.slots.size ≤ ((4 : Int32)).toNatClampNeg) := inb_of S74 ⟨by decide, by decide⟩
  obtain ⟨T75, h75, X75, e75, W75, st75⟩ := stB X73 hx hZ e73 Ar74 (j := (4 : Int32)) hin74 (g := (mkF m 43 #[.val (.ref b), .val (.int (5 : Int32)), .val (.int cj)] [(.int ((cj >>> ((0 : Int32) &&& 31)).toInt8.toInt32)), (.int (4 : Int32)), (.ref b)])) rfl rfl (hb hby d19_43)
  refine Run.pre st75 ?_
  have V_b_75 : Arv Z h75 b kb .byte (8 : Int32) [(.int y0), (.int y1), (.int y2), (.int y3), (.int (nar .byte ((cj >>> ((0 : Int32) &&& 31)).toInt8.toInt32))), (.int y5), (.int y6), (.int y7)] (.int (0 : Int32)) := Arv.set Ar74 q74 S74 N74 H74 G74 (fits_nar_byte _) W75 4 rfl (Nat.le_of_ble_eq_true rfl)
  have K75 : Keep h0 h75 [b] := (Keep.refl h0 [b]).wr W75 (Or.inl (by simp))
  have N75 := Fr.snoc X75 N0 g_b
  show Run p e below s _ _ _ (T75.setTop (mkF m 44 #[.val (.ref b), .val (.int (5 : Int32)), .val (.int cj)] []))
  refine Run.pre (fun _ k => XS.aloadN X75.here hx rfl (hb hby d19_44) rfl rfl k) ?_
  show Run p e below s _ _ _ (T75.setTop (mkF m 45 #[.val (.ref b), .val (.int (5 : Int32)), .val (.int cj)] [(.ref b)]))
  refine Run.pre (fun _ k => XS.iloadN X75.here hx rfl (hb hby d19_45) rfl  k) ?_
  show Run p e below s _ _ _ (T75.setTop (mkF m 46 #[.val (.ref b), .val (.int (5 : Int32)), .val (.int cj)] [(.int (5 : Int32)), (.ref b)]))
  refine Run.pre (fun _ k => XS.iloadN X75.here hx rfl (hb hby d19_46) rfl  k) ?_
  show Run p e below s _ _ _ (T75.setTop (mkF m 47 #[.val (.ref b), .val (.int (5 : Int32)), .val (.int cj)] [(.int cj), (.int (5 : Int32)), (.ref b)]))
  have f76 := (OL.wr W75 g_b)
  obtain ⟨T77, X77, e77, st77⟩ := getS2 X75 hx hZ hown (host := "") (Or.inl (hw _ (List.mem_of_getElem? (i := 82) rfl))) Via.refl e75 (SL.ext f76.2) (g := (mkF m 47 #[.val (.ref b), .val (.int (5 : Int32)), .val (.int cj)] [(.int cj), (.int (5 : Int32)), (.ref b)])) rfl (hb hby d19_47)
  refine Run.pre st77 ?_
  show Run p e below s _ _ _ (T77.setTop (mkF m 50 #[.val (.ref b), .val (.int (5 : Int32)), .val (.int cj)] [(.int (8 : Int32)), (.int cj), (.int (5 : Int32)), (.ref b)]))
  refine Run.pre (fun _ k => XS.ishr X77.here hx rfl (hb hby d19_50) rfl k) ?_
  show Run p e below s _ _ _ (T77.setTop (mkF m 51 #[.val (.ref b), .val (.int (5 : Int32)), .val (.int cj)] [(.int (cj >>> ((8 : Int32) &&& 31))), (.int (5 : Int32)), (.ref b)]))
  refine Run.pre (fun _ k => XS.i2b X77.here hx rfl (hb hby d19_51) rfl k) ?_
  show Run p e below s _ _ _ (T77.setTop (mkF m 52 #[.val (.ref b), .val (.int (5 : Int32)), .val (.int cj)] [(.int ((cj >>> ((8 : Int32) &&& 31)).toInt8.toInt32)), (.int (5 : Int32)), (.ref b)]))
  obtain ⟨c78, Ar78, q78, S78, N78, H78, G78⟩ := id V_b_75
  have hin78 : ¬ ((5 : Int32) < 0 ∨ c78.slots.size ≤ ((5 : Int32)).toNatClampNeg) := inb_of S78 ⟨by decide, by decide⟩
  obtain ⟨T79, h79, X79, e79, W79, st79⟩ := stB X77 hx hZ e77 Ar78 (j := (5 : Int32)) hin78 (g := (mkF m 52 #[.val (.ref b), .val (.int (5 : Int32)), .val (.int cj)] [(.int ((cj >>> ((8 : Int32) &&& 31)).toInt8.toInt32)), (.int (5 : Int32)), (.ref b)])) rfl rfl (hb hby d19_52)
  refine Run.pre st79 ?_
  have V_b_79 : Arv Z h79 b kb .byte (8 : Int32) [(.int y0), (.int y1), (.int y2), (.int y3), (.int (nar .byte ((cj >>> ((0 : Int32) &&& 31)).toInt8.toInt32))), (.int (nar .byte ((cj >>> ((8 : Int32) &&& 31)).toInt8.toInt32))), (.int y6), (.int y7)] (.int (0 : Int32)) := Arv.set Ar78 q78 S78 N78 H78 G78 (fits_nar_byte _) W79 5 rfl (Nat.le_of_ble_eq_true rfl)
  have K79 : Keep h0 h79 [b] := K75.wr W79 (Or.inl (by simp))
  have N79 := Fr.snoc X79 N75 g_b
  show Run p e below s _ _ _ (T79.setTop (mkF m 53 #[.val (.ref b), .val (.int (5 : Int32)), .val (.int cj)] []))
  exact Run.retV X79 hx hret hlk (hb hby d19_53) (by first | (rw [e79]; exact ⟨rfl, N79, K79, V_b_79⟩) | exact ⟨rfl, N79, K79, V_b_79⟩) (by decide) (by decide)
set_option maxRecDepth 65536 in
set_option maxHeartbeats 40000000 in
theorem rmGC_4_2 (l : Launch) (Z : State) (a0 : Array Value) (hw : ∀ d ∈ tables_1, d.before a0 Z = true) (b : Addr) (kb : ClassId) (y0 : Int32) (y1 : Int32) (y2 : Int32) (y3 : Int32) (y4 : Int32) (y5 : Int32) (y6 : Int32) (y7 : Int32) (h0 : Heap) (n0 : Nat) (Z0 : n0 ≤ h0.size) (OL : Old Z n0 h0) (SA : Sta Z Z.heap "java/lang/StringUTF16" "$assertionsDisabled" "Z" (.int 1)) (SH : Sta Z Z.heap "java/lang/StringUTF16" "HI_BYTE_SHIFT" "I" (.int 0)) (SL : Sta Z Z.heap "java/lang/StringUTF16" "LO_BYTE_SHIFT" "I" (.int 8)) (AB : Arv Z h0 b kb .byte 8 [(.int y0), (.int y1), (.int y2), (.int y3), (.int y4), (.int y5), (.int y6), (.int y7)] (.int 0)) :
    Con l (⟨"java/lang/StringUTF16", "getChar", "([BI)C"⟩ : MethodName) jdk_52_method_5_code 2 (some .char) ({ frames := 0, cells := 0, slots := 0, locals := 0 } : Room) Z #[(.ref b), (.int (2 : Int32))] h0 (fun v h L => v = some (.int (own_gcv y4 y5)) ∧ Fr n0 L ∧ h = h0) := by
  refine Con.mk (plainFor_of_name pn_20) (fun m => show entryFrame m #[(.ref b), (.int (2 : Int32))] 2 = mkF m 0 #[.val (.ref b), .val (.int (2 : Int32))] [] by first | (simp [entryFrame, mkF, argsToLocals, Value.category]; done) | rfl) ?_
  intro p e s m below meth c s₁ hx hby hml hown hnm hret hlk hZ X0 e0
  have N0 := Fr.nil n0
  show Run p e below s _ _ _ (s₁.setTop (mkF m 0 #[.val (.ref b), .val (.int (2 : Int32))] []))
  obtain ⟨T80, X80, e80, st80⟩ := getS2 X0 hx hZ hown (host := "") (Or.inl (hw _ (List.mem_of_getElem? (i := 80) rfl))) Via.refl e0 (SA.ext OL.2) (g := (mkF m 0 #[.val (.ref b), .val (.int (2 : Int32))] [])) rfl (hb hby d20_0)
  refine Run.pre st80 ?_
  show Run p e below s _ _ _ (T80.setTop (mkF m 3 #[.val (.ref b), .val (.int (2 : Int32))] [(.int (1 : Int32))]))
  refine Run.pre (fun _ k => XS.ifYes X80.here hx rfl (pc0 := 3) (pc' := 28) rfl (hb hby d20_3) rfl ((if0 _ _).trans (feq ((by decide) : ¬ ((1 : Int32) = (0 : Int32)))).2) (by decide) (by decide) k) ?_
  show Run p e below s _ _ _ (T80.setTop (mkF m 28 #[.val (.ref b), .val (.int (2 : Int32))] []))
  refine Run.pre (fun _ k => XS.iloadN X80.here hx rfl (hb hby d20_28) rfl  k) ?_
  show Run p e below s _ _ _ (T80.setTop (mkF m 29 #[.val (.ref b), .val (.int (2 : Int32))] [(.int (2 : Int32))]))
  refine Run.pre (fun _ k => XS.iconst X80.here hx rfl (hb hby d20_29) k) ?_
  show Run p e below s _ _ _ (T80.setTop (mkF m 30 #[.val (.ref b), .val (.int (2 : Int32))] [(.int (1 : Int32)), (.int (2 : Int32))]))
  refine Run.pre (fun _ k => XS.ishl X80.here hx rfl (hb hby d20_30) rfl k) ?_
  show Run p e below s _ _ _ (T80.setTop (mkF m 31 #[.val (.ref b), .val (.int (2 : Int32))] [(.int (4 : Int32))]))
  refine Run.pre (fun _ k => XS.istoreN X80.here hx rfl (hb hby d20_31) rfl (l' := #[.val (.ref b), .val (.int (4 : Int32))]) rfl k) ?_
  show Run p e below s _ _ _ (T80.setTop (mkF m 32 #[.val (.ref b), .val (.int (4 : Int32))] []))
  refine Run.pre (fun _ k => XS.aloadN X80.here hx rfl (hb hby d20_32) rfl rfl k) ?_
  show Run p e below s _ _ _ (T80.setTop (mkF m 33 #[.val (.ref b), .val (.int (4 : Int32))] [(.ref b)]))
  refine Run.pre (fun _ k => XS.iloadN X80.here hx rfl (hb hby d20_33) rfl  k) ?_
  show Run p e below s _ _ _ (T80.setTop (mkF m 34 #[.val (.ref b), .val (.int (4 : Int32))] [(.int (4 : Int32)), (.ref b)]))
  refine Run.pre (fun _ k => XS.iinc X80.here hx rfl (hb hby d20_34) rfl (l' := #[.val (.ref b), .val (.int (5 : Int32))]) rfl k) ?_
  show Run p e below s _ _ _ (T80.setTop (mkF m 37 #[.val (.ref b), .val (.int (5 : Int32))] [(.int (4 : Int32)), (.ref b)]))
  obtain ⟨c81, Ar81, -, S81, N81, H81, -⟩ := id AB
  have hin81 : ¬ ((4 : Int32) < 0 ∨ c81.slots.size ≤ ((4 : Int32)).toNatClampNeg) := inb_of S81 ⟨by decide, by decide⟩
  refine Run.pre (X80.baloadBytes hx (j := (4 : Int32)) (v := (.int y4)) (by rw [e80]; exact Ar81.1) (State.isArrayOf_alike hZ.alike Ar81.2.1) Ar81.2.2 hin81 (H81.at hin81 rfl) (g := (mkF m 37 #[.val (.ref b), .val (.int (5 : Int32))] [(.int (4 : Int32)), (.ref b)])) rfl rfl (hb hby d20_37)) ?_
  show Run p e below s _ _ _ (T80.setTop (mkF m 38 #[.val (.ref b), .val (.int (5 : Int32))] [(.int y4)]))
  refine Run.pre (fun _ k => XS.sipush X80.here hx rfl (hb hby d20_38) k) ?_
  show Run p e below s _ _ _ (T80.setTop (mkF m 41 #[.val (.ref b), .val (.int (5 : Int32))] [(.int (255 : Int32)), (.int y4)]))
  refine Run.pre (fun _ k => XS.iand X80.here hx rfl (hb hby d20_41) rfl k) ?_
  show Run p e below s _ _ _ (T80.setTop (mkF m 42 #[.val (.ref b), .val (.int (5 : Int32))] [(.int (y4 &&& (255 : Int32)))]))
  obtain ⟨T82, X82, e82, st82⟩ := getS2 X80 hx hZ hown (host := "") (Or.inl (hw _ (List.mem_of_getElem? (i := 81) rfl))) Via.refl e80 (SH.ext OL.2) (g := (mkF m 42 #[.val (.ref b), .val (.int (5 : Int32))] [(.int (y4 &&& (255 : Int32)))])) rfl (hb hby d20_42)
  refine Run.pre st82 ?_
  show Run p e below s _ _ _ (T82.setTop (mkF m 45 #[.val (.ref b), .val (.int (5 : Int32))] [(.int (0 : Int32)), (.int (y4 &&& (255 : Int32)))]))
  refine Run.pre (fun _ k => XS.ishl X82.here hx rfl (hb hby d20_45) rfl k) ?_
  show Run p e below s _ _ _ (T82.setTop (mkF m 46 #[.val (.ref b), .val (.int (5 : Int32))] [(.int ((y4 &&& (255 : Int32)) <<< ((0 : Int32) &&& 31)))]))
  refine Run.pre (fun _ k => XS.aloadN X82.here hx rfl (hb hby d20_46) rfl rfl k) ?_
  show Run p e below s _ _ _ (T82.setTop (mkF m 47 #[.val (.ref b), .val (.int (5 : Int32))] [(.ref b), (.int ((y4 &&& (255 : Int32)) <<< ((0 : Int32) &&& 31)))]))
  refine Run.pre (fun _ k => XS.iloadN X82.here hx rfl (hb hby d20_47) rfl  k) ?_
  show Run p e below s _ _ _ (T82.setTop (mkF m 48 #[.val (.ref b), .val (.int (5 : Int32))] [(.int (5 : Int32)), (.ref b), (.int ((y4 &&& (255 : Int32)) <<< ((0 : Int32) &&& 31)))]))
  obtain ⟨c83, Ar83, -, S83, N83, H83, -⟩ := id AB
  have hin83 : ¬ ((5 : Int32) < 0 ∨ c83.slots.size ≤ ((5 : Int32)).toNatClampNeg) := inb_of S83 ⟨by decide, by decide⟩
  refine Run.pre (X82.baloadBytes hx (j := (5 : Int32)) (v := (.int y5)) (by rw [e82]; exact Ar83.1) (State.isArrayOf_alike hZ.alike Ar83.2.1) Ar83.2.2 hin83 (H83.at hin83 rfl) (g := (mkF m 48 #[.val (.ref b), .val (.int (5 : Int32))] [(.int (5 : Int32)), (.ref b), (.int ((y4 &&& (255 : Int32)) <<< ((0 : Int32) &&& 31)))])) rfl rfl (hb hby d20_48)) ?_
  show Run p e below s _ _ _ (T82.setTop (mkF m 49 #[.val (.ref b), .val (.int (5 : Int32))] [(.int y5), (.int ((y4 &&& (255 : Int32)) <<< ((0 : Int32) &&& 31)))]))
  refine Run.pre (fun _ k => XS.sipush X82.here hx rfl (hb hby d20_49) k) ?_
  show Run p e below s _ _ _ (T82.setTop (mkF m 52 #[.val (.ref b), .val (.int (5 : Int32))] [(.int (255 : Int32)), (.int y5), (.int ((y4 &&& (255 : Int32)) <<< ((0 : Int32) &&& 31)))]))
  refine Run.pre (fun _ k => XS.iand X82.here hx rfl (hb hby d20_52) rfl k) ?_
  show Run p e below s _ _ _ (T82.setTop (mkF m 53 #[.val (.ref b), .val (.int (5 : Int32))] [(.int (y5 &&& (255 : Int32))), (.int ((y4 &&& (255 : Int32)) <<< ((0 : Int32) &&& 31)))]))
  obtain ⟨T84, X84, e84, st84⟩ := getS2 X82 hx hZ hown (host := "") (Or.inl (hw _ (List.mem_of_getElem? (i := 82) rfl))) Via.refl e82 (SL.ext OL.2) (g := (mkF m 53 #[.val (.ref b), .val (.int (5 : Int32))] [(.int (y5 &&& (255 : Int32))), (.int ((y4 &&& (255 : Int32)) <<< ((0 : Int32) &&& 31)))])) rfl (hb hby d20_53)
  refine Run.pre st84 ?_
  show Run p e below s _ _ _ (T84.setTop (mkF m 56 #[.val (.ref b), .val (.int (5 : Int32))] [(.int (8 : Int32)), (.int (y5 &&& (255 : Int32))), (.int ((y4 &&& (255 : Int32)) <<< ((0 : Int32) &&& 31)))]))
  refine Run.pre (fun _ k => XS.ishl X84.here hx rfl (hb hby d20_56) rfl k) ?_
  show Run p e below s _ _ _ (T84.setTop (mkF m 57 #[.val (.ref b), .val (.int (5 : Int32))] [(.int ((y5 &&& (255 : Int32)) <<< ((8 : Int32) &&& 31))), (.int ((y4 &&& (255 : Int32)) <<< ((0 : Int32) &&& 31)))]))
  refine Run.pre (fun _ k => XS.ior X84.here hx rfl (hb hby d20_57) rfl k) ?_
  show Run p e below s _ _ _ (T84.setTop (mkF m 58 #[.val (.ref b), .val (.int (5 : Int32))] [(.int (((y4 &&& (255 : Int32)) <<< ((0 : Int32) &&& 31)) ||| ((y5 &&& (255 : Int32)) <<< ((8 : Int32) &&& 31))))]))
  refine Run.pre (fun _ k => XS.i2c X84.here hx rfl (hb hby d20_58) rfl k) ?_
  show Run p e below s _ _ _ (T84.setTop (mkF m 59 #[.val (.ref b), .val (.int (5 : Int32))] [(.int ((((y4 &&& (255 : Int32)) <<< ((0 : Int32) &&& 31)) ||| ((y5 &&& (255 : Int32)) <<< ((8 : Int32) &&& 31))).toUInt32.toUInt16.toUInt32.toInt32))]))
  exact Run.retN X84 hx hret (t := .char) (by simp) hlk (hb hby d20_59) (by first | (rw [e84]; exact ⟨rfl, N0, rfl⟩) | exact ⟨rfl, N0, rfl⟩) (by decide) (by decide)
set_option maxRecDepth 65536 in
set_option maxHeartbeats 40000000 in
theorem rmPC_4_3 (l : Launch) (Z : State) (a0 : Array Value) (hw : ∀ d ∈ tables_1, d.before a0 Z = true) (b : Addr) (kb : ClassId) (cj : Int32) (y0 : Int32) (y1 : Int32) (y2 : Int32) (y3 : Int32) (y4 : Int32) (y5 : Int32) (y6 : Int32) (y7 : Int32) (h0 : Heap) (n0 : Nat) (Z0 : n0 ≤ h0.size) (OL : Old Z n0 h0) (SA : Sta Z Z.heap "java/lang/StringUTF16" "$assertionsDisabled" "Z" (.int 1)) (SH : Sta Z Z.heap "java/lang/StringUTF16" "HI_BYTE_SHIFT" "I" (.int 0)) (SL : Sta Z Z.heap "java/lang/StringUTF16" "LO_BYTE_SHIFT" "I" (.int 8)) (AB : Arv Z h0 b kb .byte 8 [(.int y0), (.int y1), (.int y2), (.int y3), (.int y4), (.int y5), (.int y6), (.int y7)] (.int 0)) (g_b : n0 ≤ b) :
    Con l (⟨"java/lang/StringUTF16", "putChar", "([BII)V"⟩ : MethodName) jdk_52_method_4_code 3 none ({ frames := 0, cells := 0, slots := 0, locals := 0 } : Room) Z #[(.ref b), (.int (3 : Int32)), (.int cj)] h0 (fun v h L => v = none ∧ Fr n0 L ∧ Keep h0 h [b] ∧ Arv Z h b kb .byte 8 [(.int y0), (.int y1), (.int y2), (.int y3), (.int y4), (.int y5), (.int (own_b0 cj)), (.int (own_b1 cj))] (.int 0)) := by
  refine Con.mk (plainFor_of_name pn_19) (fun m => show entryFrame m #[(.ref b), (.int (3 : Int32)), (.int cj)] 3 = mkF m 0 #[.val (.ref b), .val (.int (3 : Int32)), .val (.int cj)] [] by first | (simp [entryFrame, mkF, argsToLocals, Value.category]; done) | rfl) ?_
  intro p e s m below meth c s₁ hx hby hml hown hnm hret hlk hZ X0 e0
  have N0 := Fr.nil n0
  show Run p e below s _ _ _ (s₁.setTop (mkF m 0 #[.val (.ref b), .val (.int (3 : Int32)), .val (.int cj)] []))
  obtain ⟨T85, X85, e85, st85⟩ := getS2 X0 hx hZ hown (host := "") (Or.inl (hw _ (List.mem_of_getElem? (i := 80) rfl))) Via.refl e0 (SA.ext OL.2) (g := (mkF m 0 #[.val (.ref b), .val (.int (3 : Int32)), .val (.int cj)] [])) rfl (hb hby d19_0)
  refine Run.pre st85 ?_
  show Run p e below s _ _ _ (T85.setTop (mkF m 3 #[.val (.ref b), .val (.int (3 : Int32)), .val (.int cj)] [(.int (1 : Int32))]))
  refine Run.pre (fun _ k => XS.ifYes X85.here hx rfl (pc0 := 3) (pc' := 28) rfl (hb hby d19_3) rfl ((if0 _ _).trans (feq ((by decide) : ¬ ((1 : Int32) = (0 : Int32)))).2) (by decide) (by decide) k) ?_
  show Run p e below s _ _ _ (T85.setTop (mkF m 28 #[.val (.ref b), .val (.int (3 : Int32)), .val (.int cj)] []))
  refine Run.pre (fun _ k => XS.iloadN X85.here hx rfl (hb hby d19_28) rfl  k) ?_
  show Run p e below s _ _ _ (T85.setTop (mkF m 29 #[.val (.ref b), .val (.int (3 : Int32)), .val (.int cj)] [(.int (3 : Int32))]))
  refine Run.pre (fun _ k => XS.iconst X85.here hx rfl (hb hby d19_29) k) ?_
  show Run p e below s _ _ _ (T85.setTop (mkF m 30 #[.val (.ref b), .val (.int (3 : Int32)), .val (.int cj)] [(.int (1 : Int32)), (.int (3 : Int32))]))
  refine Run.pre (fun _ k => XS.ishl X85.here hx rfl (hb hby d19_30) rfl k) ?_
  show Run p e below s _ _ _ (T85.setTop (mkF m 31 #[.val (.ref b), .val (.int (3 : Int32)), .val (.int cj)] [(.int (6 : Int32))]))
  refine Run.pre (fun _ k => XS.istoreN X85.here hx rfl (hb hby d19_31) rfl (l' := #[.val (.ref b), .val (.int (6 : Int32)), .val (.int cj)]) rfl k) ?_
  show Run p e below s _ _ _ (T85.setTop (mkF m 32 #[.val (.ref b), .val (.int (6 : Int32)), .val (.int cj)] []))
  refine Run.pre (fun _ k => XS.aloadN X85.here hx rfl (hb hby d19_32) rfl rfl k) ?_
  show Run p e below s _ _ _ (T85.setTop (mkF m 33 #[.val (.ref b), .val (.int (6 : Int32)), .val (.int cj)] [(.ref b)]))
  refine Run.pre (fun _ k => XS.iloadN X85.here hx rfl (hb hby d19_33) rfl  k) ?_
  show Run p e below s _ _ _ (T85.setTop (mkF m 34 #[.val (.ref b), .val (.int (6 : Int32)), .val (.int cj)] [(.int (6 : Int32)), (.ref b)]))
  refine Run.pre (fun _ k => XS.iinc X85.here hx rfl (hb hby d19_34) rfl (l' := #[.val (.ref b), .val (.int (7 : Int32)), .val (.int cj)]) rfl k) ?_
  show Run p e below s _ _ _ (T85.setTop (mkF m 37 #[.val (.ref b), .val (.int (7 : Int32)), .val (.int cj)] [(.int (6 : Int32)), (.ref b)]))
  refine Run.pre (fun _ k => XS.iloadN X85.here hx rfl (hb hby d19_37) rfl  k) ?_
  show Run p e below s _ _ _ (T85.setTop (mkF m 38 #[.val (.ref b), .val (.int (7 : Int32)), .val (.int cj)] [(.int cj), (.int (6 : Int32)), (.ref b)]))
  obtain ⟨T86, X86, e86, st86⟩ := getS2 X85 hx hZ hown (host := "") (Or.inl (hw _ (List.mem_of_getElem? (i := 81) rfl))) Via.refl e85 (SH.ext OL.2) (g := (mkF m 38 #[.val (.ref b), .val (.int (7 : Int32)), .val (.int cj)] [(.int cj), (.int (6 : Int32)), (.ref b)])) rfl (hb hby d19_38)
  refine Run.pre st86 ?_
  show Run p e below s _ _ _ (T86.setTop (mkF m 41 #[.val (.ref b), .val (.int (7 : Int32)), .val (.int cj)] [(.int (0 : Int32)), (.int cj), (.int (6 : Int32)), (.ref b)]))
  refine Run.pre (fun _ k => XS.ishr X86.here hx rfl (hb hby d19_41) rfl k) ?_
  show Run p e below s _ _ _ (T86.setTop (mkF m 42 #[.val (.ref b), .val (.int (7 : Int32)), .val (.int cj)] [(.int (cj >>> ((0 : Int32) &&& 31))), (.int (6 : Int32)), (.ref b)]))
  refine Run.pre (fun _ k => XS.i2b X86.here hx rfl (hb hby d19_42) rfl k) ?_
  show Run p e below s _ _ _ (T86.setTop (mkF m 43 #[.val (.ref b), .val (.int (7 : Int32)), .val (.int cj)] [(.int ((cj >>> ((0 : Int32) &&& 31)).toInt8.toInt32)), (.int (6 : Int32)), (.ref b)]))
  obtain ⟨c87, Ar87, q87, S87, N87, H87, G87⟩ := id AB
  have hin87 : ¬ ((6 : Int32) < 0 ∨ c87.slots.size ≤ ((6 : Int32)).toNatClampNeg) := inb_of S87 ⟨by decide, by decide⟩
  obtain ⟨T88, h88, X88, e88, W88, st88⟩ := stB X86 hx hZ e86 Ar87 (j := (6 : Int32)) hin87 (g := (mkF m 43 #[.val (.ref b), .val (.int (7 : Int32)), .val (.int cj)] [(.int ((cj >>> ((0 : Int32) &&& 31)).toInt8.toInt32)), (.int (6 : Int32)), (.ref b)])) rfl rfl (hb hby d19_43)
  refine Run.pre st88 ?_
  have V_b_88 : Arv Z h88 b kb .byte (8 : Int32) [(.int y0), (.int y1), (.int y2), (.int y3), (.int y4), (.int y5), (.int (nar .byte ((cj >>> ((0 : Int32) &&& 31)).toInt8.toInt32))), (.int y7)] (.int (0 : Int32)) := Arv.set Ar87 q87 S87 N87 H87 G87 (fits_nar_byte _) W88 6 rfl (Nat.le_of_ble_eq_true rfl)
  have K88 : Keep h0 h88 [b] := (Keep.refl h0 [b]).wr W88 (Or.inl (by simp))
  have N88 := Fr.snoc X88 N0 g_b
  show Run p e below s _ _ _ (T88.setTop (mkF m 44 #[.val (.ref b), .val (.int (7 : Int32)), .val (.int cj)] []))
  refine Run.pre (fun _ k => XS.aloadN X88.here hx rfl (hb hby d19_44) rfl rfl k) ?_
  show Run p e below s _ _ _ (T88.setTop (mkF m 45 #[.val (.ref b), .val (.int (7 : Int32)), .val (.int cj)] [(.ref b)]))
  refine Run.pre (fun _ k => XS.iloadN X88.here hx rfl (hb hby d19_45) rfl  k) ?_
  show Run p e below s _ _ _ (T88.setTop (mkF m 46 #[.val (.ref b), .val (.int (7 : Int32)), .val (.int cj)] [(.int (7 : Int32)), (.ref b)]))
  refine Run.pre (fun _ k => XS.iloadN X88.here hx rfl (hb hby d19_46) rfl  k) ?_
  show Run p e below s _ _ _ (T88.setTop (mkF m 47 #[.val (.ref b), .val (.int (7 : Int32)), .val (.int cj)] [(.int cj), (.int (7 : Int32)), (.ref b)]))
  have f89 := (OL.wr W88 g_b)
  obtain ⟨T90, X90, e90, st90⟩ := getS2 X88 hx hZ hown (host := "") (Or.inl (hw _ (List.mem_of_getElem? (i := 82) rfl))) Via.refl e88 (SL.ext f89.2) (g := (mkF m 47 #[.val (.ref b), .val (.int (7 : Int32)), .val (.int cj)] [(.int cj), (.int (7 : Int32)), (.ref b)])) rfl (hb hby d19_47)
  refine Run.pre st90 ?_
  show Run p e below s _ _ _ (T90.setTop (mkF m 50 #[.val (.ref b), .val (.int (7 : Int32)), .val (.int cj)] [(.int (8 : Int32)), (.int cj), (.int (7 : Int32)), (.ref b)]))
  refine Run.pre (fun _ k => XS.ishr X90.here hx rfl (hb hby d19_50) rfl k) ?_
  show Run p e below s _ _ _ (T90.setTop (mkF m 51 #[.val (.ref b), .val (.int (7 : Int32)), .val (.int cj)] [(.int (cj >>> ((8 : Int32) &&& 31))), (.int (7 : Int32)), (.ref b)]))
  refine Run.pre (fun _ k => XS.i2b X90.here hx rfl (hb hby d19_51) rfl k) ?_
  show Run p e below s _ _ _ (T90.setTop (mkF m 52 #[.val (.ref b), .val (.int (7 : Int32)), .val (.int cj)] [(.int ((cj >>> ((8 : Int32) &&& 31)).toInt8.toInt32)), (.int (7 : Int32)), (.ref b)]))
  obtain ⟨c91, Ar91, q91, S91, N91, H91, G91⟩ := id V_b_88
  have hin91 : ¬ ((7 : Int32) < 0 ∨ c91.slots.size ≤ ((7 : Int32)).toNatClampNeg) := inb_of S91 ⟨by decide, by decide⟩
  obtain ⟨T92, h92, X92, e92, W92, st92⟩ := stB X90 hx hZ e90 Ar91 (j := (7 : Int32)) hin91 (g := (mkF m 52 #[.val (.ref b), .val (.int (7 : Int32)), .val (.int cj)] [(.int ((cj >>> ((8 : Int32) &&& 31)).toInt8.toInt32)), (.int (7 : Int32)), (.ref b)])) rfl rfl (hb hby d19_52)
  refine Run.pre st92 ?_
  have V_b_92 : Arv Z h92 b kb .byte (8 : Int32) [(.int y0), (.int y1), (.int y2), (.int y3), (.int y4), (.int y5), (.int (nar .byte ((cj >>> ((0 : Int32) &&& 31)).toInt8.toInt32))), (.int (nar .byte ((cj >>> ((8 : Int32) &&& 31)).toInt8.toInt32)))] (.int (0 : Int32)) := Arv.set Ar91 q91 S91 N91 H91 G91 (fits_nar_byte _) W92 7 rfl (Nat.le_of_ble_eq_true rfl)
  have K92 : Keep h0 h92 [b] := K88.wr W92 (Or.inl (by simp))
  have N92 := Fr.snoc X92 N88 g_b
  show Run p e below s _ _ _ (T92.setTop (mkF m 53 #[.val (.ref b), .val (.int (7 : Int32)), .val (.int cj)] []))
  exact Run.retV X92 hx hret hlk (hb hby d19_53) (by first | (rw [e92]; exact ⟨rfl, N92, K92, V_b_92⟩) | exact ⟨rfl, N92, K92, V_b_92⟩) (by decide) (by decide)
set_option maxRecDepth 65536 in
set_option maxHeartbeats 40000000 in
theorem rmGC_4_3 (l : Launch) (Z : State) (a0 : Array Value) (hw : ∀ d ∈ tables_1, d.before a0 Z = true) (b : Addr) (kb : ClassId) (y0 : Int32) (y1 : Int32) (y2 : Int32) (y3 : Int32) (y4 : Int32) (y5 : Int32) (y6 : Int32) (y7 : Int32) (h0 : Heap) (n0 : Nat) (Z0 : n0 ≤ h0.size) (OL : Old Z n0 h0) (SA : Sta Z Z.heap "java/lang/StringUTF16" "$assertionsDisabled" "Z" (.int 1)) (SH : Sta Z Z.heap "java/lang/StringUTF16" "HI_BYTE_SHIFT" "I" (.int 0)) (SL : Sta Z Z.heap "java/lang/StringUTF16" "LO_BYTE_SHIFT" "I" (.int 8)) (AB : Arv Z h0 b kb .byte 8 [(.int y0), (.int y1), (.int y2), (.int y3), (.int y4), (.int y5), (.int y6), (.int y7)] (.int 0)) :
    Con l (⟨"java/lang/StringUTF16", "getChar", "([BI)C"⟩ : MethodName) jdk_52_method_5_code 2 (some .char) ({ frames := 0, cells := 0, slots := 0, locals := 0 } : Room) Z #[(.ref b), (.int (3 : Int32))] h0 (fun v h L => v = some (.int (own_gcv y6 y7)) ∧ Fr n0 L ∧ h = h0) := by
  refine Con.mk (plainFor_of_name pn_20) (fun m => show entryFrame m #[(.ref b), (.int (3 : Int32))] 2 = mkF m 0 #[.val (.ref b), .val (.int (3 : Int32))] [] by first | (simp [entryFrame, mkF, argsToLocals, Value.category]; done) | rfl) ?_
  intro p e s m below meth c s₁ hx hby hml hown hnm hret hlk hZ X0 e0
  have N0 := Fr.nil n0
  show Run p e below s _ _ _ (s₁.setTop (mkF m 0 #[.val (.ref b), .val (.int (3 : Int32))] []))
  obtain ⟨T93, X93, e93, st93⟩ := getS2 X0 hx hZ hown (host := "") (Or.inl (hw _ (List.mem_of_getElem? (i := 80) rfl))) Via.refl e0 (SA.ext OL.2) (g := (mkF m 0 #[.val (.ref b), .val (.int (3 : Int32))] [])) rfl (hb hby d20_0)
  refine Run.pre st93 ?_
  show Run p e below s _ _ _ (T93.setTop (mkF m 3 #[.val (.ref b), .val (.int (3 : Int32))] [(.int (1 : Int32))]))
  refine Run.pre (fun _ k => XS.ifYes X93.here hx rfl (pc0 := 3) (pc' := 28) rfl (hb hby d20_3) rfl ((if0 _ _).trans (feq ((by decide) : ¬ ((1 : Int32) = (0 : Int32)))).2) (by decide) (by decide) k) ?_
  show Run p e below s _ _ _ (T93.setTop (mkF m 28 #[.val (.ref b), .val (.int (3 : Int32))] []))
  refine Run.pre (fun _ k => XS.iloadN X93.here hx rfl (hb hby d20_28) rfl  k) ?_
  show Run p e below s _ _ _ (T93.setTop (mkF m 29 #[.val (.ref b), .val (.int (3 : Int32))] [(.int (3 : Int32))]))
  refine Run.pre (fun _ k => XS.iconst X93.here hx rfl (hb hby d20_29) k) ?_
  show Run p e below s _ _ _ (T93.setTop (mkF m 30 #[.val (.ref b), .val (.int (3 : Int32))] [(.int (1 : Int32)), (.int (3 : Int32))]))
  refine Run.pre (fun _ k => XS.ishl X93.here hx rfl (hb hby d20_30) rfl k) ?_
  show Run p e below s _ _ _ (T93.setTop (mkF m 31 #[.val (.ref b), .val (.int (3 : Int32))] [(.int (6 : Int32))]))
  refine Run.pre (fun _ k => XS.istoreN X93.here hx rfl (hb hby d20_31) rfl (l' := #[.val (.ref b), .val (.int (6 : Int32))]) rfl k) ?_
  show Run p e below s _ _ _ (T93.setTop (mkF m 32 #[.val (.ref b), .val (.int (6 : Int32))] []))
  refine Run.pre (fun _ k => XS.aloadN X93.here hx rfl (hb hby d20_32) rfl rfl k) ?_
  show Run p e below s _ _ _ (T93.setTop (mkF m 33 #[.val (.ref b), .val (.int (6 : Int32))] [(.ref b)]))
  refine Run.pre (fun _ k => XS.iloadN X93.here hx rfl (hb hby d20_33) rfl  k) ?_
  show Run p e below s _ _ _ (T93.setTop (mkF m 34 #[.val (.ref b), .val (.int (6 : Int32))] [(.int (6 : Int32)), (.ref b)]))
  refine Run.pre (fun _ k => XS.iinc X93.here hx rfl (hb hby d20_34) rfl (l' := #[.val (.ref b), .val (.int (7 : Int32))]) rfl k) ?_
  show Run p e below s _ _ _ (T93.setTop (mkF m 37 #[.val (.ref b), .val (.int (7 : Int32))] [(.int (6 : Int32)), (.ref b)]))
  obtain ⟨c94, Ar94, -, S94, N94, H94, -⟩ := id AB
  have hin94 : ¬ ((6 : Int32) < 0 ∨ c94.slots.size ≤ ((6 : Int32)).toNatClampNeg) := inb_of S94 ⟨by decide, by decide⟩
  refine Run.pre (X93.baloadBytes hx (j := (6 : Int32)) (v := (.int y6)) (by rw [e93]; exact Ar94.1) (State.isArrayOf_alike hZ.alike Ar94.2.1) Ar94.2.2 hin94 (H94.at hin94 rfl) (g := (mkF m 37 #[.val (.ref b), .val (.int (7 : Int32))] [(.int (6 : Int32)), (.ref b)])) rfl rfl (hb hby d20_37)) ?_
  show Run p e below s _ _ _ (T93.setTop (mkF m 38 #[.val (.ref b), .val (.int (7 : Int32))] [(.int y6)]))
  refine Run.pre (fun _ k => XS.sipush X93.here hx rfl (hb hby d20_38) k) ?_
  show Run p e below s _ _ _ (T93.setTop (mkF m 41 #[.val (.ref b), .val (.int (7 : Int32))] [(.int (255 : Int32)), (.int y6)]))
  refine Run.pre (fun _ k => XS.iand X93.here hx rfl (hb hby d20_41) rfl k) ?_
  show Run p e below s _ _ _ (T93.setTop (mkF m 42 #[.val (.ref b), .val (.int (7 : Int32))] [(.int (y6 &&& (255 : Int32)))]))
  obtain ⟨T95, X95, e95, st95⟩ := getS2 X93 hx hZ hown (host := "") (Or.inl (hw _ (List.mem_of_getElem? (i := 81) rfl))) Via.refl e93 (SH.ext OL.2) (g := (mkF m 42 #[.val (.ref b), .val (.int (7 : Int32))] [(.int (y6 &&& (255 : Int32)))])) rfl (hb hby d20_42)
  refine Run.pre st95 ?_
  show Run p e below s _ _ _ (T95.setTop (mkF m 45 #[.val (.ref b), .val (.int (7 : Int32))] [(.int (0 : Int32)), (.int (y6 &&& (255 : Int32)))]))
  refine Run.pre (fun _ k => XS.ishl X95.here hx rfl (hb hby d20_45) rfl k) ?_
  show Run p e below s _ _ _ (T95.setTop (mkF m 46 #[.val (.ref b), .val (.int (7 : Int32))] [(.int ((y6 &&& (255 : Int32)) <<< ((0 : Int32) &&& 31)))]))
  refine Run.pre (fun _ k => XS.aloadN X95.here hx rfl (hb hby d20_46) rfl rfl k) ?_
  show Run p e below s _ _ _ (T95.setTop (mkF m 47 #[.val (.ref b), .val (.int (7 : Int32))] [(.ref b), (.int ((y6 &&& (255 : Int32)) <<< ((0 : Int32) &&& 31)))]))
  refine Run.pre (fun _ k => XS.iloadN X95.here hx rfl (hb hby d20_47) rfl  k) ?_
  show Run p e below s _ _ _ (T95.setTop (mkF m 48 #[.val (.ref b), .val (.int (7 : Int32))] [(.int (7 : Int32)), (.ref b), (.int ((y6 &&& (255 : Int32)) <<< ((0 : Int32) &&& 31)))]))
  obtain ⟨c96, Ar96, -, S96, N96, H96, -⟩ := id AB
  have hin96 : ¬ ((7 : Int32) < 0 ∨ c96.slots.size ≤ ((7 : Int32)).toNatClampNeg) := inb_of S96 ⟨by decide, by decide⟩
  refine Run.pre (X95.baloadBytes hx (j := (7 : Int32)) (v := (.int y7)) (by rw [e95]; exact Ar96.1) (State.isArrayOf_alike hZ.alike Ar96.2.1) Ar96.2.2 hin96 (H96.at hin96 rfl) (g := (mkF m 48 #[.val (.ref b), .val (.int (7 : Int32))] [(.int (7 : Int32)), (.ref b), (.int ((y6 &&& (255 : Int32)) <<< ((0 : Int32) &&& 31)))])) rfl rfl (hb hby d20_48)) ?_
  show Run p e below s _ _ _ (T95.setTop (mkF m 49 #[.val (.ref b), .val (.int (7 : Int32))] [(.int y7), (.int ((y6 &&& (255 : Int32)) <<< ((0 : Int32) &&& 31)))]))
  refine Run.pre (fun _ k => XS.sipush X95.here hx rfl (hb hby d20_49) k) ?_
  show Run p e below s _ _ _ (T95.setTop (mkF m 52 #[.val (.ref b), .val (.int (7 : Int32))] [(.int (255 : Int32)), (.int y7), (.int ((y6 &&& (255 : Int32)) <<< ((0 : Int32) &&& 31)))]))
  refine Run.pre (fun _ k => XS.iand X95.here hx rfl (hb hby d20_52) rfl k) ?_
  show Run p e below s _ _ _ (T95.setTop (mkF m 53 #[.val (.ref b), .val (.int (7 : Int32))] [(.int (y7 &&& (255 : Int32))), (.int ((y6 &&& (255 : Int32)) <<< ((0 : Int32) &&& 31)))]))
  obtain ⟨T97, X97, e97, st97⟩ := getS2 X95 hx hZ hown (host := "") (Or.inl (hw _ (List.mem_of_getElem? (i := 82) rfl))) Via.refl e95 (SL.ext OL.2) (g := (mkF m 53 #[.val (.ref b), .val (.int (7 : Int32))] [(.int (y7 &&& (255 : Int32))), (.int ((y6 &&& (255 : Int32)) <<< ((0 : Int32) &&& 31)))])) rfl (hb hby d20_53)
  refine Run.pre st97 ?_
  show Run p e below s _ _ _ (T97.setTop (mkF m 56 #[.val (.ref b), .val (.int (7 : Int32))] [(.int (8 : Int32)), (.int (y7 &&& (255 : Int32))), (.int ((y6 &&& (255 : Int32)) <<< ((0 : Int32) &&& 31)))]))
  refine Run.pre (fun _ k => XS.ishl X97.here hx rfl (hb hby d20_56) rfl k) ?_
  show Run p e below s _ _ _ (T97.setTop (mkF m 57 #[.val (.ref b), .val (.int (7 : Int32))] [(.int ((y7 &&& (255 : Int32)) <<< ((8 : Int32) &&& 31))), (.int ((y6 &&& (255 : Int32)) <<< ((0 : Int32) &&& 31)))]))
  refine Run.pre (fun _ k => XS.ior X97.here hx rfl (hb hby d20_57) rfl k) ?_
  show Run p e below s _ _ _ (T97.setTop (mkF m 58 #[.val (.ref b), .val (.int (7 : Int32))] [(.int (((y6 &&& (255 : Int32)) <<< ((0 : Int32) &&& 31)) ||| ((y7 &&& (255 : Int32)) <<< ((8 : Int32) &&& 31))))]))
  refine Run.pre (fun _ k => XS.i2c X97.here hx rfl (hb hby d20_58) rfl k) ?_
  show Run p e below s _ _ _ (T97.setTop (mkF m 59 #[.val (.ref b), .val (.int (7 : Int32))] [(.int ((((y6 &&& (255 : Int32)) <<< ((0 : Int32) &&& 31)) ||| ((y7 &&& (255 : Int32)) <<< ((8 : Int32) &&& 31))).toUInt32.toUInt16.toUInt32.toInt32))]))
  exact Run.retN X97 hx hret (t := .char) (by simp) hlk (hb hby d20_59) (by first | (rw [e97]; exact ⟨rfl, N0, rfl⟩) | exact ⟨rfl, N0, rfl⟩) (by decide) (by decide)
theorem d16_0 : decode jdk_52_method_14_code 0 = .ok (.iload_n 2, 1) := by decide +kernel
theorem pd_1 : parseMethodDescriptor "(I)[B" = some ⟨[.int], some (.array .byte)⟩ := by decide +kernel
theorem d16_1 : decode jdk_52_method_14_code 1 = .ok (.invokestatic 107, 3) := by decide +kernel
theorem d16_4 : decode jdk_52_method_14_code 4 = .ok (.astore_n 3, 1) := by decide +kernel
theorem d16_5 : decode jdk_52_method_14_code 5 = .ok (.iconst 0, 1) := by decide +kernel
theorem d16_6 : decode jdk_52_method_14_code 6 = .ok (.istore 4, 2) := by decide +kernel
theorem d16_8 : decode jdk_52_method_14_code 8 = .ok (.iload 4, 2) := by decide +kernel
theorem d16_10 : decode jdk_52_method_14_code 10 = .ok (.iload_n 2, 1) := by decide +kernel
theorem d16_11 : decode jdk_52_method_14_code 11 = .ok (.if_icmp .ge 21, 3) := by decide +kernel
theorem d16_14 : decode jdk_52_method_14_code 14 = .ok (.aload_n 3, 1) := by decide +kernel
theorem d16_15 : decode jdk_52_method_14_code 15 = .ok (.iload 4, 2) := by decide +kernel
theorem d16_17 : decode jdk_52_method_14_code 17 = .ok (.aload_n 0, 1) := by decide +kernel
theorem d16_18 : decode jdk_52_method_14_code 18 = .ok (.iload_n 1, 1) := by decide +kernel
theorem d16_19 : decode jdk_52_method_14_code 19 = .ok (.caload, 1) := by decide +kernel
theorem pd_2 : parseMethodDescriptor "([BII)V" = some ⟨[(.array .byte), .int, .int], none⟩ := by decide +kernel
theorem d16_20 : decode jdk_52_method_14_code 20 = .ok (.invokestatic 111, 3) := by decide +kernel
theorem d16_23 : decode jdk_52_method_14_code 23 = .ok (.iinc 1 1, 3) := by decide +kernel
theorem d16_26 : decode jdk_52_method_14_code 26 = .ok (.iinc 4 1, 3) := by decide +kernel
theorem d16_29 : decode jdk_52_method_14_code 29 = .ok (.goto (-21), 3) := by decide +kernel
theorem d16_32 : decode jdk_52_method_14_code 32 = .ok (.aload_n 3, 1) := by decide +kernel
theorem d16_33 : decode jdk_52_method_14_code 33 = .ok (.areturn, 1) := by decide +kernel
theorem pn_16 : plainName "java/lang/StringUTF16" = true := by first | (simp [plainName, overriddenIn]; done) | decide +kernel
set_option maxRecDepth 65536 in
set_option maxHeartbeats 40000000 in
theorem rmTB_4 (l : Launch) (Z : State) (a0 : Array Value) (hw : ∀ d ∈ tables_1, d.before a0 Z = true) (ar : Addr) (kc : ClassId) (c0 : Int32) (c1 : Int32) (c2 : Int32) (c3 : Int32) (h0 : Heap) (n0 : Nat) (Z0 : n0 ≤ h0.size) (OL : Old Z n0 h0) (SA : Sta Z Z.heap "java/lang/StringUTF16" "$assertionsDisabled" "Z" (.int 1)) (SH : Sta Z Z.heap "java/lang/StringUTF16" "HI_BYTE_SHIFT" "I" (.int 0)) (SL : Sta Z Z.heap "java/lang/StringUTF16" "LO_BYTE_SHIFT" "I" (.int 8)) (AC : Arv Z h0 ar kc .char 4 [(.int c0), (.int c1), (.int c2), (.int c3)] (.int 0)) :
    Con l (⟨"java/lang/StringUTF16", "toBytes", "([CII)[B"⟩ : MethodName) jdk_52_method_14_code 5 (some (.array .byte)) ({ frames := 2, cells := 1, slots := 8, locals := 24 } : Room) Z #[(.ref ar), (.int (0 : Int32)), (.int (4 : Int32))] h0 (fun v h L => ∃ b : Addr, ∃ k : ClassId, v = some (.ref b) ∧ Fr n0 L ∧ Keep h0 h [] ∧ h0.size ≤ b ∧ Arv Z h b k .byte 8 [(.int (own_b0 c0)), (.int (own_b1 c0)), (.int (own_b0 c1)), (.int (own_b1 c1)), (.int (own_b0 c2)), (.int (own_b1 c2)), (.int (own_b0 c3)), (.int (own_b1 c3))] (.int 0)) := by
  refine Con.mk (plainFor_of_name pn_16) (fun m => show entryFrame m #[(.ref ar), (.int (0 : Int32)), (.int (4 : Int32))] 5 = mkF m 0 #[.val (.ref ar), .val (.int (0 : Int32)), .val (.int (4 : Int32)), .unset, .unset] [] by first | (simp [entryFrame, mkF, argsToLocals, Value.category]; done) | rfl) ?_
  intro p e s m below meth c s₁ hx hby hml hown hnm hret hlk hZ X0 e0
  have N0 := Fr.nil n0
  show Run p e below s _ _ _ (s₁.setTop (mkF m 0 #[.val (.ref ar), .val (.int (0 : Int32)), .val (.int (4 : Int32)), .unset, .unset] []))
  refine Run.pre (fun _ k => XS.iloadN X0.here hx rfl (hb hby d16_0) rfl  k) ?_
  show Run p e below s _ _ _ (s₁.setTop (mkF m 1 #[.val (.ref ar), .val (.int (0 : Int32)), .val (.int (4 : Int32)), .unset, .unset] [(.int (4 : Int32))]))
  refine Run.callS X0 hx hZ (y := (⟨"java/lang/StringUTF16", "newBytesFor", "(I)[B"⟩ : MethodName)) hown (hw _ (List.mem_of_getElem? (i := 70) rfl)) (hw _ (List.mem_of_getElem? (i := 71) rfl)) (hw _ (List.mem_of_getElem? (i := 22) rfl)) (hw _ (List.mem_of_getElem? (i := 72) rfl)) (by decide) (W := 0) (rmNF_4 l Z a0 hw h0 n0 (Nat.le_trans Z0 (Keep.refl h0 []).1)) e0 (by decide) (by decide) (by decide) (by decide) (g := (mkF m 1 #[.val (.ref ar), .val (.int (0 : Int32)), .val (.int (4 : Int32)), .unset, .unset] [(.int (4 : Int32))])) rfl (by rw [hml]; rfl) (argsL := [(.int (4 : Int32))]) (rest := []) (lenOf pd_1 rfl) rfl (by show 2 * 0 + _ ≤ _; exact Nat.le_of_eq rfl) (hb hby d16_1) ?_
  intro v98 T98 L98 X98 hQ98
  obtain ⟨b98, k98, rfl, Nq98, Kc98, sz98, vb98⟩ := hQ98
  have N98 := Fr.app N0 Nq98
  have K98 : Keep h0 T98.heap [] := (Keep.refl h0 []).trans Kc98 all0
  have sz_b98 : h0.size ≤ b98 := Nat.le_trans (Keep.refl h0 []).1 sz98
  have gn_b98 : n0 ≤ b98 := Nat.le_trans Z0 sz_b98
  show Run p e below s _ _ _ (T98.setTop (mkF m 4 #[.val (.ref ar), .val (.int (0 : Int32)), .val (.int (4 : Int32)), .unset, .unset] [(.ref b98)]))
  refine Run.pre (fun _ k => XS.astoreN X98.here hx rfl (hb hby d16_4) rfl rfl (l' := #[.val (.ref ar), .val (.int (0 : Int32)), .val (.int (4 : Int32)), .val (.ref b98), .unset]) rfl k) ?_
  show Run p e below s _ _ _ (T98.setTop (mkF m 5 #[.val (.ref ar), .val (.int (0 : Int32)), .val (.int (4 : Int32)), .val (.ref b98), .unset] []))
  refine Run.pre (fun _ k => XS.iconst X98.here hx rfl (hb hby d16_5) k) ?_
  show Run p e below s _ _ _ (T98.setTop (mkF m 6 #[.val (.ref ar), .val (.int (0 : Int32)), .val (.int (4 : Int32)), .val (.ref b98), .unset] [(.int (0 : Int32))]))
  refine Run.pre (fun _ k => XS.istore X98.here hx rfl (hb hby d16_6) rfl (l' := #[.val (.ref ar), .val (.int (0 : Int32)), .val (.int (4 : Int32)), .val (.ref b98), .val (.int (0 : Int32))]) rfl k) ?_
  show Run p e below s _ _ _ (T98.setTop (mkF m 8 #[.val (.ref ar), .val (.int (0 : Int32)), .val (.int (4 : Int32)), .val (.ref b98), .val (.int (0 : Int32))] []))
  refine Run.pre (fun _ k => XS.iload X98.here hx rfl (hb hby d16_8) rfl  k) ?_
  show Run p e below s _ _ _ (T98.setTop (mkF m 10 #[.val (.ref ar), .val (.int (0 : Int32)), .val (.int (4 : Int32)), .val (.ref b98), .val (.int (0 : Int32))] [(.int (0 : Int32))]))
  refine Run.pre (fun _ k => XS.iloadN X98.here hx rfl (hb hby d16_10) rfl  k) ?_
  show Run p e below s _ _ _ (T98.setTop (mkF m 11 #[.val (.ref ar), .val (.int (0 : Int32)), .val (.int (4 : Int32)), .val (.ref b98), .val (.int (0 : Int32))] [(.int (4 : Int32)), (.int (0 : Int32))]))
  refine Run.pre (fun _ k => XS.icmpNo X98.here hx rfl (hb hby d16_11) rfl (tlt ((by decide) : (0 : Int32) < (4 : Int32))).2.1 k) ?_
  show Run p e below s _ _ _ (T98.setTop (mkF m 14 #[.val (.ref ar), .val (.int (0 : Int32)), .val (.int (4 : Int32)), .val (.ref b98), .val (.int (0 : Int32))] []))
  refine Run.pre (fun _ k => XS.aloadN X98.here hx rfl (hb hby d16_14) rfl rfl k) ?_
  show Run p e below s _ _ _ (T98.setTop (mkF m 15 #[.val (.ref ar), .val (.int (0 : Int32)), .val (.int (4 : Int32)), .val (.ref b98), .val (.int (0 : Int32))] [(.ref b98)]))
  refine Run.pre (fun _ k => XS.iload X98.here hx rfl (hb hby d16_15) rfl  k) ?_
  show Run p e below s _ _ _ (T98.setTop (mkF m 17 #[.val (.ref ar), .val (.int (0 : Int32)), .val (.int (4 : Int32)), .val (.ref b98), .val (.int (0 : Int32))] [(.int (0 : Int32)), (.ref b98)]))
  refine Run.pre (fun _ k => XS.aloadN X98.here hx rfl (hb hby d16_17) rfl rfl k) ?_
  show Run p e below s _ _ _ (T98.setTop (mkF m 18 #[.val (.ref ar), .val (.int (0 : Int32)), .val (.int (4 : Int32)), .val (.ref b98), .val (.int (0 : Int32))] [(.ref ar), (.int (0 : Int32)), (.ref b98)]))
  refine Run.pre (fun _ k => XS.iloadN X98.here hx rfl (hb hby d16_18) rfl  k) ?_
  show Run p e below s _ _ _ (T98.setTop (mkF m 19 #[.val (.ref ar), .val (.int (0 : Int32)), .val (.int (4 : Int32)), .val (.ref b98), .val (.int (0 : Int32))] [(.int (0 : Int32)), (.ref ar), (.int (0 : Int32)), (.ref b98)]))
  have f99 := (AC.keep Kc98 nin0)
  obtain ⟨c100, Ar100, -, S100, N100, H100, -⟩ := id f99
  have hin100 : ¬ ((0 : Int32) < 0 ∨ c100.slots.size ≤ ((0 : Int32)).toNatClampNeg) := inb_of S100 ⟨by decide, by decide⟩
  refine Run.pre (X98.caload hx (j := (0 : Int32)) (v := (.int c0)) Ar100.1 (State.isArrayOf_alike hZ.alike Ar100.2.1) Ar100.2.2 hin100 (H100.at hin100 rfl) (g := (mkF m 19 #[.val (.ref ar), .val (.int (0 : Int32)), .val (.int (4 : Int32)), .val (.ref b98), .val (.int (0 : Int32))] [(.int (0 : Int32)), (.ref ar), (.int (0 : Int32)), (.ref b98)])) rfl rfl (hb hby d16_19)) ?_
  show Run p e below s _ _ _ (T98.setTop (mkF m 20 #[.val (.ref ar), .val (.int (0 : Int32)), .val (.int (4 : Int32)), .val (.ref b98), .val (.int (0 : Int32))] [(.int c0), (.int (0 : Int32)), (.ref b98)]))
  have f101 := (OL.keep Kc98 all0)
  refine Run.callS X98 hx hZ (y := (⟨"java/lang/StringUTF16", "putChar", "([BII)V"⟩ : MethodName)) hown (hw _ (List.mem_of_getElem? (i := 77) rfl)) (hw _ (List.mem_of_getElem? (i := 78) rfl)) (hw _ (List.mem_of_getElem? (i := 22) rfl)) (hw _ (List.mem_of_getElem? (i := 79) rfl)) (by decide) (W := 0) (rmPC_4_0 l Z a0 hw b98 k98 c0 (0 : Int32) (0 : Int32) (0 : Int32) (0 : Int32) (0 : Int32) (0 : Int32) (0 : Int32) (0 : Int32) T98.heap n0 (Nat.le_trans Z0 K98.1) f101 SA SH SL vb98 gn_b98) rfl (by decide) (by decide) (by decide) (by decide) (g := (mkF m 20 #[.val (.ref ar), .val (.int (0 : Int32)), .val (.int (4 : Int32)), .val (.ref b98), .val (.int (0 : Int32))] [(.int c0), (.int (0 : Int32)), (.ref b98)])) rfl (by rw [hml]; rfl) (argsL := [(.ref b98), (.int (0 : Int32)), (.int c0)]) (rest := []) (lenOf pd_2 rfl) rfl (by show 2 * 0 + _ ≤ _; exact Nat.le_of_eq rfl) (hb hby d16_20) ?_
  intro v102 T102 L102 X102 hQ102
  obtain ⟨rfl, Nq102, Kc102, vb102⟩ := hQ102
  have N102 := Fr.app N98 Nq102
  have K102 : Keep h0 T102.heap [] := K98.trans Kc102 (allS (Or.inr sz_b98) all0)
  show Run p e below s _ _ _ (T102.setTop (mkF m 23 #[.val (.ref ar), .val (.int (0 : Int32)), .val (.int (4 : Int32)), .val (.ref b98), .val (.int (0 : Int32))] []))
  refine Run.pre (fun _ k => XS.iinc X102.here hx rfl (hb hby d16_23) rfl (l' := #[.val (.ref ar), .val (.int (1 : Int32)), .val (.int (4 : Int32)), .val (.ref b98), .val (.int (0 : Int32))]) rfl k) ?_
  show Run p e below s _ _ _ (T102.setTop (mkF m 26 #[.val (.ref ar), .val (.int (1 : Int32)), .val (.int (4 : Int32)), .val (.ref b98), .val (.int (0 : Int32))] []))
  refine Run.pre (fun _ k => XS.iinc X102.here hx rfl (hb hby d16_26) rfl (l' := #[.val (.ref ar), .val (.int (1 : Int32)), .val (.int (4 : Int32)), .val (.ref b98), .val (.int (1 : Int32))]) rfl k) ?_
  show Run p e below s _ _ _ (T102.setTop (mkF m 29 #[.val (.ref ar), .val (.int (1 : Int32)), .val (.int (4 : Int32)), .val (.ref b98), .val (.int (1 : Int32))] []))
  refine Run.pre (fun _ k => XS.goto X102.here hx rfl (pc0 := 29) (pc' := 8) rfl (hb hby d16_29) (by decide) (by decide) k) ?_
  show Run p e below s _ _ _ (T102.setTop (mkF m 8 #[.val (.ref ar), .val (.int (1 : Int32)), .val (.int (4 : Int32)), .val (.ref b98), .val (.int (1 : Int32))] []))
  refine Run.pre (fun _ k => XS.iload X102.here hx rfl (hb hby d16_8) rfl  k) ?_
  show Run p e below s _ _ _ (T102.setTop (mkF m 10 #[.val (.ref ar), .val (.int (1 : Int32)), .val (.int (4 : Int32)), .val (.ref b98), .val (.int (1 : Int32))] [(.int (1 : Int32))]))
  refine Run.pre (fun _ k => XS.iloadN X102.here hx rfl (hb hby d16_10) rfl  k) ?_
  show Run p e below s _ _ _ (T102.setTop (mkF m 11 #[.val (.ref ar), .val (.int (1 : Int32)), .val (.int (4 : Int32)), .val (.ref b98), .val (.int (1 : Int32))] [(.int (4 : Int32)), (.int (1 : Int32))]))
  refine Run.pre (fun _ k => XS.icmpNo X102.here hx rfl (hb hby d16_11) rfl (tlt ((by decide) : (1 : Int32) < (4 : Int32))).2.1 k) ?_
  show Run p e below s _ _ _ (T102.setTop (mkF m 14 #[.val (.ref ar), .val (.int (1 : Int32)), .val (.int (4 : Int32)), .val (.ref b98), .val (.int (1 : Int32))] []))
  refine Run.pre (fun _ k => XS.aloadN X102.here hx rfl (hb hby d16_14) rfl rfl k) ?_
  show Run p e below s _ _ _ (T102.setTop (mkF m 15 #[.val (.ref ar), .val (.int (1 : Int32)), .val (.int (4 : Int32)), .val (.ref b98), .val (.int (1 : Int32))] [(.ref b98)]))
  refine Run.pre (fun _ k => XS.iload X102.here hx rfl (hb hby d16_15) rfl  k) ?_
  show Run p e below s _ _ _ (T102.setTop (mkF m 17 #[.val (.ref ar), .val (.int (1 : Int32)), .val (.int (4 : Int32)), .val (.ref b98), .val (.int (1 : Int32))] [(.int (1 : Int32)), (.ref b98)]))
  refine Run.pre (fun _ k => XS.aloadN X102.here hx rfl (hb hby d16_17) rfl rfl k) ?_
  show Run p e below s _ _ _ (T102.setTop (mkF m 18 #[.val (.ref ar), .val (.int (1 : Int32)), .val (.int (4 : Int32)), .val (.ref b98), .val (.int (1 : Int32))] [(.ref ar), (.int (1 : Int32)), (.ref b98)]))
  refine Run.pre (fun _ k => XS.iloadN X102.here hx rfl (hb hby d16_18) rfl  k) ?_
  show Run p e below s _ _ _ (T102.setTop (mkF m 19 #[.val (.ref ar), .val (.int (1 : Int32)), .val (.int (4 : Int32)), .val (.ref b98), .val (.int (1 : Int32))] [(.int (1 : Int32)), (.ref ar), (.int (1 : Int32)), (.ref b98)]))
  have f103 := (f99.keep Kc102 (ninS (Nat.ne_of_lt (Nat.lt_of_lt_of_le AC.lt sz98)) nin0))
  obtain ⟨c104, Ar104, -, S104, N104, H104, -⟩ := id f103
  have hin104 : ¬ ((1 : Int32) < 0 ∨ c104.slots.size ≤ ((1 : Int32)).toNatClampNeg) := inb_of S104 ⟨by decide, by decide⟩
  refine Run.pre (X102.caload hx (j := (1 : Int32)) (v := (.int c1)) Ar104.1 (State.isArrayOf_alike hZ.alike Ar104.2.1) Ar104.2.2 hin104 (H104.at hin104 rfl) (g := (mkF m 19 #[.val (.ref ar), .val (.int (1 : Int32)), .val (.int (4 : Int32)), .val (.ref b98), .val (.int (1 : Int32))] [(.int (1 : Int32)), (.ref ar), (.int (1 : Int32)), (.ref b98)])) rfl rfl (hb hby d16_19)) ?_
  show Run p e below s _ _ _ (T102.setTop (mkF m 20 #[.val (.ref ar), .val (.int (1 : Int32)), .val (.int (4 : Int32)), .val (.ref b98), .val (.int (1 : Int32))] [(.int c1), (.int (1 : Int32)), (.ref b98)]))
  have f105 := (f101.keep Kc102 (allS gn_b98 all0))
  refine Run.callS X102 hx hZ (y := (⟨"java/lang/StringUTF16", "putChar", "([BII)V"⟩ : MethodName)) hown (hw _ (List.mem_of_getElem? (i := 77) rfl)) (hw _ (List.mem_of_getElem? (i := 78) rfl)) (hw _ (List.mem_of_getElem? (i := 22) rfl)) (hw _ (List.mem_of_getElem? (i := 79) rfl)) (by decide) (W := 0) (rmPC_4_1 l Z a0 hw b98 k98 c1 (own_b0 c0) (own_b1 c0) (0 : Int32) (0 : Int32) (0 : Int32) (0 : Int32) (0 : Int32) (0 : Int32) T102.heap n0 (Nat.le_trans Z0 K102.1) f105 SA SH SL vb102 gn_b98) rfl (by decide) (by decide) (by decide) (by decide) (g := (mkF m 20 #[.val (.ref ar), .val (.int (1 : Int32)), .val (.int (4 : Int32)), .val (.ref b98), .val (.int (1 : Int32))] [(.int c1), (.int (1 : Int32)), (.ref b98)])) rfl (by rw [hml]; rfl) (argsL := [(.ref b98), (.int (1 : Int32)), (.int c1)]) (rest := []) (lenOf pd_2 rfl) rfl (by show 2 * 0 + _ ≤ _; exact Nat.le_of_eq rfl) (hb hby d16_20) ?_
  intro v106 T106 L106 X106 hQ106
  obtain ⟨rfl, Nq106, Kc106, vb106⟩ := hQ106
  have N106 := Fr.app N102 Nq106
  have K106 : Keep h0 T106.heap [] := K102.trans Kc106 (allS (Or.inr sz_b98) all0)
  show Run p e below s _ _ _ (T106.setTop (mkF m 23 #[.val (.ref ar), .val (.int (1 : Int32)), .val (.int (4 : Int32)), .val (.ref b98), .val (.int (1 : Int32))] []))
  refine Run.pre (fun _ k => XS.iinc X106.here hx rfl (hb hby d16_23) rfl (l' := #[.val (.ref ar), .val (.int (2 : Int32)), .val (.int (4 : Int32)), .val (.ref b98), .val (.int (1 : Int32))]) rfl k) ?_
  show Run p e below s _ _ _ (T106.setTop (mkF m 26 #[.val (.ref ar), .val (.int (2 : Int32)), .val (.int (4 : Int32)), .val (.ref b98), .val (.int (1 : Int32))] []))
  refine Run.pre (fun _ k => XS.iinc X106.here hx rfl (hb hby d16_26) rfl (l' := #[.val (.ref ar), .val (.int (2 : Int32)), .val (.int (4 : Int32)), .val (.ref b98), .val (.int (2 : Int32))]) rfl k) ?_
  show Run p e below s _ _ _ (T106.setTop (mkF m 29 #[.val (.ref ar), .val (.int (2 : Int32)), .val (.int (4 : Int32)), .val (.ref b98), .val (.int (2 : Int32))] []))
  refine Run.pre (fun _ k => XS.goto X106.here hx rfl (pc0 := 29) (pc' := 8) rfl (hb hby d16_29) (by decide) (by decide) k) ?_
  show Run p e below s _ _ _ (T106.setTop (mkF m 8 #[.val (.ref ar), .val (.int (2 : Int32)), .val (.int (4 : Int32)), .val (.ref b98), .val (.int (2 : Int32))] []))
  refine Run.pre (fun _ k => XS.iload X106.here hx rfl (hb hby d16_8) rfl  k) ?_
  show Run p e below s _ _ _ (T106.setTop (mkF m 10 #[.val (.ref ar), .val (.int (2 : Int32)), .val (.int (4 : Int32)), .val (.ref b98), .val (.int (2 : Int32))] [(.int (2 : Int32))]))
  refine Run.pre (fun _ k => XS.iloadN X106.here hx rfl (hb hby d16_10) rfl  k) ?_
  show Run p e below s _ _ _ (T106.setTop (mkF m 11 #[.val (.ref ar), .val (.int (2 : Int32)), .val (.int (4 : Int32)), .val (.ref b98), .val (.int (2 : Int32))] [(.int (4 : Int32)), (.int (2 : Int32))]))
  refine Run.pre (fun _ k => XS.icmpNo X106.here hx rfl (hb hby d16_11) rfl (tlt ((by decide) : (2 : Int32) < (4 : Int32))).2.1 k) ?_
  show Run p e below s _ _ _ (T106.setTop (mkF m 14 #[.val (.ref ar), .val (.int (2 : Int32)), .val (.int (4 : Int32)), .val (.ref b98), .val (.int (2 : Int32))] []))
  refine Run.pre (fun _ k => XS.aloadN X106.here hx rfl (hb hby d16_14) rfl rfl k) ?_
  show Run p e below s _ _ _ (T106.setTop (mkF m 15 #[.val (.ref ar), .val (.int (2 : Int32)), .val (.int (4 : Int32)), .val (.ref b98), .val (.int (2 : Int32))] [(.ref b98)]))
  refine Run.pre (fun _ k => XS.iload X106.here hx rfl (hb hby d16_15) rfl  k) ?_
  show Run p e below s _ _ _ (T106.setTop (mkF m 17 #[.val (.ref ar), .val (.int (2 : Int32)), .val (.int (4 : Int32)), .val (.ref b98), .val (.int (2 : Int32))] [(.int (2 : Int32)), (.ref b98)]))
  refine Run.pre (fun _ k => XS.aloadN X106.here hx rfl (hb hby d16_17) rfl rfl k) ?_
  show Run p e below s _ _ _ (T106.setTop (mkF m 18 #[.val (.ref ar), .val (.int (2 : Int32)), .val (.int (4 : Int32)), .val (.ref b98), .val (.int (2 : Int32))] [(.ref ar), (.int (2 : Int32)), (.ref b98)]))
  refine Run.pre (fun _ k => XS.iloadN X106.here hx rfl (hb hby d16_18) rfl  k) ?_
  show Run p e below s _ _ _ (T106.setTop (mkF m 19 #[.val (.ref ar), .val (.int (2 : Int32)), .val (.int (4 : Int32)), .val (.ref b98), .val (.int (2 : Int32))] [(.int (2 : Int32)), (.ref ar), (.int (2 : Int32)), (.ref b98)]))
  have f107 := (f103.keep Kc106 (ninS (Nat.ne_of_lt (Nat.lt_of_lt_of_le AC.lt sz98)) nin0))
  obtain ⟨c108, Ar108, -, S108, N108, H108, -⟩ := id f107
  have hin108 : ¬ ((2 : Int32) < 0 ∨ c108.slots.size ≤ ((2 : Int32)).toNatClampNeg) := inb_of S108 ⟨by decide, by decide⟩
  refine Run.pre (X106.caload hx (j := (2 : Int32)) (v := (.int c2)) Ar108.1 (State.isArrayOf_alike hZ.alike Ar108.2.1) Ar108.2.2 hin108 (H108.at hin108 rfl) (g := (mkF m 19 #[.val (.ref ar), .val (.int (2 : Int32)), .val (.int (4 : Int32)), .val (.ref b98), .val (.int (2 : Int32))] [(.int (2 : Int32)), (.ref ar), (.int (2 : Int32)), (.ref b98)])) rfl rfl (hb hby d16_19)) ?_
  show Run p e below s _ _ _ (T106.setTop (mkF m 20 #[.val (.ref ar), .val (.int (2 : Int32)), .val (.int (4 : Int32)), .val (.ref b98), .val (.int (2 : Int32))] [(.int c2), (.int (2 : Int32)), (.ref b98)]))
  have f109 := (f105.keep Kc106 (allS gn_b98 all0))
  refine Run.callS X106 hx hZ (y := (⟨"java/lang/StringUTF16", "putChar", "([BII)V"⟩ : MethodName)) hown (hw _ (List.mem_of_getElem? (i := 77) rfl)) (hw _ (List.mem_of_getElem? (i := 78) rfl)) (hw _ (List.mem_of_getElem? (i := 22) rfl)) (hw _ (List.mem_of_getElem? (i := 79) rfl)) (by decide) (W := 0) (rmPC_4_2 l Z a0 hw b98 k98 c2 (own_b0 c0) (own_b1 c0) (own_b0 c1) (own_b1 c1) (0 : Int32) (0 : Int32) (0 : Int32) (0 : Int32) T106.heap n0 (Nat.le_trans Z0 K106.1) f109 SA SH SL vb106 gn_b98) rfl (by decide) (by decide) (by decide) (by decide) (g := (mkF m 20 #[.val (.ref ar), .val (.int (2 : Int32)), .val (.int (4 : Int32)), .val (.ref b98), .val (.int (2 : Int32))] [(.int c2), (.int (2 : Int32)), (.ref b98)])) rfl (by rw [hml]; rfl) (argsL := [(.ref b98), (.int (2 : Int32)), (.int c2)]) (rest := []) (lenOf pd_2 rfl) rfl (by show 2 * 0 + _ ≤ _; exact Nat.le_of_eq rfl) (hb hby d16_20) ?_
  intro v110 T110 L110 X110 hQ110
  obtain ⟨rfl, Nq110, Kc110, vb110⟩ := hQ110
  have N110 := Fr.app N106 Nq110
  have K110 : Keep h0 T110.heap [] := K106.trans Kc110 (allS (Or.inr sz_b98) all0)
  show Run p e below s _ _ _ (T110.setTop (mkF m 23 #[.val (.ref ar), .val (.int (2 : Int32)), .val (.int (4 : Int32)), .val (.ref b98), .val (.int (2 : Int32))] []))
  refine Run.pre (fun _ k => XS.iinc X110.here hx rfl (hb hby d16_23) rfl (l' := #[.val (.ref ar), .val (.int (3 : Int32)), .val (.int (4 : Int32)), .val (.ref b98), .val (.int (2 : Int32))]) rfl k) ?_
  show Run p e below s _ _ _ (T110.setTop (mkF m 26 #[.val (.ref ar), .val (.int (3 : Int32)), .val (.int (4 : Int32)), .val (.ref b98), .val (.int (2 : Int32))] []))
  refine Run.pre (fun _ k => XS.iinc X110.here hx rfl (hb hby d16_26) rfl (l' := #[.val (.ref ar), .val (.int (3 : Int32)), .val (.int (4 : Int32)), .val (.ref b98), .val (.int (3 : Int32))]) rfl k) ?_
  show Run p e below s _ _ _ (T110.setTop (mkF m 29 #[.val (.ref ar), .val (.int (3 : Int32)), .val (.int (4 : Int32)), .val (.ref b98), .val (.int (3 : Int32))] []))
  refine Run.pre (fun _ k => XS.goto X110.here hx rfl (pc0 := 29) (pc' := 8) rfl (hb hby d16_29) (by decide) (by decide) k) ?_
  show Run p e below s _ _ _ (T110.setTop (mkF m 8 #[.val (.ref ar), .val (.int (3 : Int32)), .val (.int (4 : Int32)), .val (.ref b98), .val (.int (3 : Int32))] []))
  refine Run.pre (fun _ k => XS.iload X110.here hx rfl (hb hby d16_8) rfl  k) ?_
  show Run p e below s _ _ _ (T110.setTop (mkF m 10 #[.val (.ref ar), .val (.int (3 : Int32)), .val (.int (4 : Int32)), .val (.ref b98), .val (.int (3 : Int32))] [(.int (3 : Int32))]))
  refine Run.pre (fun _ k => XS.iloadN X110.here hx rfl (hb hby d16_10) rfl  k) ?_
  show Run p e below s _ _ _ (T110.setTop (mkF m 11 #[.val (.ref ar), .val (.int (3 : Int32)), .val (.int (4 : Int32)), .val (.ref b98), .val (.int (3 : Int32))] [(.int (4 : Int32)), (.int (3 : Int32))]))
  refine Run.pre (fun _ k => XS.icmpNo X110.here hx rfl (hb hby d16_11) rfl (tlt ((by decide) : (3 : Int32) < (4 : Int32))).2.1 k) ?_
  show Run p e below s _ _ _ (T110.setTop (mkF m 14 #[.val (.ref ar), .val (.int (3 : Int32)), .val (.int (4 : Int32)), .val (.ref b98), .val (.int (3 : Int32))] []))
  refine Run.pre (fun _ k => XS.aloadN X110.here hx rfl (hb hby d16_14) rfl rfl k) ?_
  show Run p e below s _ _ _ (T110.setTop (mkF m 15 #[.val (.ref ar), .val (.int (3 : Int32)), .val (.int (4 : Int32)), .val (.ref b98), .val (.int (3 : Int32))] [(.ref b98)]))
  refine Run.pre (fun _ k => XS.iload X110.here hx rfl (hb hby d16_15) rfl  k) ?_
  show Run p e below s _ _ _ (T110.setTop (mkF m 17 #[.val (.ref ar), .val (.int (3 : Int32)), .val (.int (4 : Int32)), .val (.ref b98), .val (.int (3 : Int32))] [(.int (3 : Int32)), (.ref b98)]))
  refine Run.pre (fun _ k => XS.aloadN X110.here hx rfl (hb hby d16_17) rfl rfl k) ?_
  show Run p e below s _ _ _ (T110.setTop (mkF m 18 #[.val (.ref ar), .val (.int (3 : Int32)), .val (.int (4 : Int32)), .val (.ref b98), .val (.int (3 : Int32))] [(.ref ar), (.int (3 : Int32)), (.ref b98)]))
  refine Run.pre (fun _ k => XS.iloadN X110.here hx rfl (hb hby d16_18) rfl  k) ?_
  show Run p e below s _ _ _ (T110.setTop (mkF m 19 #[.val (.ref ar), .val (.int (3 : Int32)), .val (.int (4 : Int32)), .val (.ref b98), .val (.int (3 : Int32))] [(.int (3 : Int32)), (.ref ar), (.int (3 : Int32)), (.ref b98)]))
  have f111 := (f107.keep Kc110 (ninS (Nat.ne_of_lt (Nat.lt_of_lt_of_le AC.lt sz98)) nin0))
  obtain ⟨c112, Ar112, -, S112, N112, H112, -⟩ := id f111
  have hin112 : ¬ ((3 : Int32) < 0 ∨ c112.slots.size ≤ ((3 : Int32)).toNatClampNeg) := inb_of S112 ⟨by decide, by decide⟩
  refine Run.pre (X110.caload hx (j := (3 : Int32)) (v := (.int c3)) Ar112.1 (State.isArrayOf_alike hZ.alike Ar112.2.1) Ar112.2.2 hin112 (H112.at hin112 rfl) (g := (mkF m 19 #[.val (.ref ar), .val (.int (3 : Int32)), .val (.int (4 : Int32)), .val (.ref b98), .val (.int (3 : Int32))] [(.int (3 : Int32)), (.ref ar), (.int (3 : Int32)), (.ref b98)])) rfl rfl (hb hby d16_19)) ?_
  show Run p e below s _ _ _ (T110.setTop (mkF m 20 #[.val (.ref ar), .val (.int (3 : Int32)), .val (.int (4 : Int32)), .val (.ref b98), .val (.int (3 : Int32))] [(.int c3), (.int (3 : Int32)), (.ref b98)]))
  have f113 := (f109.keep Kc110 (allS gn_b98 all0))
  refine Run.callS X110 hx hZ (y := (⟨"java/lang/StringUTF16", "putChar", "([BII)V"⟩ : MethodName)) hown (hw _ (List.mem_of_getElem? (i := 77) rfl)) (hw _ (List.mem_of_getElem? (i := 78) rfl)) (hw _ (List.mem_of_getElem? (i := 22) rfl)) (hw _ (List.mem_of_getElem? (i := 79) rfl)) (by decide) (W := 0) (rmPC_4_3 l Z a0 hw b98 k98 c3 (own_b0 c0) (own_b1 c0) (own_b0 c1) (own_b1 c1) (own_b0 c2) (own_b1 c2) (0 : Int32) (0 : Int32) T110.heap n0 (Nat.le_trans Z0 K110.1) f113 SA SH SL vb110 gn_b98) rfl (by decide) (by decide) (by decide) (by decide) (g := (mkF m 20 #[.val (.ref ar), .val (.int (3 : Int32)), .val (.int (4 : Int32)), .val (.ref b98), .val (.int (3 : Int32))] [(.int c3), (.int (3 : Int32)), (.ref b98)])) rfl (by rw [hml]; rfl) (argsL := [(.ref b98), (.int (3 : Int32)), (.int c3)]) (rest := []) (lenOf pd_2 rfl) rfl (by show 2 * 0 + _ ≤ _; exact Nat.le_of_eq rfl) (hb hby d16_20) ?_
  intro v114 T114 L114 X114 hQ114
  obtain ⟨rfl, Nq114, Kc114, vb114⟩ := hQ114
  have N114 := Fr.app N110 Nq114
  have K114 : Keep h0 T114.heap [] := K110.trans Kc114 (allS (Or.inr sz_b98) all0)
  show Run p e below s _ _ _ (T114.setTop (mkF m 23 #[.val (.ref ar), .val (.int (3 : Int32)), .val (.int (4 : Int32)), .val (.ref b98), .val (.int (3 : Int32))] []))
  refine Run.pre (fun _ k => XS.iinc X114.here hx rfl (hb hby d16_23) rfl (l' := #[.val (.ref ar), .val (.int (4 : Int32)), .val (.int (4 : Int32)), .val (.ref b98), .val (.int (3 : Int32))]) rfl k) ?_
  show Run p e below s _ _ _ (T114.setTop (mkF m 26 #[.val (.ref ar), .val (.int (4 : Int32)), .val (.int (4 : Int32)), .val (.ref b98), .val (.int (3 : Int32))] []))
  refine Run.pre (fun _ k => XS.iinc X114.here hx rfl (hb hby d16_26) rfl (l' := #[.val (.ref ar), .val (.int (4 : Int32)), .val (.int (4 : Int32)), .val (.ref b98), .val (.int (4 : Int32))]) rfl k) ?_
  show Run p e below s _ _ _ (T114.setTop (mkF m 29 #[.val (.ref ar), .val (.int (4 : Int32)), .val (.int (4 : Int32)), .val (.ref b98), .val (.int (4 : Int32))] []))
  refine Run.pre (fun _ k => XS.goto X114.here hx rfl (pc0 := 29) (pc' := 8) rfl (hb hby d16_29) (by decide) (by decide) k) ?_
  show Run p e below s _ _ _ (T114.setTop (mkF m 8 #[.val (.ref ar), .val (.int (4 : Int32)), .val (.int (4 : Int32)), .val (.ref b98), .val (.int (4 : Int32))] []))
  refine Run.pre (fun _ k => XS.iload X114.here hx rfl (hb hby d16_8) rfl  k) ?_
  show Run p e below s _ _ _ (T114.setTop (mkF m 10 #[.val (.ref ar), .val (.int (4 : Int32)), .val (.int (4 : Int32)), .val (.ref b98), .val (.int (4 : Int32))] [(.int (4 : Int32))]))
  refine Run.pre (fun _ k => XS.iloadN X114.here hx rfl (hb hby d16_10) rfl  k) ?_
  show Run p e below s _ _ _ (T114.setTop (mkF m 11 #[.val (.ref ar), .val (.int (4 : Int32)), .val (.int (4 : Int32)), .val (.ref b98), .val (.int (4 : Int32))] [(.int (4 : Int32)), (.int (4 : Int32))]))
  refine Run.pre (fun _ k => XS.icmpYes X114.here hx rfl (pc0 := 11) (pc' := 32) rfl (hb hby d16_11) rfl (flt ((by decide) : ¬ ((4 : Int32) < (4 : Int32)))).2.1 (by decide) (by decide) k) ?_
  show Run p e below s _ _ _ (T114.setTop (mkF m 32 #[.val (.ref ar), .val (.int (4 : Int32)), .val (.int (4 : Int32)), .val (.ref b98), .val (.int (4 : Int32))] []))
  refine Run.pre (fun _ k => XS.aloadN X114.here hx rfl (hb hby d16_32) rfl rfl k) ?_
  show Run p e below s _ _ _ (T114.setTop (mkF m 33 #[.val (.ref ar), .val (.int (4 : Int32)), .val (.int (4 : Int32)), .val (.ref b98), .val (.int (4 : Int32))] [(.ref b98)]))
  exact Run.retA X114 hx hret rfl rfl hlk (hb hby d16_33) ⟨b98, k98, rfl, N114, K114, sz_b98, vb114⟩ (by decide) (by decide)
theorem d5_0 : decode jdk_52_method_16_code 0 = .ok (.iload_n 2, 1) := by decide +kernel
theorem d5_1 : decode jdk_52_method_16_code 1 = .ok (.newarray .byte, 2) := by decide +kernel
theorem d5_3 : decode jdk_52_method_16_code 3 = .ok (.astore_n 3, 1) := by decide +kernel
theorem d5_4 : decode jdk_52_method_16_code 4 = .ok (.aload_n 0, 1) := by decide +kernel
theorem d5_5 : decode jdk_52_method_16_code 5 = .ok (.iload_n 1, 1) := by decide +kernel
theorem d5_6 : decode jdk_52_method_16_code 6 = .ok (.aload_n 3, 1) := by decide +kernel
theorem d5_7 : decode jdk_52_method_16_code 7 = .ok (.iconst 0, 1) := by decide +kernel
theorem d5_8 : decode jdk_52_method_16_code 8 = .ok (.iload_n 2, 1) := by decide +kernel
theorem pd_3 : parseMethodDescriptor "([CI[BII)I" = some ⟨[(.array .char), .int, (.array .byte), .int, .int], some .int⟩ := by decide +kernel
theorem d5_9 : decode jdk_52_method_16_code 9 = .ok (.invokestatic 115, 3) := by decide +kernel
theorem d5_12 : decode jdk_52_method_16_code 12 = .ok (.istore 4, 2) := by decide +kernel
theorem d5_14 : decode jdk_52_method_16_code 14 = .ok (.iload 4, 2) := by decide +kernel
theorem d5_16 : decode jdk_52_method_16_code 16 = .ok (.iload_n 2, 1) := by decide +kernel
theorem d5_17 : decode jdk_52_method_16_code 17 = .ok (.if_icmp .eq 40, 3) := by decide +kernel
theorem d5_20 : decode jdk_52_method_16_code 20 = .ok (.aload_n 0, 1) := by decide +kernel
theorem d5_21 : decode jdk_52_method_16_code 21 = .ok (.iload_n 1, 1) := by decide +kernel
theorem d5_22 : decode jdk_52_method_16_code 22 = .ok (.iload_n 2, 1) := by decide +kernel
theorem pd_4 : parseMethodDescriptor "([CII)[B" = some ⟨[(.array .char), .int, .int], some (.array .byte)⟩ := by decide +kernel
theorem d5_23 : decode jdk_52_method_16_code 23 = .ok (.invokestatic 119, 3) := by decide +kernel
theorem d5_26 : decode jdk_52_method_16_code 26 = .ok (.astore 5, 2) := by decide +kernel
theorem d5_28 : decode jdk_52_method_16_code 28 = .ok (.aload 5, 2) := by decide +kernel
theorem d5_30 : decode jdk_52_method_16_code 30 = .ok (.iload 4, 2) := by decide +kernel
theorem pd_5 : parseMethodDescriptor "([BI)C" = some ⟨[(.array .byte), .int], some .char⟩ := by decide +kernel
theorem d5_32 : decode jdk_52_method_16_code 32 = .ok (.invokestatic 71, 3) := by decide +kernel
theorem d5_35 : decode jdk_52_method_16_code 35 = .ok (.sipush 255, 3) := by decide +kernel
theorem d5_38 : decode jdk_52_method_16_code 38 = .ok (.if_icmp .gt 16, 3) := by decide +kernel
theorem d5_54 : decode jdk_52_method_16_code 54 = .ok (.aload 5, 2) := by decide +kernel
theorem d5_56 : decode jdk_52_method_16_code 56 = .ok (.areturn, 1) := by decide +kernel
theorem d5_57 : decode jdk_52_method_16_code 57 = .ok (.aload_n 3, 1) := by decide +kernel
theorem d5_58 : decode jdk_52_method_16_code 58 = .ok (.areturn, 1) := by decide +kernel
theorem pn_5 : plainName "java/lang/StringUTF16" = true := by first | (simp [plainName, overriddenIn]; done) | decide +kernel
set_option maxRecDepth 65536 in
set_option maxHeartbeats 40000000 in
theorem rmC1_4 (l : Launch) (Z : State) (a0 : Array Value) (hw : ∀ d ∈ tables_1, d.before a0 Z = true) (ar : Addr) (kc : ClassId) (c0 : Int32) (c1 : Int32) (c2 : Int32) (c3 : Int32) (h0 : Heap) (n0 : Nat) (Z0 : n0 ≤ h0.size) (OL : Old Z n0 h0) (SA : Sta Z Z.heap "java/lang/StringUTF16" "$assertionsDisabled" "Z" (.int 1)) (SH : Sta Z Z.heap "java/lang/StringUTF16" "HI_BYTE_SHIFT" "I" (.int 0)) (SL : Sta Z Z.heap "java/lang/StringUTF16" "LO_BYTE_SHIFT" "I" (.int 8)) (AC : Arv Z h0 ar kc .char 4 [(.int c0), (.int c1), (.int c2), (.int c3)] (.int 0)) (w0 : nar .char c0 = c0) (w1 : nar .char c1 = c1) (w2 : nar .char c2 = c2) (w3 : nar .char c3 = c3) :
    Con l (⟨"java/lang/StringUTF16", "compress", "([CII)[B"⟩ : MethodName) jdk_52_method_16_code 6 (some (.array .byte)) ({ frames := 3, cells := 2, slots := 12, locals := 40 } : Room) Z #[(.ref ar), (.int (0 : Int32)), (.int (4 : Int32))] h0 (fun v h L => ∃ b : Addr, ∃ k : ClassId, v = some (.ref b) ∧ Fr n0 L ∧ Keep h0 h [] ∧ h0.size ≤ b ∧ ((¬ (255 : Int32) < c0 ∧ ¬ (255 : Int32) < c1 ∧ ¬ (255 : Int32) < c2 ∧ ¬ (255 : Int32) < c3) ∧ Arv Z h b k .byte 4 [(.int (nar .byte (c0.toInt8.toInt32))), (.int (nar .byte (c1.toInt8.toInt32))), (.int (nar .byte (c2.toInt8.toInt32))), (.int (nar .byte (c3.toInt8.toInt32)))] (.int 0) ∨ (¬ (¬ (255 : Int32) < c0 ∧ ¬ (255 : Int32) < c1 ∧ ¬ (255 : Int32) < c2 ∧ ¬ (255 : Int32) < c3)) ∧ Arv Z h b k .byte 8 [(.int (own_b0 c0)), (.int (own_b1 c0)), (.int (own_b0 c1)), (.int (own_b1 c1)), (.int (own_b0 c2)), (.int (own_b1 c2)), (.int (own_b0 c3)), (.int (own_b1 c3))] (.int 0))) := by
  refine Con.mk (plainFor_of_name pn_5) (fun m => show entryFrame m #[(.ref ar), (.int (0 : Int32)), (.int (4 : Int32))] 6 = mkF m 0 #[.val (.ref ar), .val (.int (0 : Int32)), .val (.int (4 : Int32)), .unset, .unset, .unset] [] by first | (simp [entryFrame, mkF, argsToLocals, Value.category]; done) | rfl) ?_
  intro p e s m below meth c s₁ hx hby hml hown hnm hret hlk hZ X0 e0
  have N0 := Fr.nil n0
  show Run p e below s _ _ _ (s₁.setTop (mkF m 0 #[.val (.ref ar), .val (.int (0 : Int32)), .val (.int (4 : Int32)), .unset, .unset, .unset] []))
  refine Run.pre (fun _ k => XS.iloadN X0.here hx rfl (hb hby d5_0) rfl  k) ?_
  show Run p e below s _ _ _ (s₁.setTop (mkF m 1 #[.val (.ref ar), .val (.int (0 : Int32)), .val (.int (4 : Int32)), .unset, .unset, .unset] [(.int (4 : Int32))]))
  obtain ⟨T115, h115, k115, X115, e115, E115, A115, st115⟩ := newP X0 hx hZ (hw _ (List.mem_of_getElem? (i := 24) rfl)) e0 (g := (mkF m 1 #[.val (.ref ar), .val (.int (0 : Int32)), .val (.int (4 : Int32)), .unset, .unset, .unset] [(.int (4 : Int32))])) rfl (hb hby d5_1) rfl (by decide) (cap := 4) (by decide) (by decide) (by decide) (by decide)
  obtain ⟨b115, g115⟩ : ∃ z, z = h0.size := ⟨_, rfl⟩
  rw [← g115] at A115 st115
  refine Run.pre st115 ?_
  have V_b115 : Arv Z h115 b115 k115 .byte (4 : Int32) [(.int (0 : Int32)), (.int (0 : Int32)), (.int (0 : Int32)), (.int (0 : Int32))] (.int (0 : Int32)) := (Arv.new A115 (by decide)).pad (pad_rep [] (.int (0 : Int32)) 4)
  have gn_b115 : n0 ≤ b115 := Nat.le_trans (Nat.le_trans Z0 (Keep.refl h0 []).1) (Nat.le_of_eq g115.symm)
  have sz_b115 : h0.size ≤ b115 := Nat.le_trans (Keep.refl h0 []).1 (Nat.le_of_eq g115.symm)
  have K115 : Keep h0 h115 [] := (Keep.refl h0 []).ext E115
  show Run p e below s _ _ _ (T115.setTop (mkF m 3 #[.val (.ref ar), .val (.int (0 : Int32)), .val (.int (4 : Int32)), .unset, .unset, .unset] [(.ref b115)]))
  refine Run.pre (fun _ k => XS.astoreN X115.here hx rfl (hb hby d5_3) rfl rfl (l' := #[.val (.ref ar), .val (.int (0 : Int32)), .val (.int (4 : Int32)), .val (.ref b115), .unset, .unset]) rfl k) ?_
  show Run p e below s _ _ _ (T115.setTop (mkF m 4 #[.val (.ref ar), .val (.int (0 : Int32)), .val (.int (4 : Int32)), .val (.ref b115), .unset, .unset] []))
  refine Run.pre (fun _ k => XS.aloadN X115.here hx rfl (hb hby d5_4) rfl rfl k) ?_
  show Run p e below s _ _ _ (T115.setTop (mkF m 5 #[.val (.ref ar), .val (.int (0 : Int32)), .val (.int (4 : Int32)), .val (.ref b115), .unset, .unset] [(.ref ar)]))
  refine Run.pre (fun _ k => XS.iloadN X115.here hx rfl (hb hby d5_5) rfl  k) ?_
  show Run p e below s _ _ _ (T115.setTop (mkF m 6 #[.val (.ref ar), .val (.int (0 : Int32)), .val (.int (4 : Int32)), .val (.ref b115), .unset, .unset] [(.int (0 : Int32)), (.ref ar)]))
  refine Run.pre (fun _ k => XS.aloadN X115.here hx rfl (hb hby d5_6) rfl rfl k) ?_
  show Run p e below s _ _ _ (T115.setTop (mkF m 7 #[.val (.ref ar), .val (.int (0 : Int32)), .val (.int (4 : Int32)), .val (.ref b115), .unset, .unset] [(.ref b115), (.int (0 : Int32)), (.ref ar)]))
  refine Run.pre (fun _ k => XS.iconst X115.here hx rfl (hb hby d5_7) k) ?_
  show Run p e below s _ _ _ (T115.setTop (mkF m 8 #[.val (.ref ar), .val (.int (0 : Int32)), .val (.int (4 : Int32)), .val (.ref b115), .unset, .unset] [(.int (0 : Int32)), (.ref b115), (.int (0 : Int32)), (.ref ar)]))
  refine Run.pre (fun _ k => XS.iloadN X115.here hx rfl (hb hby d5_8) rfl  k) ?_
  show Run p e below s _ _ _ (T115.setTop (mkF m 9 #[.val (.ref ar), .val (.int (0 : Int32)), .val (.int (4 : Int32)), .val (.ref b115), .unset, .unset] [(.int (4 : Int32)), (.int (0 : Int32)), (.ref b115), (.int (0 : Int32)), (.ref ar)]))
  by_cases q0 : (255 : Int32) < c0
  · skip
    show Run p e below s _ _ _ (T115.setTop (mkF m 9 #[.val (.ref ar), .val (.int (0 : Int32)), .val (.int (4 : Int32)), .val (.ref b115), .unset, .unset] [(.int (4 : Int32)), (.int (0 : Int32)), (.ref b115), (.int (0 : Int32)), (.ref ar)]))
    have f116 := (AC.ext E115)
    refine Run.callS X115 hx hZ (y := (⟨"java/lang/StringUTF16", "compress", "([CI[BII)I"⟩ : MethodName)) hown (hw _ (List.mem_of_getElem? (i := 25) rfl)) (hw _ (List.mem_of_getElem? (i := 26) rfl)) (hw _ (List.mem_of_getElem? (i := 22) rfl)) (hw _ (List.mem_of_getElem? (i := 27) rfl)) (by decide) (W := 0) (rmC2_4_0 l Z a0 hw ar b115 kc k115 c0 c1 c2 c3 h115 n0 (Nat.le_trans Z0 K115.1) f116 V_b115 (Nat.ne_of_lt (Nat.lt_of_lt_of_le AC.lt (Nat.le_of_eq g115.symm))) gn_b115 q0) e115 (by decide) (by decide) (by decide) (by decide) (g := (mkF m 9 #[.val (.ref ar), .val (.int (0 : Int32)), .val (.int (4 : Int32)), .val (.ref b115), .unset, .unset] [(.int (4 : Int32)), (.int (0 : Int32)), (.ref b115), (.int (0 : Int32)), (.ref ar)])) rfl (by rw [hml]; rfl) (argsL := [(.ref ar), (.int (0 : Int32)), (.ref b115), (.int (0 : Int32)), (.int (4 : Int32))]) (rest := []) (lenOf pd_3 rfl) rfl (by show 2 * 0 + _ ≤ _; exact Nat.le_of_eq rfl) (hb hby d5_9) ?_
    intro v117 T117 L117 X117 hQ117
    obtain ⟨rfl, Nq117, Kc117⟩ := hQ117
    have N117 := Fr.app N0 Nq117
    have K117 : Keep h0 T117.heap [] := K115.trans Kc117 (allS (Or.inr sz_b115) all0)
    show Run p e below s _ _ _ (T117.setTop (mkF m 12 #[.val (.ref ar), .val (.int (0 : Int32)), .val (.int (4 : Int32)), .val (.ref b115), .unset, .unset] [(.int (0 : Int32))]))
    refine Run.pre (fun _ k => XS.istore X117.here hx rfl (hb hby d5_12) rfl (l' := #[.val (.ref ar), .val (.int (0 : Int32)), .val (.int (4 : Int32)), .val (.ref b115), .val (.int (0 : Int32)), .unset]) rfl k) ?_
    show Run p e below s _ _ _ (T117.setTop (mkF m 14 #[.val (.ref ar), .val (.int (0 : Int32)), .val (.int (4 : Int32)), .val (.ref b115), .val (.int (0 : Int32)), .unset] []))
    refine Run.pre (fun _ k => XS.iload X117.here hx rfl (hb hby d5_14) rfl  k) ?_
    show Run p e below s _ _ _ (T117.setTop (mkF m 16 #[.val (.ref ar), .val (.int (0 : Int32)), .val (.int (4 : Int32)), .val (.ref b115), .val (.int (0 : Int32)), .unset] [(.int (0 : Int32))]))
    refine Run.pre (fun _ k => XS.iloadN X117.here hx rfl (hb hby d5_16) rfl  k) ?_
    show Run p e below s _ _ _ (T117.setTop (mkF m 17 #[.val (.ref ar), .val (.int (0 : Int32)), .val (.int (4 : Int32)), .val (.ref b115), .val (.int (0 : Int32)), .unset] [(.int (4 : Int32)), (.int (0 : Int32))]))
    refine Run.pre (fun _ k => XS.icmpNo X117.here hx rfl (hb hby d5_17) rfl (feq ((by decide) : ¬ ((0 : Int32) = (4 : Int32)))).1 k) ?_
    show Run p e below s _ _ _ (T117.setTop (mkF m 20 #[.val (.ref ar), .val (.int (0 : Int32)), .val (.int (4 : Int32)), .val (.ref b115), .val (.int (0 : Int32)), .unset] []))
    refine Run.pre (fun _ k => XS.aloadN X117.here hx rfl (hb hby d5_20) rfl rfl k) ?_
    show Run p e below s _ _ _ (T117.setTop (mkF m 21 #[.val (.ref ar), .val (.int (0 : Int32)), .val (.int (4 : Int32)), .val (.ref b115), .val (.int (0 : Int32)), .unset] [(.ref ar)]))
    refine Run.pre (fun _ k => XS.iloadN X117.here hx rfl (hb hby d5_21) rfl  k) ?_
    show Run p e below s _ _ _ (T117.setTop (mkF m 22 #[.val (.ref ar), .val (.int (0 : Int32)), .val (.int (4 : Int32)), .val (.ref b115), .val (.int (0 : Int32)), .unset] [(.int (0 : Int32)), (.ref ar)]))
    refine Run.pre (fun _ k => XS.iloadN X117.here hx rfl (hb hby d5_22) rfl  k) ?_
    show Run p e below s _ _ _ (T117.setTop (mkF m 23 #[.val (.ref ar), .val (.int (0 : Int32)), .val (.int (4 : Int32)), .val (.ref b115), .val (.int (0 : Int32)), .unset] [(.int (4 : Int32)), (.int (0 : Int32)), (.ref ar)]))
    have f118 := ((OL.ext E115).keep Kc117 (allS gn_b115 all0))
    have f119 := (f116.keep Kc117 (ninS (Nat.ne_of_lt (Nat.lt_of_lt_of_le AC.lt (Nat.le_of_eq g115.symm))) nin0))
    refine Run.callS X117 hx hZ (y := (⟨"java/lang/StringUTF16", "toBytes", "([CII)[B"⟩ : MethodName)) hown (hw _ (List.mem_of_getElem? (i := 67) rfl)) (hw _ (List.mem_of_getElem? (i := 68) rfl)) (hw _ (List.mem_of_getElem? (i := 22) rfl)) (hw _ (List.mem_of_getElem? (i := 69) rfl)) (by decide) (W := 0) (rmTB_4 l Z a0 hw ar kc c0 c1 c2 c3 T117.heap n0 (Nat.le_trans Z0 K117.1) f118 SA SH SL f119) rfl (by decide) (by decide) (by decide) (by decide) (g := (mkF m 23 #[.val (.ref ar), .val (.int (0 : Int32)), .val (.int (4 : Int32)), .val (.ref b115), .val (.int (0 : Int32)), .unset] [(.int (4 : Int32)), (.int (0 : Int32)), (.ref ar)])) rfl (by rw [hml]; rfl) (argsL := [(.ref ar), (.int (0 : Int32)), (.int (4 : Int32))]) (rest := []) (lenOf pd_4 rfl) rfl (by show 2 * 0 + _ ≤ _; exact Nat.le_of_eq rfl) (hb hby d5_23) ?_
    intro v120 T120 L120 X120 hQ120
    obtain ⟨b120, k120, rfl, Nq120, Kc120, sz120, vb120⟩ := hQ120
    have N120 := Fr.app N117 Nq120
    have K120 : Keep h0 T120.heap [] := K117.trans Kc120 all0
    have sz_b120 : h0.size ≤ b120 := Nat.le_trans K117.1 sz120
    have gn_b120 : n0 ≤ b120 := Nat.le_trans Z0 sz_b120
    show Run p e below s _ _ _ (T120.setTop (mkF m 26 #[.val (.ref ar), .val (.int (0 : Int32)), .val (.int (4 : Int32)), .val (.ref b115), .val (.int (0 : Int32)), .unset] [(.ref b120)]))
    refine Run.pre (fun _ k => XS.astore X120.here hx rfl (hb hby d5_26) rfl rfl (l' := #[.val (.ref ar), .val (.int (0 : Int32)), .val (.int (4 : Int32)), .val (.ref b115), .val (.int (0 : Int32)), .val (.ref b120)]) rfl k) ?_
    show Run p e below s _ _ _ (T120.setTop (mkF m 28 #[.val (.ref ar), .val (.int (0 : Int32)), .val (.int (4 : Int32)), .val (.ref b115), .val (.int (0 : Int32)), .val (.ref b120)] []))
    refine Run.pre (fun _ k => XS.aload X120.here hx rfl (hb hby d5_28) rfl rfl k) ?_
    show Run p e below s _ _ _ (T120.setTop (mkF m 30 #[.val (.ref ar), .val (.int (0 : Int32)), .val (.int (4 : Int32)), .val (.ref b115), .val (.int (0 : Int32)), .val (.ref b120)] [(.ref b120)]))
    refine Run.pre (fun _ k => XS.iload X120.here hx rfl (hb hby d5_30) rfl  k) ?_
    show Run p e below s _ _ _ (T120.setTop (mkF m 32 #[.val (.ref ar), .val (.int (0 : Int32)), .val (.int (4 : Int32)), .val (.ref b115), .val (.int (0 : Int32)), .val (.ref b120)] [(.int (0 : Int32)), (.ref b120)]))
    have f121 := (f118.keep Kc120 all0)
    refine Run.callS X120 hx hZ (y := (⟨"java/lang/StringUTF16", "getChar", "([BI)C"⟩ : MethodName)) hown (hw _ (List.mem_of_getElem? (i := 83) rfl)) (hw _ (List.mem_of_getElem? (i := 84) rfl)) (hw _ (List.mem_of_getElem? (i := 22) rfl)) (hw _ (List.mem_of_getElem? (i := 85) rfl)) (by decide) (W := 0) (rmGC_4_0 l Z a0 hw b120 k120 (own_b0 c0) (own_b1 c0) (own_b0 c1) (own_b1 c1) (own_b0 c2) (own_b1 c2) (own_b0 c3) (own_b1 c3) T120.heap n0 (Nat.le_trans Z0 K120.1) f121 SA SH SL vb120) rfl (by decide) (by decide) (by decide) (by decide) (g := (mkF m 32 #[.val (.ref ar), .val (.int (0 : Int32)), .val (.int (4 : Int32)), .val (.ref b115), .val (.int (0 : Int32)), .val (.ref b120)] [(.int (0 : Int32)), (.ref b120)])) rfl (by rw [hml]; rfl) (argsL := [(.ref b120), (.int (0 : Int32))]) (rest := []) (lenOf pd_5 rfl) rfl (by show 2 * 0 + _ ≤ _; exact Nat.le_of_eq rfl) (hb hby d5_32) ?_
    intro v122 T122 L122 X122 hQ122
    obtain ⟨rfl, Nq122, he122⟩ := hQ122
    have N122 := Fr.app N120 Nq122
    have e122 : T122.heap = T120.heap := he122
    show Run p e below s _ _ _ (T122.setTop (mkF m 35 #[.val (.ref ar), .val (.int (0 : Int32)), .val (.int (4 : Int32)), .val (.ref b115), .val (.int (0 : Int32)), .val (.ref b120)] [(.int (own_gcv (own_b0 c0) (own_b1 c0)))]))
    refine Run.pre (fun _ k => XS.sipush X122.here hx rfl (hb hby d5_35) k) ?_
    show Run p e below s _ _ _ (T122.setTop (mkF m 38 #[.val (.ref ar), .val (.int (0 : Int32)), .val (.int (4 : Int32)), .val (.ref b115), .val (.int (0 : Int32)), .val (.ref b120)] [(.int (255 : Int32)), (.int (own_gcv (own_b0 c0) (own_b1 c0)))]))
    refine Run.pre (fun _ k => XS.icmpYes X122.here hx rfl (pc0 := 38) (pc' := 54) rfl (hb hby d5_38) rfl (tlt ((by rw [own_gc c0 w0]; exact q0) : (255 : Int32) < (own_gcv (own_b0 c0) (own_b1 c0)))).2.2.1 (by decide) (by decide) k) ?_
    show Run p e below s _ _ _ (T122.setTop (mkF m 54 #[.val (.ref ar), .val (.int (0 : Int32)), .val (.int (4 : Int32)), .val (.ref b115), .val (.int (0 : Int32)), .val (.ref b120)] []))
    refine Run.pre (fun _ k => XS.aload X122.here hx rfl (hb hby d5_54) rfl rfl k) ?_
    show Run p e below s _ _ _ (T122.setTop (mkF m 56 #[.val (.ref ar), .val (.int (0 : Int32)), .val (.int (4 : Int32)), .val (.ref b115), .val (.int (0 : Int32)), .val (.ref b120)] [(.ref b120)]))
    exact Run.retA X122 hx hret rfl rfl hlk (hb hby d5_56) (by first | (rw [e122]; exact ⟨b120, k120, rfl, N122, K120, sz_b120, Or.inr ⟨fun q => q.1 q0, vb120⟩⟩) | exact ⟨b120, k120, rfl, N122, K120, sz_b120, Or.inr ⟨fun q => q.1 q0, vb120⟩⟩) (by decide) (by decide)
  · skip
    by_cases q1 : (255 : Int32) < c1
    · skip
      show Run p e below s _ _ _ (T115.setTop (mkF m 9 #[.val (.ref ar), .val (.int (0 : Int32)), .val (.int (4 : Int32)), .val (.ref b115), .unset, .unset] [(.int (4 : Int32)), (.int (0 : Int32)), (.ref b115), (.int (0 : Int32)), (.ref ar)]))
      have f123 := (AC.ext E115)
      refine Run.callS X115 hx hZ (y := (⟨"java/lang/StringUTF16", "compress", "([CI[BII)I"⟩ : MethodName)) hown (hw _ (List.mem_of_getElem? (i := 25) rfl)) (hw _ (List.mem_of_getElem? (i := 26) rfl)) (hw _ (List.mem_of_getElem? (i := 22) rfl)) (hw _ (List.mem_of_getElem? (i := 27) rfl)) (by decide) (W := 0) (rmC2_4_1 l Z a0 hw ar b115 kc k115 c0 c1 c2 c3 h115 n0 (Nat.le_trans Z0 K115.1) f123 V_b115 (Nat.ne_of_lt (Nat.lt_of_lt_of_le AC.lt (Nat.le_of_eq g115.symm))) gn_b115 q0 q1) e115 (by decide) (by decide) (by decide) (by decide) (g := (mkF m 9 #[.val (.ref ar), .val (.int (0 : Int32)), .val (.int (4 : Int32)), .val (.ref b115), .unset, .unset] [(.int (4 : Int32)), (.int (0 : Int32)), (.ref b115), (.int (0 : Int32)), (.ref ar)])) rfl (by rw [hml]; rfl) (argsL := [(.ref ar), (.int (0 : Int32)), (.ref b115), (.int (0 : Int32)), (.int (4 : Int32))]) (rest := []) (lenOf pd_3 rfl) rfl (by show 2 * 0 + _ ≤ _; exact Nat.le_of_eq rfl) (hb hby d5_9) ?_
      intro v124 T124 L124 X124 hQ124
      obtain ⟨rfl, Nq124, Kc124⟩ := hQ124
      have N124 := Fr.app N0 Nq124
      have K124 : Keep h0 T124.heap [] := K115.trans Kc124 (allS (Or.inr sz_b115) all0)
      show Run p e below s _ _ _ (T124.setTop (mkF m 12 #[.val (.ref ar), .val (.int (0 : Int32)), .val (.int (4 : Int32)), .val (.ref b115), .unset, .unset] [(.int (1 : Int32))]))
      refine Run.pre (fun _ k => XS.istore X124.here hx rfl (hb hby d5_12) rfl (l' := #[.val (.ref ar), .val (.int (0 : Int32)), .val (.int (4 : Int32)), .val (.ref b115), .val (.int (1 : Int32)), .unset]) rfl k) ?_
      show Run p e below s _ _ _ (T124.setTop (mkF m 14 #[.val (.ref ar), .val (.int (0 : Int32)), .val (.int (4 : Int32)), .val (.ref b115), .val (.int (1 : Int32)), .unset] []))
      refine Run.pre (fun _ k => XS.iload X124.here hx rfl (hb hby d5_14) rfl  k) ?_
      show Run p e below s _ _ _ (T124.setTop (mkF m 16 #[.val (.ref ar), .val (.int (0 : Int32)), .val (.int (4 : Int32)), .val (.ref b115), .val (.int (1 : Int32)), .unset] [(.int (1 : Int32))]))
      refine Run.pre (fun _ k => XS.iloadN X124.here hx rfl (hb hby d5_16) rfl  k) ?_
      show Run p e below s _ _ _ (T124.setTop (mkF m 17 #[.val (.ref ar), .val (.int (0 : Int32)), .val (.int (4 : Int32)), .val (.ref b115), .val (.int (1 : Int32)), .unset] [(.int (4 : Int32)), (.int (1 : Int32))]))
      refine Run.pre (fun _ k => XS.icmpNo X124.here hx rfl (hb hby d5_17) rfl (feq ((by decide) : ¬ ((1 : Int32) = (4 : Int32)))).1 k) ?_
      show Run p e below s _ _ _ (T124.setTop (mkF m 20 #[.val (.ref ar), .val (.int (0 : Int32)), .val (.int (4 : Int32)), .val (.ref b115), .val (.int (1 : Int32)), .unset] []))
      refine Run.pre (fun _ k => XS.aloadN X124.here hx rfl (hb hby d5_20) rfl rfl k) ?_
      show Run p e below s _ _ _ (T124.setTop (mkF m 21 #[.val (.ref ar), .val (.int (0 : Int32)), .val (.int (4 : Int32)), .val (.ref b115), .val (.int (1 : Int32)), .unset] [(.ref ar)]))
      refine Run.pre (fun _ k => XS.iloadN X124.here hx rfl (hb hby d5_21) rfl  k) ?_
      show Run p e below s _ _ _ (T124.setTop (mkF m 22 #[.val (.ref ar), .val (.int (0 : Int32)), .val (.int (4 : Int32)), .val (.ref b115), .val (.int (1 : Int32)), .unset] [(.int (0 : Int32)), (.ref ar)]))
      refine Run.pre (fun _ k => XS.iloadN X124.here hx rfl (hb hby d5_22) rfl  k) ?_
      show Run p e below s _ _ _ (T124.setTop (mkF m 23 #[.val (.ref ar), .val (.int (0 : Int32)), .val (.int (4 : Int32)), .val (.ref b115), .val (.int (1 : Int32)), .unset] [(.int (4 : Int32)), (.int (0 : Int32)), (.ref ar)]))
      have f125 := ((OL.ext E115).keep Kc124 (allS gn_b115 all0))
      have f126 := (f123.keep Kc124 (ninS (Nat.ne_of_lt (Nat.lt_of_lt_of_le AC.lt (Nat.le_of_eq g115.symm))) nin0))
      refine Run.callS X124 hx hZ (y := (⟨"java/lang/StringUTF16", "toBytes", "([CII)[B"⟩ : MethodName)) hown (hw _ (List.mem_of_getElem? (i := 67) rfl)) (hw _ (List.mem_of_getElem? (i := 68) rfl)) (hw _ (List.mem_of_getElem? (i := 22) rfl)) (hw _ (List.mem_of_getElem? (i := 69) rfl)) (by decide) (W := 0) (rmTB_4 l Z a0 hw ar kc c0 c1 c2 c3 T124.heap n0 (Nat.le_trans Z0 K124.1) f125 SA SH SL f126) rfl (by decide) (by decide) (by decide) (by decide) (g := (mkF m 23 #[.val (.ref ar), .val (.int (0 : Int32)), .val (.int (4 : Int32)), .val (.ref b115), .val (.int (1 : Int32)), .unset] [(.int (4 : Int32)), (.int (0 : Int32)), (.ref ar)])) rfl (by rw [hml]; rfl) (argsL := [(.ref ar), (.int (0 : Int32)), (.int (4 : Int32))]) (rest := []) (lenOf pd_4 rfl) rfl (by show 2 * 0 + _ ≤ _; exact Nat.le_of_eq rfl) (hb hby d5_23) ?_
      intro v127 T127 L127 X127 hQ127
      obtain ⟨b127, k127, rfl, Nq127, Kc127, sz127, vb127⟩ := hQ127
      have N127 := Fr.app N124 Nq127
      have K127 : Keep h0 T127.heap [] := K124.trans Kc127 all0
      have sz_b127 : h0.size ≤ b127 := Nat.le_trans K124.1 sz127
      have gn_b127 : n0 ≤ b127 := Nat.le_trans Z0 sz_b127
      show Run p e below s _ _ _ (T127.setTop (mkF m 26 #[.val (.ref ar), .val (.int (0 : Int32)), .val (.int (4 : Int32)), .val (.ref b115), .val (.int (1 : Int32)), .unset] [(.ref b127)]))
      refine Run.pre (fun _ k => XS.astore X127.here hx rfl (hb hby d5_26) rfl rfl (l' := #[.val (.ref ar), .val (.int (0 : Int32)), .val (.int (4 : Int32)), .val (.ref b115), .val (.int (1 : Int32)), .val (.ref b127)]) rfl k) ?_
      show Run p e below s _ _ _ (T127.setTop (mkF m 28 #[.val (.ref ar), .val (.int (0 : Int32)), .val (.int (4 : Int32)), .val (.ref b115), .val (.int (1 : Int32)), .val (.ref b127)] []))
      refine Run.pre (fun _ k => XS.aload X127.here hx rfl (hb hby d5_28) rfl rfl k) ?_
      show Run p e below s _ _ _ (T127.setTop (mkF m 30 #[.val (.ref ar), .val (.int (0 : Int32)), .val (.int (4 : Int32)), .val (.ref b115), .val (.int (1 : Int32)), .val (.ref b127)] [(.ref b127)]))
      refine Run.pre (fun _ k => XS.iload X127.here hx rfl (hb hby d5_30) rfl  k) ?_
      show Run p e below s _ _ _ (T127.setTop (mkF m 32 #[.val (.ref ar), .val (.int (0 : Int32)), .val (.int (4 : Int32)), .val (.ref b115), .val (.int (1 : Int32)), .val (.ref b127)] [(.int (1 : Int32)), (.ref b127)]))
      have f128 := (f125.keep Kc127 all0)
      refine Run.callS X127 hx hZ (y := (⟨"java/lang/StringUTF16", "getChar", "([BI)C"⟩ : MethodName)) hown (hw _ (List.mem_of_getElem? (i := 83) rfl)) (hw _ (List.mem_of_getElem? (i := 84) rfl)) (hw _ (List.mem_of_getElem? (i := 22) rfl)) (hw _ (List.mem_of_getElem? (i := 85) rfl)) (by decide) (W := 0) (rmGC_4_1 l Z a0 hw b127 k127 (own_b0 c0) (own_b1 c0) (own_b0 c1) (own_b1 c1) (own_b0 c2) (own_b1 c2) (own_b0 c3) (own_b1 c3) T127.heap n0 (Nat.le_trans Z0 K127.1) f128 SA SH SL vb127) rfl (by decide) (by decide) (by decide) (by decide) (g := (mkF m 32 #[.val (.ref ar), .val (.int (0 : Int32)), .val (.int (4 : Int32)), .val (.ref b115), .val (.int (1 : Int32)), .val (.ref b127)] [(.int (1 : Int32)), (.ref b127)])) rfl (by rw [hml]; rfl) (argsL := [(.ref b127), (.int (1 : Int32))]) (rest := []) (lenOf pd_5 rfl) rfl (by show 2 * 0 + _ ≤ _; exact Nat.le_of_eq rfl) (hb hby d5_32) ?_
      intro v129 T129 L129 X129 hQ129
      obtain ⟨rfl, Nq129, he129⟩ := hQ129
      have N129 := Fr.app N127 Nq129
      have e129 : T129.heap = T127.heap := he129
      show Run p e below s _ _ _ (T129.setTop (mkF m 35 #[.val (.ref ar), .val (.int (0 : Int32)), .val (.int (4 : Int32)), .val (.ref b115), .val (.int (1 : Int32)), .val (.ref b127)] [(.int (own_gcv (own_b0 c1) (own_b1 c1)))]))
      refine Run.pre (fun _ k => XS.sipush X129.here hx rfl (hb hby d5_35) k) ?_
      show Run p e below s _ _ _ (T129.setTop (mkF m 38 #[.val (.ref ar), .val (.int (0 : Int32)), .val (.int (4 : Int32)), .val (.ref b115), .val (.int (1 : Int32)), .val (.ref b127)] [(.int (255 : Int32)), (.int (own_gcv (own_b0 c1) (own_b1 c1)))]))
      refine Run.pre (fun _ k => XS.icmpYes X129.here hx rfl (pc0 := 38) (pc' := 54) rfl (hb hby d5_38) rfl (tlt ((by rw [own_gc c1 w1]; exact q1) : (255 : Int32) < (own_gcv (own_b0 c1) (own_b1 c1)))).2.2.1 (by decide) (by decide) k) ?_
      show Run p e below s _ _ _ (T129.setTop (mkF m 54 #[.val (.ref ar), .val (.int (0 : Int32)), .val (.int (4 : Int32)), .val (.ref b115), .val (.int (1 : Int32)), .val (.ref b127)] []))
      refine Run.pre (fun _ k => XS.aload X129.here hx rfl (hb hby d5_54) rfl rfl k) ?_
      show Run p e below s _ _ _ (T129.setTop (mkF m 56 #[.val (.ref ar), .val (.int (0 : Int32)), .val (.int (4 : Int32)), .val (.ref b115), .val (.int (1 : Int32)), .val (.ref b127)] [(.ref b127)]))
      exact Run.retA X129 hx hret rfl rfl hlk (hb hby d5_56) (by first | (rw [e129]; exact ⟨b127, k127, rfl, N129, K127, sz_b127, Or.inr ⟨fun q => q.2.1 q1, vb127⟩⟩) | exact ⟨b127, k127, rfl, N129, K127, sz_b127, Or.inr ⟨fun q => q.2.1 q1, vb127⟩⟩) (by decide) (by decide)
    · skip
      by_cases q2 : (255 : Int32) < c2
      · skip
        show Run p e below s _ _ _ (T115.setTop (mkF m 9 #[.val (.ref ar), .val (.int (0 : Int32)), .val (.int (4 : Int32)), .val (.ref b115), .unset, .unset] [(.int (4 : Int32)), (.int (0 : Int32)), (.ref b115), (.int (0 : Int32)), (.ref ar)]))
        have f130 := (AC.ext E115)
        refine Run.callS X115 hx hZ (y := (⟨"java/lang/StringUTF16", "compress", "([CI[BII)I"⟩ : MethodName)) hown (hw _ (List.mem_of_getElem? (i := 25) rfl)) (hw _ (List.mem_of_getElem? (i := 26) rfl)) (hw _ (List.mem_of_getElem? (i := 22) rfl)) (hw _ (List.mem_of_getElem? (i := 27) rfl)) (by decide) (W := 0) (rmC2_4_2 l Z a0 hw ar b115 kc k115 c0 c1 c2 c3 h115 n0 (Nat.le_trans Z0 K115.1) f130 V_b115 (Nat.ne_of_lt (Nat.lt_of_lt_of_le AC.lt (Nat.le_of_eq g115.symm))) gn_b115 q0 q1 q2) e115 (by decide) (by decide) (by decide) (by decide) (g := (mkF m 9 #[.val (.ref ar), .val (.int (0 : Int32)), .val (.int (4 : Int32)), .val (.ref b115), .unset, .unset] [(.int (4 : Int32)), (.int (0 : Int32)), (.ref b115), (.int (0 : Int32)), (.ref ar)])) rfl (by rw [hml]; rfl) (argsL := [(.ref ar), (.int (0 : Int32)), (.ref b115), (.int (0 : Int32)), (.int (4 : Int32))]) (rest := []) (lenOf pd_3 rfl) rfl (by show 2 * 0 + _ ≤ _; exact Nat.le_of_eq rfl) (hb hby d5_9) ?_
        intro v131 T131 L131 X131 hQ131
        obtain ⟨rfl, Nq131, Kc131⟩ := hQ131
        have N131 := Fr.app N0 Nq131
        have K131 : Keep h0 T131.heap [] := K115.trans Kc131 (allS (Or.inr sz_b115) all0)
        show Run p e below s _ _ _ (T131.setTop (mkF m 12 #[.val (.ref ar), .val (.int (0 : Int32)), .val (.int (4 : Int32)), .val (.ref b115), .unset, .unset] [(.int (2 : Int32))]))
        refine Run.pre (fun _ k => XS.istore X131.here hx rfl (hb hby d5_12) rfl (l' := #[.val (.ref ar), .val (.int (0 : Int32)), .val (.int (4 : Int32)), .val (.ref b115), .val (.int (2 : Int32)), .unset]) rfl k) ?_
        show Run p e below s _ _ _ (T131.setTop (mkF m 14 #[.val (.ref ar), .val (.int (0 : Int32)), .val (.int (4 : Int32)), .val (.ref b115), .val (.int (2 : Int32)), .unset] []))
        refine Run.pre (fun _ k => XS.iload X131.here hx rfl (hb hby d5_14) rfl  k) ?_
        show Run p e below s _ _ _ (T131.setTop (mkF m 16 #[.val (.ref ar), .val (.int (0 : Int32)), .val (.int (4 : Int32)), .val (.ref b115), .val (.int (2 : Int32)), .unset] [(.int (2 : Int32))]))
        refine Run.pre (fun _ k => XS.iloadN X131.here hx rfl (hb hby d5_16) rfl  k) ?_
        show Run p e below s _ _ _ (T131.setTop (mkF m 17 #[.val (.ref ar), .val (.int (0 : Int32)), .val (.int (4 : Int32)), .val (.ref b115), .val (.int (2 : Int32)), .unset] [(.int (4 : Int32)), (.int (2 : Int32))]))
        refine Run.pre (fun _ k => XS.icmpNo X131.here hx rfl (hb hby d5_17) rfl (feq ((by decide) : ¬ ((2 : Int32) = (4 : Int32)))).1 k) ?_
        show Run p e below s _ _ _ (T131.setTop (mkF m 20 #[.val (.ref ar), .val (.int (0 : Int32)), .val (.int (4 : Int32)), .val (.ref b115), .val (.int (2 : Int32)), .unset] []))
        refine Run.pre (fun _ k => XS.aloadN X131.here hx rfl (hb hby d5_20) rfl rfl k) ?_
        show Run p e below s _ _ _ (T131.setTop (mkF m 21 #[.val (.ref ar), .val (.int (0 : Int32)), .val (.int (4 : Int32)), .val (.ref b115), .val (.int (2 : Int32)), .unset] [(.ref ar)]))
        refine Run.pre (fun _ k => XS.iloadN X131.here hx rfl (hb hby d5_21) rfl  k) ?_
        show Run p e below s _ _ _ (T131.setTop (mkF m 22 #[.val (.ref ar), .val (.int (0 : Int32)), .val (.int (4 : Int32)), .val (.ref b115), .val (.int (2 : Int32)), .unset] [(.int (0 : Int32)), (.ref ar)]))
        refine Run.pre (fun _ k => XS.iloadN X131.here hx rfl (hb hby d5_22) rfl  k) ?_
        show Run p e below s _ _ _ (T131.setTop (mkF m 23 #[.val (.ref ar), .val (.int (0 : Int32)), .val (.int (4 : Int32)), .val (.ref b115), .val (.int (2 : Int32)), .unset] [(.int (4 : Int32)), (.int (0 : Int32)), (.ref ar)]))
        have f132 := ((OL.ext E115).keep Kc131 (allS gn_b115 all0))
        have f133 := (f130.keep Kc131 (ninS (Nat.ne_of_lt (Nat.lt_of_lt_of_le AC.lt (Nat.le_of_eq g115.symm))) nin0))
        refine Run.callS X131 hx hZ (y := (⟨"java/lang/StringUTF16", "toBytes", "([CII)[B"⟩ : MethodName)) hown (hw _ (List.mem_of_getElem? (i := 67) rfl)) (hw _ (List.mem_of_getElem? (i := 68) rfl)) (hw _ (List.mem_of_getElem? (i := 22) rfl)) (hw _ (List.mem_of_getElem? (i := 69) rfl)) (by decide) (W := 0) (rmTB_4 l Z a0 hw ar kc c0 c1 c2 c3 T131.heap n0 (Nat.le_trans Z0 K131.1) f132 SA SH SL f133) rfl (by decide) (by decide) (by decide) (by decide) (g := (mkF m 23 #[.val (.ref ar), .val (.int (0 : Int32)), .val (.int (4 : Int32)), .val (.ref b115), .val (.int (2 : Int32)), .unset] [(.int (4 : Int32)), (.int (0 : Int32)), (.ref ar)])) rfl (by rw [hml]; rfl) (argsL := [(.ref ar), (.int (0 : Int32)), (.int (4 : Int32))]) (rest := []) (lenOf pd_4 rfl) rfl (by show 2 * 0 + _ ≤ _; exact Nat.le_of_eq rfl) (hb hby d5_23) ?_
        intro v134 T134 L134 X134 hQ134
        obtain ⟨b134, k134, rfl, Nq134, Kc134, sz134, vb134⟩ := hQ134
        have N134 := Fr.app N131 Nq134
        have K134 : Keep h0 T134.heap [] := K131.trans Kc134 all0
        have sz_b134 : h0.size ≤ b134 := Nat.le_trans K131.1 sz134
        have gn_b134 : n0 ≤ b134 := Nat.le_trans Z0 sz_b134
        show Run p e below s _ _ _ (T134.setTop (mkF m 26 #[.val (.ref ar), .val (.int (0 : Int32)), .val (.int (4 : Int32)), .val (.ref b115), .val (.int (2 : Int32)), .unset] [(.ref b134)]))
        refine Run.pre (fun _ k => XS.astore X134.here hx rfl (hb hby d5_26) rfl rfl (l' := #[.val (.ref ar), .val (.int (0 : Int32)), .val (.int (4 : Int32)), .val (.ref b115), .val (.int (2 : Int32)), .val (.ref b134)]) rfl k) ?_
        show Run p e below s _ _ _ (T134.setTop (mkF m 28 #[.val (.ref ar), .val (.int (0 : Int32)), .val (.int (4 : Int32)), .val (.ref b115), .val (.int (2 : Int32)), .val (.ref b134)] []))
        refine Run.pre (fun _ k => XS.aload X134.here hx rfl (hb hby d5_28) rfl rfl k) ?_
        show Run p e below s _ _ _ (T134.setTop (mkF m 30 #[.val (.ref ar), .val (.int (0 : Int32)), .val (.int (4 : Int32)), .val (.ref b115), .val (.int (2 : Int32)), .val (.ref b134)] [(.ref b134)]))
        refine Run.pre (fun _ k => XS.iload X134.here hx rfl (hb hby d5_30) rfl  k) ?_
        show Run p e below s _ _ _ (T134.setTop (mkF m 32 #[.val (.ref ar), .val (.int (0 : Int32)), .val (.int (4 : Int32)), .val (.ref b115), .val (.int (2 : Int32)), .val (.ref b134)] [(.int (2 : Int32)), (.ref b134)]))
        have f135 := (f132.keep Kc134 all0)
        refine Run.callS X134 hx hZ (y := (⟨"java/lang/StringUTF16", "getChar", "([BI)C"⟩ : MethodName)) hown (hw _ (List.mem_of_getElem? (i := 83) rfl)) (hw _ (List.mem_of_getElem? (i := 84) rfl)) (hw _ (List.mem_of_getElem? (i := 22) rfl)) (hw _ (List.mem_of_getElem? (i := 85) rfl)) (by decide) (W := 0) (rmGC_4_2 l Z a0 hw b134 k134 (own_b0 c0) (own_b1 c0) (own_b0 c1) (own_b1 c1) (own_b0 c2) (own_b1 c2) (own_b0 c3) (own_b1 c3) T134.heap n0 (Nat.le_trans Z0 K134.1) f135 SA SH SL vb134) rfl (by decide) (by decide) (by decide) (by decide) (g := (mkF m 32 #[.val (.ref ar), .val (.int (0 : Int32)), .val (.int (4 : Int32)), .val (.ref b115), .val (.int (2 : Int32)), .val (.ref b134)] [(.int (2 : Int32)), (.ref b134)])) rfl (by rw [hml]; rfl) (argsL := [(.ref b134), (.int (2 : Int32))]) (rest := []) (lenOf pd_5 rfl) rfl (by show 2 * 0 + _ ≤ _; exact Nat.le_of_eq rfl) (hb hby d5_32) ?_
        intro v136 T136 L136 X136 hQ136
        obtain ⟨rfl, Nq136, he136⟩ := hQ136
        have N136 := Fr.app N134 Nq136
        have e136 : T136.heap = T134.heap := he136
        show Run p e below s _ _ _ (T136.setTop (mkF m 35 #[.val (.ref ar), .val (.int (0 : Int32)), .val (.int (4 : Int32)), .val (.ref b115), .val (.int (2 : Int32)), .val (.ref b134)] [(.int (own_gcv (own_b0 c2) (own_b1 c2)))]))
        refine Run.pre (fun _ k => XS.sipush X136.here hx rfl (hb hby d5_35) k) ?_
        show Run p e below s _ _ _ (T136.setTop (mkF m 38 #[.val (.ref ar), .val (.int (0 : Int32)), .val (.int (4 : Int32)), .val (.ref b115), .val (.int (2 : Int32)), .val (.ref b134)] [(.int (255 : Int32)), (.int (own_gcv (own_b0 c2) (own_b1 c2)))]))
        refine Run.pre (fun _ k => XS.icmpYes X136.here hx rfl (pc0 := 38) (pc' := 54) rfl (hb hby d5_38) rfl (tlt ((by rw [own_gc c2 w2]; exact q2) : (255 : Int32) < (own_gcv (own_b0 c2) (own_b1 c2)))).2.2.1 (by decide) (by decide) k) ?_
        show Run p e below s _ _ _ (T136.setTop (mkF m 54 #[.val (.ref ar), .val (.int (0 : Int32)), .val (.int (4 : Int32)), .val (.ref b115), .val (.int (2 : Int32)), .val (.ref b134)] []))
        refine Run.pre (fun _ k => XS.aload X136.here hx rfl (hb hby d5_54) rfl rfl k) ?_
        show Run p e below s _ _ _ (T136.setTop (mkF m 56 #[.val (.ref ar), .val (.int (0 : Int32)), .val (.int (4 : Int32)), .val (.ref b115), .val (.int (2 : Int32)), .val (.ref b134)] [(.ref b134)]))
        exact Run.retA X136 hx hret rfl rfl hlk (hb hby d5_56) (by first | (rw [e136]; exact ⟨b134, k134, rfl, N136, K134, sz_b134, Or.inr ⟨fun q => q.2.2.1 q2, vb134⟩⟩) | exact ⟨b134, k134, rfl, N136, K134, sz_b134, Or.inr ⟨fun q => q.2.2.1 q2, vb134⟩⟩) (by decide) (by decide)
      · skip
        by_cases q3 : (255 : Int32) < c3
        · skip
          show Run p e below s _ _ _ (T115.setTop (mkF m 9 #[.val (.ref ar), .val (.int (0 : Int32)), .val (.int (4 : Int32)), .val (.ref b115), .unset, .unset] [(.int (4 : Int32)), (.int (0 : Int32)), (.ref b115), (.int (0 : Int32)), (.ref ar)]))
          have f137 := (AC.ext E115)
          refine Run.callS X115 hx hZ (y := (⟨"java/lang/StringUTF16", "compress", "([CI[BII)I"⟩ : MethodName)) hown (hw _ (List.mem_of_getElem? (i := 25) rfl)) (hw _ (List.mem_of_getElem? (i := 26) rfl)) (hw _ (List.mem_of_getElem? (i := 22) rfl)) (hw _ (List.mem_of_getElem? (i := 27) rfl)) (by decide) (W := 0) (rmC2_4_3 l Z a0 hw ar b115 kc k115 c0 c1 c2 c3 h115 n0 (Nat.le_trans Z0 K115.1) f137 V_b115 (Nat.ne_of_lt (Nat.lt_of_lt_of_le AC.lt (Nat.le_of_eq g115.symm))) gn_b115 q0 q1 q2 q3) e115 (by decide) (by decide) (by decide) (by decide) (g := (mkF m 9 #[.val (.ref ar), .val (.int (0 : Int32)), .val (.int (4 : Int32)), .val (.ref b115), .unset, .unset] [(.int (4 : Int32)), (.int (0 : Int32)), (.ref b115), (.int (0 : Int32)), (.ref ar)])) rfl (by rw [hml]; rfl) (argsL := [(.ref ar), (.int (0 : Int32)), (.ref b115), (.int (0 : Int32)), (.int (4 : Int32))]) (rest := []) (lenOf pd_3 rfl) rfl (by show 2 * 0 + _ ≤ _; exact Nat.le_of_eq rfl) (hb hby d5_9) ?_
          intro v138 T138 L138 X138 hQ138
          obtain ⟨rfl, Nq138, Kc138⟩ := hQ138
          have N138 := Fr.app N0 Nq138
          have K138 : Keep h0 T138.heap [] := K115.trans Kc138 (allS (Or.inr sz_b115) all0)
          show Run p e below s _ _ _ (T138.setTop (mkF m 12 #[.val (.ref ar), .val (.int (0 : Int32)), .val (.int (4 : Int32)), .val (.ref b115), .unset, .unset] [(.int (3 : Int32))]))
          refine Run.pre (fun _ k => XS.istore X138.here hx rfl (hb hby d5_12) rfl (l' := #[.val (.ref ar), .val (.int (0 : Int32)), .val (.int (4 : Int32)), .val (.ref b115), .val (.int (3 : Int32)), .unset]) rfl k) ?_
          show Run p e below s _ _ _ (T138.setTop (mkF m 14 #[.val (.ref ar), .val (.int (0 : Int32)), .val (.int (4 : Int32)), .val (.ref b115), .val (.int (3 : Int32)), .unset] []))
          refine Run.pre (fun _ k => XS.iload X138.here hx rfl (hb hby d5_14) rfl  k) ?_
          show Run p e below s _ _ _ (T138.setTop (mkF m 16 #[.val (.ref ar), .val (.int (0 : Int32)), .val (.int (4 : Int32)), .val (.ref b115), .val (.int (3 : Int32)), .unset] [(.int (3 : Int32))]))
          refine Run.pre (fun _ k => XS.iloadN X138.here hx rfl (hb hby d5_16) rfl  k) ?_
          show Run p e below s _ _ _ (T138.setTop (mkF m 17 #[.val (.ref ar), .val (.int (0 : Int32)), .val (.int (4 : Int32)), .val (.ref b115), .val (.int (3 : Int32)), .unset] [(.int (4 : Int32)), (.int (3 : Int32))]))
          refine Run.pre (fun _ k => XS.icmpNo X138.here hx rfl (hb hby d5_17) rfl (feq ((by decide) : ¬ ((3 : Int32) = (4 : Int32)))).1 k) ?_
          show Run p e below s _ _ _ (T138.setTop (mkF m 20 #[.val (.ref ar), .val (.int (0 : Int32)), .val (.int (4 : Int32)), .val (.ref b115), .val (.int (3 : Int32)), .unset] []))
          refine Run.pre (fun _ k => XS.aloadN X138.here hx rfl (hb hby d5_20) rfl rfl k) ?_
          show Run p e below s _ _ _ (T138.setTop (mkF m 21 #[.val (.ref ar), .val (.int (0 : Int32)), .val (.int (4 : Int32)), .val (.ref b115), .val (.int (3 : Int32)), .unset] [(.ref ar)]))
          refine Run.pre (fun _ k => XS.iloadN X138.here hx rfl (hb hby d5_21) rfl  k) ?_
          show Run p e below s _ _ _ (T138.setTop (mkF m 22 #[.val (.ref ar), .val (.int (0 : Int32)), .val (.int (4 : Int32)), .val (.ref b115), .val (.int (3 : Int32)), .unset] [(.int (0 : Int32)), (.ref ar)]))
          refine Run.pre (fun _ k => XS.iloadN X138.here hx rfl (hb hby d5_22) rfl  k) ?_
          show Run p e below s _ _ _ (T138.setTop (mkF m 23 #[.val (.ref ar), .val (.int (0 : Int32)), .val (.int (4 : Int32)), .val (.ref b115), .val (.int (3 : Int32)), .unset] [(.int (4 : Int32)), (.int (0 : Int32)), (.ref ar)]))
          have f139 := ((OL.ext E115).keep Kc138 (allS gn_b115 all0))
          have f140 := (f137.keep Kc138 (ninS (Nat.ne_of_lt (Nat.lt_of_lt_of_le AC.lt (Nat.le_of_eq g115.symm))) nin0))
          refine Run.callS X138 hx hZ (y := (⟨"java/lang/StringUTF16", "toBytes", "([CII)[B"⟩ : MethodName)) hown (hw _ (List.mem_of_getElem? (i := 67) rfl)) (hw _ (List.mem_of_getElem? (i := 68) rfl)) (hw _ (List.mem_of_getElem? (i := 22) rfl)) (hw _ (List.mem_of_getElem? (i := 69) rfl)) (by decide) (W := 0) (rmTB_4 l Z a0 hw ar kc c0 c1 c2 c3 T138.heap n0 (Nat.le_trans Z0 K138.1) f139 SA SH SL f140) rfl (by decide) (by decide) (by decide) (by decide) (g := (mkF m 23 #[.val (.ref ar), .val (.int (0 : Int32)), .val (.int (4 : Int32)), .val (.ref b115), .val (.int (3 : Int32)), .unset] [(.int (4 : Int32)), (.int (0 : Int32)), (.ref ar)])) rfl (by rw [hml]; rfl) (argsL := [(.ref ar), (.int (0 : Int32)), (.int (4 : Int32))]) (rest := []) (lenOf pd_4 rfl) rfl (by show 2 * 0 + _ ≤ _; exact Nat.le_of_eq rfl) (hb hby d5_23) ?_
          intro v141 T141 L141 X141 hQ141
          obtain ⟨b141, k141, rfl, Nq141, Kc141, sz141, vb141⟩ := hQ141
          have N141 := Fr.app N138 Nq141
          have K141 : Keep h0 T141.heap [] := K138.trans Kc141 all0
          have sz_b141 : h0.size ≤ b141 := Nat.le_trans K138.1 sz141
          have gn_b141 : n0 ≤ b141 := Nat.le_trans Z0 sz_b141
          show Run p e below s _ _ _ (T141.setTop (mkF m 26 #[.val (.ref ar), .val (.int (0 : Int32)), .val (.int (4 : Int32)), .val (.ref b115), .val (.int (3 : Int32)), .unset] [(.ref b141)]))
          refine Run.pre (fun _ k => XS.astore X141.here hx rfl (hb hby d5_26) rfl rfl (l' := #[.val (.ref ar), .val (.int (0 : Int32)), .val (.int (4 : Int32)), .val (.ref b115), .val (.int (3 : Int32)), .val (.ref b141)]) rfl k) ?_
          show Run p e below s _ _ _ (T141.setTop (mkF m 28 #[.val (.ref ar), .val (.int (0 : Int32)), .val (.int (4 : Int32)), .val (.ref b115), .val (.int (3 : Int32)), .val (.ref b141)] []))
          refine Run.pre (fun _ k => XS.aload X141.here hx rfl (hb hby d5_28) rfl rfl k) ?_
          show Run p e below s _ _ _ (T141.setTop (mkF m 30 #[.val (.ref ar), .val (.int (0 : Int32)), .val (.int (4 : Int32)), .val (.ref b115), .val (.int (3 : Int32)), .val (.ref b141)] [(.ref b141)]))
          refine Run.pre (fun _ k => XS.iload X141.here hx rfl (hb hby d5_30) rfl  k) ?_
          show Run p e below s _ _ _ (T141.setTop (mkF m 32 #[.val (.ref ar), .val (.int (0 : Int32)), .val (.int (4 : Int32)), .val (.ref b115), .val (.int (3 : Int32)), .val (.ref b141)] [(.int (3 : Int32)), (.ref b141)]))
          have f142 := (f139.keep Kc141 all0)
          refine Run.callS X141 hx hZ (y := (⟨"java/lang/StringUTF16", "getChar", "([BI)C"⟩ : MethodName)) hown (hw _ (List.mem_of_getElem? (i := 83) rfl)) (hw _ (List.mem_of_getElem? (i := 84) rfl)) (hw _ (List.mem_of_getElem? (i := 22) rfl)) (hw _ (List.mem_of_getElem? (i := 85) rfl)) (by decide) (W := 0) (rmGC_4_3 l Z a0 hw b141 k141 (own_b0 c0) (own_b1 c0) (own_b0 c1) (own_b1 c1) (own_b0 c2) (own_b1 c2) (own_b0 c3) (own_b1 c3) T141.heap n0 (Nat.le_trans Z0 K141.1) f142 SA SH SL vb141) rfl (by decide) (by decide) (by decide) (by decide) (g := (mkF m 32 #[.val (.ref ar), .val (.int (0 : Int32)), .val (.int (4 : Int32)), .val (.ref b115), .val (.int (3 : Int32)), .val (.ref b141)] [(.int (3 : Int32)), (.ref b141)])) rfl (by rw [hml]; rfl) (argsL := [(.ref b141), (.int (3 : Int32))]) (rest := []) (lenOf pd_5 rfl) rfl (by show 2 * 0 + _ ≤ _; exact Nat.le_of_eq rfl) (hb hby d5_32) ?_
          intro v143 T143 L143 X143 hQ143
          obtain ⟨rfl, Nq143, he143⟩ := hQ143
          have N143 := Fr.app N141 Nq143
          have e143 : T143.heap = T141.heap := he143
          show Run p e below s _ _ _ (T143.setTop (mkF m 35 #[.val (.ref ar), .val (.int (0 : Int32)), .val (.int (4 : Int32)), .val (.ref b115), .val (.int (3 : Int32)), .val (.ref b141)] [(.int (own_gcv (own_b0 c3) (own_b1 c3)))]))
          refine Run.pre (fun _ k => XS.sipush X143.here hx rfl (hb hby d5_35) k) ?_
          show Run p e below s _ _ _ (T143.setTop (mkF m 38 #[.val (.ref ar), .val (.int (0 : Int32)), .val (.int (4 : Int32)), .val (.ref b115), .val (.int (3 : Int32)), .val (.ref b141)] [(.int (255 : Int32)), (.int (own_gcv (own_b0 c3) (own_b1 c3)))]))
          refine Run.pre (fun _ k => XS.icmpYes X143.here hx rfl (pc0 := 38) (pc' := 54) rfl (hb hby d5_38) rfl (tlt ((by rw [own_gc c3 w3]; exact q3) : (255 : Int32) < (own_gcv (own_b0 c3) (own_b1 c3)))).2.2.1 (by decide) (by decide) k) ?_
          show Run p e below s _ _ _ (T143.setTop (mkF m 54 #[.val (.ref ar), .val (.int (0 : Int32)), .val (.int (4 : Int32)), .val (.ref b115), .val (.int (3 : Int32)), .val (.ref b141)] []))
          refine Run.pre (fun _ k => XS.aload X143.here hx rfl (hb hby d5_54) rfl rfl k) ?_
          show Run p e below s _ _ _ (T143.setTop (mkF m 56 #[.val (.ref ar), .val (.int (0 : Int32)), .val (.int (4 : Int32)), .val (.ref b115), .val (.int (3 : Int32)), .val (.ref b141)] [(.ref b141)]))
          exact Run.retA X143 hx hret rfl rfl hlk (hb hby d5_56) (by first | (rw [e143]; exact ⟨b141, k141, rfl, N143, K141, sz_b141, Or.inr ⟨fun q => q.2.2.2 q3, vb141⟩⟩) | exact ⟨b141, k141, rfl, N143, K141, sz_b141, Or.inr ⟨fun q => q.2.2.2 q3, vb141⟩⟩) (by decide) (by decide)
        · skip
          show Run p e below s _ _ _ (T115.setTop (mkF m 9 #[.val (.ref ar), .val (.int (0 : Int32)), .val (.int (4 : Int32)), .val (.ref b115), .unset, .unset] [(.int (4 : Int32)), (.int (0 : Int32)), (.ref b115), (.int (0 : Int32)), (.ref ar)]))
          have f144 := (AC.ext E115)
          refine Run.callS X115 hx hZ (y := (⟨"java/lang/StringUTF16", "compress", "([CI[BII)I"⟩ : MethodName)) hown (hw _ (List.mem_of_getElem? (i := 25) rfl)) (hw _ (List.mem_of_getElem? (i := 26) rfl)) (hw _ (List.mem_of_getElem? (i := 22) rfl)) (hw _ (List.mem_of_getElem? (i := 27) rfl)) (by decide) (W := 0) (rmC2_4_4 l Z a0 hw ar b115 kc k115 c0 c1 c2 c3 h115 n0 (Nat.le_trans Z0 K115.1) f144 V_b115 (Nat.ne_of_lt (Nat.lt_of_lt_of_le AC.lt (Nat.le_of_eq g115.symm))) gn_b115 q0 q1 q2 q3) e115 (by decide) (by decide) (by decide) (by decide) (g := (mkF m 9 #[.val (.ref ar), .val (.int (0 : Int32)), .val (.int (4 : Int32)), .val (.ref b115), .unset, .unset] [(.int (4 : Int32)), (.int (0 : Int32)), (.ref b115), (.int (0 : Int32)), (.ref ar)])) rfl (by rw [hml]; rfl) (argsL := [(.ref ar), (.int (0 : Int32)), (.ref b115), (.int (0 : Int32)), (.int (4 : Int32))]) (rest := []) (lenOf pd_3 rfl) rfl (by show 2 * 0 + _ ≤ _; exact Nat.le_of_eq rfl) (hb hby d5_9) ?_
          intro v145 T145 L145 X145 hQ145
          obtain ⟨rfl, Nq145, Kc145, vb145⟩ := hQ145
          have N145 := Fr.app N0 Nq145
          have K145 : Keep h0 T145.heap [] := K115.trans Kc145 (allS (Or.inr sz_b115) all0)
          show Run p e below s _ _ _ (T145.setTop (mkF m 12 #[.val (.ref ar), .val (.int (0 : Int32)), .val (.int (4 : Int32)), .val (.ref b115), .unset, .unset] [(.int (4 : Int32))]))
          refine Run.pre (fun _ k => XS.istore X145.here hx rfl (hb hby d5_12) rfl (l' := #[.val (.ref ar), .val (.int (0 : Int32)), .val (.int (4 : Int32)), .val (.ref b115), .val (.int (4 : Int32)), .unset]) rfl k) ?_
          show Run p e below s _ _ _ (T145.setTop (mkF m 14 #[.val (.ref ar), .val (.int (0 : Int32)), .val (.int (4 : Int32)), .val (.ref b115), .val (.int (4 : Int32)), .unset] []))
          refine Run.pre (fun _ k => XS.iload X145.here hx rfl (hb hby d5_14) rfl  k) ?_
          show Run p e below s _ _ _ (T145.setTop (mkF m 16 #[.val (.ref ar), .val (.int (0 : Int32)), .val (.int (4 : Int32)), .val (.ref b115), .val (.int (4 : Int32)), .unset] [(.int (4 : Int32))]))
          refine Run.pre (fun _ k => XS.iloadN X145.here hx rfl (hb hby d5_16) rfl  k) ?_
          show Run p e below s _ _ _ (T145.setTop (mkF m 17 #[.val (.ref ar), .val (.int (0 : Int32)), .val (.int (4 : Int32)), .val (.ref b115), .val (.int (4 : Int32)), .unset] [(.int (4 : Int32)), (.int (4 : Int32))]))
          refine Run.pre (fun _ k => XS.icmpYes X145.here hx rfl (pc0 := 17) (pc' := 57) rfl (hb hby d5_17) rfl (teq ((by decide) : (4 : Int32) = (4 : Int32))).1 (by decide) (by decide) k) ?_
          show Run p e below s _ _ _ (T145.setTop (mkF m 57 #[.val (.ref ar), .val (.int (0 : Int32)), .val (.int (4 : Int32)), .val (.ref b115), .val (.int (4 : Int32)), .unset] []))
          refine Run.pre (fun _ k => XS.aloadN X145.here hx rfl (hb hby d5_57) rfl rfl k) ?_
          show Run p e below s _ _ _ (T145.setTop (mkF m 58 #[.val (.ref ar), .val (.int (0 : Int32)), .val (.int (4 : Int32)), .val (.ref b115), .val (.int (4 : Int32)), .unset] [(.ref b115)]))
          exact Run.retA X145 hx hret rfl rfl hlk (hb hby d5_58) ⟨b115, k115, rfl, N145, K145, sz_b115, Or.inl ⟨⟨q0, q1, q2, q3⟩, vb145⟩⟩ (by decide) (by decide)
theorem d7_0 : decode jdk_52_method_15_code 0 = .ok (.iload_n 1, 1) := by decide +kernel
theorem d7_1 : decode jdk_52_method_15_code 1 = .ok (.aload_n 0, 1) := by decide +kernel
theorem d7_2 : decode jdk_52_method_15_code 2 = .ok (.arraylength, 1) := by decide +kernel
theorem d7_3 : decode jdk_52_method_15_code 3 = .ok (.isub, 1) := by decide +kernel
theorem d7_4 : decode jdk_52_method_15_code 4 = .ok (.bipush 31, 2) := by decide +kernel
theorem d7_6 : decode jdk_52_method_15_code 6 = .ok (.iushr, 1) := by decide +kernel
theorem d7_7 : decode jdk_52_method_15_code 7 = .ok (.i2b, 1) := by decide +kernel
theorem d7_8 : decode jdk_52_method_15_code 8 = .ok (.ireturn, 1) := by decide +kernel
theorem pn_7 : plainName "java/lang/StringUTF16" = true := by first | (simp [plainName, overriddenIn]; done) | decide +kernel
set_option maxRecDepth 65536 in
set_option maxHeartbeats 40000000 in
theorem rmCo_4L (l : Launch) (Z : State) (a0 : Array Value) (hw : ∀ d ∈ tables_1, d.before a0 Z = true) (b : Addr) (kb : ClassId) (c0 : Int32) (c1 : Int32) (c2 : Int32) (c3 : Int32) (h0 : Heap) (n0 : Nat) (Z0 : n0 ≤ h0.size) (AB : Arv Z h0 b kb .byte 4 [(.int (nar .byte (c0.toInt8.toInt32))), (.int (nar .byte (c1.toInt8.toInt32))), (.int (nar .byte (c2.toInt8.toInt32))), (.int (nar .byte (c3.toInt8.toInt32)))] (.int 0)) :
    Con l (⟨"java/lang/StringUTF16", "coderFromArrayLen", "([BI)B"⟩ : MethodName) jdk_52_method_15_code 2 (some .byte) ({ frames := 0, cells := 0, slots := 0, locals := 0 } : Room) Z #[(.ref b), (.int (4 : Int32))] h0 (fun v h L => v = some (.int 0) ∧ Fr n0 L ∧ h = h0) := by
  refine Con.mk (plainFor_of_name pn_7) (fun m => show entryFrame m #[(.ref b), (.int (4 : Int32))] 2 = mkF m 0 #[.val (.ref b), .val (.int (4 : Int32))] [] by first | (simp [entryFrame, mkF, argsToLocals, Value.category]; done) | rfl) ?_
  intro p e s m below meth c s₁ hx hby hml hown hnm hret hlk hZ X0 e0
  have N0 := Fr.nil n0
  show Run p e below s _ _ _ (s₁.setTop (mkF m 0 #[.val (.ref b), .val (.int (4 : Int32))] []))
  refine Run.pre (fun _ k => XS.iloadN X0.here hx rfl (hb hby d7_0) rfl  k) ?_
  show Run p e below s _ _ _ (s₁.setTop (mkF m 1 #[.val (.ref b), .val (.int (4 : Int32))] [(.int (4 : Int32))]))
  refine Run.pre (fun _ k => XS.aloadN X0.here hx rfl (hb hby d7_1) rfl rfl k) ?_
  show Run p e below s _ _ _ (s₁.setTop (mkF m 2 #[.val (.ref b), .val (.int (4 : Int32))] [(.ref b), (.int (4 : Int32))]))
  obtain ⟨c146, Ar146, -, S146, N146, -, -⟩ := id AB
  refine Run.pre (X0.arraylength hx (by rw [e0]; exact Ar146.1) (State.isArrayOf_alike hZ.alike Ar146.2.1) (g := (mkF m 2 #[.val (.ref b), .val (.int (4 : Int32))] [(.ref b), (.int (4 : Int32))])) rfl rfl (hb hby d7_2)) ?_
  rw [len_of S146 N146]
  show Run p e below s _ _ _ (s₁.setTop (mkF m 3 #[.val (.ref b), .val (.int (4 : Int32))] [(.int (4 : Int32)), (.int (4 : Int32))]))
  refine Run.pre (fun _ k => XS.isub X0.here hx rfl (hb hby d7_3) rfl k) ?_
  show Run p e below s _ _ _ (s₁.setTop (mkF m 4 #[.val (.ref b), .val (.int (4 : Int32))] [(.int (0 : Int32))]))
  refine Run.pre (fun _ k => XS.bipush X0.here hx rfl (hb hby d7_4) k) ?_
  show Run p e below s _ _ _ (s₁.setTop (mkF m 6 #[.val (.ref b), .val (.int (4 : Int32))] [(.int (31 : Int32)), (.int (0 : Int32))]))
  refine Run.pre (fun _ k => XS.iushr X0.here hx rfl (hb hby d7_6) rfl k) ?_
  show Run p e below s _ _ _ (s₁.setTop (mkF m 7 #[.val (.ref b), .val (.int (4 : Int32))] [(.int (0 : Int32))]))
  refine Run.pre (fun _ k => XS.i2b X0.here hx rfl (hb hby d7_7) rfl k) ?_
  show Run p e below s _ _ _ (s₁.setTop (mkF m 8 #[.val (.ref b), .val (.int (4 : Int32))] [(.int ((0 : Int32).toInt8.toInt32))]))
  exact Run.retN X0 hx hret (t := .byte) (by simp) hlk (hb hby d7_8) (by first | (rw [e0]; exact ⟨by decide, N0, rfl⟩) | exact ⟨by decide, N0, rfl⟩) (by decide) (by decide)
set_option maxRecDepth 65536 in
set_option maxHeartbeats 40000000 in
theorem rmCo_4U (l : Launch) (Z : State) (a0 : Array Value) (hw : ∀ d ∈ tables_1, d.before a0 Z = true) (b : Addr) (kb : ClassId) (c0 : Int32) (c1 : Int32) (c2 : Int32) (c3 : Int32) (h0 : Heap) (n0 : Nat) (Z0 : n0 ≤ h0.size) (AB : Arv Z h0 b kb .byte 8 [(.int (own_b0 c0)), (.int (own_b1 c0)), (.int (own_b0 c1)), (.int (own_b1 c1)), (.int (own_b0 c2)), (.int (own_b1 c2)), (.int (own_b0 c3)), (.int (own_b1 c3))] (.int 0)) :
    Con l (⟨"java/lang/StringUTF16", "coderFromArrayLen", "([BI)B"⟩ : MethodName) jdk_52_method_15_code 2 (some .byte) ({ frames := 0, cells := 0, slots := 0, locals := 0 } : Room) Z #[(.ref b), (.int (4 : Int32))] h0 (fun v h L => v = some (.int 1) ∧ Fr n0 L ∧ h = h0) := by
  refine Con.mk (plainFor_of_name pn_7) (fun m => show entryFrame m #[(.ref b), (.int (4 : Int32))] 2 = mkF m 0 #[.val (.ref b), .val (.int (4 : Int32))] [] by first | (simp [entryFrame, mkF, argsToLocals, Value.category]; done) | rfl) ?_
  intro p e s m below meth c s₁ hx hby hml hown hnm hret hlk hZ X0 e0
  have N0 := Fr.nil n0
  show Run p e below s _ _ _ (s₁.setTop (mkF m 0 #[.val (.ref b), .val (.int (4 : Int32))] []))
  refine Run.pre (fun _ k => XS.iloadN X0.here hx rfl (hb hby d7_0) rfl  k) ?_
  show Run p e below s _ _ _ (s₁.setTop (mkF m 1 #[.val (.ref b), .val (.int (4 : Int32))] [(.int (4 : Int32))]))
  refine Run.pre (fun _ k => XS.aloadN X0.here hx rfl (hb hby d7_1) rfl rfl k) ?_
  show Run p e below s _ _ _ (s₁.setTop (mkF m 2 #[.val (.ref b), .val (.int (4 : Int32))] [(.ref b), (.int (4 : Int32))]))
  obtain ⟨c147, Ar147, -, S147, N147, -, -⟩ := id AB
  refine Run.pre (X0.arraylength hx (by rw [e0]; exact Ar147.1) (State.isArrayOf_alike hZ.alike Ar147.2.1) (g := (mkF m 2 #[.val (.ref b), .val (.int (4 : Int32))] [(.ref b), (.int (4 : Int32))])) rfl rfl (hb hby d7_2)) ?_
  rw [len_of S147 N147]
  show Run p e below s _ _ _ (s₁.setTop (mkF m 3 #[.val (.ref b), .val (.int (4 : Int32))] [(.int (8 : Int32)), (.int (4 : Int32))]))
  refine Run.pre (fun _ k => XS.isub X0.here hx rfl (hb hby d7_3) rfl k) ?_
  show Run p e below s _ _ _ (s₁.setTop (mkF m 4 #[.val (.ref b), .val (.int (4 : Int32))] [(.int (-4 : Int32))]))
  refine Run.pre (fun _ k => XS.bipush X0.here hx rfl (hb hby d7_4) k) ?_
  show Run p e below s _ _ _ (s₁.setTop (mkF m 6 #[.val (.ref b), .val (.int (4 : Int32))] [(.int (31 : Int32)), (.int (-4 : Int32))]))
  refine Run.pre (fun _ k => XS.iushr X0.here hx rfl (hb hby d7_6) rfl k) ?_
  show Run p e below s _ _ _ (s₁.setTop (mkF m 7 #[.val (.ref b), .val (.int (4 : Int32))] [(.int (1 : Int32))]))
  refine Run.pre (fun _ k => XS.i2b X0.here hx rfl (hb hby d7_7) rfl k) ?_
  show Run p e below s _ _ _ (s₁.setTop (mkF m 8 #[.val (.ref b), .val (.int (4 : Int32))] [(.int ((1 : Int32).toInt8.toInt32))]))
  exact Run.retN X0 hx hret (t := .byte) (by simp) hlk (hb hby d7_8) (by first | (rw [e0]; exact ⟨by decide, N0, rfl⟩) | exact ⟨by decide, N0, rfl⟩) (by decide) (by decide)
theorem d3_0 : decode jdk_42_method_149_code 0 = .ok (.aload_n 0, 1) := by decide +kernel
theorem d3_1 : decode jdk_42_method_149_code 1 = .ok (.invokespecial 1, 3) := by decide +kernel
theorem d3_4 : decode jdk_42_method_149_code 4 = .ok (.iload_n 3, 1) := by decide +kernel
theorem d3_5 : decode jdk_42_method_149_code 5 = .ok (.ifCond .ne 22, 3) := by decide +kernel
theorem d3_27 : decode jdk_42_method_149_code 27 = .ok (.getstatic 38, 3) := by decide +kernel
theorem d3_30 : decode jdk_42_method_149_code 30 = .ok (.ifCond .eq 28, 3) := by decide +kernel
theorem d3_33 : decode jdk_42_method_149_code 33 = .ok (.aload_n 1, 1) := by decide +kernel
theorem d3_34 : decode jdk_42_method_149_code 34 = .ok (.iload_n 2, 1) := by decide +kernel
theorem d3_35 : decode jdk_42_method_149_code 35 = .ok (.iload_n 3, 1) := by decide +kernel
theorem d3_36 : decode jdk_42_method_149_code 36 = .ok (.invokestatic 177, 3) := by decide +kernel
theorem d3_39 : decode jdk_42_method_149_code 39 = .ok (.astore 5, 2) := by decide +kernel
theorem d3_41 : decode jdk_42_method_149_code 41 = .ok (.aload_n 0, 1) := by decide +kernel
theorem d3_42 : decode jdk_42_method_149_code 42 = .ok (.aload 5, 2) := by decide +kernel
theorem d3_44 : decode jdk_42_method_149_code 44 = .ok (.iload_n 3, 1) := by decide +kernel
theorem pd_6 : parseMethodDescriptor "([BI)B" = some ⟨[(.array .byte), .int], some .byte⟩ := by decide +kernel
theorem d3_45 : decode jdk_42_method_149_code 45 = .ok (.invokestatic 47, 3) := by decide +kernel
theorem d3_48 : decode jdk_42_method_149_code 48 = .ok (.putfield 15, 3) := by decide +kernel
theorem d3_51 : decode jdk_42_method_149_code 51 = .ok (.aload_n 0, 1) := by decide +kernel
theorem d3_52 : decode jdk_42_method_149_code 52 = .ok (.aload 5, 2) := by decide +kernel
theorem d3_54 : decode jdk_42_method_149_code 54 = .ok (.putfield 9, 3) := by decide +kernel
theorem d3_57 : decode jdk_42_method_149_code 57 = .ok (.return_, 1) := by decide +kernel
theorem pn_3 : plainName "java/lang/String" = true := by first | (simp [plainName, overriddenIn]; done) | decide +kernel
set_option maxRecDepth 65536 in
set_option maxHeartbeats 40000000 in
theorem rmI4_4 (l : Launch) (Z : State) (a0 : Array Value) (hw : ∀ d ∈ tables_1, d.before a0 Z = true) (a : Addr) (ar : Addr) (kc : ClassId) (c0 : Int32) (c1 : Int32) (c2 : Int32) (c3 : Int32) (cs : Int32) (h0 : Heap) (n0 : Nat) (Z0 : n0 ≤ h0.size) (OL : Old Z n0 h0) (SC : Sta Z Z.heap "java/lang/String" "COMPACT_STRINGS" "Z" (.int cs)) (hcs : ¬ cs = 0) (SA : Sta Z Z.heap "java/lang/StringUTF16" "$assertionsDisabled" "Z" (.int 1)) (SH : Sta Z Z.heap "java/lang/StringUTF16" "HI_BYTE_SHIFT" "I" (.int 0)) (SL : Sta Z Z.heap "java/lang/StringUTF16" "LO_BYTE_SHIFT" "I" (.int 8)) (AC : Arv Z h0 ar kc .char 4 [(.int c0), (.int c1), (.int c2), (.int c3)] (.int 0)) (E_a : Exa Z h0 a "java/lang/String") (FV : Fld Z h0 a "java/lang/String" "value" "[B" .null) (FCo : Fld Z h0 a "java/lang/String" "coder" "B" (.int 0)) (g_a : n0 ≤ a) (nar_ : ar ≠ a) (w0 : nar .char c0 = c0) (w1 : nar .char c1 = c1) (w2 : nar .char c2 = c2) (w3 : nar .char c3 = c3) :
    Con l (⟨"java/lang/String", "<init>", "([CIILjava/lang/Void;)V"⟩ : MethodName) jdk_42_method_149_code 6 none ({ frames := 4, cells := 2, slots := 12, locals := 57 } : Room) Z #[(.ref a), (.ref ar), (.int (0 : Int32)), (.int (4 : Int32)), .null] h0 (fun v h L => ∃ b : Addr, ∃ k : ClassId, v = none ∧ Fr n0 L ∧ Keep h0 h [a] ∧ h0.size ≤ b ∧ Fld Z h a "java/lang/String" "value" "[B" (.ref b) ∧ (Fld Z h a "java/lang/String" "coder" "B" (.int 0) ∧ (¬ (255 : Int32) < c0 ∧ ¬ (255 : Int32) < c1 ∧ ¬ (255 : Int32) < c2 ∧ ¬ (255 : Int32) < c3) ∧ Arv Z h b k .byte 4 [(.int (nar .byte (c0.toInt8.toInt32))), (.int (nar .byte (c1.toInt8.toInt32))), (.int (nar .byte (c2.toInt8.toInt32))), (.int (nar .byte (c3.toInt8.toInt32)))] (.int 0) ∨ Fld Z h a "java/lang/String" "coder" "B" (.int 1) ∧ (¬ (¬ (255 : Int32) < c0 ∧ ¬ (255 : Int32) < c1 ∧ ¬ (255 : Int32) < c2 ∧ ¬ (255 : Int32) < c3)) ∧ Arv Z h b k .byte 8 [(.int (own_b0 c0)), (.int (own_b1 c0)), (.int (own_b0 c1)), (.int (own_b1 c1)), (.int (own_b0 c2)), (.int (own_b1 c2)), (.int (own_b0 c3)), (.int (own_b1 c3))] (.int 0))) := by
  refine Con.mk (plainFor_of_name pn_3) (fun m => show entryFrame m #[(.ref a), (.ref ar), (.int (0 : Int32)), (.int (4 : Int32)), .null] 6 = mkF m 0 #[.val (.ref a), .val (.ref ar), .val (.int (0 : Int32)), .val (.int (4 : Int32)), .val .null, .unset] [] by first | (simp [entryFrame, mkF, argsToLocals, Value.category]; done) | rfl) ?_
  intro p e s m below meth c s₁ hx hby hml hown hnm hret hlk hZ X0 e0
  have N0 := Fr.nil n0
  show Run p e below s _ _ _ (s₁.setTop (mkF m 0 #[.val (.ref a), .val (.ref ar), .val (.int (0 : Int32)), .val (.int (4 : Int32)), .val .null, .unset] []))
  refine Run.pre (fun _ k => XS.aloadN X0.here hx rfl (hb hby d3_0) rfl rfl k) ?_
  show Run p e below s _ _ _ (s₁.setTop (mkF m 1 #[.val (.ref a), .val (.ref ar), .val (.int (0 : Int32)), .val (.int (4 : Int32)), .val .null, .unset] [(.ref a)]))
  obtain ⟨T148, X148, e148, st148⟩ := initO X0 hx hZ hown (hw _ (List.mem_of_getElem? (i := 16) rfl)) (hw _ (List.mem_of_getElem? (i := 17) rfl)) (hw _ (List.mem_of_getElem? (i := 18) rfl)) e0 (g := (mkF m 1 #[.val (.ref a), .val (.ref ar), .val (.int (0 : Int32)), .val (.int (4 : Int32)), .val .null, .unset] [(.ref a)])) rfl (by rw [hml]; rfl) rfl (hb hby d3_1) (by decide) (W := 0) (by show 2 * 0 + _ ≤ _; exact Nat.le_of_eq rfl) (by decide)
  refine Run.pre st148 ?_
  show Run p e below s _ _ _ (T148.setTop (mkF m 4 #[.val (.ref a), .val (.ref ar), .val (.int (0 : Int32)), .val (.int (4 : Int32)), .val .null, .unset] []))
  refine Run.pre (fun _ k => XS.iloadN X148.here hx rfl (hb hby d3_4) rfl  k) ?_
  show Run p e below s _ _ _ (T148.setTop (mkF m 5 #[.val (.ref a), .val (.ref ar), .val (.int (0 : Int32)), .val (.int (4 : Int32)), .val .null, .unset] [(.int (4 : Int32))]))
  refine Run.pre (fun _ k => XS.ifYes X148.here hx rfl (pc0 := 5) (pc' := 27) rfl (hb hby d3_5) rfl ((if0 _ _).trans (feq ((by decide) : ¬ ((4 : Int32) = (0 : Int32)))).2) (by decide) (by decide) k) ?_
  show Run p e below s _ _ _ (T148.setTop (mkF m 27 #[.val (.ref a), .val (.ref ar), .val (.int (0 : Int32)), .val (.int (4 : Int32)), .val .null, .unset] []))
  obtain ⟨T149, X149, e149, st149⟩ := getS2 X148 hx hZ hown (host := "") (Or.inl (hw _ (List.mem_of_getElem? (i := 19) rfl))) Via.refl e148 (SC.ext OL.2) (g := (mkF m 27 #[.val (.ref a), .val (.ref ar), .val (.int (0 : Int32)), .val (.int (4 : Int32)), .val .null, .unset] [])) rfl (hb hby d3_27)
  refine Run.pre st149 ?_
  show Run p e below s _ _ _ (T149.setTop (mkF m 30 #[.val (.ref a), .val (.ref ar), .val (.int (0 : Int32)), .val (.int (4 : Int32)), .val .null, .unset] [(.int cs)]))
  refine Run.pre (fun _ k => XS.ifNo X149.here hx rfl (hb hby d3_30) rfl ((if0 _ _).trans (feq (hcs : ¬ (cs = (0 : Int32)))).1) k) ?_
  show Run p e below s _ _ _ (T149.setTop (mkF m 33 #[.val (.ref a), .val (.ref ar), .val (.int (0 : Int32)), .val (.int (4 : Int32)), .val .null, .unset] []))
  refine Run.pre (fun _ k => XS.aloadN X149.here hx rfl (hb hby d3_33) rfl rfl k) ?_
  show Run p e below s _ _ _ (T149.setTop (mkF m 34 #[.val (.ref a), .val (.ref ar), .val (.int (0 : Int32)), .val (.int (4 : Int32)), .val .null, .unset] [(.ref ar)]))
  refine Run.pre (fun _ k => XS.iloadN X149.here hx rfl (hb hby d3_34) rfl  k) ?_
  show Run p e below s _ _ _ (T149.setTop (mkF m 35 #[.val (.ref a), .val (.ref ar), .val (.int (0 : Int32)), .val (.int (4 : Int32)), .val .null, .unset] [(.int (0 : Int32)), (.ref ar)]))
  refine Run.pre (fun _ k => XS.iloadN X149.here hx rfl (hb hby d3_35) rfl  k) ?_
  show Run p e below s _ _ _ (T149.setTop (mkF m 36 #[.val (.ref a), .val (.ref ar), .val (.int (0 : Int32)), .val (.int (4 : Int32)), .val .null, .unset] [(.int (4 : Int32)), (.int (0 : Int32)), (.ref ar)]))
  refine Run.callS X149 hx hZ (y := (⟨"java/lang/StringUTF16", "compress", "([CII)[B"⟩ : MethodName)) hown (hw _ (List.mem_of_getElem? (i := 20) rfl)) (hw _ (List.mem_of_getElem? (i := 21) rfl)) (hw _ (List.mem_of_getElem? (i := 22) rfl)) (hw _ (List.mem_of_getElem? (i := 23) rfl)) (by decide) (W := 0) (rmC1_4 l Z a0 hw ar kc c0 c1 c2 c3 h0 n0 (Nat.le_trans Z0 (Keep.refl h0 [a]).1) OL SA SH SL AC w0 w1 w2 w3) e149 (by decide) (by decide) (by decide) (by decide) (g := (mkF m 36 #[.val (.ref a), .val (.ref ar), .val (.int (0 : Int32)), .val (.int (4 : Int32)), .val .null, .unset] [(.int (4 : Int32)), (.int (0 : Int32)), (.ref ar)])) rfl (by rw [hml]; rfl) (argsL := [(.ref ar), (.int (0 : Int32)), (.int (4 : Int32))]) (rest := []) (lenOf pd_4 rfl) rfl (by show 2 * 0 + _ ≤ _; exact Nat.le_of_eq rfl) (hb hby d3_36) ?_
  intro v150 T150 L150 X150 hQ150
  obtain ⟨b150, k150, rfl, Nq150, Kc150, sz150, dj150⟩ := hQ150
  have N150 := Fr.app N0 Nq150
  have K150 : Keep h0 T150.heap [a] := (Keep.refl h0 [a]).trans Kc150 all0
  have sz_b150 : h0.size ≤ b150 := Nat.le_trans (Keep.refl h0 [a]).1 sz150
  have gn_b150 : n0 ≤ b150 := Nat.le_trans Z0 sz_b150
  show Run p e below s _ _ _ (T150.setTop (mkF m 39 #[.val (.ref a), .val (.ref ar), .val (.int (0 : Int32)), .val (.int (4 : Int32)), .val .null, .unset] [(.ref b150)]))
  rcases dj150 with ⟨hl, vv⟩ | ⟨hl, vv⟩
  · skip
    show Run p e below s _ _ _ (T150.setTop (mkF m 39 #[.val (.ref a), .val (.ref ar), .val (.int (0 : Int32)), .val (.int (4 : Int32)), .val .null, .unset] [(.ref b150)]))
    refine Run.pre (fun _ k => XS.astore X150.here hx rfl (hb hby d3_39) rfl rfl (l' := #[.val (.ref a), .val (.ref ar), .val (.int (0 : Int32)), .val (.int (4 : Int32)), .val .null, .val (.ref b150)]) rfl k) ?_
    show Run p e below s _ _ _ (T150.setTop (mkF m 41 #[.val (.ref a), .val (.ref ar), .val (.int (0 : Int32)), .val (.int (4 : Int32)), .val .null, .val (.ref b150)] []))
    refine Run.pre (fun _ k => XS.aloadN X150.here hx rfl (hb hby d3_41) rfl rfl k) ?_
    show Run p e below s _ _ _ (T150.setTop (mkF m 42 #[.val (.ref a), .val (.ref ar), .val (.int (0 : Int32)), .val (.int (4 : Int32)), .val .null, .val (.ref b150)] [(.ref a)]))
    refine Run.pre (fun _ k => XS.aload X150.here hx rfl (hb hby d3_42) rfl rfl k) ?_
    show Run p e below s _ _ _ (T150.setTop (mkF m 44 #[.val (.ref a), .val (.ref ar), .val (.int (0 : Int32)), .val (.int (4 : Int32)), .val .null, .val (.ref b150)] [(.ref b150), (.ref a)]))
    refine Run.pre (fun _ k => XS.iloadN X150.here hx rfl (hb hby d3_44) rfl  k) ?_
    show Run p e below s _ _ _ (T150.setTop (mkF m 45 #[.val (.ref a), .val (.ref ar), .val (.int (0 : Int32)), .val (.int (4 : Int32)), .val .null, .val (.ref b150)] [(.int (4 : Int32)), (.ref b150), (.ref a)]))
    refine Run.callS X150 hx hZ (y := (⟨"java/lang/StringUTF16", "coderFromArrayLen", "([BI)B"⟩ : MethodName)) hown (hw _ (List.mem_of_getElem? (i := 28) rfl)) (hw _ (List.mem_of_getElem? (i := 29) rfl)) (hw _ (List.mem_of_getElem? (i := 22) rfl)) (hw _ (List.mem_of_getElem? (i := 30) rfl)) (by decide) (W := 1) (rmCo_4L l Z a0 hw b150 k150 c0 c1 c2 c3 T150.heap n0 (Nat.le_trans Z0 K150.1) vv) rfl (by decide) (by decide) (by decide) (by decide) (g := (mkF m 45 #[.val (.ref a), .val (.ref ar), .val (.int (0 : Int32)), .val (.int (4 : Int32)), .val .null, .val (.ref b150)] [(.int (4 : Int32)), (.ref b150), (.ref a)])) rfl (by rw [hml]; rfl) (argsL := [(.ref b150), (.int (4 : Int32))]) (rest := [(.ref a)]) (lenOf pd_6 rfl) rfl (by show 2 * 0 + _ ≤ _; exact Nat.le_of_eq rfl) (hb hby d3_45) ?_
    intro v151 T151 L151 X151 hQ151
    obtain ⟨rfl, Nq151, he151⟩ := hQ151
    have N151 := Fr.app N150 Nq151
    have e151 : T151.heap = T150.heap := he151
    show Run p e below s _ _ _ (T151.setTop (mkF m 48 #[.val (.ref a), .val (.ref ar), .val (.int (0 : Int32)), .val (.int (4 : Int32)), .val .null, .val (.ref b150)] [(.int (0 : Int32)), (.ref a)]))
    have f152 := (E_a.keep Kc150)
    have f153 := (FCo.keep Kc150 nin0)
    obtain ⟨T154, h154, X154, e154, W154, st154⟩ := putFN X151 hx hZ hown (hw _ (List.mem_of_getElem? (i := 31) rfl)) Via.refl e151 f153 f152 (Or.inr ⟨(hw _ (List.mem_of_getElem? (i := 32) rfl)), rfl, hnm⟩) (hw _ (List.mem_of_getElem? (i := 7) rfl)) (ty := .byte) (v' := (.int (nar .byte (0 : Int32)))) (by decide) rfl (fits_nar_byte _) (g := (mkF m 48 #[.val (.ref a), .val (.ref ar), .val (.int (0 : Int32)), .val (.int (4 : Int32)), .val .null, .val (.ref b150)] [(.int (0 : Int32)), (.ref a)])) rfl rfl (hb hby d3_48)
    refine Run.pre st154 ?_
    have Fw154 := f153.same W154
    have K154 : Keep h0 h154 [a] := K150.wr W154 (Or.inl (by simp))
    have N154 := Fr.snoc X154 N151 g_a
    show Run p e below s _ _ _ (T154.setTop (mkF m 51 #[.val (.ref a), .val (.ref ar), .val (.int (0 : Int32)), .val (.int (4 : Int32)), .val .null, .val (.ref b150)] []))
    refine Run.pre (fun _ k => XS.aloadN X154.here hx rfl (hb hby d3_51) rfl rfl k) ?_
    show Run p e below s _ _ _ (T154.setTop (mkF m 52 #[.val (.ref a), .val (.ref ar), .val (.int (0 : Int32)), .val (.int (4 : Int32)), .val .null, .val (.ref b150)] [(.ref a)]))
    refine Run.pre (fun _ k => XS.aload X154.here hx rfl (hb hby d3_52) rfl rfl k) ?_
    show Run p e below s _ _ _ (T154.setTop (mkF m 54 #[.val (.ref a), .val (.ref ar), .val (.int (0 : Int32)), .val (.int (4 : Int32)), .val .null, .val (.ref b150)] [(.ref b150), (.ref a)]))
    have f155 := (f152.wr W154)
    have f156 := ((FV.keep Kc150 nin0).other W154 (Or.inr (slot_ne (Or.inr (hw _ (List.mem_of_getElem? (i := 34) rfl))) (Or.inr (hw _ (List.mem_of_getElem? (i := 32) rfl))) (by decide) (t := (.array .byte)) (t' := .byte) (by decide) (by decide))))
    obtain ⟨T157, h157, X157, e157, W157, st157⟩ := putF X154 hx hZ hown (host := "") (Or.inl (hw _ (List.mem_of_getElem? (i := 33) rfl))) Via.refl e154 f156 f155 (Or.inr ⟨(hw _ (List.mem_of_getElem? (i := 34) rfl)), rfl, hnm⟩) (hw _ (List.mem_of_getElem? (i := 7) rfl)) (ty := (.array .byte)) (by decide) rfl rfl (g := (mkF m 54 #[.val (.ref a), .val (.ref ar), .val (.int (0 : Int32)), .val (.int (4 : Int32)), .val .null, .val (.ref b150)] [(.ref b150), (.ref a)])) rfl rfl (hb hby d3_54)
    refine Run.pre st157 ?_
    have Fw157 := f156.same W157
    have K157 : Keep h0 h157 [a] := K154.wr W157 (Or.inl (by simp))
    have N157 := Fr.snoc X157 N154 g_a
    show Run p e below s _ _ _ (T157.setTop (mkF m 57 #[.val (.ref a), .val (.ref ar), .val (.int (0 : Int32)), .val (.int (4 : Int32)), .val .null, .val (.ref b150)] []))
    have f158 := (Fw154.other W157 (Or.inr (slot_ne (Or.inr (hw _ (List.mem_of_getElem? (i := 32) rfl))) (Or.inr (hw _ (List.mem_of_getElem? (i := 34) rfl))) (by decide) (t := .byte) (t' := (.array .byte)) (by decide) (by decide))))
    have f159 := ((vv.other W154 (Ne.symm (Nat.ne_of_lt (Nat.lt_of_lt_of_le E_a.lt sz150)))).other W157 (Ne.symm (Nat.ne_of_lt (Nat.lt_of_lt_of_le E_a.lt sz150))))
    exact Run.retV X157 hx hret hlk (hb hby d3_57) (by first | (rw [e157]; exact ⟨b150, k150, rfl, N157, K157, sz_b150, Fw157, Or.inl ⟨f158, hl, f159⟩⟩) | exact ⟨b150, k150, rfl, N157, K157, sz_b150, Fw157, Or.inl ⟨f158, hl, f159⟩⟩) (by decide) (by decide)
  · skip
    show Run p e below s _ _ _ (T150.setTop (mkF m 39 #[.val (.ref a), .val (.ref ar), .val (.int (0 : Int32)), .val (.int (4 : Int32)), .val .null, .unset] [(.ref b150)]))
    refine Run.pre (fun _ k => XS.astore X150.here hx rfl (hb hby d3_39) rfl rfl (l' := #[.val (.ref a), .val (.ref ar), .val (.int (0 : Int32)), .val (.int (4 : Int32)), .val .null, .val (.ref b150)]) rfl k) ?_
    show Run p e below s _ _ _ (T150.setTop (mkF m 41 #[.val (.ref a), .val (.ref ar), .val (.int (0 : Int32)), .val (.int (4 : Int32)), .val .null, .val (.ref b150)] []))
    refine Run.pre (fun _ k => XS.aloadN X150.here hx rfl (hb hby d3_41) rfl rfl k) ?_
    show Run p e below s _ _ _ (T150.setTop (mkF m 42 #[.val (.ref a), .val (.ref ar), .val (.int (0 : Int32)), .val (.int (4 : Int32)), .val .null, .val (.ref b150)] [(.ref a)]))
    refine Run.pre (fun _ k => XS.aload X150.here hx rfl (hb hby d3_42) rfl rfl k) ?_
    show Run p e below s _ _ _ (T150.setTop (mkF m 44 #[.val (.ref a), .val (.ref ar), .val (.int (0 : Int32)), .val (.int (4 : Int32)), .val .null, .val (.ref b150)] [(.ref b150), (.ref a)]))
    refine Run.pre (fun _ k => XS.iloadN X150.here hx rfl (hb hby d3_44) rfl  k) ?_
    show Run p e below s _ _ _ (T150.setTop (mkF m 45 #[.val (.ref a), .val (.ref ar), .val (.int (0 : Int32)), .val (.int (4 : Int32)), .val .null, .val (.ref b150)] [(.int (4 : Int32)), (.ref b150), (.ref a)]))
    refine Run.callS X150 hx hZ (y := (⟨"java/lang/StringUTF16", "coderFromArrayLen", "([BI)B"⟩ : MethodName)) hown (hw _ (List.mem_of_getElem? (i := 28) rfl)) (hw _ (List.mem_of_getElem? (i := 29) rfl)) (hw _ (List.mem_of_getElem? (i := 22) rfl)) (hw _ (List.mem_of_getElem? (i := 30) rfl)) (by decide) (W := 1) (rmCo_4U l Z a0 hw b150 k150 c0 c1 c2 c3 T150.heap n0 (Nat.le_trans Z0 K150.1) vv) rfl (by decide) (by decide) (by decide) (by decide) (g := (mkF m 45 #[.val (.ref a), .val (.ref ar), .val (.int (0 : Int32)), .val (.int (4 : Int32)), .val .null, .val (.ref b150)] [(.int (4 : Int32)), (.ref b150), (.ref a)])) rfl (by rw [hml]; rfl) (argsL := [(.ref b150), (.int (4 : Int32))]) (rest := [(.ref a)]) (lenOf pd_6 rfl) rfl (by show 2 * 0 + _ ≤ _; exact Nat.le_of_eq rfl) (hb hby d3_45) ?_
    intro v160 T160 L160 X160 hQ160
    obtain ⟨rfl, Nq160, he160⟩ := hQ160
    have N160 := Fr.app N150 Nq160
    have e160 : T160.heap = T150.heap := he160
    show Run p e below s _ _ _ (T160.setTop (mkF m 48 #[.val (.ref a), .val (.ref ar), .val (.int (0 : Int32)), .val (.int (4 : Int32)), .val .null, .val (.ref b150)] [(.int (1 : Int32)), (.ref a)]))
    have f161 := (E_a.keep Kc150)
    have f162 := (FCo.keep Kc150 nin0)
    obtain ⟨T163, h163, X163, e163, W163, st163⟩ := putFN X160 hx hZ hown (hw _ (List.mem_of_getElem? (i := 31) rfl)) Via.refl e160 f162 f161 (Or.inr ⟨(hw _ (List.mem_of_getElem? (i := 32) rfl)), rfl, hnm⟩) (hw _ (List.mem_of_getElem? (i := 7) rfl)) (ty := .byte) (v' := (.int (nar .byte (1 : Int32)))) (by decide) rfl (fits_nar_byte _) (g := (mkF m 48 #[.val (.ref a), .val (.ref ar), .val (.int (0 : Int32)), .val (.int (4 : Int32)), .val .null, .val (.ref b150)] [(.int (1 : Int32)), (.ref a)])) rfl rfl (hb hby d3_48)
    refine Run.pre st163 ?_
    have Fw163 := f162.same W163
    have K163 : Keep h0 h163 [a] := K150.wr W163 (Or.inl (by simp))
    have N163 := Fr.snoc X163 N160 g_a
    show Run p e below s _ _ _ (T163.setTop (mkF m 51 #[.val (.ref a), .val (.ref ar), .val (.int (0 : Int32)), .val (.int (4 : Int32)), .val .null, .val (.ref b150)] []))
    refine Run.pre (fun _ k => XS.aloadN X163.here hx rfl (hb hby d3_51) rfl rfl k) ?_
    show Run p e below s _ _ _ (T163.setTop (mkF m 52 #[.val (.ref a), .val (.ref ar), .val (.int (0 : Int32)), .val (.int (4 : Int32)), .val .null, .val (.ref b150)] [(.ref a)]))
    refine Run.pre (fun _ k => XS.aload X163.here hx rfl (hb hby d3_52) rfl rfl k) ?_
    show Run p e below s _ _ _ (T163.setTop (mkF m 54 #[.val (.ref a), .val (.ref ar), .val (.int (0 : Int32)), .val (.int (4 : Int32)), .val .null, .val (.ref b150)] [(.ref b150), (.ref a)]))
    have f164 := (f161.wr W163)
    have f165 := ((FV.keep Kc150 nin0).other W163 (Or.inr (slot_ne (Or.inr (hw _ (List.mem_of_getElem? (i := 34) rfl))) (Or.inr (hw _ (List.mem_of_getElem? (i := 32) rfl))) (by decide) (t := (.array .byte)) (t' := .byte) (by decide) (by decide))))
    obtain ⟨T166, h166, X166, e166, W166, st166⟩ := putF X163 hx hZ hown (host := "") (Or.inl (hw _ (List.mem_of_getElem? (i := 33) rfl))) Via.refl e163 f165 f164 (Or.inr ⟨(hw _ (List.mem_of_getElem? (i := 34) rfl)), rfl, hnm⟩) (hw _ (List.mem_of_getElem? (i := 7) rfl)) (ty := (.array .byte)) (by decide) rfl rfl (g := (mkF m 54 #[.val (.ref a), .val (.ref ar), .val (.int (0 : Int32)), .val (.int (4 : Int32)), .val .null, .val (.ref b150)] [(.ref b150), (.ref a)])) rfl rfl (hb hby d3_54)
    refine Run.pre st166 ?_
    have Fw166 := f165.same W166
    have K166 : Keep h0 h166 [a] := K163.wr W166 (Or.inl (by simp))
    have N166 := Fr.snoc X166 N163 g_a
    show Run p e below s _ _ _ (T166.setTop (mkF m 57 #[.val (.ref a), .val (.ref ar), .val (.int (0 : Int32)), .val (.int (4 : Int32)), .val .null, .val (.ref b150)] []))
    have f167 := (Fw163.other W166 (Or.inr (slot_ne (Or.inr (hw _ (List.mem_of_getElem? (i := 32) rfl))) (Or.inr (hw _ (List.mem_of_getElem? (i := 34) rfl))) (by decide) (t := .byte) (t' := (.array .byte)) (by decide) (by decide))))
    have f168 := ((vv.other W163 (Ne.symm (Nat.ne_of_lt (Nat.lt_of_lt_of_le E_a.lt sz150)))).other W166 (Ne.symm (Nat.ne_of_lt (Nat.lt_of_lt_of_le E_a.lt sz150))))
    exact Run.retV X166 hx hret hlk (hb hby d3_57) (by first | (rw [e166]; exact ⟨b150, k150, rfl, N166, K166, sz_b150, Fw166, Or.inr ⟨f167, hl, f168⟩⟩) | exact ⟨b150, k150, rfl, N166, K166, sz_b150, Fw166, Or.inr ⟨f167, hl, f168⟩⟩) (by decide) (by decide)
theorem d2_0 : decode jdk_42_method_3_code 0 = .ok (.aload_n 0, 1) := by decide +kernel
theorem d2_1 : decode jdk_42_method_3_code 1 = .ok (.aload_n 1, 1) := by decide +kernel
theorem d2_2 : decode jdk_42_method_3_code 2 = .ok (.iconst 0, 1) := by decide +kernel
theorem d2_3 : decode jdk_42_method_3_code 3 = .ok (.aload_n 1, 1) := by decide +kernel
theorem d2_4 : decode jdk_42_method_3_code 4 = .ok (.arraylength, 1) := by decide +kernel
theorem d2_5 : decode jdk_42_method_3_code 5 = .ok (.aconst_null, 1) := by decide +kernel
theorem pd_7 : parseMethodDescriptor "([CIILjava/lang/Void;)V" = some ⟨[(.array .char), .int, .int, (.object "java/lang/Void")], none⟩ := by decide +kernel
theorem d2_6 : decode jdk_42_method_3_code 6 = .ok (.invokespecial 27, 3) := by decide +kernel
theorem d2_9 : decode jdk_42_method_3_code 9 = .ok (.return_, 1) := by decide +kernel
theorem pn_2 : plainName "java/lang/String" = true := by first | (simp [plainName, overriddenIn]; done) | decide +kernel
set_option maxRecDepth 65536 in
set_option maxHeartbeats 40000000 in
theorem rmI_4 (l : Launch) (Z : State) (a0 : Array Value) (hw : ∀ d ∈ tables_1, d.before a0 Z = true) (a : Addr) (ar : Addr) (kc : ClassId) (c0 : Int32) (c1 : Int32) (c2 : Int32) (c3 : Int32) (cs : Int32) (h0 : Heap) (n0 : Nat) (Z0 : n0 ≤ h0.size) (OL : Old Z n0 h0) (SC : Sta Z Z.heap "java/lang/String" "COMPACT_STRINGS" "Z" (.int cs)) (hcs : ¬ cs = 0) (SA : Sta Z Z.heap "java/lang/StringUTF16" "$assertionsDisabled" "Z" (.int 1)) (SH : Sta Z Z.heap "java/lang/StringUTF16" "HI_BYTE_SHIFT" "I" (.int 0)) (SL : Sta Z Z.heap "java/lang/StringUTF16" "LO_BYTE_SHIFT" "I" (.int 8)) (AC : Arv Z h0 ar kc .char 4 [(.int c0), (.int c1), (.int c2), (.int c3)] (.int 0)) (E_a : Exa Z h0 a "java/lang/String") (FV : Fld Z h0 a "java/lang/String" "value" "[B" .null) (FCo : Fld Z h0 a "java/lang/String" "coder" "B" (.int 0)) (g_a : n0 ≤ a) (nar_ : ar ≠ a) (w0 : nar .char c0 = c0) (w1 : nar .char c1 = c1) (w2 : nar .char c2 = c2) (w3 : nar .char c3 = c3) :
    Con l (⟨"java/lang/String", "<init>", "([C)V"⟩ : MethodName) jdk_42_method_3_code 2 none ({ frames := 5, cells := 2, slots := 12, locals := 74 } : Room) Z #[(.ref a), (.ref ar)] h0 (fun v h L => ∃ b : Addr, ∃ k : ClassId, v = none ∧ Fr n0 L ∧ Keep h0 h [a] ∧ h0.size ≤ b ∧ Fld Z h a "java/lang/String" "value" "[B" (.ref b) ∧ (Fld Z h a "java/lang/String" "coder" "B" (.int 0) ∧ (¬ (255 : Int32) < c0 ∧ ¬ (255 : Int32) < c1 ∧ ¬ (255 : Int32) < c2 ∧ ¬ (255 : Int32) < c3) ∧ Arv Z h b k .byte 4 [(.int (nar .byte (c0.toInt8.toInt32))), (.int (nar .byte (c1.toInt8.toInt32))), (.int (nar .byte (c2.toInt8.toInt32))), (.int (nar .byte (c3.toInt8.toInt32)))] (.int 0) ∨ Fld Z h a "java/lang/String" "coder" "B" (.int 1) ∧ (¬ (¬ (255 : Int32) < c0 ∧ ¬ (255 : Int32) < c1 ∧ ¬ (255 : Int32) < c2 ∧ ¬ (255 : Int32) < c3)) ∧ Arv Z h b k .byte 8 [(.int (own_b0 c0)), (.int (own_b1 c0)), (.int (own_b0 c1)), (.int (own_b1 c1)), (.int (own_b0 c2)), (.int (own_b1 c2)), (.int (own_b0 c3)), (.int (own_b1 c3))] (.int 0))) := by
  refine Con.mk (plainFor_of_name pn_2) (fun m => show entryFrame m #[(.ref a), (.ref ar)] 2 = mkF m 0 #[.val (.ref a), .val (.ref ar)] [] by first | (simp [entryFrame, mkF, argsToLocals, Value.category]; done) | rfl) ?_
  intro p e s m below meth c s₁ hx hby hml hown hnm hret hlk hZ X0 e0
  have N0 := Fr.nil n0
  show Run p e below s _ _ _ (s₁.setTop (mkF m 0 #[.val (.ref a), .val (.ref ar)] []))
  refine Run.pre (fun _ k => XS.aloadN X0.here hx rfl (hb hby d2_0) rfl rfl k) ?_
  show Run p e below s _ _ _ (s₁.setTop (mkF m 1 #[.val (.ref a), .val (.ref ar)] [(.ref a)]))
  refine Run.pre (fun _ k => XS.aloadN X0.here hx rfl (hb hby d2_1) rfl rfl k) ?_
  show Run p e below s _ _ _ (s₁.setTop (mkF m 2 #[.val (.ref a), .val (.ref ar)] [(.ref ar), (.ref a)]))
  refine Run.pre (fun _ k => XS.iconst X0.here hx rfl (hb hby d2_2) k) ?_
  show Run p e below s _ _ _ (s₁.setTop (mkF m 3 #[.val (.ref a), .val (.ref ar)] [(.int (0 : Int32)), (.ref ar), (.ref a)]))
  refine Run.pre (fun _ k => XS.aloadN X0.here hx rfl (hb hby d2_3) rfl rfl k) ?_
  show Run p e below s _ _ _ (s₁.setTop (mkF m 4 #[.val (.ref a), .val (.ref ar)] [(.ref ar), (.int (0 : Int32)), (.ref ar), (.ref a)]))
  obtain ⟨c169, Ar169, -, S169, N169, -, -⟩ := id AC
  refine Run.pre (X0.arraylength hx (by rw [e0]; exact Ar169.1) (State.isArrayOf_alike hZ.alike Ar169.2.1) (g := (mkF m 4 #[.val (.ref a), .val (.ref ar)] [(.ref ar), (.int (0 : Int32)), (.ref ar), (.ref a)])) rfl rfl (hb hby d2_4)) ?_
  rw [len_of S169 N169]
  show Run p e below s _ _ _ (s₁.setTop (mkF m 5 #[.val (.ref a), .val (.ref ar)] [(.int (4 : Int32)), (.int (0 : Int32)), (.ref ar), (.ref a)]))
  refine Run.pre (fun _ k => XS.aconstNull X0.here hx rfl (hb hby d2_5) k) ?_
  show Run p e below s _ _ _ (s₁.setTop (mkF m 6 #[.val (.ref a), .val (.ref ar)] [.null, (.int (4 : Int32)), (.int (0 : Int32)), (.ref ar), (.ref a)]))
  refine Run.callI X0 hx hZ (y := (⟨"java/lang/String", "<init>", "([CIILjava/lang/Void;)V"⟩ : MethodName)) rfl hown (hw _ (List.mem_of_getElem? (i := 12) rfl)) (hw _ (List.mem_of_getElem? (i := 13) rfl)) (hw _ (List.mem_of_getElem? (i := 15) rfl)) (hw _ (List.mem_of_getElem? (i := 8) rfl)) (by decide) (a := a) (W := 0) (rmI4_4 l Z a0 hw a ar kc c0 c1 c2 c3 cs h0 n0 (Nat.le_trans Z0 (Keep.refl h0 [a]).1) OL SC hcs SA SH SL AC E_a FV FCo g_a nar_ w0 w1 w2 w3) e0 (by decide) (by decide) (by decide) (by decide) (g := (mkF m 6 #[.val (.ref a), .val (.ref ar)] [.null, (.int (4 : Int32)), (.int (0 : Int32)), (.ref ar), (.ref a)])) rfl (by rw [hml]; rfl) (argsL := [(.ref ar), (.int (0 : Int32)), (.int (4 : Int32)), .null]) (rest := []) (lenOf pd_7 rfl) rfl (by show 2 * 0 + _ ≤ _; exact Nat.le_of_eq rfl) (hb hby d2_6) ?_
  intro v170 T170 L170 X170 hQ170
  obtain ⟨b170, k170, rfl, Nq170, Kc170, sz170, fv170, dq170⟩ := hQ170
  have N170 := Fr.app N0 Nq170
  have K170 : Keep h0 T170.heap [a] := (Keep.refl h0 [a]).trans Kc170 (allS (Or.inl (by simp)) all0)
  show Run p e below s _ _ _ (T170.setTop (mkF m 9 #[.val (.ref a), .val (.ref ar)] []))
  exact Run.retV X170 hx hret hlk (hb hby d2_9) ⟨b170, k170, rfl, N170, K170, sz170, fv170, dq170⟩ (by decide) (by decide)
theorem own_lc (c : Int32) (h : nar .char c = c) (q : ¬ (255 : Int32) < c) : nar .char (((nar .byte (c.toInt8.toInt32)) &&& (255 : Int32)).toUInt32.toUInt16.toUInt32.toInt32) = c := by
  have e : c.toBitVec = (c.toBitVec.setWidth 16).setWidth 32 := (own_w c).symm.trans (congrArg Int32.toBitVec h) |>.symm
  have hn : c.toBitVec.toNat < 256 := by
    have hm : c.toBitVec.toNat < 65536 := by rw [e]; simp [BitVec.toNat_setWidth]; omega
    have hi : c.toInt = c.toBitVec.toNat := by
      show c.toBitVec.toInt = _
      rw [BitVec.toInt_eq_toNat_of_lt (by omega)]
    rw [Int32.lt_iff_toInt_lt, hi] at q
    have h255 : (255 : Int32).toInt = 255 := rfl
    rw [h255] at q
    omega
  apply Int32.toBitVec_inj.mp
  have b255 : (255 : Int32).toBitVec = 255#32 := rfl
  simp only [nar, own_w, own_v, Int32.toBitVec_and, b255]
  apply BitVec.eq_of_getLsbD_eq
  intro i hi
  have h255 : ∀ j : Nat, (255#32).getLsbD j = decide (j < 8) := by
    intro j
    by_cases hj : j < 32
    · have : ∀ k : Fin 32, (255#32).getLsbD k.1 = decide (k.1 < 8) := by decide
      exact this ⟨j, hj⟩
    · rw [BitVec.getLsbD_of_ge _ _ (by omega)]; simp; omega
  have hz : ∀ j : Nat, 8 ≤ j → c.toBitVec.getLsbD j = false := fun j hj => by
    rw [BitVec.getLsbD, Nat.testBit_lt_two_pow (Nat.lt_of_lt_of_le hn (by calc 256 = 2 ^ 8 := rfl
      _ ≤ 2 ^ j := Nat.pow_le_pow_right (by decide) hj))]
  simp only [BitVec.getLsbD_setWidth, BitVec.getLsbD_and, BitVec.getLsbD_signExtend, h255]
  by_cases h8 : i < 8
  · simp [h8, show i < 32 by omega, show i < 16 by omega]
  · simp [h8, hz i (by omega)]

theorem own_narc (x : Int32) : nar .char (nar .char x) = nar .char x := by simp only [nar, UInt32.toUInt32_toInt32, UInt16.toUInt16_toUInt32]
theorem own_nari (x : Int32) : nar .char (x.toUInt32.toUInt16.toUInt32.toInt32) = x.toUInt32.toUInt16.toUInt32.toInt32 := by simp only [nar, UInt32.toUInt32_toInt32, UInt16.toUInt16_toUInt32]
def own_dg (c : Int32) : Int32 := if c < 48 then 0 else if 57 < c then 0 else 1
def own_bad (i c s e : Int32) : Int32 := if i < s then 0 else if i < e then (if own_dg c = 0 then 1 else 0) else 0
def own_e1 (b : Int32) : Int32 := if b = 0 then 1 else 0
def own_en (x b : Int32) : Int32 := if b = 0 then x else 0
def own_ch (x : Int32) : Int32 := if ((x.toUInt32 >>> ((16 : Int32) &&& 31).toUInt32).toInt32 &&& (1 : Int32)) = 0 then nar .char ((47 + (x &&& 65535) % 13).toUInt32.toUInt16.toUInt32.toInt32) else nar .char ((x &&& 65535).toUInt32.toUInt16.toUInt32.toInt32)
theorem own_chn (x : Int32) : nar .char (own_ch x) = own_ch x := by unfold own_ch; split <;> exact own_narc _
def own_se (s e : Int32) : Prop := (s = 0 ∧ (e = 0 ∨ e = 1 ∨ e = 2 ∨ e = 3 ∨ e = 4)) ∨ (s = 1 ∧ (e = 1 ∨ e = 2 ∨ e = 3 ∨ e = 4)) ∨ (s = 2 ∧ (e = 2 ∨ e = 3 ∨ e = 4)) ∨ (s = 3 ∧ (e = 3 ∨ e = 4)) ∨ (s = 4 ∧ e = 4)
instance (s e : Int32) : Decidable (own_se s e) := by unfold own_se; infer_instance
theorem own_and7 (x : Int32) : x &&& 7 = 0 ∨ x &&& 7 = 1 ∨ x &&& 7 = 2 ∨ x &&& 7 = 3 ∨ x &&& 7 = 4 ∨ x &&& 7 = 5 ∨ x &&& 7 = 6 ∨ x &&& 7 = 7 := by
  have h : (x &&& 7).toBitVec = x.toBitVec &&& 7#32 := rfl
  have hb : (x.toBitVec &&& 7#32).toNat < 8 := by
    rw [BitVec.toNat_and]
    exact Nat.lt_of_le_of_lt Nat.and_le_right (by decide)
  have hc : ∀ n : Nat, n < 8 → (x.toBitVec &&& 7#32).toNat = n → x &&& 7 = Int32.ofBitVec (BitVec.ofNat 32 n) := fun n hn e => by
    apply Int32.toBitVec_inj.mp
    rw [h]
    apply BitVec.eq_of_toNat_eq
    rw [e]
    show n = (BitVec.ofNat 32 n).toNat
    rw [BitVec.toNat_ofNat, Nat.mod_eq_of_lt (by omega)]
  generalize hk : (x.toBitVec &&& 7#32).toNat = k at hb
  match k, hb, hk with
  | 0, _, hk => exact Or.inl (hc 0 (by decide) hk)
  | 1, _, hk => exact Or.inr (Or.inl (hc 1 (by decide) hk))
  | 2, _, hk => exact Or.inr (Or.inr (Or.inl (hc 2 (by decide) hk)))
  | 3, _, hk => exact Or.inr (Or.inr (Or.inr (Or.inl (hc 3 (by decide) hk))))
  | 4, _, hk => exact Or.inr (Or.inr (Or.inr (Or.inr (Or.inl (hc 4 (by decide) hk)))))
  | 5, _, hk => exact Or.inr (Or.inr (Or.inr (Or.inr (Or.inr (Or.inl (hc 5 (by decide) hk))))))
  | 6, _, hk => exact Or.inr (Or.inr (Or.inr (Or.inr (Or.inr (Or.inr (Or.inl (hc 6 (by decide) hk)))))))
  | 7, _, hk => exact Or.inr (Or.inr (Or.inr (Or.inr (Or.inr (Or.inr (Or.inr (hc 7 (by decide) hk)))))))
theorem own_seOf (x y : Int32) : ¬ ((5 : Int32) - (x &&& 7) % 5 = 0) ∧ own_se ((x &&& 7) % 5) ((x &&& 7) % 5 + (y &&& 7) % ((5 : Int32) - (x &&& 7) % 5)) := by
  rcases own_and7 x with h | h | h | h | h | h | h | h <;> rcases own_and7 y with k | k | k | k | k | k | k | k <;> rw [h, k] <;> decide
theorem d1_0 : decode method_2_code 0 = .ok (.iload_n 0, 1) := by decide +kernel
theorem d1_1 : decode method_2_code 1 = .ok (.bipush 16, 2) := by decide +kernel
theorem d1_3 : decode method_2_code 3 = .ok (.iushr, 1) := by decide +kernel
theorem d1_4 : decode method_2_code 4 = .ok (.iconst 1, 1) := by decide +kernel
theorem d1_5 : decode method_2_code 5 = .ok (.iand, 1) := by decide +kernel
theorem d1_6 : decode method_2_code 6 = .ok (.ifCond .ne 15, 3) := by decide +kernel
theorem d1_9 : decode method_2_code 9 = .ok (.bipush 47, 2) := by decide +kernel
theorem d1_11 : decode method_2_code 11 = .ok (.iload_n 0, 1) := by decide +kernel
theorem d1_12 : decode method_2_code 12 = .ok (.ldc 7, 2) := by decide +kernel
theorem d1_14 : decode method_2_code 14 = .ok (.iand, 1) := by decide +kernel
theorem d1_15 : decode method_2_code 15 = .ok (.bipush 13, 2) := by decide +kernel
theorem d1_17 : decode method_2_code 17 = .ok (.irem, 1) := by decide +kernel
theorem d1_18 : decode method_2_code 18 = .ok (.iadd, 1) := by decide +kernel
theorem d1_19 : decode method_2_code 19 = .ok (.i2c, 1) := by decide +kernel
theorem d1_20 : decode method_2_code 20 = .ok (.ireturn, 1) := by decide +kernel
theorem d1_21 : decode method_2_code 21 = .ok (.iload_n 0, 1) := by decide +kernel
theorem d1_22 : decode method_2_code 22 = .ok (.ldc 7, 2) := by decide +kernel
theorem d1_24 : decode method_2_code 24 = .ok (.iand, 1) := by decide +kernel
theorem d1_25 : decode method_2_code 25 = .ok (.i2c, 1) := by decide +kernel
theorem d1_26 : decode method_2_code 26 = .ok (.ireturn, 1) := by decide +kernel
theorem pn_1 : plainName "com/example/panelfix/panelfix/io/AsciiDigitsBetweenPinLaw" = true := by first | (simp [plainName, overriddenIn]; done) | decide +kernel
set_option maxRecDepth 65536 in
set_option maxHeartbeats 40000000 in
theorem rmCh (l : Launch) (Z : State) (a0 : Array Value) (hw : ∀ d ∈ tables_1, d.before a0 Z = true) (xp : Int32) (h0 : Heap) (n0 : Nat) (Z0 : n0 ≤ h0.size) :
    Con l (⟨"com/example/panelfix/panelfix/io/AsciiDigitsBetweenPinLaw", "ch", "(I)C"⟩ : MethodName) method_2_code 1 (some .char) ({ frames := 0, cells := 0, slots := 0, locals := 0 } : Room) Z #[(.int xp)] h0 (fun v h L => v = some (.int (own_ch xp)) ∧ Fr n0 L ∧ h = h0) := by
  refine Con.mk (plainFor_of_name pn_1) (fun m => show entryFrame m #[(.int xp)] 1 = mkF m 0 #[.val (.int xp)] [] by first | (simp [entryFrame, mkF, argsToLocals, Value.category]; done) | rfl) ?_
  intro p e s m below meth c s₁ hx hby hml hown hnm hret hlk hZ X0 e0
  have N0 := Fr.nil n0
  show Run p e below s _ _ _ (s₁.setTop (mkF m 0 #[.val (.int xp)] []))
  refine Run.pre (fun _ k => XS.iloadN X0.here hx rfl (hb hby d1_0) rfl  k) ?_
  show Run p e below s _ _ _ (s₁.setTop (mkF m 1 #[.val (.int xp)] [(.int xp)]))
  refine Run.pre (fun _ k => XS.bipush X0.here hx rfl (hb hby d1_1) k) ?_
  show Run p e below s _ _ _ (s₁.setTop (mkF m 3 #[.val (.int xp)] [(.int (16 : Int32)), (.int xp)]))
  refine Run.pre (fun _ k => XS.iushr X0.here hx rfl (hb hby d1_3) rfl k) ?_
  show Run p e below s _ _ _ (s₁.setTop (mkF m 4 #[.val (.int xp)] [(.int ((xp.toUInt32 >>> ((16 : Int32) &&& 31).toUInt32).toInt32))]))
  refine Run.pre (fun _ k => XS.iconst X0.here hx rfl (hb hby d1_4) k) ?_
  show Run p e below s _ _ _ (s₁.setTop (mkF m 5 #[.val (.int xp)] [(.int (1 : Int32)), (.int ((xp.toUInt32 >>> ((16 : Int32) &&& 31).toUInt32).toInt32))]))
  refine Run.pre (fun _ k => XS.iand X0.here hx rfl (hb hby d1_5) rfl k) ?_
  show Run p e below s _ _ _ (s₁.setTop (mkF m 6 #[.val (.int xp)] [(.int (((xp.toUInt32 >>> ((16 : Int32) &&& 31).toUInt32).toInt32) &&& (1 : Int32)))]))
  by_cases hc171 : (((xp.toUInt32 >>> ((16 : Int32) &&& 31).toUInt32).toInt32) &&& (1 : Int32)) = (0 : Int32)
  · skip
    refine Run.pre (fun _ k => XS.ifNo X0.here hx rfl (hb hby d1_6) rfl ((if0 _ _).trans (teq (hc171 : (((xp.toUInt32 >>> ((16 : Int32) &&& 31).toUInt32).toInt32) &&& (1 : Int32)) = (0 : Int32))).2) k) ?_
    show Run p e below s _ _ _ (s₁.setTop (mkF m 9 #[.val (.int xp)] []))
    refine Run.pre (fun _ k => XS.bipush X0.here hx rfl (hb hby d1_9) k) ?_
    show Run p e below s _ _ _ (s₁.setTop (mkF m 11 #[.val (.int xp)] [(.int (47 : Int32))]))
    refine Run.pre (fun _ k => XS.iloadN X0.here hx rfl (hb hby d1_11) rfl  k) ?_
    show Run p e below s _ _ _ (s₁.setTop (mkF m 12 #[.val (.int xp)] [(.int xp), (.int (47 : Int32))]))
    refine Run.pre (X0.ldcInt hx hown (mvT hZ (hw _ (List.mem_of_getElem? (i := 4) rfl))) (g := (mkF m 12 #[.val (.int xp)] [(.int xp), (.int (47 : Int32))])) rfl (hb hby d1_12)) ?_
    show Run p e below s _ _ _ (s₁.setTop (mkF m 14 #[.val (.int xp)] [(.int (65535 : Int32)), (.int xp), (.int (47 : Int32))]))
    refine Run.pre (fun _ k => XS.iand X0.here hx rfl (hb hby d1_14) rfl k) ?_
    show Run p e below s _ _ _ (s₁.setTop (mkF m 15 #[.val (.int xp)] [(.int (xp &&& (65535 : Int32))), (.int (47 : Int32))]))
    refine Run.pre (fun _ k => XS.bipush X0.here hx rfl (hb hby d1_15) k) ?_
    show Run p e below s _ _ _ (s₁.setTop (mkF m 17 #[.val (.int xp)] [(.int (13 : Int32)), (.int (xp &&& (65535 : Int32))), (.int (47 : Int32))]))
    refine Run.pre (fun _ k => iremM X0 hx rfl (hb hby d1_17) rfl (by decide) k) ?_
    show Run p e below s _ _ _ (s₁.setTop (mkF m 18 #[.val (.int xp)] [(.int ((xp &&& (65535 : Int32)) % (13 : Int32))), (.int (47 : Int32))]))
    refine Run.pre (fun _ k => XS.iadd X0.here hx rfl (hb hby d1_18) rfl k) ?_
    show Run p e below s _ _ _ (s₁.setTop (mkF m 19 #[.val (.int xp)] [(.int ((47 : Int32) + ((xp &&& (65535 : Int32)) % (13 : Int32))))]))
    refine Run.pre (fun _ k => XS.i2c X0.here hx rfl (hb hby d1_19) rfl k) ?_
    show Run p e below s _ _ _ (s₁.setTop (mkF m 20 #[.val (.int xp)] [(.int (((47 : Int32) + ((xp &&& (65535 : Int32)) % (13 : Int32))).toUInt32.toUInt16.toUInt32.toInt32))]))
    exact Run.retN X0 hx hret (t := .char) (by simp) hlk (hb hby d1_20) (by first | (rw [e0]; exact ⟨congrArg (fun z => some (Value.int z)) (if_pos hc171).symm, N0, rfl⟩) | exact ⟨congrArg (fun z => some (Value.int z)) (if_pos hc171).symm, N0, rfl⟩) (by decide) (by decide)
  · skip
    refine Run.pre (fun _ k => XS.ifYes X0.here hx rfl (pc0 := 6) (pc' := 21) rfl (hb hby d1_6) rfl ((if0 _ _).trans (feq (hc171 : ¬ ((((xp.toUInt32 >>> ((16 : Int32) &&& 31).toUInt32).toInt32) &&& (1 : Int32)) = (0 : Int32)))).2) (by decide) (by decide) k) ?_
    show Run p e below s _ _ _ (s₁.setTop (mkF m 21 #[.val (.int xp)] []))
    refine Run.pre (fun _ k => XS.iloadN X0.here hx rfl (hb hby d1_21) rfl  k) ?_
    show Run p e below s _ _ _ (s₁.setTop (mkF m 22 #[.val (.int xp)] [(.int xp)]))
    refine Run.pre (X0.ldcInt hx hown (mvT hZ (hw _ (List.mem_of_getElem? (i := 4) rfl))) (g := (mkF m 22 #[.val (.int xp)] [(.int xp)])) rfl (hb hby d1_22)) ?_
    show Run p e below s _ _ _ (s₁.setTop (mkF m 24 #[.val (.int xp)] [(.int (65535 : Int32)), (.int xp)]))
    refine Run.pre (fun _ k => XS.iand X0.here hx rfl (hb hby d1_24) rfl k) ?_
    show Run p e below s _ _ _ (s₁.setTop (mkF m 25 #[.val (.int xp)] [(.int (xp &&& (65535 : Int32)))]))
    refine Run.pre (fun _ k => XS.i2c X0.here hx rfl (hb hby d1_25) rfl k) ?_
    show Run p e below s _ _ _ (s₁.setTop (mkF m 26 #[.val (.int xp)] [(.int ((xp &&& (65535 : Int32)).toUInt32.toUInt16.toUInt32.toInt32))]))
    exact Run.retN X0 hx hret (t := .char) (by simp) hlk (hb hby d1_26) (by first | (rw [e0]; exact ⟨congrArg (fun z => some (Value.int z)) (if_neg hc171).symm, N0, rfl⟩) | exact ⟨congrArg (fun z => some (Value.int z)) (if_neg hc171).symm, N0, rfl⟩) (by decide) (by decide)
theorem d10_0 : decode method_3_code 0 = .ok (.bipush 48, 2) := by decide +kernel
theorem d10_2 : decode method_3_code 2 = .ok (.iload_n 0, 1) := by decide +kernel
theorem d10_3 : decode method_3_code 3 = .ok (.if_icmp .gt 13, 3) := by decide +kernel
theorem d10_16 : decode method_3_code 16 = .ok (.iconst 0, 1) := by decide +kernel
theorem d10_17 : decode method_3_code 17 = .ok (.ireturn, 1) := by decide +kernel
theorem d10_6 : decode method_3_code 6 = .ok (.iload_n 0, 1) := by decide +kernel
theorem d10_7 : decode method_3_code 7 = .ok (.bipush 57, 2) := by decide +kernel
theorem d10_9 : decode method_3_code 9 = .ok (.if_icmp .gt 7, 3) := by decide +kernel
theorem d10_12 : decode method_3_code 12 = .ok (.iconst 1, 1) := by decide +kernel
theorem d10_13 : decode method_3_code 13 = .ok (.goto 4, 3) := by decide +kernel
theorem pn_10 : plainName "com/example/panelfix/panelfix/io/AsciiDigitsBetweenPinLaw" = true := by first | (simp [plainName, overriddenIn]; done) | decide +kernel
set_option maxRecDepth 65536 in
set_option maxHeartbeats 40000000 in
theorem rmDg (l : Launch) (Z : State) (a0 : Array Value) (hw : ∀ d ∈ tables_1, d.before a0 Z = true) (cc : Int32) (h0 : Heap) (n0 : Nat) (Z0 : n0 ≤ h0.size) :
    Con l (⟨"com/example/panelfix/panelfix/io/AsciiDigitsBetweenPinLaw", "digit", "(C)Z"⟩ : MethodName) method_3_code 1 (some .boolean) ({ frames := 0, cells := 0, slots := 0, locals := 0 } : Room) Z #[(.int cc)] h0 (fun v h L => v = some (.int (own_dg cc)) ∧ Fr n0 L ∧ h = h0) := by
  refine Con.mk (plainFor_of_name pn_10) (fun m => show entryFrame m #[(.int cc)] 1 = mkF m 0 #[.val (.int cc)] [] by first | (simp [entryFrame, mkF, argsToLocals, Value.category]; done) | rfl) ?_
  intro p e s m below meth c s₁ hx hby hml hown hnm hret hlk hZ X0 e0
  have N0 := Fr.nil n0
  show Run p e below s _ _ _ (s₁.setTop (mkF m 0 #[.val (.int cc)] []))
  refine Run.pre (fun _ k => XS.bipush X0.here hx rfl (hb hby d10_0) k) ?_
  show Run p e below s _ _ _ (s₁.setTop (mkF m 2 #[.val (.int cc)] [(.int (48 : Int32))]))
  refine Run.pre (fun _ k => XS.iloadN X0.here hx rfl (hb hby d10_2) rfl  k) ?_
  show Run p e below s _ _ _ (s₁.setTop (mkF m 3 #[.val (.int cc)] [(.int cc), (.int (48 : Int32))]))
  by_cases hc172 : cc < (48 : Int32)
  · skip
    refine Run.pre (fun _ k => XS.icmpYes X0.here hx rfl (pc0 := 3) (pc' := 16) rfl (hb hby d10_3) rfl (tlt (hc172 : cc < (48 : Int32))).2.2.1 (by decide) (by decide) k) ?_
    show Run p e below s _ _ _ (s₁.setTop (mkF m 16 #[.val (.int cc)] []))
    refine Run.pre (fun _ k => XS.iconst X0.here hx rfl (hb hby d10_16) k) ?_
    show Run p e below s _ _ _ (s₁.setTop (mkF m 17 #[.val (.int cc)] [(.int (0 : Int32))]))
    exact Run.retN X0 hx hret (t := .boolean) (by simp) hlk (hb hby d10_17) (by first | (rw [e0]; exact ⟨by simp [own_dg, nar, hc172], N0, rfl⟩) | exact ⟨by simp [own_dg, nar, hc172], N0, rfl⟩) (by decide) (by decide)
  · skip
    refine Run.pre (fun _ k => XS.icmpNo X0.here hx rfl (hb hby d10_3) rfl (flt (hc172 : ¬ (cc < (48 : Int32)))).2.2.1 k) ?_
    show Run p e below s _ _ _ (s₁.setTop (mkF m 6 #[.val (.int cc)] []))
    refine Run.pre (fun _ k => XS.iloadN X0.here hx rfl (hb hby d10_6) rfl  k) ?_
    show Run p e below s _ _ _ (s₁.setTop (mkF m 7 #[.val (.int cc)] [(.int cc)]))
    refine Run.pre (fun _ k => XS.bipush X0.here hx rfl (hb hby d10_7) k) ?_
    show Run p e below s _ _ _ (s₁.setTop (mkF m 9 #[.val (.int cc)] [(.int (57 : Int32)), (.int cc)]))
    by_cases hc173 : (57 : Int32) < cc
    · skip
      refine Run.pre (fun _ k => XS.icmpYes X0.here hx rfl (pc0 := 9) (pc' := 16) rfl (hb hby d10_9) rfl (tlt (hc173 : (57 : Int32) < cc)).2.2.1 (by decide) (by decide) k) ?_
      show Run p e below s _ _ _ (s₁.setTop (mkF m 16 #[.val (.int cc)] []))
      refine Run.pre (fun _ k => XS.iconst X0.here hx rfl (hb hby d10_16) k) ?_
      show Run p e below s _ _ _ (s₁.setTop (mkF m 17 #[.val (.int cc)] [(.int (0 : Int32))]))
      exact Run.retN X0 hx hret (t := .boolean) (by simp) hlk (hb hby d10_17) (by first | (rw [e0]; exact ⟨by simp [own_dg, nar, hc172, hc173], N0, rfl⟩) | exact ⟨by simp [own_dg, nar, hc172, hc173], N0, rfl⟩) (by decide) (by decide)
    · skip
      refine Run.pre (fun _ k => XS.icmpNo X0.here hx rfl (hb hby d10_9) rfl (flt (hc173 : ¬ ((57 : Int32) < cc))).2.2.1 k) ?_
      show Run p e below s _ _ _ (s₁.setTop (mkF m 12 #[.val (.int cc)] []))
      refine Run.pre (fun _ k => XS.iconst X0.here hx rfl (hb hby d10_12) k) ?_
      show Run p e below s _ _ _ (s₁.setTop (mkF m 13 #[.val (.int cc)] [(.int (1 : Int32))]))
      refine Run.pre (fun _ k => XS.goto X0.here hx rfl (pc0 := 13) (pc' := 17) rfl (hb hby d10_13) (by decide) (by decide) k) ?_
      show Run p e below s _ _ _ (s₁.setTop (mkF m 17 #[.val (.int cc)] [(.int (1 : Int32))]))
      exact Run.retN X0 hx hret (t := .boolean) (by simp) hlk (hb hby d10_17) (by first | (rw [e0]; exact ⟨by simp [own_dg, nar, hc172, hc173], N0, rfl⟩) | exact ⟨by simp [own_dg, nar, hc172, hc173], N0, rfl⟩) (by decide) (by decide)
theorem d8_0 : decode method_4_code 0 = .ok (.iload_n 2, 1) := by decide +kernel
theorem d8_1 : decode method_4_code 1 = .ok (.iload_n 0, 1) := by decide +kernel
theorem d8_2 : decode method_4_code 2 = .ok (.if_icmp .gt 19, 3) := by decide +kernel
theorem d8_21 : decode method_4_code 21 = .ok (.iconst 0, 1) := by decide +kernel
theorem d8_22 : decode method_4_code 22 = .ok (.ireturn, 1) := by decide +kernel
theorem d8_5 : decode method_4_code 5 = .ok (.iload_n 0, 1) := by decide +kernel
theorem d8_6 : decode method_4_code 6 = .ok (.iload_n 3, 1) := by decide +kernel
theorem d8_7 : decode method_4_code 7 = .ok (.if_icmp .ge 14, 3) := by decide +kernel
theorem d8_10 : decode method_4_code 10 = .ok (.iload_n 1, 1) := by decide +kernel
theorem pd_8 : parseMethodDescriptor "(C)Z" = some ⟨[.char], some .boolean⟩ := by decide +kernel
theorem d8_11 : decode method_4_code 11 = .ok (.invokestatic 8, 3) := by decide +kernel
theorem d8_14 : decode method_4_code 14 = .ok (.ifCond .ne 7, 3) := by decide +kernel
theorem d8_17 : decode method_4_code 17 = .ok (.iconst 1, 1) := by decide +kernel
theorem d8_18 : decode method_4_code 18 = .ok (.goto 4, 3) := by decide +kernel
theorem pn_8 : plainName "com/example/panelfix/panelfix/io/AsciiDigitsBetweenPinLaw" = true := by first | (simp [plainName, overriddenIn]; done) | decide +kernel
set_option maxRecDepth 65536 in
set_option maxHeartbeats 40000000 in
theorem rmBad (l : Launch) (Z : State) (a0 : Array Value) (hw : ∀ d ∈ tables_1, d.before a0 Z = true) (ii : Int32) (cc : Int32) (ss : Int32) (ee : Int32) (h0 : Heap) (n0 : Nat) (Z0 : n0 ≤ h0.size) :
    Con l (⟨"com/example/panelfix/panelfix/io/AsciiDigitsBetweenPinLaw", "badAt", "(ICII)Z"⟩ : MethodName) method_4_code 4 (some .boolean) ({ frames := 1, cells := 0, slots := 0, locals := 12 } : Room) Z #[(.int ii), (.int cc), (.int ss), (.int ee)] h0 (fun v h L => v = some (.int (own_bad ii cc ss ee)) ∧ Fr n0 L ∧ h = h0) := by
  refine Con.mk (plainFor_of_name pn_8) (fun m => show entryFrame m #[(.int ii), (.int cc), (.int ss), (.int ee)] 4 = mkF m 0 #[.val (.int ii), .val (.int cc), .val (.int ss), .val (.int ee)] [] by first | (simp [entryFrame, mkF, argsToLocals, Value.category]; done) | rfl) ?_
  intro p e s m below meth c s₁ hx hby hml hown hnm hret hlk hZ X0 e0
  have N0 := Fr.nil n0
  show Run p e below s _ _ _ (s₁.setTop (mkF m 0 #[.val (.int ii), .val (.int cc), .val (.int ss), .val (.int ee)] []))
  refine Run.pre (fun _ k => XS.iloadN X0.here hx rfl (hb hby d8_0) rfl  k) ?_
  show Run p e below s _ _ _ (s₁.setTop (mkF m 1 #[.val (.int ii), .val (.int cc), .val (.int ss), .val (.int ee)] [(.int ss)]))
  refine Run.pre (fun _ k => XS.iloadN X0.here hx rfl (hb hby d8_1) rfl  k) ?_
  show Run p e below s _ _ _ (s₁.setTop (mkF m 2 #[.val (.int ii), .val (.int cc), .val (.int ss), .val (.int ee)] [(.int ii), (.int ss)]))
  by_cases hc174 : ii < ss
  · skip
    refine Run.pre (fun _ k => XS.icmpYes X0.here hx rfl (pc0 := 2) (pc' := 21) rfl (hb hby d8_2) rfl (tlt (hc174 : ii < ss)).2.2.1 (by decide) (by decide) k) ?_
    show Run p e below s _ _ _ (s₁.setTop (mkF m 21 #[.val (.int ii), .val (.int cc), .val (.int ss), .val (.int ee)] []))
    refine Run.pre (fun _ k => XS.iconst X0.here hx rfl (hb hby d8_21) k) ?_
    show Run p e below s _ _ _ (s₁.setTop (mkF m 22 #[.val (.int ii), .val (.int cc), .val (.int ss), .val (.int ee)] [(.int (0 : Int32))]))
    exact Run.retN X0 hx hret (t := .boolean) (by simp) hlk (hb hby d8_22) (by first | (rw [e0]; exact ⟨by simp [own_bad, nar, hc174], N0, rfl⟩) | exact ⟨by simp [own_bad, nar, hc174], N0, rfl⟩) (by decide) (by decide)
  · skip
    refine Run.pre (fun _ k => XS.icmpNo X0.here hx rfl (hb hby d8_2) rfl (flt (hc174 : ¬ (ii < ss))).2.2.1 k) ?_
    show Run p e below s _ _ _ (s₁.setTop (mkF m 5 #[.val (.int ii), .val (.int cc), .val (.int ss), .val (.int ee)] []))
    refine Run.pre (fun _ k => XS.iloadN X0.here hx rfl (hb hby d8_5) rfl  k) ?_
    show Run p e below s _ _ _ (s₁.setTop (mkF m 6 #[.val (.int ii), .val (.int cc), .val (.int ss), .val (.int ee)] [(.int ii)]))
    refine Run.pre (fun _ k => XS.iloadN X0.here hx rfl (hb hby d8_6) rfl  k) ?_
    show Run p e below s _ _ _ (s₁.setTop (mkF m 7 #[.val (.int ii), .val (.int cc), .val (.int ss), .val (.int ee)] [(.int ee), (.int ii)]))
    by_cases hc175 : ii < ee
    · skip
      refine Run.pre (fun _ k => XS.icmpNo X0.here hx rfl (hb hby d8_7) rfl (tlt (hc175 : ii < ee)).2.1 k) ?_
      show Run p e below s _ _ _ (s₁.setTop (mkF m 10 #[.val (.int ii), .val (.int cc), .val (.int ss), .val (.int ee)] []))
      refine Run.pre (fun _ k => XS.iloadN X0.here hx rfl (hb hby d8_10) rfl  k) ?_
      show Run p e below s _ _ _ (s₁.setTop (mkF m 11 #[.val (.int ii), .val (.int cc), .val (.int ss), .val (.int ee)] [(.int cc)]))
      refine Run.callS X0 hx hZ (y := (⟨"com/example/panelfix/panelfix/io/AsciiDigitsBetweenPinLaw", "digit", "(C)Z"⟩ : MethodName)) hown (hw _ (List.mem_of_getElem? (i := 42) rfl)) (hw _ (List.mem_of_getElem? (i := 43) rfl)) (hw _ (List.mem_of_getElem? (i := 2) rfl)) (hw _ (List.mem_of_getElem? (i := 44) rfl)) (by decide) (W := 0) (rmDg l Z a0 hw cc h0 n0 (Nat.le_trans Z0 (Keep.refl h0 []).1)) e0 (by decide) (by decide) (by decide) (by decide) (g := (mkF m 11 #[.val (.int ii), .val (.int cc), .val (.int ss), .val (.int ee)] [(.int cc)])) rfl (by rw [hml]; rfl) (argsL := [(.int cc)]) (rest := []) (lenOf pd_8 rfl) rfl (by show 2 * 0 + _ ≤ _; exact Nat.le_of_eq rfl) (hb hby d8_11) ?_
      intro v176 T176 L176 X176 hQ176
      obtain ⟨rfl, Nq176, he176⟩ := hQ176
      have N176 := Fr.app N0 Nq176
      have e176 : T176.heap = h0 := he176
      show Run p e below s _ _ _ (T176.setTop (mkF m 14 #[.val (.int ii), .val (.int cc), .val (.int ss), .val (.int ee)] [(.int (own_dg cc))]))
      by_cases hc177 : (own_dg cc) = (0 : Int32)
      · skip
        refine Run.pre (fun _ k => XS.ifNo X176.here hx rfl (hb hby d8_14) rfl ((if0 _ _).trans (teq (hc177 : (own_dg cc) = (0 : Int32))).2) k) ?_
        show Run p e below s _ _ _ (T176.setTop (mkF m 17 #[.val (.int ii), .val (.int cc), .val (.int ss), .val (.int ee)] []))
        refine Run.pre (fun _ k => XS.iconst X176.here hx rfl (hb hby d8_17) k) ?_
        show Run p e below s _ _ _ (T176.setTop (mkF m 18 #[.val (.int ii), .val (.int cc), .val (.int ss), .val (.int ee)] [(.int (1 : Int32))]))
        refine Run.pre (fun _ k => XS.goto X176.here hx rfl (pc0 := 18) (pc' := 22) rfl (hb hby d8_18) (by decide) (by decide) k) ?_
        show Run p e below s _ _ _ (T176.setTop (mkF m 22 #[.val (.int ii), .val (.int cc), .val (.int ss), .val (.int ee)] [(.int (1 : Int32))]))
        exact Run.retN X176 hx hret (t := .boolean) (by simp) hlk (hb hby d8_22) (by first | (rw [e176]; exact ⟨by simp [own_bad, nar, hc174, hc175, hc177], N176, rfl⟩) | exact ⟨by simp [own_bad, nar, hc174, hc175, hc177], N176, rfl⟩) (by decide) (by decide)
      · skip
        refine Run.pre (fun _ k => XS.ifYes X176.here hx rfl (pc0 := 14) (pc' := 21) rfl (hb hby d8_14) rfl ((if0 _ _).trans (feq (hc177 : ¬ ((own_dg cc) = (0 : Int32)))).2) (by decide) (by decide) k) ?_
        show Run p e below s _ _ _ (T176.setTop (mkF m 21 #[.val (.int ii), .val (.int cc), .val (.int ss), .val (.int ee)] []))
        refine Run.pre (fun _ k => XS.iconst X176.here hx rfl (hb hby d8_21) k) ?_
        show Run p e below s _ _ _ (T176.setTop (mkF m 22 #[.val (.int ii), .val (.int cc), .val (.int ss), .val (.int ee)] [(.int (0 : Int32))]))
        exact Run.retN X176 hx hret (t := .boolean) (by simp) hlk (hb hby d8_22) (by first | (rw [e176]; exact ⟨by simp [own_bad, nar, hc174, hc175, hc177], N176, rfl⟩) | exact ⟨by simp [own_bad, nar, hc174, hc175, hc177], N176, rfl⟩) (by decide) (by decide)
    · skip
      refine Run.pre (fun _ k => XS.icmpYes X0.here hx rfl (pc0 := 7) (pc' := 21) rfl (hb hby d8_7) rfl (flt (hc175 : ¬ (ii < ee))).2.1 (by decide) (by decide) k) ?_
      show Run p e below s _ _ _ (s₁.setTop (mkF m 21 #[.val (.int ii), .val (.int cc), .val (.int ss), .val (.int ee)] []))
      refine Run.pre (fun _ k => XS.iconst X0.here hx rfl (hb hby d8_21) k) ?_
      show Run p e below s _ _ _ (s₁.setTop (mkF m 22 #[.val (.int ii), .val (.int cc), .val (.int ss), .val (.int ee)] [(.int (0 : Int32))]))
      exact Run.retN X0 hx hret (t := .boolean) (by simp) hlk (hb hby d8_22) (by first | (rw [e0]; exact ⟨by simp [own_bad, nar, hc174, hc175], N0, rfl⟩) | exact ⟨by simp [own_bad, nar, hc174, hc175], N0, rfl⟩) (by decide) (by decide)
theorem d12_0 : decode jdk_42_method_154_code 0 = .ok (.getstatic 38, 3) := by decide +kernel
theorem d12_3 : decode jdk_42_method_154_code 3 = .ok (.ifCond .eq 14, 3) := by decide +kernel
theorem d12_6 : decode jdk_42_method_154_code 6 = .ok (.aload_n 0, 1) := by decide +kernel
theorem d12_7 : decode jdk_42_method_154_code 7 = .ok (.getfield 15, 3) := by decide +kernel
theorem d12_10 : decode jdk_42_method_154_code 10 = .ok (.ifCond .ne 7, 3) := by decide +kernel
theorem d12_13 : decode jdk_42_method_154_code 13 = .ok (.iconst 1, 1) := by decide +kernel
theorem d12_14 : decode jdk_42_method_154_code 14 = .ok (.goto 4, 3) := by decide +kernel
theorem d12_18 : decode jdk_42_method_154_code 18 = .ok (.ireturn, 1) := by decide +kernel
theorem pn_12 : plainName "java/lang/String" = true := by first | (simp [plainName, overriddenIn]; done) | decide +kernel
set_option maxRecDepth 65536 in
set_option maxHeartbeats 40000000 in
theorem rmIL_0 (l : Launch) (Z : State) (a0 : Array Value) (hw : ∀ d ∈ tables_1, d.before a0 Z = true) (a : Addr) (cs : Int32) (h0 : Heap) (n0 : Nat) (Z0 : n0 ≤ h0.size) (OL : Old Z n0 h0) (SC : Sta Z Z.heap "java/lang/String" "COMPACT_STRINGS" "Z" (.int cs)) (hcs : ¬ cs = 0) (FCo : Fld Z h0 a "java/lang/String" "coder" "B" (.int 0)) :
    Con l (⟨"java/lang/String", "isLatin1", "()Z"⟩ : MethodName) jdk_42_method_154_code 1 (some .boolean) ({ frames := 0, cells := 0, slots := 0, locals := 0 } : Room) Z #[(.ref a)] h0 (fun v h L => v = some (.int 1) ∧ Fr n0 L ∧ h = h0) := by
  refine Con.mk (plainFor_of_name pn_12) (fun m => show entryFrame m #[(.ref a)] 1 = mkF m 0 #[.val (.ref a)] [] by first | (simp [entryFrame, mkF, argsToLocals, Value.category]; done) | rfl) ?_
  intro p e s m below meth c s₁ hx hby hml hown hnm hret hlk hZ X0 e0
  have N0 := Fr.nil n0
  show Run p e below s _ _ _ (s₁.setTop (mkF m 0 #[.val (.ref a)] []))
  obtain ⟨T178, X178, e178, st178⟩ := getS2 X0 hx hZ hown (host := "") (Or.inl (hw _ (List.mem_of_getElem? (i := 19) rfl))) Via.refl e0 (SC.ext OL.2) (g := (mkF m 0 #[.val (.ref a)] [])) rfl (hb hby d12_0)
  refine Run.pre st178 ?_
  show Run p e below s _ _ _ (T178.setTop (mkF m 3 #[.val (.ref a)] [(.int cs)]))
  refine Run.pre (fun _ k => XS.ifNo X178.here hx rfl (hb hby d12_3) rfl ((if0 _ _).trans (feq (hcs : ¬ (cs = (0 : Int32)))).1) k) ?_
  show Run p e below s _ _ _ (T178.setTop (mkF m 6 #[.val (.ref a)] []))
  refine Run.pre (fun _ k => XS.aloadN X178.here hx rfl (hb hby d12_6) rfl rfl k) ?_
  show Run p e below s _ _ _ (T178.setTop (mkF m 7 #[.val (.ref a)] [(.ref a)]))
  obtain ⟨T179, X179, e179, st179⟩ := getF X178 hx hZ hown (host := "") (Or.inl (hw _ (List.mem_of_getElem? (i := 31) rfl))) Via.refl e178 FCo (g := (mkF m 7 #[.val (.ref a)] [(.ref a)])) rfl rfl (hb hby d12_7)
  refine Run.pre st179 ?_
  show Run p e below s _ _ _ (T179.setTop (mkF m 10 #[.val (.ref a)] [(.int (0 : Int32))]))
  refine Run.pre (fun _ k => XS.ifNo X179.here hx rfl (hb hby d12_10) rfl ((if0 _ _).trans (teq ((by decide) : (0 : Int32) = (0 : Int32))).2) k) ?_
  show Run p e below s _ _ _ (T179.setTop (mkF m 13 #[.val (.ref a)] []))
  refine Run.pre (fun _ k => XS.iconst X179.here hx rfl (hb hby d12_13) k) ?_
  show Run p e below s _ _ _ (T179.setTop (mkF m 14 #[.val (.ref a)] [(.int (1 : Int32))]))
  refine Run.pre (fun _ k => XS.goto X179.here hx rfl (pc0 := 14) (pc' := 18) rfl (hb hby d12_14) (by decide) (by decide) k) ?_
  show Run p e below s _ _ _ (T179.setTop (mkF m 18 #[.val (.ref a)] [(.int (1 : Int32))]))
  exact Run.retN X179 hx hret (t := .boolean) (by simp) hlk (hb hby d12_18) (by first | (rw [e179]; exact ⟨rfl, N0, rfl⟩) | exact ⟨rfl, N0, rfl⟩) (by decide) (by decide)
theorem d12_17 : decode jdk_42_method_154_code 17 = .ok (.iconst 0, 1) := by decide +kernel
set_option maxRecDepth 65536 in
set_option maxHeartbeats 40000000 in
theorem rmIL_1 (l : Launch) (Z : State) (a0 : Array Value) (hw : ∀ d ∈ tables_1, d.before a0 Z = true) (a : Addr) (cs : Int32) (h0 : Heap) (n0 : Nat) (Z0 : n0 ≤ h0.size) (OL : Old Z n0 h0) (SC : Sta Z Z.heap "java/lang/String" "COMPACT_STRINGS" "Z" (.int cs)) (hcs : ¬ cs = 0) (FCo : Fld Z h0 a "java/lang/String" "coder" "B" (.int 1)) :
    Con l (⟨"java/lang/String", "isLatin1", "()Z"⟩ : MethodName) jdk_42_method_154_code 1 (some .boolean) ({ frames := 0, cells := 0, slots := 0, locals := 0 } : Room) Z #[(.ref a)] h0 (fun v h L => v = some (.int 0) ∧ Fr n0 L ∧ h = h0) := by
  refine Con.mk (plainFor_of_name pn_12) (fun m => show entryFrame m #[(.ref a)] 1 = mkF m 0 #[.val (.ref a)] [] by first | (simp [entryFrame, mkF, argsToLocals, Value.category]; done) | rfl) ?_
  intro p e s m below meth c s₁ hx hby hml hown hnm hret hlk hZ X0 e0
  have N0 := Fr.nil n0
  show Run p e below s _ _ _ (s₁.setTop (mkF m 0 #[.val (.ref a)] []))
  obtain ⟨T180, X180, e180, st180⟩ := getS2 X0 hx hZ hown (host := "") (Or.inl (hw _ (List.mem_of_getElem? (i := 19) rfl))) Via.refl e0 (SC.ext OL.2) (g := (mkF m 0 #[.val (.ref a)] [])) rfl (hb hby d12_0)
  refine Run.pre st180 ?_
  show Run p e below s _ _ _ (T180.setTop (mkF m 3 #[.val (.ref a)] [(.int cs)]))
  refine Run.pre (fun _ k => XS.ifNo X180.here hx rfl (hb hby d12_3) rfl ((if0 _ _).trans (feq (hcs : ¬ (cs = (0 : Int32)))).1) k) ?_
  show Run p e below s _ _ _ (T180.setTop (mkF m 6 #[.val (.ref a)] []))
  refine Run.pre (fun _ k => XS.aloadN X180.here hx rfl (hb hby d12_6) rfl rfl k) ?_
  show Run p e below s _ _ _ (T180.setTop (mkF m 7 #[.val (.ref a)] [(.ref a)]))
  obtain ⟨T181, X181, e181, st181⟩ := getF X180 hx hZ hown (host := "") (Or.inl (hw _ (List.mem_of_getElem? (i := 31) rfl))) Via.refl e180 FCo (g := (mkF m 7 #[.val (.ref a)] [(.ref a)])) rfl rfl (hb hby d12_7)
  refine Run.pre st181 ?_
  show Run p e below s _ _ _ (T181.setTop (mkF m 10 #[.val (.ref a)] [(.int (1 : Int32))]))
  refine Run.pre (fun _ k => XS.ifYes X181.here hx rfl (pc0 := 10) (pc' := 17) rfl (hb hby d12_10) rfl ((if0 _ _).trans (feq ((by decide) : ¬ ((1 : Int32) = (0 : Int32)))).2) (by decide) (by decide) k) ?_
  show Run p e below s _ _ _ (T181.setTop (mkF m 17 #[.val (.ref a)] []))
  refine Run.pre (fun _ k => XS.iconst X181.here hx rfl (hb hby d12_17) k) ?_
  show Run p e below s _ _ _ (T181.setTop (mkF m 18 #[.val (.ref a)] [(.int (0 : Int32))]))
  exact Run.retN X181 hx hret (t := .boolean) (by simp) hlk (hb hby d12_18) (by first | (rw [e181]; exact ⟨rfl, N0, rfl⟩) | exact ⟨rfl, N0, rfl⟩) (by decide) (by decide)
theorem d23_0 : decode jdk_52_method_6_code 0 = .ok (.aload_n 0, 1) := by decide +kernel
theorem d23_1 : decode jdk_52_method_6_code 1 = .ok (.arraylength, 1) := by decide +kernel
theorem d23_2 : decode jdk_52_method_6_code 2 = .ok (.iconst 1, 1) := by decide +kernel
theorem d23_3 : decode jdk_52_method_6_code 3 = .ok (.ishr, 1) := by decide +kernel
theorem d23_4 : decode jdk_52_method_6_code 4 = .ok (.ireturn, 1) := by decide +kernel
theorem pn_23 : plainName "java/lang/StringUTF16" = true := by first | (simp [plainName, overriddenIn]; done) | decide +kernel
set_option maxRecDepth 65536 in
set_option maxHeartbeats 40000000 in
theorem rmUL (l : Launch) (Z : State) (a0 : Array Value) (hw : ∀ d ∈ tables_1, d.before a0 Z = true) (b : Addr) (k : ClassId) (c0 : Int32) (c1 : Int32) (c2 : Int32) (c3 : Int32) (h0 : Heap) (n0 : Nat) (Z0 : n0 ≤ h0.size) (AB : Arv Z h0 b k .byte 8 [(.int (own_b0 c0)), (.int (own_b1 c0)), (.int (own_b0 c1)), (.int (own_b1 c1)), (.int (own_b0 c2)), (.int (own_b1 c2)), (.int (own_b0 c3)), (.int (own_b1 c3))] (.int 0)) :
    Con l (⟨"java/lang/StringUTF16", "length", "([B)I"⟩ : MethodName) jdk_52_method_6_code 1 (some .int) ({ frames := 0, cells := 0, slots := 0, locals := 0 } : Room) Z #[(.ref b)] h0 (fun v h L => v = some (.int 4) ∧ Fr n0 L ∧ h = h0) := by
  refine Con.mk (plainFor_of_name pn_23) (fun m => show entryFrame m #[(.ref b)] 1 = mkF m 0 #[.val (.ref b)] [] by first | (simp [entryFrame, mkF, argsToLocals, Value.category]; done) | rfl) ?_
  intro p e s m below meth c s₁ hx hby hml hown hnm hret hlk hZ X0 e0
  have N0 := Fr.nil n0
  show Run p e below s _ _ _ (s₁.setTop (mkF m 0 #[.val (.ref b)] []))
  refine Run.pre (fun _ k => XS.aloadN X0.here hx rfl (hb hby d23_0) rfl rfl k) ?_
  show Run p e below s _ _ _ (s₁.setTop (mkF m 1 #[.val (.ref b)] [(.ref b)]))
  obtain ⟨c182, Ar182, -, S182, N182, -, -⟩ := id AB
  refine Run.pre (X0.arraylength hx (by rw [e0]; exact Ar182.1) (State.isArrayOf_alike hZ.alike Ar182.2.1) (g := (mkF m 1 #[.val (.ref b)] [(.ref b)])) rfl rfl (hb hby d23_1)) ?_
  rw [len_of S182 N182]
  show Run p e below s _ _ _ (s₁.setTop (mkF m 2 #[.val (.ref b)] [(.int (8 : Int32))]))
  refine Run.pre (fun _ k => XS.iconst X0.here hx rfl (hb hby d23_2) k) ?_
  show Run p e below s _ _ _ (s₁.setTop (mkF m 3 #[.val (.ref b)] [(.int (1 : Int32)), (.int (8 : Int32))]))
  refine Run.pre (fun _ k => XS.ishr X0.here hx rfl (hb hby d23_3) rfl k) ?_
  show Run p e below s _ _ _ (s₁.setTop (mkF m 4 #[.val (.ref b)] [(.int (4 : Int32))]))
  exact Run.retI X0 hx hret hlk (hb hby d23_4) (by first | (rw [e0]; exact ⟨rfl, N0, rfl⟩) | exact ⟨rfl, N0, rfl⟩) (by decide) (by decide)
theorem d13_0 : decode jdk_43_method_2_code 0 = .ok (.iload_n 1, 1) := by decide +kernel
theorem d13_1 : decode jdk_43_method_2_code 1 = .ok (.aload_n 0, 1) := by decide +kernel
theorem d13_2 : decode jdk_43_method_2_code 2 = .ok (.arraylength, 1) := by decide +kernel
theorem d15_0 : decode jdk_41_method_11_code 0 = .ok (.iload_n 0, 1) := by decide +kernel
theorem d15_1 : decode jdk_41_method_11_code 1 = .ok (.ifCond .lt 8, 3) := by decide +kernel
theorem d15_4 : decode jdk_41_method_11_code 4 = .ok (.iload_n 0, 1) := by decide +kernel
theorem d15_5 : decode jdk_41_method_11_code 5 = .ok (.iload_n 1, 1) := by decide +kernel
theorem d15_6 : decode jdk_41_method_11_code 6 = .ok (.if_icmp .lt 10, 3) := by decide +kernel
theorem d15_16 : decode jdk_41_method_11_code 16 = .ok (.iload_n 0, 1) := by decide +kernel
theorem d15_17 : decode jdk_41_method_11_code 17 = .ok (.ireturn, 1) := by decide +kernel
theorem pn_15 : plainName "jdk/internal/util/Preconditions" = true := by first | (simp [plainName, overriddenIn]; done) | decide +kernel
set_option maxRecDepth 65536 in
set_option maxHeartbeats 40000000 in
theorem rmPX_0_4 (l : Launch) (Z : State) (a0 : Array Value) (hw : ∀ d ∈ tables_1, d.before a0 Z = true) (fw : Value) (h0 : Heap) (n0 : Nat) (Z0 : n0 ≤ h0.size) (hfw : fw.isRef = true) :
    Con l (⟨"jdk/internal/util/Preconditions", "checkIndex", "(IILjava/util/function/BiFunction;)I"⟩ : MethodName) jdk_41_method_11_code 3 (some .int) ({ frames := 0, cells := 0, slots := 0, locals := 0 } : Room) Z #[(.int (0 : Int32)), (.int (4 : Int32)), fw] h0 (fun v h L => v = some (.int 0) ∧ Fr n0 L ∧ h = h0) := by
  refine Con.mk (plainFor_of_name pn_15) (fun m => show entryFrame m #[(.int (0 : Int32)), (.int (4 : Int32)), fw] 3 = mkF m 0 #[.val (.int (0 : Int32)), .val (.int (4 : Int32)), .val fw] [] by rcases ref_cases hfw with hq | ⟨_, hq⟩ <;> subst hq <;> first | (simp [entryFrame, mkF, argsToLocals, Value.category]; done) | rfl) ?_
  intro p e s m below meth c s₁ hx hby hml hown hnm hret hlk hZ X0 e0
  have N0 := Fr.nil n0
  show Run p e below s _ _ _ (s₁.setTop (mkF m 0 #[.val (.int (0 : Int32)), .val (.int (4 : Int32)), .val fw] []))
  refine Run.pre (fun _ k => XS.iloadN X0.here hx rfl (hb hby d15_0) rfl  k) ?_
  show Run p e below s _ _ _ (s₁.setTop (mkF m 1 #[.val (.int (0 : Int32)), .val (.int (4 : Int32)), .val fw] [(.int (0 : Int32))]))
  refine Run.pre (fun _ k => XS.ifNo X0.here hx rfl (hb hby d15_1) rfl ((if0 _ _).trans (flt ((by decide) : ¬ ((0 : Int32) < (0 : Int32)))).1) k) ?_
  show Run p e below s _ _ _ (s₁.setTop (mkF m 4 #[.val (.int (0 : Int32)), .val (.int (4 : Int32)), .val fw] []))
  refine Run.pre (fun _ k => XS.iloadN X0.here hx rfl (hb hby d15_4) rfl  k) ?_
  show Run p e below s _ _ _ (s₁.setTop (mkF m 5 #[.val (.int (0 : Int32)), .val (.int (4 : Int32)), .val fw] [(.int (0 : Int32))]))
  refine Run.pre (fun _ k => XS.iloadN X0.here hx rfl (hb hby d15_5) rfl  k) ?_
  show Run p e below s _ _ _ (s₁.setTop (mkF m 6 #[.val (.int (0 : Int32)), .val (.int (4 : Int32)), .val fw] [(.int (4 : Int32)), (.int (0 : Int32))]))
  refine Run.pre (fun _ k => XS.icmpYes X0.here hx rfl (pc0 := 6) (pc' := 16) rfl (hb hby d15_6) rfl (tlt ((by decide) : (0 : Int32) < (4 : Int32))).1 (by decide) (by decide) k) ?_
  show Run p e below s _ _ _ (s₁.setTop (mkF m 16 #[.val (.int (0 : Int32)), .val (.int (4 : Int32)), .val fw] []))
  refine Run.pre (fun _ k => XS.iloadN X0.here hx rfl (hb hby d15_16) rfl  k) ?_
  show Run p e below s _ _ _ (s₁.setTop (mkF m 17 #[.val (.int (0 : Int32)), .val (.int (4 : Int32)), .val fw] [(.int (0 : Int32))]))
  exact Run.retI X0 hx hret hlk (hb hby d15_17) (by first | (rw [e0]; exact ⟨rfl, N0, rfl⟩) | exact ⟨rfl, N0, rfl⟩) (by decide) (by decide)
theorem d14_0 : decode jdk_42_method_155_code 0 = .ok (.iload_n 0, 1) := by decide +kernel
theorem d14_1 : decode jdk_42_method_155_code 1 = .ok (.iload_n 1, 1) := by decide +kernel
theorem d14_2 : decode jdk_42_method_155_code 2 = .ok (.getstatic 1053, 3) := by decide +kernel
theorem pd_9 : parseMethodDescriptor "(IILjava/util/function/BiFunction;)I" = some ⟨[.int, .int, (.object "java/util/function/BiFunction")], some .int⟩ := by decide +kernel
theorem d14_5 : decode jdk_42_method_155_code 5 = .ok (.invokestatic 1059, 3) := by decide +kernel
theorem d14_8 : decode jdk_42_method_155_code 8 = .ok (.pop, 1) := by decide +kernel
theorem d14_9 : decode jdk_42_method_155_code 9 = .ok (.return_, 1) := by decide +kernel
theorem pn_14 : plainName "java/lang/String" = true := by first | (simp [plainName, overriddenIn]; done) | decide +kernel
set_option maxRecDepth 65536 in
set_option maxHeartbeats 40000000 in
theorem rmCX_0_4 (l : Launch) (Z : State) (a0 : Array Value) (hw : ∀ d ∈ tables_1, d.before a0 Z = true) (fw : Value) (h0 : Heap) (n0 : Nat) (Z0 : n0 ≤ h0.size) (OL : Old Z n0 h0) (SF : Sta Z Z.heap "jdk/internal/util/Preconditions" "SIOOBE_FORMATTER" "Ljava/util/function/BiFunction;" fw) (hfw : fw.isRef = true) :
    Con l (⟨"java/lang/String", "checkIndex", "(II)V"⟩ : MethodName) jdk_42_method_155_code 2 none ({ frames := 1, cells := 0, slots := 0, locals := 14 } : Room) Z #[(.int (0 : Int32)), (.int (4 : Int32))] h0 (fun v h L => v = none ∧ Fr n0 L ∧ h = h0) := by
  refine Con.mk (plainFor_of_name pn_14) (fun m => show entryFrame m #[(.int (0 : Int32)), (.int (4 : Int32))] 2 = mkF m 0 #[.val (.int (0 : Int32)), .val (.int (4 : Int32))] [] by first | (simp [entryFrame, mkF, argsToLocals, Value.category]; done) | rfl) ?_
  intro p e s m below meth c s₁ hx hby hml hown hnm hret hlk hZ X0 e0
  have N0 := Fr.nil n0
  show Run p e below s _ _ _ (s₁.setTop (mkF m 0 #[.val (.int (0 : Int32)), .val (.int (4 : Int32))] []))
  refine Run.pre (fun _ k => XS.iloadN X0.here hx rfl (hb hby d14_0) rfl  k) ?_
  show Run p e below s _ _ _ (s₁.setTop (mkF m 1 #[.val (.int (0 : Int32)), .val (.int (4 : Int32))] [(.int (0 : Int32))]))
  refine Run.pre (fun _ k => XS.iloadN X0.here hx rfl (hb hby d14_1) rfl  k) ?_
  show Run p e below s _ _ _ (s₁.setTop (mkF m 2 #[.val (.int (0 : Int32)), .val (.int (4 : Int32))] [(.int (4 : Int32)), (.int (0 : Int32))]))
  obtain ⟨T184, X184, e184, st184⟩ := getS2 X0 hx hZ hown (host := "") (Or.inl (hw _ (List.mem_of_getElem? (i := 62) rfl))) Via.refl e0 (SF.ext OL.2) (g := (mkF m 2 #[.val (.int (0 : Int32)), .val (.int (4 : Int32))] [(.int (4 : Int32)), (.int (0 : Int32))])) rfl (hb hby d14_2)
  refine Run.pre st184 ?_
  show Run p e below s _ _ _ (T184.setTop (mkF m 5 #[.val (.int (0 : Int32)), .val (.int (4 : Int32))] [fw, (.int (4 : Int32)), (.int (0 : Int32))]))
  refine Run.callS X184 hx hZ (y := (⟨"jdk/internal/util/Preconditions", "checkIndex", "(IILjava/util/function/BiFunction;)I"⟩ : MethodName)) hown (hw _ (List.mem_of_getElem? (i := 64) rfl)) (hw _ (List.mem_of_getElem? (i := 65) rfl)) (hw _ (List.mem_of_getElem? (i := 63) rfl)) (hw _ (List.mem_of_getElem? (i := 66) rfl)) (by decide) (W := 0) (rmPX_0_4 l Z a0 hw fw h0 n0 (Nat.le_trans Z0 (Keep.refl h0 []).1) hfw) e184 (by decide) (by decide) (by decide) (by decide) (g := (mkF m 5 #[.val (.int (0 : Int32)), .val (.int (4 : Int32))] [fw, (.int (4 : Int32)), (.int (0 : Int32))])) rfl (by rw [hml]; rfl) (argsL := [(.int (0 : Int32)), (.int (4 : Int32)), fw]) (rest := []) (lenOf pd_9 rfl) rfl (by show 2 * 0 + _ ≤ _; exact Nat.le_of_eq rfl) (hb hby d14_5) ?_
  intro v185 T185 L185 X185 hQ185
  obtain ⟨rfl, Nq185, he185⟩ := hQ185
  have N185 := Fr.app N0 Nq185
  have e185 : T185.heap = h0 := he185
  show Run p e below s _ _ _ (T185.setTop (mkF m 8 #[.val (.int (0 : Int32)), .val (.int (4 : Int32))] [(.int (0 : Int32))]))
  refine Run.pre (fun _ k => XS.pop X185.here hx rfl (hb hby d14_8) rfl rfl k) ?_
  show Run p e below s _ _ _ (T185.setTop (mkF m 9 #[.val (.int (0 : Int32)), .val (.int (4 : Int32))] []))
  exact Run.retV X185 hx hret hlk (hb hby d14_9) (by first | (rw [e185]; exact ⟨rfl, N185, rfl⟩) | exact ⟨rfl, N185, rfl⟩) (by decide) (by decide)
theorem pd_10 : parseMethodDescriptor "(II)V" = some ⟨[.int, .int], none⟩ := by decide +kernel
theorem d13_3 : decode jdk_43_method_2_code 3 = .ok (.invokestatic 9, 3) := by decide +kernel
theorem d13_6 : decode jdk_43_method_2_code 6 = .ok (.aload_n 0, 1) := by decide +kernel
theorem d13_7 : decode jdk_43_method_2_code 7 = .ok (.iload_n 1, 1) := by decide +kernel
theorem d13_8 : decode jdk_43_method_2_code 8 = .ok (.baload, 1) := by decide +kernel
theorem d13_9 : decode jdk_43_method_2_code 9 = .ok (.sipush 255, 3) := by decide +kernel
theorem d13_12 : decode jdk_43_method_2_code 12 = .ok (.iand, 1) := by decide +kernel
theorem d13_13 : decode jdk_43_method_2_code 13 = .ok (.i2c, 1) := by decide +kernel
theorem d13_14 : decode jdk_43_method_2_code 14 = .ok (.ireturn, 1) := by decide +kernel
theorem pn_13 : plainName "java/lang/StringLatin1" = true := by first | (simp [plainName, overriddenIn]; done) | decide +kernel
set_option maxRecDepth 65536 in
set_option maxHeartbeats 40000000 in
theorem rmLC_0 (l : Launch) (Z : State) (a0 : Array Value) (hw : ∀ d ∈ tables_1, d.before a0 Z = true) (b : Addr) (k : ClassId) (c0 : Int32) (c1 : Int32) (c2 : Int32) (c3 : Int32) (fw : Value) (h0 : Heap) (n0 : Nat) (Z0 : n0 ≤ h0.size) (OL : Old Z n0 h0) (SF : Sta Z Z.heap "jdk/internal/util/Preconditions" "SIOOBE_FORMATTER" "Ljava/util/function/BiFunction;" fw) (hfw : fw.isRef = true) (AB : Arv Z h0 b k .byte 4 [(.int (nar .byte (c0.toInt8.toInt32))), (.int (nar .byte (c1.toInt8.toInt32))), (.int (nar .byte (c2.toInt8.toInt32))), (.int (nar .byte (c3.toInt8.toInt32)))] (.int 0)) (wi : nar .char c0 = c0) (qi : ¬ (255 : Int32) < c0) :
    Con l (⟨"java/lang/StringLatin1", "charAt", "([BI)C"⟩ : MethodName) jdk_43_method_2_code 2 (some .char) ({ frames := 2, cells := 0, slots := 0, locals := 27 } : Room) Z #[(.ref b), (.int (0 : Int32))] h0 (fun v h L => v = some (.int c0) ∧ Fr n0 L ∧ h = h0) := by
  refine Con.mk (plainFor_of_name pn_13) (fun m => show entryFrame m #[(.ref b), (.int (0 : Int32))] 2 = mkF m 0 #[.val (.ref b), .val (.int (0 : Int32))] [] by first | (simp [entryFrame, mkF, argsToLocals, Value.category]; done) | rfl) ?_
  intro p e s m below meth c s₁ hx hby hml hown hnm hret hlk hZ X0 e0
  have N0 := Fr.nil n0
  show Run p e below s _ _ _ (s₁.setTop (mkF m 0 #[.val (.ref b), .val (.int (0 : Int32))] []))
  refine Run.pre (fun _ k => XS.iloadN X0.here hx rfl (hb hby d13_0) rfl  k) ?_
  show Run p e below s _ _ _ (s₁.setTop (mkF m 1 #[.val (.ref b), .val (.int (0 : Int32))] [(.int (0 : Int32))]))
  refine Run.pre (fun _ k => XS.aloadN X0.here hx rfl (hb hby d13_1) rfl rfl k) ?_
  show Run p e below s _ _ _ (s₁.setTop (mkF m 2 #[.val (.ref b), .val (.int (0 : Int32))] [(.ref b), (.int (0 : Int32))]))
  obtain ⟨c183, Ar183, -, S183, N183, -, -⟩ := id AB
  refine Run.pre (X0.arraylength hx (by rw [e0]; exact Ar183.1) (State.isArrayOf_alike hZ.alike Ar183.2.1) (g := (mkF m 2 #[.val (.ref b), .val (.int (0 : Int32))] [(.ref b), (.int (0 : Int32))])) rfl rfl (hb hby d13_2)) ?_
  rw [len_of S183 N183]
  show Run p e below s _ _ _ (s₁.setTop (mkF m 3 #[.val (.ref b), .val (.int (0 : Int32))] [(.int (4 : Int32)), (.int (0 : Int32))]))
  refine Run.callS X0 hx hZ (y := (⟨"java/lang/String", "checkIndex", "(II)V"⟩ : MethodName)) hown (hw _ (List.mem_of_getElem? (i := 59) rfl)) (hw _ (List.mem_of_getElem? (i := 60) rfl)) (hw _ (List.mem_of_getElem? (i := 8) rfl)) (hw _ (List.mem_of_getElem? (i := 61) rfl)) (by decide) (W := 0) (rmCX_0_4 l Z a0 hw fw h0 n0 (Nat.le_trans Z0 (Keep.refl h0 []).1) OL SF hfw) e0 (by decide) (by decide) (by decide) (by decide) (g := (mkF m 3 #[.val (.ref b), .val (.int (0 : Int32))] [(.int (4 : Int32)), (.int (0 : Int32))])) rfl (by rw [hml]; rfl) (argsL := [(.int (0 : Int32)), (.int (4 : Int32))]) (rest := []) (lenOf pd_10 rfl) rfl (by show 2 * 0 + _ ≤ _; exact Nat.le_of_eq rfl) (hb hby d13_3) ?_
  intro v186 T186 L186 X186 hQ186
  obtain ⟨rfl, Nq186, he186⟩ := hQ186
  have N186 := Fr.app N0 Nq186
  have e186 : T186.heap = h0 := he186
  show Run p e below s _ _ _ (T186.setTop (mkF m 6 #[.val (.ref b), .val (.int (0 : Int32))] []))
  refine Run.pre (fun _ k => XS.aloadN X186.here hx rfl (hb hby d13_6) rfl rfl k) ?_
  show Run p e below s _ _ _ (T186.setTop (mkF m 7 #[.val (.ref b), .val (.int (0 : Int32))] [(.ref b)]))
  refine Run.pre (fun _ k => XS.iloadN X186.here hx rfl (hb hby d13_7) rfl  k) ?_
  show Run p e below s _ _ _ (T186.setTop (mkF m 8 #[.val (.ref b), .val (.int (0 : Int32))] [(.int (0 : Int32)), (.ref b)]))
  obtain ⟨c187, Ar187, -, S187, N187, H187, -⟩ := id AB
  have hin187 : ¬ ((0 : Int32) < 0 ∨ c187.slots.size ≤ ((0 : Int32)).toNatClampNeg) := inb_of S187 ⟨by decide, by decide⟩
  refine Run.pre (X186.baloadBytes hx (j := (0 : Int32)) (v := (.int (nar .byte (c0.toInt8.toInt32)))) (by rw [e186]; exact Ar187.1) (State.isArrayOf_alike hZ.alike Ar187.2.1) Ar187.2.2 hin187 (H187.at hin187 rfl) (g := (mkF m 8 #[.val (.ref b), .val (.int (0 : Int32))] [(.int (0 : Int32)), (.ref b)])) rfl rfl (hb hby d13_8)) ?_
  show Run p e below s _ _ _ (T186.setTop (mkF m 9 #[.val (.ref b), .val (.int (0 : Int32))] [(.int (nar .byte (c0.toInt8.toInt32)))]))
  refine Run.pre (fun _ k => XS.sipush X186.here hx rfl (hb hby d13_9) k) ?_
  show Run p e below s _ _ _ (T186.setTop (mkF m 12 #[.val (.ref b), .val (.int (0 : Int32))] [(.int (255 : Int32)), (.int (nar .byte (c0.toInt8.toInt32)))]))
  refine Run.pre (fun _ k => XS.iand X186.here hx rfl (hb hby d13_12) rfl k) ?_
  show Run p e below s _ _ _ (T186.setTop (mkF m 13 #[.val (.ref b), .val (.int (0 : Int32))] [(.int ((nar .byte (c0.toInt8.toInt32)) &&& (255 : Int32)))]))
  refine Run.pre (fun _ k => XS.i2c X186.here hx rfl (hb hby d13_13) rfl k) ?_
  show Run p e below s _ _ _ (T186.setTop (mkF m 14 #[.val (.ref b), .val (.int (0 : Int32))] [(.int (((nar .byte (c0.toInt8.toInt32)) &&& (255 : Int32)).toUInt32.toUInt16.toUInt32.toInt32))]))
  exact Run.retN X186 hx hret (t := .char) (by simp) hlk (hb hby d13_14) (by first | (rw [e186]; exact ⟨congrArg (fun z => some (Value.int z)) (own_lc c0 wi qi), N186, rfl⟩) | exact ⟨congrArg (fun z => some (Value.int z)) (own_lc c0 wi qi), N186, rfl⟩) (by decide) (by decide)
theorem d22_0 : decode jdk_52_method_91_code 0 = .ok (.iload_n 0, 1) := by decide +kernel
theorem d22_1 : decode jdk_52_method_91_code 1 = .ok (.aload_n 1, 1) := by decide +kernel
theorem pd_11 : parseMethodDescriptor "([B)I" = some ⟨[(.array .byte)], some .int⟩ := by decide +kernel
theorem d22_2 : decode jdk_52_method_91_code 2 = .ok (.invokestatic 48, 3) := by decide +kernel
theorem d22_5 : decode jdk_52_method_91_code 5 = .ok (.invokestatic 414, 3) := by decide +kernel
theorem d22_8 : decode jdk_52_method_91_code 8 = .ok (.return_, 1) := by decide +kernel
theorem pn_22 : plainName "java/lang/StringUTF16" = true := by first | (simp [plainName, overriddenIn]; done) | decide +kernel
set_option maxRecDepth 65536 in
set_option maxHeartbeats 40000000 in
theorem rmUE_0 (l : Launch) (Z : State) (a0 : Array Value) (hw : ∀ d ∈ tables_1, d.before a0 Z = true) (b : Addr) (k : ClassId) (c0 : Int32) (c1 : Int32) (c2 : Int32) (c3 : Int32) (fw : Value) (h0 : Heap) (n0 : Nat) (Z0 : n0 ≤ h0.size) (OL : Old Z n0 h0) (SF : Sta Z Z.heap "jdk/internal/util/Preconditions" "SIOOBE_FORMATTER" "Ljava/util/function/BiFunction;" fw) (hfw : fw.isRef = true) (AB : Arv Z h0 b k .byte 8 [(.int (own_b0 c0)), (.int (own_b1 c0)), (.int (own_b0 c1)), (.int (own_b1 c1)), (.int (own_b0 c2)), (.int (own_b1 c2)), (.int (own_b0 c3)), (.int (own_b1 c3))] (.int 0)) :
    Con l (⟨"java/lang/StringUTF16", "checkIndex", "(I[B)V"⟩ : MethodName) jdk_52_method_91_code 2 none ({ frames := 2, cells := 0, slots := 0, locals := 27 } : Room) Z #[(.int (0 : Int32)), (.ref b)] h0 (fun v h L => v = none ∧ Fr n0 L ∧ h = h0) := by
  refine Con.mk (plainFor_of_name pn_22) (fun m => show entryFrame m #[(.int (0 : Int32)), (.ref b)] 2 = mkF m 0 #[.val (.int (0 : Int32)), .val (.ref b)] [] by first | (simp [entryFrame, mkF, argsToLocals, Value.category]; done) | rfl) ?_
  intro p e s m below meth c s₁ hx hby hml hown hnm hret hlk hZ X0 e0
  have N0 := Fr.nil n0
  show Run p e below s _ _ _ (s₁.setTop (mkF m 0 #[.val (.int (0 : Int32)), .val (.ref b)] []))
  refine Run.pre (fun _ k => XS.iloadN X0.here hx rfl (hb hby d22_0) rfl  k) ?_
  show Run p e below s _ _ _ (s₁.setTop (mkF m 1 #[.val (.int (0 : Int32)), .val (.ref b)] [(.int (0 : Int32))]))
  refine Run.pre (fun _ k => XS.aloadN X0.here hx rfl (hb hby d22_1) rfl rfl k) ?_
  show Run p e below s _ _ _ (s₁.setTop (mkF m 2 #[.val (.int (0 : Int32)), .val (.ref b)] [(.ref b), (.int (0 : Int32))]))
  refine Run.callS X0 hx hZ (y := (⟨"java/lang/StringUTF16", "length", "([B)I"⟩ : MethodName)) hown (hw _ (List.mem_of_getElem? (i := 92) rfl)) (hw _ (List.mem_of_getElem? (i := 93) rfl)) (hw _ (List.mem_of_getElem? (i := 22) rfl)) (hw _ (List.mem_of_getElem? (i := 94) rfl)) (by decide) (W := 1) (rmUL l Z a0 hw b k c0 c1 c2 c3 h0 n0 (Nat.le_trans Z0 (Keep.refl h0 []).1) AB) e0 (by decide) (by decide) (by decide) (by decide) (g := (mkF m 2 #[.val (.int (0 : Int32)), .val (.ref b)] [(.ref b), (.int (0 : Int32))])) rfl (by rw [hml]; rfl) (argsL := [(.ref b)]) (rest := [(.int (0 : Int32))]) (lenOf pd_11 rfl) rfl (by show 2 * 0 + _ ≤ _; exact Nat.le_of_eq rfl) (hb hby d22_2) ?_
  intro v188 T188 L188 X188 hQ188
  obtain ⟨rfl, Nq188, he188⟩ := hQ188
  have N188 := Fr.app N0 Nq188
  have e188 : T188.heap = h0 := he188
  show Run p e below s _ _ _ (T188.setTop (mkF m 5 #[.val (.int (0 : Int32)), .val (.ref b)] [(.int (4 : Int32)), (.int (0 : Int32))]))
  refine Run.callS X188 hx hZ (y := (⟨"java/lang/String", "checkIndex", "(II)V"⟩ : MethodName)) hown (hw _ (List.mem_of_getElem? (i := 95) rfl)) (hw _ (List.mem_of_getElem? (i := 60) rfl)) (hw _ (List.mem_of_getElem? (i := 8) rfl)) (hw _ (List.mem_of_getElem? (i := 61) rfl)) (by decide) (W := 0) (rmCX_0_4 l Z a0 hw fw h0 n0 (Nat.le_trans Z0 (Keep.refl h0 []).1) OL SF hfw) e188 (by decide) (by decide) (by decide) (by decide) (g := (mkF m 5 #[.val (.int (0 : Int32)), .val (.ref b)] [(.int (4 : Int32)), (.int (0 : Int32))])) rfl (by rw [hml]; rfl) (argsL := [(.int (0 : Int32)), (.int (4 : Int32))]) (rest := []) (lenOf pd_10 rfl) rfl (by show 2 * 0 + _ ≤ _; exact Nat.le_of_eq rfl) (hb hby d22_5) ?_
  intro v189 T189 L189 X189 hQ189
  obtain ⟨rfl, Nq189, he189⟩ := hQ189
  have N189 := Fr.app N188 Nq189
  have e189 : T189.heap = h0 := he189
  show Run p e below s _ _ _ (T189.setTop (mkF m 8 #[.val (.int (0 : Int32)), .val (.ref b)] []))
  exact Run.retV X189 hx hret hlk (hb hby d22_8) (by first | (rw [e189]; exact ⟨rfl, N189, rfl⟩) | exact ⟨rfl, N189, rfl⟩) (by decide) (by decide)
theorem d21_0 : decode jdk_52_method_83_code 0 = .ok (.iload_n 1, 1) := by decide +kernel
theorem d21_1 : decode jdk_52_method_83_code 1 = .ok (.aload_n 0, 1) := by decide +kernel
theorem pd_12 : parseMethodDescriptor "(I[B)V" = some ⟨[.int, (.array .byte)], none⟩ := by decide +kernel
theorem d21_2 : decode jdk_52_method_83_code 2 = .ok (.invokestatic 67, 3) := by decide +kernel
theorem d21_5 : decode jdk_52_method_83_code 5 = .ok (.aload_n 0, 1) := by decide +kernel
theorem d21_6 : decode jdk_52_method_83_code 6 = .ok (.iload_n 1, 1) := by decide +kernel
theorem d21_7 : decode jdk_52_method_83_code 7 = .ok (.invokestatic 71, 3) := by decide +kernel
theorem d21_10 : decode jdk_52_method_83_code 10 = .ok (.ireturn, 1) := by decide +kernel
theorem pn_21 : plainName "java/lang/StringUTF16" = true := by first | (simp [plainName, overriddenIn]; done) | decide +kernel
set_option maxRecDepth 65536 in
set_option maxHeartbeats 40000000 in
theorem rmUC_0 (l : Launch) (Z : State) (a0 : Array Value) (hw : ∀ d ∈ tables_1, d.before a0 Z = true) (b : Addr) (k : ClassId) (c0 : Int32) (c1 : Int32) (c2 : Int32) (c3 : Int32) (fw : Value) (h0 : Heap) (n0 : Nat) (Z0 : n0 ≤ h0.size) (OL : Old Z n0 h0) (SF : Sta Z Z.heap "jdk/internal/util/Preconditions" "SIOOBE_FORMATTER" "Ljava/util/function/BiFunction;" fw) (hfw : fw.isRef = true) (SA : Sta Z Z.heap "java/lang/StringUTF16" "$assertionsDisabled" "Z" (.int 1)) (SH : Sta Z Z.heap "java/lang/StringUTF16" "HI_BYTE_SHIFT" "I" (.int 0)) (SL : Sta Z Z.heap "java/lang/StringUTF16" "LO_BYTE_SHIFT" "I" (.int 8)) (AB : Arv Z h0 b k .byte 8 [(.int (own_b0 c0)), (.int (own_b1 c0)), (.int (own_b0 c1)), (.int (own_b1 c1)), (.int (own_b0 c2)), (.int (own_b1 c2)), (.int (own_b0 c3)), (.int (own_b1 c3))] (.int 0)) (wi : nar .char c0 = c0) :
    Con l (⟨"java/lang/StringUTF16", "charAt", "([BI)C"⟩ : MethodName) jdk_52_method_83_code 2 (some .char) ({ frames := 3, cells := 0, slots := 0, locals := 40 } : Room) Z #[(.ref b), (.int (0 : Int32))] h0 (fun v h L => v = some (.int c0) ∧ Fr n0 L ∧ h = h0) := by
  refine Con.mk (plainFor_of_name pn_21) (fun m => show entryFrame m #[(.ref b), (.int (0 : Int32))] 2 = mkF m 0 #[.val (.ref b), .val (.int (0 : Int32))] [] by first | (simp [entryFrame, mkF, argsToLocals, Value.category]; done) | rfl) ?_
  intro p e s m below meth c s₁ hx hby hml hown hnm hret hlk hZ X0 e0
  have N0 := Fr.nil n0
  show Run p e below s _ _ _ (s₁.setTop (mkF m 0 #[.val (.ref b), .val (.int (0 : Int32))] []))
  refine Run.pre (fun _ k => XS.iloadN X0.here hx rfl (hb hby d21_0) rfl  k) ?_
  show Run p e below s _ _ _ (s₁.setTop (mkF m 1 #[.val (.ref b), .val (.int (0 : Int32))] [(.int (0 : Int32))]))
  refine Run.pre (fun _ k => XS.aloadN X0.here hx rfl (hb hby d21_1) rfl rfl k) ?_
  show Run p e below s _ _ _ (s₁.setTop (mkF m 2 #[.val (.ref b), .val (.int (0 : Int32))] [(.ref b), (.int (0 : Int32))]))
  refine Run.callS X0 hx hZ (y := (⟨"java/lang/StringUTF16", "checkIndex", "(I[B)V"⟩ : MethodName)) hown (hw _ (List.mem_of_getElem? (i := 89) rfl)) (hw _ (List.mem_of_getElem? (i := 90) rfl)) (hw _ (List.mem_of_getElem? (i := 22) rfl)) (hw _ (List.mem_of_getElem? (i := 91) rfl)) (by decide) (W := 0) (rmUE_0 l Z a0 hw b k c0 c1 c2 c3 fw h0 n0 (Nat.le_trans Z0 (Keep.refl h0 []).1) OL SF hfw AB) e0 (by decide) (by decide) (by decide) (by decide) (g := (mkF m 2 #[.val (.ref b), .val (.int (0 : Int32))] [(.ref b), (.int (0 : Int32))])) rfl (by rw [hml]; rfl) (argsL := [(.int (0 : Int32)), (.ref b)]) (rest := []) (lenOf pd_12 rfl) rfl (by show 2 * 0 + _ ≤ _; exact Nat.le_of_eq rfl) (hb hby d21_2) ?_
  intro v190 T190 L190 X190 hQ190
  obtain ⟨rfl, Nq190, he190⟩ := hQ190
  have N190 := Fr.app N0 Nq190
  have e190 : T190.heap = h0 := he190
  show Run p e below s _ _ _ (T190.setTop (mkF m 5 #[.val (.ref b), .val (.int (0 : Int32))] []))
  refine Run.pre (fun _ k => XS.aloadN X190.here hx rfl (hb hby d21_5) rfl rfl k) ?_
  show Run p e below s _ _ _ (T190.setTop (mkF m 6 #[.val (.ref b), .val (.int (0 : Int32))] [(.ref b)]))
  refine Run.pre (fun _ k => XS.iloadN X190.here hx rfl (hb hby d21_6) rfl  k) ?_
  show Run p e below s _ _ _ (T190.setTop (mkF m 7 #[.val (.ref b), .val (.int (0 : Int32))] [(.int (0 : Int32)), (.ref b)]))
  refine Run.callS X190 hx hZ (y := (⟨"java/lang/StringUTF16", "getChar", "([BI)C"⟩ : MethodName)) hown (hw _ (List.mem_of_getElem? (i := 83) rfl)) (hw _ (List.mem_of_getElem? (i := 84) rfl)) (hw _ (List.mem_of_getElem? (i := 22) rfl)) (hw _ (List.mem_of_getElem? (i := 85) rfl)) (by decide) (W := 0) (rmGC_4_0 l Z a0 hw b k (own_b0 c0) (own_b1 c0) (own_b0 c1) (own_b1 c1) (own_b0 c2) (own_b1 c2) (own_b0 c3) (own_b1 c3) h0 n0 (Nat.le_trans Z0 (Keep.refl h0 []).1) OL SA SH SL AB) e190 (by decide) (by decide) (by decide) (by decide) (g := (mkF m 7 #[.val (.ref b), .val (.int (0 : Int32))] [(.int (0 : Int32)), (.ref b)])) rfl (by rw [hml]; rfl) (argsL := [(.ref b), (.int (0 : Int32))]) (rest := []) (lenOf pd_5 rfl) rfl (by show 2 * 0 + _ ≤ _; exact Nat.le_of_eq rfl) (hb hby d21_7) ?_
  intro v191 T191 L191 X191 hQ191
  obtain ⟨rfl, Nq191, he191⟩ := hQ191
  have N191 := Fr.app N190 Nq191
  have e191 : T191.heap = h0 := he191
  show Run p e below s _ _ _ (T191.setTop (mkF m 10 #[.val (.ref b), .val (.int (0 : Int32))] [(.int (own_gcv (own_b0 c0) (own_b1 c0)))]))
  exact Run.retN X191 hx hret (t := .char) (by simp) hlk (hb hby d21_10) (by first | (rw [e191]; exact ⟨by rw [own_gc c0 wi, wi], N191, rfl⟩) | exact ⟨by rw [own_gc c0 wi, wi], N191, rfl⟩) (by decide) (by decide)
theorem d11_0 : decode jdk_42_method_56_code 0 = .ok (.aload_n 0, 1) := by decide +kernel
theorem pd_13 : parseMethodDescriptor "()Z" = some ⟨[], some .boolean⟩ := by decide +kernel
theorem d11_1 : decode jdk_42_method_56_code 1 = .ok (.invokevirtual 492, 3) := by decide +kernel
theorem d11_4 : decode jdk_42_method_56_code 4 = .ok (.ifCond .eq 12, 3) := by decide +kernel
theorem d11_7 : decode jdk_42_method_56_code 7 = .ok (.aload_n 0, 1) := by decide +kernel
theorem d11_8 : decode jdk_42_method_56_code 8 = .ok (.getfield 9, 3) := by decide +kernel
theorem d11_11 : decode jdk_42_method_56_code 11 = .ok (.iload_n 1, 1) := by decide +kernel
theorem d11_12 : decode jdk_42_method_56_code 12 = .ok (.invokestatic 495, 3) := by decide +kernel
theorem d11_15 : decode jdk_42_method_56_code 15 = .ok (.ireturn, 1) := by decide +kernel
theorem d11_16 : decode jdk_42_method_56_code 16 = .ok (.aload_n 0, 1) := by decide +kernel
theorem d11_17 : decode jdk_42_method_56_code 17 = .ok (.getfield 9, 3) := by decide +kernel
theorem d11_20 : decode jdk_42_method_56_code 20 = .ok (.iload_n 1, 1) := by decide +kernel
theorem d11_21 : decode jdk_42_method_56_code 21 = .ok (.invokestatic 498, 3) := by decide +kernel
theorem d11_24 : decode jdk_42_method_56_code 24 = .ok (.ireturn, 1) := by decide +kernel
theorem pn_11 : plainName "java/lang/String" = true := by first | (simp [plainName, overriddenIn]; done) | decide +kernel
set_option maxRecDepth 65536 in
set_option maxHeartbeats 40000000 in
theorem rmCA_0 (l : Launch) (Z : State) (a0 : Array Value) (hw : ∀ d ∈ tables_1, d.before a0 Z = true) (a : Addr) (b : Addr) (k : ClassId) (c0 : Int32) (c1 : Int32) (c2 : Int32) (c3 : Int32) (cs : Int32) (fw : Value) (h0 : Heap) (n0 : Nat) (Z0 : n0 ≤ h0.size) (OL : Old Z n0 h0) (SC : Sta Z Z.heap "java/lang/String" "COMPACT_STRINGS" "Z" (.int cs)) (hcs : ¬ cs = 0) (SF : Sta Z Z.heap "jdk/internal/util/Preconditions" "SIOOBE_FORMATTER" "Ljava/util/function/BiFunction;" fw) (hfw : fw.isRef = true) (SA : Sta Z Z.heap "java/lang/StringUTF16" "$assertionsDisabled" "Z" (.int 1)) (SH : Sta Z Z.heap "java/lang/StringUTF16" "HI_BYTE_SHIFT" "I" (.int 0)) (SL : Sta Z Z.heap "java/lang/StringUTF16" "LO_BYTE_SHIFT" "I" (.int 8)) (E_a : Exa Z h0 a "java/lang/String") (FV : Fld Z h0 a "java/lang/String" "value" "[B" (.ref b)) (DQ : (Fld Z h0 a "java/lang/String" "coder" "B" (.int 0) ∧ (¬ (255 : Int32) < c0 ∧ ¬ (255 : Int32) < c1 ∧ ¬ (255 : Int32) < c2 ∧ ¬ (255 : Int32) < c3) ∧ Arv Z h0 b k .byte 4 [(.int (nar .byte (c0.toInt8.toInt32))), (.int (nar .byte (c1.toInt8.toInt32))), (.int (nar .byte (c2.toInt8.toInt32))), (.int (nar .byte (c3.toInt8.toInt32)))] (.int 0) ∨ Fld Z h0 a "java/lang/String" "coder" "B" (.int 1) ∧ (¬ (¬ (255 : Int32) < c0 ∧ ¬ (255 : Int32) < c1 ∧ ¬ (255 : Int32) < c2 ∧ ¬ (255 : Int32) < c3)) ∧ Arv Z h0 b k .byte 8 [(.int (own_b0 c0)), (.int (own_b1 c0)), (.int (own_b0 c1)), (.int (own_b1 c1)), (.int (own_b0 c2)), (.int (own_b1 c2)), (.int (own_b0 c3)), (.int (own_b1 c3))] (.int 0))) (w0 : nar .char c0 = c0) (w1 : nar .char c1 = c1) (w2 : nar .char c2 = c2) (w3 : nar .char c3 = c3) :
    Con l (⟨"java/lang/String", "charAt", "(I)C"⟩ : MethodName) jdk_42_method_56_code 2 (some .char) ({ frames := 4, cells := 0, slots := 0, locals := 53 } : Room) Z #[(.ref a), (.int (0 : Int32))] h0 (fun v h L => v = some (.int c0) ∧ Fr n0 L ∧ h = h0) := by
  refine Con.mk (plainFor_of_name pn_11) (fun m => show entryFrame m #[(.ref a), (.int (0 : Int32))] 2 = mkF m 0 #[.val (.ref a), .val (.int (0 : Int32))] [] by first | (simp [entryFrame, mkF, argsToLocals, Value.category]; done) | rfl) ?_
  intro p e s m below meth c s₁ hx hby hml hown hnm hret hlk hZ X0 e0
  have N0 := Fr.nil n0
  show Run p e below s _ _ _ (s₁.setTop (mkF m 0 #[.val (.ref a), .val (.int (0 : Int32))] []))
  rcases DQ with ⟨FCo, hl, AB⟩ | ⟨FCo, hl, AB⟩
  · skip
    show Run p e below s _ _ _ (s₁.setTop (mkF m 0 #[.val (.ref a), .val (.int (0 : Int32))] []))
    refine Run.pre (fun _ k => XS.aloadN X0.here hx rfl (hb hby d11_0) rfl rfl k) ?_
    show Run p e below s _ _ _ (s₁.setTop (mkF m 1 #[.val (.ref a), .val (.int (0 : Int32))] [(.ref a)]))
    refine Run.callV X0 hx hZ (y := (⟨"java/lang/String", "isLatin1", "()Z"⟩ : MethodName)) (z := (⟨"java/lang/String", "isLatin1", "()Z"⟩ : MethodName)) hown (hw _ (List.mem_of_getElem? (i := 50) rfl)) (hw _ (List.mem_of_getElem? (i := 51) rfl)) (notFace_of_selects (args := #[]) (mvT hZ (hw _ (List.mem_of_getElem? (i := 53) rfl)))) (hw _ (List.mem_of_getElem? (i := 53) rfl)) (hw _ (List.mem_of_getElem? (i := 52) rfl)) (hw _ (List.mem_of_getElem? (i := 54) rfl)) (hw _ (List.mem_of_getElem? (i := 8) rfl)) (by decide) (b := a) E_a (W := 0) (rmIL_0 l Z a0 hw a cs h0 n0 (Nat.le_trans Z0 (Keep.refl h0 []).1) OL SC hcs FCo) e0 (by decide) (by decide) (by decide) (by decide) (g := (mkF m 1 #[.val (.ref a), .val (.int (0 : Int32))] [(.ref a)])) rfl (by rw [hml]; rfl) (argsL := []) (rest := []) (lenOf pd_13 rfl) rfl (by show 2 * 0 + _ ≤ _; exact Nat.le_of_eq rfl) (hb hby d11_1) ?_
    intro v192 T192 L192 X192 hQ192
    obtain ⟨rfl, Nq192, he192⟩ := hQ192
    have N192 := Fr.app N0 Nq192
    have e192 : T192.heap = h0 := he192
    show Run p e below s _ _ _ (T192.setTop (mkF m 4 #[.val (.ref a), .val (.int (0 : Int32))] [(.int (1 : Int32))]))
    refine Run.pre (fun _ k => XS.ifNo X192.here hx rfl (hb hby d11_4) rfl ((if0 _ _).trans (feq ((by decide) : ¬ ((1 : Int32) = (0 : Int32)))).1) k) ?_
    show Run p e below s _ _ _ (T192.setTop (mkF m 7 #[.val (.ref a), .val (.int (0 : Int32))] []))
    refine Run.pre (fun _ k => XS.aloadN X192.here hx rfl (hb hby d11_7) rfl rfl k) ?_
    show Run p e below s _ _ _ (T192.setTop (mkF m 8 #[.val (.ref a), .val (.int (0 : Int32))] [(.ref a)]))
    obtain ⟨T193, X193, e193, st193⟩ := getF X192 hx hZ hown (host := "") (Or.inl (hw _ (List.mem_of_getElem? (i := 33) rfl))) Via.refl e192 FV (g := (mkF m 8 #[.val (.ref a), .val (.int (0 : Int32))] [(.ref a)])) rfl rfl (hb hby d11_8)
    refine Run.pre st193 ?_
    show Run p e below s _ _ _ (T193.setTop (mkF m 11 #[.val (.ref a), .val (.int (0 : Int32))] [(.ref b)]))
    refine Run.pre (fun _ k => XS.iloadN X193.here hx rfl (hb hby d11_11) rfl  k) ?_
    show Run p e below s _ _ _ (T193.setTop (mkF m 12 #[.val (.ref a), .val (.int (0 : Int32))] [(.int (0 : Int32)), (.ref b)]))
    refine Run.callS X193 hx hZ (y := (⟨"java/lang/StringLatin1", "charAt", "([BI)C"⟩ : MethodName)) hown (hw _ (List.mem_of_getElem? (i := 55) rfl)) (hw _ (List.mem_of_getElem? (i := 56) rfl)) (hw _ (List.mem_of_getElem? (i := 57) rfl)) (hw _ (List.mem_of_getElem? (i := 58) rfl)) (by decide) (W := 0) (rmLC_0 l Z a0 hw b k c0 c1 c2 c3 fw h0 n0 (Nat.le_trans Z0 (Keep.refl h0 []).1) OL SF hfw AB w0 hl.1) e193 (by decide) (by decide) (by decide) (by decide) (g := (mkF m 12 #[.val (.ref a), .val (.int (0 : Int32))] [(.int (0 : Int32)), (.ref b)])) rfl (by rw [hml]; rfl) (argsL := [(.ref b), (.int (0 : Int32))]) (rest := []) (lenOf pd_5 rfl) rfl (by show 2 * 0 + _ ≤ _; exact Nat.le_of_eq rfl) (hb hby d11_12) ?_
    intro v194 T194 L194 X194 hQ194
    obtain ⟨rfl, Nq194, he194⟩ := hQ194
    have N194 := Fr.app N192 Nq194
    have e194 : T194.heap = h0 := he194
    show Run p e below s _ _ _ (T194.setTop (mkF m 15 #[.val (.ref a), .val (.int (0 : Int32))] [(.int c0)]))
    exact Run.retN X194 hx hret (t := .char) (by simp) hlk (hb hby d11_15) (by first | (rw [e194]; exact ⟨by rw [w0], N194, rfl⟩) | exact ⟨by rw [w0], N194, rfl⟩) (by decide) (by decide)
  · skip
    show Run p e below s _ _ _ (s₁.setTop (mkF m 0 #[.val (.ref a), .val (.int (0 : Int32))] []))
    refine Run.pre (fun _ k => XS.aloadN X0.here hx rfl (hb hby d11_0) rfl rfl k) ?_
    show Run p e below s _ _ _ (s₁.setTop (mkF m 1 #[.val (.ref a), .val (.int (0 : Int32))] [(.ref a)]))
    refine Run.callV X0 hx hZ (y := (⟨"java/lang/String", "isLatin1", "()Z"⟩ : MethodName)) (z := (⟨"java/lang/String", "isLatin1", "()Z"⟩ : MethodName)) hown (hw _ (List.mem_of_getElem? (i := 50) rfl)) (hw _ (List.mem_of_getElem? (i := 51) rfl)) (notFace_of_selects (args := #[]) (mvT hZ (hw _ (List.mem_of_getElem? (i := 53) rfl)))) (hw _ (List.mem_of_getElem? (i := 53) rfl)) (hw _ (List.mem_of_getElem? (i := 52) rfl)) (hw _ (List.mem_of_getElem? (i := 54) rfl)) (hw _ (List.mem_of_getElem? (i := 8) rfl)) (by decide) (b := a) E_a (W := 0) (rmIL_1 l Z a0 hw a cs h0 n0 (Nat.le_trans Z0 (Keep.refl h0 []).1) OL SC hcs FCo) e0 (by decide) (by decide) (by decide) (by decide) (g := (mkF m 1 #[.val (.ref a), .val (.int (0 : Int32))] [(.ref a)])) rfl (by rw [hml]; rfl) (argsL := []) (rest := []) (lenOf pd_13 rfl) rfl (by show 2 * 0 + _ ≤ _; exact Nat.le_of_eq rfl) (hb hby d11_1) ?_
    intro v195 T195 L195 X195 hQ195
    obtain ⟨rfl, Nq195, he195⟩ := hQ195
    have N195 := Fr.app N0 Nq195
    have e195 : T195.heap = h0 := he195
    show Run p e below s _ _ _ (T195.setTop (mkF m 4 #[.val (.ref a), .val (.int (0 : Int32))] [(.int (0 : Int32))]))
    refine Run.pre (fun _ k => XS.ifYes X195.here hx rfl (pc0 := 4) (pc' := 16) rfl (hb hby d11_4) rfl ((if0 _ _).trans (teq ((by decide) : (0 : Int32) = (0 : Int32))).1) (by decide) (by decide) k) ?_
    show Run p e below s _ _ _ (T195.setTop (mkF m 16 #[.val (.ref a), .val (.int (0 : Int32))] []))
    refine Run.pre (fun _ k => XS.aloadN X195.here hx rfl (hb hby d11_16) rfl rfl k) ?_
    show Run p e below s _ _ _ (T195.setTop (mkF m 17 #[.val (.ref a), .val (.int (0 : Int32))] [(.ref a)]))
    obtain ⟨T196, X196, e196, st196⟩ := getF X195 hx hZ hown (host := "") (Or.inl (hw _ (List.mem_of_getElem? (i := 33) rfl))) Via.refl e195 FV (g := (mkF m 17 #[.val (.ref a), .val (.int (0 : Int32))] [(.ref a)])) rfl rfl (hb hby d11_17)
    refine Run.pre st196 ?_
    show Run p e below s _ _ _ (T196.setTop (mkF m 20 #[.val (.ref a), .val (.int (0 : Int32))] [(.ref b)]))
    refine Run.pre (fun _ k => XS.iloadN X196.here hx rfl (hb hby d11_20) rfl  k) ?_
    show Run p e below s _ _ _ (T196.setTop (mkF m 21 #[.val (.ref a), .val (.int (0 : Int32))] [(.int (0 : Int32)), (.ref b)]))
    refine Run.callS X196 hx hZ (y := (⟨"java/lang/StringUTF16", "charAt", "([BI)C"⟩ : MethodName)) hown (hw _ (List.mem_of_getElem? (i := 86) rfl)) (hw _ (List.mem_of_getElem? (i := 87) rfl)) (hw _ (List.mem_of_getElem? (i := 22) rfl)) (hw _ (List.mem_of_getElem? (i := 88) rfl)) (by decide) (W := 0) (rmUC_0 l Z a0 hw b k c0 c1 c2 c3 fw h0 n0 (Nat.le_trans Z0 (Keep.refl h0 []).1) OL SF hfw SA SH SL AB w0) e196 (by decide) (by decide) (by decide) (by decide) (g := (mkF m 21 #[.val (.ref a), .val (.int (0 : Int32))] [(.int (0 : Int32)), (.ref b)])) rfl (by rw [hml]; rfl) (argsL := [(.ref b), (.int (0 : Int32))]) (rest := []) (lenOf pd_5 rfl) rfl (by show 2 * 0 + _ ≤ _; exact Nat.le_of_eq rfl) (hb hby d11_21) ?_
    intro v197 T197 L197 X197 hQ197
    obtain ⟨rfl, Nq197, he197⟩ := hQ197
    have N197 := Fr.app N195 Nq197
    have e197 : T197.heap = h0 := he197
    show Run p e below s _ _ _ (T197.setTop (mkF m 24 #[.val (.ref a), .val (.int (0 : Int32))] [(.int c0)]))
    exact Run.retN X197 hx hret (t := .char) (by simp) hlk (hb hby d11_24) (by first | (rw [e197]; exact ⟨by rw [w0], N197, rfl⟩) | exact ⟨by rw [w0], N197, rfl⟩) (by decide) (by decide)
set_option maxRecDepth 65536 in
set_option maxHeartbeats 40000000 in
theorem rmPX_1_4 (l : Launch) (Z : State) (a0 : Array Value) (hw : ∀ d ∈ tables_1, d.before a0 Z = true) (fw : Value) (h0 : Heap) (n0 : Nat) (Z0 : n0 ≤ h0.size) (hfw : fw.isRef = true) :
    Con l (⟨"jdk/internal/util/Preconditions", "checkIndex", "(IILjava/util/function/BiFunction;)I"⟩ : MethodName) jdk_41_method_11_code 3 (some .int) ({ frames := 0, cells := 0, slots := 0, locals := 0 } : Room) Z #[(.int (1 : Int32)), (.int (4 : Int32)), fw] h0 (fun v h L => v = some (.int 1) ∧ Fr n0 L ∧ h = h0) := by
  refine Con.mk (plainFor_of_name pn_15) (fun m => show entryFrame m #[(.int (1 : Int32)), (.int (4 : Int32)), fw] 3 = mkF m 0 #[.val (.int (1 : Int32)), .val (.int (4 : Int32)), .val fw] [] by rcases ref_cases hfw with hq | ⟨_, hq⟩ <;> subst hq <;> first | (simp [entryFrame, mkF, argsToLocals, Value.category]; done) | rfl) ?_
  intro p e s m below meth c s₁ hx hby hml hown hnm hret hlk hZ X0 e0
  have N0 := Fr.nil n0
  show Run p e below s _ _ _ (s₁.setTop (mkF m 0 #[.val (.int (1 : Int32)), .val (.int (4 : Int32)), .val fw] []))
  refine Run.pre (fun _ k => XS.iloadN X0.here hx rfl (hb hby d15_0) rfl  k) ?_
  show Run p e below s _ _ _ (s₁.setTop (mkF m 1 #[.val (.int (1 : Int32)), .val (.int (4 : Int32)), .val fw] [(.int (1 : Int32))]))
  refine Run.pre (fun _ k => XS.ifNo X0.here hx rfl (hb hby d15_1) rfl ((if0 _ _).trans (flt ((by decide) : ¬ ((1 : Int32) < (0 : Int32)))).1) k) ?_
  show Run p e below s _ _ _ (s₁.setTop (mkF m 4 #[.val (.int (1 : Int32)), .val (.int (4 : Int32)), .val fw] []))
  refine Run.pre (fun _ k => XS.iloadN X0.here hx rfl (hb hby d15_4) rfl  k) ?_
  show Run p e below s _ _ _ (s₁.setTop (mkF m 5 #[.val (.int (1 : Int32)), .val (.int (4 : Int32)), .val fw] [(.int (1 : Int32))]))
  refine Run.pre (fun _ k => XS.iloadN X0.here hx rfl (hb hby d15_5) rfl  k) ?_
  show Run p e below s _ _ _ (s₁.setTop (mkF m 6 #[.val (.int (1 : Int32)), .val (.int (4 : Int32)), .val fw] [(.int (4 : Int32)), (.int (1 : Int32))]))
  refine Run.pre (fun _ k => XS.icmpYes X0.here hx rfl (pc0 := 6) (pc' := 16) rfl (hb hby d15_6) rfl (tlt ((by decide) : (1 : Int32) < (4 : Int32))).1 (by decide) (by decide) k) ?_
  show Run p e below s _ _ _ (s₁.setTop (mkF m 16 #[.val (.int (1 : Int32)), .val (.int (4 : Int32)), .val fw] []))
  refine Run.pre (fun _ k => XS.iloadN X0.here hx rfl (hb hby d15_16) rfl  k) ?_
  show Run p e below s _ _ _ (s₁.setTop (mkF m 17 #[.val (.int (1 : Int32)), .val (.int (4 : Int32)), .val fw] [(.int (1 : Int32))]))
  exact Run.retI X0 hx hret hlk (hb hby d15_17) (by first | (rw [e0]; exact ⟨rfl, N0, rfl⟩) | exact ⟨rfl, N0, rfl⟩) (by decide) (by decide)
set_option maxRecDepth 65536 in
set_option maxHeartbeats 40000000 in
theorem rmCX_1_4 (l : Launch) (Z : State) (a0 : Array Value) (hw : ∀ d ∈ tables_1, d.before a0 Z = true) (fw : Value) (h0 : Heap) (n0 : Nat) (Z0 : n0 ≤ h0.size) (OL : Old Z n0 h0) (SF : Sta Z Z.heap "jdk/internal/util/Preconditions" "SIOOBE_FORMATTER" "Ljava/util/function/BiFunction;" fw) (hfw : fw.isRef = true) :
    Con l (⟨"java/lang/String", "checkIndex", "(II)V"⟩ : MethodName) jdk_42_method_155_code 2 none ({ frames := 1, cells := 0, slots := 0, locals := 14 } : Room) Z #[(.int (1 : Int32)), (.int (4 : Int32))] h0 (fun v h L => v = none ∧ Fr n0 L ∧ h = h0) := by
  refine Con.mk (plainFor_of_name pn_14) (fun m => show entryFrame m #[(.int (1 : Int32)), (.int (4 : Int32))] 2 = mkF m 0 #[.val (.int (1 : Int32)), .val (.int (4 : Int32))] [] by first | (simp [entryFrame, mkF, argsToLocals, Value.category]; done) | rfl) ?_
  intro p e s m below meth c s₁ hx hby hml hown hnm hret hlk hZ X0 e0
  have N0 := Fr.nil n0
  show Run p e below s _ _ _ (s₁.setTop (mkF m 0 #[.val (.int (1 : Int32)), .val (.int (4 : Int32))] []))
  refine Run.pre (fun _ k => XS.iloadN X0.here hx rfl (hb hby d14_0) rfl  k) ?_
  show Run p e below s _ _ _ (s₁.setTop (mkF m 1 #[.val (.int (1 : Int32)), .val (.int (4 : Int32))] [(.int (1 : Int32))]))
  refine Run.pre (fun _ k => XS.iloadN X0.here hx rfl (hb hby d14_1) rfl  k) ?_
  show Run p e below s _ _ _ (s₁.setTop (mkF m 2 #[.val (.int (1 : Int32)), .val (.int (4 : Int32))] [(.int (4 : Int32)), (.int (1 : Int32))]))
  obtain ⟨T199, X199, e199, st199⟩ := getS2 X0 hx hZ hown (host := "") (Or.inl (hw _ (List.mem_of_getElem? (i := 62) rfl))) Via.refl e0 (SF.ext OL.2) (g := (mkF m 2 #[.val (.int (1 : Int32)), .val (.int (4 : Int32))] [(.int (4 : Int32)), (.int (1 : Int32))])) rfl (hb hby d14_2)
  refine Run.pre st199 ?_
  show Run p e below s _ _ _ (T199.setTop (mkF m 5 #[.val (.int (1 : Int32)), .val (.int (4 : Int32))] [fw, (.int (4 : Int32)), (.int (1 : Int32))]))
  refine Run.callS X199 hx hZ (y := (⟨"jdk/internal/util/Preconditions", "checkIndex", "(IILjava/util/function/BiFunction;)I"⟩ : MethodName)) hown (hw _ (List.mem_of_getElem? (i := 64) rfl)) (hw _ (List.mem_of_getElem? (i := 65) rfl)) (hw _ (List.mem_of_getElem? (i := 63) rfl)) (hw _ (List.mem_of_getElem? (i := 66) rfl)) (by decide) (W := 0) (rmPX_1_4 l Z a0 hw fw h0 n0 (Nat.le_trans Z0 (Keep.refl h0 []).1) hfw) e199 (by decide) (by decide) (by decide) (by decide) (g := (mkF m 5 #[.val (.int (1 : Int32)), .val (.int (4 : Int32))] [fw, (.int (4 : Int32)), (.int (1 : Int32))])) rfl (by rw [hml]; rfl) (argsL := [(.int (1 : Int32)), (.int (4 : Int32)), fw]) (rest := []) (lenOf pd_9 rfl) rfl (by show 2 * 0 + _ ≤ _; exact Nat.le_of_eq rfl) (hb hby d14_5) ?_
  intro v200 T200 L200 X200 hQ200
  obtain ⟨rfl, Nq200, he200⟩ := hQ200
  have N200 := Fr.app N0 Nq200
  have e200 : T200.heap = h0 := he200
  show Run p e below s _ _ _ (T200.setTop (mkF m 8 #[.val (.int (1 : Int32)), .val (.int (4 : Int32))] [(.int (1 : Int32))]))
  refine Run.pre (fun _ k => XS.pop X200.here hx rfl (hb hby d14_8) rfl rfl k) ?_
  show Run p e below s _ _ _ (T200.setTop (mkF m 9 #[.val (.int (1 : Int32)), .val (.int (4 : Int32))] []))
  exact Run.retV X200 hx hret hlk (hb hby d14_9) (by first | (rw [e200]; exact ⟨rfl, N200, rfl⟩) | exact ⟨rfl, N200, rfl⟩) (by decide) (by decide)
set_option maxRecDepth 65536 in
set_option maxHeartbeats 40000000 in
theorem rmLC_1 (l : Launch) (Z : State) (a0 : Array Value) (hw : ∀ d ∈ tables_1, d.before a0 Z = true) (b : Addr) (k : ClassId) (c0 : Int32) (c1 : Int32) (c2 : Int32) (c3 : Int32) (fw : Value) (h0 : Heap) (n0 : Nat) (Z0 : n0 ≤ h0.size) (OL : Old Z n0 h0) (SF : Sta Z Z.heap "jdk/internal/util/Preconditions" "SIOOBE_FORMATTER" "Ljava/util/function/BiFunction;" fw) (hfw : fw.isRef = true) (AB : Arv Z h0 b k .byte 4 [(.int (nar .byte (c0.toInt8.toInt32))), (.int (nar .byte (c1.toInt8.toInt32))), (.int (nar .byte (c2.toInt8.toInt32))), (.int (nar .byte (c3.toInt8.toInt32)))] (.int 0)) (wi : nar .char c1 = c1) (qi : ¬ (255 : Int32) < c1) :
    Con l (⟨"java/lang/StringLatin1", "charAt", "([BI)C"⟩ : MethodName) jdk_43_method_2_code 2 (some .char) ({ frames := 2, cells := 0, slots := 0, locals := 27 } : Room) Z #[(.ref b), (.int (1 : Int32))] h0 (fun v h L => v = some (.int c1) ∧ Fr n0 L ∧ h = h0) := by
  refine Con.mk (plainFor_of_name pn_13) (fun m => show entryFrame m #[(.ref b), (.int (1 : Int32))] 2 = mkF m 0 #[.val (.ref b), .val (.int (1 : Int32))] [] by first | (simp [entryFrame, mkF, argsToLocals, Value.category]; done) | rfl) ?_
  intro p e s m below meth c s₁ hx hby hml hown hnm hret hlk hZ X0 e0
  have N0 := Fr.nil n0
  show Run p e below s _ _ _ (s₁.setTop (mkF m 0 #[.val (.ref b), .val (.int (1 : Int32))] []))
  refine Run.pre (fun _ k => XS.iloadN X0.here hx rfl (hb hby d13_0) rfl  k) ?_
  show Run p e below s _ _ _ (s₁.setTop (mkF m 1 #[.val (.ref b), .val (.int (1 : Int32))] [(.int (1 : Int32))]))
  refine Run.pre (fun _ k => XS.aloadN X0.here hx rfl (hb hby d13_1) rfl rfl k) ?_
  show Run p e below s _ _ _ (s₁.setTop (mkF m 2 #[.val (.ref b), .val (.int (1 : Int32))] [(.ref b), (.int (1 : Int32))]))
  obtain ⟨c198, Ar198, -, S198, N198, -, -⟩ := id AB
  refine Run.pre (X0.arraylength hx (by rw [e0]; exact Ar198.1) (State.isArrayOf_alike hZ.alike Ar198.2.1) (g := (mkF m 2 #[.val (.ref b), .val (.int (1 : Int32))] [(.ref b), (.int (1 : Int32))])) rfl rfl (hb hby d13_2)) ?_
  rw [len_of S198 N198]
  show Run p e below s _ _ _ (s₁.setTop (mkF m 3 #[.val (.ref b), .val (.int (1 : Int32))] [(.int (4 : Int32)), (.int (1 : Int32))]))
  refine Run.callS X0 hx hZ (y := (⟨"java/lang/String", "checkIndex", "(II)V"⟩ : MethodName)) hown (hw _ (List.mem_of_getElem? (i := 59) rfl)) (hw _ (List.mem_of_getElem? (i := 60) rfl)) (hw _ (List.mem_of_getElem? (i := 8) rfl)) (hw _ (List.mem_of_getElem? (i := 61) rfl)) (by decide) (W := 0) (rmCX_1_4 l Z a0 hw fw h0 n0 (Nat.le_trans Z0 (Keep.refl h0 []).1) OL SF hfw) e0 (by decide) (by decide) (by decide) (by decide) (g := (mkF m 3 #[.val (.ref b), .val (.int (1 : Int32))] [(.int (4 : Int32)), (.int (1 : Int32))])) rfl (by rw [hml]; rfl) (argsL := [(.int (1 : Int32)), (.int (4 : Int32))]) (rest := []) (lenOf pd_10 rfl) rfl (by show 2 * 0 + _ ≤ _; exact Nat.le_of_eq rfl) (hb hby d13_3) ?_
  intro v201 T201 L201 X201 hQ201
  obtain ⟨rfl, Nq201, he201⟩ := hQ201
  have N201 := Fr.app N0 Nq201
  have e201 : T201.heap = h0 := he201
  show Run p e below s _ _ _ (T201.setTop (mkF m 6 #[.val (.ref b), .val (.int (1 : Int32))] []))
  refine Run.pre (fun _ k => XS.aloadN X201.here hx rfl (hb hby d13_6) rfl rfl k) ?_
  show Run p e below s _ _ _ (T201.setTop (mkF m 7 #[.val (.ref b), .val (.int (1 : Int32))] [(.ref b)]))
  refine Run.pre (fun _ k => XS.iloadN X201.here hx rfl (hb hby d13_7) rfl  k) ?_
  show Run p e below s _ _ _ (T201.setTop (mkF m 8 #[.val (.ref b), .val (.int (1 : Int32))] [(.int (1 : Int32)), (.ref b)]))
  obtain ⟨c202, Ar202, -, S202, N202, H202, -⟩ := id AB
  have hin202 : ¬ ((1 : Int32) < 0 ∨ c202.slots.size ≤ ((1 : Int32)).toNatClampNeg) := inb_of S202 ⟨by decide, by decide⟩
  refine Run.pre (X201.baloadBytes hx (j := (1 : Int32)) (v := (.int (nar .byte (c1.toInt8.toInt32)))) (by rw [e201]; exact Ar202.1) (State.isArrayOf_alike hZ.alike Ar202.2.1) Ar202.2.2 hin202 (H202.at hin202 rfl) (g := (mkF m 8 #[.val (.ref b), .val (.int (1 : Int32))] [(.int (1 : Int32)), (.ref b)])) rfl rfl (hb hby d13_8)) ?_
  show Run p e below s _ _ _ (T201.setTop (mkF m 9 #[.val (.ref b), .val (.int (1 : Int32))] [(.int (nar .byte (c1.toInt8.toInt32)))]))
  refine Run.pre (fun _ k => XS.sipush X201.here hx rfl (hb hby d13_9) k) ?_
  show Run p e below s _ _ _ (T201.setTop (mkF m 12 #[.val (.ref b), .val (.int (1 : Int32))] [(.int (255 : Int32)), (.int (nar .byte (c1.toInt8.toInt32)))]))
  refine Run.pre (fun _ k => XS.iand X201.here hx rfl (hb hby d13_12) rfl k) ?_
  show Run p e below s _ _ _ (T201.setTop (mkF m 13 #[.val (.ref b), .val (.int (1 : Int32))] [(.int ((nar .byte (c1.toInt8.toInt32)) &&& (255 : Int32)))]))
  refine Run.pre (fun _ k => XS.i2c X201.here hx rfl (hb hby d13_13) rfl k) ?_
  show Run p e below s _ _ _ (T201.setTop (mkF m 14 #[.val (.ref b), .val (.int (1 : Int32))] [(.int (((nar .byte (c1.toInt8.toInt32)) &&& (255 : Int32)).toUInt32.toUInt16.toUInt32.toInt32))]))
  exact Run.retN X201 hx hret (t := .char) (by simp) hlk (hb hby d13_14) (by first | (rw [e201]; exact ⟨congrArg (fun z => some (Value.int z)) (own_lc c1 wi qi), N201, rfl⟩) | exact ⟨congrArg (fun z => some (Value.int z)) (own_lc c1 wi qi), N201, rfl⟩) (by decide) (by decide)
set_option maxRecDepth 65536 in
set_option maxHeartbeats 40000000 in
theorem rmUE_1 (l : Launch) (Z : State) (a0 : Array Value) (hw : ∀ d ∈ tables_1, d.before a0 Z = true) (b : Addr) (k : ClassId) (c0 : Int32) (c1 : Int32) (c2 : Int32) (c3 : Int32) (fw : Value) (h0 : Heap) (n0 : Nat) (Z0 : n0 ≤ h0.size) (OL : Old Z n0 h0) (SF : Sta Z Z.heap "jdk/internal/util/Preconditions" "SIOOBE_FORMATTER" "Ljava/util/function/BiFunction;" fw) (hfw : fw.isRef = true) (AB : Arv Z h0 b k .byte 8 [(.int (own_b0 c0)), (.int (own_b1 c0)), (.int (own_b0 c1)), (.int (own_b1 c1)), (.int (own_b0 c2)), (.int (own_b1 c2)), (.int (own_b0 c3)), (.int (own_b1 c3))] (.int 0)) :
    Con l (⟨"java/lang/StringUTF16", "checkIndex", "(I[B)V"⟩ : MethodName) jdk_52_method_91_code 2 none ({ frames := 2, cells := 0, slots := 0, locals := 27 } : Room) Z #[(.int (1 : Int32)), (.ref b)] h0 (fun v h L => v = none ∧ Fr n0 L ∧ h = h0) := by
  refine Con.mk (plainFor_of_name pn_22) (fun m => show entryFrame m #[(.int (1 : Int32)), (.ref b)] 2 = mkF m 0 #[.val (.int (1 : Int32)), .val (.ref b)] [] by first | (simp [entryFrame, mkF, argsToLocals, Value.category]; done) | rfl) ?_
  intro p e s m below meth c s₁ hx hby hml hown hnm hret hlk hZ X0 e0
  have N0 := Fr.nil n0
  show Run p e below s _ _ _ (s₁.setTop (mkF m 0 #[.val (.int (1 : Int32)), .val (.ref b)] []))
  refine Run.pre (fun _ k => XS.iloadN X0.here hx rfl (hb hby d22_0) rfl  k) ?_
  show Run p e below s _ _ _ (s₁.setTop (mkF m 1 #[.val (.int (1 : Int32)), .val (.ref b)] [(.int (1 : Int32))]))
  refine Run.pre (fun _ k => XS.aloadN X0.here hx rfl (hb hby d22_1) rfl rfl k) ?_
  show Run p e below s _ _ _ (s₁.setTop (mkF m 2 #[.val (.int (1 : Int32)), .val (.ref b)] [(.ref b), (.int (1 : Int32))]))
  refine Run.callS X0 hx hZ (y := (⟨"java/lang/StringUTF16", "length", "([B)I"⟩ : MethodName)) hown (hw _ (List.mem_of_getElem? (i := 92) rfl)) (hw _ (List.mem_of_getElem? (i := 93) rfl)) (hw _ (List.mem_of_getElem? (i := 22) rfl)) (hw _ (List.mem_of_getElem? (i := 94) rfl)) (by decide) (W := 1) (rmUL l Z a0 hw b k c0 c1 c2 c3 h0 n0 (Nat.le_trans Z0 (Keep.refl h0 []).1) AB) e0 (by decide) (by decide) (by decide) (by decide) (g := (mkF m 2 #[.val (.int (1 : Int32)), .val (.ref b)] [(.ref b), (.int (1 : Int32))])) rfl (by rw [hml]; rfl) (argsL := [(.ref b)]) (rest := [(.int (1 : Int32))]) (lenOf pd_11 rfl) rfl (by show 2 * 0 + _ ≤ _; exact Nat.le_of_eq rfl) (hb hby d22_2) ?_
  intro v203 T203 L203 X203 hQ203
  obtain ⟨rfl, Nq203, he203⟩ := hQ203
  have N203 := Fr.app N0 Nq203
  have e203 : T203.heap = h0 := he203
  show Run p e below s _ _ _ (T203.setTop (mkF m 5 #[.val (.int (1 : Int32)), .val (.ref b)] [(.int (4 : Int32)), (.int (1 : Int32))]))
  refine Run.callS X203 hx hZ (y := (⟨"java/lang/String", "checkIndex", "(II)V"⟩ : MethodName)) hown (hw _ (List.mem_of_getElem? (i := 95) rfl)) (hw _ (List.mem_of_getElem? (i := 60) rfl)) (hw _ (List.mem_of_getElem? (i := 8) rfl)) (hw _ (List.mem_of_getElem? (i := 61) rfl)) (by decide) (W := 0) (rmCX_1_4 l Z a0 hw fw h0 n0 (Nat.le_trans Z0 (Keep.refl h0 []).1) OL SF hfw) e203 (by decide) (by decide) (by decide) (by decide) (g := (mkF m 5 #[.val (.int (1 : Int32)), .val (.ref b)] [(.int (4 : Int32)), (.int (1 : Int32))])) rfl (by rw [hml]; rfl) (argsL := [(.int (1 : Int32)), (.int (4 : Int32))]) (rest := []) (lenOf pd_10 rfl) rfl (by show 2 * 0 + _ ≤ _; exact Nat.le_of_eq rfl) (hb hby d22_5) ?_
  intro v204 T204 L204 X204 hQ204
  obtain ⟨rfl, Nq204, he204⟩ := hQ204
  have N204 := Fr.app N203 Nq204
  have e204 : T204.heap = h0 := he204
  show Run p e below s _ _ _ (T204.setTop (mkF m 8 #[.val (.int (1 : Int32)), .val (.ref b)] []))
  exact Run.retV X204 hx hret hlk (hb hby d22_8) (by first | (rw [e204]; exact ⟨rfl, N204, rfl⟩) | exact ⟨rfl, N204, rfl⟩) (by decide) (by decide)
set_option maxRecDepth 65536 in
set_option maxHeartbeats 40000000 in
theorem rmUC_1 (l : Launch) (Z : State) (a0 : Array Value) (hw : ∀ d ∈ tables_1, d.before a0 Z = true) (b : Addr) (k : ClassId) (c0 : Int32) (c1 : Int32) (c2 : Int32) (c3 : Int32) (fw : Value) (h0 : Heap) (n0 : Nat) (Z0 : n0 ≤ h0.size) (OL : Old Z n0 h0) (SF : Sta Z Z.heap "jdk/internal/util/Preconditions" "SIOOBE_FORMATTER" "Ljava/util/function/BiFunction;" fw) (hfw : fw.isRef = true) (SA : Sta Z Z.heap "java/lang/StringUTF16" "$assertionsDisabled" "Z" (.int 1)) (SH : Sta Z Z.heap "java/lang/StringUTF16" "HI_BYTE_SHIFT" "I" (.int 0)) (SL : Sta Z Z.heap "java/lang/StringUTF16" "LO_BYTE_SHIFT" "I" (.int 8)) (AB : Arv Z h0 b k .byte 8 [(.int (own_b0 c0)), (.int (own_b1 c0)), (.int (own_b0 c1)), (.int (own_b1 c1)), (.int (own_b0 c2)), (.int (own_b1 c2)), (.int (own_b0 c3)), (.int (own_b1 c3))] (.int 0)) (wi : nar .char c1 = c1) :
    Con l (⟨"java/lang/StringUTF16", "charAt", "([BI)C"⟩ : MethodName) jdk_52_method_83_code 2 (some .char) ({ frames := 3, cells := 0, slots := 0, locals := 40 } : Room) Z #[(.ref b), (.int (1 : Int32))] h0 (fun v h L => v = some (.int c1) ∧ Fr n0 L ∧ h = h0) := by
  refine Con.mk (plainFor_of_name pn_21) (fun m => show entryFrame m #[(.ref b), (.int (1 : Int32))] 2 = mkF m 0 #[.val (.ref b), .val (.int (1 : Int32))] [] by first | (simp [entryFrame, mkF, argsToLocals, Value.category]; done) | rfl) ?_
  intro p e s m below meth c s₁ hx hby hml hown hnm hret hlk hZ X0 e0
  have N0 := Fr.nil n0
  show Run p e below s _ _ _ (s₁.setTop (mkF m 0 #[.val (.ref b), .val (.int (1 : Int32))] []))
  refine Run.pre (fun _ k => XS.iloadN X0.here hx rfl (hb hby d21_0) rfl  k) ?_
  show Run p e below s _ _ _ (s₁.setTop (mkF m 1 #[.val (.ref b), .val (.int (1 : Int32))] [(.int (1 : Int32))]))
  refine Run.pre (fun _ k => XS.aloadN X0.here hx rfl (hb hby d21_1) rfl rfl k) ?_
  show Run p e below s _ _ _ (s₁.setTop (mkF m 2 #[.val (.ref b), .val (.int (1 : Int32))] [(.ref b), (.int (1 : Int32))]))
  refine Run.callS X0 hx hZ (y := (⟨"java/lang/StringUTF16", "checkIndex", "(I[B)V"⟩ : MethodName)) hown (hw _ (List.mem_of_getElem? (i := 89) rfl)) (hw _ (List.mem_of_getElem? (i := 90) rfl)) (hw _ (List.mem_of_getElem? (i := 22) rfl)) (hw _ (List.mem_of_getElem? (i := 91) rfl)) (by decide) (W := 0) (rmUE_1 l Z a0 hw b k c0 c1 c2 c3 fw h0 n0 (Nat.le_trans Z0 (Keep.refl h0 []).1) OL SF hfw AB) e0 (by decide) (by decide) (by decide) (by decide) (g := (mkF m 2 #[.val (.ref b), .val (.int (1 : Int32))] [(.ref b), (.int (1 : Int32))])) rfl (by rw [hml]; rfl) (argsL := [(.int (1 : Int32)), (.ref b)]) (rest := []) (lenOf pd_12 rfl) rfl (by show 2 * 0 + _ ≤ _; exact Nat.le_of_eq rfl) (hb hby d21_2) ?_
  intro v205 T205 L205 X205 hQ205
  obtain ⟨rfl, Nq205, he205⟩ := hQ205
  have N205 := Fr.app N0 Nq205
  have e205 : T205.heap = h0 := he205
  show Run p e below s _ _ _ (T205.setTop (mkF m 5 #[.val (.ref b), .val (.int (1 : Int32))] []))
  refine Run.pre (fun _ k => XS.aloadN X205.here hx rfl (hb hby d21_5) rfl rfl k) ?_
  show Run p e below s _ _ _ (T205.setTop (mkF m 6 #[.val (.ref b), .val (.int (1 : Int32))] [(.ref b)]))
  refine Run.pre (fun _ k => XS.iloadN X205.here hx rfl (hb hby d21_6) rfl  k) ?_
  show Run p e below s _ _ _ (T205.setTop (mkF m 7 #[.val (.ref b), .val (.int (1 : Int32))] [(.int (1 : Int32)), (.ref b)]))
  refine Run.callS X205 hx hZ (y := (⟨"java/lang/StringUTF16", "getChar", "([BI)C"⟩ : MethodName)) hown (hw _ (List.mem_of_getElem? (i := 83) rfl)) (hw _ (List.mem_of_getElem? (i := 84) rfl)) (hw _ (List.mem_of_getElem? (i := 22) rfl)) (hw _ (List.mem_of_getElem? (i := 85) rfl)) (by decide) (W := 0) (rmGC_4_1 l Z a0 hw b k (own_b0 c0) (own_b1 c0) (own_b0 c1) (own_b1 c1) (own_b0 c2) (own_b1 c2) (own_b0 c3) (own_b1 c3) h0 n0 (Nat.le_trans Z0 (Keep.refl h0 []).1) OL SA SH SL AB) e205 (by decide) (by decide) (by decide) (by decide) (g := (mkF m 7 #[.val (.ref b), .val (.int (1 : Int32))] [(.int (1 : Int32)), (.ref b)])) rfl (by rw [hml]; rfl) (argsL := [(.ref b), (.int (1 : Int32))]) (rest := []) (lenOf pd_5 rfl) rfl (by show 2 * 0 + _ ≤ _; exact Nat.le_of_eq rfl) (hb hby d21_7) ?_
  intro v206 T206 L206 X206 hQ206
  obtain ⟨rfl, Nq206, he206⟩ := hQ206
  have N206 := Fr.app N205 Nq206
  have e206 : T206.heap = h0 := he206
  show Run p e below s _ _ _ (T206.setTop (mkF m 10 #[.val (.ref b), .val (.int (1 : Int32))] [(.int (own_gcv (own_b0 c1) (own_b1 c1)))]))
  exact Run.retN X206 hx hret (t := .char) (by simp) hlk (hb hby d21_10) (by first | (rw [e206]; exact ⟨by rw [own_gc c1 wi, wi], N206, rfl⟩) | exact ⟨by rw [own_gc c1 wi, wi], N206, rfl⟩) (by decide) (by decide)
set_option maxRecDepth 65536 in
set_option maxHeartbeats 40000000 in
theorem rmCA_1 (l : Launch) (Z : State) (a0 : Array Value) (hw : ∀ d ∈ tables_1, d.before a0 Z = true) (a : Addr) (b : Addr) (k : ClassId) (c0 : Int32) (c1 : Int32) (c2 : Int32) (c3 : Int32) (cs : Int32) (fw : Value) (h0 : Heap) (n0 : Nat) (Z0 : n0 ≤ h0.size) (OL : Old Z n0 h0) (SC : Sta Z Z.heap "java/lang/String" "COMPACT_STRINGS" "Z" (.int cs)) (hcs : ¬ cs = 0) (SF : Sta Z Z.heap "jdk/internal/util/Preconditions" "SIOOBE_FORMATTER" "Ljava/util/function/BiFunction;" fw) (hfw : fw.isRef = true) (SA : Sta Z Z.heap "java/lang/StringUTF16" "$assertionsDisabled" "Z" (.int 1)) (SH : Sta Z Z.heap "java/lang/StringUTF16" "HI_BYTE_SHIFT" "I" (.int 0)) (SL : Sta Z Z.heap "java/lang/StringUTF16" "LO_BYTE_SHIFT" "I" (.int 8)) (E_a : Exa Z h0 a "java/lang/String") (FV : Fld Z h0 a "java/lang/String" "value" "[B" (.ref b)) (DQ : (Fld Z h0 a "java/lang/String" "coder" "B" (.int 0) ∧ (¬ (255 : Int32) < c0 ∧ ¬ (255 : Int32) < c1 ∧ ¬ (255 : Int32) < c2 ∧ ¬ (255 : Int32) < c3) ∧ Arv Z h0 b k .byte 4 [(.int (nar .byte (c0.toInt8.toInt32))), (.int (nar .byte (c1.toInt8.toInt32))), (.int (nar .byte (c2.toInt8.toInt32))), (.int (nar .byte (c3.toInt8.toInt32)))] (.int 0) ∨ Fld Z h0 a "java/lang/String" "coder" "B" (.int 1) ∧ (¬ (¬ (255 : Int32) < c0 ∧ ¬ (255 : Int32) < c1 ∧ ¬ (255 : Int32) < c2 ∧ ¬ (255 : Int32) < c3)) ∧ Arv Z h0 b k .byte 8 [(.int (own_b0 c0)), (.int (own_b1 c0)), (.int (own_b0 c1)), (.int (own_b1 c1)), (.int (own_b0 c2)), (.int (own_b1 c2)), (.int (own_b0 c3)), (.int (own_b1 c3))] (.int 0))) (w0 : nar .char c0 = c0) (w1 : nar .char c1 = c1) (w2 : nar .char c2 = c2) (w3 : nar .char c3 = c3) :
    Con l (⟨"java/lang/String", "charAt", "(I)C"⟩ : MethodName) jdk_42_method_56_code 2 (some .char) ({ frames := 4, cells := 0, slots := 0, locals := 53 } : Room) Z #[(.ref a), (.int (1 : Int32))] h0 (fun v h L => v = some (.int c1) ∧ Fr n0 L ∧ h = h0) := by
  refine Con.mk (plainFor_of_name pn_11) (fun m => show entryFrame m #[(.ref a), (.int (1 : Int32))] 2 = mkF m 0 #[.val (.ref a), .val (.int (1 : Int32))] [] by first | (simp [entryFrame, mkF, argsToLocals, Value.category]; done) | rfl) ?_
  intro p e s m below meth c s₁ hx hby hml hown hnm hret hlk hZ X0 e0
  have N0 := Fr.nil n0
  show Run p e below s _ _ _ (s₁.setTop (mkF m 0 #[.val (.ref a), .val (.int (1 : Int32))] []))
  rcases DQ with ⟨FCo, hl, AB⟩ | ⟨FCo, hl, AB⟩
  · skip
    show Run p e below s _ _ _ (s₁.setTop (mkF m 0 #[.val (.ref a), .val (.int (1 : Int32))] []))
    refine Run.pre (fun _ k => XS.aloadN X0.here hx rfl (hb hby d11_0) rfl rfl k) ?_
    show Run p e below s _ _ _ (s₁.setTop (mkF m 1 #[.val (.ref a), .val (.int (1 : Int32))] [(.ref a)]))
    refine Run.callV X0 hx hZ (y := (⟨"java/lang/String", "isLatin1", "()Z"⟩ : MethodName)) (z := (⟨"java/lang/String", "isLatin1", "()Z"⟩ : MethodName)) hown (hw _ (List.mem_of_getElem? (i := 50) rfl)) (hw _ (List.mem_of_getElem? (i := 51) rfl)) (notFace_of_selects (args := #[]) (mvT hZ (hw _ (List.mem_of_getElem? (i := 53) rfl)))) (hw _ (List.mem_of_getElem? (i := 53) rfl)) (hw _ (List.mem_of_getElem? (i := 52) rfl)) (hw _ (List.mem_of_getElem? (i := 54) rfl)) (hw _ (List.mem_of_getElem? (i := 8) rfl)) (by decide) (b := a) E_a (W := 0) (rmIL_0 l Z a0 hw a cs h0 n0 (Nat.le_trans Z0 (Keep.refl h0 []).1) OL SC hcs FCo) e0 (by decide) (by decide) (by decide) (by decide) (g := (mkF m 1 #[.val (.ref a), .val (.int (1 : Int32))] [(.ref a)])) rfl (by rw [hml]; rfl) (argsL := []) (rest := []) (lenOf pd_13 rfl) rfl (by show 2 * 0 + _ ≤ _; exact Nat.le_of_eq rfl) (hb hby d11_1) ?_
    intro v207 T207 L207 X207 hQ207
    obtain ⟨rfl, Nq207, he207⟩ := hQ207
    have N207 := Fr.app N0 Nq207
    have e207 : T207.heap = h0 := he207
    show Run p e below s _ _ _ (T207.setTop (mkF m 4 #[.val (.ref a), .val (.int (1 : Int32))] [(.int (1 : Int32))]))
    refine Run.pre (fun _ k => XS.ifNo X207.here hx rfl (hb hby d11_4) rfl ((if0 _ _).trans (feq ((by decide) : ¬ ((1 : Int32) = (0 : Int32)))).1) k) ?_
    show Run p e below s _ _ _ (T207.setTop (mkF m 7 #[.val (.ref a), .val (.int (1 : Int32))] []))
    refine Run.pre (fun _ k => XS.aloadN X207.here hx rfl (hb hby d11_7) rfl rfl k) ?_
    show Run p e below s _ _ _ (T207.setTop (mkF m 8 #[.val (.ref a), .val (.int (1 : Int32))] [(.ref a)]))
    obtain ⟨T208, X208, e208, st208⟩ := getF X207 hx hZ hown (host := "") (Or.inl (hw _ (List.mem_of_getElem? (i := 33) rfl))) Via.refl e207 FV (g := (mkF m 8 #[.val (.ref a), .val (.int (1 : Int32))] [(.ref a)])) rfl rfl (hb hby d11_8)
    refine Run.pre st208 ?_
    show Run p e below s _ _ _ (T208.setTop (mkF m 11 #[.val (.ref a), .val (.int (1 : Int32))] [(.ref b)]))
    refine Run.pre (fun _ k => XS.iloadN X208.here hx rfl (hb hby d11_11) rfl  k) ?_
    show Run p e below s _ _ _ (T208.setTop (mkF m 12 #[.val (.ref a), .val (.int (1 : Int32))] [(.int (1 : Int32)), (.ref b)]))
    refine Run.callS X208 hx hZ (y := (⟨"java/lang/StringLatin1", "charAt", "([BI)C"⟩ : MethodName)) hown (hw _ (List.mem_of_getElem? (i := 55) rfl)) (hw _ (List.mem_of_getElem? (i := 56) rfl)) (hw _ (List.mem_of_getElem? (i := 57) rfl)) (hw _ (List.mem_of_getElem? (i := 58) rfl)) (by decide) (W := 0) (rmLC_1 l Z a0 hw b k c0 c1 c2 c3 fw h0 n0 (Nat.le_trans Z0 (Keep.refl h0 []).1) OL SF hfw AB w1 hl.2.1) e208 (by decide) (by decide) (by decide) (by decide) (g := (mkF m 12 #[.val (.ref a), .val (.int (1 : Int32))] [(.int (1 : Int32)), (.ref b)])) rfl (by rw [hml]; rfl) (argsL := [(.ref b), (.int (1 : Int32))]) (rest := []) (lenOf pd_5 rfl) rfl (by show 2 * 0 + _ ≤ _; exact Nat.le_of_eq rfl) (hb hby d11_12) ?_
    intro v209 T209 L209 X209 hQ209
    obtain ⟨rfl, Nq209, he209⟩ := hQ209
    have N209 := Fr.app N207 Nq209
    have e209 : T209.heap = h0 := he209
    show Run p e below s _ _ _ (T209.setTop (mkF m 15 #[.val (.ref a), .val (.int (1 : Int32))] [(.int c1)]))
    exact Run.retN X209 hx hret (t := .char) (by simp) hlk (hb hby d11_15) (by first | (rw [e209]; exact ⟨by rw [w1], N209, rfl⟩) | exact ⟨by rw [w1], N209, rfl⟩) (by decide) (by decide)
  · skip
    show Run p e below s _ _ _ (s₁.setTop (mkF m 0 #[.val (.ref a), .val (.int (1 : Int32))] []))
    refine Run.pre (fun _ k => XS.aloadN X0.here hx rfl (hb hby d11_0) rfl rfl k) ?_
    show Run p e below s _ _ _ (s₁.setTop (mkF m 1 #[.val (.ref a), .val (.int (1 : Int32))] [(.ref a)]))
    refine Run.callV X0 hx hZ (y := (⟨"java/lang/String", "isLatin1", "()Z"⟩ : MethodName)) (z := (⟨"java/lang/String", "isLatin1", "()Z"⟩ : MethodName)) hown (hw _ (List.mem_of_getElem? (i := 50) rfl)) (hw _ (List.mem_of_getElem? (i := 51) rfl)) (notFace_of_selects (args := #[]) (mvT hZ (hw _ (List.mem_of_getElem? (i := 53) rfl)))) (hw _ (List.mem_of_getElem? (i := 53) rfl)) (hw _ (List.mem_of_getElem? (i := 52) rfl)) (hw _ (List.mem_of_getElem? (i := 54) rfl)) (hw _ (List.mem_of_getElem? (i := 8) rfl)) (by decide) (b := a) E_a (W := 0) (rmIL_1 l Z a0 hw a cs h0 n0 (Nat.le_trans Z0 (Keep.refl h0 []).1) OL SC hcs FCo) e0 (by decide) (by decide) (by decide) (by decide) (g := (mkF m 1 #[.val (.ref a), .val (.int (1 : Int32))] [(.ref a)])) rfl (by rw [hml]; rfl) (argsL := []) (rest := []) (lenOf pd_13 rfl) rfl (by show 2 * 0 + _ ≤ _; exact Nat.le_of_eq rfl) (hb hby d11_1) ?_
    intro v210 T210 L210 X210 hQ210
    obtain ⟨rfl, Nq210, he210⟩ := hQ210
    have N210 := Fr.app N0 Nq210
    have e210 : T210.heap = h0 := he210
    show Run p e below s _ _ _ (T210.setTop (mkF m 4 #[.val (.ref a), .val (.int (1 : Int32))] [(.int (0 : Int32))]))
    refine Run.pre (fun _ k => XS.ifYes X210.here hx rfl (pc0 := 4) (pc' := 16) rfl (hb hby d11_4) rfl ((if0 _ _).trans (teq ((by decide) : (0 : Int32) = (0 : Int32))).1) (by decide) (by decide) k) ?_
    show Run p e below s _ _ _ (T210.setTop (mkF m 16 #[.val (.ref a), .val (.int (1 : Int32))] []))
    refine Run.pre (fun _ k => XS.aloadN X210.here hx rfl (hb hby d11_16) rfl rfl k) ?_
    show Run p e below s _ _ _ (T210.setTop (mkF m 17 #[.val (.ref a), .val (.int (1 : Int32))] [(.ref a)]))
    obtain ⟨T211, X211, e211, st211⟩ := getF X210 hx hZ hown (host := "") (Or.inl (hw _ (List.mem_of_getElem? (i := 33) rfl))) Via.refl e210 FV (g := (mkF m 17 #[.val (.ref a), .val (.int (1 : Int32))] [(.ref a)])) rfl rfl (hb hby d11_17)
    refine Run.pre st211 ?_
    show Run p e below s _ _ _ (T211.setTop (mkF m 20 #[.val (.ref a), .val (.int (1 : Int32))] [(.ref b)]))
    refine Run.pre (fun _ k => XS.iloadN X211.here hx rfl (hb hby d11_20) rfl  k) ?_
    show Run p e below s _ _ _ (T211.setTop (mkF m 21 #[.val (.ref a), .val (.int (1 : Int32))] [(.int (1 : Int32)), (.ref b)]))
    refine Run.callS X211 hx hZ (y := (⟨"java/lang/StringUTF16", "charAt", "([BI)C"⟩ : MethodName)) hown (hw _ (List.mem_of_getElem? (i := 86) rfl)) (hw _ (List.mem_of_getElem? (i := 87) rfl)) (hw _ (List.mem_of_getElem? (i := 22) rfl)) (hw _ (List.mem_of_getElem? (i := 88) rfl)) (by decide) (W := 0) (rmUC_1 l Z a0 hw b k c0 c1 c2 c3 fw h0 n0 (Nat.le_trans Z0 (Keep.refl h0 []).1) OL SF hfw SA SH SL AB w1) e211 (by decide) (by decide) (by decide) (by decide) (g := (mkF m 21 #[.val (.ref a), .val (.int (1 : Int32))] [(.int (1 : Int32)), (.ref b)])) rfl (by rw [hml]; rfl) (argsL := [(.ref b), (.int (1 : Int32))]) (rest := []) (lenOf pd_5 rfl) rfl (by show 2 * 0 + _ ≤ _; exact Nat.le_of_eq rfl) (hb hby d11_21) ?_
    intro v212 T212 L212 X212 hQ212
    obtain ⟨rfl, Nq212, he212⟩ := hQ212
    have N212 := Fr.app N210 Nq212
    have e212 : T212.heap = h0 := he212
    show Run p e below s _ _ _ (T212.setTop (mkF m 24 #[.val (.ref a), .val (.int (1 : Int32))] [(.int c1)]))
    exact Run.retN X212 hx hret (t := .char) (by simp) hlk (hb hby d11_24) (by first | (rw [e212]; exact ⟨by rw [w1], N212, rfl⟩) | exact ⟨by rw [w1], N212, rfl⟩) (by decide) (by decide)
set_option maxRecDepth 65536 in
set_option maxHeartbeats 40000000 in
theorem rmPX_2_4 (l : Launch) (Z : State) (a0 : Array Value) (hw : ∀ d ∈ tables_1, d.before a0 Z = true) (fw : Value) (h0 : Heap) (n0 : Nat) (Z0 : n0 ≤ h0.size) (hfw : fw.isRef = true) :
    Con l (⟨"jdk/internal/util/Preconditions", "checkIndex", "(IILjava/util/function/BiFunction;)I"⟩ : MethodName) jdk_41_method_11_code 3 (some .int) ({ frames := 0, cells := 0, slots := 0, locals := 0 } : Room) Z #[(.int (2 : Int32)), (.int (4 : Int32)), fw] h0 (fun v h L => v = some (.int 2) ∧ Fr n0 L ∧ h = h0) := by
  refine Con.mk (plainFor_of_name pn_15) (fun m => show entryFrame m #[(.int (2 : Int32)), (.int (4 : Int32)), fw] 3 = mkF m 0 #[.val (.int (2 : Int32)), .val (.int (4 : Int32)), .val fw] [] by rcases ref_cases hfw with hq | ⟨_, hq⟩ <;> subst hq <;> first | (simp [entryFrame, mkF, argsToLocals, Value.category]; done) | rfl) ?_
  intro p e s m below meth c s₁ hx hby hml hown hnm hret hlk hZ X0 e0
  have N0 := Fr.nil n0
  show Run p e below s _ _ _ (s₁.setTop (mkF m 0 #[.val (.int (2 : Int32)), .val (.int (4 : Int32)), .val fw] []))
  refine Run.pre (fun _ k => XS.iloadN X0.here hx rfl (hb hby d15_0) rfl  k) ?_
  show Run p e below s _ _ _ (s₁.setTop (mkF m 1 #[.val (.int (2 : Int32)), .val (.int (4 : Int32)), .val fw] [(.int (2 : Int32))]))
  refine Run.pre (fun _ k => XS.ifNo X0.here hx rfl (hb hby d15_1) rfl ((if0 _ _).trans (flt ((by decide) : ¬ ((2 : Int32) < (0 : Int32)))).1) k) ?_
  show Run p e below s _ _ _ (s₁.setTop (mkF m 4 #[.val (.int (2 : Int32)), .val (.int (4 : Int32)), .val fw] []))
  refine Run.pre (fun _ k => XS.iloadN X0.here hx rfl (hb hby d15_4) rfl  k) ?_
  show Run p e below s _ _ _ (s₁.setTop (mkF m 5 #[.val (.int (2 : Int32)), .val (.int (4 : Int32)), .val fw] [(.int (2 : Int32))]))
  refine Run.pre (fun _ k => XS.iloadN X0.here hx rfl (hb hby d15_5) rfl  k) ?_
  show Run p e below s _ _ _ (s₁.setTop (mkF m 6 #[.val (.int (2 : Int32)), .val (.int (4 : Int32)), .val fw] [(.int (4 : Int32)), (.int (2 : Int32))]))
  refine Run.pre (fun _ k => XS.icmpYes X0.here hx rfl (pc0 := 6) (pc' := 16) rfl (hb hby d15_6) rfl (tlt ((by decide) : (2 : Int32) < (4 : Int32))).1 (by decide) (by decide) k) ?_
  show Run p e below s _ _ _ (s₁.setTop (mkF m 16 #[.val (.int (2 : Int32)), .val (.int (4 : Int32)), .val fw] []))
  refine Run.pre (fun _ k => XS.iloadN X0.here hx rfl (hb hby d15_16) rfl  k) ?_
  show Run p e below s _ _ _ (s₁.setTop (mkF m 17 #[.val (.int (2 : Int32)), .val (.int (4 : Int32)), .val fw] [(.int (2 : Int32))]))
  exact Run.retI X0 hx hret hlk (hb hby d15_17) (by first | (rw [e0]; exact ⟨rfl, N0, rfl⟩) | exact ⟨rfl, N0, rfl⟩) (by decide) (by decide)
set_option maxRecDepth 65536 in
set_option maxHeartbeats 40000000 in
theorem rmCX_2_4 (l : Launch) (Z : State) (a0 : Array Value) (hw : ∀ d ∈ tables_1, d.before a0 Z = true) (fw : Value) (h0 : Heap) (n0 : Nat) (Z0 : n0 ≤ h0.size) (OL : Old Z n0 h0) (SF : Sta Z Z.heap "jdk/internal/util/Preconditions" "SIOOBE_FORMATTER" "Ljava/util/function/BiFunction;" fw) (hfw : fw.isRef = true) :
    Con l (⟨"java/lang/String", "checkIndex", "(II)V"⟩ : MethodName) jdk_42_method_155_code 2 none ({ frames := 1, cells := 0, slots := 0, locals := 14 } : Room) Z #[(.int (2 : Int32)), (.int (4 : Int32))] h0 (fun v h L => v = none ∧ Fr n0 L ∧ h = h0) := by
  refine Con.mk (plainFor_of_name pn_14) (fun m => show entryFrame m #[(.int (2 : Int32)), (.int (4 : Int32))] 2 = mkF m 0 #[.val (.int (2 : Int32)), .val (.int (4 : Int32))] [] by first | (simp [entryFrame, mkF, argsToLocals, Value.category]; done) | rfl) ?_
  intro p e s m below meth c s₁ hx hby hml hown hnm hret hlk hZ X0 e0
  have N0 := Fr.nil n0
  show Run p e below s _ _ _ (s₁.setTop (mkF m 0 #[.val (.int (2 : Int32)), .val (.int (4 : Int32))] []))
  refine Run.pre (fun _ k => XS.iloadN X0.here hx rfl (hb hby d14_0) rfl  k) ?_
  show Run p e below s _ _ _ (s₁.setTop (mkF m 1 #[.val (.int (2 : Int32)), .val (.int (4 : Int32))] [(.int (2 : Int32))]))
  refine Run.pre (fun _ k => XS.iloadN X0.here hx rfl (hb hby d14_1) rfl  k) ?_
  show Run p e below s _ _ _ (s₁.setTop (mkF m 2 #[.val (.int (2 : Int32)), .val (.int (4 : Int32))] [(.int (4 : Int32)), (.int (2 : Int32))]))
  obtain ⟨T214, X214, e214, st214⟩ := getS2 X0 hx hZ hown (host := "") (Or.inl (hw _ (List.mem_of_getElem? (i := 62) rfl))) Via.refl e0 (SF.ext OL.2) (g := (mkF m 2 #[.val (.int (2 : Int32)), .val (.int (4 : Int32))] [(.int (4 : Int32)), (.int (2 : Int32))])) rfl (hb hby d14_2)
  refine Run.pre st214 ?_
  show Run p e below s _ _ _ (T214.setTop (mkF m 5 #[.val (.int (2 : Int32)), .val (.int (4 : Int32))] [fw, (.int (4 : Int32)), (.int (2 : Int32))]))
  refine Run.callS X214 hx hZ (y := (⟨"jdk/internal/util/Preconditions", "checkIndex", "(IILjava/util/function/BiFunction;)I"⟩ : MethodName)) hown (hw _ (List.mem_of_getElem? (i := 64) rfl)) (hw _ (List.mem_of_getElem? (i := 65) rfl)) (hw _ (List.mem_of_getElem? (i := 63) rfl)) (hw _ (List.mem_of_getElem? (i := 66) rfl)) (by decide) (W := 0) (rmPX_2_4 l Z a0 hw fw h0 n0 (Nat.le_trans Z0 (Keep.refl h0 []).1) hfw) e214 (by decide) (by decide) (by decide) (by decide) (g := (mkF m 5 #[.val (.int (2 : Int32)), .val (.int (4 : Int32))] [fw, (.int (4 : Int32)), (.int (2 : Int32))])) rfl (by rw [hml]; rfl) (argsL := [(.int (2 : Int32)), (.int (4 : Int32)), fw]) (rest := []) (lenOf pd_9 rfl) rfl (by show 2 * 0 + _ ≤ _; exact Nat.le_of_eq rfl) (hb hby d14_5) ?_
  intro v215 T215 L215 X215 hQ215
  obtain ⟨rfl, Nq215, he215⟩ := hQ215
  have N215 := Fr.app N0 Nq215
  have e215 : T215.heap = h0 := he215
  show Run p e below s _ _ _ (T215.setTop (mkF m 8 #[.val (.int (2 : Int32)), .val (.int (4 : Int32))] [(.int (2 : Int32))]))
  refine Run.pre (fun _ k => XS.pop X215.here hx rfl (hb hby d14_8) rfl rfl k) ?_
  show Run p e below s _ _ _ (T215.setTop (mkF m 9 #[.val (.int (2 : Int32)), .val (.int (4 : Int32))] []))
  exact Run.retV X215 hx hret hlk (hb hby d14_9) (by first | (rw [e215]; exact ⟨rfl, N215, rfl⟩) | exact ⟨rfl, N215, rfl⟩) (by decide) (by decide)
set_option maxRecDepth 65536 in
set_option maxHeartbeats 40000000 in
theorem rmLC_2 (l : Launch) (Z : State) (a0 : Array Value) (hw : ∀ d ∈ tables_1, d.before a0 Z = true) (b : Addr) (k : ClassId) (c0 : Int32) (c1 : Int32) (c2 : Int32) (c3 : Int32) (fw : Value) (h0 : Heap) (n0 : Nat) (Z0 : n0 ≤ h0.size) (OL : Old Z n0 h0) (SF : Sta Z Z.heap "jdk/internal/util/Preconditions" "SIOOBE_FORMATTER" "Ljava/util/function/BiFunction;" fw) (hfw : fw.isRef = true) (AB : Arv Z h0 b k .byte 4 [(.int (nar .byte (c0.toInt8.toInt32))), (.int (nar .byte (c1.toInt8.toInt32))), (.int (nar .byte (c2.toInt8.toInt32))), (.int (nar .byte (c3.toInt8.toInt32)))] (.int 0)) (wi : nar .char c2 = c2) (qi : ¬ (255 : Int32) < c2) :
    Con l (⟨"java/lang/StringLatin1", "charAt", "([BI)C"⟩ : MethodName) jdk_43_method_2_code 2 (some .char) ({ frames := 2, cells := 0, slots := 0, locals := 27 } : Room) Z #[(.ref b), (.int (2 : Int32))] h0 (fun v h L => v = some (.int c2) ∧ Fr n0 L ∧ h = h0) := by
  refine Con.mk (plainFor_of_name pn_13) (fun m => show entryFrame m #[(.ref b), (.int (2 : Int32))] 2 = mkF m 0 #[.val (.ref b), .val (.int (2 : Int32))] [] by first | (simp [entryFrame, mkF, argsToLocals, Value.category]; done) | rfl) ?_
  intro p e s m below meth c s₁ hx hby hml hown hnm hret hlk hZ X0 e0
  have N0 := Fr.nil n0
  show Run p e below s _ _ _ (s₁.setTop (mkF m 0 #[.val (.ref b), .val (.int (2 : Int32))] []))
  refine Run.pre (fun _ k => XS.iloadN X0.here hx rfl (hb hby d13_0) rfl  k) ?_
  show Run p e below s _ _ _ (s₁.setTop (mkF m 1 #[.val (.ref b), .val (.int (2 : Int32))] [(.int (2 : Int32))]))
  refine Run.pre (fun _ k => XS.aloadN X0.here hx rfl (hb hby d13_1) rfl rfl k) ?_
  show Run p e below s _ _ _ (s₁.setTop (mkF m 2 #[.val (.ref b), .val (.int (2 : Int32))] [(.ref b), (.int (2 : Int32))]))
  obtain ⟨c213, Ar213, -, S213, N213, -, -⟩ := id AB
  refine Run.pre (X0.arraylength hx (by rw [e0]; exact Ar213.1) (State.isArrayOf_alike hZ.alike Ar213.2.1) (g := (mkF m 2 #[.val (.ref b), .val (.int (2 : Int32))] [(.ref b), (.int (2 : Int32))])) rfl rfl (hb hby d13_2)) ?_
  rw [len_of S213 N213]
  show Run p e below s _ _ _ (s₁.setTop (mkF m 3 #[.val (.ref b), .val (.int (2 : Int32))] [(.int (4 : Int32)), (.int (2 : Int32))]))
  refine Run.callS X0 hx hZ (y := (⟨"java/lang/String", "checkIndex", "(II)V"⟩ : MethodName)) hown (hw _ (List.mem_of_getElem? (i := 59) rfl)) (hw _ (List.mem_of_getElem? (i := 60) rfl)) (hw _ (List.mem_of_getElem? (i := 8) rfl)) (hw _ (List.mem_of_getElem? (i := 61) rfl)) (by decide) (W := 0) (rmCX_2_4 l Z a0 hw fw h0 n0 (Nat.le_trans Z0 (Keep.refl h0 []).1) OL SF hfw) e0 (by decide) (by decide) (by decide) (by decide) (g := (mkF m 3 #[.val (.ref b), .val (.int (2 : Int32))] [(.int (4 : Int32)), (.int (2 : Int32))])) rfl (by rw [hml]; rfl) (argsL := [(.int (2 : Int32)), (.int (4 : Int32))]) (rest := []) (lenOf pd_10 rfl) rfl (by show 2 * 0 + _ ≤ _; exact Nat.le_of_eq rfl) (hb hby d13_3) ?_
  intro v216 T216 L216 X216 hQ216
  obtain ⟨rfl, Nq216, he216⟩ := hQ216
  have N216 := Fr.app N0 Nq216
  have e216 : T216.heap = h0 := he216
  show Run p e below s _ _ _ (T216.setTop (mkF m 6 #[.val (.ref b), .val (.int (2 : Int32))] []))
  refine Run.pre (fun _ k => XS.aloadN X216.here hx rfl (hb hby d13_6) rfl rfl k) ?_
  show Run p e below s _ _ _ (T216.setTop (mkF m 7 #[.val (.ref b), .val (.int (2 : Int32))] [(.ref b)]))
  refine Run.pre (fun _ k => XS.iloadN X216.here hx rfl (hb hby d13_7) rfl  k) ?_
  show Run p e below s _ _ _ (T216.setTop (mkF m 8 #[.val (.ref b), .val (.int (2 : Int32))] [(.int (2 : Int32)), (.ref b)]))
  obtain ⟨c217, Ar217, -, S217, N217, H217, -⟩ := id AB
  have hin217 : ¬ ((2 : Int32) < 0 ∨ c217.slots.size ≤ ((2 : Int32)).toNatClampNeg) := inb_of S217 ⟨by decide, by decide⟩
  refine Run.pre (X216.baloadBytes hx (j := (2 : Int32)) (v := (.int (nar .byte (c2.toInt8.toInt32)))) (by rw [e216]; exact Ar217.1) (State.isArrayOf_alike hZ.alike Ar217.2.1) Ar217.2.2 hin217 (H217.at hin217 rfl) (g := (mkF m 8 #[.val (.ref b), .val (.int (2 : Int32))] [(.int (2 : Int32)), (.ref b)])) rfl rfl (hb hby d13_8)) ?_
  show Run p e below s _ _ _ (T216.setTop (mkF m 9 #[.val (.ref b), .val (.int (2 : Int32))] [(.int (nar .byte (c2.toInt8.toInt32)))]))
  refine Run.pre (fun _ k => XS.sipush X216.here hx rfl (hb hby d13_9) k) ?_
  show Run p e below s _ _ _ (T216.setTop (mkF m 12 #[.val (.ref b), .val (.int (2 : Int32))] [(.int (255 : Int32)), (.int (nar .byte (c2.toInt8.toInt32)))]))
  refine Run.pre (fun _ k => XS.iand X216.here hx rfl (hb hby d13_12) rfl k) ?_
  show Run p e below s _ _ _ (T216.setTop (mkF m 13 #[.val (.ref b), .val (.int (2 : Int32))] [(.int ((nar .byte (c2.toInt8.toInt32)) &&& (255 : Int32)))]))
  refine Run.pre (fun _ k => XS.i2c X216.here hx rfl (hb hby d13_13) rfl k) ?_
  show Run p e below s _ _ _ (T216.setTop (mkF m 14 #[.val (.ref b), .val (.int (2 : Int32))] [(.int (((nar .byte (c2.toInt8.toInt32)) &&& (255 : Int32)).toUInt32.toUInt16.toUInt32.toInt32))]))
  exact Run.retN X216 hx hret (t := .char) (by simp) hlk (hb hby d13_14) (by first | (rw [e216]; exact ⟨congrArg (fun z => some (Value.int z)) (own_lc c2 wi qi), N216, rfl⟩) | exact ⟨congrArg (fun z => some (Value.int z)) (own_lc c2 wi qi), N216, rfl⟩) (by decide) (by decide)
set_option maxRecDepth 65536 in
set_option maxHeartbeats 40000000 in
theorem rmUE_2 (l : Launch) (Z : State) (a0 : Array Value) (hw : ∀ d ∈ tables_1, d.before a0 Z = true) (b : Addr) (k : ClassId) (c0 : Int32) (c1 : Int32) (c2 : Int32) (c3 : Int32) (fw : Value) (h0 : Heap) (n0 : Nat) (Z0 : n0 ≤ h0.size) (OL : Old Z n0 h0) (SF : Sta Z Z.heap "jdk/internal/util/Preconditions" "SIOOBE_FORMATTER" "Ljava/util/function/BiFunction;" fw) (hfw : fw.isRef = true) (AB : Arv Z h0 b k .byte 8 [(.int (own_b0 c0)), (.int (own_b1 c0)), (.int (own_b0 c1)), (.int (own_b1 c1)), (.int (own_b0 c2)), (.int (own_b1 c2)), (.int (own_b0 c3)), (.int (own_b1 c3))] (.int 0)) :
    Con l (⟨"java/lang/StringUTF16", "checkIndex", "(I[B)V"⟩ : MethodName) jdk_52_method_91_code 2 none ({ frames := 2, cells := 0, slots := 0, locals := 27 } : Room) Z #[(.int (2 : Int32)), (.ref b)] h0 (fun v h L => v = none ∧ Fr n0 L ∧ h = h0) := by
  refine Con.mk (plainFor_of_name pn_22) (fun m => show entryFrame m #[(.int (2 : Int32)), (.ref b)] 2 = mkF m 0 #[.val (.int (2 : Int32)), .val (.ref b)] [] by first | (simp [entryFrame, mkF, argsToLocals, Value.category]; done) | rfl) ?_
  intro p e s m below meth c s₁ hx hby hml hown hnm hret hlk hZ X0 e0
  have N0 := Fr.nil n0
  show Run p e below s _ _ _ (s₁.setTop (mkF m 0 #[.val (.int (2 : Int32)), .val (.ref b)] []))
  refine Run.pre (fun _ k => XS.iloadN X0.here hx rfl (hb hby d22_0) rfl  k) ?_
  show Run p e below s _ _ _ (s₁.setTop (mkF m 1 #[.val (.int (2 : Int32)), .val (.ref b)] [(.int (2 : Int32))]))
  refine Run.pre (fun _ k => XS.aloadN X0.here hx rfl (hb hby d22_1) rfl rfl k) ?_
  show Run p e below s _ _ _ (s₁.setTop (mkF m 2 #[.val (.int (2 : Int32)), .val (.ref b)] [(.ref b), (.int (2 : Int32))]))
  refine Run.callS X0 hx hZ (y := (⟨"java/lang/StringUTF16", "length", "([B)I"⟩ : MethodName)) hown (hw _ (List.mem_of_getElem? (i := 92) rfl)) (hw _ (List.mem_of_getElem? (i := 93) rfl)) (hw _ (List.mem_of_getElem? (i := 22) rfl)) (hw _ (List.mem_of_getElem? (i := 94) rfl)) (by decide) (W := 1) (rmUL l Z a0 hw b k c0 c1 c2 c3 h0 n0 (Nat.le_trans Z0 (Keep.refl h0 []).1) AB) e0 (by decide) (by decide) (by decide) (by decide) (g := (mkF m 2 #[.val (.int (2 : Int32)), .val (.ref b)] [(.ref b), (.int (2 : Int32))])) rfl (by rw [hml]; rfl) (argsL := [(.ref b)]) (rest := [(.int (2 : Int32))]) (lenOf pd_11 rfl) rfl (by show 2 * 0 + _ ≤ _; exact Nat.le_of_eq rfl) (hb hby d22_2) ?_
  intro v218 T218 L218 X218 hQ218
  obtain ⟨rfl, Nq218, he218⟩ := hQ218
  have N218 := Fr.app N0 Nq218
  have e218 : T218.heap = h0 := he218
  show Run p e below s _ _ _ (T218.setTop (mkF m 5 #[.val (.int (2 : Int32)), .val (.ref b)] [(.int (4 : Int32)), (.int (2 : Int32))]))
  refine Run.callS X218 hx hZ (y := (⟨"java/lang/String", "checkIndex", "(II)V"⟩ : MethodName)) hown (hw _ (List.mem_of_getElem? (i := 95) rfl)) (hw _ (List.mem_of_getElem? (i := 60) rfl)) (hw _ (List.mem_of_getElem? (i := 8) rfl)) (hw _ (List.mem_of_getElem? (i := 61) rfl)) (by decide) (W := 0) (rmCX_2_4 l Z a0 hw fw h0 n0 (Nat.le_trans Z0 (Keep.refl h0 []).1) OL SF hfw) e218 (by decide) (by decide) (by decide) (by decide) (g := (mkF m 5 #[.val (.int (2 : Int32)), .val (.ref b)] [(.int (4 : Int32)), (.int (2 : Int32))])) rfl (by rw [hml]; rfl) (argsL := [(.int (2 : Int32)), (.int (4 : Int32))]) (rest := []) (lenOf pd_10 rfl) rfl (by show 2 * 0 + _ ≤ _; exact Nat.le_of_eq rfl) (hb hby d22_5) ?_
  intro v219 T219 L219 X219 hQ219
  obtain ⟨rfl, Nq219, he219⟩ := hQ219
  have N219 := Fr.app N218 Nq219
  have e219 : T219.heap = h0 := he219
  show Run p e below s _ _ _ (T219.setTop (mkF m 8 #[.val (.int (2 : Int32)), .val (.ref b)] []))
  exact Run.retV X219 hx hret hlk (hb hby d22_8) (by first | (rw [e219]; exact ⟨rfl, N219, rfl⟩) | exact ⟨rfl, N219, rfl⟩) (by decide) (by decide)
set_option maxRecDepth 65536 in
set_option maxHeartbeats 40000000 in
theorem rmUC_2 (l : Launch) (Z : State) (a0 : Array Value) (hw : ∀ d ∈ tables_1, d.before a0 Z = true) (b : Addr) (k : ClassId) (c0 : Int32) (c1 : Int32) (c2 : Int32) (c3 : Int32) (fw : Value) (h0 : Heap) (n0 : Nat) (Z0 : n0 ≤ h0.size) (OL : Old Z n0 h0) (SF : Sta Z Z.heap "jdk/internal/util/Preconditions" "SIOOBE_FORMATTER" "Ljava/util/function/BiFunction;" fw) (hfw : fw.isRef = true) (SA : Sta Z Z.heap "java/lang/StringUTF16" "$assertionsDisabled" "Z" (.int 1)) (SH : Sta Z Z.heap "java/lang/StringUTF16" "HI_BYTE_SHIFT" "I" (.int 0)) (SL : Sta Z Z.heap "java/lang/StringUTF16" "LO_BYTE_SHIFT" "I" (.int 8)) (AB : Arv Z h0 b k .byte 8 [(.int (own_b0 c0)), (.int (own_b1 c0)), (.int (own_b0 c1)), (.int (own_b1 c1)), (.int (own_b0 c2)), (.int (own_b1 c2)), (.int (own_b0 c3)), (.int (own_b1 c3))] (.int 0)) (wi : nar .char c2 = c2) :
    Con l (⟨"java/lang/StringUTF16", "charAt", "([BI)C"⟩ : MethodName) jdk_52_method_83_code 2 (some .char) ({ frames := 3, cells := 0, slots := 0, locals := 40 } : Room) Z #[(.ref b), (.int (2 : Int32))] h0 (fun v h L => v = some (.int c2) ∧ Fr n0 L ∧ h = h0) := by
  refine Con.mk (plainFor_of_name pn_21) (fun m => show entryFrame m #[(.ref b), (.int (2 : Int32))] 2 = mkF m 0 #[.val (.ref b), .val (.int (2 : Int32))] [] by first | (simp [entryFrame, mkF, argsToLocals, Value.category]; done) | rfl) ?_
  intro p e s m below meth c s₁ hx hby hml hown hnm hret hlk hZ X0 e0
  have N0 := Fr.nil n0
  show Run p e below s _ _ _ (s₁.setTop (mkF m 0 #[.val (.ref b), .val (.int (2 : Int32))] []))
  refine Run.pre (fun _ k => XS.iloadN X0.here hx rfl (hb hby d21_0) rfl  k) ?_
  show Run p e below s _ _ _ (s₁.setTop (mkF m 1 #[.val (.ref b), .val (.int (2 : Int32))] [(.int (2 : Int32))]))
  refine Run.pre (fun _ k => XS.aloadN X0.here hx rfl (hb hby d21_1) rfl rfl k) ?_
  show Run p e below s _ _ _ (s₁.setTop (mkF m 2 #[.val (.ref b), .val (.int (2 : Int32))] [(.ref b), (.int (2 : Int32))]))
  refine Run.callS X0 hx hZ (y := (⟨"java/lang/StringUTF16", "checkIndex", "(I[B)V"⟩ : MethodName)) hown (hw _ (List.mem_of_getElem? (i := 89) rfl)) (hw _ (List.mem_of_getElem? (i := 90) rfl)) (hw _ (List.mem_of_getElem? (i := 22) rfl)) (hw _ (List.mem_of_getElem? (i := 91) rfl)) (by decide) (W := 0) (rmUE_2 l Z a0 hw b k c0 c1 c2 c3 fw h0 n0 (Nat.le_trans Z0 (Keep.refl h0 []).1) OL SF hfw AB) e0 (by decide) (by decide) (by decide) (by decide) (g := (mkF m 2 #[.val (.ref b), .val (.int (2 : Int32))] [(.ref b), (.int (2 : Int32))])) rfl (by rw [hml]; rfl) (argsL := [(.int (2 : Int32)), (.ref b)]) (rest := []) (lenOf pd_12 rfl) rfl (by show 2 * 0 + _ ≤ _; exact Nat.le_of_eq rfl) (hb hby d21_2) ?_
  intro v220 T220 L220 X220 hQ220
  obtain ⟨rfl, Nq220, he220⟩ := hQ220
  have N220 := Fr.app N0 Nq220
  have e220 : T220.heap = h0 := he220
  show Run p e below s _ _ _ (T220.setTop (mkF m 5 #[.val (.ref b), .val (.int (2 : Int32))] []))
  refine Run.pre (fun _ k => XS.aloadN X220.here hx rfl (hb hby d21_5) rfl rfl k) ?_
  show Run p e below s _ _ _ (T220.setTop (mkF m 6 #[.val (.ref b), .val (.int (2 : Int32))] [(.ref b)]))
  refine Run.pre (fun _ k => XS.iloadN X220.here hx rfl (hb hby d21_6) rfl  k) ?_
  show Run p e below s _ _ _ (T220.setTop (mkF m 7 #[.val (.ref b), .val (.int (2 : Int32))] [(.int (2 : Int32)), (.ref b)]))
  refine Run.callS X220 hx hZ (y := (⟨"java/lang/StringUTF16", "getChar", "([BI)C"⟩ : MethodName)) hown (hw _ (List.mem_of_getElem? (i := 83) rfl)) (hw _ (List.mem_of_getElem? (i := 84) rfl)) (hw _ (List.mem_of_getElem? (i := 22) rfl)) (hw _ (List.mem_of_getElem? (i := 85) rfl)) (by decide) (W := 0) (rmGC_4_2 l Z a0 hw b k (own_b0 c0) (own_b1 c0) (own_b0 c1) (own_b1 c1) (own_b0 c2) (own_b1 c2) (own_b0 c3) (own_b1 c3) h0 n0 (Nat.le_trans Z0 (Keep.refl h0 []).1) OL SA SH SL AB) e220 (by decide) (by decide) (by decide) (by decide) (g := (mkF m 7 #[.val (.ref b), .val (.int (2 : Int32))] [(.int (2 : Int32)), (.ref b)])) rfl (by rw [hml]; rfl) (argsL := [(.ref b), (.int (2 : Int32))]) (rest := []) (lenOf pd_5 rfl) rfl (by show 2 * 0 + _ ≤ _; exact Nat.le_of_eq rfl) (hb hby d21_7) ?_
  intro v221 T221 L221 X221 hQ221
  obtain ⟨rfl, Nq221, he221⟩ := hQ221
  have N221 := Fr.app N220 Nq221
  have e221 : T221.heap = h0 := he221
  show Run p e below s _ _ _ (T221.setTop (mkF m 10 #[.val (.ref b), .val (.int (2 : Int32))] [(.int (own_gcv (own_b0 c2) (own_b1 c2)))]))
  exact Run.retN X221 hx hret (t := .char) (by simp) hlk (hb hby d21_10) (by first | (rw [e221]; exact ⟨by rw [own_gc c2 wi, wi], N221, rfl⟩) | exact ⟨by rw [own_gc c2 wi, wi], N221, rfl⟩) (by decide) (by decide)
set_option maxRecDepth 65536 in
set_option maxHeartbeats 40000000 in
theorem rmCA_2 (l : Launch) (Z : State) (a0 : Array Value) (hw : ∀ d ∈ tables_1, d.before a0 Z = true) (a : Addr) (b : Addr) (k : ClassId) (c0 : Int32) (c1 : Int32) (c2 : Int32) (c3 : Int32) (cs : Int32) (fw : Value) (h0 : Heap) (n0 : Nat) (Z0 : n0 ≤ h0.size) (OL : Old Z n0 h0) (SC : Sta Z Z.heap "java/lang/String" "COMPACT_STRINGS" "Z" (.int cs)) (hcs : ¬ cs = 0) (SF : Sta Z Z.heap "jdk/internal/util/Preconditions" "SIOOBE_FORMATTER" "Ljava/util/function/BiFunction;" fw) (hfw : fw.isRef = true) (SA : Sta Z Z.heap "java/lang/StringUTF16" "$assertionsDisabled" "Z" (.int 1)) (SH : Sta Z Z.heap "java/lang/StringUTF16" "HI_BYTE_SHIFT" "I" (.int 0)) (SL : Sta Z Z.heap "java/lang/StringUTF16" "LO_BYTE_SHIFT" "I" (.int 8)) (E_a : Exa Z h0 a "java/lang/String") (FV : Fld Z h0 a "java/lang/String" "value" "[B" (.ref b)) (DQ : (Fld Z h0 a "java/lang/String" "coder" "B" (.int 0) ∧ (¬ (255 : Int32) < c0 ∧ ¬ (255 : Int32) < c1 ∧ ¬ (255 : Int32) < c2 ∧ ¬ (255 : Int32) < c3) ∧ Arv Z h0 b k .byte 4 [(.int (nar .byte (c0.toInt8.toInt32))), (.int (nar .byte (c1.toInt8.toInt32))), (.int (nar .byte (c2.toInt8.toInt32))), (.int (nar .byte (c3.toInt8.toInt32)))] (.int 0) ∨ Fld Z h0 a "java/lang/String" "coder" "B" (.int 1) ∧ (¬ (¬ (255 : Int32) < c0 ∧ ¬ (255 : Int32) < c1 ∧ ¬ (255 : Int32) < c2 ∧ ¬ (255 : Int32) < c3)) ∧ Arv Z h0 b k .byte 8 [(.int (own_b0 c0)), (.int (own_b1 c0)), (.int (own_b0 c1)), (.int (own_b1 c1)), (.int (own_b0 c2)), (.int (own_b1 c2)), (.int (own_b0 c3)), (.int (own_b1 c3))] (.int 0))) (w0 : nar .char c0 = c0) (w1 : nar .char c1 = c1) (w2 : nar .char c2 = c2) (w3 : nar .char c3 = c3) :
    Con l (⟨"java/lang/String", "charAt", "(I)C"⟩ : MethodName) jdk_42_method_56_code 2 (some .char) ({ frames := 4, cells := 0, slots := 0, locals := 53 } : Room) Z #[(.ref a), (.int (2 : Int32))] h0 (fun v h L => v = some (.int c2) ∧ Fr n0 L ∧ h = h0) := by
  refine Con.mk (plainFor_of_name pn_11) (fun m => show entryFrame m #[(.ref a), (.int (2 : Int32))] 2 = mkF m 0 #[.val (.ref a), .val (.int (2 : Int32))] [] by first | (simp [entryFrame, mkF, argsToLocals, Value.category]; done) | rfl) ?_
  intro p e s m below meth c s₁ hx hby hml hown hnm hret hlk hZ X0 e0
  have N0 := Fr.nil n0
  show Run p e below s _ _ _ (s₁.setTop (mkF m 0 #[.val (.ref a), .val (.int (2 : Int32))] []))
  rcases DQ with ⟨FCo, hl, AB⟩ | ⟨FCo, hl, AB⟩
  · skip
    show Run p e below s _ _ _ (s₁.setTop (mkF m 0 #[.val (.ref a), .val (.int (2 : Int32))] []))
    refine Run.pre (fun _ k => XS.aloadN X0.here hx rfl (hb hby d11_0) rfl rfl k) ?_
    show Run p e below s _ _ _ (s₁.setTop (mkF m 1 #[.val (.ref a), .val (.int (2 : Int32))] [(.ref a)]))
    refine Run.callV X0 hx hZ (y := (⟨"java/lang/String", "isLatin1", "()Z"⟩ : MethodName)) (z := (⟨"java/lang/String", "isLatin1", "()Z"⟩ : MethodName)) hown (hw _ (List.mem_of_getElem? (i := 50) rfl)) (hw _ (List.mem_of_getElem? (i := 51) rfl)) (notFace_of_selects (args := #[]) (mvT hZ (hw _ (List.mem_of_getElem? (i := 53) rfl)))) (hw _ (List.mem_of_getElem? (i := 53) rfl)) (hw _ (List.mem_of_getElem? (i := 52) rfl)) (hw _ (List.mem_of_getElem? (i := 54) rfl)) (hw _ (List.mem_of_getElem? (i := 8) rfl)) (by decide) (b := a) E_a (W := 0) (rmIL_0 l Z a0 hw a cs h0 n0 (Nat.le_trans Z0 (Keep.refl h0 []).1) OL SC hcs FCo) e0 (by decide) (by decide) (by decide) (by decide) (g := (mkF m 1 #[.val (.ref a), .val (.int (2 : Int32))] [(.ref a)])) rfl (by rw [hml]; rfl) (argsL := []) (rest := []) (lenOf pd_13 rfl) rfl (by show 2 * 0 + _ ≤ _; exact Nat.le_of_eq rfl) (hb hby d11_1) ?_
    intro v222 T222 L222 X222 hQ222
    obtain ⟨rfl, Nq222, he222⟩ := hQ222
    have N222 := Fr.app N0 Nq222
    have e222 : T222.heap = h0 := he222
    show Run p e below s _ _ _ (T222.setTop (mkF m 4 #[.val (.ref a), .val (.int (2 : Int32))] [(.int (1 : Int32))]))
    refine Run.pre (fun _ k => XS.ifNo X222.here hx rfl (hb hby d11_4) rfl ((if0 _ _).trans (feq ((by decide) : ¬ ((1 : Int32) = (0 : Int32)))).1) k) ?_
    show Run p e below s _ _ _ (T222.setTop (mkF m 7 #[.val (.ref a), .val (.int (2 : Int32))] []))
    refine Run.pre (fun _ k => XS.aloadN X222.here hx rfl (hb hby d11_7) rfl rfl k) ?_
    show Run p e below s _ _ _ (T222.setTop (mkF m 8 #[.val (.ref a), .val (.int (2 : Int32))] [(.ref a)]))
    obtain ⟨T223, X223, e223, st223⟩ := getF X222 hx hZ hown (host := "") (Or.inl (hw _ (List.mem_of_getElem? (i := 33) rfl))) Via.refl e222 FV (g := (mkF m 8 #[.val (.ref a), .val (.int (2 : Int32))] [(.ref a)])) rfl rfl (hb hby d11_8)
    refine Run.pre st223 ?_
    show Run p e below s _ _ _ (T223.setTop (mkF m 11 #[.val (.ref a), .val (.int (2 : Int32))] [(.ref b)]))
    refine Run.pre (fun _ k => XS.iloadN X223.here hx rfl (hb hby d11_11) rfl  k) ?_
    show Run p e below s _ _ _ (T223.setTop (mkF m 12 #[.val (.ref a), .val (.int (2 : Int32))] [(.int (2 : Int32)), (.ref b)]))
    refine Run.callS X223 hx hZ (y := (⟨"java/lang/StringLatin1", "charAt", "([BI)C"⟩ : MethodName)) hown (hw _ (List.mem_of_getElem? (i := 55) rfl)) (hw _ (List.mem_of_getElem? (i := 56) rfl)) (hw _ (List.mem_of_getElem? (i := 57) rfl)) (hw _ (List.mem_of_getElem? (i := 58) rfl)) (by decide) (W := 0) (rmLC_2 l Z a0 hw b k c0 c1 c2 c3 fw h0 n0 (Nat.le_trans Z0 (Keep.refl h0 []).1) OL SF hfw AB w2 hl.2.2.1) e223 (by decide) (by decide) (by decide) (by decide) (g := (mkF m 12 #[.val (.ref a), .val (.int (2 : Int32))] [(.int (2 : Int32)), (.ref b)])) rfl (by rw [hml]; rfl) (argsL := [(.ref b), (.int (2 : Int32))]) (rest := []) (lenOf pd_5 rfl) rfl (by show 2 * 0 + _ ≤ _; exact Nat.le_of_eq rfl) (hb hby d11_12) ?_
    intro v224 T224 L224 X224 hQ224
    obtain ⟨rfl, Nq224, he224⟩ := hQ224
    have N224 := Fr.app N222 Nq224
    have e224 : T224.heap = h0 := he224
    show Run p e below s _ _ _ (T224.setTop (mkF m 15 #[.val (.ref a), .val (.int (2 : Int32))] [(.int c2)]))
    exact Run.retN X224 hx hret (t := .char) (by simp) hlk (hb hby d11_15) (by first | (rw [e224]; exact ⟨by rw [w2], N224, rfl⟩) | exact ⟨by rw [w2], N224, rfl⟩) (by decide) (by decide)
  · skip
    show Run p e below s _ _ _ (s₁.setTop (mkF m 0 #[.val (.ref a), .val (.int (2 : Int32))] []))
    refine Run.pre (fun _ k => XS.aloadN X0.here hx rfl (hb hby d11_0) rfl rfl k) ?_
    show Run p e below s _ _ _ (s₁.setTop (mkF m 1 #[.val (.ref a), .val (.int (2 : Int32))] [(.ref a)]))
    refine Run.callV X0 hx hZ (y := (⟨"java/lang/String", "isLatin1", "()Z"⟩ : MethodName)) (z := (⟨"java/lang/String", "isLatin1", "()Z"⟩ : MethodName)) hown (hw _ (List.mem_of_getElem? (i := 50) rfl)) (hw _ (List.mem_of_getElem? (i := 51) rfl)) (notFace_of_selects (args := #[]) (mvT hZ (hw _ (List.mem_of_getElem? (i := 53) rfl)))) (hw _ (List.mem_of_getElem? (i := 53) rfl)) (hw _ (List.mem_of_getElem? (i := 52) rfl)) (hw _ (List.mem_of_getElem? (i := 54) rfl)) (hw _ (List.mem_of_getElem? (i := 8) rfl)) (by decide) (b := a) E_a (W := 0) (rmIL_1 l Z a0 hw a cs h0 n0 (Nat.le_trans Z0 (Keep.refl h0 []).1) OL SC hcs FCo) e0 (by decide) (by decide) (by decide) (by decide) (g := (mkF m 1 #[.val (.ref a), .val (.int (2 : Int32))] [(.ref a)])) rfl (by rw [hml]; rfl) (argsL := []) (rest := []) (lenOf pd_13 rfl) rfl (by show 2 * 0 + _ ≤ _; exact Nat.le_of_eq rfl) (hb hby d11_1) ?_
    intro v225 T225 L225 X225 hQ225
    obtain ⟨rfl, Nq225, he225⟩ := hQ225
    have N225 := Fr.app N0 Nq225
    have e225 : T225.heap = h0 := he225
    show Run p e below s _ _ _ (T225.setTop (mkF m 4 #[.val (.ref a), .val (.int (2 : Int32))] [(.int (0 : Int32))]))
    refine Run.pre (fun _ k => XS.ifYes X225.here hx rfl (pc0 := 4) (pc' := 16) rfl (hb hby d11_4) rfl ((if0 _ _).trans (teq ((by decide) : (0 : Int32) = (0 : Int32))).1) (by decide) (by decide) k) ?_
    show Run p e below s _ _ _ (T225.setTop (mkF m 16 #[.val (.ref a), .val (.int (2 : Int32))] []))
    refine Run.pre (fun _ k => XS.aloadN X225.here hx rfl (hb hby d11_16) rfl rfl k) ?_
    show Run p e below s _ _ _ (T225.setTop (mkF m 17 #[.val (.ref a), .val (.int (2 : Int32))] [(.ref a)]))
    obtain ⟨T226, X226, e226, st226⟩ := getF X225 hx hZ hown (host := "") (Or.inl (hw _ (List.mem_of_getElem? (i := 33) rfl))) Via.refl e225 FV (g := (mkF m 17 #[.val (.ref a), .val (.int (2 : Int32))] [(.ref a)])) rfl rfl (hb hby d11_17)
    refine Run.pre st226 ?_
    show Run p e below s _ _ _ (T226.setTop (mkF m 20 #[.val (.ref a), .val (.int (2 : Int32))] [(.ref b)]))
    refine Run.pre (fun _ k => XS.iloadN X226.here hx rfl (hb hby d11_20) rfl  k) ?_
    show Run p e below s _ _ _ (T226.setTop (mkF m 21 #[.val (.ref a), .val (.int (2 : Int32))] [(.int (2 : Int32)), (.ref b)]))
    refine Run.callS X226 hx hZ (y := (⟨"java/lang/StringUTF16", "charAt", "([BI)C"⟩ : MethodName)) hown (hw _ (List.mem_of_getElem? (i := 86) rfl)) (hw _ (List.mem_of_getElem? (i := 87) rfl)) (hw _ (List.mem_of_getElem? (i := 22) rfl)) (hw _ (List.mem_of_getElem? (i := 88) rfl)) (by decide) (W := 0) (rmUC_2 l Z a0 hw b k c0 c1 c2 c3 fw h0 n0 (Nat.le_trans Z0 (Keep.refl h0 []).1) OL SF hfw SA SH SL AB w2) e226 (by decide) (by decide) (by decide) (by decide) (g := (mkF m 21 #[.val (.ref a), .val (.int (2 : Int32))] [(.int (2 : Int32)), (.ref b)])) rfl (by rw [hml]; rfl) (argsL := [(.ref b), (.int (2 : Int32))]) (rest := []) (lenOf pd_5 rfl) rfl (by show 2 * 0 + _ ≤ _; exact Nat.le_of_eq rfl) (hb hby d11_21) ?_
    intro v227 T227 L227 X227 hQ227
    obtain ⟨rfl, Nq227, he227⟩ := hQ227
    have N227 := Fr.app N225 Nq227
    have e227 : T227.heap = h0 := he227
    show Run p e below s _ _ _ (T227.setTop (mkF m 24 #[.val (.ref a), .val (.int (2 : Int32))] [(.int c2)]))
    exact Run.retN X227 hx hret (t := .char) (by simp) hlk (hb hby d11_24) (by first | (rw [e227]; exact ⟨by rw [w2], N227, rfl⟩) | exact ⟨by rw [w2], N227, rfl⟩) (by decide) (by decide)
set_option maxRecDepth 65536 in
set_option maxHeartbeats 40000000 in
theorem rmPX_3_4 (l : Launch) (Z : State) (a0 : Array Value) (hw : ∀ d ∈ tables_1, d.before a0 Z = true) (fw : Value) (h0 : Heap) (n0 : Nat) (Z0 : n0 ≤ h0.size) (hfw : fw.isRef = true) :
    Con l (⟨"jdk/internal/util/Preconditions", "checkIndex", "(IILjava/util/function/BiFunction;)I"⟩ : MethodName) jdk_41_method_11_code 3 (some .int) ({ frames := 0, cells := 0, slots := 0, locals := 0 } : Room) Z #[(.int (3 : Int32)), (.int (4 : Int32)), fw] h0 (fun v h L => v = some (.int 3) ∧ Fr n0 L ∧ h = h0) := by
  refine Con.mk (plainFor_of_name pn_15) (fun m => show entryFrame m #[(.int (3 : Int32)), (.int (4 : Int32)), fw] 3 = mkF m 0 #[.val (.int (3 : Int32)), .val (.int (4 : Int32)), .val fw] [] by rcases ref_cases hfw with hq | ⟨_, hq⟩ <;> subst hq <;> first | (simp [entryFrame, mkF, argsToLocals, Value.category]; done) | rfl) ?_
  intro p e s m below meth c s₁ hx hby hml hown hnm hret hlk hZ X0 e0
  have N0 := Fr.nil n0
  show Run p e below s _ _ _ (s₁.setTop (mkF m 0 #[.val (.int (3 : Int32)), .val (.int (4 : Int32)), .val fw] []))
  refine Run.pre (fun _ k => XS.iloadN X0.here hx rfl (hb hby d15_0) rfl  k) ?_
  show Run p e below s _ _ _ (s₁.setTop (mkF m 1 #[.val (.int (3 : Int32)), .val (.int (4 : Int32)), .val fw] [(.int (3 : Int32))]))
  refine Run.pre (fun _ k => XS.ifNo X0.here hx rfl (hb hby d15_1) rfl ((if0 _ _).trans (flt ((by decide) : ¬ ((3 : Int32) < (0 : Int32)))).1) k) ?_
  show Run p e below s _ _ _ (s₁.setTop (mkF m 4 #[.val (.int (3 : Int32)), .val (.int (4 : Int32)), .val fw] []))
  refine Run.pre (fun _ k => XS.iloadN X0.here hx rfl (hb hby d15_4) rfl  k) ?_
  show Run p e below s _ _ _ (s₁.setTop (mkF m 5 #[.val (.int (3 : Int32)), .val (.int (4 : Int32)), .val fw] [(.int (3 : Int32))]))
  refine Run.pre (fun _ k => XS.iloadN X0.here hx rfl (hb hby d15_5) rfl  k) ?_
  show Run p e below s _ _ _ (s₁.setTop (mkF m 6 #[.val (.int (3 : Int32)), .val (.int (4 : Int32)), .val fw] [(.int (4 : Int32)), (.int (3 : Int32))]))
  refine Run.pre (fun _ k => XS.icmpYes X0.here hx rfl (pc0 := 6) (pc' := 16) rfl (hb hby d15_6) rfl (tlt ((by decide) : (3 : Int32) < (4 : Int32))).1 (by decide) (by decide) k) ?_
  show Run p e below s _ _ _ (s₁.setTop (mkF m 16 #[.val (.int (3 : Int32)), .val (.int (4 : Int32)), .val fw] []))
  refine Run.pre (fun _ k => XS.iloadN X0.here hx rfl (hb hby d15_16) rfl  k) ?_
  show Run p e below s _ _ _ (s₁.setTop (mkF m 17 #[.val (.int (3 : Int32)), .val (.int (4 : Int32)), .val fw] [(.int (3 : Int32))]))
  exact Run.retI X0 hx hret hlk (hb hby d15_17) (by first | (rw [e0]; exact ⟨rfl, N0, rfl⟩) | exact ⟨rfl, N0, rfl⟩) (by decide) (by decide)
set_option maxRecDepth 65536 in
set_option maxHeartbeats 40000000 in
theorem rmCX_3_4 (l : Launch) (Z : State) (a0 : Array Value) (hw : ∀ d ∈ tables_1, d.before a0 Z = true) (fw : Value) (h0 : Heap) (n0 : Nat) (Z0 : n0 ≤ h0.size) (OL : Old Z n0 h0) (SF : Sta Z Z.heap "jdk/internal/util/Preconditions" "SIOOBE_FORMATTER" "Ljava/util/function/BiFunction;" fw) (hfw : fw.isRef = true) :
    Con l (⟨"java/lang/String", "checkIndex", "(II)V"⟩ : MethodName) jdk_42_method_155_code 2 none ({ frames := 1, cells := 0, slots := 0, locals := 14 } : Room) Z #[(.int (3 : Int32)), (.int (4 : Int32))] h0 (fun v h L => v = none ∧ Fr n0 L ∧ h = h0) := by
  refine Con.mk (plainFor_of_name pn_14) (fun m => show entryFrame m #[(.int (3 : Int32)), (.int (4 : Int32))] 2 = mkF m 0 #[.val (.int (3 : Int32)), .val (.int (4 : Int32))] [] by first | (simp [entryFrame, mkF, argsToLocals, Value.category]; done) | rfl) ?_
  intro p e s m below meth c s₁ hx hby hml hown hnm hret hlk hZ X0 e0
  have N0 := Fr.nil n0
  show Run p e below s _ _ _ (s₁.setTop (mkF m 0 #[.val (.int (3 : Int32)), .val (.int (4 : Int32))] []))
  refine Run.pre (fun _ k => XS.iloadN X0.here hx rfl (hb hby d14_0) rfl  k) ?_
  show Run p e below s _ _ _ (s₁.setTop (mkF m 1 #[.val (.int (3 : Int32)), .val (.int (4 : Int32))] [(.int (3 : Int32))]))
  refine Run.pre (fun _ k => XS.iloadN X0.here hx rfl (hb hby d14_1) rfl  k) ?_
  show Run p e below s _ _ _ (s₁.setTop (mkF m 2 #[.val (.int (3 : Int32)), .val (.int (4 : Int32))] [(.int (4 : Int32)), (.int (3 : Int32))]))
  obtain ⟨T229, X229, e229, st229⟩ := getS2 X0 hx hZ hown (host := "") (Or.inl (hw _ (List.mem_of_getElem? (i := 62) rfl))) Via.refl e0 (SF.ext OL.2) (g := (mkF m 2 #[.val (.int (3 : Int32)), .val (.int (4 : Int32))] [(.int (4 : Int32)), (.int (3 : Int32))])) rfl (hb hby d14_2)
  refine Run.pre st229 ?_
  show Run p e below s _ _ _ (T229.setTop (mkF m 5 #[.val (.int (3 : Int32)), .val (.int (4 : Int32))] [fw, (.int (4 : Int32)), (.int (3 : Int32))]))
  refine Run.callS X229 hx hZ (y := (⟨"jdk/internal/util/Preconditions", "checkIndex", "(IILjava/util/function/BiFunction;)I"⟩ : MethodName)) hown (hw _ (List.mem_of_getElem? (i := 64) rfl)) (hw _ (List.mem_of_getElem? (i := 65) rfl)) (hw _ (List.mem_of_getElem? (i := 63) rfl)) (hw _ (List.mem_of_getElem? (i := 66) rfl)) (by decide) (W := 0) (rmPX_3_4 l Z a0 hw fw h0 n0 (Nat.le_trans Z0 (Keep.refl h0 []).1) hfw) e229 (by decide) (by decide) (by decide) (by decide) (g := (mkF m 5 #[.val (.int (3 : Int32)), .val (.int (4 : Int32))] [fw, (.int (4 : Int32)), (.int (3 : Int32))])) rfl (by rw [hml]; rfl) (argsL := [(.int (3 : Int32)), (.int (4 : Int32)), fw]) (rest := []) (lenOf pd_9 rfl) rfl (by show 2 * 0 + _ ≤ _; exact Nat.le_of_eq rfl) (hb hby d14_5) ?_
  intro v230 T230 L230 X230 hQ230
  obtain ⟨rfl, Nq230, he230⟩ := hQ230
  have N230 := Fr.app N0 Nq230
  have e230 : T230.heap = h0 := he230
  show Run p e below s _ _ _ (T230.setTop (mkF m 8 #[.val (.int (3 : Int32)), .val (.int (4 : Int32))] [(.int (3 : Int32))]))
  refine Run.pre (fun _ k => XS.pop X230.here hx rfl (hb hby d14_8) rfl rfl k) ?_
  show Run p e below s _ _ _ (T230.setTop (mkF m 9 #[.val (.int (3 : Int32)), .val (.int (4 : Int32))] []))
  exact Run.retV X230 hx hret hlk (hb hby d14_9) (by first | (rw [e230]; exact ⟨rfl, N230, rfl⟩) | exact ⟨rfl, N230, rfl⟩) (by decide) (by decide)
set_option maxRecDepth 65536 in
set_option maxHeartbeats 40000000 in
theorem rmLC_3 (l : Launch) (Z : State) (a0 : Array Value) (hw : ∀ d ∈ tables_1, d.before a0 Z = true) (b : Addr) (k : ClassId) (c0 : Int32) (c1 : Int32) (c2 : Int32) (c3 : Int32) (fw : Value) (h0 : Heap) (n0 : Nat) (Z0 : n0 ≤ h0.size) (OL : Old Z n0 h0) (SF : Sta Z Z.heap "jdk/internal/util/Preconditions" "SIOOBE_FORMATTER" "Ljava/util/function/BiFunction;" fw) (hfw : fw.isRef = true) (AB : Arv Z h0 b k .byte 4 [(.int (nar .byte (c0.toInt8.toInt32))), (.int (nar .byte (c1.toInt8.toInt32))), (.int (nar .byte (c2.toInt8.toInt32))), (.int (nar .byte (c3.toInt8.toInt32)))] (.int 0)) (wi : nar .char c3 = c3) (qi : ¬ (255 : Int32) < c3) :
    Con l (⟨"java/lang/StringLatin1", "charAt", "([BI)C"⟩ : MethodName) jdk_43_method_2_code 2 (some .char) ({ frames := 2, cells := 0, slots := 0, locals := 27 } : Room) Z #[(.ref b), (.int (3 : Int32))] h0 (fun v h L => v = some (.int c3) ∧ Fr n0 L ∧ h = h0) := by
  refine Con.mk (plainFor_of_name pn_13) (fun m => show entryFrame m #[(.ref b), (.int (3 : Int32))] 2 = mkF m 0 #[.val (.ref b), .val (.int (3 : Int32))] [] by first | (simp [entryFrame, mkF, argsToLocals, Value.category]; done) | rfl) ?_
  intro p e s m below meth c s₁ hx hby hml hown hnm hret hlk hZ X0 e0
  have N0 := Fr.nil n0
  show Run p e below s _ _ _ (s₁.setTop (mkF m 0 #[.val (.ref b), .val (.int (3 : Int32))] []))
  refine Run.pre (fun _ k => XS.iloadN X0.here hx rfl (hb hby d13_0) rfl  k) ?_
  show Run p e below s _ _ _ (s₁.setTop (mkF m 1 #[.val (.ref b), .val (.int (3 : Int32))] [(.int (3 : Int32))]))
  refine Run.pre (fun _ k => XS.aloadN X0.here hx rfl (hb hby d13_1) rfl rfl k) ?_
  show Run p e below s _ _ _ (s₁.setTop (mkF m 2 #[.val (.ref b), .val (.int (3 : Int32))] [(.ref b), (.int (3 : Int32))]))
  obtain ⟨c228, Ar228, -, S228, N228, -, -⟩ := id AB
  refine Run.pre (X0.arraylength hx (by rw [e0]; exact Ar228.1) (State.isArrayOf_alike hZ.alike Ar228.2.1) (g := (mkF m 2 #[.val (.ref b), .val (.int (3 : Int32))] [(.ref b), (.int (3 : Int32))])) rfl rfl (hb hby d13_2)) ?_
  rw [len_of S228 N228]
  show Run p e below s _ _ _ (s₁.setTop (mkF m 3 #[.val (.ref b), .val (.int (3 : Int32))] [(.int (4 : Int32)), (.int (3 : Int32))]))
  refine Run.callS X0 hx hZ (y := (⟨"java/lang/String", "checkIndex", "(II)V"⟩ : MethodName)) hown (hw _ (List.mem_of_getElem? (i := 59) rfl)) (hw _ (List.mem_of_getElem? (i := 60) rfl)) (hw _ (List.mem_of_getElem? (i := 8) rfl)) (hw _ (List.mem_of_getElem? (i := 61) rfl)) (by decide) (W := 0) (rmCX_3_4 l Z a0 hw fw h0 n0 (Nat.le_trans Z0 (Keep.refl h0 []).1) OL SF hfw) e0 (by decide) (by decide) (by decide) (by decide) (g := (mkF m 3 #[.val (.ref b), .val (.int (3 : Int32))] [(.int (4 : Int32)), (.int (3 : Int32))])) rfl (by rw [hml]; rfl) (argsL := [(.int (3 : Int32)), (.int (4 : Int32))]) (rest := []) (lenOf pd_10 rfl) rfl (by show 2 * 0 + _ ≤ _; exact Nat.le_of_eq rfl) (hb hby d13_3) ?_
  intro v231 T231 L231 X231 hQ231
  obtain ⟨rfl, Nq231, he231⟩ := hQ231
  have N231 := Fr.app N0 Nq231
  have e231 : T231.heap = h0 := he231
  show Run p e below s _ _ _ (T231.setTop (mkF m 6 #[.val (.ref b), .val (.int (3 : Int32))] []))
  refine Run.pre (fun _ k => XS.aloadN X231.here hx rfl (hb hby d13_6) rfl rfl k) ?_
  show Run p e below s _ _ _ (T231.setTop (mkF m 7 #[.val (.ref b), .val (.int (3 : Int32))] [(.ref b)]))
  refine Run.pre (fun _ k => XS.iloadN X231.here hx rfl (hb hby d13_7) rfl  k) ?_
  show Run p e below s _ _ _ (T231.setTop (mkF m 8 #[.val (.ref b), .val (.int (3 : Int32))] [(.int (3 : Int32)), (.ref b)]))
  obtain ⟨c232, Ar232, -, S232, N232, H232, -⟩ := id AB
  have hin232 : ¬ ((3 : Int32) < 0 ∨ c232.slots.size ≤ ((3 : Int32)).toNatClampNeg) := inb_of S232 ⟨by decide, by decide⟩
  refine Run.pre (X231.baloadBytes hx (j := (3 : Int32)) (v := (.int (nar .byte (c3.toInt8.toInt32)))) (by rw [e231]; exact Ar232.1) (State.isArrayOf_alike hZ.alike Ar232.2.1) Ar232.2.2 hin232 (H232.at hin232 rfl) (g := (mkF m 8 #[.val (.ref b), .val (.int (3 : Int32))] [(.int (3 : Int32)), (.ref b)])) rfl rfl (hb hby d13_8)) ?_
  show Run p e below s _ _ _ (T231.setTop (mkF m 9 #[.val (.ref b), .val (.int (3 : Int32))] [(.int (nar .byte (c3.toInt8.toInt32)))]))
  refine Run.pre (fun _ k => XS.sipush X231.here hx rfl (hb hby d13_9) k) ?_
  show Run p e below s _ _ _ (T231.setTop (mkF m 12 #[.val (.ref b), .val (.int (3 : Int32))] [(.int (255 : Int32)), (.int (nar .byte (c3.toInt8.toInt32)))]))
  refine Run.pre (fun _ k => XS.iand X231.here hx rfl (hb hby d13_12) rfl k) ?_
  show Run p e below s _ _ _ (T231.setTop (mkF m 13 #[.val (.ref b), .val (.int (3 : Int32))] [(.int ((nar .byte (c3.toInt8.toInt32)) &&& (255 : Int32)))]))
  refine Run.pre (fun _ k => XS.i2c X231.here hx rfl (hb hby d13_13) rfl k) ?_
  show Run p e below s _ _ _ (T231.setTop (mkF m 14 #[.val (.ref b), .val (.int (3 : Int32))] [(.int (((nar .byte (c3.toInt8.toInt32)) &&& (255 : Int32)).toUInt32.toUInt16.toUInt32.toInt32))]))
  exact Run.retN X231 hx hret (t := .char) (by simp) hlk (hb hby d13_14) (by first | (rw [e231]; exact ⟨congrArg (fun z => some (Value.int z)) (own_lc c3 wi qi), N231, rfl⟩) | exact ⟨congrArg (fun z => some (Value.int z)) (own_lc c3 wi qi), N231, rfl⟩) (by decide) (by decide)
set_option maxRecDepth 65536 in
set_option maxHeartbeats 40000000 in
theorem rmUE_3 (l : Launch) (Z : State) (a0 : Array Value) (hw : ∀ d ∈ tables_1, d.before a0 Z = true) (b : Addr) (k : ClassId) (c0 : Int32) (c1 : Int32) (c2 : Int32) (c3 : Int32) (fw : Value) (h0 : Heap) (n0 : Nat) (Z0 : n0 ≤ h0.size) (OL : Old Z n0 h0) (SF : Sta Z Z.heap "jdk/internal/util/Preconditions" "SIOOBE_FORMATTER" "Ljava/util/function/BiFunction;" fw) (hfw : fw.isRef = true) (AB : Arv Z h0 b k .byte 8 [(.int (own_b0 c0)), (.int (own_b1 c0)), (.int (own_b0 c1)), (.int (own_b1 c1)), (.int (own_b0 c2)), (.int (own_b1 c2)), (.int (own_b0 c3)), (.int (own_b1 c3))] (.int 0)) :
    Con l (⟨"java/lang/StringUTF16", "checkIndex", "(I[B)V"⟩ : MethodName) jdk_52_method_91_code 2 none ({ frames := 2, cells := 0, slots := 0, locals := 27 } : Room) Z #[(.int (3 : Int32)), (.ref b)] h0 (fun v h L => v = none ∧ Fr n0 L ∧ h = h0) := by
  refine Con.mk (plainFor_of_name pn_22) (fun m => show entryFrame m #[(.int (3 : Int32)), (.ref b)] 2 = mkF m 0 #[.val (.int (3 : Int32)), .val (.ref b)] [] by first | (simp [entryFrame, mkF, argsToLocals, Value.category]; done) | rfl) ?_
  intro p e s m below meth c s₁ hx hby hml hown hnm hret hlk hZ X0 e0
  have N0 := Fr.nil n0
  show Run p e below s _ _ _ (s₁.setTop (mkF m 0 #[.val (.int (3 : Int32)), .val (.ref b)] []))
  refine Run.pre (fun _ k => XS.iloadN X0.here hx rfl (hb hby d22_0) rfl  k) ?_
  show Run p e below s _ _ _ (s₁.setTop (mkF m 1 #[.val (.int (3 : Int32)), .val (.ref b)] [(.int (3 : Int32))]))
  refine Run.pre (fun _ k => XS.aloadN X0.here hx rfl (hb hby d22_1) rfl rfl k) ?_
  show Run p e below s _ _ _ (s₁.setTop (mkF m 2 #[.val (.int (3 : Int32)), .val (.ref b)] [(.ref b), (.int (3 : Int32))]))
  refine Run.callS X0 hx hZ (y := (⟨"java/lang/StringUTF16", "length", "([B)I"⟩ : MethodName)) hown (hw _ (List.mem_of_getElem? (i := 92) rfl)) (hw _ (List.mem_of_getElem? (i := 93) rfl)) (hw _ (List.mem_of_getElem? (i := 22) rfl)) (hw _ (List.mem_of_getElem? (i := 94) rfl)) (by decide) (W := 1) (rmUL l Z a0 hw b k c0 c1 c2 c3 h0 n0 (Nat.le_trans Z0 (Keep.refl h0 []).1) AB) e0 (by decide) (by decide) (by decide) (by decide) (g := (mkF m 2 #[.val (.int (3 : Int32)), .val (.ref b)] [(.ref b), (.int (3 : Int32))])) rfl (by rw [hml]; rfl) (argsL := [(.ref b)]) (rest := [(.int (3 : Int32))]) (lenOf pd_11 rfl) rfl (by show 2 * 0 + _ ≤ _; exact Nat.le_of_eq rfl) (hb hby d22_2) ?_
  intro v233 T233 L233 X233 hQ233
  obtain ⟨rfl, Nq233, he233⟩ := hQ233
  have N233 := Fr.app N0 Nq233
  have e233 : T233.heap = h0 := he233
  show Run p e below s _ _ _ (T233.setTop (mkF m 5 #[.val (.int (3 : Int32)), .val (.ref b)] [(.int (4 : Int32)), (.int (3 : Int32))]))
  refine Run.callS X233 hx hZ (y := (⟨"java/lang/String", "checkIndex", "(II)V"⟩ : MethodName)) hown (hw _ (List.mem_of_getElem? (i := 95) rfl)) (hw _ (List.mem_of_getElem? (i := 60) rfl)) (hw _ (List.mem_of_getElem? (i := 8) rfl)) (hw _ (List.mem_of_getElem? (i := 61) rfl)) (by decide) (W := 0) (rmCX_3_4 l Z a0 hw fw h0 n0 (Nat.le_trans Z0 (Keep.refl h0 []).1) OL SF hfw) e233 (by decide) (by decide) (by decide) (by decide) (g := (mkF m 5 #[.val (.int (3 : Int32)), .val (.ref b)] [(.int (4 : Int32)), (.int (3 : Int32))])) rfl (by rw [hml]; rfl) (argsL := [(.int (3 : Int32)), (.int (4 : Int32))]) (rest := []) (lenOf pd_10 rfl) rfl (by show 2 * 0 + _ ≤ _; exact Nat.le_of_eq rfl) (hb hby d22_5) ?_
  intro v234 T234 L234 X234 hQ234
  obtain ⟨rfl, Nq234, he234⟩ := hQ234
  have N234 := Fr.app N233 Nq234
  have e234 : T234.heap = h0 := he234
  show Run p e below s _ _ _ (T234.setTop (mkF m 8 #[.val (.int (3 : Int32)), .val (.ref b)] []))
  exact Run.retV X234 hx hret hlk (hb hby d22_8) (by first | (rw [e234]; exact ⟨rfl, N234, rfl⟩) | exact ⟨rfl, N234, rfl⟩) (by decide) (by decide)
set_option maxRecDepth 65536 in
set_option maxHeartbeats 40000000 in
theorem rmUC_3 (l : Launch) (Z : State) (a0 : Array Value) (hw : ∀ d ∈ tables_1, d.before a0 Z = true) (b : Addr) (k : ClassId) (c0 : Int32) (c1 : Int32) (c2 : Int32) (c3 : Int32) (fw : Value) (h0 : Heap) (n0 : Nat) (Z0 : n0 ≤ h0.size) (OL : Old Z n0 h0) (SF : Sta Z Z.heap "jdk/internal/util/Preconditions" "SIOOBE_FORMATTER" "Ljava/util/function/BiFunction;" fw) (hfw : fw.isRef = true) (SA : Sta Z Z.heap "java/lang/StringUTF16" "$assertionsDisabled" "Z" (.int 1)) (SH : Sta Z Z.heap "java/lang/StringUTF16" "HI_BYTE_SHIFT" "I" (.int 0)) (SL : Sta Z Z.heap "java/lang/StringUTF16" "LO_BYTE_SHIFT" "I" (.int 8)) (AB : Arv Z h0 b k .byte 8 [(.int (own_b0 c0)), (.int (own_b1 c0)), (.int (own_b0 c1)), (.int (own_b1 c1)), (.int (own_b0 c2)), (.int (own_b1 c2)), (.int (own_b0 c3)), (.int (own_b1 c3))] (.int 0)) (wi : nar .char c3 = c3) :
    Con l (⟨"java/lang/StringUTF16", "charAt", "([BI)C"⟩ : MethodName) jdk_52_method_83_code 2 (some .char) ({ frames := 3, cells := 0, slots := 0, locals := 40 } : Room) Z #[(.ref b), (.int (3 : Int32))] h0 (fun v h L => v = some (.int c3) ∧ Fr n0 L ∧ h = h0) := by
  refine Con.mk (plainFor_of_name pn_21) (fun m => show entryFrame m #[(.ref b), (.int (3 : Int32))] 2 = mkF m 0 #[.val (.ref b), .val (.int (3 : Int32))] [] by first | (simp [entryFrame, mkF, argsToLocals, Value.category]; done) | rfl) ?_
  intro p e s m below meth c s₁ hx hby hml hown hnm hret hlk hZ X0 e0
  have N0 := Fr.nil n0
  show Run p e below s _ _ _ (s₁.setTop (mkF m 0 #[.val (.ref b), .val (.int (3 : Int32))] []))
  refine Run.pre (fun _ k => XS.iloadN X0.here hx rfl (hb hby d21_0) rfl  k) ?_
  show Run p e below s _ _ _ (s₁.setTop (mkF m 1 #[.val (.ref b), .val (.int (3 : Int32))] [(.int (3 : Int32))]))
  refine Run.pre (fun _ k => XS.aloadN X0.here hx rfl (hb hby d21_1) rfl rfl k) ?_
  show Run p e below s _ _ _ (s₁.setTop (mkF m 2 #[.val (.ref b), .val (.int (3 : Int32))] [(.ref b), (.int (3 : Int32))]))
  refine Run.callS X0 hx hZ (y := (⟨"java/lang/StringUTF16", "checkIndex", "(I[B)V"⟩ : MethodName)) hown (hw _ (List.mem_of_getElem? (i := 89) rfl)) (hw _ (List.mem_of_getElem? (i := 90) rfl)) (hw _ (List.mem_of_getElem? (i := 22) rfl)) (hw _ (List.mem_of_getElem? (i := 91) rfl)) (by decide) (W := 0) (rmUE_3 l Z a0 hw b k c0 c1 c2 c3 fw h0 n0 (Nat.le_trans Z0 (Keep.refl h0 []).1) OL SF hfw AB) e0 (by decide) (by decide) (by decide) (by decide) (g := (mkF m 2 #[.val (.ref b), .val (.int (3 : Int32))] [(.ref b), (.int (3 : Int32))])) rfl (by rw [hml]; rfl) (argsL := [(.int (3 : Int32)), (.ref b)]) (rest := []) (lenOf pd_12 rfl) rfl (by show 2 * 0 + _ ≤ _; exact Nat.le_of_eq rfl) (hb hby d21_2) ?_
  intro v235 T235 L235 X235 hQ235
  obtain ⟨rfl, Nq235, he235⟩ := hQ235
  have N235 := Fr.app N0 Nq235
  have e235 : T235.heap = h0 := he235
  show Run p e below s _ _ _ (T235.setTop (mkF m 5 #[.val (.ref b), .val (.int (3 : Int32))] []))
  refine Run.pre (fun _ k => XS.aloadN X235.here hx rfl (hb hby d21_5) rfl rfl k) ?_
  show Run p e below s _ _ _ (T235.setTop (mkF m 6 #[.val (.ref b), .val (.int (3 : Int32))] [(.ref b)]))
  refine Run.pre (fun _ k => XS.iloadN X235.here hx rfl (hb hby d21_6) rfl  k) ?_
  show Run p e below s _ _ _ (T235.setTop (mkF m 7 #[.val (.ref b), .val (.int (3 : Int32))] [(.int (3 : Int32)), (.ref b)]))
  refine Run.callS X235 hx hZ (y := (⟨"java/lang/StringUTF16", "getChar", "([BI)C"⟩ : MethodName)) hown (hw _ (List.mem_of_getElem? (i := 83) rfl)) (hw _ (List.mem_of_getElem? (i := 84) rfl)) (hw _ (List.mem_of_getElem? (i := 22) rfl)) (hw _ (List.mem_of_getElem? (i := 85) rfl)) (by decide) (W := 0) (rmGC_4_3 l Z a0 hw b k (own_b0 c0) (own_b1 c0) (own_b0 c1) (own_b1 c1) (own_b0 c2) (own_b1 c2) (own_b0 c3) (own_b1 c3) h0 n0 (Nat.le_trans Z0 (Keep.refl h0 []).1) OL SA SH SL AB) e235 (by decide) (by decide) (by decide) (by decide) (g := (mkF m 7 #[.val (.ref b), .val (.int (3 : Int32))] [(.int (3 : Int32)), (.ref b)])) rfl (by rw [hml]; rfl) (argsL := [(.ref b), (.int (3 : Int32))]) (rest := []) (lenOf pd_5 rfl) rfl (by show 2 * 0 + _ ≤ _; exact Nat.le_of_eq rfl) (hb hby d21_7) ?_
  intro v236 T236 L236 X236 hQ236
  obtain ⟨rfl, Nq236, he236⟩ := hQ236
  have N236 := Fr.app N235 Nq236
  have e236 : T236.heap = h0 := he236
  show Run p e below s _ _ _ (T236.setTop (mkF m 10 #[.val (.ref b), .val (.int (3 : Int32))] [(.int (own_gcv (own_b0 c3) (own_b1 c3)))]))
  exact Run.retN X236 hx hret (t := .char) (by simp) hlk (hb hby d21_10) (by first | (rw [e236]; exact ⟨by rw [own_gc c3 wi, wi], N236, rfl⟩) | exact ⟨by rw [own_gc c3 wi, wi], N236, rfl⟩) (by decide) (by decide)
set_option maxRecDepth 65536 in
set_option maxHeartbeats 40000000 in
theorem rmCA_3 (l : Launch) (Z : State) (a0 : Array Value) (hw : ∀ d ∈ tables_1, d.before a0 Z = true) (a : Addr) (b : Addr) (k : ClassId) (c0 : Int32) (c1 : Int32) (c2 : Int32) (c3 : Int32) (cs : Int32) (fw : Value) (h0 : Heap) (n0 : Nat) (Z0 : n0 ≤ h0.size) (OL : Old Z n0 h0) (SC : Sta Z Z.heap "java/lang/String" "COMPACT_STRINGS" "Z" (.int cs)) (hcs : ¬ cs = 0) (SF : Sta Z Z.heap "jdk/internal/util/Preconditions" "SIOOBE_FORMATTER" "Ljava/util/function/BiFunction;" fw) (hfw : fw.isRef = true) (SA : Sta Z Z.heap "java/lang/StringUTF16" "$assertionsDisabled" "Z" (.int 1)) (SH : Sta Z Z.heap "java/lang/StringUTF16" "HI_BYTE_SHIFT" "I" (.int 0)) (SL : Sta Z Z.heap "java/lang/StringUTF16" "LO_BYTE_SHIFT" "I" (.int 8)) (E_a : Exa Z h0 a "java/lang/String") (FV : Fld Z h0 a "java/lang/String" "value" "[B" (.ref b)) (DQ : (Fld Z h0 a "java/lang/String" "coder" "B" (.int 0) ∧ (¬ (255 : Int32) < c0 ∧ ¬ (255 : Int32) < c1 ∧ ¬ (255 : Int32) < c2 ∧ ¬ (255 : Int32) < c3) ∧ Arv Z h0 b k .byte 4 [(.int (nar .byte (c0.toInt8.toInt32))), (.int (nar .byte (c1.toInt8.toInt32))), (.int (nar .byte (c2.toInt8.toInt32))), (.int (nar .byte (c3.toInt8.toInt32)))] (.int 0) ∨ Fld Z h0 a "java/lang/String" "coder" "B" (.int 1) ∧ (¬ (¬ (255 : Int32) < c0 ∧ ¬ (255 : Int32) < c1 ∧ ¬ (255 : Int32) < c2 ∧ ¬ (255 : Int32) < c3)) ∧ Arv Z h0 b k .byte 8 [(.int (own_b0 c0)), (.int (own_b1 c0)), (.int (own_b0 c1)), (.int (own_b1 c1)), (.int (own_b0 c2)), (.int (own_b1 c2)), (.int (own_b0 c3)), (.int (own_b1 c3))] (.int 0))) (w0 : nar .char c0 = c0) (w1 : nar .char c1 = c1) (w2 : nar .char c2 = c2) (w3 : nar .char c3 = c3) :
    Con l (⟨"java/lang/String", "charAt", "(I)C"⟩ : MethodName) jdk_42_method_56_code 2 (some .char) ({ frames := 4, cells := 0, slots := 0, locals := 53 } : Room) Z #[(.ref a), (.int (3 : Int32))] h0 (fun v h L => v = some (.int c3) ∧ Fr n0 L ∧ h = h0) := by
  refine Con.mk (plainFor_of_name pn_11) (fun m => show entryFrame m #[(.ref a), (.int (3 : Int32))] 2 = mkF m 0 #[.val (.ref a), .val (.int (3 : Int32))] [] by first | (simp [entryFrame, mkF, argsToLocals, Value.category]; done) | rfl) ?_
  intro p e s m below meth c s₁ hx hby hml hown hnm hret hlk hZ X0 e0
  have N0 := Fr.nil n0
  show Run p e below s _ _ _ (s₁.setTop (mkF m 0 #[.val (.ref a), .val (.int (3 : Int32))] []))
  rcases DQ with ⟨FCo, hl, AB⟩ | ⟨FCo, hl, AB⟩
  · skip
    show Run p e below s _ _ _ (s₁.setTop (mkF m 0 #[.val (.ref a), .val (.int (3 : Int32))] []))
    refine Run.pre (fun _ k => XS.aloadN X0.here hx rfl (hb hby d11_0) rfl rfl k) ?_
    show Run p e below s _ _ _ (s₁.setTop (mkF m 1 #[.val (.ref a), .val (.int (3 : Int32))] [(.ref a)]))
    refine Run.callV X0 hx hZ (y := (⟨"java/lang/String", "isLatin1", "()Z"⟩ : MethodName)) (z := (⟨"java/lang/String", "isLatin1", "()Z"⟩ : MethodName)) hown (hw _ (List.mem_of_getElem? (i := 50) rfl)) (hw _ (List.mem_of_getElem? (i := 51) rfl)) (notFace_of_selects (args := #[]) (mvT hZ (hw _ (List.mem_of_getElem? (i := 53) rfl)))) (hw _ (List.mem_of_getElem? (i := 53) rfl)) (hw _ (List.mem_of_getElem? (i := 52) rfl)) (hw _ (List.mem_of_getElem? (i := 54) rfl)) (hw _ (List.mem_of_getElem? (i := 8) rfl)) (by decide) (b := a) E_a (W := 0) (rmIL_0 l Z a0 hw a cs h0 n0 (Nat.le_trans Z0 (Keep.refl h0 []).1) OL SC hcs FCo) e0 (by decide) (by decide) (by decide) (by decide) (g := (mkF m 1 #[.val (.ref a), .val (.int (3 : Int32))] [(.ref a)])) rfl (by rw [hml]; rfl) (argsL := []) (rest := []) (lenOf pd_13 rfl) rfl (by show 2 * 0 + _ ≤ _; exact Nat.le_of_eq rfl) (hb hby d11_1) ?_
    intro v237 T237 L237 X237 hQ237
    obtain ⟨rfl, Nq237, he237⟩ := hQ237
    have N237 := Fr.app N0 Nq237
    have e237 : T237.heap = h0 := he237
    show Run p e below s _ _ _ (T237.setTop (mkF m 4 #[.val (.ref a), .val (.int (3 : Int32))] [(.int (1 : Int32))]))
    refine Run.pre (fun _ k => XS.ifNo X237.here hx rfl (hb hby d11_4) rfl ((if0 _ _).trans (feq ((by decide) : ¬ ((1 : Int32) = (0 : Int32)))).1) k) ?_
    show Run p e below s _ _ _ (T237.setTop (mkF m 7 #[.val (.ref a), .val (.int (3 : Int32))] []))
    refine Run.pre (fun _ k => XS.aloadN X237.here hx rfl (hb hby d11_7) rfl rfl k) ?_
    show Run p e below s _ _ _ (T237.setTop (mkF m 8 #[.val (.ref a), .val (.int (3 : Int32))] [(.ref a)]))
    obtain ⟨T238, X238, e238, st238⟩ := getF X237 hx hZ hown (host := "") (Or.inl (hw _ (List.mem_of_getElem? (i := 33) rfl))) Via.refl e237 FV (g := (mkF m 8 #[.val (.ref a), .val (.int (3 : Int32))] [(.ref a)])) rfl rfl (hb hby d11_8)
    refine Run.pre st238 ?_
    show Run p e below s _ _ _ (T238.setTop (mkF m 11 #[.val (.ref a), .val (.int (3 : Int32))] [(.ref b)]))
    refine Run.pre (fun _ k => XS.iloadN X238.here hx rfl (hb hby d11_11) rfl  k) ?_
    show Run p e below s _ _ _ (T238.setTop (mkF m 12 #[.val (.ref a), .val (.int (3 : Int32))] [(.int (3 : Int32)), (.ref b)]))
    refine Run.callS X238 hx hZ (y := (⟨"java/lang/StringLatin1", "charAt", "([BI)C"⟩ : MethodName)) hown (hw _ (List.mem_of_getElem? (i := 55) rfl)) (hw _ (List.mem_of_getElem? (i := 56) rfl)) (hw _ (List.mem_of_getElem? (i := 57) rfl)) (hw _ (List.mem_of_getElem? (i := 58) rfl)) (by decide) (W := 0) (rmLC_3 l Z a0 hw b k c0 c1 c2 c3 fw h0 n0 (Nat.le_trans Z0 (Keep.refl h0 []).1) OL SF hfw AB w3 hl.2.2.2) e238 (by decide) (by decide) (by decide) (by decide) (g := (mkF m 12 #[.val (.ref a), .val (.int (3 : Int32))] [(.int (3 : Int32)), (.ref b)])) rfl (by rw [hml]; rfl) (argsL := [(.ref b), (.int (3 : Int32))]) (rest := []) (lenOf pd_5 rfl) rfl (by show 2 * 0 + _ ≤ _; exact Nat.le_of_eq rfl) (hb hby d11_12) ?_
    intro v239 T239 L239 X239 hQ239
    obtain ⟨rfl, Nq239, he239⟩ := hQ239
    have N239 := Fr.app N237 Nq239
    have e239 : T239.heap = h0 := he239
    show Run p e below s _ _ _ (T239.setTop (mkF m 15 #[.val (.ref a), .val (.int (3 : Int32))] [(.int c3)]))
    exact Run.retN X239 hx hret (t := .char) (by simp) hlk (hb hby d11_15) (by first | (rw [e239]; exact ⟨by rw [w3], N239, rfl⟩) | exact ⟨by rw [w3], N239, rfl⟩) (by decide) (by decide)
  · skip
    show Run p e below s _ _ _ (s₁.setTop (mkF m 0 #[.val (.ref a), .val (.int (3 : Int32))] []))
    refine Run.pre (fun _ k => XS.aloadN X0.here hx rfl (hb hby d11_0) rfl rfl k) ?_
    show Run p e below s _ _ _ (s₁.setTop (mkF m 1 #[.val (.ref a), .val (.int (3 : Int32))] [(.ref a)]))
    refine Run.callV X0 hx hZ (y := (⟨"java/lang/String", "isLatin1", "()Z"⟩ : MethodName)) (z := (⟨"java/lang/String", "isLatin1", "()Z"⟩ : MethodName)) hown (hw _ (List.mem_of_getElem? (i := 50) rfl)) (hw _ (List.mem_of_getElem? (i := 51) rfl)) (notFace_of_selects (args := #[]) (mvT hZ (hw _ (List.mem_of_getElem? (i := 53) rfl)))) (hw _ (List.mem_of_getElem? (i := 53) rfl)) (hw _ (List.mem_of_getElem? (i := 52) rfl)) (hw _ (List.mem_of_getElem? (i := 54) rfl)) (hw _ (List.mem_of_getElem? (i := 8) rfl)) (by decide) (b := a) E_a (W := 0) (rmIL_1 l Z a0 hw a cs h0 n0 (Nat.le_trans Z0 (Keep.refl h0 []).1) OL SC hcs FCo) e0 (by decide) (by decide) (by decide) (by decide) (g := (mkF m 1 #[.val (.ref a), .val (.int (3 : Int32))] [(.ref a)])) rfl (by rw [hml]; rfl) (argsL := []) (rest := []) (lenOf pd_13 rfl) rfl (by show 2 * 0 + _ ≤ _; exact Nat.le_of_eq rfl) (hb hby d11_1) ?_
    intro v240 T240 L240 X240 hQ240
    obtain ⟨rfl, Nq240, he240⟩ := hQ240
    have N240 := Fr.app N0 Nq240
    have e240 : T240.heap = h0 := he240
    show Run p e below s _ _ _ (T240.setTop (mkF m 4 #[.val (.ref a), .val (.int (3 : Int32))] [(.int (0 : Int32))]))
    refine Run.pre (fun _ k => XS.ifYes X240.here hx rfl (pc0 := 4) (pc' := 16) rfl (hb hby d11_4) rfl ((if0 _ _).trans (teq ((by decide) : (0 : Int32) = (0 : Int32))).1) (by decide) (by decide) k) ?_
    show Run p e below s _ _ _ (T240.setTop (mkF m 16 #[.val (.ref a), .val (.int (3 : Int32))] []))
    refine Run.pre (fun _ k => XS.aloadN X240.here hx rfl (hb hby d11_16) rfl rfl k) ?_
    show Run p e below s _ _ _ (T240.setTop (mkF m 17 #[.val (.ref a), .val (.int (3 : Int32))] [(.ref a)]))
    obtain ⟨T241, X241, e241, st241⟩ := getF X240 hx hZ hown (host := "") (Or.inl (hw _ (List.mem_of_getElem? (i := 33) rfl))) Via.refl e240 FV (g := (mkF m 17 #[.val (.ref a), .val (.int (3 : Int32))] [(.ref a)])) rfl rfl (hb hby d11_17)
    refine Run.pre st241 ?_
    show Run p e below s _ _ _ (T241.setTop (mkF m 20 #[.val (.ref a), .val (.int (3 : Int32))] [(.ref b)]))
    refine Run.pre (fun _ k => XS.iloadN X241.here hx rfl (hb hby d11_20) rfl  k) ?_
    show Run p e below s _ _ _ (T241.setTop (mkF m 21 #[.val (.ref a), .val (.int (3 : Int32))] [(.int (3 : Int32)), (.ref b)]))
    refine Run.callS X241 hx hZ (y := (⟨"java/lang/StringUTF16", "charAt", "([BI)C"⟩ : MethodName)) hown (hw _ (List.mem_of_getElem? (i := 86) rfl)) (hw _ (List.mem_of_getElem? (i := 87) rfl)) (hw _ (List.mem_of_getElem? (i := 22) rfl)) (hw _ (List.mem_of_getElem? (i := 88) rfl)) (by decide) (W := 0) (rmUC_3 l Z a0 hw b k c0 c1 c2 c3 fw h0 n0 (Nat.le_trans Z0 (Keep.refl h0 []).1) OL SF hfw SA SH SL AB w3) e241 (by decide) (by decide) (by decide) (by decide) (g := (mkF m 21 #[.val (.ref a), .val (.int (3 : Int32))] [(.int (3 : Int32)), (.ref b)])) rfl (by rw [hml]; rfl) (argsL := [(.ref b), (.int (3 : Int32))]) (rest := []) (lenOf pd_5 rfl) rfl (by show 2 * 0 + _ ≤ _; exact Nat.le_of_eq rfl) (hb hby d11_21) ?_
    intro v242 T242 L242 X242 hQ242
    obtain ⟨rfl, Nq242, he242⟩ := hQ242
    have N242 := Fr.app N240 Nq242
    have e242 : T242.heap = h0 := he242
    show Run p e below s _ _ _ (T242.setTop (mkF m 24 #[.val (.ref a), .val (.int (3 : Int32))] [(.int c3)]))
    exact Run.retN X242 hx hret (t := .char) (by simp) hlk (hb hby d11_24) (by first | (rw [e242]; exact ⟨by rw [w3], N242, rfl⟩) | exact ⟨by rw [w3], N242, rfl⟩) (by decide) (by decide)
theorem d9_0 : decode prog_1_method_2_code 0 = .ok (.iload_n 1, 1) := by decide +kernel
theorem d9_1 : decode prog_1_method_2_code 1 = .ok (.istore_n 3, 1) := by decide +kernel
theorem d9_2 : decode prog_1_method_2_code 2 = .ok (.iload_n 3, 1) := by decide +kernel
theorem d9_3 : decode prog_1_method_2_code 3 = .ok (.iload_n 2, 1) := by decide +kernel
theorem d9_4 : decode prog_1_method_2_code 4 = .ok (.if_icmp .ge 32, 3) := by decide +kernel
theorem d9_36 : decode prog_1_method_2_code 36 = .ok (.iconst 1, 1) := by decide +kernel
theorem d9_37 : decode prog_1_method_2_code 37 = .ok (.ireturn, 1) := by decide +kernel
theorem d9_7 : decode prog_1_method_2_code 7 = .ok (.aload_n 0, 1) := by decide +kernel
theorem d9_8 : decode prog_1_method_2_code 8 = .ok (.iload_n 3, 1) := by decide +kernel
theorem pd_14 : parseMethodDescriptor "(I)C" = some ⟨[.int], some .char⟩ := by decide +kernel
theorem d9_9 : decode prog_1_method_2_code 9 = .ok (.invokevirtual 7, 3) := by decide +kernel
theorem d9_12 : decode prog_1_method_2_code 12 = .ok (.istore 4, 2) := by decide +kernel
theorem d9_14 : decode prog_1_method_2_code 14 = .ok (.iload 4, 2) := by decide +kernel
theorem d9_16 : decode prog_1_method_2_code 16 = .ok (.bipush 48, 2) := by decide +kernel
theorem d9_18 : decode prog_1_method_2_code 18 = .ok (.if_icmp .lt 10, 3) := by decide +kernel
theorem d9_28 : decode prog_1_method_2_code 28 = .ok (.iconst 0, 1) := by decide +kernel
theorem d9_29 : decode prog_1_method_2_code 29 = .ok (.ireturn, 1) := by decide +kernel
theorem d9_21 : decode prog_1_method_2_code 21 = .ok (.iload 4, 2) := by decide +kernel
theorem d9_23 : decode prog_1_method_2_code 23 = .ok (.bipush 57, 2) := by decide +kernel
theorem d9_25 : decode prog_1_method_2_code 25 = .ok (.if_icmp .le 5, 3) := by decide +kernel
theorem d9_30 : decode prog_1_method_2_code 30 = .ok (.iinc 3 1, 3) := by decide +kernel
theorem d9_33 : decode prog_1_method_2_code 33 = .ok (.goto (-31), 3) := by decide +kernel
theorem pn_9 : plainName "com/example/panelfix/panelfix/io/AsciiDigits" = true := by first | (simp [plainName, overriddenIn]; done) | decide +kernel
set_option maxRecDepth 65536 in
set_option maxHeartbeats 40000000 in
theorem rmBt (l : Launch) (Z : State) (a0 : Array Value) (hw : ∀ d ∈ tables_1, d.before a0 Z = true) (a : Addr) (ss : Int32) (ee : Int32) (b : Addr) (k : ClassId) (c0 : Int32) (c1 : Int32) (c2 : Int32) (c3 : Int32) (cs : Int32) (fw : Value) (h0 : Heap) (n0 : Nat) (Z0 : n0 ≤ h0.size) (OL : Old Z n0 h0) (SC : Sta Z Z.heap "java/lang/String" "COMPACT_STRINGS" "Z" (.int cs)) (hcs : ¬ cs = 0) (SF : Sta Z Z.heap "jdk/internal/util/Preconditions" "SIOOBE_FORMATTER" "Ljava/util/function/BiFunction;" fw) (hfw : fw.isRef = true) (SA : Sta Z Z.heap "java/lang/StringUTF16" "$assertionsDisabled" "Z" (.int 1)) (SH : Sta Z Z.heap "java/lang/StringUTF16" "HI_BYTE_SHIFT" "I" (.int 0)) (SL : Sta Z Z.heap "java/lang/StringUTF16" "LO_BYTE_SHIFT" "I" (.int 8)) (E_a : Exa Z h0 a "java/lang/String") (FV : Fld Z h0 a "java/lang/String" "value" "[B" (.ref b)) (DQ : (Fld Z h0 a "java/lang/String" "coder" "B" (.int 0) ∧ (¬ (255 : Int32) < c0 ∧ ¬ (255 : Int32) < c1 ∧ ¬ (255 : Int32) < c2 ∧ ¬ (255 : Int32) < c3) ∧ Arv Z h0 b k .byte 4 [(.int (nar .byte (c0.toInt8.toInt32))), (.int (nar .byte (c1.toInt8.toInt32))), (.int (nar .byte (c2.toInt8.toInt32))), (.int (nar .byte (c3.toInt8.toInt32)))] (.int 0) ∨ Fld Z h0 a "java/lang/String" "coder" "B" (.int 1) ∧ (¬ (¬ (255 : Int32) < c0 ∧ ¬ (255 : Int32) < c1 ∧ ¬ (255 : Int32) < c2 ∧ ¬ (255 : Int32) < c3)) ∧ Arv Z h0 b k .byte 8 [(.int (own_b0 c0)), (.int (own_b1 c0)), (.int (own_b0 c1)), (.int (own_b1 c1)), (.int (own_b0 c2)), (.int (own_b1 c2)), (.int (own_b0 c3)), (.int (own_b1 c3))] (.int 0))) (w0 : nar .char c0 = c0) (w1 : nar .char c1 = c1) (w2 : nar .char c2 = c2) (w3 : nar .char c3 = c3) (hse : own_se ss ee) :
    Con l (⟨"com/example/panelfix/panelfix/io/AsciiDigits", "between", "(Ljava/lang/String;II)Z"⟩ : MethodName) prog_1_method_2_code 5 (some .boolean) ({ frames := 5, cells := 0, slots := 0, locals := 66 } : Room) Z #[(.ref a), (.int ss), (.int ee)] h0 (fun v h L => v = some (.int (own_en (own_en (own_en (own_e1 (own_bad 0 c0 ss ee)) (own_bad 1 c1 ss ee)) (own_bad 2 c2 ss ee)) (own_bad 3 c3 ss ee))) ∧ Fr n0 L ∧ h = h0) := by
  refine Con.mk (plainFor_of_name pn_9) (fun m => show entryFrame m #[(.ref a), (.int ss), (.int ee)] 5 = mkF m 0 #[.val (.ref a), .val (.int ss), .val (.int ee), .unset, .unset] [] by first | (simp [entryFrame, mkF, argsToLocals, Value.category]; done) | rfl) ?_
  intro p e s m below meth c s₁ hx hby hml hown hnm hret hlk hZ X0 e0
  have N0 := Fr.nil n0
  show Run p e below s _ _ _ (s₁.setTop (mkF m 0 #[.val (.ref a), .val (.int ss), .val (.int ee), .unset, .unset] []))
  rcases hse with ⟨rfl, rfl | rfl | rfl | rfl | rfl⟩ | ⟨rfl, rfl | rfl | rfl | rfl⟩ | ⟨rfl, rfl | rfl | rfl⟩ | ⟨rfl, rfl | rfl⟩ | ⟨rfl, rfl⟩
  · skip
    show Run p e below s _ _ _ (s₁.setTop (mkF m 0 #[.val (.ref a), .val (.int (0 : Int32)), .val (.int (0 : Int32)), .unset, .unset] []))
    refine Run.pre (fun _ k => XS.iloadN X0.here hx rfl (hb hby d9_0) rfl  k) ?_
    show Run p e below s _ _ _ (s₁.setTop (mkF m 1 #[.val (.ref a), .val (.int (0 : Int32)), .val (.int (0 : Int32)), .unset, .unset] [(.int (0 : Int32))]))
    refine Run.pre (fun _ k => XS.istoreN X0.here hx rfl (hb hby d9_1) rfl (l' := #[.val (.ref a), .val (.int (0 : Int32)), .val (.int (0 : Int32)), .val (.int (0 : Int32)), .unset]) rfl k) ?_
    show Run p e below s _ _ _ (s₁.setTop (mkF m 2 #[.val (.ref a), .val (.int (0 : Int32)), .val (.int (0 : Int32)), .val (.int (0 : Int32)), .unset] []))
    refine Run.pre (fun _ k => XS.iloadN X0.here hx rfl (hb hby d9_2) rfl  k) ?_
    show Run p e below s _ _ _ (s₁.setTop (mkF m 3 #[.val (.ref a), .val (.int (0 : Int32)), .val (.int (0 : Int32)), .val (.int (0 : Int32)), .unset] [(.int (0 : Int32))]))
    refine Run.pre (fun _ k => XS.iloadN X0.here hx rfl (hb hby d9_3) rfl  k) ?_
    show Run p e below s _ _ _ (s₁.setTop (mkF m 4 #[.val (.ref a), .val (.int (0 : Int32)), .val (.int (0 : Int32)), .val (.int (0 : Int32)), .unset] [(.int (0 : Int32)), (.int (0 : Int32))]))
    refine Run.pre (fun _ k => XS.icmpYes X0.here hx rfl (pc0 := 4) (pc' := 36) rfl (hb hby d9_4) rfl (flt ((by decide) : ¬ ((0 : Int32) < (0 : Int32)))).2.1 (by decide) (by decide) k) ?_
    show Run p e below s _ _ _ (s₁.setTop (mkF m 36 #[.val (.ref a), .val (.int (0 : Int32)), .val (.int (0 : Int32)), .val (.int (0 : Int32)), .unset] []))
    refine Run.pre (fun _ k => XS.iconst X0.here hx rfl (hb hby d9_36) k) ?_
    show Run p e below s _ _ _ (s₁.setTop (mkF m 37 #[.val (.ref a), .val (.int (0 : Int32)), .val (.int (0 : Int32)), .val (.int (0 : Int32)), .unset] [(.int (1 : Int32))]))
    exact Run.retN X0 hx hret (t := .boolean) (by simp) hlk (hb hby d9_37) (by first | (rw [e0]; exact ⟨by simp [own_en, own_e1, own_bad, own_dg, nar], N0, rfl⟩) | exact ⟨by simp [own_en, own_e1, own_bad, own_dg, nar], N0, rfl⟩) (by decide) (by decide)
  · skip
    show Run p e below s _ _ _ (s₁.setTop (mkF m 0 #[.val (.ref a), .val (.int (0 : Int32)), .val (.int (1 : Int32)), .unset, .unset] []))
    refine Run.pre (fun _ k => XS.iloadN X0.here hx rfl (hb hby d9_0) rfl  k) ?_
    show Run p e below s _ _ _ (s₁.setTop (mkF m 1 #[.val (.ref a), .val (.int (0 : Int32)), .val (.int (1 : Int32)), .unset, .unset] [(.int (0 : Int32))]))
    refine Run.pre (fun _ k => XS.istoreN X0.here hx rfl (hb hby d9_1) rfl (l' := #[.val (.ref a), .val (.int (0 : Int32)), .val (.int (1 : Int32)), .val (.int (0 : Int32)), .unset]) rfl k) ?_
    show Run p e below s _ _ _ (s₁.setTop (mkF m 2 #[.val (.ref a), .val (.int (0 : Int32)), .val (.int (1 : Int32)), .val (.int (0 : Int32)), .unset] []))
    refine Run.pre (fun _ k => XS.iloadN X0.here hx rfl (hb hby d9_2) rfl  k) ?_
    show Run p e below s _ _ _ (s₁.setTop (mkF m 3 #[.val (.ref a), .val (.int (0 : Int32)), .val (.int (1 : Int32)), .val (.int (0 : Int32)), .unset] [(.int (0 : Int32))]))
    refine Run.pre (fun _ k => XS.iloadN X0.here hx rfl (hb hby d9_3) rfl  k) ?_
    show Run p e below s _ _ _ (s₁.setTop (mkF m 4 #[.val (.ref a), .val (.int (0 : Int32)), .val (.int (1 : Int32)), .val (.int (0 : Int32)), .unset] [(.int (1 : Int32)), (.int (0 : Int32))]))
    refine Run.pre (fun _ k => XS.icmpNo X0.here hx rfl (hb hby d9_4) rfl (tlt ((by decide) : (0 : Int32) < (1 : Int32))).2.1 k) ?_
    show Run p e below s _ _ _ (s₁.setTop (mkF m 7 #[.val (.ref a), .val (.int (0 : Int32)), .val (.int (1 : Int32)), .val (.int (0 : Int32)), .unset] []))
    refine Run.pre (fun _ k => XS.aloadN X0.here hx rfl (hb hby d9_7) rfl rfl k) ?_
    show Run p e below s _ _ _ (s₁.setTop (mkF m 8 #[.val (.ref a), .val (.int (0 : Int32)), .val (.int (1 : Int32)), .val (.int (0 : Int32)), .unset] [(.ref a)]))
    refine Run.pre (fun _ k => XS.iloadN X0.here hx rfl (hb hby d9_8) rfl  k) ?_
    show Run p e below s _ _ _ (s₁.setTop (mkF m 9 #[.val (.ref a), .val (.int (0 : Int32)), .val (.int (1 : Int32)), .val (.int (0 : Int32)), .unset] [(.int (0 : Int32)), (.ref a)]))
    refine Run.callV X0 hx hZ (y := (⟨"java/lang/String", "charAt", "(I)C"⟩ : MethodName)) (z := (⟨"java/lang/String", "charAt", "(I)C"⟩ : MethodName)) hown (hw _ (List.mem_of_getElem? (i := 45) rfl)) (hw _ (List.mem_of_getElem? (i := 46) rfl)) (notFace_of_selects (args := #[]) (mvT hZ (hw _ (List.mem_of_getElem? (i := 48) rfl)))) (hw _ (List.mem_of_getElem? (i := 48) rfl)) (hw _ (List.mem_of_getElem? (i := 47) rfl)) (hw _ (List.mem_of_getElem? (i := 49) rfl)) (hw _ (List.mem_of_getElem? (i := 8) rfl)) (by decide) (b := a) E_a (W := 0) (rmCA_0 l Z a0 hw a b k c0 c1 c2 c3 cs fw h0 n0 (Nat.le_trans Z0 (Keep.refl h0 []).1) OL SC hcs SF hfw SA SH SL E_a FV DQ w0 w1 w2 w3) e0 (by decide) (by decide) (by decide) (by decide) (g := (mkF m 9 #[.val (.ref a), .val (.int (0 : Int32)), .val (.int (1 : Int32)), .val (.int (0 : Int32)), .unset] [(.int (0 : Int32)), (.ref a)])) rfl (by rw [hml]; rfl) (argsL := [(.int (0 : Int32))]) (rest := []) (lenOf pd_14 rfl) rfl (by show 2 * 0 + _ ≤ _; exact Nat.le_of_eq rfl) (hb hby d9_9) ?_
    intro v243 T243 L243 X243 hQ243
    obtain ⟨rfl, Nq243, he243⟩ := hQ243
    have N243 := Fr.app N0 Nq243
    have e243 : T243.heap = h0 := he243
    show Run p e below s _ _ _ (T243.setTop (mkF m 12 #[.val (.ref a), .val (.int (0 : Int32)), .val (.int (1 : Int32)), .val (.int (0 : Int32)), .unset] [(.int c0)]))
    refine Run.pre (fun _ k => XS.istore X243.here hx rfl (hb hby d9_12) rfl (l' := #[.val (.ref a), .val (.int (0 : Int32)), .val (.int (1 : Int32)), .val (.int (0 : Int32)), .val (.int c0)]) rfl k) ?_
    show Run p e below s _ _ _ (T243.setTop (mkF m 14 #[.val (.ref a), .val (.int (0 : Int32)), .val (.int (1 : Int32)), .val (.int (0 : Int32)), .val (.int c0)] []))
    refine Run.pre (fun _ k => XS.iload X243.here hx rfl (hb hby d9_14) rfl  k) ?_
    show Run p e below s _ _ _ (T243.setTop (mkF m 16 #[.val (.ref a), .val (.int (0 : Int32)), .val (.int (1 : Int32)), .val (.int (0 : Int32)), .val (.int c0)] [(.int c0)]))
    refine Run.pre (fun _ k => XS.bipush X243.here hx rfl (hb hby d9_16) k) ?_
    show Run p e below s _ _ _ (T243.setTop (mkF m 18 #[.val (.ref a), .val (.int (0 : Int32)), .val (.int (1 : Int32)), .val (.int (0 : Int32)), .val (.int c0)] [(.int (48 : Int32)), (.int c0)]))
    by_cases hc244 : c0 < (48 : Int32)
    · skip
      refine Run.pre (fun _ k => XS.icmpYes X243.here hx rfl (pc0 := 18) (pc' := 28) rfl (hb hby d9_18) rfl (tlt (hc244 : c0 < (48 : Int32))).1 (by decide) (by decide) k) ?_
      show Run p e below s _ _ _ (T243.setTop (mkF m 28 #[.val (.ref a), .val (.int (0 : Int32)), .val (.int (1 : Int32)), .val (.int (0 : Int32)), .val (.int c0)] []))
      refine Run.pre (fun _ k => XS.iconst X243.here hx rfl (hb hby d9_28) k) ?_
      show Run p e below s _ _ _ (T243.setTop (mkF m 29 #[.val (.ref a), .val (.int (0 : Int32)), .val (.int (1 : Int32)), .val (.int (0 : Int32)), .val (.int c0)] [(.int (0 : Int32))]))
      exact Run.retN X243 hx hret (t := .boolean) (by simp) hlk (hb hby d9_29) (by first | (rw [e243]; exact ⟨by simp [own_en, own_e1, own_bad, own_dg, nar, hc244], N243, rfl⟩) | exact ⟨by simp [own_en, own_e1, own_bad, own_dg, nar, hc244], N243, rfl⟩) (by decide) (by decide)
    · skip
      refine Run.pre (fun _ k => XS.icmpNo X243.here hx rfl (hb hby d9_18) rfl (flt (hc244 : ¬ (c0 < (48 : Int32)))).1 k) ?_
      show Run p e below s _ _ _ (T243.setTop (mkF m 21 #[.val (.ref a), .val (.int (0 : Int32)), .val (.int (1 : Int32)), .val (.int (0 : Int32)), .val (.int c0)] []))
      refine Run.pre (fun _ k => XS.iload X243.here hx rfl (hb hby d9_21) rfl  k) ?_
      show Run p e below s _ _ _ (T243.setTop (mkF m 23 #[.val (.ref a), .val (.int (0 : Int32)), .val (.int (1 : Int32)), .val (.int (0 : Int32)), .val (.int c0)] [(.int c0)]))
      refine Run.pre (fun _ k => XS.bipush X243.here hx rfl (hb hby d9_23) k) ?_
      show Run p e below s _ _ _ (T243.setTop (mkF m 25 #[.val (.ref a), .val (.int (0 : Int32)), .val (.int (1 : Int32)), .val (.int (0 : Int32)), .val (.int c0)] [(.int (57 : Int32)), (.int c0)]))
      by_cases hc245 : (57 : Int32) < c0
      · skip
        refine Run.pre (fun _ k => XS.icmpNo X243.here hx rfl (hb hby d9_25) rfl (tlt (hc245 : (57 : Int32) < c0)).2.2.2 k) ?_
        show Run p e below s _ _ _ (T243.setTop (mkF m 28 #[.val (.ref a), .val (.int (0 : Int32)), .val (.int (1 : Int32)), .val (.int (0 : Int32)), .val (.int c0)] []))
        refine Run.pre (fun _ k => XS.iconst X243.here hx rfl (hb hby d9_28) k) ?_
        show Run p e below s _ _ _ (T243.setTop (mkF m 29 #[.val (.ref a), .val (.int (0 : Int32)), .val (.int (1 : Int32)), .val (.int (0 : Int32)), .val (.int c0)] [(.int (0 : Int32))]))
        exact Run.retN X243 hx hret (t := .boolean) (by simp) hlk (hb hby d9_29) (by first | (rw [e243]; exact ⟨by simp [own_en, own_e1, own_bad, own_dg, nar, hc244, hc245], N243, rfl⟩) | exact ⟨by simp [own_en, own_e1, own_bad, own_dg, nar, hc244, hc245], N243, rfl⟩) (by decide) (by decide)
      · skip
        refine Run.pre (fun _ k => XS.icmpYes X243.here hx rfl (pc0 := 25) (pc' := 30) rfl (hb hby d9_25) rfl (flt (hc245 : ¬ ((57 : Int32) < c0))).2.2.2 (by decide) (by decide) k) ?_
        show Run p e below s _ _ _ (T243.setTop (mkF m 30 #[.val (.ref a), .val (.int (0 : Int32)), .val (.int (1 : Int32)), .val (.int (0 : Int32)), .val (.int c0)] []))
        refine Run.pre (fun _ k => XS.iinc X243.here hx rfl (hb hby d9_30) rfl (l' := #[.val (.ref a), .val (.int (0 : Int32)), .val (.int (1 : Int32)), .val (.int (1 : Int32)), .val (.int c0)]) rfl k) ?_
        show Run p e below s _ _ _ (T243.setTop (mkF m 33 #[.val (.ref a), .val (.int (0 : Int32)), .val (.int (1 : Int32)), .val (.int (1 : Int32)), .val (.int c0)] []))
        refine Run.pre (fun _ k => XS.goto X243.here hx rfl (pc0 := 33) (pc' := 2) rfl (hb hby d9_33) (by decide) (by decide) k) ?_
        show Run p e below s _ _ _ (T243.setTop (mkF m 2 #[.val (.ref a), .val (.int (0 : Int32)), .val (.int (1 : Int32)), .val (.int (1 : Int32)), .val (.int c0)] []))
        refine Run.pre (fun _ k => XS.iloadN X243.here hx rfl (hb hby d9_2) rfl  k) ?_
        show Run p e below s _ _ _ (T243.setTop (mkF m 3 #[.val (.ref a), .val (.int (0 : Int32)), .val (.int (1 : Int32)), .val (.int (1 : Int32)), .val (.int c0)] [(.int (1 : Int32))]))
        refine Run.pre (fun _ k => XS.iloadN X243.here hx rfl (hb hby d9_3) rfl  k) ?_
        show Run p e below s _ _ _ (T243.setTop (mkF m 4 #[.val (.ref a), .val (.int (0 : Int32)), .val (.int (1 : Int32)), .val (.int (1 : Int32)), .val (.int c0)] [(.int (1 : Int32)), (.int (1 : Int32))]))
        refine Run.pre (fun _ k => XS.icmpYes X243.here hx rfl (pc0 := 4) (pc' := 36) rfl (hb hby d9_4) rfl (flt ((by decide) : ¬ ((1 : Int32) < (1 : Int32)))).2.1 (by decide) (by decide) k) ?_
        show Run p e below s _ _ _ (T243.setTop (mkF m 36 #[.val (.ref a), .val (.int (0 : Int32)), .val (.int (1 : Int32)), .val (.int (1 : Int32)), .val (.int c0)] []))
        refine Run.pre (fun _ k => XS.iconst X243.here hx rfl (hb hby d9_36) k) ?_
        show Run p e below s _ _ _ (T243.setTop (mkF m 37 #[.val (.ref a), .val (.int (0 : Int32)), .val (.int (1 : Int32)), .val (.int (1 : Int32)), .val (.int c0)] [(.int (1 : Int32))]))
        exact Run.retN X243 hx hret (t := .boolean) (by simp) hlk (hb hby d9_37) (by first | (rw [e243]; exact ⟨by simp [own_en, own_e1, own_bad, own_dg, nar, hc244, hc245], N243, rfl⟩) | exact ⟨by simp [own_en, own_e1, own_bad, own_dg, nar, hc244, hc245], N243, rfl⟩) (by decide) (by decide)
  · skip
    show Run p e below s _ _ _ (s₁.setTop (mkF m 0 #[.val (.ref a), .val (.int (0 : Int32)), .val (.int (2 : Int32)), .unset, .unset] []))
    refine Run.pre (fun _ k => XS.iloadN X0.here hx rfl (hb hby d9_0) rfl  k) ?_
    show Run p e below s _ _ _ (s₁.setTop (mkF m 1 #[.val (.ref a), .val (.int (0 : Int32)), .val (.int (2 : Int32)), .unset, .unset] [(.int (0 : Int32))]))
    refine Run.pre (fun _ k => XS.istoreN X0.here hx rfl (hb hby d9_1) rfl (l' := #[.val (.ref a), .val (.int (0 : Int32)), .val (.int (2 : Int32)), .val (.int (0 : Int32)), .unset]) rfl k) ?_
    show Run p e below s _ _ _ (s₁.setTop (mkF m 2 #[.val (.ref a), .val (.int (0 : Int32)), .val (.int (2 : Int32)), .val (.int (0 : Int32)), .unset] []))
    refine Run.pre (fun _ k => XS.iloadN X0.here hx rfl (hb hby d9_2) rfl  k) ?_
    show Run p e below s _ _ _ (s₁.setTop (mkF m 3 #[.val (.ref a), .val (.int (0 : Int32)), .val (.int (2 : Int32)), .val (.int (0 : Int32)), .unset] [(.int (0 : Int32))]))
    refine Run.pre (fun _ k => XS.iloadN X0.here hx rfl (hb hby d9_3) rfl  k) ?_
    show Run p e below s _ _ _ (s₁.setTop (mkF m 4 #[.val (.ref a), .val (.int (0 : Int32)), .val (.int (2 : Int32)), .val (.int (0 : Int32)), .unset] [(.int (2 : Int32)), (.int (0 : Int32))]))
    refine Run.pre (fun _ k => XS.icmpNo X0.here hx rfl (hb hby d9_4) rfl (tlt ((by decide) : (0 : Int32) < (2 : Int32))).2.1 k) ?_
    show Run p e below s _ _ _ (s₁.setTop (mkF m 7 #[.val (.ref a), .val (.int (0 : Int32)), .val (.int (2 : Int32)), .val (.int (0 : Int32)), .unset] []))
    refine Run.pre (fun _ k => XS.aloadN X0.here hx rfl (hb hby d9_7) rfl rfl k) ?_
    show Run p e below s _ _ _ (s₁.setTop (mkF m 8 #[.val (.ref a), .val (.int (0 : Int32)), .val (.int (2 : Int32)), .val (.int (0 : Int32)), .unset] [(.ref a)]))
    refine Run.pre (fun _ k => XS.iloadN X0.here hx rfl (hb hby d9_8) rfl  k) ?_
    show Run p e below s _ _ _ (s₁.setTop (mkF m 9 #[.val (.ref a), .val (.int (0 : Int32)), .val (.int (2 : Int32)), .val (.int (0 : Int32)), .unset] [(.int (0 : Int32)), (.ref a)]))
    refine Run.callV X0 hx hZ (y := (⟨"java/lang/String", "charAt", "(I)C"⟩ : MethodName)) (z := (⟨"java/lang/String", "charAt", "(I)C"⟩ : MethodName)) hown (hw _ (List.mem_of_getElem? (i := 45) rfl)) (hw _ (List.mem_of_getElem? (i := 46) rfl)) (notFace_of_selects (args := #[]) (mvT hZ (hw _ (List.mem_of_getElem? (i := 48) rfl)))) (hw _ (List.mem_of_getElem? (i := 48) rfl)) (hw _ (List.mem_of_getElem? (i := 47) rfl)) (hw _ (List.mem_of_getElem? (i := 49) rfl)) (hw _ (List.mem_of_getElem? (i := 8) rfl)) (by decide) (b := a) E_a (W := 0) (rmCA_0 l Z a0 hw a b k c0 c1 c2 c3 cs fw h0 n0 (Nat.le_trans Z0 (Keep.refl h0 []).1) OL SC hcs SF hfw SA SH SL E_a FV DQ w0 w1 w2 w3) e0 (by decide) (by decide) (by decide) (by decide) (g := (mkF m 9 #[.val (.ref a), .val (.int (0 : Int32)), .val (.int (2 : Int32)), .val (.int (0 : Int32)), .unset] [(.int (0 : Int32)), (.ref a)])) rfl (by rw [hml]; rfl) (argsL := [(.int (0 : Int32))]) (rest := []) (lenOf pd_14 rfl) rfl (by show 2 * 0 + _ ≤ _; exact Nat.le_of_eq rfl) (hb hby d9_9) ?_
    intro v246 T246 L246 X246 hQ246
    obtain ⟨rfl, Nq246, he246⟩ := hQ246
    have N246 := Fr.app N0 Nq246
    have e246 : T246.heap = h0 := he246
    show Run p e below s _ _ _ (T246.setTop (mkF m 12 #[.val (.ref a), .val (.int (0 : Int32)), .val (.int (2 : Int32)), .val (.int (0 : Int32)), .unset] [(.int c0)]))
    refine Run.pre (fun _ k => XS.istore X246.here hx rfl (hb hby d9_12) rfl (l' := #[.val (.ref a), .val (.int (0 : Int32)), .val (.int (2 : Int32)), .val (.int (0 : Int32)), .val (.int c0)]) rfl k) ?_
    show Run p e below s _ _ _ (T246.setTop (mkF m 14 #[.val (.ref a), .val (.int (0 : Int32)), .val (.int (2 : Int32)), .val (.int (0 : Int32)), .val (.int c0)] []))
    refine Run.pre (fun _ k => XS.iload X246.here hx rfl (hb hby d9_14) rfl  k) ?_
    show Run p e below s _ _ _ (T246.setTop (mkF m 16 #[.val (.ref a), .val (.int (0 : Int32)), .val (.int (2 : Int32)), .val (.int (0 : Int32)), .val (.int c0)] [(.int c0)]))
    refine Run.pre (fun _ k => XS.bipush X246.here hx rfl (hb hby d9_16) k) ?_
    show Run p e below s _ _ _ (T246.setTop (mkF m 18 #[.val (.ref a), .val (.int (0 : Int32)), .val (.int (2 : Int32)), .val (.int (0 : Int32)), .val (.int c0)] [(.int (48 : Int32)), (.int c0)]))
    by_cases hc247 : c0 < (48 : Int32)
    · skip
      refine Run.pre (fun _ k => XS.icmpYes X246.here hx rfl (pc0 := 18) (pc' := 28) rfl (hb hby d9_18) rfl (tlt (hc247 : c0 < (48 : Int32))).1 (by decide) (by decide) k) ?_
      show Run p e below s _ _ _ (T246.setTop (mkF m 28 #[.val (.ref a), .val (.int (0 : Int32)), .val (.int (2 : Int32)), .val (.int (0 : Int32)), .val (.int c0)] []))
      refine Run.pre (fun _ k => XS.iconst X246.here hx rfl (hb hby d9_28) k) ?_
      show Run p e below s _ _ _ (T246.setTop (mkF m 29 #[.val (.ref a), .val (.int (0 : Int32)), .val (.int (2 : Int32)), .val (.int (0 : Int32)), .val (.int c0)] [(.int (0 : Int32))]))
      exact Run.retN X246 hx hret (t := .boolean) (by simp) hlk (hb hby d9_29) (by first | (rw [e246]; exact ⟨by simp [own_en, own_e1, own_bad, own_dg, nar, hc247], N246, rfl⟩) | exact ⟨by simp [own_en, own_e1, own_bad, own_dg, nar, hc247], N246, rfl⟩) (by decide) (by decide)
    · skip
      refine Run.pre (fun _ k => XS.icmpNo X246.here hx rfl (hb hby d9_18) rfl (flt (hc247 : ¬ (c0 < (48 : Int32)))).1 k) ?_
      show Run p e below s _ _ _ (T246.setTop (mkF m 21 #[.val (.ref a), .val (.int (0 : Int32)), .val (.int (2 : Int32)), .val (.int (0 : Int32)), .val (.int c0)] []))
      refine Run.pre (fun _ k => XS.iload X246.here hx rfl (hb hby d9_21) rfl  k) ?_
      show Run p e below s _ _ _ (T246.setTop (mkF m 23 #[.val (.ref a), .val (.int (0 : Int32)), .val (.int (2 : Int32)), .val (.int (0 : Int32)), .val (.int c0)] [(.int c0)]))
      refine Run.pre (fun _ k => XS.bipush X246.here hx rfl (hb hby d9_23) k) ?_
      show Run p e below s _ _ _ (T246.setTop (mkF m 25 #[.val (.ref a), .val (.int (0 : Int32)), .val (.int (2 : Int32)), .val (.int (0 : Int32)), .val (.int c0)] [(.int (57 : Int32)), (.int c0)]))
      by_cases hc248 : (57 : Int32) < c0
      · skip
        refine Run.pre (fun _ k => XS.icmpNo X246.here hx rfl (hb hby d9_25) rfl (tlt (hc248 : (57 : Int32) < c0)).2.2.2 k) ?_
        show Run p e below s _ _ _ (T246.setTop (mkF m 28 #[.val (.ref a), .val (.int (0 : Int32)), .val (.int (2 : Int32)), .val (.int (0 : Int32)), .val (.int c0)] []))
        refine Run.pre (fun _ k => XS.iconst X246.here hx rfl (hb hby d9_28) k) ?_
        show Run p e below s _ _ _ (T246.setTop (mkF m 29 #[.val (.ref a), .val (.int (0 : Int32)), .val (.int (2 : Int32)), .val (.int (0 : Int32)), .val (.int c0)] [(.int (0 : Int32))]))
        exact Run.retN X246 hx hret (t := .boolean) (by simp) hlk (hb hby d9_29) (by first | (rw [e246]; exact ⟨by simp [own_en, own_e1, own_bad, own_dg, nar, hc247, hc248], N246, rfl⟩) | exact ⟨by simp [own_en, own_e1, own_bad, own_dg, nar, hc247, hc248], N246, rfl⟩) (by decide) (by decide)
      · skip
        refine Run.pre (fun _ k => XS.icmpYes X246.here hx rfl (pc0 := 25) (pc' := 30) rfl (hb hby d9_25) rfl (flt (hc248 : ¬ ((57 : Int32) < c0))).2.2.2 (by decide) (by decide) k) ?_
        show Run p e below s _ _ _ (T246.setTop (mkF m 30 #[.val (.ref a), .val (.int (0 : Int32)), .val (.int (2 : Int32)), .val (.int (0 : Int32)), .val (.int c0)] []))
        refine Run.pre (fun _ k => XS.iinc X246.here hx rfl (hb hby d9_30) rfl (l' := #[.val (.ref a), .val (.int (0 : Int32)), .val (.int (2 : Int32)), .val (.int (1 : Int32)), .val (.int c0)]) rfl k) ?_
        show Run p e below s _ _ _ (T246.setTop (mkF m 33 #[.val (.ref a), .val (.int (0 : Int32)), .val (.int (2 : Int32)), .val (.int (1 : Int32)), .val (.int c0)] []))
        refine Run.pre (fun _ k => XS.goto X246.here hx rfl (pc0 := 33) (pc' := 2) rfl (hb hby d9_33) (by decide) (by decide) k) ?_
        show Run p e below s _ _ _ (T246.setTop (mkF m 2 #[.val (.ref a), .val (.int (0 : Int32)), .val (.int (2 : Int32)), .val (.int (1 : Int32)), .val (.int c0)] []))
        refine Run.pre (fun _ k => XS.iloadN X246.here hx rfl (hb hby d9_2) rfl  k) ?_
        show Run p e below s _ _ _ (T246.setTop (mkF m 3 #[.val (.ref a), .val (.int (0 : Int32)), .val (.int (2 : Int32)), .val (.int (1 : Int32)), .val (.int c0)] [(.int (1 : Int32))]))
        refine Run.pre (fun _ k => XS.iloadN X246.here hx rfl (hb hby d9_3) rfl  k) ?_
        show Run p e below s _ _ _ (T246.setTop (mkF m 4 #[.val (.ref a), .val (.int (0 : Int32)), .val (.int (2 : Int32)), .val (.int (1 : Int32)), .val (.int c0)] [(.int (2 : Int32)), (.int (1 : Int32))]))
        refine Run.pre (fun _ k => XS.icmpNo X246.here hx rfl (hb hby d9_4) rfl (tlt ((by decide) : (1 : Int32) < (2 : Int32))).2.1 k) ?_
        show Run p e below s _ _ _ (T246.setTop (mkF m 7 #[.val (.ref a), .val (.int (0 : Int32)), .val (.int (2 : Int32)), .val (.int (1 : Int32)), .val (.int c0)] []))
        refine Run.pre (fun _ k => XS.aloadN X246.here hx rfl (hb hby d9_7) rfl rfl k) ?_
        show Run p e below s _ _ _ (T246.setTop (mkF m 8 #[.val (.ref a), .val (.int (0 : Int32)), .val (.int (2 : Int32)), .val (.int (1 : Int32)), .val (.int c0)] [(.ref a)]))
        refine Run.pre (fun _ k => XS.iloadN X246.here hx rfl (hb hby d9_8) rfl  k) ?_
        show Run p e below s _ _ _ (T246.setTop (mkF m 9 #[.val (.ref a), .val (.int (0 : Int32)), .val (.int (2 : Int32)), .val (.int (1 : Int32)), .val (.int c0)] [(.int (1 : Int32)), (.ref a)]))
        refine Run.callV X246 hx hZ (y := (⟨"java/lang/String", "charAt", "(I)C"⟩ : MethodName)) (z := (⟨"java/lang/String", "charAt", "(I)C"⟩ : MethodName)) hown (hw _ (List.mem_of_getElem? (i := 45) rfl)) (hw _ (List.mem_of_getElem? (i := 46) rfl)) (notFace_of_selects (args := #[]) (mvT hZ (hw _ (List.mem_of_getElem? (i := 48) rfl)))) (hw _ (List.mem_of_getElem? (i := 48) rfl)) (hw _ (List.mem_of_getElem? (i := 47) rfl)) (hw _ (List.mem_of_getElem? (i := 49) rfl)) (hw _ (List.mem_of_getElem? (i := 8) rfl)) (by decide) (b := a) E_a (W := 0) (rmCA_1 l Z a0 hw a b k c0 c1 c2 c3 cs fw h0 n0 (Nat.le_trans Z0 (Keep.refl h0 []).1) OL SC hcs SF hfw SA SH SL E_a FV DQ w0 w1 w2 w3) e246 (by decide) (by decide) (by decide) (by decide) (g := (mkF m 9 #[.val (.ref a), .val (.int (0 : Int32)), .val (.int (2 : Int32)), .val (.int (1 : Int32)), .val (.int c0)] [(.int (1 : Int32)), (.ref a)])) rfl (by rw [hml]; rfl) (argsL := [(.int (1 : Int32))]) (rest := []) (lenOf pd_14 rfl) rfl (by show 2 * 0 + _ ≤ _; exact Nat.le_of_eq rfl) (hb hby d9_9) ?_
        intro v249 T249 L249 X249 hQ249
        obtain ⟨rfl, Nq249, he249⟩ := hQ249
        have N249 := Fr.app N246 Nq249
        have e249 : T249.heap = h0 := he249
        show Run p e below s _ _ _ (T249.setTop (mkF m 12 #[.val (.ref a), .val (.int (0 : Int32)), .val (.int (2 : Int32)), .val (.int (1 : Int32)), .val (.int c0)] [(.int c1)]))
        refine Run.pre (fun _ k => XS.istore X249.here hx rfl (hb hby d9_12) rfl (l' := #[.val (.ref a), .val (.int (0 : Int32)), .val (.int (2 : Int32)), .val (.int (1 : Int32)), .val (.int c1)]) rfl k) ?_
        show Run p e below s _ _ _ (T249.setTop (mkF m 14 #[.val (.ref a), .val (.int (0 : Int32)), .val (.int (2 : Int32)), .val (.int (1 : Int32)), .val (.int c1)] []))
        refine Run.pre (fun _ k => XS.iload X249.here hx rfl (hb hby d9_14) rfl  k) ?_
        show Run p e below s _ _ _ (T249.setTop (mkF m 16 #[.val (.ref a), .val (.int (0 : Int32)), .val (.int (2 : Int32)), .val (.int (1 : Int32)), .val (.int c1)] [(.int c1)]))
        refine Run.pre (fun _ k => XS.bipush X249.here hx rfl (hb hby d9_16) k) ?_
        show Run p e below s _ _ _ (T249.setTop (mkF m 18 #[.val (.ref a), .val (.int (0 : Int32)), .val (.int (2 : Int32)), .val (.int (1 : Int32)), .val (.int c1)] [(.int (48 : Int32)), (.int c1)]))
        by_cases hc250 : c1 < (48 : Int32)
        · skip
          refine Run.pre (fun _ k => XS.icmpYes X249.here hx rfl (pc0 := 18) (pc' := 28) rfl (hb hby d9_18) rfl (tlt (hc250 : c1 < (48 : Int32))).1 (by decide) (by decide) k) ?_
          show Run p e below s _ _ _ (T249.setTop (mkF m 28 #[.val (.ref a), .val (.int (0 : Int32)), .val (.int (2 : Int32)), .val (.int (1 : Int32)), .val (.int c1)] []))
          refine Run.pre (fun _ k => XS.iconst X249.here hx rfl (hb hby d9_28) k) ?_
          show Run p e below s _ _ _ (T249.setTop (mkF m 29 #[.val (.ref a), .val (.int (0 : Int32)), .val (.int (2 : Int32)), .val (.int (1 : Int32)), .val (.int c1)] [(.int (0 : Int32))]))
          exact Run.retN X249 hx hret (t := .boolean) (by simp) hlk (hb hby d9_29) (by first | (rw [e249]; exact ⟨by simp [own_en, own_e1, own_bad, own_dg, nar, hc247, hc248, hc250], N249, rfl⟩) | exact ⟨by simp [own_en, own_e1, own_bad, own_dg, nar, hc247, hc248, hc250], N249, rfl⟩) (by decide) (by decide)
        · skip
          refine Run.pre (fun _ k => XS.icmpNo X249.here hx rfl (hb hby d9_18) rfl (flt (hc250 : ¬ (c1 < (48 : Int32)))).1 k) ?_
          show Run p e below s _ _ _ (T249.setTop (mkF m 21 #[.val (.ref a), .val (.int (0 : Int32)), .val (.int (2 : Int32)), .val (.int (1 : Int32)), .val (.int c1)] []))
          refine Run.pre (fun _ k => XS.iload X249.here hx rfl (hb hby d9_21) rfl  k) ?_
          show Run p e below s _ _ _ (T249.setTop (mkF m 23 #[.val (.ref a), .val (.int (0 : Int32)), .val (.int (2 : Int32)), .val (.int (1 : Int32)), .val (.int c1)] [(.int c1)]))
          refine Run.pre (fun _ k => XS.bipush X249.here hx rfl (hb hby d9_23) k) ?_
          show Run p e below s _ _ _ (T249.setTop (mkF m 25 #[.val (.ref a), .val (.int (0 : Int32)), .val (.int (2 : Int32)), .val (.int (1 : Int32)), .val (.int c1)] [(.int (57 : Int32)), (.int c1)]))
          by_cases hc251 : (57 : Int32) < c1
          · skip
            refine Run.pre (fun _ k => XS.icmpNo X249.here hx rfl (hb hby d9_25) rfl (tlt (hc251 : (57 : Int32) < c1)).2.2.2 k) ?_
            show Run p e below s _ _ _ (T249.setTop (mkF m 28 #[.val (.ref a), .val (.int (0 : Int32)), .val (.int (2 : Int32)), .val (.int (1 : Int32)), .val (.int c1)] []))
            refine Run.pre (fun _ k => XS.iconst X249.here hx rfl (hb hby d9_28) k) ?_
            show Run p e below s _ _ _ (T249.setTop (mkF m 29 #[.val (.ref a), .val (.int (0 : Int32)), .val (.int (2 : Int32)), .val (.int (1 : Int32)), .val (.int c1)] [(.int (0 : Int32))]))
            exact Run.retN X249 hx hret (t := .boolean) (by simp) hlk (hb hby d9_29) (by first | (rw [e249]; exact ⟨by simp [own_en, own_e1, own_bad, own_dg, nar, hc247, hc248, hc250, hc251], N249, rfl⟩) | exact ⟨by simp [own_en, own_e1, own_bad, own_dg, nar, hc247, hc248, hc250, hc251], N249, rfl⟩) (by decide) (by decide)
          · skip
            refine Run.pre (fun _ k => XS.icmpYes X249.here hx rfl (pc0 := 25) (pc' := 30) rfl (hb hby d9_25) rfl (flt (hc251 : ¬ ((57 : Int32) < c1))).2.2.2 (by decide) (by decide) k) ?_
            show Run p e below s _ _ _ (T249.setTop (mkF m 30 #[.val (.ref a), .val (.int (0 : Int32)), .val (.int (2 : Int32)), .val (.int (1 : Int32)), .val (.int c1)] []))
            refine Run.pre (fun _ k => XS.iinc X249.here hx rfl (hb hby d9_30) rfl (l' := #[.val (.ref a), .val (.int (0 : Int32)), .val (.int (2 : Int32)), .val (.int (2 : Int32)), .val (.int c1)]) rfl k) ?_
            show Run p e below s _ _ _ (T249.setTop (mkF m 33 #[.val (.ref a), .val (.int (0 : Int32)), .val (.int (2 : Int32)), .val (.int (2 : Int32)), .val (.int c1)] []))
            refine Run.pre (fun _ k => XS.goto X249.here hx rfl (pc0 := 33) (pc' := 2) rfl (hb hby d9_33) (by decide) (by decide) k) ?_
            show Run p e below s _ _ _ (T249.setTop (mkF m 2 #[.val (.ref a), .val (.int (0 : Int32)), .val (.int (2 : Int32)), .val (.int (2 : Int32)), .val (.int c1)] []))
            refine Run.pre (fun _ k => XS.iloadN X249.here hx rfl (hb hby d9_2) rfl  k) ?_
            show Run p e below s _ _ _ (T249.setTop (mkF m 3 #[.val (.ref a), .val (.int (0 : Int32)), .val (.int (2 : Int32)), .val (.int (2 : Int32)), .val (.int c1)] [(.int (2 : Int32))]))
            refine Run.pre (fun _ k => XS.iloadN X249.here hx rfl (hb hby d9_3) rfl  k) ?_
            show Run p e below s _ _ _ (T249.setTop (mkF m 4 #[.val (.ref a), .val (.int (0 : Int32)), .val (.int (2 : Int32)), .val (.int (2 : Int32)), .val (.int c1)] [(.int (2 : Int32)), (.int (2 : Int32))]))
            refine Run.pre (fun _ k => XS.icmpYes X249.here hx rfl (pc0 := 4) (pc' := 36) rfl (hb hby d9_4) rfl (flt ((by decide) : ¬ ((2 : Int32) < (2 : Int32)))).2.1 (by decide) (by decide) k) ?_
            show Run p e below s _ _ _ (T249.setTop (mkF m 36 #[.val (.ref a), .val (.int (0 : Int32)), .val (.int (2 : Int32)), .val (.int (2 : Int32)), .val (.int c1)] []))
            refine Run.pre (fun _ k => XS.iconst X249.here hx rfl (hb hby d9_36) k) ?_
            show Run p e below s _ _ _ (T249.setTop (mkF m 37 #[.val (.ref a), .val (.int (0 : Int32)), .val (.int (2 : Int32)), .val (.int (2 : Int32)), .val (.int c1)] [(.int (1 : Int32))]))
            exact Run.retN X249 hx hret (t := .boolean) (by simp) hlk (hb hby d9_37) (by first | (rw [e249]; exact ⟨by simp [own_en, own_e1, own_bad, own_dg, nar, hc247, hc248, hc250, hc251], N249, rfl⟩) | exact ⟨by simp [own_en, own_e1, own_bad, own_dg, nar, hc247, hc248, hc250, hc251], N249, rfl⟩) (by decide) (by decide)
  · skip
    show Run p e below s _ _ _ (s₁.setTop (mkF m 0 #[.val (.ref a), .val (.int (0 : Int32)), .val (.int (3 : Int32)), .unset, .unset] []))
    refine Run.pre (fun _ k => XS.iloadN X0.here hx rfl (hb hby d9_0) rfl  k) ?_
    show Run p e below s _ _ _ (s₁.setTop (mkF m 1 #[.val (.ref a), .val (.int (0 : Int32)), .val (.int (3 : Int32)), .unset, .unset] [(.int (0 : Int32))]))
    refine Run.pre (fun _ k => XS.istoreN X0.here hx rfl (hb hby d9_1) rfl (l' := #[.val (.ref a), .val (.int (0 : Int32)), .val (.int (3 : Int32)), .val (.int (0 : Int32)), .unset]) rfl k) ?_
    show Run p e below s _ _ _ (s₁.setTop (mkF m 2 #[.val (.ref a), .val (.int (0 : Int32)), .val (.int (3 : Int32)), .val (.int (0 : Int32)), .unset] []))
    refine Run.pre (fun _ k => XS.iloadN X0.here hx rfl (hb hby d9_2) rfl  k) ?_
    show Run p e below s _ _ _ (s₁.setTop (mkF m 3 #[.val (.ref a), .val (.int (0 : Int32)), .val (.int (3 : Int32)), .val (.int (0 : Int32)), .unset] [(.int (0 : Int32))]))
    refine Run.pre (fun _ k => XS.iloadN X0.here hx rfl (hb hby d9_3) rfl  k) ?_
    show Run p e below s _ _ _ (s₁.setTop (mkF m 4 #[.val (.ref a), .val (.int (0 : Int32)), .val (.int (3 : Int32)), .val (.int (0 : Int32)), .unset] [(.int (3 : Int32)), (.int (0 : Int32))]))
    refine Run.pre (fun _ k => XS.icmpNo X0.here hx rfl (hb hby d9_4) rfl (tlt ((by decide) : (0 : Int32) < (3 : Int32))).2.1 k) ?_
    show Run p e below s _ _ _ (s₁.setTop (mkF m 7 #[.val (.ref a), .val (.int (0 : Int32)), .val (.int (3 : Int32)), .val (.int (0 : Int32)), .unset] []))
    refine Run.pre (fun _ k => XS.aloadN X0.here hx rfl (hb hby d9_7) rfl rfl k) ?_
    show Run p e below s _ _ _ (s₁.setTop (mkF m 8 #[.val (.ref a), .val (.int (0 : Int32)), .val (.int (3 : Int32)), .val (.int (0 : Int32)), .unset] [(.ref a)]))
    refine Run.pre (fun _ k => XS.iloadN X0.here hx rfl (hb hby d9_8) rfl  k) ?_
    show Run p e below s _ _ _ (s₁.setTop (mkF m 9 #[.val (.ref a), .val (.int (0 : Int32)), .val (.int (3 : Int32)), .val (.int (0 : Int32)), .unset] [(.int (0 : Int32)), (.ref a)]))
    refine Run.callV X0 hx hZ (y := (⟨"java/lang/String", "charAt", "(I)C"⟩ : MethodName)) (z := (⟨"java/lang/String", "charAt", "(I)C"⟩ : MethodName)) hown (hw _ (List.mem_of_getElem? (i := 45) rfl)) (hw _ (List.mem_of_getElem? (i := 46) rfl)) (notFace_of_selects (args := #[]) (mvT hZ (hw _ (List.mem_of_getElem? (i := 48) rfl)))) (hw _ (List.mem_of_getElem? (i := 48) rfl)) (hw _ (List.mem_of_getElem? (i := 47) rfl)) (hw _ (List.mem_of_getElem? (i := 49) rfl)) (hw _ (List.mem_of_getElem? (i := 8) rfl)) (by decide) (b := a) E_a (W := 0) (rmCA_0 l Z a0 hw a b k c0 c1 c2 c3 cs fw h0 n0 (Nat.le_trans Z0 (Keep.refl h0 []).1) OL SC hcs SF hfw SA SH SL E_a FV DQ w0 w1 w2 w3) e0 (by decide) (by decide) (by decide) (by decide) (g := (mkF m 9 #[.val (.ref a), .val (.int (0 : Int32)), .val (.int (3 : Int32)), .val (.int (0 : Int32)), .unset] [(.int (0 : Int32)), (.ref a)])) rfl (by rw [hml]; rfl) (argsL := [(.int (0 : Int32))]) (rest := []) (lenOf pd_14 rfl) rfl (by show 2 * 0 + _ ≤ _; exact Nat.le_of_eq rfl) (hb hby d9_9) ?_
    intro v252 T252 L252 X252 hQ252
    obtain ⟨rfl, Nq252, he252⟩ := hQ252
    have N252 := Fr.app N0 Nq252
    have e252 : T252.heap = h0 := he252
    show Run p e below s _ _ _ (T252.setTop (mkF m 12 #[.val (.ref a), .val (.int (0 : Int32)), .val (.int (3 : Int32)), .val (.int (0 : Int32)), .unset] [(.int c0)]))
    refine Run.pre (fun _ k => XS.istore X252.here hx rfl (hb hby d9_12) rfl (l' := #[.val (.ref a), .val (.int (0 : Int32)), .val (.int (3 : Int32)), .val (.int (0 : Int32)), .val (.int c0)]) rfl k) ?_
    show Run p e below s _ _ _ (T252.setTop (mkF m 14 #[.val (.ref a), .val (.int (0 : Int32)), .val (.int (3 : Int32)), .val (.int (0 : Int32)), .val (.int c0)] []))
    refine Run.pre (fun _ k => XS.iload X252.here hx rfl (hb hby d9_14) rfl  k) ?_
    show Run p e below s _ _ _ (T252.setTop (mkF m 16 #[.val (.ref a), .val (.int (0 : Int32)), .val (.int (3 : Int32)), .val (.int (0 : Int32)), .val (.int c0)] [(.int c0)]))
    refine Run.pre (fun _ k => XS.bipush X252.here hx rfl (hb hby d9_16) k) ?_
    show Run p e below s _ _ _ (T252.setTop (mkF m 18 #[.val (.ref a), .val (.int (0 : Int32)), .val (.int (3 : Int32)), .val (.int (0 : Int32)), .val (.int c0)] [(.int (48 : Int32)), (.int c0)]))
    by_cases hc253 : c0 < (48 : Int32)
    · skip
      refine Run.pre (fun _ k => XS.icmpYes X252.here hx rfl (pc0 := 18) (pc' := 28) rfl (hb hby d9_18) rfl (tlt (hc253 : c0 < (48 : Int32))).1 (by decide) (by decide) k) ?_
      show Run p e below s _ _ _ (T252.setTop (mkF m 28 #[.val (.ref a), .val (.int (0 : Int32)), .val (.int (3 : Int32)), .val (.int (0 : Int32)), .val (.int c0)] []))
      refine Run.pre (fun _ k => XS.iconst X252.here hx rfl (hb hby d9_28) k) ?_
      show Run p e below s _ _ _ (T252.setTop (mkF m 29 #[.val (.ref a), .val (.int (0 : Int32)), .val (.int (3 : Int32)), .val (.int (0 : Int32)), .val (.int c0)] [(.int (0 : Int32))]))
      exact Run.retN X252 hx hret (t := .boolean) (by simp) hlk (hb hby d9_29) (by first | (rw [e252]; exact ⟨by simp [own_en, own_e1, own_bad, own_dg, nar, hc253], N252, rfl⟩) | exact ⟨by simp [own_en, own_e1, own_bad, own_dg, nar, hc253], N252, rfl⟩) (by decide) (by decide)
    · skip
      refine Run.pre (fun _ k => XS.icmpNo X252.here hx rfl (hb hby d9_18) rfl (flt (hc253 : ¬ (c0 < (48 : Int32)))).1 k) ?_
      show Run p e below s _ _ _ (T252.setTop (mkF m 21 #[.val (.ref a), .val (.int (0 : Int32)), .val (.int (3 : Int32)), .val (.int (0 : Int32)), .val (.int c0)] []))
      refine Run.pre (fun _ k => XS.iload X252.here hx rfl (hb hby d9_21) rfl  k) ?_
      show Run p e below s _ _ _ (T252.setTop (mkF m 23 #[.val (.ref a), .val (.int (0 : Int32)), .val (.int (3 : Int32)), .val (.int (0 : Int32)), .val (.int c0)] [(.int c0)]))
      refine Run.pre (fun _ k => XS.bipush X252.here hx rfl (hb hby d9_23) k) ?_
      show Run p e below s _ _ _ (T252.setTop (mkF m 25 #[.val (.ref a), .val (.int (0 : Int32)), .val (.int (3 : Int32)), .val (.int (0 : Int32)), .val (.int c0)] [(.int (57 : Int32)), (.int c0)]))
      by_cases hc254 : (57 : Int32) < c0
      · skip
        refine Run.pre (fun _ k => XS.icmpNo X252.here hx rfl (hb hby d9_25) rfl (tlt (hc254 : (57 : Int32) < c0)).2.2.2 k) ?_
        show Run p e below s _ _ _ (T252.setTop (mkF m 28 #[.val (.ref a), .val (.int (0 : Int32)), .val (.int (3 : Int32)), .val (.int (0 : Int32)), .val (.int c0)] []))
        refine Run.pre (fun _ k => XS.iconst X252.here hx rfl (hb hby d9_28) k) ?_
        show Run p e below s _ _ _ (T252.setTop (mkF m 29 #[.val (.ref a), .val (.int (0 : Int32)), .val (.int (3 : Int32)), .val (.int (0 : Int32)), .val (.int c0)] [(.int (0 : Int32))]))
        exact Run.retN X252 hx hret (t := .boolean) (by simp) hlk (hb hby d9_29) (by first | (rw [e252]; exact ⟨by simp [own_en, own_e1, own_bad, own_dg, nar, hc253, hc254], N252, rfl⟩) | exact ⟨by simp [own_en, own_e1, own_bad, own_dg, nar, hc253, hc254], N252, rfl⟩) (by decide) (by decide)
      · skip
        refine Run.pre (fun _ k => XS.icmpYes X252.here hx rfl (pc0 := 25) (pc' := 30) rfl (hb hby d9_25) rfl (flt (hc254 : ¬ ((57 : Int32) < c0))).2.2.2 (by decide) (by decide) k) ?_
        show Run p e below s _ _ _ (T252.setTop (mkF m 30 #[.val (.ref a), .val (.int (0 : Int32)), .val (.int (3 : Int32)), .val (.int (0 : Int32)), .val (.int c0)] []))
        refine Run.pre (fun _ k => XS.iinc X252.here hx rfl (hb hby d9_30) rfl (l' := #[.val (.ref a), .val (.int (0 : Int32)), .val (.int (3 : Int32)), .val (.int (1 : Int32)), .val (.int c0)]) rfl k) ?_
        show Run p e below s _ _ _ (T252.setTop (mkF m 33 #[.val (.ref a), .val (.int (0 : Int32)), .val (.int (3 : Int32)), .val (.int (1 : Int32)), .val (.int c0)] []))
        refine Run.pre (fun _ k => XS.goto X252.here hx rfl (pc0 := 33) (pc' := 2) rfl (hb hby d9_33) (by decide) (by decide) k) ?_
        show Run p e below s _ _ _ (T252.setTop (mkF m 2 #[.val (.ref a), .val (.int (0 : Int32)), .val (.int (3 : Int32)), .val (.int (1 : Int32)), .val (.int c0)] []))
        refine Run.pre (fun _ k => XS.iloadN X252.here hx rfl (hb hby d9_2) rfl  k) ?_
        show Run p e below s _ _ _ (T252.setTop (mkF m 3 #[.val (.ref a), .val (.int (0 : Int32)), .val (.int (3 : Int32)), .val (.int (1 : Int32)), .val (.int c0)] [(.int (1 : Int32))]))
        refine Run.pre (fun _ k => XS.iloadN X252.here hx rfl (hb hby d9_3) rfl  k) ?_
        show Run p e below s _ _ _ (T252.setTop (mkF m 4 #[.val (.ref a), .val (.int (0 : Int32)), .val (.int (3 : Int32)), .val (.int (1 : Int32)), .val (.int c0)] [(.int (3 : Int32)), (.int (1 : Int32))]))
        refine Run.pre (fun _ k => XS.icmpNo X252.here hx rfl (hb hby d9_4) rfl (tlt ((by decide) : (1 : Int32) < (3 : Int32))).2.1 k) ?_
        show Run p e below s _ _ _ (T252.setTop (mkF m 7 #[.val (.ref a), .val (.int (0 : Int32)), .val (.int (3 : Int32)), .val (.int (1 : Int32)), .val (.int c0)] []))
        refine Run.pre (fun _ k => XS.aloadN X252.here hx rfl (hb hby d9_7) rfl rfl k) ?_
        show Run p e below s _ _ _ (T252.setTop (mkF m 8 #[.val (.ref a), .val (.int (0 : Int32)), .val (.int (3 : Int32)), .val (.int (1 : Int32)), .val (.int c0)] [(.ref a)]))
        refine Run.pre (fun _ k => XS.iloadN X252.here hx rfl (hb hby d9_8) rfl  k) ?_
        show Run p e below s _ _ _ (T252.setTop (mkF m 9 #[.val (.ref a), .val (.int (0 : Int32)), .val (.int (3 : Int32)), .val (.int (1 : Int32)), .val (.int c0)] [(.int (1 : Int32)), (.ref a)]))
        refine Run.callV X252 hx hZ (y := (⟨"java/lang/String", "charAt", "(I)C"⟩ : MethodName)) (z := (⟨"java/lang/String", "charAt", "(I)C"⟩ : MethodName)) hown (hw _ (List.mem_of_getElem? (i := 45) rfl)) (hw _ (List.mem_of_getElem? (i := 46) rfl)) (notFace_of_selects (args := #[]) (mvT hZ (hw _ (List.mem_of_getElem? (i := 48) rfl)))) (hw _ (List.mem_of_getElem? (i := 48) rfl)) (hw _ (List.mem_of_getElem? (i := 47) rfl)) (hw _ (List.mem_of_getElem? (i := 49) rfl)) (hw _ (List.mem_of_getElem? (i := 8) rfl)) (by decide) (b := a) E_a (W := 0) (rmCA_1 l Z a0 hw a b k c0 c1 c2 c3 cs fw h0 n0 (Nat.le_trans Z0 (Keep.refl h0 []).1) OL SC hcs SF hfw SA SH SL E_a FV DQ w0 w1 w2 w3) e252 (by decide) (by decide) (by decide) (by decide) (g := (mkF m 9 #[.val (.ref a), .val (.int (0 : Int32)), .val (.int (3 : Int32)), .val (.int (1 : Int32)), .val (.int c0)] [(.int (1 : Int32)), (.ref a)])) rfl (by rw [hml]; rfl) (argsL := [(.int (1 : Int32))]) (rest := []) (lenOf pd_14 rfl) rfl (by show 2 * 0 + _ ≤ _; exact Nat.le_of_eq rfl) (hb hby d9_9) ?_
        intro v255 T255 L255 X255 hQ255
        obtain ⟨rfl, Nq255, he255⟩ := hQ255
        have N255 := Fr.app N252 Nq255
        have e255 : T255.heap = h0 := he255
        show Run p e below s _ _ _ (T255.setTop (mkF m 12 #[.val (.ref a), .val (.int (0 : Int32)), .val (.int (3 : Int32)), .val (.int (1 : Int32)), .val (.int c0)] [(.int c1)]))
        refine Run.pre (fun _ k => XS.istore X255.here hx rfl (hb hby d9_12) rfl (l' := #[.val (.ref a), .val (.int (0 : Int32)), .val (.int (3 : Int32)), .val (.int (1 : Int32)), .val (.int c1)]) rfl k) ?_
        show Run p e below s _ _ _ (T255.setTop (mkF m 14 #[.val (.ref a), .val (.int (0 : Int32)), .val (.int (3 : Int32)), .val (.int (1 : Int32)), .val (.int c1)] []))
        refine Run.pre (fun _ k => XS.iload X255.here hx rfl (hb hby d9_14) rfl  k) ?_
        show Run p e below s _ _ _ (T255.setTop (mkF m 16 #[.val (.ref a), .val (.int (0 : Int32)), .val (.int (3 : Int32)), .val (.int (1 : Int32)), .val (.int c1)] [(.int c1)]))
        refine Run.pre (fun _ k => XS.bipush X255.here hx rfl (hb hby d9_16) k) ?_
        show Run p e below s _ _ _ (T255.setTop (mkF m 18 #[.val (.ref a), .val (.int (0 : Int32)), .val (.int (3 : Int32)), .val (.int (1 : Int32)), .val (.int c1)] [(.int (48 : Int32)), (.int c1)]))
        by_cases hc256 : c1 < (48 : Int32)
        · skip
          refine Run.pre (fun _ k => XS.icmpYes X255.here hx rfl (pc0 := 18) (pc' := 28) rfl (hb hby d9_18) rfl (tlt (hc256 : c1 < (48 : Int32))).1 (by decide) (by decide) k) ?_
          show Run p e below s _ _ _ (T255.setTop (mkF m 28 #[.val (.ref a), .val (.int (0 : Int32)), .val (.int (3 : Int32)), .val (.int (1 : Int32)), .val (.int c1)] []))
          refine Run.pre (fun _ k => XS.iconst X255.here hx rfl (hb hby d9_28) k) ?_
          show Run p e below s _ _ _ (T255.setTop (mkF m 29 #[.val (.ref a), .val (.int (0 : Int32)), .val (.int (3 : Int32)), .val (.int (1 : Int32)), .val (.int c1)] [(.int (0 : Int32))]))
          exact Run.retN X255 hx hret (t := .boolean) (by simp) hlk (hb hby d9_29) (by first | (rw [e255]; exact ⟨by simp [own_en, own_e1, own_bad, own_dg, nar, hc253, hc254, hc256], N255, rfl⟩) | exact ⟨by simp [own_en, own_e1, own_bad, own_dg, nar, hc253, hc254, hc256], N255, rfl⟩) (by decide) (by decide)
        · skip
          refine Run.pre (fun _ k => XS.icmpNo X255.here hx rfl (hb hby d9_18) rfl (flt (hc256 : ¬ (c1 < (48 : Int32)))).1 k) ?_
          show Run p e below s _ _ _ (T255.setTop (mkF m 21 #[.val (.ref a), .val (.int (0 : Int32)), .val (.int (3 : Int32)), .val (.int (1 : Int32)), .val (.int c1)] []))
          refine Run.pre (fun _ k => XS.iload X255.here hx rfl (hb hby d9_21) rfl  k) ?_
          show Run p e below s _ _ _ (T255.setTop (mkF m 23 #[.val (.ref a), .val (.int (0 : Int32)), .val (.int (3 : Int32)), .val (.int (1 : Int32)), .val (.int c1)] [(.int c1)]))
          refine Run.pre (fun _ k => XS.bipush X255.here hx rfl (hb hby d9_23) k) ?_
          show Run p e below s _ _ _ (T255.setTop (mkF m 25 #[.val (.ref a), .val (.int (0 : Int32)), .val (.int (3 : Int32)), .val (.int (1 : Int32)), .val (.int c1)] [(.int (57 : Int32)), (.int c1)]))
          by_cases hc257 : (57 : Int32) < c1
          · skip
            refine Run.pre (fun _ k => XS.icmpNo X255.here hx rfl (hb hby d9_25) rfl (tlt (hc257 : (57 : Int32) < c1)).2.2.2 k) ?_
            show Run p e below s _ _ _ (T255.setTop (mkF m 28 #[.val (.ref a), .val (.int (0 : Int32)), .val (.int (3 : Int32)), .val (.int (1 : Int32)), .val (.int c1)] []))
            refine Run.pre (fun _ k => XS.iconst X255.here hx rfl (hb hby d9_28) k) ?_
            show Run p e below s _ _ _ (T255.setTop (mkF m 29 #[.val (.ref a), .val (.int (0 : Int32)), .val (.int (3 : Int32)), .val (.int (1 : Int32)), .val (.int c1)] [(.int (0 : Int32))]))
            exact Run.retN X255 hx hret (t := .boolean) (by simp) hlk (hb hby d9_29) (by first | (rw [e255]; exact ⟨by simp [own_en, own_e1, own_bad, own_dg, nar, hc253, hc254, hc256, hc257], N255, rfl⟩) | exact ⟨by simp [own_en, own_e1, own_bad, own_dg, nar, hc253, hc254, hc256, hc257], N255, rfl⟩) (by decide) (by decide)
          · skip
            refine Run.pre (fun _ k => XS.icmpYes X255.here hx rfl (pc0 := 25) (pc' := 30) rfl (hb hby d9_25) rfl (flt (hc257 : ¬ ((57 : Int32) < c1))).2.2.2 (by decide) (by decide) k) ?_
            show Run p e below s _ _ _ (T255.setTop (mkF m 30 #[.val (.ref a), .val (.int (0 : Int32)), .val (.int (3 : Int32)), .val (.int (1 : Int32)), .val (.int c1)] []))
            refine Run.pre (fun _ k => XS.iinc X255.here hx rfl (hb hby d9_30) rfl (l' := #[.val (.ref a), .val (.int (0 : Int32)), .val (.int (3 : Int32)), .val (.int (2 : Int32)), .val (.int c1)]) rfl k) ?_
            show Run p e below s _ _ _ (T255.setTop (mkF m 33 #[.val (.ref a), .val (.int (0 : Int32)), .val (.int (3 : Int32)), .val (.int (2 : Int32)), .val (.int c1)] []))
            refine Run.pre (fun _ k => XS.goto X255.here hx rfl (pc0 := 33) (pc' := 2) rfl (hb hby d9_33) (by decide) (by decide) k) ?_
            show Run p e below s _ _ _ (T255.setTop (mkF m 2 #[.val (.ref a), .val (.int (0 : Int32)), .val (.int (3 : Int32)), .val (.int (2 : Int32)), .val (.int c1)] []))
            refine Run.pre (fun _ k => XS.iloadN X255.here hx rfl (hb hby d9_2) rfl  k) ?_
            show Run p e below s _ _ _ (T255.setTop (mkF m 3 #[.val (.ref a), .val (.int (0 : Int32)), .val (.int (3 : Int32)), .val (.int (2 : Int32)), .val (.int c1)] [(.int (2 : Int32))]))
            refine Run.pre (fun _ k => XS.iloadN X255.here hx rfl (hb hby d9_3) rfl  k) ?_
            show Run p e below s _ _ _ (T255.setTop (mkF m 4 #[.val (.ref a), .val (.int (0 : Int32)), .val (.int (3 : Int32)), .val (.int (2 : Int32)), .val (.int c1)] [(.int (3 : Int32)), (.int (2 : Int32))]))
            refine Run.pre (fun _ k => XS.icmpNo X255.here hx rfl (hb hby d9_4) rfl (tlt ((by decide) : (2 : Int32) < (3 : Int32))).2.1 k) ?_
            show Run p e below s _ _ _ (T255.setTop (mkF m 7 #[.val (.ref a), .val (.int (0 : Int32)), .val (.int (3 : Int32)), .val (.int (2 : Int32)), .val (.int c1)] []))
            refine Run.pre (fun _ k => XS.aloadN X255.here hx rfl (hb hby d9_7) rfl rfl k) ?_
            show Run p e below s _ _ _ (T255.setTop (mkF m 8 #[.val (.ref a), .val (.int (0 : Int32)), .val (.int (3 : Int32)), .val (.int (2 : Int32)), .val (.int c1)] [(.ref a)]))
            refine Run.pre (fun _ k => XS.iloadN X255.here hx rfl (hb hby d9_8) rfl  k) ?_
            show Run p e below s _ _ _ (T255.setTop (mkF m 9 #[.val (.ref a), .val (.int (0 : Int32)), .val (.int (3 : Int32)), .val (.int (2 : Int32)), .val (.int c1)] [(.int (2 : Int32)), (.ref a)]))
            refine Run.callV X255 hx hZ (y := (⟨"java/lang/String", "charAt", "(I)C"⟩ : MethodName)) (z := (⟨"java/lang/String", "charAt", "(I)C"⟩ : MethodName)) hown (hw _ (List.mem_of_getElem? (i := 45) rfl)) (hw _ (List.mem_of_getElem? (i := 46) rfl)) (notFace_of_selects (args := #[]) (mvT hZ (hw _ (List.mem_of_getElem? (i := 48) rfl)))) (hw _ (List.mem_of_getElem? (i := 48) rfl)) (hw _ (List.mem_of_getElem? (i := 47) rfl)) (hw _ (List.mem_of_getElem? (i := 49) rfl)) (hw _ (List.mem_of_getElem? (i := 8) rfl)) (by decide) (b := a) E_a (W := 0) (rmCA_2 l Z a0 hw a b k c0 c1 c2 c3 cs fw h0 n0 (Nat.le_trans Z0 (Keep.refl h0 []).1) OL SC hcs SF hfw SA SH SL E_a FV DQ w0 w1 w2 w3) e255 (by decide) (by decide) (by decide) (by decide) (g := (mkF m 9 #[.val (.ref a), .val (.int (0 : Int32)), .val (.int (3 : Int32)), .val (.int (2 : Int32)), .val (.int c1)] [(.int (2 : Int32)), (.ref a)])) rfl (by rw [hml]; rfl) (argsL := [(.int (2 : Int32))]) (rest := []) (lenOf pd_14 rfl) rfl (by show 2 * 0 + _ ≤ _; exact Nat.le_of_eq rfl) (hb hby d9_9) ?_
            intro v258 T258 L258 X258 hQ258
            obtain ⟨rfl, Nq258, he258⟩ := hQ258
            have N258 := Fr.app N255 Nq258
            have e258 : T258.heap = h0 := he258
            show Run p e below s _ _ _ (T258.setTop (mkF m 12 #[.val (.ref a), .val (.int (0 : Int32)), .val (.int (3 : Int32)), .val (.int (2 : Int32)), .val (.int c1)] [(.int c2)]))
            refine Run.pre (fun _ k => XS.istore X258.here hx rfl (hb hby d9_12) rfl (l' := #[.val (.ref a), .val (.int (0 : Int32)), .val (.int (3 : Int32)), .val (.int (2 : Int32)), .val (.int c2)]) rfl k) ?_
            show Run p e below s _ _ _ (T258.setTop (mkF m 14 #[.val (.ref a), .val (.int (0 : Int32)), .val (.int (3 : Int32)), .val (.int (2 : Int32)), .val (.int c2)] []))
            refine Run.pre (fun _ k => XS.iload X258.here hx rfl (hb hby d9_14) rfl  k) ?_
            show Run p e below s _ _ _ (T258.setTop (mkF m 16 #[.val (.ref a), .val (.int (0 : Int32)), .val (.int (3 : Int32)), .val (.int (2 : Int32)), .val (.int c2)] [(.int c2)]))
            refine Run.pre (fun _ k => XS.bipush X258.here hx rfl (hb hby d9_16) k) ?_
            show Run p e below s _ _ _ (T258.setTop (mkF m 18 #[.val (.ref a), .val (.int (0 : Int32)), .val (.int (3 : Int32)), .val (.int (2 : Int32)), .val (.int c2)] [(.int (48 : Int32)), (.int c2)]))
            by_cases hc259 : c2 < (48 : Int32)
            · skip
              refine Run.pre (fun _ k => XS.icmpYes X258.here hx rfl (pc0 := 18) (pc' := 28) rfl (hb hby d9_18) rfl (tlt (hc259 : c2 < (48 : Int32))).1 (by decide) (by decide) k) ?_
              show Run p e below s _ _ _ (T258.setTop (mkF m 28 #[.val (.ref a), .val (.int (0 : Int32)), .val (.int (3 : Int32)), .val (.int (2 : Int32)), .val (.int c2)] []))
              refine Run.pre (fun _ k => XS.iconst X258.here hx rfl (hb hby d9_28) k) ?_
              show Run p e below s _ _ _ (T258.setTop (mkF m 29 #[.val (.ref a), .val (.int (0 : Int32)), .val (.int (3 : Int32)), .val (.int (2 : Int32)), .val (.int c2)] [(.int (0 : Int32))]))
              exact Run.retN X258 hx hret (t := .boolean) (by simp) hlk (hb hby d9_29) (by first | (rw [e258]; exact ⟨by simp [own_en, own_e1, own_bad, own_dg, nar, hc253, hc254, hc256, hc257, hc259], N258, rfl⟩) | exact ⟨by simp [own_en, own_e1, own_bad, own_dg, nar, hc253, hc254, hc256, hc257, hc259], N258, rfl⟩) (by decide) (by decide)
            · skip
              refine Run.pre (fun _ k => XS.icmpNo X258.here hx rfl (hb hby d9_18) rfl (flt (hc259 : ¬ (c2 < (48 : Int32)))).1 k) ?_
              show Run p e below s _ _ _ (T258.setTop (mkF m 21 #[.val (.ref a), .val (.int (0 : Int32)), .val (.int (3 : Int32)), .val (.int (2 : Int32)), .val (.int c2)] []))
              refine Run.pre (fun _ k => XS.iload X258.here hx rfl (hb hby d9_21) rfl  k) ?_
              show Run p e below s _ _ _ (T258.setTop (mkF m 23 #[.val (.ref a), .val (.int (0 : Int32)), .val (.int (3 : Int32)), .val (.int (2 : Int32)), .val (.int c2)] [(.int c2)]))
              refine Run.pre (fun _ k => XS.bipush X258.here hx rfl (hb hby d9_23) k) ?_
              show Run p e below s _ _ _ (T258.setTop (mkF m 25 #[.val (.ref a), .val (.int (0 : Int32)), .val (.int (3 : Int32)), .val (.int (2 : Int32)), .val (.int c2)] [(.int (57 : Int32)), (.int c2)]))
              by_cases hc260 : (57 : Int32) < c2
              · skip
                refine Run.pre (fun _ k => XS.icmpNo X258.here hx rfl (hb hby d9_25) rfl (tlt (hc260 : (57 : Int32) < c2)).2.2.2 k) ?_
                show Run p e below s _ _ _ (T258.setTop (mkF m 28 #[.val (.ref a), .val (.int (0 : Int32)), .val (.int (3 : Int32)), .val (.int (2 : Int32)), .val (.int c2)] []))
                refine Run.pre (fun _ k => XS.iconst X258.here hx rfl (hb hby d9_28) k) ?_
                show Run p e below s _ _ _ (T258.setTop (mkF m 29 #[.val (.ref a), .val (.int (0 : Int32)), .val (.int (3 : Int32)), .val (.int (2 : Int32)), .val (.int c2)] [(.int (0 : Int32))]))
                exact Run.retN X258 hx hret (t := .boolean) (by simp) hlk (hb hby d9_29) (by first | (rw [e258]; exact ⟨by simp [own_en, own_e1, own_bad, own_dg, nar, hc253, hc254, hc256, hc257, hc259, hc260], N258, rfl⟩) | exact ⟨by simp [own_en, own_e1, own_bad, own_dg, nar, hc253, hc254, hc256, hc257, hc259, hc260], N258, rfl⟩) (by decide) (by decide)
              · skip
                refine Run.pre (fun _ k => XS.icmpYes X258.here hx rfl (pc0 := 25) (pc' := 30) rfl (hb hby d9_25) rfl (flt (hc260 : ¬ ((57 : Int32) < c2))).2.2.2 (by decide) (by decide) k) ?_
                show Run p e below s _ _ _ (T258.setTop (mkF m 30 #[.val (.ref a), .val (.int (0 : Int32)), .val (.int (3 : Int32)), .val (.int (2 : Int32)), .val (.int c2)] []))
                refine Run.pre (fun _ k => XS.iinc X258.here hx rfl (hb hby d9_30) rfl (l' := #[.val (.ref a), .val (.int (0 : Int32)), .val (.int (3 : Int32)), .val (.int (3 : Int32)), .val (.int c2)]) rfl k) ?_
                show Run p e below s _ _ _ (T258.setTop (mkF m 33 #[.val (.ref a), .val (.int (0 : Int32)), .val (.int (3 : Int32)), .val (.int (3 : Int32)), .val (.int c2)] []))
                refine Run.pre (fun _ k => XS.goto X258.here hx rfl (pc0 := 33) (pc' := 2) rfl (hb hby d9_33) (by decide) (by decide) k) ?_
                show Run p e below s _ _ _ (T258.setTop (mkF m 2 #[.val (.ref a), .val (.int (0 : Int32)), .val (.int (3 : Int32)), .val (.int (3 : Int32)), .val (.int c2)] []))
                refine Run.pre (fun _ k => XS.iloadN X258.here hx rfl (hb hby d9_2) rfl  k) ?_
                show Run p e below s _ _ _ (T258.setTop (mkF m 3 #[.val (.ref a), .val (.int (0 : Int32)), .val (.int (3 : Int32)), .val (.int (3 : Int32)), .val (.int c2)] [(.int (3 : Int32))]))
                refine Run.pre (fun _ k => XS.iloadN X258.here hx rfl (hb hby d9_3) rfl  k) ?_
                show Run p e below s _ _ _ (T258.setTop (mkF m 4 #[.val (.ref a), .val (.int (0 : Int32)), .val (.int (3 : Int32)), .val (.int (3 : Int32)), .val (.int c2)] [(.int (3 : Int32)), (.int (3 : Int32))]))
                refine Run.pre (fun _ k => XS.icmpYes X258.here hx rfl (pc0 := 4) (pc' := 36) rfl (hb hby d9_4) rfl (flt ((by decide) : ¬ ((3 : Int32) < (3 : Int32)))).2.1 (by decide) (by decide) k) ?_
                show Run p e below s _ _ _ (T258.setTop (mkF m 36 #[.val (.ref a), .val (.int (0 : Int32)), .val (.int (3 : Int32)), .val (.int (3 : Int32)), .val (.int c2)] []))
                refine Run.pre (fun _ k => XS.iconst X258.here hx rfl (hb hby d9_36) k) ?_
                show Run p e below s _ _ _ (T258.setTop (mkF m 37 #[.val (.ref a), .val (.int (0 : Int32)), .val (.int (3 : Int32)), .val (.int (3 : Int32)), .val (.int c2)] [(.int (1 : Int32))]))
                exact Run.retN X258 hx hret (t := .boolean) (by simp) hlk (hb hby d9_37) (by first | (rw [e258]; exact ⟨by simp [own_en, own_e1, own_bad, own_dg, nar, hc253, hc254, hc256, hc257, hc259, hc260], N258, rfl⟩) | exact ⟨by simp [own_en, own_e1, own_bad, own_dg, nar, hc253, hc254, hc256, hc257, hc259, hc260], N258, rfl⟩) (by decide) (by decide)
  · skip
    show Run p e below s _ _ _ (s₁.setTop (mkF m 0 #[.val (.ref a), .val (.int (0 : Int32)), .val (.int (4 : Int32)), .unset, .unset] []))
    refine Run.pre (fun _ k => XS.iloadN X0.here hx rfl (hb hby d9_0) rfl  k) ?_
    show Run p e below s _ _ _ (s₁.setTop (mkF m 1 #[.val (.ref a), .val (.int (0 : Int32)), .val (.int (4 : Int32)), .unset, .unset] [(.int (0 : Int32))]))
    refine Run.pre (fun _ k => XS.istoreN X0.here hx rfl (hb hby d9_1) rfl (l' := #[.val (.ref a), .val (.int (0 : Int32)), .val (.int (4 : Int32)), .val (.int (0 : Int32)), .unset]) rfl k) ?_
    show Run p e below s _ _ _ (s₁.setTop (mkF m 2 #[.val (.ref a), .val (.int (0 : Int32)), .val (.int (4 : Int32)), .val (.int (0 : Int32)), .unset] []))
    refine Run.pre (fun _ k => XS.iloadN X0.here hx rfl (hb hby d9_2) rfl  k) ?_
    show Run p e below s _ _ _ (s₁.setTop (mkF m 3 #[.val (.ref a), .val (.int (0 : Int32)), .val (.int (4 : Int32)), .val (.int (0 : Int32)), .unset] [(.int (0 : Int32))]))
    refine Run.pre (fun _ k => XS.iloadN X0.here hx rfl (hb hby d9_3) rfl  k) ?_
    show Run p e below s _ _ _ (s₁.setTop (mkF m 4 #[.val (.ref a), .val (.int (0 : Int32)), .val (.int (4 : Int32)), .val (.int (0 : Int32)), .unset] [(.int (4 : Int32)), (.int (0 : Int32))]))
    refine Run.pre (fun _ k => XS.icmpNo X0.here hx rfl (hb hby d9_4) rfl (tlt ((by decide) : (0 : Int32) < (4 : Int32))).2.1 k) ?_
    show Run p e below s _ _ _ (s₁.setTop (mkF m 7 #[.val (.ref a), .val (.int (0 : Int32)), .val (.int (4 : Int32)), .val (.int (0 : Int32)), .unset] []))
    refine Run.pre (fun _ k => XS.aloadN X0.here hx rfl (hb hby d9_7) rfl rfl k) ?_
    show Run p e below s _ _ _ (s₁.setTop (mkF m 8 #[.val (.ref a), .val (.int (0 : Int32)), .val (.int (4 : Int32)), .val (.int (0 : Int32)), .unset] [(.ref a)]))
    refine Run.pre (fun _ k => XS.iloadN X0.here hx rfl (hb hby d9_8) rfl  k) ?_
    show Run p e below s _ _ _ (s₁.setTop (mkF m 9 #[.val (.ref a), .val (.int (0 : Int32)), .val (.int (4 : Int32)), .val (.int (0 : Int32)), .unset] [(.int (0 : Int32)), (.ref a)]))
    refine Run.callV X0 hx hZ (y := (⟨"java/lang/String", "charAt", "(I)C"⟩ : MethodName)) (z := (⟨"java/lang/String", "charAt", "(I)C"⟩ : MethodName)) hown (hw _ (List.mem_of_getElem? (i := 45) rfl)) (hw _ (List.mem_of_getElem? (i := 46) rfl)) (notFace_of_selects (args := #[]) (mvT hZ (hw _ (List.mem_of_getElem? (i := 48) rfl)))) (hw _ (List.mem_of_getElem? (i := 48) rfl)) (hw _ (List.mem_of_getElem? (i := 47) rfl)) (hw _ (List.mem_of_getElem? (i := 49) rfl)) (hw _ (List.mem_of_getElem? (i := 8) rfl)) (by decide) (b := a) E_a (W := 0) (rmCA_0 l Z a0 hw a b k c0 c1 c2 c3 cs fw h0 n0 (Nat.le_trans Z0 (Keep.refl h0 []).1) OL SC hcs SF hfw SA SH SL E_a FV DQ w0 w1 w2 w3) e0 (by decide) (by decide) (by decide) (by decide) (g := (mkF m 9 #[.val (.ref a), .val (.int (0 : Int32)), .val (.int (4 : Int32)), .val (.int (0 : Int32)), .unset] [(.int (0 : Int32)), (.ref a)])) rfl (by rw [hml]; rfl) (argsL := [(.int (0 : Int32))]) (rest := []) (lenOf pd_14 rfl) rfl (by show 2 * 0 + _ ≤ _; exact Nat.le_of_eq rfl) (hb hby d9_9) ?_
    intro v261 T261 L261 X261 hQ261
    obtain ⟨rfl, Nq261, he261⟩ := hQ261
    have N261 := Fr.app N0 Nq261
    have e261 : T261.heap = h0 := he261
    show Run p e below s _ _ _ (T261.setTop (mkF m 12 #[.val (.ref a), .val (.int (0 : Int32)), .val (.int (4 : Int32)), .val (.int (0 : Int32)), .unset] [(.int c0)]))
    refine Run.pre (fun _ k => XS.istore X261.here hx rfl (hb hby d9_12) rfl (l' := #[.val (.ref a), .val (.int (0 : Int32)), .val (.int (4 : Int32)), .val (.int (0 : Int32)), .val (.int c0)]) rfl k) ?_
    show Run p e below s _ _ _ (T261.setTop (mkF m 14 #[.val (.ref a), .val (.int (0 : Int32)), .val (.int (4 : Int32)), .val (.int (0 : Int32)), .val (.int c0)] []))
    refine Run.pre (fun _ k => XS.iload X261.here hx rfl (hb hby d9_14) rfl  k) ?_
    show Run p e below s _ _ _ (T261.setTop (mkF m 16 #[.val (.ref a), .val (.int (0 : Int32)), .val (.int (4 : Int32)), .val (.int (0 : Int32)), .val (.int c0)] [(.int c0)]))
    refine Run.pre (fun _ k => XS.bipush X261.here hx rfl (hb hby d9_16) k) ?_
    show Run p e below s _ _ _ (T261.setTop (mkF m 18 #[.val (.ref a), .val (.int (0 : Int32)), .val (.int (4 : Int32)), .val (.int (0 : Int32)), .val (.int c0)] [(.int (48 : Int32)), (.int c0)]))
    by_cases hc262 : c0 < (48 : Int32)
    · skip
      refine Run.pre (fun _ k => XS.icmpYes X261.here hx rfl (pc0 := 18) (pc' := 28) rfl (hb hby d9_18) rfl (tlt (hc262 : c0 < (48 : Int32))).1 (by decide) (by decide) k) ?_
      show Run p e below s _ _ _ (T261.setTop (mkF m 28 #[.val (.ref a), .val (.int (0 : Int32)), .val (.int (4 : Int32)), .val (.int (0 : Int32)), .val (.int c0)] []))
      refine Run.pre (fun _ k => XS.iconst X261.here hx rfl (hb hby d9_28) k) ?_
      show Run p e below s _ _ _ (T261.setTop (mkF m 29 #[.val (.ref a), .val (.int (0 : Int32)), .val (.int (4 : Int32)), .val (.int (0 : Int32)), .val (.int c0)] [(.int (0 : Int32))]))
      exact Run.retN X261 hx hret (t := .boolean) (by simp) hlk (hb hby d9_29) (by first | (rw [e261]; exact ⟨by simp [own_en, own_e1, own_bad, own_dg, nar, hc262], N261, rfl⟩) | exact ⟨by simp [own_en, own_e1, own_bad, own_dg, nar, hc262], N261, rfl⟩) (by decide) (by decide)
    · skip
      refine Run.pre (fun _ k => XS.icmpNo X261.here hx rfl (hb hby d9_18) rfl (flt (hc262 : ¬ (c0 < (48 : Int32)))).1 k) ?_
      show Run p e below s _ _ _ (T261.setTop (mkF m 21 #[.val (.ref a), .val (.int (0 : Int32)), .val (.int (4 : Int32)), .val (.int (0 : Int32)), .val (.int c0)] []))
      refine Run.pre (fun _ k => XS.iload X261.here hx rfl (hb hby d9_21) rfl  k) ?_
      show Run p e below s _ _ _ (T261.setTop (mkF m 23 #[.val (.ref a), .val (.int (0 : Int32)), .val (.int (4 : Int32)), .val (.int (0 : Int32)), .val (.int c0)] [(.int c0)]))
      refine Run.pre (fun _ k => XS.bipush X261.here hx rfl (hb hby d9_23) k) ?_
      show Run p e below s _ _ _ (T261.setTop (mkF m 25 #[.val (.ref a), .val (.int (0 : Int32)), .val (.int (4 : Int32)), .val (.int (0 : Int32)), .val (.int c0)] [(.int (57 : Int32)), (.int c0)]))
      by_cases hc263 : (57 : Int32) < c0
      · skip
        refine Run.pre (fun _ k => XS.icmpNo X261.here hx rfl (hb hby d9_25) rfl (tlt (hc263 : (57 : Int32) < c0)).2.2.2 k) ?_
        show Run p e below s _ _ _ (T261.setTop (mkF m 28 #[.val (.ref a), .val (.int (0 : Int32)), .val (.int (4 : Int32)), .val (.int (0 : Int32)), .val (.int c0)] []))
        refine Run.pre (fun _ k => XS.iconst X261.here hx rfl (hb hby d9_28) k) ?_
        show Run p e below s _ _ _ (T261.setTop (mkF m 29 #[.val (.ref a), .val (.int (0 : Int32)), .val (.int (4 : Int32)), .val (.int (0 : Int32)), .val (.int c0)] [(.int (0 : Int32))]))
        exact Run.retN X261 hx hret (t := .boolean) (by simp) hlk (hb hby d9_29) (by first | (rw [e261]; exact ⟨by simp [own_en, own_e1, own_bad, own_dg, nar, hc262, hc263], N261, rfl⟩) | exact ⟨by simp [own_en, own_e1, own_bad, own_dg, nar, hc262, hc263], N261, rfl⟩) (by decide) (by decide)
      · skip
        refine Run.pre (fun _ k => XS.icmpYes X261.here hx rfl (pc0 := 25) (pc' := 30) rfl (hb hby d9_25) rfl (flt (hc263 : ¬ ((57 : Int32) < c0))).2.2.2 (by decide) (by decide) k) ?_
        show Run p e below s _ _ _ (T261.setTop (mkF m 30 #[.val (.ref a), .val (.int (0 : Int32)), .val (.int (4 : Int32)), .val (.int (0 : Int32)), .val (.int c0)] []))
        refine Run.pre (fun _ k => XS.iinc X261.here hx rfl (hb hby d9_30) rfl (l' := #[.val (.ref a), .val (.int (0 : Int32)), .val (.int (4 : Int32)), .val (.int (1 : Int32)), .val (.int c0)]) rfl k) ?_
        show Run p e below s _ _ _ (T261.setTop (mkF m 33 #[.val (.ref a), .val (.int (0 : Int32)), .val (.int (4 : Int32)), .val (.int (1 : Int32)), .val (.int c0)] []))
        refine Run.pre (fun _ k => XS.goto X261.here hx rfl (pc0 := 33) (pc' := 2) rfl (hb hby d9_33) (by decide) (by decide) k) ?_
        show Run p e below s _ _ _ (T261.setTop (mkF m 2 #[.val (.ref a), .val (.int (0 : Int32)), .val (.int (4 : Int32)), .val (.int (1 : Int32)), .val (.int c0)] []))
        refine Run.pre (fun _ k => XS.iloadN X261.here hx rfl (hb hby d9_2) rfl  k) ?_
        show Run p e below s _ _ _ (T261.setTop (mkF m 3 #[.val (.ref a), .val (.int (0 : Int32)), .val (.int (4 : Int32)), .val (.int (1 : Int32)), .val (.int c0)] [(.int (1 : Int32))]))
        refine Run.pre (fun _ k => XS.iloadN X261.here hx rfl (hb hby d9_3) rfl  k) ?_
        show Run p e below s _ _ _ (T261.setTop (mkF m 4 #[.val (.ref a), .val (.int (0 : Int32)), .val (.int (4 : Int32)), .val (.int (1 : Int32)), .val (.int c0)] [(.int (4 : Int32)), (.int (1 : Int32))]))
        refine Run.pre (fun _ k => XS.icmpNo X261.here hx rfl (hb hby d9_4) rfl (tlt ((by decide) : (1 : Int32) < (4 : Int32))).2.1 k) ?_
        show Run p e below s _ _ _ (T261.setTop (mkF m 7 #[.val (.ref a), .val (.int (0 : Int32)), .val (.int (4 : Int32)), .val (.int (1 : Int32)), .val (.int c0)] []))
        refine Run.pre (fun _ k => XS.aloadN X261.here hx rfl (hb hby d9_7) rfl rfl k) ?_
        show Run p e below s _ _ _ (T261.setTop (mkF m 8 #[.val (.ref a), .val (.int (0 : Int32)), .val (.int (4 : Int32)), .val (.int (1 : Int32)), .val (.int c0)] [(.ref a)]))
        refine Run.pre (fun _ k => XS.iloadN X261.here hx rfl (hb hby d9_8) rfl  k) ?_
        show Run p e below s _ _ _ (T261.setTop (mkF m 9 #[.val (.ref a), .val (.int (0 : Int32)), .val (.int (4 : Int32)), .val (.int (1 : Int32)), .val (.int c0)] [(.int (1 : Int32)), (.ref a)]))
        refine Run.callV X261 hx hZ (y := (⟨"java/lang/String", "charAt", "(I)C"⟩ : MethodName)) (z := (⟨"java/lang/String", "charAt", "(I)C"⟩ : MethodName)) hown (hw _ (List.mem_of_getElem? (i := 45) rfl)) (hw _ (List.mem_of_getElem? (i := 46) rfl)) (notFace_of_selects (args := #[]) (mvT hZ (hw _ (List.mem_of_getElem? (i := 48) rfl)))) (hw _ (List.mem_of_getElem? (i := 48) rfl)) (hw _ (List.mem_of_getElem? (i := 47) rfl)) (hw _ (List.mem_of_getElem? (i := 49) rfl)) (hw _ (List.mem_of_getElem? (i := 8) rfl)) (by decide) (b := a) E_a (W := 0) (rmCA_1 l Z a0 hw a b k c0 c1 c2 c3 cs fw h0 n0 (Nat.le_trans Z0 (Keep.refl h0 []).1) OL SC hcs SF hfw SA SH SL E_a FV DQ w0 w1 w2 w3) e261 (by decide) (by decide) (by decide) (by decide) (g := (mkF m 9 #[.val (.ref a), .val (.int (0 : Int32)), .val (.int (4 : Int32)), .val (.int (1 : Int32)), .val (.int c0)] [(.int (1 : Int32)), (.ref a)])) rfl (by rw [hml]; rfl) (argsL := [(.int (1 : Int32))]) (rest := []) (lenOf pd_14 rfl) rfl (by show 2 * 0 + _ ≤ _; exact Nat.le_of_eq rfl) (hb hby d9_9) ?_
        intro v264 T264 L264 X264 hQ264
        obtain ⟨rfl, Nq264, he264⟩ := hQ264
        have N264 := Fr.app N261 Nq264
        have e264 : T264.heap = h0 := he264
        show Run p e below s _ _ _ (T264.setTop (mkF m 12 #[.val (.ref a), .val (.int (0 : Int32)), .val (.int (4 : Int32)), .val (.int (1 : Int32)), .val (.int c0)] [(.int c1)]))
        refine Run.pre (fun _ k => XS.istore X264.here hx rfl (hb hby d9_12) rfl (l' := #[.val (.ref a), .val (.int (0 : Int32)), .val (.int (4 : Int32)), .val (.int (1 : Int32)), .val (.int c1)]) rfl k) ?_
        show Run p e below s _ _ _ (T264.setTop (mkF m 14 #[.val (.ref a), .val (.int (0 : Int32)), .val (.int (4 : Int32)), .val (.int (1 : Int32)), .val (.int c1)] []))
        refine Run.pre (fun _ k => XS.iload X264.here hx rfl (hb hby d9_14) rfl  k) ?_
        show Run p e below s _ _ _ (T264.setTop (mkF m 16 #[.val (.ref a), .val (.int (0 : Int32)), .val (.int (4 : Int32)), .val (.int (1 : Int32)), .val (.int c1)] [(.int c1)]))
        refine Run.pre (fun _ k => XS.bipush X264.here hx rfl (hb hby d9_16) k) ?_
        show Run p e below s _ _ _ (T264.setTop (mkF m 18 #[.val (.ref a), .val (.int (0 : Int32)), .val (.int (4 : Int32)), .val (.int (1 : Int32)), .val (.int c1)] [(.int (48 : Int32)), (.int c1)]))
        by_cases hc265 : c1 < (48 : Int32)
        · skip
          refine Run.pre (fun _ k => XS.icmpYes X264.here hx rfl (pc0 := 18) (pc' := 28) rfl (hb hby d9_18) rfl (tlt (hc265 : c1 < (48 : Int32))).1 (by decide) (by decide) k) ?_
          show Run p e below s _ _ _ (T264.setTop (mkF m 28 #[.val (.ref a), .val (.int (0 : Int32)), .val (.int (4 : Int32)), .val (.int (1 : Int32)), .val (.int c1)] []))
          refine Run.pre (fun _ k => XS.iconst X264.here hx rfl (hb hby d9_28) k) ?_
          show Run p e below s _ _ _ (T264.setTop (mkF m 29 #[.val (.ref a), .val (.int (0 : Int32)), .val (.int (4 : Int32)), .val (.int (1 : Int32)), .val (.int c1)] [(.int (0 : Int32))]))
          exact Run.retN X264 hx hret (t := .boolean) (by simp) hlk (hb hby d9_29) (by first | (rw [e264]; exact ⟨by simp [own_en, own_e1, own_bad, own_dg, nar, hc262, hc263, hc265], N264, rfl⟩) | exact ⟨by simp [own_en, own_e1, own_bad, own_dg, nar, hc262, hc263, hc265], N264, rfl⟩) (by decide) (by decide)
        · skip
          refine Run.pre (fun _ k => XS.icmpNo X264.here hx rfl (hb hby d9_18) rfl (flt (hc265 : ¬ (c1 < (48 : Int32)))).1 k) ?_
          show Run p e below s _ _ _ (T264.setTop (mkF m 21 #[.val (.ref a), .val (.int (0 : Int32)), .val (.int (4 : Int32)), .val (.int (1 : Int32)), .val (.int c1)] []))
          refine Run.pre (fun _ k => XS.iload X264.here hx rfl (hb hby d9_21) rfl  k) ?_
          show Run p e below s _ _ _ (T264.setTop (mkF m 23 #[.val (.ref a), .val (.int (0 : Int32)), .val (.int (4 : Int32)), .val (.int (1 : Int32)), .val (.int c1)] [(.int c1)]))
          refine Run.pre (fun _ k => XS.bipush X264.here hx rfl (hb hby d9_23) k) ?_
          show Run p e below s _ _ _ (T264.setTop (mkF m 25 #[.val (.ref a), .val (.int (0 : Int32)), .val (.int (4 : Int32)), .val (.int (1 : Int32)), .val (.int c1)] [(.int (57 : Int32)), (.int c1)]))
          by_cases hc266 : (57 : Int32) < c1
          · skip
            refine Run.pre (fun _ k => XS.icmpNo X264.here hx rfl (hb hby d9_25) rfl (tlt (hc266 : (57 : Int32) < c1)).2.2.2 k) ?_
            show Run p e below s _ _ _ (T264.setTop (mkF m 28 #[.val (.ref a), .val (.int (0 : Int32)), .val (.int (4 : Int32)), .val (.int (1 : Int32)), .val (.int c1)] []))
            refine Run.pre (fun _ k => XS.iconst X264.here hx rfl (hb hby d9_28) k) ?_
            show Run p e below s _ _ _ (T264.setTop (mkF m 29 #[.val (.ref a), .val (.int (0 : Int32)), .val (.int (4 : Int32)), .val (.int (1 : Int32)), .val (.int c1)] [(.int (0 : Int32))]))
            exact Run.retN X264 hx hret (t := .boolean) (by simp) hlk (hb hby d9_29) (by first | (rw [e264]; exact ⟨by simp [own_en, own_e1, own_bad, own_dg, nar, hc262, hc263, hc265, hc266], N264, rfl⟩) | exact ⟨by simp [own_en, own_e1, own_bad, own_dg, nar, hc262, hc263, hc265, hc266], N264, rfl⟩) (by decide) (by decide)
          · skip
            refine Run.pre (fun _ k => XS.icmpYes X264.here hx rfl (pc0 := 25) (pc' := 30) rfl (hb hby d9_25) rfl (flt (hc266 : ¬ ((57 : Int32) < c1))).2.2.2 (by decide) (by decide) k) ?_
            show Run p e below s _ _ _ (T264.setTop (mkF m 30 #[.val (.ref a), .val (.int (0 : Int32)), .val (.int (4 : Int32)), .val (.int (1 : Int32)), .val (.int c1)] []))
            refine Run.pre (fun _ k => XS.iinc X264.here hx rfl (hb hby d9_30) rfl (l' := #[.val (.ref a), .val (.int (0 : Int32)), .val (.int (4 : Int32)), .val (.int (2 : Int32)), .val (.int c1)]) rfl k) ?_
            show Run p e below s _ _ _ (T264.setTop (mkF m 33 #[.val (.ref a), .val (.int (0 : Int32)), .val (.int (4 : Int32)), .val (.int (2 : Int32)), .val (.int c1)] []))
            refine Run.pre (fun _ k => XS.goto X264.here hx rfl (pc0 := 33) (pc' := 2) rfl (hb hby d9_33) (by decide) (by decide) k) ?_
            show Run p e below s _ _ _ (T264.setTop (mkF m 2 #[.val (.ref a), .val (.int (0 : Int32)), .val (.int (4 : Int32)), .val (.int (2 : Int32)), .val (.int c1)] []))
            refine Run.pre (fun _ k => XS.iloadN X264.here hx rfl (hb hby d9_2) rfl  k) ?_
            show Run p e below s _ _ _ (T264.setTop (mkF m 3 #[.val (.ref a), .val (.int (0 : Int32)), .val (.int (4 : Int32)), .val (.int (2 : Int32)), .val (.int c1)] [(.int (2 : Int32))]))
            refine Run.pre (fun _ k => XS.iloadN X264.here hx rfl (hb hby d9_3) rfl  k) ?_
            show Run p e below s _ _ _ (T264.setTop (mkF m 4 #[.val (.ref a), .val (.int (0 : Int32)), .val (.int (4 : Int32)), .val (.int (2 : Int32)), .val (.int c1)] [(.int (4 : Int32)), (.int (2 : Int32))]))
            refine Run.pre (fun _ k => XS.icmpNo X264.here hx rfl (hb hby d9_4) rfl (tlt ((by decide) : (2 : Int32) < (4 : Int32))).2.1 k) ?_
            show Run p e below s _ _ _ (T264.setTop (mkF m 7 #[.val (.ref a), .val (.int (0 : Int32)), .val (.int (4 : Int32)), .val (.int (2 : Int32)), .val (.int c1)] []))
            refine Run.pre (fun _ k => XS.aloadN X264.here hx rfl (hb hby d9_7) rfl rfl k) ?_
            show Run p e below s _ _ _ (T264.setTop (mkF m 8 #[.val (.ref a), .val (.int (0 : Int32)), .val (.int (4 : Int32)), .val (.int (2 : Int32)), .val (.int c1)] [(.ref a)]))
            refine Run.pre (fun _ k => XS.iloadN X264.here hx rfl (hb hby d9_8) rfl  k) ?_
            show Run p e below s _ _ _ (T264.setTop (mkF m 9 #[.val (.ref a), .val (.int (0 : Int32)), .val (.int (4 : Int32)), .val (.int (2 : Int32)), .val (.int c1)] [(.int (2 : Int32)), (.ref a)]))
            refine Run.callV X264 hx hZ (y := (⟨"java/lang/String", "charAt", "(I)C"⟩ : MethodName)) (z := (⟨"java/lang/String", "charAt", "(I)C"⟩ : MethodName)) hown (hw _ (List.mem_of_getElem? (i := 45) rfl)) (hw _ (List.mem_of_getElem? (i := 46) rfl)) (notFace_of_selects (args := #[]) (mvT hZ (hw _ (List.mem_of_getElem? (i := 48) rfl)))) (hw _ (List.mem_of_getElem? (i := 48) rfl)) (hw _ (List.mem_of_getElem? (i := 47) rfl)) (hw _ (List.mem_of_getElem? (i := 49) rfl)) (hw _ (List.mem_of_getElem? (i := 8) rfl)) (by decide) (b := a) E_a (W := 0) (rmCA_2 l Z a0 hw a b k c0 c1 c2 c3 cs fw h0 n0 (Nat.le_trans Z0 (Keep.refl h0 []).1) OL SC hcs SF hfw SA SH SL E_a FV DQ w0 w1 w2 w3) e264 (by decide) (by decide) (by decide) (by decide) (g := (mkF m 9 #[.val (.ref a), .val (.int (0 : Int32)), .val (.int (4 : Int32)), .val (.int (2 : Int32)), .val (.int c1)] [(.int (2 : Int32)), (.ref a)])) rfl (by rw [hml]; rfl) (argsL := [(.int (2 : Int32))]) (rest := []) (lenOf pd_14 rfl) rfl (by show 2 * 0 + _ ≤ _; exact Nat.le_of_eq rfl) (hb hby d9_9) ?_
            intro v267 T267 L267 X267 hQ267
            obtain ⟨rfl, Nq267, he267⟩ := hQ267
            have N267 := Fr.app N264 Nq267
            have e267 : T267.heap = h0 := he267
            show Run p e below s _ _ _ (T267.setTop (mkF m 12 #[.val (.ref a), .val (.int (0 : Int32)), .val (.int (4 : Int32)), .val (.int (2 : Int32)), .val (.int c1)] [(.int c2)]))
            refine Run.pre (fun _ k => XS.istore X267.here hx rfl (hb hby d9_12) rfl (l' := #[.val (.ref a), .val (.int (0 : Int32)), .val (.int (4 : Int32)), .val (.int (2 : Int32)), .val (.int c2)]) rfl k) ?_
            show Run p e below s _ _ _ (T267.setTop (mkF m 14 #[.val (.ref a), .val (.int (0 : Int32)), .val (.int (4 : Int32)), .val (.int (2 : Int32)), .val (.int c2)] []))
            refine Run.pre (fun _ k => XS.iload X267.here hx rfl (hb hby d9_14) rfl  k) ?_
            show Run p e below s _ _ _ (T267.setTop (mkF m 16 #[.val (.ref a), .val (.int (0 : Int32)), .val (.int (4 : Int32)), .val (.int (2 : Int32)), .val (.int c2)] [(.int c2)]))
            refine Run.pre (fun _ k => XS.bipush X267.here hx rfl (hb hby d9_16) k) ?_
            show Run p e below s _ _ _ (T267.setTop (mkF m 18 #[.val (.ref a), .val (.int (0 : Int32)), .val (.int (4 : Int32)), .val (.int (2 : Int32)), .val (.int c2)] [(.int (48 : Int32)), (.int c2)]))
            by_cases hc268 : c2 < (48 : Int32)
            · skip
              refine Run.pre (fun _ k => XS.icmpYes X267.here hx rfl (pc0 := 18) (pc' := 28) rfl (hb hby d9_18) rfl (tlt (hc268 : c2 < (48 : Int32))).1 (by decide) (by decide) k) ?_
              show Run p e below s _ _ _ (T267.setTop (mkF m 28 #[.val (.ref a), .val (.int (0 : Int32)), .val (.int (4 : Int32)), .val (.int (2 : Int32)), .val (.int c2)] []))
              refine Run.pre (fun _ k => XS.iconst X267.here hx rfl (hb hby d9_28) k) ?_
              show Run p e below s _ _ _ (T267.setTop (mkF m 29 #[.val (.ref a), .val (.int (0 : Int32)), .val (.int (4 : Int32)), .val (.int (2 : Int32)), .val (.int c2)] [(.int (0 : Int32))]))
              exact Run.retN X267 hx hret (t := .boolean) (by simp) hlk (hb hby d9_29) (by first | (rw [e267]; exact ⟨by simp [own_en, own_e1, own_bad, own_dg, nar, hc262, hc263, hc265, hc266, hc268], N267, rfl⟩) | exact ⟨by simp [own_en, own_e1, own_bad, own_dg, nar, hc262, hc263, hc265, hc266, hc268], N267, rfl⟩) (by decide) (by decide)
            · skip
              refine Run.pre (fun _ k => XS.icmpNo X267.here hx rfl (hb hby d9_18) rfl (flt (hc268 : ¬ (c2 < (48 : Int32)))).1 k) ?_
              show Run p e below s _ _ _ (T267.setTop (mkF m 21 #[.val (.ref a), .val (.int (0 : Int32)), .val (.int (4 : Int32)), .val (.int (2 : Int32)), .val (.int c2)] []))
              refine Run.pre (fun _ k => XS.iload X267.here hx rfl (hb hby d9_21) rfl  k) ?_
              show Run p e below s _ _ _ (T267.setTop (mkF m 23 #[.val (.ref a), .val (.int (0 : Int32)), .val (.int (4 : Int32)), .val (.int (2 : Int32)), .val (.int c2)] [(.int c2)]))
              refine Run.pre (fun _ k => XS.bipush X267.here hx rfl (hb hby d9_23) k) ?_
              show Run p e below s _ _ _ (T267.setTop (mkF m 25 #[.val (.ref a), .val (.int (0 : Int32)), .val (.int (4 : Int32)), .val (.int (2 : Int32)), .val (.int c2)] [(.int (57 : Int32)), (.int c2)]))
              by_cases hc269 : (57 : Int32) < c2
              · skip
                refine Run.pre (fun _ k => XS.icmpNo X267.here hx rfl (hb hby d9_25) rfl (tlt (hc269 : (57 : Int32) < c2)).2.2.2 k) ?_
                show Run p e below s _ _ _ (T267.setTop (mkF m 28 #[.val (.ref a), .val (.int (0 : Int32)), .val (.int (4 : Int32)), .val (.int (2 : Int32)), .val (.int c2)] []))
                refine Run.pre (fun _ k => XS.iconst X267.here hx rfl (hb hby d9_28) k) ?_
                show Run p e below s _ _ _ (T267.setTop (mkF m 29 #[.val (.ref a), .val (.int (0 : Int32)), .val (.int (4 : Int32)), .val (.int (2 : Int32)), .val (.int c2)] [(.int (0 : Int32))]))
                exact Run.retN X267 hx hret (t := .boolean) (by simp) hlk (hb hby d9_29) (by first | (rw [e267]; exact ⟨by simp [own_en, own_e1, own_bad, own_dg, nar, hc262, hc263, hc265, hc266, hc268, hc269], N267, rfl⟩) | exact ⟨by simp [own_en, own_e1, own_bad, own_dg, nar, hc262, hc263, hc265, hc266, hc268, hc269], N267, rfl⟩) (by decide) (by decide)
              · skip
                refine Run.pre (fun _ k => XS.icmpYes X267.here hx rfl (pc0 := 25) (pc' := 30) rfl (hb hby d9_25) rfl (flt (hc269 : ¬ ((57 : Int32) < c2))).2.2.2 (by decide) (by decide) k) ?_
                show Run p e below s _ _ _ (T267.setTop (mkF m 30 #[.val (.ref a), .val (.int (0 : Int32)), .val (.int (4 : Int32)), .val (.int (2 : Int32)), .val (.int c2)] []))
                refine Run.pre (fun _ k => XS.iinc X267.here hx rfl (hb hby d9_30) rfl (l' := #[.val (.ref a), .val (.int (0 : Int32)), .val (.int (4 : Int32)), .val (.int (3 : Int32)), .val (.int c2)]) rfl k) ?_
                show Run p e below s _ _ _ (T267.setTop (mkF m 33 #[.val (.ref a), .val (.int (0 : Int32)), .val (.int (4 : Int32)), .val (.int (3 : Int32)), .val (.int c2)] []))
                refine Run.pre (fun _ k => XS.goto X267.here hx rfl (pc0 := 33) (pc' := 2) rfl (hb hby d9_33) (by decide) (by decide) k) ?_
                show Run p e below s _ _ _ (T267.setTop (mkF m 2 #[.val (.ref a), .val (.int (0 : Int32)), .val (.int (4 : Int32)), .val (.int (3 : Int32)), .val (.int c2)] []))
                refine Run.pre (fun _ k => XS.iloadN X267.here hx rfl (hb hby d9_2) rfl  k) ?_
                show Run p e below s _ _ _ (T267.setTop (mkF m 3 #[.val (.ref a), .val (.int (0 : Int32)), .val (.int (4 : Int32)), .val (.int (3 : Int32)), .val (.int c2)] [(.int (3 : Int32))]))
                refine Run.pre (fun _ k => XS.iloadN X267.here hx rfl (hb hby d9_3) rfl  k) ?_
                show Run p e below s _ _ _ (T267.setTop (mkF m 4 #[.val (.ref a), .val (.int (0 : Int32)), .val (.int (4 : Int32)), .val (.int (3 : Int32)), .val (.int c2)] [(.int (4 : Int32)), (.int (3 : Int32))]))
                refine Run.pre (fun _ k => XS.icmpNo X267.here hx rfl (hb hby d9_4) rfl (tlt ((by decide) : (3 : Int32) < (4 : Int32))).2.1 k) ?_
                show Run p e below s _ _ _ (T267.setTop (mkF m 7 #[.val (.ref a), .val (.int (0 : Int32)), .val (.int (4 : Int32)), .val (.int (3 : Int32)), .val (.int c2)] []))
                refine Run.pre (fun _ k => XS.aloadN X267.here hx rfl (hb hby d9_7) rfl rfl k) ?_
                show Run p e below s _ _ _ (T267.setTop (mkF m 8 #[.val (.ref a), .val (.int (0 : Int32)), .val (.int (4 : Int32)), .val (.int (3 : Int32)), .val (.int c2)] [(.ref a)]))
                refine Run.pre (fun _ k => XS.iloadN X267.here hx rfl (hb hby d9_8) rfl  k) ?_
                show Run p e below s _ _ _ (T267.setTop (mkF m 9 #[.val (.ref a), .val (.int (0 : Int32)), .val (.int (4 : Int32)), .val (.int (3 : Int32)), .val (.int c2)] [(.int (3 : Int32)), (.ref a)]))
                refine Run.callV X267 hx hZ (y := (⟨"java/lang/String", "charAt", "(I)C"⟩ : MethodName)) (z := (⟨"java/lang/String", "charAt", "(I)C"⟩ : MethodName)) hown (hw _ (List.mem_of_getElem? (i := 45) rfl)) (hw _ (List.mem_of_getElem? (i := 46) rfl)) (notFace_of_selects (args := #[]) (mvT hZ (hw _ (List.mem_of_getElem? (i := 48) rfl)))) (hw _ (List.mem_of_getElem? (i := 48) rfl)) (hw _ (List.mem_of_getElem? (i := 47) rfl)) (hw _ (List.mem_of_getElem? (i := 49) rfl)) (hw _ (List.mem_of_getElem? (i := 8) rfl)) (by decide) (b := a) E_a (W := 0) (rmCA_3 l Z a0 hw a b k c0 c1 c2 c3 cs fw h0 n0 (Nat.le_trans Z0 (Keep.refl h0 []).1) OL SC hcs SF hfw SA SH SL E_a FV DQ w0 w1 w2 w3) e267 (by decide) (by decide) (by decide) (by decide) (g := (mkF m 9 #[.val (.ref a), .val (.int (0 : Int32)), .val (.int (4 : Int32)), .val (.int (3 : Int32)), .val (.int c2)] [(.int (3 : Int32)), (.ref a)])) rfl (by rw [hml]; rfl) (argsL := [(.int (3 : Int32))]) (rest := []) (lenOf pd_14 rfl) rfl (by show 2 * 0 + _ ≤ _; exact Nat.le_of_eq rfl) (hb hby d9_9) ?_
                intro v270 T270 L270 X270 hQ270
                obtain ⟨rfl, Nq270, he270⟩ := hQ270
                have N270 := Fr.app N267 Nq270
                have e270 : T270.heap = h0 := he270
                show Run p e below s _ _ _ (T270.setTop (mkF m 12 #[.val (.ref a), .val (.int (0 : Int32)), .val (.int (4 : Int32)), .val (.int (3 : Int32)), .val (.int c2)] [(.int c3)]))
                refine Run.pre (fun _ k => XS.istore X270.here hx rfl (hb hby d9_12) rfl (l' := #[.val (.ref a), .val (.int (0 : Int32)), .val (.int (4 : Int32)), .val (.int (3 : Int32)), .val (.int c3)]) rfl k) ?_
                show Run p e below s _ _ _ (T270.setTop (mkF m 14 #[.val (.ref a), .val (.int (0 : Int32)), .val (.int (4 : Int32)), .val (.int (3 : Int32)), .val (.int c3)] []))
                refine Run.pre (fun _ k => XS.iload X270.here hx rfl (hb hby d9_14) rfl  k) ?_
                show Run p e below s _ _ _ (T270.setTop (mkF m 16 #[.val (.ref a), .val (.int (0 : Int32)), .val (.int (4 : Int32)), .val (.int (3 : Int32)), .val (.int c3)] [(.int c3)]))
                refine Run.pre (fun _ k => XS.bipush X270.here hx rfl (hb hby d9_16) k) ?_
                show Run p e below s _ _ _ (T270.setTop (mkF m 18 #[.val (.ref a), .val (.int (0 : Int32)), .val (.int (4 : Int32)), .val (.int (3 : Int32)), .val (.int c3)] [(.int (48 : Int32)), (.int c3)]))
                by_cases hc271 : c3 < (48 : Int32)
                · skip
                  refine Run.pre (fun _ k => XS.icmpYes X270.here hx rfl (pc0 := 18) (pc' := 28) rfl (hb hby d9_18) rfl (tlt (hc271 : c3 < (48 : Int32))).1 (by decide) (by decide) k) ?_
                  show Run p e below s _ _ _ (T270.setTop (mkF m 28 #[.val (.ref a), .val (.int (0 : Int32)), .val (.int (4 : Int32)), .val (.int (3 : Int32)), .val (.int c3)] []))
                  refine Run.pre (fun _ k => XS.iconst X270.here hx rfl (hb hby d9_28) k) ?_
                  show Run p e below s _ _ _ (T270.setTop (mkF m 29 #[.val (.ref a), .val (.int (0 : Int32)), .val (.int (4 : Int32)), .val (.int (3 : Int32)), .val (.int c3)] [(.int (0 : Int32))]))
                  exact Run.retN X270 hx hret (t := .boolean) (by simp) hlk (hb hby d9_29) (by first | (rw [e270]; exact ⟨by simp [own_en, own_e1, own_bad, own_dg, nar, hc262, hc263, hc265, hc266, hc268, hc269, hc271], N270, rfl⟩) | exact ⟨by simp [own_en, own_e1, own_bad, own_dg, nar, hc262, hc263, hc265, hc266, hc268, hc269, hc271], N270, rfl⟩) (by decide) (by decide)
                · skip
                  refine Run.pre (fun _ k => XS.icmpNo X270.here hx rfl (hb hby d9_18) rfl (flt (hc271 : ¬ (c3 < (48 : Int32)))).1 k) ?_
                  show Run p e below s _ _ _ (T270.setTop (mkF m 21 #[.val (.ref a), .val (.int (0 : Int32)), .val (.int (4 : Int32)), .val (.int (3 : Int32)), .val (.int c3)] []))
                  refine Run.pre (fun _ k => XS.iload X270.here hx rfl (hb hby d9_21) rfl  k) ?_
                  show Run p e below s _ _ _ (T270.setTop (mkF m 23 #[.val (.ref a), .val (.int (0 : Int32)), .val (.int (4 : Int32)), .val (.int (3 : Int32)), .val (.int c3)] [(.int c3)]))
                  refine Run.pre (fun _ k => XS.bipush X270.here hx rfl (hb hby d9_23) k) ?_
                  show Run p e below s _ _ _ (T270.setTop (mkF m 25 #[.val (.ref a), .val (.int (0 : Int32)), .val (.int (4 : Int32)), .val (.int (3 : Int32)), .val (.int c3)] [(.int (57 : Int32)), (.int c3)]))
                  by_cases hc272 : (57 : Int32) < c3
                  · skip
                    refine Run.pre (fun _ k => XS.icmpNo X270.here hx rfl (hb hby d9_25) rfl (tlt (hc272 : (57 : Int32) < c3)).2.2.2 k) ?_
                    show Run p e below s _ _ _ (T270.setTop (mkF m 28 #[.val (.ref a), .val (.int (0 : Int32)), .val (.int (4 : Int32)), .val (.int (3 : Int32)), .val (.int c3)] []))
                    refine Run.pre (fun _ k => XS.iconst X270.here hx rfl (hb hby d9_28) k) ?_
                    show Run p e below s _ _ _ (T270.setTop (mkF m 29 #[.val (.ref a), .val (.int (0 : Int32)), .val (.int (4 : Int32)), .val (.int (3 : Int32)), .val (.int c3)] [(.int (0 : Int32))]))
                    exact Run.retN X270 hx hret (t := .boolean) (by simp) hlk (hb hby d9_29) (by first | (rw [e270]; exact ⟨by simp [own_en, own_e1, own_bad, own_dg, nar, hc262, hc263, hc265, hc266, hc268, hc269, hc271, hc272], N270, rfl⟩) | exact ⟨by simp [own_en, own_e1, own_bad, own_dg, nar, hc262, hc263, hc265, hc266, hc268, hc269, hc271, hc272], N270, rfl⟩) (by decide) (by decide)
                  · skip
                    refine Run.pre (fun _ k => XS.icmpYes X270.here hx rfl (pc0 := 25) (pc' := 30) rfl (hb hby d9_25) rfl (flt (hc272 : ¬ ((57 : Int32) < c3))).2.2.2 (by decide) (by decide) k) ?_
                    show Run p e below s _ _ _ (T270.setTop (mkF m 30 #[.val (.ref a), .val (.int (0 : Int32)), .val (.int (4 : Int32)), .val (.int (3 : Int32)), .val (.int c3)] []))
                    refine Run.pre (fun _ k => XS.iinc X270.here hx rfl (hb hby d9_30) rfl (l' := #[.val (.ref a), .val (.int (0 : Int32)), .val (.int (4 : Int32)), .val (.int (4 : Int32)), .val (.int c3)]) rfl k) ?_
                    show Run p e below s _ _ _ (T270.setTop (mkF m 33 #[.val (.ref a), .val (.int (0 : Int32)), .val (.int (4 : Int32)), .val (.int (4 : Int32)), .val (.int c3)] []))
                    refine Run.pre (fun _ k => XS.goto X270.here hx rfl (pc0 := 33) (pc' := 2) rfl (hb hby d9_33) (by decide) (by decide) k) ?_
                    show Run p e below s _ _ _ (T270.setTop (mkF m 2 #[.val (.ref a), .val (.int (0 : Int32)), .val (.int (4 : Int32)), .val (.int (4 : Int32)), .val (.int c3)] []))
                    refine Run.pre (fun _ k => XS.iloadN X270.here hx rfl (hb hby d9_2) rfl  k) ?_
                    show Run p e below s _ _ _ (T270.setTop (mkF m 3 #[.val (.ref a), .val (.int (0 : Int32)), .val (.int (4 : Int32)), .val (.int (4 : Int32)), .val (.int c3)] [(.int (4 : Int32))]))
                    refine Run.pre (fun _ k => XS.iloadN X270.here hx rfl (hb hby d9_3) rfl  k) ?_
                    show Run p e below s _ _ _ (T270.setTop (mkF m 4 #[.val (.ref a), .val (.int (0 : Int32)), .val (.int (4 : Int32)), .val (.int (4 : Int32)), .val (.int c3)] [(.int (4 : Int32)), (.int (4 : Int32))]))
                    refine Run.pre (fun _ k => XS.icmpYes X270.here hx rfl (pc0 := 4) (pc' := 36) rfl (hb hby d9_4) rfl (flt ((by decide) : ¬ ((4 : Int32) < (4 : Int32)))).2.1 (by decide) (by decide) k) ?_
                    show Run p e below s _ _ _ (T270.setTop (mkF m 36 #[.val (.ref a), .val (.int (0 : Int32)), .val (.int (4 : Int32)), .val (.int (4 : Int32)), .val (.int c3)] []))
                    refine Run.pre (fun _ k => XS.iconst X270.here hx rfl (hb hby d9_36) k) ?_
                    show Run p e below s _ _ _ (T270.setTop (mkF m 37 #[.val (.ref a), .val (.int (0 : Int32)), .val (.int (4 : Int32)), .val (.int (4 : Int32)), .val (.int c3)] [(.int (1 : Int32))]))
                    exact Run.retN X270 hx hret (t := .boolean) (by simp) hlk (hb hby d9_37) (by first | (rw [e270]; exact ⟨by simp [own_en, own_e1, own_bad, own_dg, nar, hc262, hc263, hc265, hc266, hc268, hc269, hc271, hc272], N270, rfl⟩) | exact ⟨by simp [own_en, own_e1, own_bad, own_dg, nar, hc262, hc263, hc265, hc266, hc268, hc269, hc271, hc272], N270, rfl⟩) (by decide) (by decide)
  · skip
    show Run p e below s _ _ _ (s₁.setTop (mkF m 0 #[.val (.ref a), .val (.int (1 : Int32)), .val (.int (1 : Int32)), .unset, .unset] []))
    refine Run.pre (fun _ k => XS.iloadN X0.here hx rfl (hb hby d9_0) rfl  k) ?_
    show Run p e below s _ _ _ (s₁.setTop (mkF m 1 #[.val (.ref a), .val (.int (1 : Int32)), .val (.int (1 : Int32)), .unset, .unset] [(.int (1 : Int32))]))
    refine Run.pre (fun _ k => XS.istoreN X0.here hx rfl (hb hby d9_1) rfl (l' := #[.val (.ref a), .val (.int (1 : Int32)), .val (.int (1 : Int32)), .val (.int (1 : Int32)), .unset]) rfl k) ?_
    show Run p e below s _ _ _ (s₁.setTop (mkF m 2 #[.val (.ref a), .val (.int (1 : Int32)), .val (.int (1 : Int32)), .val (.int (1 : Int32)), .unset] []))
    refine Run.pre (fun _ k => XS.iloadN X0.here hx rfl (hb hby d9_2) rfl  k) ?_
    show Run p e below s _ _ _ (s₁.setTop (mkF m 3 #[.val (.ref a), .val (.int (1 : Int32)), .val (.int (1 : Int32)), .val (.int (1 : Int32)), .unset] [(.int (1 : Int32))]))
    refine Run.pre (fun _ k => XS.iloadN X0.here hx rfl (hb hby d9_3) rfl  k) ?_
    show Run p e below s _ _ _ (s₁.setTop (mkF m 4 #[.val (.ref a), .val (.int (1 : Int32)), .val (.int (1 : Int32)), .val (.int (1 : Int32)), .unset] [(.int (1 : Int32)), (.int (1 : Int32))]))
    refine Run.pre (fun _ k => XS.icmpYes X0.here hx rfl (pc0 := 4) (pc' := 36) rfl (hb hby d9_4) rfl (flt ((by decide) : ¬ ((1 : Int32) < (1 : Int32)))).2.1 (by decide) (by decide) k) ?_
    show Run p e below s _ _ _ (s₁.setTop (mkF m 36 #[.val (.ref a), .val (.int (1 : Int32)), .val (.int (1 : Int32)), .val (.int (1 : Int32)), .unset] []))
    refine Run.pre (fun _ k => XS.iconst X0.here hx rfl (hb hby d9_36) k) ?_
    show Run p e below s _ _ _ (s₁.setTop (mkF m 37 #[.val (.ref a), .val (.int (1 : Int32)), .val (.int (1 : Int32)), .val (.int (1 : Int32)), .unset] [(.int (1 : Int32))]))
    exact Run.retN X0 hx hret (t := .boolean) (by simp) hlk (hb hby d9_37) (by first | (rw [e0]; exact ⟨by simp [own_en, own_e1, own_bad, own_dg, nar], N0, rfl⟩) | exact ⟨by simp [own_en, own_e1, own_bad, own_dg, nar], N0, rfl⟩) (by decide) (by decide)
  · skip
    show Run p e below s _ _ _ (s₁.setTop (mkF m 0 #[.val (.ref a), .val (.int (1 : Int32)), .val (.int (2 : Int32)), .unset, .unset] []))
    refine Run.pre (fun _ k => XS.iloadN X0.here hx rfl (hb hby d9_0) rfl  k) ?_
    show Run p e below s _ _ _ (s₁.setTop (mkF m 1 #[.val (.ref a), .val (.int (1 : Int32)), .val (.int (2 : Int32)), .unset, .unset] [(.int (1 : Int32))]))
    refine Run.pre (fun _ k => XS.istoreN X0.here hx rfl (hb hby d9_1) rfl (l' := #[.val (.ref a), .val (.int (1 : Int32)), .val (.int (2 : Int32)), .val (.int (1 : Int32)), .unset]) rfl k) ?_
    show Run p e below s _ _ _ (s₁.setTop (mkF m 2 #[.val (.ref a), .val (.int (1 : Int32)), .val (.int (2 : Int32)), .val (.int (1 : Int32)), .unset] []))
    refine Run.pre (fun _ k => XS.iloadN X0.here hx rfl (hb hby d9_2) rfl  k) ?_
    show Run p e below s _ _ _ (s₁.setTop (mkF m 3 #[.val (.ref a), .val (.int (1 : Int32)), .val (.int (2 : Int32)), .val (.int (1 : Int32)), .unset] [(.int (1 : Int32))]))
    refine Run.pre (fun _ k => XS.iloadN X0.here hx rfl (hb hby d9_3) rfl  k) ?_
    show Run p e below s _ _ _ (s₁.setTop (mkF m 4 #[.val (.ref a), .val (.int (1 : Int32)), .val (.int (2 : Int32)), .val (.int (1 : Int32)), .unset] [(.int (2 : Int32)), (.int (1 : Int32))]))
    refine Run.pre (fun _ k => XS.icmpNo X0.here hx rfl (hb hby d9_4) rfl (tlt ((by decide) : (1 : Int32) < (2 : Int32))).2.1 k) ?_
    show Run p e below s _ _ _ (s₁.setTop (mkF m 7 #[.val (.ref a), .val (.int (1 : Int32)), .val (.int (2 : Int32)), .val (.int (1 : Int32)), .unset] []))
    refine Run.pre (fun _ k => XS.aloadN X0.here hx rfl (hb hby d9_7) rfl rfl k) ?_
    show Run p e below s _ _ _ (s₁.setTop (mkF m 8 #[.val (.ref a), .val (.int (1 : Int32)), .val (.int (2 : Int32)), .val (.int (1 : Int32)), .unset] [(.ref a)]))
    refine Run.pre (fun _ k => XS.iloadN X0.here hx rfl (hb hby d9_8) rfl  k) ?_
    show Run p e below s _ _ _ (s₁.setTop (mkF m 9 #[.val (.ref a), .val (.int (1 : Int32)), .val (.int (2 : Int32)), .val (.int (1 : Int32)), .unset] [(.int (1 : Int32)), (.ref a)]))
    refine Run.callV X0 hx hZ (y := (⟨"java/lang/String", "charAt", "(I)C"⟩ : MethodName)) (z := (⟨"java/lang/String", "charAt", "(I)C"⟩ : MethodName)) hown (hw _ (List.mem_of_getElem? (i := 45) rfl)) (hw _ (List.mem_of_getElem? (i := 46) rfl)) (notFace_of_selects (args := #[]) (mvT hZ (hw _ (List.mem_of_getElem? (i := 48) rfl)))) (hw _ (List.mem_of_getElem? (i := 48) rfl)) (hw _ (List.mem_of_getElem? (i := 47) rfl)) (hw _ (List.mem_of_getElem? (i := 49) rfl)) (hw _ (List.mem_of_getElem? (i := 8) rfl)) (by decide) (b := a) E_a (W := 0) (rmCA_1 l Z a0 hw a b k c0 c1 c2 c3 cs fw h0 n0 (Nat.le_trans Z0 (Keep.refl h0 []).1) OL SC hcs SF hfw SA SH SL E_a FV DQ w0 w1 w2 w3) e0 (by decide) (by decide) (by decide) (by decide) (g := (mkF m 9 #[.val (.ref a), .val (.int (1 : Int32)), .val (.int (2 : Int32)), .val (.int (1 : Int32)), .unset] [(.int (1 : Int32)), (.ref a)])) rfl (by rw [hml]; rfl) (argsL := [(.int (1 : Int32))]) (rest := []) (lenOf pd_14 rfl) rfl (by show 2 * 0 + _ ≤ _; exact Nat.le_of_eq rfl) (hb hby d9_9) ?_
    intro v273 T273 L273 X273 hQ273
    obtain ⟨rfl, Nq273, he273⟩ := hQ273
    have N273 := Fr.app N0 Nq273
    have e273 : T273.heap = h0 := he273
    show Run p e below s _ _ _ (T273.setTop (mkF m 12 #[.val (.ref a), .val (.int (1 : Int32)), .val (.int (2 : Int32)), .val (.int (1 : Int32)), .unset] [(.int c1)]))
    refine Run.pre (fun _ k => XS.istore X273.here hx rfl (hb hby d9_12) rfl (l' := #[.val (.ref a), .val (.int (1 : Int32)), .val (.int (2 : Int32)), .val (.int (1 : Int32)), .val (.int c1)]) rfl k) ?_
    show Run p e below s _ _ _ (T273.setTop (mkF m 14 #[.val (.ref a), .val (.int (1 : Int32)), .val (.int (2 : Int32)), .val (.int (1 : Int32)), .val (.int c1)] []))
    refine Run.pre (fun _ k => XS.iload X273.here hx rfl (hb hby d9_14) rfl  k) ?_
    show Run p e below s _ _ _ (T273.setTop (mkF m 16 #[.val (.ref a), .val (.int (1 : Int32)), .val (.int (2 : Int32)), .val (.int (1 : Int32)), .val (.int c1)] [(.int c1)]))
    refine Run.pre (fun _ k => XS.bipush X273.here hx rfl (hb hby d9_16) k) ?_
    show Run p e below s _ _ _ (T273.setTop (mkF m 18 #[.val (.ref a), .val (.int (1 : Int32)), .val (.int (2 : Int32)), .val (.int (1 : Int32)), .val (.int c1)] [(.int (48 : Int32)), (.int c1)]))
    by_cases hc274 : c1 < (48 : Int32)
    · skip
      refine Run.pre (fun _ k => XS.icmpYes X273.here hx rfl (pc0 := 18) (pc' := 28) rfl (hb hby d9_18) rfl (tlt (hc274 : c1 < (48 : Int32))).1 (by decide) (by decide) k) ?_
      show Run p e below s _ _ _ (T273.setTop (mkF m 28 #[.val (.ref a), .val (.int (1 : Int32)), .val (.int (2 : Int32)), .val (.int (1 : Int32)), .val (.int c1)] []))
      refine Run.pre (fun _ k => XS.iconst X273.here hx rfl (hb hby d9_28) k) ?_
      show Run p e below s _ _ _ (T273.setTop (mkF m 29 #[.val (.ref a), .val (.int (1 : Int32)), .val (.int (2 : Int32)), .val (.int (1 : Int32)), .val (.int c1)] [(.int (0 : Int32))]))
      exact Run.retN X273 hx hret (t := .boolean) (by simp) hlk (hb hby d9_29) (by first | (rw [e273]; exact ⟨by simp [own_en, own_e1, own_bad, own_dg, nar, hc274], N273, rfl⟩) | exact ⟨by simp [own_en, own_e1, own_bad, own_dg, nar, hc274], N273, rfl⟩) (by decide) (by decide)
    · skip
      refine Run.pre (fun _ k => XS.icmpNo X273.here hx rfl (hb hby d9_18) rfl (flt (hc274 : ¬ (c1 < (48 : Int32)))).1 k) ?_
      show Run p e below s _ _ _ (T273.setTop (mkF m 21 #[.val (.ref a), .val (.int (1 : Int32)), .val (.int (2 : Int32)), .val (.int (1 : Int32)), .val (.int c1)] []))
      refine Run.pre (fun _ k => XS.iload X273.here hx rfl (hb hby d9_21) rfl  k) ?_
      show Run p e below s _ _ _ (T273.setTop (mkF m 23 #[.val (.ref a), .val (.int (1 : Int32)), .val (.int (2 : Int32)), .val (.int (1 : Int32)), .val (.int c1)] [(.int c1)]))
      refine Run.pre (fun _ k => XS.bipush X273.here hx rfl (hb hby d9_23) k) ?_
      show Run p e below s _ _ _ (T273.setTop (mkF m 25 #[.val (.ref a), .val (.int (1 : Int32)), .val (.int (2 : Int32)), .val (.int (1 : Int32)), .val (.int c1)] [(.int (57 : Int32)), (.int c1)]))
      by_cases hc275 : (57 : Int32) < c1
      · skip
        refine Run.pre (fun _ k => XS.icmpNo X273.here hx rfl (hb hby d9_25) rfl (tlt (hc275 : (57 : Int32) < c1)).2.2.2 k) ?_
        show Run p e below s _ _ _ (T273.setTop (mkF m 28 #[.val (.ref a), .val (.int (1 : Int32)), .val (.int (2 : Int32)), .val (.int (1 : Int32)), .val (.int c1)] []))
        refine Run.pre (fun _ k => XS.iconst X273.here hx rfl (hb hby d9_28) k) ?_
        show Run p e below s _ _ _ (T273.setTop (mkF m 29 #[.val (.ref a), .val (.int (1 : Int32)), .val (.int (2 : Int32)), .val (.int (1 : Int32)), .val (.int c1)] [(.int (0 : Int32))]))
        exact Run.retN X273 hx hret (t := .boolean) (by simp) hlk (hb hby d9_29) (by first | (rw [e273]; exact ⟨by simp [own_en, own_e1, own_bad, own_dg, nar, hc274, hc275], N273, rfl⟩) | exact ⟨by simp [own_en, own_e1, own_bad, own_dg, nar, hc274, hc275], N273, rfl⟩) (by decide) (by decide)
      · skip
        refine Run.pre (fun _ k => XS.icmpYes X273.here hx rfl (pc0 := 25) (pc' := 30) rfl (hb hby d9_25) rfl (flt (hc275 : ¬ ((57 : Int32) < c1))).2.2.2 (by decide) (by decide) k) ?_
        show Run p e below s _ _ _ (T273.setTop (mkF m 30 #[.val (.ref a), .val (.int (1 : Int32)), .val (.int (2 : Int32)), .val (.int (1 : Int32)), .val (.int c1)] []))
        refine Run.pre (fun _ k => XS.iinc X273.here hx rfl (hb hby d9_30) rfl (l' := #[.val (.ref a), .val (.int (1 : Int32)), .val (.int (2 : Int32)), .val (.int (2 : Int32)), .val (.int c1)]) rfl k) ?_
        show Run p e below s _ _ _ (T273.setTop (mkF m 33 #[.val (.ref a), .val (.int (1 : Int32)), .val (.int (2 : Int32)), .val (.int (2 : Int32)), .val (.int c1)] []))
        refine Run.pre (fun _ k => XS.goto X273.here hx rfl (pc0 := 33) (pc' := 2) rfl (hb hby d9_33) (by decide) (by decide) k) ?_
        show Run p e below s _ _ _ (T273.setTop (mkF m 2 #[.val (.ref a), .val (.int (1 : Int32)), .val (.int (2 : Int32)), .val (.int (2 : Int32)), .val (.int c1)] []))
        refine Run.pre (fun _ k => XS.iloadN X273.here hx rfl (hb hby d9_2) rfl  k) ?_
        show Run p e below s _ _ _ (T273.setTop (mkF m 3 #[.val (.ref a), .val (.int (1 : Int32)), .val (.int (2 : Int32)), .val (.int (2 : Int32)), .val (.int c1)] [(.int (2 : Int32))]))
        refine Run.pre (fun _ k => XS.iloadN X273.here hx rfl (hb hby d9_3) rfl  k) ?_
        show Run p e below s _ _ _ (T273.setTop (mkF m 4 #[.val (.ref a), .val (.int (1 : Int32)), .val (.int (2 : Int32)), .val (.int (2 : Int32)), .val (.int c1)] [(.int (2 : Int32)), (.int (2 : Int32))]))
        refine Run.pre (fun _ k => XS.icmpYes X273.here hx rfl (pc0 := 4) (pc' := 36) rfl (hb hby d9_4) rfl (flt ((by decide) : ¬ ((2 : Int32) < (2 : Int32)))).2.1 (by decide) (by decide) k) ?_
        show Run p e below s _ _ _ (T273.setTop (mkF m 36 #[.val (.ref a), .val (.int (1 : Int32)), .val (.int (2 : Int32)), .val (.int (2 : Int32)), .val (.int c1)] []))
        refine Run.pre (fun _ k => XS.iconst X273.here hx rfl (hb hby d9_36) k) ?_
        show Run p e below s _ _ _ (T273.setTop (mkF m 37 #[.val (.ref a), .val (.int (1 : Int32)), .val (.int (2 : Int32)), .val (.int (2 : Int32)), .val (.int c1)] [(.int (1 : Int32))]))
        exact Run.retN X273 hx hret (t := .boolean) (by simp) hlk (hb hby d9_37) (by first | (rw [e273]; exact ⟨by simp [own_en, own_e1, own_bad, own_dg, nar, hc274, hc275], N273, rfl⟩) | exact ⟨by simp [own_en, own_e1, own_bad, own_dg, nar, hc274, hc275], N273, rfl⟩) (by decide) (by decide)
  · skip
    show Run p e below s _ _ _ (s₁.setTop (mkF m 0 #[.val (.ref a), .val (.int (1 : Int32)), .val (.int (3 : Int32)), .unset, .unset] []))
    refine Run.pre (fun _ k => XS.iloadN X0.here hx rfl (hb hby d9_0) rfl  k) ?_
    show Run p e below s _ _ _ (s₁.setTop (mkF m 1 #[.val (.ref a), .val (.int (1 : Int32)), .val (.int (3 : Int32)), .unset, .unset] [(.int (1 : Int32))]))
    refine Run.pre (fun _ k => XS.istoreN X0.here hx rfl (hb hby d9_1) rfl (l' := #[.val (.ref a), .val (.int (1 : Int32)), .val (.int (3 : Int32)), .val (.int (1 : Int32)), .unset]) rfl k) ?_
    show Run p e below s _ _ _ (s₁.setTop (mkF m 2 #[.val (.ref a), .val (.int (1 : Int32)), .val (.int (3 : Int32)), .val (.int (1 : Int32)), .unset] []))
    refine Run.pre (fun _ k => XS.iloadN X0.here hx rfl (hb hby d9_2) rfl  k) ?_
    show Run p e below s _ _ _ (s₁.setTop (mkF m 3 #[.val (.ref a), .val (.int (1 : Int32)), .val (.int (3 : Int32)), .val (.int (1 : Int32)), .unset] [(.int (1 : Int32))]))
    refine Run.pre (fun _ k => XS.iloadN X0.here hx rfl (hb hby d9_3) rfl  k) ?_
    show Run p e below s _ _ _ (s₁.setTop (mkF m 4 #[.val (.ref a), .val (.int (1 : Int32)), .val (.int (3 : Int32)), .val (.int (1 : Int32)), .unset] [(.int (3 : Int32)), (.int (1 : Int32))]))
    refine Run.pre (fun _ k => XS.icmpNo X0.here hx rfl (hb hby d9_4) rfl (tlt ((by decide) : (1 : Int32) < (3 : Int32))).2.1 k) ?_
    show Run p e below s _ _ _ (s₁.setTop (mkF m 7 #[.val (.ref a), .val (.int (1 : Int32)), .val (.int (3 : Int32)), .val (.int (1 : Int32)), .unset] []))
    refine Run.pre (fun _ k => XS.aloadN X0.here hx rfl (hb hby d9_7) rfl rfl k) ?_
    show Run p e below s _ _ _ (s₁.setTop (mkF m 8 #[.val (.ref a), .val (.int (1 : Int32)), .val (.int (3 : Int32)), .val (.int (1 : Int32)), .unset] [(.ref a)]))
    refine Run.pre (fun _ k => XS.iloadN X0.here hx rfl (hb hby d9_8) rfl  k) ?_
    show Run p e below s _ _ _ (s₁.setTop (mkF m 9 #[.val (.ref a), .val (.int (1 : Int32)), .val (.int (3 : Int32)), .val (.int (1 : Int32)), .unset] [(.int (1 : Int32)), (.ref a)]))
    refine Run.callV X0 hx hZ (y := (⟨"java/lang/String", "charAt", "(I)C"⟩ : MethodName)) (z := (⟨"java/lang/String", "charAt", "(I)C"⟩ : MethodName)) hown (hw _ (List.mem_of_getElem? (i := 45) rfl)) (hw _ (List.mem_of_getElem? (i := 46) rfl)) (notFace_of_selects (args := #[]) (mvT hZ (hw _ (List.mem_of_getElem? (i := 48) rfl)))) (hw _ (List.mem_of_getElem? (i := 48) rfl)) (hw _ (List.mem_of_getElem? (i := 47) rfl)) (hw _ (List.mem_of_getElem? (i := 49) rfl)) (hw _ (List.mem_of_getElem? (i := 8) rfl)) (by decide) (b := a) E_a (W := 0) (rmCA_1 l Z a0 hw a b k c0 c1 c2 c3 cs fw h0 n0 (Nat.le_trans Z0 (Keep.refl h0 []).1) OL SC hcs SF hfw SA SH SL E_a FV DQ w0 w1 w2 w3) e0 (by decide) (by decide) (by decide) (by decide) (g := (mkF m 9 #[.val (.ref a), .val (.int (1 : Int32)), .val (.int (3 : Int32)), .val (.int (1 : Int32)), .unset] [(.int (1 : Int32)), (.ref a)])) rfl (by rw [hml]; rfl) (argsL := [(.int (1 : Int32))]) (rest := []) (lenOf pd_14 rfl) rfl (by show 2 * 0 + _ ≤ _; exact Nat.le_of_eq rfl) (hb hby d9_9) ?_
    intro v276 T276 L276 X276 hQ276
    obtain ⟨rfl, Nq276, he276⟩ := hQ276
    have N276 := Fr.app N0 Nq276
    have e276 : T276.heap = h0 := he276
    show Run p e below s _ _ _ (T276.setTop (mkF m 12 #[.val (.ref a), .val (.int (1 : Int32)), .val (.int (3 : Int32)), .val (.int (1 : Int32)), .unset] [(.int c1)]))
    refine Run.pre (fun _ k => XS.istore X276.here hx rfl (hb hby d9_12) rfl (l' := #[.val (.ref a), .val (.int (1 : Int32)), .val (.int (3 : Int32)), .val (.int (1 : Int32)), .val (.int c1)]) rfl k) ?_
    show Run p e below s _ _ _ (T276.setTop (mkF m 14 #[.val (.ref a), .val (.int (1 : Int32)), .val (.int (3 : Int32)), .val (.int (1 : Int32)), .val (.int c1)] []))
    refine Run.pre (fun _ k => XS.iload X276.here hx rfl (hb hby d9_14) rfl  k) ?_
    show Run p e below s _ _ _ (T276.setTop (mkF m 16 #[.val (.ref a), .val (.int (1 : Int32)), .val (.int (3 : Int32)), .val (.int (1 : Int32)), .val (.int c1)] [(.int c1)]))
    refine Run.pre (fun _ k => XS.bipush X276.here hx rfl (hb hby d9_16) k) ?_
    show Run p e below s _ _ _ (T276.setTop (mkF m 18 #[.val (.ref a), .val (.int (1 : Int32)), .val (.int (3 : Int32)), .val (.int (1 : Int32)), .val (.int c1)] [(.int (48 : Int32)), (.int c1)]))
    by_cases hc277 : c1 < (48 : Int32)
    · skip
      refine Run.pre (fun _ k => XS.icmpYes X276.here hx rfl (pc0 := 18) (pc' := 28) rfl (hb hby d9_18) rfl (tlt (hc277 : c1 < (48 : Int32))).1 (by decide) (by decide) k) ?_
      show Run p e below s _ _ _ (T276.setTop (mkF m 28 #[.val (.ref a), .val (.int (1 : Int32)), .val (.int (3 : Int32)), .val (.int (1 : Int32)), .val (.int c1)] []))
      refine Run.pre (fun _ k => XS.iconst X276.here hx rfl (hb hby d9_28) k) ?_
      show Run p e below s _ _ _ (T276.setTop (mkF m 29 #[.val (.ref a), .val (.int (1 : Int32)), .val (.int (3 : Int32)), .val (.int (1 : Int32)), .val (.int c1)] [(.int (0 : Int32))]))
      exact Run.retN X276 hx hret (t := .boolean) (by simp) hlk (hb hby d9_29) (by first | (rw [e276]; exact ⟨by simp [own_en, own_e1, own_bad, own_dg, nar, hc277], N276, rfl⟩) | exact ⟨by simp [own_en, own_e1, own_bad, own_dg, nar, hc277], N276, rfl⟩) (by decide) (by decide)
    · skip
      refine Run.pre (fun _ k => XS.icmpNo X276.here hx rfl (hb hby d9_18) rfl (flt (hc277 : ¬ (c1 < (48 : Int32)))).1 k) ?_
      show Run p e below s _ _ _ (T276.setTop (mkF m 21 #[.val (.ref a), .val (.int (1 : Int32)), .val (.int (3 : Int32)), .val (.int (1 : Int32)), .val (.int c1)] []))
      refine Run.pre (fun _ k => XS.iload X276.here hx rfl (hb hby d9_21) rfl  k) ?_
      show Run p e below s _ _ _ (T276.setTop (mkF m 23 #[.val (.ref a), .val (.int (1 : Int32)), .val (.int (3 : Int32)), .val (.int (1 : Int32)), .val (.int c1)] [(.int c1)]))
      refine Run.pre (fun _ k => XS.bipush X276.here hx rfl (hb hby d9_23) k) ?_
      show Run p e below s _ _ _ (T276.setTop (mkF m 25 #[.val (.ref a), .val (.int (1 : Int32)), .val (.int (3 : Int32)), .val (.int (1 : Int32)), .val (.int c1)] [(.int (57 : Int32)), (.int c1)]))
      by_cases hc278 : (57 : Int32) < c1
      · skip
        refine Run.pre (fun _ k => XS.icmpNo X276.here hx rfl (hb hby d9_25) rfl (tlt (hc278 : (57 : Int32) < c1)).2.2.2 k) ?_
        show Run p e below s _ _ _ (T276.setTop (mkF m 28 #[.val (.ref a), .val (.int (1 : Int32)), .val (.int (3 : Int32)), .val (.int (1 : Int32)), .val (.int c1)] []))
        refine Run.pre (fun _ k => XS.iconst X276.here hx rfl (hb hby d9_28) k) ?_
        show Run p e below s _ _ _ (T276.setTop (mkF m 29 #[.val (.ref a), .val (.int (1 : Int32)), .val (.int (3 : Int32)), .val (.int (1 : Int32)), .val (.int c1)] [(.int (0 : Int32))]))
        exact Run.retN X276 hx hret (t := .boolean) (by simp) hlk (hb hby d9_29) (by first | (rw [e276]; exact ⟨by simp [own_en, own_e1, own_bad, own_dg, nar, hc277, hc278], N276, rfl⟩) | exact ⟨by simp [own_en, own_e1, own_bad, own_dg, nar, hc277, hc278], N276, rfl⟩) (by decide) (by decide)
      · skip
        refine Run.pre (fun _ k => XS.icmpYes X276.here hx rfl (pc0 := 25) (pc' := 30) rfl (hb hby d9_25) rfl (flt (hc278 : ¬ ((57 : Int32) < c1))).2.2.2 (by decide) (by decide) k) ?_
        show Run p e below s _ _ _ (T276.setTop (mkF m 30 #[.val (.ref a), .val (.int (1 : Int32)), .val (.int (3 : Int32)), .val (.int (1 : Int32)), .val (.int c1)] []))
        refine Run.pre (fun _ k => XS.iinc X276.here hx rfl (hb hby d9_30) rfl (l' := #[.val (.ref a), .val (.int (1 : Int32)), .val (.int (3 : Int32)), .val (.int (2 : Int32)), .val (.int c1)]) rfl k) ?_
        show Run p e below s _ _ _ (T276.setTop (mkF m 33 #[.val (.ref a), .val (.int (1 : Int32)), .val (.int (3 : Int32)), .val (.int (2 : Int32)), .val (.int c1)] []))
        refine Run.pre (fun _ k => XS.goto X276.here hx rfl (pc0 := 33) (pc' := 2) rfl (hb hby d9_33) (by decide) (by decide) k) ?_
        show Run p e below s _ _ _ (T276.setTop (mkF m 2 #[.val (.ref a), .val (.int (1 : Int32)), .val (.int (3 : Int32)), .val (.int (2 : Int32)), .val (.int c1)] []))
        refine Run.pre (fun _ k => XS.iloadN X276.here hx rfl (hb hby d9_2) rfl  k) ?_
        show Run p e below s _ _ _ (T276.setTop (mkF m 3 #[.val (.ref a), .val (.int (1 : Int32)), .val (.int (3 : Int32)), .val (.int (2 : Int32)), .val (.int c1)] [(.int (2 : Int32))]))
        refine Run.pre (fun _ k => XS.iloadN X276.here hx rfl (hb hby d9_3) rfl  k) ?_
        show Run p e below s _ _ _ (T276.setTop (mkF m 4 #[.val (.ref a), .val (.int (1 : Int32)), .val (.int (3 : Int32)), .val (.int (2 : Int32)), .val (.int c1)] [(.int (3 : Int32)), (.int (2 : Int32))]))
        refine Run.pre (fun _ k => XS.icmpNo X276.here hx rfl (hb hby d9_4) rfl (tlt ((by decide) : (2 : Int32) < (3 : Int32))).2.1 k) ?_
        show Run p e below s _ _ _ (T276.setTop (mkF m 7 #[.val (.ref a), .val (.int (1 : Int32)), .val (.int (3 : Int32)), .val (.int (2 : Int32)), .val (.int c1)] []))
        refine Run.pre (fun _ k => XS.aloadN X276.here hx rfl (hb hby d9_7) rfl rfl k) ?_
        show Run p e below s _ _ _ (T276.setTop (mkF m 8 #[.val (.ref a), .val (.int (1 : Int32)), .val (.int (3 : Int32)), .val (.int (2 : Int32)), .val (.int c1)] [(.ref a)]))
        refine Run.pre (fun _ k => XS.iloadN X276.here hx rfl (hb hby d9_8) rfl  k) ?_
        show Run p e below s _ _ _ (T276.setTop (mkF m 9 #[.val (.ref a), .val (.int (1 : Int32)), .val (.int (3 : Int32)), .val (.int (2 : Int32)), .val (.int c1)] [(.int (2 : Int32)), (.ref a)]))
        refine Run.callV X276 hx hZ (y := (⟨"java/lang/String", "charAt", "(I)C"⟩ : MethodName)) (z := (⟨"java/lang/String", "charAt", "(I)C"⟩ : MethodName)) hown (hw _ (List.mem_of_getElem? (i := 45) rfl)) (hw _ (List.mem_of_getElem? (i := 46) rfl)) (notFace_of_selects (args := #[]) (mvT hZ (hw _ (List.mem_of_getElem? (i := 48) rfl)))) (hw _ (List.mem_of_getElem? (i := 48) rfl)) (hw _ (List.mem_of_getElem? (i := 47) rfl)) (hw _ (List.mem_of_getElem? (i := 49) rfl)) (hw _ (List.mem_of_getElem? (i := 8) rfl)) (by decide) (b := a) E_a (W := 0) (rmCA_2 l Z a0 hw a b k c0 c1 c2 c3 cs fw h0 n0 (Nat.le_trans Z0 (Keep.refl h0 []).1) OL SC hcs SF hfw SA SH SL E_a FV DQ w0 w1 w2 w3) e276 (by decide) (by decide) (by decide) (by decide) (g := (mkF m 9 #[.val (.ref a), .val (.int (1 : Int32)), .val (.int (3 : Int32)), .val (.int (2 : Int32)), .val (.int c1)] [(.int (2 : Int32)), (.ref a)])) rfl (by rw [hml]; rfl) (argsL := [(.int (2 : Int32))]) (rest := []) (lenOf pd_14 rfl) rfl (by show 2 * 0 + _ ≤ _; exact Nat.le_of_eq rfl) (hb hby d9_9) ?_
        intro v279 T279 L279 X279 hQ279
        obtain ⟨rfl, Nq279, he279⟩ := hQ279
        have N279 := Fr.app N276 Nq279
        have e279 : T279.heap = h0 := he279
        show Run p e below s _ _ _ (T279.setTop (mkF m 12 #[.val (.ref a), .val (.int (1 : Int32)), .val (.int (3 : Int32)), .val (.int (2 : Int32)), .val (.int c1)] [(.int c2)]))
        refine Run.pre (fun _ k => XS.istore X279.here hx rfl (hb hby d9_12) rfl (l' := #[.val (.ref a), .val (.int (1 : Int32)), .val (.int (3 : Int32)), .val (.int (2 : Int32)), .val (.int c2)]) rfl k) ?_
        show Run p e below s _ _ _ (T279.setTop (mkF m 14 #[.val (.ref a), .val (.int (1 : Int32)), .val (.int (3 : Int32)), .val (.int (2 : Int32)), .val (.int c2)] []))
        refine Run.pre (fun _ k => XS.iload X279.here hx rfl (hb hby d9_14) rfl  k) ?_
        show Run p e below s _ _ _ (T279.setTop (mkF m 16 #[.val (.ref a), .val (.int (1 : Int32)), .val (.int (3 : Int32)), .val (.int (2 : Int32)), .val (.int c2)] [(.int c2)]))
        refine Run.pre (fun _ k => XS.bipush X279.here hx rfl (hb hby d9_16) k) ?_
        show Run p e below s _ _ _ (T279.setTop (mkF m 18 #[.val (.ref a), .val (.int (1 : Int32)), .val (.int (3 : Int32)), .val (.int (2 : Int32)), .val (.int c2)] [(.int (48 : Int32)), (.int c2)]))
        by_cases hc280 : c2 < (48 : Int32)
        · skip
          refine Run.pre (fun _ k => XS.icmpYes X279.here hx rfl (pc0 := 18) (pc' := 28) rfl (hb hby d9_18) rfl (tlt (hc280 : c2 < (48 : Int32))).1 (by decide) (by decide) k) ?_
          show Run p e below s _ _ _ (T279.setTop (mkF m 28 #[.val (.ref a), .val (.int (1 : Int32)), .val (.int (3 : Int32)), .val (.int (2 : Int32)), .val (.int c2)] []))
          refine Run.pre (fun _ k => XS.iconst X279.here hx rfl (hb hby d9_28) k) ?_
          show Run p e below s _ _ _ (T279.setTop (mkF m 29 #[.val (.ref a), .val (.int (1 : Int32)), .val (.int (3 : Int32)), .val (.int (2 : Int32)), .val (.int c2)] [(.int (0 : Int32))]))
          exact Run.retN X279 hx hret (t := .boolean) (by simp) hlk (hb hby d9_29) (by first | (rw [e279]; exact ⟨by simp [own_en, own_e1, own_bad, own_dg, nar, hc277, hc278, hc280], N279, rfl⟩) | exact ⟨by simp [own_en, own_e1, own_bad, own_dg, nar, hc277, hc278, hc280], N279, rfl⟩) (by decide) (by decide)
        · skip
          refine Run.pre (fun _ k => XS.icmpNo X279.here hx rfl (hb hby d9_18) rfl (flt (hc280 : ¬ (c2 < (48 : Int32)))).1 k) ?_
          show Run p e below s _ _ _ (T279.setTop (mkF m 21 #[.val (.ref a), .val (.int (1 : Int32)), .val (.int (3 : Int32)), .val (.int (2 : Int32)), .val (.int c2)] []))
          refine Run.pre (fun _ k => XS.iload X279.here hx rfl (hb hby d9_21) rfl  k) ?_
          show Run p e below s _ _ _ (T279.setTop (mkF m 23 #[.val (.ref a), .val (.int (1 : Int32)), .val (.int (3 : Int32)), .val (.int (2 : Int32)), .val (.int c2)] [(.int c2)]))
          refine Run.pre (fun _ k => XS.bipush X279.here hx rfl (hb hby d9_23) k) ?_
          show Run p e below s _ _ _ (T279.setTop (mkF m 25 #[.val (.ref a), .val (.int (1 : Int32)), .val (.int (3 : Int32)), .val (.int (2 : Int32)), .val (.int c2)] [(.int (57 : Int32)), (.int c2)]))
          by_cases hc281 : (57 : Int32) < c2
          · skip
            refine Run.pre (fun _ k => XS.icmpNo X279.here hx rfl (hb hby d9_25) rfl (tlt (hc281 : (57 : Int32) < c2)).2.2.2 k) ?_
            show Run p e below s _ _ _ (T279.setTop (mkF m 28 #[.val (.ref a), .val (.int (1 : Int32)), .val (.int (3 : Int32)), .val (.int (2 : Int32)), .val (.int c2)] []))
            refine Run.pre (fun _ k => XS.iconst X279.here hx rfl (hb hby d9_28) k) ?_
            show Run p e below s _ _ _ (T279.setTop (mkF m 29 #[.val (.ref a), .val (.int (1 : Int32)), .val (.int (3 : Int32)), .val (.int (2 : Int32)), .val (.int c2)] [(.int (0 : Int32))]))
            exact Run.retN X279 hx hret (t := .boolean) (by simp) hlk (hb hby d9_29) (by first | (rw [e279]; exact ⟨by simp [own_en, own_e1, own_bad, own_dg, nar, hc277, hc278, hc280, hc281], N279, rfl⟩) | exact ⟨by simp [own_en, own_e1, own_bad, own_dg, nar, hc277, hc278, hc280, hc281], N279, rfl⟩) (by decide) (by decide)
          · skip
            refine Run.pre (fun _ k => XS.icmpYes X279.here hx rfl (pc0 := 25) (pc' := 30) rfl (hb hby d9_25) rfl (flt (hc281 : ¬ ((57 : Int32) < c2))).2.2.2 (by decide) (by decide) k) ?_
            show Run p e below s _ _ _ (T279.setTop (mkF m 30 #[.val (.ref a), .val (.int (1 : Int32)), .val (.int (3 : Int32)), .val (.int (2 : Int32)), .val (.int c2)] []))
            refine Run.pre (fun _ k => XS.iinc X279.here hx rfl (hb hby d9_30) rfl (l' := #[.val (.ref a), .val (.int (1 : Int32)), .val (.int (3 : Int32)), .val (.int (3 : Int32)), .val (.int c2)]) rfl k) ?_
            show Run p e below s _ _ _ (T279.setTop (mkF m 33 #[.val (.ref a), .val (.int (1 : Int32)), .val (.int (3 : Int32)), .val (.int (3 : Int32)), .val (.int c2)] []))
            refine Run.pre (fun _ k => XS.goto X279.here hx rfl (pc0 := 33) (pc' := 2) rfl (hb hby d9_33) (by decide) (by decide) k) ?_
            show Run p e below s _ _ _ (T279.setTop (mkF m 2 #[.val (.ref a), .val (.int (1 : Int32)), .val (.int (3 : Int32)), .val (.int (3 : Int32)), .val (.int c2)] []))
            refine Run.pre (fun _ k => XS.iloadN X279.here hx rfl (hb hby d9_2) rfl  k) ?_
            show Run p e below s _ _ _ (T279.setTop (mkF m 3 #[.val (.ref a), .val (.int (1 : Int32)), .val (.int (3 : Int32)), .val (.int (3 : Int32)), .val (.int c2)] [(.int (3 : Int32))]))
            refine Run.pre (fun _ k => XS.iloadN X279.here hx rfl (hb hby d9_3) rfl  k) ?_
            show Run p e below s _ _ _ (T279.setTop (mkF m 4 #[.val (.ref a), .val (.int (1 : Int32)), .val (.int (3 : Int32)), .val (.int (3 : Int32)), .val (.int c2)] [(.int (3 : Int32)), (.int (3 : Int32))]))
            refine Run.pre (fun _ k => XS.icmpYes X279.here hx rfl (pc0 := 4) (pc' := 36) rfl (hb hby d9_4) rfl (flt ((by decide) : ¬ ((3 : Int32) < (3 : Int32)))).2.1 (by decide) (by decide) k) ?_
            show Run p e below s _ _ _ (T279.setTop (mkF m 36 #[.val (.ref a), .val (.int (1 : Int32)), .val (.int (3 : Int32)), .val (.int (3 : Int32)), .val (.int c2)] []))
            refine Run.pre (fun _ k => XS.iconst X279.here hx rfl (hb hby d9_36) k) ?_
            show Run p e below s _ _ _ (T279.setTop (mkF m 37 #[.val (.ref a), .val (.int (1 : Int32)), .val (.int (3 : Int32)), .val (.int (3 : Int32)), .val (.int c2)] [(.int (1 : Int32))]))
            exact Run.retN X279 hx hret (t := .boolean) (by simp) hlk (hb hby d9_37) (by first | (rw [e279]; exact ⟨by simp [own_en, own_e1, own_bad, own_dg, nar, hc277, hc278, hc280, hc281], N279, rfl⟩) | exact ⟨by simp [own_en, own_e1, own_bad, own_dg, nar, hc277, hc278, hc280, hc281], N279, rfl⟩) (by decide) (by decide)
  · skip
    show Run p e below s _ _ _ (s₁.setTop (mkF m 0 #[.val (.ref a), .val (.int (1 : Int32)), .val (.int (4 : Int32)), .unset, .unset] []))
    refine Run.pre (fun _ k => XS.iloadN X0.here hx rfl (hb hby d9_0) rfl  k) ?_
    show Run p e below s _ _ _ (s₁.setTop (mkF m 1 #[.val (.ref a), .val (.int (1 : Int32)), .val (.int (4 : Int32)), .unset, .unset] [(.int (1 : Int32))]))
    refine Run.pre (fun _ k => XS.istoreN X0.here hx rfl (hb hby d9_1) rfl (l' := #[.val (.ref a), .val (.int (1 : Int32)), .val (.int (4 : Int32)), .val (.int (1 : Int32)), .unset]) rfl k) ?_
    show Run p e below s _ _ _ (s₁.setTop (mkF m 2 #[.val (.ref a), .val (.int (1 : Int32)), .val (.int (4 : Int32)), .val (.int (1 : Int32)), .unset] []))
    refine Run.pre (fun _ k => XS.iloadN X0.here hx rfl (hb hby d9_2) rfl  k) ?_
    show Run p e below s _ _ _ (s₁.setTop (mkF m 3 #[.val (.ref a), .val (.int (1 : Int32)), .val (.int (4 : Int32)), .val (.int (1 : Int32)), .unset] [(.int (1 : Int32))]))
    refine Run.pre (fun _ k => XS.iloadN X0.here hx rfl (hb hby d9_3) rfl  k) ?_
    show Run p e below s _ _ _ (s₁.setTop (mkF m 4 #[.val (.ref a), .val (.int (1 : Int32)), .val (.int (4 : Int32)), .val (.int (1 : Int32)), .unset] [(.int (4 : Int32)), (.int (1 : Int32))]))
    refine Run.pre (fun _ k => XS.icmpNo X0.here hx rfl (hb hby d9_4) rfl (tlt ((by decide) : (1 : Int32) < (4 : Int32))).2.1 k) ?_
    show Run p e below s _ _ _ (s₁.setTop (mkF m 7 #[.val (.ref a), .val (.int (1 : Int32)), .val (.int (4 : Int32)), .val (.int (1 : Int32)), .unset] []))
    refine Run.pre (fun _ k => XS.aloadN X0.here hx rfl (hb hby d9_7) rfl rfl k) ?_
    show Run p e below s _ _ _ (s₁.setTop (mkF m 8 #[.val (.ref a), .val (.int (1 : Int32)), .val (.int (4 : Int32)), .val (.int (1 : Int32)), .unset] [(.ref a)]))
    refine Run.pre (fun _ k => XS.iloadN X0.here hx rfl (hb hby d9_8) rfl  k) ?_
    show Run p e below s _ _ _ (s₁.setTop (mkF m 9 #[.val (.ref a), .val (.int (1 : Int32)), .val (.int (4 : Int32)), .val (.int (1 : Int32)), .unset] [(.int (1 : Int32)), (.ref a)]))
    refine Run.callV X0 hx hZ (y := (⟨"java/lang/String", "charAt", "(I)C"⟩ : MethodName)) (z := (⟨"java/lang/String", "charAt", "(I)C"⟩ : MethodName)) hown (hw _ (List.mem_of_getElem? (i := 45) rfl)) (hw _ (List.mem_of_getElem? (i := 46) rfl)) (notFace_of_selects (args := #[]) (mvT hZ (hw _ (List.mem_of_getElem? (i := 48) rfl)))) (hw _ (List.mem_of_getElem? (i := 48) rfl)) (hw _ (List.mem_of_getElem? (i := 47) rfl)) (hw _ (List.mem_of_getElem? (i := 49) rfl)) (hw _ (List.mem_of_getElem? (i := 8) rfl)) (by decide) (b := a) E_a (W := 0) (rmCA_1 l Z a0 hw a b k c0 c1 c2 c3 cs fw h0 n0 (Nat.le_trans Z0 (Keep.refl h0 []).1) OL SC hcs SF hfw SA SH SL E_a FV DQ w0 w1 w2 w3) e0 (by decide) (by decide) (by decide) (by decide) (g := (mkF m 9 #[.val (.ref a), .val (.int (1 : Int32)), .val (.int (4 : Int32)), .val (.int (1 : Int32)), .unset] [(.int (1 : Int32)), (.ref a)])) rfl (by rw [hml]; rfl) (argsL := [(.int (1 : Int32))]) (rest := []) (lenOf pd_14 rfl) rfl (by show 2 * 0 + _ ≤ _; exact Nat.le_of_eq rfl) (hb hby d9_9) ?_
    intro v282 T282 L282 X282 hQ282
    obtain ⟨rfl, Nq282, he282⟩ := hQ282
    have N282 := Fr.app N0 Nq282
    have e282 : T282.heap = h0 := he282
    show Run p e below s _ _ _ (T282.setTop (mkF m 12 #[.val (.ref a), .val (.int (1 : Int32)), .val (.int (4 : Int32)), .val (.int (1 : Int32)), .unset] [(.int c1)]))
    refine Run.pre (fun _ k => XS.istore X282.here hx rfl (hb hby d9_12) rfl (l' := #[.val (.ref a), .val (.int (1 : Int32)), .val (.int (4 : Int32)), .val (.int (1 : Int32)), .val (.int c1)]) rfl k) ?_
    show Run p e below s _ _ _ (T282.setTop (mkF m 14 #[.val (.ref a), .val (.int (1 : Int32)), .val (.int (4 : Int32)), .val (.int (1 : Int32)), .val (.int c1)] []))
    refine Run.pre (fun _ k => XS.iload X282.here hx rfl (hb hby d9_14) rfl  k) ?_
    show Run p e below s _ _ _ (T282.setTop (mkF m 16 #[.val (.ref a), .val (.int (1 : Int32)), .val (.int (4 : Int32)), .val (.int (1 : Int32)), .val (.int c1)] [(.int c1)]))
    refine Run.pre (fun _ k => XS.bipush X282.here hx rfl (hb hby d9_16) k) ?_
    show Run p e below s _ _ _ (T282.setTop (mkF m 18 #[.val (.ref a), .val (.int (1 : Int32)), .val (.int (4 : Int32)), .val (.int (1 : Int32)), .val (.int c1)] [(.int (48 : Int32)), (.int c1)]))
    by_cases hc283 : c1 < (48 : Int32)
    · skip
      refine Run.pre (fun _ k => XS.icmpYes X282.here hx rfl (pc0 := 18) (pc' := 28) rfl (hb hby d9_18) rfl (tlt (hc283 : c1 < (48 : Int32))).1 (by decide) (by decide) k) ?_
      show Run p e below s _ _ _ (T282.setTop (mkF m 28 #[.val (.ref a), .val (.int (1 : Int32)), .val (.int (4 : Int32)), .val (.int (1 : Int32)), .val (.int c1)] []))
      refine Run.pre (fun _ k => XS.iconst X282.here hx rfl (hb hby d9_28) k) ?_
      show Run p e below s _ _ _ (T282.setTop (mkF m 29 #[.val (.ref a), .val (.int (1 : Int32)), .val (.int (4 : Int32)), .val (.int (1 : Int32)), .val (.int c1)] [(.int (0 : Int32))]))
      exact Run.retN X282 hx hret (t := .boolean) (by simp) hlk (hb hby d9_29) (by first | (rw [e282]; exact ⟨by simp [own_en, own_e1, own_bad, own_dg, nar, hc283], N282, rfl⟩) | exact ⟨by simp [own_en, own_e1, own_bad, own_dg, nar, hc283], N282, rfl⟩) (by decide) (by decide)
    · skip
      refine Run.pre (fun _ k => XS.icmpNo X282.here hx rfl (hb hby d9_18) rfl (flt (hc283 : ¬ (c1 < (48 : Int32)))).1 k) ?_
      show Run p e below s _ _ _ (T282.setTop (mkF m 21 #[.val (.ref a), .val (.int (1 : Int32)), .val (.int (4 : Int32)), .val (.int (1 : Int32)), .val (.int c1)] []))
      refine Run.pre (fun _ k => XS.iload X282.here hx rfl (hb hby d9_21) rfl  k) ?_
      show Run p e below s _ _ _ (T282.setTop (mkF m 23 #[.val (.ref a), .val (.int (1 : Int32)), .val (.int (4 : Int32)), .val (.int (1 : Int32)), .val (.int c1)] [(.int c1)]))
      refine Run.pre (fun _ k => XS.bipush X282.here hx rfl (hb hby d9_23) k) ?_
      show Run p e below s _ _ _ (T282.setTop (mkF m 25 #[.val (.ref a), .val (.int (1 : Int32)), .val (.int (4 : Int32)), .val (.int (1 : Int32)), .val (.int c1)] [(.int (57 : Int32)), (.int c1)]))
      by_cases hc284 : (57 : Int32) < c1
      · skip
        refine Run.pre (fun _ k => XS.icmpNo X282.here hx rfl (hb hby d9_25) rfl (tlt (hc284 : (57 : Int32) < c1)).2.2.2 k) ?_
        show Run p e below s _ _ _ (T282.setTop (mkF m 28 #[.val (.ref a), .val (.int (1 : Int32)), .val (.int (4 : Int32)), .val (.int (1 : Int32)), .val (.int c1)] []))
        refine Run.pre (fun _ k => XS.iconst X282.here hx rfl (hb hby d9_28) k) ?_
        show Run p e below s _ _ _ (T282.setTop (mkF m 29 #[.val (.ref a), .val (.int (1 : Int32)), .val (.int (4 : Int32)), .val (.int (1 : Int32)), .val (.int c1)] [(.int (0 : Int32))]))
        exact Run.retN X282 hx hret (t := .boolean) (by simp) hlk (hb hby d9_29) (by first | (rw [e282]; exact ⟨by simp [own_en, own_e1, own_bad, own_dg, nar, hc283, hc284], N282, rfl⟩) | exact ⟨by simp [own_en, own_e1, own_bad, own_dg, nar, hc283, hc284], N282, rfl⟩) (by decide) (by decide)
      · skip
        refine Run.pre (fun _ k => XS.icmpYes X282.here hx rfl (pc0 := 25) (pc' := 30) rfl (hb hby d9_25) rfl (flt (hc284 : ¬ ((57 : Int32) < c1))).2.2.2 (by decide) (by decide) k) ?_
        show Run p e below s _ _ _ (T282.setTop (mkF m 30 #[.val (.ref a), .val (.int (1 : Int32)), .val (.int (4 : Int32)), .val (.int (1 : Int32)), .val (.int c1)] []))
        refine Run.pre (fun _ k => XS.iinc X282.here hx rfl (hb hby d9_30) rfl (l' := #[.val (.ref a), .val (.int (1 : Int32)), .val (.int (4 : Int32)), .val (.int (2 : Int32)), .val (.int c1)]) rfl k) ?_
        show Run p e below s _ _ _ (T282.setTop (mkF m 33 #[.val (.ref a), .val (.int (1 : Int32)), .val (.int (4 : Int32)), .val (.int (2 : Int32)), .val (.int c1)] []))
        refine Run.pre (fun _ k => XS.goto X282.here hx rfl (pc0 := 33) (pc' := 2) rfl (hb hby d9_33) (by decide) (by decide) k) ?_
        show Run p e below s _ _ _ (T282.setTop (mkF m 2 #[.val (.ref a), .val (.int (1 : Int32)), .val (.int (4 : Int32)), .val (.int (2 : Int32)), .val (.int c1)] []))
        refine Run.pre (fun _ k => XS.iloadN X282.here hx rfl (hb hby d9_2) rfl  k) ?_
        show Run p e below s _ _ _ (T282.setTop (mkF m 3 #[.val (.ref a), .val (.int (1 : Int32)), .val (.int (4 : Int32)), .val (.int (2 : Int32)), .val (.int c1)] [(.int (2 : Int32))]))
        refine Run.pre (fun _ k => XS.iloadN X282.here hx rfl (hb hby d9_3) rfl  k) ?_
        show Run p e below s _ _ _ (T282.setTop (mkF m 4 #[.val (.ref a), .val (.int (1 : Int32)), .val (.int (4 : Int32)), .val (.int (2 : Int32)), .val (.int c1)] [(.int (4 : Int32)), (.int (2 : Int32))]))
        refine Run.pre (fun _ k => XS.icmpNo X282.here hx rfl (hb hby d9_4) rfl (tlt ((by decide) : (2 : Int32) < (4 : Int32))).2.1 k) ?_
        show Run p e below s _ _ _ (T282.setTop (mkF m 7 #[.val (.ref a), .val (.int (1 : Int32)), .val (.int (4 : Int32)), .val (.int (2 : Int32)), .val (.int c1)] []))
        refine Run.pre (fun _ k => XS.aloadN X282.here hx rfl (hb hby d9_7) rfl rfl k) ?_
        show Run p e below s _ _ _ (T282.setTop (mkF m 8 #[.val (.ref a), .val (.int (1 : Int32)), .val (.int (4 : Int32)), .val (.int (2 : Int32)), .val (.int c1)] [(.ref a)]))
        refine Run.pre (fun _ k => XS.iloadN X282.here hx rfl (hb hby d9_8) rfl  k) ?_
        show Run p e below s _ _ _ (T282.setTop (mkF m 9 #[.val (.ref a), .val (.int (1 : Int32)), .val (.int (4 : Int32)), .val (.int (2 : Int32)), .val (.int c1)] [(.int (2 : Int32)), (.ref a)]))
        refine Run.callV X282 hx hZ (y := (⟨"java/lang/String", "charAt", "(I)C"⟩ : MethodName)) (z := (⟨"java/lang/String", "charAt", "(I)C"⟩ : MethodName)) hown (hw _ (List.mem_of_getElem? (i := 45) rfl)) (hw _ (List.mem_of_getElem? (i := 46) rfl)) (notFace_of_selects (args := #[]) (mvT hZ (hw _ (List.mem_of_getElem? (i := 48) rfl)))) (hw _ (List.mem_of_getElem? (i := 48) rfl)) (hw _ (List.mem_of_getElem? (i := 47) rfl)) (hw _ (List.mem_of_getElem? (i := 49) rfl)) (hw _ (List.mem_of_getElem? (i := 8) rfl)) (by decide) (b := a) E_a (W := 0) (rmCA_2 l Z a0 hw a b k c0 c1 c2 c3 cs fw h0 n0 (Nat.le_trans Z0 (Keep.refl h0 []).1) OL SC hcs SF hfw SA SH SL E_a FV DQ w0 w1 w2 w3) e282 (by decide) (by decide) (by decide) (by decide) (g := (mkF m 9 #[.val (.ref a), .val (.int (1 : Int32)), .val (.int (4 : Int32)), .val (.int (2 : Int32)), .val (.int c1)] [(.int (2 : Int32)), (.ref a)])) rfl (by rw [hml]; rfl) (argsL := [(.int (2 : Int32))]) (rest := []) (lenOf pd_14 rfl) rfl (by show 2 * 0 + _ ≤ _; exact Nat.le_of_eq rfl) (hb hby d9_9) ?_
        intro v285 T285 L285 X285 hQ285
        obtain ⟨rfl, Nq285, he285⟩ := hQ285
        have N285 := Fr.app N282 Nq285
        have e285 : T285.heap = h0 := he285
        show Run p e below s _ _ _ (T285.setTop (mkF m 12 #[.val (.ref a), .val (.int (1 : Int32)), .val (.int (4 : Int32)), .val (.int (2 : Int32)), .val (.int c1)] [(.int c2)]))
        refine Run.pre (fun _ k => XS.istore X285.here hx rfl (hb hby d9_12) rfl (l' := #[.val (.ref a), .val (.int (1 : Int32)), .val (.int (4 : Int32)), .val (.int (2 : Int32)), .val (.int c2)]) rfl k) ?_
        show Run p e below s _ _ _ (T285.setTop (mkF m 14 #[.val (.ref a), .val (.int (1 : Int32)), .val (.int (4 : Int32)), .val (.int (2 : Int32)), .val (.int c2)] []))
        refine Run.pre (fun _ k => XS.iload X285.here hx rfl (hb hby d9_14) rfl  k) ?_
        show Run p e below s _ _ _ (T285.setTop (mkF m 16 #[.val (.ref a), .val (.int (1 : Int32)), .val (.int (4 : Int32)), .val (.int (2 : Int32)), .val (.int c2)] [(.int c2)]))
        refine Run.pre (fun _ k => XS.bipush X285.here hx rfl (hb hby d9_16) k) ?_
        show Run p e below s _ _ _ (T285.setTop (mkF m 18 #[.val (.ref a), .val (.int (1 : Int32)), .val (.int (4 : Int32)), .val (.int (2 : Int32)), .val (.int c2)] [(.int (48 : Int32)), (.int c2)]))
        by_cases hc286 : c2 < (48 : Int32)
        · skip
          refine Run.pre (fun _ k => XS.icmpYes X285.here hx rfl (pc0 := 18) (pc' := 28) rfl (hb hby d9_18) rfl (tlt (hc286 : c2 < (48 : Int32))).1 (by decide) (by decide) k) ?_
          show Run p e below s _ _ _ (T285.setTop (mkF m 28 #[.val (.ref a), .val (.int (1 : Int32)), .val (.int (4 : Int32)), .val (.int (2 : Int32)), .val (.int c2)] []))
          refine Run.pre (fun _ k => XS.iconst X285.here hx rfl (hb hby d9_28) k) ?_
          show Run p e below s _ _ _ (T285.setTop (mkF m 29 #[.val (.ref a), .val (.int (1 : Int32)), .val (.int (4 : Int32)), .val (.int (2 : Int32)), .val (.int c2)] [(.int (0 : Int32))]))
          exact Run.retN X285 hx hret (t := .boolean) (by simp) hlk (hb hby d9_29) (by first | (rw [e285]; exact ⟨by simp [own_en, own_e1, own_bad, own_dg, nar, hc283, hc284, hc286], N285, rfl⟩) | exact ⟨by simp [own_en, own_e1, own_bad, own_dg, nar, hc283, hc284, hc286], N285, rfl⟩) (by decide) (by decide)
        · skip
          refine Run.pre (fun _ k => XS.icmpNo X285.here hx rfl (hb hby d9_18) rfl (flt (hc286 : ¬ (c2 < (48 : Int32)))).1 k) ?_
          show Run p e below s _ _ _ (T285.setTop (mkF m 21 #[.val (.ref a), .val (.int (1 : Int32)), .val (.int (4 : Int32)), .val (.int (2 : Int32)), .val (.int c2)] []))
          refine Run.pre (fun _ k => XS.iload X285.here hx rfl (hb hby d9_21) rfl  k) ?_
          show Run p e below s _ _ _ (T285.setTop (mkF m 23 #[.val (.ref a), .val (.int (1 : Int32)), .val (.int (4 : Int32)), .val (.int (2 : Int32)), .val (.int c2)] [(.int c2)]))
          refine Run.pre (fun _ k => XS.bipush X285.here hx rfl (hb hby d9_23) k) ?_
          show Run p e below s _ _ _ (T285.setTop (mkF m 25 #[.val (.ref a), .val (.int (1 : Int32)), .val (.int (4 : Int32)), .val (.int (2 : Int32)), .val (.int c2)] [(.int (57 : Int32)), (.int c2)]))
          by_cases hc287 : (57 : Int32) < c2
          · skip
            refine Run.pre (fun _ k => XS.icmpNo X285.here hx rfl (hb hby d9_25) rfl (tlt (hc287 : (57 : Int32) < c2)).2.2.2 k) ?_
            show Run p e below s _ _ _ (T285.setTop (mkF m 28 #[.val (.ref a), .val (.int (1 : Int32)), .val (.int (4 : Int32)), .val (.int (2 : Int32)), .val (.int c2)] []))
            refine Run.pre (fun _ k => XS.iconst X285.here hx rfl (hb hby d9_28) k) ?_
            show Run p e below s _ _ _ (T285.setTop (mkF m 29 #[.val (.ref a), .val (.int (1 : Int32)), .val (.int (4 : Int32)), .val (.int (2 : Int32)), .val (.int c2)] [(.int (0 : Int32))]))
            exact Run.retN X285 hx hret (t := .boolean) (by simp) hlk (hb hby d9_29) (by first | (rw [e285]; exact ⟨by simp [own_en, own_e1, own_bad, own_dg, nar, hc283, hc284, hc286, hc287], N285, rfl⟩) | exact ⟨by simp [own_en, own_e1, own_bad, own_dg, nar, hc283, hc284, hc286, hc287], N285, rfl⟩) (by decide) (by decide)
          · skip
            refine Run.pre (fun _ k => XS.icmpYes X285.here hx rfl (pc0 := 25) (pc' := 30) rfl (hb hby d9_25) rfl (flt (hc287 : ¬ ((57 : Int32) < c2))).2.2.2 (by decide) (by decide) k) ?_
            show Run p e below s _ _ _ (T285.setTop (mkF m 30 #[.val (.ref a), .val (.int (1 : Int32)), .val (.int (4 : Int32)), .val (.int (2 : Int32)), .val (.int c2)] []))
            refine Run.pre (fun _ k => XS.iinc X285.here hx rfl (hb hby d9_30) rfl (l' := #[.val (.ref a), .val (.int (1 : Int32)), .val (.int (4 : Int32)), .val (.int (3 : Int32)), .val (.int c2)]) rfl k) ?_
            show Run p e below s _ _ _ (T285.setTop (mkF m 33 #[.val (.ref a), .val (.int (1 : Int32)), .val (.int (4 : Int32)), .val (.int (3 : Int32)), .val (.int c2)] []))
            refine Run.pre (fun _ k => XS.goto X285.here hx rfl (pc0 := 33) (pc' := 2) rfl (hb hby d9_33) (by decide) (by decide) k) ?_
            show Run p e below s _ _ _ (T285.setTop (mkF m 2 #[.val (.ref a), .val (.int (1 : Int32)), .val (.int (4 : Int32)), .val (.int (3 : Int32)), .val (.int c2)] []))
            refine Run.pre (fun _ k => XS.iloadN X285.here hx rfl (hb hby d9_2) rfl  k) ?_
            show Run p e below s _ _ _ (T285.setTop (mkF m 3 #[.val (.ref a), .val (.int (1 : Int32)), .val (.int (4 : Int32)), .val (.int (3 : Int32)), .val (.int c2)] [(.int (3 : Int32))]))
            refine Run.pre (fun _ k => XS.iloadN X285.here hx rfl (hb hby d9_3) rfl  k) ?_
            show Run p e below s _ _ _ (T285.setTop (mkF m 4 #[.val (.ref a), .val (.int (1 : Int32)), .val (.int (4 : Int32)), .val (.int (3 : Int32)), .val (.int c2)] [(.int (4 : Int32)), (.int (3 : Int32))]))
            refine Run.pre (fun _ k => XS.icmpNo X285.here hx rfl (hb hby d9_4) rfl (tlt ((by decide) : (3 : Int32) < (4 : Int32))).2.1 k) ?_
            show Run p e below s _ _ _ (T285.setTop (mkF m 7 #[.val (.ref a), .val (.int (1 : Int32)), .val (.int (4 : Int32)), .val (.int (3 : Int32)), .val (.int c2)] []))
            refine Run.pre (fun _ k => XS.aloadN X285.here hx rfl (hb hby d9_7) rfl rfl k) ?_
            show Run p e below s _ _ _ (T285.setTop (mkF m 8 #[.val (.ref a), .val (.int (1 : Int32)), .val (.int (4 : Int32)), .val (.int (3 : Int32)), .val (.int c2)] [(.ref a)]))
            refine Run.pre (fun _ k => XS.iloadN X285.here hx rfl (hb hby d9_8) rfl  k) ?_
            show Run p e below s _ _ _ (T285.setTop (mkF m 9 #[.val (.ref a), .val (.int (1 : Int32)), .val (.int (4 : Int32)), .val (.int (3 : Int32)), .val (.int c2)] [(.int (3 : Int32)), (.ref a)]))
            refine Run.callV X285 hx hZ (y := (⟨"java/lang/String", "charAt", "(I)C"⟩ : MethodName)) (z := (⟨"java/lang/String", "charAt", "(I)C"⟩ : MethodName)) hown (hw _ (List.mem_of_getElem? (i := 45) rfl)) (hw _ (List.mem_of_getElem? (i := 46) rfl)) (notFace_of_selects (args := #[]) (mvT hZ (hw _ (List.mem_of_getElem? (i := 48) rfl)))) (hw _ (List.mem_of_getElem? (i := 48) rfl)) (hw _ (List.mem_of_getElem? (i := 47) rfl)) (hw _ (List.mem_of_getElem? (i := 49) rfl)) (hw _ (List.mem_of_getElem? (i := 8) rfl)) (by decide) (b := a) E_a (W := 0) (rmCA_3 l Z a0 hw a b k c0 c1 c2 c3 cs fw h0 n0 (Nat.le_trans Z0 (Keep.refl h0 []).1) OL SC hcs SF hfw SA SH SL E_a FV DQ w0 w1 w2 w3) e285 (by decide) (by decide) (by decide) (by decide) (g := (mkF m 9 #[.val (.ref a), .val (.int (1 : Int32)), .val (.int (4 : Int32)), .val (.int (3 : Int32)), .val (.int c2)] [(.int (3 : Int32)), (.ref a)])) rfl (by rw [hml]; rfl) (argsL := [(.int (3 : Int32))]) (rest := []) (lenOf pd_14 rfl) rfl (by show 2 * 0 + _ ≤ _; exact Nat.le_of_eq rfl) (hb hby d9_9) ?_
            intro v288 T288 L288 X288 hQ288
            obtain ⟨rfl, Nq288, he288⟩ := hQ288
            have N288 := Fr.app N285 Nq288
            have e288 : T288.heap = h0 := he288
            show Run p e below s _ _ _ (T288.setTop (mkF m 12 #[.val (.ref a), .val (.int (1 : Int32)), .val (.int (4 : Int32)), .val (.int (3 : Int32)), .val (.int c2)] [(.int c3)]))
            refine Run.pre (fun _ k => XS.istore X288.here hx rfl (hb hby d9_12) rfl (l' := #[.val (.ref a), .val (.int (1 : Int32)), .val (.int (4 : Int32)), .val (.int (3 : Int32)), .val (.int c3)]) rfl k) ?_
            show Run p e below s _ _ _ (T288.setTop (mkF m 14 #[.val (.ref a), .val (.int (1 : Int32)), .val (.int (4 : Int32)), .val (.int (3 : Int32)), .val (.int c3)] []))
            refine Run.pre (fun _ k => XS.iload X288.here hx rfl (hb hby d9_14) rfl  k) ?_
            show Run p e below s _ _ _ (T288.setTop (mkF m 16 #[.val (.ref a), .val (.int (1 : Int32)), .val (.int (4 : Int32)), .val (.int (3 : Int32)), .val (.int c3)] [(.int c3)]))
            refine Run.pre (fun _ k => XS.bipush X288.here hx rfl (hb hby d9_16) k) ?_
            show Run p e below s _ _ _ (T288.setTop (mkF m 18 #[.val (.ref a), .val (.int (1 : Int32)), .val (.int (4 : Int32)), .val (.int (3 : Int32)), .val (.int c3)] [(.int (48 : Int32)), (.int c3)]))
            by_cases hc289 : c3 < (48 : Int32)
            · skip
              refine Run.pre (fun _ k => XS.icmpYes X288.here hx rfl (pc0 := 18) (pc' := 28) rfl (hb hby d9_18) rfl (tlt (hc289 : c3 < (48 : Int32))).1 (by decide) (by decide) k) ?_
              show Run p e below s _ _ _ (T288.setTop (mkF m 28 #[.val (.ref a), .val (.int (1 : Int32)), .val (.int (4 : Int32)), .val (.int (3 : Int32)), .val (.int c3)] []))
              refine Run.pre (fun _ k => XS.iconst X288.here hx rfl (hb hby d9_28) k) ?_
              show Run p e below s _ _ _ (T288.setTop (mkF m 29 #[.val (.ref a), .val (.int (1 : Int32)), .val (.int (4 : Int32)), .val (.int (3 : Int32)), .val (.int c3)] [(.int (0 : Int32))]))
              exact Run.retN X288 hx hret (t := .boolean) (by simp) hlk (hb hby d9_29) (by first | (rw [e288]; exact ⟨by simp [own_en, own_e1, own_bad, own_dg, nar, hc283, hc284, hc286, hc287, hc289], N288, rfl⟩) | exact ⟨by simp [own_en, own_e1, own_bad, own_dg, nar, hc283, hc284, hc286, hc287, hc289], N288, rfl⟩) (by decide) (by decide)
            · skip
              refine Run.pre (fun _ k => XS.icmpNo X288.here hx rfl (hb hby d9_18) rfl (flt (hc289 : ¬ (c3 < (48 : Int32)))).1 k) ?_
              show Run p e below s _ _ _ (T288.setTop (mkF m 21 #[.val (.ref a), .val (.int (1 : Int32)), .val (.int (4 : Int32)), .val (.int (3 : Int32)), .val (.int c3)] []))
              refine Run.pre (fun _ k => XS.iload X288.here hx rfl (hb hby d9_21) rfl  k) ?_
              show Run p e below s _ _ _ (T288.setTop (mkF m 23 #[.val (.ref a), .val (.int (1 : Int32)), .val (.int (4 : Int32)), .val (.int (3 : Int32)), .val (.int c3)] [(.int c3)]))
              refine Run.pre (fun _ k => XS.bipush X288.here hx rfl (hb hby d9_23) k) ?_
              show Run p e below s _ _ _ (T288.setTop (mkF m 25 #[.val (.ref a), .val (.int (1 : Int32)), .val (.int (4 : Int32)), .val (.int (3 : Int32)), .val (.int c3)] [(.int (57 : Int32)), (.int c3)]))
              by_cases hc290 : (57 : Int32) < c3
              · skip
                refine Run.pre (fun _ k => XS.icmpNo X288.here hx rfl (hb hby d9_25) rfl (tlt (hc290 : (57 : Int32) < c3)).2.2.2 k) ?_
                show Run p e below s _ _ _ (T288.setTop (mkF m 28 #[.val (.ref a), .val (.int (1 : Int32)), .val (.int (4 : Int32)), .val (.int (3 : Int32)), .val (.int c3)] []))
                refine Run.pre (fun _ k => XS.iconst X288.here hx rfl (hb hby d9_28) k) ?_
                show Run p e below s _ _ _ (T288.setTop (mkF m 29 #[.val (.ref a), .val (.int (1 : Int32)), .val (.int (4 : Int32)), .val (.int (3 : Int32)), .val (.int c3)] [(.int (0 : Int32))]))
                exact Run.retN X288 hx hret (t := .boolean) (by simp) hlk (hb hby d9_29) (by first | (rw [e288]; exact ⟨by simp [own_en, own_e1, own_bad, own_dg, nar, hc283, hc284, hc286, hc287, hc289, hc290], N288, rfl⟩) | exact ⟨by simp [own_en, own_e1, own_bad, own_dg, nar, hc283, hc284, hc286, hc287, hc289, hc290], N288, rfl⟩) (by decide) (by decide)
              · skip
                refine Run.pre (fun _ k => XS.icmpYes X288.here hx rfl (pc0 := 25) (pc' := 30) rfl (hb hby d9_25) rfl (flt (hc290 : ¬ ((57 : Int32) < c3))).2.2.2 (by decide) (by decide) k) ?_
                show Run p e below s _ _ _ (T288.setTop (mkF m 30 #[.val (.ref a), .val (.int (1 : Int32)), .val (.int (4 : Int32)), .val (.int (3 : Int32)), .val (.int c3)] []))
                refine Run.pre (fun _ k => XS.iinc X288.here hx rfl (hb hby d9_30) rfl (l' := #[.val (.ref a), .val (.int (1 : Int32)), .val (.int (4 : Int32)), .val (.int (4 : Int32)), .val (.int c3)]) rfl k) ?_
                show Run p e below s _ _ _ (T288.setTop (mkF m 33 #[.val (.ref a), .val (.int (1 : Int32)), .val (.int (4 : Int32)), .val (.int (4 : Int32)), .val (.int c3)] []))
                refine Run.pre (fun _ k => XS.goto X288.here hx rfl (pc0 := 33) (pc' := 2) rfl (hb hby d9_33) (by decide) (by decide) k) ?_
                show Run p e below s _ _ _ (T288.setTop (mkF m 2 #[.val (.ref a), .val (.int (1 : Int32)), .val (.int (4 : Int32)), .val (.int (4 : Int32)), .val (.int c3)] []))
                refine Run.pre (fun _ k => XS.iloadN X288.here hx rfl (hb hby d9_2) rfl  k) ?_
                show Run p e below s _ _ _ (T288.setTop (mkF m 3 #[.val (.ref a), .val (.int (1 : Int32)), .val (.int (4 : Int32)), .val (.int (4 : Int32)), .val (.int c3)] [(.int (4 : Int32))]))
                refine Run.pre (fun _ k => XS.iloadN X288.here hx rfl (hb hby d9_3) rfl  k) ?_
                show Run p e below s _ _ _ (T288.setTop (mkF m 4 #[.val (.ref a), .val (.int (1 : Int32)), .val (.int (4 : Int32)), .val (.int (4 : Int32)), .val (.int c3)] [(.int (4 : Int32)), (.int (4 : Int32))]))
                refine Run.pre (fun _ k => XS.icmpYes X288.here hx rfl (pc0 := 4) (pc' := 36) rfl (hb hby d9_4) rfl (flt ((by decide) : ¬ ((4 : Int32) < (4 : Int32)))).2.1 (by decide) (by decide) k) ?_
                show Run p e below s _ _ _ (T288.setTop (mkF m 36 #[.val (.ref a), .val (.int (1 : Int32)), .val (.int (4 : Int32)), .val (.int (4 : Int32)), .val (.int c3)] []))
                refine Run.pre (fun _ k => XS.iconst X288.here hx rfl (hb hby d9_36) k) ?_
                show Run p e below s _ _ _ (T288.setTop (mkF m 37 #[.val (.ref a), .val (.int (1 : Int32)), .val (.int (4 : Int32)), .val (.int (4 : Int32)), .val (.int c3)] [(.int (1 : Int32))]))
                exact Run.retN X288 hx hret (t := .boolean) (by simp) hlk (hb hby d9_37) (by first | (rw [e288]; exact ⟨by simp [own_en, own_e1, own_bad, own_dg, nar, hc283, hc284, hc286, hc287, hc289, hc290], N288, rfl⟩) | exact ⟨by simp [own_en, own_e1, own_bad, own_dg, nar, hc283, hc284, hc286, hc287, hc289, hc290], N288, rfl⟩) (by decide) (by decide)
  · skip
    show Run p e below s _ _ _ (s₁.setTop (mkF m 0 #[.val (.ref a), .val (.int (2 : Int32)), .val (.int (2 : Int32)), .unset, .unset] []))
    refine Run.pre (fun _ k => XS.iloadN X0.here hx rfl (hb hby d9_0) rfl  k) ?_
    show Run p e below s _ _ _ (s₁.setTop (mkF m 1 #[.val (.ref a), .val (.int (2 : Int32)), .val (.int (2 : Int32)), .unset, .unset] [(.int (2 : Int32))]))
    refine Run.pre (fun _ k => XS.istoreN X0.here hx rfl (hb hby d9_1) rfl (l' := #[.val (.ref a), .val (.int (2 : Int32)), .val (.int (2 : Int32)), .val (.int (2 : Int32)), .unset]) rfl k) ?_
    show Run p e below s _ _ _ (s₁.setTop (mkF m 2 #[.val (.ref a), .val (.int (2 : Int32)), .val (.int (2 : Int32)), .val (.int (2 : Int32)), .unset] []))
    refine Run.pre (fun _ k => XS.iloadN X0.here hx rfl (hb hby d9_2) rfl  k) ?_
    show Run p e below s _ _ _ (s₁.setTop (mkF m 3 #[.val (.ref a), .val (.int (2 : Int32)), .val (.int (2 : Int32)), .val (.int (2 : Int32)), .unset] [(.int (2 : Int32))]))
    refine Run.pre (fun _ k => XS.iloadN X0.here hx rfl (hb hby d9_3) rfl  k) ?_
    show Run p e below s _ _ _ (s₁.setTop (mkF m 4 #[.val (.ref a), .val (.int (2 : Int32)), .val (.int (2 : Int32)), .val (.int (2 : Int32)), .unset] [(.int (2 : Int32)), (.int (2 : Int32))]))
    refine Run.pre (fun _ k => XS.icmpYes X0.here hx rfl (pc0 := 4) (pc' := 36) rfl (hb hby d9_4) rfl (flt ((by decide) : ¬ ((2 : Int32) < (2 : Int32)))).2.1 (by decide) (by decide) k) ?_
    show Run p e below s _ _ _ (s₁.setTop (mkF m 36 #[.val (.ref a), .val (.int (2 : Int32)), .val (.int (2 : Int32)), .val (.int (2 : Int32)), .unset] []))
    refine Run.pre (fun _ k => XS.iconst X0.here hx rfl (hb hby d9_36) k) ?_
    show Run p e below s _ _ _ (s₁.setTop (mkF m 37 #[.val (.ref a), .val (.int (2 : Int32)), .val (.int (2 : Int32)), .val (.int (2 : Int32)), .unset] [(.int (1 : Int32))]))
    exact Run.retN X0 hx hret (t := .boolean) (by simp) hlk (hb hby d9_37) (by first | (rw [e0]; exact ⟨by simp [own_en, own_e1, own_bad, own_dg, nar], N0, rfl⟩) | exact ⟨by simp [own_en, own_e1, own_bad, own_dg, nar], N0, rfl⟩) (by decide) (by decide)
  · skip
    show Run p e below s _ _ _ (s₁.setTop (mkF m 0 #[.val (.ref a), .val (.int (2 : Int32)), .val (.int (3 : Int32)), .unset, .unset] []))
    refine Run.pre (fun _ k => XS.iloadN X0.here hx rfl (hb hby d9_0) rfl  k) ?_
    show Run p e below s _ _ _ (s₁.setTop (mkF m 1 #[.val (.ref a), .val (.int (2 : Int32)), .val (.int (3 : Int32)), .unset, .unset] [(.int (2 : Int32))]))
    refine Run.pre (fun _ k => XS.istoreN X0.here hx rfl (hb hby d9_1) rfl (l' := #[.val (.ref a), .val (.int (2 : Int32)), .val (.int (3 : Int32)), .val (.int (2 : Int32)), .unset]) rfl k) ?_
    show Run p e below s _ _ _ (s₁.setTop (mkF m 2 #[.val (.ref a), .val (.int (2 : Int32)), .val (.int (3 : Int32)), .val (.int (2 : Int32)), .unset] []))
    refine Run.pre (fun _ k => XS.iloadN X0.here hx rfl (hb hby d9_2) rfl  k) ?_
    show Run p e below s _ _ _ (s₁.setTop (mkF m 3 #[.val (.ref a), .val (.int (2 : Int32)), .val (.int (3 : Int32)), .val (.int (2 : Int32)), .unset] [(.int (2 : Int32))]))
    refine Run.pre (fun _ k => XS.iloadN X0.here hx rfl (hb hby d9_3) rfl  k) ?_
    show Run p e below s _ _ _ (s₁.setTop (mkF m 4 #[.val (.ref a), .val (.int (2 : Int32)), .val (.int (3 : Int32)), .val (.int (2 : Int32)), .unset] [(.int (3 : Int32)), (.int (2 : Int32))]))
    refine Run.pre (fun _ k => XS.icmpNo X0.here hx rfl (hb hby d9_4) rfl (tlt ((by decide) : (2 : Int32) < (3 : Int32))).2.1 k) ?_
    show Run p e below s _ _ _ (s₁.setTop (mkF m 7 #[.val (.ref a), .val (.int (2 : Int32)), .val (.int (3 : Int32)), .val (.int (2 : Int32)), .unset] []))
    refine Run.pre (fun _ k => XS.aloadN X0.here hx rfl (hb hby d9_7) rfl rfl k) ?_
    show Run p e below s _ _ _ (s₁.setTop (mkF m 8 #[.val (.ref a), .val (.int (2 : Int32)), .val (.int (3 : Int32)), .val (.int (2 : Int32)), .unset] [(.ref a)]))
    refine Run.pre (fun _ k => XS.iloadN X0.here hx rfl (hb hby d9_8) rfl  k) ?_
    show Run p e below s _ _ _ (s₁.setTop (mkF m 9 #[.val (.ref a), .val (.int (2 : Int32)), .val (.int (3 : Int32)), .val (.int (2 : Int32)), .unset] [(.int (2 : Int32)), (.ref a)]))
    refine Run.callV X0 hx hZ (y := (⟨"java/lang/String", "charAt", "(I)C"⟩ : MethodName)) (z := (⟨"java/lang/String", "charAt", "(I)C"⟩ : MethodName)) hown (hw _ (List.mem_of_getElem? (i := 45) rfl)) (hw _ (List.mem_of_getElem? (i := 46) rfl)) (notFace_of_selects (args := #[]) (mvT hZ (hw _ (List.mem_of_getElem? (i := 48) rfl)))) (hw _ (List.mem_of_getElem? (i := 48) rfl)) (hw _ (List.mem_of_getElem? (i := 47) rfl)) (hw _ (List.mem_of_getElem? (i := 49) rfl)) (hw _ (List.mem_of_getElem? (i := 8) rfl)) (by decide) (b := a) E_a (W := 0) (rmCA_2 l Z a0 hw a b k c0 c1 c2 c3 cs fw h0 n0 (Nat.le_trans Z0 (Keep.refl h0 []).1) OL SC hcs SF hfw SA SH SL E_a FV DQ w0 w1 w2 w3) e0 (by decide) (by decide) (by decide) (by decide) (g := (mkF m 9 #[.val (.ref a), .val (.int (2 : Int32)), .val (.int (3 : Int32)), .val (.int (2 : Int32)), .unset] [(.int (2 : Int32)), (.ref a)])) rfl (by rw [hml]; rfl) (argsL := [(.int (2 : Int32))]) (rest := []) (lenOf pd_14 rfl) rfl (by show 2 * 0 + _ ≤ _; exact Nat.le_of_eq rfl) (hb hby d9_9) ?_
    intro v291 T291 L291 X291 hQ291
    obtain ⟨rfl, Nq291, he291⟩ := hQ291
    have N291 := Fr.app N0 Nq291
    have e291 : T291.heap = h0 := he291
    show Run p e below s _ _ _ (T291.setTop (mkF m 12 #[.val (.ref a), .val (.int (2 : Int32)), .val (.int (3 : Int32)), .val (.int (2 : Int32)), .unset] [(.int c2)]))
    refine Run.pre (fun _ k => XS.istore X291.here hx rfl (hb hby d9_12) rfl (l' := #[.val (.ref a), .val (.int (2 : Int32)), .val (.int (3 : Int32)), .val (.int (2 : Int32)), .val (.int c2)]) rfl k) ?_
    show Run p e below s _ _ _ (T291.setTop (mkF m 14 #[.val (.ref a), .val (.int (2 : Int32)), .val (.int (3 : Int32)), .val (.int (2 : Int32)), .val (.int c2)] []))
    refine Run.pre (fun _ k => XS.iload X291.here hx rfl (hb hby d9_14) rfl  k) ?_
    show Run p e below s _ _ _ (T291.setTop (mkF m 16 #[.val (.ref a), .val (.int (2 : Int32)), .val (.int (3 : Int32)), .val (.int (2 : Int32)), .val (.int c2)] [(.int c2)]))
    refine Run.pre (fun _ k => XS.bipush X291.here hx rfl (hb hby d9_16) k) ?_
    show Run p e below s _ _ _ (T291.setTop (mkF m 18 #[.val (.ref a), .val (.int (2 : Int32)), .val (.int (3 : Int32)), .val (.int (2 : Int32)), .val (.int c2)] [(.int (48 : Int32)), (.int c2)]))
    by_cases hc292 : c2 < (48 : Int32)
    · skip
      refine Run.pre (fun _ k => XS.icmpYes X291.here hx rfl (pc0 := 18) (pc' := 28) rfl (hb hby d9_18) rfl (tlt (hc292 : c2 < (48 : Int32))).1 (by decide) (by decide) k) ?_
      show Run p e below s _ _ _ (T291.setTop (mkF m 28 #[.val (.ref a), .val (.int (2 : Int32)), .val (.int (3 : Int32)), .val (.int (2 : Int32)), .val (.int c2)] []))
      refine Run.pre (fun _ k => XS.iconst X291.here hx rfl (hb hby d9_28) k) ?_
      show Run p e below s _ _ _ (T291.setTop (mkF m 29 #[.val (.ref a), .val (.int (2 : Int32)), .val (.int (3 : Int32)), .val (.int (2 : Int32)), .val (.int c2)] [(.int (0 : Int32))]))
      exact Run.retN X291 hx hret (t := .boolean) (by simp) hlk (hb hby d9_29) (by first | (rw [e291]; exact ⟨by simp [own_en, own_e1, own_bad, own_dg, nar, hc292], N291, rfl⟩) | exact ⟨by simp [own_en, own_e1, own_bad, own_dg, nar, hc292], N291, rfl⟩) (by decide) (by decide)
    · skip
      refine Run.pre (fun _ k => XS.icmpNo X291.here hx rfl (hb hby d9_18) rfl (flt (hc292 : ¬ (c2 < (48 : Int32)))).1 k) ?_
      show Run p e below s _ _ _ (T291.setTop (mkF m 21 #[.val (.ref a), .val (.int (2 : Int32)), .val (.int (3 : Int32)), .val (.int (2 : Int32)), .val (.int c2)] []))
      refine Run.pre (fun _ k => XS.iload X291.here hx rfl (hb hby d9_21) rfl  k) ?_
      show Run p e below s _ _ _ (T291.setTop (mkF m 23 #[.val (.ref a), .val (.int (2 : Int32)), .val (.int (3 : Int32)), .val (.int (2 : Int32)), .val (.int c2)] [(.int c2)]))
      refine Run.pre (fun _ k => XS.bipush X291.here hx rfl (hb hby d9_23) k) ?_
      show Run p e below s _ _ _ (T291.setTop (mkF m 25 #[.val (.ref a), .val (.int (2 : Int32)), .val (.int (3 : Int32)), .val (.int (2 : Int32)), .val (.int c2)] [(.int (57 : Int32)), (.int c2)]))
      by_cases hc293 : (57 : Int32) < c2
      · skip
        refine Run.pre (fun _ k => XS.icmpNo X291.here hx rfl (hb hby d9_25) rfl (tlt (hc293 : (57 : Int32) < c2)).2.2.2 k) ?_
        show Run p e below s _ _ _ (T291.setTop (mkF m 28 #[.val (.ref a), .val (.int (2 : Int32)), .val (.int (3 : Int32)), .val (.int (2 : Int32)), .val (.int c2)] []))
        refine Run.pre (fun _ k => XS.iconst X291.here hx rfl (hb hby d9_28) k) ?_
        show Run p e below s _ _ _ (T291.setTop (mkF m 29 #[.val (.ref a), .val (.int (2 : Int32)), .val (.int (3 : Int32)), .val (.int (2 : Int32)), .val (.int c2)] [(.int (0 : Int32))]))
        exact Run.retN X291 hx hret (t := .boolean) (by simp) hlk (hb hby d9_29) (by first | (rw [e291]; exact ⟨by simp [own_en, own_e1, own_bad, own_dg, nar, hc292, hc293], N291, rfl⟩) | exact ⟨by simp [own_en, own_e1, own_bad, own_dg, nar, hc292, hc293], N291, rfl⟩) (by decide) (by decide)
      · skip
        refine Run.pre (fun _ k => XS.icmpYes X291.here hx rfl (pc0 := 25) (pc' := 30) rfl (hb hby d9_25) rfl (flt (hc293 : ¬ ((57 : Int32) < c2))).2.2.2 (by decide) (by decide) k) ?_
        show Run p e below s _ _ _ (T291.setTop (mkF m 30 #[.val (.ref a), .val (.int (2 : Int32)), .val (.int (3 : Int32)), .val (.int (2 : Int32)), .val (.int c2)] []))
        refine Run.pre (fun _ k => XS.iinc X291.here hx rfl (hb hby d9_30) rfl (l' := #[.val (.ref a), .val (.int (2 : Int32)), .val (.int (3 : Int32)), .val (.int (3 : Int32)), .val (.int c2)]) rfl k) ?_
        show Run p e below s _ _ _ (T291.setTop (mkF m 33 #[.val (.ref a), .val (.int (2 : Int32)), .val (.int (3 : Int32)), .val (.int (3 : Int32)), .val (.int c2)] []))
        refine Run.pre (fun _ k => XS.goto X291.here hx rfl (pc0 := 33) (pc' := 2) rfl (hb hby d9_33) (by decide) (by decide) k) ?_
        show Run p e below s _ _ _ (T291.setTop (mkF m 2 #[.val (.ref a), .val (.int (2 : Int32)), .val (.int (3 : Int32)), .val (.int (3 : Int32)), .val (.int c2)] []))
        refine Run.pre (fun _ k => XS.iloadN X291.here hx rfl (hb hby d9_2) rfl  k) ?_
        show Run p e below s _ _ _ (T291.setTop (mkF m 3 #[.val (.ref a), .val (.int (2 : Int32)), .val (.int (3 : Int32)), .val (.int (3 : Int32)), .val (.int c2)] [(.int (3 : Int32))]))
        refine Run.pre (fun _ k => XS.iloadN X291.here hx rfl (hb hby d9_3) rfl  k) ?_
        show Run p e below s _ _ _ (T291.setTop (mkF m 4 #[.val (.ref a), .val (.int (2 : Int32)), .val (.int (3 : Int32)), .val (.int (3 : Int32)), .val (.int c2)] [(.int (3 : Int32)), (.int (3 : Int32))]))
        refine Run.pre (fun _ k => XS.icmpYes X291.here hx rfl (pc0 := 4) (pc' := 36) rfl (hb hby d9_4) rfl (flt ((by decide) : ¬ ((3 : Int32) < (3 : Int32)))).2.1 (by decide) (by decide) k) ?_
        show Run p e below s _ _ _ (T291.setTop (mkF m 36 #[.val (.ref a), .val (.int (2 : Int32)), .val (.int (3 : Int32)), .val (.int (3 : Int32)), .val (.int c2)] []))
        refine Run.pre (fun _ k => XS.iconst X291.here hx rfl (hb hby d9_36) k) ?_
        show Run p e below s _ _ _ (T291.setTop (mkF m 37 #[.val (.ref a), .val (.int (2 : Int32)), .val (.int (3 : Int32)), .val (.int (3 : Int32)), .val (.int c2)] [(.int (1 : Int32))]))
        exact Run.retN X291 hx hret (t := .boolean) (by simp) hlk (hb hby d9_37) (by first | (rw [e291]; exact ⟨by simp [own_en, own_e1, own_bad, own_dg, nar, hc292, hc293], N291, rfl⟩) | exact ⟨by simp [own_en, own_e1, own_bad, own_dg, nar, hc292, hc293], N291, rfl⟩) (by decide) (by decide)
  · skip
    show Run p e below s _ _ _ (s₁.setTop (mkF m 0 #[.val (.ref a), .val (.int (2 : Int32)), .val (.int (4 : Int32)), .unset, .unset] []))
    refine Run.pre (fun _ k => XS.iloadN X0.here hx rfl (hb hby d9_0) rfl  k) ?_
    show Run p e below s _ _ _ (s₁.setTop (mkF m 1 #[.val (.ref a), .val (.int (2 : Int32)), .val (.int (4 : Int32)), .unset, .unset] [(.int (2 : Int32))]))
    refine Run.pre (fun _ k => XS.istoreN X0.here hx rfl (hb hby d9_1) rfl (l' := #[.val (.ref a), .val (.int (2 : Int32)), .val (.int (4 : Int32)), .val (.int (2 : Int32)), .unset]) rfl k) ?_
    show Run p e below s _ _ _ (s₁.setTop (mkF m 2 #[.val (.ref a), .val (.int (2 : Int32)), .val (.int (4 : Int32)), .val (.int (2 : Int32)), .unset] []))
    refine Run.pre (fun _ k => XS.iloadN X0.here hx rfl (hb hby d9_2) rfl  k) ?_
    show Run p e below s _ _ _ (s₁.setTop (mkF m 3 #[.val (.ref a), .val (.int (2 : Int32)), .val (.int (4 : Int32)), .val (.int (2 : Int32)), .unset] [(.int (2 : Int32))]))
    refine Run.pre (fun _ k => XS.iloadN X0.here hx rfl (hb hby d9_3) rfl  k) ?_
    show Run p e below s _ _ _ (s₁.setTop (mkF m 4 #[.val (.ref a), .val (.int (2 : Int32)), .val (.int (4 : Int32)), .val (.int (2 : Int32)), .unset] [(.int (4 : Int32)), (.int (2 : Int32))]))
    refine Run.pre (fun _ k => XS.icmpNo X0.here hx rfl (hb hby d9_4) rfl (tlt ((by decide) : (2 : Int32) < (4 : Int32))).2.1 k) ?_
    show Run p e below s _ _ _ (s₁.setTop (mkF m 7 #[.val (.ref a), .val (.int (2 : Int32)), .val (.int (4 : Int32)), .val (.int (2 : Int32)), .unset] []))
    refine Run.pre (fun _ k => XS.aloadN X0.here hx rfl (hb hby d9_7) rfl rfl k) ?_
    show Run p e below s _ _ _ (s₁.setTop (mkF m 8 #[.val (.ref a), .val (.int (2 : Int32)), .val (.int (4 : Int32)), .val (.int (2 : Int32)), .unset] [(.ref a)]))
    refine Run.pre (fun _ k => XS.iloadN X0.here hx rfl (hb hby d9_8) rfl  k) ?_
    show Run p e below s _ _ _ (s₁.setTop (mkF m 9 #[.val (.ref a), .val (.int (2 : Int32)), .val (.int (4 : Int32)), .val (.int (2 : Int32)), .unset] [(.int (2 : Int32)), (.ref a)]))
    refine Run.callV X0 hx hZ (y := (⟨"java/lang/String", "charAt", "(I)C"⟩ : MethodName)) (z := (⟨"java/lang/String", "charAt", "(I)C"⟩ : MethodName)) hown (hw _ (List.mem_of_getElem? (i := 45) rfl)) (hw _ (List.mem_of_getElem? (i := 46) rfl)) (notFace_of_selects (args := #[]) (mvT hZ (hw _ (List.mem_of_getElem? (i := 48) rfl)))) (hw _ (List.mem_of_getElem? (i := 48) rfl)) (hw _ (List.mem_of_getElem? (i := 47) rfl)) (hw _ (List.mem_of_getElem? (i := 49) rfl)) (hw _ (List.mem_of_getElem? (i := 8) rfl)) (by decide) (b := a) E_a (W := 0) (rmCA_2 l Z a0 hw a b k c0 c1 c2 c3 cs fw h0 n0 (Nat.le_trans Z0 (Keep.refl h0 []).1) OL SC hcs SF hfw SA SH SL E_a FV DQ w0 w1 w2 w3) e0 (by decide) (by decide) (by decide) (by decide) (g := (mkF m 9 #[.val (.ref a), .val (.int (2 : Int32)), .val (.int (4 : Int32)), .val (.int (2 : Int32)), .unset] [(.int (2 : Int32)), (.ref a)])) rfl (by rw [hml]; rfl) (argsL := [(.int (2 : Int32))]) (rest := []) (lenOf pd_14 rfl) rfl (by show 2 * 0 + _ ≤ _; exact Nat.le_of_eq rfl) (hb hby d9_9) ?_
    intro v294 T294 L294 X294 hQ294
    obtain ⟨rfl, Nq294, he294⟩ := hQ294
    have N294 := Fr.app N0 Nq294
    have e294 : T294.heap = h0 := he294
    show Run p e below s _ _ _ (T294.setTop (mkF m 12 #[.val (.ref a), .val (.int (2 : Int32)), .val (.int (4 : Int32)), .val (.int (2 : Int32)), .unset] [(.int c2)]))
    refine Run.pre (fun _ k => XS.istore X294.here hx rfl (hb hby d9_12) rfl (l' := #[.val (.ref a), .val (.int (2 : Int32)), .val (.int (4 : Int32)), .val (.int (2 : Int32)), .val (.int c2)]) rfl k) ?_
    show Run p e below s _ _ _ (T294.setTop (mkF m 14 #[.val (.ref a), .val (.int (2 : Int32)), .val (.int (4 : Int32)), .val (.int (2 : Int32)), .val (.int c2)] []))
    refine Run.pre (fun _ k => XS.iload X294.here hx rfl (hb hby d9_14) rfl  k) ?_
    show Run p e below s _ _ _ (T294.setTop (mkF m 16 #[.val (.ref a), .val (.int (2 : Int32)), .val (.int (4 : Int32)), .val (.int (2 : Int32)), .val (.int c2)] [(.int c2)]))
    refine Run.pre (fun _ k => XS.bipush X294.here hx rfl (hb hby d9_16) k) ?_
    show Run p e below s _ _ _ (T294.setTop (mkF m 18 #[.val (.ref a), .val (.int (2 : Int32)), .val (.int (4 : Int32)), .val (.int (2 : Int32)), .val (.int c2)] [(.int (48 : Int32)), (.int c2)]))
    by_cases hc295 : c2 < (48 : Int32)
    · skip
      refine Run.pre (fun _ k => XS.icmpYes X294.here hx rfl (pc0 := 18) (pc' := 28) rfl (hb hby d9_18) rfl (tlt (hc295 : c2 < (48 : Int32))).1 (by decide) (by decide) k) ?_
      show Run p e below s _ _ _ (T294.setTop (mkF m 28 #[.val (.ref a), .val (.int (2 : Int32)), .val (.int (4 : Int32)), .val (.int (2 : Int32)), .val (.int c2)] []))
      refine Run.pre (fun _ k => XS.iconst X294.here hx rfl (hb hby d9_28) k) ?_
      show Run p e below s _ _ _ (T294.setTop (mkF m 29 #[.val (.ref a), .val (.int (2 : Int32)), .val (.int (4 : Int32)), .val (.int (2 : Int32)), .val (.int c2)] [(.int (0 : Int32))]))
      exact Run.retN X294 hx hret (t := .boolean) (by simp) hlk (hb hby d9_29) (by first | (rw [e294]; exact ⟨by simp [own_en, own_e1, own_bad, own_dg, nar, hc295], N294, rfl⟩) | exact ⟨by simp [own_en, own_e1, own_bad, own_dg, nar, hc295], N294, rfl⟩) (by decide) (by decide)
    · skip
      refine Run.pre (fun _ k => XS.icmpNo X294.here hx rfl (hb hby d9_18) rfl (flt (hc295 : ¬ (c2 < (48 : Int32)))).1 k) ?_
      show Run p e below s _ _ _ (T294.setTop (mkF m 21 #[.val (.ref a), .val (.int (2 : Int32)), .val (.int (4 : Int32)), .val (.int (2 : Int32)), .val (.int c2)] []))
      refine Run.pre (fun _ k => XS.iload X294.here hx rfl (hb hby d9_21) rfl  k) ?_
      show Run p e below s _ _ _ (T294.setTop (mkF m 23 #[.val (.ref a), .val (.int (2 : Int32)), .val (.int (4 : Int32)), .val (.int (2 : Int32)), .val (.int c2)] [(.int c2)]))
      refine Run.pre (fun _ k => XS.bipush X294.here hx rfl (hb hby d9_23) k) ?_
      show Run p e below s _ _ _ (T294.setTop (mkF m 25 #[.val (.ref a), .val (.int (2 : Int32)), .val (.int (4 : Int32)), .val (.int (2 : Int32)), .val (.int c2)] [(.int (57 : Int32)), (.int c2)]))
      by_cases hc296 : (57 : Int32) < c2
      · skip
        refine Run.pre (fun _ k => XS.icmpNo X294.here hx rfl (hb hby d9_25) rfl (tlt (hc296 : (57 : Int32) < c2)).2.2.2 k) ?_
        show Run p e below s _ _ _ (T294.setTop (mkF m 28 #[.val (.ref a), .val (.int (2 : Int32)), .val (.int (4 : Int32)), .val (.int (2 : Int32)), .val (.int c2)] []))
        refine Run.pre (fun _ k => XS.iconst X294.here hx rfl (hb hby d9_28) k) ?_
        show Run p e below s _ _ _ (T294.setTop (mkF m 29 #[.val (.ref a), .val (.int (2 : Int32)), .val (.int (4 : Int32)), .val (.int (2 : Int32)), .val (.int c2)] [(.int (0 : Int32))]))
        exact Run.retN X294 hx hret (t := .boolean) (by simp) hlk (hb hby d9_29) (by first | (rw [e294]; exact ⟨by simp [own_en, own_e1, own_bad, own_dg, nar, hc295, hc296], N294, rfl⟩) | exact ⟨by simp [own_en, own_e1, own_bad, own_dg, nar, hc295, hc296], N294, rfl⟩) (by decide) (by decide)
      · skip
        refine Run.pre (fun _ k => XS.icmpYes X294.here hx rfl (pc0 := 25) (pc' := 30) rfl (hb hby d9_25) rfl (flt (hc296 : ¬ ((57 : Int32) < c2))).2.2.2 (by decide) (by decide) k) ?_
        show Run p e below s _ _ _ (T294.setTop (mkF m 30 #[.val (.ref a), .val (.int (2 : Int32)), .val (.int (4 : Int32)), .val (.int (2 : Int32)), .val (.int c2)] []))
        refine Run.pre (fun _ k => XS.iinc X294.here hx rfl (hb hby d9_30) rfl (l' := #[.val (.ref a), .val (.int (2 : Int32)), .val (.int (4 : Int32)), .val (.int (3 : Int32)), .val (.int c2)]) rfl k) ?_
        show Run p e below s _ _ _ (T294.setTop (mkF m 33 #[.val (.ref a), .val (.int (2 : Int32)), .val (.int (4 : Int32)), .val (.int (3 : Int32)), .val (.int c2)] []))
        refine Run.pre (fun _ k => XS.goto X294.here hx rfl (pc0 := 33) (pc' := 2) rfl (hb hby d9_33) (by decide) (by decide) k) ?_
        show Run p e below s _ _ _ (T294.setTop (mkF m 2 #[.val (.ref a), .val (.int (2 : Int32)), .val (.int (4 : Int32)), .val (.int (3 : Int32)), .val (.int c2)] []))
        refine Run.pre (fun _ k => XS.iloadN X294.here hx rfl (hb hby d9_2) rfl  k) ?_
        show Run p e below s _ _ _ (T294.setTop (mkF m 3 #[.val (.ref a), .val (.int (2 : Int32)), .val (.int (4 : Int32)), .val (.int (3 : Int32)), .val (.int c2)] [(.int (3 : Int32))]))
        refine Run.pre (fun _ k => XS.iloadN X294.here hx rfl (hb hby d9_3) rfl  k) ?_
        show Run p e below s _ _ _ (T294.setTop (mkF m 4 #[.val (.ref a), .val (.int (2 : Int32)), .val (.int (4 : Int32)), .val (.int (3 : Int32)), .val (.int c2)] [(.int (4 : Int32)), (.int (3 : Int32))]))
        refine Run.pre (fun _ k => XS.icmpNo X294.here hx rfl (hb hby d9_4) rfl (tlt ((by decide) : (3 : Int32) < (4 : Int32))).2.1 k) ?_
        show Run p e below s _ _ _ (T294.setTop (mkF m 7 #[.val (.ref a), .val (.int (2 : Int32)), .val (.int (4 : Int32)), .val (.int (3 : Int32)), .val (.int c2)] []))
        refine Run.pre (fun _ k => XS.aloadN X294.here hx rfl (hb hby d9_7) rfl rfl k) ?_
        show Run p e below s _ _ _ (T294.setTop (mkF m 8 #[.val (.ref a), .val (.int (2 : Int32)), .val (.int (4 : Int32)), .val (.int (3 : Int32)), .val (.int c2)] [(.ref a)]))
        refine Run.pre (fun _ k => XS.iloadN X294.here hx rfl (hb hby d9_8) rfl  k) ?_
        show Run p e below s _ _ _ (T294.setTop (mkF m 9 #[.val (.ref a), .val (.int (2 : Int32)), .val (.int (4 : Int32)), .val (.int (3 : Int32)), .val (.int c2)] [(.int (3 : Int32)), (.ref a)]))
        refine Run.callV X294 hx hZ (y := (⟨"java/lang/String", "charAt", "(I)C"⟩ : MethodName)) (z := (⟨"java/lang/String", "charAt", "(I)C"⟩ : MethodName)) hown (hw _ (List.mem_of_getElem? (i := 45) rfl)) (hw _ (List.mem_of_getElem? (i := 46) rfl)) (notFace_of_selects (args := #[]) (mvT hZ (hw _ (List.mem_of_getElem? (i := 48) rfl)))) (hw _ (List.mem_of_getElem? (i := 48) rfl)) (hw _ (List.mem_of_getElem? (i := 47) rfl)) (hw _ (List.mem_of_getElem? (i := 49) rfl)) (hw _ (List.mem_of_getElem? (i := 8) rfl)) (by decide) (b := a) E_a (W := 0) (rmCA_3 l Z a0 hw a b k c0 c1 c2 c3 cs fw h0 n0 (Nat.le_trans Z0 (Keep.refl h0 []).1) OL SC hcs SF hfw SA SH SL E_a FV DQ w0 w1 w2 w3) e294 (by decide) (by decide) (by decide) (by decide) (g := (mkF m 9 #[.val (.ref a), .val (.int (2 : Int32)), .val (.int (4 : Int32)), .val (.int (3 : Int32)), .val (.int c2)] [(.int (3 : Int32)), (.ref a)])) rfl (by rw [hml]; rfl) (argsL := [(.int (3 : Int32))]) (rest := []) (lenOf pd_14 rfl) rfl (by show 2 * 0 + _ ≤ _; exact Nat.le_of_eq rfl) (hb hby d9_9) ?_
        intro v297 T297 L297 X297 hQ297
        obtain ⟨rfl, Nq297, he297⟩ := hQ297
        have N297 := Fr.app N294 Nq297
        have e297 : T297.heap = h0 := he297
        show Run p e below s _ _ _ (T297.setTop (mkF m 12 #[.val (.ref a), .val (.int (2 : Int32)), .val (.int (4 : Int32)), .val (.int (3 : Int32)), .val (.int c2)] [(.int c3)]))
        refine Run.pre (fun _ k => XS.istore X297.here hx rfl (hb hby d9_12) rfl (l' := #[.val (.ref a), .val (.int (2 : Int32)), .val (.int (4 : Int32)), .val (.int (3 : Int32)), .val (.int c3)]) rfl k) ?_
        show Run p e below s _ _ _ (T297.setTop (mkF m 14 #[.val (.ref a), .val (.int (2 : Int32)), .val (.int (4 : Int32)), .val (.int (3 : Int32)), .val (.int c3)] []))
        refine Run.pre (fun _ k => XS.iload X297.here hx rfl (hb hby d9_14) rfl  k) ?_
        show Run p e below s _ _ _ (T297.setTop (mkF m 16 #[.val (.ref a), .val (.int (2 : Int32)), .val (.int (4 : Int32)), .val (.int (3 : Int32)), .val (.int c3)] [(.int c3)]))
        refine Run.pre (fun _ k => XS.bipush X297.here hx rfl (hb hby d9_16) k) ?_
        show Run p e below s _ _ _ (T297.setTop (mkF m 18 #[.val (.ref a), .val (.int (2 : Int32)), .val (.int (4 : Int32)), .val (.int (3 : Int32)), .val (.int c3)] [(.int (48 : Int32)), (.int c3)]))
        by_cases hc298 : c3 < (48 : Int32)
        · skip
          refine Run.pre (fun _ k => XS.icmpYes X297.here hx rfl (pc0 := 18) (pc' := 28) rfl (hb hby d9_18) rfl (tlt (hc298 : c3 < (48 : Int32))).1 (by decide) (by decide) k) ?_
          show Run p e below s _ _ _ (T297.setTop (mkF m 28 #[.val (.ref a), .val (.int (2 : Int32)), .val (.int (4 : Int32)), .val (.int (3 : Int32)), .val (.int c3)] []))
          refine Run.pre (fun _ k => XS.iconst X297.here hx rfl (hb hby d9_28) k) ?_
          show Run p e below s _ _ _ (T297.setTop (mkF m 29 #[.val (.ref a), .val (.int (2 : Int32)), .val (.int (4 : Int32)), .val (.int (3 : Int32)), .val (.int c3)] [(.int (0 : Int32))]))
          exact Run.retN X297 hx hret (t := .boolean) (by simp) hlk (hb hby d9_29) (by first | (rw [e297]; exact ⟨by simp [own_en, own_e1, own_bad, own_dg, nar, hc295, hc296, hc298], N297, rfl⟩) | exact ⟨by simp [own_en, own_e1, own_bad, own_dg, nar, hc295, hc296, hc298], N297, rfl⟩) (by decide) (by decide)
        · skip
          refine Run.pre (fun _ k => XS.icmpNo X297.here hx rfl (hb hby d9_18) rfl (flt (hc298 : ¬ (c3 < (48 : Int32)))).1 k) ?_
          show Run p e below s _ _ _ (T297.setTop (mkF m 21 #[.val (.ref a), .val (.int (2 : Int32)), .val (.int (4 : Int32)), .val (.int (3 : Int32)), .val (.int c3)] []))
          refine Run.pre (fun _ k => XS.iload X297.here hx rfl (hb hby d9_21) rfl  k) ?_
          show Run p e below s _ _ _ (T297.setTop (mkF m 23 #[.val (.ref a), .val (.int (2 : Int32)), .val (.int (4 : Int32)), .val (.int (3 : Int32)), .val (.int c3)] [(.int c3)]))
          refine Run.pre (fun _ k => XS.bipush X297.here hx rfl (hb hby d9_23) k) ?_
          show Run p e below s _ _ _ (T297.setTop (mkF m 25 #[.val (.ref a), .val (.int (2 : Int32)), .val (.int (4 : Int32)), .val (.int (3 : Int32)), .val (.int c3)] [(.int (57 : Int32)), (.int c3)]))
          by_cases hc299 : (57 : Int32) < c3
          · skip
            refine Run.pre (fun _ k => XS.icmpNo X297.here hx rfl (hb hby d9_25) rfl (tlt (hc299 : (57 : Int32) < c3)).2.2.2 k) ?_
            show Run p e below s _ _ _ (T297.setTop (mkF m 28 #[.val (.ref a), .val (.int (2 : Int32)), .val (.int (4 : Int32)), .val (.int (3 : Int32)), .val (.int c3)] []))
            refine Run.pre (fun _ k => XS.iconst X297.here hx rfl (hb hby d9_28) k) ?_
            show Run p e below s _ _ _ (T297.setTop (mkF m 29 #[.val (.ref a), .val (.int (2 : Int32)), .val (.int (4 : Int32)), .val (.int (3 : Int32)), .val (.int c3)] [(.int (0 : Int32))]))
            exact Run.retN X297 hx hret (t := .boolean) (by simp) hlk (hb hby d9_29) (by first | (rw [e297]; exact ⟨by simp [own_en, own_e1, own_bad, own_dg, nar, hc295, hc296, hc298, hc299], N297, rfl⟩) | exact ⟨by simp [own_en, own_e1, own_bad, own_dg, nar, hc295, hc296, hc298, hc299], N297, rfl⟩) (by decide) (by decide)
          · skip
            refine Run.pre (fun _ k => XS.icmpYes X297.here hx rfl (pc0 := 25) (pc' := 30) rfl (hb hby d9_25) rfl (flt (hc299 : ¬ ((57 : Int32) < c3))).2.2.2 (by decide) (by decide) k) ?_
            show Run p e below s _ _ _ (T297.setTop (mkF m 30 #[.val (.ref a), .val (.int (2 : Int32)), .val (.int (4 : Int32)), .val (.int (3 : Int32)), .val (.int c3)] []))
            refine Run.pre (fun _ k => XS.iinc X297.here hx rfl (hb hby d9_30) rfl (l' := #[.val (.ref a), .val (.int (2 : Int32)), .val (.int (4 : Int32)), .val (.int (4 : Int32)), .val (.int c3)]) rfl k) ?_
            show Run p e below s _ _ _ (T297.setTop (mkF m 33 #[.val (.ref a), .val (.int (2 : Int32)), .val (.int (4 : Int32)), .val (.int (4 : Int32)), .val (.int c3)] []))
            refine Run.pre (fun _ k => XS.goto X297.here hx rfl (pc0 := 33) (pc' := 2) rfl (hb hby d9_33) (by decide) (by decide) k) ?_
            show Run p e below s _ _ _ (T297.setTop (mkF m 2 #[.val (.ref a), .val (.int (2 : Int32)), .val (.int (4 : Int32)), .val (.int (4 : Int32)), .val (.int c3)] []))
            refine Run.pre (fun _ k => XS.iloadN X297.here hx rfl (hb hby d9_2) rfl  k) ?_
            show Run p e below s _ _ _ (T297.setTop (mkF m 3 #[.val (.ref a), .val (.int (2 : Int32)), .val (.int (4 : Int32)), .val (.int (4 : Int32)), .val (.int c3)] [(.int (4 : Int32))]))
            refine Run.pre (fun _ k => XS.iloadN X297.here hx rfl (hb hby d9_3) rfl  k) ?_
            show Run p e below s _ _ _ (T297.setTop (mkF m 4 #[.val (.ref a), .val (.int (2 : Int32)), .val (.int (4 : Int32)), .val (.int (4 : Int32)), .val (.int c3)] [(.int (4 : Int32)), (.int (4 : Int32))]))
            refine Run.pre (fun _ k => XS.icmpYes X297.here hx rfl (pc0 := 4) (pc' := 36) rfl (hb hby d9_4) rfl (flt ((by decide) : ¬ ((4 : Int32) < (4 : Int32)))).2.1 (by decide) (by decide) k) ?_
            show Run p e below s _ _ _ (T297.setTop (mkF m 36 #[.val (.ref a), .val (.int (2 : Int32)), .val (.int (4 : Int32)), .val (.int (4 : Int32)), .val (.int c3)] []))
            refine Run.pre (fun _ k => XS.iconst X297.here hx rfl (hb hby d9_36) k) ?_
            show Run p e below s _ _ _ (T297.setTop (mkF m 37 #[.val (.ref a), .val (.int (2 : Int32)), .val (.int (4 : Int32)), .val (.int (4 : Int32)), .val (.int c3)] [(.int (1 : Int32))]))
            exact Run.retN X297 hx hret (t := .boolean) (by simp) hlk (hb hby d9_37) (by first | (rw [e297]; exact ⟨by simp [own_en, own_e1, own_bad, own_dg, nar, hc295, hc296, hc298, hc299], N297, rfl⟩) | exact ⟨by simp [own_en, own_e1, own_bad, own_dg, nar, hc295, hc296, hc298, hc299], N297, rfl⟩) (by decide) (by decide)
  · skip
    show Run p e below s _ _ _ (s₁.setTop (mkF m 0 #[.val (.ref a), .val (.int (3 : Int32)), .val (.int (3 : Int32)), .unset, .unset] []))
    refine Run.pre (fun _ k => XS.iloadN X0.here hx rfl (hb hby d9_0) rfl  k) ?_
    show Run p e below s _ _ _ (s₁.setTop (mkF m 1 #[.val (.ref a), .val (.int (3 : Int32)), .val (.int (3 : Int32)), .unset, .unset] [(.int (3 : Int32))]))
    refine Run.pre (fun _ k => XS.istoreN X0.here hx rfl (hb hby d9_1) rfl (l' := #[.val (.ref a), .val (.int (3 : Int32)), .val (.int (3 : Int32)), .val (.int (3 : Int32)), .unset]) rfl k) ?_
    show Run p e below s _ _ _ (s₁.setTop (mkF m 2 #[.val (.ref a), .val (.int (3 : Int32)), .val (.int (3 : Int32)), .val (.int (3 : Int32)), .unset] []))
    refine Run.pre (fun _ k => XS.iloadN X0.here hx rfl (hb hby d9_2) rfl  k) ?_
    show Run p e below s _ _ _ (s₁.setTop (mkF m 3 #[.val (.ref a), .val (.int (3 : Int32)), .val (.int (3 : Int32)), .val (.int (3 : Int32)), .unset] [(.int (3 : Int32))]))
    refine Run.pre (fun _ k => XS.iloadN X0.here hx rfl (hb hby d9_3) rfl  k) ?_
    show Run p e below s _ _ _ (s₁.setTop (mkF m 4 #[.val (.ref a), .val (.int (3 : Int32)), .val (.int (3 : Int32)), .val (.int (3 : Int32)), .unset] [(.int (3 : Int32)), (.int (3 : Int32))]))
    refine Run.pre (fun _ k => XS.icmpYes X0.here hx rfl (pc0 := 4) (pc' := 36) rfl (hb hby d9_4) rfl (flt ((by decide) : ¬ ((3 : Int32) < (3 : Int32)))).2.1 (by decide) (by decide) k) ?_
    show Run p e below s _ _ _ (s₁.setTop (mkF m 36 #[.val (.ref a), .val (.int (3 : Int32)), .val (.int (3 : Int32)), .val (.int (3 : Int32)), .unset] []))
    refine Run.pre (fun _ k => XS.iconst X0.here hx rfl (hb hby d9_36) k) ?_
    show Run p e below s _ _ _ (s₁.setTop (mkF m 37 #[.val (.ref a), .val (.int (3 : Int32)), .val (.int (3 : Int32)), .val (.int (3 : Int32)), .unset] [(.int (1 : Int32))]))
    exact Run.retN X0 hx hret (t := .boolean) (by simp) hlk (hb hby d9_37) (by first | (rw [e0]; exact ⟨by simp [own_en, own_e1, own_bad, own_dg, nar], N0, rfl⟩) | exact ⟨by simp [own_en, own_e1, own_bad, own_dg, nar], N0, rfl⟩) (by decide) (by decide)
  · skip
    show Run p e below s _ _ _ (s₁.setTop (mkF m 0 #[.val (.ref a), .val (.int (3 : Int32)), .val (.int (4 : Int32)), .unset, .unset] []))
    refine Run.pre (fun _ k => XS.iloadN X0.here hx rfl (hb hby d9_0) rfl  k) ?_
    show Run p e below s _ _ _ (s₁.setTop (mkF m 1 #[.val (.ref a), .val (.int (3 : Int32)), .val (.int (4 : Int32)), .unset, .unset] [(.int (3 : Int32))]))
    refine Run.pre (fun _ k => XS.istoreN X0.here hx rfl (hb hby d9_1) rfl (l' := #[.val (.ref a), .val (.int (3 : Int32)), .val (.int (4 : Int32)), .val (.int (3 : Int32)), .unset]) rfl k) ?_
    show Run p e below s _ _ _ (s₁.setTop (mkF m 2 #[.val (.ref a), .val (.int (3 : Int32)), .val (.int (4 : Int32)), .val (.int (3 : Int32)), .unset] []))
    refine Run.pre (fun _ k => XS.iloadN X0.here hx rfl (hb hby d9_2) rfl  k) ?_
    show Run p e below s _ _ _ (s₁.setTop (mkF m 3 #[.val (.ref a), .val (.int (3 : Int32)), .val (.int (4 : Int32)), .val (.int (3 : Int32)), .unset] [(.int (3 : Int32))]))
    refine Run.pre (fun _ k => XS.iloadN X0.here hx rfl (hb hby d9_3) rfl  k) ?_
    show Run p e below s _ _ _ (s₁.setTop (mkF m 4 #[.val (.ref a), .val (.int (3 : Int32)), .val (.int (4 : Int32)), .val (.int (3 : Int32)), .unset] [(.int (4 : Int32)), (.int (3 : Int32))]))
    refine Run.pre (fun _ k => XS.icmpNo X0.here hx rfl (hb hby d9_4) rfl (tlt ((by decide) : (3 : Int32) < (4 : Int32))).2.1 k) ?_
    show Run p e below s _ _ _ (s₁.setTop (mkF m 7 #[.val (.ref a), .val (.int (3 : Int32)), .val (.int (4 : Int32)), .val (.int (3 : Int32)), .unset] []))
    refine Run.pre (fun _ k => XS.aloadN X0.here hx rfl (hb hby d9_7) rfl rfl k) ?_
    show Run p e below s _ _ _ (s₁.setTop (mkF m 8 #[.val (.ref a), .val (.int (3 : Int32)), .val (.int (4 : Int32)), .val (.int (3 : Int32)), .unset] [(.ref a)]))
    refine Run.pre (fun _ k => XS.iloadN X0.here hx rfl (hb hby d9_8) rfl  k) ?_
    show Run p e below s _ _ _ (s₁.setTop (mkF m 9 #[.val (.ref a), .val (.int (3 : Int32)), .val (.int (4 : Int32)), .val (.int (3 : Int32)), .unset] [(.int (3 : Int32)), (.ref a)]))
    refine Run.callV X0 hx hZ (y := (⟨"java/lang/String", "charAt", "(I)C"⟩ : MethodName)) (z := (⟨"java/lang/String", "charAt", "(I)C"⟩ : MethodName)) hown (hw _ (List.mem_of_getElem? (i := 45) rfl)) (hw _ (List.mem_of_getElem? (i := 46) rfl)) (notFace_of_selects (args := #[]) (mvT hZ (hw _ (List.mem_of_getElem? (i := 48) rfl)))) (hw _ (List.mem_of_getElem? (i := 48) rfl)) (hw _ (List.mem_of_getElem? (i := 47) rfl)) (hw _ (List.mem_of_getElem? (i := 49) rfl)) (hw _ (List.mem_of_getElem? (i := 8) rfl)) (by decide) (b := a) E_a (W := 0) (rmCA_3 l Z a0 hw a b k c0 c1 c2 c3 cs fw h0 n0 (Nat.le_trans Z0 (Keep.refl h0 []).1) OL SC hcs SF hfw SA SH SL E_a FV DQ w0 w1 w2 w3) e0 (by decide) (by decide) (by decide) (by decide) (g := (mkF m 9 #[.val (.ref a), .val (.int (3 : Int32)), .val (.int (4 : Int32)), .val (.int (3 : Int32)), .unset] [(.int (3 : Int32)), (.ref a)])) rfl (by rw [hml]; rfl) (argsL := [(.int (3 : Int32))]) (rest := []) (lenOf pd_14 rfl) rfl (by show 2 * 0 + _ ≤ _; exact Nat.le_of_eq rfl) (hb hby d9_9) ?_
    intro v300 T300 L300 X300 hQ300
    obtain ⟨rfl, Nq300, he300⟩ := hQ300
    have N300 := Fr.app N0 Nq300
    have e300 : T300.heap = h0 := he300
    show Run p e below s _ _ _ (T300.setTop (mkF m 12 #[.val (.ref a), .val (.int (3 : Int32)), .val (.int (4 : Int32)), .val (.int (3 : Int32)), .unset] [(.int c3)]))
    refine Run.pre (fun _ k => XS.istore X300.here hx rfl (hb hby d9_12) rfl (l' := #[.val (.ref a), .val (.int (3 : Int32)), .val (.int (4 : Int32)), .val (.int (3 : Int32)), .val (.int c3)]) rfl k) ?_
    show Run p e below s _ _ _ (T300.setTop (mkF m 14 #[.val (.ref a), .val (.int (3 : Int32)), .val (.int (4 : Int32)), .val (.int (3 : Int32)), .val (.int c3)] []))
    refine Run.pre (fun _ k => XS.iload X300.here hx rfl (hb hby d9_14) rfl  k) ?_
    show Run p e below s _ _ _ (T300.setTop (mkF m 16 #[.val (.ref a), .val (.int (3 : Int32)), .val (.int (4 : Int32)), .val (.int (3 : Int32)), .val (.int c3)] [(.int c3)]))
    refine Run.pre (fun _ k => XS.bipush X300.here hx rfl (hb hby d9_16) k) ?_
    show Run p e below s _ _ _ (T300.setTop (mkF m 18 #[.val (.ref a), .val (.int (3 : Int32)), .val (.int (4 : Int32)), .val (.int (3 : Int32)), .val (.int c3)] [(.int (48 : Int32)), (.int c3)]))
    by_cases hc301 : c3 < (48 : Int32)
    · skip
      refine Run.pre (fun _ k => XS.icmpYes X300.here hx rfl (pc0 := 18) (pc' := 28) rfl (hb hby d9_18) rfl (tlt (hc301 : c3 < (48 : Int32))).1 (by decide) (by decide) k) ?_
      show Run p e below s _ _ _ (T300.setTop (mkF m 28 #[.val (.ref a), .val (.int (3 : Int32)), .val (.int (4 : Int32)), .val (.int (3 : Int32)), .val (.int c3)] []))
      refine Run.pre (fun _ k => XS.iconst X300.here hx rfl (hb hby d9_28) k) ?_
      show Run p e below s _ _ _ (T300.setTop (mkF m 29 #[.val (.ref a), .val (.int (3 : Int32)), .val (.int (4 : Int32)), .val (.int (3 : Int32)), .val (.int c3)] [(.int (0 : Int32))]))
      exact Run.retN X300 hx hret (t := .boolean) (by simp) hlk (hb hby d9_29) (by first | (rw [e300]; exact ⟨by simp [own_en, own_e1, own_bad, own_dg, nar, hc301], N300, rfl⟩) | exact ⟨by simp [own_en, own_e1, own_bad, own_dg, nar, hc301], N300, rfl⟩) (by decide) (by decide)
    · skip
      refine Run.pre (fun _ k => XS.icmpNo X300.here hx rfl (hb hby d9_18) rfl (flt (hc301 : ¬ (c3 < (48 : Int32)))).1 k) ?_
      show Run p e below s _ _ _ (T300.setTop (mkF m 21 #[.val (.ref a), .val (.int (3 : Int32)), .val (.int (4 : Int32)), .val (.int (3 : Int32)), .val (.int c3)] []))
      refine Run.pre (fun _ k => XS.iload X300.here hx rfl (hb hby d9_21) rfl  k) ?_
      show Run p e below s _ _ _ (T300.setTop (mkF m 23 #[.val (.ref a), .val (.int (3 : Int32)), .val (.int (4 : Int32)), .val (.int (3 : Int32)), .val (.int c3)] [(.int c3)]))
      refine Run.pre (fun _ k => XS.bipush X300.here hx rfl (hb hby d9_23) k) ?_
      show Run p e below s _ _ _ (T300.setTop (mkF m 25 #[.val (.ref a), .val (.int (3 : Int32)), .val (.int (4 : Int32)), .val (.int (3 : Int32)), .val (.int c3)] [(.int (57 : Int32)), (.int c3)]))
      by_cases hc302 : (57 : Int32) < c3
      · skip
        refine Run.pre (fun _ k => XS.icmpNo X300.here hx rfl (hb hby d9_25) rfl (tlt (hc302 : (57 : Int32) < c3)).2.2.2 k) ?_
        show Run p e below s _ _ _ (T300.setTop (mkF m 28 #[.val (.ref a), .val (.int (3 : Int32)), .val (.int (4 : Int32)), .val (.int (3 : Int32)), .val (.int c3)] []))
        refine Run.pre (fun _ k => XS.iconst X300.here hx rfl (hb hby d9_28) k) ?_
        show Run p e below s _ _ _ (T300.setTop (mkF m 29 #[.val (.ref a), .val (.int (3 : Int32)), .val (.int (4 : Int32)), .val (.int (3 : Int32)), .val (.int c3)] [(.int (0 : Int32))]))
        exact Run.retN X300 hx hret (t := .boolean) (by simp) hlk (hb hby d9_29) (by first | (rw [e300]; exact ⟨by simp [own_en, own_e1, own_bad, own_dg, nar, hc301, hc302], N300, rfl⟩) | exact ⟨by simp [own_en, own_e1, own_bad, own_dg, nar, hc301, hc302], N300, rfl⟩) (by decide) (by decide)
      · skip
        refine Run.pre (fun _ k => XS.icmpYes X300.here hx rfl (pc0 := 25) (pc' := 30) rfl (hb hby d9_25) rfl (flt (hc302 : ¬ ((57 : Int32) < c3))).2.2.2 (by decide) (by decide) k) ?_
        show Run p e below s _ _ _ (T300.setTop (mkF m 30 #[.val (.ref a), .val (.int (3 : Int32)), .val (.int (4 : Int32)), .val (.int (3 : Int32)), .val (.int c3)] []))
        refine Run.pre (fun _ k => XS.iinc X300.here hx rfl (hb hby d9_30) rfl (l' := #[.val (.ref a), .val (.int (3 : Int32)), .val (.int (4 : Int32)), .val (.int (4 : Int32)), .val (.int c3)]) rfl k) ?_
        show Run p e below s _ _ _ (T300.setTop (mkF m 33 #[.val (.ref a), .val (.int (3 : Int32)), .val (.int (4 : Int32)), .val (.int (4 : Int32)), .val (.int c3)] []))
        refine Run.pre (fun _ k => XS.goto X300.here hx rfl (pc0 := 33) (pc' := 2) rfl (hb hby d9_33) (by decide) (by decide) k) ?_
        show Run p e below s _ _ _ (T300.setTop (mkF m 2 #[.val (.ref a), .val (.int (3 : Int32)), .val (.int (4 : Int32)), .val (.int (4 : Int32)), .val (.int c3)] []))
        refine Run.pre (fun _ k => XS.iloadN X300.here hx rfl (hb hby d9_2) rfl  k) ?_
        show Run p e below s _ _ _ (T300.setTop (mkF m 3 #[.val (.ref a), .val (.int (3 : Int32)), .val (.int (4 : Int32)), .val (.int (4 : Int32)), .val (.int c3)] [(.int (4 : Int32))]))
        refine Run.pre (fun _ k => XS.iloadN X300.here hx rfl (hb hby d9_3) rfl  k) ?_
        show Run p e below s _ _ _ (T300.setTop (mkF m 4 #[.val (.ref a), .val (.int (3 : Int32)), .val (.int (4 : Int32)), .val (.int (4 : Int32)), .val (.int c3)] [(.int (4 : Int32)), (.int (4 : Int32))]))
        refine Run.pre (fun _ k => XS.icmpYes X300.here hx rfl (pc0 := 4) (pc' := 36) rfl (hb hby d9_4) rfl (flt ((by decide) : ¬ ((4 : Int32) < (4 : Int32)))).2.1 (by decide) (by decide) k) ?_
        show Run p e below s _ _ _ (T300.setTop (mkF m 36 #[.val (.ref a), .val (.int (3 : Int32)), .val (.int (4 : Int32)), .val (.int (4 : Int32)), .val (.int c3)] []))
        refine Run.pre (fun _ k => XS.iconst X300.here hx rfl (hb hby d9_36) k) ?_
        show Run p e below s _ _ _ (T300.setTop (mkF m 37 #[.val (.ref a), .val (.int (3 : Int32)), .val (.int (4 : Int32)), .val (.int (4 : Int32)), .val (.int c3)] [(.int (1 : Int32))]))
        exact Run.retN X300 hx hret (t := .boolean) (by simp) hlk (hb hby d9_37) (by first | (rw [e300]; exact ⟨by simp [own_en, own_e1, own_bad, own_dg, nar, hc301, hc302], N300, rfl⟩) | exact ⟨by simp [own_en, own_e1, own_bad, own_dg, nar, hc301, hc302], N300, rfl⟩) (by decide) (by decide)
  · skip
    show Run p e below s _ _ _ (s₁.setTop (mkF m 0 #[.val (.ref a), .val (.int (4 : Int32)), .val (.int (4 : Int32)), .unset, .unset] []))
    refine Run.pre (fun _ k => XS.iloadN X0.here hx rfl (hb hby d9_0) rfl  k) ?_
    show Run p e below s _ _ _ (s₁.setTop (mkF m 1 #[.val (.ref a), .val (.int (4 : Int32)), .val (.int (4 : Int32)), .unset, .unset] [(.int (4 : Int32))]))
    refine Run.pre (fun _ k => XS.istoreN X0.here hx rfl (hb hby d9_1) rfl (l' := #[.val (.ref a), .val (.int (4 : Int32)), .val (.int (4 : Int32)), .val (.int (4 : Int32)), .unset]) rfl k) ?_
    show Run p e below s _ _ _ (s₁.setTop (mkF m 2 #[.val (.ref a), .val (.int (4 : Int32)), .val (.int (4 : Int32)), .val (.int (4 : Int32)), .unset] []))
    refine Run.pre (fun _ k => XS.iloadN X0.here hx rfl (hb hby d9_2) rfl  k) ?_
    show Run p e below s _ _ _ (s₁.setTop (mkF m 3 #[.val (.ref a), .val (.int (4 : Int32)), .val (.int (4 : Int32)), .val (.int (4 : Int32)), .unset] [(.int (4 : Int32))]))
    refine Run.pre (fun _ k => XS.iloadN X0.here hx rfl (hb hby d9_3) rfl  k) ?_
    show Run p e below s _ _ _ (s₁.setTop (mkF m 4 #[.val (.ref a), .val (.int (4 : Int32)), .val (.int (4 : Int32)), .val (.int (4 : Int32)), .unset] [(.int (4 : Int32)), (.int (4 : Int32))]))
    refine Run.pre (fun _ k => XS.icmpYes X0.here hx rfl (pc0 := 4) (pc' := 36) rfl (hb hby d9_4) rfl (flt ((by decide) : ¬ ((4 : Int32) < (4 : Int32)))).2.1 (by decide) (by decide) k) ?_
    show Run p e below s _ _ _ (s₁.setTop (mkF m 36 #[.val (.ref a), .val (.int (4 : Int32)), .val (.int (4 : Int32)), .val (.int (4 : Int32)), .unset] []))
    refine Run.pre (fun _ k => XS.iconst X0.here hx rfl (hb hby d9_36) k) ?_
    show Run p e below s _ _ _ (s₁.setTop (mkF m 37 #[.val (.ref a), .val (.int (4 : Int32)), .val (.int (4 : Int32)), .val (.int (4 : Int32)), .unset] [(.int (1 : Int32))]))
    exact Run.retN X0 hx hret (t := .boolean) (by simp) hlk (hb hby d9_37) (by first | (rw [e0]; exact ⟨by simp [own_en, own_e1, own_bad, own_dg, nar], N0, rfl⟩) | exact ⟨by simp [own_en, own_e1, own_bad, own_dg, nar], N0, rfl⟩) (by decide) (by decide)
theorem pd_15 : parseMethodDescriptor "([C)V" = some ⟨[(.array .char)], none⟩ := by decide +kernel
theorem pd_16 : parseMethodDescriptor "(ICII)Z" = some ⟨[.int, .char, .int, .int], some .boolean⟩ := by decide +kernel
theorem pd_17 : parseMethodDescriptor "(Ljava/lang/String;II)Z" = some ⟨[(.object "java/lang/String"), .int, .int], some .boolean⟩ := by decide +kernel
theorem pn_0 : plainName "com/example/panelfix/panelfix/io/AsciiDigitsBetweenPinLaw" = true := by first | (simp [plainName, overriddenIn]; done) | decide +kernel
set_option maxRecDepth 65536 in
set_option maxHeartbeats 40000000 in
theorem rm0 (l : Launch) (Z : State) (a0 : Array Value) (hw : ∀ d ∈ tables_1, d.before a0 Z = true) (pa : Int32) (pb : Int32) (pc_ : Int32) (pd : Int32) (sh : Int32) (cs : Int32) (fw : Value) (h0 : Heap) (n0 : Nat) (Z0 : n0 ≤ h0.size) (OL : Old Z n0 h0) (SC : Sta Z Z.heap "java/lang/String" "COMPACT_STRINGS" "Z" (.int cs)) (hcs : ¬ cs = 0) (SF : Sta Z Z.heap "jdk/internal/util/Preconditions" "SIOOBE_FORMATTER" "Ljava/util/function/BiFunction;" fw) (hfw : fw.isRef = true) (SA : Sta Z Z.heap "java/lang/StringUTF16" "$assertionsDisabled" "Z" (.int 1)) (SH : Sta Z Z.heap "java/lang/StringUTF16" "HI_BYTE_SHIFT" "I" (.int 0)) (SL : Sta Z Z.heap "java/lang/StringUTF16" "LO_BYTE_SHIFT" "I" (.int 8)) :
    Con l x code maxLocals ret room_1 Z #[(.int pa), (.int pb), (.int pc_), (.int pd), (.int sh)] h0 (fun v h L => v = some (.int 1) ∧ Fr n0 L) := by
  refine Con.mk (plainFor_of_name pn_0) (fun m => show entryFrame m #[(.int pa), (.int pb), (.int pc_), (.int pd), (.int sh)] maxLocals = mkF m 0 #[.val (.int pa), .val (.int pb), .val (.int pc_), .val (.int pd), .val (.int sh), .unset, .unset, .unset, .unset, .unset, .unset, .unset, .unset, .unset] [] by first | (simp [entryFrame, mkF, argsToLocals, Value.category, maxLocals]; done) | rfl) ?_
  intro p e s m below meth c s₁ hx hby hml hown hnm hret hlk hZ X0 e0
  have hml : c.maxLocals = 14 := hml
  have N0 := Fr.nil n0
  show Run p e below s _ _ _ (s₁.setTop (mkF m 0 #[.val (.int pa), .val (.int pb), .val (.int pc_), .val (.int pd), .val (.int sh), .unset, .unset, .unset, .unset, .unset, .unset, .unset, .unset, .unset] []))
  refine Run.pre (fun _ k => XS.iloadN X0.here hx rfl (hb hby at_0) rfl  k) ?_
  show Run p e below s _ _ _ (s₁.setTop (mkF m 1 #[.val (.int pa), .val (.int pb), .val (.int pc_), .val (.int pd), .val (.int sh), .unset, .unset, .unset, .unset, .unset, .unset, .unset, .unset, .unset] [(.int pa)]))
  refine Run.callS X0 hx hZ (y := (⟨"com/example/panelfix/panelfix/io/AsciiDigitsBetweenPinLaw", "ch", "(I)C"⟩ : MethodName)) hown (hw _ (List.mem_of_getElem? (i := 0) rfl)) (hw _ (List.mem_of_getElem? (i := 1) rfl)) (hw _ (List.mem_of_getElem? (i := 2) rfl)) (hw _ (List.mem_of_getElem? (i := 3) rfl)) (by decide) (W := 0) (rmCh l Z a0 hw pa h0 n0 (Nat.le_trans Z0 (Keep.refl h0 []).1)) e0 (by decide) (by decide) (by decide) (by decide) (g := (mkF m 1 #[.val (.int pa), .val (.int pb), .val (.int pc_), .val (.int pd), .val (.int sh), .unset, .unset, .unset, .unset, .unset, .unset, .unset, .unset, .unset] [(.int pa)])) rfl (by rw [hml]; rfl) (argsL := [(.int pa)]) (rest := []) (lenOf pd_14 rfl) rfl (by show 2 * 0 + _ ≤ _; exact Nat.le_of_eq rfl) (hb hby at_1) ?_
  intro v303 T303 L303 X303 hQ303
  obtain ⟨rfl, Nq303, he303⟩ := hQ303
  have N303 := Fr.app N0 Nq303
  have e303 : T303.heap = h0 := he303
  show Run p e below s _ _ _ (T303.setTop (mkF m 4 #[.val (.int pa), .val (.int pb), .val (.int pc_), .val (.int pd), .val (.int sh), .unset, .unset, .unset, .unset, .unset, .unset, .unset, .unset, .unset] [(.int (own_ch pa))]))
  refine Run.pre (fun _ k => XS.istore X303.here hx rfl (hb hby at_4) rfl (l' := #[.val (.int pa), .val (.int pb), .val (.int pc_), .val (.int pd), .val (.int sh), .val (.int (own_ch pa)), .unset, .unset, .unset, .unset, .unset, .unset, .unset, .unset]) rfl k) ?_
  show Run p e below s _ _ _ (T303.setTop (mkF m 6 #[.val (.int pa), .val (.int pb), .val (.int pc_), .val (.int pd), .val (.int sh), .val (.int (own_ch pa)), .unset, .unset, .unset, .unset, .unset, .unset, .unset, .unset] []))
  refine Run.pre (fun _ k => XS.iloadN X303.here hx rfl (hb hby at_6) rfl  k) ?_
  show Run p e below s _ _ _ (T303.setTop (mkF m 7 #[.val (.int pa), .val (.int pb), .val (.int pc_), .val (.int pd), .val (.int sh), .val (.int (own_ch pa)), .unset, .unset, .unset, .unset, .unset, .unset, .unset, .unset] [(.int pb)]))
  refine Run.callS X303 hx hZ (y := (⟨"com/example/panelfix/panelfix/io/AsciiDigitsBetweenPinLaw", "ch", "(I)C"⟩ : MethodName)) hown (hw _ (List.mem_of_getElem? (i := 0) rfl)) (hw _ (List.mem_of_getElem? (i := 1) rfl)) (hw _ (List.mem_of_getElem? (i := 2) rfl)) (hw _ (List.mem_of_getElem? (i := 3) rfl)) (by decide) (W := 0) (rmCh l Z a0 hw pb h0 n0 (Nat.le_trans Z0 (Keep.refl h0 []).1)) e303 (by decide) (by decide) (by decide) (by decide) (g := (mkF m 7 #[.val (.int pa), .val (.int pb), .val (.int pc_), .val (.int pd), .val (.int sh), .val (.int (own_ch pa)), .unset, .unset, .unset, .unset, .unset, .unset, .unset, .unset] [(.int pb)])) rfl (by rw [hml]; rfl) (argsL := [(.int pb)]) (rest := []) (lenOf pd_14 rfl) rfl (by show 2 * 0 + _ ≤ _; exact Nat.le_of_eq rfl) (hb hby at_7) ?_
  intro v304 T304 L304 X304 hQ304
  obtain ⟨rfl, Nq304, he304⟩ := hQ304
  have N304 := Fr.app N303 Nq304
  have e304 : T304.heap = h0 := he304
  show Run p e below s _ _ _ (T304.setTop (mkF m 10 #[.val (.int pa), .val (.int pb), .val (.int pc_), .val (.int pd), .val (.int sh), .val (.int (own_ch pa)), .unset, .unset, .unset, .unset, .unset, .unset, .unset, .unset] [(.int (own_ch pb))]))
  refine Run.pre (fun _ k => XS.istore X304.here hx rfl (hb hby at_10) rfl (l' := #[.val (.int pa), .val (.int pb), .val (.int pc_), .val (.int pd), .val (.int sh), .val (.int (own_ch pa)), .val (.int (own_ch pb)), .unset, .unset, .unset, .unset, .unset, .unset, .unset]) rfl k) ?_
  show Run p e below s _ _ _ (T304.setTop (mkF m 12 #[.val (.int pa), .val (.int pb), .val (.int pc_), .val (.int pd), .val (.int sh), .val (.int (own_ch pa)), .val (.int (own_ch pb)), .unset, .unset, .unset, .unset, .unset, .unset, .unset] []))
  refine Run.pre (fun _ k => XS.iloadN X304.here hx rfl (hb hby at_12) rfl  k) ?_
  show Run p e below s _ _ _ (T304.setTop (mkF m 13 #[.val (.int pa), .val (.int pb), .val (.int pc_), .val (.int pd), .val (.int sh), .val (.int (own_ch pa)), .val (.int (own_ch pb)), .unset, .unset, .unset, .unset, .unset, .unset, .unset] [(.int pc_)]))
  refine Run.callS X304 hx hZ (y := (⟨"com/example/panelfix/panelfix/io/AsciiDigitsBetweenPinLaw", "ch", "(I)C"⟩ : MethodName)) hown (hw _ (List.mem_of_getElem? (i := 0) rfl)) (hw _ (List.mem_of_getElem? (i := 1) rfl)) (hw _ (List.mem_of_getElem? (i := 2) rfl)) (hw _ (List.mem_of_getElem? (i := 3) rfl)) (by decide) (W := 0) (rmCh l Z a0 hw pc_ h0 n0 (Nat.le_trans Z0 (Keep.refl h0 []).1)) e304 (by decide) (by decide) (by decide) (by decide) (g := (mkF m 13 #[.val (.int pa), .val (.int pb), .val (.int pc_), .val (.int pd), .val (.int sh), .val (.int (own_ch pa)), .val (.int (own_ch pb)), .unset, .unset, .unset, .unset, .unset, .unset, .unset] [(.int pc_)])) rfl (by rw [hml]; rfl) (argsL := [(.int pc_)]) (rest := []) (lenOf pd_14 rfl) rfl (by show 2 * 0 + _ ≤ _; exact Nat.le_of_eq rfl) (hb hby at_13) ?_
  intro v305 T305 L305 X305 hQ305
  obtain ⟨rfl, Nq305, he305⟩ := hQ305
  have N305 := Fr.app N304 Nq305
  have e305 : T305.heap = h0 := he305
  show Run p e below s _ _ _ (T305.setTop (mkF m 16 #[.val (.int pa), .val (.int pb), .val (.int pc_), .val (.int pd), .val (.int sh), .val (.int (own_ch pa)), .val (.int (own_ch pb)), .unset, .unset, .unset, .unset, .unset, .unset, .unset] [(.int (own_ch pc_))]))
  refine Run.pre (fun _ k => XS.istore X305.here hx rfl (hb hby at_16) rfl (l' := #[.val (.int pa), .val (.int pb), .val (.int pc_), .val (.int pd), .val (.int sh), .val (.int (own_ch pa)), .val (.int (own_ch pb)), .val (.int (own_ch pc_)), .unset, .unset, .unset, .unset, .unset, .unset]) rfl k) ?_
  show Run p e below s _ _ _ (T305.setTop (mkF m 18 #[.val (.int pa), .val (.int pb), .val (.int pc_), .val (.int pd), .val (.int sh), .val (.int (own_ch pa)), .val (.int (own_ch pb)), .val (.int (own_ch pc_)), .unset, .unset, .unset, .unset, .unset, .unset] []))
  refine Run.pre (fun _ k => XS.iloadN X305.here hx rfl (hb hby at_18) rfl  k) ?_
  show Run p e below s _ _ _ (T305.setTop (mkF m 19 #[.val (.int pa), .val (.int pb), .val (.int pc_), .val (.int pd), .val (.int sh), .val (.int (own_ch pa)), .val (.int (own_ch pb)), .val (.int (own_ch pc_)), .unset, .unset, .unset, .unset, .unset, .unset] [(.int pd)]))
  refine Run.callS X305 hx hZ (y := (⟨"com/example/panelfix/panelfix/io/AsciiDigitsBetweenPinLaw", "ch", "(I)C"⟩ : MethodName)) hown (hw _ (List.mem_of_getElem? (i := 0) rfl)) (hw _ (List.mem_of_getElem? (i := 1) rfl)) (hw _ (List.mem_of_getElem? (i := 2) rfl)) (hw _ (List.mem_of_getElem? (i := 3) rfl)) (by decide) (W := 0) (rmCh l Z a0 hw pd h0 n0 (Nat.le_trans Z0 (Keep.refl h0 []).1)) e305 (by decide) (by decide) (by decide) (by decide) (g := (mkF m 19 #[.val (.int pa), .val (.int pb), .val (.int pc_), .val (.int pd), .val (.int sh), .val (.int (own_ch pa)), .val (.int (own_ch pb)), .val (.int (own_ch pc_)), .unset, .unset, .unset, .unset, .unset, .unset] [(.int pd)])) rfl (by rw [hml]; rfl) (argsL := [(.int pd)]) (rest := []) (lenOf pd_14 rfl) rfl (by show 2 * 0 + _ ≤ _; exact Nat.le_of_eq rfl) (hb hby at_19) ?_
  intro v306 T306 L306 X306 hQ306
  obtain ⟨rfl, Nq306, he306⟩ := hQ306
  have N306 := Fr.app N305 Nq306
  have e306 : T306.heap = h0 := he306
  show Run p e below s _ _ _ (T306.setTop (mkF m 22 #[.val (.int pa), .val (.int pb), .val (.int pc_), .val (.int pd), .val (.int sh), .val (.int (own_ch pa)), .val (.int (own_ch pb)), .val (.int (own_ch pc_)), .unset, .unset, .unset, .unset, .unset, .unset] [(.int (own_ch pd))]))
  refine Run.pre (fun _ k => XS.istore X306.here hx rfl (hb hby at_22) rfl (l' := #[.val (.int pa), .val (.int pb), .val (.int pc_), .val (.int pd), .val (.int sh), .val (.int (own_ch pa)), .val (.int (own_ch pb)), .val (.int (own_ch pc_)), .val (.int (own_ch pd)), .unset, .unset, .unset, .unset, .unset]) rfl k) ?_
  show Run p e below s _ _ _ (T306.setTop (mkF m 24 #[.val (.int pa), .val (.int pb), .val (.int pc_), .val (.int pd), .val (.int sh), .val (.int (own_ch pa)), .val (.int (own_ch pb)), .val (.int (own_ch pc_)), .val (.int (own_ch pd)), .unset, .unset, .unset, .unset, .unset] []))
  refine Run.pre (fun _ k => XS.iconst X306.here hx rfl (hb hby at_24) k) ?_
  show Run p e below s _ _ _ (T306.setTop (mkF m 25 #[.val (.int pa), .val (.int pb), .val (.int pc_), .val (.int pd), .val (.int sh), .val (.int (own_ch pa)), .val (.int (own_ch pb)), .val (.int (own_ch pc_)), .val (.int (own_ch pd)), .unset, .unset, .unset, .unset, .unset] [(.int (4 : Int32))]))
  obtain ⟨T307, h307, k307, X307, e307, E307, A307, st307⟩ := newP X306 hx hZ (hw _ (List.mem_of_getElem? (i := 5) rfl)) e306 (g := (mkF m 25 #[.val (.int pa), .val (.int pb), .val (.int pc_), .val (.int pd), .val (.int sh), .val (.int (own_ch pa)), .val (.int (own_ch pb)), .val (.int (own_ch pc_)), .val (.int (own_ch pd)), .unset, .unset, .unset, .unset, .unset] [(.int (4 : Int32))])) rfl (hb hby at_25) rfl (by decide) (cap := 4) (by decide) (by decide) (by decide) (by decide)
  obtain ⟨b307, g307⟩ : ∃ z, z = h0.size := ⟨_, rfl⟩
  rw [← g307] at A307 st307
  refine Run.pre st307 ?_
  have V_b307 : Arv Z h307 b307 k307 .char (4 : Int32) [(.int (0 : Int32)), (.int (0 : Int32)), (.int (0 : Int32)), (.int (0 : Int32))] (.int (0 : Int32)) := (Arv.new A307 (by decide)).pad (pad_rep [] (.int (0 : Int32)) 4)
  have gn_b307 : n0 ≤ b307 := Nat.le_trans (Nat.le_trans Z0 (Keep.refl h0 []).1) (Nat.le_of_eq g307.symm)
  have sz_b307 : h0.size ≤ b307 := Nat.le_trans (Keep.refl h0 []).1 (Nat.le_of_eq g307.symm)
  have K307 : Keep h0 h307 [] := (Keep.refl h0 []).ext E307
  show Run p e below s _ _ _ (T307.setTop (mkF m 27 #[.val (.int pa), .val (.int pb), .val (.int pc_), .val (.int pd), .val (.int sh), .val (.int (own_ch pa)), .val (.int (own_ch pb)), .val (.int (own_ch pc_)), .val (.int (own_ch pd)), .unset, .unset, .unset, .unset, .unset] [(.ref b307)]))
  refine Run.pre (fun _ k => XS.astore X307.here hx rfl (hb hby at_27) rfl rfl (l' := #[.val (.int pa), .val (.int pb), .val (.int pc_), .val (.int pd), .val (.int sh), .val (.int (own_ch pa)), .val (.int (own_ch pb)), .val (.int (own_ch pc_)), .val (.int (own_ch pd)), .val (.ref b307), .unset, .unset, .unset, .unset]) rfl k) ?_
  show Run p e below s _ _ _ (T307.setTop (mkF m 29 #[.val (.int pa), .val (.int pb), .val (.int pc_), .val (.int pd), .val (.int sh), .val (.int (own_ch pa)), .val (.int (own_ch pb)), .val (.int (own_ch pc_)), .val (.int (own_ch pd)), .val (.ref b307), .unset, .unset, .unset, .unset] []))
  refine Run.pre (fun _ k => XS.aload X307.here hx rfl (hb hby at_29) rfl rfl k) ?_
  show Run p e below s _ _ _ (T307.setTop (mkF m 31 #[.val (.int pa), .val (.int pb), .val (.int pc_), .val (.int pd), .val (.int sh), .val (.int (own_ch pa)), .val (.int (own_ch pb)), .val (.int (own_ch pc_)), .val (.int (own_ch pd)), .val (.ref b307), .unset, .unset, .unset, .unset] [(.ref b307)]))
  refine Run.pre (fun _ k => XS.iconst X307.here hx rfl (hb hby at_31) k) ?_
  show Run p e below s _ _ _ (T307.setTop (mkF m 32 #[.val (.int pa), .val (.int pb), .val (.int pc_), .val (.int pd), .val (.int sh), .val (.int (own_ch pa)), .val (.int (own_ch pb)), .val (.int (own_ch pc_)), .val (.int (own_ch pd)), .val (.ref b307), .unset, .unset, .unset, .unset] [(.int (0 : Int32)), (.ref b307)]))
  refine Run.pre (fun _ k => XS.iload X307.here hx rfl (hb hby at_32) rfl  k) ?_
  show Run p e below s _ _ _ (T307.setTop (mkF m 34 #[.val (.int pa), .val (.int pb), .val (.int pc_), .val (.int pd), .val (.int sh), .val (.int (own_ch pa)), .val (.int (own_ch pb)), .val (.int (own_ch pc_)), .val (.int (own_ch pd)), .val (.ref b307), .unset, .unset, .unset, .unset] [(.int (own_ch pa)), (.int (0 : Int32)), (.ref b307)]))
  obtain ⟨c308, Ar308, q308, S308, N308, H308, G308⟩ := id V_b307
  have hin308 : ¬ ((0 : Int32) < 0 ∨ c308.slots.size ≤ ((0 : Int32)).toNatClampNeg) := inb_of S308 ⟨by decide, by decide⟩
  obtain ⟨T309, h309, X309, e309, W309, st309⟩ := stC X307 hx hZ e307 Ar308 (j := (0 : Int32)) hin308 (g := (mkF m 34 #[.val (.int pa), .val (.int pb), .val (.int pc_), .val (.int pd), .val (.int sh), .val (.int (own_ch pa)), .val (.int (own_ch pb)), .val (.int (own_ch pc_)), .val (.int (own_ch pd)), .val (.ref b307), .unset, .unset, .unset, .unset] [(.int (own_ch pa)), (.int (0 : Int32)), (.ref b307)])) rfl rfl (hb hby at_34)
  refine Run.pre st309 ?_
  have V_b307_309 : Arv Z h309 b307 k307 .char (4 : Int32) [(.int (nar .char (own_ch pa))), (.int (0 : Int32)), (.int (0 : Int32)), (.int (0 : Int32))] (.int (0 : Int32)) := Arv.set Ar308 q308 S308 N308 H308 G308 (fits_nar_char _) W309 0 rfl (Nat.le_of_ble_eq_true rfl)
  have K309 : Keep h0 h309 [] := K307.wr W309 (Or.inr sz_b307)
  have N309 := Fr.snoc X309 N306 gn_b307
  show Run p e below s _ _ _ (T309.setTop (mkF m 35 #[.val (.int pa), .val (.int pb), .val (.int pc_), .val (.int pd), .val (.int sh), .val (.int (own_ch pa)), .val (.int (own_ch pb)), .val (.int (own_ch pc_)), .val (.int (own_ch pd)), .val (.ref b307), .unset, .unset, .unset, .unset] []))
  refine Run.pre (fun _ k => XS.aload X309.here hx rfl (hb hby at_35) rfl rfl k) ?_
  show Run p e below s _ _ _ (T309.setTop (mkF m 37 #[.val (.int pa), .val (.int pb), .val (.int pc_), .val (.int pd), .val (.int sh), .val (.int (own_ch pa)), .val (.int (own_ch pb)), .val (.int (own_ch pc_)), .val (.int (own_ch pd)), .val (.ref b307), .unset, .unset, .unset, .unset] [(.ref b307)]))
  refine Run.pre (fun _ k => XS.iconst X309.here hx rfl (hb hby at_37) k) ?_
  show Run p e below s _ _ _ (T309.setTop (mkF m 38 #[.val (.int pa), .val (.int pb), .val (.int pc_), .val (.int pd), .val (.int sh), .val (.int (own_ch pa)), .val (.int (own_ch pb)), .val (.int (own_ch pc_)), .val (.int (own_ch pd)), .val (.ref b307), .unset, .unset, .unset, .unset] [(.int (1 : Int32)), (.ref b307)]))
  refine Run.pre (fun _ k => XS.iload X309.here hx rfl (hb hby at_38) rfl  k) ?_
  show Run p e below s _ _ _ (T309.setTop (mkF m 40 #[.val (.int pa), .val (.int pb), .val (.int pc_), .val (.int pd), .val (.int sh), .val (.int (own_ch pa)), .val (.int (own_ch pb)), .val (.int (own_ch pc_)), .val (.int (own_ch pd)), .val (.ref b307), .unset, .unset, .unset, .unset] [(.int (own_ch pb)), (.int (1 : Int32)), (.ref b307)]))
  obtain ⟨c310, Ar310, q310, S310, N310, H310, G310⟩ := id V_b307_309
  have hin310 : ¬ ((1 : Int32) < 0 ∨ c310.slots.size ≤ ((1 : Int32)).toNatClampNeg) := inb_of S310 ⟨by decide, by decide⟩
  obtain ⟨T311, h311, X311, e311, W311, st311⟩ := stC X309 hx hZ e309 Ar310 (j := (1 : Int32)) hin310 (g := (mkF m 40 #[.val (.int pa), .val (.int pb), .val (.int pc_), .val (.int pd), .val (.int sh), .val (.int (own_ch pa)), .val (.int (own_ch pb)), .val (.int (own_ch pc_)), .val (.int (own_ch pd)), .val (.ref b307), .unset, .unset, .unset, .unset] [(.int (own_ch pb)), (.int (1 : Int32)), (.ref b307)])) rfl rfl (hb hby at_40)
  refine Run.pre st311 ?_
  have V_b307_311 : Arv Z h311 b307 k307 .char (4 : Int32) [(.int (nar .char (own_ch pa))), (.int (nar .char (own_ch pb))), (.int (0 : Int32)), (.int (0 : Int32))] (.int (0 : Int32)) := Arv.set Ar310 q310 S310 N310 H310 G310 (fits_nar_char _) W311 1 rfl (Nat.le_of_ble_eq_true rfl)
  have K311 : Keep h0 h311 [] := K309.wr W311 (Or.inr sz_b307)
  have N311 := Fr.snoc X311 N309 gn_b307
  show Run p e below s _ _ _ (T311.setTop (mkF m 41 #[.val (.int pa), .val (.int pb), .val (.int pc_), .val (.int pd), .val (.int sh), .val (.int (own_ch pa)), .val (.int (own_ch pb)), .val (.int (own_ch pc_)), .val (.int (own_ch pd)), .val (.ref b307), .unset, .unset, .unset, .unset] []))
  refine Run.pre (fun _ k => XS.aload X311.here hx rfl (hb hby at_41) rfl rfl k) ?_
  show Run p e below s _ _ _ (T311.setTop (mkF m 43 #[.val (.int pa), .val (.int pb), .val (.int pc_), .val (.int pd), .val (.int sh), .val (.int (own_ch pa)), .val (.int (own_ch pb)), .val (.int (own_ch pc_)), .val (.int (own_ch pd)), .val (.ref b307), .unset, .unset, .unset, .unset] [(.ref b307)]))
  refine Run.pre (fun _ k => XS.iconst X311.here hx rfl (hb hby at_43) k) ?_
  show Run p e below s _ _ _ (T311.setTop (mkF m 44 #[.val (.int pa), .val (.int pb), .val (.int pc_), .val (.int pd), .val (.int sh), .val (.int (own_ch pa)), .val (.int (own_ch pb)), .val (.int (own_ch pc_)), .val (.int (own_ch pd)), .val (.ref b307), .unset, .unset, .unset, .unset] [(.int (2 : Int32)), (.ref b307)]))
  refine Run.pre (fun _ k => XS.iload X311.here hx rfl (hb hby at_44) rfl  k) ?_
  show Run p e below s _ _ _ (T311.setTop (mkF m 46 #[.val (.int pa), .val (.int pb), .val (.int pc_), .val (.int pd), .val (.int sh), .val (.int (own_ch pa)), .val (.int (own_ch pb)), .val (.int (own_ch pc_)), .val (.int (own_ch pd)), .val (.ref b307), .unset, .unset, .unset, .unset] [(.int (own_ch pc_)), (.int (2 : Int32)), (.ref b307)]))
  obtain ⟨c312, Ar312, q312, S312, N312, H312, G312⟩ := id V_b307_311
  have hin312 : ¬ ((2 : Int32) < 0 ∨ c312.slots.size ≤ ((2 : Int32)).toNatClampNeg) := inb_of S312 ⟨by decide, by decide⟩
  obtain ⟨T313, h313, X313, e313, W313, st313⟩ := stC X311 hx hZ e311 Ar312 (j := (2 : Int32)) hin312 (g := (mkF m 46 #[.val (.int pa), .val (.int pb), .val (.int pc_), .val (.int pd), .val (.int sh), .val (.int (own_ch pa)), .val (.int (own_ch pb)), .val (.int (own_ch pc_)), .val (.int (own_ch pd)), .val (.ref b307), .unset, .unset, .unset, .unset] [(.int (own_ch pc_)), (.int (2 : Int32)), (.ref b307)])) rfl rfl (hb hby at_46)
  refine Run.pre st313 ?_
  have V_b307_313 : Arv Z h313 b307 k307 .char (4 : Int32) [(.int (nar .char (own_ch pa))), (.int (nar .char (own_ch pb))), (.int (nar .char (own_ch pc_))), (.int (0 : Int32))] (.int (0 : Int32)) := Arv.set Ar312 q312 S312 N312 H312 G312 (fits_nar_char _) W313 2 rfl (Nat.le_of_ble_eq_true rfl)
  have K313 : Keep h0 h313 [] := K311.wr W313 (Or.inr sz_b307)
  have N313 := Fr.snoc X313 N311 gn_b307
  show Run p e below s _ _ _ (T313.setTop (mkF m 47 #[.val (.int pa), .val (.int pb), .val (.int pc_), .val (.int pd), .val (.int sh), .val (.int (own_ch pa)), .val (.int (own_ch pb)), .val (.int (own_ch pc_)), .val (.int (own_ch pd)), .val (.ref b307), .unset, .unset, .unset, .unset] []))
  refine Run.pre (fun _ k => XS.aload X313.here hx rfl (hb hby at_47) rfl rfl k) ?_
  show Run p e below s _ _ _ (T313.setTop (mkF m 49 #[.val (.int pa), .val (.int pb), .val (.int pc_), .val (.int pd), .val (.int sh), .val (.int (own_ch pa)), .val (.int (own_ch pb)), .val (.int (own_ch pc_)), .val (.int (own_ch pd)), .val (.ref b307), .unset, .unset, .unset, .unset] [(.ref b307)]))
  refine Run.pre (fun _ k => XS.iconst X313.here hx rfl (hb hby at_49) k) ?_
  show Run p e below s _ _ _ (T313.setTop (mkF m 50 #[.val (.int pa), .val (.int pb), .val (.int pc_), .val (.int pd), .val (.int sh), .val (.int (own_ch pa)), .val (.int (own_ch pb)), .val (.int (own_ch pc_)), .val (.int (own_ch pd)), .val (.ref b307), .unset, .unset, .unset, .unset] [(.int (3 : Int32)), (.ref b307)]))
  refine Run.pre (fun _ k => XS.iload X313.here hx rfl (hb hby at_50) rfl  k) ?_
  show Run p e below s _ _ _ (T313.setTop (mkF m 52 #[.val (.int pa), .val (.int pb), .val (.int pc_), .val (.int pd), .val (.int sh), .val (.int (own_ch pa)), .val (.int (own_ch pb)), .val (.int (own_ch pc_)), .val (.int (own_ch pd)), .val (.ref b307), .unset, .unset, .unset, .unset] [(.int (own_ch pd)), (.int (3 : Int32)), (.ref b307)]))
  obtain ⟨c314, Ar314, q314, S314, N314, H314, G314⟩ := id V_b307_313
  have hin314 : ¬ ((3 : Int32) < 0 ∨ c314.slots.size ≤ ((3 : Int32)).toNatClampNeg) := inb_of S314 ⟨by decide, by decide⟩
  obtain ⟨T315, h315, X315, e315, W315, st315⟩ := stC X313 hx hZ e313 Ar314 (j := (3 : Int32)) hin314 (g := (mkF m 52 #[.val (.int pa), .val (.int pb), .val (.int pc_), .val (.int pd), .val (.int sh), .val (.int (own_ch pa)), .val (.int (own_ch pb)), .val (.int (own_ch pc_)), .val (.int (own_ch pd)), .val (.ref b307), .unset, .unset, .unset, .unset] [(.int (own_ch pd)), (.int (3 : Int32)), (.ref b307)])) rfl rfl (hb hby at_52)
  refine Run.pre st315 ?_
  have V_b307_315 : Arv Z h315 b307 k307 .char (4 : Int32) [(.int (nar .char (own_ch pa))), (.int (nar .char (own_ch pb))), (.int (nar .char (own_ch pc_))), (.int (nar .char (own_ch pd)))] (.int (0 : Int32)) := Arv.set Ar314 q314 S314 N314 H314 G314 (fits_nar_char _) W315 3 rfl (Nat.le_of_ble_eq_true rfl)
  have K315 : Keep h0 h315 [] := K313.wr W315 (Or.inr sz_b307)
  have N315 := Fr.snoc X315 N313 gn_b307
  show Run p e below s _ _ _ (T315.setTop (mkF m 53 #[.val (.int pa), .val (.int pb), .val (.int pc_), .val (.int pd), .val (.int sh), .val (.int (own_ch pa)), .val (.int (own_ch pb)), .val (.int (own_ch pc_)), .val (.int (own_ch pd)), .val (.ref b307), .unset, .unset, .unset, .unset] []))
  obtain ⟨T316, h316, X316, e316, E316, A316, D316, -, st316⟩ := newO X315 hx hZ hown (hw _ (List.mem_of_getElem? (i := 6) rfl)) (hw _ (List.mem_of_getElem? (i := 7) rfl)) (hw _ (List.mem_of_getElem? (i := 8) rfl)) e315 (g := (mkF m 53 #[.val (.int pa), .val (.int pb), .val (.int pc_), .val (.int pd), .val (.int sh), .val (.int (own_ch pa)), .val (.int (own_ch pb)), .val (.int (own_ch pc_)), .val (.int (own_ch pd)), .val (.ref b307), .unset, .unset, .unset, .unset] [])) rfl (hb hby at_53) (by decide) (by decide)
  obtain ⟨b316, g316⟩ : ∃ z, z = h315.size := ⟨_, rfl⟩
  rw [← g316] at A316 D316 st316
  refine Run.pre st316 ?_
  have gn_b316 : n0 ≤ b316 := Nat.le_trans (Nat.le_trans Z0 K315.1) (Nat.le_of_eq g316.symm)
  have sz_b316 : h0.size ≤ b316 := Nat.le_trans K315.1 (Nat.le_of_eq g316.symm)
  have K316 : Keep h0 h316 [] := K315.ext E316
  have F_coder_b316 : Fld Z h316 b316 "java/lang/String" "coder" "B" (.int (0 : Int32)) := D316 (Or.inr (hw _ (List.mem_of_getElem? (i := 32) rfl))) (ty := .byte) (by decide)
  have F_value_b316 : Fld Z h316 b316 "java/lang/String" "value" "[B" .null := D316 (Or.inr (hw _ (List.mem_of_getElem? (i := 34) rfl))) (ty := (.array .byte)) (by decide)
  show Run p e below s _ _ _ (T316.setTop (mkF m 56 #[.val (.int pa), .val (.int pb), .val (.int pc_), .val (.int pd), .val (.int sh), .val (.int (own_ch pa)), .val (.int (own_ch pb)), .val (.int (own_ch pc_)), .val (.int (own_ch pd)), .val (.ref b307), .unset, .unset, .unset, .unset] [(.ref b316)]))
  refine Run.pre (fun _ k => XS.dup X316.here hx rfl (hb hby at_56) rfl rfl k) ?_
  show Run p e below s _ _ _ (T316.setTop (mkF m 57 #[.val (.int pa), .val (.int pb), .val (.int pc_), .val (.int pd), .val (.int sh), .val (.int (own_ch pa)), .val (.int (own_ch pb)), .val (.int (own_ch pc_)), .val (.int (own_ch pd)), .val (.ref b307), .unset, .unset, .unset, .unset] [(.ref b316), (.ref b316)]))
  refine Run.pre (fun _ k => XS.aload X316.here hx rfl (hb hby at_57) rfl rfl k) ?_
  show Run p e below s _ _ _ (T316.setTop (mkF m 59 #[.val (.int pa), .val (.int pb), .val (.int pc_), .val (.int pd), .val (.int sh), .val (.int (own_ch pa)), .val (.int (own_ch pb)), .val (.int (own_ch pc_)), .val (.int (own_ch pd)), .val (.ref b307), .unset, .unset, .unset, .unset] [(.ref b307), (.ref b316), (.ref b316)]))
  have f317 := ((((((OL.ext E307).wr W309 gn_b307).wr W311 gn_b307).wr W313 gn_b307).wr W315 gn_b307).ext E316)
  have f318 := (V_b307_315.ext E316)
  refine Run.callI X316 hx hZ (y := (⟨"java/lang/String", "<init>", "([C)V"⟩ : MethodName)) rfl hown (hw _ (List.mem_of_getElem? (i := 9) rfl)) (hw _ (List.mem_of_getElem? (i := 10) rfl)) (hw _ (List.mem_of_getElem? (i := 11) rfl)) (hw _ (List.mem_of_getElem? (i := 8) rfl)) (by decide) (a := b316) (W := 1) (rmI_4 l Z a0 hw b316 b307 k307 (nar .char (own_ch pa)) (nar .char (own_ch pb)) (nar .char (own_ch pc_)) (nar .char (own_ch pd)) cs h316 n0 (Nat.le_trans Z0 K316.1) f317 SC hcs SA SH SL f318 A316 F_value_b316 F_coder_b316 gn_b316 (Nat.ne_of_lt (Nat.lt_of_lt_of_le V_b307_315.lt (Nat.le_of_eq g316.symm))) (own_narc _) (own_narc _) (own_narc _) (own_narc _)) e316 (by decide) (by decide) (by decide) (by decide) (g := (mkF m 59 #[.val (.int pa), .val (.int pb), .val (.int pc_), .val (.int pd), .val (.int sh), .val (.int (own_ch pa)), .val (.int (own_ch pb)), .val (.int (own_ch pc_)), .val (.int (own_ch pd)), .val (.ref b307), .unset, .unset, .unset, .unset] [(.ref b307), (.ref b316), (.ref b316)])) rfl (by rw [hml]; rfl) (argsL := [(.ref b307)]) (rest := [(.ref b316)]) (lenOf pd_15 rfl) rfl (by show 2 * 0 + _ ≤ _; exact Nat.le_of_eq rfl) (hb hby at_59) ?_
  intro v319 T319 L319 X319 hQ319
  obtain ⟨b319, k319, rfl, Nq319, Kc319, sz319, fv319, dq319⟩ := hQ319
  have N319 := Fr.app N315 Nq319
  have K319 : Keep h0 T319.heap [] := K316.trans Kc319 (allS (Or.inr sz_b316) all0)
  have sz_b319 : h0.size ≤ b319 := Nat.le_trans K316.1 sz319
  have gn_b319 : n0 ≤ b319 := Nat.le_trans Z0 sz_b319
  show Run p e below s _ _ _ (T319.setTop (mkF m 62 #[.val (.int pa), .val (.int pb), .val (.int pc_), .val (.int pd), .val (.int sh), .val (.int (own_ch pa)), .val (.int (own_ch pb)), .val (.int (own_ch pc_)), .val (.int (own_ch pd)), .val (.ref b307), .unset, .unset, .unset, .unset] [(.ref b316)]))
  refine Run.pre (fun _ k => XS.astore X319.here hx rfl (hb hby at_62) rfl rfl (l' := #[.val (.int pa), .val (.int pb), .val (.int pc_), .val (.int pd), .val (.int sh), .val (.int (own_ch pa)), .val (.int (own_ch pb)), .val (.int (own_ch pc_)), .val (.int (own_ch pd)), .val (.ref b307), .val (.ref b316), .unset, .unset, .unset]) rfl k) ?_
  show Run p e below s _ _ _ (T319.setTop (mkF m 64 #[.val (.int pa), .val (.int pb), .val (.int pc_), .val (.int pd), .val (.int sh), .val (.int (own_ch pa)), .val (.int (own_ch pb)), .val (.int (own_ch pc_)), .val (.int (own_ch pd)), .val (.ref b307), .val (.ref b316), .unset, .unset, .unset] []))
  refine Run.pre (fun _ k => XS.iload X319.here hx rfl (hb hby at_64) rfl  k) ?_
  show Run p e below s _ _ _ (T319.setTop (mkF m 66 #[.val (.int pa), .val (.int pb), .val (.int pc_), .val (.int pd), .val (.int sh), .val (.int (own_ch pa)), .val (.int (own_ch pb)), .val (.int (own_ch pc_)), .val (.int (own_ch pd)), .val (.ref b307), .val (.ref b316), .unset, .unset, .unset] [(.int sh)]))
  refine Run.pre (fun _ k => XS.bipush X319.here hx rfl (hb hby at_66) k) ?_
  show Run p e below s _ _ _ (T319.setTop (mkF m 68 #[.val (.int pa), .val (.int pb), .val (.int pc_), .val (.int pd), .val (.int sh), .val (.int (own_ch pa)), .val (.int (own_ch pb)), .val (.int (own_ch pc_)), .val (.int (own_ch pd)), .val (.ref b307), .val (.ref b316), .unset, .unset, .unset] [(.int (7 : Int32)), (.int sh)]))
  refine Run.pre (fun _ k => XS.iand X319.here hx rfl (hb hby at_68) rfl k) ?_
  show Run p e below s _ _ _ (T319.setTop (mkF m 69 #[.val (.int pa), .val (.int pb), .val (.int pc_), .val (.int pd), .val (.int sh), .val (.int (own_ch pa)), .val (.int (own_ch pb)), .val (.int (own_ch pc_)), .val (.int (own_ch pd)), .val (.ref b307), .val (.ref b316), .unset, .unset, .unset] [(.int (sh &&& (7 : Int32)))]))
  refine Run.pre (fun _ k => XS.iconst X319.here hx rfl (hb hby at_69) k) ?_
  show Run p e below s _ _ _ (T319.setTop (mkF m 70 #[.val (.int pa), .val (.int pb), .val (.int pc_), .val (.int pd), .val (.int sh), .val (.int (own_ch pa)), .val (.int (own_ch pb)), .val (.int (own_ch pc_)), .val (.int (own_ch pd)), .val (.ref b307), .val (.ref b316), .unset, .unset, .unset] [(.int (5 : Int32)), (.int (sh &&& (7 : Int32)))]))
  refine Run.pre (fun _ k => iremM X319 hx rfl (hb hby at_70) rfl (by decide) k) ?_
  show Run p e below s _ _ _ (T319.setTop (mkF m 71 #[.val (.int pa), .val (.int pb), .val (.int pc_), .val (.int pd), .val (.int sh), .val (.int (own_ch pa)), .val (.int (own_ch pb)), .val (.int (own_ch pc_)), .val (.int (own_ch pd)), .val (.ref b307), .val (.ref b316), .unset, .unset, .unset] [(.int ((sh &&& (7 : Int32)) % (5 : Int32)))]))
  refine Run.pre (fun _ k => XS.istore X319.here hx rfl (hb hby at_71) rfl (l' := #[.val (.int pa), .val (.int pb), .val (.int pc_), .val (.int pd), .val (.int sh), .val (.int (own_ch pa)), .val (.int (own_ch pb)), .val (.int (own_ch pc_)), .val (.int (own_ch pd)), .val (.ref b307), .val (.ref b316), .val (.int ((sh &&& (7 : Int32)) % (5 : Int32))), .unset, .unset]) rfl k) ?_
  show Run p e below s _ _ _ (T319.setTop (mkF m 73 #[.val (.int pa), .val (.int pb), .val (.int pc_), .val (.int pd), .val (.int sh), .val (.int (own_ch pa)), .val (.int (own_ch pb)), .val (.int (own_ch pc_)), .val (.int (own_ch pd)), .val (.ref b307), .val (.ref b316), .val (.int ((sh &&& (7 : Int32)) % (5 : Int32))), .unset, .unset] []))
  refine Run.pre (fun _ k => XS.iload X319.here hx rfl (hb hby at_73) rfl  k) ?_
  show Run p e below s _ _ _ (T319.setTop (mkF m 75 #[.val (.int pa), .val (.int pb), .val (.int pc_), .val (.int pd), .val (.int sh), .val (.int (own_ch pa)), .val (.int (own_ch pb)), .val (.int (own_ch pc_)), .val (.int (own_ch pd)), .val (.ref b307), .val (.ref b316), .val (.int ((sh &&& (7 : Int32)) % (5 : Int32))), .unset, .unset] [(.int ((sh &&& (7 : Int32)) % (5 : Int32)))]))
  refine Run.pre (fun _ k => XS.iload X319.here hx rfl (hb hby at_75) rfl  k) ?_
  show Run p e below s _ _ _ (T319.setTop (mkF m 77 #[.val (.int pa), .val (.int pb), .val (.int pc_), .val (.int pd), .val (.int sh), .val (.int (own_ch pa)), .val (.int (own_ch pb)), .val (.int (own_ch pc_)), .val (.int (own_ch pd)), .val (.ref b307), .val (.ref b316), .val (.int ((sh &&& (7 : Int32)) % (5 : Int32))), .unset, .unset] [(.int sh), (.int ((sh &&& (7 : Int32)) % (5 : Int32)))]))
  refine Run.pre (fun _ k => XS.iconst X319.here hx rfl (hb hby at_77) k) ?_
  show Run p e below s _ _ _ (T319.setTop (mkF m 78 #[.val (.int pa), .val (.int pb), .val (.int pc_), .val (.int pd), .val (.int sh), .val (.int (own_ch pa)), .val (.int (own_ch pb)), .val (.int (own_ch pc_)), .val (.int (own_ch pd)), .val (.ref b307), .val (.ref b316), .val (.int ((sh &&& (7 : Int32)) % (5 : Int32))), .unset, .unset] [(.int (3 : Int32)), (.int sh), (.int ((sh &&& (7 : Int32)) % (5 : Int32)))]))
  refine Run.pre (fun _ k => XS.iushr X319.here hx rfl (hb hby at_78) rfl k) ?_
  show Run p e below s _ _ _ (T319.setTop (mkF m 79 #[.val (.int pa), .val (.int pb), .val (.int pc_), .val (.int pd), .val (.int sh), .val (.int (own_ch pa)), .val (.int (own_ch pb)), .val (.int (own_ch pc_)), .val (.int (own_ch pd)), .val (.ref b307), .val (.ref b316), .val (.int ((sh &&& (7 : Int32)) % (5 : Int32))), .unset, .unset] [(.int ((sh.toUInt32 >>> ((3 : Int32) &&& 31).toUInt32).toInt32)), (.int ((sh &&& (7 : Int32)) % (5 : Int32)))]))
  refine Run.pre (fun _ k => XS.bipush X319.here hx rfl (hb hby at_79) k) ?_
  show Run p e below s _ _ _ (T319.setTop (mkF m 81 #[.val (.int pa), .val (.int pb), .val (.int pc_), .val (.int pd), .val (.int sh), .val (.int (own_ch pa)), .val (.int (own_ch pb)), .val (.int (own_ch pc_)), .val (.int (own_ch pd)), .val (.ref b307), .val (.ref b316), .val (.int ((sh &&& (7 : Int32)) % (5 : Int32))), .unset, .unset] [(.int (7 : Int32)), (.int ((sh.toUInt32 >>> ((3 : Int32) &&& 31).toUInt32).toInt32)), (.int ((sh &&& (7 : Int32)) % (5 : Int32)))]))
  refine Run.pre (fun _ k => XS.iand X319.here hx rfl (hb hby at_81) rfl k) ?_
  show Run p e below s _ _ _ (T319.setTop (mkF m 82 #[.val (.int pa), .val (.int pb), .val (.int pc_), .val (.int pd), .val (.int sh), .val (.int (own_ch pa)), .val (.int (own_ch pb)), .val (.int (own_ch pc_)), .val (.int (own_ch pd)), .val (.ref b307), .val (.ref b316), .val (.int ((sh &&& (7 : Int32)) % (5 : Int32))), .unset, .unset] [(.int (((sh.toUInt32 >>> ((3 : Int32) &&& 31).toUInt32).toInt32) &&& (7 : Int32))), (.int ((sh &&& (7 : Int32)) % (5 : Int32)))]))
  refine Run.pre (fun _ k => XS.iconst X319.here hx rfl (hb hby at_82) k) ?_
  show Run p e below s _ _ _ (T319.setTop (mkF m 83 #[.val (.int pa), .val (.int pb), .val (.int pc_), .val (.int pd), .val (.int sh), .val (.int (own_ch pa)), .val (.int (own_ch pb)), .val (.int (own_ch pc_)), .val (.int (own_ch pd)), .val (.ref b307), .val (.ref b316), .val (.int ((sh &&& (7 : Int32)) % (5 : Int32))), .unset, .unset] [(.int (5 : Int32)), (.int (((sh.toUInt32 >>> ((3 : Int32) &&& 31).toUInt32).toInt32) &&& (7 : Int32))), (.int ((sh &&& (7 : Int32)) % (5 : Int32)))]))
  refine Run.pre (fun _ k => XS.iload X319.here hx rfl (hb hby at_83) rfl  k) ?_
  show Run p e below s _ _ _ (T319.setTop (mkF m 85 #[.val (.int pa), .val (.int pb), .val (.int pc_), .val (.int pd), .val (.int sh), .val (.int (own_ch pa)), .val (.int (own_ch pb)), .val (.int (own_ch pc_)), .val (.int (own_ch pd)), .val (.ref b307), .val (.ref b316), .val (.int ((sh &&& (7 : Int32)) % (5 : Int32))), .unset, .unset] [(.int ((sh &&& (7 : Int32)) % (5 : Int32))), (.int (5 : Int32)), (.int (((sh.toUInt32 >>> ((3 : Int32) &&& 31).toUInt32).toInt32) &&& (7 : Int32))), (.int ((sh &&& (7 : Int32)) % (5 : Int32)))]))
  refine Run.pre (fun _ k => XS.isub X319.here hx rfl (hb hby at_85) rfl k) ?_
  show Run p e below s _ _ _ (T319.setTop (mkF m 86 #[.val (.int pa), .val (.int pb), .val (.int pc_), .val (.int pd), .val (.int sh), .val (.int (own_ch pa)), .val (.int (own_ch pb)), .val (.int (own_ch pc_)), .val (.int (own_ch pd)), .val (.ref b307), .val (.ref b316), .val (.int ((sh &&& (7 : Int32)) % (5 : Int32))), .unset, .unset] [(.int ((5 : Int32) - ((sh &&& (7 : Int32)) % (5 : Int32)))), (.int (((sh.toUInt32 >>> ((3 : Int32) &&& 31).toUInt32).toInt32) &&& (7 : Int32))), (.int ((sh &&& (7 : Int32)) % (5 : Int32)))]))
  refine Run.pre (fun _ k => iremM X319 hx rfl (hb hby at_86) rfl (own_seOf sh 0).1 k) ?_
  show Run p e below s _ _ _ (T319.setTop (mkF m 87 #[.val (.int pa), .val (.int pb), .val (.int pc_), .val (.int pd), .val (.int sh), .val (.int (own_ch pa)), .val (.int (own_ch pb)), .val (.int (own_ch pc_)), .val (.int (own_ch pd)), .val (.ref b307), .val (.ref b316), .val (.int ((sh &&& (7 : Int32)) % (5 : Int32))), .unset, .unset] [(.int ((((sh.toUInt32 >>> ((3 : Int32) &&& 31).toUInt32).toInt32) &&& (7 : Int32)) % ((5 : Int32) - ((sh &&& (7 : Int32)) % (5 : Int32))))), (.int ((sh &&& (7 : Int32)) % (5 : Int32)))]))
  refine Run.pre (fun _ k => XS.iadd X319.here hx rfl (hb hby at_87) rfl k) ?_
  show Run p e below s _ _ _ (T319.setTop (mkF m 88 #[.val (.int pa), .val (.int pb), .val (.int pc_), .val (.int pd), .val (.int sh), .val (.int (own_ch pa)), .val (.int (own_ch pb)), .val (.int (own_ch pc_)), .val (.int (own_ch pd)), .val (.ref b307), .val (.ref b316), .val (.int ((sh &&& (7 : Int32)) % (5 : Int32))), .unset, .unset] [(.int (((sh &&& (7 : Int32)) % (5 : Int32)) + ((((sh.toUInt32 >>> ((3 : Int32) &&& 31).toUInt32).toInt32) &&& (7 : Int32)) % ((5 : Int32) - ((sh &&& (7 : Int32)) % (5 : Int32))))))]))
  refine Run.pre (fun _ k => XS.istore X319.here hx rfl (hb hby at_88) rfl (l' := #[.val (.int pa), .val (.int pb), .val (.int pc_), .val (.int pd), .val (.int sh), .val (.int (own_ch pa)), .val (.int (own_ch pb)), .val (.int (own_ch pc_)), .val (.int (own_ch pd)), .val (.ref b307), .val (.ref b316), .val (.int ((sh &&& (7 : Int32)) % (5 : Int32))), .val (.int (((sh &&& (7 : Int32)) % (5 : Int32)) + ((((sh.toUInt32 >>> ((3 : Int32) &&& 31).toUInt32).toInt32) &&& (7 : Int32)) % ((5 : Int32) - ((sh &&& (7 : Int32)) % (5 : Int32)))))), .unset]) rfl k) ?_
  show Run p e below s _ _ _ (T319.setTop (mkF m 90 #[.val (.int pa), .val (.int pb), .val (.int pc_), .val (.int pd), .val (.int sh), .val (.int (own_ch pa)), .val (.int (own_ch pb)), .val (.int (own_ch pc_)), .val (.int (own_ch pd)), .val (.ref b307), .val (.ref b316), .val (.int ((sh &&& (7 : Int32)) % (5 : Int32))), .val (.int (((sh &&& (7 : Int32)) % (5 : Int32)) + ((((sh.toUInt32 >>> ((3 : Int32) &&& 31).toUInt32).toInt32) &&& (7 : Int32)) % ((5 : Int32) - ((sh &&& (7 : Int32)) % (5 : Int32)))))), .unset] []))
  refine Run.pre (fun _ k => XS.iconst X319.here hx rfl (hb hby at_90) k) ?_
  show Run p e below s _ _ _ (T319.setTop (mkF m 91 #[.val (.int pa), .val (.int pb), .val (.int pc_), .val (.int pd), .val (.int sh), .val (.int (own_ch pa)), .val (.int (own_ch pb)), .val (.int (own_ch pc_)), .val (.int (own_ch pd)), .val (.ref b307), .val (.ref b316), .val (.int ((sh &&& (7 : Int32)) % (5 : Int32))), .val (.int (((sh &&& (7 : Int32)) % (5 : Int32)) + ((((sh.toUInt32 >>> ((3 : Int32) &&& 31).toUInt32).toInt32) &&& (7 : Int32)) % ((5 : Int32) - ((sh &&& (7 : Int32)) % (5 : Int32)))))), .unset] [(.int (1 : Int32))]))
  refine Run.pre (fun _ k => XS.istore X319.here hx rfl (hb hby at_91) rfl (l' := #[.val (.int pa), .val (.int pb), .val (.int pc_), .val (.int pd), .val (.int sh), .val (.int (own_ch pa)), .val (.int (own_ch pb)), .val (.int (own_ch pc_)), .val (.int (own_ch pd)), .val (.ref b307), .val (.ref b316), .val (.int ((sh &&& (7 : Int32)) % (5 : Int32))), .val (.int (((sh &&& (7 : Int32)) % (5 : Int32)) + ((((sh.toUInt32 >>> ((3 : Int32) &&& 31).toUInt32).toInt32) &&& (7 : Int32)) % ((5 : Int32) - ((sh &&& (7 : Int32)) % (5 : Int32)))))), .val (.int (1 : Int32))]) rfl k) ?_
  show Run p e below s _ _ _ (T319.setTop (mkF m 93 #[.val (.int pa), .val (.int pb), .val (.int pc_), .val (.int pd), .val (.int sh), .val (.int (own_ch pa)), .val (.int (own_ch pb)), .val (.int (own_ch pc_)), .val (.int (own_ch pd)), .val (.ref b307), .val (.ref b316), .val (.int ((sh &&& (7 : Int32)) % (5 : Int32))), .val (.int (((sh &&& (7 : Int32)) % (5 : Int32)) + ((((sh.toUInt32 >>> ((3 : Int32) &&& 31).toUInt32).toInt32) &&& (7 : Int32)) % ((5 : Int32) - ((sh &&& (7 : Int32)) % (5 : Int32)))))), .val (.int (1 : Int32))] []))
  refine Run.pre (fun _ k => XS.iconst X319.here hx rfl (hb hby at_93) k) ?_
  show Run p e below s _ _ _ (T319.setTop (mkF m 94 #[.val (.int pa), .val (.int pb), .val (.int pc_), .val (.int pd), .val (.int sh), .val (.int (own_ch pa)), .val (.int (own_ch pb)), .val (.int (own_ch pc_)), .val (.int (own_ch pd)), .val (.ref b307), .val (.ref b316), .val (.int ((sh &&& (7 : Int32)) % (5 : Int32))), .val (.int (((sh &&& (7 : Int32)) % (5 : Int32)) + ((((sh.toUInt32 >>> ((3 : Int32) &&& 31).toUInt32).toInt32) &&& (7 : Int32)) % ((5 : Int32) - ((sh &&& (7 : Int32)) % (5 : Int32)))))), .val (.int (1 : Int32))] [(.int (0 : Int32))]))
  refine Run.pre (fun _ k => XS.iload X319.here hx rfl (hb hby at_94) rfl  k) ?_
  show Run p e below s _ _ _ (T319.setTop (mkF m 96 #[.val (.int pa), .val (.int pb), .val (.int pc_), .val (.int pd), .val (.int sh), .val (.int (own_ch pa)), .val (.int (own_ch pb)), .val (.int (own_ch pc_)), .val (.int (own_ch pd)), .val (.ref b307), .val (.ref b316), .val (.int ((sh &&& (7 : Int32)) % (5 : Int32))), .val (.int (((sh &&& (7 : Int32)) % (5 : Int32)) + ((((sh.toUInt32 >>> ((3 : Int32) &&& 31).toUInt32).toInt32) &&& (7 : Int32)) % ((5 : Int32) - ((sh &&& (7 : Int32)) % (5 : Int32)))))), .val (.int (1 : Int32))] [(.int (own_ch pa)), (.int (0 : Int32))]))
  refine Run.pre (fun _ k => XS.iload X319.here hx rfl (hb hby at_96) rfl  k) ?_
  show Run p e below s _ _ _ (T319.setTop (mkF m 98 #[.val (.int pa), .val (.int pb), .val (.int pc_), .val (.int pd), .val (.int sh), .val (.int (own_ch pa)), .val (.int (own_ch pb)), .val (.int (own_ch pc_)), .val (.int (own_ch pd)), .val (.ref b307), .val (.ref b316), .val (.int ((sh &&& (7 : Int32)) % (5 : Int32))), .val (.int (((sh &&& (7 : Int32)) % (5 : Int32)) + ((((sh.toUInt32 >>> ((3 : Int32) &&& 31).toUInt32).toInt32) &&& (7 : Int32)) % ((5 : Int32) - ((sh &&& (7 : Int32)) % (5 : Int32)))))), .val (.int (1 : Int32))] [(.int ((sh &&& (7 : Int32)) % (5 : Int32))), (.int (own_ch pa)), (.int (0 : Int32))]))
  refine Run.pre (fun _ k => XS.iload X319.here hx rfl (hb hby at_98) rfl  k) ?_
  show Run p e below s _ _ _ (T319.setTop (mkF m 100 #[.val (.int pa), .val (.int pb), .val (.int pc_), .val (.int pd), .val (.int sh), .val (.int (own_ch pa)), .val (.int (own_ch pb)), .val (.int (own_ch pc_)), .val (.int (own_ch pd)), .val (.ref b307), .val (.ref b316), .val (.int ((sh &&& (7 : Int32)) % (5 : Int32))), .val (.int (((sh &&& (7 : Int32)) % (5 : Int32)) + ((((sh.toUInt32 >>> ((3 : Int32) &&& 31).toUInt32).toInt32) &&& (7 : Int32)) % ((5 : Int32) - ((sh &&& (7 : Int32)) % (5 : Int32)))))), .val (.int (1 : Int32))] [(.int (((sh &&& (7 : Int32)) % (5 : Int32)) + ((((sh.toUInt32 >>> ((3 : Int32) &&& 31).toUInt32).toInt32) &&& (7 : Int32)) % ((5 : Int32) - ((sh &&& (7 : Int32)) % (5 : Int32)))))), (.int ((sh &&& (7 : Int32)) % (5 : Int32))), (.int (own_ch pa)), (.int (0 : Int32))]))
  refine Run.callS X319 hx hZ (y := (⟨"com/example/panelfix/panelfix/io/AsciiDigitsBetweenPinLaw", "badAt", "(ICII)Z"⟩ : MethodName)) hown (hw _ (List.mem_of_getElem? (i := 35) rfl)) (hw _ (List.mem_of_getElem? (i := 36) rfl)) (hw _ (List.mem_of_getElem? (i := 2) rfl)) (hw _ (List.mem_of_getElem? (i := 37) rfl)) (by decide) (W := 0) (rmBad l Z a0 hw (0 : Int32) (own_ch pa) ((sh &&& (7 : Int32)) % (5 : Int32)) (((sh &&& (7 : Int32)) % (5 : Int32)) + ((((sh.toUInt32 >>> ((3 : Int32) &&& 31).toUInt32).toInt32) &&& (7 : Int32)) % ((5 : Int32) - ((sh &&& (7 : Int32)) % (5 : Int32))))) T319.heap n0 (Nat.le_trans Z0 K319.1)) rfl (by decide) (by decide) (by decide) (by decide) (g := (mkF m 100 #[.val (.int pa), .val (.int pb), .val (.int pc_), .val (.int pd), .val (.int sh), .val (.int (own_ch pa)), .val (.int (own_ch pb)), .val (.int (own_ch pc_)), .val (.int (own_ch pd)), .val (.ref b307), .val (.ref b316), .val (.int ((sh &&& (7 : Int32)) % (5 : Int32))), .val (.int (((sh &&& (7 : Int32)) % (5 : Int32)) + ((((sh.toUInt32 >>> ((3 : Int32) &&& 31).toUInt32).toInt32) &&& (7 : Int32)) % ((5 : Int32) - ((sh &&& (7 : Int32)) % (5 : Int32)))))), .val (.int (1 : Int32))] [(.int (((sh &&& (7 : Int32)) % (5 : Int32)) + ((((sh.toUInt32 >>> ((3 : Int32) &&& 31).toUInt32).toInt32) &&& (7 : Int32)) % ((5 : Int32) - ((sh &&& (7 : Int32)) % (5 : Int32)))))), (.int ((sh &&& (7 : Int32)) % (5 : Int32))), (.int (own_ch pa)), (.int (0 : Int32))])) rfl (by rw [hml]; rfl) (argsL := [(.int (0 : Int32)), (.int (own_ch pa)), (.int ((sh &&& (7 : Int32)) % (5 : Int32))), (.int (((sh &&& (7 : Int32)) % (5 : Int32)) + ((((sh.toUInt32 >>> ((3 : Int32) &&& 31).toUInt32).toInt32) &&& (7 : Int32)) % ((5 : Int32) - ((sh &&& (7 : Int32)) % (5 : Int32))))))]) (rest := []) (lenOf pd_16 rfl) rfl (by show 2 * 0 + _ ≤ _; exact Nat.le_of_eq rfl) (hb hby at_100) ?_
  intro v320 T320 L320 X320 hQ320
  obtain ⟨rfl, Nq320, he320⟩ := hQ320
  have N320 := Fr.app N319 Nq320
  have e320 : T320.heap = T319.heap := he320
  show Run p e below s _ _ _ (T320.setTop (mkF m 103 #[.val (.int pa), .val (.int pb), .val (.int pc_), .val (.int pd), .val (.int sh), .val (.int (own_ch pa)), .val (.int (own_ch pb)), .val (.int (own_ch pc_)), .val (.int (own_ch pd)), .val (.ref b307), .val (.ref b316), .val (.int ((sh &&& (7 : Int32)) % (5 : Int32))), .val (.int (((sh &&& (7 : Int32)) % (5 : Int32)) + ((((sh.toUInt32 >>> ((3 : Int32) &&& 31).toUInt32).toInt32) &&& (7 : Int32)) % ((5 : Int32) - ((sh &&& (7 : Int32)) % (5 : Int32)))))), .val (.int (1 : Int32))] [(.int (own_bad (0 : Int32) (own_ch pa) ((sh &&& (7 : Int32)) % (5 : Int32)) (((sh &&& (7 : Int32)) % (5 : Int32)) + ((((sh.toUInt32 >>> ((3 : Int32) &&& 31).toUInt32).toInt32) &&& (7 : Int32)) % ((5 : Int32) - ((sh &&& (7 : Int32)) % (5 : Int32)))))))]))
  have KJ322 : Run p e below s (fun v h L => v = some (.int 1) ∧ Fr n0 L) room_1.cells room_1.slots (T320.setTop (mkF m 109 #[.val (.int pa), .val (.int pb), .val (.int pc_), .val (.int pd), .val (.int sh), .val (.int (own_ch pa)), .val (.int (own_ch pb)), .val (.int (own_ch pc_)), .val (.int (own_ch pd)), .val (.ref b307), .val (.ref b316), .val (.int ((sh &&& (7 : Int32)) % (5 : Int32))), .val (.int (((sh &&& (7 : Int32)) % (5 : Int32)) + ((((sh.toUInt32 >>> ((3 : Int32) &&& 31).toUInt32).toInt32) &&& (7 : Int32)) % ((5 : Int32) - ((sh &&& (7 : Int32)) % (5 : Int32)))))), .val (.int (own_e1 (own_bad (0 : Int32) (own_ch pa) ((sh &&& (7 : Int32)) % (5 : Int32)) (((sh &&& (7 : Int32)) % (5 : Int32)) + ((((sh.toUInt32 >>> ((3 : Int32) &&& 31).toUInt32).toInt32) &&& (7 : Int32)) % ((5 : Int32) - ((sh &&& (7 : Int32)) % (5 : Int32))))))))] [])) := by
    show Run p e below s _ _ _ (T320.setTop (mkF m 109 #[.val (.int pa), .val (.int pb), .val (.int pc_), .val (.int pd), .val (.int sh), .val (.int (own_ch pa)), .val (.int (own_ch pb)), .val (.int (own_ch pc_)), .val (.int (own_ch pd)), .val (.ref b307), .val (.ref b316), .val (.int ((sh &&& (7 : Int32)) % (5 : Int32))), .val (.int (((sh &&& (7 : Int32)) % (5 : Int32)) + ((((sh.toUInt32 >>> ((3 : Int32) &&& 31).toUInt32).toInt32) &&& (7 : Int32)) % ((5 : Int32) - ((sh &&& (7 : Int32)) % (5 : Int32)))))), .val (.int (own_e1 (own_bad (0 : Int32) (own_ch pa) ((sh &&& (7 : Int32)) % (5 : Int32)) (((sh &&& (7 : Int32)) % (5 : Int32)) + ((((sh.toUInt32 >>> ((3 : Int32) &&& 31).toUInt32).toInt32) &&& (7 : Int32)) % ((5 : Int32) - ((sh &&& (7 : Int32)) % (5 : Int32))))))))] []))
    refine Run.pre (fun _ k => XS.iconst X320.here hx rfl (hb hby at_109) k) ?_
    show Run p e below s _ _ _ (T320.setTop (mkF m 110 #[.val (.int pa), .val (.int pb), .val (.int pc_), .val (.int pd), .val (.int sh), .val (.int (own_ch pa)), .val (.int (own_ch pb)), .val (.int (own_ch pc_)), .val (.int (own_ch pd)), .val (.ref b307), .val (.ref b316), .val (.int ((sh &&& (7 : Int32)) % (5 : Int32))), .val (.int (((sh &&& (7 : Int32)) % (5 : Int32)) + ((((sh.toUInt32 >>> ((3 : Int32) &&& 31).toUInt32).toInt32) &&& (7 : Int32)) % ((5 : Int32) - ((sh &&& (7 : Int32)) % (5 : Int32)))))), .val (.int (own_e1 (own_bad (0 : Int32) (own_ch pa) ((sh &&& (7 : Int32)) % (5 : Int32)) (((sh &&& (7 : Int32)) % (5 : Int32)) + ((((sh.toUInt32 >>> ((3 : Int32) &&& 31).toUInt32).toInt32) &&& (7 : Int32)) % ((5 : Int32) - ((sh &&& (7 : Int32)) % (5 : Int32))))))))] [(.int (1 : Int32))]))
    refine Run.pre (fun _ k => XS.iload X320.here hx rfl (hb hby at_110) rfl  k) ?_
    show Run p e below s _ _ _ (T320.setTop (mkF m 112 #[.val (.int pa), .val (.int pb), .val (.int pc_), .val (.int pd), .val (.int sh), .val (.int (own_ch pa)), .val (.int (own_ch pb)), .val (.int (own_ch pc_)), .val (.int (own_ch pd)), .val (.ref b307), .val (.ref b316), .val (.int ((sh &&& (7 : Int32)) % (5 : Int32))), .val (.int (((sh &&& (7 : Int32)) % (5 : Int32)) + ((((sh.toUInt32 >>> ((3 : Int32) &&& 31).toUInt32).toInt32) &&& (7 : Int32)) % ((5 : Int32) - ((sh &&& (7 : Int32)) % (5 : Int32)))))), .val (.int (own_e1 (own_bad (0 : Int32) (own_ch pa) ((sh &&& (7 : Int32)) % (5 : Int32)) (((sh &&& (7 : Int32)) % (5 : Int32)) + ((((sh.toUInt32 >>> ((3 : Int32) &&& 31).toUInt32).toInt32) &&& (7 : Int32)) % ((5 : Int32) - ((sh &&& (7 : Int32)) % (5 : Int32))))))))] [(.int (own_ch pb)), (.int (1 : Int32))]))
    refine Run.pre (fun _ k => XS.iload X320.here hx rfl (hb hby at_112) rfl  k) ?_
    show Run p e below s _ _ _ (T320.setTop (mkF m 114 #[.val (.int pa), .val (.int pb), .val (.int pc_), .val (.int pd), .val (.int sh), .val (.int (own_ch pa)), .val (.int (own_ch pb)), .val (.int (own_ch pc_)), .val (.int (own_ch pd)), .val (.ref b307), .val (.ref b316), .val (.int ((sh &&& (7 : Int32)) % (5 : Int32))), .val (.int (((sh &&& (7 : Int32)) % (5 : Int32)) + ((((sh.toUInt32 >>> ((3 : Int32) &&& 31).toUInt32).toInt32) &&& (7 : Int32)) % ((5 : Int32) - ((sh &&& (7 : Int32)) % (5 : Int32)))))), .val (.int (own_e1 (own_bad (0 : Int32) (own_ch pa) ((sh &&& (7 : Int32)) % (5 : Int32)) (((sh &&& (7 : Int32)) % (5 : Int32)) + ((((sh.toUInt32 >>> ((3 : Int32) &&& 31).toUInt32).toInt32) &&& (7 : Int32)) % ((5 : Int32) - ((sh &&& (7 : Int32)) % (5 : Int32))))))))] [(.int ((sh &&& (7 : Int32)) % (5 : Int32))), (.int (own_ch pb)), (.int (1 : Int32))]))
    refine Run.pre (fun _ k => XS.iload X320.here hx rfl (hb hby at_114) rfl  k) ?_
    show Run p e below s _ _ _ (T320.setTop (mkF m 116 #[.val (.int pa), .val (.int pb), .val (.int pc_), .val (.int pd), .val (.int sh), .val (.int (own_ch pa)), .val (.int (own_ch pb)), .val (.int (own_ch pc_)), .val (.int (own_ch pd)), .val (.ref b307), .val (.ref b316), .val (.int ((sh &&& (7 : Int32)) % (5 : Int32))), .val (.int (((sh &&& (7 : Int32)) % (5 : Int32)) + ((((sh.toUInt32 >>> ((3 : Int32) &&& 31).toUInt32).toInt32) &&& (7 : Int32)) % ((5 : Int32) - ((sh &&& (7 : Int32)) % (5 : Int32)))))), .val (.int (own_e1 (own_bad (0 : Int32) (own_ch pa) ((sh &&& (7 : Int32)) % (5 : Int32)) (((sh &&& (7 : Int32)) % (5 : Int32)) + ((((sh.toUInt32 >>> ((3 : Int32) &&& 31).toUInt32).toInt32) &&& (7 : Int32)) % ((5 : Int32) - ((sh &&& (7 : Int32)) % (5 : Int32))))))))] [(.int (((sh &&& (7 : Int32)) % (5 : Int32)) + ((((sh.toUInt32 >>> ((3 : Int32) &&& 31).toUInt32).toInt32) &&& (7 : Int32)) % ((5 : Int32) - ((sh &&& (7 : Int32)) % (5 : Int32)))))), (.int ((sh &&& (7 : Int32)) % (5 : Int32))), (.int (own_ch pb)), (.int (1 : Int32))]))
    refine Run.callS X320 hx hZ (y := (⟨"com/example/panelfix/panelfix/io/AsciiDigitsBetweenPinLaw", "badAt", "(ICII)Z"⟩ : MethodName)) hown (hw _ (List.mem_of_getElem? (i := 35) rfl)) (hw _ (List.mem_of_getElem? (i := 36) rfl)) (hw _ (List.mem_of_getElem? (i := 2) rfl)) (hw _ (List.mem_of_getElem? (i := 37) rfl)) (by decide) (W := 0) (rmBad l Z a0 hw (1 : Int32) (own_ch pb) ((sh &&& (7 : Int32)) % (5 : Int32)) (((sh &&& (7 : Int32)) % (5 : Int32)) + ((((sh.toUInt32 >>> ((3 : Int32) &&& 31).toUInt32).toInt32) &&& (7 : Int32)) % ((5 : Int32) - ((sh &&& (7 : Int32)) % (5 : Int32))))) T319.heap n0 (Nat.le_trans Z0 K319.1)) e320 (by decide) (by decide) (by decide) (by decide) (g := (mkF m 116 #[.val (.int pa), .val (.int pb), .val (.int pc_), .val (.int pd), .val (.int sh), .val (.int (own_ch pa)), .val (.int (own_ch pb)), .val (.int (own_ch pc_)), .val (.int (own_ch pd)), .val (.ref b307), .val (.ref b316), .val (.int ((sh &&& (7 : Int32)) % (5 : Int32))), .val (.int (((sh &&& (7 : Int32)) % (5 : Int32)) + ((((sh.toUInt32 >>> ((3 : Int32) &&& 31).toUInt32).toInt32) &&& (7 : Int32)) % ((5 : Int32) - ((sh &&& (7 : Int32)) % (5 : Int32)))))), .val (.int (own_e1 (own_bad (0 : Int32) (own_ch pa) ((sh &&& (7 : Int32)) % (5 : Int32)) (((sh &&& (7 : Int32)) % (5 : Int32)) + ((((sh.toUInt32 >>> ((3 : Int32) &&& 31).toUInt32).toInt32) &&& (7 : Int32)) % ((5 : Int32) - ((sh &&& (7 : Int32)) % (5 : Int32))))))))] [(.int (((sh &&& (7 : Int32)) % (5 : Int32)) + ((((sh.toUInt32 >>> ((3 : Int32) &&& 31).toUInt32).toInt32) &&& (7 : Int32)) % ((5 : Int32) - ((sh &&& (7 : Int32)) % (5 : Int32)))))), (.int ((sh &&& (7 : Int32)) % (5 : Int32))), (.int (own_ch pb)), (.int (1 : Int32))])) rfl (by rw [hml]; rfl) (argsL := [(.int (1 : Int32)), (.int (own_ch pb)), (.int ((sh &&& (7 : Int32)) % (5 : Int32))), (.int (((sh &&& (7 : Int32)) % (5 : Int32)) + ((((sh.toUInt32 >>> ((3 : Int32) &&& 31).toUInt32).toInt32) &&& (7 : Int32)) % ((5 : Int32) - ((sh &&& (7 : Int32)) % (5 : Int32))))))]) (rest := []) (lenOf pd_16 rfl) rfl (by show 2 * 0 + _ ≤ _; exact Nat.le_of_eq rfl) (hb hby at_116) ?_
    intro v323 T323 L323 X323 hQ323
    obtain ⟨rfl, Nq323, he323⟩ := hQ323
    have N323 := Fr.app N320 Nq323
    have e323 : T323.heap = T319.heap := he323
    show Run p e below s _ _ _ (T323.setTop (mkF m 119 #[.val (.int pa), .val (.int pb), .val (.int pc_), .val (.int pd), .val (.int sh), .val (.int (own_ch pa)), .val (.int (own_ch pb)), .val (.int (own_ch pc_)), .val (.int (own_ch pd)), .val (.ref b307), .val (.ref b316), .val (.int ((sh &&& (7 : Int32)) % (5 : Int32))), .val (.int (((sh &&& (7 : Int32)) % (5 : Int32)) + ((((sh.toUInt32 >>> ((3 : Int32) &&& 31).toUInt32).toInt32) &&& (7 : Int32)) % ((5 : Int32) - ((sh &&& (7 : Int32)) % (5 : Int32)))))), .val (.int (own_e1 (own_bad (0 : Int32) (own_ch pa) ((sh &&& (7 : Int32)) % (5 : Int32)) (((sh &&& (7 : Int32)) % (5 : Int32)) + ((((sh.toUInt32 >>> ((3 : Int32) &&& 31).toUInt32).toInt32) &&& (7 : Int32)) % ((5 : Int32) - ((sh &&& (7 : Int32)) % (5 : Int32))))))))] [(.int (own_bad (1 : Int32) (own_ch pb) ((sh &&& (7 : Int32)) % (5 : Int32)) (((sh &&& (7 : Int32)) % (5 : Int32)) + ((((sh.toUInt32 >>> ((3 : Int32) &&& 31).toUInt32).toInt32) &&& (7 : Int32)) % ((5 : Int32) - ((sh &&& (7 : Int32)) % (5 : Int32)))))))]))
    have KJ325 : Run p e below s (fun v h L => v = some (.int 1) ∧ Fr n0 L) room_1.cells room_1.slots (T323.setTop (mkF m 125 #[.val (.int pa), .val (.int pb), .val (.int pc_), .val (.int pd), .val (.int sh), .val (.int (own_ch pa)), .val (.int (own_ch pb)), .val (.int (own_ch pc_)), .val (.int (own_ch pd)), .val (.ref b307), .val (.ref b316), .val (.int ((sh &&& (7 : Int32)) % (5 : Int32))), .val (.int (((sh &&& (7 : Int32)) % (5 : Int32)) + ((((sh.toUInt32 >>> ((3 : Int32) &&& 31).toUInt32).toInt32) &&& (7 : Int32)) % ((5 : Int32) - ((sh &&& (7 : Int32)) % (5 : Int32)))))), .val (.int (own_en (own_e1 (own_bad (0 : Int32) (own_ch pa) ((sh &&& (7 : Int32)) % (5 : Int32)) (((sh &&& (7 : Int32)) % (5 : Int32)) + ((((sh.toUInt32 >>> ((3 : Int32) &&& 31).toUInt32).toInt32) &&& (7 : Int32)) % ((5 : Int32) - ((sh &&& (7 : Int32)) % (5 : Int32))))))) (own_bad (1 : Int32) (own_ch pb) ((sh &&& (7 : Int32)) % (5 : Int32)) (((sh &&& (7 : Int32)) % (5 : Int32)) + ((((sh.toUInt32 >>> ((3 : Int32) &&& 31).toUInt32).toInt32) &&& (7 : Int32)) % ((5 : Int32) - ((sh &&& (7 : Int32)) % (5 : Int32))))))))] [])) := by
      show Run p e below s _ _ _ (T323.setTop (mkF m 125 #[.val (.int pa), .val (.int pb), .val (.int pc_), .val (.int pd), .val (.int sh), .val (.int (own_ch pa)), .val (.int (own_ch pb)), .val (.int (own_ch pc_)), .val (.int (own_ch pd)), .val (.ref b307), .val (.ref b316), .val (.int ((sh &&& (7 : Int32)) % (5 : Int32))), .val (.int (((sh &&& (7 : Int32)) % (5 : Int32)) + ((((sh.toUInt32 >>> ((3 : Int32) &&& 31).toUInt32).toInt32) &&& (7 : Int32)) % ((5 : Int32) - ((sh &&& (7 : Int32)) % (5 : Int32)))))), .val (.int (own_en (own_e1 (own_bad (0 : Int32) (own_ch pa) ((sh &&& (7 : Int32)) % (5 : Int32)) (((sh &&& (7 : Int32)) % (5 : Int32)) + ((((sh.toUInt32 >>> ((3 : Int32) &&& 31).toUInt32).toInt32) &&& (7 : Int32)) % ((5 : Int32) - ((sh &&& (7 : Int32)) % (5 : Int32))))))) (own_bad (1 : Int32) (own_ch pb) ((sh &&& (7 : Int32)) % (5 : Int32)) (((sh &&& (7 : Int32)) % (5 : Int32)) + ((((sh.toUInt32 >>> ((3 : Int32) &&& 31).toUInt32).toInt32) &&& (7 : Int32)) % ((5 : Int32) - ((sh &&& (7 : Int32)) % (5 : Int32))))))))] []))
      refine Run.pre (fun _ k => XS.iconst X323.here hx rfl (hb hby at_125) k) ?_
      show Run p e below s _ _ _ (T323.setTop (mkF m 126 #[.val (.int pa), .val (.int pb), .val (.int pc_), .val (.int pd), .val (.int sh), .val (.int (own_ch pa)), .val (.int (own_ch pb)), .val (.int (own_ch pc_)), .val (.int (own_ch pd)), .val (.ref b307), .val (.ref b316), .val (.int ((sh &&& (7 : Int32)) % (5 : Int32))), .val (.int (((sh &&& (7 : Int32)) % (5 : Int32)) + ((((sh.toUInt32 >>> ((3 : Int32) &&& 31).toUInt32).toInt32) &&& (7 : Int32)) % ((5 : Int32) - ((sh &&& (7 : Int32)) % (5 : Int32)))))), .val (.int (own_en (own_e1 (own_bad (0 : Int32) (own_ch pa) ((sh &&& (7 : Int32)) % (5 : Int32)) (((sh &&& (7 : Int32)) % (5 : Int32)) + ((((sh.toUInt32 >>> ((3 : Int32) &&& 31).toUInt32).toInt32) &&& (7 : Int32)) % ((5 : Int32) - ((sh &&& (7 : Int32)) % (5 : Int32))))))) (own_bad (1 : Int32) (own_ch pb) ((sh &&& (7 : Int32)) % (5 : Int32)) (((sh &&& (7 : Int32)) % (5 : Int32)) + ((((sh.toUInt32 >>> ((3 : Int32) &&& 31).toUInt32).toInt32) &&& (7 : Int32)) % ((5 : Int32) - ((sh &&& (7 : Int32)) % (5 : Int32))))))))] [(.int (2 : Int32))]))
      refine Run.pre (fun _ k => XS.iload X323.here hx rfl (hb hby at_126) rfl  k) ?_
      show Run p e below s _ _ _ (T323.setTop (mkF m 128 #[.val (.int pa), .val (.int pb), .val (.int pc_), .val (.int pd), .val (.int sh), .val (.int (own_ch pa)), .val (.int (own_ch pb)), .val (.int (own_ch pc_)), .val (.int (own_ch pd)), .val (.ref b307), .val (.ref b316), .val (.int ((sh &&& (7 : Int32)) % (5 : Int32))), .val (.int (((sh &&& (7 : Int32)) % (5 : Int32)) + ((((sh.toUInt32 >>> ((3 : Int32) &&& 31).toUInt32).toInt32) &&& (7 : Int32)) % ((5 : Int32) - ((sh &&& (7 : Int32)) % (5 : Int32)))))), .val (.int (own_en (own_e1 (own_bad (0 : Int32) (own_ch pa) ((sh &&& (7 : Int32)) % (5 : Int32)) (((sh &&& (7 : Int32)) % (5 : Int32)) + ((((sh.toUInt32 >>> ((3 : Int32) &&& 31).toUInt32).toInt32) &&& (7 : Int32)) % ((5 : Int32) - ((sh &&& (7 : Int32)) % (5 : Int32))))))) (own_bad (1 : Int32) (own_ch pb) ((sh &&& (7 : Int32)) % (5 : Int32)) (((sh &&& (7 : Int32)) % (5 : Int32)) + ((((sh.toUInt32 >>> ((3 : Int32) &&& 31).toUInt32).toInt32) &&& (7 : Int32)) % ((5 : Int32) - ((sh &&& (7 : Int32)) % (5 : Int32))))))))] [(.int (own_ch pc_)), (.int (2 : Int32))]))
      refine Run.pre (fun _ k => XS.iload X323.here hx rfl (hb hby at_128) rfl  k) ?_
      show Run p e below s _ _ _ (T323.setTop (mkF m 130 #[.val (.int pa), .val (.int pb), .val (.int pc_), .val (.int pd), .val (.int sh), .val (.int (own_ch pa)), .val (.int (own_ch pb)), .val (.int (own_ch pc_)), .val (.int (own_ch pd)), .val (.ref b307), .val (.ref b316), .val (.int ((sh &&& (7 : Int32)) % (5 : Int32))), .val (.int (((sh &&& (7 : Int32)) % (5 : Int32)) + ((((sh.toUInt32 >>> ((3 : Int32) &&& 31).toUInt32).toInt32) &&& (7 : Int32)) % ((5 : Int32) - ((sh &&& (7 : Int32)) % (5 : Int32)))))), .val (.int (own_en (own_e1 (own_bad (0 : Int32) (own_ch pa) ((sh &&& (7 : Int32)) % (5 : Int32)) (((sh &&& (7 : Int32)) % (5 : Int32)) + ((((sh.toUInt32 >>> ((3 : Int32) &&& 31).toUInt32).toInt32) &&& (7 : Int32)) % ((5 : Int32) - ((sh &&& (7 : Int32)) % (5 : Int32))))))) (own_bad (1 : Int32) (own_ch pb) ((sh &&& (7 : Int32)) % (5 : Int32)) (((sh &&& (7 : Int32)) % (5 : Int32)) + ((((sh.toUInt32 >>> ((3 : Int32) &&& 31).toUInt32).toInt32) &&& (7 : Int32)) % ((5 : Int32) - ((sh &&& (7 : Int32)) % (5 : Int32))))))))] [(.int ((sh &&& (7 : Int32)) % (5 : Int32))), (.int (own_ch pc_)), (.int (2 : Int32))]))
      refine Run.pre (fun _ k => XS.iload X323.here hx rfl (hb hby at_130) rfl  k) ?_
      show Run p e below s _ _ _ (T323.setTop (mkF m 132 #[.val (.int pa), .val (.int pb), .val (.int pc_), .val (.int pd), .val (.int sh), .val (.int (own_ch pa)), .val (.int (own_ch pb)), .val (.int (own_ch pc_)), .val (.int (own_ch pd)), .val (.ref b307), .val (.ref b316), .val (.int ((sh &&& (7 : Int32)) % (5 : Int32))), .val (.int (((sh &&& (7 : Int32)) % (5 : Int32)) + ((((sh.toUInt32 >>> ((3 : Int32) &&& 31).toUInt32).toInt32) &&& (7 : Int32)) % ((5 : Int32) - ((sh &&& (7 : Int32)) % (5 : Int32)))))), .val (.int (own_en (own_e1 (own_bad (0 : Int32) (own_ch pa) ((sh &&& (7 : Int32)) % (5 : Int32)) (((sh &&& (7 : Int32)) % (5 : Int32)) + ((((sh.toUInt32 >>> ((3 : Int32) &&& 31).toUInt32).toInt32) &&& (7 : Int32)) % ((5 : Int32) - ((sh &&& (7 : Int32)) % (5 : Int32))))))) (own_bad (1 : Int32) (own_ch pb) ((sh &&& (7 : Int32)) % (5 : Int32)) (((sh &&& (7 : Int32)) % (5 : Int32)) + ((((sh.toUInt32 >>> ((3 : Int32) &&& 31).toUInt32).toInt32) &&& (7 : Int32)) % ((5 : Int32) - ((sh &&& (7 : Int32)) % (5 : Int32))))))))] [(.int (((sh &&& (7 : Int32)) % (5 : Int32)) + ((((sh.toUInt32 >>> ((3 : Int32) &&& 31).toUInt32).toInt32) &&& (7 : Int32)) % ((5 : Int32) - ((sh &&& (7 : Int32)) % (5 : Int32)))))), (.int ((sh &&& (7 : Int32)) % (5 : Int32))), (.int (own_ch pc_)), (.int (2 : Int32))]))
      refine Run.callS X323 hx hZ (y := (⟨"com/example/panelfix/panelfix/io/AsciiDigitsBetweenPinLaw", "badAt", "(ICII)Z"⟩ : MethodName)) hown (hw _ (List.mem_of_getElem? (i := 35) rfl)) (hw _ (List.mem_of_getElem? (i := 36) rfl)) (hw _ (List.mem_of_getElem? (i := 2) rfl)) (hw _ (List.mem_of_getElem? (i := 37) rfl)) (by decide) (W := 0) (rmBad l Z a0 hw (2 : Int32) (own_ch pc_) ((sh &&& (7 : Int32)) % (5 : Int32)) (((sh &&& (7 : Int32)) % (5 : Int32)) + ((((sh.toUInt32 >>> ((3 : Int32) &&& 31).toUInt32).toInt32) &&& (7 : Int32)) % ((5 : Int32) - ((sh &&& (7 : Int32)) % (5 : Int32))))) T319.heap n0 (Nat.le_trans Z0 K319.1)) e323 (by decide) (by decide) (by decide) (by decide) (g := (mkF m 132 #[.val (.int pa), .val (.int pb), .val (.int pc_), .val (.int pd), .val (.int sh), .val (.int (own_ch pa)), .val (.int (own_ch pb)), .val (.int (own_ch pc_)), .val (.int (own_ch pd)), .val (.ref b307), .val (.ref b316), .val (.int ((sh &&& (7 : Int32)) % (5 : Int32))), .val (.int (((sh &&& (7 : Int32)) % (5 : Int32)) + ((((sh.toUInt32 >>> ((3 : Int32) &&& 31).toUInt32).toInt32) &&& (7 : Int32)) % ((5 : Int32) - ((sh &&& (7 : Int32)) % (5 : Int32)))))), .val (.int (own_en (own_e1 (own_bad (0 : Int32) (own_ch pa) ((sh &&& (7 : Int32)) % (5 : Int32)) (((sh &&& (7 : Int32)) % (5 : Int32)) + ((((sh.toUInt32 >>> ((3 : Int32) &&& 31).toUInt32).toInt32) &&& (7 : Int32)) % ((5 : Int32) - ((sh &&& (7 : Int32)) % (5 : Int32))))))) (own_bad (1 : Int32) (own_ch pb) ((sh &&& (7 : Int32)) % (5 : Int32)) (((sh &&& (7 : Int32)) % (5 : Int32)) + ((((sh.toUInt32 >>> ((3 : Int32) &&& 31).toUInt32).toInt32) &&& (7 : Int32)) % ((5 : Int32) - ((sh &&& (7 : Int32)) % (5 : Int32))))))))] [(.int (((sh &&& (7 : Int32)) % (5 : Int32)) + ((((sh.toUInt32 >>> ((3 : Int32) &&& 31).toUInt32).toInt32) &&& (7 : Int32)) % ((5 : Int32) - ((sh &&& (7 : Int32)) % (5 : Int32)))))), (.int ((sh &&& (7 : Int32)) % (5 : Int32))), (.int (own_ch pc_)), (.int (2 : Int32))])) rfl (by rw [hml]; rfl) (argsL := [(.int (2 : Int32)), (.int (own_ch pc_)), (.int ((sh &&& (7 : Int32)) % (5 : Int32))), (.int (((sh &&& (7 : Int32)) % (5 : Int32)) + ((((sh.toUInt32 >>> ((3 : Int32) &&& 31).toUInt32).toInt32) &&& (7 : Int32)) % ((5 : Int32) - ((sh &&& (7 : Int32)) % (5 : Int32))))))]) (rest := []) (lenOf pd_16 rfl) rfl (by show 2 * 0 + _ ≤ _; exact Nat.le_of_eq rfl) (hb hby at_132) ?_
      intro v326 T326 L326 X326 hQ326
      obtain ⟨rfl, Nq326, he326⟩ := hQ326
      have N326 := Fr.app N323 Nq326
      have e326 : T326.heap = T319.heap := he326
      show Run p e below s _ _ _ (T326.setTop (mkF m 135 #[.val (.int pa), .val (.int pb), .val (.int pc_), .val (.int pd), .val (.int sh), .val (.int (own_ch pa)), .val (.int (own_ch pb)), .val (.int (own_ch pc_)), .val (.int (own_ch pd)), .val (.ref b307), .val (.ref b316), .val (.int ((sh &&& (7 : Int32)) % (5 : Int32))), .val (.int (((sh &&& (7 : Int32)) % (5 : Int32)) + ((((sh.toUInt32 >>> ((3 : Int32) &&& 31).toUInt32).toInt32) &&& (7 : Int32)) % ((5 : Int32) - ((sh &&& (7 : Int32)) % (5 : Int32)))))), .val (.int (own_en (own_e1 (own_bad (0 : Int32) (own_ch pa) ((sh &&& (7 : Int32)) % (5 : Int32)) (((sh &&& (7 : Int32)) % (5 : Int32)) + ((((sh.toUInt32 >>> ((3 : Int32) &&& 31).toUInt32).toInt32) &&& (7 : Int32)) % ((5 : Int32) - ((sh &&& (7 : Int32)) % (5 : Int32))))))) (own_bad (1 : Int32) (own_ch pb) ((sh &&& (7 : Int32)) % (5 : Int32)) (((sh &&& (7 : Int32)) % (5 : Int32)) + ((((sh.toUInt32 >>> ((3 : Int32) &&& 31).toUInt32).toInt32) &&& (7 : Int32)) % ((5 : Int32) - ((sh &&& (7 : Int32)) % (5 : Int32))))))))] [(.int (own_bad (2 : Int32) (own_ch pc_) ((sh &&& (7 : Int32)) % (5 : Int32)) (((sh &&& (7 : Int32)) % (5 : Int32)) + ((((sh.toUInt32 >>> ((3 : Int32) &&& 31).toUInt32).toInt32) &&& (7 : Int32)) % ((5 : Int32) - ((sh &&& (7 : Int32)) % (5 : Int32)))))))]))
      have KJ328 : Run p e below s (fun v h L => v = some (.int 1) ∧ Fr n0 L) room_1.cells room_1.slots (T326.setTop (mkF m 141 #[.val (.int pa), .val (.int pb), .val (.int pc_), .val (.int pd), .val (.int sh), .val (.int (own_ch pa)), .val (.int (own_ch pb)), .val (.int (own_ch pc_)), .val (.int (own_ch pd)), .val (.ref b307), .val (.ref b316), .val (.int ((sh &&& (7 : Int32)) % (5 : Int32))), .val (.int (((sh &&& (7 : Int32)) % (5 : Int32)) + ((((sh.toUInt32 >>> ((3 : Int32) &&& 31).toUInt32).toInt32) &&& (7 : Int32)) % ((5 : Int32) - ((sh &&& (7 : Int32)) % (5 : Int32)))))), .val (.int (own_en (own_en (own_e1 (own_bad (0 : Int32) (own_ch pa) ((sh &&& (7 : Int32)) % (5 : Int32)) (((sh &&& (7 : Int32)) % (5 : Int32)) + ((((sh.toUInt32 >>> ((3 : Int32) &&& 31).toUInt32).toInt32) &&& (7 : Int32)) % ((5 : Int32) - ((sh &&& (7 : Int32)) % (5 : Int32))))))) (own_bad (1 : Int32) (own_ch pb) ((sh &&& (7 : Int32)) % (5 : Int32)) (((sh &&& (7 : Int32)) % (5 : Int32)) + ((((sh.toUInt32 >>> ((3 : Int32) &&& 31).toUInt32).toInt32) &&& (7 : Int32)) % ((5 : Int32) - ((sh &&& (7 : Int32)) % (5 : Int32))))))) (own_bad (2 : Int32) (own_ch pc_) ((sh &&& (7 : Int32)) % (5 : Int32)) (((sh &&& (7 : Int32)) % (5 : Int32)) + ((((sh.toUInt32 >>> ((3 : Int32) &&& 31).toUInt32).toInt32) &&& (7 : Int32)) % ((5 : Int32) - ((sh &&& (7 : Int32)) % (5 : Int32))))))))] [])) := by
        show Run p e below s _ _ _ (T326.setTop (mkF m 141 #[.val (.int pa), .val (.int pb), .val (.int pc_), .val (.int pd), .val (.int sh), .val (.int (own_ch pa)), .val (.int (own_ch pb)), .val (.int (own_ch pc_)), .val (.int (own_ch pd)), .val (.ref b307), .val (.ref b316), .val (.int ((sh &&& (7 : Int32)) % (5 : Int32))), .val (.int (((sh &&& (7 : Int32)) % (5 : Int32)) + ((((sh.toUInt32 >>> ((3 : Int32) &&& 31).toUInt32).toInt32) &&& (7 : Int32)) % ((5 : Int32) - ((sh &&& (7 : Int32)) % (5 : Int32)))))), .val (.int (own_en (own_en (own_e1 (own_bad (0 : Int32) (own_ch pa) ((sh &&& (7 : Int32)) % (5 : Int32)) (((sh &&& (7 : Int32)) % (5 : Int32)) + ((((sh.toUInt32 >>> ((3 : Int32) &&& 31).toUInt32).toInt32) &&& (7 : Int32)) % ((5 : Int32) - ((sh &&& (7 : Int32)) % (5 : Int32))))))) (own_bad (1 : Int32) (own_ch pb) ((sh &&& (7 : Int32)) % (5 : Int32)) (((sh &&& (7 : Int32)) % (5 : Int32)) + ((((sh.toUInt32 >>> ((3 : Int32) &&& 31).toUInt32).toInt32) &&& (7 : Int32)) % ((5 : Int32) - ((sh &&& (7 : Int32)) % (5 : Int32))))))) (own_bad (2 : Int32) (own_ch pc_) ((sh &&& (7 : Int32)) % (5 : Int32)) (((sh &&& (7 : Int32)) % (5 : Int32)) + ((((sh.toUInt32 >>> ((3 : Int32) &&& 31).toUInt32).toInt32) &&& (7 : Int32)) % ((5 : Int32) - ((sh &&& (7 : Int32)) % (5 : Int32))))))))] []))
        refine Run.pre (fun _ k => XS.iconst X326.here hx rfl (hb hby at_141) k) ?_
        show Run p e below s _ _ _ (T326.setTop (mkF m 142 #[.val (.int pa), .val (.int pb), .val (.int pc_), .val (.int pd), .val (.int sh), .val (.int (own_ch pa)), .val (.int (own_ch pb)), .val (.int (own_ch pc_)), .val (.int (own_ch pd)), .val (.ref b307), .val (.ref b316), .val (.int ((sh &&& (7 : Int32)) % (5 : Int32))), .val (.int (((sh &&& (7 : Int32)) % (5 : Int32)) + ((((sh.toUInt32 >>> ((3 : Int32) &&& 31).toUInt32).toInt32) &&& (7 : Int32)) % ((5 : Int32) - ((sh &&& (7 : Int32)) % (5 : Int32)))))), .val (.int (own_en (own_en (own_e1 (own_bad (0 : Int32) (own_ch pa) ((sh &&& (7 : Int32)) % (5 : Int32)) (((sh &&& (7 : Int32)) % (5 : Int32)) + ((((sh.toUInt32 >>> ((3 : Int32) &&& 31).toUInt32).toInt32) &&& (7 : Int32)) % ((5 : Int32) - ((sh &&& (7 : Int32)) % (5 : Int32))))))) (own_bad (1 : Int32) (own_ch pb) ((sh &&& (7 : Int32)) % (5 : Int32)) (((sh &&& (7 : Int32)) % (5 : Int32)) + ((((sh.toUInt32 >>> ((3 : Int32) &&& 31).toUInt32).toInt32) &&& (7 : Int32)) % ((5 : Int32) - ((sh &&& (7 : Int32)) % (5 : Int32))))))) (own_bad (2 : Int32) (own_ch pc_) ((sh &&& (7 : Int32)) % (5 : Int32)) (((sh &&& (7 : Int32)) % (5 : Int32)) + ((((sh.toUInt32 >>> ((3 : Int32) &&& 31).toUInt32).toInt32) &&& (7 : Int32)) % ((5 : Int32) - ((sh &&& (7 : Int32)) % (5 : Int32))))))))] [(.int (3 : Int32))]))
        refine Run.pre (fun _ k => XS.iload X326.here hx rfl (hb hby at_142) rfl  k) ?_
        show Run p e below s _ _ _ (T326.setTop (mkF m 144 #[.val (.int pa), .val (.int pb), .val (.int pc_), .val (.int pd), .val (.int sh), .val (.int (own_ch pa)), .val (.int (own_ch pb)), .val (.int (own_ch pc_)), .val (.int (own_ch pd)), .val (.ref b307), .val (.ref b316), .val (.int ((sh &&& (7 : Int32)) % (5 : Int32))), .val (.int (((sh &&& (7 : Int32)) % (5 : Int32)) + ((((sh.toUInt32 >>> ((3 : Int32) &&& 31).toUInt32).toInt32) &&& (7 : Int32)) % ((5 : Int32) - ((sh &&& (7 : Int32)) % (5 : Int32)))))), .val (.int (own_en (own_en (own_e1 (own_bad (0 : Int32) (own_ch pa) ((sh &&& (7 : Int32)) % (5 : Int32)) (((sh &&& (7 : Int32)) % (5 : Int32)) + ((((sh.toUInt32 >>> ((3 : Int32) &&& 31).toUInt32).toInt32) &&& (7 : Int32)) % ((5 : Int32) - ((sh &&& (7 : Int32)) % (5 : Int32))))))) (own_bad (1 : Int32) (own_ch pb) ((sh &&& (7 : Int32)) % (5 : Int32)) (((sh &&& (7 : Int32)) % (5 : Int32)) + ((((sh.toUInt32 >>> ((3 : Int32) &&& 31).toUInt32).toInt32) &&& (7 : Int32)) % ((5 : Int32) - ((sh &&& (7 : Int32)) % (5 : Int32))))))) (own_bad (2 : Int32) (own_ch pc_) ((sh &&& (7 : Int32)) % (5 : Int32)) (((sh &&& (7 : Int32)) % (5 : Int32)) + ((((sh.toUInt32 >>> ((3 : Int32) &&& 31).toUInt32).toInt32) &&& (7 : Int32)) % ((5 : Int32) - ((sh &&& (7 : Int32)) % (5 : Int32))))))))] [(.int (own_ch pd)), (.int (3 : Int32))]))
        refine Run.pre (fun _ k => XS.iload X326.here hx rfl (hb hby at_144) rfl  k) ?_
        show Run p e below s _ _ _ (T326.setTop (mkF m 146 #[.val (.int pa), .val (.int pb), .val (.int pc_), .val (.int pd), .val (.int sh), .val (.int (own_ch pa)), .val (.int (own_ch pb)), .val (.int (own_ch pc_)), .val (.int (own_ch pd)), .val (.ref b307), .val (.ref b316), .val (.int ((sh &&& (7 : Int32)) % (5 : Int32))), .val (.int (((sh &&& (7 : Int32)) % (5 : Int32)) + ((((sh.toUInt32 >>> ((3 : Int32) &&& 31).toUInt32).toInt32) &&& (7 : Int32)) % ((5 : Int32) - ((sh &&& (7 : Int32)) % (5 : Int32)))))), .val (.int (own_en (own_en (own_e1 (own_bad (0 : Int32) (own_ch pa) ((sh &&& (7 : Int32)) % (5 : Int32)) (((sh &&& (7 : Int32)) % (5 : Int32)) + ((((sh.toUInt32 >>> ((3 : Int32) &&& 31).toUInt32).toInt32) &&& (7 : Int32)) % ((5 : Int32) - ((sh &&& (7 : Int32)) % (5 : Int32))))))) (own_bad (1 : Int32) (own_ch pb) ((sh &&& (7 : Int32)) % (5 : Int32)) (((sh &&& (7 : Int32)) % (5 : Int32)) + ((((sh.toUInt32 >>> ((3 : Int32) &&& 31).toUInt32).toInt32) &&& (7 : Int32)) % ((5 : Int32) - ((sh &&& (7 : Int32)) % (5 : Int32))))))) (own_bad (2 : Int32) (own_ch pc_) ((sh &&& (7 : Int32)) % (5 : Int32)) (((sh &&& (7 : Int32)) % (5 : Int32)) + ((((sh.toUInt32 >>> ((3 : Int32) &&& 31).toUInt32).toInt32) &&& (7 : Int32)) % ((5 : Int32) - ((sh &&& (7 : Int32)) % (5 : Int32))))))))] [(.int ((sh &&& (7 : Int32)) % (5 : Int32))), (.int (own_ch pd)), (.int (3 : Int32))]))
        refine Run.pre (fun _ k => XS.iload X326.here hx rfl (hb hby at_146) rfl  k) ?_
        show Run p e below s _ _ _ (T326.setTop (mkF m 148 #[.val (.int pa), .val (.int pb), .val (.int pc_), .val (.int pd), .val (.int sh), .val (.int (own_ch pa)), .val (.int (own_ch pb)), .val (.int (own_ch pc_)), .val (.int (own_ch pd)), .val (.ref b307), .val (.ref b316), .val (.int ((sh &&& (7 : Int32)) % (5 : Int32))), .val (.int (((sh &&& (7 : Int32)) % (5 : Int32)) + ((((sh.toUInt32 >>> ((3 : Int32) &&& 31).toUInt32).toInt32) &&& (7 : Int32)) % ((5 : Int32) - ((sh &&& (7 : Int32)) % (5 : Int32)))))), .val (.int (own_en (own_en (own_e1 (own_bad (0 : Int32) (own_ch pa) ((sh &&& (7 : Int32)) % (5 : Int32)) (((sh &&& (7 : Int32)) % (5 : Int32)) + ((((sh.toUInt32 >>> ((3 : Int32) &&& 31).toUInt32).toInt32) &&& (7 : Int32)) % ((5 : Int32) - ((sh &&& (7 : Int32)) % (5 : Int32))))))) (own_bad (1 : Int32) (own_ch pb) ((sh &&& (7 : Int32)) % (5 : Int32)) (((sh &&& (7 : Int32)) % (5 : Int32)) + ((((sh.toUInt32 >>> ((3 : Int32) &&& 31).toUInt32).toInt32) &&& (7 : Int32)) % ((5 : Int32) - ((sh &&& (7 : Int32)) % (5 : Int32))))))) (own_bad (2 : Int32) (own_ch pc_) ((sh &&& (7 : Int32)) % (5 : Int32)) (((sh &&& (7 : Int32)) % (5 : Int32)) + ((((sh.toUInt32 >>> ((3 : Int32) &&& 31).toUInt32).toInt32) &&& (7 : Int32)) % ((5 : Int32) - ((sh &&& (7 : Int32)) % (5 : Int32))))))))] [(.int (((sh &&& (7 : Int32)) % (5 : Int32)) + ((((sh.toUInt32 >>> ((3 : Int32) &&& 31).toUInt32).toInt32) &&& (7 : Int32)) % ((5 : Int32) - ((sh &&& (7 : Int32)) % (5 : Int32)))))), (.int ((sh &&& (7 : Int32)) % (5 : Int32))), (.int (own_ch pd)), (.int (3 : Int32))]))
        refine Run.callS X326 hx hZ (y := (⟨"com/example/panelfix/panelfix/io/AsciiDigitsBetweenPinLaw", "badAt", "(ICII)Z"⟩ : MethodName)) hown (hw _ (List.mem_of_getElem? (i := 35) rfl)) (hw _ (List.mem_of_getElem? (i := 36) rfl)) (hw _ (List.mem_of_getElem? (i := 2) rfl)) (hw _ (List.mem_of_getElem? (i := 37) rfl)) (by decide) (W := 0) (rmBad l Z a0 hw (3 : Int32) (own_ch pd) ((sh &&& (7 : Int32)) % (5 : Int32)) (((sh &&& (7 : Int32)) % (5 : Int32)) + ((((sh.toUInt32 >>> ((3 : Int32) &&& 31).toUInt32).toInt32) &&& (7 : Int32)) % ((5 : Int32) - ((sh &&& (7 : Int32)) % (5 : Int32))))) T319.heap n0 (Nat.le_trans Z0 K319.1)) e326 (by decide) (by decide) (by decide) (by decide) (g := (mkF m 148 #[.val (.int pa), .val (.int pb), .val (.int pc_), .val (.int pd), .val (.int sh), .val (.int (own_ch pa)), .val (.int (own_ch pb)), .val (.int (own_ch pc_)), .val (.int (own_ch pd)), .val (.ref b307), .val (.ref b316), .val (.int ((sh &&& (7 : Int32)) % (5 : Int32))), .val (.int (((sh &&& (7 : Int32)) % (5 : Int32)) + ((((sh.toUInt32 >>> ((3 : Int32) &&& 31).toUInt32).toInt32) &&& (7 : Int32)) % ((5 : Int32) - ((sh &&& (7 : Int32)) % (5 : Int32)))))), .val (.int (own_en (own_en (own_e1 (own_bad (0 : Int32) (own_ch pa) ((sh &&& (7 : Int32)) % (5 : Int32)) (((sh &&& (7 : Int32)) % (5 : Int32)) + ((((sh.toUInt32 >>> ((3 : Int32) &&& 31).toUInt32).toInt32) &&& (7 : Int32)) % ((5 : Int32) - ((sh &&& (7 : Int32)) % (5 : Int32))))))) (own_bad (1 : Int32) (own_ch pb) ((sh &&& (7 : Int32)) % (5 : Int32)) (((sh &&& (7 : Int32)) % (5 : Int32)) + ((((sh.toUInt32 >>> ((3 : Int32) &&& 31).toUInt32).toInt32) &&& (7 : Int32)) % ((5 : Int32) - ((sh &&& (7 : Int32)) % (5 : Int32))))))) (own_bad (2 : Int32) (own_ch pc_) ((sh &&& (7 : Int32)) % (5 : Int32)) (((sh &&& (7 : Int32)) % (5 : Int32)) + ((((sh.toUInt32 >>> ((3 : Int32) &&& 31).toUInt32).toInt32) &&& (7 : Int32)) % ((5 : Int32) - ((sh &&& (7 : Int32)) % (5 : Int32))))))))] [(.int (((sh &&& (7 : Int32)) % (5 : Int32)) + ((((sh.toUInt32 >>> ((3 : Int32) &&& 31).toUInt32).toInt32) &&& (7 : Int32)) % ((5 : Int32) - ((sh &&& (7 : Int32)) % (5 : Int32)))))), (.int ((sh &&& (7 : Int32)) % (5 : Int32))), (.int (own_ch pd)), (.int (3 : Int32))])) rfl (by rw [hml]; rfl) (argsL := [(.int (3 : Int32)), (.int (own_ch pd)), (.int ((sh &&& (7 : Int32)) % (5 : Int32))), (.int (((sh &&& (7 : Int32)) % (5 : Int32)) + ((((sh.toUInt32 >>> ((3 : Int32) &&& 31).toUInt32).toInt32) &&& (7 : Int32)) % ((5 : Int32) - ((sh &&& (7 : Int32)) % (5 : Int32))))))]) (rest := []) (lenOf pd_16 rfl) rfl (by show 2 * 0 + _ ≤ _; exact Nat.le_of_eq rfl) (hb hby at_148) ?_
        intro v329 T329 L329 X329 hQ329
        obtain ⟨rfl, Nq329, he329⟩ := hQ329
        have N329 := Fr.app N326 Nq329
        have e329 : T329.heap = T319.heap := he329
        show Run p e below s _ _ _ (T329.setTop (mkF m 151 #[.val (.int pa), .val (.int pb), .val (.int pc_), .val (.int pd), .val (.int sh), .val (.int (own_ch pa)), .val (.int (own_ch pb)), .val (.int (own_ch pc_)), .val (.int (own_ch pd)), .val (.ref b307), .val (.ref b316), .val (.int ((sh &&& (7 : Int32)) % (5 : Int32))), .val (.int (((sh &&& (7 : Int32)) % (5 : Int32)) + ((((sh.toUInt32 >>> ((3 : Int32) &&& 31).toUInt32).toInt32) &&& (7 : Int32)) % ((5 : Int32) - ((sh &&& (7 : Int32)) % (5 : Int32)))))), .val (.int (own_en (own_en (own_e1 (own_bad (0 : Int32) (own_ch pa) ((sh &&& (7 : Int32)) % (5 : Int32)) (((sh &&& (7 : Int32)) % (5 : Int32)) + ((((sh.toUInt32 >>> ((3 : Int32) &&& 31).toUInt32).toInt32) &&& (7 : Int32)) % ((5 : Int32) - ((sh &&& (7 : Int32)) % (5 : Int32))))))) (own_bad (1 : Int32) (own_ch pb) ((sh &&& (7 : Int32)) % (5 : Int32)) (((sh &&& (7 : Int32)) % (5 : Int32)) + ((((sh.toUInt32 >>> ((3 : Int32) &&& 31).toUInt32).toInt32) &&& (7 : Int32)) % ((5 : Int32) - ((sh &&& (7 : Int32)) % (5 : Int32))))))) (own_bad (2 : Int32) (own_ch pc_) ((sh &&& (7 : Int32)) % (5 : Int32)) (((sh &&& (7 : Int32)) % (5 : Int32)) + ((((sh.toUInt32 >>> ((3 : Int32) &&& 31).toUInt32).toInt32) &&& (7 : Int32)) % ((5 : Int32) - ((sh &&& (7 : Int32)) % (5 : Int32))))))))] [(.int (own_bad (3 : Int32) (own_ch pd) ((sh &&& (7 : Int32)) % (5 : Int32)) (((sh &&& (7 : Int32)) % (5 : Int32)) + ((((sh.toUInt32 >>> ((3 : Int32) &&& 31).toUInt32).toInt32) &&& (7 : Int32)) % ((5 : Int32) - ((sh &&& (7 : Int32)) % (5 : Int32)))))))]))
        have KJ331 : Run p e below s (fun v h L => v = some (.int 1) ∧ Fr n0 L) room_1.cells room_1.slots (T329.setTop (mkF m 157 #[.val (.int pa), .val (.int pb), .val (.int pc_), .val (.int pd), .val (.int sh), .val (.int (own_ch pa)), .val (.int (own_ch pb)), .val (.int (own_ch pc_)), .val (.int (own_ch pd)), .val (.ref b307), .val (.ref b316), .val (.int ((sh &&& (7 : Int32)) % (5 : Int32))), .val (.int (((sh &&& (7 : Int32)) % (5 : Int32)) + ((((sh.toUInt32 >>> ((3 : Int32) &&& 31).toUInt32).toInt32) &&& (7 : Int32)) % ((5 : Int32) - ((sh &&& (7 : Int32)) % (5 : Int32)))))), .val (.int (own_en (own_en (own_en (own_e1 (own_bad (0 : Int32) (own_ch pa) ((sh &&& (7 : Int32)) % (5 : Int32)) (((sh &&& (7 : Int32)) % (5 : Int32)) + ((((sh.toUInt32 >>> ((3 : Int32) &&& 31).toUInt32).toInt32) &&& (7 : Int32)) % ((5 : Int32) - ((sh &&& (7 : Int32)) % (5 : Int32))))))) (own_bad (1 : Int32) (own_ch pb) ((sh &&& (7 : Int32)) % (5 : Int32)) (((sh &&& (7 : Int32)) % (5 : Int32)) + ((((sh.toUInt32 >>> ((3 : Int32) &&& 31).toUInt32).toInt32) &&& (7 : Int32)) % ((5 : Int32) - ((sh &&& (7 : Int32)) % (5 : Int32))))))) (own_bad (2 : Int32) (own_ch pc_) ((sh &&& (7 : Int32)) % (5 : Int32)) (((sh &&& (7 : Int32)) % (5 : Int32)) + ((((sh.toUInt32 >>> ((3 : Int32) &&& 31).toUInt32).toInt32) &&& (7 : Int32)) % ((5 : Int32) - ((sh &&& (7 : Int32)) % (5 : Int32))))))) (own_bad (3 : Int32) (own_ch pd) ((sh &&& (7 : Int32)) % (5 : Int32)) (((sh &&& (7 : Int32)) % (5 : Int32)) + ((((sh.toUInt32 >>> ((3 : Int32) &&& 31).toUInt32).toInt32) &&& (7 : Int32)) % ((5 : Int32) - ((sh &&& (7 : Int32)) % (5 : Int32))))))))] [])) := by
          show Run p e below s _ _ _ (T329.setTop (mkF m 157 #[.val (.int pa), .val (.int pb), .val (.int pc_), .val (.int pd), .val (.int sh), .val (.int (own_ch pa)), .val (.int (own_ch pb)), .val (.int (own_ch pc_)), .val (.int (own_ch pd)), .val (.ref b307), .val (.ref b316), .val (.int ((sh &&& (7 : Int32)) % (5 : Int32))), .val (.int (((sh &&& (7 : Int32)) % (5 : Int32)) + ((((sh.toUInt32 >>> ((3 : Int32) &&& 31).toUInt32).toInt32) &&& (7 : Int32)) % ((5 : Int32) - ((sh &&& (7 : Int32)) % (5 : Int32)))))), .val (.int (own_en (own_en (own_en (own_e1 (own_bad (0 : Int32) (own_ch pa) ((sh &&& (7 : Int32)) % (5 : Int32)) (((sh &&& (7 : Int32)) % (5 : Int32)) + ((((sh.toUInt32 >>> ((3 : Int32) &&& 31).toUInt32).toInt32) &&& (7 : Int32)) % ((5 : Int32) - ((sh &&& (7 : Int32)) % (5 : Int32))))))) (own_bad (1 : Int32) (own_ch pb) ((sh &&& (7 : Int32)) % (5 : Int32)) (((sh &&& (7 : Int32)) % (5 : Int32)) + ((((sh.toUInt32 >>> ((3 : Int32) &&& 31).toUInt32).toInt32) &&& (7 : Int32)) % ((5 : Int32) - ((sh &&& (7 : Int32)) % (5 : Int32))))))) (own_bad (2 : Int32) (own_ch pc_) ((sh &&& (7 : Int32)) % (5 : Int32)) (((sh &&& (7 : Int32)) % (5 : Int32)) + ((((sh.toUInt32 >>> ((3 : Int32) &&& 31).toUInt32).toInt32) &&& (7 : Int32)) % ((5 : Int32) - ((sh &&& (7 : Int32)) % (5 : Int32))))))) (own_bad (3 : Int32) (own_ch pd) ((sh &&& (7 : Int32)) % (5 : Int32)) (((sh &&& (7 : Int32)) % (5 : Int32)) + ((((sh.toUInt32 >>> ((3 : Int32) &&& 31).toUInt32).toInt32) &&& (7 : Int32)) % ((5 : Int32) - ((sh &&& (7 : Int32)) % (5 : Int32))))))))] []))
          refine Run.pre (fun _ k => XS.aload X329.here hx rfl (hb hby at_157) rfl rfl k) ?_
          show Run p e below s _ _ _ (T329.setTop (mkF m 159 #[.val (.int pa), .val (.int pb), .val (.int pc_), .val (.int pd), .val (.int sh), .val (.int (own_ch pa)), .val (.int (own_ch pb)), .val (.int (own_ch pc_)), .val (.int (own_ch pd)), .val (.ref b307), .val (.ref b316), .val (.int ((sh &&& (7 : Int32)) % (5 : Int32))), .val (.int (((sh &&& (7 : Int32)) % (5 : Int32)) + ((((sh.toUInt32 >>> ((3 : Int32) &&& 31).toUInt32).toInt32) &&& (7 : Int32)) % ((5 : Int32) - ((sh &&& (7 : Int32)) % (5 : Int32)))))), .val (.int (own_en (own_en (own_en (own_e1 (own_bad (0 : Int32) (own_ch pa) ((sh &&& (7 : Int32)) % (5 : Int32)) (((sh &&& (7 : Int32)) % (5 : Int32)) + ((((sh.toUInt32 >>> ((3 : Int32) &&& 31).toUInt32).toInt32) &&& (7 : Int32)) % ((5 : Int32) - ((sh &&& (7 : Int32)) % (5 : Int32))))))) (own_bad (1 : Int32) (own_ch pb) ((sh &&& (7 : Int32)) % (5 : Int32)) (((sh &&& (7 : Int32)) % (5 : Int32)) + ((((sh.toUInt32 >>> ((3 : Int32) &&& 31).toUInt32).toInt32) &&& (7 : Int32)) % ((5 : Int32) - ((sh &&& (7 : Int32)) % (5 : Int32))))))) (own_bad (2 : Int32) (own_ch pc_) ((sh &&& (7 : Int32)) % (5 : Int32)) (((sh &&& (7 : Int32)) % (5 : Int32)) + ((((sh.toUInt32 >>> ((3 : Int32) &&& 31).toUInt32).toInt32) &&& (7 : Int32)) % ((5 : Int32) - ((sh &&& (7 : Int32)) % (5 : Int32))))))) (own_bad (3 : Int32) (own_ch pd) ((sh &&& (7 : Int32)) % (5 : Int32)) (((sh &&& (7 : Int32)) % (5 : Int32)) + ((((sh.toUInt32 >>> ((3 : Int32) &&& 31).toUInt32).toInt32) &&& (7 : Int32)) % ((5 : Int32) - ((sh &&& (7 : Int32)) % (5 : Int32))))))))] [(.ref b316)]))
          refine Run.pre (fun _ k => XS.iload X329.here hx rfl (hb hby at_159) rfl  k) ?_
          show Run p e below s _ _ _ (T329.setTop (mkF m 161 #[.val (.int pa), .val (.int pb), .val (.int pc_), .val (.int pd), .val (.int sh), .val (.int (own_ch pa)), .val (.int (own_ch pb)), .val (.int (own_ch pc_)), .val (.int (own_ch pd)), .val (.ref b307), .val (.ref b316), .val (.int ((sh &&& (7 : Int32)) % (5 : Int32))), .val (.int (((sh &&& (7 : Int32)) % (5 : Int32)) + ((((sh.toUInt32 >>> ((3 : Int32) &&& 31).toUInt32).toInt32) &&& (7 : Int32)) % ((5 : Int32) - ((sh &&& (7 : Int32)) % (5 : Int32)))))), .val (.int (own_en (own_en (own_en (own_e1 (own_bad (0 : Int32) (own_ch pa) ((sh &&& (7 : Int32)) % (5 : Int32)) (((sh &&& (7 : Int32)) % (5 : Int32)) + ((((sh.toUInt32 >>> ((3 : Int32) &&& 31).toUInt32).toInt32) &&& (7 : Int32)) % ((5 : Int32) - ((sh &&& (7 : Int32)) % (5 : Int32))))))) (own_bad (1 : Int32) (own_ch pb) ((sh &&& (7 : Int32)) % (5 : Int32)) (((sh &&& (7 : Int32)) % (5 : Int32)) + ((((sh.toUInt32 >>> ((3 : Int32) &&& 31).toUInt32).toInt32) &&& (7 : Int32)) % ((5 : Int32) - ((sh &&& (7 : Int32)) % (5 : Int32))))))) (own_bad (2 : Int32) (own_ch pc_) ((sh &&& (7 : Int32)) % (5 : Int32)) (((sh &&& (7 : Int32)) % (5 : Int32)) + ((((sh.toUInt32 >>> ((3 : Int32) &&& 31).toUInt32).toInt32) &&& (7 : Int32)) % ((5 : Int32) - ((sh &&& (7 : Int32)) % (5 : Int32))))))) (own_bad (3 : Int32) (own_ch pd) ((sh &&& (7 : Int32)) % (5 : Int32)) (((sh &&& (7 : Int32)) % (5 : Int32)) + ((((sh.toUInt32 >>> ((3 : Int32) &&& 31).toUInt32).toInt32) &&& (7 : Int32)) % ((5 : Int32) - ((sh &&& (7 : Int32)) % (5 : Int32))))))))] [(.int ((sh &&& (7 : Int32)) % (5 : Int32))), (.ref b316)]))
          refine Run.pre (fun _ k => XS.iload X329.here hx rfl (hb hby at_161) rfl  k) ?_
          show Run p e below s _ _ _ (T329.setTop (mkF m 163 #[.val (.int pa), .val (.int pb), .val (.int pc_), .val (.int pd), .val (.int sh), .val (.int (own_ch pa)), .val (.int (own_ch pb)), .val (.int (own_ch pc_)), .val (.int (own_ch pd)), .val (.ref b307), .val (.ref b316), .val (.int ((sh &&& (7 : Int32)) % (5 : Int32))), .val (.int (((sh &&& (7 : Int32)) % (5 : Int32)) + ((((sh.toUInt32 >>> ((3 : Int32) &&& 31).toUInt32).toInt32) &&& (7 : Int32)) % ((5 : Int32) - ((sh &&& (7 : Int32)) % (5 : Int32)))))), .val (.int (own_en (own_en (own_en (own_e1 (own_bad (0 : Int32) (own_ch pa) ((sh &&& (7 : Int32)) % (5 : Int32)) (((sh &&& (7 : Int32)) % (5 : Int32)) + ((((sh.toUInt32 >>> ((3 : Int32) &&& 31).toUInt32).toInt32) &&& (7 : Int32)) % ((5 : Int32) - ((sh &&& (7 : Int32)) % (5 : Int32))))))) (own_bad (1 : Int32) (own_ch pb) ((sh &&& (7 : Int32)) % (5 : Int32)) (((sh &&& (7 : Int32)) % (5 : Int32)) + ((((sh.toUInt32 >>> ((3 : Int32) &&& 31).toUInt32).toInt32) &&& (7 : Int32)) % ((5 : Int32) - ((sh &&& (7 : Int32)) % (5 : Int32))))))) (own_bad (2 : Int32) (own_ch pc_) ((sh &&& (7 : Int32)) % (5 : Int32)) (((sh &&& (7 : Int32)) % (5 : Int32)) + ((((sh.toUInt32 >>> ((3 : Int32) &&& 31).toUInt32).toInt32) &&& (7 : Int32)) % ((5 : Int32) - ((sh &&& (7 : Int32)) % (5 : Int32))))))) (own_bad (3 : Int32) (own_ch pd) ((sh &&& (7 : Int32)) % (5 : Int32)) (((sh &&& (7 : Int32)) % (5 : Int32)) + ((((sh.toUInt32 >>> ((3 : Int32) &&& 31).toUInt32).toInt32) &&& (7 : Int32)) % ((5 : Int32) - ((sh &&& (7 : Int32)) % (5 : Int32))))))))] [(.int (((sh &&& (7 : Int32)) % (5 : Int32)) + ((((sh.toUInt32 >>> ((3 : Int32) &&& 31).toUInt32).toInt32) &&& (7 : Int32)) % ((5 : Int32) - ((sh &&& (7 : Int32)) % (5 : Int32)))))), (.int ((sh &&& (7 : Int32)) % (5 : Int32))), (.ref b316)]))
          have f332 := (f317.keep Kc319 (allS gn_b316 all0))
          have f333 := (A316.keep Kc319)
          refine Run.callS X329 hx hZ (y := (⟨"com/example/panelfix/panelfix/io/AsciiDigits", "between", "(Ljava/lang/String;II)Z"⟩ : MethodName)) hown (hw _ (List.mem_of_getElem? (i := 38) rfl)) (hw _ (List.mem_of_getElem? (i := 39) rfl)) (hw _ (List.mem_of_getElem? (i := 40) rfl)) (hw _ (List.mem_of_getElem? (i := 41) rfl)) (by decide) (W := 0) (rmBt l Z a0 hw b316 ((sh &&& (7 : Int32)) % (5 : Int32)) (((sh &&& (7 : Int32)) % (5 : Int32)) + ((((sh.toUInt32 >>> ((3 : Int32) &&& 31).toUInt32).toInt32) &&& (7 : Int32)) % ((5 : Int32) - ((sh &&& (7 : Int32)) % (5 : Int32))))) b319 k319 (nar .char (own_ch pa)) (nar .char (own_ch pb)) (nar .char (own_ch pc_)) (nar .char (own_ch pd)) cs fw T319.heap n0 (Nat.le_trans Z0 K319.1) f332 SC hcs SF hfw SA SH SL f333 fv319 dq319 (own_narc _) (own_narc _) (own_narc _) (own_narc _) (own_seOf _ _).2) e329 (by decide) (by decide) (by decide) (by decide) (g := (mkF m 163 #[.val (.int pa), .val (.int pb), .val (.int pc_), .val (.int pd), .val (.int sh), .val (.int (own_ch pa)), .val (.int (own_ch pb)), .val (.int (own_ch pc_)), .val (.int (own_ch pd)), .val (.ref b307), .val (.ref b316), .val (.int ((sh &&& (7 : Int32)) % (5 : Int32))), .val (.int (((sh &&& (7 : Int32)) % (5 : Int32)) + ((((sh.toUInt32 >>> ((3 : Int32) &&& 31).toUInt32).toInt32) &&& (7 : Int32)) % ((5 : Int32) - ((sh &&& (7 : Int32)) % (5 : Int32)))))), .val (.int (own_en (own_en (own_en (own_e1 (own_bad (0 : Int32) (own_ch pa) ((sh &&& (7 : Int32)) % (5 : Int32)) (((sh &&& (7 : Int32)) % (5 : Int32)) + ((((sh.toUInt32 >>> ((3 : Int32) &&& 31).toUInt32).toInt32) &&& (7 : Int32)) % ((5 : Int32) - ((sh &&& (7 : Int32)) % (5 : Int32))))))) (own_bad (1 : Int32) (own_ch pb) ((sh &&& (7 : Int32)) % (5 : Int32)) (((sh &&& (7 : Int32)) % (5 : Int32)) + ((((sh.toUInt32 >>> ((3 : Int32) &&& 31).toUInt32).toInt32) &&& (7 : Int32)) % ((5 : Int32) - ((sh &&& (7 : Int32)) % (5 : Int32))))))) (own_bad (2 : Int32) (own_ch pc_) ((sh &&& (7 : Int32)) % (5 : Int32)) (((sh &&& (7 : Int32)) % (5 : Int32)) + ((((sh.toUInt32 >>> ((3 : Int32) &&& 31).toUInt32).toInt32) &&& (7 : Int32)) % ((5 : Int32) - ((sh &&& (7 : Int32)) % (5 : Int32))))))) (own_bad (3 : Int32) (own_ch pd) ((sh &&& (7 : Int32)) % (5 : Int32)) (((sh &&& (7 : Int32)) % (5 : Int32)) + ((((sh.toUInt32 >>> ((3 : Int32) &&& 31).toUInt32).toInt32) &&& (7 : Int32)) % ((5 : Int32) - ((sh &&& (7 : Int32)) % (5 : Int32))))))))] [(.int (((sh &&& (7 : Int32)) % (5 : Int32)) + ((((sh.toUInt32 >>> ((3 : Int32) &&& 31).toUInt32).toInt32) &&& (7 : Int32)) % ((5 : Int32) - ((sh &&& (7 : Int32)) % (5 : Int32)))))), (.int ((sh &&& (7 : Int32)) % (5 : Int32))), (.ref b316)])) rfl (by rw [hml]; rfl) (argsL := [(.ref b316), (.int ((sh &&& (7 : Int32)) % (5 : Int32))), (.int (((sh &&& (7 : Int32)) % (5 : Int32)) + ((((sh.toUInt32 >>> ((3 : Int32) &&& 31).toUInt32).toInt32) &&& (7 : Int32)) % ((5 : Int32) - ((sh &&& (7 : Int32)) % (5 : Int32))))))]) (rest := []) (lenOf pd_17 rfl) rfl (by show 2 * 0 + _ ≤ _; exact Nat.le_of_eq rfl) (hb hby at_163) ?_
          intro v334 T334 L334 X334 hQ334
          obtain ⟨rfl, Nq334, he334⟩ := hQ334
          have N334 := Fr.app N329 Nq334
          have e334 : T334.heap = T319.heap := he334
          show Run p e below s _ _ _ (T334.setTop (mkF m 166 #[.val (.int pa), .val (.int pb), .val (.int pc_), .val (.int pd), .val (.int sh), .val (.int (own_ch pa)), .val (.int (own_ch pb)), .val (.int (own_ch pc_)), .val (.int (own_ch pd)), .val (.ref b307), .val (.ref b316), .val (.int ((sh &&& (7 : Int32)) % (5 : Int32))), .val (.int (((sh &&& (7 : Int32)) % (5 : Int32)) + ((((sh.toUInt32 >>> ((3 : Int32) &&& 31).toUInt32).toInt32) &&& (7 : Int32)) % ((5 : Int32) - ((sh &&& (7 : Int32)) % (5 : Int32)))))), .val (.int (own_en (own_en (own_en (own_e1 (own_bad (0 : Int32) (own_ch pa) ((sh &&& (7 : Int32)) % (5 : Int32)) (((sh &&& (7 : Int32)) % (5 : Int32)) + ((((sh.toUInt32 >>> ((3 : Int32) &&& 31).toUInt32).toInt32) &&& (7 : Int32)) % ((5 : Int32) - ((sh &&& (7 : Int32)) % (5 : Int32))))))) (own_bad (1 : Int32) (own_ch pb) ((sh &&& (7 : Int32)) % (5 : Int32)) (((sh &&& (7 : Int32)) % (5 : Int32)) + ((((sh.toUInt32 >>> ((3 : Int32) &&& 31).toUInt32).toInt32) &&& (7 : Int32)) % ((5 : Int32) - ((sh &&& (7 : Int32)) % (5 : Int32))))))) (own_bad (2 : Int32) (own_ch pc_) ((sh &&& (7 : Int32)) % (5 : Int32)) (((sh &&& (7 : Int32)) % (5 : Int32)) + ((((sh.toUInt32 >>> ((3 : Int32) &&& 31).toUInt32).toInt32) &&& (7 : Int32)) % ((5 : Int32) - ((sh &&& (7 : Int32)) % (5 : Int32))))))) (own_bad (3 : Int32) (own_ch pd) ((sh &&& (7 : Int32)) % (5 : Int32)) (((sh &&& (7 : Int32)) % (5 : Int32)) + ((((sh.toUInt32 >>> ((3 : Int32) &&& 31).toUInt32).toInt32) &&& (7 : Int32)) % ((5 : Int32) - ((sh &&& (7 : Int32)) % (5 : Int32))))))))] [(.int (own_en (own_en (own_en (own_e1 (own_bad 0 (nar .char (own_ch pa)) ((sh &&& (7 : Int32)) % (5 : Int32)) (((sh &&& (7 : Int32)) % (5 : Int32)) + ((((sh.toUInt32 >>> ((3 : Int32) &&& 31).toUInt32).toInt32) &&& (7 : Int32)) % ((5 : Int32) - ((sh &&& (7 : Int32)) % (5 : Int32))))))) (own_bad 1 (nar .char (own_ch pb)) ((sh &&& (7 : Int32)) % (5 : Int32)) (((sh &&& (7 : Int32)) % (5 : Int32)) + ((((sh.toUInt32 >>> ((3 : Int32) &&& 31).toUInt32).toInt32) &&& (7 : Int32)) % ((5 : Int32) - ((sh &&& (7 : Int32)) % (5 : Int32))))))) (own_bad 2 (nar .char (own_ch pc_)) ((sh &&& (7 : Int32)) % (5 : Int32)) (((sh &&& (7 : Int32)) % (5 : Int32)) + ((((sh.toUInt32 >>> ((3 : Int32) &&& 31).toUInt32).toInt32) &&& (7 : Int32)) % ((5 : Int32) - ((sh &&& (7 : Int32)) % (5 : Int32))))))) (own_bad 3 (nar .char (own_ch pd)) ((sh &&& (7 : Int32)) % (5 : Int32)) (((sh &&& (7 : Int32)) % (5 : Int32)) + ((((sh.toUInt32 >>> ((3 : Int32) &&& 31).toUInt32).toInt32) &&& (7 : Int32)) % ((5 : Int32) - ((sh &&& (7 : Int32)) % (5 : Int32))))))))]))
          refine Run.pre (fun _ k => XS.iload X334.here hx rfl (hb hby at_166) rfl  k) ?_
          show Run p e below s _ _ _ (T334.setTop (mkF m 168 #[.val (.int pa), .val (.int pb), .val (.int pc_), .val (.int pd), .val (.int sh), .val (.int (own_ch pa)), .val (.int (own_ch pb)), .val (.int (own_ch pc_)), .val (.int (own_ch pd)), .val (.ref b307), .val (.ref b316), .val (.int ((sh &&& (7 : Int32)) % (5 : Int32))), .val (.int (((sh &&& (7 : Int32)) % (5 : Int32)) + ((((sh.toUInt32 >>> ((3 : Int32) &&& 31).toUInt32).toInt32) &&& (7 : Int32)) % ((5 : Int32) - ((sh &&& (7 : Int32)) % (5 : Int32)))))), .val (.int (own_en (own_en (own_en (own_e1 (own_bad (0 : Int32) (own_ch pa) ((sh &&& (7 : Int32)) % (5 : Int32)) (((sh &&& (7 : Int32)) % (5 : Int32)) + ((((sh.toUInt32 >>> ((3 : Int32) &&& 31).toUInt32).toInt32) &&& (7 : Int32)) % ((5 : Int32) - ((sh &&& (7 : Int32)) % (5 : Int32))))))) (own_bad (1 : Int32) (own_ch pb) ((sh &&& (7 : Int32)) % (5 : Int32)) (((sh &&& (7 : Int32)) % (5 : Int32)) + ((((sh.toUInt32 >>> ((3 : Int32) &&& 31).toUInt32).toInt32) &&& (7 : Int32)) % ((5 : Int32) - ((sh &&& (7 : Int32)) % (5 : Int32))))))) (own_bad (2 : Int32) (own_ch pc_) ((sh &&& (7 : Int32)) % (5 : Int32)) (((sh &&& (7 : Int32)) % (5 : Int32)) + ((((sh.toUInt32 >>> ((3 : Int32) &&& 31).toUInt32).toInt32) &&& (7 : Int32)) % ((5 : Int32) - ((sh &&& (7 : Int32)) % (5 : Int32))))))) (own_bad (3 : Int32) (own_ch pd) ((sh &&& (7 : Int32)) % (5 : Int32)) (((sh &&& (7 : Int32)) % (5 : Int32)) + ((((sh.toUInt32 >>> ((3 : Int32) &&& 31).toUInt32).toInt32) &&& (7 : Int32)) % ((5 : Int32) - ((sh &&& (7 : Int32)) % (5 : Int32))))))))] [(.int (own_en (own_en (own_en (own_e1 (own_bad (0 : Int32) (own_ch pa) ((sh &&& (7 : Int32)) % (5 : Int32)) (((sh &&& (7 : Int32)) % (5 : Int32)) + ((((sh.toUInt32 >>> ((3 : Int32) &&& 31).toUInt32).toInt32) &&& (7 : Int32)) % ((5 : Int32) - ((sh &&& (7 : Int32)) % (5 : Int32))))))) (own_bad (1 : Int32) (own_ch pb) ((sh &&& (7 : Int32)) % (5 : Int32)) (((sh &&& (7 : Int32)) % (5 : Int32)) + ((((sh.toUInt32 >>> ((3 : Int32) &&& 31).toUInt32).toInt32) &&& (7 : Int32)) % ((5 : Int32) - ((sh &&& (7 : Int32)) % (5 : Int32))))))) (own_bad (2 : Int32) (own_ch pc_) ((sh &&& (7 : Int32)) % (5 : Int32)) (((sh &&& (7 : Int32)) % (5 : Int32)) + ((((sh.toUInt32 >>> ((3 : Int32) &&& 31).toUInt32).toInt32) &&& (7 : Int32)) % ((5 : Int32) - ((sh &&& (7 : Int32)) % (5 : Int32))))))) (own_bad (3 : Int32) (own_ch pd) ((sh &&& (7 : Int32)) % (5 : Int32)) (((sh &&& (7 : Int32)) % (5 : Int32)) + ((((sh.toUInt32 >>> ((3 : Int32) &&& 31).toUInt32).toInt32) &&& (7 : Int32)) % ((5 : Int32) - ((sh &&& (7 : Int32)) % (5 : Int32)))))))), (.int (own_en (own_en (own_en (own_e1 (own_bad 0 (nar .char (own_ch pa)) ((sh &&& (7 : Int32)) % (5 : Int32)) (((sh &&& (7 : Int32)) % (5 : Int32)) + ((((sh.toUInt32 >>> ((3 : Int32) &&& 31).toUInt32).toInt32) &&& (7 : Int32)) % ((5 : Int32) - ((sh &&& (7 : Int32)) % (5 : Int32))))))) (own_bad 1 (nar .char (own_ch pb)) ((sh &&& (7 : Int32)) % (5 : Int32)) (((sh &&& (7 : Int32)) % (5 : Int32)) + ((((sh.toUInt32 >>> ((3 : Int32) &&& 31).toUInt32).toInt32) &&& (7 : Int32)) % ((5 : Int32) - ((sh &&& (7 : Int32)) % (5 : Int32))))))) (own_bad 2 (nar .char (own_ch pc_)) ((sh &&& (7 : Int32)) % (5 : Int32)) (((sh &&& (7 : Int32)) % (5 : Int32)) + ((((sh.toUInt32 >>> ((3 : Int32) &&& 31).toUInt32).toInt32) &&& (7 : Int32)) % ((5 : Int32) - ((sh &&& (7 : Int32)) % (5 : Int32))))))) (own_bad 3 (nar .char (own_ch pd)) ((sh &&& (7 : Int32)) % (5 : Int32)) (((sh &&& (7 : Int32)) % (5 : Int32)) + ((((sh.toUInt32 >>> ((3 : Int32) &&& 31).toUInt32).toInt32) &&& (7 : Int32)) % ((5 : Int32) - ((sh &&& (7 : Int32)) % (5 : Int32))))))))]))
          refine Run.pre (fun _ k => XS.icmpNo X334.here hx rfl (hb hby at_168) rfl (teq ((by simp only [own_chn]) : (own_en (own_en (own_en (own_e1 (own_bad 0 (nar .char (own_ch pa)) ((sh &&& (7 : Int32)) % (5 : Int32)) (((sh &&& (7 : Int32)) % (5 : Int32)) + ((((sh.toUInt32 >>> ((3 : Int32) &&& 31).toUInt32).toInt32) &&& (7 : Int32)) % ((5 : Int32) - ((sh &&& (7 : Int32)) % (5 : Int32))))))) (own_bad 1 (nar .char (own_ch pb)) ((sh &&& (7 : Int32)) % (5 : Int32)) (((sh &&& (7 : Int32)) % (5 : Int32)) + ((((sh.toUInt32 >>> ((3 : Int32) &&& 31).toUInt32).toInt32) &&& (7 : Int32)) % ((5 : Int32) - ((sh &&& (7 : Int32)) % (5 : Int32))))))) (own_bad 2 (nar .char (own_ch pc_)) ((sh &&& (7 : Int32)) % (5 : Int32)) (((sh &&& (7 : Int32)) % (5 : Int32)) + ((((sh.toUInt32 >>> ((3 : Int32) &&& 31).toUInt32).toInt32) &&& (7 : Int32)) % ((5 : Int32) - ((sh &&& (7 : Int32)) % (5 : Int32))))))) (own_bad 3 (nar .char (own_ch pd)) ((sh &&& (7 : Int32)) % (5 : Int32)) (((sh &&& (7 : Int32)) % (5 : Int32)) + ((((sh.toUInt32 >>> ((3 : Int32) &&& 31).toUInt32).toInt32) &&& (7 : Int32)) % ((5 : Int32) - ((sh &&& (7 : Int32)) % (5 : Int32))))))) = (own_en (own_en (own_en (own_e1 (own_bad (0 : Int32) (own_ch pa) ((sh &&& (7 : Int32)) % (5 : Int32)) (((sh &&& (7 : Int32)) % (5 : Int32)) + ((((sh.toUInt32 >>> ((3 : Int32) &&& 31).toUInt32).toInt32) &&& (7 : Int32)) % ((5 : Int32) - ((sh &&& (7 : Int32)) % (5 : Int32))))))) (own_bad (1 : Int32) (own_ch pb) ((sh &&& (7 : Int32)) % (5 : Int32)) (((sh &&& (7 : Int32)) % (5 : Int32)) + ((((sh.toUInt32 >>> ((3 : Int32) &&& 31).toUInt32).toInt32) &&& (7 : Int32)) % ((5 : Int32) - ((sh &&& (7 : Int32)) % (5 : Int32))))))) (own_bad (2 : Int32) (own_ch pc_) ((sh &&& (7 : Int32)) % (5 : Int32)) (((sh &&& (7 : Int32)) % (5 : Int32)) + ((((sh.toUInt32 >>> ((3 : Int32) &&& 31).toUInt32).toInt32) &&& (7 : Int32)) % ((5 : Int32) - ((sh &&& (7 : Int32)) % (5 : Int32))))))) (own_bad (3 : Int32) (own_ch pd) ((sh &&& (7 : Int32)) % (5 : Int32)) (((sh &&& (7 : Int32)) % (5 : Int32)) + ((((sh.toUInt32 >>> ((3 : Int32) &&& 31).toUInt32).toInt32) &&& (7 : Int32)) % ((5 : Int32) - ((sh &&& (7 : Int32)) % (5 : Int32))))))))).2 k) ?_
          show Run p e below s _ _ _ (T334.setTop (mkF m 171 #[.val (.int pa), .val (.int pb), .val (.int pc_), .val (.int pd), .val (.int sh), .val (.int (own_ch pa)), .val (.int (own_ch pb)), .val (.int (own_ch pc_)), .val (.int (own_ch pd)), .val (.ref b307), .val (.ref b316), .val (.int ((sh &&& (7 : Int32)) % (5 : Int32))), .val (.int (((sh &&& (7 : Int32)) % (5 : Int32)) + ((((sh.toUInt32 >>> ((3 : Int32) &&& 31).toUInt32).toInt32) &&& (7 : Int32)) % ((5 : Int32) - ((sh &&& (7 : Int32)) % (5 : Int32)))))), .val (.int (own_en (own_en (own_en (own_e1 (own_bad (0 : Int32) (own_ch pa) ((sh &&& (7 : Int32)) % (5 : Int32)) (((sh &&& (7 : Int32)) % (5 : Int32)) + ((((sh.toUInt32 >>> ((3 : Int32) &&& 31).toUInt32).toInt32) &&& (7 : Int32)) % ((5 : Int32) - ((sh &&& (7 : Int32)) % (5 : Int32))))))) (own_bad (1 : Int32) (own_ch pb) ((sh &&& (7 : Int32)) % (5 : Int32)) (((sh &&& (7 : Int32)) % (5 : Int32)) + ((((sh.toUInt32 >>> ((3 : Int32) &&& 31).toUInt32).toInt32) &&& (7 : Int32)) % ((5 : Int32) - ((sh &&& (7 : Int32)) % (5 : Int32))))))) (own_bad (2 : Int32) (own_ch pc_) ((sh &&& (7 : Int32)) % (5 : Int32)) (((sh &&& (7 : Int32)) % (5 : Int32)) + ((((sh.toUInt32 >>> ((3 : Int32) &&& 31).toUInt32).toInt32) &&& (7 : Int32)) % ((5 : Int32) - ((sh &&& (7 : Int32)) % (5 : Int32))))))) (own_bad (3 : Int32) (own_ch pd) ((sh &&& (7 : Int32)) % (5 : Int32)) (((sh &&& (7 : Int32)) % (5 : Int32)) + ((((sh.toUInt32 >>> ((3 : Int32) &&& 31).toUInt32).toInt32) &&& (7 : Int32)) % ((5 : Int32) - ((sh &&& (7 : Int32)) % (5 : Int32))))))))] []))
          refine Run.pre (fun _ k => XS.iconst X334.here hx rfl (hb hby at_171) k) ?_
          show Run p e below s _ _ _ (T334.setTop (mkF m 172 #[.val (.int pa), .val (.int pb), .val (.int pc_), .val (.int pd), .val (.int sh), .val (.int (own_ch pa)), .val (.int (own_ch pb)), .val (.int (own_ch pc_)), .val (.int (own_ch pd)), .val (.ref b307), .val (.ref b316), .val (.int ((sh &&& (7 : Int32)) % (5 : Int32))), .val (.int (((sh &&& (7 : Int32)) % (5 : Int32)) + ((((sh.toUInt32 >>> ((3 : Int32) &&& 31).toUInt32).toInt32) &&& (7 : Int32)) % ((5 : Int32) - ((sh &&& (7 : Int32)) % (5 : Int32)))))), .val (.int (own_en (own_en (own_en (own_e1 (own_bad (0 : Int32) (own_ch pa) ((sh &&& (7 : Int32)) % (5 : Int32)) (((sh &&& (7 : Int32)) % (5 : Int32)) + ((((sh.toUInt32 >>> ((3 : Int32) &&& 31).toUInt32).toInt32) &&& (7 : Int32)) % ((5 : Int32) - ((sh &&& (7 : Int32)) % (5 : Int32))))))) (own_bad (1 : Int32) (own_ch pb) ((sh &&& (7 : Int32)) % (5 : Int32)) (((sh &&& (7 : Int32)) % (5 : Int32)) + ((((sh.toUInt32 >>> ((3 : Int32) &&& 31).toUInt32).toInt32) &&& (7 : Int32)) % ((5 : Int32) - ((sh &&& (7 : Int32)) % (5 : Int32))))))) (own_bad (2 : Int32) (own_ch pc_) ((sh &&& (7 : Int32)) % (5 : Int32)) (((sh &&& (7 : Int32)) % (5 : Int32)) + ((((sh.toUInt32 >>> ((3 : Int32) &&& 31).toUInt32).toInt32) &&& (7 : Int32)) % ((5 : Int32) - ((sh &&& (7 : Int32)) % (5 : Int32))))))) (own_bad (3 : Int32) (own_ch pd) ((sh &&& (7 : Int32)) % (5 : Int32)) (((sh &&& (7 : Int32)) % (5 : Int32)) + ((((sh.toUInt32 >>> ((3 : Int32) &&& 31).toUInt32).toInt32) &&& (7 : Int32)) % ((5 : Int32) - ((sh &&& (7 : Int32)) % (5 : Int32))))))))] [(.int (1 : Int32))]))
          refine Run.pre (fun _ k => XS.goto X334.here hx rfl (pc0 := 172) (pc' := 176) rfl (hb hby at_172) (by decide) (by decide) k) ?_
          show Run p e below s _ _ _ (T334.setTop (mkF m 176 #[.val (.int pa), .val (.int pb), .val (.int pc_), .val (.int pd), .val (.int sh), .val (.int (own_ch pa)), .val (.int (own_ch pb)), .val (.int (own_ch pc_)), .val (.int (own_ch pd)), .val (.ref b307), .val (.ref b316), .val (.int ((sh &&& (7 : Int32)) % (5 : Int32))), .val (.int (((sh &&& (7 : Int32)) % (5 : Int32)) + ((((sh.toUInt32 >>> ((3 : Int32) &&& 31).toUInt32).toInt32) &&& (7 : Int32)) % ((5 : Int32) - ((sh &&& (7 : Int32)) % (5 : Int32)))))), .val (.int (own_en (own_en (own_en (own_e1 (own_bad (0 : Int32) (own_ch pa) ((sh &&& (7 : Int32)) % (5 : Int32)) (((sh &&& (7 : Int32)) % (5 : Int32)) + ((((sh.toUInt32 >>> ((3 : Int32) &&& 31).toUInt32).toInt32) &&& (7 : Int32)) % ((5 : Int32) - ((sh &&& (7 : Int32)) % (5 : Int32))))))) (own_bad (1 : Int32) (own_ch pb) ((sh &&& (7 : Int32)) % (5 : Int32)) (((sh &&& (7 : Int32)) % (5 : Int32)) + ((((sh.toUInt32 >>> ((3 : Int32) &&& 31).toUInt32).toInt32) &&& (7 : Int32)) % ((5 : Int32) - ((sh &&& (7 : Int32)) % (5 : Int32))))))) (own_bad (2 : Int32) (own_ch pc_) ((sh &&& (7 : Int32)) % (5 : Int32)) (((sh &&& (7 : Int32)) % (5 : Int32)) + ((((sh.toUInt32 >>> ((3 : Int32) &&& 31).toUInt32).toInt32) &&& (7 : Int32)) % ((5 : Int32) - ((sh &&& (7 : Int32)) % (5 : Int32))))))) (own_bad (3 : Int32) (own_ch pd) ((sh &&& (7 : Int32)) % (5 : Int32)) (((sh &&& (7 : Int32)) % (5 : Int32)) + ((((sh.toUInt32 >>> ((3 : Int32) &&& 31).toUInt32).toInt32) &&& (7 : Int32)) % ((5 : Int32) - ((sh &&& (7 : Int32)) % (5 : Int32))))))))] [(.int (1 : Int32))]))
          exact Run.retN X334 hx hret (t := .boolean) (by simp) hlk (hb hby at_176) (by first | (rw [e334]; exact ⟨rfl, N334⟩) | exact ⟨rfl, N334⟩) (by decide) (by decide)
        by_cases hc330 : (own_bad (3 : Int32) (own_ch pd) ((sh &&& (7 : Int32)) % (5 : Int32)) (((sh &&& (7 : Int32)) % (5 : Int32)) + ((((sh.toUInt32 >>> ((3 : Int32) &&& 31).toUInt32).toInt32) &&& (7 : Int32)) % ((5 : Int32) - ((sh &&& (7 : Int32)) % (5 : Int32)))))) = (0 : Int32)
        · skip
          refine Run.pre (fun _ k => XS.ifYes X329.here hx rfl (pc0 := 151) (pc' := 157) rfl (hb hby at_151) rfl ((if0 _ _).trans (teq (hc330 : (own_bad (3 : Int32) (own_ch pd) ((sh &&& (7 : Int32)) % (5 : Int32)) (((sh &&& (7 : Int32)) % (5 : Int32)) + ((((sh.toUInt32 >>> ((3 : Int32) &&& 31).toUInt32).toInt32) &&& (7 : Int32)) % ((5 : Int32) - ((sh &&& (7 : Int32)) % (5 : Int32)))))) = (0 : Int32))).1) (by decide) (by decide) k) ?_
          show Run p e below s _ _ _ (T329.setTop (mkF m 157 #[.val (.int pa), .val (.int pb), .val (.int pc_), .val (.int pd), .val (.int sh), .val (.int (own_ch pa)), .val (.int (own_ch pb)), .val (.int (own_ch pc_)), .val (.int (own_ch pd)), .val (.ref b307), .val (.ref b316), .val (.int ((sh &&& (7 : Int32)) % (5 : Int32))), .val (.int (((sh &&& (7 : Int32)) % (5 : Int32)) + ((((sh.toUInt32 >>> ((3 : Int32) &&& 31).toUInt32).toInt32) &&& (7 : Int32)) % ((5 : Int32) - ((sh &&& (7 : Int32)) % (5 : Int32)))))), .val (.int (own_en (own_en (own_e1 (own_bad (0 : Int32) (own_ch pa) ((sh &&& (7 : Int32)) % (5 : Int32)) (((sh &&& (7 : Int32)) % (5 : Int32)) + ((((sh.toUInt32 >>> ((3 : Int32) &&& 31).toUInt32).toInt32) &&& (7 : Int32)) % ((5 : Int32) - ((sh &&& (7 : Int32)) % (5 : Int32))))))) (own_bad (1 : Int32) (own_ch pb) ((sh &&& (7 : Int32)) % (5 : Int32)) (((sh &&& (7 : Int32)) % (5 : Int32)) + ((((sh.toUInt32 >>> ((3 : Int32) &&& 31).toUInt32).toInt32) &&& (7 : Int32)) % ((5 : Int32) - ((sh &&& (7 : Int32)) % (5 : Int32))))))) (own_bad (2 : Int32) (own_ch pc_) ((sh &&& (7 : Int32)) % (5 : Int32)) (((sh &&& (7 : Int32)) % (5 : Int32)) + ((((sh.toUInt32 >>> ((3 : Int32) &&& 31).toUInt32).toInt32) &&& (7 : Int32)) % ((5 : Int32) - ((sh &&& (7 : Int32)) % (5 : Int32))))))))] []))
          have KK := KJ331
          rw [show (own_en (own_en (own_en (own_e1 (own_bad (0 : Int32) (own_ch pa) ((sh &&& (7 : Int32)) % (5 : Int32)) (((sh &&& (7 : Int32)) % (5 : Int32)) + ((((sh.toUInt32 >>> ((3 : Int32) &&& 31).toUInt32).toInt32) &&& (7 : Int32)) % ((5 : Int32) - ((sh &&& (7 : Int32)) % (5 : Int32))))))) (own_bad (1 : Int32) (own_ch pb) ((sh &&& (7 : Int32)) % (5 : Int32)) (((sh &&& (7 : Int32)) % (5 : Int32)) + ((((sh.toUInt32 >>> ((3 : Int32) &&& 31).toUInt32).toInt32) &&& (7 : Int32)) % ((5 : Int32) - ((sh &&& (7 : Int32)) % (5 : Int32))))))) (own_bad (2 : Int32) (own_ch pc_) ((sh &&& (7 : Int32)) % (5 : Int32)) (((sh &&& (7 : Int32)) % (5 : Int32)) + ((((sh.toUInt32 >>> ((3 : Int32) &&& 31).toUInt32).toInt32) &&& (7 : Int32)) % ((5 : Int32) - ((sh &&& (7 : Int32)) % (5 : Int32))))))) (own_bad (3 : Int32) (own_ch pd) ((sh &&& (7 : Int32)) % (5 : Int32)) (((sh &&& (7 : Int32)) % (5 : Int32)) + ((((sh.toUInt32 >>> ((3 : Int32) &&& 31).toUInt32).toInt32) &&& (7 : Int32)) % ((5 : Int32) - ((sh &&& (7 : Int32)) % (5 : Int32))))))) = (own_en (own_en (own_e1 (own_bad (0 : Int32) (own_ch pa) ((sh &&& (7 : Int32)) % (5 : Int32)) (((sh &&& (7 : Int32)) % (5 : Int32)) + ((((sh.toUInt32 >>> ((3 : Int32) &&& 31).toUInt32).toInt32) &&& (7 : Int32)) % ((5 : Int32) - ((sh &&& (7 : Int32)) % (5 : Int32))))))) (own_bad (1 : Int32) (own_ch pb) ((sh &&& (7 : Int32)) % (5 : Int32)) (((sh &&& (7 : Int32)) % (5 : Int32)) + ((((sh.toUInt32 >>> ((3 : Int32) &&& 31).toUInt32).toInt32) &&& (7 : Int32)) % ((5 : Int32) - ((sh &&& (7 : Int32)) % (5 : Int32))))))) (own_bad (2 : Int32) (own_ch pc_) ((sh &&& (7 : Int32)) % (5 : Int32)) (((sh &&& (7 : Int32)) % (5 : Int32)) + ((((sh.toUInt32 >>> ((3 : Int32) &&& 31).toUInt32).toInt32) &&& (7 : Int32)) % ((5 : Int32) - ((sh &&& (7 : Int32)) % (5 : Int32))))))) from (if_pos hc330)] at KK
          exact KK
        · skip
          refine Run.pre (fun _ k => XS.ifNo X329.here hx rfl (hb hby at_151) rfl ((if0 _ _).trans (feq (hc330 : ¬ ((own_bad (3 : Int32) (own_ch pd) ((sh &&& (7 : Int32)) % (5 : Int32)) (((sh &&& (7 : Int32)) % (5 : Int32)) + ((((sh.toUInt32 >>> ((3 : Int32) &&& 31).toUInt32).toInt32) &&& (7 : Int32)) % ((5 : Int32) - ((sh &&& (7 : Int32)) % (5 : Int32)))))) = (0 : Int32)))).1) k) ?_
          show Run p e below s _ _ _ (T329.setTop (mkF m 154 #[.val (.int pa), .val (.int pb), .val (.int pc_), .val (.int pd), .val (.int sh), .val (.int (own_ch pa)), .val (.int (own_ch pb)), .val (.int (own_ch pc_)), .val (.int (own_ch pd)), .val (.ref b307), .val (.ref b316), .val (.int ((sh &&& (7 : Int32)) % (5 : Int32))), .val (.int (((sh &&& (7 : Int32)) % (5 : Int32)) + ((((sh.toUInt32 >>> ((3 : Int32) &&& 31).toUInt32).toInt32) &&& (7 : Int32)) % ((5 : Int32) - ((sh &&& (7 : Int32)) % (5 : Int32)))))), .val (.int (own_en (own_en (own_e1 (own_bad (0 : Int32) (own_ch pa) ((sh &&& (7 : Int32)) % (5 : Int32)) (((sh &&& (7 : Int32)) % (5 : Int32)) + ((((sh.toUInt32 >>> ((3 : Int32) &&& 31).toUInt32).toInt32) &&& (7 : Int32)) % ((5 : Int32) - ((sh &&& (7 : Int32)) % (5 : Int32))))))) (own_bad (1 : Int32) (own_ch pb) ((sh &&& (7 : Int32)) % (5 : Int32)) (((sh &&& (7 : Int32)) % (5 : Int32)) + ((((sh.toUInt32 >>> ((3 : Int32) &&& 31).toUInt32).toInt32) &&& (7 : Int32)) % ((5 : Int32) - ((sh &&& (7 : Int32)) % (5 : Int32))))))) (own_bad (2 : Int32) (own_ch pc_) ((sh &&& (7 : Int32)) % (5 : Int32)) (((sh &&& (7 : Int32)) % (5 : Int32)) + ((((sh.toUInt32 >>> ((3 : Int32) &&& 31).toUInt32).toInt32) &&& (7 : Int32)) % ((5 : Int32) - ((sh &&& (7 : Int32)) % (5 : Int32))))))))] []))
          refine Run.pre (fun _ k => XS.iconst X329.here hx rfl (hb hby at_154) k) ?_
          show Run p e below s _ _ _ (T329.setTop (mkF m 155 #[.val (.int pa), .val (.int pb), .val (.int pc_), .val (.int pd), .val (.int sh), .val (.int (own_ch pa)), .val (.int (own_ch pb)), .val (.int (own_ch pc_)), .val (.int (own_ch pd)), .val (.ref b307), .val (.ref b316), .val (.int ((sh &&& (7 : Int32)) % (5 : Int32))), .val (.int (((sh &&& (7 : Int32)) % (5 : Int32)) + ((((sh.toUInt32 >>> ((3 : Int32) &&& 31).toUInt32).toInt32) &&& (7 : Int32)) % ((5 : Int32) - ((sh &&& (7 : Int32)) % (5 : Int32)))))), .val (.int (own_en (own_en (own_e1 (own_bad (0 : Int32) (own_ch pa) ((sh &&& (7 : Int32)) % (5 : Int32)) (((sh &&& (7 : Int32)) % (5 : Int32)) + ((((sh.toUInt32 >>> ((3 : Int32) &&& 31).toUInt32).toInt32) &&& (7 : Int32)) % ((5 : Int32) - ((sh &&& (7 : Int32)) % (5 : Int32))))))) (own_bad (1 : Int32) (own_ch pb) ((sh &&& (7 : Int32)) % (5 : Int32)) (((sh &&& (7 : Int32)) % (5 : Int32)) + ((((sh.toUInt32 >>> ((3 : Int32) &&& 31).toUInt32).toInt32) &&& (7 : Int32)) % ((5 : Int32) - ((sh &&& (7 : Int32)) % (5 : Int32))))))) (own_bad (2 : Int32) (own_ch pc_) ((sh &&& (7 : Int32)) % (5 : Int32)) (((sh &&& (7 : Int32)) % (5 : Int32)) + ((((sh.toUInt32 >>> ((3 : Int32) &&& 31).toUInt32).toInt32) &&& (7 : Int32)) % ((5 : Int32) - ((sh &&& (7 : Int32)) % (5 : Int32))))))))] [(.int (0 : Int32))]))
          refine Run.pre (fun _ k => XS.istore X329.here hx rfl (hb hby at_155) rfl (l' := #[.val (.int pa), .val (.int pb), .val (.int pc_), .val (.int pd), .val (.int sh), .val (.int (own_ch pa)), .val (.int (own_ch pb)), .val (.int (own_ch pc_)), .val (.int (own_ch pd)), .val (.ref b307), .val (.ref b316), .val (.int ((sh &&& (7 : Int32)) % (5 : Int32))), .val (.int (((sh &&& (7 : Int32)) % (5 : Int32)) + ((((sh.toUInt32 >>> ((3 : Int32) &&& 31).toUInt32).toInt32) &&& (7 : Int32)) % ((5 : Int32) - ((sh &&& (7 : Int32)) % (5 : Int32)))))), .val (.int (0 : Int32))]) rfl k) ?_
          show Run p e below s _ _ _ (T329.setTop (mkF m 157 #[.val (.int pa), .val (.int pb), .val (.int pc_), .val (.int pd), .val (.int sh), .val (.int (own_ch pa)), .val (.int (own_ch pb)), .val (.int (own_ch pc_)), .val (.int (own_ch pd)), .val (.ref b307), .val (.ref b316), .val (.int ((sh &&& (7 : Int32)) % (5 : Int32))), .val (.int (((sh &&& (7 : Int32)) % (5 : Int32)) + ((((sh.toUInt32 >>> ((3 : Int32) &&& 31).toUInt32).toInt32) &&& (7 : Int32)) % ((5 : Int32) - ((sh &&& (7 : Int32)) % (5 : Int32)))))), .val (.int (0 : Int32))] []))
          have KK := KJ331
          rw [show (own_en (own_en (own_en (own_e1 (own_bad (0 : Int32) (own_ch pa) ((sh &&& (7 : Int32)) % (5 : Int32)) (((sh &&& (7 : Int32)) % (5 : Int32)) + ((((sh.toUInt32 >>> ((3 : Int32) &&& 31).toUInt32).toInt32) &&& (7 : Int32)) % ((5 : Int32) - ((sh &&& (7 : Int32)) % (5 : Int32))))))) (own_bad (1 : Int32) (own_ch pb) ((sh &&& (7 : Int32)) % (5 : Int32)) (((sh &&& (7 : Int32)) % (5 : Int32)) + ((((sh.toUInt32 >>> ((3 : Int32) &&& 31).toUInt32).toInt32) &&& (7 : Int32)) % ((5 : Int32) - ((sh &&& (7 : Int32)) % (5 : Int32))))))) (own_bad (2 : Int32) (own_ch pc_) ((sh &&& (7 : Int32)) % (5 : Int32)) (((sh &&& (7 : Int32)) % (5 : Int32)) + ((((sh.toUInt32 >>> ((3 : Int32) &&& 31).toUInt32).toInt32) &&& (7 : Int32)) % ((5 : Int32) - ((sh &&& (7 : Int32)) % (5 : Int32))))))) (own_bad (3 : Int32) (own_ch pd) ((sh &&& (7 : Int32)) % (5 : Int32)) (((sh &&& (7 : Int32)) % (5 : Int32)) + ((((sh.toUInt32 >>> ((3 : Int32) &&& 31).toUInt32).toInt32) &&& (7 : Int32)) % ((5 : Int32) - ((sh &&& (7 : Int32)) % (5 : Int32))))))) = (0 : Int32) from (if_neg hc330)] at KK
          exact KK
      by_cases hc327 : (own_bad (2 : Int32) (own_ch pc_) ((sh &&& (7 : Int32)) % (5 : Int32)) (((sh &&& (7 : Int32)) % (5 : Int32)) + ((((sh.toUInt32 >>> ((3 : Int32) &&& 31).toUInt32).toInt32) &&& (7 : Int32)) % ((5 : Int32) - ((sh &&& (7 : Int32)) % (5 : Int32)))))) = (0 : Int32)
      · skip
        refine Run.pre (fun _ k => XS.ifYes X326.here hx rfl (pc0 := 135) (pc' := 141) rfl (hb hby at_135) rfl ((if0 _ _).trans (teq (hc327 : (own_bad (2 : Int32) (own_ch pc_) ((sh &&& (7 : Int32)) % (5 : Int32)) (((sh &&& (7 : Int32)) % (5 : Int32)) + ((((sh.toUInt32 >>> ((3 : Int32) &&& 31).toUInt32).toInt32) &&& (7 : Int32)) % ((5 : Int32) - ((sh &&& (7 : Int32)) % (5 : Int32)))))) = (0 : Int32))).1) (by decide) (by decide) k) ?_
        show Run p e below s _ _ _ (T326.setTop (mkF m 141 #[.val (.int pa), .val (.int pb), .val (.int pc_), .val (.int pd), .val (.int sh), .val (.int (own_ch pa)), .val (.int (own_ch pb)), .val (.int (own_ch pc_)), .val (.int (own_ch pd)), .val (.ref b307), .val (.ref b316), .val (.int ((sh &&& (7 : Int32)) % (5 : Int32))), .val (.int (((sh &&& (7 : Int32)) % (5 : Int32)) + ((((sh.toUInt32 >>> ((3 : Int32) &&& 31).toUInt32).toInt32) &&& (7 : Int32)) % ((5 : Int32) - ((sh &&& (7 : Int32)) % (5 : Int32)))))), .val (.int (own_en (own_e1 (own_bad (0 : Int32) (own_ch pa) ((sh &&& (7 : Int32)) % (5 : Int32)) (((sh &&& (7 : Int32)) % (5 : Int32)) + ((((sh.toUInt32 >>> ((3 : Int32) &&& 31).toUInt32).toInt32) &&& (7 : Int32)) % ((5 : Int32) - ((sh &&& (7 : Int32)) % (5 : Int32))))))) (own_bad (1 : Int32) (own_ch pb) ((sh &&& (7 : Int32)) % (5 : Int32)) (((sh &&& (7 : Int32)) % (5 : Int32)) + ((((sh.toUInt32 >>> ((3 : Int32) &&& 31).toUInt32).toInt32) &&& (7 : Int32)) % ((5 : Int32) - ((sh &&& (7 : Int32)) % (5 : Int32))))))))] []))
        have KK := KJ328
        rw [show (own_en (own_en (own_e1 (own_bad (0 : Int32) (own_ch pa) ((sh &&& (7 : Int32)) % (5 : Int32)) (((sh &&& (7 : Int32)) % (5 : Int32)) + ((((sh.toUInt32 >>> ((3 : Int32) &&& 31).toUInt32).toInt32) &&& (7 : Int32)) % ((5 : Int32) - ((sh &&& (7 : Int32)) % (5 : Int32))))))) (own_bad (1 : Int32) (own_ch pb) ((sh &&& (7 : Int32)) % (5 : Int32)) (((sh &&& (7 : Int32)) % (5 : Int32)) + ((((sh.toUInt32 >>> ((3 : Int32) &&& 31).toUInt32).toInt32) &&& (7 : Int32)) % ((5 : Int32) - ((sh &&& (7 : Int32)) % (5 : Int32))))))) (own_bad (2 : Int32) (own_ch pc_) ((sh &&& (7 : Int32)) % (5 : Int32)) (((sh &&& (7 : Int32)) % (5 : Int32)) + ((((sh.toUInt32 >>> ((3 : Int32) &&& 31).toUInt32).toInt32) &&& (7 : Int32)) % ((5 : Int32) - ((sh &&& (7 : Int32)) % (5 : Int32))))))) = (own_en (own_e1 (own_bad (0 : Int32) (own_ch pa) ((sh &&& (7 : Int32)) % (5 : Int32)) (((sh &&& (7 : Int32)) % (5 : Int32)) + ((((sh.toUInt32 >>> ((3 : Int32) &&& 31).toUInt32).toInt32) &&& (7 : Int32)) % ((5 : Int32) - ((sh &&& (7 : Int32)) % (5 : Int32))))))) (own_bad (1 : Int32) (own_ch pb) ((sh &&& (7 : Int32)) % (5 : Int32)) (((sh &&& (7 : Int32)) % (5 : Int32)) + ((((sh.toUInt32 >>> ((3 : Int32) &&& 31).toUInt32).toInt32) &&& (7 : Int32)) % ((5 : Int32) - ((sh &&& (7 : Int32)) % (5 : Int32))))))) from (if_pos hc327)] at KK
        exact KK
      · skip
        refine Run.pre (fun _ k => XS.ifNo X326.here hx rfl (hb hby at_135) rfl ((if0 _ _).trans (feq (hc327 : ¬ ((own_bad (2 : Int32) (own_ch pc_) ((sh &&& (7 : Int32)) % (5 : Int32)) (((sh &&& (7 : Int32)) % (5 : Int32)) + ((((sh.toUInt32 >>> ((3 : Int32) &&& 31).toUInt32).toInt32) &&& (7 : Int32)) % ((5 : Int32) - ((sh &&& (7 : Int32)) % (5 : Int32)))))) = (0 : Int32)))).1) k) ?_
        show Run p e below s _ _ _ (T326.setTop (mkF m 138 #[.val (.int pa), .val (.int pb), .val (.int pc_), .val (.int pd), .val (.int sh), .val (.int (own_ch pa)), .val (.int (own_ch pb)), .val (.int (own_ch pc_)), .val (.int (own_ch pd)), .val (.ref b307), .val (.ref b316), .val (.int ((sh &&& (7 : Int32)) % (5 : Int32))), .val (.int (((sh &&& (7 : Int32)) % (5 : Int32)) + ((((sh.toUInt32 >>> ((3 : Int32) &&& 31).toUInt32).toInt32) &&& (7 : Int32)) % ((5 : Int32) - ((sh &&& (7 : Int32)) % (5 : Int32)))))), .val (.int (own_en (own_e1 (own_bad (0 : Int32) (own_ch pa) ((sh &&& (7 : Int32)) % (5 : Int32)) (((sh &&& (7 : Int32)) % (5 : Int32)) + ((((sh.toUInt32 >>> ((3 : Int32) &&& 31).toUInt32).toInt32) &&& (7 : Int32)) % ((5 : Int32) - ((sh &&& (7 : Int32)) % (5 : Int32))))))) (own_bad (1 : Int32) (own_ch pb) ((sh &&& (7 : Int32)) % (5 : Int32)) (((sh &&& (7 : Int32)) % (5 : Int32)) + ((((sh.toUInt32 >>> ((3 : Int32) &&& 31).toUInt32).toInt32) &&& (7 : Int32)) % ((5 : Int32) - ((sh &&& (7 : Int32)) % (5 : Int32))))))))] []))
        refine Run.pre (fun _ k => XS.iconst X326.here hx rfl (hb hby at_138) k) ?_
        show Run p e below s _ _ _ (T326.setTop (mkF m 139 #[.val (.int pa), .val (.int pb), .val (.int pc_), .val (.int pd), .val (.int sh), .val (.int (own_ch pa)), .val (.int (own_ch pb)), .val (.int (own_ch pc_)), .val (.int (own_ch pd)), .val (.ref b307), .val (.ref b316), .val (.int ((sh &&& (7 : Int32)) % (5 : Int32))), .val (.int (((sh &&& (7 : Int32)) % (5 : Int32)) + ((((sh.toUInt32 >>> ((3 : Int32) &&& 31).toUInt32).toInt32) &&& (7 : Int32)) % ((5 : Int32) - ((sh &&& (7 : Int32)) % (5 : Int32)))))), .val (.int (own_en (own_e1 (own_bad (0 : Int32) (own_ch pa) ((sh &&& (7 : Int32)) % (5 : Int32)) (((sh &&& (7 : Int32)) % (5 : Int32)) + ((((sh.toUInt32 >>> ((3 : Int32) &&& 31).toUInt32).toInt32) &&& (7 : Int32)) % ((5 : Int32) - ((sh &&& (7 : Int32)) % (5 : Int32))))))) (own_bad (1 : Int32) (own_ch pb) ((sh &&& (7 : Int32)) % (5 : Int32)) (((sh &&& (7 : Int32)) % (5 : Int32)) + ((((sh.toUInt32 >>> ((3 : Int32) &&& 31).toUInt32).toInt32) &&& (7 : Int32)) % ((5 : Int32) - ((sh &&& (7 : Int32)) % (5 : Int32))))))))] [(.int (0 : Int32))]))
        refine Run.pre (fun _ k => XS.istore X326.here hx rfl (hb hby at_139) rfl (l' := #[.val (.int pa), .val (.int pb), .val (.int pc_), .val (.int pd), .val (.int sh), .val (.int (own_ch pa)), .val (.int (own_ch pb)), .val (.int (own_ch pc_)), .val (.int (own_ch pd)), .val (.ref b307), .val (.ref b316), .val (.int ((sh &&& (7 : Int32)) % (5 : Int32))), .val (.int (((sh &&& (7 : Int32)) % (5 : Int32)) + ((((sh.toUInt32 >>> ((3 : Int32) &&& 31).toUInt32).toInt32) &&& (7 : Int32)) % ((5 : Int32) - ((sh &&& (7 : Int32)) % (5 : Int32)))))), .val (.int (0 : Int32))]) rfl k) ?_
        show Run p e below s _ _ _ (T326.setTop (mkF m 141 #[.val (.int pa), .val (.int pb), .val (.int pc_), .val (.int pd), .val (.int sh), .val (.int (own_ch pa)), .val (.int (own_ch pb)), .val (.int (own_ch pc_)), .val (.int (own_ch pd)), .val (.ref b307), .val (.ref b316), .val (.int ((sh &&& (7 : Int32)) % (5 : Int32))), .val (.int (((sh &&& (7 : Int32)) % (5 : Int32)) + ((((sh.toUInt32 >>> ((3 : Int32) &&& 31).toUInt32).toInt32) &&& (7 : Int32)) % ((5 : Int32) - ((sh &&& (7 : Int32)) % (5 : Int32)))))), .val (.int (0 : Int32))] []))
        have KK := KJ328
        rw [show (own_en (own_en (own_e1 (own_bad (0 : Int32) (own_ch pa) ((sh &&& (7 : Int32)) % (5 : Int32)) (((sh &&& (7 : Int32)) % (5 : Int32)) + ((((sh.toUInt32 >>> ((3 : Int32) &&& 31).toUInt32).toInt32) &&& (7 : Int32)) % ((5 : Int32) - ((sh &&& (7 : Int32)) % (5 : Int32))))))) (own_bad (1 : Int32) (own_ch pb) ((sh &&& (7 : Int32)) % (5 : Int32)) (((sh &&& (7 : Int32)) % (5 : Int32)) + ((((sh.toUInt32 >>> ((3 : Int32) &&& 31).toUInt32).toInt32) &&& (7 : Int32)) % ((5 : Int32) - ((sh &&& (7 : Int32)) % (5 : Int32))))))) (own_bad (2 : Int32) (own_ch pc_) ((sh &&& (7 : Int32)) % (5 : Int32)) (((sh &&& (7 : Int32)) % (5 : Int32)) + ((((sh.toUInt32 >>> ((3 : Int32) &&& 31).toUInt32).toInt32) &&& (7 : Int32)) % ((5 : Int32) - ((sh &&& (7 : Int32)) % (5 : Int32))))))) = (0 : Int32) from (if_neg hc327)] at KK
        exact KK
    by_cases hc324 : (own_bad (1 : Int32) (own_ch pb) ((sh &&& (7 : Int32)) % (5 : Int32)) (((sh &&& (7 : Int32)) % (5 : Int32)) + ((((sh.toUInt32 >>> ((3 : Int32) &&& 31).toUInt32).toInt32) &&& (7 : Int32)) % ((5 : Int32) - ((sh &&& (7 : Int32)) % (5 : Int32)))))) = (0 : Int32)
    · skip
      refine Run.pre (fun _ k => XS.ifYes X323.here hx rfl (pc0 := 119) (pc' := 125) rfl (hb hby at_119) rfl ((if0 _ _).trans (teq (hc324 : (own_bad (1 : Int32) (own_ch pb) ((sh &&& (7 : Int32)) % (5 : Int32)) (((sh &&& (7 : Int32)) % (5 : Int32)) + ((((sh.toUInt32 >>> ((3 : Int32) &&& 31).toUInt32).toInt32) &&& (7 : Int32)) % ((5 : Int32) - ((sh &&& (7 : Int32)) % (5 : Int32)))))) = (0 : Int32))).1) (by decide) (by decide) k) ?_
      show Run p e below s _ _ _ (T323.setTop (mkF m 125 #[.val (.int pa), .val (.int pb), .val (.int pc_), .val (.int pd), .val (.int sh), .val (.int (own_ch pa)), .val (.int (own_ch pb)), .val (.int (own_ch pc_)), .val (.int (own_ch pd)), .val (.ref b307), .val (.ref b316), .val (.int ((sh &&& (7 : Int32)) % (5 : Int32))), .val (.int (((sh &&& (7 : Int32)) % (5 : Int32)) + ((((sh.toUInt32 >>> ((3 : Int32) &&& 31).toUInt32).toInt32) &&& (7 : Int32)) % ((5 : Int32) - ((sh &&& (7 : Int32)) % (5 : Int32)))))), .val (.int (own_e1 (own_bad (0 : Int32) (own_ch pa) ((sh &&& (7 : Int32)) % (5 : Int32)) (((sh &&& (7 : Int32)) % (5 : Int32)) + ((((sh.toUInt32 >>> ((3 : Int32) &&& 31).toUInt32).toInt32) &&& (7 : Int32)) % ((5 : Int32) - ((sh &&& (7 : Int32)) % (5 : Int32))))))))] []))
      have KK := KJ325
      rw [show (own_en (own_e1 (own_bad (0 : Int32) (own_ch pa) ((sh &&& (7 : Int32)) % (5 : Int32)) (((sh &&& (7 : Int32)) % (5 : Int32)) + ((((sh.toUInt32 >>> ((3 : Int32) &&& 31).toUInt32).toInt32) &&& (7 : Int32)) % ((5 : Int32) - ((sh &&& (7 : Int32)) % (5 : Int32))))))) (own_bad (1 : Int32) (own_ch pb) ((sh &&& (7 : Int32)) % (5 : Int32)) (((sh &&& (7 : Int32)) % (5 : Int32)) + ((((sh.toUInt32 >>> ((3 : Int32) &&& 31).toUInt32).toInt32) &&& (7 : Int32)) % ((5 : Int32) - ((sh &&& (7 : Int32)) % (5 : Int32))))))) = (own_e1 (own_bad (0 : Int32) (own_ch pa) ((sh &&& (7 : Int32)) % (5 : Int32)) (((sh &&& (7 : Int32)) % (5 : Int32)) + ((((sh.toUInt32 >>> ((3 : Int32) &&& 31).toUInt32).toInt32) &&& (7 : Int32)) % ((5 : Int32) - ((sh &&& (7 : Int32)) % (5 : Int32))))))) from (if_pos hc324)] at KK
      exact KK
    · skip
      refine Run.pre (fun _ k => XS.ifNo X323.here hx rfl (hb hby at_119) rfl ((if0 _ _).trans (feq (hc324 : ¬ ((own_bad (1 : Int32) (own_ch pb) ((sh &&& (7 : Int32)) % (5 : Int32)) (((sh &&& (7 : Int32)) % (5 : Int32)) + ((((sh.toUInt32 >>> ((3 : Int32) &&& 31).toUInt32).toInt32) &&& (7 : Int32)) % ((5 : Int32) - ((sh &&& (7 : Int32)) % (5 : Int32)))))) = (0 : Int32)))).1) k) ?_
      show Run p e below s _ _ _ (T323.setTop (mkF m 122 #[.val (.int pa), .val (.int pb), .val (.int pc_), .val (.int pd), .val (.int sh), .val (.int (own_ch pa)), .val (.int (own_ch pb)), .val (.int (own_ch pc_)), .val (.int (own_ch pd)), .val (.ref b307), .val (.ref b316), .val (.int ((sh &&& (7 : Int32)) % (5 : Int32))), .val (.int (((sh &&& (7 : Int32)) % (5 : Int32)) + ((((sh.toUInt32 >>> ((3 : Int32) &&& 31).toUInt32).toInt32) &&& (7 : Int32)) % ((5 : Int32) - ((sh &&& (7 : Int32)) % (5 : Int32)))))), .val (.int (own_e1 (own_bad (0 : Int32) (own_ch pa) ((sh &&& (7 : Int32)) % (5 : Int32)) (((sh &&& (7 : Int32)) % (5 : Int32)) + ((((sh.toUInt32 >>> ((3 : Int32) &&& 31).toUInt32).toInt32) &&& (7 : Int32)) % ((5 : Int32) - ((sh &&& (7 : Int32)) % (5 : Int32))))))))] []))
      refine Run.pre (fun _ k => XS.iconst X323.here hx rfl (hb hby at_122) k) ?_
      show Run p e below s _ _ _ (T323.setTop (mkF m 123 #[.val (.int pa), .val (.int pb), .val (.int pc_), .val (.int pd), .val (.int sh), .val (.int (own_ch pa)), .val (.int (own_ch pb)), .val (.int (own_ch pc_)), .val (.int (own_ch pd)), .val (.ref b307), .val (.ref b316), .val (.int ((sh &&& (7 : Int32)) % (5 : Int32))), .val (.int (((sh &&& (7 : Int32)) % (5 : Int32)) + ((((sh.toUInt32 >>> ((3 : Int32) &&& 31).toUInt32).toInt32) &&& (7 : Int32)) % ((5 : Int32) - ((sh &&& (7 : Int32)) % (5 : Int32)))))), .val (.int (own_e1 (own_bad (0 : Int32) (own_ch pa) ((sh &&& (7 : Int32)) % (5 : Int32)) (((sh &&& (7 : Int32)) % (5 : Int32)) + ((((sh.toUInt32 >>> ((3 : Int32) &&& 31).toUInt32).toInt32) &&& (7 : Int32)) % ((5 : Int32) - ((sh &&& (7 : Int32)) % (5 : Int32))))))))] [(.int (0 : Int32))]))
      refine Run.pre (fun _ k => XS.istore X323.here hx rfl (hb hby at_123) rfl (l' := #[.val (.int pa), .val (.int pb), .val (.int pc_), .val (.int pd), .val (.int sh), .val (.int (own_ch pa)), .val (.int (own_ch pb)), .val (.int (own_ch pc_)), .val (.int (own_ch pd)), .val (.ref b307), .val (.ref b316), .val (.int ((sh &&& (7 : Int32)) % (5 : Int32))), .val (.int (((sh &&& (7 : Int32)) % (5 : Int32)) + ((((sh.toUInt32 >>> ((3 : Int32) &&& 31).toUInt32).toInt32) &&& (7 : Int32)) % ((5 : Int32) - ((sh &&& (7 : Int32)) % (5 : Int32)))))), .val (.int (0 : Int32))]) rfl k) ?_
      show Run p e below s _ _ _ (T323.setTop (mkF m 125 #[.val (.int pa), .val (.int pb), .val (.int pc_), .val (.int pd), .val (.int sh), .val (.int (own_ch pa)), .val (.int (own_ch pb)), .val (.int (own_ch pc_)), .val (.int (own_ch pd)), .val (.ref b307), .val (.ref b316), .val (.int ((sh &&& (7 : Int32)) % (5 : Int32))), .val (.int (((sh &&& (7 : Int32)) % (5 : Int32)) + ((((sh.toUInt32 >>> ((3 : Int32) &&& 31).toUInt32).toInt32) &&& (7 : Int32)) % ((5 : Int32) - ((sh &&& (7 : Int32)) % (5 : Int32)))))), .val (.int (0 : Int32))] []))
      have KK := KJ325
      rw [show (own_en (own_e1 (own_bad (0 : Int32) (own_ch pa) ((sh &&& (7 : Int32)) % (5 : Int32)) (((sh &&& (7 : Int32)) % (5 : Int32)) + ((((sh.toUInt32 >>> ((3 : Int32) &&& 31).toUInt32).toInt32) &&& (7 : Int32)) % ((5 : Int32) - ((sh &&& (7 : Int32)) % (5 : Int32))))))) (own_bad (1 : Int32) (own_ch pb) ((sh &&& (7 : Int32)) % (5 : Int32)) (((sh &&& (7 : Int32)) % (5 : Int32)) + ((((sh.toUInt32 >>> ((3 : Int32) &&& 31).toUInt32).toInt32) &&& (7 : Int32)) % ((5 : Int32) - ((sh &&& (7 : Int32)) % (5 : Int32))))))) = (0 : Int32) from (if_neg hc324)] at KK
      exact KK
  by_cases hc321 : (own_bad (0 : Int32) (own_ch pa) ((sh &&& (7 : Int32)) % (5 : Int32)) (((sh &&& (7 : Int32)) % (5 : Int32)) + ((((sh.toUInt32 >>> ((3 : Int32) &&& 31).toUInt32).toInt32) &&& (7 : Int32)) % ((5 : Int32) - ((sh &&& (7 : Int32)) % (5 : Int32)))))) = (0 : Int32)
  · skip
    refine Run.pre (fun _ k => XS.ifYes X320.here hx rfl (pc0 := 103) (pc' := 109) rfl (hb hby at_103) rfl ((if0 _ _).trans (teq (hc321 : (own_bad (0 : Int32) (own_ch pa) ((sh &&& (7 : Int32)) % (5 : Int32)) (((sh &&& (7 : Int32)) % (5 : Int32)) + ((((sh.toUInt32 >>> ((3 : Int32) &&& 31).toUInt32).toInt32) &&& (7 : Int32)) % ((5 : Int32) - ((sh &&& (7 : Int32)) % (5 : Int32)))))) = (0 : Int32))).1) (by decide) (by decide) k) ?_
    show Run p e below s _ _ _ (T320.setTop (mkF m 109 #[.val (.int pa), .val (.int pb), .val (.int pc_), .val (.int pd), .val (.int sh), .val (.int (own_ch pa)), .val (.int (own_ch pb)), .val (.int (own_ch pc_)), .val (.int (own_ch pd)), .val (.ref b307), .val (.ref b316), .val (.int ((sh &&& (7 : Int32)) % (5 : Int32))), .val (.int (((sh &&& (7 : Int32)) % (5 : Int32)) + ((((sh.toUInt32 >>> ((3 : Int32) &&& 31).toUInt32).toInt32) &&& (7 : Int32)) % ((5 : Int32) - ((sh &&& (7 : Int32)) % (5 : Int32)))))), .val (.int (1 : Int32))] []))
    have KK := KJ322
    rw [show (own_e1 (own_bad (0 : Int32) (own_ch pa) ((sh &&& (7 : Int32)) % (5 : Int32)) (((sh &&& (7 : Int32)) % (5 : Int32)) + ((((sh.toUInt32 >>> ((3 : Int32) &&& 31).toUInt32).toInt32) &&& (7 : Int32)) % ((5 : Int32) - ((sh &&& (7 : Int32)) % (5 : Int32))))))) = (1 : Int32) from (if_pos hc321)] at KK
    exact KK
  · skip
    refine Run.pre (fun _ k => XS.ifNo X320.here hx rfl (hb hby at_103) rfl ((if0 _ _).trans (feq (hc321 : ¬ ((own_bad (0 : Int32) (own_ch pa) ((sh &&& (7 : Int32)) % (5 : Int32)) (((sh &&& (7 : Int32)) % (5 : Int32)) + ((((sh.toUInt32 >>> ((3 : Int32) &&& 31).toUInt32).toInt32) &&& (7 : Int32)) % ((5 : Int32) - ((sh &&& (7 : Int32)) % (5 : Int32)))))) = (0 : Int32)))).1) k) ?_
    show Run p e below s _ _ _ (T320.setTop (mkF m 106 #[.val (.int pa), .val (.int pb), .val (.int pc_), .val (.int pd), .val (.int sh), .val (.int (own_ch pa)), .val (.int (own_ch pb)), .val (.int (own_ch pc_)), .val (.int (own_ch pd)), .val (.ref b307), .val (.ref b316), .val (.int ((sh &&& (7 : Int32)) % (5 : Int32))), .val (.int (((sh &&& (7 : Int32)) % (5 : Int32)) + ((((sh.toUInt32 >>> ((3 : Int32) &&& 31).toUInt32).toInt32) &&& (7 : Int32)) % ((5 : Int32) - ((sh &&& (7 : Int32)) % (5 : Int32)))))), .val (.int (1 : Int32))] []))
    refine Run.pre (fun _ k => XS.iconst X320.here hx rfl (hb hby at_106) k) ?_
    show Run p e below s _ _ _ (T320.setTop (mkF m 107 #[.val (.int pa), .val (.int pb), .val (.int pc_), .val (.int pd), .val (.int sh), .val (.int (own_ch pa)), .val (.int (own_ch pb)), .val (.int (own_ch pc_)), .val (.int (own_ch pd)), .val (.ref b307), .val (.ref b316), .val (.int ((sh &&& (7 : Int32)) % (5 : Int32))), .val (.int (((sh &&& (7 : Int32)) % (5 : Int32)) + ((((sh.toUInt32 >>> ((3 : Int32) &&& 31).toUInt32).toInt32) &&& (7 : Int32)) % ((5 : Int32) - ((sh &&& (7 : Int32)) % (5 : Int32)))))), .val (.int (1 : Int32))] [(.int (0 : Int32))]))
    refine Run.pre (fun _ k => XS.istore X320.here hx rfl (hb hby at_107) rfl (l' := #[.val (.int pa), .val (.int pb), .val (.int pc_), .val (.int pd), .val (.int sh), .val (.int (own_ch pa)), .val (.int (own_ch pb)), .val (.int (own_ch pc_)), .val (.int (own_ch pd)), .val (.ref b307), .val (.ref b316), .val (.int ((sh &&& (7 : Int32)) % (5 : Int32))), .val (.int (((sh &&& (7 : Int32)) % (5 : Int32)) + ((((sh.toUInt32 >>> ((3 : Int32) &&& 31).toUInt32).toInt32) &&& (7 : Int32)) % ((5 : Int32) - ((sh &&& (7 : Int32)) % (5 : Int32)))))), .val (.int (0 : Int32))]) rfl k) ?_
    show Run p e below s _ _ _ (T320.setTop (mkF m 109 #[.val (.int pa), .val (.int pb), .val (.int pc_), .val (.int pd), .val (.int sh), .val (.int (own_ch pa)), .val (.int (own_ch pb)), .val (.int (own_ch pc_)), .val (.int (own_ch pd)), .val (.ref b307), .val (.ref b316), .val (.int ((sh &&& (7 : Int32)) % (5 : Int32))), .val (.int (((sh &&& (7 : Int32)) % (5 : Int32)) + ((((sh.toUInt32 >>> ((3 : Int32) &&& 31).toUInt32).toInt32) &&& (7 : Int32)) % ((5 : Int32) - ((sh &&& (7 : Int32)) % (5 : Int32)))))), .val (.int (0 : Int32))] []))
    have KK := KJ322
    rw [show (own_e1 (own_bad (0 : Int32) (own_ch pa) ((sh &&& (7 : Int32)) % (5 : Int32)) (((sh &&& (7 : Int32)) % (5 : Int32)) + ((((sh.toUInt32 >>> ((3 : Int32) &&& 31).toUInt32).toInt32) &&& (7 : Int32)) % ((5 : Int32) - ((sh &&& (7 : Int32)) % (5 : Int32))))))) = (0 : Int32) from (if_neg hc321)] at KK
    exact KK
set_option maxRecDepth 65536 in
set_option maxHeartbeats 40000000 in
theorem comes_1 {Post : Tables → Env → Array Value → State → Outcome → State → Prop} (hpost : ∀ tb e args s v u, (limb_1_1.after args s (.returned v) u = true ∧ limb_1_2.after args s (.returned v) u = true ∧ True) → FrameEnd s (.returned v) u (Jvm.fieldLocs frame_1_writes args s ++ Jvm.arrayLocs frame_1_arrays args s ++ Jvm.staticLocs frame_1_statics s) 16 128 → Post tb e args s (.returned v) u) :
    ArmFor flags0 classFile x code maxLocals ret World_1 tables_1 room_1 Calls_1 rest_1 Pre_1 Post := by
  intro l hfl _ _ p e ha hc hk s m args below hf hA hF happ hP
  obtain ⟨hcalls, hrest, hpre⟩ := hP
  obtain ⟨-, -, -, hnamed, -, -, -, hat⟩ := (Spec.applies_iff hf).mp happ
  obtain ⟨hg, hn⟩ := and_e (Cond.before_iff.mp (show (Jvm.Cond.and given_1 narrow_1).before args s = true from hpre))
  obtain ⟨g0, gr0⟩ := and_e hg
  obtain ⟨g1, gr1⟩ := and_e gr0
  obtain ⟨g2, gr2⟩ := and_e gr1
  obtain ⟨g3, gr3⟩ := and_e gr2
  obtain ⟨g4, gr4⟩ := and_e gr3
  obtain ⟨w0, w1, w2, w3, w4, rfl⟩ : ∃ w0 w1 w2 w3 w4 : Value, args = #[w0, w1, w2, w3, w4] := by
    have hs : args.size = 5 := by simpa [Cond.value, given_1] using g0
    obtain ⟨L⟩ := args
    match L, hs with
    | [w0, w1, w2, w3, w4], _ => exact ⟨w0, w1, w2, w3, w4, rfl⟩
  have hw := fun d (hd : d ∈ tables_1) => atoms_spec (ws := Jvm.Cond.code x code maxLocals ret :: tables_1) hat d (List.mem_cons_of_mem _ hd)
  have hfit : Fit s := own_fit hF
  obtain ⟨hsets, hown0⟩ := atoms_of _ (rest_1_c_eq ▸ (show rest_1_c.before _ s = true from hrest))
  have hr0 := Cond.before_iff.mp hown0
  obtain ⟨i0, ei0⟩ := is_v g1
  obtain rfl : w0 = (.int i0) := Option.some.inj ei0
  obtain ⟨i1, ei1⟩ := is_v g2
  obtain rfl : w1 = (.int i1) := Option.some.inj ei1
  obtain ⟨i2, ei2⟩ := is_v g3
  obtain rfl : w2 = (.int i2) := Option.some.inj ei2
  obtain ⟨i3, ei3⟩ := is_v g4
  obtain rfl : w3 = (.int i3) := Option.some.inj ei3
  obtain ⟨i4, ei4⟩ := is_v gr4
  obtain rfl : w4 = (.int i4) := Option.some.inj ei4
  obtain ⟨cs0, ecs⟩ := is_v (Cond.before_iff.mp (hsets _ (List.mem_of_getElem? (i := 1) rfl)))
  have S_C := Sta.start ecs (Or.inl (hsets _ (List.mem_of_getElem? (i := 0) rfl)))
  have hcs0 : ¬ cs0 = 0 := own_ne0 ecs (Cond.before_iff.mp (hsets _ (List.mem_of_getElem? (i := 2) rfl)))
  have S_A := own_staInt (Cond.before_iff.mp (hsets _ (List.mem_of_getElem? (i := 12) rfl))) (Or.inl (hsets _ (List.mem_of_getElem? (i := 11) rfl)))
  have S_H := own_staInt (Cond.before_iff.mp (hsets _ (List.mem_of_getElem? (i := 15) rfl))) (Or.inl (hsets _ (List.mem_of_getElem? (i := 14) rfl)))
  have S_L := own_staInt (Cond.before_iff.mp (hsets _ (List.mem_of_getElem? (i := 18) rfl))) (Or.inl (hsets _ (List.mem_of_getElem? (i := 17) rfl)))
  obtain ⟨fw0, efw, hfw0⟩ := isR_v (Cond.before_iff.mp (hsets _ (List.mem_of_getElem? (i := 8) rfl)))
  have S_F := Sta.start efw (Or.inl (hsets _ (List.mem_of_getElem? (i := 7) rfl)))
  obtain ⟨n, o, h1, h2, h3, _, L, rfl, ⟨rfl, N⟩, hq⟩ := rm0 l s _ hw i0 i1 i2 i3 i4 cs0 fw0 s.heap s.heap.size (Nat.le_refl _) (Old.start s) S_C hcs0 S_F hfw0 S_A S_H S_L tables_1 p e ha hc hk s m _ below hf ((Spec.applies_iff_loose hf).mp happ).1 ⟨rfl, State.Warmed39.refl s, rfl⟩ trivial
  refine ⟨n, _, h1, h2, h3, hpost _ _ _ _ _ _ ⟨Cond.after_iff.mpr rfl, Cond.after_iff.mpr (eq_i res_at (Term.int_eval (1)) rfl), trivial⟩ ⟨hq.1, hq.2.1, (hq.2.2.sift fun y hy => Or.inr (N y hy)).mono (by decide) (by decide)⟩⟩
theorem main_1_1 : Claimed_1_1 := comes_1 fun _ _ _ _ _ _ h hF => ⟨h.1, hF⟩
theorem main_1_2 : Claimed_1_2 := comes_1 fun _ _ _ _ _ _ h hF => ⟨h.2.1, hF⟩
end Jvm.Pilot.@@N@@
namespace Jvm.Pilot.@@N@@
open Jvm Jvm.ClassFile Sem Op Lib Jvm.Free Jvm.Stand Jvm.Pilot.@@N@@.Jvm.D
/-! MADE BY PROGRAM (witnessworld.py) out of the Statement's table words and the real class files: 20 classes; the members and pool entries that the words name. The judged class is class 1, her method 4. -/
namespace start1
open Jvm.ClassFile
def u (s : String) : CpInfo := .utf8 (stringToUtf16 s)
/-- a pool by its gaps: so many unusable entries, then the entry; so many at the end -/
def gap : Nat → List CpInfo → List CpInfo
  | 0, r => r
  | n + 1, r => .unusable :: gap n r
def poolList (es : List (Nat × CpInfo)) (last : Nat) : List CpInfo := es.foldr (fun e r => gap e.1 (e.2 :: r)) (gap last [])
def pool (es : List (Nat × CpInfo)) (last : Nat) : Array CpInfo := ⟨poolList es last⟩
def fileOf (pool : Array CpInfo) (this : Nat) (attrs : Array Attribute := #[]) (ms : Array MethodInfo := #[]) (fl : Nat := 33) (sup : Nat := 0) (ifs : Array Nat := #[]) (fds : Array FieldInfo := #[]) : ClassFile where
  minorVersion := 0
  majorVersion := 65
  constantPool := pool
  accessFlags := fl
  thisClass := this
  superClass := sup
  interfaces := ifs
  fields := fds
  methods := ms
  attributes := attrs
def plain (name : String) (sup : Option ClassId) : Class where
  name := name
  kind := .ordinary
  loader := none
  accessFlags := 33
  super := sup
  interfaces := #[]
  cf := none
  fields := #[]
  methods := #[]
  instanceTypes := #[]
  staticTypes := #[]
  resolved := #[]
  callSites := []
  init := .initialized
  statics := none
  mirror := none

def pool0 : Array CpInfo := pool [(5, u "<init>"), (0, u "()V"), (1, .class_ 10), (1, u "java/lang/Object")] 113

def k0c0 : Code := { maxStack := 0, maxLocals := 1, code := object_method_1_code, exceptionTable := #[], attributes := #[] }
def k0m0 : Method := { name := "<init>", desc := "()V", sig := { parameters := [], returnType := none }, accessFlags := 1, code := some k0c0 }
/-- java/lang/Object -/
def k0 : Class := { plain "java/lang/Object" none with
  accessFlags := 33
  interfaces := #[]
  cf := some (fileOf pool0 8 #[] #[{ accessFlags := 1, nameIndex := 5, descriptorIndex := 6, attributes := #[] }] 33 0 #[] #[])
  fields := #[]
  methods := #[k0m0]
  instanceTypes := #[]
  staticTypes := #[]
  resolved := Array.replicate 124 none
  statics := none }

def pool1 : Array CpInfo := pool [(2, .class_ 4), (1, u "java/lang/Object"), (0, u "<init>"), (0, u "()V"), (0, .integer 65535), (0, .methodref 9 10), (0, .class_ 11), (0, .nameAndType 12 13), (0, u "com/example/panelfix/panelfix/io/AsciiDigitsBetweenPinLaw"), (0, u "digit"), (0, u "(C)Z"), (0, .methodref 9 15), (0, .nameAndType 16 17), (0, u "ch"), (0, u "(I)C"), (0, .class_ 19), (0, u "java/lang/String"), (0, .methodref 18 21), (0, .nameAndType 5 22), (0, u "([C)V"), (0, .methodref 9 24), (0, .nameAndType 25 26), (0, u "badAt"), (0, u "(ICII)Z"), (0, .methodref 28 29), (0, .class_ 30), (0, .nameAndType 31 32), (0, u "com/example/panelfix/panelfix/io/AsciiDigits"), (0, u "between"), (0, u "(Ljava/lang/String;II)Z"), (3, u "law"), (0, u "(IIIII)Z")] 4

def k1m0 : Method := { name := "<init>", desc := "()V", sig := { parameters := [], returnType := none }, accessFlags := 1, code := none }
def k1c1 : Code := { maxStack := 3, maxLocals := 1, code := method_2_code, exceptionTable := #[], attributes := #[] }
def k1m1 : Method := { name := "ch", desc := "(I)C", sig := { parameters := [.int], returnType := some .char }, accessFlags := 10, code := some k1c1 }
def k1c2 : Code := { maxStack := 2, maxLocals := 1, code := method_3_code, exceptionTable := #[], attributes := #[] }
def k1m2 : Method := { name := "digit", desc := "(C)Z", sig := { parameters := [.char], returnType := some .boolean }, accessFlags := 10, code := some k1c2 }
def k1c3 : Code := { maxStack := 2, maxLocals := 4, code := method_4_code, exceptionTable := #[], attributes := #[] }
def k1m3 : Method := { name := "badAt", desc := "(ICII)Z", sig := { parameters := [.int, .char, .int, .int], returnType := some .boolean }, accessFlags := 10, code := some k1c3 }
def k1c4 : Code := { maxStack := 4, maxLocals := 14, code := code, exceptionTable := #[], attributes := #[] }
def k1m4 : Method := { name := "law", desc := "(IIIII)Z", sig := { parameters := [.int, .int, .int, .int, .int], returnType := some .boolean }, accessFlags := 9, code := some k1c4 }
/-- com/example/panelfix/panelfix/io/AsciiDigitsBetweenPinLaw -/
def k1 : Class := { plain "com/example/panelfix/panelfix/io/AsciiDigitsBetweenPinLaw" (some 0) with
  accessFlags := 49
  interfaces := #[]
  cf := some (fileOf pool1 9 #[] #[{ accessFlags := 1, nameIndex := 5, descriptorIndex := 6, attributes := #[] }, { accessFlags := 10, nameIndex := 16, descriptorIndex := 17, attributes := #[] }, { accessFlags := 10, nameIndex := 12, descriptorIndex := 13, attributes := #[] }, { accessFlags := 10, nameIndex := 25, descriptorIndex := 26, attributes := #[] }, { accessFlags := 9, nameIndex := 36, descriptorIndex := 37, attributes := #[] }] 49 2 #[] #[])
  fields := #[]
  methods := #[k1m0, k1m1, k1m2, k1m3, k1m4]
  instanceTypes := #[]
  staticTypes := #[]
  resolved := Array.replicate 42 none
  statics := none }

def pool2 : Array CpInfo := pool [(1, .class_ 2), (0, u "java/io/Serializable"), (0, .class_ 4), (0, u "java/lang/Object")] 2

/-- java/io/Serializable -/
def k2 : Class := { plain "java/io/Serializable" (some 0) with
  accessFlags := 1537
  interfaces := #[]
  cf := some (fileOf pool2 1 #[] #[] 1537 3 #[] #[])
  fields := #[]
  methods := #[]
  instanceTypes := #[]
  staticTypes := #[]
  resolved := Array.replicate 7 none
  statics := none }

def pool3 : Array CpInfo := pool [(1, .class_ 2), (0, u "java/lang/Comparable"), (0, .class_ 4), (0, u "java/lang/Object")] 7

/-- java/lang/Comparable -/
def k3 : Class := { plain "java/lang/Comparable" (some 0) with
  accessFlags := 1537
  interfaces := #[]
  cf := some (fileOf pool3 1 #[] #[] 1537 3 #[] #[])
  fields := #[]
  methods := #[]
  instanceTypes := #[]
  staticTypes := #[]
  resolved := Array.replicate 12 none
  statics := none }

def pool4 : Array CpInfo := pool [(2, .class_ 4), (1, u "java/lang/CharSequence"), (42, .class_ 48), (0, u "java/lang/CharSequence$1CodePointIterator"), (10, .class_ 60), (0, u "java/lang/CharSequence$1CharIterator"), (5, .class_ 67), (0, u "java/lang/Object")] 63

/-- java/lang/CharSequence -/
def k4 : Class := { plain "java/lang/CharSequence" (some 0) with
  accessFlags := 1537
  interfaces := #[]
  cf := some (fileOf pool4 2 #[.nestMembers #[47, 59]] #[] 1537 66 #[] #[])
  fields := #[]
  methods := #[]
  instanceTypes := #[]
  staticTypes := #[]
  resolved := Array.replicate 131 none
  statics := none }

def pool5 : Array CpInfo := pool [(1, .class_ 2), (0, u "java/lang/constant/Constable"), (0, .class_ 4), (0, u "java/lang/Object")] 6

/-- java/lang/constant/Constable -/
def k5 : Class := { plain "java/lang/constant/Constable" (some 0) with
  accessFlags := 1537
  interfaces := #[]
  cf := some (fileOf pool5 1 #[] #[] 1537 3 #[] #[])
  fields := #[]
  methods := #[]
  instanceTypes := #[]
  staticTypes := #[]
  resolved := Array.replicate 11 none
  statics := none }

def pool6 : Array CpInfo := pool [(1, .class_ 2), (0, u "java/lang/constant/ConstantDesc"), (0, .class_ 4), (0, u "java/lang/Object")] 32

/-- java/lang/constant/ConstantDesc -/
def k6 : Class := { plain "java/lang/constant/ConstantDesc" (some 0) with
  accessFlags := 1537
  interfaces := #[]
  cf := some (fileOf pool6 1 #[] #[] 1537 3 #[] #[])
  fields := #[]
  methods := #[]
  instanceTypes := #[]
  staticTypes := #[]
  resolved := Array.replicate 37 none
  statics := none }

def pool7 : Array CpInfo := pool [(1, .methodref 2 3), (0, .class_ 4), (0, .nameAndType 5 6), (0, u "java/lang/Object"), (0, u "<init>"), (0, u "()V"), (2, .fieldref 10 11), (0, .class_ 12), (0, .nameAndType 13 14), (0, u "java/lang/String"), (0, u "value"), (0, u "[B"), (0, .fieldref 10 16), (0, .nameAndType 17 18), (0, u "coder"), (0, u "B"), (2, u "hash"), (0, u "I"), (2, u "hashIsZero"), (0, u "Z"), (0, .methodref 10 28), (0, .nameAndType 5 29), (0, u "([CIILjava/lang/Void;)V"), (8, .fieldref 10 39), (0, .nameAndType 40 26), (0, u "COMPACT_STRINGS"), (1, .class_ 44), (1, u "java/lang/StringUTF16"), (0, u "compress"), (1, .methodref 42 48), (0, .nameAndType 49 50), (0, u "coderFromArrayLen"), (0, u "([BI)B"), (56, .class_ 109), (1, u "java/lang/StringLatin1"), (32, u "()Z"), (34, .methodref 42 178), (0, .nameAndType 45 179), (0, u "([CII)[B"), (183, u "([BI)C"), (27, u "(II)V"), (35, u "(I)C"), (64, .methodref 10 493), (0, .nameAndType 494 142), (0, u "isLatin1"), (0, .methodref 107 496), (0, .nameAndType 497 363), (0, u "charAt"), (0, .methodref 42 496), (2, u "checkIndex"), (73, .class_ 576), (0, u "java/lang/CharSequence"), (22, u "CASE_INSENSITIVE_ORDER"), (0, u "Ljava/util/Comparator;"), (409, u "([C)V"), (42, .fieldref 1054 1055), (0, .class_ 1056), (0, .nameAndType 1057 1058), (0, u "jdk/internal/util/Preconditions"), (0, u "SIOOBE_FORMATTER"), (0, u "Ljava/util/function/BiFunction;"), (0, .methodref 1054 1060), (0, .nameAndType 501 1061), (0, u "(IILjava/util/function/BiFunction;)I"), (39, u "serialPersistentFields"), (0, u "[Ljava/io/ObjectStreamField;"), (0, .class_ 1104), (0, u "java/lang/String$CaseInsensitiveComparator"), (1, .class_ 1107), (0, u "java/io/Serializable"), (0, .class_ 1109), (0, u "java/lang/Comparable"), (0, .class_ 1111), (0, u "java/lang/constant/Constable"), (0, .class_ 1113), (0, u "java/lang/constant/ConstantDesc"), (2, u "serialVersionUID"), (0, u "J"), (3, u "REPL"), (0, u "C"), (2, u "LATIN1"), (1, u "UTF16")] 323

def k7m0 : Method := { name := "<init>", desc := "()V", sig := { parameters := [], returnType := none }, accessFlags := 1, code := none }
def k7c1 : Code := { maxStack := 5, maxLocals := 2, code := jdk_42_method_3_code, exceptionTable := #[], attributes := #[] }
def k7m1 : Method := { name := "<init>", desc := "([C)V", sig := { parameters := [(.array .char)], returnType := none }, accessFlags := 1, code := some k7c1 }
def k7c2 : Code := { maxStack := 2, maxLocals := 2, code := jdk_42_method_56_code, exceptionTable := #[], attributes := #[] }
def k7m2 : Method := { name := "charAt", desc := "(I)C", sig := { parameters := [.int], returnType := some .char }, accessFlags := 1, code := some k7c2 }
def k7c3 : Code := { maxStack := 4, maxLocals := 6, code := jdk_42_method_149_code, exceptionTable := #[], attributes := #[] }
def k7m3 : Method := { name := "<init>", desc := "([CIILjava/lang/Void;)V", sig := { parameters := [(.array .char), .int, .int, (.object "java/lang/Void")], returnType := none }, accessFlags := 2, code := some k7c3 }
def k7c4 : Code := { maxStack := 1, maxLocals := 1, code := jdk_42_method_154_code, exceptionTable := #[], attributes := #[] }
def k7m4 : Method := { name := "isLatin1", desc := "()Z", sig := { parameters := [], returnType := some .boolean }, accessFlags := 0, code := some k7c4 }
def k7c5 : Code := { maxStack := 3, maxLocals := 2, code := jdk_42_method_155_code, exceptionTable := #[], attributes := #[] }
def k7m5 : Method := { name := "checkIndex", desc := "(II)V", sig := { parameters := [.int, .int], returnType := none }, accessFlags := 8, code := some k7c5 }
/-- java/lang/String -/
def k7 : Class := { plain "java/lang/String" (some 0) with
  accessFlags := 49
  interfaces := #[2, 3, 4, 5, 6]
  cf := some (fileOf pool7 10 #[.nestMembers #[1103]] #[{ accessFlags := 1, nameIndex := 5, descriptorIndex := 6, attributes := #[] }, { accessFlags := 1, nameIndex := 5, descriptorIndex := 1010, attributes := #[] }, { accessFlags := 1, nameIndex := 497, descriptorIndex := 427, attributes := #[] }, { accessFlags := 2, nameIndex := 5, descriptorIndex := 29, attributes := #[] }, { accessFlags := 0, nameIndex := 494, descriptorIndex := 142, attributes := #[] }, { accessFlags := 8, nameIndex := 501, descriptorIndex := 391, attributes := #[] }] 49 2 #[1106, 1108, 575, 1110, 1112] #[{ accessFlags := 18, nameIndex := 13, descriptorIndex := 14, attributes := #[] }, { accessFlags := 18, nameIndex := 17, descriptorIndex := 18, attributes := #[] }, { accessFlags := 2, nameIndex := 21, descriptorIndex := 22, attributes := #[] }, { accessFlags := 2, nameIndex := 25, descriptorIndex := 26, attributes := #[] }, { accessFlags := 26, nameIndex := 1116, descriptorIndex := 1117, attributes := #[] }, { accessFlags := 24, nameIndex := 40, descriptorIndex := 26, attributes := #[] }, { accessFlags := 26, nameIndex := 1101, descriptorIndex := 1102, attributes := #[] }, { accessFlags := 26, nameIndex := 1121, descriptorIndex := 1122, attributes := #[] }, { accessFlags := 25, nameIndex := 599, descriptorIndex := 600, attributes := #[] }, { accessFlags := 24, nameIndex := 1125, descriptorIndex := 18, attributes := #[] }, { accessFlags := 24, nameIndex := 1127, descriptorIndex := 18, attributes := #[] }])
  fields := #[{ name := "value", type := (.array .byte), accessFlags := 18, slot := 0, constantValue := 0 }, { name := "coder", type := .byte, accessFlags := 18, slot := 1, constantValue := 0 }, { name := "hash", type := .int, accessFlags := 2, slot := 2, constantValue := 0 }, { name := "hashIsZero", type := .boolean, accessFlags := 2, slot := 3, constantValue := 0 }, { name := "serialVersionUID", type := .long, accessFlags := 26, slot := 0, constantValue := 0 }, { name := "COMPACT_STRINGS", type := .boolean, accessFlags := 24, slot := 1, constantValue := 0 }, { name := "serialPersistentFields", type := (.array (.object "java/io/ObjectStreamField")), accessFlags := 26, slot := 2, constantValue := 0 }, { name := "REPL", type := .char, accessFlags := 26, slot := 3, constantValue := 0 }, { name := "CASE_INSENSITIVE_ORDER", type := (.object "java/util/Comparator"), accessFlags := 25, slot := 4, constantValue := 0 }, { name := "LATIN1", type := .byte, accessFlags := 24, slot := 5, constantValue := 0 }, { name := "UTF16", type := .byte, accessFlags := 24, slot := 6, constantValue := 0 }]
  methods := #[k7m0, k7m1, k7m2, k7m3, k7m4, k7m5]
  instanceTypes := #[(.array .byte), .byte, .int, .boolean]
  staticTypes := #[.long, .boolean, (.array (.object "java/io/ObjectStreamField")), .char, (.object "java/util/Comparator"), .byte, .byte]
  resolved := Array.replicate 1451 none
  statics := some 0 }

def pool8 : Array CpInfo := pool [(3, .class_ 4), (0, u "java/lang/String"), (1, .class_ 8), (1, u "java/lang/Object"), (0, u "<init>"), (0, u "()V"), (0, .methodref 12 13), (0, .class_ 14), (0, .nameAndType 15 16), (0, u "java/lang/StringUTF16"), (0, u "newBytesLength"), (0, u "(I)I"), (3, .integer 1073741823), (23, .fieldref 12 45), (0, .nameAndType 46 47), (0, u "$assertionsDisabled"), (0, u "Z"), (0, .methodref 12 49), (0, .nameAndType 50 51), (0, u "length"), (0, u "([B)I"), (7, .fieldref 12 60), (0, .nameAndType 61 62), (0, u "HI_BYTE_SHIFT"), (0, u "I"), (0, .fieldref 12 64), (0, .nameAndType 65 62), (0, u "LO_BYTE_SHIFT"), (1, .methodref 12 68), (0, .nameAndType 69 70), (0, u "checkIndex"), (0, u "(I[B)V"), (0, .methodref 12 72), (0, .nameAndType 73 74), (0, u "getChar"), (0, u "([BI)C"), (32, .methodref 12 108), (0, .nameAndType 109 110), (0, u "newBytesFor"), (0, u "(I)[B"), (0, .methodref 12 112), (0, .nameAndType 113 114), (0, u "putChar"), (0, u "([BII)V"), (0, .methodref 12 116), (0, .nameAndType 117 118), (0, u "compress"), (0, u "([CI[BII)I"), (0, .methodref 12 120), (0, .nameAndType 121 122), (0, u "toBytes"), (0, u "([CII)[B"), (138, u "coderFromArrayLen"), (0, u "([BI)B"), (106, .class_ 371), (1, u "java/lang/StringUTF16$LinesSpliterator"), (20, u "charAt"), (21, .methodref 3 415), (0, .nameAndType 69 416), (0, u "(II)V"), (13, u "MAX_LENGTH"), (196, .class_ 628), (0, u "java/lang/StringUTF16$CodePointsSpliterator"), (0, .class_ 630), (0, u "java/lang/StringUTF16$CharsSpliterator")] 4

def k8m0 : Method := { name := "<init>", desc := "()V", sig := { parameters := [], returnType := none }, accessFlags := 0, code := none }
def k8c1 : Code := { maxStack := 1, maxLocals := 1, code := jdk_52_method_2_code, exceptionTable := #[], attributes := #[] }
def k8m1 : Method := { name := "newBytesFor", desc := "(I)[B", sig := { parameters := [.int], returnType := some (.array .byte) }, accessFlags := 9, code := some k8c1 }
def k8c2 : Code := { maxStack := 4, maxLocals := 1, code := jdk_52_method_3_code, exceptionTable := #[], attributes := #[] }
def k8m2 : Method := { name := "newBytesLength", desc := "(I)I", sig := { parameters := [.int], returnType := some .int }, accessFlags := 9, code := some k8c2 }
def k8c3 : Code := { maxStack := 4, maxLocals := 3, code := jdk_52_method_4_code, exceptionTable := #[], attributes := #[] }
def k8m3 : Method := { name := "putChar", desc := "([BII)V", sig := { parameters := [(.array .byte), .int, .int], returnType := none }, accessFlags := 8, code := some k8c3 }
def k8c4 : Code := { maxStack := 3, maxLocals := 2, code := jdk_52_method_5_code, exceptionTable := #[], attributes := #[] }
def k8m4 : Method := { name := "getChar", desc := "([BI)C", sig := { parameters := [(.array .byte), .int], returnType := some .char }, accessFlags := 8, code := some k8c4 }
def k8c5 : Code := { maxStack := 2, maxLocals := 1, code := jdk_52_method_6_code, exceptionTable := #[], attributes := #[] }
def k8m5 : Method := { name := "length", desc := "([B)I", sig := { parameters := [(.array .byte)], returnType := some .int }, accessFlags := 9, code := some k8c5 }
def k8c6 : Code := { maxStack := 4, maxLocals := 5, code := jdk_52_method_14_code, exceptionTable := #[], attributes := #[] }
def k8m6 : Method := { name := "toBytes", desc := "([CII)[B", sig := { parameters := [(.array .char), .int, .int], returnType := some (.array .byte) }, accessFlags := 9, code := some k8c6 }
def k8c7 : Code := { maxStack := 2, maxLocals := 2, code := jdk_52_method_15_code, exceptionTable := #[], attributes := #[] }
def k8m7 : Method := { name := "coderFromArrayLen", desc := "([BI)B", sig := { parameters := [(.array .byte), .int], returnType := some .byte }, accessFlags := 8, code := some k8c7 }
def k8c8 : Code := { maxStack := 5, maxLocals := 6, code := jdk_52_method_16_code, exceptionTable := #[], attributes := #[] }
def k8m8 : Method := { name := "compress", desc := "([CII)[B", sig := { parameters := [(.array .char), .int, .int], returnType := some (.array .byte) }, accessFlags := 9, code := some k8c8 }
def k8c9 : Code := { maxStack := 3, maxLocals := 7, code := jdk_52_method_21_code, exceptionTable := #[], attributes := #[] }
def k8m9 : Method := { name := "compress", desc := "([CI[BII)I", sig := { parameters := [(.array .char), .int, (.array .byte), .int, .int], returnType := some .int }, accessFlags := 9, code := some k8c9 }
def k8c10 : Code := { maxStack := 2, maxLocals := 2, code := jdk_52_method_83_code, exceptionTable := #[], attributes := #[] }
def k8m10 : Method := { name := "charAt", desc := "([BI)C", sig := { parameters := [(.array .byte), .int], returnType := some .char }, accessFlags := 9, code := some k8c10 }
def k8c11 : Code := { maxStack := 2, maxLocals := 2, code := jdk_52_method_91_code, exceptionTable := #[], attributes := #[] }
def k8m11 : Method := { name := "checkIndex", desc := "(I[B)V", sig := { parameters := [.int, (.array .byte)], returnType := none }, accessFlags := 9, code := some k8c11 }
/-- java/lang/StringUTF16 -/
def k8 : Class := { plain "java/lang/StringUTF16" (some 0) with
  accessFlags := 48
  interfaces := #[]
  cf := some (fileOf pool8 12 #[.nestMembers #[627, 629, 369]] #[{ accessFlags := 0, nameIndex := 9, descriptorIndex := 10, attributes := #[] }, { accessFlags := 9, nameIndex := 109, descriptorIndex := 110, attributes := #[] }, { accessFlags := 9, nameIndex := 15, descriptorIndex := 16, attributes := #[] }, { accessFlags := 8, nameIndex := 113, descriptorIndex := 114, attributes := #[] }, { accessFlags := 8, nameIndex := 73, descriptorIndex := 74, attributes := #[] }, { accessFlags := 9, nameIndex := 50, descriptorIndex := 51, attributes := #[] }, { accessFlags := 9, nameIndex := 121, descriptorIndex := 122, attributes := #[] }, { accessFlags := 8, nameIndex := 261, descriptorIndex := 262, attributes := #[] }, { accessFlags := 9, nameIndex := 117, descriptorIndex := 122, attributes := #[] }, { accessFlags := 9, nameIndex := 117, descriptorIndex := 118, attributes := #[] }, { accessFlags := 9, nameIndex := 392, descriptorIndex := 74, attributes := #[] }, { accessFlags := 9, nameIndex := 69, descriptorIndex := 70, attributes := #[] }] 48 6 #[] #[{ accessFlags := 26, nameIndex := 61, descriptorIndex := 62, attributes := #[] }, { accessFlags := 26, nameIndex := 65, descriptorIndex := 62, attributes := #[] }, { accessFlags := 24, nameIndex := 430, descriptorIndex := 62, attributes := #[] }, { accessFlags := 4120, nameIndex := 46, descriptorIndex := 47, attributes := #[] }])
  fields := #[{ name := "HI_BYTE_SHIFT", type := .int, accessFlags := 26, slot := 0, constantValue := 0 }, { name := "LO_BYTE_SHIFT", type := .int, accessFlags := 26, slot := 1, constantValue := 0 }, { name := "MAX_LENGTH", type := .int, accessFlags := 24, slot := 2, constantValue := 0 }, { name := "$assertionsDisabled", type := .boolean, accessFlags := 4120, slot := 3, constantValue := 0 }]
  methods := #[k8m0, k8m1, k8m2, k8m3, k8m4, k8m5, k8m6, k8m7, k8m8, k8m9, k8m10, k8m11]
  instanceTypes := #[]
  staticTypes := #[.int, .int, .int, .boolean]
  resolved := Array.replicate 635 none
  statics := some 1 }

def pool9 : Array CpInfo := pool [(2, .class_ 4), (1, u "java/lang/Object"), (0, u "<init>"), (0, u "()V"), (0, .methodref 8 9), (0, .class_ 10), (0, .nameAndType 11 12), (0, u "java/lang/String"), (0, u "charAt"), (0, u "(I)C"), (5, .class_ 20), (1, u "com/example/panelfix/panelfix/io/AsciiDigits"), (0, u "between"), (0, u "(Ljava/lang/String;II)Z")] 13

def k9m0 : Method := { name := "<init>", desc := "()V", sig := { parameters := [], returnType := none }, accessFlags := 2, code := none }
def k9c1 : Code := { maxStack := 2, maxLocals := 5, code := prog_1_method_2_code, exceptionTable := #[], attributes := #[] }
def k9m1 : Method := { name := "between", desc := "(Ljava/lang/String;II)Z", sig := { parameters := [(.object "java/lang/String"), .int, .int], returnType := some .boolean }, accessFlags := 8, code := some k9c1 }
/-- com/example/panelfix/panelfix/io/AsciiDigits -/
def k9 : Class := { plain "com/example/panelfix/panelfix/io/AsciiDigits" (some 0) with
  accessFlags := 48
  interfaces := #[]
  cf := some (fileOf pool9 18 #[] #[{ accessFlags := 2, nameIndex := 5, descriptorIndex := 6, attributes := #[] }, { accessFlags := 8, nameIndex := 21, descriptorIndex := 22, attributes := #[] }] 48 2 #[] #[])
  fields := #[]
  methods := #[k9m0, k9m1]
  instanceTypes := #[]
  staticTypes := #[]
  resolved := Array.replicate 36 none
  statics := none }

def pool10 : Array CpInfo := pool [(1, .class_ 2), (0, u "java/lang/String"), (1, .class_ 6), (1, u "java/lang/Object"), (0, u "<init>"), (0, u "()V"), (0, .methodref 1 10), (0, .nameAndType 11 12), (0, u "checkIndex"), (0, u "(II)V"), (1, .class_ 16), (1, u "java/lang/StringLatin1"), (36, u "([BI)C"), (67, u "$assertionsDisabled"), (0, u "Z"), (98, .class_ 223), (1, u "java/lang/StringLatin1$LinesSpliterator"), (28, u "charAt"), (137, .class_ 391), (0, u "java/lang/StringLatin1$CharsSpliterator")] 3

def k10m0 : Method := { name := "<init>", desc := "()V", sig := { parameters := [], returnType := none }, accessFlags := 0, code := none }
def k10c1 : Code := { maxStack := 2, maxLocals := 2, code := jdk_43_method_2_code, exceptionTable := #[], attributes := #[] }
def k10m1 : Method := { name := "charAt", desc := "([BI)C", sig := { parameters := [(.array .byte), .int], returnType := some .char }, accessFlags := 9, code := some k10c1 }
/-- java/lang/StringLatin1 -/
def k10 : Class := { plain "java/lang/StringLatin1" (some 0) with
  accessFlags := 48
  interfaces := #[]
  cf := some (fileOf pool10 14 #[.nestMembers #[390, 221]] #[{ accessFlags := 0, nameIndex := 7, descriptorIndex := 8, attributes := #[] }, { accessFlags := 9, nameIndex := 252, descriptorIndex := 53, attributes := #[] }] 48 4 #[] #[{ accessFlags := 4120, nameIndex := 121, descriptorIndex := 122, attributes := #[] }])
  fields := #[{ name := "$assertionsDisabled", type := .boolean, accessFlags := 4120, slot := 0, constantValue := 0 }]
  methods := #[k10m0, k10m1]
  instanceTypes := #[]
  staticTypes := #[.boolean]
  resolved := Array.replicate 395 none
  statics := none }

def pool11 : Array CpInfo := pool [(2, .class_ 4), (1, u "java/lang/Object"), (0, u "<init>"), (0, u "()V"), (17, .class_ 26), (1, u "jdk/internal/util/Preconditions"), (6, u "checkIndex"), (21, .class_ 56), (0, u "jdk/internal/util/Preconditions$4"), (57, .class_ 115), (0, u "jdk/internal/util/Preconditions$1"), (7, u "SIOOBE_FORMATTER"), (0, u "Ljava/util/function/BiFunction;"), (0, .class_ 126), (0, u "jdk/internal/util/Preconditions$2"), (3, u "AIOOBE_FORMATTER"), (0, .class_ 132), (0, u "jdk/internal/util/Preconditions$3"), (3, u "IOOBE_FORMATTER"), (41, u "(IILjava/util/function/BiFunction;)I")] 15

def k11m0 : Method := { name := "<init>", desc := "()V", sig := { parameters := [], returnType := none }, accessFlags := 1, code := none }
def k11c1 : Code := { maxStack := 3, maxLocals := 3, code := jdk_41_method_11_code, exceptionTable := #[], attributes := #[] }
def k11m1 : Method := { name := "checkIndex", desc := "(IILjava/util/function/BiFunction;)I", sig := { parameters := [.int, .int, (.object "java/util/function/BiFunction")], returnType := some .int }, accessFlags := 9, code := some k11c1 }
/-- jdk/internal/util/Preconditions -/
def k11 : Class := { plain "jdk/internal/util/Preconditions" (some 0) with
  accessFlags := 33
  interfaces := #[]
  cf := some (fileOf pool11 24 #[.nestMembers #[55, 131, 125, 114]] #[{ accessFlags := 1, nameIndex := 5, descriptorIndex := 6, attributes := #[] }, { accessFlags := 9, nameIndex := 33, descriptorIndex := 178, attributes := #[] }] 33 2 #[] #[{ accessFlags := 25, nameIndex := 123, descriptorIndex := 124, attributes := #[] }, { accessFlags := 25, nameIndex := 130, descriptorIndex := 124, attributes := #[] }, { accessFlags := 25, nameIndex := 136, descriptorIndex := 124, attributes := #[] }])
  fields := #[{ name := "SIOOBE_FORMATTER", type := (.object "java/util/function/BiFunction"), accessFlags := 25, slot := 0, constantValue := 0 }, { name := "AIOOBE_FORMATTER", type := (.object "java/util/function/BiFunction"), accessFlags := 25, slot := 1, constantValue := 0 }, { name := "IOOBE_FORMATTER", type := (.object "java/util/function/BiFunction"), accessFlags := 25, slot := 2, constantValue := 0 }]
  methods := #[k11m0, k11m1]
  instanceTypes := #[]
  staticTypes := #[(.object "java/util/function/BiFunction"), (.object "java/util/function/BiFunction"), (.object "java/util/function/BiFunction")]
  resolved := Array.replicate 194 none
  statics := some 2 }

def pool12 : Array CpInfo := pool [(9, u "<init>"), (6, .class_ 18), (1, u "java/lang/Object"), (0, u "()V"), (1, .class_ 23), (1, u "jdk/internal/util/ArraysSupport"), (0, u "LOG2_ARRAY_LONG_INDEX_SCALE"), (0, u "I"), (2, u "U"), (0, u "Ljdk/internal/misc/Unsafe;"), (8, u "BIG_ENDIAN"), (0, u "Z"), (8, u "LOG2_BYTE_BIT_SIZE"), (4, u "LOG2_ARRAY_INT_INDEX_SCALE"), (54, u "JLA"), (0, u "Ljdk/internal/access/JavaLangAccess;"), (11, u "LOG2_ARRAY_BOOLEAN_INDEX_SCALE"), (9, u "LOG2_ARRAY_BYTE_INDEX_SCALE"), (5, u "LOG2_ARRAY_CHAR_INDEX_SCALE"), (5, u "LOG2_ARRAY_SHORT_INDEX_SCALE"), (18, u "LOG2_ARRAY_FLOAT_INDEX_SCALE"), (24, u "LOG2_ARRAY_DOUBLE_INDEX_SCALE"), (89, u "T_BOOLEAN"), (2, u "T_CHAR"), (1, u "T_FLOAT"), (1, u "T_DOUBLE"), (1, u "T_BYTE"), (1, u "T_SHORT"), (1, u "T_INT"), (1, u "T_LONG"), (1, u "SOFT_MAX_ARRAY_LENGTH")] 83

def k12m0 : Method := { name := "<init>", desc := "()V", sig := { parameters := [], returnType := none }, accessFlags := 2, code := none }
/-- jdk/internal/util/ArraysSupport -/
def k12 : Class := { plain "jdk/internal/util/ArraysSupport" (some 0) with
  accessFlags := 33
  interfaces := #[]
  cf := some (fileOf pool12 21 #[] #[{ accessFlags := 2, nameIndex := 9, descriptorIndex := 19, attributes := #[] }] 33 16 #[] #[{ accessFlags := 24, nameIndex := 28, descriptorIndex := 29, attributes := #[] }, { accessFlags := 26, nameIndex := 38, descriptorIndex := 39, attributes := #[] }, { accessFlags := 25, nameIndex := 121, descriptorIndex := 25, attributes := #[] }, { accessFlags := 25, nameIndex := 131, descriptorIndex := 25, attributes := #[] }, { accessFlags := 25, nameIndex := 137, descriptorIndex := 25, attributes := #[] }, { accessFlags := 25, nameIndex := 143, descriptorIndex := 25, attributes := #[] }, { accessFlags := 25, nameIndex := 53, descriptorIndex := 25, attributes := #[] }, { accessFlags := 25, nameIndex := 24, descriptorIndex := 25, attributes := #[] }, { accessFlags := 25, nameIndex := 162, descriptorIndex := 25, attributes := #[] }, { accessFlags := 25, nameIndex := 187, descriptorIndex := 25, attributes := #[] }, { accessFlags := 26, nameIndex := 48, descriptorIndex := 25, attributes := #[] }, { accessFlags := 25, nameIndex := 277, descriptorIndex := 25, attributes := #[] }, { accessFlags := 25, nameIndex := 280, descriptorIndex := 25, attributes := #[] }, { accessFlags := 25, nameIndex := 282, descriptorIndex := 25, attributes := #[] }, { accessFlags := 25, nameIndex := 284, descriptorIndex := 25, attributes := #[] }, { accessFlags := 25, nameIndex := 286, descriptorIndex := 25, attributes := #[] }, { accessFlags := 25, nameIndex := 288, descriptorIndex := 25, attributes := #[] }, { accessFlags := 25, nameIndex := 290, descriptorIndex := 25, attributes := #[] }, { accessFlags := 25, nameIndex := 292, descriptorIndex := 25, attributes := #[] }, { accessFlags := 26, nameIndex := 108, descriptorIndex := 109, attributes := #[] }, { accessFlags := 25, nameIndex := 294, descriptorIndex := 25, attributes := #[] }])
  fields := #[{ name := "U", type := (.object "jdk/internal/misc/Unsafe"), accessFlags := 24, slot := 0, constantValue := 0 }, { name := "BIG_ENDIAN", type := .boolean, accessFlags := 26, slot := 1, constantValue := 0 }, { name := "LOG2_ARRAY_BOOLEAN_INDEX_SCALE", type := .int, accessFlags := 25, slot := 2, constantValue := 0 }, { name := "LOG2_ARRAY_BYTE_INDEX_SCALE", type := .int, accessFlags := 25, slot := 3, constantValue := 0 }, { name := "LOG2_ARRAY_CHAR_INDEX_SCALE", type := .int, accessFlags := 25, slot := 4, constantValue := 0 }, { name := "LOG2_ARRAY_SHORT_INDEX_SCALE", type := .int, accessFlags := 25, slot := 5, constantValue := 0 }, { name := "LOG2_ARRAY_INT_INDEX_SCALE", type := .int, accessFlags := 25, slot := 6, constantValue := 0 }, { name := "LOG2_ARRAY_LONG_INDEX_SCALE", type := .int, accessFlags := 25, slot := 7, constantValue := 0 }, { name := "LOG2_ARRAY_FLOAT_INDEX_SCALE", type := .int, accessFlags := 25, slot := 8, constantValue := 0 }, { name := "LOG2_ARRAY_DOUBLE_INDEX_SCALE", type := .int, accessFlags := 25, slot := 9, constantValue := 0 }, { name := "LOG2_BYTE_BIT_SIZE", type := .int, accessFlags := 26, slot := 10, constantValue := 0 }, { name := "T_BOOLEAN", type := .int, accessFlags := 25, slot := 11, constantValue := 0 }, { name := "T_CHAR", type := .int, accessFlags := 25, slot := 12, constantValue := 0 }, { name := "T_FLOAT", type := .int, accessFlags := 25, slot := 13, constantValue := 0 }, { name := "T_DOUBLE", type := .int, accessFlags := 25, slot := 14, constantValue := 0 }, { name := "T_BYTE", type := .int, accessFlags := 25, slot := 15, constantValue := 0 }, { name := "T_SHORT", type := .int, accessFlags := 25, slot := 16, constantValue := 0 }, { name := "T_INT", type := .int, accessFlags := 25, slot := 17, constantValue := 0 }, { name := "T_LONG", type := .int, accessFlags := 25, slot := 18, constantValue := 0 }, { name := "JLA", type := (.object "jdk/internal/access/JavaLangAccess"), accessFlags := 26, slot := 19, constantValue := 0 }, { name := "SOFT_MAX_ARRAY_LENGTH", type := .int, accessFlags := 25, slot := 20, constantValue := 0 }]
  methods := #[k12m0]
  instanceTypes := #[]
  staticTypes := #[(.object "jdk/internal/misc/Unsafe"), .boolean, .int, .int, .int, .int, .int, .int, .int, .int, .int, .int, .int, .int, .int, .int, .int, .int, .int, (.object "jdk/internal/access/JavaLangAccess"), .int]
  resolved := Array.replicate 378 none
  statics := none }

def pool13 : Array CpInfo := pool [(1, u "java/lang/Cloneable"), (0, .class_ 1), (0, u "java/lang/Object"), (0, .class_ 3)] 3

/-- java/lang/Cloneable -/
def k13 : Class := { plain "java/lang/Cloneable" (some 0) with
  accessFlags := 1537
  interfaces := #[]
  cf := some (fileOf pool13 2 #[] #[] 1537 4 #[] #[])
  fields := #[]
  methods := #[]
  instanceTypes := #[]
  staticTypes := #[]
  resolved := Array.replicate 8 none
  statics := none }

/-- the primitive byte -/
def k14 : Class := { plain "byte" none with kind := .primitive 'B', accessFlags := 0x411 }
/-- [B -/
def k15 : Class := { plain "[B" (some 0) with kind := .array 14 .byte, interfaces := #[13, 2], accessFlags := 1041 }

/-- the primitive char -/
def k16 : Class := { plain "char" none with kind := .primitive 'C', accessFlags := 0x411 }
/-- [C -/
def k17 : Class := { plain "[C" (some 0) with kind := .array 16 .char, interfaces := #[13, 2], accessFlags := 1041 }

/-- the primitive int -/
def k18 : Class := { plain "int" none with kind := .primitive 'I', accessFlags := 0x411 }
/-- [I -/
def k19 : Class := { plain "[I" (some 0) with kind := .array 18 .int, interfaces := #[13, 2], accessFlags := 1041 }

def heap : Heap := #[{ cls := 7, slots := #[.long 0, .int 1, .null, .int 0, .null, .int 0, .int 0], vm := .statics 7 },
  { cls := 8, slots := #[.int 0, .int 8, .int 0, .int 1], vm := .statics 8 },
  { cls := 11, slots := #[.null, .null, .null], vm := .statics 11 }]
def classes : Array Class := #[k0, k1, k2, k3, k4, k5, k6, k7, k8, k9, k10, k11, k12, k13, k14, k15, k16, k17, k18, k19]
def interned : List (Array UInt16 × Addr) := []
def slotsUsed : Nat := 14
def theMethod : MethodId := ⟨1, 4⟩
def args0 : Array Value := #[.int 1, .int 65, .int 66, .int 67, .int 3]
def aboutOver (below : List Frame) : State where
  vm := { classes := classes, interned := interned.toArray }
  heap := heap
  slotsUsed := slotsUsed
  threads := #[{ frames := .invoking theMethod args0 :: below }]
def below0 : List Frame := [.native { method := ⟨0, 0⟩, args := #[] }]
def about1 : State := aboutOver below0
def p0 : Program := .bare "" "" ""
def e0 : Env := launch0.env 0 0 0
theorem w_frames : about1.frames = Frame.invoking theMethod args0 :: below0 := rfl
set_option maxRecDepth 65536 in
theorem w_args : argsFit about1.vm theMethod args0 = true := by decide +kernel
set_option maxRecDepth 65536 in
theorem w_heap : heapFits about1 = true := by decide +kernel
set_option maxRecDepth 65536 in
theorem w_runnable : about1.curStatus? = some .runnable := by decide +kernel
set_option maxRecDepth 65536 in
theorem w_alone : about1.alone = true := by decide +kernel
set_option maxRecDepth 65536 in
theorem w_named : about1.methodNamed? x = some theMethod := by decide +kernel
set_option maxRecDepth 65536 in
theorem w_hears : about1.hears theMethod below0 = true := by decide +kernel
set_option maxRecDepth 65536 in
theorem w_ripe : about1.ripe theMethod args0 below0 = true := by decide +kernel
theorem w_running : about1.status = .running := rfl
set_option maxRecDepth 65536 in
theorem w_room : about1.hasRoom e0.platform room_1 = true :=
  launch0.hasRoom_least _ room_1 (by decide +kernel) (by decide +kernel) (by decide +kernel) (by decide +kernel) (by decide +kernel) (by decide +kernel)
theorem allAtoms_all (ts : List Jvm.Cond) (a : Array Jvm.Value) (st : Jvm.State) : (allAtoms ts).before a st = ts.all (fun c => c.before a st) := by
  induction ts with
  | nil => rfl
  | cons c t ih =>
    show (Jvm.Cond.and c (allAtoms t)).before a st = _
    rw [Jvm.Cond.before_and, ih, List.all_cons]
def words1 : List Jvm.Cond := Jvm.Cond.code x code maxLocals ret :: tables_1
/-- a 'code' word, met by the world's own term for the bytes: nothing is compared byte by byte -/
theorem code_word {y : MethodName} {bytes : ByteArray} {mx : Nat} {rt : Option FieldType} {a : Array Value} {s : State} {m : MethodId} {meth : Method} {c : Code} (h1 : s.methodNamed? y = some m) (h2 : s.vm.method? m = some meth) (h3 : meth.code = some c) (h4 : c.code = bytes)
    (h5 : (c.maxLocals == mx && c.exceptionTable.isEmpty && decide (c.maxStack ≤ mostOperands) && decide (meth.sig.returnType = rt) && !meth.locks && decide (parseMethodDescriptor y.desc = some meth.sig)) = true) : (Jvm.Cond.code y bytes mx rt).before a s = true := by
  simp only [Bool.and_eq_true, beq_iff_eq, Bool.not_eq_true', decide_eq_true_eq] at h5
  obtain ⟨⟨⟨⟨⟨g1, g2⟩, g3⟩, g4⟩, g5⟩, g6⟩ := h5
  simp [Cond.before, Cond.holds, Cond.value, h1, h2, h3, h4, g1, g2, g3, g4, g5, g6]
def isCode : Jvm.Cond → Bool
  | .code _ _ _ _ => true
  | _ => false
theorem all_split {L : List Jvm.Cond} {P : Jvm.Cond → Bool} (h1 : L.all (fun c => isCode c || P c) = true) (h2 : ∀ c ∈ L.filter isCode, P c = true) : L.all P = true := by
  refine List.all_eq_true.mpr fun c hc => ?_
  have h := List.all_eq_true.mp h1 c hc
  rcases Bool.eq_false_or_eq_true (isCode c) with hi | hi
  · exact h2 c (List.mem_filter.mpr ⟨hc, hi⟩)
  · simpa [hi] using h
set_option maxRecDepth 65536 in
theorem w_c0 : (Jvm.Cond.code x code maxLocals ret).before args0 about1 = true := code_word (m := ⟨1, 4⟩) (meth := k1m4) (c := k1c4) (by decide +kernel) rfl rfl rfl (by decide +kernel)
set_option maxRecDepth 65536 in
theorem w_c1 : (Jvm.Cond.code ({ cls := "com/example/panelfix/panelfix/io/AsciiDigitsBetweenPinLaw", name := "ch", desc := "(I)C" } : Jvm.MethodName) method_2_code (1 : Nat) (Option.some Jvm.ClassFile.FieldType.char)).before args0 about1 = true := code_word (m := ⟨1, 1⟩) (meth := k1m1) (c := k1c1) (by decide +kernel) rfl rfl rfl (by decide +kernel)
set_option maxRecDepth 65536 in
theorem w_c2 : (Jvm.Cond.code ({ cls := "java/lang/String", name := "<init>", desc := "([C)V" } : Jvm.MethodName) jdk_42_method_3_code (2 : Nat) (Option.none : Option Jvm.ClassFile.FieldType)).before args0 about1 = true := code_word (m := ⟨7, 1⟩) (meth := k7m1) (c := k7c1) (by decide +kernel) rfl rfl rfl (by decide +kernel)
set_option maxRecDepth 65536 in
theorem w_c3 : (Jvm.Cond.code ({ cls := "java/lang/String", name := "<init>", desc := "([CIILjava/lang/Void;)V" } : Jvm.MethodName) jdk_42_method_149_code (6 : Nat) (Option.none : Option Jvm.ClassFile.FieldType)).before args0 about1 = true := code_word (m := ⟨7, 3⟩) (meth := k7m3) (c := k7c3) (by decide +kernel) rfl rfl rfl (by decide +kernel)
set_option maxRecDepth 65536 in
theorem w_c4 : (Jvm.Cond.code ({ cls := "java/lang/Object", name := "<init>", desc := "()V" } : Jvm.MethodName) object_method_1_code (1 : Nat) (Option.none : Option Jvm.ClassFile.FieldType)).before args0 about1 = true := code_word (m := ⟨0, 0⟩) (meth := k0m0) (c := k0c0) (by decide +kernel) rfl rfl rfl (by decide +kernel)
set_option maxRecDepth 65536 in
theorem w_c5 : (Jvm.Cond.code ({ cls := "java/lang/StringUTF16", name := "compress", desc := "([CII)[B" } : Jvm.MethodName) jdk_52_method_16_code (6 : Nat) (Option.some (Jvm.ClassFile.FieldType.array Jvm.ClassFile.FieldType.byte))).before args0 about1 = true := code_word (m := ⟨8, 8⟩) (meth := k8m8) (c := k8c8) (by decide +kernel) rfl rfl rfl (by decide +kernel)
set_option maxRecDepth 65536 in
theorem w_c6 : (Jvm.Cond.code ({ cls := "java/lang/StringUTF16", name := "compress", desc := "([CI[BII)I" } : Jvm.MethodName) jdk_52_method_21_code (7 : Nat) (Option.some Jvm.ClassFile.FieldType.int)).before args0 about1 = true := code_word (m := ⟨8, 9⟩) (meth := k8m9) (c := k8c9) (by decide +kernel) rfl rfl rfl (by decide +kernel)
set_option maxRecDepth 65536 in
theorem w_c7 : (Jvm.Cond.code ({ cls := "java/lang/StringUTF16", name := "coderFromArrayLen", desc := "([BI)B" } : Jvm.MethodName) jdk_52_method_15_code (2 : Nat) (Option.some Jvm.ClassFile.FieldType.byte)).before args0 about1 = true := code_word (m := ⟨8, 7⟩) (meth := k8m7) (c := k8c7) (by decide +kernel) rfl rfl rfl (by decide +kernel)
set_option maxRecDepth 65536 in
theorem w_c8 : (Jvm.Cond.code ({ cls := "com/example/panelfix/panelfix/io/AsciiDigitsBetweenPinLaw", name := "badAt", desc := "(ICII)Z" } : Jvm.MethodName) method_4_code (4 : Nat) (Option.some Jvm.ClassFile.FieldType.boolean)).before args0 about1 = true := code_word (m := ⟨1, 3⟩) (meth := k1m3) (c := k1c3) (by decide +kernel) rfl rfl rfl (by decide +kernel)
set_option maxRecDepth 65536 in
theorem w_c9 : (Jvm.Cond.code ({ cls := "com/example/panelfix/panelfix/io/AsciiDigits", name := "between", desc := "(Ljava/lang/String;II)Z" } : Jvm.MethodName) prog_1_method_2_code (5 : Nat) (Option.some Jvm.ClassFile.FieldType.boolean)).before args0 about1 = true := code_word (m := ⟨9, 1⟩) (meth := k9m1) (c := k9c1) (by decide +kernel) rfl rfl rfl (by decide +kernel)
set_option maxRecDepth 65536 in
theorem w_c10 : (Jvm.Cond.code ({ cls := "com/example/panelfix/panelfix/io/AsciiDigitsBetweenPinLaw", name := "digit", desc := "(C)Z" } : Jvm.MethodName) method_3_code (1 : Nat) (Option.some Jvm.ClassFile.FieldType.boolean)).before args0 about1 = true := code_word (m := ⟨1, 2⟩) (meth := k1m2) (c := k1c2) (by decide +kernel) rfl rfl rfl (by decide +kernel)
set_option maxRecDepth 65536 in
theorem w_c11 : (Jvm.Cond.code ({ cls := "java/lang/String", name := "charAt", desc := "(I)C" } : Jvm.MethodName) jdk_42_method_56_code (2 : Nat) (Option.some Jvm.ClassFile.FieldType.char)).before args0 about1 = true := code_word (m := ⟨7, 2⟩) (meth := k7m2) (c := k7c2) (by decide +kernel) rfl rfl rfl (by decide +kernel)
set_option maxRecDepth 65536 in
theorem w_c12 : (Jvm.Cond.code ({ cls := "java/lang/String", name := "isLatin1", desc := "()Z" } : Jvm.MethodName) jdk_42_method_154_code (1 : Nat) (Option.some Jvm.ClassFile.FieldType.boolean)).before args0 about1 = true := code_word (m := ⟨7, 4⟩) (meth := k7m4) (c := k7c4) (by decide +kernel) rfl rfl rfl (by decide +kernel)
set_option maxRecDepth 65536 in
theorem w_c13 : (Jvm.Cond.code ({ cls := "java/lang/StringLatin1", name := "charAt", desc := "([BI)C" } : Jvm.MethodName) jdk_43_method_2_code (2 : Nat) (Option.some Jvm.ClassFile.FieldType.char)).before args0 about1 = true := code_word (m := ⟨10, 1⟩) (meth := k10m1) (c := k10c1) (by decide +kernel) rfl rfl rfl (by decide +kernel)
set_option maxRecDepth 65536 in
theorem w_c14 : (Jvm.Cond.code ({ cls := "java/lang/String", name := "checkIndex", desc := "(II)V" } : Jvm.MethodName) jdk_42_method_155_code (2 : Nat) (Option.none : Option Jvm.ClassFile.FieldType)).before args0 about1 = true := code_word (m := ⟨7, 5⟩) (meth := k7m5) (c := k7c5) (by decide +kernel) rfl rfl rfl (by decide +kernel)
set_option maxRecDepth 65536 in
theorem w_c15 : (Jvm.Cond.code ({ cls := "jdk/internal/util/Preconditions", name := "checkIndex", desc := "(IILjava/util/function/BiFunction;)I" } : Jvm.MethodName) jdk_41_method_11_code (3 : Nat) (Option.some Jvm.ClassFile.FieldType.int)).before args0 about1 = true := code_word (m := ⟨11, 1⟩) (meth := k11m1) (c := k11c1) (by decide +kernel) rfl rfl rfl (by decide +kernel)
set_option maxRecDepth 65536 in
theorem w_c16 : (Jvm.Cond.code ({ cls := "java/lang/StringUTF16", name := "toBytes", desc := "([CII)[B" } : Jvm.MethodName) jdk_52_method_14_code (5 : Nat) (Option.some (Jvm.ClassFile.FieldType.array Jvm.ClassFile.FieldType.byte))).before args0 about1 = true := code_word (m := ⟨8, 6⟩) (meth := k8m6) (c := k8c6) (by decide +kernel) rfl rfl rfl (by decide +kernel)
set_option maxRecDepth 65536 in
theorem w_c17 : (Jvm.Cond.code ({ cls := "java/lang/StringUTF16", name := "newBytesFor", desc := "(I)[B" } : Jvm.MethodName) jdk_52_method_2_code (1 : Nat) (Option.some (Jvm.ClassFile.FieldType.array Jvm.ClassFile.FieldType.byte))).before args0 about1 = true := code_word (m := ⟨8, 1⟩) (meth := k8m1) (c := k8c1) (by decide +kernel) rfl rfl rfl (by decide +kernel)
set_option maxRecDepth 65536 in
theorem w_c18 : (Jvm.Cond.code ({ cls := "java/lang/StringUTF16", name := "newBytesLength", desc := "(I)I" } : Jvm.MethodName) jdk_52_method_3_code (1 : Nat) (Option.some Jvm.ClassFile.FieldType.int)).before args0 about1 = true := code_word (m := ⟨8, 2⟩) (meth := k8m2) (c := k8c2) (by decide +kernel) rfl rfl rfl (by decide +kernel)
set_option maxRecDepth 65536 in
theorem w_c19 : (Jvm.Cond.code ({ cls := "java/lang/StringUTF16", name := "putChar", desc := "([BII)V" } : Jvm.MethodName) jdk_52_method_4_code (3 : Nat) (Option.none : Option Jvm.ClassFile.FieldType)).before args0 about1 = true := code_word (m := ⟨8, 3⟩) (meth := k8m3) (c := k8c3) (by decide +kernel) rfl rfl rfl (by decide +kernel)
set_option maxRecDepth 65536 in
theorem w_c20 : (Jvm.Cond.code ({ cls := "java/lang/StringUTF16", name := "getChar", desc := "([BI)C" } : Jvm.MethodName) jdk_52_method_5_code (2 : Nat) (Option.some Jvm.ClassFile.FieldType.char)).before args0 about1 = true := code_word (m := ⟨8, 4⟩) (meth := k8m4) (c := k8c4) (by decide +kernel) rfl rfl rfl (by decide +kernel)
set_option maxRecDepth 65536 in
theorem w_c21 : (Jvm.Cond.code ({ cls := "java/lang/StringUTF16", name := "charAt", desc := "([BI)C" } : Jvm.MethodName) jdk_52_method_83_code (2 : Nat) (Option.some Jvm.ClassFile.FieldType.char)).before args0 about1 = true := code_word (m := ⟨8, 10⟩) (meth := k8m10) (c := k8c10) (by decide +kernel) rfl rfl rfl (by decide +kernel)
set_option maxRecDepth 65536 in
theorem w_c22 : (Jvm.Cond.code ({ cls := "java/lang/StringUTF16", name := "checkIndex", desc := "(I[B)V" } : Jvm.MethodName) jdk_52_method_91_code (2 : Nat) (Option.none : Option Jvm.ClassFile.FieldType)).before args0 about1 = true := code_word (m := ⟨8, 11⟩) (meth := k8m11) (c := k8c11) (by decide +kernel) rfl rfl rfl (by decide +kernel)
set_option maxRecDepth 65536 in
theorem w_c23 : (Jvm.Cond.code ({ cls := "java/lang/StringUTF16", name := "length", desc := "([B)I" } : Jvm.MethodName) jdk_52_method_6_code (1 : Nat) (Option.some Jvm.ClassFile.FieldType.int)).before args0 about1 = true := code_word (m := ⟨8, 5⟩) (meth := k8m5) (c := k8c5) (by decide +kernel) rfl rfl rfl (by decide +kernel)
def codes1 : List Jvm.Cond := [Jvm.Cond.code x code maxLocals ret, Jvm.Cond.code ({ cls := "com/example/panelfix/panelfix/io/AsciiDigitsBetweenPinLaw", name := "ch", desc := "(I)C" } : Jvm.MethodName) method_2_code (1 : Nat) (Option.some Jvm.ClassFile.FieldType.char), Jvm.Cond.code ({ cls := "java/lang/String", name := "<init>", desc := "([C)V" } : Jvm.MethodName) jdk_42_method_3_code (2 : Nat) (Option.none : Option Jvm.ClassFile.FieldType), Jvm.Cond.code ({ cls := "java/lang/String", name := "<init>", desc := "([CIILjava/lang/Void;)V" } : Jvm.MethodName) jdk_42_method_149_code (6 : Nat) (Option.none : Option Jvm.ClassFile.FieldType), Jvm.Cond.code ({ cls := "java/lang/Object", name := "<init>", desc := "()V" } : Jvm.MethodName) object_method_1_code (1 : Nat) (Option.none : Option Jvm.ClassFile.FieldType), Jvm.Cond.code ({ cls := "java/lang/StringUTF16", name := "compress", desc := "([CII)[B" } : Jvm.MethodName) jdk_52_method_16_code (6 : Nat) (Option.some (Jvm.ClassFile.FieldType.array Jvm.ClassFile.FieldType.byte)), Jvm.Cond.code ({ cls := "java/lang/StringUTF16", name := "compress", desc := "([CI[BII)I" } : Jvm.MethodName) jdk_52_method_21_code (7 : Nat) (Option.some Jvm.ClassFile.FieldType.int), Jvm.Cond.code ({ cls := "java/lang/StringUTF16", name := "coderFromArrayLen", desc := "([BI)B" } : Jvm.MethodName) jdk_52_method_15_code (2 : Nat) (Option.some Jvm.ClassFile.FieldType.byte), Jvm.Cond.code ({ cls := "com/example/panelfix/panelfix/io/AsciiDigitsBetweenPinLaw", name := "badAt", desc := "(ICII)Z" } : Jvm.MethodName) method_4_code (4 : Nat) (Option.some Jvm.ClassFile.FieldType.boolean), Jvm.Cond.code ({ cls := "com/example/panelfix/panelfix/io/AsciiDigits", name := "between", desc := "(Ljava/lang/String;II)Z" } : Jvm.MethodName) prog_1_method_2_code (5 : Nat) (Option.some Jvm.ClassFile.FieldType.boolean), Jvm.Cond.code ({ cls := "com/example/panelfix/panelfix/io/AsciiDigitsBetweenPinLaw", name := "digit", desc := "(C)Z" } : Jvm.MethodName) method_3_code (1 : Nat) (Option.some Jvm.ClassFile.FieldType.boolean), Jvm.Cond.code ({ cls := "java/lang/String", name := "charAt", desc := "(I)C" } : Jvm.MethodName) jdk_42_method_56_code (2 : Nat) (Option.some Jvm.ClassFile.FieldType.char), Jvm.Cond.code ({ cls := "java/lang/String", name := "isLatin1", desc := "()Z" } : Jvm.MethodName) jdk_42_method_154_code (1 : Nat) (Option.some Jvm.ClassFile.FieldType.boolean), Jvm.Cond.code ({ cls := "java/lang/StringLatin1", name := "charAt", desc := "([BI)C" } : Jvm.MethodName) jdk_43_method_2_code (2 : Nat) (Option.some Jvm.ClassFile.FieldType.char), Jvm.Cond.code ({ cls := "java/lang/String", name := "checkIndex", desc := "(II)V" } : Jvm.MethodName) jdk_42_method_155_code (2 : Nat) (Option.none : Option Jvm.ClassFile.FieldType), Jvm.Cond.code ({ cls := "jdk/internal/util/Preconditions", name := "checkIndex", desc := "(IILjava/util/function/BiFunction;)I" } : Jvm.MethodName) jdk_41_method_11_code (3 : Nat) (Option.some Jvm.ClassFile.FieldType.int), Jvm.Cond.code ({ cls := "java/lang/StringUTF16", name := "toBytes", desc := "([CII)[B" } : Jvm.MethodName) jdk_52_method_14_code (5 : Nat) (Option.some (Jvm.ClassFile.FieldType.array Jvm.ClassFile.FieldType.byte)), Jvm.Cond.code ({ cls := "java/lang/StringUTF16", name := "newBytesFor", desc := "(I)[B" } : Jvm.MethodName) jdk_52_method_2_code (1 : Nat) (Option.some (Jvm.ClassFile.FieldType.array Jvm.ClassFile.FieldType.byte)), Jvm.Cond.code ({ cls := "java/lang/StringUTF16", name := "newBytesLength", desc := "(I)I" } : Jvm.MethodName) jdk_52_method_3_code (1 : Nat) (Option.some Jvm.ClassFile.FieldType.int), Jvm.Cond.code ({ cls := "java/lang/StringUTF16", name := "putChar", desc := "([BII)V" } : Jvm.MethodName) jdk_52_method_4_code (3 : Nat) (Option.none : Option Jvm.ClassFile.FieldType), Jvm.Cond.code ({ cls := "java/lang/StringUTF16", name := "getChar", desc := "([BI)C" } : Jvm.MethodName) jdk_52_method_5_code (2 : Nat) (Option.some Jvm.ClassFile.FieldType.char), Jvm.Cond.code ({ cls := "java/lang/StringUTF16", name := "charAt", desc := "([BI)C" } : Jvm.MethodName) jdk_52_method_83_code (2 : Nat) (Option.some Jvm.ClassFile.FieldType.char), Jvm.Cond.code ({ cls := "java/lang/StringUTF16", name := "checkIndex", desc := "(I[B)V" } : Jvm.MethodName) jdk_52_method_91_code (2 : Nat) (Option.none : Option Jvm.ClassFile.FieldType), Jvm.Cond.code ({ cls := "java/lang/StringUTF16", name := "length", desc := "([B)I" } : Jvm.MethodName) jdk_52_method_6_code (1 : Nat) (Option.some Jvm.ClassFile.FieldType.int)]
set_option maxRecDepth 65536 in
theorem codes_eq : words1.filter isCode = codes1 := rfl
theorem w_codes : ∀ c ∈ words1.filter isCode, c.before args0 about1 = true := by
  rw [codes_eq]
  intro c hc
  simp only [codes1, List.mem_cons, List.not_mem_nil, or_false] at hc
  rcases hc with rfl | rfl | rfl | rfl | rfl | rfl | rfl | rfl | rfl | rfl | rfl | rfl | rfl | rfl | rfl | rfl | rfl | rfl | rfl | rfl | rfl | rfl | rfl | rfl
  · exact w_c0
  · exact w_c1
  · exact w_c2
  · exact w_c3
  · exact w_c4
  · exact w_c5
  · exact w_c6
  · exact w_c7
  · exact w_c8
  · exact w_c9
  · exact w_c10
  · exact w_c11
  · exact w_c12
  · exact w_c13
  · exact w_c14
  · exact w_c15
  · exact w_c16
  · exact w_c17
  · exact w_c18
  · exact w_c19
  · exact w_c20
  · exact w_c21
  · exact w_c22
  · exact w_c23
set_option maxRecDepth 65536 in
theorem w_t1 : (words1.take 24).all (fun c => isCode c || c.before args0 about1) = true := by decide +kernel
set_option maxRecDepth 65536 in
theorem w_t2 : ((words1.drop 24).take 24).all (fun c => isCode c || c.before args0 about1) = true := by decide +kernel
set_option maxRecDepth 65536 in
theorem w_t3 : (((words1.drop 24).drop 24).take 24).all (fun c => isCode c || c.before args0 about1) = true := by decide +kernel
set_option maxRecDepth 65536 in
theorem w_t4 : ((((words1.drop 24).drop 24).drop 24).take 24).all (fun c => isCode c || c.before args0 about1) = true := by decide +kernel
set_option maxRecDepth 65536 in
theorem w_t5 : ((((words1.drop 24).drop 24).drop 24).drop 24).all (fun c => isCode c || c.before args0 about1) = true := by decide +kernel
theorem w_tables : (allAtoms (Jvm.Cond.code x code maxLocals ret :: tables_1)).before args0 about1 = true := by
  rw [allAtoms_all]
  show words1.all (fun c => c.before args0 about1) = true
  refine all_split ?_ w_codes
  rw [← List.take_append_drop 24 words1, List.all_append, w_t1, ← List.take_append_drop 24 (words1.drop 24), List.all_append, w_t2, ← List.take_append_drop 24 ((words1.drop 24).drop 24), List.all_append, w_t3, ← List.take_append_drop 24 (((words1.drop 24).drop 24).drop 24), List.all_append, w_t4, w_t5]
  rfl
set_option maxRecDepth 65536 in
theorem w_rest : rest_1_c.before args0 about1 = true := by decide +kernel
set_option maxRecDepth 65536 in
theorem w_case : (Jvm.Cond.and given_1 narrow_1).before args0 about1 = true := by decide +kernel
theorem w_applies : (headSpec (Jvm.Cond.code x code maxLocals ret :: tables_1) room_1).applies x e0.platform about1 = true :=
  (Spec.applies_iff w_frames).mpr ⟨w_running, w_runnable, w_alone, w_named, w_hears, w_ripe, w_room, w_tables⟩
theorem atStart : AtStart classFile x code maxLocals ret World_1 tables_1 room_1 Calls_1 rest_1 Pre_1 launch0 p0 e0 about1 theMethod args0 below0 :=
  ⟨lists_1, trivial, launch0.admits_env _ _ _, launch0.least_env, fairChoices_fair.cas, fairChoices_fair.clock, w_frames, w_args, w_heap, w_applies, trivial, w_rest, w_case⟩
end start1
theorem witness_1 : WitnessClaimed_1 := ⟨start1.p0, start1.e0, start1.about1, start1.theMethod, start1.args0, start1.below0, start1.atStart⟩
end Jvm.Pilot.@@N@@
