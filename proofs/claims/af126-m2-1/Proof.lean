import JvmDerived
import JvmDerived.Pilot.@@N@@Statement
import JvmDerived.Pilot.@@N@@Code
set_option linter.unusedVariables false
set_option linter.unusedSimpArgs false
namespace Jvm.Pilot.@@N@@
open Jvm Jvm.ClassFile Sem Op Lib Jvm.Free Jvm.Stand Jvm.LawKit Jvm.RoadKit Bundle Jvm.Pilot.@@N@@.Jvm.D
section Own
variable {p : Program} {l : Launch} {e : Env} {R : Room} {s : State} {m : MethodId} {args : Array Value} {below : List Frame} {meth : Method} {c : Code} {T : State} {locs : List Loc} {cells slots : Nat} {Z : State} {a0 : Array Value} {h : Heap}
/-- from the state S the body ends well: it returns v, leaves the heap and the written places as Q says, within kc cells and ks slots -/
def Run (p : Program) (e : Env) (below : List Frame) (s : State) (Q : Option Value → Heap → List Loc → Prop) (kc ks : Nat) (S : State) : Prop := ∃ s₂ o, Steps p.tables e below S s₂ ∧ s₂.status = .running ∧ Ended s₂ below o ∧ ∃ v L, o = .returned v ∧ Q v s₂.heap L ∧ FrameEnd s o s₂ L kc ks
variable {Q : Option Value → Heap → List Loc → Prop} {kc ks : Nat}
theorem Run.pre {S S' : State} (h : ∀ t, Steps p.tables e below S' t → Steps p.tables e below S t) (k : Run p e below s Q kc ks S') : Run p e below s Q kc ks S := by
  obtain ⟨s₂, o, h1, r⟩ := k; exact ⟨s₂, o, h _ h1, r⟩
theorem Run.out (X : Stand p l e R s m args below meth c T locs cells slots) (hx : p.tables.exec = Jvm.exec) {pc : Nat} {Ls : Array Slot} {w : Value} {t : FieldType} {i : Instr} {rest : List Value} (hret : meth.sig.returnType = some t) (hn : narrow t w = w)
    (hi : (i = .ireturn ∧ (t = .int ∨ t = .boolean ∨ t = .byte ∨ t = .char ∨ t = .short) ∧ ∃ z, w = .int z) ∨ (i = .lreturn ∧ t = .long ∧ ∃ z, w = .long z) ∨ (i = .dreturn ∧ t = .double ∧ ∃ z, w = .double z) ∨ (i = .freturn ∧ t = .float ∧ ∃ z, w = .float z) ∨ (i = .areturn ∧ t.isReference = true ∧ w.isRef = true))
    (hlk : meth.locks = false) (hd : decode c.code pc = .ok (i, 1)) (hq : Q (some w) T.heap locs) (hc : cells ≤ kc) (hs : slots ≤ ks) : Run p e below s Q kc ks (T.setTop (mkF m pc Ls (w :: rest))) := by
  obtain ⟨fs, hr, hrun, hended, hW, hsame⟩ := X.leave (v := some w) (fun h => by rw [hret] at h; cases h) hlk
  exact ⟨_, _, retOut X hx hret hn hi hd hr, hrun, hended, _, _, rfl, hq, ⟨_, rfl⟩, hW, hsame.mono hc hs⟩
theorem Run.retN (X : Stand p l e R s m args below meth c T locs cells slots) (hx : p.tables.exec = Jvm.exec) {pc : Nat} {Ls : Array Slot} {z : Int32} {t : FieldType} {rest : List Value} (hret : meth.sig.returnType = some t) (ht : t = .boolean ∨ t = .byte ∨ t = .char ∨ t = .short) (hlk : meth.locks = false)
    (hd : decode c.code pc = .ok (.ireturn, 1)) (hq : Q (some (.int (nar t z))) T.heap locs) (hc : cells ≤ kc) (hs : slots ≤ ks) : Run p e below s Q kc ks (T.setTop (mkF m pc Ls (.int z :: rest))) := by
  obtain ⟨fs, hr, hrun, hended, hW, hsame⟩ := X.leave (v := some (.int (nar t z))) (fun h => by rw [hret] at h; cases h) hlk
  exact ⟨_, _, Jvm.RoadKit.retN X hx hret ht hd hr, hrun, hended, _, _, rfl, hq, ⟨_, rfl⟩, hW, hsame.mono hc hs⟩
theorem Run.retI (X : Stand p l e R s m args below meth c T locs cells slots) (hx : p.tables.exec = Jvm.exec) {pc : Nat} {Ls : Array Slot} {z : Int32} {rest : List Value} (hret : meth.sig.returnType = some .int) (hlk : meth.locks = false)
    (hd : decode c.code pc = .ok (.ireturn, 1)) (hq : Q (some (.int z)) T.heap locs) (hc : cells ≤ kc) (hs : slots ≤ ks) : Run p e below s Q kc ks (T.setTop (mkF m pc Ls (.int z :: rest))) := Run.out X hx hret rfl (Or.inl ⟨rfl, Or.inl rfl, z, rfl⟩) hlk hd hq hc hs
theorem Run.retJ (X : Stand p l e R s m args below meth c T locs cells slots) (hx : p.tables.exec = Jvm.exec) {pc : Nat} {Ls : Array Slot} {z : Int64} {rest : List Value} (hret : meth.sig.returnType = some .long) (hlk : meth.locks = false)
    (hd : decode c.code pc = .ok (.lreturn, 1)) (hq : Q (some (.long z)) T.heap locs) (hc : cells ≤ kc) (hs : slots ≤ ks) : Run p e below s Q kc ks (T.setTop (mkF m pc Ls (.long z :: rest))) := Run.out X hx hret rfl (Or.inr (Or.inl ⟨rfl, rfl, z, rfl⟩)) hlk hd hq hc hs
theorem Run.retA (X : Stand p l e R s m args below meth c T locs cells slots) (hx : p.tables.exec = Jvm.exec) {pc : Nat} {Ls : Array Slot} {w : Value} {t : FieldType} {rest : List Value} (hret : meth.sig.returnType = some t) (ht : t.isReference = true) (hw : w.isRef = true) (hlk : meth.locks = false)
    (hd : decode c.code pc = .ok (.areturn, 1)) (hq : Q (some w) T.heap locs) (hc : cells ≤ kc) (hs : slots ≤ ks) : Run p e below s Q kc ks (T.setTop (mkF m pc Ls (w :: rest))) := Run.out X hx hret (by cases t <;> cases w <;> simp_all [FieldType.isReference, Value.isRef, narrow]) (Or.inr (Or.inr (Or.inr (Or.inr ⟨rfl, ht, hw⟩)))) hlk hd hq hc hs
theorem Run.retV (X : Stand p l e R s m args below meth c T locs cells slots) (hx : p.tables.exec = Jvm.exec) {pc : Nat} {Ls : Array Slot} (hret : meth.sig.returnType = none) (hlk : meth.locks = false)
    (hd : decode c.code pc = .ok (.return_, 1)) (hq : Q none T.heap locs) (hc : cells ≤ kc) (hs : slots ≤ ks) : Run p e below s Q kc ks (T.setTop (mkF m pc Ls [])) := by
  obtain ⟨fs, hr, hrun, hended, hW, hsame⟩ := X.leave (v := none) (fun _ => rfl) hlk
  exact ⟨_, _, X.returnOut hx hret hd hr, hrun, hended, _, _, rfl, hq, ⟨_, rfl⟩, hW, hsame.mono hc hs⟩
/-- a body's contract, at the heap h0 and the arguments as' -/
def Con (l : Launch) (y : MethodName) (bytes : ByteArray) (maxL : Nat) (ret : Option FieldType) (rm : Room) (Z : State) (as' : Array Value) (h0 : Heap) (Q : Option Value → Heap → List Loc → Prop) : Prop :=
  ∀ ws, MetFree l y (head1 (Jvm.Cond.code y bytes maxL ret :: ws) rm) (fun a U => a = as' ∧ Z.Warmed39 U.vm ∧ U.heap = h0) (fun _ _ _ _ _ => True) (fun _ U o U' => ∃ v L, o = .returned v ∧ Q v U'.heap L ∧ FrameEnd U o U' L rm.cells rm.slots)
theorem Con.mk {y : MethodName} {bytes : ByteArray} {maxL : Nat} {ret : Option FieldType} {rm : Room} {as' : Array Value} {h0 : Heap} {F : MethodId → JFrame} (hpl : plainFor y = true) (hef : ∀ m, entryFrame m as' maxL = F m)
    (body : ∀ (p : Program) (e : Env) (s : State) (m : MethodId) (below : List Frame) (meth : Method) (c : Code) (s₁ : State), p.tables.exec = Jvm.exec → c.code = bytes → c.maxLocals = maxL → s.vm.findClass y.cls = some m.cls → meth.name = y.name → meth.sig.returnType = ret → meth.locks = false → Z.Warmed39 s.vm →
      Stand p l e rm s m as' below meth c s₁ [] 0 0 → s₁.heap = h0 → Run p e below s Q rm.cells rm.slots (s₁.setTop (F m))) : Con l y bytes maxL ret rm Z as' h0 Q := by
  intro ws
  refine MetFree.of_bodySF hpl hisR ?_
  intro p e s m args below meth c s₁ Bd hml0 hP hK
  obtain ⟨rfl, hZ, hh⟩ := hP
  have k := body p e s m below meth c s₁ Bd.exec Bd.bytes hml0 (findClass_of_methodNamed Bd.named) (name_of_methodNamed Bd.named Bd.method).1 Bd.returns Bd.notSynchronized hZ (Stand.of_body Bd) (by rw [← hh, Bd.state]; rfl)
  rw [← hef m] at k
  exact k
theorem Con.back {y : MethodName} {bytes : ByteArray} {maxL : Nat} {ret : Option FieldType} {rm : Room} {len W : Nat} {as' : Array Value} (hM : Con l y bytes maxL ret rm Z as' h Q) (hZ : Z.Warmed39 s.vm) (wc : (Jvm.Cond.code y bytes maxL ret).before a0 Z = true) (wz : (Jvm.Cond.initialized y.cls).before a0 Z = true) (hf : rm.frames + 1 ≤ R.frames) (hl : W + (maxL + 11) + rm.locals ≤ R.locals) :
    Back l R p e below s args y len W (fun A a => a = as' ∧ A.U.heap = h ∧ A.cells + rm.cells ≤ R.cells ∧ A.slots + rm.slots ≤ R.slots) (fun A _ v B => ∃ L, Q v B.U.heap L ∧ B.locs = A.locs ++ L ∧ B.cells = A.cells + rm.cells ∧ B.slots = A.slots + rm.slots) :=
  backOf (hM []) hZ wc wz hf hl
section Calls
variable {y : MethodName} {bytes : ByteArray} {maxL : Nat} {rt : Option FieldType} {rm : Room} {W : Nat} {own : String} {index : Nat} {Qc : Option Value → Heap → List Loc → Prop} {g : JFrame} {argsL rest : List Value} {as' : Array Value}
theorem Run.callS (X : Stand p l e R s m args below meth c T locs cells slots) (hx : p.tables.exec = Jvm.exec) (hZ : Z.Warmed39 s.vm) (hown : s.vm.findClass own = some m.cls) (w1 : (Jvm.Cond.methodLink own index y).before a0 Z = true) (w2 : (Jvm.Cond.static y).before a0 Z = true) (w3 : (Jvm.Cond.initialized y.cls).before a0 Z = true) (w4 : (Jvm.Cond.code y bytes maxL rt).before a0 Z = true)
    (hy : y.cls ≠ "java/lang/invoke/MethodHandle" ∧ y.cls ≠ "java/lang/invoke/VarHandle") (hM : Con l y bytes maxL rt rm Z argsL.toArray h Qc) (eT : T.heap = h) (hfr : rm.frames + 1 ≤ R.frames) (hlo : W + (maxL + 11) + rm.locals ≤ R.locals) (hce : cells + rm.cells ≤ R.cells) (hsl : slots + rm.slots ≤ R.slots)
    (hg : g.method = m) (hsize : g.locals.size = c.maxLocals) (hlen : ∀ sig, parseMethodDescriptor y.desc = some sig → argsL.length = sig.parameters.length) (hstack : g.stack = argsL.reverse ++ rest) (hW : 2 * g.monitorRoom + (rest.map fun v => v.category).sum ≤ W) (hdg : decode c.code g.pc = .ok (.invokestatic index, 3))
    (k : ∀ v T' L, Stand p l e R s m args below meth c T' (locs ++ L) (cells + rm.cells) (slots + rm.slots) → Qc v T'.heap L → Run p e below s Q kc ks (T'.setTop { g with pc := g.pc + 3, stack := v.toList ++ rest })) : Run p e below s Q kc ks (T.setTop g) := by
  obtain ⟨v, vm₁, ⟨T', L', c', n'⟩, -, X', ⟨L, hQ, l1, l2, l3⟩, st⟩ := Jvm.LawKit.callS X hx hown (mvT hZ w1) (mvT hZ w2) (mvT hZ w3) (mvT hZ w4) hy (hM.back (W := W) hZ w4 w3 hfr hlo) hg hsize hlen hstack hW hdg (fun _ _ => ⟨rfl, eT, hce, hsl⟩)
  dsimp only [Pt.U, Pt.locs, Pt.cells, Pt.slots] at X' l1 l2 l3 st hQ
  subst l1 l2 l3
  exact Run.pre st (k v T' L X' hQ)
theorem Run.callI (X : Stand p l e R s m args below meth c T locs cells slots) (hx : p.tables.exec = Jvm.exec) (hZ : Z.Warmed39 s.vm) (hy1 : y.name = "<init>") (hown : s.vm.findClass own = some m.cls) (w1 : (Jvm.Cond.methodLink own index y).before a0 Z = true) (w2 : (Jvm.Cond.instanceMethod y).before a0 Z = true) (w4 : (Jvm.Cond.code y bytes maxL none).before a0 Z = true) (w3 : (Jvm.Cond.initialized y.cls).before a0 Z = true)
    (hy : y.cls ≠ "java/lang/invoke/MethodHandle" ∧ y.cls ≠ "java/lang/invoke/VarHandle") {a : Addr} (hM : Con l y bytes maxL none rm Z (.ref a :: argsL).toArray h Qc) (eT : T.heap = h) (hfr : rm.frames + 1 ≤ R.frames) (hlo : W + (maxL + 11) + rm.locals ≤ R.locals) (hce : cells + rm.cells ≤ R.cells) (hsl : slots + rm.slots ≤ R.slots)
    (hg : g.method = m) (hsize : g.locals.size = c.maxLocals) (hlen : ∀ sig, parseMethodDescriptor y.desc = some sig → argsL.length = sig.parameters.length) (hstack : g.stack = argsL.reverse ++ .ref a :: rest) (hW : 2 * g.monitorRoom + (rest.map fun v => v.category).sum ≤ W) (hdg : decode c.code g.pc = .ok (.invokespecial index, 3))
    (k : ∀ v T' L, Stand p l e R s m args below meth c T' (locs ++ L) (cells + rm.cells) (slots + rm.slots) → Qc v T'.heap L → Run p e below s Q kc ks (T'.setTop { g with pc := g.pc + 3, stack := v.toList ++ rest })) : Run p e below s Q kc ks (T.setTop g) := by
  obtain ⟨v, vm₁, ⟨T', L', c', n'⟩, -, X', ⟨L, hQ, l1, l2, l3⟩, st⟩ := X.specialBack hx hy1 hown (mvT hZ w1) (mvT hZ w2) (mvT hZ w4) hy (hM.back (W := W) hZ w4 w3 hfr hlo) hg hsize (Steps.refl _) hlen hstack hW hdg (fun _ _ => ⟨rfl, eT, hce, hsl⟩)
  dsimp only [Pt.U, Pt.locs, Pt.cells, Pt.slots] at X' l1 l2 l3 st hQ
  subst l1 l2 l3
  exact Run.pre (fun _ q => st.trans q) (k v T' L X' hQ)
theorem Run.callP (X : Stand p l e R s m args below meth c T locs cells slots) (hx : p.tables.exec = Jvm.exec) (hZ : Z.Warmed39 s.vm) (hown : s.vm.findClass own = some m.cls) (w1 : (Jvm.Cond.methodLink own index y).before a0 Z = true) (w2 : (Jvm.Cond.instanceMethod y).before a0 Z = true) (w5 : (Jvm.Cond.selects y.cls y y).before a0 Z = true) (w6 : (Jvm.Cond.privateMethod y).before a0 Z = true) (w4 : (Jvm.Cond.code y bytes maxL rt).before a0 Z = true) (w3 : (Jvm.Cond.initialized y.cls).before a0 Z = true)
    (hy : y.cls ≠ "java/lang/invoke/MethodHandle" ∧ y.cls ≠ "java/lang/invoke/VarHandle") {a : Addr} {C : String} (E : Exa Z h a C) (hM : Con l y bytes maxL rt rm Z (.ref a :: argsL).toArray h Qc) (eT : T.heap = h) (hfr : rm.frames + 1 ≤ R.frames) (hlo : W + (maxL + 11) + rm.locals ≤ R.locals) (hce : cells + rm.cells ≤ R.cells) (hsl : slots + rm.slots ≤ R.slots)
    (hg : g.method = m) (hsize : g.locals.size = c.maxLocals) (hlen : ∀ sig, parseMethodDescriptor y.desc = some sig → argsL.length = sig.parameters.length) (hstack : g.stack = argsL.reverse ++ .ref a :: rest) (hW : 2 * g.monitorRoom + (rest.map fun v => v.category).sum ≤ W) (hdg : decode c.code g.pc = .ok (.invokevirtual index, 3))
    (k : ∀ v T' L, Stand p l e R s m args below meth c T' (locs ++ L) (cells + rm.cells) (slots + rm.slots) → Qc v T'.heap L → Run p e below s Q kc ks (T'.setTop { g with pc := g.pc + 3, stack := v.toList ++ rest })) : Run p e below s Q kc ks (T.setTop g) := by
  obtain ⟨cell, kk, q1, -, -, q4, -⟩ := E
  obtain ⟨v, vm₁, ⟨T', L', c', n'⟩, -, X', ⟨L, hQ, l1, l2, l3⟩, st⟩ := X.privateBack hx hown (mvT hZ w1) (mvT hZ w2) (mvT hZ w5) (Cond.privateMethod_at (mvP hZ w6 (args := #[]))) (mvT hZ w4) hy (hM.back (W := W) hZ w4 w3 hfr hlo) hg hsize (Steps.refl _) (a := a) (by rw [eT]; exact q1) (fun q e => by rw [e] at q4; cases q4) hlen hstack hW hdg (fun _ _ => ⟨rfl, eT, hce, hsl⟩)
  dsimp only [Pt.U, Pt.locs, Pt.cells, Pt.slots] at X' l1 l2 l3 st hQ
  subst l1 l2 l3
  exact Run.pre (fun _ q => st.trans q) (k v T' L X' hQ)
theorem Run.callV {z : MethodName} {C : String} (X : Stand p l e R s m args below meth c T locs cells slots) (hx : p.tables.exec = Jvm.exec) (hZ : Z.Warmed39 s.vm) (hown : s.vm.findClass own = some m.cls) (w1 : (Jvm.Cond.methodLink own index y).before a0 Z = true) (w2 : (Jvm.Cond.declares y).before a0 Z = true) (hnf : NotFace s y) (w5 : (Jvm.Cond.selects C y z).before a0 Z = true) (w6 : (Jvm.Cond.instanceMethod z).before a0 Z = true) (w4 : (Jvm.Cond.code z bytes maxL rt).before a0 Z = true) (w3 : (Jvm.Cond.initialized z.cls).before a0 Z = true)
    (hy : y.cls ≠ "java/lang/invoke/MethodHandle" ∧ y.cls ≠ "java/lang/invoke/VarHandle") {b : Addr} (E : Exa Z h b C) (hM : Con l z bytes maxL rt rm Z (.ref b :: argsL).toArray h Qc) (eT : T.heap = h) (hfr : rm.frames + 1 ≤ R.frames) (hlo : W + (maxL + 11) + rm.locals ≤ R.locals) (hce : cells + rm.cells ≤ R.cells) (hsl : slots + rm.slots ≤ R.slots)
    (hg : g.method = m) (hsize : g.locals.size = c.maxLocals) (hlen : ∀ sig, parseMethodDescriptor y.desc = some sig → argsL.length = sig.parameters.length) (hstack : g.stack = argsL.reverse ++ .ref b :: rest) (hW : 2 * g.monitorRoom + (rest.map fun v => v.category).sum ≤ W) (hdg : decode c.code g.pc = .ok (.invokevirtual index, 3))
    (k : ∀ v T' L, Stand p l e R s m args below meth c T' (locs ++ L) (cells + rm.cells) (slots + rm.slots) → Qc v T'.heap L → Run p e below s Q kc ks (T'.setTop { g with pc := g.pc + 3, stack := v.toList ++ rest })) : Run p e below s Q kc ks (T.setTop g) := by
  obtain ⟨cB, kB, qa, qb, qc⟩ := isOf hZ eT E
  obtain ⟨v, vm₁, ⟨T', L', c', n'⟩, -, X', ⟨L, hQ, l1, l2, l3⟩, st⟩ := X.virtualBack hx hown (mvT hZ w1) (mvT hZ w2) hnf (mvT hZ w5) (mvT hZ w6) hy (hM.back (W := W) hZ w4 w3 hfr hlo) qa qc hg hsize (Steps.refl _) hlen hstack hW hdg (fun _ _ => ⟨rfl, eT, hce, hsl⟩)
  dsimp only [Pt.U, Pt.locs, Pt.cells, Pt.slots] at X' l1 l2 l3 st hQ
  subst l1 l2 l3
  exact Run.pre (fun _ q => st.trans q) (k v T' L X' hQ)
theorem Run.callU {z : MethodName} {C owner : String} (X : Stand p l e R s m args below meth c T locs cells slots) (hx : p.tables.exec = Jvm.exec) (hZ : Z.Warmed39 s.vm) (hown : s.vm.findClass own = some m.cls) (w1 : (Jvm.Cond.methodLink own index y).before a0 Z = true) (w2 : (Jvm.Cond.sameMethod y.cls owner y.name y.desc).before a0 Z = true) (w7 : (Jvm.Cond.declares ⟨owner, y.name, y.desc⟩).before a0 Z = true) (w5 : (Jvm.Cond.selects C y z).before a0 Z = true) (w6 : (Jvm.Cond.instanceMethod z).before a0 Z = true) (w4 : (Jvm.Cond.code z bytes maxL rt).before a0 Z = true) (w3 : (Jvm.Cond.initialized z.cls).before a0 Z = true)
    (hy : owner ≠ "java/lang/invoke/MethodHandle" ∧ owner ≠ "java/lang/invoke/VarHandle") {b : Addr} (E : Exa Z h b C) (hM : Con l z bytes maxL rt rm Z (.ref b :: argsL).toArray h Qc) (eT : T.heap = h) (hfr : rm.frames + 1 ≤ R.frames) (hlo : W + (maxL + 11) + rm.locals ≤ R.locals) (hce : cells + rm.cells ≤ R.cells) (hsl : slots + rm.slots ≤ R.slots)
    (hg : g.method = m) (hsize : g.locals.size = c.maxLocals) (hlen : ∀ sig, parseMethodDescriptor y.desc = some sig → argsL.length = sig.parameters.length) (hstack : g.stack = argsL.reverse ++ .ref b :: rest) (hW : 2 * g.monitorRoom + (rest.map fun v => v.category).sum ≤ W) (hdg : decode c.code g.pc = .ok (.invokevirtual index, 3))
    (k : ∀ v T' L, Stand p l e R s m args below meth c T' (locs ++ L) (cells + rm.cells) (slots + rm.slots) → Qc v T'.heap L → Run p e below s Q kc ks (T'.setTop { g with pc := g.pc + 3, stack := v.toList ++ rest })) : Run p e below s Q kc ks (T.setTop g) := by
  obtain ⟨cB, kB, qa, qb, qc⟩ := isOf hZ eT E
  obtain ⟨v, vm₁, ⟨T', L', c', n'⟩, -, X', ⟨L, hQ, l1, l2, l3⟩, st⟩ := X.virtualBackUp hx hown (mvT hZ w1) (mvT hZ w2) (mvT hZ w7) hy (mvT hZ w5) (mvT hZ w6) (hM.back (W := W) hZ w4 w3 hfr hlo) qa qc hg hsize (Steps.refl _) hlen hstack hW hdg (fun _ _ => ⟨rfl, eT, hce, hsl⟩)
  dsimp only [Pt.U, Pt.locs, Pt.cells, Pt.slots] at X' l1 l2 l3 st hQ
  subst l1 l2 l3
  exact Run.pre (fun _ q => st.trans q) (k v T' L X' hQ)
theorem Run.callF {xi : MethodName} {C : String} {count : Nat} (X : Stand p l e R s m args below meth c T locs cells slots) (hx : p.tables.exec = Jvm.exec) (hZ : Z.Warmed39 s.vm) (hown : s.vm.findClass own = some m.cls) (w1 : (Jvm.Cond.methodLink own index xi).before a0 Z = true) (w2 : (Jvm.Cond.declares xi).before a0 Z = true) (w7 : (Jvm.Cond.interfaceMethod xi.cls xi.cls xi.name xi.desc).before args s = true) (w5 : (Jvm.Cond.selects C xi y).before a0 Z = true) (w6 : (Jvm.Cond.instanceMethod y).before a0 Z = true) (w8 : (Jvm.Cond.publicMethod y).before a0 Z = true) (w9 : (Jvm.Cond.unhidden C xi.name xi.desc).before a0 Z = true) (w10 : (Jvm.Cond.castable C xi.cls).before a0 Z = true) (w4 : (Jvm.Cond.code y bytes maxL rt).before a0 Z = true) (w3 : (Jvm.Cond.initialized y.cls).before a0 Z = true)
    (hy : xi.cls ≠ "java/lang/invoke/MethodHandle" ∧ xi.cls ≠ "java/lang/invoke/VarHandle") {b : Addr} (E : Exa Z h b C) (hM : Con l y bytes maxL rt rm Z (.ref b :: argsL).toArray h Qc) (eT : T.heap = h) (hfr : rm.frames + 1 ≤ R.frames) (hlo : W + (maxL + 11) + rm.locals ≤ R.locals) (hce : cells + rm.cells ≤ R.cells) (hsl : slots + rm.slots ≤ R.slots)
    (hg : g.method = m) (hsize : g.locals.size = c.maxLocals) (hlen : ∀ sig, parseMethodDescriptor xi.desc = some sig → argsL.length = sig.parameters.length) (hstack : g.stack = argsL.reverse ++ .ref b :: rest) (hW : 2 * g.monitorRoom + (rest.map fun v => v.category).sum ≤ W) (hdg : decode c.code g.pc = .ok (.invokeinterface index count, 5))
    (k : ∀ v T' L, Stand p l e R s m args below meth c T' (locs ++ L) (cells + rm.cells) (slots + rm.slots) → Qc v T'.heap L → Run p e below s Q kc ks (T'.setTop { g with pc := g.pc + 5, stack := v.toList ++ rest })) : Run p e below s Q kc ks (T.setTop g) := by
  obtain ⟨cB, kB, qa, qb, qc⟩ := isOf hZ eT E
  obtain ⟨v, vm₁, ⟨T', L', c', n'⟩, -, X', ⟨L, hQ, l1, l2, l3⟩, st⟩ := X.interfaceBack hx hown (mvT hZ w1) (mvT hZ w2) w7 (mvT hZ w5) (mvT hZ w6) (mvT hZ w8) (mvT hZ w9) (mvT hZ w10) hy (hM.back (W := W) hZ w4 w3 hfr hlo) qa qb qc hg hsize (Steps.refl _) hlen hstack hW hdg (fun _ _ => ⟨rfl, eT, hce, hsl⟩)
  dsimp only [Pt.U, Pt.locs, Pt.cells, Pt.slots] at X' l1 l2 l3 st hQ
  subst l1 l2 l3
  exact Run.pre (fun _ q => st.trans q) (k v T' L X' hQ)
end Calls
/-! from the case's words to facts on the heap -/
theorem own_fldInt {args : Array Value} {t : Term} {C n d : String} {k : Int32} {a : Addr} (ht : t.eval args Z none [] Z = some (.ref a)) (h : (Jvm.Cond.eq (Term.field t C n d) (Term.int k)).value args Z none Z [] = some true) : Fld Z Z.heap a C n d (.int k) := by
  obtain ⟨x, y, e1, e2, -, k2⟩ := cmp_v (Or.inl h)
  have e3 : y = .int k := (Option.some.inj ((Term.int_eval k).symm.trans e2)).symm
  subst e3
  obtain ⟨z, rfl⟩ := k2
  have e4 := fld_at (C := C) (n := n) (dd := d) ht
  rw [e4] at e1
  have q : z = k := by
    have hh : (Jvm.Cond.eq (Term.field t C n d) (Term.int k)).value args Z none Z [] = some (decide (z = k)) := by simp [Jvm.Cond.value, e4, e1, e2]
    exact gotT hh h
  subst q
  exact Fld.start e1
theorem own_fldLong {args : Array Value} {t : Term} {C n d : String} {k : Int64} {a : Addr} (ht : t.eval args Z none [] Z = some (.ref a)) (h : (Jvm.Cond.eq (Term.field t C n d) (Term.long k)).value args Z none Z [] = some true) : Fld Z Z.heap a C n d (.long k) := by
  obtain ⟨x, y, e1, e2, -, k2⟩ := cmp_v (Or.inl h)
  have e3 : y = .long k := (Option.some.inj (show some (Value.long k) = some y from e2)).symm
  subst e3
  obtain ⟨z, rfl⟩ := k2
  have e4 := fld_at (C := C) (n := n) (dd := d) ht
  have q : z = k := gotT (eq_L e1 e2) h
  rw [e4] at e1
  subst q
  exact Fld.start e1
theorem own_len {args : Array Value} {t : Term} {n : Int32} {a : Addr} {cl : Cell} {ty : FieldType} (ht : t.eval args Z none [] Z = some (.ref a)) (A : Arr Z Z.heap a cl ty) (h : (Jvm.Cond.eq (Term.length t) (Term.int n)).value args Z none Z [] = some true) : cl.slots.size < 2 ^ 31 ∧ cl.slots.size.toInt32 = n := by
  obtain ⟨x, y, e1, e2, -, k2⟩ := cmp_v (Or.inl h)
  have ha : Z.arrayAt? a = some cl := A.fin (Vm.Alike.refl _)
  by_cases hl : cl.slots.size < 2 ^ 31
  · refine ⟨hl, ?_⟩
    have e3 := len_f ht ha hl
    have hh : (Jvm.Cond.eq (Term.length t) (Term.int n)).value args Z none Z [] = some (decide (cl.slots.size.toInt32 = n)) := by
      have e4 : (Term.int n).eval args Z none [] Z = some (.int n) := Term.int_eval n
      simp [Jvm.Cond.value, e3, e4]
    exact gotT hh h
  · exfalso
    simp [Term.eval, ht, ha, hl] at e1
theorem own_elem {args : Array Value} {t u : Term} {j : Int32} {a w : Addr} {cl : Cell} (ht : t.eval args Z none [] Z = some (.ref a)) (hu : u.eval args Z none [] Z = some (.ref w)) (hc : Z.heap[a]? = some cl) (h : (Jvm.Cond.eq (Term.elem t (Term.int j)) u).value args Z none Z [] = some true) : cl.slots[j.toNatClampNeg]? = some (.ref w) := by
  obtain ⟨x, y, e1, e2, k1, k2⟩ := cmp_v (Or.inl h)
  cases hu.symm.trans e2
  have q := gotT (eq_R e1 e2 k2.2 rfl) h
  subst q
  exact (elem_in e1 ht (Term.int_eval j) hc).2
theorem own_fldRef {args : Array Value} {t u : Term} {C n d : String} {a w : Addr} (ht : t.eval args Z none [] Z = some (.ref a)) (hu : u.eval args Z none [] Z = some (.ref w)) (h : (Jvm.Cond.eq (Term.field t C n d) u).value args Z none Z [] = some true) : Fld Z Z.heap a C n d (.ref w) := by
  obtain ⟨x, y, e1, e2, k1, k2⟩ := cmp_v (Or.inl h)
  cases hu.symm.trans e2
  have q := gotT (eq_R e1 e2 k2.2 rfl) h
  subst q
  rw [fld_at ht] at e1
  exact Fld.start e1
theorem own_fldNull {args : Array Value} {t : Term} {C n d : String} {a : Addr} (ht : t.eval args Z none [] Z = some (.ref a)) (h : (Jvm.Cond.eq (Term.field t C n d) Term.null).value args Z none Z [] = some true) : Fld Z Z.heap a C n d .null := by
  have e1 := null_v h
  rw [fld_at ht] at e1
  exact Fld.start e1
theorem own_fit {s : State} (hF : heapFits s = true) : Fit s := fun {y c} hc i hi => by
  obtain ⟨ha, rfl⟩ := Array.getElem?_eq_some_iff.mp hc
  have q := List.all_eq_true.mp ((Array.all_eq_true_iff_forall_mem.mp hF) _ (Array.getElem_mem ha)) i (List.mem_range.mpr hi)
  simpa [Array.getElem?_eq_getElem hi] using q
end Own
def own_pick (i : Int32) (w0 w1 w2 w3 w4 w5 w6 w7 w8 w9 w10 w11 : Addr) : Addr := if i = 0 then w0 else if i = 1 then w1 else if i = 2 then w2 else if i = 3 then w3 else if i = 4 then w4 else if i = 5 then w5 else if i = 6 then w6 else if i = 7 then w7 else if i = 8 then w8 else if i = 9 then w9 else if i = 10 then w10 else w11
def own_kdc (a w7 w8 w9 : Addr) : Int32 := if a = w7 then 0 else if a = w8 then 0 else if a = w9 then 0 else 1
theorem own_plain (i : Int32) (w0 w1 w2 w3 w4 w5 w6 w7 w8 w9 w10 w11 : Addr) (n0_7 : w0 ≠ w7) (n0_8 : w0 ≠ w8) (n0_9 : w0 ≠ w9) (n1_7 : w1 ≠ w7) (n1_8 : w1 ≠ w8) (n1_9 : w1 ≠ w9) (n2_7 : w2 ≠ w7) (n2_8 : w2 ≠ w8) (n2_9 : w2 ≠ w9) (n3_7 : w3 ≠ w7) (n3_8 : w3 ≠ w8) (n3_9 : w3 ≠ w9) (n4_7 : w4 ≠ w7) (n4_8 : w4 ≠ w8) (n4_9 : w4 ≠ w9) (n5_7 : w5 ≠ w7) (n5_8 : w5 ≠ w8) (n5_9 : w5 ≠ w9) (n6_7 : w6 ≠ w7) (n6_8 : w6 ≠ w8) (n6_9 : w6 ≠ w9) (n10_7 : w10 ≠ w7) (n10_8 : w10 ≠ w8) (n10_9 : w10 ≠ w9) (n11_7 : w11 ≠ w7) (n11_8 : w11 ≠ w8) (n11_9 : w11 ≠ w9) : own_kdc (own_pick i w0 w1 w2 w3 w4 w5 w6 w7 w8 w9 w10 w11) w7 w8 w9 = if i = 7 then 0 else if i = 8 then 0 else if i = 9 then 0 else 1 := by
  by_cases c0 : i = 0
  · subst c0; simp [own_kdc, own_pick, n0_7, n0_8, n0_9]
  by_cases c1 : i = 1
  · subst c1; simp [own_kdc, own_pick, n1_7, n1_8, n1_9]
  by_cases c2 : i = 2
  · subst c2; simp [own_kdc, own_pick, n2_7, n2_8, n2_9]
  by_cases c3 : i = 3
  · subst c3; simp [own_kdc, own_pick, n3_7, n3_8, n3_9]
  by_cases c4 : i = 4
  · subst c4; simp [own_kdc, own_pick, n4_7, n4_8, n4_9]
  by_cases c5 : i = 5
  · subst c5; simp [own_kdc, own_pick, n5_7, n5_8, n5_9]
  by_cases c6 : i = 6
  · subst c6; simp [own_kdc, own_pick, n6_7, n6_8, n6_9]
  by_cases c7 : i = 7
  · subst c7; simp [own_kdc, own_pick]
  by_cases c8 : i = 8
  · subst c8; simp [own_kdc, own_pick]
  by_cases c9 : i = 9
  · subst c9; simp [own_kdc, own_pick]
  by_cases c10 : i = 10
  · subst c10; simp [own_kdc, own_pick, n10_7, n10_8, n10_9]
  simp [own_kdc, own_pick, c0, c1, c2, c3, c4, c5, c6, c7, c8, c9, c10, n11_7, n11_8, n11_9]
theorem d1_0 : decode method_2_code 0 = .ok (.iload_n 0, 1) := by decide +kernel
theorem d1_1 : decode method_2_code 1 = .ok (.ifCond .ne 7, 3) := by decide +kernel
theorem d1_4 : decode method_2_code 4 = .ok (.getstatic 7, 3) := by decide +kernel
theorem d1_7 : decode method_2_code 7 = .ok (.areturn, 1) := by decide +kernel
theorem d1_8 : decode method_2_code 8 = .ok (.iload_n 0, 1) := by decide +kernel
theorem d1_9 : decode method_2_code 9 = .ok (.iconst 1, 1) := by decide +kernel
theorem d1_10 : decode method_2_code 10 = .ok (.if_icmp .ne 7, 3) := by decide +kernel
theorem d1_13 : decode method_2_code 13 = .ok (.getstatic 13, 3) := by decide +kernel
theorem d1_16 : decode method_2_code 16 = .ok (.areturn, 1) := by decide +kernel
theorem d1_17 : decode method_2_code 17 = .ok (.iload_n 0, 1) := by decide +kernel
theorem d1_18 : decode method_2_code 18 = .ok (.iconst 2, 1) := by decide +kernel
theorem d1_19 : decode method_2_code 19 = .ok (.if_icmp .ne 7, 3) := by decide +kernel
theorem d1_22 : decode method_2_code 22 = .ok (.getstatic 16, 3) := by decide +kernel
theorem d1_25 : decode method_2_code 25 = .ok (.areturn, 1) := by decide +kernel
theorem d1_26 : decode method_2_code 26 = .ok (.iload_n 0, 1) := by decide +kernel
theorem d1_27 : decode method_2_code 27 = .ok (.iconst 3, 1) := by decide +kernel
theorem d1_28 : decode method_2_code 28 = .ok (.if_icmp .ne 7, 3) := by decide +kernel
theorem d1_31 : decode method_2_code 31 = .ok (.getstatic 19, 3) := by decide +kernel
theorem d1_34 : decode method_2_code 34 = .ok (.areturn, 1) := by decide +kernel
theorem d1_35 : decode method_2_code 35 = .ok (.iload_n 0, 1) := by decide +kernel
theorem d1_36 : decode method_2_code 36 = .ok (.iconst 4, 1) := by decide +kernel
theorem d1_37 : decode method_2_code 37 = .ok (.if_icmp .ne 7, 3) := by decide +kernel
theorem d1_40 : decode method_2_code 40 = .ok (.getstatic 22, 3) := by decide +kernel
theorem d1_43 : decode method_2_code 43 = .ok (.areturn, 1) := by decide +kernel
theorem d1_44 : decode method_2_code 44 = .ok (.iload_n 0, 1) := by decide +kernel
theorem d1_45 : decode method_2_code 45 = .ok (.iconst 5, 1) := by decide +kernel
theorem d1_46 : decode method_2_code 46 = .ok (.if_icmp .ne 7, 3) := by decide +kernel
theorem d1_49 : decode method_2_code 49 = .ok (.getstatic 25, 3) := by decide +kernel
theorem d1_52 : decode method_2_code 52 = .ok (.areturn, 1) := by decide +kernel
theorem d1_53 : decode method_2_code 53 = .ok (.iload_n 0, 1) := by decide +kernel
theorem d1_54 : decode method_2_code 54 = .ok (.bipush 6, 2) := by decide +kernel
theorem d1_56 : decode method_2_code 56 = .ok (.if_icmp .ne 7, 3) := by decide +kernel
theorem d1_59 : decode method_2_code 59 = .ok (.getstatic 28, 3) := by decide +kernel
theorem d1_62 : decode method_2_code 62 = .ok (.areturn, 1) := by decide +kernel
theorem d1_63 : decode method_2_code 63 = .ok (.iload_n 0, 1) := by decide +kernel
theorem d1_64 : decode method_2_code 64 = .ok (.bipush 7, 2) := by decide +kernel
theorem d1_66 : decode method_2_code 66 = .ok (.if_icmp .ne 7, 3) := by decide +kernel
theorem d1_69 : decode method_2_code 69 = .ok (.getstatic 31, 3) := by decide +kernel
theorem d1_72 : decode method_2_code 72 = .ok (.areturn, 1) := by decide +kernel
theorem d1_73 : decode method_2_code 73 = .ok (.iload_n 0, 1) := by decide +kernel
theorem d1_74 : decode method_2_code 74 = .ok (.bipush 8, 2) := by decide +kernel
theorem d1_76 : decode method_2_code 76 = .ok (.if_icmp .ne 7, 3) := by decide +kernel
theorem d1_79 : decode method_2_code 79 = .ok (.getstatic 34, 3) := by decide +kernel
theorem d1_82 : decode method_2_code 82 = .ok (.areturn, 1) := by decide +kernel
theorem d1_83 : decode method_2_code 83 = .ok (.iload_n 0, 1) := by decide +kernel
theorem d1_84 : decode method_2_code 84 = .ok (.bipush 9, 2) := by decide +kernel
theorem d1_86 : decode method_2_code 86 = .ok (.if_icmp .ne 7, 3) := by decide +kernel
theorem d1_89 : decode method_2_code 89 = .ok (.getstatic 37, 3) := by decide +kernel
theorem d1_92 : decode method_2_code 92 = .ok (.areturn, 1) := by decide +kernel
theorem d1_93 : decode method_2_code 93 = .ok (.iload_n 0, 1) := by decide +kernel
theorem d1_94 : decode method_2_code 94 = .ok (.bipush 10, 2) := by decide +kernel
theorem d1_96 : decode method_2_code 96 = .ok (.if_icmp .ne 7, 3) := by decide +kernel
theorem d1_99 : decode method_2_code 99 = .ok (.getstatic 40, 3) := by decide +kernel
theorem d1_102 : decode method_2_code 102 = .ok (.areturn, 1) := by decide +kernel
theorem d1_103 : decode method_2_code 103 = .ok (.getstatic 43, 3) := by decide +kernel
theorem d1_106 : decode method_2_code 106 = .ok (.areturn, 1) := by decide +kernel
theorem pn_1 : plainName "com/example/sorites/sorites/kb/KindKeepsDegreesCrispPinLaw" = true := by first | (simp [plainName, overriddenIn]; done) | decide +kernel
set_option maxRecDepth 65536 in
set_option maxHeartbeats 40000000 in
theorem rm1 (l : Launch) (Z : State) (a0 : Array Value) (hw : ∀ d ∈ tables_1, d.before a0 Z = true) (i : Int32) (w0 : Addr) (w1 : Addr) (w2 : Addr) (w3 : Addr) (w4 : Addr) (w5 : Addr) (w6 : Addr) (w7 : Addr) (w8 : Addr) (w9 : Addr) (w10 : Addr) (w11 : Addr) (h0 : Heap) (n0 : Nat) (Z0 : n0 ≤ h0.size) (OL : Old Z n0 h0) (S0 : Sta Z Z.heap "com/example/sorites/sorites/kb/Concept$Kind" "ATOMIC" "Lcom/example/sorites/sorites/kb/Concept$Kind;" (.ref w0)) (S1 : Sta Z Z.heap "com/example/sorites/sorites/kb/Concept$Kind" "TOP" "Lcom/example/sorites/sorites/kb/Concept$Kind;" (.ref w1)) (S2 : Sta Z Z.heap "com/example/sorites/sorites/kb/Concept$Kind" "BOTTOM" "Lcom/example/sorites/sorites/kb/Concept$Kind;" (.ref w2)) (S3 : Sta Z Z.heap "com/example/sorites/sorites/kb/Concept$Kind" "NOT" "Lcom/example/sorites/sorites/kb/Concept$Kind;" (.ref w3)) (S4 : Sta Z Z.heap "com/example/sorites/sorites/kb/Concept$Kind" "AND" "Lcom/example/sorites/sorites/kb/Concept$Kind;" (.ref w4)) (S5 : Sta Z Z.heap "com/example/sorites/sorites/kb/Concept$Kind" "OR" "Lcom/example/sorites/sorites/kb/Concept$Kind;" (.ref w5)) (S6 : Sta Z Z.heap "com/example/sorites/sorites/kb/Concept$Kind" "IMPLIES" "Lcom/example/sorites/sorites/kb/Concept$Kind;" (.ref w6)) (S7 : Sta Z Z.heap "com/example/sorites/sorites/kb/Concept$Kind" "WEIGHTED_SUM" "Lcom/example/sorites/sorites/kb/Concept$Kind;" (.ref w7)) (S8 : Sta Z Z.heap "com/example/sorites/sorites/kb/Concept$Kind" "SOME_VALUE" "Lcom/example/sorites/sorites/kb/Concept$Kind;" (.ref w8)) (S9 : Sta Z Z.heap "com/example/sorites/sorites/kb/Concept$Kind" "MODIFIED" "Lcom/example/sorites/sorites/kb/Concept$Kind;" (.ref w9)) (S10 : Sta Z Z.heap "com/example/sorites/sorites/kb/Concept$Kind" "SOME" "Lcom/example/sorites/sorites/kb/Concept$Kind;" (.ref w10)) (S11 : Sta Z Z.heap "com/example/sorites/sorites/kb/Concept$Kind" "ALL" "Lcom/example/sorites/sorites/kb/Concept$Kind;" (.ref w11)) :
    Con l (⟨"com/example/sorites/sorites/kb/KindKeepsDegreesCrispPinLaw", "pick", "(I)Lcom/example/sorites/sorites/kb/Concept$Kind;"⟩ : MethodName) method_2_code 1 (some (.object "com/example/sorites/sorites/kb/Concept$Kind")) ({ frames := 0, cells := 0, slots := 0, locals := 0 } : Room) Z #[(.int i)] h0 (fun v h L => v = some (.ref (own_pick i w0 w1 w2 w3 w4 w5 w6 w7 w8 w9 w10 w11)) ∧ Fr n0 L ∧ h = h0) := by
  refine Con.mk (plainFor_of_name pn_1) (fun m => show entryFrame m #[(.int i)] 1 = mkF m 0 #[.val (.int i)] [] by first | (simp [entryFrame, mkF, argsToLocals, Value.category]; done) | rfl) ?_
  intro p e s m below meth c s₁ hx hby hml hown hnm hret hlk hZ X0 e0
  have N0 := Fr.nil n0
  show Run p e below s _ _ _ (s₁.setTop (mkF m 0 #[.val (.int i)] []))
  refine Run.pre (fun _ k => XS.iloadN X0.here hx rfl (hb hby d1_0) rfl  k) ?_
  show Run p e below s _ _ _ (s₁.setTop (mkF m 1 #[.val (.int i)] [(.int i)]))
  by_cases hc1 : i = (0 : Int32)
  · skip
    refine Run.pre (fun _ k => XS.ifNo X0.here hx rfl (hb hby d1_1) rfl ((if0 _ _).trans (teq (hc1 : i = (0 : Int32))).2) k) ?_
    show Run p e below s _ _ _ (s₁.setTop (mkF m 4 #[.val (.int i)] []))
    obtain ⟨T2, X2, e2, st2⟩ := getS2 X0 hx hZ hown (host := "") (Or.inl (hw _ (List.mem_of_getElem? (i := 5) rfl))) Via.refl e0 (S0.ext OL.2) (g := (mkF m 4 #[.val (.int i)] [])) rfl (hb hby d1_4)
    refine Run.pre st2 ?_
    show Run p e below s _ _ _ (T2.setTop (mkF m 7 #[.val (.int i)] [(.ref w0)]))
    exact Run.retA X2 hx hret rfl rfl hlk (hb hby d1_7) (by first | (rw [e2]; exact ⟨by simp [own_pick, hc1], N0, rfl⟩) | exact ⟨by simp [own_pick, hc1], N0, rfl⟩) (by decide) (by decide)
  · skip
    refine Run.pre (fun _ k => XS.ifYes X0.here hx rfl (pc0 := 1) (pc' := 8) rfl (hb hby d1_1) rfl ((if0 _ _).trans (feq (hc1 : ¬ (i = (0 : Int32)))).2) (by decide) (by decide) k) ?_
    show Run p e below s _ _ _ (s₁.setTop (mkF m 8 #[.val (.int i)] []))
    refine Run.pre (fun _ k => XS.iloadN X0.here hx rfl (hb hby d1_8) rfl  k) ?_
    show Run p e below s _ _ _ (s₁.setTop (mkF m 9 #[.val (.int i)] [(.int i)]))
    refine Run.pre (fun _ k => XS.iconst X0.here hx rfl (hb hby d1_9) k) ?_
    show Run p e below s _ _ _ (s₁.setTop (mkF m 10 #[.val (.int i)] [(.int (1 : Int32)), (.int i)]))
    by_cases hc3 : i = (1 : Int32)
    · skip
      refine Run.pre (fun _ k => XS.icmpNo X0.here hx rfl (hb hby d1_10) rfl (teq (hc3 : i = (1 : Int32))).2 k) ?_
      show Run p e below s _ _ _ (s₁.setTop (mkF m 13 #[.val (.int i)] []))
      obtain ⟨T4, X4, e4, st4⟩ := getS2 X0 hx hZ hown (host := "") (Or.inl (hw _ (List.mem_of_getElem? (i := 29) rfl))) Via.refl e0 (S1.ext OL.2) (g := (mkF m 13 #[.val (.int i)] [])) rfl (hb hby d1_13)
      refine Run.pre st4 ?_
      show Run p e below s _ _ _ (T4.setTop (mkF m 16 #[.val (.int i)] [(.ref w1)]))
      exact Run.retA X4 hx hret rfl rfl hlk (hb hby d1_16) (by first | (rw [e4]; exact ⟨by simp [own_pick, hc1, hc3], N0, rfl⟩) | exact ⟨by simp [own_pick, hc1, hc3], N0, rfl⟩) (by decide) (by decide)
    · skip
      refine Run.pre (fun _ k => XS.icmpYes X0.here hx rfl (pc0 := 10) (pc' := 17) rfl (hb hby d1_10) rfl (feq (hc3 : ¬ (i = (1 : Int32)))).2 (by decide) (by decide) k) ?_
      show Run p e below s _ _ _ (s₁.setTop (mkF m 17 #[.val (.int i)] []))
      refine Run.pre (fun _ k => XS.iloadN X0.here hx rfl (hb hby d1_17) rfl  k) ?_
      show Run p e below s _ _ _ (s₁.setTop (mkF m 18 #[.val (.int i)] [(.int i)]))
      refine Run.pre (fun _ k => XS.iconst X0.here hx rfl (hb hby d1_18) k) ?_
      show Run p e below s _ _ _ (s₁.setTop (mkF m 19 #[.val (.int i)] [(.int (2 : Int32)), (.int i)]))
      by_cases hc5 : i = (2 : Int32)
      · skip
        refine Run.pre (fun _ k => XS.icmpNo X0.here hx rfl (hb hby d1_19) rfl (teq (hc5 : i = (2 : Int32))).2 k) ?_
        show Run p e below s _ _ _ (s₁.setTop (mkF m 22 #[.val (.int i)] []))
        obtain ⟨T6, X6, e6, st6⟩ := getS2 X0 hx hZ hown (host := "") (Or.inl (hw _ (List.mem_of_getElem? (i := 21) rfl))) Via.refl e0 (S2.ext OL.2) (g := (mkF m 22 #[.val (.int i)] [])) rfl (hb hby d1_22)
        refine Run.pre st6 ?_
        show Run p e below s _ _ _ (T6.setTop (mkF m 25 #[.val (.int i)] [(.ref w2)]))
        exact Run.retA X6 hx hret rfl rfl hlk (hb hby d1_25) (by first | (rw [e6]; exact ⟨by simp [own_pick, hc1, hc3, hc5], N0, rfl⟩) | exact ⟨by simp [own_pick, hc1, hc3, hc5], N0, rfl⟩) (by decide) (by decide)
      · skip
        refine Run.pre (fun _ k => XS.icmpYes X0.here hx rfl (pc0 := 19) (pc' := 26) rfl (hb hby d1_19) rfl (feq (hc5 : ¬ (i = (2 : Int32)))).2 (by decide) (by decide) k) ?_
        show Run p e below s _ _ _ (s₁.setTop (mkF m 26 #[.val (.int i)] []))
        refine Run.pre (fun _ k => XS.iloadN X0.here hx rfl (hb hby d1_26) rfl  k) ?_
        show Run p e below s _ _ _ (s₁.setTop (mkF m 27 #[.val (.int i)] [(.int i)]))
        refine Run.pre (fun _ k => XS.iconst X0.here hx rfl (hb hby d1_27) k) ?_
        show Run p e below s _ _ _ (s₁.setTop (mkF m 28 #[.val (.int i)] [(.int (3 : Int32)), (.int i)]))
        by_cases hc7 : i = (3 : Int32)
        · skip
          refine Run.pre (fun _ k => XS.icmpNo X0.here hx rfl (hb hby d1_28) rfl (teq (hc7 : i = (3 : Int32))).2 k) ?_
          show Run p e below s _ _ _ (s₁.setTop (mkF m 31 #[.val (.int i)] []))
          obtain ⟨T8, X8, e8, st8⟩ := getS2 X0 hx hZ hown (host := "") (Or.inl (hw _ (List.mem_of_getElem? (i := 19) rfl))) Via.refl e0 (S3.ext OL.2) (g := (mkF m 31 #[.val (.int i)] [])) rfl (hb hby d1_31)
          refine Run.pre st8 ?_
          show Run p e below s _ _ _ (T8.setTop (mkF m 34 #[.val (.int i)] [(.ref w3)]))
          exact Run.retA X8 hx hret rfl rfl hlk (hb hby d1_34) (by first | (rw [e8]; exact ⟨by simp [own_pick, hc1, hc3, hc5, hc7], N0, rfl⟩) | exact ⟨by simp [own_pick, hc1, hc3, hc5, hc7], N0, rfl⟩) (by decide) (by decide)
        · skip
          refine Run.pre (fun _ k => XS.icmpYes X0.here hx rfl (pc0 := 28) (pc' := 35) rfl (hb hby d1_28) rfl (feq (hc7 : ¬ (i = (3 : Int32)))).2 (by decide) (by decide) k) ?_
          show Run p e below s _ _ _ (s₁.setTop (mkF m 35 #[.val (.int i)] []))
          refine Run.pre (fun _ k => XS.iloadN X0.here hx rfl (hb hby d1_35) rfl  k) ?_
          show Run p e below s _ _ _ (s₁.setTop (mkF m 36 #[.val (.int i)] [(.int i)]))
          refine Run.pre (fun _ k => XS.iconst X0.here hx rfl (hb hby d1_36) k) ?_
          show Run p e below s _ _ _ (s₁.setTop (mkF m 37 #[.val (.int i)] [(.int (4 : Int32)), (.int i)]))
          by_cases hc9 : i = (4 : Int32)
          · skip
            refine Run.pre (fun _ k => XS.icmpNo X0.here hx rfl (hb hby d1_37) rfl (teq (hc9 : i = (4 : Int32))).2 k) ?_
            show Run p e below s _ _ _ (s₁.setTop (mkF m 40 #[.val (.int i)] []))
            obtain ⟨T10, X10, e10, st10⟩ := getS2 X0 hx hZ hown (host := "") (Or.inl (hw _ (List.mem_of_getElem? (i := 26) rfl))) Via.refl e0 (S4.ext OL.2) (g := (mkF m 40 #[.val (.int i)] [])) rfl (hb hby d1_40)
            refine Run.pre st10 ?_
            show Run p e below s _ _ _ (T10.setTop (mkF m 43 #[.val (.int i)] [(.ref w4)]))
            exact Run.retA X10 hx hret rfl rfl hlk (hb hby d1_43) (by first | (rw [e10]; exact ⟨by simp [own_pick, hc1, hc3, hc5, hc7, hc9], N0, rfl⟩) | exact ⟨by simp [own_pick, hc1, hc3, hc5, hc7, hc9], N0, rfl⟩) (by decide) (by decide)
          · skip
            refine Run.pre (fun _ k => XS.icmpYes X0.here hx rfl (pc0 := 37) (pc' := 44) rfl (hb hby d1_37) rfl (feq (hc9 : ¬ (i = (4 : Int32)))).2 (by decide) (by decide) k) ?_
            show Run p e below s _ _ _ (s₁.setTop (mkF m 44 #[.val (.int i)] []))
            refine Run.pre (fun _ k => XS.iloadN X0.here hx rfl (hb hby d1_44) rfl  k) ?_
            show Run p e below s _ _ _ (s₁.setTop (mkF m 45 #[.val (.int i)] [(.int i)]))
            refine Run.pre (fun _ k => XS.iconst X0.here hx rfl (hb hby d1_45) k) ?_
            show Run p e below s _ _ _ (s₁.setTop (mkF m 46 #[.val (.int i)] [(.int (5 : Int32)), (.int i)]))
            by_cases hc11 : i = (5 : Int32)
            · skip
              refine Run.pre (fun _ k => XS.icmpNo X0.here hx rfl (hb hby d1_46) rfl (teq (hc11 : i = (5 : Int32))).2 k) ?_
              show Run p e below s _ _ _ (s₁.setTop (mkF m 49 #[.val (.int i)] []))
              obtain ⟨T12, X12, e12, st12⟩ := getS2 X0 hx hZ hown (host := "") (Or.inl (hw _ (List.mem_of_getElem? (i := 36) rfl))) Via.refl e0 (S5.ext OL.2) (g := (mkF m 49 #[.val (.int i)] [])) rfl (hb hby d1_49)
              refine Run.pre st12 ?_
              show Run p e below s _ _ _ (T12.setTop (mkF m 52 #[.val (.int i)] [(.ref w5)]))
              exact Run.retA X12 hx hret rfl rfl hlk (hb hby d1_52) (by first | (rw [e12]; exact ⟨by simp [own_pick, hc1, hc3, hc5, hc7, hc9, hc11], N0, rfl⟩) | exact ⟨by simp [own_pick, hc1, hc3, hc5, hc7, hc9, hc11], N0, rfl⟩) (by decide) (by decide)
            · skip
              refine Run.pre (fun _ k => XS.icmpYes X0.here hx rfl (pc0 := 46) (pc' := 53) rfl (hb hby d1_46) rfl (feq (hc11 : ¬ (i = (5 : Int32)))).2 (by decide) (by decide) k) ?_
              show Run p e below s _ _ _ (s₁.setTop (mkF m 53 #[.val (.int i)] []))
              refine Run.pre (fun _ k => XS.iloadN X0.here hx rfl (hb hby d1_53) rfl  k) ?_
              show Run p e below s _ _ _ (s₁.setTop (mkF m 54 #[.val (.int i)] [(.int i)]))
              refine Run.pre (fun _ k => XS.bipush X0.here hx rfl (hb hby d1_54) k) ?_
              show Run p e below s _ _ _ (s₁.setTop (mkF m 56 #[.val (.int i)] [(.int (6 : Int32)), (.int i)]))
              by_cases hc13 : i = (6 : Int32)
              · skip
                refine Run.pre (fun _ k => XS.icmpNo X0.here hx rfl (hb hby d1_56) rfl (teq (hc13 : i = (6 : Int32))).2 k) ?_
                show Run p e below s _ _ _ (s₁.setTop (mkF m 59 #[.val (.int i)] []))
                obtain ⟨T14, X14, e14, st14⟩ := getS2 X0 hx hZ hown (host := "") (Or.inl (hw _ (List.mem_of_getElem? (i := 34) rfl))) Via.refl e0 (S6.ext OL.2) (g := (mkF m 59 #[.val (.int i)] [])) rfl (hb hby d1_59)
                refine Run.pre st14 ?_
                show Run p e below s _ _ _ (T14.setTop (mkF m 62 #[.val (.int i)] [(.ref w6)]))
                exact Run.retA X14 hx hret rfl rfl hlk (hb hby d1_62) (by first | (rw [e14]; exact ⟨by simp [own_pick, hc1, hc3, hc5, hc7, hc9, hc11, hc13], N0, rfl⟩) | exact ⟨by simp [own_pick, hc1, hc3, hc5, hc7, hc9, hc11, hc13], N0, rfl⟩) (by decide) (by decide)
              · skip
                refine Run.pre (fun _ k => XS.icmpYes X0.here hx rfl (pc0 := 56) (pc' := 63) rfl (hb hby d1_56) rfl (feq (hc13 : ¬ (i = (6 : Int32)))).2 (by decide) (by decide) k) ?_
                show Run p e below s _ _ _ (s₁.setTop (mkF m 63 #[.val (.int i)] []))
                refine Run.pre (fun _ k => XS.iloadN X0.here hx rfl (hb hby d1_63) rfl  k) ?_
                show Run p e below s _ _ _ (s₁.setTop (mkF m 64 #[.val (.int i)] [(.int i)]))
                refine Run.pre (fun _ k => XS.bipush X0.here hx rfl (hb hby d1_64) k) ?_
                show Run p e below s _ _ _ (s₁.setTop (mkF m 66 #[.val (.int i)] [(.int (7 : Int32)), (.int i)]))
                by_cases hc15 : i = (7 : Int32)
                · skip
                  refine Run.pre (fun _ k => XS.icmpNo X0.here hx rfl (hb hby d1_66) rfl (teq (hc15 : i = (7 : Int32))).2 k) ?_
                  show Run p e below s _ _ _ (s₁.setTop (mkF m 69 #[.val (.int i)] []))
                  obtain ⟨T16, X16, e16, st16⟩ := getS2 X0 hx hZ hown (host := "") (Or.inl (hw _ (List.mem_of_getElem? (i := 23) rfl))) Via.refl e0 (S7.ext OL.2) (g := (mkF m 69 #[.val (.int i)] [])) rfl (hb hby d1_69)
                  refine Run.pre st16 ?_
                  show Run p e below s _ _ _ (T16.setTop (mkF m 72 #[.val (.int i)] [(.ref w7)]))
                  exact Run.retA X16 hx hret rfl rfl hlk (hb hby d1_72) (by first | (rw [e16]; exact ⟨by simp [own_pick, hc1, hc3, hc5, hc7, hc9, hc11, hc13, hc15], N0, rfl⟩) | exact ⟨by simp [own_pick, hc1, hc3, hc5, hc7, hc9, hc11, hc13, hc15], N0, rfl⟩) (by decide) (by decide)
                · skip
                  refine Run.pre (fun _ k => XS.icmpYes X0.here hx rfl (pc0 := 66) (pc' := 73) rfl (hb hby d1_66) rfl (feq (hc15 : ¬ (i = (7 : Int32)))).2 (by decide) (by decide) k) ?_
                  show Run p e below s _ _ _ (s₁.setTop (mkF m 73 #[.val (.int i)] []))
                  refine Run.pre (fun _ k => XS.iloadN X0.here hx rfl (hb hby d1_73) rfl  k) ?_
                  show Run p e below s _ _ _ (s₁.setTop (mkF m 74 #[.val (.int i)] [(.int i)]))
                  refine Run.pre (fun _ k => XS.bipush X0.here hx rfl (hb hby d1_74) k) ?_
                  show Run p e below s _ _ _ (s₁.setTop (mkF m 76 #[.val (.int i)] [(.int (8 : Int32)), (.int i)]))
                  by_cases hc17 : i = (8 : Int32)
                  · skip
                    refine Run.pre (fun _ k => XS.icmpNo X0.here hx rfl (hb hby d1_76) rfl (teq (hc17 : i = (8 : Int32))).2 k) ?_
                    show Run p e below s _ _ _ (s₁.setTop (mkF m 79 #[.val (.int i)] []))
                    obtain ⟨T18, X18, e18, st18⟩ := getS2 X0 hx hZ hown (host := "") (Or.inl (hw _ (List.mem_of_getElem? (i := 28) rfl))) Via.refl e0 (S8.ext OL.2) (g := (mkF m 79 #[.val (.int i)] [])) rfl (hb hby d1_79)
                    refine Run.pre st18 ?_
                    show Run p e below s _ _ _ (T18.setTop (mkF m 82 #[.val (.int i)] [(.ref w8)]))
                    exact Run.retA X18 hx hret rfl rfl hlk (hb hby d1_82) (by first | (rw [e18]; exact ⟨by simp [own_pick, hc1, hc3, hc5, hc7, hc9, hc11, hc13, hc15, hc17], N0, rfl⟩) | exact ⟨by simp [own_pick, hc1, hc3, hc5, hc7, hc9, hc11, hc13, hc15, hc17], N0, rfl⟩) (by decide) (by decide)
                  · skip
                    refine Run.pre (fun _ k => XS.icmpYes X0.here hx rfl (pc0 := 76) (pc' := 83) rfl (hb hby d1_76) rfl (feq (hc17 : ¬ (i = (8 : Int32)))).2 (by decide) (by decide) k) ?_
                    show Run p e below s _ _ _ (s₁.setTop (mkF m 83 #[.val (.int i)] []))
                    refine Run.pre (fun _ k => XS.iloadN X0.here hx rfl (hb hby d1_83) rfl  k) ?_
                    show Run p e below s _ _ _ (s₁.setTop (mkF m 84 #[.val (.int i)] [(.int i)]))
                    refine Run.pre (fun _ k => XS.bipush X0.here hx rfl (hb hby d1_84) k) ?_
                    show Run p e below s _ _ _ (s₁.setTop (mkF m 86 #[.val (.int i)] [(.int (9 : Int32)), (.int i)]))
                    by_cases hc19 : i = (9 : Int32)
                    · skip
                      refine Run.pre (fun _ k => XS.icmpNo X0.here hx rfl (hb hby d1_86) rfl (teq (hc19 : i = (9 : Int32))).2 k) ?_
                      show Run p e below s _ _ _ (s₁.setTop (mkF m 89 #[.val (.int i)] []))
                      obtain ⟨T20, X20, e20, st20⟩ := getS2 X0 hx hZ hown (host := "") (Or.inl (hw _ (List.mem_of_getElem? (i := 33) rfl))) Via.refl e0 (S9.ext OL.2) (g := (mkF m 89 #[.val (.int i)] [])) rfl (hb hby d1_89)
                      refine Run.pre st20 ?_
                      show Run p e below s _ _ _ (T20.setTop (mkF m 92 #[.val (.int i)] [(.ref w9)]))
                      exact Run.retA X20 hx hret rfl rfl hlk (hb hby d1_92) (by first | (rw [e20]; exact ⟨by simp [own_pick, hc1, hc3, hc5, hc7, hc9, hc11, hc13, hc15, hc17, hc19], N0, rfl⟩) | exact ⟨by simp [own_pick, hc1, hc3, hc5, hc7, hc9, hc11, hc13, hc15, hc17, hc19], N0, rfl⟩) (by decide) (by decide)
                    · skip
                      refine Run.pre (fun _ k => XS.icmpYes X0.here hx rfl (pc0 := 86) (pc' := 93) rfl (hb hby d1_86) rfl (feq (hc19 : ¬ (i = (9 : Int32)))).2 (by decide) (by decide) k) ?_
                      show Run p e below s _ _ _ (s₁.setTop (mkF m 93 #[.val (.int i)] []))
                      refine Run.pre (fun _ k => XS.iloadN X0.here hx rfl (hb hby d1_93) rfl  k) ?_
                      show Run p e below s _ _ _ (s₁.setTop (mkF m 94 #[.val (.int i)] [(.int i)]))
                      refine Run.pre (fun _ k => XS.bipush X0.here hx rfl (hb hby d1_94) k) ?_
                      show Run p e below s _ _ _ (s₁.setTop (mkF m 96 #[.val (.int i)] [(.int (10 : Int32)), (.int i)]))
                      by_cases hc21 : i = (10 : Int32)
                      · skip
                        refine Run.pre (fun _ k => XS.icmpNo X0.here hx rfl (hb hby d1_96) rfl (teq (hc21 : i = (10 : Int32))).2 k) ?_
                        show Run p e below s _ _ _ (s₁.setTop (mkF m 99 #[.val (.int i)] []))
                        obtain ⟨T22, X22, e22, st22⟩ := getS2 X0 hx hZ hown (host := "") (Or.inl (hw _ (List.mem_of_getElem? (i := 31) rfl))) Via.refl e0 (S10.ext OL.2) (g := (mkF m 99 #[.val (.int i)] [])) rfl (hb hby d1_99)
                        refine Run.pre st22 ?_
                        show Run p e below s _ _ _ (T22.setTop (mkF m 102 #[.val (.int i)] [(.ref w10)]))
                        exact Run.retA X22 hx hret rfl rfl hlk (hb hby d1_102) (by first | (rw [e22]; exact ⟨by simp [own_pick, hc1, hc3, hc5, hc7, hc9, hc11, hc13, hc15, hc17, hc19, hc21], N0, rfl⟩) | exact ⟨by simp [own_pick, hc1, hc3, hc5, hc7, hc9, hc11, hc13, hc15, hc17, hc19, hc21], N0, rfl⟩) (by decide) (by decide)
                      · skip
                        refine Run.pre (fun _ k => XS.icmpYes X0.here hx rfl (pc0 := 96) (pc' := 103) rfl (hb hby d1_96) rfl (feq (hc21 : ¬ (i = (10 : Int32)))).2 (by decide) (by decide) k) ?_
                        show Run p e below s _ _ _ (s₁.setTop (mkF m 103 #[.val (.int i)] []))
                        obtain ⟨T23, X23, e23, st23⟩ := getS2 X0 hx hZ hown (host := "") (Or.inl (hw _ (List.mem_of_getElem? (i := 24) rfl))) Via.refl e0 (S11.ext OL.2) (g := (mkF m 103 #[.val (.int i)] [])) rfl (hb hby d1_103)
                        refine Run.pre st23 ?_
                        show Run p e below s _ _ _ (T23.setTop (mkF m 106 #[.val (.int i)] [(.ref w11)]))
                        exact Run.retA X23 hx hret rfl rfl hlk (hb hby d1_106) (by first | (rw [e23]; exact ⟨by simp [own_pick, hc1, hc3, hc5, hc7, hc9, hc11, hc13, hc15, hc17, hc19, hc21], N0, rfl⟩) | exact ⟨by simp [own_pick, hc1, hc3, hc5, hc7, hc9, hc11, hc13, hc15, hc17, hc19, hc21], N0, rfl⟩) (by decide) (by decide)
theorem d2_0 : decode prog_11_method_4_code 0 = .ok (.aload_n 0, 1) := by decide +kernel
theorem d2_1 : decode prog_11_method_4_code 1 = .ok (.getstatic 25, 3) := by decide +kernel
theorem d2_4 : decode prog_11_method_4_code 4 = .ok (.if_acmp .eq 21, 3) := by decide +kernel
theorem d2_25 : decode prog_11_method_4_code 25 = .ok (.iconst 0, 1) := by decide +kernel
theorem d2_26 : decode prog_11_method_4_code 26 = .ok (.ireturn, 1) := by decide +kernel
theorem d2_7 : decode prog_11_method_4_code 7 = .ok (.aload_n 0, 1) := by decide +kernel
theorem d2_8 : decode prog_11_method_4_code 8 = .ok (.getstatic 28, 3) := by decide +kernel
theorem d2_11 : decode prog_11_method_4_code 11 = .ok (.if_acmp .eq 14, 3) := by decide +kernel
theorem d2_14 : decode prog_11_method_4_code 14 = .ok (.aload_n 0, 1) := by decide +kernel
theorem d2_15 : decode prog_11_method_4_code 15 = .ok (.getstatic 31, 3) := by decide +kernel
theorem d2_18 : decode prog_11_method_4_code 18 = .ok (.if_acmp .eq 7, 3) := by decide +kernel
theorem d2_21 : decode prog_11_method_4_code 21 = .ok (.iconst 1, 1) := by decide +kernel
theorem d2_22 : decode prog_11_method_4_code 22 = .ok (.goto 4, 3) := by decide +kernel
theorem pn_2 : plainName "com/example/sorites/sorites/kb/Concept$Kind" = true := by first | (simp [plainName, overriddenIn]; done) | decide +kernel
set_option maxRecDepth 65536 in
set_option maxHeartbeats 40000000 in
theorem rm2 (l : Launch) (Z : State) (a0 : Array Value) (hw : ∀ d ∈ tables_1, d.before a0 Z = true) (a : Addr) (w7 : Addr) (w8 : Addr) (w9 : Addr) (h0 : Heap) (n0 : Nat) (Z0 : n0 ≤ h0.size) (OL : Old Z n0 h0) (S7 : Sta Z Z.heap "com/example/sorites/sorites/kb/Concept$Kind" "WEIGHTED_SUM" "Lcom/example/sorites/sorites/kb/Concept$Kind;" (.ref w7)) (S8 : Sta Z Z.heap "com/example/sorites/sorites/kb/Concept$Kind" "SOME_VALUE" "Lcom/example/sorites/sorites/kb/Concept$Kind;" (.ref w8)) (S9 : Sta Z Z.heap "com/example/sorites/sorites/kb/Concept$Kind" "MODIFIED" "Lcom/example/sorites/sorites/kb/Concept$Kind;" (.ref w9)) :
    Con l (⟨"com/example/sorites/sorites/kb/Concept$Kind", "keepsDegreesCrisp", "()Z"⟩ : MethodName) prog_11_method_4_code 1 (some .boolean) ({ frames := 0, cells := 0, slots := 0, locals := 0 } : Room) Z #[(.ref a)] h0 (fun v h L => v = some (.int (own_kdc a w7 w8 w9)) ∧ Fr n0 L ∧ h = h0) := by
  refine Con.mk (plainFor_of_name pn_2) (fun m => show entryFrame m #[(.ref a)] 1 = mkF m 0 #[.val (.ref a)] [] by first | (simp [entryFrame, mkF, argsToLocals, Value.category]; done) | rfl) ?_
  intro p e s m below meth c s₁ hx hby hml hown hnm hret hlk hZ X0 e0
  have N0 := Fr.nil n0
  show Run p e below s _ _ _ (s₁.setTop (mkF m 0 #[.val (.ref a)] []))
  refine Run.pre (fun _ k => XS.aloadN X0.here hx rfl (hb hby d2_0) rfl rfl k) ?_
  show Run p e below s _ _ _ (s₁.setTop (mkF m 1 #[.val (.ref a)] [(.ref a)]))
  obtain ⟨T24, X24, e24, st24⟩ := getS2 X0 hx hZ hown (host := "") (Or.inl (hw _ (List.mem_of_getElem? (i := 13) rfl))) Via.refl e0 (S7.ext OL.2) (g := (mkF m 1 #[.val (.ref a)] [(.ref a)])) rfl (hb hby d2_1)
  refine Run.pre st24 ?_
  show Run p e below s _ _ _ (T24.setTop (mkF m 4 #[.val (.ref a)] [(.ref w7), (.ref a)]))
  by_cases ha25 : a = w7
  · skip
    refine Run.pre (fun _ k => Jvm.RoadKit.acmp (g := (mkF m 4 #[.val (.ref a)] [(.ref w7), (.ref a)])) X24 hx rfl rfl rfl (pc0 := 4) (pc' := 25) (same := true) rfl (hb hby d2_4) rfl (decide_eq_true (congrArg Value.ref ha25)) (by decide) (by decide) k) ?_
    show Run p e below s _ _ _ (T24.setTop (mkF m 25 #[.val (.ref a)] []))
    refine Run.pre (fun _ k => XS.iconst X24.here hx rfl (hb hby d2_25) k) ?_
    show Run p e below s _ _ _ (T24.setTop (mkF m 26 #[.val (.ref a)] [(.int (0 : Int32))]))
    exact Run.retN X24 hx hret (t := .boolean) (by simp) hlk (hb hby d2_26) (by first | (rw [e24]; exact ⟨by simp [own_kdc, nar, ha25], N0, rfl⟩) | exact ⟨by simp [own_kdc, nar, ha25], N0, rfl⟩) (by decide) (by decide)
  · skip
    refine Run.pre (fun _ k => Jvm.RoadKit.acmp (g := (mkF m 4 #[.val (.ref a)] [(.ref w7), (.ref a)])) X24 hx rfl rfl rfl (pc0 := 4) (pc' := 7) (same := false) rfl (hb hby d2_4) rfl (decide_eq_false fun q => ha25 (Value.ref.inj q)) (by decide) (by decide) k) ?_
    show Run p e below s _ _ _ (T24.setTop (mkF m 7 #[.val (.ref a)] []))
    refine Run.pre (fun _ k => XS.aloadN X24.here hx rfl (hb hby d2_7) rfl rfl k) ?_
    show Run p e below s _ _ _ (T24.setTop (mkF m 8 #[.val (.ref a)] [(.ref a)]))
    obtain ⟨T26, X26, e26, st26⟩ := getS2 X24 hx hZ hown (host := "") (Or.inl (hw _ (List.mem_of_getElem? (i := 15) rfl))) Via.refl e24 (S8.ext OL.2) (g := (mkF m 8 #[.val (.ref a)] [(.ref a)])) rfl (hb hby d2_8)
    refine Run.pre st26 ?_
    show Run p e below s _ _ _ (T26.setTop (mkF m 11 #[.val (.ref a)] [(.ref w8), (.ref a)]))
    by_cases ha27 : a = w8
    · skip
      refine Run.pre (fun _ k => Jvm.RoadKit.acmp (g := (mkF m 11 #[.val (.ref a)] [(.ref w8), (.ref a)])) X26 hx rfl rfl rfl (pc0 := 11) (pc' := 25) (same := true) rfl (hb hby d2_11) rfl (decide_eq_true (congrArg Value.ref ha27)) (by decide) (by decide) k) ?_
      show Run p e below s _ _ _ (T26.setTop (mkF m 25 #[.val (.ref a)] []))
      refine Run.pre (fun _ k => XS.iconst X26.here hx rfl (hb hby d2_25) k) ?_
      show Run p e below s _ _ _ (T26.setTop (mkF m 26 #[.val (.ref a)] [(.int (0 : Int32))]))
      exact Run.retN X26 hx hret (t := .boolean) (by simp) hlk (hb hby d2_26) (by first | (rw [e26]; exact ⟨by simp [own_kdc, nar, ha25, ha27], N0, rfl⟩) | exact ⟨by simp [own_kdc, nar, ha25, ha27], N0, rfl⟩) (by decide) (by decide)
    · skip
      refine Run.pre (fun _ k => Jvm.RoadKit.acmp (g := (mkF m 11 #[.val (.ref a)] [(.ref w8), (.ref a)])) X26 hx rfl rfl rfl (pc0 := 11) (pc' := 14) (same := false) rfl (hb hby d2_11) rfl (decide_eq_false fun q => ha27 (Value.ref.inj q)) (by decide) (by decide) k) ?_
      show Run p e below s _ _ _ (T26.setTop (mkF m 14 #[.val (.ref a)] []))
      refine Run.pre (fun _ k => XS.aloadN X26.here hx rfl (hb hby d2_14) rfl rfl k) ?_
      show Run p e below s _ _ _ (T26.setTop (mkF m 15 #[.val (.ref a)] [(.ref a)]))
      obtain ⟨T28, X28, e28, st28⟩ := getS2 X26 hx hZ hown (host := "") (Or.inl (hw _ (List.mem_of_getElem? (i := 17) rfl))) Via.refl e26 (S9.ext OL.2) (g := (mkF m 15 #[.val (.ref a)] [(.ref a)])) rfl (hb hby d2_15)
      refine Run.pre st28 ?_
      show Run p e below s _ _ _ (T28.setTop (mkF m 18 #[.val (.ref a)] [(.ref w9), (.ref a)]))
      by_cases ha29 : a = w9
      · skip
        refine Run.pre (fun _ k => Jvm.RoadKit.acmp (g := (mkF m 18 #[.val (.ref a)] [(.ref w9), (.ref a)])) X28 hx rfl rfl rfl (pc0 := 18) (pc' := 25) (same := true) rfl (hb hby d2_18) rfl (decide_eq_true (congrArg Value.ref ha29)) (by decide) (by decide) k) ?_
        show Run p e below s _ _ _ (T28.setTop (mkF m 25 #[.val (.ref a)] []))
        refine Run.pre (fun _ k => XS.iconst X28.here hx rfl (hb hby d2_25) k) ?_
        show Run p e below s _ _ _ (T28.setTop (mkF m 26 #[.val (.ref a)] [(.int (0 : Int32))]))
        exact Run.retN X28 hx hret (t := .boolean) (by simp) hlk (hb hby d2_26) (by first | (rw [e28]; exact ⟨by simp [own_kdc, nar, ha25, ha27, ha29], N0, rfl⟩) | exact ⟨by simp [own_kdc, nar, ha25, ha27, ha29], N0, rfl⟩) (by decide) (by decide)
      · skip
        refine Run.pre (fun _ k => Jvm.RoadKit.acmp (g := (mkF m 18 #[.val (.ref a)] [(.ref w9), (.ref a)])) X28 hx rfl rfl rfl (pc0 := 18) (pc' := 21) (same := false) rfl (hb hby d2_18) rfl (decide_eq_false fun q => ha29 (Value.ref.inj q)) (by decide) (by decide) k) ?_
        show Run p e below s _ _ _ (T28.setTop (mkF m 21 #[.val (.ref a)] []))
        refine Run.pre (fun _ k => XS.iconst X28.here hx rfl (hb hby d2_21) k) ?_
        show Run p e below s _ _ _ (T28.setTop (mkF m 22 #[.val (.ref a)] [(.int (1 : Int32))]))
        refine Run.pre (fun _ k => XS.goto X28.here hx rfl (pc0 := 22) (pc' := 26) rfl (hb hby d2_22) (by decide) (by decide) k) ?_
        show Run p e below s _ _ _ (T28.setTop (mkF m 26 #[.val (.ref a)] [(.int (1 : Int32))]))
        exact Run.retN X28 hx hret (t := .boolean) (by simp) hlk (hb hby d2_26) (by first | (rw [e28]; exact ⟨by simp [own_kdc, nar, ha25, ha27, ha29], N0, rfl⟩) | exact ⟨by simp [own_kdc, nar, ha25, ha27, ha29], N0, rfl⟩) (by decide) (by decide)
theorem pd_0 : parseMethodDescriptor "(I)Lcom/example/sorites/sorites/kb/Concept$Kind;" = some ⟨[.int], some (.object "com/example/sorites/sorites/kb/Concept$Kind")⟩ := by decide +kernel
theorem pd_1 : parseMethodDescriptor "()Z" = some ⟨[], some .boolean⟩ := by decide +kernel
theorem pn_0 : plainName "com/example/sorites/sorites/kb/KindKeepsDegreesCrispPinLaw" = true := by first | (simp [plainName, overriddenIn]; done) | decide +kernel
set_option maxRecDepth 65536 in
set_option maxHeartbeats 40000000 in
theorem rm0 (l : Launch) (Z : State) (a0 : Array Value) (hw : ∀ d ∈ tables_1, d.before a0 Z = true) (pz : Int32) (w0 : Addr) (w1 : Addr) (w2 : Addr) (w3 : Addr) (w4 : Addr) (w5 : Addr) (w6 : Addr) (w7 : Addr) (w8 : Addr) (w9 : Addr) (w10 : Addr) (w11 : Addr) (h0 : Heap) (n0 : Nat) (Z0 : n0 ≤ h0.size) (OL : Old Z n0 h0) (S0 : Sta Z Z.heap "com/example/sorites/sorites/kb/Concept$Kind" "ATOMIC" "Lcom/example/sorites/sorites/kb/Concept$Kind;" (.ref w0)) (S1 : Sta Z Z.heap "com/example/sorites/sorites/kb/Concept$Kind" "TOP" "Lcom/example/sorites/sorites/kb/Concept$Kind;" (.ref w1)) (S2 : Sta Z Z.heap "com/example/sorites/sorites/kb/Concept$Kind" "BOTTOM" "Lcom/example/sorites/sorites/kb/Concept$Kind;" (.ref w2)) (S3 : Sta Z Z.heap "com/example/sorites/sorites/kb/Concept$Kind" "NOT" "Lcom/example/sorites/sorites/kb/Concept$Kind;" (.ref w3)) (S4 : Sta Z Z.heap "com/example/sorites/sorites/kb/Concept$Kind" "AND" "Lcom/example/sorites/sorites/kb/Concept$Kind;" (.ref w4)) (S5 : Sta Z Z.heap "com/example/sorites/sorites/kb/Concept$Kind" "OR" "Lcom/example/sorites/sorites/kb/Concept$Kind;" (.ref w5)) (S6 : Sta Z Z.heap "com/example/sorites/sorites/kb/Concept$Kind" "IMPLIES" "Lcom/example/sorites/sorites/kb/Concept$Kind;" (.ref w6)) (S7 : Sta Z Z.heap "com/example/sorites/sorites/kb/Concept$Kind" "WEIGHTED_SUM" "Lcom/example/sorites/sorites/kb/Concept$Kind;" (.ref w7)) (S8 : Sta Z Z.heap "com/example/sorites/sorites/kb/Concept$Kind" "SOME_VALUE" "Lcom/example/sorites/sorites/kb/Concept$Kind;" (.ref w8)) (S9 : Sta Z Z.heap "com/example/sorites/sorites/kb/Concept$Kind" "MODIFIED" "Lcom/example/sorites/sorites/kb/Concept$Kind;" (.ref w9)) (S10 : Sta Z Z.heap "com/example/sorites/sorites/kb/Concept$Kind" "SOME" "Lcom/example/sorites/sorites/kb/Concept$Kind;" (.ref w10)) (S11 : Sta Z Z.heap "com/example/sorites/sorites/kb/Concept$Kind" "ALL" "Lcom/example/sorites/sorites/kb/Concept$Kind;" (.ref w11)) (EP : Exa Z h0 (own_pick ((pz &&& (2147483647 : Int32)) % (12 : Int32)) w0 w1 w2 w3 w4 w5 w6 w7 w8 w9 w10 w11) "com/example/sorites/sorites/kb/Concept$Kind") (n0_7 : w0 ≠ w7) (n0_8 : w0 ≠ w8) (n0_9 : w0 ≠ w9) (n1_7 : w1 ≠ w7) (n1_8 : w1 ≠ w8) (n1_9 : w1 ≠ w9) (n2_7 : w2 ≠ w7) (n2_8 : w2 ≠ w8) (n2_9 : w2 ≠ w9) (n3_7 : w3 ≠ w7) (n3_8 : w3 ≠ w8) (n3_9 : w3 ≠ w9) (n4_7 : w4 ≠ w7) (n4_8 : w4 ≠ w8) (n4_9 : w4 ≠ w9) (n5_7 : w5 ≠ w7) (n5_8 : w5 ≠ w8) (n5_9 : w5 ≠ w9) (n6_7 : w6 ≠ w7) (n6_8 : w6 ≠ w8) (n6_9 : w6 ≠ w9) (n10_7 : w10 ≠ w7) (n10_8 : w10 ≠ w8) (n10_9 : w10 ≠ w9) (n11_7 : w11 ≠ w7) (n11_8 : w11 ≠ w8) (n11_9 : w11 ≠ w9) :
    Con l x code maxLocals ret room_1 Z #[(.int pz)] h0 (fun v h L => v = some (.int 1) ∧ Fr n0 L) := by
  refine Con.mk (plainFor_of_name pn_0) (fun m => show entryFrame m #[(.int pz)] maxLocals = mkF m 0 #[.val (.int pz), .unset, .unset, .unset] [] by first | (simp [entryFrame, mkF, argsToLocals, Value.category, maxLocals]; done) | rfl) ?_
  intro p e s m below meth c s₁ hx hby hml hown hnm hret hlk hZ X0 e0
  have hml : c.maxLocals = 4 := hml
  have N0 := Fr.nil n0
  show Run p e below s _ _ _ (s₁.setTop (mkF m 0 #[.val (.int pz), .unset, .unset, .unset] []))
  refine Run.pre (fun _ k => XS.iloadN X0.here hx rfl (hb hby at_0) rfl  k) ?_
  show Run p e below s _ _ _ (s₁.setTop (mkF m 1 #[.val (.int pz), .unset, .unset, .unset] [(.int pz)]))
  refine Run.pre (X0.ldcInt hx hown (mvT hZ (hw _ (List.mem_of_getElem? (i := 0) rfl))) (g := (mkF m 1 #[.val (.int pz), .unset, .unset, .unset] [(.int pz)])) rfl (hb hby at_1)) ?_
  show Run p e below s _ _ _ (s₁.setTop (mkF m 3 #[.val (.int pz), .unset, .unset, .unset] [(.int (2147483647 : Int32)), (.int pz)]))
  refine Run.pre (fun _ k => XS.iand X0.here hx rfl (hb hby at_3) rfl k) ?_
  show Run p e below s _ _ _ (s₁.setTop (mkF m 4 #[.val (.int pz), .unset, .unset, .unset] [(.int (pz &&& (2147483647 : Int32)))]))
  refine Run.pre (fun _ k => XS.bipush X0.here hx rfl (hb hby at_4) k) ?_
  show Run p e below s _ _ _ (s₁.setTop (mkF m 6 #[.val (.int pz), .unset, .unset, .unset] [(.int (12 : Int32)), (.int (pz &&& (2147483647 : Int32)))]))
  refine Run.pre (fun _ k => iremM X0 hx rfl (hb hby at_6) rfl (by decide) k) ?_
  show Run p e below s _ _ _ (s₁.setTop (mkF m 7 #[.val (.int pz), .unset, .unset, .unset] [(.int ((pz &&& (2147483647 : Int32)) % (12 : Int32)))]))
  refine Run.pre (fun _ k => XS.istoreN X0.here hx rfl (hb hby at_7) rfl (l' := #[.val (.int pz), .val (.int ((pz &&& (2147483647 : Int32)) % (12 : Int32))), .unset, .unset]) rfl k) ?_
  show Run p e below s _ _ _ (s₁.setTop (mkF m 8 #[.val (.int pz), .val (.int ((pz &&& (2147483647 : Int32)) % (12 : Int32))), .unset, .unset] []))
  refine Run.pre (fun _ k => XS.iloadN X0.here hx rfl (hb hby at_8) rfl  k) ?_
  show Run p e below s _ _ _ (s₁.setTop (mkF m 9 #[.val (.int pz), .val (.int ((pz &&& (2147483647 : Int32)) % (12 : Int32))), .unset, .unset] [(.int ((pz &&& (2147483647 : Int32)) % (12 : Int32)))]))
  refine Run.callS X0 hx hZ (y := (⟨"com/example/sorites/sorites/kb/KindKeepsDegreesCrispPinLaw", "pick", "(I)Lcom/example/sorites/sorites/kb/Concept$Kind;"⟩ : MethodName)) hown (hw _ (List.mem_of_getElem? (i := 1) rfl)) (hw _ (List.mem_of_getElem? (i := 2) rfl)) (hw _ (List.mem_of_getElem? (i := 3) rfl)) (hw _ (List.mem_of_getElem? (i := 4) rfl)) (by decide) (W := 0) (rm1 l Z a0 hw ((pz &&& (2147483647 : Int32)) % (12 : Int32)) w0 w1 w2 w3 w4 w5 w6 w7 w8 w9 w10 w11 h0 n0 Z0 OL S0 S1 S2 S3 S4 S5 S6 S7 S8 S9 S10 S11) e0 (by decide) (by decide) (by decide) (by decide) (g := (mkF m 9 #[.val (.int pz), .val (.int ((pz &&& (2147483647 : Int32)) % (12 : Int32))), .unset, .unset] [(.int ((pz &&& (2147483647 : Int32)) % (12 : Int32)))])) rfl (by rw [hml]; rfl) (argsL := [(.int ((pz &&& (2147483647 : Int32)) % (12 : Int32)))]) (rest := []) (lenOf pd_0 rfl) rfl (by show 2 * 0 + _ ≤ _; exact Nat.le_of_eq rfl) (hb hby at_9) ?_
  intro v30 T30 L30 X30 hQ30
  obtain ⟨rfl, Nq30, he30⟩ := hQ30
  have N30 := Fr.app N0 Nq30
  have e30 : T30.heap = h0 := he30
  show Run p e below s _ _ _ (T30.setTop (mkF m 12 #[.val (.int pz), .val (.int ((pz &&& (2147483647 : Int32)) % (12 : Int32))), .unset, .unset] [(.ref (own_pick ((pz &&& (2147483647 : Int32)) % (12 : Int32)) w0 w1 w2 w3 w4 w5 w6 w7 w8 w9 w10 w11))]))
  refine Run.pre (fun _ k => XS.astoreN X30.here hx rfl (hb hby at_12) rfl rfl (l' := #[.val (.int pz), .val (.int ((pz &&& (2147483647 : Int32)) % (12 : Int32))), .val (.ref (own_pick ((pz &&& (2147483647 : Int32)) % (12 : Int32)) w0 w1 w2 w3 w4 w5 w6 w7 w8 w9 w10 w11)), .unset]) rfl k) ?_
  show Run p e below s _ _ _ (T30.setTop (mkF m 13 #[.val (.int pz), .val (.int ((pz &&& (2147483647 : Int32)) % (12 : Int32))), .val (.ref (own_pick ((pz &&& (2147483647 : Int32)) % (12 : Int32)) w0 w1 w2 w3 w4 w5 w6 w7 w8 w9 w10 w11)), .unset] []))
  refine Run.pre (fun _ k => XS.iloadN X30.here hx rfl (hb hby at_13) rfl  k) ?_
  show Run p e below s _ _ _ (T30.setTop (mkF m 14 #[.val (.int pz), .val (.int ((pz &&& (2147483647 : Int32)) % (12 : Int32))), .val (.ref (own_pick ((pz &&& (2147483647 : Int32)) % (12 : Int32)) w0 w1 w2 w3 w4 w5 w6 w7 w8 w9 w10 w11)), .unset] [(.int ((pz &&& (2147483647 : Int32)) % (12 : Int32)))]))
  refine Run.pre (fun _ k => XS.bipush X30.here hx rfl (hb hby at_14) k) ?_
  show Run p e below s _ _ _ (T30.setTop (mkF m 16 #[.val (.int pz), .val (.int ((pz &&& (2147483647 : Int32)) % (12 : Int32))), .val (.ref (own_pick ((pz &&& (2147483647 : Int32)) % (12 : Int32)) w0 w1 w2 w3 w4 w5 w6 w7 w8 w9 w10 w11)), .unset] [(.int (7 : Int32)), (.int ((pz &&& (2147483647 : Int32)) % (12 : Int32)))]))
  by_cases hc31 : ((pz &&& (2147483647 : Int32)) % (12 : Int32)) = (7 : Int32)
  · skip
    refine Run.pre (fun _ k => XS.icmpYes X30.here hx rfl (pc0 := 16) (pc' := 35) rfl (hb hby at_16) rfl (teq (hc31 : ((pz &&& (2147483647 : Int32)) % (12 : Int32)) = (7 : Int32))).1 (by decide) (by decide) k) ?_
    show Run p e below s _ _ _ (T30.setTop (mkF m 35 #[.val (.int pz), .val (.int ((pz &&& (2147483647 : Int32)) % (12 : Int32))), .val (.ref (own_pick ((pz &&& (2147483647 : Int32)) % (12 : Int32)) w0 w1 w2 w3 w4 w5 w6 w7 w8 w9 w10 w11)), .unset] []))
    refine Run.pre (fun _ k => XS.iconst X30.here hx rfl (hb hby at_35) k) ?_
    show Run p e below s _ _ _ (T30.setTop (mkF m 36 #[.val (.int pz), .val (.int ((pz &&& (2147483647 : Int32)) % (12 : Int32))), .val (.ref (own_pick ((pz &&& (2147483647 : Int32)) % (12 : Int32)) w0 w1 w2 w3 w4 w5 w6 w7 w8 w9 w10 w11)), .unset] [(.int (0 : Int32))]))
    refine Run.pre (fun _ k => XS.istoreN X30.here hx rfl (hb hby at_36) rfl (l' := #[.val (.int pz), .val (.int ((pz &&& (2147483647 : Int32)) % (12 : Int32))), .val (.ref (own_pick ((pz &&& (2147483647 : Int32)) % (12 : Int32)) w0 w1 w2 w3 w4 w5 w6 w7 w8 w9 w10 w11)), .val (.int (0 : Int32))]) rfl k) ?_
    show Run p e below s _ _ _ (T30.setTop (mkF m 37 #[.val (.int pz), .val (.int ((pz &&& (2147483647 : Int32)) % (12 : Int32))), .val (.ref (own_pick ((pz &&& (2147483647 : Int32)) % (12 : Int32)) w0 w1 w2 w3 w4 w5 w6 w7 w8 w9 w10 w11)), .val (.int (0 : Int32))] []))
    refine Run.pre (fun _ k => XS.aloadN X30.here hx rfl (hb hby at_37) rfl rfl k) ?_
    show Run p e below s _ _ _ (T30.setTop (mkF m 38 #[.val (.int pz), .val (.int ((pz &&& (2147483647 : Int32)) % (12 : Int32))), .val (.ref (own_pick ((pz &&& (2147483647 : Int32)) % (12 : Int32)) w0 w1 w2 w3 w4 w5 w6 w7 w8 w9 w10 w11)), .val (.int (0 : Int32))] [(.ref (own_pick ((pz &&& (2147483647 : Int32)) % (12 : Int32)) w0 w1 w2 w3 w4 w5 w6 w7 w8 w9 w10 w11))]))
    refine Run.callV X30 hx hZ (y := (⟨"com/example/sorites/sorites/kb/Concept$Kind", "keepsDegreesCrisp", "()Z"⟩ : MethodName)) (z := (⟨"com/example/sorites/sorites/kb/Concept$Kind", "keepsDegreesCrisp", "()Z"⟩ : MethodName)) hown (hw _ (List.mem_of_getElem? (i := 8) rfl)) (hw _ (List.mem_of_getElem? (i := 9) rfl)) (notFace_of_selects (args := #[]) (mvT hZ (hw _ (List.mem_of_getElem? (i := 11) rfl)))) (hw _ (List.mem_of_getElem? (i := 11) rfl)) (hw _ (List.mem_of_getElem? (i := 10) rfl)) (hw _ (List.mem_of_getElem? (i := 12) rfl)) (hw _ (List.mem_of_getElem? (i := 6) rfl)) (by decide) (b := (own_pick ((pz &&& (2147483647 : Int32)) % (12 : Int32)) w0 w1 w2 w3 w4 w5 w6 w7 w8 w9 w10 w11)) EP (W := 0) (rm2 l Z a0 hw (own_pick ((pz &&& (2147483647 : Int32)) % (12 : Int32)) w0 w1 w2 w3 w4 w5 w6 w7 w8 w9 w10 w11) w7 w8 w9 h0 n0 Z0 OL S7 S8 S9) e30 (by decide) (by decide) (by decide) (by decide) (g := (mkF m 38 #[.val (.int pz), .val (.int ((pz &&& (2147483647 : Int32)) % (12 : Int32))), .val (.ref (own_pick ((pz &&& (2147483647 : Int32)) % (12 : Int32)) w0 w1 w2 w3 w4 w5 w6 w7 w8 w9 w10 w11)), .val (.int (0 : Int32))] [(.ref (own_pick ((pz &&& (2147483647 : Int32)) % (12 : Int32)) w0 w1 w2 w3 w4 w5 w6 w7 w8 w9 w10 w11))])) rfl (by rw [hml]; rfl) (argsL := []) (rest := []) (lenOf pd_1 rfl) rfl (by show 2 * 0 + _ ≤ _; exact Nat.le_of_eq rfl) (hb hby at_38) ?_
    intro v32 T32 L32 X32 hQ32
    obtain ⟨rfl, Nq32, he32⟩ := hQ32
    have N32 := Fr.app N30 Nq32
    have e32 : T32.heap = h0 := he32
    show Run p e below s _ _ _ (T32.setTop (mkF m 41 #[.val (.int pz), .val (.int ((pz &&& (2147483647 : Int32)) % (12 : Int32))), .val (.ref (own_pick ((pz &&& (2147483647 : Int32)) % (12 : Int32)) w0 w1 w2 w3 w4 w5 w6 w7 w8 w9 w10 w11)), .val (.int (0 : Int32))] [(.int (own_kdc (own_pick ((pz &&& (2147483647 : Int32)) % (12 : Int32)) w0 w1 w2 w3 w4 w5 w6 w7 w8 w9 w10 w11) w7 w8 w9))]))
    refine Run.pre (fun _ k => XS.iloadN X32.here hx rfl (hb hby at_41) rfl  k) ?_
    show Run p e below s _ _ _ (T32.setTop (mkF m 42 #[.val (.int pz), .val (.int ((pz &&& (2147483647 : Int32)) % (12 : Int32))), .val (.ref (own_pick ((pz &&& (2147483647 : Int32)) % (12 : Int32)) w0 w1 w2 w3 w4 w5 w6 w7 w8 w9 w10 w11)), .val (.int (0 : Int32))] [(.int (0 : Int32)), (.int (own_kdc (own_pick ((pz &&& (2147483647 : Int32)) % (12 : Int32)) w0 w1 w2 w3 w4 w5 w6 w7 w8 w9 w10 w11) w7 w8 w9))]))
    refine Run.pre (fun _ k => XS.icmpNo X32.here hx rfl (hb hby at_42) rfl (teq (((own_plain ((pz &&& (2147483647 : Int32)) % (12 : Int32)) w0 w1 w2 w3 w4 w5 w6 w7 w8 w9 w10 w11 n0_7 n0_8 n0_9 n1_7 n1_8 n1_9 n2_7 n2_8 n2_9 n3_7 n3_8 n3_9 n4_7 n4_8 n4_9 n5_7 n5_8 n5_9 n6_7 n6_8 n6_9 n10_7 n10_8 n10_9 n11_7 n11_8 n11_9).trans (by simp [hc31])) : (own_kdc (own_pick ((pz &&& (2147483647 : Int32)) % (12 : Int32)) w0 w1 w2 w3 w4 w5 w6 w7 w8 w9 w10 w11) w7 w8 w9) = (0 : Int32))).2 k) ?_
    show Run p e below s _ _ _ (T32.setTop (mkF m 45 #[.val (.int pz), .val (.int ((pz &&& (2147483647 : Int32)) % (12 : Int32))), .val (.ref (own_pick ((pz &&& (2147483647 : Int32)) % (12 : Int32)) w0 w1 w2 w3 w4 w5 w6 w7 w8 w9 w10 w11)), .val (.int (0 : Int32))] []))
    refine Run.pre (fun _ k => XS.iconst X32.here hx rfl (hb hby at_45) k) ?_
    show Run p e below s _ _ _ (T32.setTop (mkF m 46 #[.val (.int pz), .val (.int ((pz &&& (2147483647 : Int32)) % (12 : Int32))), .val (.ref (own_pick ((pz &&& (2147483647 : Int32)) % (12 : Int32)) w0 w1 w2 w3 w4 w5 w6 w7 w8 w9 w10 w11)), .val (.int (0 : Int32))] [(.int (1 : Int32))]))
    refine Run.pre (fun _ k => XS.goto X32.here hx rfl (pc0 := 46) (pc' := 50) rfl (hb hby at_46) (by decide) (by decide) k) ?_
    show Run p e below s _ _ _ (T32.setTop (mkF m 50 #[.val (.int pz), .val (.int ((pz &&& (2147483647 : Int32)) % (12 : Int32))), .val (.ref (own_pick ((pz &&& (2147483647 : Int32)) % (12 : Int32)) w0 w1 w2 w3 w4 w5 w6 w7 w8 w9 w10 w11)), .val (.int (0 : Int32))] [(.int (1 : Int32))]))
    exact Run.retN X32 hx hret (t := .boolean) (by simp) hlk (hb hby at_50) (by first | (rw [e32]; exact ⟨rfl, N32⟩) | exact ⟨rfl, N32⟩) (by decide) (by decide)
  · skip
    refine Run.pre (fun _ k => XS.icmpNo X30.here hx rfl (hb hby at_16) rfl (feq (hc31 : ¬ (((pz &&& (2147483647 : Int32)) % (12 : Int32)) = (7 : Int32)))).1 k) ?_
    show Run p e below s _ _ _ (T30.setTop (mkF m 19 #[.val (.int pz), .val (.int ((pz &&& (2147483647 : Int32)) % (12 : Int32))), .val (.ref (own_pick ((pz &&& (2147483647 : Int32)) % (12 : Int32)) w0 w1 w2 w3 w4 w5 w6 w7 w8 w9 w10 w11)), .unset] []))
    refine Run.pre (fun _ k => XS.iloadN X30.here hx rfl (hb hby at_19) rfl  k) ?_
    show Run p e below s _ _ _ (T30.setTop (mkF m 20 #[.val (.int pz), .val (.int ((pz &&& (2147483647 : Int32)) % (12 : Int32))), .val (.ref (own_pick ((pz &&& (2147483647 : Int32)) % (12 : Int32)) w0 w1 w2 w3 w4 w5 w6 w7 w8 w9 w10 w11)), .unset] [(.int ((pz &&& (2147483647 : Int32)) % (12 : Int32)))]))
    refine Run.pre (fun _ k => XS.bipush X30.here hx rfl (hb hby at_20) k) ?_
    show Run p e below s _ _ _ (T30.setTop (mkF m 22 #[.val (.int pz), .val (.int ((pz &&& (2147483647 : Int32)) % (12 : Int32))), .val (.ref (own_pick ((pz &&& (2147483647 : Int32)) % (12 : Int32)) w0 w1 w2 w3 w4 w5 w6 w7 w8 w9 w10 w11)), .unset] [(.int (8 : Int32)), (.int ((pz &&& (2147483647 : Int32)) % (12 : Int32)))]))
    by_cases hc33 : ((pz &&& (2147483647 : Int32)) % (12 : Int32)) = (8 : Int32)
    · skip
      refine Run.pre (fun _ k => XS.icmpYes X30.here hx rfl (pc0 := 22) (pc' := 35) rfl (hb hby at_22) rfl (teq (hc33 : ((pz &&& (2147483647 : Int32)) % (12 : Int32)) = (8 : Int32))).1 (by decide) (by decide) k) ?_
      show Run p e below s _ _ _ (T30.setTop (mkF m 35 #[.val (.int pz), .val (.int ((pz &&& (2147483647 : Int32)) % (12 : Int32))), .val (.ref (own_pick ((pz &&& (2147483647 : Int32)) % (12 : Int32)) w0 w1 w2 w3 w4 w5 w6 w7 w8 w9 w10 w11)), .unset] []))
      refine Run.pre (fun _ k => XS.iconst X30.here hx rfl (hb hby at_35) k) ?_
      show Run p e below s _ _ _ (T30.setTop (mkF m 36 #[.val (.int pz), .val (.int ((pz &&& (2147483647 : Int32)) % (12 : Int32))), .val (.ref (own_pick ((pz &&& (2147483647 : Int32)) % (12 : Int32)) w0 w1 w2 w3 w4 w5 w6 w7 w8 w9 w10 w11)), .unset] [(.int (0 : Int32))]))
      refine Run.pre (fun _ k => XS.istoreN X30.here hx rfl (hb hby at_36) rfl (l' := #[.val (.int pz), .val (.int ((pz &&& (2147483647 : Int32)) % (12 : Int32))), .val (.ref (own_pick ((pz &&& (2147483647 : Int32)) % (12 : Int32)) w0 w1 w2 w3 w4 w5 w6 w7 w8 w9 w10 w11)), .val (.int (0 : Int32))]) rfl k) ?_
      show Run p e below s _ _ _ (T30.setTop (mkF m 37 #[.val (.int pz), .val (.int ((pz &&& (2147483647 : Int32)) % (12 : Int32))), .val (.ref (own_pick ((pz &&& (2147483647 : Int32)) % (12 : Int32)) w0 w1 w2 w3 w4 w5 w6 w7 w8 w9 w10 w11)), .val (.int (0 : Int32))] []))
      refine Run.pre (fun _ k => XS.aloadN X30.here hx rfl (hb hby at_37) rfl rfl k) ?_
      show Run p e below s _ _ _ (T30.setTop (mkF m 38 #[.val (.int pz), .val (.int ((pz &&& (2147483647 : Int32)) % (12 : Int32))), .val (.ref (own_pick ((pz &&& (2147483647 : Int32)) % (12 : Int32)) w0 w1 w2 w3 w4 w5 w6 w7 w8 w9 w10 w11)), .val (.int (0 : Int32))] [(.ref (own_pick ((pz &&& (2147483647 : Int32)) % (12 : Int32)) w0 w1 w2 w3 w4 w5 w6 w7 w8 w9 w10 w11))]))
      refine Run.callV X30 hx hZ (y := (⟨"com/example/sorites/sorites/kb/Concept$Kind", "keepsDegreesCrisp", "()Z"⟩ : MethodName)) (z := (⟨"com/example/sorites/sorites/kb/Concept$Kind", "keepsDegreesCrisp", "()Z"⟩ : MethodName)) hown (hw _ (List.mem_of_getElem? (i := 8) rfl)) (hw _ (List.mem_of_getElem? (i := 9) rfl)) (notFace_of_selects (args := #[]) (mvT hZ (hw _ (List.mem_of_getElem? (i := 11) rfl)))) (hw _ (List.mem_of_getElem? (i := 11) rfl)) (hw _ (List.mem_of_getElem? (i := 10) rfl)) (hw _ (List.mem_of_getElem? (i := 12) rfl)) (hw _ (List.mem_of_getElem? (i := 6) rfl)) (by decide) (b := (own_pick ((pz &&& (2147483647 : Int32)) % (12 : Int32)) w0 w1 w2 w3 w4 w5 w6 w7 w8 w9 w10 w11)) EP (W := 0) (rm2 l Z a0 hw (own_pick ((pz &&& (2147483647 : Int32)) % (12 : Int32)) w0 w1 w2 w3 w4 w5 w6 w7 w8 w9 w10 w11) w7 w8 w9 h0 n0 Z0 OL S7 S8 S9) e30 (by decide) (by decide) (by decide) (by decide) (g := (mkF m 38 #[.val (.int pz), .val (.int ((pz &&& (2147483647 : Int32)) % (12 : Int32))), .val (.ref (own_pick ((pz &&& (2147483647 : Int32)) % (12 : Int32)) w0 w1 w2 w3 w4 w5 w6 w7 w8 w9 w10 w11)), .val (.int (0 : Int32))] [(.ref (own_pick ((pz &&& (2147483647 : Int32)) % (12 : Int32)) w0 w1 w2 w3 w4 w5 w6 w7 w8 w9 w10 w11))])) rfl (by rw [hml]; rfl) (argsL := []) (rest := []) (lenOf pd_1 rfl) rfl (by show 2 * 0 + _ ≤ _; exact Nat.le_of_eq rfl) (hb hby at_38) ?_
      intro v34 T34 L34 X34 hQ34
      obtain ⟨rfl, Nq34, he34⟩ := hQ34
      have N34 := Fr.app N30 Nq34
      have e34 : T34.heap = h0 := he34
      show Run p e below s _ _ _ (T34.setTop (mkF m 41 #[.val (.int pz), .val (.int ((pz &&& (2147483647 : Int32)) % (12 : Int32))), .val (.ref (own_pick ((pz &&& (2147483647 : Int32)) % (12 : Int32)) w0 w1 w2 w3 w4 w5 w6 w7 w8 w9 w10 w11)), .val (.int (0 : Int32))] [(.int (own_kdc (own_pick ((pz &&& (2147483647 : Int32)) % (12 : Int32)) w0 w1 w2 w3 w4 w5 w6 w7 w8 w9 w10 w11) w7 w8 w9))]))
      refine Run.pre (fun _ k => XS.iloadN X34.here hx rfl (hb hby at_41) rfl  k) ?_
      show Run p e below s _ _ _ (T34.setTop (mkF m 42 #[.val (.int pz), .val (.int ((pz &&& (2147483647 : Int32)) % (12 : Int32))), .val (.ref (own_pick ((pz &&& (2147483647 : Int32)) % (12 : Int32)) w0 w1 w2 w3 w4 w5 w6 w7 w8 w9 w10 w11)), .val (.int (0 : Int32))] [(.int (0 : Int32)), (.int (own_kdc (own_pick ((pz &&& (2147483647 : Int32)) % (12 : Int32)) w0 w1 w2 w3 w4 w5 w6 w7 w8 w9 w10 w11) w7 w8 w9))]))
      refine Run.pre (fun _ k => XS.icmpNo X34.here hx rfl (hb hby at_42) rfl (teq (((own_plain ((pz &&& (2147483647 : Int32)) % (12 : Int32)) w0 w1 w2 w3 w4 w5 w6 w7 w8 w9 w10 w11 n0_7 n0_8 n0_9 n1_7 n1_8 n1_9 n2_7 n2_8 n2_9 n3_7 n3_8 n3_9 n4_7 n4_8 n4_9 n5_7 n5_8 n5_9 n6_7 n6_8 n6_9 n10_7 n10_8 n10_9 n11_7 n11_8 n11_9).trans (by simp [hc31, hc33])) : (own_kdc (own_pick ((pz &&& (2147483647 : Int32)) % (12 : Int32)) w0 w1 w2 w3 w4 w5 w6 w7 w8 w9 w10 w11) w7 w8 w9) = (0 : Int32))).2 k) ?_
      show Run p e below s _ _ _ (T34.setTop (mkF m 45 #[.val (.int pz), .val (.int ((pz &&& (2147483647 : Int32)) % (12 : Int32))), .val (.ref (own_pick ((pz &&& (2147483647 : Int32)) % (12 : Int32)) w0 w1 w2 w3 w4 w5 w6 w7 w8 w9 w10 w11)), .val (.int (0 : Int32))] []))
      refine Run.pre (fun _ k => XS.iconst X34.here hx rfl (hb hby at_45) k) ?_
      show Run p e below s _ _ _ (T34.setTop (mkF m 46 #[.val (.int pz), .val (.int ((pz &&& (2147483647 : Int32)) % (12 : Int32))), .val (.ref (own_pick ((pz &&& (2147483647 : Int32)) % (12 : Int32)) w0 w1 w2 w3 w4 w5 w6 w7 w8 w9 w10 w11)), .val (.int (0 : Int32))] [(.int (1 : Int32))]))
      refine Run.pre (fun _ k => XS.goto X34.here hx rfl (pc0 := 46) (pc' := 50) rfl (hb hby at_46) (by decide) (by decide) k) ?_
      show Run p e below s _ _ _ (T34.setTop (mkF m 50 #[.val (.int pz), .val (.int ((pz &&& (2147483647 : Int32)) % (12 : Int32))), .val (.ref (own_pick ((pz &&& (2147483647 : Int32)) % (12 : Int32)) w0 w1 w2 w3 w4 w5 w6 w7 w8 w9 w10 w11)), .val (.int (0 : Int32))] [(.int (1 : Int32))]))
      exact Run.retN X34 hx hret (t := .boolean) (by simp) hlk (hb hby at_50) (by first | (rw [e34]; exact ⟨rfl, N34⟩) | exact ⟨rfl, N34⟩) (by decide) (by decide)
    · skip
      refine Run.pre (fun _ k => XS.icmpNo X30.here hx rfl (hb hby at_22) rfl (feq (hc33 : ¬ (((pz &&& (2147483647 : Int32)) % (12 : Int32)) = (8 : Int32)))).1 k) ?_
      show Run p e below s _ _ _ (T30.setTop (mkF m 25 #[.val (.int pz), .val (.int ((pz &&& (2147483647 : Int32)) % (12 : Int32))), .val (.ref (own_pick ((pz &&& (2147483647 : Int32)) % (12 : Int32)) w0 w1 w2 w3 w4 w5 w6 w7 w8 w9 w10 w11)), .unset] []))
      refine Run.pre (fun _ k => XS.iloadN X30.here hx rfl (hb hby at_25) rfl  k) ?_
      show Run p e below s _ _ _ (T30.setTop (mkF m 26 #[.val (.int pz), .val (.int ((pz &&& (2147483647 : Int32)) % (12 : Int32))), .val (.ref (own_pick ((pz &&& (2147483647 : Int32)) % (12 : Int32)) w0 w1 w2 w3 w4 w5 w6 w7 w8 w9 w10 w11)), .unset] [(.int ((pz &&& (2147483647 : Int32)) % (12 : Int32)))]))
      refine Run.pre (fun _ k => XS.bipush X30.here hx rfl (hb hby at_26) k) ?_
      show Run p e below s _ _ _ (T30.setTop (mkF m 28 #[.val (.int pz), .val (.int ((pz &&& (2147483647 : Int32)) % (12 : Int32))), .val (.ref (own_pick ((pz &&& (2147483647 : Int32)) % (12 : Int32)) w0 w1 w2 w3 w4 w5 w6 w7 w8 w9 w10 w11)), .unset] [(.int (9 : Int32)), (.int ((pz &&& (2147483647 : Int32)) % (12 : Int32)))]))
      by_cases hc35 : ((pz &&& (2147483647 : Int32)) % (12 : Int32)) = (9 : Int32)
      · skip
        refine Run.pre (fun _ k => XS.icmpYes X30.here hx rfl (pc0 := 28) (pc' := 35) rfl (hb hby at_28) rfl (teq (hc35 : ((pz &&& (2147483647 : Int32)) % (12 : Int32)) = (9 : Int32))).1 (by decide) (by decide) k) ?_
        show Run p e below s _ _ _ (T30.setTop (mkF m 35 #[.val (.int pz), .val (.int ((pz &&& (2147483647 : Int32)) % (12 : Int32))), .val (.ref (own_pick ((pz &&& (2147483647 : Int32)) % (12 : Int32)) w0 w1 w2 w3 w4 w5 w6 w7 w8 w9 w10 w11)), .unset] []))
        refine Run.pre (fun _ k => XS.iconst X30.here hx rfl (hb hby at_35) k) ?_
        show Run p e below s _ _ _ (T30.setTop (mkF m 36 #[.val (.int pz), .val (.int ((pz &&& (2147483647 : Int32)) % (12 : Int32))), .val (.ref (own_pick ((pz &&& (2147483647 : Int32)) % (12 : Int32)) w0 w1 w2 w3 w4 w5 w6 w7 w8 w9 w10 w11)), .unset] [(.int (0 : Int32))]))
        refine Run.pre (fun _ k => XS.istoreN X30.here hx rfl (hb hby at_36) rfl (l' := #[.val (.int pz), .val (.int ((pz &&& (2147483647 : Int32)) % (12 : Int32))), .val (.ref (own_pick ((pz &&& (2147483647 : Int32)) % (12 : Int32)) w0 w1 w2 w3 w4 w5 w6 w7 w8 w9 w10 w11)), .val (.int (0 : Int32))]) rfl k) ?_
        show Run p e below s _ _ _ (T30.setTop (mkF m 37 #[.val (.int pz), .val (.int ((pz &&& (2147483647 : Int32)) % (12 : Int32))), .val (.ref (own_pick ((pz &&& (2147483647 : Int32)) % (12 : Int32)) w0 w1 w2 w3 w4 w5 w6 w7 w8 w9 w10 w11)), .val (.int (0 : Int32))] []))
        refine Run.pre (fun _ k => XS.aloadN X30.here hx rfl (hb hby at_37) rfl rfl k) ?_
        show Run p e below s _ _ _ (T30.setTop (mkF m 38 #[.val (.int pz), .val (.int ((pz &&& (2147483647 : Int32)) % (12 : Int32))), .val (.ref (own_pick ((pz &&& (2147483647 : Int32)) % (12 : Int32)) w0 w1 w2 w3 w4 w5 w6 w7 w8 w9 w10 w11)), .val (.int (0 : Int32))] [(.ref (own_pick ((pz &&& (2147483647 : Int32)) % (12 : Int32)) w0 w1 w2 w3 w4 w5 w6 w7 w8 w9 w10 w11))]))
        refine Run.callV X30 hx hZ (y := (⟨"com/example/sorites/sorites/kb/Concept$Kind", "keepsDegreesCrisp", "()Z"⟩ : MethodName)) (z := (⟨"com/example/sorites/sorites/kb/Concept$Kind", "keepsDegreesCrisp", "()Z"⟩ : MethodName)) hown (hw _ (List.mem_of_getElem? (i := 8) rfl)) (hw _ (List.mem_of_getElem? (i := 9) rfl)) (notFace_of_selects (args := #[]) (mvT hZ (hw _ (List.mem_of_getElem? (i := 11) rfl)))) (hw _ (List.mem_of_getElem? (i := 11) rfl)) (hw _ (List.mem_of_getElem? (i := 10) rfl)) (hw _ (List.mem_of_getElem? (i := 12) rfl)) (hw _ (List.mem_of_getElem? (i := 6) rfl)) (by decide) (b := (own_pick ((pz &&& (2147483647 : Int32)) % (12 : Int32)) w0 w1 w2 w3 w4 w5 w6 w7 w8 w9 w10 w11)) EP (W := 0) (rm2 l Z a0 hw (own_pick ((pz &&& (2147483647 : Int32)) % (12 : Int32)) w0 w1 w2 w3 w4 w5 w6 w7 w8 w9 w10 w11) w7 w8 w9 h0 n0 Z0 OL S7 S8 S9) e30 (by decide) (by decide) (by decide) (by decide) (g := (mkF m 38 #[.val (.int pz), .val (.int ((pz &&& (2147483647 : Int32)) % (12 : Int32))), .val (.ref (own_pick ((pz &&& (2147483647 : Int32)) % (12 : Int32)) w0 w1 w2 w3 w4 w5 w6 w7 w8 w9 w10 w11)), .val (.int (0 : Int32))] [(.ref (own_pick ((pz &&& (2147483647 : Int32)) % (12 : Int32)) w0 w1 w2 w3 w4 w5 w6 w7 w8 w9 w10 w11))])) rfl (by rw [hml]; rfl) (argsL := []) (rest := []) (lenOf pd_1 rfl) rfl (by show 2 * 0 + _ ≤ _; exact Nat.le_of_eq rfl) (hb hby at_38) ?_
        intro v36 T36 L36 X36 hQ36
        obtain ⟨rfl, Nq36, he36⟩ := hQ36
        have N36 := Fr.app N30 Nq36
        have e36 : T36.heap = h0 := he36
        show Run p e below s _ _ _ (T36.setTop (mkF m 41 #[.val (.int pz), .val (.int ((pz &&& (2147483647 : Int32)) % (12 : Int32))), .val (.ref (own_pick ((pz &&& (2147483647 : Int32)) % (12 : Int32)) w0 w1 w2 w3 w4 w5 w6 w7 w8 w9 w10 w11)), .val (.int (0 : Int32))] [(.int (own_kdc (own_pick ((pz &&& (2147483647 : Int32)) % (12 : Int32)) w0 w1 w2 w3 w4 w5 w6 w7 w8 w9 w10 w11) w7 w8 w9))]))
        refine Run.pre (fun _ k => XS.iloadN X36.here hx rfl (hb hby at_41) rfl  k) ?_
        show Run p e below s _ _ _ (T36.setTop (mkF m 42 #[.val (.int pz), .val (.int ((pz &&& (2147483647 : Int32)) % (12 : Int32))), .val (.ref (own_pick ((pz &&& (2147483647 : Int32)) % (12 : Int32)) w0 w1 w2 w3 w4 w5 w6 w7 w8 w9 w10 w11)), .val (.int (0 : Int32))] [(.int (0 : Int32)), (.int (own_kdc (own_pick ((pz &&& (2147483647 : Int32)) % (12 : Int32)) w0 w1 w2 w3 w4 w5 w6 w7 w8 w9 w10 w11) w7 w8 w9))]))
        refine Run.pre (fun _ k => XS.icmpNo X36.here hx rfl (hb hby at_42) rfl (teq (((own_plain ((pz &&& (2147483647 : Int32)) % (12 : Int32)) w0 w1 w2 w3 w4 w5 w6 w7 w8 w9 w10 w11 n0_7 n0_8 n0_9 n1_7 n1_8 n1_9 n2_7 n2_8 n2_9 n3_7 n3_8 n3_9 n4_7 n4_8 n4_9 n5_7 n5_8 n5_9 n6_7 n6_8 n6_9 n10_7 n10_8 n10_9 n11_7 n11_8 n11_9).trans (by simp [hc31, hc33, hc35])) : (own_kdc (own_pick ((pz &&& (2147483647 : Int32)) % (12 : Int32)) w0 w1 w2 w3 w4 w5 w6 w7 w8 w9 w10 w11) w7 w8 w9) = (0 : Int32))).2 k) ?_
        show Run p e below s _ _ _ (T36.setTop (mkF m 45 #[.val (.int pz), .val (.int ((pz &&& (2147483647 : Int32)) % (12 : Int32))), .val (.ref (own_pick ((pz &&& (2147483647 : Int32)) % (12 : Int32)) w0 w1 w2 w3 w4 w5 w6 w7 w8 w9 w10 w11)), .val (.int (0 : Int32))] []))
        refine Run.pre (fun _ k => XS.iconst X36.here hx rfl (hb hby at_45) k) ?_
        show Run p e below s _ _ _ (T36.setTop (mkF m 46 #[.val (.int pz), .val (.int ((pz &&& (2147483647 : Int32)) % (12 : Int32))), .val (.ref (own_pick ((pz &&& (2147483647 : Int32)) % (12 : Int32)) w0 w1 w2 w3 w4 w5 w6 w7 w8 w9 w10 w11)), .val (.int (0 : Int32))] [(.int (1 : Int32))]))
        refine Run.pre (fun _ k => XS.goto X36.here hx rfl (pc0 := 46) (pc' := 50) rfl (hb hby at_46) (by decide) (by decide) k) ?_
        show Run p e below s _ _ _ (T36.setTop (mkF m 50 #[.val (.int pz), .val (.int ((pz &&& (2147483647 : Int32)) % (12 : Int32))), .val (.ref (own_pick ((pz &&& (2147483647 : Int32)) % (12 : Int32)) w0 w1 w2 w3 w4 w5 w6 w7 w8 w9 w10 w11)), .val (.int (0 : Int32))] [(.int (1 : Int32))]))
        exact Run.retN X36 hx hret (t := .boolean) (by simp) hlk (hb hby at_50) (by first | (rw [e36]; exact ⟨rfl, N36⟩) | exact ⟨rfl, N36⟩) (by decide) (by decide)
      · skip
        refine Run.pre (fun _ k => XS.icmpNo X30.here hx rfl (hb hby at_28) rfl (feq (hc35 : ¬ (((pz &&& (2147483647 : Int32)) % (12 : Int32)) = (9 : Int32)))).1 k) ?_
        show Run p e below s _ _ _ (T30.setTop (mkF m 31 #[.val (.int pz), .val (.int ((pz &&& (2147483647 : Int32)) % (12 : Int32))), .val (.ref (own_pick ((pz &&& (2147483647 : Int32)) % (12 : Int32)) w0 w1 w2 w3 w4 w5 w6 w7 w8 w9 w10 w11)), .unset] []))
        refine Run.pre (fun _ k => XS.iconst X30.here hx rfl (hb hby at_31) k) ?_
        show Run p e below s _ _ _ (T30.setTop (mkF m 32 #[.val (.int pz), .val (.int ((pz &&& (2147483647 : Int32)) % (12 : Int32))), .val (.ref (own_pick ((pz &&& (2147483647 : Int32)) % (12 : Int32)) w0 w1 w2 w3 w4 w5 w6 w7 w8 w9 w10 w11)), .unset] [(.int (1 : Int32))]))
        refine Run.pre (fun _ k => XS.goto X30.here hx rfl (pc0 := 32) (pc' := 36) rfl (hb hby at_32) (by decide) (by decide) k) ?_
        show Run p e below s _ _ _ (T30.setTop (mkF m 36 #[.val (.int pz), .val (.int ((pz &&& (2147483647 : Int32)) % (12 : Int32))), .val (.ref (own_pick ((pz &&& (2147483647 : Int32)) % (12 : Int32)) w0 w1 w2 w3 w4 w5 w6 w7 w8 w9 w10 w11)), .unset] [(.int (1 : Int32))]))
        refine Run.pre (fun _ k => XS.istoreN X30.here hx rfl (hb hby at_36) rfl (l' := #[.val (.int pz), .val (.int ((pz &&& (2147483647 : Int32)) % (12 : Int32))), .val (.ref (own_pick ((pz &&& (2147483647 : Int32)) % (12 : Int32)) w0 w1 w2 w3 w4 w5 w6 w7 w8 w9 w10 w11)), .val (.int (1 : Int32))]) rfl k) ?_
        show Run p e below s _ _ _ (T30.setTop (mkF m 37 #[.val (.int pz), .val (.int ((pz &&& (2147483647 : Int32)) % (12 : Int32))), .val (.ref (own_pick ((pz &&& (2147483647 : Int32)) % (12 : Int32)) w0 w1 w2 w3 w4 w5 w6 w7 w8 w9 w10 w11)), .val (.int (1 : Int32))] []))
        refine Run.pre (fun _ k => XS.aloadN X30.here hx rfl (hb hby at_37) rfl rfl k) ?_
        show Run p e below s _ _ _ (T30.setTop (mkF m 38 #[.val (.int pz), .val (.int ((pz &&& (2147483647 : Int32)) % (12 : Int32))), .val (.ref (own_pick ((pz &&& (2147483647 : Int32)) % (12 : Int32)) w0 w1 w2 w3 w4 w5 w6 w7 w8 w9 w10 w11)), .val (.int (1 : Int32))] [(.ref (own_pick ((pz &&& (2147483647 : Int32)) % (12 : Int32)) w0 w1 w2 w3 w4 w5 w6 w7 w8 w9 w10 w11))]))
        refine Run.callV X30 hx hZ (y := (⟨"com/example/sorites/sorites/kb/Concept$Kind", "keepsDegreesCrisp", "()Z"⟩ : MethodName)) (z := (⟨"com/example/sorites/sorites/kb/Concept$Kind", "keepsDegreesCrisp", "()Z"⟩ : MethodName)) hown (hw _ (List.mem_of_getElem? (i := 8) rfl)) (hw _ (List.mem_of_getElem? (i := 9) rfl)) (notFace_of_selects (args := #[]) (mvT hZ (hw _ (List.mem_of_getElem? (i := 11) rfl)))) (hw _ (List.mem_of_getElem? (i := 11) rfl)) (hw _ (List.mem_of_getElem? (i := 10) rfl)) (hw _ (List.mem_of_getElem? (i := 12) rfl)) (hw _ (List.mem_of_getElem? (i := 6) rfl)) (by decide) (b := (own_pick ((pz &&& (2147483647 : Int32)) % (12 : Int32)) w0 w1 w2 w3 w4 w5 w6 w7 w8 w9 w10 w11)) EP (W := 0) (rm2 l Z a0 hw (own_pick ((pz &&& (2147483647 : Int32)) % (12 : Int32)) w0 w1 w2 w3 w4 w5 w6 w7 w8 w9 w10 w11) w7 w8 w9 h0 n0 Z0 OL S7 S8 S9) e30 (by decide) (by decide) (by decide) (by decide) (g := (mkF m 38 #[.val (.int pz), .val (.int ((pz &&& (2147483647 : Int32)) % (12 : Int32))), .val (.ref (own_pick ((pz &&& (2147483647 : Int32)) % (12 : Int32)) w0 w1 w2 w3 w4 w5 w6 w7 w8 w9 w10 w11)), .val (.int (1 : Int32))] [(.ref (own_pick ((pz &&& (2147483647 : Int32)) % (12 : Int32)) w0 w1 w2 w3 w4 w5 w6 w7 w8 w9 w10 w11))])) rfl (by rw [hml]; rfl) (argsL := []) (rest := []) (lenOf pd_1 rfl) rfl (by show 2 * 0 + _ ≤ _; exact Nat.le_of_eq rfl) (hb hby at_38) ?_
        intro v37 T37 L37 X37 hQ37
        obtain ⟨rfl, Nq37, he37⟩ := hQ37
        have N37 := Fr.app N30 Nq37
        have e37 : T37.heap = h0 := he37
        show Run p e below s _ _ _ (T37.setTop (mkF m 41 #[.val (.int pz), .val (.int ((pz &&& (2147483647 : Int32)) % (12 : Int32))), .val (.ref (own_pick ((pz &&& (2147483647 : Int32)) % (12 : Int32)) w0 w1 w2 w3 w4 w5 w6 w7 w8 w9 w10 w11)), .val (.int (1 : Int32))] [(.int (own_kdc (own_pick ((pz &&& (2147483647 : Int32)) % (12 : Int32)) w0 w1 w2 w3 w4 w5 w6 w7 w8 w9 w10 w11) w7 w8 w9))]))
        refine Run.pre (fun _ k => XS.iloadN X37.here hx rfl (hb hby at_41) rfl  k) ?_
        show Run p e below s _ _ _ (T37.setTop (mkF m 42 #[.val (.int pz), .val (.int ((pz &&& (2147483647 : Int32)) % (12 : Int32))), .val (.ref (own_pick ((pz &&& (2147483647 : Int32)) % (12 : Int32)) w0 w1 w2 w3 w4 w5 w6 w7 w8 w9 w10 w11)), .val (.int (1 : Int32))] [(.int (1 : Int32)), (.int (own_kdc (own_pick ((pz &&& (2147483647 : Int32)) % (12 : Int32)) w0 w1 w2 w3 w4 w5 w6 w7 w8 w9 w10 w11) w7 w8 w9))]))
        refine Run.pre (fun _ k => XS.icmpNo X37.here hx rfl (hb hby at_42) rfl (teq (((own_plain ((pz &&& (2147483647 : Int32)) % (12 : Int32)) w0 w1 w2 w3 w4 w5 w6 w7 w8 w9 w10 w11 n0_7 n0_8 n0_9 n1_7 n1_8 n1_9 n2_7 n2_8 n2_9 n3_7 n3_8 n3_9 n4_7 n4_8 n4_9 n5_7 n5_8 n5_9 n6_7 n6_8 n6_9 n10_7 n10_8 n10_9 n11_7 n11_8 n11_9).trans (by simp [hc31, hc33, hc35])) : (own_kdc (own_pick ((pz &&& (2147483647 : Int32)) % (12 : Int32)) w0 w1 w2 w3 w4 w5 w6 w7 w8 w9 w10 w11) w7 w8 w9) = (1 : Int32))).2 k) ?_
        show Run p e below s _ _ _ (T37.setTop (mkF m 45 #[.val (.int pz), .val (.int ((pz &&& (2147483647 : Int32)) % (12 : Int32))), .val (.ref (own_pick ((pz &&& (2147483647 : Int32)) % (12 : Int32)) w0 w1 w2 w3 w4 w5 w6 w7 w8 w9 w10 w11)), .val (.int (1 : Int32))] []))
        refine Run.pre (fun _ k => XS.iconst X37.here hx rfl (hb hby at_45) k) ?_
        show Run p e below s _ _ _ (T37.setTop (mkF m 46 #[.val (.int pz), .val (.int ((pz &&& (2147483647 : Int32)) % (12 : Int32))), .val (.ref (own_pick ((pz &&& (2147483647 : Int32)) % (12 : Int32)) w0 w1 w2 w3 w4 w5 w6 w7 w8 w9 w10 w11)), .val (.int (1 : Int32))] [(.int (1 : Int32))]))
        refine Run.pre (fun _ k => XS.goto X37.here hx rfl (pc0 := 46) (pc' := 50) rfl (hb hby at_46) (by decide) (by decide) k) ?_
        show Run p e below s _ _ _ (T37.setTop (mkF m 50 #[.val (.int pz), .val (.int ((pz &&& (2147483647 : Int32)) % (12 : Int32))), .val (.ref (own_pick ((pz &&& (2147483647 : Int32)) % (12 : Int32)) w0 w1 w2 w3 w4 w5 w6 w7 w8 w9 w10 w11)), .val (.int (1 : Int32))] [(.int (1 : Int32))]))
        exact Run.retN X37 hx hret (t := .boolean) (by simp) hlk (hb hby at_50) (by first | (rw [e37]; exact ⟨rfl, N37⟩) | exact ⟨rfl, N37⟩) (by decide) (by decide)
set_option maxRecDepth 65536 in
set_option maxHeartbeats 40000000 in
theorem comes_1 {Post : Tables → Env → Array Value → State → Outcome → State → Prop} (hpost : ∀ tb e args s v u, (limb_1_1.after args s (.returned v) u = true ∧ limb_1_2.after args s (.returned v) u = true ∧ True) → FrameEnd s (.returned v) u (Jvm.fieldLocs frame_1_writes args s ++ Jvm.arrayLocs frame_1_arrays args s ++ Jvm.staticLocs frame_1_statics s) 0 0 → Post tb e args s (.returned v) u) :
    ArmFor flags0 classFile x code maxLocals ret World_1 tables_1 room_1 Calls_1 rest_1 Pre_1 Post := by
  intro l hfl _ _ p e ha hc hk s m args below hf hA hF happ hP
  obtain ⟨hcalls, hrest, hpre⟩ := hP
  obtain ⟨-, -, -, hnamed, -, -, -, hat⟩ := (Spec.applies_iff hf).mp happ
  obtain ⟨hg, hn⟩ := and_e (Cond.before_iff.mp (show (Jvm.Cond.and given_1 narrow_1).before args s = true from hpre))
  obtain ⟨g0, gr0⟩ := and_e hg
  obtain ⟨w0, rfl⟩ : ∃ w0 : Value, args = #[w0] := by
    have hs : args.size = 1 := by simpa [Cond.value, given_1] using g0
    obtain ⟨L⟩ := args
    match L, hs with
    | [w0], _ => exact ⟨w0, rfl⟩
  have hw := fun d (hd : d ∈ tables_1) => atoms_spec (ws := Jvm.Cond.code x code maxLocals ret :: tables_1) hat d (List.mem_cons_of_mem _ hd)
  have hfit : Fit s := own_fit hF
  obtain ⟨i0, ei0⟩ := is_v gr0
  obtain rfl : w0 = (.int i0) := Option.some.inj ei0
  obtain ⟨nn0, nnr0⟩ := and_e hn
  obtain ⟨nn1, nnr1⟩ := and_e nnr0
  obtain ⟨nn2, nnr2⟩ := and_e nnr1
  obtain ⟨nn3, nnr3⟩ := and_e nnr2
  obtain ⟨nn4, nnr4⟩ := and_e nnr3
  obtain ⟨nn5, nnr5⟩ := and_e nnr4
  obtain ⟨nn6, nnr6⟩ := and_e nnr5
  obtain ⟨nn7, nnr7⟩ := and_e nnr6
  obtain ⟨nn8, nnr8⟩ := and_e nnr7
  obtain ⟨nn9, nnr9⟩ := and_e nnr8
  obtain ⟨nn10, nnr10⟩ := and_e nnr9
  obtain ⟨nn11, nnr11⟩ := and_e nnr10
  obtain ⟨nn12, nnr12⟩ := and_e nnr11
  obtain ⟨nn13, nnr13⟩ := and_e nnr12
  obtain ⟨nn14, nnr14⟩ := and_e nnr13
  obtain ⟨nn15, nnr15⟩ := and_e nnr14
  obtain ⟨nn16, nnr16⟩ := and_e nnr15
  obtain ⟨nn17, nnr17⟩ := and_e nnr16
  obtain ⟨nn18, nnr18⟩ := and_e nnr17
  obtain ⟨nn19, nnr19⟩ := and_e nnr18
  obtain ⟨nn20, nnr20⟩ := and_e nnr19
  obtain ⟨nn21, nnr21⟩ := and_e nnr20
  obtain ⟨nn22, nnr22⟩ := and_e nnr21
  obtain ⟨w_ATOMIC, ev_ATOMIC⟩ := exa_v nn0
  have S_ATOMIC := Sta.start ev_ATOMIC (Or.inr ⟨(hw _ (List.mem_of_getElem? (i := 6) rfl)), (hw _ (List.mem_of_getElem? (i := 7) rfl))⟩)
  have E_ATOMIC := Exa.start ev_ATOMIC nn0
  obtain ⟨w_WEIGHTED_SUM, ev_WEIGHTED_SUM⟩ := exa_v nn1
  have S_WEIGHTED_SUM := Sta.start ev_WEIGHTED_SUM (Or.inr ⟨(hw _ (List.mem_of_getElem? (i := 6) rfl)), (hw _ (List.mem_of_getElem? (i := 14) rfl))⟩)
  have E_WEIGHTED_SUM := Exa.start ev_WEIGHTED_SUM nn1
  obtain ⟨w_SOME_VALUE, ev_SOME_VALUE⟩ := exa_v nn4
  have S_SOME_VALUE := Sta.start ev_SOME_VALUE (Or.inr ⟨(hw _ (List.mem_of_getElem? (i := 6) rfl)), (hw _ (List.mem_of_getElem? (i := 16) rfl))⟩)
  have E_SOME_VALUE := Exa.start ev_SOME_VALUE nn4
  obtain ⟨w_MODIFIED, ev_MODIFIED⟩ := exa_v nn6
  have S_MODIFIED := Sta.start ev_MODIFIED (Or.inr ⟨(hw _ (List.mem_of_getElem? (i := 6) rfl)), (hw _ (List.mem_of_getElem? (i := 18) rfl))⟩)
  have E_MODIFIED := Exa.start ev_MODIFIED nn6
  obtain ⟨w_NOT, ev_NOT⟩ := exa_v nn8
  have S_NOT := Sta.start ev_NOT (Or.inr ⟨(hw _ (List.mem_of_getElem? (i := 6) rfl)), (hw _ (List.mem_of_getElem? (i := 20) rfl))⟩)
  have E_NOT := Exa.start ev_NOT nn8
  obtain ⟨w_BOTTOM, ev_BOTTOM⟩ := exa_v nn10
  have S_BOTTOM := Sta.start ev_BOTTOM (Or.inr ⟨(hw _ (List.mem_of_getElem? (i := 6) rfl)), (hw _ (List.mem_of_getElem? (i := 22) rfl))⟩)
  have E_BOTTOM := Exa.start ev_BOTTOM nn10
  obtain ⟨w_ALL, ev_ALL⟩ := exa_v nn12
  have S_ALL := Sta.start ev_ALL (Or.inr ⟨(hw _ (List.mem_of_getElem? (i := 6) rfl)), (hw _ (List.mem_of_getElem? (i := 25) rfl))⟩)
  have E_ALL := Exa.start ev_ALL nn12
  obtain ⟨w_AND, ev_AND⟩ := exa_v nn14
  have S_AND := Sta.start ev_AND (Or.inr ⟨(hw _ (List.mem_of_getElem? (i := 6) rfl)), (hw _ (List.mem_of_getElem? (i := 27) rfl))⟩)
  have E_AND := Exa.start ev_AND nn14
  obtain ⟨w_TOP, ev_TOP⟩ := exa_v nn16
  have S_TOP := Sta.start ev_TOP (Or.inr ⟨(hw _ (List.mem_of_getElem? (i := 6) rfl)), (hw _ (List.mem_of_getElem? (i := 30) rfl))⟩)
  have E_TOP := Exa.start ev_TOP nn16
  obtain ⟨w_SOME, ev_SOME⟩ := exa_v nn18
  have S_SOME := Sta.start ev_SOME (Or.inr ⟨(hw _ (List.mem_of_getElem? (i := 6) rfl)), (hw _ (List.mem_of_getElem? (i := 32) rfl))⟩)
  have E_SOME := Exa.start ev_SOME nn18
  obtain ⟨w_IMPLIES, ev_IMPLIES⟩ := exa_v nn20
  have S_IMPLIES := Sta.start ev_IMPLIES (Or.inr ⟨(hw _ (List.mem_of_getElem? (i := 6) rfl)), (hw _ (List.mem_of_getElem? (i := 35) rfl))⟩)
  have E_IMPLIES := Exa.start ev_IMPLIES nn20
  obtain ⟨w_OR, ev_OR⟩ := exa_v nn22
  have S_OR := Sta.start ev_OR (Or.inr ⟨(hw _ (List.mem_of_getElem? (i := 6) rfl)), (hw _ (List.mem_of_getElem? (i := 37) rfl))⟩)
  have E_OR := Exa.start ev_OR nn22
  have F_ATOMIC_ordinal := own_fldInt ev_ATOMIC nn2
  have F_WEIGHTED_SUM_ordinal := own_fldInt ev_WEIGHTED_SUM nn3
  have F_SOME_VALUE_ordinal := own_fldInt ev_SOME_VALUE nn5
  have F_MODIFIED_ordinal := own_fldInt ev_MODIFIED nn7
  have F_NOT_ordinal := own_fldInt ev_NOT nn9
  have F_BOTTOM_ordinal := own_fldInt ev_BOTTOM nn11
  have F_ALL_ordinal := own_fldInt ev_ALL nn13
  have F_AND_ordinal := own_fldInt ev_AND nn15
  have F_TOP_ordinal := own_fldInt ev_TOP nn17
  have F_SOME_ordinal := own_fldInt ev_SOME nn19
  have F_IMPLIES_ordinal := own_fldInt ev_IMPLIES nn21
  have F_OR_ordinal := own_fldInt ev_OR nnr22
  have EP : Exa s s.heap (own_pick ((i0 &&& 2147483647) % 12) w_ATOMIC w_TOP w_BOTTOM w_NOT w_AND w_OR w_IMPLIES w_WEIGHTED_SUM w_SOME_VALUE w_MODIFIED w_SOME w_ALL) "com/example/sorites/sorites/kb/Concept$Kind" := by
    unfold own_pick
    repeat' split
    all_goals assumption
  obtain ⟨n, o, h1, h2, h3, _, L, rfl, ⟨rfl, N⟩, hq⟩ := rm0 l s _ hw i0 w_ATOMIC w_TOP w_BOTTOM w_NOT w_AND w_OR w_IMPLIES w_WEIGHTED_SUM w_SOME_VALUE w_MODIFIED w_SOME w_ALL s.heap s.heap.size (Nat.le_refl _) (Old.start s) S_ATOMIC S_TOP S_BOTTOM S_NOT S_AND S_OR S_IMPLIES S_WEIGHTED_SUM S_SOME_VALUE S_MODIFIED S_SOME S_ALL EP (F_ATOMIC_ordinal.ne F_WEIGHTED_SUM_ordinal (by decide)) (F_ATOMIC_ordinal.ne F_SOME_VALUE_ordinal (by decide)) (F_ATOMIC_ordinal.ne F_MODIFIED_ordinal (by decide)) (F_TOP_ordinal.ne F_WEIGHTED_SUM_ordinal (by decide)) (F_TOP_ordinal.ne F_SOME_VALUE_ordinal (by decide)) (F_TOP_ordinal.ne F_MODIFIED_ordinal (by decide)) (F_BOTTOM_ordinal.ne F_WEIGHTED_SUM_ordinal (by decide)) (F_BOTTOM_ordinal.ne F_SOME_VALUE_ordinal (by decide)) (F_BOTTOM_ordinal.ne F_MODIFIED_ordinal (by decide)) (F_NOT_ordinal.ne F_WEIGHTED_SUM_ordinal (by decide)) (F_NOT_ordinal.ne F_SOME_VALUE_ordinal (by decide)) (F_NOT_ordinal.ne F_MODIFIED_ordinal (by decide)) (F_AND_ordinal.ne F_WEIGHTED_SUM_ordinal (by decide)) (F_AND_ordinal.ne F_SOME_VALUE_ordinal (by decide)) (F_AND_ordinal.ne F_MODIFIED_ordinal (by decide)) (F_OR_ordinal.ne F_WEIGHTED_SUM_ordinal (by decide)) (F_OR_ordinal.ne F_SOME_VALUE_ordinal (by decide)) (F_OR_ordinal.ne F_MODIFIED_ordinal (by decide)) (F_IMPLIES_ordinal.ne F_WEIGHTED_SUM_ordinal (by decide)) (F_IMPLIES_ordinal.ne F_SOME_VALUE_ordinal (by decide)) (F_IMPLIES_ordinal.ne F_MODIFIED_ordinal (by decide)) (F_SOME_ordinal.ne F_WEIGHTED_SUM_ordinal (by decide)) (F_SOME_ordinal.ne F_SOME_VALUE_ordinal (by decide)) (F_SOME_ordinal.ne F_MODIFIED_ordinal (by decide)) (F_ALL_ordinal.ne F_WEIGHTED_SUM_ordinal (by decide)) (F_ALL_ordinal.ne F_SOME_VALUE_ordinal (by decide)) (F_ALL_ordinal.ne F_MODIFIED_ordinal (by decide)) tables_1 p e ha hc hk s m _ below hf ((Spec.applies_iff_loose hf).mp happ).1 ⟨rfl, State.Warmed39.refl s, rfl⟩ trivial
  refine ⟨n, _, h1, h2, h3, hpost _ _ _ _ _ _ ⟨Cond.after_iff.mpr rfl, Cond.after_iff.mpr (eq_i res_at (Term.int_eval (1)) rfl), trivial⟩ ⟨hq.1, hq.2.1, (hq.2.2.sift fun y hy => Or.inr (N y hy)).mono (by decide) (by decide)⟩⟩
theorem main_1_1 : Claimed_1_1 := comes_1 fun _ _ _ _ _ _ h hF => ⟨h.1, hF⟩
theorem main_1_2 : Claimed_1_2 := comes_1 fun _ _ _ _ _ _ h hF => ⟨h.2.1, hF⟩
end Jvm.Pilot.@@N@@
namespace Jvm.Pilot.@@N@@
open Jvm Jvm.ClassFile Sem Op Lib Jvm.Free Jvm.Stand Jvm.Pilot.@@N@@.Jvm.D
/-! MADE BY PROGRAM (witnessworld.py) out of the Statement's table words and the real class files: 12 classes; the members and pool entries that the words name. The judged class is class 1, her method 2. -/
namespace start1
open Jvm.ClassFile
def u (s : String) : CpInfo := .utf8 (stringToUtf16 s)
/-- a pool by its gaps: so many unusable entries, then the entry; so many at the end -/
def gap : Nat → List CpInfo → List CpInfo
  | 0, r => r
  | n + 1, r => .unusable :: gap n r
def poolList (es : List (Nat × CpInfo)) (last : Nat) : List CpInfo := es.foldr (fun e r => gap e.1 (e.2 :: r)) (gap last [])
def pool (es : List (Nat × CpInfo)) (last : Nat) : Array CpInfo := ⟨poolList es last⟩
def fileOf (pool : Array CpInfo) (this : Nat) (attrs : Array Attribute := #[]) (ms : Array MethodInfo := #[]) (fl : Nat := 33) (sup : Nat := 0) (ifs : Array Nat := #[]) (fds : Array FieldInfo := #[]) : ClassFile where
  minorVersion := 0
  majorVersion := 65
  constantPool := pool
  accessFlags := fl
  thisClass := this
  superClass := sup
  interfaces := ifs
  fields := fds
  methods := ms
  attributes := attrs
def plain (name : String) (sup : Option ClassId) : Class where
  name := name
  kind := .ordinary
  loader := none
  accessFlags := 33
  super := sup
  interfaces := #[]
  cf := none
  fields := #[]
  methods := #[]
  instanceTypes := #[]
  staticTypes := #[]
  resolved := #[]
  callSites := []
  init := .initialized
  statics := none
  mirror := none

def pool0 : Array CpInfo := pool [(5, u "<init>"), (0, u "()V"), (1, .class_ 10), (1, u "java/lang/Object")] 113

def k0m0 : Method := { name := "<init>", desc := "()V", sig := { parameters := [], returnType := none }, accessFlags := 1, code := none }
/-- java/lang/Object -/
def k0 : Class := { plain "java/lang/Object" none with
  accessFlags := 33
  interfaces := #[]
  cf := some (fileOf pool0 8 #[] #[{ accessFlags := 1, nameIndex := 5, descriptorIndex := 6, attributes := #[] }] 33 0 #[] #[])
  fields := #[]
  methods := #[k0m0]
  instanceTypes := #[]
  staticTypes := #[]
  resolved := Array.replicate 124 none
  statics := none }

def pool1 : Array CpInfo := pool [(2, .class_ 4), (1, u "java/lang/Object"), (0, u "<init>"), (0, u "()V"), (0, .fieldref 8 9), (0, .class_ 10), (0, .nameAndType 11 12), (0, u "com/example/sorites/sorites/kb/Concept$Kind"), (0, u "ATOMIC"), (0, u "Lcom/example/sorites/sorites/kb/Concept$Kind;"), (0, .fieldref 8 14), (0, .nameAndType 15 12), (0, u "TOP"), (0, .fieldref 8 17), (0, .nameAndType 18 12), (0, u "BOTTOM"), (0, .fieldref 8 20), (0, .nameAndType 21 12), (0, u "NOT"), (0, .fieldref 8 23), (0, .nameAndType 24 12), (0, u "AND"), (0, .fieldref 8 26), (0, .nameAndType 27 12), (0, u "OR"), (0, .fieldref 8 29), (0, .nameAndType 30 12), (0, u "IMPLIES"), (0, .fieldref 8 32), (0, .nameAndType 33 12), (0, u "WEIGHTED_SUM"), (0, .fieldref 8 35), (0, .nameAndType 36 12), (0, u "SOME_VALUE"), (0, .fieldref 8 38), (0, .nameAndType 39 12), (0, u "MODIFIED"), (0, .fieldref 8 41), (0, .nameAndType 42 12), (0, u "SOME"), (0, .fieldref 8 44), (0, .nameAndType 45 12), (0, u "ALL"), (0, .integer 2147483647), (0, .methodref 48 49), (0, .class_ 50), (0, .nameAndType 51 52), (0, u "com/example/sorites/sorites/kb/KindKeepsDegreesCrispPinLaw"), (0, u "pick"), (0, u "(I)Lcom/example/sorites/sorites/kb/Concept$Kind;"), (0, .methodref 8 54), (0, .nameAndType 55 56), (0, u "keepsDegreesCrisp"), (0, u "()Z"), (3, u "law"), (0, u "(I)Z")] 6

def k1m0 : Method := { name := "<init>", desc := "()V", sig := { parameters := [], returnType := none }, accessFlags := 2, code := none }
def k1c1 : Code := { maxStack := 2, maxLocals := 1, code := method_2_code, exceptionTable := #[], attributes := #[] }
def k1m1 : Method := { name := "pick", desc := "(I)Lcom/example/sorites/sorites/kb/Concept$Kind;", sig := { parameters := [.int], returnType := some (.object "com/example/sorites/sorites/kb/Concept$Kind") }, accessFlags := 10, code := some k1c1 }
def k1c2 : Code := { maxStack := 2, maxLocals := 4, code := code, exceptionTable := #[], attributes := #[] }
def k1m2 : Method := { name := "law", desc := "(I)Z", sig := { parameters := [.int], returnType := some .boolean }, accessFlags := 9, code := some k1c2 }
/-- com/example/sorites/sorites/kb/KindKeepsDegreesCrispPinLaw -/
def k1 : Class := { plain "com/example/sorites/sorites/kb/KindKeepsDegreesCrispPinLaw" (some 0) with
  accessFlags := 49
  interfaces := #[]
  cf := some (fileOf pool1 48 #[] #[{ accessFlags := 2, nameIndex := 5, descriptorIndex := 6, attributes := #[] }, { accessFlags := 10, nameIndex := 51, descriptorIndex := 52, attributes := #[] }, { accessFlags := 9, nameIndex := 60, descriptorIndex := 61, attributes := #[] }] 49 2 #[] #[])
  fields := #[]
  methods := #[k1m0, k1m1, k1m2]
  instanceTypes := #[]
  staticTypes := #[]
  resolved := Array.replicate 68 none
  statics := none }

def pool2 : Array CpInfo := pool [(1, .class_ 2), (0, u "java/lang/constant/Constable"), (0, .class_ 4), (0, u "java/lang/Object")] 6

/-- java/lang/constant/Constable -/
def k2 : Class := { plain "java/lang/constant/Constable" (some 0) with
  accessFlags := 1537
  interfaces := #[]
  cf := some (fileOf pool2 1 #[] #[] 1537 3 #[] #[])
  fields := #[]
  methods := #[]
  instanceTypes := #[]
  staticTypes := #[]
  resolved := Array.replicate 11 none
  statics := none }

def pool3 : Array CpInfo := pool [(1, .class_ 2), (0, u "java/lang/Comparable"), (0, .class_ 4), (0, u "java/lang/Object")] 7

/-- java/lang/Comparable -/
def k3 : Class := { plain "java/lang/Comparable" (some 0) with
  accessFlags := 1537
  interfaces := #[]
  cf := some (fileOf pool3 1 #[] #[] 1537 3 #[] #[])
  fields := #[]
  methods := #[]
  instanceTypes := #[]
  staticTypes := #[]
  resolved := Array.replicate 12 none
  statics := none }

def pool4 : Array CpInfo := pool [(1, .class_ 2), (0, u "java/io/Serializable"), (0, .class_ 4), (0, u "java/lang/Object")] 2

/-- java/io/Serializable -/
def k4 : Class := { plain "java/io/Serializable" (some 0) with
  accessFlags := 1537
  interfaces := #[]
  cf := some (fileOf pool4 1 #[] #[] 1537 3 #[] #[])
  fields := #[]
  methods := #[]
  instanceTypes := #[]
  staticTypes := #[]
  resolved := Array.replicate 7 none
  statics := none }

def pool5 : Array CpInfo := pool [(2, .class_ 4), (1, u "java/lang/Enum"), (0, u "name"), (0, u "Ljava/lang/String;"), (2, u "ordinal"), (0, u "I"), (1, .class_ 14), (1, u "java/lang/Object"), (4, u "hash"), (86, .class_ 108), (1, u "java/lang/Enum$EnumDesc"), (2, .class_ 112), (0, u "java/lang/constant/Constable"), (0, .class_ 114), (0, u "java/lang/Comparable"), (0, .class_ 116), (0, u "java/io/Serializable")] 87

/-- java/lang/Enum -/
def k5 : Class := { plain "java/lang/Enum" (some 0) with
  accessFlags := 1057
  interfaces := #[2, 3, 4]
  cf := some (fileOf pool5 2 #[.nestMembers #[106]] #[] 1057 12 #[111, 113, 115] #[{ accessFlags := 18, nameIndex := 5, descriptorIndex := 6, attributes := #[] }, { accessFlags := 18, nameIndex := 9, descriptorIndex := 10, attributes := #[] }, { accessFlags := 2, nameIndex := 19, descriptorIndex := 10, attributes := #[] }])
  fields := #[{ name := "name", type := (.object "java/lang/String"), accessFlags := 18, slot := 0, constantValue := 0 }, { name := "ordinal", type := .int, accessFlags := 18, slot := 1, constantValue := 0 }, { name := "hash", type := .int, accessFlags := 2, slot := 2, constantValue := 0 }]
  methods := #[]
  instanceTypes := #[(.object "java/lang/String"), .int, .int]
  staticTypes := #[]
  resolved := Array.replicate 204 none
  statics := none }

def pool6 : Array CpInfo := pool [(1, .class_ 2), (0, u "com/example/sorites/sorites/kb/Concept$Kind"), (2, u "ATOMIC"), (0, u "Lcom/example/sorites/sorites/kb/Concept$Kind;"), (2, u "TOP"), (2, u "BOTTOM"), (2, u "NOT"), (2, u "AND"), (2, u "OR"), (2, u "IMPLIES"), (0, .fieldref 1 26), (0, .nameAndType 27 6), (0, u "WEIGHTED_SUM"), (0, .fieldref 1 29), (0, .nameAndType 30 6), (0, u "SOME_VALUE"), (0, .fieldref 1 32), (0, .nameAndType 33 6), (0, u "MODIFIED"), (2, u "SOME"), (2, u "ALL"), (2, u "$VALUES"), (0, u "[Lcom/example/sorites/sorites/kb/Concept$Kind;"), (6, .class_ 52), (1, u "java/lang/Enum"), (30, u "keepsDegreesCrisp"), (0, u "()Z"), (6, .class_ 92), (0, u "com/example/sorites/sorites/kb/Concept")] 2

def k6c0 : Code := { maxStack := 2, maxLocals := 1, code := prog_11_method_4_code, exceptionTable := #[], attributes := #[] }
def k6m0 : Method := { name := "keepsDegreesCrisp", desc := "()Z", sig := { parameters := [], returnType := some .boolean }, accessFlags := 1, code := some k6c0 }
/-- com/example/sorites/sorites/kb/Concept$Kind -/
def k6 : Class := { plain "com/example/sorites/sorites/kb/Concept$Kind" (some 5) with
  accessFlags := 16433
  interfaces := #[]
  cf := some (fileOf pool6 1 #[.nestHost 91] #[{ accessFlags := 1, nameIndex := 83, descriptorIndex := 84, attributes := #[] }] 16433 50 #[] #[{ accessFlags := 16409, nameIndex := 5, descriptorIndex := 6, attributes := #[] }, { accessFlags := 16409, nameIndex := 9, descriptorIndex := 6, attributes := #[] }, { accessFlags := 16409, nameIndex := 12, descriptorIndex := 6, attributes := #[] }, { accessFlags := 16409, nameIndex := 15, descriptorIndex := 6, attributes := #[] }, { accessFlags := 16409, nameIndex := 18, descriptorIndex := 6, attributes := #[] }, { accessFlags := 16409, nameIndex := 21, descriptorIndex := 6, attributes := #[] }, { accessFlags := 16409, nameIndex := 24, descriptorIndex := 6, attributes := #[] }, { accessFlags := 16409, nameIndex := 27, descriptorIndex := 6, attributes := #[] }, { accessFlags := 16409, nameIndex := 30, descriptorIndex := 6, attributes := #[] }, { accessFlags := 16409, nameIndex := 33, descriptorIndex := 6, attributes := #[] }, { accessFlags := 16409, nameIndex := 36, descriptorIndex := 6, attributes := #[] }, { accessFlags := 16409, nameIndex := 39, descriptorIndex := 6, attributes := #[] }, { accessFlags := 4122, nameIndex := 42, descriptorIndex := 43, attributes := #[] }])
  fields := #[{ name := "ATOMIC", type := (.object "com/example/sorites/sorites/kb/Concept$Kind"), accessFlags := 16409, slot := 0, constantValue := 0 }, { name := "TOP", type := (.object "com/example/sorites/sorites/kb/Concept$Kind"), accessFlags := 16409, slot := 1, constantValue := 0 }, { name := "BOTTOM", type := (.object "com/example/sorites/sorites/kb/Concept$Kind"), accessFlags := 16409, slot := 2, constantValue := 0 }, { name := "NOT", type := (.object "com/example/sorites/sorites/kb/Concept$Kind"), accessFlags := 16409, slot := 3, constantValue := 0 }, { name := "AND", type := (.object "com/example/sorites/sorites/kb/Concept$Kind"), accessFlags := 16409, slot := 4, constantValue := 0 }, { name := "OR", type := (.object "com/example/sorites/sorites/kb/Concept$Kind"), accessFlags := 16409, slot := 5, constantValue := 0 }, { name := "IMPLIES", type := (.object "com/example/sorites/sorites/kb/Concept$Kind"), accessFlags := 16409, slot := 6, constantValue := 0 }, { name := "WEIGHTED_SUM", type := (.object "com/example/sorites/sorites/kb/Concept$Kind"), accessFlags := 16409, slot := 7, constantValue := 0 }, { name := "SOME_VALUE", type := (.object "com/example/sorites/sorites/kb/Concept$Kind"), accessFlags := 16409, slot := 8, constantValue := 0 }, { name := "MODIFIED", type := (.object "com/example/sorites/sorites/kb/Concept$Kind"), accessFlags := 16409, slot := 9, constantValue := 0 }, { name := "SOME", type := (.object "com/example/sorites/sorites/kb/Concept$Kind"), accessFlags := 16409, slot := 10, constantValue := 0 }, { name := "ALL", type := (.object "com/example/sorites/sorites/kb/Concept$Kind"), accessFlags := 16409, slot := 11, constantValue := 0 }, { name := "$VALUES", type := (.array (.object "com/example/sorites/sorites/kb/Concept$Kind")), accessFlags := 4122, slot := 12, constantValue := 0 }]
  methods := #[k6m0]
  instanceTypes := #[(.object "java/lang/String"), .int, .int]
  staticTypes := #[(.object "com/example/sorites/sorites/kb/Concept$Kind"), (.object "com/example/sorites/sorites/kb/Concept$Kind"), (.object "com/example/sorites/sorites/kb/Concept$Kind"), (.object "com/example/sorites/sorites/kb/Concept$Kind"), (.object "com/example/sorites/sorites/kb/Concept$Kind"), (.object "com/example/sorites/sorites/kb/Concept$Kind"), (.object "com/example/sorites/sorites/kb/Concept$Kind"), (.object "com/example/sorites/sorites/kb/Concept$Kind"), (.object "com/example/sorites/sorites/kb/Concept$Kind"), (.object "com/example/sorites/sorites/kb/Concept$Kind"), (.object "com/example/sorites/sorites/kb/Concept$Kind"), (.object "com/example/sorites/sorites/kb/Concept$Kind"), (.array (.object "com/example/sorites/sorites/kb/Concept$Kind"))]
  resolved := Array.replicate 95 none
  statics := some 0 }

def pool7 : Array CpInfo := pool [(1, u "java/lang/Cloneable"), (0, .class_ 1), (0, u "java/lang/Object"), (0, .class_ 3)] 3

/-- java/lang/Cloneable -/
def k7 : Class := { plain "java/lang/Cloneable" (some 0) with
  accessFlags := 1537
  interfaces := #[]
  cf := some (fileOf pool7 2 #[] #[] 1537 4 #[] #[])
  fields := #[]
  methods := #[]
  instanceTypes := #[]
  staticTypes := #[]
  resolved := Array.replicate 8 none
  statics := none }

/-- the primitive byte -/
def k8 : Class := { plain "byte" none with kind := .primitive 'B', accessFlags := 0x411 }
/-- [B -/
def k9 : Class := { plain "[B" (some 0) with kind := .array 8 .byte, interfaces := #[7, 4], accessFlags := 1041 }

/-- the primitive int -/
def k10 : Class := { plain "int" none with kind := .primitive 'I', accessFlags := 0x411 }
/-- [I -/
def k11 : Class := { plain "[I" (some 0) with kind := .array 10 .int, interfaces := #[7, 4], accessFlags := 1041 }

def heap : Heap := #[{ cls := 6, slots := #[.ref 1, .ref 2, .ref 3, .ref 4, .ref 5, .ref 6, .ref 7, .ref 8, .ref 9, .ref 10, .ref 11, .ref 12, .null], vm := .statics 6 },
  { cls := 6, slots := #[.null, .int 0, .int 0], vm := .none },
  { cls := 6, slots := #[.null, .int 1, .int 0], vm := .none },
  { cls := 6, slots := #[.null, .int 2, .int 0], vm := .none },
  { cls := 6, slots := #[.null, .int 3, .int 0], vm := .none },
  { cls := 6, slots := #[.null, .int 4, .int 0], vm := .none },
  { cls := 6, slots := #[.null, .int 5, .int 0], vm := .none },
  { cls := 6, slots := #[.null, .int 6, .int 0], vm := .none },
  { cls := 6, slots := #[.null, .int 7, .int 0], vm := .none },
  { cls := 6, slots := #[.null, .int 8, .int 0], vm := .none },
  { cls := 6, slots := #[.null, .int 9, .int 0], vm := .none },
  { cls := 6, slots := #[.null, .int 10, .int 0], vm := .none },
  { cls := 6, slots := #[.null, .int 11, .int 0], vm := .none }]
def classes : Array Class := #[k0, k1, k2, k3, k4, k5, k6, k7, k8, k9, k10, k11]
def interned : List (Array UInt16 × Addr) := []
def slotsUsed : Nat := 49
def theMethod : MethodId := ⟨1, 2⟩
def args0 : Array Value := #[.int 5]
def aboutOver (below : List Frame) : State where
  vm := { classes := classes, interned := interned.toArray }
  heap := heap
  slotsUsed := slotsUsed
  threads := #[{ frames := .invoking theMethod args0 :: below }]
def below0 : List Frame := [.native { method := ⟨0, 0⟩, args := #[] }]
def about1 : State := aboutOver below0
def p0 : Program := .bare "" "" ""
def e0 : Env := launch0.env 0 0 0
theorem w_frames : about1.frames = Frame.invoking theMethod args0 :: below0 := rfl
set_option maxRecDepth 65536 in
theorem w_args : argsFit about1.vm theMethod args0 = true := by decide +kernel
set_option maxRecDepth 65536 in
theorem w_heap : heapFits about1 = true := by decide +kernel
set_option maxRecDepth 65536 in
theorem w_runnable : about1.curStatus? = some .runnable := by decide +kernel
set_option maxRecDepth 65536 in
theorem w_alone : about1.alone = true := by decide +kernel
set_option maxRecDepth 65536 in
theorem w_named : about1.methodNamed? x = some theMethod := by decide +kernel
set_option maxRecDepth 65536 in
theorem w_hears : about1.hears theMethod below0 = true := by decide +kernel
set_option maxRecDepth 65536 in
theorem w_ripe : about1.ripe theMethod args0 below0 = true := by decide +kernel
theorem w_running : about1.status = .running := rfl
set_option maxRecDepth 65536 in
theorem w_room : about1.hasRoom e0.platform room_1 = true :=
  launch0.hasRoom_least _ room_1 (by decide +kernel) (by decide +kernel) (by decide +kernel) (by decide +kernel) (by decide +kernel) (by decide +kernel)
theorem allAtoms_all (ts : List Jvm.Cond) (a : Array Jvm.Value) (st : Jvm.State) : (allAtoms ts).before a st = ts.all (fun c => c.before a st) := by
  induction ts with
  | nil => rfl
  | cons c t ih =>
    show (Jvm.Cond.and c (allAtoms t)).before a st = _
    rw [Jvm.Cond.before_and, ih, List.all_cons]
def words1 : List Jvm.Cond := Jvm.Cond.code x code maxLocals ret :: tables_1
/-- a 'code' word, met by the world's own term for the bytes: nothing is compared byte by byte -/
theorem code_word {y : MethodName} {bytes : ByteArray} {mx : Nat} {rt : Option FieldType} {a : Array Value} {s : State} {m : MethodId} {meth : Method} {c : Code} (h1 : s.methodNamed? y = some m) (h2 : s.vm.method? m = some meth) (h3 : meth.code = some c) (h4 : c.code = bytes)
    (h5 : (c.maxLocals == mx && c.exceptionTable.isEmpty && decide (c.maxStack ≤ mostOperands) && decide (meth.sig.returnType = rt) && !meth.locks && decide (parseMethodDescriptor y.desc = some meth.sig)) = true) : (Jvm.Cond.code y bytes mx rt).before a s = true := by
  simp only [Bool.and_eq_true, beq_iff_eq, Bool.not_eq_true', decide_eq_true_eq] at h5
  obtain ⟨⟨⟨⟨⟨g1, g2⟩, g3⟩, g4⟩, g5⟩, g6⟩ := h5
  simp [Cond.before, Cond.holds, Cond.value, h1, h2, h3, h4, g1, g2, g3, g4, g5, g6]
def isCode : Jvm.Cond → Bool
  | .code _ _ _ _ => true
  | _ => false
theorem all_split {L : List Jvm.Cond} {P : Jvm.Cond → Bool} (h1 : L.all (fun c => isCode c || P c) = true) (h2 : ∀ c ∈ L.filter isCode, P c = true) : L.all P = true := by
  refine List.all_eq_true.mpr fun c hc => ?_
  have h := List.all_eq_true.mp h1 c hc
  rcases Bool.eq_false_or_eq_true (isCode c) with hi | hi
  · exact h2 c (List.mem_filter.mpr ⟨hc, hi⟩)
  · simpa [hi] using h
set_option maxRecDepth 65536 in
theorem w_c0 : (Jvm.Cond.code x code maxLocals ret).before args0 about1 = true := code_word (m := ⟨1, 2⟩) (meth := k1m2) (c := k1c2) (by decide +kernel) rfl rfl rfl (by decide +kernel)
set_option maxRecDepth 65536 in
theorem w_c1 : (Jvm.Cond.code ({ cls := "com/example/sorites/sorites/kb/KindKeepsDegreesCrispPinLaw", name := "pick", desc := "(I)Lcom/example/sorites/sorites/kb/Concept$Kind;" } : Jvm.MethodName) method_2_code (1 : Nat) (Option.some (Jvm.ClassFile.FieldType.object "com/example/sorites/sorites/kb/Concept$Kind"))).before args0 about1 = true := code_word (m := ⟨1, 1⟩) (meth := k1m1) (c := k1c1) (by decide +kernel) rfl rfl rfl (by decide +kernel)
set_option maxRecDepth 65536 in
theorem w_c2 : (Jvm.Cond.code ({ cls := "com/example/sorites/sorites/kb/Concept$Kind", name := "keepsDegreesCrisp", desc := "()Z" } : Jvm.MethodName) prog_11_method_4_code (1 : Nat) (Option.some Jvm.ClassFile.FieldType.boolean)).before args0 about1 = true := code_word (m := ⟨6, 0⟩) (meth := k6m0) (c := k6c0) (by decide +kernel) rfl rfl rfl (by decide +kernel)
def codes1 : List Jvm.Cond := [Jvm.Cond.code x code maxLocals ret, Jvm.Cond.code ({ cls := "com/example/sorites/sorites/kb/KindKeepsDegreesCrispPinLaw", name := "pick", desc := "(I)Lcom/example/sorites/sorites/kb/Concept$Kind;" } : Jvm.MethodName) method_2_code (1 : Nat) (Option.some (Jvm.ClassFile.FieldType.object "com/example/sorites/sorites/kb/Concept$Kind")), Jvm.Cond.code ({ cls := "com/example/sorites/sorites/kb/Concept$Kind", name := "keepsDegreesCrisp", desc := "()Z" } : Jvm.MethodName) prog_11_method_4_code (1 : Nat) (Option.some Jvm.ClassFile.FieldType.boolean)]
set_option maxRecDepth 65536 in
theorem codes_eq : words1.filter isCode = codes1 := rfl
theorem w_codes : ∀ c ∈ words1.filter isCode, c.before args0 about1 = true := by
  rw [codes_eq]
  intro c hc
  simp only [codes1, List.mem_cons, List.not_mem_nil, or_false] at hc
  rcases hc with rfl | rfl | rfl
  · exact w_c0
  · exact w_c1
  · exact w_c2
set_option maxRecDepth 65536 in
theorem w_t1 : (words1.take 24).all (fun c => isCode c || c.before args0 about1) = true := by decide +kernel
set_option maxRecDepth 65536 in
theorem w_t2 : (words1.drop 24).all (fun c => isCode c || c.before args0 about1) = true := by decide +kernel
theorem w_tables : (allAtoms (Jvm.Cond.code x code maxLocals ret :: tables_1)).before args0 about1 = true := by
  rw [allAtoms_all]
  show words1.all (fun c => c.before args0 about1) = true
  refine all_split ?_ w_codes
  rw [← List.take_append_drop 24 words1, List.all_append, w_t1, w_t2]
  rfl
set_option maxRecDepth 65536 in
theorem w_case : (Jvm.Cond.and given_1 narrow_1).before args0 about1 = true := by decide +kernel
theorem w_applies : (headSpec (Jvm.Cond.code x code maxLocals ret :: tables_1) room_1).applies x e0.platform about1 = true :=
  (Spec.applies_iff w_frames).mpr ⟨w_running, w_runnable, w_alone, w_named, w_hears, w_ripe, w_room, w_tables⟩
theorem atStart : AtStart classFile x code maxLocals ret World_1 tables_1 room_1 Calls_1 rest_1 Pre_1 launch0 p0 e0 about1 theMethod args0 below0 :=
  ⟨lists_1, trivial, launch0.admits_env _ _ _, launch0.least_env, fairChoices_fair.cas, fairChoices_fair.clock, w_frames, w_args, w_heap, w_applies, trivial, trivial, w_case⟩
end start1
theorem witness_1 : WitnessClaimed_1 := ⟨start1.p0, start1.e0, start1.about1, start1.theMethod, start1.args0, start1.below0, start1.atStart⟩
end Jvm.Pilot.@@N@@
