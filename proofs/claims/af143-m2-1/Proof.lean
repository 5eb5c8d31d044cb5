import JvmDerived
import JvmDerived.Pilot.@@N@@Statement
import JvmDerived.Pilot.@@N@@Code
set_option linter.unusedVariables false
set_option linter.unusedSimpArgs false
namespace Jvm.Pilot.@@N@@
open Jvm Jvm.ClassFile Sem Op Lib Jvm.Free Jvm.Stand Jvm.LawKit Jvm.RoadKit Bundle Jvm.Pilot.@@N@@.Jvm.D
section Own
variable {p : Program} {l : Launch} {e : Env} {R : Room} {s : State} {m : MethodId} {args : Array Value} {below : List Frame} {meth : Method} {c : Code} {T : State} {locs : List Loc} {cells slots : Nat} {Z : State} {a0 : Array Value} {h : Heap}
/-- from the state S the body ends well: it returns v, leaves the heap and the written places as Q says, within kc cells and ks slots -/
def Run (p : Program) (e : Env) (below : List Frame) (s : State) (Q : Option Value → Heap → List Loc → Prop) (kc ks : Nat) (S : State) : Prop := ∃ s₂ o, Steps p.tables e below S s₂ ∧ s₂.status = .running ∧ Ended s₂ below o ∧ ∃ v L, o = .returned v ∧ Q v s₂.heap L ∧ FrameEnd s o s₂ L kc ks
variable {Q : Option Value → Heap → List Loc → Prop} {kc ks : Nat}
theorem Run.pre {S S' : State} (h : ∀ t, Steps p.tables e below S' t → Steps p.tables e below S t) (k : Run p e below s Q kc ks S') : Run p e below s Q kc ks S := by
  obtain ⟨s₂, o, h1, r⟩ := k; exact ⟨s₂, o, h _ h1, r⟩
theorem Run.out (X : Stand p l e R s m args below meth c T locs cells slots) (hx : p.tables.exec = Jvm.exec) {pc : Nat} {Ls : Array Slot} {w : Value} {t : FieldType} {i : Instr} {rest : List Value} (hret : meth.sig.returnType = some t) (hn : narrow t w = w)
    (hi : (i = .ireturn ∧ (t = .int ∨ t = .boolean ∨ t = .byte ∨ t = .char ∨ t = .short) ∧ ∃ z, w = .int z) ∨ (i = .lreturn ∧ t = .long ∧ ∃ z, w = .long z) ∨ (i = .dreturn ∧ t = .double ∧ ∃ z, w = .double z) ∨ (i = .freturn ∧ t = .float ∧ ∃ z, w = .float z) ∨ (i = .areturn ∧ t.isReference = true ∧ w.isRef = true))
    (hlk : meth.locks = false) (hd : decode c.code pc = .ok (i, 1)) (hq : Q (some w) T.heap locs) (hc : cells ≤ kc) (hs : slots ≤ ks) : Run p e below s Q kc ks (T.setTop (mkF m pc Ls (w :: rest))) := by
  obtain ⟨fs, hr, hrun, hended, hW, hsame⟩ := X.leave (v := some w) (fun h => by rw [hret] at h; cases h) hlk
  exact ⟨_, _, retOut X hx hret hn hi hd hr, hrun, hended, _, _, rfl, hq, ⟨_, rfl⟩, hW, hsame.mono hc hs⟩
theorem Run.retN (X : Stand p l e R s m args below meth c T locs cells slots) (hx : p.tables.exec = Jvm.exec) {pc : Nat} {Ls : Array Slot} {z : Int32} {t : FieldType} {rest : List Value} (hret : meth.sig.returnType = some t) (ht : t = .boolean ∨ t = .byte ∨ t = .char ∨ t = .short) (hlk : meth.locks = false)
    (hd : decode c.code pc = .ok (.ireturn, 1)) (hq : Q (some (.int (nar t z))) T.heap locs) (hc : cells ≤ kc) (hs : slots ≤ ks) : Run p e below s Q kc ks (T.setTop (mkF m pc Ls (.int z :: rest))) := by
  obtain ⟨fs, hr, hrun, hended, hW, hsame⟩ := X.leave (v := some (.int (nar t z))) (fun h => by rw [hret] at h; cases h) hlk
  exact ⟨_, _, Jvm.RoadKit.retN X hx hret ht hd hr, hrun, hended, _, _, rfl, hq, ⟨_, rfl⟩, hW, hsame.mono hc hs⟩
theorem Run.retI (X : Stand p l e R s m args below meth c T locs cells slots) (hx : p.tables.exec = Jvm.exec) {pc : Nat} {Ls : Array Slot} {z : Int32} {rest : List Value} (hret : meth.sig.returnType = some .int) (hlk : meth.locks = false)
    (hd : decode c.code pc = .ok (.ireturn, 1)) (hq : Q (some (.int z)) T.heap locs) (hc : cells ≤ kc) (hs : slots ≤ ks) : Run p e below s Q kc ks (T.setTop (mkF m pc Ls (.int z :: rest))) := Run.out X hx hret rfl (Or.inl ⟨rfl, Or.inl rfl, z, rfl⟩) hlk hd hq hc hs
theorem Run.retJ (X : Stand p l e R s m args below meth c T locs cells slots) (hx : p.tables.exec = Jvm.exec) {pc : Nat} {Ls : Array Slot} {z : Int64} {rest : List Value} (hret : meth.sig.returnType = some .long) (hlk : meth.locks = false)
    (hd : decode c.code pc = .ok (.lreturn, 1)) (hq : Q (some (.long z)) T.heap locs) (hc : cells ≤ kc) (hs : slots ≤ ks) : Run p e below s Q kc ks (T.setTop (mkF m pc Ls (.long z :: rest))) := Run.out X hx hret rfl (Or.inr (Or.inl ⟨rfl, rfl, z, rfl⟩)) hlk hd hq hc hs
theorem Run.retA (X : Stand p l e R s m args below meth c T locs cells slots) (hx : p.tables.exec = Jvm.exec) {pc : Nat} {Ls : Array Slot} {w : Value} {t : FieldType} {rest : List Value} (hret : meth.sig.returnType = some t) (ht : t.isReference = true) (hw : w.isRef = true) (hlk : meth.locks = false)
    (hd : decode c.code pc = .ok (.areturn, 1)) (hq : Q (some w) T.heap locs) (hc : cells ≤ kc) (hs : slots ≤ ks) : Run p e below s Q kc ks (T.setTop (mkF m pc Ls (w :: rest))) := Run.out X hx hret (by cases t <;> cases w <;> simp_all [FieldType.isReference, Value.isRef, narrow]) (Or.inr (Or.inr (Or.inr (Or.inr ⟨rfl, ht, hw⟩)))) hlk hd hq hc hs
theorem Run.retV (X : Stand p l e R s m args below meth c T locs cells slots) (hx : p.tables.exec = Jvm.exec) {pc : Nat} {Ls : Array Slot} (hret : meth.sig.returnType = none) (hlk : meth.locks = false)
    (hd : decode c.code pc = .ok (.return_, 1)) (hq : Q none T.heap locs) (hc : cells ≤ kc) (hs : slots ≤ ks) : Run p e below s Q kc ks (T.setTop (mkF m pc Ls [])) := by
  obtain ⟨fs, hr, hrun, hended, hW, hsame⟩ := X.leave (v := none) (fun _ => rfl) hlk
  exact ⟨_, _, X.returnOut hx hret hd hr, hrun, hended, _, _, rfl, hq, ⟨_, rfl⟩, hW, hsame.mono hc hs⟩
/-- a body's contract, at the heap h0 and the arguments as' -/
def Con (l : Launch) (y : MethodName) (bytes : ByteArray) (maxL : Nat) (ret : Option FieldType) (rm : Room) (Z : State) (as' : Array Value) (h0 : Heap) (Q : Option Value → Heap → List Loc → Prop) : Prop :=
  ∀ ws, MetFree l y (head1 (Jvm.Cond.code y bytes maxL ret :: ws) rm) (fun a U => a = as' ∧ Z.Warmed39 U.vm ∧ U.heap = h0) (fun _ _ _ _ _ => True) (fun _ U o U' => ∃ v L, o = .returned v ∧ Q v U'.heap L ∧ FrameEnd U o U' L rm.cells rm.slots)
theorem Con.mk {y : MethodName} {bytes : ByteArray} {maxL : Nat} {ret : Option FieldType} {rm : Room} {as' : Array Value} {h0 : Heap} {F : MethodId → JFrame} (hpl : plainFor y = true) (hef : ∀ m, entryFrame m as' maxL = F m)
    (body : ∀ (p : Program) (e : Env) (s : State) (m : MethodId) (below : List Frame) (meth : Method) (c : Code) (s₁ : State), p.tables.exec = Jvm.exec → c.code = bytes → c.maxLocals = maxL → s.vm.findClass y.cls = some m.cls → meth.name = y.name → meth.sig.returnType = ret → meth.locks = false → Z.Warmed39 s.vm →
      Stand p l e rm s m as' below meth c s₁ [] 0 0 → s₁.heap = h0 → Run p e below s Q rm.cells rm.slots (s₁.setTop (F m))) : Con l y bytes maxL ret rm Z as' h0 Q := by
  intro ws
  refine MetFree.of_bodySF hpl hisR ?_
  intro p e s m args below meth c s₁ Bd hml0 hP hK
  obtain ⟨rfl, hZ, hh⟩ := hP
  have k := body p e s m below meth c s₁ Bd.exec Bd.bytes hml0 (findClass_of_methodNamed Bd.named) (name_of_methodNamed Bd.named Bd.method).1 Bd.returns Bd.notSynchronized hZ (Stand.of_body Bd) (by rw [← hh, Bd.state]; rfl)
  rw [← hef m] at k
  exact k
theorem Con.back {y : MethodName} {bytes : ByteArray} {maxL : Nat} {ret : Option FieldType} {rm : Room} {len W : Nat} {as' : Array Value} (hM : Con l y bytes maxL ret rm Z as' h Q) (hZ : Z.Warmed39 s.vm) (wc : (Jvm.Cond.code y bytes maxL ret).before a0 Z = true) (wz : (Jvm.Cond.initialized y.cls).before a0 Z = true) (hf : rm.frames + 1 ≤ R.frames) (hl : W + (maxL + 11) + rm.locals ≤ R.locals) :
    Back l R p e below s args y len W (fun A a => a = as' ∧ A.U.heap = h ∧ A.cells + rm.cells ≤ R.cells ∧ A.slots + rm.slots ≤ R.slots) (fun A _ v B => ∃ L, Q v B.U.heap L ∧ B.locs = A.locs ++ L ∧ B.cells = A.cells + rm.cells ∧ B.slots = A.slots + rm.slots) :=
  backOf (hM []) hZ wc wz hf hl
section Calls
variable {y : MethodName} {bytes : ByteArray} {maxL : Nat} {rt : Option FieldType} {rm : Room} {W : Nat} {own : String} {index : Nat} {Qc : Option Value → Heap → List Loc → Prop} {g : JFrame} {argsL rest : List Value} {as' : Array Value}
theorem Run.callS (X : Stand p l e R s m args below meth c T locs cells slots) (hx : p.tables.exec = Jvm.exec) (hZ : Z.Warmed39 s.vm) (hown : s.vm.findClass own = some m.cls) (w1 : (Jvm.Cond.methodLink own index y).before a0 Z = true) (w2 : (Jvm.Cond.static y).before a0 Z = true) (w3 : (Jvm.Cond.initialized y.cls).before a0 Z = true) (w4 : (Jvm.Cond.code y bytes maxL rt).before a0 Z = true)
    (hy : y.cls ≠ "java/lang/invoke/MethodHandle" ∧ y.cls ≠ "java/lang/invoke/VarHandle") (hM : Con l y bytes maxL rt rm Z argsL.toArray h Qc) (eT : T.heap = h) (hfr : rm.frames + 1 ≤ R.frames) (hlo : W + (maxL + 11) + rm.locals ≤ R.locals) (hce : cells + rm.cells ≤ R.cells) (hsl : slots + rm.slots ≤ R.slots)
    (hg : g.method = m) (hsize : g.locals.size = c.maxLocals) (hlen : ∀ sig, parseMethodDescriptor y.desc = some sig → argsL.length = sig.parameters.length) (hstack : g.stack = argsL.reverse ++ rest) (hW : 2 * g.monitorRoom + (rest.map fun v => v.category).sum ≤ W) (hdg : decode c.code g.pc = .ok (.invokestatic index, 3))
    (k : ∀ v T' L, Stand p l e R s m args below meth c T' (locs ++ L) (cells + rm.cells) (slots + rm.slots) → Qc v T'.heap L → Run p e below s Q kc ks (T'.setTop { g with pc := g.pc + 3, stack := v.toList ++ rest })) : Run p e below s Q kc ks (T.setTop g) := by
  obtain ⟨v, vm₁, ⟨T', L', c', n'⟩, -, X', ⟨L, hQ, l1, l2, l3⟩, st⟩ := Jvm.LawKit.callS X hx hown (mvT hZ w1) (mvT hZ w2) (mvT hZ w3) (mvT hZ w4) hy (hM.back (W := W) hZ w4 w3 hfr hlo) hg hsize hlen hstack hW hdg (fun _ _ => ⟨rfl, eT, hce, hsl⟩)
  dsimp only [Pt.U, Pt.locs, Pt.cells, Pt.slots] at X' l1 l2 l3 st hQ
  subst l1 l2 l3
  exact Run.pre st (k v T' L X' hQ)
theorem Run.callI (X : Stand p l e R s m args below meth c T locs cells slots) (hx : p.tables.exec = Jvm.exec) (hZ : Z.Warmed39 s.vm) (hy1 : y.name = "<init>") (hown : s.vm.findClass own = some m.cls) (w1 : (Jvm.Cond.methodLink own index y).before a0 Z = true) (w2 : (Jvm.Cond.instanceMethod y).before a0 Z = true) (w4 : (Jvm.Cond.code y bytes maxL none).before a0 Z = true) (w3 : (Jvm.Cond.initialized y.cls).before a0 Z = true)
    (hy : y.cls ≠ "java/lang/invoke/MethodHandle" ∧ y.cls ≠ "java/lang/invoke/VarHandle") {a : Addr} (hM : Con l y bytes maxL none rm Z (.ref a :: argsL).toArray h Qc) (eT : T.heap = h) (hfr : rm.frames + 1 ≤ R.frames) (hlo : W + (maxL + 11) + rm.locals ≤ R.locals) (hce : cells + rm.cells ≤ R.cells) (hsl : slots + rm.slots ≤ R.slots)
    (hg : g.method = m) (hsize : g.locals.size = c.maxLocals) (hlen : ∀ sig, parseMethodDescriptor y.desc = some sig → argsL.length = sig.parameters.length) (hstack : g.stack = argsL.reverse ++ .ref a :: rest) (hW : 2 * g.monitorRoom + (rest.map fun v => v.category).sum ≤ W) (hdg : decode c.code g.pc = .ok (.invokespecial index, 3))
    (k : ∀ v T' L, Stand p l e R s m args below meth c T' (locs ++ L) (cells + rm.cells) (slots + rm.slots) → Qc v T'.heap L → Run p e below s Q kc ks (T'.setTop { g with pc := g.pc + 3, stack := v.toList ++ rest })) : Run p e below s Q kc ks (T.setTop g) := by
  obtain ⟨v, vm₁, ⟨T', L', c', n'⟩, -, X', ⟨L, hQ, l1, l2, l3⟩, st⟩ := X.specialBack hx hy1 hown (mvT hZ w1) (mvT hZ w2) (mvT hZ w4) hy (hM.back (W := W) hZ w4 w3 hfr hlo) hg hsize (Steps.refl _) hlen hstack hW hdg (fun _ _ => ⟨rfl, eT, hce, hsl⟩)
  dsimp only [Pt.U, Pt.locs, Pt.cells, Pt.slots] at X' l1 l2 l3 st hQ
  subst l1 l2 l3
  exact Run.pre (fun _ q => st.trans q) (k v T' L X' hQ)
theorem Run.callP (X : Stand p l e R s m args below meth c T locs cells slots) (hx : p.tables.exec = Jvm.exec) (hZ : Z.Warmed39 s.vm) (hown : s.vm.findClass own = some m.cls) (w1 : (Jvm.Cond.methodLink own index y).before a0 Z = true) (w2 : (Jvm.Cond.instanceMethod y).before a0 Z = true) (w5 : (Jvm.Cond.selects y.cls y y).before a0 Z = true) (w6 : (Jvm.Cond.privateMethod y).before a0 Z = true) (w4 : (Jvm.Cond.code y bytes maxL rt).before a0 Z = true) (w3 : (Jvm.Cond.initialized y.cls).before a0 Z = true)
    (hy : y.cls ≠ "java/lang/invoke/MethodHandle" ∧ y.cls ≠ "java/lang/invoke/VarHandle") {a : Addr} {C : String} (E : Exa Z h a C) (hM : Con l y bytes maxL rt rm Z (.ref a :: argsL).toArray h Qc) (eT : T.heap = h) (hfr : rm.frames + 1 ≤ R.frames) (hlo : W + (maxL + 11) + rm.locals ≤ R.locals) (hce : cells + rm.cells ≤ R.cells) (hsl : slots + rm.slots ≤ R.slots)
    (hg : g.method = m) (hsize : g.locals.size = c.maxLocals) (hlen : ∀ sig, parseMethodDescriptor y.desc = some sig → argsL.length = sig.parameters.length) (hstack : g.stack = argsL.reverse ++ .ref a :: rest) (hW : 2 * g.monitorRoom + (rest.map fun v => v.category).sum ≤ W) (hdg : decode c.code g.pc = .ok (.invokevirtual index, 3))
    (k : ∀ v T' L, Stand p l e R s m args below meth c T' (locs ++ L) (cells + rm.cells) (slots + rm.slots) → Qc v T'.heap L → Run p e below s Q kc ks (T'.setTop { g with pc := g.pc + 3, stack := v.toList ++ rest })) : Run p e below s Q kc ks (T.setTop g) := by
  obtain ⟨cell, kk, q1, -, -, q4, -⟩ := E
  obtain ⟨v, vm₁, ⟨T', L', c', n'⟩, -, X', ⟨L, hQ, l1, l2, l3⟩, st⟩ := X.privateBack hx hown (mvT hZ w1) (mvT hZ w2) (mvT hZ w5) (Cond.privateMethod_at (mvP hZ w6 (args := #[]))) (mvT hZ w4) hy (hM.back (W := W) hZ w4 w3 hfr hlo) hg hsize (Steps.refl _) (a := a) (by rw [eT]; exact q1) (fun q e => by rw [e] at q4; cases q4) hlen hstack hW hdg (fun _ _ => ⟨rfl, eT, hce, hsl⟩)
  dsimp only [Pt.U, Pt.locs, Pt.cells, Pt.slots] at X' l1 l2 l3 st hQ
  subst l1 l2 l3
  exact Run.pre (fun _ q => st.trans q) (k v T' L X' hQ)
theorem Run.callV {z : MethodName} {C : String} (X : Stand p l e R s m args below meth c T locs cells slots) (hx : p.tables.exec = Jvm.exec) (hZ : Z.Warmed39 s.vm) (hown : s.vm.findClass own = some m.cls) (w1 : (Jvm.Cond.methodLink own index y).before a0 Z = true) (w2 : (Jvm.Cond.declares y).before a0 Z = true) (hnf : NotFace s y) (w5 : (Jvm.Cond.selects C y z).before a0 Z = true) (w6 : (Jvm.Cond.instanceMethod z).before a0 Z = true) (w4 : (Jvm.Cond.code z bytes maxL rt).before a0 Z = true) (w3 : (Jvm.Cond.initialized z.cls).before a0 Z = true)
    (hy : y.cls ≠ "java/lang/invoke/MethodHandle" ∧ y.cls ≠ "java/lang/invoke/VarHandle") {b : Addr} (E : Exa Z h b C) (hM : Con l z bytes maxL rt rm Z (.ref b :: argsL).toArray h Qc) (eT : T.heap = h) (hfr : rm.frames + 1 ≤ R.frames) (hlo : W + (maxL + 11) + rm.locals ≤ R.locals) (hce : cells + rm.cells ≤ R.cells) (hsl : slots + rm.slots ≤ R.slots)
    (hg : g.method = m) (hsize : g.locals.size = c.maxLocals) (hlen : ∀ sig, parseMethodDescriptor y.desc = some sig → argsL.length = sig.parameters.length) (hstack : g.stack = argsL.reverse ++ .ref b :: rest) (hW : 2 * g.monitorRoom + (rest.map fun v => v.category).sum ≤ W) (hdg : decode c.code g.pc = .ok (.invokevirtual index, 3))
    (k : ∀ v T' L, Stand p l e R s m args below meth c T' (locs ++ L) (cells + rm.cells) (slots + rm.slots) → Qc v T'.heap L → Run p e below s Q kc ks (T'.setTop { g with pc := g.pc + 3, stack := v.toList ++ rest })) : Run p e below s Q kc ks (T.setTop g) := by
  obtain ⟨cB, kB, qa, qb, qc⟩ := isOf hZ eT E
  obtain ⟨v, vm₁, ⟨T', L', c', n'⟩, -, X', ⟨L, hQ, l1, l2, l3⟩, st⟩ := X.virtualBack hx hown (mvT hZ w1) (mvT hZ w2) hnf (mvT hZ w5) (mvT hZ w6) hy (hM.back (W := W) hZ w4 w3 hfr hlo) qa qc hg hsize (Steps.refl _) hlen hstack hW hdg (fun _ _ => ⟨rfl, eT, hce, hsl⟩)
  dsimp only [Pt.U, Pt.locs, Pt.cells, Pt.slots] at X' l1 l2 l3 st hQ
  subst l1 l2 l3
  exact Run.pre (fun _ q => st.trans q) (k v T' L X' hQ)
theorem Run.callU {z : MethodName} {C owner : String} (X : Stand p l e R s m args below meth c T locs cells slots) (hx : p.tables.exec = Jvm.exec) (hZ : Z.Warmed39 s.vm) (hown : s.vm.findClass own = some m.cls) (w1 : (Jvm.Cond.methodLink own index y).before a0 Z = true) (w2 : (Jvm.Cond.sameMethod y.cls owner y.name y.desc).before a0 Z = true) (w7 : (Jvm.Cond.declares ⟨owner, y.name, y.desc⟩).before a0 Z = true) (w5 : (Jvm.Cond.selects C y z).before a0 Z = true) (w6 : (Jvm.Cond.instanceMethod z).before a0 Z = true) (w4 : (Jvm.Cond.code z bytes maxL rt).before a0 Z = true) (w3 : (Jvm.Cond.initialized z.cls).before a0 Z = true)
    (hy : owner ≠ "java/lang/invoke/MethodHandle" ∧ owner ≠ "java/lang/invoke/VarHandle") {b : Addr} (E : Exa Z h b C) (hM : Con l z bytes maxL rt rm Z (.ref b :: argsL).toArray h Qc) (eT : T.heap = h) (hfr : rm.frames + 1 ≤ R.frames) (hlo : W + (maxL + 11) + rm.locals ≤ R.locals) (hce : cells + rm.cells ≤ R.cells) (hsl : slots + rm.slots ≤ R.slots)
    (hg : g.method = m) (hsize : g.locals.size = c.maxLocals) (hlen : ∀ sig, parseMethodDescriptor y.desc = some sig → argsL.length = sig.parameters.length) (hstack : g.stack = argsL.reverse ++ .ref b :: rest) (hW : 2 * g.monitorRoom + (rest.map fun v => v.category).sum ≤ W) (hdg : decode c.code g.pc = .ok (.invokevirtual index, 3))
    (k : ∀ v T' L, Stand p l e R s m args below meth c T' (locs ++ L) (cells + rm.cells) (slots + rm.slots) → Qc v T'.heap L → Run p e below s Q kc ks (T'.setTop { g with pc := g.pc + 3, stack := v.toList ++ rest })) : Run p e below s Q kc ks (T.setTop g) := by
  obtain ⟨cB, kB, qa, qb, qc⟩ := isOf hZ eT E
  obtain ⟨v, vm₁, ⟨T', L', c', n'⟩, -, X', ⟨L, hQ, l1, l2, l3⟩, st⟩ := X.virtualBackUp hx hown (mvT hZ w1) (mvT hZ w2) (mvT hZ w7) hy (mvT hZ w5) (mvT hZ w6) (hM.back (W := W) hZ w4 w3 hfr hlo) qa qc hg hsize (Steps.refl _) hlen hstack hW hdg (fun _ _ => ⟨rfl, eT, hce, hsl⟩)
  dsimp only [Pt.U, Pt.locs, Pt.cells, Pt.slots] at X' l1 l2 l3 st hQ
  subst l1 l2 l3
  exact Run.pre (fun _ q => st.trans q) (k v T' L X' hQ)
theorem Run.callF {xi : MethodName} {C : String} {count : Nat} (X : Stand p l e R s m args below meth c T locs cells slots) (hx : p.tables.exec = Jvm.exec) (hZ : Z.Warmed39 s.vm) (hown : s.vm.findClass own = some m.cls) (w1 : (Jvm.Cond.methodLink own index xi).before a0 Z = true) (w2 : (Jvm.Cond.declares xi).before a0 Z = true) (w7 : (Jvm.Cond.interfaceMethod xi.cls xi.cls xi.name xi.desc).before args s = true) (w5 : (Jvm.Cond.selects C xi y).before a0 Z = true) (w6 : (Jvm.Cond.instanceMethod y).before a0 Z = true) (w8 : (Jvm.Cond.publicMethod y).before a0 Z = true) (w9 : (Jvm.Cond.unhidden C xi.name xi.desc).before a0 Z = true) (w10 : (Jvm.Cond.castable C xi.cls).before a0 Z = true) (w4 : (Jvm.Cond.code y bytes maxL rt).before a0 Z = true) (w3 : (Jvm.Cond.initialized y.cls).before a0 Z = true)
    (hy : xi.cls ≠ "java/lang/invoke/MethodHandle" ∧ xi.cls ≠ "java/lang/invoke/VarHandle") {b : Addr} (E : Exa Z h b C) (hM : Con l y bytes maxL rt rm Z (.ref b :: argsL).toArray h Qc) (eT : T.heap = h) (hfr : rm.frames + 1 ≤ R.frames) (hlo : W + (maxL + 11) + rm.locals ≤ R.locals) (hce : cells + rm.cells ≤ R.cells) (hsl : slots + rm.slots ≤ R.slots)
    (hg : g.method = m) (hsize : g.locals.size = c.maxLocals) (hlen : ∀ sig, parseMethodDescriptor xi.desc = some sig → argsL.length = sig.parameters.length) (hstack : g.stack = argsL.reverse ++ .ref b :: rest) (hW : 2 * g.monitorRoom + (rest.map fun v => v.category).sum ≤ W) (hdg : decode c.code g.pc = .ok (.invokeinterface index count, 5))
    (k : ∀ v T' L, Stand p l e R s m args below meth c T' (locs ++ L) (cells + rm.cells) (slots + rm.slots) → Qc v T'.heap L → Run p e below s Q kc ks (T'.setTop { g with pc := g.pc + 5, stack := v.toList ++ rest })) : Run p e below s Q kc ks (T.setTop g) := by
  obtain ⟨cB, kB, qa, qb, qc⟩ := isOf hZ eT E
  obtain ⟨v, vm₁, ⟨T', L', c', n'⟩, -, X', ⟨L, hQ, l1, l2, l3⟩, st⟩ := X.interfaceBack hx hown (mvT hZ w1) (mvT hZ w2) w7 (mvT hZ w5) (mvT hZ w6) (mvT hZ w8) (mvT hZ w9) (mvT hZ w10) hy (hM.back (W := W) hZ w4 w3 hfr hlo) qa qb qc hg hsize (Steps.refl _) hlen hstack hW hdg (fun _ _ => ⟨rfl, eT, hce, hsl⟩)
  dsimp only [Pt.U, Pt.locs, Pt.cells, Pt.slots] at X' l1 l2 l3 st hQ
  subst l1 l2 l3
  exact Run.pre (fun _ q => st.trans q) (k v T' L X' hQ)
end Calls
/-! from the case's words to facts on the heap -/
theorem own_fldInt {args : Array Value} {t : Term} {C n d : String} {k : Int32} {a : Addr} (ht : t.eval args Z none [] Z = some (.ref a)) (h : (Jvm.Cond.eq (Term.field t C n d) (Term.int k)).value args Z none Z [] = some true) : Fld Z Z.heap a C n d (.int k) := by
  obtain ⟨x, y, e1, e2, -, k2⟩ := cmp_v (Or.inl h)
  have e3 : y = .int k := (Option.some.inj ((Term.int_eval k).symm.trans e2)).symm
  subst e3
  obtain ⟨z, rfl⟩ := k2
  have e4 := fld_at (C := C) (n := n) (dd := d) ht
  rw [e4] at e1
  have q : z = k := by
    have hh : (Jvm.Cond.eq (Term.field t C n d) (Term.int k)).value args Z none Z [] = some (decide (z = k)) := by simp [Jvm.Cond.value, e4, e1, e2]
    exact gotT hh h
  subst q
  exact Fld.start e1
theorem own_fldLong {args : Array Value} {t : Term} {C n d : String} {k : Int64} {a : Addr} (ht : t.eval args Z none [] Z = some (.ref a)) (h : (Jvm.Cond.eq (Term.field t C n d) (Term.long k)).value args Z none Z [] = some true) : Fld Z Z.heap a C n d (.long k) := by
  obtain ⟨x, y, e1, e2, -, k2⟩ := cmp_v (Or.inl h)
  have e3 : y = .long k := (Option.some.inj (show some (Value.long k) = some y from e2)).symm
  subst e3
  obtain ⟨z, rfl⟩ := k2
  have e4 := fld_at (C := C) (n := n) (dd := d) ht
  have q : z = k := gotT (eq_L e1 e2) h
  rw [e4] at e1
  subst q
  exact Fld.start e1
theorem own_len {args : Array Value} {t : Term} {n : Int32} {a : Addr} {cl : Cell} {ty : FieldType} (ht : t.eval args Z none [] Z = some (.ref a)) (A : Arr Z Z.heap a cl ty) (h : (Jvm.Cond.eq (Term.length t) (Term.int n)).value args Z none Z [] = some true) : cl.slots.size < 2 ^ 31 ∧ cl.slots.size.toInt32 = n := by
  obtain ⟨x, y, e1, e2, -, k2⟩ := cmp_v (Or.inl h)
  have ha : Z.arrayAt? a = some cl := A.fin (Vm.Alike.refl _)
  by_cases hl : cl.slots.size < 2 ^ 31
  · refine ⟨hl, ?_⟩
    have e3 := len_f ht ha hl
    have hh : (Jvm.Cond.eq (Term.length t) (Term.int n)).value args Z none Z [] = some (decide (cl.slots.size.toInt32 = n)) := by
      have e4 : (Term.int n).eval args Z none [] Z = some (.int n) := Term.int_eval n
      simp [Jvm.Cond.value, e3, e4]
    exact gotT hh h
  · exfalso
    simp [Term.eval, ht, ha, hl] at e1
theorem own_elem {args : Array Value} {t u : Term} {j : Int32} {a w : Addr} {cl : Cell} (ht : t.eval args Z none [] Z = some (.ref a)) (hu : u.eval args Z none [] Z = some (.ref w)) (hc : Z.heap[a]? = some cl) (h : (Jvm.Cond.eq (Term.elem t (Term.int j)) u).value args Z none Z [] = some true) : cl.slots[j.toNatClampNeg]? = some (.ref w) := by
  obtain ⟨x, y, e1, e2, k1, k2⟩ := cmp_v (Or.inl h)
  cases hu.symm.trans e2
  have q := gotT (eq_R e1 e2 k2.2 rfl) h
  subst q
  exact (elem_in e1 ht (Term.int_eval j) hc).2
theorem own_fldRef {args : Array Value} {t u : Term} {C n d : String} {a w : Addr} (ht : t.eval args Z none [] Z = some (.ref a)) (hu : u.eval args Z none [] Z = some (.ref w)) (h : (Jvm.Cond.eq (Term.field t C n d) u).value args Z none Z [] = some true) : Fld Z Z.heap a C n d (.ref w) := by
  obtain ⟨x, y, e1, e2, k1, k2⟩ := cmp_v (Or.inl h)
  cases hu.symm.trans e2
  have q := gotT (eq_R e1 e2 k2.2 rfl) h
  subst q
  rw [fld_at ht] at e1
  exact Fld.start e1
theorem own_fldNull {args : Array Value} {t : Term} {C n d : String} {a : Addr} (ht : t.eval args Z none [] Z = some (.ref a)) (h : (Jvm.Cond.eq (Term.field t C n d) Term.null).value args Z none Z [] = some true) : Fld Z Z.heap a C n d .null := by
  have e1 := null_v h
  rw [fld_at ht] at e1
  exact Fld.start e1
theorem own_fit {s : State} (hF : heapFits s = true) : Fit s := fun {y c} hc i hi => by
  obtain ⟨ha, rfl⟩ := Array.getElem?_eq_some_iff.mp hc
  have q := List.all_eq_true.mp ((Array.all_eq_true_iff_forall_mem.mp hF) _ (Array.getElem_mem ha)) i (List.mem_range.mpr hi)
  simpa [Array.getElem?_eq_getElem hi] using q
end Own
theorem d2_0 : decode prog_7_method_1_code 0 = .ok (.getstatic 13, 3) := by decide +kernel
theorem d2_3 : decode prog_7_method_1_code 3 = .ok (.invokevirtual 17, 3) := by decide +kernel
theorem d2_6 : decode prog_7_method_1_code 6 = .ok (.checkcast 18, 3) := by decide +kernel
theorem d2_9 : decode prog_7_method_1_code 9 = .ok (.areturn, 1) := by decide +kernel
theorem pn_2 : plainName "com/example/humble_issuer/humbleissuer/issuing/Issuer" = true := by first | (simp [plainName, overriddenIn]; done) | decide +kernel
set_option maxRecDepth 65536 in
set_option maxHeartbeats 40000000 in
theorem rm2 (l : Launch) (Z : State) (a0 : Array Value) (hw : ∀ d ∈ tables_1, d.before a0 Z = true) (vv : Addr) (kv : ClassId) (w0 : Addr) (w1 : Addr) (w2 : Addr) (h0 : Heap) (n0 : Nat) (Z0 : n0 ≤ h0.size) (OL : Old Z n0 h0) (SV : Sta Z Z.heap "com/example/humble_issuer/humbleissuer/issuing/Issuer" "$VALUES" "[Lcom/example/humble_issuer/humbleissuer/issuing/Issuer;" (.ref vv)) (EV : Exa Z Z.heap vv "[Lcom/example/humble_issuer/humbleissuer/issuing/Issuer;") (AV : Arv Z Z.heap vv kv (.object "com/example/humble_issuer/humbleissuer/issuing/Issuer") 3 [(.ref w0), (.ref w1), (.ref w2)] .null) :
    Con l (⟨"com/example/humble_issuer/humbleissuer/issuing/Issuer", "values", "()[Lcom/example/humble_issuer/humbleissuer/issuing/Issuer;"⟩ : MethodName) prog_7_method_1_code 0 (some (.array (.object "com/example/humble_issuer/humbleissuer/issuing/Issuer"))) ({ frames := 1, cells := 1, slots := 3, locals := 14 } : Room) Z #[] h0 (fun v h L => ∃ b : Addr, v = some (.ref b) ∧ Fr n0 L ∧ Keep h0 h [] ∧ h0.size ≤ b ∧ Arv Z h b kv (.object "com/example/humble_issuer/humbleissuer/issuing/Issuer") 3 [(.ref w0), (.ref w1), (.ref w2)] .null) := by
  refine Con.mk (plainFor_of_name pn_2) (fun m => show entryFrame m #[] 0 = mkF m 0 #[] [] by first | (simp [entryFrame, mkF, argsToLocals, Value.category]; done) | rfl) ?_
  intro p e s m below meth c s₁ hx hby hml hown hnm hret hlk hZ X0 e0
  have N0 := Fr.nil n0
  show Run p e below s _ _ _ (s₁.setTop (mkF m 0 #[] []))
  obtain ⟨T1, X1, e1, st1⟩ := getS2 X0 hx hZ hown (host := "") (Or.inl (hw _ (List.mem_of_getElem? (i := 12) rfl))) Via.refl e0 (SV.ext OL.2) (g := (mkF m 0 #[] [])) rfl (hb hby d2_0)
  refine Run.pre st1 ?_
  show Run p e below s _ _ _ (T1.setTop (mkF m 3 #[] [(.ref vv)]))
  obtain ⟨T2, h2, X2, e2, E2, V2, A2, st2⟩ := cloneH X1 hx hZ hown (hw _ (List.mem_of_getElem? (i := 14) rfl)) (hw _ (List.mem_of_getElem? (i := 15) rfl)) (hw _ (List.mem_of_getElem? (i := 19) rfl)) (hw _ (List.mem_of_getElem? (i := 17) rfl)) (hw _ (List.mem_of_getElem? (i := 18) rfl)) (hw _ (List.mem_of_getElem? (i := 20) rfl)) e1 ((AV.ext OL.2)).arh (EV.ext OL.2) (g := (mkF m 3 #[] [(.ref vv)])) rfl (by rw [hml]; rfl) rfl (hb hby d2_3) (by decide) (W := 0) (cap := 3) (by show 2 * 0 + _ ≤ _; exact Nat.le_of_eq rfl) (by decide) (by decide) (by decide) (by decide)
  obtain ⟨b2, g2⟩ : ∃ z, z = h0.size := ⟨_, rfl⟩
  rw [← g2] at V2 A2 st2
  refine Run.pre st2 ?_
  have gn_b2 : n0 ≤ b2 := Nat.le_trans (Nat.le_trans Z0 (Keep.refl h0 []).1) (Nat.le_of_eq g2.symm)
  have sz_b2 : h0.size ≤ b2 := Nat.le_trans (Keep.refl h0 []).1 (Nat.le_of_eq g2.symm)
  have V_b2 : Arv Z h2 b2 kv (.object "com/example/humble_issuer/humbleissuer/issuing/Issuer") (3 : Int32) [(.ref w0), (.ref w1), (.ref w2)] .null := V2
  have K2 : Keep h0 h2 [] := (Keep.refl h0 []).ext E2
  show Run p e below s _ _ _ (T2.setTop (mkF m 6 #[] [(.ref b2)]))
  obtain ⟨T3, X3, e3, st3⟩ := castY X2 hx hZ hown (hw _ (List.mem_of_getElem? (i := 24) rfl)) e2 (Ins.self A2) (g := (mkF m 6 #[] [(.ref b2)])) rfl rfl (hb hby d2_6)
  refine Run.pre st3 ?_
  show Run p e below s _ _ _ (T3.setTop (mkF m 9 #[] [(.ref b2)]))
  exact Run.retA X3 hx hret rfl rfl hlk (hb hby d2_9) (by first | (rw [e3]; exact ⟨b2, rfl, N0, K2, sz_b2, V_b2⟩) | exact ⟨b2, rfl, N0, K2, sz_b2, V_b2⟩) (by decide) (by decide)
theorem d3_0 : decode prog_7_method_5_code 0 = .ok (.aload_n 0, 1) := by decide +kernel
theorem d3_1 : decode prog_7_method_5_code 1 = .ok (.getfield 32, 3) := by decide +kernel
theorem d3_4 : decode prog_7_method_5_code 4 = .ok (.areturn, 1) := by decide +kernel
theorem pn_3 : plainName "com/example/humble_issuer/humbleissuer/issuing/Issuer" = true := by first | (simp [plainName, overriddenIn]; done) | decide +kernel
set_option maxRecDepth 65536 in
set_option maxHeartbeats 40000000 in
theorem rm3 (l : Launch) (Z : State) (a0 : Array Value) (hw : ∀ d ∈ tables_1, d.before a0 Z = true) (a : Addr) (o : Addr) (h0 : Heap) (n0 : Nat) (Z0 : n0 ≤ h0.size) (FO : Fld Z h0 a "com/example/humble_issuer/humbleissuer/issuing/Issuer" "own" "Lcom/example/humble_issuer/humbleissuer/IssueAuthority;" (.ref o)) :
    Con l (⟨"com/example/humble_issuer/humbleissuer/issuing/Issuer", "own", "()Lcom/example/humble_issuer/humbleissuer/IssueAuthority;"⟩ : MethodName) prog_7_method_5_code 1 (some (.object "com/example/humble_issuer/humbleissuer/IssueAuthority")) ({ frames := 0, cells := 0, slots := 0, locals := 0 } : Room) Z #[(.ref a)] h0 (fun v h L => v = some (.ref o) ∧ Fr n0 L ∧ h = h0) := by
  refine Con.mk (plainFor_of_name pn_3) (fun m => show entryFrame m #[(.ref a)] 1 = mkF m 0 #[.val (.ref a)] [] by first | (simp [entryFrame, mkF, argsToLocals, Value.category]; done) | rfl) ?_
  intro p e s m below meth c s₁ hx hby hml hown hnm hret hlk hZ X0 e0
  have N0 := Fr.nil n0
  show Run p e below s _ _ _ (s₁.setTop (mkF m 0 #[.val (.ref a)] []))
  refine Run.pre (fun _ k => XS.aloadN X0.here hx rfl (hb hby d3_0) rfl rfl k) ?_
  show Run p e below s _ _ _ (s₁.setTop (mkF m 1 #[.val (.ref a)] [(.ref a)]))
  obtain ⟨T4, X4, e4, st4⟩ := getF X0 hx hZ hown (host := "") (Or.inl (hw _ (List.mem_of_getElem? (i := 26) rfl))) Via.refl e0 FO (g := (mkF m 1 #[.val (.ref a)] [(.ref a)])) rfl rfl (hb hby d3_1)
  refine Run.pre st4 ?_
  show Run p e below s _ _ _ (T4.setTop (mkF m 4 #[.val (.ref a)] [(.ref o)]))
  exact Run.retA X4 hx hret rfl rfl hlk (hb hby d3_4) (by first | (rw [e4]; exact ⟨rfl, N0, rfl⟩) | exact ⟨rfl, N0, rfl⟩) (by decide) (by decide)
theorem pd_0 : parseMethodDescriptor "()[Lcom/example/humble_issuer/humbleissuer/issuing/Issuer;" = some ⟨[], some (.array (.object "com/example/humble_issuer/humbleissuer/issuing/Issuer"))⟩ := by decide +kernel
theorem d1_0 : decode prog_7_method_4_code 0 = .ok (.invokestatic 36, 3) := by decide +kernel
theorem d1_3 : decode prog_7_method_4_code 3 = .ok (.astore_n 1, 1) := by decide +kernel
theorem d1_4 : decode prog_7_method_4_code 4 = .ok (.aload_n 1, 1) := by decide +kernel
theorem d1_5 : decode prog_7_method_4_code 5 = .ok (.arraylength, 1) := by decide +kernel
theorem d1_6 : decode prog_7_method_4_code 6 = .ok (.istore_n 2, 1) := by decide +kernel
theorem d1_7 : decode prog_7_method_4_code 7 = .ok (.iconst 0, 1) := by decide +kernel
theorem d1_8 : decode prog_7_method_4_code 8 = .ok (.istore_n 3, 1) := by decide +kernel
theorem d1_9 : decode prog_7_method_4_code 9 = .ok (.iload_n 3, 1) := by decide +kernel
theorem d1_10 : decode prog_7_method_4_code 10 = .ok (.iload_n 2, 1) := by decide +kernel
theorem d1_11 : decode prog_7_method_4_code 11 = .ok (.if_icmp .ge 26, 3) := by decide +kernel
theorem d1_14 : decode prog_7_method_4_code 14 = .ok (.aload_n 1, 1) := by decide +kernel
theorem d1_15 : decode prog_7_method_4_code 15 = .ok (.iload_n 3, 1) := by decide +kernel
theorem d1_16 : decode prog_7_method_4_code 16 = .ok (.aaload, 1) := by decide +kernel
theorem d1_17 : decode prog_7_method_4_code 17 = .ok (.astore 4, 2) := by decide +kernel
theorem d1_19 : decode prog_7_method_4_code 19 = .ok (.aload 4, 2) := by decide +kernel
theorem d1_21 : decode prog_7_method_4_code 21 = .ok (.getfield 32, 3) := by decide +kernel
theorem d1_24 : decode prog_7_method_4_code 24 = .ok (.aload_n 0, 1) := by decide +kernel
theorem d1_25 : decode prog_7_method_4_code 25 = .ok (.if_acmp .ne 6, 3) := by decide +kernel
theorem d1_28 : decode prog_7_method_4_code 28 = .ok (.aload 4, 2) := by decide +kernel
theorem d1_30 : decode prog_7_method_4_code 30 = .ok (.areturn, 1) := by decide +kernel
theorem pn_1 : plainName "com/example/humble_issuer/humbleissuer/issuing/Issuer" = true := by first | (simp [plainName, overriddenIn]; done) | decide +kernel
set_option maxRecDepth 65536 in
set_option maxHeartbeats 40000000 in
theorem rm1_0 (l : Launch) (Z : State) (a0 : Array Value) (hw : ∀ d ∈ tables_1, d.before a0 Z = true) (vv : Addr) (kv : ClassId) (w0 : Addr) (w1 : Addr) (w2 : Addr) (q0 : Addr) (q1 : Addr) (h0 : Heap) (n0 : Nat) (Z0 : n0 ≤ h0.size) (OL : Old Z n0 h0) (SV : Sta Z Z.heap "com/example/humble_issuer/humbleissuer/issuing/Issuer" "$VALUES" "[Lcom/example/humble_issuer/humbleissuer/issuing/Issuer;" (.ref vv)) (EV : Exa Z Z.heap vv "[Lcom/example/humble_issuer/humbleissuer/issuing/Issuer;") (AV : Arv Z Z.heap vv kv (.object "com/example/humble_issuer/humbleissuer/issuing/Issuer") 3 [(.ref w0), (.ref w1), (.ref w2)] .null) (F0 : Fld Z Z.heap w0 "com/example/humble_issuer/humbleissuer/issuing/Issuer" "own" "Lcom/example/humble_issuer/humbleissuer/IssueAuthority;" (.ref q0)) (F1 : Fld Z Z.heap w1 "com/example/humble_issuer/humbleissuer/issuing/Issuer" "own" "Lcom/example/humble_issuer/humbleissuer/IssueAuthority;" (.ref q1)) (na : q0 ≠ q1) :
    Con l (⟨"com/example/humble_issuer/humbleissuer/issuing/Issuer", "of", "(Lcom/example/humble_issuer/humbleissuer/IssueAuthority;)Lcom/example/humble_issuer/humbleissuer/issuing/Issuer;"⟩ : MethodName) prog_7_method_4_code 5 (some (.object "com/example/humble_issuer/humbleissuer/issuing/Issuer")) ({ frames := 2, cells := 1, slots := 3, locals := 25 } : Room) Z #[(.ref q0)] h0 (fun v h L => v = some (.ref w0) ∧ Fr n0 L ∧ Keep h0 h []) := by
  refine Con.mk (plainFor_of_name pn_1) (fun m => show entryFrame m #[(.ref q0)] 5 = mkF m 0 #[.val (.ref q0), .unset, .unset, .unset, .unset] [] by first | (simp [entryFrame, mkF, argsToLocals, Value.category]; done) | rfl) ?_
  intro p e s m below meth c s₁ hx hby hml hown hnm hret hlk hZ X0 e0
  have N0 := Fr.nil n0
  show Run p e below s _ _ _ (s₁.setTop (mkF m 0 #[.val (.ref q0), .unset, .unset, .unset, .unset] []))
  refine Run.callS X0 hx hZ (y := (⟨"com/example/humble_issuer/humbleissuer/issuing/Issuer", "values", "()[Lcom/example/humble_issuer/humbleissuer/issuing/Issuer;"⟩ : MethodName)) hown (hw _ (List.mem_of_getElem? (i := 9) rfl)) (hw _ (List.mem_of_getElem? (i := 10) rfl)) (hw _ (List.mem_of_getElem? (i := 4) rfl)) (hw _ (List.mem_of_getElem? (i := 11) rfl)) (by decide) (W := 0) (rm2 l Z a0 hw vv kv w0 w1 w2 h0 n0 (Nat.le_trans Z0 (Keep.refl h0 []).1) OL SV EV AV) e0 (by decide) (by decide) (by decide) (by decide) (g := (mkF m 0 #[.val (.ref q0), .unset, .unset, .unset, .unset] [])) rfl (by rw [hml]; rfl) (argsL := []) (rest := []) (lenOf pd_0 rfl) rfl (by show 2 * 0 + _ ≤ _; exact Nat.le_of_eq rfl) (hb hby d1_0) ?_
  intro v5 T5 L5 X5 hQ5
  obtain ⟨b5, rfl, Nq5, Kc5, sz5, vb5⟩ := hQ5
  have N5 := Fr.app N0 Nq5
  have K5 : Keep h0 T5.heap [] := (Keep.refl h0 []).trans Kc5 all0
  have sz_b5 : h0.size ≤ b5 := Nat.le_trans (Keep.refl h0 []).1 sz5
  have gn_b5 : n0 ≤ b5 := Nat.le_trans Z0 sz_b5
  show Run p e below s _ _ _ (T5.setTop (mkF m 3 #[.val (.ref q0), .unset, .unset, .unset, .unset] [(.ref b5)]))
  refine Run.pre (fun _ k => XS.astoreN X5.here hx rfl (hb hby d1_3) rfl rfl (l' := #[.val (.ref q0), .val (.ref b5), .unset, .unset, .unset]) rfl k) ?_
  show Run p e below s _ _ _ (T5.setTop (mkF m 4 #[.val (.ref q0), .val (.ref b5), .unset, .unset, .unset] []))
  refine Run.pre (fun _ k => XS.aloadN X5.here hx rfl (hb hby d1_4) rfl rfl k) ?_
  show Run p e below s _ _ _ (T5.setTop (mkF m 5 #[.val (.ref q0), .val (.ref b5), .unset, .unset, .unset] [(.ref b5)]))
  obtain ⟨c6, Ar6, -, S6, N6, -, -⟩ := id vb5
  refine Run.pre (X5.arraylength hx Ar6.1 (State.isArrayOf_alike hZ.alike Ar6.2.1) (g := (mkF m 5 #[.val (.ref q0), .val (.ref b5), .unset, .unset, .unset] [(.ref b5)])) rfl rfl (hb hby d1_5)) ?_
  rw [len_of S6 N6]
  show Run p e below s _ _ _ (T5.setTop (mkF m 6 #[.val (.ref q0), .val (.ref b5), .unset, .unset, .unset] [(.int (3 : Int32))]))
  refine Run.pre (fun _ k => XS.istoreN X5.here hx rfl (hb hby d1_6) rfl (l' := #[.val (.ref q0), .val (.ref b5), .val (.int (3 : Int32)), .unset, .unset]) rfl k) ?_
  show Run p e below s _ _ _ (T5.setTop (mkF m 7 #[.val (.ref q0), .val (.ref b5), .val (.int (3 : Int32)), .unset, .unset] []))
  refine Run.pre (fun _ k => XS.iconst X5.here hx rfl (hb hby d1_7) k) ?_
  show Run p e below s _ _ _ (T5.setTop (mkF m 8 #[.val (.ref q0), .val (.ref b5), .val (.int (3 : Int32)), .unset, .unset] [(.int (0 : Int32))]))
  refine Run.pre (fun _ k => XS.istoreN X5.here hx rfl (hb hby d1_8) rfl (l' := #[.val (.ref q0), .val (.ref b5), .val (.int (3 : Int32)), .val (.int (0 : Int32)), .unset]) rfl k) ?_
  show Run p e below s _ _ _ (T5.setTop (mkF m 9 #[.val (.ref q0), .val (.ref b5), .val (.int (3 : Int32)), .val (.int (0 : Int32)), .unset] []))
  refine Run.pre (fun _ k => XS.iloadN X5.here hx rfl (hb hby d1_9) rfl  k) ?_
  show Run p e below s _ _ _ (T5.setTop (mkF m 10 #[.val (.ref q0), .val (.ref b5), .val (.int (3 : Int32)), .val (.int (0 : Int32)), .unset] [(.int (0 : Int32))]))
  refine Run.pre (fun _ k => XS.iloadN X5.here hx rfl (hb hby d1_10) rfl  k) ?_
  show Run p e below s _ _ _ (T5.setTop (mkF m 11 #[.val (.ref q0), .val (.ref b5), .val (.int (3 : Int32)), .val (.int (0 : Int32)), .unset] [(.int (3 : Int32)), (.int (0 : Int32))]))
  refine Run.pre (fun _ k => XS.icmpNo X5.here hx rfl (hb hby d1_11) rfl (tlt ((by decide) : (0 : Int32) < (3 : Int32))).2.1 k) ?_
  show Run p e below s _ _ _ (T5.setTop (mkF m 14 #[.val (.ref q0), .val (.ref b5), .val (.int (3 : Int32)), .val (.int (0 : Int32)), .unset] []))
  refine Run.pre (fun _ k => XS.aloadN X5.here hx rfl (hb hby d1_14) rfl rfl k) ?_
  show Run p e below s _ _ _ (T5.setTop (mkF m 15 #[.val (.ref q0), .val (.ref b5), .val (.int (3 : Int32)), .val (.int (0 : Int32)), .unset] [(.ref b5)]))
  refine Run.pre (fun _ k => XS.iloadN X5.here hx rfl (hb hby d1_15) rfl  k) ?_
  show Run p e below s _ _ _ (T5.setTop (mkF m 16 #[.val (.ref q0), .val (.ref b5), .val (.int (3 : Int32)), .val (.int (0 : Int32)), .unset] [(.int (0 : Int32)), (.ref b5)]))
  obtain ⟨c7, Ar7, -, S7, N7, H7, -⟩ := id vb5
  have hin7 : ¬ ((0 : Int32) < 0 ∨ c7.slots.size ≤ ((0 : Int32)).toNatClampNeg) := inb_of S7 ⟨by decide, by decide⟩
  refine Run.pre (X5.aaload hx (j := (0 : Int32)) (v := (.ref w0)) Ar7.1 (State.isArrayOf_alike hZ.alike Ar7.2.1) rfl Ar7.2.2 hin7 (H7.at hin7 rfl) (g := (mkF m 16 #[.val (.ref q0), .val (.ref b5), .val (.int (3 : Int32)), .val (.int (0 : Int32)), .unset] [(.int (0 : Int32)), (.ref b5)])) rfl rfl (hb hby d1_16)) ?_
  show Run p e below s _ _ _ (T5.setTop (mkF m 17 #[.val (.ref q0), .val (.ref b5), .val (.int (3 : Int32)), .val (.int (0 : Int32)), .unset] [(.ref w0)]))
  refine Run.pre (fun _ k => XS.astore X5.here hx rfl (hb hby d1_17) rfl rfl (l' := #[.val (.ref q0), .val (.ref b5), .val (.int (3 : Int32)), .val (.int (0 : Int32)), .val (.ref w0)]) rfl k) ?_
  show Run p e below s _ _ _ (T5.setTop (mkF m 19 #[.val (.ref q0), .val (.ref b5), .val (.int (3 : Int32)), .val (.int (0 : Int32)), .val (.ref w0)] []))
  refine Run.pre (fun _ k => XS.aload X5.here hx rfl (hb hby d1_19) rfl rfl k) ?_
  show Run p e below s _ _ _ (T5.setTop (mkF m 21 #[.val (.ref q0), .val (.ref b5), .val (.int (3 : Int32)), .val (.int (0 : Int32)), .val (.ref w0)] [(.ref w0)]))
  have f8 := (OL.keep Kc5 all0)
  obtain ⟨T9, X9, e9, st9⟩ := getF X5 hx hZ hown (host := "") (Or.inl (hw _ (List.mem_of_getElem? (i := 26) rfl))) Via.refl rfl (F0.ext f8.2) (g := (mkF m 21 #[.val (.ref q0), .val (.ref b5), .val (.int (3 : Int32)), .val (.int (0 : Int32)), .val (.ref w0)] [(.ref w0)])) rfl rfl (hb hby d1_21)
  refine Run.pre st9 ?_
  show Run p e below s _ _ _ (T9.setTop (mkF m 24 #[.val (.ref q0), .val (.ref b5), .val (.int (3 : Int32)), .val (.int (0 : Int32)), .val (.ref w0)] [(.ref q0)]))
  refine Run.pre (fun _ k => XS.aloadN X9.here hx rfl (hb hby d1_24) rfl rfl k) ?_
  show Run p e below s _ _ _ (T9.setTop (mkF m 25 #[.val (.ref q0), .val (.ref b5), .val (.int (3 : Int32)), .val (.int (0 : Int32)), .val (.ref w0)] [(.ref q0), (.ref q0)]))
  refine Run.pre (fun _ k => Jvm.RoadKit.acmp (g := (mkF m 25 #[.val (.ref q0), .val (.ref b5), .val (.int (3 : Int32)), .val (.int (0 : Int32)), .val (.ref w0)] [(.ref q0), (.ref q0)])) X9 hx rfl rfl rfl (pc0 := 25) (pc' := 28) (same := true) rfl (hb hby d1_25) rfl (decide_eq_true rfl) (by decide) (by decide) k) ?_
  show Run p e below s _ _ _ (T9.setTop (mkF m 28 #[.val (.ref q0), .val (.ref b5), .val (.int (3 : Int32)), .val (.int (0 : Int32)), .val (.ref w0)] []))
  refine Run.pre (fun _ k => XS.aload X9.here hx rfl (hb hby d1_28) rfl rfl k) ?_
  show Run p e below s _ _ _ (T9.setTop (mkF m 30 #[.val (.ref q0), .val (.ref b5), .val (.int (3 : Int32)), .val (.int (0 : Int32)), .val (.ref w0)] [(.ref w0)]))
  exact Run.retA X9 hx hret rfl rfl hlk (hb hby d1_30) (by first | (rw [e9]; exact ⟨rfl, N5, K5⟩) | exact ⟨rfl, N5, K5⟩) (by decide) (by decide)
theorem d1_31 : decode prog_7_method_4_code 31 = .ok (.iinc 3 1, 3) := by decide +kernel
theorem d1_34 : decode prog_7_method_4_code 34 = .ok (.goto (-25), 3) := by decide +kernel
set_option maxRecDepth 65536 in
set_option maxHeartbeats 40000000 in
theorem rm1_1 (l : Launch) (Z : State) (a0 : Array Value) (hw : ∀ d ∈ tables_1, d.before a0 Z = true) (vv : Addr) (kv : ClassId) (w0 : Addr) (w1 : Addr) (w2 : Addr) (q0 : Addr) (q1 : Addr) (h0 : Heap) (n0 : Nat) (Z0 : n0 ≤ h0.size) (OL : Old Z n0 h0) (SV : Sta Z Z.heap "com/example/humble_issuer/humbleissuer/issuing/Issuer" "$VALUES" "[Lcom/example/humble_issuer/humbleissuer/issuing/Issuer;" (.ref vv)) (EV : Exa Z Z.heap vv "[Lcom/example/humble_issuer/humbleissuer/issuing/Issuer;") (AV : Arv Z Z.heap vv kv (.object "com/example/humble_issuer/humbleissuer/issuing/Issuer") 3 [(.ref w0), (.ref w1), (.ref w2)] .null) (F0 : Fld Z Z.heap w0 "com/example/humble_issuer/humbleissuer/issuing/Issuer" "own" "Lcom/example/humble_issuer/humbleissuer/IssueAuthority;" (.ref q0)) (F1 : Fld Z Z.heap w1 "com/example/humble_issuer/humbleissuer/issuing/Issuer" "own" "Lcom/example/humble_issuer/humbleissuer/IssueAuthority;" (.ref q1)) (na : q0 ≠ q1) :
    Con l (⟨"com/example/humble_issuer/humbleissuer/issuing/Issuer", "of", "(Lcom/example/humble_issuer/humbleissuer/IssueAuthority;)Lcom/example/humble_issuer/humbleissuer/issuing/Issuer;"⟩ : MethodName) prog_7_method_4_code 5 (some (.object "com/example/humble_issuer/humbleissuer/issuing/Issuer")) ({ frames := 2, cells := 1, slots := 3, locals := 25 } : Room) Z #[(.ref q1)] h0 (fun v h L => v = some (.ref w1) ∧ Fr n0 L ∧ Keep h0 h []) := by
  refine Con.mk (plainFor_of_name pn_1) (fun m => show entryFrame m #[(.ref q1)] 5 = mkF m 0 #[.val (.ref q1), .unset, .unset, .unset, .unset] [] by first | (simp [entryFrame, mkF, argsToLocals, Value.category]; done) | rfl) ?_
  intro p e s m below meth c s₁ hx hby hml hown hnm hret hlk hZ X0 e0
  have N0 := Fr.nil n0
  show Run p e below s _ _ _ (s₁.setTop (mkF m 0 #[.val (.ref q1), .unset, .unset, .unset, .unset] []))
  refine Run.callS X0 hx hZ (y := (⟨"com/example/humble_issuer/humbleissuer/issuing/Issuer", "values", "()[Lcom/example/humble_issuer/humbleissuer/issuing/Issuer;"⟩ : MethodName)) hown (hw _ (List.mem_of_getElem? (i := 9) rfl)) (hw _ (List.mem_of_getElem? (i := 10) rfl)) (hw _ (List.mem_of_getElem? (i := 4) rfl)) (hw _ (List.mem_of_getElem? (i := 11) rfl)) (by decide) (W := 0) (rm2 l Z a0 hw vv kv w0 w1 w2 h0 n0 (Nat.le_trans Z0 (Keep.refl h0 []).1) OL SV EV AV) e0 (by decide) (by decide) (by decide) (by decide) (g := (mkF m 0 #[.val (.ref q1), .unset, .unset, .unset, .unset] [])) rfl (by rw [hml]; rfl) (argsL := []) (rest := []) (lenOf pd_0 rfl) rfl (by show 2 * 0 + _ ≤ _; exact Nat.le_of_eq rfl) (hb hby d1_0) ?_
  intro v10 T10 L10 X10 hQ10
  obtain ⟨b10, rfl, Nq10, Kc10, sz10, vb10⟩ := hQ10
  have N10 := Fr.app N0 Nq10
  have K10 : Keep h0 T10.heap [] := (Keep.refl h0 []).trans Kc10 all0
  have sz_b10 : h0.size ≤ b10 := Nat.le_trans (Keep.refl h0 []).1 sz10
  have gn_b10 : n0 ≤ b10 := Nat.le_trans Z0 sz_b10
  show Run p e below s _ _ _ (T10.setTop (mkF m 3 #[.val (.ref q1), .unset, .unset, .unset, .unset] [(.ref b10)]))
  refine Run.pre (fun _ k => XS.astoreN X10.here hx rfl (hb hby d1_3) rfl rfl (l' := #[.val (.ref q1), .val (.ref b10), .unset, .unset, .unset]) rfl k) ?_
  show Run p e below s _ _ _ (T10.setTop (mkF m 4 #[.val (.ref q1), .val (.ref b10), .unset, .unset, .unset] []))
  refine Run.pre (fun _ k => XS.aloadN X10.here hx rfl (hb hby d1_4) rfl rfl k) ?_
  show Run p e below s _ _ _ (T10.setTop (mkF m 5 #[.val (.ref q1), .val (.ref b10), .unset, .unset, .unset] [(.ref b10)]))
  obtain ⟨c11, Ar11, -, S11, N11, -, -⟩ := id vb10
  refine Run.pre (X10.arraylength hx Ar11.1 (State.isArrayOf_alike hZ.alike Ar11.2.1) (g := (mkF m 5 #[.val (.ref q1), .val (.ref b10), .unset, .unset, .unset] [(.ref b10)])) rfl rfl (hb hby d1_5)) ?_
  rw [len_of S11 N11]
  show Run p e below s _ _ _ (T10.setTop (mkF m 6 #[.val (.ref q1), .val (.ref b10), .unset, .unset, .unset] [(.int (3 : Int32))]))
  refine Run.pre (fun _ k => XS.istoreN X10.here hx rfl (hb hby d1_6) rfl (l' := #[.val (.ref q1), .val (.ref b10), .val (.int (3 : Int32)), .unset, .unset]) rfl k) ?_
  show Run p e below s _ _ _ (T10.setTop (mkF m 7 #[.val (.ref q1), .val (.ref b10), .val (.int (3 : Int32)), .unset, .unset] []))
  refine Run.pre (fun _ k => XS.iconst X10.here hx rfl (hb hby d1_7) k) ?_
  show Run p e below s _ _ _ (T10.setTop (mkF m 8 #[.val (.ref q1), .val (.ref b10), .val (.int (3 : Int32)), .unset, .unset] [(.int (0 : Int32))]))
  refine Run.pre (fun _ k => XS.istoreN X10.here hx rfl (hb hby d1_8) rfl (l' := #[.val (.ref q1), .val (.ref b10), .val (.int (3 : Int32)), .val (.int (0 : Int32)), .unset]) rfl k) ?_
  show Run p e below s _ _ _ (T10.setTop (mkF m 9 #[.val (.ref q1), .val (.ref b10), .val (.int (3 : Int32)), .val (.int (0 : Int32)), .unset] []))
  refine Run.pre (fun _ k => XS.iloadN X10.here hx rfl (hb hby d1_9) rfl  k) ?_
  show Run p e below s _ _ _ (T10.setTop (mkF m 10 #[.val (.ref q1), .val (.ref b10), .val (.int (3 : Int32)), .val (.int (0 : Int32)), .unset] [(.int (0 : Int32))]))
  refine Run.pre (fun _ k => XS.iloadN X10.here hx rfl (hb hby d1_10) rfl  k) ?_
  show Run p e below s _ _ _ (T10.setTop (mkF m 11 #[.val (.ref q1), .val (.ref b10), .val (.int (3 : Int32)), .val (.int (0 : Int32)), .unset] [(.int (3 : Int32)), (.int (0 : Int32))]))
  refine Run.pre (fun _ k => XS.icmpNo X10.here hx rfl (hb hby d1_11) rfl (tlt ((by decide) : (0 : Int32) < (3 : Int32))).2.1 k) ?_
  show Run p e below s _ _ _ (T10.setTop (mkF m 14 #[.val (.ref q1), .val (.ref b10), .val (.int (3 : Int32)), .val (.int (0 : Int32)), .unset] []))
  refine Run.pre (fun _ k => XS.aloadN X10.here hx rfl (hb hby d1_14) rfl rfl k) ?_
  show Run p e below s _ _ _ (T10.setTop (mkF m 15 #[.val (.ref q1), .val (.ref b10), .val (.int (3 : Int32)), .val (.int (0 : Int32)), .unset] [(.ref b10)]))
  refine Run.pre (fun _ k => XS.iloadN X10.here hx rfl (hb hby d1_15) rfl  k) ?_
  show Run p e below s _ _ _ (T10.setTop (mkF m 16 #[.val (.ref q1), .val (.ref b10), .val (.int (3 : Int32)), .val (.int (0 : Int32)), .unset] [(.int (0 : Int32)), (.ref b10)]))
  obtain ⟨c12, Ar12, -, S12, N12, H12, -⟩ := id vb10
  have hin12 : ¬ ((0 : Int32) < 0 ∨ c12.slots.size ≤ ((0 : Int32)).toNatClampNeg) := inb_of S12 ⟨by decide, by decide⟩
  refine Run.pre (X10.aaload hx (j := (0 : Int32)) (v := (.ref w0)) Ar12.1 (State.isArrayOf_alike hZ.alike Ar12.2.1) rfl Ar12.2.2 hin12 (H12.at hin12 rfl) (g := (mkF m 16 #[.val (.ref q1), .val (.ref b10), .val (.int (3 : Int32)), .val (.int (0 : Int32)), .unset] [(.int (0 : Int32)), (.ref b10)])) rfl rfl (hb hby d1_16)) ?_
  show Run p e below s _ _ _ (T10.setTop (mkF m 17 #[.val (.ref q1), .val (.ref b10), .val (.int (3 : Int32)), .val (.int (0 : Int32)), .unset] [(.ref w0)]))
  refine Run.pre (fun _ k => XS.astore X10.here hx rfl (hb hby d1_17) rfl rfl (l' := #[.val (.ref q1), .val (.ref b10), .val (.int (3 : Int32)), .val (.int (0 : Int32)), .val (.ref w0)]) rfl k) ?_
  show Run p e below s _ _ _ (T10.setTop (mkF m 19 #[.val (.ref q1), .val (.ref b10), .val (.int (3 : Int32)), .val (.int (0 : Int32)), .val (.ref w0)] []))
  refine Run.pre (fun _ k => XS.aload X10.here hx rfl (hb hby d1_19) rfl rfl k) ?_
  show Run p e below s _ _ _ (T10.setTop (mkF m 21 #[.val (.ref q1), .val (.ref b10), .val (.int (3 : Int32)), .val (.int (0 : Int32)), .val (.ref w0)] [(.ref w0)]))
  have f13 := (OL.keep Kc10 all0)
  obtain ⟨T14, X14, e14, st14⟩ := getF X10 hx hZ hown (host := "") (Or.inl (hw _ (List.mem_of_getElem? (i := 26) rfl))) Via.refl rfl (F0.ext f13.2) (g := (mkF m 21 #[.val (.ref q1), .val (.ref b10), .val (.int (3 : Int32)), .val (.int (0 : Int32)), .val (.ref w0)] [(.ref w0)])) rfl rfl (hb hby d1_21)
  refine Run.pre st14 ?_
  show Run p e below s _ _ _ (T14.setTop (mkF m 24 #[.val (.ref q1), .val (.ref b10), .val (.int (3 : Int32)), .val (.int (0 : Int32)), .val (.ref w0)] [(.ref q0)]))
  refine Run.pre (fun _ k => XS.aloadN X14.here hx rfl (hb hby d1_24) rfl rfl k) ?_
  show Run p e below s _ _ _ (T14.setTop (mkF m 25 #[.val (.ref q1), .val (.ref b10), .val (.int (3 : Int32)), .val (.int (0 : Int32)), .val (.ref w0)] [(.ref q1), (.ref q0)]))
  refine Run.pre (fun _ k => Jvm.RoadKit.acmp (g := (mkF m 25 #[.val (.ref q1), .val (.ref b10), .val (.int (3 : Int32)), .val (.int (0 : Int32)), .val (.ref w0)] [(.ref q1), (.ref q0)])) X14 hx rfl rfl rfl (pc0 := 25) (pc' := 31) (same := false) rfl (hb hby d1_25) rfl (decide_eq_false fun q => na (Value.ref.inj q)) (by decide) (by decide) k) ?_
  show Run p e below s _ _ _ (T14.setTop (mkF m 31 #[.val (.ref q1), .val (.ref b10), .val (.int (3 : Int32)), .val (.int (0 : Int32)), .val (.ref w0)] []))
  refine Run.pre (fun _ k => XS.iinc X14.here hx rfl (hb hby d1_31) rfl (l' := #[.val (.ref q1), .val (.ref b10), .val (.int (3 : Int32)), .val (.int (1 : Int32)), .val (.ref w0)]) rfl k) ?_
  show Run p e below s _ _ _ (T14.setTop (mkF m 34 #[.val (.ref q1), .val (.ref b10), .val (.int (3 : Int32)), .val (.int (1 : Int32)), .val (.ref w0)] []))
  refine Run.pre (fun _ k => XS.goto X14.here hx rfl (pc0 := 34) (pc' := 9) rfl (hb hby d1_34) (by decide) (by decide) k) ?_
  show Run p e below s _ _ _ (T14.setTop (mkF m 9 #[.val (.ref q1), .val (.ref b10), .val (.int (3 : Int32)), .val (.int (1 : Int32)), .val (.ref w0)] []))
  refine Run.pre (fun _ k => XS.iloadN X14.here hx rfl (hb hby d1_9) rfl  k) ?_
  show Run p e below s _ _ _ (T14.setTop (mkF m 10 #[.val (.ref q1), .val (.ref b10), .val (.int (3 : Int32)), .val (.int (1 : Int32)), .val (.ref w0)] [(.int (1 : Int32))]))
  refine Run.pre (fun _ k => XS.iloadN X14.here hx rfl (hb hby d1_10) rfl  k) ?_
  show Run p e below s _ _ _ (T14.setTop (mkF m 11 #[.val (.ref q1), .val (.ref b10), .val (.int (3 : Int32)), .val (.int (1 : Int32)), .val (.ref w0)] [(.int (3 : Int32)), (.int (1 : Int32))]))
  refine Run.pre (fun _ k => XS.icmpNo X14.here hx rfl (hb hby d1_11) rfl (tlt ((by decide) : (1 : Int32) < (3 : Int32))).2.1 k) ?_
  show Run p e below s _ _ _ (T14.setTop (mkF m 14 #[.val (.ref q1), .val (.ref b10), .val (.int (3 : Int32)), .val (.int (1 : Int32)), .val (.ref w0)] []))
  refine Run.pre (fun _ k => XS.aloadN X14.here hx rfl (hb hby d1_14) rfl rfl k) ?_
  show Run p e below s _ _ _ (T14.setTop (mkF m 15 #[.val (.ref q1), .val (.ref b10), .val (.int (3 : Int32)), .val (.int (1 : Int32)), .val (.ref w0)] [(.ref b10)]))
  refine Run.pre (fun _ k => XS.iloadN X14.here hx rfl (hb hby d1_15) rfl  k) ?_
  show Run p e below s _ _ _ (T14.setTop (mkF m 16 #[.val (.ref q1), .val (.ref b10), .val (.int (3 : Int32)), .val (.int (1 : Int32)), .val (.ref w0)] [(.int (1 : Int32)), (.ref b10)]))
  obtain ⟨c15, Ar15, -, S15, N15, H15, -⟩ := id vb10
  have hin15 : ¬ ((1 : Int32) < 0 ∨ c15.slots.size ≤ ((1 : Int32)).toNatClampNeg) := inb_of S15 ⟨by decide, by decide⟩
  refine Run.pre (X14.aaload hx (j := (1 : Int32)) (v := (.ref w1)) (by rw [e14]; exact Ar15.1) (State.isArrayOf_alike hZ.alike Ar15.2.1) rfl Ar15.2.2 hin15 (H15.at hin15 rfl) (g := (mkF m 16 #[.val (.ref q1), .val (.ref b10), .val (.int (3 : Int32)), .val (.int (1 : Int32)), .val (.ref w0)] [(.int (1 : Int32)), (.ref b10)])) rfl rfl (hb hby d1_16)) ?_
  show Run p e below s _ _ _ (T14.setTop (mkF m 17 #[.val (.ref q1), .val (.ref b10), .val (.int (3 : Int32)), .val (.int (1 : Int32)), .val (.ref w0)] [(.ref w1)]))
  refine Run.pre (fun _ k => XS.astore X14.here hx rfl (hb hby d1_17) rfl rfl (l' := #[.val (.ref q1), .val (.ref b10), .val (.int (3 : Int32)), .val (.int (1 : Int32)), .val (.ref w1)]) rfl k) ?_
  show Run p e below s _ _ _ (T14.setTop (mkF m 19 #[.val (.ref q1), .val (.ref b10), .val (.int (3 : Int32)), .val (.int (1 : Int32)), .val (.ref w1)] []))
  refine Run.pre (fun _ k => XS.aload X14.here hx rfl (hb hby d1_19) rfl rfl k) ?_
  show Run p e below s _ _ _ (T14.setTop (mkF m 21 #[.val (.ref q1), .val (.ref b10), .val (.int (3 : Int32)), .val (.int (1 : Int32)), .val (.ref w1)] [(.ref w1)]))
  obtain ⟨T16, X16, e16, st16⟩ := getF X14 hx hZ hown (host := "") (Or.inl (hw _ (List.mem_of_getElem? (i := 26) rfl))) Via.refl e14 (F1.ext f13.2) (g := (mkF m 21 #[.val (.ref q1), .val (.ref b10), .val (.int (3 : Int32)), .val (.int (1 : Int32)), .val (.ref w1)] [(.ref w1)])) rfl rfl (hb hby d1_21)
  refine Run.pre st16 ?_
  show Run p e below s _ _ _ (T16.setTop (mkF m 24 #[.val (.ref q1), .val (.ref b10), .val (.int (3 : Int32)), .val (.int (1 : Int32)), .val (.ref w1)] [(.ref q1)]))
  refine Run.pre (fun _ k => XS.aloadN X16.here hx rfl (hb hby d1_24) rfl rfl k) ?_
  show Run p e below s _ _ _ (T16.setTop (mkF m 25 #[.val (.ref q1), .val (.ref b10), .val (.int (3 : Int32)), .val (.int (1 : Int32)), .val (.ref w1)] [(.ref q1), (.ref q1)]))
  refine Run.pre (fun _ k => Jvm.RoadKit.acmp (g := (mkF m 25 #[.val (.ref q1), .val (.ref b10), .val (.int (3 : Int32)), .val (.int (1 : Int32)), .val (.ref w1)] [(.ref q1), (.ref q1)])) X16 hx rfl rfl rfl (pc0 := 25) (pc' := 28) (same := true) rfl (hb hby d1_25) rfl (decide_eq_true rfl) (by decide) (by decide) k) ?_
  show Run p e below s _ _ _ (T16.setTop (mkF m 28 #[.val (.ref q1), .val (.ref b10), .val (.int (3 : Int32)), .val (.int (1 : Int32)), .val (.ref w1)] []))
  refine Run.pre (fun _ k => XS.aload X16.here hx rfl (hb hby d1_28) rfl rfl k) ?_
  show Run p e below s _ _ _ (T16.setTop (mkF m 30 #[.val (.ref q1), .val (.ref b10), .val (.int (3 : Int32)), .val (.int (1 : Int32)), .val (.ref w1)] [(.ref w1)]))
  exact Run.retA X16 hx hret rfl rfl hlk (hb hby d1_30) (by first | (rw [e16]; exact ⟨rfl, N10, K10⟩) | exact ⟨rfl, N10, K10⟩) (by decide) (by decide)
theorem pd_1 : parseMethodDescriptor "(Lcom/example/humble_issuer/humbleissuer/IssueAuthority;)Lcom/example/humble_issuer/humbleissuer/issuing/Issuer;" = some ⟨[(.object "com/example/humble_issuer/humbleissuer/IssueAuthority")], some (.object "com/example/humble_issuer/humbleissuer/issuing/Issuer")⟩ := by decide +kernel
theorem pd_2 : parseMethodDescriptor "()Lcom/example/humble_issuer/humbleissuer/IssueAuthority;" = some ⟨[], some (.object "com/example/humble_issuer/humbleissuer/IssueAuthority")⟩ := by decide +kernel
theorem pn_0 : plainName "com/example/humble_issuer/humbleissuer/issuing/IssuerOfPinLaw" = true := by first | (simp [plainName, overriddenIn]; done) | decide +kernel
set_option maxRecDepth 65536 in
set_option maxHeartbeats 40000000 in
theorem rm0 (l : Launch) (Z : State) (a0 : Array Value) (hw : ∀ d ∈ tables_1, d.before a0 Z = true) (pz : Int32) (vv : Addr) (kv : ClassId) (w0 : Addr) (w1 : Addr) (w2 : Addr) (q0 : Addr) (q1 : Addr) (h0 : Heap) (n0 : Nat) (Z0 : n0 ≤ h0.size) (OL : Old Z n0 h0) (SV : Sta Z Z.heap "com/example/humble_issuer/humbleissuer/issuing/Issuer" "$VALUES" "[Lcom/example/humble_issuer/humbleissuer/issuing/Issuer;" (.ref vv)) (EV : Exa Z Z.heap vv "[Lcom/example/humble_issuer/humbleissuer/issuing/Issuer;") (AV : Arv Z Z.heap vv kv (.object "com/example/humble_issuer/humbleissuer/issuing/Issuer") 3 [(.ref w0), (.ref w1), (.ref w2)] .null) (F0 : Fld Z Z.heap w0 "com/example/humble_issuer/humbleissuer/issuing/Issuer" "own" "Lcom/example/humble_issuer/humbleissuer/IssueAuthority;" (.ref q0)) (F1 : Fld Z Z.heap w1 "com/example/humble_issuer/humbleissuer/issuing/Issuer" "own" "Lcom/example/humble_issuer/humbleissuer/IssueAuthority;" (.ref q1)) (na : q0 ≠ q1) (n02 : w0 ≠ w2) (n12 : w1 ≠ w2) (S0 : Sta Z Z.heap "com/example/humble_issuer/humbleissuer/IssueAuthority" "RSA" "Lcom/example/humble_issuer/humbleissuer/IssueAuthority;" (.ref q0)) (S1 : Sta Z Z.heap "com/example/humble_issuer/humbleissuer/IssueAuthority" "ECC" "Lcom/example/humble_issuer/humbleissuer/IssueAuthority;" (.ref q1)) (S2 : Sta Z Z.heap "com/example/humble_issuer/humbleissuer/issuing/Issuer" "RSA" "Lcom/example/humble_issuer/humbleissuer/issuing/Issuer;" (.ref w0)) (S3 : Sta Z Z.heap "com/example/humble_issuer/humbleissuer/issuing/Issuer" "ECC" "Lcom/example/humble_issuer/humbleissuer/issuing/Issuer;" (.ref w1)) (S4 : Sta Z Z.heap "com/example/humble_issuer/humbleissuer/issuing/Issuer" "EXTERNAL" "Lcom/example/humble_issuer/humbleissuer/issuing/Issuer;" (.ref w2)) (E0 : Exa Z Z.heap w0 "com/example/humble_issuer/humbleissuer/issuing/Issuer") (E1 : Exa Z Z.heap w1 "com/example/humble_issuer/humbleissuer/issuing/Issuer") :
    Con l x code maxLocals ret room_1 Z #[(.int pz)] h0 (fun v h L => v = some (.int 1) ∧ Fr n0 L) := by
  refine Con.mk (plainFor_of_name pn_0) (fun m => show entryFrame m #[(.int pz)] maxLocals = mkF m 0 #[.val (.int pz), .unset, .unset, .unset, .unset] [] by first | (simp [entryFrame, mkF, argsToLocals, Value.category, maxLocals]; done) | rfl) ?_
  intro p e s m below meth c s₁ hx hby hml hown hnm hret hlk hZ X0 e0
  have hml : c.maxLocals = 5 := hml
  have N0 := Fr.nil n0
  show Run p e below s _ _ _ (s₁.setTop (mkF m 0 #[.val (.int pz), .unset, .unset, .unset, .unset] []))
  refine Run.pre (fun _ k => XS.iloadN X0.here hx rfl (hb hby at_0) rfl  k) ?_
  show Run p e below s _ _ _ (s₁.setTop (mkF m 1 #[.val (.int pz), .unset, .unset, .unset, .unset] [(.int pz)]))
  refine Run.pre (fun _ k => XS.iconst X0.here hx rfl (hb hby at_1) k) ?_
  show Run p e below s _ _ _ (s₁.setTop (mkF m 2 #[.val (.int pz), .unset, .unset, .unset, .unset] [(.int (1 : Int32)), (.int pz)]))
  refine Run.pre (fun _ k => XS.iand X0.here hx rfl (hb hby at_2) rfl k) ?_
  show Run p e below s _ _ _ (s₁.setTop (mkF m 3 #[.val (.int pz), .unset, .unset, .unset, .unset] [(.int (pz &&& (1 : Int32)))]))
  by_cases hc17 : (pz &&& (1 : Int32)) = (0 : Int32)
  · skip
    refine Run.pre (fun _ k => XS.ifYes X0.here hx rfl (pc0 := 3) (pc' := 10) rfl (hb hby at_3) rfl ((if0 _ _).trans (teq (hc17 : (pz &&& (1 : Int32)) = (0 : Int32))).1) (by decide) (by decide) k) ?_
    show Run p e below s _ _ _ (s₁.setTop (mkF m 10 #[.val (.int pz), .unset, .unset, .unset, .unset] []))
    refine Run.pre (fun _ k => XS.iconst X0.here hx rfl (hb hby at_10) k) ?_
    show Run p e below s _ _ _ (s₁.setTop (mkF m 11 #[.val (.int pz), .unset, .unset, .unset, .unset] [(.int (0 : Int32))]))
    refine Run.pre (fun _ k => XS.istoreN X0.here hx rfl (hb hby at_11) rfl (l' := #[.val (.int pz), .val (.int (0 : Int32)), .unset, .unset, .unset]) rfl k) ?_
    show Run p e below s _ _ _ (s₁.setTop (mkF m 12 #[.val (.int pz), .val (.int (0 : Int32)), .unset, .unset, .unset] []))
    refine Run.pre (fun _ k => XS.iloadN X0.here hx rfl (hb hby at_12) rfl  k) ?_
    show Run p e below s _ _ _ (s₁.setTop (mkF m 13 #[.val (.int pz), .val (.int (0 : Int32)), .unset, .unset, .unset] [(.int (0 : Int32))]))
    refine Run.pre (fun _ k => XS.ifYes X0.here hx rfl (pc0 := 13) (pc' := 22) rfl (hb hby at_13) rfl ((if0 _ _).trans (teq ((by decide) : (0 : Int32) = (0 : Int32))).1) (by decide) (by decide) k) ?_
    show Run p e below s _ _ _ (s₁.setTop (mkF m 22 #[.val (.int pz), .val (.int (0 : Int32)), .unset, .unset, .unset] []))
    obtain ⟨T18, X18, e18, st18⟩ := getS2 X0 hx hZ hown (host := "") (Or.inl (hw _ (List.mem_of_getElem? (i := 0) rfl))) Via.refl e0 (S0.ext OL.2) (g := (mkF m 22 #[.val (.int pz), .val (.int (0 : Int32)), .unset, .unset, .unset] [])) rfl (hb hby at_22)
    refine Run.pre st18 ?_
    show Run p e below s _ _ _ (T18.setTop (mkF m 25 #[.val (.int pz), .val (.int (0 : Int32)), .unset, .unset, .unset] [(.ref q0)]))
    refine Run.pre (fun _ k => XS.astoreN X18.here hx rfl (hb hby at_25) rfl rfl (l' := #[.val (.int pz), .val (.int (0 : Int32)), .val (.ref q0), .unset, .unset]) rfl k) ?_
    show Run p e below s _ _ _ (T18.setTop (mkF m 26 #[.val (.int pz), .val (.int (0 : Int32)), .val (.ref q0), .unset, .unset] []))
    refine Run.pre (fun _ k => XS.iloadN X18.here hx rfl (hb hby at_26) rfl  k) ?_
    show Run p e below s _ _ _ (T18.setTop (mkF m 27 #[.val (.int pz), .val (.int (0 : Int32)), .val (.ref q0), .unset, .unset] [(.int (0 : Int32))]))
    refine Run.pre (fun _ k => XS.ifYes X18.here hx rfl (pc0 := 27) (pc' := 36) rfl (hb hby at_27) rfl ((if0 _ _).trans (teq ((by decide) : (0 : Int32) = (0 : Int32))).1) (by decide) (by decide) k) ?_
    show Run p e below s _ _ _ (T18.setTop (mkF m 36 #[.val (.int pz), .val (.int (0 : Int32)), .val (.ref q0), .unset, .unset] []))
    obtain ⟨T19, X19, e19, st19⟩ := getS2 X18 hx hZ hown (host := "") (Or.inl (hw _ (List.mem_of_getElem? (i := 3) rfl))) Via.refl e18 (S2.ext OL.2) (g := (mkF m 36 #[.val (.int pz), .val (.int (0 : Int32)), .val (.ref q0), .unset, .unset] [])) rfl (hb hby at_36)
    refine Run.pre st19 ?_
    show Run p e below s _ _ _ (T19.setTop (mkF m 39 #[.val (.int pz), .val (.int (0 : Int32)), .val (.ref q0), .unset, .unset] [(.ref w0)]))
    refine Run.pre (fun _ k => XS.astoreN X19.here hx rfl (hb hby at_39) rfl rfl (l' := #[.val (.int pz), .val (.int (0 : Int32)), .val (.ref q0), .val (.ref w0), .unset]) rfl k) ?_
    show Run p e below s _ _ _ (T19.setTop (mkF m 40 #[.val (.int pz), .val (.int (0 : Int32)), .val (.ref q0), .val (.ref w0), .unset] []))
    refine Run.pre (fun _ k => XS.aloadN X19.here hx rfl (hb hby at_40) rfl rfl k) ?_
    show Run p e below s _ _ _ (T19.setTop (mkF m 41 #[.val (.int pz), .val (.int (0 : Int32)), .val (.ref q0), .val (.ref w0), .unset] [(.ref q0)]))
    refine Run.callS X19 hx hZ (y := (⟨"com/example/humble_issuer/humbleissuer/issuing/Issuer", "of", "(Lcom/example/humble_issuer/humbleissuer/IssueAuthority;)Lcom/example/humble_issuer/humbleissuer/issuing/Issuer;"⟩ : MethodName)) hown (hw _ (List.mem_of_getElem? (i := 6) rfl)) (hw _ (List.mem_of_getElem? (i := 7) rfl)) (hw _ (List.mem_of_getElem? (i := 4) rfl)) (hw _ (List.mem_of_getElem? (i := 8) rfl)) (by decide) (W := 0) (rm1_0 l Z a0 hw vv kv w0 w1 w2 q0 q1 h0 n0 (Nat.le_trans Z0 (Keep.refl h0 []).1) OL SV EV AV F0 F1 na) e19 (by decide) (by decide) (by decide) (by decide) (g := (mkF m 41 #[.val (.int pz), .val (.int (0 : Int32)), .val (.ref q0), .val (.ref w0), .unset] [(.ref q0)])) rfl (by rw [hml]; rfl) (argsL := [(.ref q0)]) (rest := []) (lenOf pd_1 rfl) rfl (by show 2 * 0 + _ ≤ _; exact Nat.le_of_eq rfl) (hb hby at_41) ?_
    intro v20 T20 L20 X20 hQ20
    obtain ⟨rfl, Nq20, Kc20⟩ := hQ20
    have N20 := Fr.app N0 Nq20
    have K20 : Keep h0 T20.heap [] := (Keep.refl h0 []).trans Kc20 all0
    show Run p e below s _ _ _ (T20.setTop (mkF m 44 #[.val (.int pz), .val (.int (0 : Int32)), .val (.ref q0), .val (.ref w0), .unset] [(.ref w0)]))
    refine Run.pre (fun _ k => XS.astore X20.here hx rfl (hb hby at_44) rfl rfl (l' := #[.val (.int pz), .val (.int (0 : Int32)), .val (.ref q0), .val (.ref w0), .val (.ref w0)]) rfl k) ?_
    show Run p e below s _ _ _ (T20.setTop (mkF m 46 #[.val (.int pz), .val (.int (0 : Int32)), .val (.ref q0), .val (.ref w0), .val (.ref w0)] []))
    refine Run.pre (fun _ k => XS.aload X20.here hx rfl (hb hby at_46) rfl rfl k) ?_
    show Run p e below s _ _ _ (T20.setTop (mkF m 48 #[.val (.int pz), .val (.int (0 : Int32)), .val (.ref q0), .val (.ref w0), .val (.ref w0)] [(.ref w0)]))
    refine Run.pre (fun _ k => XS.aloadN X20.here hx rfl (hb hby at_48) rfl rfl k) ?_
    show Run p e below s _ _ _ (T20.setTop (mkF m 49 #[.val (.int pz), .val (.int (0 : Int32)), .val (.ref q0), .val (.ref w0), .val (.ref w0)] [(.ref w0), (.ref w0)]))
    refine Run.pre (fun _ k => Jvm.RoadKit.acmp (g := (mkF m 49 #[.val (.int pz), .val (.int (0 : Int32)), .val (.ref q0), .val (.ref w0), .val (.ref w0)] [(.ref w0), (.ref w0)])) X20 hx rfl rfl rfl (pc0 := 49) (pc' := 52) (same := true) rfl (hb hby at_49) rfl (decide_eq_true rfl) (by decide) (by decide) k) ?_
    show Run p e below s _ _ _ (T20.setTop (mkF m 52 #[.val (.int pz), .val (.int (0 : Int32)), .val (.ref q0), .val (.ref w0), .val (.ref w0)] []))
    refine Run.pre (fun _ k => XS.aload X20.here hx rfl (hb hby at_52) rfl rfl k) ?_
    show Run p e below s _ _ _ (T20.setTop (mkF m 54 #[.val (.int pz), .val (.int (0 : Int32)), .val (.ref q0), .val (.ref w0), .val (.ref w0)] [(.ref w0)]))
    have f21 := (OL.keep Kc20 all0)
    obtain ⟨T22, X22, e22, st22⟩ := getS2 X20 hx hZ hown (host := "") (Or.inl (hw _ (List.mem_of_getElem? (i := 28) rfl))) Via.refl rfl (S4.ext f21.2) (g := (mkF m 54 #[.val (.int pz), .val (.int (0 : Int32)), .val (.ref q0), .val (.ref w0), .val (.ref w0)] [(.ref w0)])) rfl (hb hby at_54)
    refine Run.pre st22 ?_
    show Run p e below s _ _ _ (T22.setTop (mkF m 57 #[.val (.int pz), .val (.int (0 : Int32)), .val (.ref q0), .val (.ref w0), .val (.ref w0)] [(.ref w2), (.ref w0)]))
    refine Run.pre (fun _ k => Jvm.RoadKit.acmp (g := (mkF m 57 #[.val (.int pz), .val (.int (0 : Int32)), .val (.ref q0), .val (.ref w0), .val (.ref w0)] [(.ref w2), (.ref w0)])) X22 hx rfl rfl rfl (pc0 := 57) (pc' := 60) (same := false) rfl (hb hby at_57) rfl (decide_eq_false fun q => n02 (Value.ref.inj q)) (by decide) (by decide) k) ?_
    show Run p e below s _ _ _ (T22.setTop (mkF m 60 #[.val (.int pz), .val (.int (0 : Int32)), .val (.ref q0), .val (.ref w0), .val (.ref w0)] []))
    refine Run.pre (fun _ k => XS.aload X22.here hx rfl (hb hby at_60) rfl rfl k) ?_
    show Run p e below s _ _ _ (T22.setTop (mkF m 62 #[.val (.int pz), .val (.int (0 : Int32)), .val (.ref q0), .val (.ref w0), .val (.ref w0)] [(.ref w0)]))
    refine Run.callV X22 hx hZ (y := (⟨"com/example/humble_issuer/humbleissuer/issuing/Issuer", "own", "()Lcom/example/humble_issuer/humbleissuer/IssueAuthority;"⟩ : MethodName)) (z := (⟨"com/example/humble_issuer/humbleissuer/issuing/Issuer", "own", "()Lcom/example/humble_issuer/humbleissuer/IssueAuthority;"⟩ : MethodName)) hown (hw _ (List.mem_of_getElem? (i := 29) rfl)) (hw _ (List.mem_of_getElem? (i := 30) rfl)) (notFace_of_selects (args := #[]) (mvT hZ (hw _ (List.mem_of_getElem? (i := 32) rfl)))) (hw _ (List.mem_of_getElem? (i := 32) rfl)) (hw _ (List.mem_of_getElem? (i := 31) rfl)) (hw _ (List.mem_of_getElem? (i := 33) rfl)) (hw _ (List.mem_of_getElem? (i := 4) rfl)) (by decide) (b := w0) (E0.ext f21.2) (W := 0) (rm3 l Z a0 hw w0 q0 T20.heap n0 (Nat.le_trans Z0 K20.1) (F0.ext f21.2)) e22 (by decide) (by decide) (by decide) (by decide) (g := (mkF m 62 #[.val (.int pz), .val (.int (0 : Int32)), .val (.ref q0), .val (.ref w0), .val (.ref w0)] [(.ref w0)])) rfl (by rw [hml]; rfl) (argsL := []) (rest := []) (lenOf pd_2 rfl) rfl (by show 2 * 0 + _ ≤ _; exact Nat.le_of_eq rfl) (hb hby at_62) ?_
    intro v23 T23 L23 X23 hQ23
    obtain ⟨rfl, Nq23, he23⟩ := hQ23
    have N23 := Fr.app N20 Nq23
    have e23 : T23.heap = T20.heap := he23
    show Run p e below s _ _ _ (T23.setTop (mkF m 65 #[.val (.int pz), .val (.int (0 : Int32)), .val (.ref q0), .val (.ref w0), .val (.ref w0)] [(.ref q0)]))
    refine Run.pre (fun _ k => XS.aloadN X23.here hx rfl (hb hby at_65) rfl rfl k) ?_
    show Run p e below s _ _ _ (T23.setTop (mkF m 66 #[.val (.int pz), .val (.int (0 : Int32)), .val (.ref q0), .val (.ref w0), .val (.ref w0)] [(.ref q0), (.ref q0)]))
    refine Run.pre (fun _ k => Jvm.RoadKit.acmp (g := (mkF m 66 #[.val (.int pz), .val (.int (0 : Int32)), .val (.ref q0), .val (.ref w0), .val (.ref w0)] [(.ref q0), (.ref q0)])) X23 hx rfl rfl rfl (pc0 := 66) (pc' := 69) (same := true) rfl (hb hby at_66) rfl (decide_eq_true rfl) (by decide) (by decide) k) ?_
    show Run p e below s _ _ _ (T23.setTop (mkF m 69 #[.val (.int pz), .val (.int (0 : Int32)), .val (.ref q0), .val (.ref w0), .val (.ref w0)] []))
    refine Run.pre (fun _ k => XS.iconst X23.here hx rfl (hb hby at_69) k) ?_
    show Run p e below s _ _ _ (T23.setTop (mkF m 70 #[.val (.int pz), .val (.int (0 : Int32)), .val (.ref q0), .val (.ref w0), .val (.ref w0)] [(.int (1 : Int32))]))
    refine Run.pre (fun _ k => XS.goto X23.here hx rfl (pc0 := 70) (pc' := 74) rfl (hb hby at_70) (by decide) (by decide) k) ?_
    show Run p e below s _ _ _ (T23.setTop (mkF m 74 #[.val (.int pz), .val (.int (0 : Int32)), .val (.ref q0), .val (.ref w0), .val (.ref w0)] [(.int (1 : Int32))]))
    exact Run.retN X23 hx hret (t := .boolean) (by simp) hlk (hb hby at_74) (by first | (rw [e23]; exact ⟨rfl, N23⟩) | exact ⟨rfl, N23⟩) (by decide) (by decide)
  · skip
    refine Run.pre (fun _ k => XS.ifNo X0.here hx rfl (hb hby at_3) rfl ((if0 _ _).trans (feq (hc17 : ¬ ((pz &&& (1 : Int32)) = (0 : Int32)))).1) k) ?_
    show Run p e below s _ _ _ (s₁.setTop (mkF m 6 #[.val (.int pz), .unset, .unset, .unset, .unset] []))
    refine Run.pre (fun _ k => XS.iconst X0.here hx rfl (hb hby at_6) k) ?_
    show Run p e below s _ _ _ (s₁.setTop (mkF m 7 #[.val (.int pz), .unset, .unset, .unset, .unset] [(.int (1 : Int32))]))
    refine Run.pre (fun _ k => XS.goto X0.here hx rfl (pc0 := 7) (pc' := 11) rfl (hb hby at_7) (by decide) (by decide) k) ?_
    show Run p e below s _ _ _ (s₁.setTop (mkF m 11 #[.val (.int pz), .unset, .unset, .unset, .unset] [(.int (1 : Int32))]))
    refine Run.pre (fun _ k => XS.istoreN X0.here hx rfl (hb hby at_11) rfl (l' := #[.val (.int pz), .val (.int (1 : Int32)), .unset, .unset, .unset]) rfl k) ?_
    show Run p e below s _ _ _ (s₁.setTop (mkF m 12 #[.val (.int pz), .val (.int (1 : Int32)), .unset, .unset, .unset] []))
    refine Run.pre (fun _ k => XS.iloadN X0.here hx rfl (hb hby at_12) rfl  k) ?_
    show Run p e below s _ _ _ (s₁.setTop (mkF m 13 #[.val (.int pz), .val (.int (1 : Int32)), .unset, .unset, .unset] [(.int (1 : Int32))]))
    refine Run.pre (fun _ k => XS.ifNo X0.here hx rfl (hb hby at_13) rfl ((if0 _ _).trans (feq ((by decide) : ¬ ((1 : Int32) = (0 : Int32)))).1) k) ?_
    show Run p e below s _ _ _ (s₁.setTop (mkF m 16 #[.val (.int pz), .val (.int (1 : Int32)), .unset, .unset, .unset] []))
    obtain ⟨T24, X24, e24, st24⟩ := getS2 X0 hx hZ hown (host := "") (Or.inl (hw _ (List.mem_of_getElem? (i := 34) rfl))) Via.refl e0 (S1.ext OL.2) (g := (mkF m 16 #[.val (.int pz), .val (.int (1 : Int32)), .unset, .unset, .unset] [])) rfl (hb hby at_16)
    refine Run.pre st24 ?_
    show Run p e below s _ _ _ (T24.setTop (mkF m 19 #[.val (.int pz), .val (.int (1 : Int32)), .unset, .unset, .unset] [(.ref q1)]))
    refine Run.pre (fun _ k => XS.goto X24.here hx rfl (pc0 := 19) (pc' := 25) rfl (hb hby at_19) (by decide) (by decide) k) ?_
    show Run p e below s _ _ _ (T24.setTop (mkF m 25 #[.val (.int pz), .val (.int (1 : Int32)), .unset, .unset, .unset] [(.ref q1)]))
    refine Run.pre (fun _ k => XS.astoreN X24.here hx rfl (hb hby at_25) rfl rfl (l' := #[.val (.int pz), .val (.int (1 : Int32)), .val (.ref q1), .unset, .unset]) rfl k) ?_
    show Run p e below s _ _ _ (T24.setTop (mkF m 26 #[.val (.int pz), .val (.int (1 : Int32)), .val (.ref q1), .unset, .unset] []))
    refine Run.pre (fun _ k => XS.iloadN X24.here hx rfl (hb hby at_26) rfl  k) ?_
    show Run p e below s _ _ _ (T24.setTop (mkF m 27 #[.val (.int pz), .val (.int (1 : Int32)), .val (.ref q1), .unset, .unset] [(.int (1 : Int32))]))
    refine Run.pre (fun _ k => XS.ifNo X24.here hx rfl (hb hby at_27) rfl ((if0 _ _).trans (feq ((by decide) : ¬ ((1 : Int32) = (0 : Int32)))).1) k) ?_
    show Run p e below s _ _ _ (T24.setTop (mkF m 30 #[.val (.int pz), .val (.int (1 : Int32)), .val (.ref q1), .unset, .unset] []))
    obtain ⟨T25, X25, e25, st25⟩ := getS2 X24 hx hZ hown (host := "") (Or.inl (hw _ (List.mem_of_getElem? (i := 36) rfl))) Via.refl e24 (S3.ext OL.2) (g := (mkF m 30 #[.val (.int pz), .val (.int (1 : Int32)), .val (.ref q1), .unset, .unset] [])) rfl (hb hby at_30)
    refine Run.pre st25 ?_
    show Run p e below s _ _ _ (T25.setTop (mkF m 33 #[.val (.int pz), .val (.int (1 : Int32)), .val (.ref q1), .unset, .unset] [(.ref w1)]))
    refine Run.pre (fun _ k => XS.goto X25.here hx rfl (pc0 := 33) (pc' := 39) rfl (hb hby at_33) (by decide) (by decide) k) ?_
    show Run p e below s _ _ _ (T25.setTop (mkF m 39 #[.val (.int pz), .val (.int (1 : Int32)), .val (.ref q1), .unset, .unset] [(.ref w1)]))
    refine Run.pre (fun _ k => XS.astoreN X25.here hx rfl (hb hby at_39) rfl rfl (l' := #[.val (.int pz), .val (.int (1 : Int32)), .val (.ref q1), .val (.ref w1), .unset]) rfl k) ?_
    show Run p e below s _ _ _ (T25.setTop (mkF m 40 #[.val (.int pz), .val (.int (1 : Int32)), .val (.ref q1), .val (.ref w1), .unset] []))
    refine Run.pre (fun _ k => XS.aloadN X25.here hx rfl (hb hby at_40) rfl rfl k) ?_
    show Run p e below s _ _ _ (T25.setTop (mkF m 41 #[.val (.int pz), .val (.int (1 : Int32)), .val (.ref q1), .val (.ref w1), .unset] [(.ref q1)]))
    refine Run.callS X25 hx hZ (y := (⟨"com/example/humble_issuer/humbleissuer/issuing/Issuer", "of", "(Lcom/example/humble_issuer/humbleissuer/IssueAuthority;)Lcom/example/humble_issuer/humbleissuer/issuing/Issuer;"⟩ : MethodName)) hown (hw _ (List.mem_of_getElem? (i := 6) rfl)) (hw _ (List.mem_of_getElem? (i := 7) rfl)) (hw _ (List.mem_of_getElem? (i := 4) rfl)) (hw _ (List.mem_of_getElem? (i := 8) rfl)) (by decide) (W := 0) (rm1_1 l Z a0 hw vv kv w0 w1 w2 q0 q1 h0 n0 (Nat.le_trans Z0 (Keep.refl h0 []).1) OL SV EV AV F0 F1 na) e25 (by decide) (by decide) (by decide) (by decide) (g := (mkF m 41 #[.val (.int pz), .val (.int (1 : Int32)), .val (.ref q1), .val (.ref w1), .unset] [(.ref q1)])) rfl (by rw [hml]; rfl) (argsL := [(.ref q1)]) (rest := []) (lenOf pd_1 rfl) rfl (by show 2 * 0 + _ ≤ _; exact Nat.le_of_eq rfl) (hb hby at_41) ?_
    intro v26 T26 L26 X26 hQ26
    obtain ⟨rfl, Nq26, Kc26⟩ := hQ26
    have N26 := Fr.app N0 Nq26
    have K26 : Keep h0 T26.heap [] := (Keep.refl h0 []).trans Kc26 all0
    show Run p e below s _ _ _ (T26.setTop (mkF m 44 #[.val (.int pz), .val (.int (1 : Int32)), .val (.ref q1), .val (.ref w1), .unset] [(.ref w1)]))
    refine Run.pre (fun _ k => XS.astore X26.here hx rfl (hb hby at_44) rfl rfl (l' := #[.val (.int pz), .val (.int (1 : Int32)), .val (.ref q1), .val (.ref w1), .val (.ref w1)]) rfl k) ?_
    show Run p e below s _ _ _ (T26.setTop (mkF m 46 #[.val (.int pz), .val (.int (1 : Int32)), .val (.ref q1), .val (.ref w1), .val (.ref w1)] []))
    refine Run.pre (fun _ k => XS.aload X26.here hx rfl (hb hby at_46) rfl rfl k) ?_
    show Run p e below s _ _ _ (T26.setTop (mkF m 48 #[.val (.int pz), .val (.int (1 : Int32)), .val (.ref q1), .val (.ref w1), .val (.ref w1)] [(.ref w1)]))
    refine Run.pre (fun _ k => XS.aloadN X26.here hx rfl (hb hby at_48) rfl rfl k) ?_
    show Run p e below s _ _ _ (T26.setTop (mkF m 49 #[.val (.int pz), .val (.int (1 : Int32)), .val (.ref q1), .val (.ref w1), .val (.ref w1)] [(.ref w1), (.ref w1)]))
    refine Run.pre (fun _ k => Jvm.RoadKit.acmp (g := (mkF m 49 #[.val (.int pz), .val (.int (1 : Int32)), .val (.ref q1), .val (.ref w1), .val (.ref w1)] [(.ref w1), (.ref w1)])) X26 hx rfl rfl rfl (pc0 := 49) (pc' := 52) (same := true) rfl (hb hby at_49) rfl (decide_eq_true rfl) (by decide) (by decide) k) ?_
    show Run p e below s _ _ _ (T26.setTop (mkF m 52 #[.val (.int pz), .val (.int (1 : Int32)), .val (.ref q1), .val (.ref w1), .val (.ref w1)] []))
    refine Run.pre (fun _ k => XS.aload X26.here hx rfl (hb hby at_52) rfl rfl k) ?_
    show Run p e below s _ _ _ (T26.setTop (mkF m 54 #[.val (.int pz), .val (.int (1 : Int32)), .val (.ref q1), .val (.ref w1), .val (.ref w1)] [(.ref w1)]))
    have f27 := (OL.keep Kc26 all0)
    obtain ⟨T28, X28, e28, st28⟩ := getS2 X26 hx hZ hown (host := "") (Or.inl (hw _ (List.mem_of_getElem? (i := 28) rfl))) Via.refl rfl (S4.ext f27.2) (g := (mkF m 54 #[.val (.int pz), .val (.int (1 : Int32)), .val (.ref q1), .val (.ref w1), .val (.ref w1)] [(.ref w1)])) rfl (hb hby at_54)
    refine Run.pre st28 ?_
    show Run p e below s _ _ _ (T28.setTop (mkF m 57 #[.val (.int pz), .val (.int (1 : Int32)), .val (.ref q1), .val (.ref w1), .val (.ref w1)] [(.ref w2), (.ref w1)]))
    refine Run.pre (fun _ k => Jvm.RoadKit.acmp (g := (mkF m 57 #[.val (.int pz), .val (.int (1 : Int32)), .val (.ref q1), .val (.ref w1), .val (.ref w1)] [(.ref w2), (.ref w1)])) X28 hx rfl rfl rfl (pc0 := 57) (pc' := 60) (same := false) rfl (hb hby at_57) rfl (decide_eq_false fun q => n12 (Value.ref.inj q)) (by decide) (by decide) k) ?_
    show Run p e below s _ _ _ (T28.setTop (mkF m 60 #[.val (.int pz), .val (.int (1 : Int32)), .val (.ref q1), .val (.ref w1), .val (.ref w1)] []))
    refine Run.pre (fun _ k => XS.aload X28.here hx rfl (hb hby at_60) rfl rfl k) ?_
    show Run p e below s _ _ _ (T28.setTop (mkF m 62 #[.val (.int pz), .val (.int (1 : Int32)), .val (.ref q1), .val (.ref w1), .val (.ref w1)] [(.ref w1)]))
    refine Run.callV X28 hx hZ (y := (⟨"com/example/humble_issuer/humbleissuer/issuing/Issuer", "own", "()Lcom/example/humble_issuer/humbleissuer/IssueAuthority;"⟩ : MethodName)) (z := (⟨"com/example/humble_issuer/humbleissuer/issuing/Issuer", "own", "()Lcom/example/humble_issuer/humbleissuer/IssueAuthority;"⟩ : MethodName)) hown (hw _ (List.mem_of_getElem? (i := 29) rfl)) (hw _ (List.mem_of_getElem? (i := 30) rfl)) (notFace_of_selects (args := #[]) (mvT hZ (hw _ (List.mem_of_getElem? (i := 32) rfl)))) (hw _ (List.mem_of_getElem? (i := 32) rfl)) (hw _ (List.mem_of_getElem? (i := 31) rfl)) (hw _ (List.mem_of_getElem? (i := 33) rfl)) (hw _ (List.mem_of_getElem? (i := 4) rfl)) (by decide) (b := w1) (E1.ext f27.2) (W := 0) (rm3 l Z a0 hw w1 q1 T26.heap n0 (Nat.le_trans Z0 K26.1) (F1.ext f27.2)) e28 (by decide) (by decide) (by decide) (by decide) (g := (mkF m 62 #[.val (.int pz), .val (.int (1 : Int32)), .val (.ref q1), .val (.ref w1), .val (.ref w1)] [(.ref w1)])) rfl (by rw [hml]; rfl) (argsL := []) (rest := []) (lenOf pd_2 rfl) rfl (by show 2 * 0 + _ ≤ _; exact Nat.le_of_eq rfl) (hb hby at_62) ?_
    intro v29 T29 L29 X29 hQ29
    obtain ⟨rfl, Nq29, he29⟩ := hQ29
    have N29 := Fr.app N26 Nq29
    have e29 : T29.heap = T26.heap := he29
    show Run p e below s _ _ _ (T29.setTop (mkF m 65 #[.val (.int pz), .val (.int (1 : Int32)), .val (.ref q1), .val (.ref w1), .val (.ref w1)] [(.ref q1)]))
    refine Run.pre (fun _ k => XS.aloadN X29.here hx rfl (hb hby at_65) rfl rfl k) ?_
    show Run p e below s _ _ _ (T29.setTop (mkF m 66 #[.val (.int pz), .val (.int (1 : Int32)), .val (.ref q1), .val (.ref w1), .val (.ref w1)] [(.ref q1), (.ref q1)]))
    refine Run.pre (fun _ k => Jvm.RoadKit.acmp (g := (mkF m 66 #[.val (.int pz), .val (.int (1 : Int32)), .val (.ref q1), .val (.ref w1), .val (.ref w1)] [(.ref q1), (.ref q1)])) X29 hx rfl rfl rfl (pc0 := 66) (pc' := 69) (same := true) rfl (hb hby at_66) rfl (decide_eq_true rfl) (by decide) (by decide) k) ?_
    show Run p e below s _ _ _ (T29.setTop (mkF m 69 #[.val (.int pz), .val (.int (1 : Int32)), .val (.ref q1), .val (.ref w1), .val (.ref w1)] []))
    refine Run.pre (fun _ k => XS.iconst X29.here hx rfl (hb hby at_69) k) ?_
    show Run p e below s _ _ _ (T29.setTop (mkF m 70 #[.val (.int pz), .val (.int (1 : Int32)), .val (.ref q1), .val (.ref w1), .val (.ref w1)] [(.int (1 : Int32))]))
    refine Run.pre (fun _ k => XS.goto X29.here hx rfl (pc0 := 70) (pc' := 74) rfl (hb hby at_70) (by decide) (by decide) k) ?_
    show Run p e below s _ _ _ (T29.setTop (mkF m 74 #[.val (.int pz), .val (.int (1 : Int32)), .val (.ref q1), .val (.ref w1), .val (.ref w1)] [(.int (1 : Int32))]))
    exact Run.retN X29 hx hret (t := .boolean) (by simp) hlk (hb hby at_74) (by first | (rw [e29]; exact ⟨rfl, N29⟩) | exact ⟨rfl, N29⟩) (by decide) (by decide)
set_option maxRecDepth 65536 in
set_option maxHeartbeats 40000000 in
theorem comes_1 {Post : Tables → Env → Array Value → State → Outcome → State → Prop} (hpost : ∀ tb e args s v u, (limb_1_1.after args s (.returned v) u = true ∧ limb_1_2.after args s (.returned v) u = true ∧ True) → FrameEnd s (.returned v) u (Jvm.fieldLocs frame_1_writes args s ++ Jvm.arrayLocs frame_1_arrays args s ++ Jvm.staticLocs frame_1_statics s) 16 128 → Post tb e args s (.returned v) u) :
    ArmFor flags0 classFile x code maxLocals ret World_1 tables_1 room_1 Calls_1 rest_1 Pre_1 Post := by
  intro l hfl _ _ p e ha hc hk s m args below hf hA hF happ hP
  obtain ⟨hcalls, hrest, hpre⟩ := hP
  obtain ⟨-, -, -, hnamed, -, -, -, hat⟩ := (Spec.applies_iff hf).mp happ
  obtain ⟨hg, hn⟩ := and_e (Cond.before_iff.mp (show (Jvm.Cond.and given_1 narrow_1).before args s = true from hpre))
  obtain ⟨g0, gr0⟩ := and_e hg
  obtain ⟨w0, rfl⟩ : ∃ w0 : Value, args = #[w0] := by
    have hs : args.size = 1 := by simpa [Cond.value, given_1] using g0
    obtain ⟨L⟩ := args
    match L, hs with
    | [w0], _ => exact ⟨w0, rfl⟩
  have hw := fun d (hd : d ∈ tables_1) => atoms_spec (ws := Jvm.Cond.code x code maxLocals ret :: tables_1) hat d (List.mem_cons_of_mem _ hd)
  have hfit : Fit s := own_fit hF
  obtain ⟨i0, ei0⟩ := is_v gr0
  obtain rfl : w0 = (.int i0) := Option.some.inj ei0
  obtain ⟨nn0, nnr0⟩ := and_e hn
  obtain ⟨nn1, nnr1⟩ := and_e nnr0
  obtain ⟨nn2, nnr2⟩ := and_e nnr1
  obtain ⟨nn3, nnr3⟩ := and_e nnr2
  obtain ⟨nn4, nnr4⟩ := and_e nnr3
  obtain ⟨nn5, nnr5⟩ := and_e nnr4
  obtain ⟨nn6, nnr6⟩ := and_e nnr5
  obtain ⟨nn7, nnr7⟩ := and_e nnr6
  obtain ⟨nn8, nnr8⟩ := and_e nnr7
  obtain ⟨nn9, nnr9⟩ := and_e nnr8
  obtain ⟨nn10, nnr10⟩ := and_e nnr9
  obtain ⟨nn11, nnr11⟩ := and_e nnr10
  obtain ⟨nn12, nnr12⟩ := and_e nnr11
  obtain ⟨nn13, nnr13⟩ := and_e nnr12
  obtain ⟨nn14, nnr14⟩ := and_e nnr13
  obtain ⟨nn15, nnr15⟩ := and_e nnr14
  obtain ⟨nn16, nnr16⟩ := and_e nnr15
  obtain ⟨nn17, nnr17⟩ := and_e nnr16
  obtain ⟨w_IssueAuthority_RSA, ev_IssueAuthority_RSA⟩ := exa_v nn0
  have S_IssueAuthority_RSA := Sta.start ev_IssueAuthority_RSA (Or.inr ⟨(hw _ (List.mem_of_getElem? (i := 1) rfl)), (hw _ (List.mem_of_getElem? (i := 2) rfl))⟩)
  have E_IssueAuthority_RSA := Exa.start ev_IssueAuthority_RSA nn0
  obtain ⟨w_Issuer_RSA, ev_Issuer_RSA⟩ := exa_v nn1
  have S_Issuer_RSA := Sta.start ev_Issuer_RSA (Or.inr ⟨(hw _ (List.mem_of_getElem? (i := 4) rfl)), (hw _ (List.mem_of_getElem? (i := 5) rfl))⟩)
  have E_Issuer_RSA := Exa.start ev_Issuer_RSA nn1
  obtain ⟨w__VALUES, ev__VALUES⟩ := exa_v nn3
  have S__VALUES := Sta.start ev__VALUES (Or.inr ⟨(hw _ (List.mem_of_getElem? (i := 4) rfl)), (hw _ (List.mem_of_getElem? (i := 13) rfl))⟩)
  have E__VALUES := Exa.start ev__VALUES nn3
  obtain ⟨w_Issuer_ECC, ev_Issuer_ECC⟩ := exa_v nn6
  have S_Issuer_ECC := Sta.start ev_Issuer_ECC (Or.inr ⟨(hw _ (List.mem_of_getElem? (i := 4) rfl)), (hw _ (List.mem_of_getElem? (i := 21) rfl))⟩)
  have E_Issuer_ECC := Exa.start ev_Issuer_ECC nn6
  obtain ⟨w_EXTERNAL, ev_EXTERNAL⟩ := exa_v nn8
  have S_EXTERNAL := Sta.start ev_EXTERNAL (Or.inr ⟨(hw _ (List.mem_of_getElem? (i := 4) rfl)), (hw _ (List.mem_of_getElem? (i := 22) rfl))⟩)
  have E_EXTERNAL := Exa.start ev_EXTERNAL nn8
  obtain ⟨w_IssueAuthority_ECC, ev_IssueAuthority_ECC⟩ := exa_v nn13
  have S_IssueAuthority_ECC := Sta.start ev_IssueAuthority_ECC (Or.inr ⟨(hw _ (List.mem_of_getElem? (i := 1) rfl)), (hw _ (List.mem_of_getElem? (i := 35) rfl))⟩)
  have E_IssueAuthority_ECC := Exa.start ev_IssueAuthority_ECC nn13
  obtain ⟨cl__VALUES, Ar__VALUES⟩ := Arr.start ev__VALUES nn2
  obtain ⟨hl__VALUES, hz__VALUES⟩ := own_len ev__VALUES Ar__VALUES nn4
  have el__VALUES_0 := own_elem ev__VALUES ev_Issuer_RSA Ar__VALUES.1 nn5
  have el__VALUES_1 := own_elem ev__VALUES ev_Issuer_ECC Ar__VALUES.1 nn7
  have el__VALUES_2 := own_elem ev__VALUES ev_EXTERNAL Ar__VALUES.1 nn9
  have F_Issuer_RSA_own := own_fldRef ev_Issuer_RSA ev_IssueAuthority_RSA nn10
  have F_Issuer_RSA_ordinal := own_fldInt ev_Issuer_RSA nn11
  have F_EXTERNAL_ordinal := own_fldInt ev_EXTERNAL nn12
  have F_IssueAuthority_RSA_ordinal := own_fldInt ev_IssueAuthority_RSA nn14
  have F_IssueAuthority_ECC_ordinal := own_fldInt ev_IssueAuthority_ECC nn15
  have F_Issuer_ECC_own := own_fldRef ev_Issuer_ECC ev_IssueAuthority_ECC nn16
  have F_Issuer_ECC_ordinal := own_fldInt ev_Issuer_ECC nn17
  have F_EXTERNAL_own := own_fldNull ev_EXTERNAL nnr17
  have A__VALUES : Arv s s.heap w__VALUES cl__VALUES.cls (Jvm.ClassFile.FieldType.object "com/example/humble_issuer/humbleissuer/issuing/Issuer") 3 [(.ref w_Issuer_RSA), (.ref w_Issuer_ECC), (.ref w_EXTERNAL)] .null := Arv.start hfit Ar__VALUES hl__VALUES hz__VALUES (by decide) rfl ⟨el__VALUES_0, el__VALUES_1, el__VALUES_2, trivial⟩
  obtain ⟨n, o, h1, h2, h3, _, L, rfl, ⟨rfl, N⟩, hq⟩ := rm0 l s _ hw i0 w__VALUES cl__VALUES.cls w_Issuer_RSA w_Issuer_ECC w_EXTERNAL w_IssueAuthority_RSA w_IssueAuthority_ECC s.heap s.heap.size (Nat.le_refl _) (Old.start s) S__VALUES E__VALUES A__VALUES F_Issuer_RSA_own F_Issuer_ECC_own (F_IssueAuthority_RSA_ordinal.ne F_IssueAuthority_ECC_ordinal (by decide)) (F_Issuer_RSA_ordinal.ne F_EXTERNAL_ordinal (by decide)) (F_Issuer_ECC_ordinal.ne F_EXTERNAL_ordinal (by decide)) S_IssueAuthority_RSA S_IssueAuthority_ECC S_Issuer_RSA S_Issuer_ECC S_EXTERNAL E_Issuer_RSA E_Issuer_ECC tables_1 p e ha hc hk s m _ below hf ((Spec.applies_iff_loose hf).mp happ).1 ⟨rfl, State.Warmed39.refl s, rfl⟩ trivial
  refine ⟨n, _, h1, h2, h3, hpost _ _ _ _ _ _ ⟨Cond.after_iff.mpr rfl, Cond.after_iff.mpr (eq_i res_at (Term.int_eval (1)) rfl), trivial⟩ ⟨hq.1, hq.2.1, (hq.2.2.sift fun y hy => Or.inr (N y hy)).mono (by decide) (by decide)⟩⟩
theorem main_1_1 : Claimed_1_1 := comes_1 fun _ _ _ _ _ _ h hF => ⟨h.1, hF⟩
theorem main_1_2 : Claimed_1_2 := comes_1 fun _ _ _ _ _ _ h hF => ⟨h.2.1, hF⟩
end Jvm.Pilot.@@N@@
namespace Jvm.Pilot.@@N@@
open Jvm Jvm.ClassFile Sem Op Lib Jvm.Free Jvm.Stand Jvm.Pilot.@@N@@.Jvm.D
/-! MADE BY PROGRAM (witnessworld.py) out of the Statement's table words and the real class files: 14 classes; the members and pool entries that the words name. The judged class is class 1, her method 1. -/
namespace start1
open Jvm.ClassFile
def u (s : String) : CpInfo := .utf8 (stringToUtf16 s)
/-- a pool by its gaps: so many unusable entries, then the entry; so many at the end -/
def gap : Nat → List CpInfo → List CpInfo
  | 0, r => r
  | n + 1, r => .unusable :: gap n r
def poolList (es : List (Nat × CpInfo)) (last : Nat) : List CpInfo := es.foldr (fun e r => gap e.1 (e.2 :: r)) (gap last [])
def pool (es : List (Nat × CpInfo)) (last : Nat) : Array CpInfo := ⟨poolList es last⟩
def fileOf (pool : Array CpInfo) (this : Nat) (attrs : Array Attribute := #[]) (ms : Array MethodInfo := #[]) (fl : Nat := 33) (sup : Nat := 0) (ifs : Array Nat := #[]) (fds : Array FieldInfo := #[]) : ClassFile where
  minorVersion := 0
  majorVersion := 65
  constantPool := pool
  accessFlags := fl
  thisClass := this
  superClass := sup
  interfaces := ifs
  fields := fds
  methods := ms
  attributes := attrs
def plain (name : String) (sup : Option ClassId) : Class where
  name := name
  kind := .ordinary
  loader := none
  accessFlags := 33
  super := sup
  interfaces := #[]
  cf := none
  fields := #[]
  methods := #[]
  instanceTypes := #[]
  staticTypes := #[]
  resolved := #[]
  callSites := []
  init := .initialized
  statics := none
  mirror := none

def pool0 : Array CpInfo := pool [(5, u "<init>"), (0, u "()V"), (1, .class_ 10), (1, u "java/lang/Object"), (85, u "clone"), (0, u "()Ljava/lang/Object;")] 26

def k0m0 : Method := { name := "<init>", desc := "()V", sig := { parameters := [], returnType := none }, accessFlags := 1, code := none }
def k0m1 : Method := { name := "clone", desc := "()Ljava/lang/Object;", sig := { parameters := [], returnType := some (.object "java/lang/Object") }, accessFlags := 260, code := none }
/-- java/lang/Object -/
def k0 : Class := { plain "java/lang/Object" none with
  accessFlags := 33
  interfaces := #[]
  cf := some (fileOf pool0 8 #[] #[{ accessFlags := 1, nameIndex := 5, descriptorIndex := 6, attributes := #[] }, { accessFlags := 260, nameIndex := 96, descriptorIndex := 97, attributes := #[] }] 33 0 #[] #[])
  fields := #[]
  methods := #[k0m0, k0m1]
  instanceTypes := #[]
  staticTypes := #[]
  resolved := Array.replicate 124 none
  statics := none }

def pool1 : Array CpInfo := pool [(2, .class_ 4), (1, u "java/lang/Object"), (0, u "<init>"), (0, u "()V"), (0, .fieldref 8 9), (0, .class_ 10), (0, .nameAndType 11 12), (0, u "com/example/humble_issuer/humbleissuer/IssueAuthority"), (0, u "ECC"), (0, u "Lcom/example/humble_issuer/humbleissuer/IssueAuthority;"), (0, .fieldref 8 14), (0, .nameAndType 15 12), (0, u "RSA"), (0, .fieldref 17 18), (0, .class_ 19), (0, .nameAndType 11 20), (0, u "com/example/humble_issuer/humbleissuer/issuing/Issuer"), (0, u "Lcom/example/humble_issuer/humbleissuer/issuing/Issuer;"), (0, .fieldref 17 22), (0, .nameAndType 15 20), (0, .methodref 17 24), (0, .nameAndType 25 26), (0, u "of"), (0, u "(Lcom/example/humble_issuer/humbleissuer/IssueAuthority;)Lcom/example/humble_issuer/humbleissuer/issuing/Issuer;"), (0, .fieldref 17 28), (0, .nameAndType 29 20), (0, u "EXTERNAL"), (0, .methodref 17 31), (0, .nameAndType 32 33), (0, u "own"), (0, u "()Lcom/example/humble_issuer/humbleissuer/IssueAuthority;"), (0, .class_ 35), (0, u "com/example/humble_issuer/humbleissuer/issuing/IssuerOfPinLaw"), (2, u "law"), (0, u "(I)Z")] 3

def k1m0 : Method := { name := "<init>", desc := "()V", sig := { parameters := [], returnType := none }, accessFlags := 1, code := none }
def k1c1 : Code := { maxStack := 2, maxLocals := 5, code := code, exceptionTable := #[], attributes := #[] }
def k1m1 : Method := { name := "law", desc := "(I)Z", sig := { parameters := [.int], returnType := some .boolean }, accessFlags := 9, code := some k1c1 }
/-- com/example/humble_issuer/humbleissuer/issuing/IssuerOfPinLaw -/
def k1 : Class := { plain "com/example/humble_issuer/humbleissuer/issuing/IssuerOfPinLaw" (some 0) with
  accessFlags := 49
  interfaces := #[]
  cf := some (fileOf pool1 34 #[] #[{ accessFlags := 1, nameIndex := 5, descriptorIndex := 6, attributes := #[] }, { accessFlags := 9, nameIndex := 38, descriptorIndex := 39, attributes := #[] }] 49 2 #[] #[])
  fields := #[]
  methods := #[k1m0, k1m1]
  instanceTypes := #[]
  staticTypes := #[]
  resolved := Array.replicate 43 none
  statics := none }

def pool2 : Array CpInfo := pool [(1, .class_ 2), (0, u "java/lang/constant/Constable"), (0, .class_ 4), (0, u "java/lang/Object")] 6

/-- java/lang/constant/Constable -/
def k2 : Class := { plain "java/lang/constant/Constable" (some 0) with
  accessFlags := 1537
  interfaces := #[]
  cf := some (fileOf pool2 1 #[] #[] 1537 3 #[] #[])
  fields := #[]
  methods := #[]
  instanceTypes := #[]
  staticTypes := #[]
  resolved := Array.replicate 11 none
  statics := none }

def pool3 : Array CpInfo := pool [(1, .class_ 2), (0, u "java/lang/Comparable"), (0, .class_ 4), (0, u "java/lang/Object")] 7

/-- java/lang/Comparable -/
def k3 : Class := { plain "java/lang/Comparable" (some 0) with
  accessFlags := 1537
  interfaces := #[]
  cf := some (fileOf pool3 1 #[] #[] 1537 3 #[] #[])
  fields := #[]
  methods := #[]
  instanceTypes := #[]
  staticTypes := #[]
  resolved := Array.replicate 12 none
  statics := none }

def pool4 : Array CpInfo := pool [(1, .class_ 2), (0, u "java/io/Serializable"), (0, .class_ 4), (0, u "java/lang/Object")] 2

/-- java/io/Serializable -/
def k4 : Class := { plain "java/io/Serializable" (some 0) with
  accessFlags := 1537
  interfaces := #[]
  cf := some (fileOf pool4 1 #[] #[] 1537 3 #[] #[])
  fields := #[]
  methods := #[]
  instanceTypes := #[]
  staticTypes := #[]
  resolved := Array.replicate 7 none
  statics := none }

def pool5 : Array CpInfo := pool [(2, .class_ 4), (1, u "java/lang/Enum"), (0, u "name"), (0, u "Ljava/lang/String;"), (2, u "ordinal"), (0, u "I"), (1, .class_ 14), (1, u "java/lang/Object"), (4, u "hash"), (86, .class_ 108), (1, u "java/lang/Enum$EnumDesc"), (2, .class_ 112), (0, u "java/lang/constant/Constable"), (0, .class_ 114), (0, u "java/lang/Comparable"), (0, .class_ 116), (0, u "java/io/Serializable")] 87

/-- java/lang/Enum -/
def k5 : Class := { plain "java/lang/Enum" (some 0) with
  accessFlags := 1057
  interfaces := #[2, 3, 4]
  cf := some (fileOf pool5 2 #[.nestMembers #[106]] #[] 1057 12 #[111, 113, 115] #[{ accessFlags := 18, nameIndex := 5, descriptorIndex := 6, attributes := #[] }, { accessFlags := 18, nameIndex := 9, descriptorIndex := 10, attributes := #[] }, { accessFlags := 2, nameIndex := 19, descriptorIndex := 10, attributes := #[] }])
  fields := #[{ name := "name", type := (.object "java/lang/String"), accessFlags := 18, slot := 0, constantValue := 0 }, { name := "ordinal", type := .int, accessFlags := 18, slot := 1, constantValue := 0 }, { name := "hash", type := .int, accessFlags := 2, slot := 2, constantValue := 0 }]
  methods := #[]
  instanceTypes := #[(.object "java/lang/String"), .int, .int]
  staticTypes := #[]
  resolved := Array.replicate 204 none
  statics := none }

def pool6 : Array CpInfo := pool [(1, .class_ 2), (0, u "com/example/humble_issuer/humbleissuer/IssueAuthority"), (2, u "RSA"), (0, u "Lcom/example/humble_issuer/humbleissuer/IssueAuthority;"), (2, u "ECC"), (2, u "$VALUES"), (0, u "[Lcom/example/humble_issuer/humbleissuer/IssueAuthority;"), (6, .class_ 22), (1, u "java/lang/Enum")] 100

/-- com/example/humble_issuer/humbleissuer/IssueAuthority -/
def k6 : Class := { plain "com/example/humble_issuer/humbleissuer/IssueAuthority" (some 5) with
  accessFlags := 16433
  interfaces := #[]
  cf := some (fileOf pool6 1 #[] #[] 16433 20 #[] #[{ accessFlags := 16409, nameIndex := 5, descriptorIndex := 6, attributes := #[] }, { accessFlags := 16409, nameIndex := 9, descriptorIndex := 6, attributes := #[] }, { accessFlags := 4122, nameIndex := 12, descriptorIndex := 13, attributes := #[] }])
  fields := #[{ name := "RSA", type := (.object "com/example/humble_issuer/humbleissuer/IssueAuthority"), accessFlags := 16409, slot := 0, constantValue := 0 }, { name := "ECC", type := (.object "com/example/humble_issuer/humbleissuer/IssueAuthority"), accessFlags := 16409, slot := 1, constantValue := 0 }, { name := "$VALUES", type := (.array (.object "com/example/humble_issuer/humbleissuer/IssueAuthority")), accessFlags := 4122, slot := 2, constantValue := 0 }]
  methods := #[]
  instanceTypes := #[(.object "java/lang/String"), .int, .int]
  staticTypes := #[(.object "com/example/humble_issuer/humbleissuer/IssueAuthority"), (.object "com/example/humble_issuer/humbleissuer/IssueAuthority"), (.array (.object "com/example/humble_issuer/humbleissuer/IssueAuthority"))]
  resolved := Array.replicate 123 none
  statics := some 0 }

def pool7 : Array CpInfo := pool [(1, .class_ 2), (0, u "com/example/humble_issuer/humbleissuer/issuing/Issuer"), (2, u "RSA"), (0, u "Lcom/example/humble_issuer/humbleissuer/issuing/Issuer;"), (2, u "ECC"), (2, u "EXTERNAL"), (0, .fieldref 1 14), (0, .nameAndType 15 16), (0, u "$VALUES"), (0, u "[Lcom/example/humble_issuer/humbleissuer/issuing/Issuer;"), (0, .methodref 18 19), (0, .class_ 16), (0, .nameAndType 20 21), (0, u "clone"), (0, u "()Ljava/lang/Object;"), (1, .class_ 25), (1, u "java/lang/Enum"), (6, .fieldref 1 33), (0, .nameAndType 34 35), (0, u "own"), (0, u "Lcom/example/humble_issuer/humbleissuer/IssueAuthority;"), (0, .methodref 1 37), (0, .nameAndType 38 39), (0, u "values"), (0, u "()[Lcom/example/humble_issuer/humbleissuer/issuing/Issuer;"), (35, u "of"), (0, u "(Lcom/example/humble_issuer/humbleissuer/IssueAuthority;)Lcom/example/humble_issuer/humbleissuer/issuing/Issuer;"), (1, u "()Lcom/example/humble_issuer/humbleissuer/IssueAuthority;")] 20

def k7c0 : Code := { maxStack := 1, maxLocals := 0, code := prog_7_method_1_code, exceptionTable := #[], attributes := #[] }
def k7m0 : Method := { name := "values", desc := "()[Lcom/example/humble_issuer/humbleissuer/issuing/Issuer;", sig := { parameters := [], returnType := some (.array (.object "com/example/humble_issuer/humbleissuer/issuing/Issuer")) }, accessFlags := 9, code := some k7c0 }
def k7c1 : Code := { maxStack := 3, maxLocals := 5, code := prog_7_method_4_code, exceptionTable := #[], attributes := #[] }
def k7m1 : Method := { name := "of", desc := "(Lcom/example/humble_issuer/humbleissuer/IssueAuthority;)Lcom/example/humble_issuer/humbleissuer/issuing/Issuer;", sig := { parameters := [(.object "com/example/humble_issuer/humbleissuer/IssueAuthority")], returnType := some (.object "com/example/humble_issuer/humbleissuer/issuing/Issuer") }, accessFlags := 8, code := some k7c1 }
def k7c2 : Code := { maxStack := 1, maxLocals := 1, code := prog_7_method_5_code, exceptionTable := #[], attributes := #[] }
def k7m2 : Method := { name := "own", desc := "()Lcom/example/humble_issuer/humbleissuer/IssueAuthority;", sig := { parameters := [], returnType := some (.object "com/example/humble_issuer/humbleissuer/IssueAuthority") }, accessFlags := 0, code := some k7c2 }
/-- com/example/humble_issuer/humbleissuer/issuing/Issuer -/
def k7 : Class := { plain "com/example/humble_issuer/humbleissuer/issuing/Issuer" (some 5) with
  accessFlags := 16432
  interfaces := #[]
  cf := some (fileOf pool7 1 #[] #[{ accessFlags := 9, nameIndex := 38, descriptorIndex := 39, attributes := #[] }, { accessFlags := 8, nameIndex := 75, descriptorIndex := 76, attributes := #[] }, { accessFlags := 0, nameIndex := 34, descriptorIndex := 78, attributes := #[] }] 16432 23 #[] #[{ accessFlags := 16409, nameIndex := 5, descriptorIndex := 6, attributes := #[] }, { accessFlags := 16409, nameIndex := 9, descriptorIndex := 6, attributes := #[] }, { accessFlags := 16409, nameIndex := 12, descriptorIndex := 6, attributes := #[] }, { accessFlags := 18, nameIndex := 34, descriptorIndex := 35, attributes := #[] }, { accessFlags := 4122, nameIndex := 15, descriptorIndex := 16, attributes := #[] }])
  fields := #[{ name := "RSA", type := (.object "com/example/humble_issuer/humbleissuer/issuing/Issuer"), accessFlags := 16409, slot := 0, constantValue := 0 }, { name := "ECC", type := (.object "com/example/humble_issuer/humbleissuer/issuing/Issuer"), accessFlags := 16409, slot := 1, constantValue := 0 }, { name := "EXTERNAL", type := (.object "com/example/humble_issuer/humbleissuer/issuing/Issuer"), accessFlags := 16409, slot := 2, constantValue := 0 }, { name := "own", type := (.object "com/example/humble_issuer/humbleissuer/IssueAuthority"), accessFlags := 18, slot := 3, constantValue := 0 }, { name := "$VALUES", type := (.array (.object "com/example/humble_issuer/humbleissuer/issuing/Issuer")), accessFlags := 4122, slot := 3, constantValue := 0 }]
  methods := #[k7m0, k7m1, k7m2]
  instanceTypes := #[(.object "java/lang/String"), .int, .int, (.object "com/example/humble_issuer/humbleissuer/IssueAuthority")]
  staticTypes := #[(.object "com/example/humble_issuer/humbleissuer/issuing/Issuer"), (.object "com/example/humble_issuer/humbleissuer/issuing/Issuer"), (.object "com/example/humble_issuer/humbleissuer/issuing/Issuer"), (.array (.object "com/example/humble_issuer/humbleissuer/issuing/Issuer"))]
  resolved := Array.replicate 99 none
  statics := some 1 }

def pool8 : Array CpInfo := pool [(1, .class_ 2), (0, u "java/lang/Cloneable"), (0, .class_ 4), (0, u "java/lang/Object")] 2

/-- java/lang/Cloneable -/
def k8 : Class := { plain "java/lang/Cloneable" (some 0) with
  accessFlags := 1537
  interfaces := #[]
  cf := some (fileOf pool8 1 #[] #[] 1537 3 #[] #[])
  fields := #[]
  methods := #[]
  instanceTypes := #[]
  staticTypes := #[]
  resolved := Array.replicate 7 none
  statics := none }

/-- the primitive byte -/
def k9 : Class := { plain "byte" none with kind := .primitive 'B', accessFlags := 0x411 }
/-- [B -/
def k10 : Class := { plain "[B" (some 0) with kind := .array 9 .byte, interfaces := #[8, 4], accessFlags := 1041 }

/-- the primitive int -/
def k11 : Class := { plain "int" none with kind := .primitive 'I', accessFlags := 0x411 }
/-- [I -/
def k12 : Class := { plain "[I" (some 0) with kind := .array 11 .int, interfaces := #[8, 4], accessFlags := 1041 }

/-- [Lcom/example/humble_issuer/humbleissuer/issuing/Issuer; -/
def k13 : Class := { plain "[Lcom/example/humble_issuer/humbleissuer/issuing/Issuer;" (some 0) with kind := .array 7 (.object "com/example/humble_issuer/humbleissuer/issuing/Issuer"), interfaces := #[8, 4], accessFlags := 1041 }

def heap : Heap := #[{ cls := 6, slots := #[.ref 6, .ref 7, .null], vm := .statics 6 },
  { cls := 7, slots := #[.ref 3, .ref 4, .ref 5, .ref 2], vm := .statics 7 },
  { cls := 13, slots := #[.ref 3, .ref 4, .ref 5], vm := .none },
  { cls := 7, slots := #[.null, .int 0, .int 0, .ref 6], vm := .none },
  { cls := 7, slots := #[.null, .int 1, .int 0, .ref 7], vm := .none },
  { cls := 7, slots := #[.null, .int 2, .int 0, .null], vm := .none },
  { cls := 6, slots := #[.null, .int 0, .int 0], vm := .none },
  { cls := 6, slots := #[.null, .int 1, .int 0], vm := .none }]
def classes : Array Class := #[k0, k1, k2, k3, k4, k5, k6, k7, k8, k9, k10, k11, k12, k13]
def interned : List (Array UInt16 × Addr) := []
def slotsUsed : Nat := 28
def theMethod : MethodId := ⟨1, 1⟩
def args0 : Array Value := #[.int 1]
def aboutOver (below : List Frame) : State where
  vm := { classes := classes, interned := interned.toArray }
  heap := heap
  slotsUsed := slotsUsed
  threads := #[{ frames := .invoking theMethod args0 :: below }]
def below0 : List Frame := [.native { method := ⟨0, 0⟩, args := #[] }]
def about1 : State := aboutOver below0
def p0 : Program := .bare "" "" ""
def e0 : Env := launch0.env 0 0 0
theorem w_frames : about1.frames = Frame.invoking theMethod args0 :: below0 := rfl
set_option maxRecDepth 65536 in
theorem w_args : argsFit about1.vm theMethod args0 = true := by decide +kernel
set_option maxRecDepth 65536 in
theorem w_heap : heapFits about1 = true := by decide +kernel
set_option maxRecDepth 65536 in
theorem w_runnable : about1.curStatus? = some .runnable := by decide +kernel
set_option maxRecDepth 65536 in
theorem w_alone : about1.alone = true := by decide +kernel
set_option maxRecDepth 65536 in
theorem w_named : about1.methodNamed? x = some theMethod := by decide +kernel
set_option maxRecDepth 65536 in
theorem w_hears : about1.hears theMethod below0 = true := by decide +kernel
set_option maxRecDepth 65536 in
theorem w_ripe : about1.ripe theMethod args0 below0 = true := by decide +kernel
theorem w_running : about1.status = .running := rfl
set_option maxRecDepth 65536 in
theorem w_room : about1.hasRoom e0.platform room_1 = true :=
  launch0.hasRoom_least _ room_1 (by decide +kernel) (by decide +kernel) (by decide +kernel) (by decide +kernel) (by decide +kernel) (by decide +kernel)
theorem allAtoms_all (ts : List Jvm.Cond) (a : Array Jvm.Value) (st : Jvm.State) : (allAtoms ts).before a st = ts.all (fun c => c.before a st) := by
  induction ts with
  | nil => rfl
  | cons c t ih =>
    show (Jvm.Cond.and c (allAtoms t)).before a st = _
    rw [Jvm.Cond.before_and, ih, List.all_cons]
def words1 : List Jvm.Cond := Jvm.Cond.code x code maxLocals ret :: tables_1
/-- a 'code' word, met by the world's own term for the bytes: nothing is compared byte by byte -/
theorem code_word {y : MethodName} {bytes : ByteArray} {mx : Nat} {rt : Option FieldType} {a : Array Value} {s : State} {m : MethodId} {meth : Method} {c : Code} (h1 : s.methodNamed? y = some m) (h2 : s.vm.method? m = some meth) (h3 : meth.code = some c) (h4 : c.code = bytes)
    (h5 : (c.maxLocals == mx && c.exceptionTable.isEmpty && decide (c.maxStack ≤ mostOperands) && decide (meth.sig.returnType = rt) && !meth.locks && decide (parseMethodDescriptor y.desc = some meth.sig)) = true) : (Jvm.Cond.code y bytes mx rt).before a s = true := by
  simp only [Bool.and_eq_true, beq_iff_eq, Bool.not_eq_true', decide_eq_true_eq] at h5
  obtain ⟨⟨⟨⟨⟨g1, g2⟩, g3⟩, g4⟩, g5⟩, g6⟩ := h5
  simp [Cond.before, Cond.holds, Cond.value, h1, h2, h3, h4, g1, g2, g3, g4, g5, g6]
def isCode : Jvm.Cond → Bool
  | .code _ _ _ _ => true
  | _ => false
theorem all_split {L : List Jvm.Cond} {P : Jvm.Cond → Bool} (h1 : L.all (fun c => isCode c || P c) = true) (h2 : ∀ c ∈ L.filter isCode, P c = true) : L.all P = true := by
  refine List.all_eq_true.mpr fun c hc => ?_
  have h := List.all_eq_true.mp h1 c hc
  rcases Bool.eq_false_or_eq_true (isCode c) with hi | hi
  · exact h2 c (List.mem_filter.mpr ⟨hc, hi⟩)
  · simpa [hi] using h
set_option maxRecDepth 65536 in
theorem w_c0 : (Jvm.Cond.code x code maxLocals ret).before args0 about1 = true := code_word (m := ⟨1, 1⟩) (meth := k1m1) (c := k1c1) (by decide +kernel) rfl rfl rfl (by decide +kernel)
set_option maxRecDepth 65536 in
theorem w_c1 : (Jvm.Cond.code ({ cls := "com/example/humble_issuer/humbleissuer/issuing/Issuer", name := "of", desc := "(Lcom/example/humble_issuer/humbleissuer/IssueAuthority;)Lcom/example/humble_issuer/humbleissuer/issuing/Issuer;" } : Jvm.MethodName) prog_7_method_4_code (5 : Nat) (Option.some (Jvm.ClassFile.FieldType.object "com/example/humble_issuer/humbleissuer/issuing/Issuer"))).before args0 about1 = true := code_word (m := ⟨7, 1⟩) (meth := k7m1) (c := k7c1) (by decide +kernel) rfl rfl rfl (by decide +kernel)
set_option maxRecDepth 65536 in
theorem w_c2 : (Jvm.Cond.code ({ cls := "com/example/humble_issuer/humbleissuer/issuing/Issuer", name := "values", desc := "()[Lcom/example/humble_issuer/humbleissuer/issuing/Issuer;" } : Jvm.MethodName) prog_7_method_1_code (0 : Nat) (Option.some (Jvm.ClassFile.FieldType.array (Jvm.ClassFile.FieldType.object "com/example/humble_issuer/humbleissuer/issuing/Issuer")))).before args0 about1 = true := code_word (m := ⟨7, 0⟩) (meth := k7m0) (c := k7c0) (by decide +kernel) rfl rfl rfl (by decide +kernel)
set_option maxRecDepth 65536 in
theorem w_c3 : (Jvm.Cond.code ({ cls := "com/example/humble_issuer/humbleissuer/issuing/Issuer", name := "own", desc := "()Lcom/example/humble_issuer/humbleissuer/IssueAuthority;" } : Jvm.MethodName) prog_7_method_5_code (1 : Nat) (Option.some (Jvm.ClassFile.FieldType.object "com/example/humble_issuer/humbleissuer/IssueAuthority"))).before args0 about1 = true := code_word (m := ⟨7, 2⟩) (meth := k7m2) (c := k7c2) (by decide +kernel) rfl rfl rfl (by decide +kernel)
def codes1 : List Jvm.Cond := [Jvm.Cond.code x code maxLocals ret, Jvm.Cond.code ({ cls := "com/example/humble_issuer/humbleissuer/issuing/Issuer", name := "of", desc := "(Lcom/example/humble_issuer/humbleissuer/IssueAuthority;)Lcom/example/humble_issuer/humbleissuer/issuing/Issuer;" } : Jvm.MethodName) prog_7_method_4_code (5 : Nat) (Option.some (Jvm.ClassFile.FieldType.object "com/example/humble_issuer/humbleissuer/issuing/Issuer")), Jvm.Cond.code ({ cls := "com/example/humble_issuer/humbleissuer/issuing/Issuer", name := "values", desc := "()[Lcom/example/humble_issuer/humbleissuer/issuing/Issuer;" } : Jvm.MethodName) prog_7_method_1_code (0 : Nat) (Option.some (Jvm.ClassFile.FieldType.array (Jvm.ClassFile.FieldType.object "com/example/humble_issuer/humbleissuer/issuing/Issuer"))), Jvm.Cond.code ({ cls := "com/example/humble_issuer/humbleissuer/issuing/Issuer", name := "own", desc := "()Lcom/example/humble_issuer/humbleissuer/IssueAuthority;" } : Jvm.MethodName) prog_7_method_5_code (1 : Nat) (Option.some (Jvm.ClassFile.FieldType.object "com/example/humble_issuer/humbleissuer/IssueAuthority"))]
set_option maxRecDepth 65536 in
theorem codes_eq : words1.filter isCode = codes1 := rfl
theorem w_codes : ∀ c ∈ words1.filter isCode, c.before args0 about1 = true := by
  rw [codes_eq]
  intro c hc
  simp only [codes1, List.mem_cons, List.not_mem_nil, or_false] at hc
  rcases hc with rfl | rfl | rfl | rfl
  · exact w_c0
  · exact w_c1
  · exact w_c2
  · exact w_c3
set_option maxRecDepth 65536 in
theorem w_t1 : (words1.take 24).all (fun c => isCode c || c.before args0 about1) = true := by decide +kernel
set_option maxRecDepth 65536 in
theorem w_t2 : (words1.drop 24).all (fun c => isCode c || c.before args0 about1) = true := by decide +kernel
theorem w_tables : (allAtoms (Jvm.Cond.code x code maxLocals ret :: tables_1)).before args0 about1 = true := by
  rw [allAtoms_all]
  show words1.all (fun c => c.before args0 about1) = true
  refine all_split ?_ w_codes
  rw [← List.take_append_drop 24 words1, List.all_append, w_t1, w_t2]
  rfl
set_option maxRecDepth 65536 in
theorem w_case : (Jvm.Cond.and given_1 narrow_1).before args0 about1 = true := by decide +kernel
theorem w_applies : (headSpec (Jvm.Cond.code x code maxLocals ret :: tables_1) room_1).applies x e0.platform about1 = true :=
  (Spec.applies_iff w_frames).mpr ⟨w_running, w_runnable, w_alone, w_named, w_hears, w_ripe, w_room, w_tables⟩
theorem atStart : AtStart classFile x code maxLocals ret World_1 tables_1 room_1 Calls_1 rest_1 Pre_1 launch0 p0 e0 about1 theMethod args0 below0 :=
  ⟨lists_1, trivial, launch0.admits_env _ _ _, launch0.least_env, fairChoices_fair.cas, fairChoices_fair.clock, w_frames, w_args, w_heap, w_applies, trivial, trivial, w_case⟩
end start1
theorem witness_1 : WitnessClaimed_1 := ⟨start1.p0, start1.e0, start1.about1, start1.theMethod, start1.args0, start1.below0, start1.atStart⟩
end Jvm.Pilot.@@N@@
