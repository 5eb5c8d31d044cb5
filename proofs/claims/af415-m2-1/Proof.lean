import JvmDerived
import JvmDerived.Pilot.@@N@@Statement
import JvmDerived.Pilot.@@N@@Code
set_option linter.unusedVariables false
set_option linter.unusedSimpArgs false
namespace Jvm.Pilot.@@N@@
open Jvm Jvm.ClassFile Sem Op Lib Jvm.Free Jvm.Stand Jvm.LawKit Jvm.RoadKit Bundle Jvm.Pilot.@@N@@.Jvm.D
section Own
variable {p : Program} {l : Launch} {e : Env} {R : Room} {s : State} {m : MethodId} {args : Array Value} {below : List Frame} {meth : Method} {c : Code} {T : State} {locs : List Loc} {cells slots : Nat} {Z : State} {a0 : Array Value} {h : Heap}
/-- from the state S the body ends well: it returns v, leaves the heap and the written places as Q says, within kc cells and ks slots -/
def Run (p : Program) (e : Env) (below : List Frame) (s : State) (Q : Option Value → Heap → List Loc → Prop) (kc ks : Nat) (S : State) : Prop := ∃ s₂ o, Steps p.tables e below S s₂ ∧ s₂.status = .running ∧ Ended s₂ below o ∧ ∃ v L, o = .returned v ∧ Q v s₂.heap L ∧ FrameEnd s o s₂ L kc ks
variable {Q : Option Value → Heap → List Loc → Prop} {kc ks : Nat}
theorem Run.pre {S S' : State} (h : ∀ t, Steps p.tables e below S' t → Steps p.tables e below S t) (k : Run p e below s Q kc ks S') : Run p e below s Q kc ks S := by
  obtain ⟨s₂, o, h1, r⟩ := k; exact ⟨s₂, o, h _ h1, r⟩
theorem Run.out (X : Stand p l e R s m args below meth c T locs cells slots) (hx : p.tables.exec = Jvm.exec) {pc : Nat} {Ls : Array Slot} {w : Value} {t : FieldType} {i : Instr} {rest : List Value} (hret : meth.sig.returnType = some t) (hn : narrow t w = w)
    (hi : (i = .ireturn ∧ (t = .int ∨ t = .boolean ∨ t = .byte ∨ t = .char ∨ t = .short) ∧ ∃ z, w = .int z) ∨ (i = .lreturn ∧ t = .long ∧ ∃ z, w = .long z) ∨ (i = .dreturn ∧ t = .double ∧ ∃ z, w = .double z) ∨ (i = .freturn ∧ t = .float ∧ ∃ z, w = .float z) ∨ (i = .areturn ∧ t.isReference = true ∧ w.isRef = true))
    (hlk : meth.locks = false) (hd : decode c.code pc = .ok (i, 1)) (hq : Q (some w) T.heap locs) (hc : cells ≤ kc) (hs : slots ≤ ks) : Run p e below s Q kc ks (T.setTop (mkF m pc Ls (w :: rest))) := by
  obtain ⟨fs, hr, hrun, hended, hW, hsame⟩ := X.leave (v := some w) (fun h => by rw [hret] at h; cases h) hlk
  exact ⟨_, _, retOut X hx hret hn hi hd hr, hrun, hended, _, _, rfl, hq, ⟨_, rfl⟩, hW, hsame.mono hc hs⟩
theorem Run.retN (X : Stand p l e R s m args below meth c T locs cells slots) (hx : p.tables.exec = Jvm.exec) {pc : Nat} {Ls : Array Slot} {z : Int32} {t : FieldType} {rest : List Value} (hret : meth.sig.returnType = some t) (ht : t = .boolean ∨ t = .byte ∨ t = .char ∨ t = .short) (hlk : meth.locks = false)
    (hd : decode c.code pc = .ok (.ireturn, 1)) (hq : Q (some (.int (nar t z))) T.heap locs) (hc : cells ≤ kc) (hs : slots ≤ ks) : Run p e below s Q kc ks (T.setTop (mkF m pc Ls (.int z :: rest))) := by
  obtain ⟨fs, hr, hrun, hended, hW, hsame⟩ := X.leave (v := some (.int (nar t z))) (fun h => by rw [hret] at h; cases h) hlk
  exact ⟨_, _, Jvm.RoadKit.retN X hx hret ht hd hr, hrun, hended, _, _, rfl, hq, ⟨_, rfl⟩, hW, hsame.mono hc hs⟩
theorem Run.retI (X : Stand p l e R s m args below meth c T locs cells slots) (hx : p.tables.exec = Jvm.exec) {pc : Nat} {Ls : Array Slot} {z : Int32} {rest : List Value} (hret : meth.sig.returnType = some .int) (hlk : meth.locks = false)
    (hd : decode c.code pc = .ok (.ireturn, 1)) (hq : Q (some (.int z)) T.heap locs) (hc : cells ≤ kc) (hs : slots ≤ ks) : Run p e below s Q kc ks (T.setTop (mkF m pc Ls (.int z :: rest))) := Run.out X hx hret rfl (Or.inl ⟨rfl, Or.inl rfl, z, rfl⟩) hlk hd hq hc hs
theorem Run.retJ (X : Stand p l e R s m args below meth c T locs cells slots) (hx : p.tables.exec = Jvm.exec) {pc : Nat} {Ls : Array Slot} {z : Int64} {rest : List Value} (hret : meth.sig.returnType = some .long) (hlk : meth.locks = false)
    (hd : decode c.code pc = .ok (.lreturn, 1)) (hq : Q (some (.long z)) T.heap locs) (hc : cells ≤ kc) (hs : slots ≤ ks) : Run p e below s Q kc ks (T.setTop (mkF m pc Ls (.long z :: rest))) := Run.out X hx hret rfl (Or.inr (Or.inl ⟨rfl, rfl, z, rfl⟩)) hlk hd hq hc hs
theorem Run.retA (X : Stand p l e R s m args below meth c T locs cells slots) (hx : p.tables.exec = Jvm.exec) {pc : Nat} {Ls : Array Slot} {w : Value} {t : FieldType} {rest : List Value} (hret : meth.sig.returnType = some t) (ht : t.isReference = true) (hw : w.isRef = true) (hlk : meth.locks = false)
    (hd : decode c.code pc = .ok (.areturn, 1)) (hq : Q (some w) T.heap locs) (hc : cells ≤ kc) (hs : slots ≤ ks) : Run p e below s Q kc ks (T.setTop (mkF m pc Ls (w :: rest))) := Run.out X hx hret (by cases t <;> cases w <;> simp_all [FieldType.isReference, Value.isRef, narrow]) (Or.inr (Or.inr (Or.inr (Or.inr ⟨rfl, ht, hw⟩)))) hlk hd hq hc hs
theorem Run.retV (X : Stand p l e R s m args below meth c T locs cells slots) (hx : p.tables.exec = Jvm.exec) {pc : Nat} {Ls : Array Slot} (hret : meth.sig.returnType = none) (hlk : meth.locks = false)
    (hd : decode c.code pc = .ok (.return_, 1)) (hq : Q none T.heap locs) (hc : cells ≤ kc) (hs : slots ≤ ks) : Run p e below s Q kc ks (T.setTop (mkF m pc Ls [])) := by
  obtain ⟨fs, hr, hrun, hended, hW, hsame⟩ := X.leave (v := none) (fun _ => rfl) hlk
  exact ⟨_, _, X.returnOut hx hret hd hr, hrun, hended, _, _, rfl, hq, ⟨_, rfl⟩, hW, hsame.mono hc hs⟩
/-- a body's contract, at the heap h0 and the arguments as' -/
def Con (l : Launch) (y : MethodName) (bytes : ByteArray) (maxL : Nat) (ret : Option FieldType) (rm : Room) (Z : State) (as' : Array Value) (h0 : Heap) (Q : Option Value → Heap → List Loc → Prop) : Prop :=
  ∀ ws, MetFree l y (head1 (Jvm.Cond.code y bytes maxL ret :: ws) rm) (fun a U => a = as' ∧ Z.Warmed39 U.vm ∧ U.heap = h0) (fun _ _ _ _ _ => True) (fun _ U o U' => ∃ v L, o = .returned v ∧ Q v U'.heap L ∧ FrameEnd U o U' L rm.cells rm.slots)
theorem Con.mk {y : MethodName} {bytes : ByteArray} {maxL : Nat} {ret : Option FieldType} {rm : Room} {as' : Array Value} {h0 : Heap} {F : MethodId → JFrame} (hpl : plainFor y = true) (hef : ∀ m, entryFrame m as' maxL = F m)
    (body : ∀ (p : Program) (e : Env) (s : State) (m : MethodId) (below : List Frame) (meth : Method) (c : Code) (s₁ : State), p.tables.exec = Jvm.exec → c.code = bytes → c.maxLocals = maxL → s.vm.findClass y.cls = some m.cls → meth.name = y.name → meth.sig.returnType = ret → meth.locks = false → Z.Warmed39 s.vm →
      Stand p l e rm s m as' below meth c s₁ [] 0 0 → s₁.heap = h0 → Run p e below s Q rm.cells rm.slots (s₁.setTop (F m))) : Con l y bytes maxL ret rm Z as' h0 Q := by
  intro ws
  refine MetFree.of_bodySF hpl hisR ?_
  intro p e s m args below meth c s₁ Bd hml0 hP hK
  obtain ⟨rfl, hZ, hh⟩ := hP
  have k := body p e s m below meth c s₁ Bd.exec Bd.bytes hml0 (findClass_of_methodNamed Bd.named) (name_of_methodNamed Bd.named Bd.method).1 Bd.returns Bd.notSynchronized hZ (Stand.of_body Bd) (by rw [← hh, Bd.state]; rfl)
  rw [← hef m] at k
  exact k
theorem Con.back {y : MethodName} {bytes : ByteArray} {maxL : Nat} {ret : Option FieldType} {rm : Room} {len W : Nat} {as' : Array Value} (hM : Con l y bytes maxL ret rm Z as' h Q) (hZ : Z.Warmed39 s.vm) (wc : (Jvm.Cond.code y bytes maxL ret).before a0 Z = true) (wz : (Jvm.Cond.initialized y.cls).before a0 Z = true) (hf : rm.frames + 1 ≤ R.frames) (hl : W + (maxL + 11) + rm.locals ≤ R.locals) :
    Back l R p e below s args y len W (fun A a => a = as' ∧ A.U.heap = h ∧ A.cells + rm.cells ≤ R.cells ∧ A.slots + rm.slots ≤ R.slots) (fun A _ v B => ∃ L, Q v B.U.heap L ∧ B.locs = A.locs ++ L ∧ B.cells = A.cells + rm.cells ∧ B.slots = A.slots + rm.slots) :=
  backOf (hM []) hZ wc wz hf hl
section Calls
variable {y : MethodName} {bytes : ByteArray} {maxL : Nat} {rt : Option FieldType} {rm : Room} {W : Nat} {own : String} {index : Nat} {Qc : Option Value → Heap → List Loc → Prop} {g : JFrame} {argsL rest : List Value} {as' : Array Value}
theorem Run.callS (X : Stand p l e R s m args below meth c T locs cells slots) (hx : p.tables.exec = Jvm.exec) (hZ : Z.Warmed39 s.vm) (hown : s.vm.findClass own = some m.cls) (w1 : (Jvm.Cond.methodLink own index y).before a0 Z = true) (w2 : (Jvm.Cond.static y).before a0 Z = true) (w3 : (Jvm.Cond.initialized y.cls).before a0 Z = true) (w4 : (Jvm.Cond.code y bytes maxL rt).before a0 Z = true)
    (hy : y.cls ≠ "java/lang/invoke/MethodHandle" ∧ y.cls ≠ "java/lang/invoke/VarHandle") (hM : Con l y bytes maxL rt rm Z argsL.toArray h Qc) (eT : T.heap = h) (hfr : rm.frames + 1 ≤ R.frames) (hlo : W + (maxL + 11) + rm.locals ≤ R.locals) (hce : cells + rm.cells ≤ R.cells) (hsl : slots + rm.slots ≤ R.slots)
    (hg : g.method = m) (hsize : g.locals.size = c.maxLocals) (hlen : ∀ sig, parseMethodDescriptor y.desc = some sig → argsL.length = sig.parameters.length) (hstack : g.stack = argsL.reverse ++ rest) (hW : 2 * g.monitorRoom + (rest.map fun v => v.category).sum ≤ W) (hdg : decode c.code g.pc = .ok (.invokestatic index, 3))
    (k : ∀ v T' L, Stand p l e R s m args below meth c T' (locs ++ L) (cells + rm.cells) (slots + rm.slots) → Qc v T'.heap L → Run p e below s Q kc ks (T'.setTop { g with pc := g.pc + 3, stack := v.toList ++ rest })) : Run p e below s Q kc ks (T.setTop g) := by
  obtain ⟨v, vm₁, ⟨T', L', c', n'⟩, -, X', ⟨L, hQ, l1, l2, l3⟩, st⟩ := Jvm.LawKit.callS X hx hown (mvT hZ w1) (mvT hZ w2) (mvT hZ w3) (mvT hZ w4) hy (hM.back (W := W) hZ w4 w3 hfr hlo) hg hsize hlen hstack hW hdg (fun _ _ => ⟨rfl, eT, hce, hsl⟩)
  dsimp only [Pt.U, Pt.locs, Pt.cells, Pt.slots] at X' l1 l2 l3 st hQ
  subst l1 l2 l3
  exact Run.pre st (k v T' L X' hQ)
theorem Run.callI (X : Stand p l e R s m args below meth c T locs cells slots) (hx : p.tables.exec = Jvm.exec) (hZ : Z.Warmed39 s.vm) (hy1 : y.name = "<init>") (hown : s.vm.findClass own = some m.cls) (w1 : (Jvm.Cond.methodLink own index y).before a0 Z = true) (w2 : (Jvm.Cond.instanceMethod y).before a0 Z = true) (w4 : (Jvm.Cond.code y bytes maxL none).before a0 Z = true) (w3 : (Jvm.Cond.initialized y.cls).before a0 Z = true)
    (hy : y.cls ≠ "java/lang/invoke/MethodHandle" ∧ y.cls ≠ "java/lang/invoke/VarHandle") {a : Addr} (hM : Con l y bytes maxL none rm Z (.ref a :: argsL).toArray h Qc) (eT : T.heap = h) (hfr : rm.frames + 1 ≤ R.frames) (hlo : W + (maxL + 11) + rm.locals ≤ R.locals) (hce : cells + rm.cells ≤ R.cells) (hsl : slots + rm.slots ≤ R.slots)
    (hg : g.method = m) (hsize : g.locals.size = c.maxLocals) (hlen : ∀ sig, parseMethodDescriptor y.desc = some sig → argsL.length = sig.parameters.length) (hstack : g.stack = argsL.reverse ++ .ref a :: rest) (hW : 2 * g.monitorRoom + (rest.map fun v => v.category).sum ≤ W) (hdg : decode c.code g.pc = .ok (.invokespecial index, 3))
    (k : ∀ v T' L, Stand p l e R s m args below meth c T' (locs ++ L) (cells + rm.cells) (slots + rm.slots) → Qc v T'.heap L → Run p e below s Q kc ks (T'.setTop { g with pc := g.pc + 3, stack := v.toList ++ rest })) : Run p e below s Q kc ks (T.setTop g) := by
  obtain ⟨v, vm₁, ⟨T', L', c', n'⟩, -, X', ⟨L, hQ, l1, l2, l3⟩, st⟩ := X.specialBack hx hy1 hown (mvT hZ w1) (mvT hZ w2) (mvT hZ w4) hy (hM.back (W := W) hZ w4 w3 hfr hlo) hg hsize (Steps.refl _) hlen hstack hW hdg (fun _ _ => ⟨rfl, eT, hce, hsl⟩)
  dsimp only [Pt.U, Pt.locs, Pt.cells, Pt.slots] at X' l1 l2 l3 st hQ
  subst l1 l2 l3
  exact Run.pre (fun _ q => st.trans q) (k v T' L X' hQ)
theorem Run.callP (X : Stand p l e R s m args below meth c T locs cells slots) (hx : p.tables.exec = Jvm.exec) (hZ : Z.Warmed39 s.vm) (hown : s.vm.findClass own = some m.cls) (w1 : (Jvm.Cond.methodLink own index y).before a0 Z = true) (w2 : (Jvm.Cond.instanceMethod y).before a0 Z = true) (w5 : (Jvm.Cond.selects y.cls y y).before a0 Z = true) (w6 : (Jvm.Cond.privateMethod y).before a0 Z = true) (w4 : (Jvm.Cond.code y bytes maxL rt).before a0 Z = true) (w3 : (Jvm.Cond.initialized y.cls).before a0 Z = true)
    (hy : y.cls ≠ "java/lang/invoke/MethodHandle" ∧ y.cls ≠ "java/lang/invoke/VarHandle") {a : Addr} {C : String} (E : Exa Z h a C) (hM : Con l y bytes maxL rt rm Z (.ref a :: argsL).toArray h Qc) (eT : T.heap = h) (hfr : rm.frames + 1 ≤ R.frames) (hlo : W + (maxL + 11) + rm.locals ≤ R.locals) (hce : cells + rm.cells ≤ R.cells) (hsl : slots + rm.slots ≤ R.slots)
    (hg : g.method = m) (hsize : g.locals.size = c.maxLocals) (hlen : ∀ sig, parseMethodDescriptor y.desc = some sig → argsL.length = sig.parameters.length) (hstack : g.stack = argsL.reverse ++ .ref a :: rest) (hW : 2 * g.monitorRoom + (rest.map fun v => v.category).sum ≤ W) (hdg : decode c.code g.pc = .ok (.invokevirtual index, 3))
    (k : ∀ v T' L, Stand p l e R s m args below meth c T' (locs ++ L) (cells + rm.cells) (slots + rm.slots) → Qc v T'.heap L → Run p e below s Q kc ks (T'.setTop { g with pc := g.pc + 3, stack := v.toList ++ rest })) : Run p e below s Q kc ks (T.setTop g) := by
  obtain ⟨cell, kk, q1, -, -, q4, -⟩ := E
  obtain ⟨v, vm₁, ⟨T', L', c', n'⟩, -, X', ⟨L, hQ, l1, l2, l3⟩, st⟩ := X.privateBack hx hown (mvT hZ w1) (mvT hZ w2) (mvT hZ w5) (Cond.privateMethod_at (mvP hZ w6 (args := #[]))) (mvT hZ w4) hy (hM.back (W := W) hZ w4 w3 hfr hlo) hg hsize (Steps.refl _) (a := a) (by rw [eT]; exact q1) (fun q e => by rw [e] at q4; cases q4) hlen hstack hW hdg (fun _ _ => ⟨rfl, eT, hce, hsl⟩)
  dsimp only [Pt.U, Pt.locs, Pt.cells, Pt.slots] at X' l1 l2 l3 st hQ
  subst l1 l2 l3
  exact Run.pre (fun _ q => st.trans q) (k v T' L X' hQ)
theorem Run.callV {z : MethodName} {C : String} (X : Stand p l e R s m args below meth c T locs cells slots) (hx : p.tables.exec = Jvm.exec) (hZ : Z.Warmed39 s.vm) (hown : s.vm.findClass own = some m.cls) (w1 : (Jvm.Cond.methodLink own index y).before a0 Z = true) (w2 : (Jvm.Cond.declares y).before a0 Z = true) (hnf : NotFace s y) (w5 : (Jvm.Cond.selects C y z).before a0 Z = true) (w6 : (Jvm.Cond.instanceMethod z).before a0 Z = true) (w4 : (Jvm.Cond.code z bytes maxL rt).before a0 Z = true) (w3 : (Jvm.Cond.initialized z.cls).before a0 Z = true)
    (hy : y.cls ≠ "java/lang/invoke/MethodHandle" ∧ y.cls ≠ "java/lang/invoke/VarHandle") {b : Addr} (E : Exa Z h b C) (hM : Con l z bytes maxL rt rm Z (.ref b :: argsL).toArray h Qc) (eT : T.heap = h) (hfr : rm.frames + 1 ≤ R.frames) (hlo : W + (maxL + 11) + rm.locals ≤ R.locals) (hce : cells + rm.cells ≤ R.cells) (hsl : slots + rm.slots ≤ R.slots)
    (hg : g.method = m) (hsize : g.locals.size = c.maxLocals) (hlen : ∀ sig, parseMethodDescriptor y.desc = some sig → argsL.length = sig.parameters.length) (hstack : g.stack = argsL.reverse ++ .ref b :: rest) (hW : 2 * g.monitorRoom + (rest.map fun v => v.category).sum ≤ W) (hdg : decode c.code g.pc = .ok (.invokevirtual index, 3))
    (k : ∀ v T' L, Stand p l e R s m args below meth c T' (locs ++ L) (cells + rm.cells) (slots + rm.slots) → Qc v T'.heap L → Run p e below s Q kc ks (T'.setTop { g with pc := g.pc + 3, stack := v.toList ++ rest })) : Run p e below s Q kc ks (T.setTop g) := by
  obtain ⟨cB, kB, qa, qb, qc⟩ := isOf hZ eT E
  obtain ⟨v, vm₁, ⟨T', L', c', n'⟩, -, X', ⟨L, hQ, l1, l2, l3⟩, st⟩ := X.virtualBack hx hown (mvT hZ w1) (mvT hZ w2) hnf (mvT hZ w5) (mvT hZ w6) hy (hM.back (W := W) hZ w4 w3 hfr hlo) qa qc hg hsize (Steps.refl _) hlen hstack hW hdg (fun _ _ => ⟨rfl, eT, hce, hsl⟩)
  dsimp only [Pt.U, Pt.locs, Pt.cells, Pt.slots] at X' l1 l2 l3 st hQ
  subst l1 l2 l3
  exact Run.pre (fun _ q => st.trans q) (k v T' L X' hQ)
theorem Run.callU {z : MethodName} {C owner : String} (X : Stand p l e R s m args below meth c T locs cells slots) (hx : p.tables.exec = Jvm.exec) (hZ : Z.Warmed39 s.vm) (hown : s.vm.findClass own = some m.cls) (w1 : (Jvm.Cond.methodLink own index y).before a0 Z = true) (w2 : (Jvm.Cond.sameMethod y.cls owner y.name y.desc).before a0 Z = true) (w7 : (Jvm.Cond.declares ⟨owner, y.name, y.desc⟩).before a0 Z = true) (w5 : (Jvm.Cond.selects C y z).before a0 Z = true) (w6 : (Jvm.Cond.instanceMethod z).before a0 Z = true) (w4 : (Jvm.Cond.code z bytes maxL rt).before a0 Z = true) (w3 : (Jvm.Cond.initialized z.cls).before a0 Z = true)
    (hy : owner ≠ "java/lang/invoke/MethodHandle" ∧ owner ≠ "java/lang/invoke/VarHandle") {b : Addr} (E : Exa Z h b C) (hM : Con l z bytes maxL rt rm Z (.ref b :: argsL).toArray h Qc) (eT : T.heap = h) (hfr : rm.frames + 1 ≤ R.frames) (hlo : W + (maxL + 11) + rm.locals ≤ R.locals) (hce : cells + rm.cells ≤ R.cells) (hsl : slots + rm.slots ≤ R.slots)
    (hg : g.method = m) (hsize : g.locals.size = c.maxLocals) (hlen : ∀ sig, parseMethodDescriptor y.desc = some sig → argsL.length = sig.parameters.length) (hstack : g.stack = argsL.reverse ++ .ref b :: rest) (hW : 2 * g.monitorRoom + (rest.map fun v => v.category).sum ≤ W) (hdg : decode c.code g.pc = .ok (.invokevirtual index, 3))
    (k : ∀ v T' L, Stand p l e R s m args below meth c T' (locs ++ L) (cells + rm.cells) (slots + rm.slots) → Qc v T'.heap L → Run p e below s Q kc ks (T'.setTop { g with pc := g.pc + 3, stack := v.toList ++ rest })) : Run p e below s Q kc ks (T.setTop g) := by
  obtain ⟨cB, kB, qa, qb, qc⟩ := isOf hZ eT E
  obtain ⟨v, vm₁, ⟨T', L', c', n'⟩, -, X', ⟨L, hQ, l1, l2, l3⟩, st⟩ := X.virtualBackUp hx hown (mvT hZ w1) (mvT hZ w2) (mvT hZ w7) hy (mvT hZ w5) (mvT hZ w6) (hM.back (W := W) hZ w4 w3 hfr hlo) qa qc hg hsize (Steps.refl _) hlen hstack hW hdg (fun _ _ => ⟨rfl, eT, hce, hsl⟩)
  dsimp only [Pt.U, Pt.locs, Pt.cells, Pt.slots] at X' l1 l2 l3 st hQ
  subst l1 l2 l3
  exact Run.pre (fun _ q => st.trans q) (k v T' L X' hQ)
theorem Run.callF {xi : MethodName} {C : String} {count : Nat} (X : Stand p l e R s m args below meth c T locs cells slots) (hx : p.tables.exec = Jvm.exec) (hZ : Z.Warmed39 s.vm) (hown : s.vm.findClass own = some m.cls) (w1 : (Jvm.Cond.methodLink own index xi).before a0 Z = true) (w2 : (Jvm.Cond.declares xi).before a0 Z = true) (w7 : (Jvm.Cond.interfaceMethod xi.cls xi.cls xi.name xi.desc).before args s = true) (w5 : (Jvm.Cond.selects C xi y).before a0 Z = true) (w6 : (Jvm.Cond.instanceMethod y).before a0 Z = true) (w8 : (Jvm.Cond.publicMethod y).before a0 Z = true) (w9 : (Jvm.Cond.unhidden C xi.name xi.desc).before a0 Z = true) (w10 : (Jvm.Cond.castable C xi.cls).before a0 Z = true) (w4 : (Jvm.Cond.code y bytes maxL rt).before a0 Z = true) (w3 : (Jvm.Cond.initialized y.cls).before a0 Z = true)
    (hy : xi.cls ≠ "java/lang/invoke/MethodHandle" ∧ xi.cls ≠ "java/lang/invoke/VarHandle") {b : Addr} (E : Exa Z h b C) (hM : Con l y bytes maxL rt rm Z (.ref b :: argsL).toArray h Qc) (eT : T.heap = h) (hfr : rm.frames + 1 ≤ R.frames) (hlo : W + (maxL + 11) + rm.locals ≤ R.locals) (hce : cells + rm.cells ≤ R.cells) (hsl : slots + rm.slots ≤ R.slots)
    (hg : g.method = m) (hsize : g.locals.size = c.maxLocals) (hlen : ∀ sig, parseMethodDescriptor xi.desc = some sig → argsL.length = sig.parameters.length) (hstack : g.stack = argsL.reverse ++ .ref b :: rest) (hW : 2 * g.monitorRoom + (rest.map fun v => v.category).sum ≤ W) (hdg : decode c.code g.pc = .ok (.invokeinterface index count, 5))
    (k : ∀ v T' L, Stand p l e R s m args below meth c T' (locs ++ L) (cells + rm.cells) (slots + rm.slots) → Qc v T'.heap L → Run p e below s Q kc ks (T'.setTop { g with pc := g.pc + 5, stack := v.toList ++ rest })) : Run p e below s Q kc ks (T.setTop g) := by
  obtain ⟨cB, kB, qa, qb, qc⟩ := isOf hZ eT E
  obtain ⟨v, vm₁, ⟨T', L', c', n'⟩, -, X', ⟨L, hQ, l1, l2, l3⟩, st⟩ := X.interfaceBack hx hown (mvT hZ w1) (mvT hZ w2) w7 (mvT hZ w5) (mvT hZ w6) (mvT hZ w8) (mvT hZ w9) (mvT hZ w10) hy (hM.back (W := W) hZ w4 w3 hfr hlo) qa qb qc hg hsize (Steps.refl _) hlen hstack hW hdg (fun _ _ => ⟨rfl, eT, hce, hsl⟩)
  dsimp only [Pt.U, Pt.locs, Pt.cells, Pt.slots] at X' l1 l2 l3 st hQ
  subst l1 l2 l3
  exact Run.pre (fun _ q => st.trans q) (k v T' L X' hQ)
end Calls
/-! from the case's words to facts on the heap -/
theorem own_fldInt {args : Array Value} {t : Term} {C n d : String} {k : Int32} {a : Addr} (ht : t.eval args Z none [] Z = some (.ref a)) (h : (Jvm.Cond.eq (Term.field t C n d) (Term.int k)).value args Z none Z [] = some true) : Fld Z Z.heap a C n d (.int k) := by
  obtain ⟨x, y, e1, e2, -, k2⟩ := cmp_v (Or.inl h)
  have e3 : y = .int k := (Option.some.inj ((Term.int_eval k).symm.trans e2)).symm
  subst e3
  obtain ⟨z, rfl⟩ := k2
  have e4 := fld_at (C := C) (n := n) (dd := d) ht
  rw [e4] at e1
  have q : z = k := by
    have hh : (Jvm.Cond.eq (Term.field t C n d) (Term.int k)).value args Z none Z [] = some (decide (z = k)) := by simp [Jvm.Cond.value, e4, e1, e2]
    exact gotT hh h
  subst q
  exact Fld.start e1
theorem own_fldLong {args : Array Value} {t : Term} {C n d : String} {k : Int64} {a : Addr} (ht : t.eval args Z none [] Z = some (.ref a)) (h : (Jvm.Cond.eq (Term.field t C n d) (Term.long k)).value args Z none Z [] = some true) : Fld Z Z.heap a C n d (.long k) := by
  obtain ⟨x, y, e1, e2, -, k2⟩ := cmp_v (Or.inl h)
  have e3 : y = .long k := (Option.some.inj (show some (Value.long k) = some y from e2)).symm
  subst e3
  obtain ⟨z, rfl⟩ := k2
  have e4 := fld_at (C := C) (n := n) (dd := d) ht
  have q : z = k := gotT (eq_L e1 e2) h
  rw [e4] at e1
  subst q
  exact Fld.start e1
theorem own_len {args : Array Value} {t : Term} {n : Int32} {a : Addr} {cl : Cell} {ty : FieldType} (ht : t.eval args Z none [] Z = some (.ref a)) (A : Arr Z Z.heap a cl ty) (h : (Jvm.Cond.eq (Term.length t) (Term.int n)).value args Z none Z [] = some true) : cl.slots.size < 2 ^ 31 ∧ cl.slots.size.toInt32 = n := by
  obtain ⟨x, y, e1, e2, -, k2⟩ := cmp_v (Or.inl h)
  have ha : Z.arrayAt? a = some cl := A.fin (Vm.Alike.refl _)
  by_cases hl : cl.slots.size < 2 ^ 31
  · refine ⟨hl, ?_⟩
    have e3 := len_f ht ha hl
    have hh : (Jvm.Cond.eq (Term.length t) (Term.int n)).value args Z none Z [] = some (decide (cl.slots.size.toInt32 = n)) := by
      have e4 : (Term.int n).eval args Z none [] Z = some (.int n) := Term.int_eval n
      simp [Jvm.Cond.value, e3, e4]
    exact gotT hh h
  · exfalso
    simp [Term.eval, ht, ha, hl] at e1
theorem own_elem {args : Array Value} {t u : Term} {j : Int32} {a w : Addr} {cl : Cell} (ht : t.eval args Z none [] Z = some (.ref a)) (hu : u.eval args Z none [] Z = some (.ref w)) (hc : Z.heap[a]? = some cl) (h : (Jvm.Cond.eq (Term.elem t (Term.int j)) u).value args Z none Z [] = some true) : cl.slots[j.toNatClampNeg]? = some (.ref w) := by
  obtain ⟨x, y, e1, e2, k1, k2⟩ := cmp_v (Or.inl h)
  cases hu.symm.trans e2
  have q := gotT (eq_R e1 e2 k2.2 rfl) h
  subst q
  exact (elem_in e1 ht (Term.int_eval j) hc).2
theorem own_fldRef {args : Array Value} {t u : Term} {C n d : String} {a w : Addr} (ht : t.eval args Z none [] Z = some (.ref a)) (hu : u.eval args Z none [] Z = some (.ref w)) (h : (Jvm.Cond.eq (Term.field t C n d) u).value args Z none Z [] = some true) : Fld Z Z.heap a C n d (.ref w) := by
  obtain ⟨x, y, e1, e2, k1, k2⟩ := cmp_v (Or.inl h)
  cases hu.symm.trans e2
  have q := gotT (eq_R e1 e2 k2.2 rfl) h
  subst q
  rw [fld_at ht] at e1
  exact Fld.start e1
theorem own_fldNull {args : Array Value} {t : Term} {C n d : String} {a : Addr} (ht : t.eval args Z none [] Z = some (.ref a)) (h : (Jvm.Cond.eq (Term.field t C n d) Term.null).value args Z none Z [] = some true) : Fld Z Z.heap a C n d .null := by
  have e1 := null_v h
  rw [fld_at ht] at e1
  exact Fld.start e1
theorem own_fit {s : State} (hF : heapFits s = true) : Fit s := fun {y c} hc i hi => by
  obtain ⟨ha, rfl⟩ := Array.getElem?_eq_some_iff.mp hc
  have q := List.all_eq_true.mp ((Array.all_eq_true_iff_forall_mem.mp hF) _ (Array.getElem_mem ha)) i (List.mem_range.mpr hi)
  simpa [Array.getElem?_eq_getElem hi] using q
end Own
def own_und (q : Int64) (z : Int32) : Int32 := if lcmpW q 0 < 0 then (if z = 0 then 1 else 0) else 0
theorem own_max (x : Int64) : ¬ (lcmpW (x &&& (9223372036854775807 : Int64)) (0 : Int64)) < (0 : Int32) := by
  rw [lw_lt, Int64.lt_iff_toInt_lt]
  have h : (x &&& (9223372036854775807 : Int64)).toBitVec.msb = false := by
    rw [show (x &&& (9223372036854775807 : Int64)).toBitVec = x.toBitVec &&& 9223372036854775807#64 from rfl, BitVec.msb_and, show (9223372036854775807#64).msb = false by decide, Bool.and_false]
  have h2 : 0 ≤ (x &&& (9223372036854775807 : Int64)).toBitVec.toInt := by rw [BitVec.toInt_eq_msb_cond, h]; simp
  exact Int.not_lt.mpr h2
theorem d2_0 : decode jdk_30_method_1_code 0 = .ok (.aload_n 0, 1) := by decide +kernel
theorem d2_1 : decode jdk_30_method_1_code 1 = .ok (.invokespecial 1, 3) := by decide +kernel
theorem d2_4 : decode jdk_30_method_1_code 4 = .ok (.return_, 1) := by decide +kernel
theorem pn_2 : plainName "java/lang/Record" = true := by first | (simp [plainName, overriddenIn]; done) | decide +kernel
set_option maxRecDepth 65536 in
set_option maxHeartbeats 40000000 in
theorem rm2 (l : Launch) (Z : State) (a0 : Array Value) (hw : ∀ d ∈ tables_1, d.before a0 Z = true) (a : Addr) (h0 : Heap) (n0 : Nat) (Z0 : n0 ≤ h0.size) :
    Con l (⟨"java/lang/Record", "<init>", "()V"⟩ : MethodName) jdk_30_method_1_code 1 none ({ frames := 1, cells := 0, slots := 0, locals := 12 } : Room) Z #[(.ref a)] h0 (fun v h L => v = none ∧ Fr n0 L ∧ h = h0) := by
  refine Con.mk (plainFor_of_name pn_2) (fun m => show entryFrame m #[(.ref a)] 1 = mkF m 0 #[.val (.ref a)] [] by first | (simp [entryFrame, mkF, argsToLocals, Value.category]; done) | rfl) ?_
  intro p e s m below meth c s₁ hx hby hml hown hnm hret hlk hZ X0 e0
  have N0 := Fr.nil n0
  show Run p e below s _ _ _ (s₁.setTop (mkF m 0 #[.val (.ref a)] []))
  refine Run.pre (fun _ k => XS.aloadN X0.here hx rfl (hb hby d2_0) rfl rfl k) ?_
  show Run p e below s _ _ _ (s₁.setTop (mkF m 1 #[.val (.ref a)] [(.ref a)]))
  obtain ⟨T1, X1, e1, st1⟩ := initO X0 hx hZ hown (hw _ (List.mem_of_getElem? (i := 11) rfl)) (hw _ (List.mem_of_getElem? (i := 12) rfl)) (hw _ (List.mem_of_getElem? (i := 13) rfl)) e0 (g := (mkF m 1 #[.val (.ref a)] [(.ref a)])) rfl (by rw [hml]; rfl) rfl (hb hby d2_1) (by decide) (W := 0) (by show 2 * 0 + _ ≤ _; exact Nat.le_of_eq rfl) (by decide)
  refine Run.pre st1 ?_
  show Run p e below s _ _ _ (T1.setTop (mkF m 4 #[.val (.ref a)] []))
  exact Run.retV X1 hx hret hlk (hb hby d2_4) (by first | (rw [e1]; exact ⟨rfl, N0, rfl⟩) | exact ⟨rfl, N0, rfl⟩) (by decide) (by decide)
theorem d1_0 : decode prog_94_method_1_code 0 = .ok (.aload_n 0, 1) := by decide +kernel
theorem pd_0 : parseMethodDescriptor "()V" = some ⟨[], none⟩ := by decide +kernel
theorem d1_1 : decode prog_94_method_1_code 1 = .ok (.invokespecial 1, 3) := by decide +kernel
theorem d1_4 : decode prog_94_method_1_code 4 = .ok (.aload_n 0, 1) := by decide +kernel
theorem d1_5 : decode prog_94_method_1_code 5 = .ok (.lload_n 1, 1) := by decide +kernel
theorem d1_6 : decode prog_94_method_1_code 6 = .ok (.putfield 7, 3) := by decide +kernel
theorem d1_9 : decode prog_94_method_1_code 9 = .ok (.aload_n 0, 1) := by decide +kernel
theorem d1_10 : decode prog_94_method_1_code 10 = .ok (.iload_n 3, 1) := by decide +kernel
theorem d1_11 : decode prog_94_method_1_code 11 = .ok (.putfield 13, 3) := by decide +kernel
theorem d1_14 : decode prog_94_method_1_code 14 = .ok (.return_, 1) := by decide +kernel
theorem pn_1 : plainName "com/example/manana/manana/wire/MessageHead$Framing" = true := by first | (simp [plainName, overriddenIn]; done) | decide +kernel
set_option maxRecDepth 65536 in
set_option maxHeartbeats 40000000 in
theorem rm1 (l : Launch) (Z : State) (a0 : Array Value) (hw : ∀ d ∈ tables_1, d.before a0 Z = true) (a : Addr) (q : Int64) (z : Int32) (h0 : Heap) (n0 : Nat) (Z0 : n0 ≤ h0.size) (E_a : Exa Z h0 a "com/example/manana/manana/wire/MessageHead$Framing") (FL : Fld Z h0 a "com/example/manana/manana/wire/MessageHead$Framing" "length" "J" (.long 0)) (FC : Fld Z h0 a "com/example/manana/manana/wire/MessageHead$Framing" "chunked" "Z" (.int 0)) (g_a : n0 ≤ a) :
    Con l (⟨"com/example/manana/manana/wire/MessageHead$Framing", "<init>", "(JZ)V"⟩ : MethodName) prog_94_method_1_code 4 none ({ frames := 2, cells := 0, slots := 0, locals := 24 } : Room) Z #[(.ref a), (.long q), (.int z)] h0 (fun v h L => v = none ∧ Fr n0 L ∧ Keep h0 h [a] ∧ Fld Z h a "com/example/manana/manana/wire/MessageHead$Framing" "length" "J" (.long q) ∧ Fld Z h a "com/example/manana/manana/wire/MessageHead$Framing" "chunked" "Z" (.int (nar .boolean z))) := by
  refine Con.mk (plainFor_of_name pn_1) (fun m => show entryFrame m #[(.ref a), (.long q), (.int z)] 4 = mkF m 0 #[.val (.ref a), .val (.long q), .second, .val (.int z)] [] by first | (simp [entryFrame, mkF, argsToLocals, Value.category]; done) | rfl) ?_
  intro p e s m below meth c s₁ hx hby hml hown hnm hret hlk hZ X0 e0
  have N0 := Fr.nil n0
  show Run p e below s _ _ _ (s₁.setTop (mkF m 0 #[.val (.ref a), .val (.long q), .second, .val (.int z)] []))
  refine Run.pre (fun _ k => XS.aloadN X0.here hx rfl (hb hby d1_0) rfl rfl k) ?_
  show Run p e below s _ _ _ (s₁.setTop (mkF m 1 #[.val (.ref a), .val (.long q), .second, .val (.int z)] [(.ref a)]))
  refine Run.callI X0 hx hZ (y := (⟨"java/lang/Record", "<init>", "()V"⟩ : MethodName)) rfl hown (hw _ (List.mem_of_getElem? (i := 6) rfl)) (hw _ (List.mem_of_getElem? (i := 7) rfl)) (hw _ (List.mem_of_getElem? (i := 10) rfl)) (hw _ (List.mem_of_getElem? (i := 9) rfl)) (by decide) (a := a) (W := 0) (rm2 l Z a0 hw a h0 n0 Z0) e0 (by decide) (by decide) (by decide) (by decide) (g := (mkF m 1 #[.val (.ref a), .val (.long q), .second, .val (.int z)] [(.ref a)])) rfl (by rw [hml]; rfl) (argsL := []) (rest := []) (lenOf pd_0 rfl) rfl (by show 2 * 0 + _ ≤ _; exact Nat.le_of_eq rfl) (hb hby d1_1) ?_
  intro v2 T2 L2 X2 hQ2
  obtain ⟨rfl, Nq2, he2⟩ := hQ2
  have N2 := Fr.app N0 Nq2
  have e2 : T2.heap = h0 := he2
  show Run p e below s _ _ _ (T2.setTop (mkF m 4 #[.val (.ref a), .val (.long q), .second, .val (.int z)] []))
  refine Run.pre (fun _ k => XS.aloadN X2.here hx rfl (hb hby d1_4) rfl rfl k) ?_
  show Run p e below s _ _ _ (T2.setTop (mkF m 5 #[.val (.ref a), .val (.long q), .second, .val (.int z)] [(.ref a)]))
  refine Run.pre (fun _ k => XS.lloadN X2.here hx rfl (hb hby d1_5) rfl  k) ?_
  show Run p e below s _ _ _ (T2.setTop (mkF m 6 #[.val (.ref a), .val (.long q), .second, .val (.int z)] [(.long q), (.ref a)]))
  obtain ⟨T3, h3, X3, e3, W3, st3⟩ := putF X2 hx hZ hown (host := "") (Or.inl (hw _ (List.mem_of_getElem? (i := 14) rfl))) Via.refl e2 FL E_a (Or.inr ⟨(hw _ (List.mem_of_getElem? (i := 15) rfl)), rfl, hnm⟩) (hw _ (List.mem_of_getElem? (i := 1) rfl)) (ty := .long) (by decide) rfl rfl (g := (mkF m 6 #[.val (.ref a), .val (.long q), .second, .val (.int z)] [(.long q), (.ref a)])) rfl rfl (hb hby d1_6)
  refine Run.pre st3 ?_
  have Fw3 := FL.same W3
  have K3 : Keep h0 h3 [a] := (Keep.refl h0 [a]).wr W3 (Or.inl (by simp))
  have N3 := Fr.snoc X3 N2 g_a
  show Run p e below s _ _ _ (T3.setTop (mkF m 9 #[.val (.ref a), .val (.long q), .second, .val (.int z)] []))
  refine Run.pre (fun _ k => XS.aloadN X3.here hx rfl (hb hby d1_9) rfl rfl k) ?_
  show Run p e below s _ _ _ (T3.setTop (mkF m 10 #[.val (.ref a), .val (.long q), .second, .val (.int z)] [(.ref a)]))
  refine Run.pre (fun _ k => XS.iloadN X3.here hx rfl (hb hby d1_10) rfl  k) ?_
  show Run p e below s _ _ _ (T3.setTop (mkF m 11 #[.val (.ref a), .val (.long q), .second, .val (.int z)] [(.int z), (.ref a)]))
  have f4 := (E_a.wr W3)
  have f5 := (FC.other W3 (Or.inr (slot_ne (Or.inr (hw _ (List.mem_of_getElem? (i := 17) rfl))) (Or.inr (hw _ (List.mem_of_getElem? (i := 15) rfl))) (by decide) (t := .boolean) (t' := .long) (by decide) (by decide))))
  obtain ⟨T6, h6, X6, e6, W6, st6⟩ := putFN X3 hx hZ hown (hw _ (List.mem_of_getElem? (i := 16) rfl)) Via.refl e3 f5 f4 (Or.inr ⟨(hw _ (List.mem_of_getElem? (i := 17) rfl)), rfl, hnm⟩) (hw _ (List.mem_of_getElem? (i := 1) rfl)) (ty := .boolean) (v' := (.int (nar .boolean z))) (by decide) rfl (fits_nar_bool _) (g := (mkF m 11 #[.val (.ref a), .val (.long q), .second, .val (.int z)] [(.int z), (.ref a)])) rfl rfl (hb hby d1_11)
  refine Run.pre st6 ?_
  have Fw6 := f5.same W6
  have K6 : Keep h0 h6 [a] := K3.wr W6 (Or.inl (by simp))
  have N6 := Fr.snoc X6 N3 g_a
  show Run p e below s _ _ _ (T6.setTop (mkF m 14 #[.val (.ref a), .val (.long q), .second, .val (.int z)] []))
  have f7 := (Fw3.other W6 (Or.inr (slot_ne (Or.inr (hw _ (List.mem_of_getElem? (i := 15) rfl))) (Or.inr (hw _ (List.mem_of_getElem? (i := 17) rfl))) (by decide) (t := .long) (t' := .boolean) (by decide) (by decide))))
  exact Run.retV X6 hx hret hlk (hb hby d1_14) (by first | (rw [e6]; exact ⟨rfl, N6, K6, f7, Fw6⟩) | exact ⟨rfl, N6, K6, f7, Fw6⟩) (by decide) (by decide)
theorem d4_0 : decode prog_94_method_3_code 0 = .ok (.aload_n 0, 1) := by decide +kernel
theorem d4_1 : decode prog_94_method_3_code 1 = .ok (.getfield 7, 3) := by decide +kernel
theorem d4_4 : decode prog_94_method_3_code 4 = .ok (.lconst 0, 1) := by decide +kernel
theorem d4_5 : decode prog_94_method_3_code 5 = .ok (.lcmp, 1) := by decide +kernel
theorem d4_6 : decode prog_94_method_3_code 6 = .ok (.ifCond .ge 14, 3) := by decide +kernel
theorem d4_9 : decode prog_94_method_3_code 9 = .ok (.aload_n 0, 1) := by decide +kernel
theorem d4_10 : decode prog_94_method_3_code 10 = .ok (.getfield 13, 3) := by decide +kernel
theorem d4_13 : decode prog_94_method_3_code 13 = .ok (.ifCond .ne 7, 3) := by decide +kernel
theorem d4_16 : decode prog_94_method_3_code 16 = .ok (.iconst 1, 1) := by decide +kernel
theorem d4_17 : decode prog_94_method_3_code 17 = .ok (.goto 4, 3) := by decide +kernel
theorem d4_21 : decode prog_94_method_3_code 21 = .ok (.ireturn, 1) := by decide +kernel
theorem d4_20 : decode prog_94_method_3_code 20 = .ok (.iconst 0, 1) := by decide +kernel
theorem pn_4 : plainName "com/example/manana/manana/wire/MessageHead$Framing" = true := by first | (simp [plainName, overriddenIn]; done) | decide +kernel
set_option maxRecDepth 65536 in
set_option maxHeartbeats 40000000 in
theorem rm4 (l : Launch) (Z : State) (a0 : Array Value) (hw : ∀ d ∈ tables_1, d.before a0 Z = true) (a : Addr) (q : Int64) (z : Int32) (h0 : Heap) (n0 : Nat) (Z0 : n0 ≤ h0.size) (FL : Fld Z h0 a "com/example/manana/manana/wire/MessageHead$Framing" "length" "J" (.long q)) (FC : Fld Z h0 a "com/example/manana/manana/wire/MessageHead$Framing" "chunked" "Z" (.int z)) :
    Con l (⟨"com/example/manana/manana/wire/MessageHead$Framing", "undelimited", "()Z"⟩ : MethodName) prog_94_method_3_code 1 (some .boolean) ({ frames := 0, cells := 0, slots := 0, locals := 0 } : Room) Z #[(.ref a)] h0 (fun v h L => v = some (.int (own_und q z)) ∧ Fr n0 L ∧ h = h0) := by
  refine Con.mk (plainFor_of_name pn_4) (fun m => show entryFrame m #[(.ref a)] 1 = mkF m 0 #[.val (.ref a)] [] by first | (simp [entryFrame, mkF, argsToLocals, Value.category]; done) | rfl) ?_
  intro p e s m below meth c s₁ hx hby hml hown hnm hret hlk hZ X0 e0
  have N0 := Fr.nil n0
  show Run p e below s _ _ _ (s₁.setTop (mkF m 0 #[.val (.ref a)] []))
  refine Run.pre (fun _ k => XS.aloadN X0.here hx rfl (hb hby d4_0) rfl rfl k) ?_
  show Run p e below s _ _ _ (s₁.setTop (mkF m 1 #[.val (.ref a)] [(.ref a)]))
  obtain ⟨T8, X8, e8, st8⟩ := getF X0 hx hZ hown (host := "") (Or.inl (hw _ (List.mem_of_getElem? (i := 14) rfl))) Via.refl e0 FL (g := (mkF m 1 #[.val (.ref a)] [(.ref a)])) rfl rfl (hb hby d4_1)
  refine Run.pre st8 ?_
  show Run p e below s _ _ _ (T8.setTop (mkF m 4 #[.val (.ref a)] [(.long q)]))
  refine Run.pre (fun _ k => XS.lconst X8.here hx rfl (hb hby d4_4) k) ?_
  show Run p e below s _ _ _ (T8.setTop (mkF m 5 #[.val (.ref a)] [(.long (0 : Int64)), (.long q)]))
  refine Run.pre (fun _ k => XS.lcmp X8.here hx rfl (hb hby d4_5) rfl k) ?_
  show Run p e below s _ _ _ (T8.setTop (mkF m 6 #[.val (.ref a)] [(.int (lcmpW q (0 : Int64)))]))
  by_cases hc9 : (lcmpW q (0 : Int64)) < (0 : Int32)
  · skip
    refine Run.pre (fun _ k => XS.ifNo X8.here hx rfl (hb hby d4_6) rfl ((if0 _ _).trans (tlt (hc9 : (lcmpW q (0 : Int64)) < (0 : Int32))).2.1) k) ?_
    show Run p e below s _ _ _ (T8.setTop (mkF m 9 #[.val (.ref a)] []))
    refine Run.pre (fun _ k => XS.aloadN X8.here hx rfl (hb hby d4_9) rfl rfl k) ?_
    show Run p e below s _ _ _ (T8.setTop (mkF m 10 #[.val (.ref a)] [(.ref a)]))
    obtain ⟨T10, X10, e10, st10⟩ := getF X8 hx hZ hown (host := "") (Or.inl (hw _ (List.mem_of_getElem? (i := 16) rfl))) Via.refl e8 FC (g := (mkF m 10 #[.val (.ref a)] [(.ref a)])) rfl rfl (hb hby d4_10)
    refine Run.pre st10 ?_
    show Run p e below s _ _ _ (T10.setTop (mkF m 13 #[.val (.ref a)] [(.int z)]))
    by_cases hc11 : z = (0 : Int32)
    · skip
      refine Run.pre (fun _ k => XS.ifNo X10.here hx rfl (hb hby d4_13) rfl ((if0 _ _).trans (teq (hc11 : z = (0 : Int32))).2) k) ?_
      show Run p e below s _ _ _ (T10.setTop (mkF m 16 #[.val (.ref a)] []))
      refine Run.pre (fun _ k => XS.iconst X10.here hx rfl (hb hby d4_16) k) ?_
      show Run p e below s _ _ _ (T10.setTop (mkF m 17 #[.val (.ref a)] [(.int (1 : Int32))]))
      refine Run.pre (fun _ k => XS.goto X10.here hx rfl (pc0 := 17) (pc' := 21) rfl (hb hby d4_17) (by decide) (by decide) k) ?_
      show Run p e below s _ _ _ (T10.setTop (mkF m 21 #[.val (.ref a)] [(.int (1 : Int32))]))
      exact Run.retN X10 hx hret (t := .boolean) (by simp) hlk (hb hby d4_21) (by first | (rw [e10]; exact ⟨by simp [own_und, nar, hc9, hc11], N0, rfl⟩) | exact ⟨by simp [own_und, nar, hc9, hc11], N0, rfl⟩) (by decide) (by decide)
    · skip
      refine Run.pre (fun _ k => XS.ifYes X10.here hx rfl (pc0 := 13) (pc' := 20) rfl (hb hby d4_13) rfl ((if0 _ _).trans (feq (hc11 : ¬ (z = (0 : Int32)))).2) (by decide) (by decide) k) ?_
      show Run p e below s _ _ _ (T10.setTop (mkF m 20 #[.val (.ref a)] []))
      refine Run.pre (fun _ k => XS.iconst X10.here hx rfl (hb hby d4_20) k) ?_
      show Run p e below s _ _ _ (T10.setTop (mkF m 21 #[.val (.ref a)] [(.int (0 : Int32))]))
      exact Run.retN X10 hx hret (t := .boolean) (by simp) hlk (hb hby d4_21) (by first | (rw [e10]; exact ⟨by simp [own_und, nar, hc9, hc11], N0, rfl⟩) | exact ⟨by simp [own_und, nar, hc9, hc11], N0, rfl⟩) (by decide) (by decide)
  · skip
    refine Run.pre (fun _ k => XS.ifYes X8.here hx rfl (pc0 := 6) (pc' := 20) rfl (hb hby d4_6) rfl ((if0 _ _).trans (flt (hc9 : ¬ ((lcmpW q (0 : Int64)) < (0 : Int32)))).2.1) (by decide) (by decide) k) ?_
    show Run p e below s _ _ _ (T8.setTop (mkF m 20 #[.val (.ref a)] []))
    refine Run.pre (fun _ k => XS.iconst X8.here hx rfl (hb hby d4_20) k) ?_
    show Run p e below s _ _ _ (T8.setTop (mkF m 21 #[.val (.ref a)] [(.int (0 : Int32))]))
    exact Run.retN X8 hx hret (t := .boolean) (by simp) hlk (hb hby d4_21) (by first | (rw [e8]; exact ⟨by simp [own_und, nar, hc9], N0, rfl⟩) | exact ⟨by simp [own_und, nar, hc9], N0, rfl⟩) (by decide) (by decide)
theorem d5_0 : decode prog_94_method_2_code 0 = .ok (.new 8, 3) := by decide +kernel
theorem d5_3 : decode prog_94_method_2_code 3 = .ok (.dup, 1) := by decide +kernel
theorem d5_4 : decode prog_94_method_2_code 4 = .ok (.lload_n 0, 1) := by decide +kernel
theorem d5_5 : decode prog_94_method_2_code 5 = .ok (.iconst 0, 1) := by decide +kernel
theorem pd_1 : parseMethodDescriptor "(JZ)V" = some ⟨[.long, .boolean], none⟩ := by decide +kernel
theorem d5_6 : decode prog_94_method_2_code 6 = .ok (.invokespecial 17, 3) := by decide +kernel
theorem d5_9 : decode prog_94_method_2_code 9 = .ok (.areturn, 1) := by decide +kernel
theorem pn_5 : plainName "com/example/manana/manana/wire/MessageHead$Framing" = true := by first | (simp [plainName, overriddenIn]; done) | decide +kernel
set_option maxRecDepth 65536 in
set_option maxHeartbeats 40000000 in
theorem rm5 (l : Launch) (Z : State) (a0 : Array Value) (hw : ∀ d ∈ tables_1, d.before a0 Z = true) (q : Int64) (h0 : Heap) (n0 : Nat) (Z0 : n0 ≤ h0.size) :
    Con l (⟨"com/example/manana/manana/wire/MessageHead$Framing", "length", "(J)Lcom/example/manana/manana/wire/MessageHead$Framing;"⟩ : MethodName) prog_94_method_2_code 2 (some (.object "com/example/manana/manana/wire/MessageHead$Framing")) ({ frames := 3, cells := 1, slots := 2, locals := 40 } : Room) Z #[(.long q)] h0 (fun v h L => ∃ b : Addr, v = some (.ref b) ∧ Fr n0 L ∧ Keep h0 h [] ∧ h0.size ≤ b ∧ Exa Z h b "com/example/manana/manana/wire/MessageHead$Framing" ∧ Fld Z h b "com/example/manana/manana/wire/MessageHead$Framing" "length" "J" (.long q) ∧ Fld Z h b "com/example/manana/manana/wire/MessageHead$Framing" "chunked" "Z" (.int (nar .boolean 0))) := by
  refine Con.mk (plainFor_of_name pn_5) (fun m => show entryFrame m #[(.long q)] 2 = mkF m 0 #[.val (.long q), .second] [] by first | (simp [entryFrame, mkF, argsToLocals, Value.category]; done) | rfl) ?_
  intro p e s m below meth c s₁ hx hby hml hown hnm hret hlk hZ X0 e0
  have N0 := Fr.nil n0
  show Run p e below s _ _ _ (s₁.setTop (mkF m 0 #[.val (.long q), .second] []))
  obtain ⟨T12, h12, X12, e12, E12, A12, D12, -, st12⟩ := newO X0 hx hZ hown (hw _ (List.mem_of_getElem? (i := 31) rfl)) (hw _ (List.mem_of_getElem? (i := 1) rfl)) (hw _ (List.mem_of_getElem? (i := 2) rfl)) e0 (g := (mkF m 0 #[.val (.long q), .second] [])) rfl (hb hby d5_0) (by decide) (by decide)
  obtain ⟨b12, g12⟩ : ∃ z, z = h0.size := ⟨_, rfl⟩
  rw [← g12] at A12 D12 st12
  refine Run.pre st12 ?_
  have gn_b12 : n0 ≤ b12 := Nat.le_trans (Nat.le_trans Z0 (Keep.refl h0 []).1) (Nat.le_of_eq g12.symm)
  have sz_b12 : h0.size ≤ b12 := Nat.le_trans (Keep.refl h0 []).1 (Nat.le_of_eq g12.symm)
  have K12 : Keep h0 h12 [] := (Keep.refl h0 []).ext E12
  have F_length_b12 : Fld Z h12 b12 "com/example/manana/manana/wire/MessageHead$Framing" "length" "J" (.long (0 : Int64)) := D12 (Or.inr (hw _ (List.mem_of_getElem? (i := 15) rfl))) (ty := .long) (by decide)
  have F_chunked_b12 : Fld Z h12 b12 "com/example/manana/manana/wire/MessageHead$Framing" "chunked" "Z" (.int (0 : Int32)) := D12 (Or.inr (hw _ (List.mem_of_getElem? (i := 17) rfl))) (ty := .boolean) (by decide)
  show Run p e below s _ _ _ (T12.setTop (mkF m 3 #[.val (.long q), .second] [(.ref b12)]))
  refine Run.pre (fun _ k => XS.dup X12.here hx rfl (hb hby d5_3) rfl rfl k) ?_
  show Run p e below s _ _ _ (T12.setTop (mkF m 4 #[.val (.long q), .second] [(.ref b12), (.ref b12)]))
  refine Run.pre (fun _ k => XS.lloadN X12.here hx rfl (hb hby d5_4) rfl  k) ?_
  show Run p e below s _ _ _ (T12.setTop (mkF m 5 #[.val (.long q), .second] [(.long q), (.ref b12), (.ref b12)]))
  refine Run.pre (fun _ k => XS.iconst X12.here hx rfl (hb hby d5_5) k) ?_
  show Run p e below s _ _ _ (T12.setTop (mkF m 6 #[.val (.long q), .second] [(.int (0 : Int32)), (.long q), (.ref b12), (.ref b12)]))
  refine Run.callI X12 hx hZ (y := (⟨"com/example/manana/manana/wire/MessageHead$Framing", "<init>", "(JZ)V"⟩ : MethodName)) rfl hown (hw _ (List.mem_of_getElem? (i := 32) rfl)) (hw _ (List.mem_of_getElem? (i := 4) rfl)) (hw _ (List.mem_of_getElem? (i := 5) rfl)) (hw _ (List.mem_of_getElem? (i := 2) rfl)) (by decide) (a := b12) (W := 1) (rm1 l Z a0 hw b12 q (0 : Int32) h12 n0 (Nat.le_trans Z0 K12.1) A12 F_length_b12 F_chunked_b12 gn_b12) e12 (by decide) (by decide) (by decide) (by decide) (g := (mkF m 6 #[.val (.long q), .second] [(.int (0 : Int32)), (.long q), (.ref b12), (.ref b12)])) rfl (by rw [hml]; rfl) (argsL := [(.long q), (.int (0 : Int32))]) (rest := [(.ref b12)]) (lenOf pd_1 rfl) rfl (by show 2 * 0 + _ ≤ _; exact Nat.le_of_eq rfl) (hb hby d5_6) ?_
  intro v13 T13 L13 X13 hQ13
  obtain ⟨rfl, Nq13, Kc13, fL13, fC13⟩ := hQ13
  have N13 := Fr.app N0 Nq13
  have K13 : Keep h0 T13.heap [] := K12.trans Kc13 (allS (Or.inr sz_b12) all0)
  show Run p e below s _ _ _ (T13.setTop (mkF m 9 #[.val (.long q), .second] [(.ref b12)]))
  have f14 := (A12.keep Kc13)
  exact Run.retA X13 hx hret rfl rfl hlk (hb hby d5_9) ⟨b12, rfl, N13, K13, sz_b12, f14, fL13, fC13⟩ (by decide) (by decide)
theorem pd_2 : parseMethodDescriptor "()Z" = some ⟨[], some .boolean⟩ := by decide +kernel
theorem pd_3 : parseMethodDescriptor "(J)Lcom/example/manana/manana/wire/MessageHead$Framing;" = some ⟨[.long], some (.object "com/example/manana/manana/wire/MessageHead$Framing")⟩ := by decide +kernel
theorem pn_0 : plainName "com/example/manana/manana/wire/FramingUndelimitedPinLaw" = true := by first | (simp [plainName, overriddenIn]; done) | decide +kernel
set_option maxRecDepth 65536 in
set_option maxHeartbeats 40000000 in
theorem rm0 (l : Launch) (Z : State) (a0 : Array Value) (hw : ∀ d ∈ tables_1, d.before a0 Z = true) (q : Int64) (z : Int32) (w0 : Addr) (w1 : Addr) (h0 : Heap) (n0 : Nat) (Z0 : n0 ≤ h0.size) (OL : Old Z n0 h0) (S0 : Sta Z Z.heap "com/example/manana/manana/wire/MessageHead$Framing" "NONE" "Lcom/example/manana/manana/wire/MessageHead$Framing;" (.ref w0)) (E0 : Exa Z Z.heap w0 "com/example/manana/manana/wire/MessageHead$Framing") (FL0 : Fld Z Z.heap w0 "com/example/manana/manana/wire/MessageHead$Framing" "length" "J" (.long (-1))) (FC0 : Fld Z Z.heap w0 "com/example/manana/manana/wire/MessageHead$Framing" "chunked" "Z" (.int 0)) (S1 : Sta Z Z.heap "com/example/manana/manana/wire/MessageHead$Framing" "CHUNKED" "Lcom/example/manana/manana/wire/MessageHead$Framing;" (.ref w1)) (E1 : Exa Z Z.heap w1 "com/example/manana/manana/wire/MessageHead$Framing") (FL1 : Fld Z Z.heap w1 "com/example/manana/manana/wire/MessageHead$Framing" "length" "J" (.long (-1))) (FC1 : Fld Z Z.heap w1 "com/example/manana/manana/wire/MessageHead$Framing" "chunked" "Z" (.int 1)) :
    Con l x code maxLocals ret room_1 Z #[(.long q), (.int z)] h0 (fun v h L => v = some (.int 1) ∧ Fr n0 L) := by
  refine Con.mk (plainFor_of_name pn_0) (fun m => show entryFrame m #[(.long q), (.int z)] maxLocals = mkF m 0 #[.val (.long q), .second, .val (.int z), .unset, .unset, .unset, .unset, .unset] [] by first | (simp [entryFrame, mkF, argsToLocals, Value.category, maxLocals]; done) | rfl) ?_
  intro p e s m below meth c s₁ hx hby hml hown hnm hret hlk hZ X0 e0
  have hml : c.maxLocals = 8 := hml
  have N0 := Fr.nil n0
  show Run p e below s _ _ _ (s₁.setTop (mkF m 0 #[.val (.long q), .second, .val (.int z), .unset, .unset, .unset, .unset, .unset] []))
  refine Run.pre (fun _ k => XS.iloadN X0.here hx rfl (hb hby at_0) rfl  k) ?_
  show Run p e below s _ _ _ (s₁.setTop (mkF m 1 #[.val (.long q), .second, .val (.int z), .unset, .unset, .unset, .unset, .unset] [(.int z)]))
  refine Run.pre (fun _ k => XS.iconst X0.here hx rfl (hb hby at_1) k) ?_
  show Run p e below s _ _ _ (s₁.setTop (mkF m 2 #[.val (.long q), .second, .val (.int z), .unset, .unset, .unset, .unset, .unset] [(.int (1 : Int32)), (.int z)]))
  refine Run.pre (fun _ k => XS.iand X0.here hx rfl (hb hby at_2) rfl k) ?_
  show Run p e below s _ _ _ (s₁.setTop (mkF m 3 #[.val (.long q), .second, .val (.int z), .unset, .unset, .unset, .unset, .unset] [(.int (z &&& (1 : Int32)))]))
  by_cases hc15 : (z &&& (1 : Int32)) = (0 : Int32)
  · skip
    refine Run.pre (fun _ k => XS.ifYes X0.here hx rfl (pc0 := 3) (pc' := 10) rfl (hb hby at_3) rfl ((if0 _ _).trans (teq (hc15 : (z &&& (1 : Int32)) = (0 : Int32))).1) (by decide) (by decide) k) ?_
    show Run p e below s _ _ _ (s₁.setTop (mkF m 10 #[.val (.long q), .second, .val (.int z), .unset, .unset, .unset, .unset, .unset] []))
    refine Run.pre (fun _ k => XS.iconst X0.here hx rfl (hb hby at_10) k) ?_
    show Run p e below s _ _ _ (s₁.setTop (mkF m 11 #[.val (.long q), .second, .val (.int z), .unset, .unset, .unset, .unset, .unset] [(.int (0 : Int32))]))
    refine Run.pre (fun _ k => XS.istoreN X0.here hx rfl (hb hby at_11) rfl (l' := #[.val (.long q), .second, .val (.int z), .val (.int (0 : Int32)), .unset, .unset, .unset, .unset]) rfl k) ?_
    show Run p e below s _ _ _ (s₁.setTop (mkF m 12 #[.val (.long q), .second, .val (.int z), .val (.int (0 : Int32)), .unset, .unset, .unset, .unset] []))
    obtain ⟨T16, h16, X16, e16, E16, A16, D16, -, st16⟩ := newO X0 hx hZ hown (hw _ (List.mem_of_getElem? (i := 0) rfl)) (hw _ (List.mem_of_getElem? (i := 1) rfl)) (hw _ (List.mem_of_getElem? (i := 2) rfl)) e0 (g := (mkF m 12 #[.val (.long q), .second, .val (.int z), .val (.int (0 : Int32)), .unset, .unset, .unset, .unset] [])) rfl (hb hby at_12) (by decide) (by decide)
    obtain ⟨b16, g16⟩ : ∃ z, z = h0.size := ⟨_, rfl⟩
    rw [← g16] at A16 D16 st16
    refine Run.pre st16 ?_
    have gn_b16 : n0 ≤ b16 := Nat.le_trans (Nat.le_trans Z0 (Keep.refl h0 []).1) (Nat.le_of_eq g16.symm)
    have sz_b16 : h0.size ≤ b16 := Nat.le_trans (Keep.refl h0 []).1 (Nat.le_of_eq g16.symm)
    have K16 : Keep h0 h16 [] := (Keep.refl h0 []).ext E16
    have F_length_b16 : Fld Z h16 b16 "com/example/manana/manana/wire/MessageHead$Framing" "length" "J" (.long (0 : Int64)) := D16 (Or.inr (hw _ (List.mem_of_getElem? (i := 15) rfl))) (ty := .long) (by decide)
    have F_chunked_b16 : Fld Z h16 b16 "com/example/manana/manana/wire/MessageHead$Framing" "chunked" "Z" (.int (0 : Int32)) := D16 (Or.inr (hw _ (List.mem_of_getElem? (i := 17) rfl))) (ty := .boolean) (by decide)
    show Run p e below s _ _ _ (T16.setTop (mkF m 15 #[.val (.long q), .second, .val (.int z), .val (.int (0 : Int32)), .unset, .unset, .unset, .unset] [(.ref b16)]))
    refine Run.pre (fun _ k => XS.dup X16.here hx rfl (hb hby at_15) rfl rfl k) ?_
    show Run p e below s _ _ _ (T16.setTop (mkF m 16 #[.val (.long q), .second, .val (.int z), .val (.int (0 : Int32)), .unset, .unset, .unset, .unset] [(.ref b16), (.ref b16)]))
    refine Run.pre (fun _ k => XS.lloadN X16.here hx rfl (hb hby at_16) rfl  k) ?_
    show Run p e below s _ _ _ (T16.setTop (mkF m 17 #[.val (.long q), .second, .val (.int z), .val (.int (0 : Int32)), .unset, .unset, .unset, .unset] [(.long q), (.ref b16), (.ref b16)]))
    refine Run.pre (fun _ k => XS.iloadN X16.here hx rfl (hb hby at_17) rfl  k) ?_
    show Run p e below s _ _ _ (T16.setTop (mkF m 18 #[.val (.long q), .second, .val (.int z), .val (.int (0 : Int32)), .unset, .unset, .unset, .unset] [(.int (0 : Int32)), (.long q), (.ref b16), (.ref b16)]))
    refine Run.callI X16 hx hZ (y := (⟨"com/example/manana/manana/wire/MessageHead$Framing", "<init>", "(JZ)V"⟩ : MethodName)) rfl hown (hw _ (List.mem_of_getElem? (i := 3) rfl)) (hw _ (List.mem_of_getElem? (i := 4) rfl)) (hw _ (List.mem_of_getElem? (i := 5) rfl)) (hw _ (List.mem_of_getElem? (i := 2) rfl)) (by decide) (a := b16) (W := 1) (rm1 l Z a0 hw b16 q (0 : Int32) h16 n0 (Nat.le_trans Z0 K16.1) A16 F_length_b16 F_chunked_b16 gn_b16) e16 (by decide) (by decide) (by decide) (by decide) (g := (mkF m 18 #[.val (.long q), .second, .val (.int z), .val (.int (0 : Int32)), .unset, .unset, .unset, .unset] [(.int (0 : Int32)), (.long q), (.ref b16), (.ref b16)])) rfl (by rw [hml]; rfl) (argsL := [(.long q), (.int (0 : Int32))]) (rest := [(.ref b16)]) (lenOf pd_1 rfl) rfl (by show 2 * 0 + _ ≤ _; exact Nat.le_of_eq rfl) (hb hby at_18) ?_
    intro v17 T17 L17 X17 hQ17
    obtain ⟨rfl, Nq17, Kc17, fL17, fC17⟩ := hQ17
    have N17 := Fr.app N0 Nq17
    have K17 : Keep h0 T17.heap [] := K16.trans Kc17 (allS (Or.inr sz_b16) all0)
    show Run p e below s _ _ _ (T17.setTop (mkF m 21 #[.val (.long q), .second, .val (.int z), .val (.int (0 : Int32)), .unset, .unset, .unset, .unset] [(.ref b16)]))
    refine Run.pre (fun _ k => XS.astore X17.here hx rfl (hb hby at_21) rfl rfl (l' := #[.val (.long q), .second, .val (.int z), .val (.int (0 : Int32)), .val (.ref b16), .unset, .unset, .unset]) rfl k) ?_
    show Run p e below s _ _ _ (T17.setTop (mkF m 23 #[.val (.long q), .second, .val (.int z), .val (.int (0 : Int32)), .val (.ref b16), .unset, .unset, .unset] []))
    refine Run.pre (fun _ k => XS.iloadN X17.here hx rfl (hb hby at_23) rfl  k) ?_
    show Run p e below s _ _ _ (T17.setTop (mkF m 24 #[.val (.long q), .second, .val (.int z), .val (.int (0 : Int32)), .val (.ref b16), .unset, .unset, .unset] [(.int (0 : Int32))]))
    refine Run.pre (fun _ k => XS.ifYes X17.here hx rfl (pc0 := 24) (pc' := 33) rfl (hb hby at_24) rfl ((if0 _ _).trans (teq ((by decide) : (0 : Int32) = (0 : Int32))).1) (by decide) (by decide) k) ?_
    show Run p e below s _ _ _ (T17.setTop (mkF m 33 #[.val (.long q), .second, .val (.int z), .val (.int (0 : Int32)), .val (.ref b16), .unset, .unset, .unset] []))
    refine Run.pre (fun _ k => XS.lloadN X17.here hx rfl (hb hby at_33) rfl  k) ?_
    show Run p e below s _ _ _ (T17.setTop (mkF m 34 #[.val (.long q), .second, .val (.int z), .val (.int (0 : Int32)), .val (.ref b16), .unset, .unset, .unset] [(.long q)]))
    refine Run.pre (fun _ k => XS.lconst X17.here hx rfl (hb hby at_34) k) ?_
    show Run p e below s _ _ _ (T17.setTop (mkF m 35 #[.val (.long q), .second, .val (.int z), .val (.int (0 : Int32)), .val (.ref b16), .unset, .unset, .unset] [(.long (0 : Int64)), (.long q)]))
    refine Run.pre (fun _ k => XS.lcmp X17.here hx rfl (hb hby at_35) rfl k) ?_
    show Run p e below s _ _ _ (T17.setTop (mkF m 36 #[.val (.long q), .second, .val (.int z), .val (.int (0 : Int32)), .val (.ref b16), .unset, .unset, .unset] [(.int (lcmpW q (0 : Int64)))]))
    by_cases hc18 : (lcmpW q (0 : Int64)) < (0 : Int32)
    · skip
      refine Run.pre (fun _ k => XS.ifYes X17.here hx rfl (pc0 := 36) (pc' := 45) rfl (hb hby at_36) rfl ((if0 _ _).trans (tlt (hc18 : (lcmpW q (0 : Int64)) < (0 : Int32))).1) (by decide) (by decide) k) ?_
      show Run p e below s _ _ _ (T17.setTop (mkF m 45 #[.val (.long q), .second, .val (.int z), .val (.int (0 : Int32)), .val (.ref b16), .unset, .unset, .unset] []))
      refine Run.pre (fun _ k => XS.iconst X17.here hx rfl (hb hby at_45) k) ?_
      show Run p e below s _ _ _ (T17.setTop (mkF m 46 #[.val (.long q), .second, .val (.int z), .val (.int (0 : Int32)), .val (.ref b16), .unset, .unset, .unset] [(.int (1 : Int32))]))
      refine Run.pre (fun _ k => XS.istore X17.here hx rfl (hb hby at_46) rfl (l' := #[.val (.long q), .second, .val (.int z), .val (.int (0 : Int32)), .val (.ref b16), .val (.int (1 : Int32)), .unset, .unset]) rfl k) ?_
      show Run p e below s _ _ _ (T17.setTop (mkF m 48 #[.val (.long q), .second, .val (.int z), .val (.int (0 : Int32)), .val (.ref b16), .val (.int (1 : Int32)), .unset, .unset] []))
      refine Run.pre (fun _ k => XS.lloadN X17.here hx rfl (hb hby at_48) rfl  k) ?_
      show Run p e below s _ _ _ (T17.setTop (mkF m 49 #[.val (.long q), .second, .val (.int z), .val (.int (0 : Int32)), .val (.ref b16), .val (.int (1 : Int32)), .unset, .unset] [(.long q)]))
      refine Run.pre (X17.ldc2Long hx hown (mvT hZ (hw _ (List.mem_of_getElem? (i := 18) rfl))) (g := (mkF m 49 #[.val (.long q), .second, .val (.int z), .val (.int (0 : Int32)), .val (.ref b16), .val (.int (1 : Int32)), .unset, .unset] [(.long q)])) rfl (hb hby at_49)) ?_
      show Run p e below s _ _ _ (T17.setTop (mkF m 52 #[.val (.long q), .second, .val (.int z), .val (.int (0 : Int32)), .val (.ref b16), .val (.int (1 : Int32)), .unset, .unset] [(.long (9223372036854775807 : Int64)), (.long q)]))
      refine Run.pre (fun _ k => XS.land X17.here hx rfl (hb hby at_52) rfl k) ?_
      show Run p e below s _ _ _ (T17.setTop (mkF m 53 #[.val (.long q), .second, .val (.int z), .val (.int (0 : Int32)), .val (.ref b16), .val (.int (1 : Int32)), .unset, .unset] [(.long (q &&& (9223372036854775807 : Int64)))]))
      refine Run.pre (fun _ k => XS.lstore X17.here hx rfl (hb hby at_53) rfl (l' := #[.val (.long q), .second, .val (.int z), .val (.int (0 : Int32)), .val (.ref b16), .val (.int (1 : Int32)), .val (.long (q &&& (9223372036854775807 : Int64))), .second]) rfl k) ?_
      show Run p e below s _ _ _ (T17.setTop (mkF m 55 #[.val (.long q), .second, .val (.int z), .val (.int (0 : Int32)), .val (.ref b16), .val (.int (1 : Int32)), .val (.long (q &&& (9223372036854775807 : Int64))), .second] []))
      refine Run.pre (fun _ k => XS.aload X17.here hx rfl (hb hby at_55) rfl rfl k) ?_
      show Run p e below s _ _ _ (T17.setTop (mkF m 57 #[.val (.long q), .second, .val (.int z), .val (.int (0 : Int32)), .val (.ref b16), .val (.int (1 : Int32)), .val (.long (q &&& (9223372036854775807 : Int64))), .second] [(.ref b16)]))
      have f20 := (A16.keep Kc17)
      refine Run.callV X17 hx hZ (y := (⟨"com/example/manana/manana/wire/MessageHead$Framing", "undelimited", "()Z"⟩ : MethodName)) (z := (⟨"com/example/manana/manana/wire/MessageHead$Framing", "undelimited", "()Z"⟩ : MethodName)) hown (hw _ (List.mem_of_getElem? (i := 19) rfl)) (hw _ (List.mem_of_getElem? (i := 20) rfl)) (notFace_of_selects (args := #[]) (mvT hZ (hw _ (List.mem_of_getElem? (i := 22) rfl)))) (hw _ (List.mem_of_getElem? (i := 22) rfl)) (hw _ (List.mem_of_getElem? (i := 21) rfl)) (hw _ (List.mem_of_getElem? (i := 23) rfl)) (hw _ (List.mem_of_getElem? (i := 2) rfl)) (by decide) (b := b16) f20 (W := 0) (rm4 l Z a0 hw b16 q (nar .boolean (0 : Int32)) T17.heap n0 (Nat.le_trans Z0 K17.1) fL17 fC17) rfl (by decide) (by decide) (by decide) (by decide) (g := (mkF m 57 #[.val (.long q), .second, .val (.int z), .val (.int (0 : Int32)), .val (.ref b16), .val (.int (1 : Int32)), .val (.long (q &&& (9223372036854775807 : Int64))), .second] [(.ref b16)])) rfl (by rw [hml]; rfl) (argsL := []) (rest := []) (lenOf pd_2 rfl) rfl (by show 2 * 0 + _ ≤ _; exact Nat.le_of_eq rfl) (hb hby at_57) ?_
      intro v19 T19 L19 X19 hQ19
      obtain ⟨rfl, Nq19, he19⟩ := hQ19
      have N19 := Fr.app N17 Nq19
      have e19 : T19.heap = T17.heap := he19
      show Run p e below s _ _ _ (T19.setTop (mkF m 60 #[.val (.long q), .second, .val (.int z), .val (.int (0 : Int32)), .val (.ref b16), .val (.int (1 : Int32)), .val (.long (q &&& (9223372036854775807 : Int64))), .second] [(.int (own_und q (nar .boolean (0 : Int32))))]))
      refine Run.pre (fun _ k => XS.iload X19.here hx rfl (hb hby at_60) rfl  k) ?_
      show Run p e below s _ _ _ (T19.setTop (mkF m 62 #[.val (.long q), .second, .val (.int z), .val (.int (0 : Int32)), .val (.ref b16), .val (.int (1 : Int32)), .val (.long (q &&& (9223372036854775807 : Int64))), .second] [(.int (1 : Int32)), (.int (own_und q (nar .boolean (0 : Int32))))]))
      refine Run.pre (fun _ k => XS.icmpNo X19.here hx rfl (hb hby at_62) rfl (teq ((by simp [own_und, nar, hc15, hc18]) : (own_und q (nar .boolean (0 : Int32))) = (1 : Int32))).2 k) ?_
      show Run p e below s _ _ _ (T19.setTop (mkF m 65 #[.val (.long q), .second, .val (.int z), .val (.int (0 : Int32)), .val (.ref b16), .val (.int (1 : Int32)), .val (.long (q &&& (9223372036854775807 : Int64))), .second] []))
      have f21 := ((OL.ext E16).keep Kc17 (allS gn_b16 all0))
      obtain ⟨T22, X22, e22, st22⟩ := getS2 X19 hx hZ hown (host := "") (Or.inl (hw _ (List.mem_of_getElem? (i := 24) rfl))) Via.refl e19 (S0.ext f21.2) (g := (mkF m 65 #[.val (.long q), .second, .val (.int z), .val (.int (0 : Int32)), .val (.ref b16), .val (.int (1 : Int32)), .val (.long (q &&& (9223372036854775807 : Int64))), .second] [])) rfl (hb hby at_65)
      refine Run.pre st22 ?_
      show Run p e below s _ _ _ (T22.setTop (mkF m 68 #[.val (.long q), .second, .val (.int z), .val (.int (0 : Int32)), .val (.ref b16), .val (.int (1 : Int32)), .val (.long (q &&& (9223372036854775807 : Int64))), .second] [(.ref w0)]))
      refine Run.callV X22 hx hZ (y := (⟨"com/example/manana/manana/wire/MessageHead$Framing", "undelimited", "()Z"⟩ : MethodName)) (z := (⟨"com/example/manana/manana/wire/MessageHead$Framing", "undelimited", "()Z"⟩ : MethodName)) hown (hw _ (List.mem_of_getElem? (i := 19) rfl)) (hw _ (List.mem_of_getElem? (i := 20) rfl)) (notFace_of_selects (args := #[]) (mvT hZ (hw _ (List.mem_of_getElem? (i := 22) rfl)))) (hw _ (List.mem_of_getElem? (i := 22) rfl)) (hw _ (List.mem_of_getElem? (i := 21) rfl)) (hw _ (List.mem_of_getElem? (i := 23) rfl)) (hw _ (List.mem_of_getElem? (i := 2) rfl)) (by decide) (b := w0) (E0.ext f21.2) (W := 0) (rm4 l Z a0 hw w0 (-1 : Int64) (0 : Int32) T17.heap n0 (Nat.le_trans Z0 K17.1) (FL0.ext f21.2) (FC0.ext f21.2)) e22 (by decide) (by decide) (by decide) (by decide) (g := (mkF m 68 #[.val (.long q), .second, .val (.int z), .val (.int (0 : Int32)), .val (.ref b16), .val (.int (1 : Int32)), .val (.long (q &&& (9223372036854775807 : Int64))), .second] [(.ref w0)])) rfl (by rw [hml]; rfl) (argsL := []) (rest := []) (lenOf pd_2 rfl) rfl (by show 2 * 0 + _ ≤ _; exact Nat.le_of_eq rfl) (hb hby at_68) ?_
      intro v23 T23 L23 X23 hQ23
      obtain ⟨rfl, Nq23, he23⟩ := hQ23
      have N23 := Fr.app N19 Nq23
      have e23 : T23.heap = T17.heap := he23
      show Run p e below s _ _ _ (T23.setTop (mkF m 71 #[.val (.long q), .second, .val (.int z), .val (.int (0 : Int32)), .val (.ref b16), .val (.int (1 : Int32)), .val (.long (q &&& (9223372036854775807 : Int64))), .second] [(.int (own_und (-1 : Int64) (0 : Int32)))]))
      refine Run.pre (fun _ k => XS.ifNo X23.here hx rfl (hb hby at_71) rfl ((if0 _ _).trans (feq ((by decide) : ¬ ((own_und (-1 : Int64) (0 : Int32)) = (0 : Int32)))).1) k) ?_
      show Run p e below s _ _ _ (T23.setTop (mkF m 74 #[.val (.long q), .second, .val (.int z), .val (.int (0 : Int32)), .val (.ref b16), .val (.int (1 : Int32)), .val (.long (q &&& (9223372036854775807 : Int64))), .second] []))
      obtain ⟨T24, X24, e24, st24⟩ := getS2 X23 hx hZ hown (host := "") (Or.inl (hw _ (List.mem_of_getElem? (i := 26) rfl))) Via.refl e23 (S1.ext f21.2) (g := (mkF m 74 #[.val (.long q), .second, .val (.int z), .val (.int (0 : Int32)), .val (.ref b16), .val (.int (1 : Int32)), .val (.long (q &&& (9223372036854775807 : Int64))), .second] [])) rfl (hb hby at_74)
      refine Run.pre st24 ?_
      show Run p e below s _ _ _ (T24.setTop (mkF m 77 #[.val (.long q), .second, .val (.int z), .val (.int (0 : Int32)), .val (.ref b16), .val (.int (1 : Int32)), .val (.long (q &&& (9223372036854775807 : Int64))), .second] [(.ref w1)]))
      refine Run.callV X24 hx hZ (y := (⟨"com/example/manana/manana/wire/MessageHead$Framing", "undelimited", "()Z"⟩ : MethodName)) (z := (⟨"com/example/manana/manana/wire/MessageHead$Framing", "undelimited", "()Z"⟩ : MethodName)) hown (hw _ (List.mem_of_getElem? (i := 19) rfl)) (hw _ (List.mem_of_getElem? (i := 20) rfl)) (notFace_of_selects (args := #[]) (mvT hZ (hw _ (List.mem_of_getElem? (i := 22) rfl)))) (hw _ (List.mem_of_getElem? (i := 22) rfl)) (hw _ (List.mem_of_getElem? (i := 21) rfl)) (hw _ (List.mem_of_getElem? (i := 23) rfl)) (hw _ (List.mem_of_getElem? (i := 2) rfl)) (by decide) (b := w1) (E1.ext f21.2) (W := 0) (rm4 l Z a0 hw w1 (-1 : Int64) (1 : Int32) T17.heap n0 (Nat.le_trans Z0 K17.1) (FL1.ext f21.2) (FC1.ext f21.2)) e24 (by decide) (by decide) (by decide) (by decide) (g := (mkF m 77 #[.val (.long q), .second, .val (.int z), .val (.int (0 : Int32)), .val (.ref b16), .val (.int (1 : Int32)), .val (.long (q &&& (9223372036854775807 : Int64))), .second] [(.ref w1)])) rfl (by rw [hml]; rfl) (argsL := []) (rest := []) (lenOf pd_2 rfl) rfl (by show 2 * 0 + _ ≤ _; exact Nat.le_of_eq rfl) (hb hby at_77) ?_
      intro v25 T25 L25 X25 hQ25
      obtain ⟨rfl, Nq25, he25⟩ := hQ25
      have N25 := Fr.app N23 Nq25
      have e25 : T25.heap = T17.heap := he25
      show Run p e below s _ _ _ (T25.setTop (mkF m 80 #[.val (.long q), .second, .val (.int z), .val (.int (0 : Int32)), .val (.ref b16), .val (.int (1 : Int32)), .val (.long (q &&& (9223372036854775807 : Int64))), .second] [(.int (own_und (-1 : Int64) (1 : Int32)))]))
      refine Run.pre (fun _ k => XS.ifNo X25.here hx rfl (hb hby at_80) rfl ((if0 _ _).trans (teq ((by decide) : (own_und (-1 : Int64) (1 : Int32)) = (0 : Int32))).2) k) ?_
      show Run p e below s _ _ _ (T25.setTop (mkF m 83 #[.val (.long q), .second, .val (.int z), .val (.int (0 : Int32)), .val (.ref b16), .val (.int (1 : Int32)), .val (.long (q &&& (9223372036854775807 : Int64))), .second] []))
      refine Run.pre (fun _ k => XS.lload X25.here hx rfl (hb hby at_83) rfl  k) ?_
      show Run p e below s _ _ _ (T25.setTop (mkF m 85 #[.val (.long q), .second, .val (.int z), .val (.int (0 : Int32)), .val (.ref b16), .val (.int (1 : Int32)), .val (.long (q &&& (9223372036854775807 : Int64))), .second] [(.long (q &&& (9223372036854775807 : Int64)))]))
      refine Run.callS X25 hx hZ (y := (⟨"com/example/manana/manana/wire/MessageHead$Framing", "length", "(J)Lcom/example/manana/manana/wire/MessageHead$Framing;"⟩ : MethodName)) hown (hw _ (List.mem_of_getElem? (i := 28) rfl)) (hw _ (List.mem_of_getElem? (i := 29) rfl)) (hw _ (List.mem_of_getElem? (i := 2) rfl)) (hw _ (List.mem_of_getElem? (i := 30) rfl)) (by decide) (W := 0) (rm5 l Z a0 hw (q &&& (9223372036854775807 : Int64)) T17.heap n0 (Nat.le_trans Z0 K17.1)) e25 (by decide) (by decide) (by decide) (by decide) (g := (mkF m 85 #[.val (.long q), .second, .val (.int z), .val (.int (0 : Int32)), .val (.ref b16), .val (.int (1 : Int32)), .val (.long (q &&& (9223372036854775807 : Int64))), .second] [(.long (q &&& (9223372036854775807 : Int64)))])) rfl (by rw [hml]; rfl) (argsL := [(.long (q &&& (9223372036854775807 : Int64)))]) (rest := []) (lenOf pd_3 rfl) rfl (by show 2 * 0 + _ ≤ _; exact Nat.le_of_eq rfl) (hb hby at_85) ?_
      intro v26 T26 L26 X26 hQ26
      obtain ⟨b26, rfl, Nq26, Kc26, sz26, eB26, fL26, fC26⟩ := hQ26
      have N26 := Fr.app N25 Nq26
      have K26 : Keep h0 T26.heap [] := K17.trans Kc26 all0
      have sz_b26 : h0.size ≤ b26 := Nat.le_trans K17.1 sz26
      have gn_b26 : n0 ≤ b26 := Nat.le_trans Z0 sz_b26
      show Run p e below s _ _ _ (T26.setTop (mkF m 88 #[.val (.long q), .second, .val (.int z), .val (.int (0 : Int32)), .val (.ref b16), .val (.int (1 : Int32)), .val (.long (q &&& (9223372036854775807 : Int64))), .second] [(.ref b26)]))
      refine Run.callV X26 hx hZ (y := (⟨"com/example/manana/manana/wire/MessageHead$Framing", "undelimited", "()Z"⟩ : MethodName)) (z := (⟨"com/example/manana/manana/wire/MessageHead$Framing", "undelimited", "()Z"⟩ : MethodName)) hown (hw _ (List.mem_of_getElem? (i := 19) rfl)) (hw _ (List.mem_of_getElem? (i := 20) rfl)) (notFace_of_selects (args := #[]) (mvT hZ (hw _ (List.mem_of_getElem? (i := 22) rfl)))) (hw _ (List.mem_of_getElem? (i := 22) rfl)) (hw _ (List.mem_of_getElem? (i := 21) rfl)) (hw _ (List.mem_of_getElem? (i := 23) rfl)) (hw _ (List.mem_of_getElem? (i := 2) rfl)) (by decide) (b := b26) eB26 (W := 0) (rm4 l Z a0 hw b26 (q &&& (9223372036854775807 : Int64)) (nar .boolean (0 : Int32)) T26.heap n0 (Nat.le_trans Z0 K26.1) fL26 fC26) rfl (by decide) (by decide) (by decide) (by decide) (g := (mkF m 88 #[.val (.long q), .second, .val (.int z), .val (.int (0 : Int32)), .val (.ref b16), .val (.int (1 : Int32)), .val (.long (q &&& (9223372036854775807 : Int64))), .second] [(.ref b26)])) rfl (by rw [hml]; rfl) (argsL := []) (rest := []) (lenOf pd_2 rfl) rfl (by show 2 * 0 + _ ≤ _; exact Nat.le_of_eq rfl) (hb hby at_88) ?_
      intro v27 T27 L27 X27 hQ27
      obtain ⟨rfl, Nq27, he27⟩ := hQ27
      have N27 := Fr.app N26 Nq27
      have e27 : T27.heap = T26.heap := he27
      show Run p e below s _ _ _ (T27.setTop (mkF m 91 #[.val (.long q), .second, .val (.int z), .val (.int (0 : Int32)), .val (.ref b16), .val (.int (1 : Int32)), .val (.long (q &&& (9223372036854775807 : Int64))), .second] [(.int (own_und (q &&& (9223372036854775807 : Int64)) (nar .boolean (0 : Int32))))]))
      refine Run.pre (fun _ k => XS.ifNo X27.here hx rfl (hb hby at_91) rfl ((if0 _ _).trans (teq ((by unfold own_und; rw [if_neg (own_max q)]) : (own_und (q &&& (9223372036854775807 : Int64)) (nar .boolean (0 : Int32))) = (0 : Int32))).2) k) ?_
      show Run p e below s _ _ _ (T27.setTop (mkF m 94 #[.val (.long q), .second, .val (.int z), .val (.int (0 : Int32)), .val (.ref b16), .val (.int (1 : Int32)), .val (.long (q &&& (9223372036854775807 : Int64))), .second] []))
      refine Run.pre (fun _ k => XS.iconst X27.here hx rfl (hb hby at_94) k) ?_
      show Run p e below s _ _ _ (T27.setTop (mkF m 95 #[.val (.long q), .second, .val (.int z), .val (.int (0 : Int32)), .val (.ref b16), .val (.int (1 : Int32)), .val (.long (q &&& (9223372036854775807 : Int64))), .second] [(.int (1 : Int32))]))
      refine Run.pre (fun _ k => XS.goto X27.here hx rfl (pc0 := 95) (pc' := 99) rfl (hb hby at_95) (by decide) (by decide) k) ?_
      show Run p e below s _ _ _ (T27.setTop (mkF m 99 #[.val (.long q), .second, .val (.int z), .val (.int (0 : Int32)), .val (.ref b16), .val (.int (1 : Int32)), .val (.long (q &&& (9223372036854775807 : Int64))), .second] [(.int (1 : Int32))]))
      exact Run.retN X27 hx hret (t := .boolean) (by simp) hlk (hb hby at_99) (by first | (rw [e27]; exact ⟨rfl, N27⟩) | exact ⟨rfl, N27⟩) (by decide) (by decide)
    · skip
      refine Run.pre (fun _ k => XS.ifNo X17.here hx rfl (hb hby at_36) rfl ((if0 _ _).trans (flt (hc18 : ¬ ((lcmpW q (0 : Int64)) < (0 : Int32)))).1) k) ?_
      show Run p e below s _ _ _ (T17.setTop (mkF m 39 #[.val (.long q), .second, .val (.int z), .val (.int (0 : Int32)), .val (.ref b16), .unset, .unset, .unset] []))
      refine Run.pre (fun _ k => XS.iconst X17.here hx rfl (hb hby at_39) k) ?_
      show Run p e below s _ _ _ (T17.setTop (mkF m 40 #[.val (.long q), .second, .val (.int z), .val (.int (0 : Int32)), .val (.ref b16), .unset, .unset, .unset] [(.int (0 : Int32))]))
      refine Run.pre (fun _ k => XS.istore X17.here hx rfl (hb hby at_40) rfl (l' := #[.val (.long q), .second, .val (.int z), .val (.int (0 : Int32)), .val (.ref b16), .val (.int (0 : Int32)), .unset, .unset]) rfl k) ?_
      show Run p e below s _ _ _ (T17.setTop (mkF m 42 #[.val (.long q), .second, .val (.int z), .val (.int (0 : Int32)), .val (.ref b16), .val (.int (0 : Int32)), .unset, .unset] []))
      refine Run.pre (fun _ k => XS.goto X17.here hx rfl (pc0 := 42) (pc' := 48) rfl (hb hby at_42) (by decide) (by decide) k) ?_
      show Run p e below s _ _ _ (T17.setTop (mkF m 48 #[.val (.long q), .second, .val (.int z), .val (.int (0 : Int32)), .val (.ref b16), .val (.int (0 : Int32)), .unset, .unset] []))
      refine Run.pre (fun _ k => XS.lloadN X17.here hx rfl (hb hby at_48) rfl  k) ?_
      show Run p e below s _ _ _ (T17.setTop (mkF m 49 #[.val (.long q), .second, .val (.int z), .val (.int (0 : Int32)), .val (.ref b16), .val (.int (0 : Int32)), .unset, .unset] [(.long q)]))
      refine Run.pre (X17.ldc2Long hx hown (mvT hZ (hw _ (List.mem_of_getElem? (i := 18) rfl))) (g := (mkF m 49 #[.val (.long q), .second, .val (.int z), .val (.int (0 : Int32)), .val (.ref b16), .val (.int (0 : Int32)), .unset, .unset] [(.long q)])) rfl (hb hby at_49)) ?_
      show Run p e below s _ _ _ (T17.setTop (mkF m 52 #[.val (.long q), .second, .val (.int z), .val (.int (0 : Int32)), .val (.ref b16), .val (.int (0 : Int32)), .unset, .unset] [(.long (9223372036854775807 : Int64)), (.long q)]))
      refine Run.pre (fun _ k => XS.land X17.here hx rfl (hb hby at_52) rfl k) ?_
      show Run p e below s _ _ _ (T17.setTop (mkF m 53 #[.val (.long q), .second, .val (.int z), .val (.int (0 : Int32)), .val (.ref b16), .val (.int (0 : Int32)), .unset, .unset] [(.long (q &&& (9223372036854775807 : Int64)))]))
      refine Run.pre (fun _ k => XS.lstore X17.here hx rfl (hb hby at_53) rfl (l' := #[.val (.long q), .second, .val (.int z), .val (.int (0 : Int32)), .val (.ref b16), .val (.int (0 : Int32)), .val (.long (q &&& (9223372036854775807 : Int64))), .second]) rfl k) ?_
      show Run p e below s _ _ _ (T17.setTop (mkF m 55 #[.val (.long q), .second, .val (.int z), .val (.int (0 : Int32)), .val (.ref b16), .val (.int (0 : Int32)), .val (.long (q &&& (9223372036854775807 : Int64))), .second] []))
      refine Run.pre (fun _ k => XS.aload X17.here hx rfl (hb hby at_55) rfl rfl k) ?_
      show Run p e below s _ _ _ (T17.setTop (mkF m 57 #[.val (.long q), .second, .val (.int z), .val (.int (0 : Int32)), .val (.ref b16), .val (.int (0 : Int32)), .val (.long (q &&& (9223372036854775807 : Int64))), .second] [(.ref b16)]))
      have f29 := (A16.keep Kc17)
      refine Run.callV X17 hx hZ (y := (⟨"com/example/manana/manana/wire/MessageHead$Framing", "undelimited", "()Z"⟩ : MethodName)) (z := (⟨"com/example/manana/manana/wire/MessageHead$Framing", "undelimited", "()Z"⟩ : MethodName)) hown (hw _ (List.mem_of_getElem? (i := 19) rfl)) (hw _ (List.mem_of_getElem? (i := 20) rfl)) (notFace_of_selects (args := #[]) (mvT hZ (hw _ (List.mem_of_getElem? (i := 22) rfl)))) (hw _ (List.mem_of_getElem? (i := 22) rfl)) (hw _ (List.mem_of_getElem? (i := 21) rfl)) (hw _ (List.mem_of_getElem? (i := 23) rfl)) (hw _ (List.mem_of_getElem? (i := 2) rfl)) (by decide) (b := b16) f29 (W := 0) (rm4 l Z a0 hw b16 q (nar .boolean (0 : Int32)) T17.heap n0 (Nat.le_trans Z0 K17.1) fL17 fC17) rfl (by decide) (by decide) (by decide) (by decide) (g := (mkF m 57 #[.val (.long q), .second, .val (.int z), .val (.int (0 : Int32)), .val (.ref b16), .val (.int (0 : Int32)), .val (.long (q &&& (9223372036854775807 : Int64))), .second] [(.ref b16)])) rfl (by rw [hml]; rfl) (argsL := []) (rest := []) (lenOf pd_2 rfl) rfl (by show 2 * 0 + _ ≤ _; exact Nat.le_of_eq rfl) (hb hby at_57) ?_
      intro v28 T28 L28 X28 hQ28
      obtain ⟨rfl, Nq28, he28⟩ := hQ28
      have N28 := Fr.app N17 Nq28
      have e28 : T28.heap = T17.heap := he28
      show Run p e below s _ _ _ (T28.setTop (mkF m 60 #[.val (.long q), .second, .val (.int z), .val (.int (0 : Int32)), .val (.ref b16), .val (.int (0 : Int32)), .val (.long (q &&& (9223372036854775807 : Int64))), .second] [(.int (own_und q (nar .boolean (0 : Int32))))]))
      refine Run.pre (fun _ k => XS.iload X28.here hx rfl (hb hby at_60) rfl  k) ?_
      show Run p e below s _ _ _ (T28.setTop (mkF m 62 #[.val (.long q), .second, .val (.int z), .val (.int (0 : Int32)), .val (.ref b16), .val (.int (0 : Int32)), .val (.long (q &&& (9223372036854775807 : Int64))), .second] [(.int (0 : Int32)), (.int (own_und q (nar .boolean (0 : Int32))))]))
      refine Run.pre (fun _ k => XS.icmpNo X28.here hx rfl (hb hby at_62) rfl (teq ((by simp [own_und, nar, hc15, hc18]) : (own_und q (nar .boolean (0 : Int32))) = (0 : Int32))).2 k) ?_
      show Run p e below s _ _ _ (T28.setTop (mkF m 65 #[.val (.long q), .second, .val (.int z), .val (.int (0 : Int32)), .val (.ref b16), .val (.int (0 : Int32)), .val (.long (q &&& (9223372036854775807 : Int64))), .second] []))
      have f30 := ((OL.ext E16).keep Kc17 (allS gn_b16 all0))
      obtain ⟨T31, X31, e31, st31⟩ := getS2 X28 hx hZ hown (host := "") (Or.inl (hw _ (List.mem_of_getElem? (i := 24) rfl))) Via.refl e28 (S0.ext f30.2) (g := (mkF m 65 #[.val (.long q), .second, .val (.int z), .val (.int (0 : Int32)), .val (.ref b16), .val (.int (0 : Int32)), .val (.long (q &&& (9223372036854775807 : Int64))), .second] [])) rfl (hb hby at_65)
      refine Run.pre st31 ?_
      show Run p e below s _ _ _ (T31.setTop (mkF m 68 #[.val (.long q), .second, .val (.int z), .val (.int (0 : Int32)), .val (.ref b16), .val (.int (0 : Int32)), .val (.long (q &&& (9223372036854775807 : Int64))), .second] [(.ref w0)]))
      refine Run.callV X31 hx hZ (y := (⟨"com/example/manana/manana/wire/MessageHead$Framing", "undelimited", "()Z"⟩ : MethodName)) (z := (⟨"com/example/manana/manana/wire/MessageHead$Framing", "undelimited", "()Z"⟩ : MethodName)) hown (hw _ (List.mem_of_getElem? (i := 19) rfl)) (hw _ (List.mem_of_getElem? (i := 20) rfl)) (notFace_of_selects (args := #[]) (mvT hZ (hw _ (List.mem_of_getElem? (i := 22) rfl)))) (hw _ (List.mem_of_getElem? (i := 22) rfl)) (hw _ (List.mem_of_getElem? (i := 21) rfl)) (hw _ (List.mem_of_getElem? (i := 23) rfl)) (hw _ (List.mem_of_getElem? (i := 2) rfl)) (by decide) (b := w0) (E0.ext f30.2) (W := 0) (rm4 l Z a0 hw w0 (-1 : Int64) (0 : Int32) T17.heap n0 (Nat.le_trans Z0 K17.1) (FL0.ext f30.2) (FC0.ext f30.2)) e31 (by decide) (by decide) (by decide) (by decide) (g := (mkF m 68 #[.val (.long q), .second, .val (.int z), .val (.int (0 : Int32)), .val (.ref b16), .val (.int (0 : Int32)), .val (.long (q &&& (9223372036854775807 : Int64))), .second] [(.ref w0)])) rfl (by rw [hml]; rfl) (argsL := []) (rest := []) (lenOf pd_2 rfl) rfl (by show 2 * 0 + _ ≤ _; exact Nat.le_of_eq rfl) (hb hby at_68) ?_
      intro v32 T32 L32 X32 hQ32
      obtain ⟨rfl, Nq32, he32⟩ := hQ32
      have N32 := Fr.app N28 Nq32
      have e32 : T32.heap = T17.heap := he32
      show Run p e below s _ _ _ (T32.setTop (mkF m 71 #[.val (.long q), .second, .val (.int z), .val (.int (0 : Int32)), .val (.ref b16), .val (.int (0 : Int32)), .val (.long (q &&& (9223372036854775807 : Int64))), .second] [(.int (own_und (-1 : Int64) (0 : Int32)))]))
      refine Run.pre (fun _ k => XS.ifNo X32.here hx rfl (hb hby at_71) rfl ((if0 _ _).trans (feq ((by decide) : ¬ ((own_und (-1 : Int64) (0 : Int32)) = (0 : Int32)))).1) k) ?_
      show Run p e below s _ _ _ (T32.setTop (mkF m 74 #[.val (.long q), .second, .val (.int z), .val (.int (0 : Int32)), .val (.ref b16), .val (.int (0 : Int32)), .val (.long (q &&& (9223372036854775807 : Int64))), .second] []))
      obtain ⟨T33, X33, e33, st33⟩ := getS2 X32 hx hZ hown (host := "") (Or.inl (hw _ (List.mem_of_getElem? (i := 26) rfl))) Via.refl e32 (S1.ext f30.2) (g := (mkF m 74 #[.val (.long q), .second, .val (.int z), .val (.int (0 : Int32)), .val (.ref b16), .val (.int (0 : Int32)), .val (.long (q &&& (9223372036854775807 : Int64))), .second] [])) rfl (hb hby at_74)
      refine Run.pre st33 ?_
      show Run p e below s _ _ _ (T33.setTop (mkF m 77 #[.val (.long q), .second, .val (.int z), .val (.int (0 : Int32)), .val (.ref b16), .val (.int (0 : Int32)), .val (.long (q &&& (9223372036854775807 : Int64))), .second] [(.ref w1)]))
      refine Run.callV X33 hx hZ (y := (⟨"com/example/manana/manana/wire/MessageHead$Framing", "undelimited", "()Z"⟩ : MethodName)) (z := (⟨"com/example/manana/manana/wire/MessageHead$Framing", "undelimited", "()Z"⟩ : MethodName)) hown (hw _ (List.mem_of_getElem? (i := 19) rfl)) (hw _ (List.mem_of_getElem? (i := 20) rfl)) (notFace_of_selects (args := #[]) (mvT hZ (hw _ (List.mem_of_getElem? (i := 22) rfl)))) (hw _ (List.mem_of_getElem? (i := 22) rfl)) (hw _ (List.mem_of_getElem? (i := 21) rfl)) (hw _ (List.mem_of_getElem? (i := 23) rfl)) (hw _ (List.mem_of_getElem? (i := 2) rfl)) (by decide) (b := w1) (E1.ext f30.2) (W := 0) (rm4 l Z a0 hw w1 (-1 : Int64) (1 : Int32) T17.heap n0 (Nat.le_trans Z0 K17.1) (FL1.ext f30.2) (FC1.ext f30.2)) e33 (by decide) (by decide) (by decide) (by decide) (g := (mkF m 77 #[.val (.long q), .second, .val (.int z), .val (.int (0 : Int32)), .val (.ref b16), .val (.int (0 : Int32)), .val (.long (q &&& (9223372036854775807 : Int64))), .second] [(.ref w1)])) rfl (by rw [hml]; rfl) (argsL := []) (rest := []) (lenOf pd_2 rfl) rfl (by show 2 * 0 + _ ≤ _; exact Nat.le_of_eq rfl) (hb hby at_77) ?_
      intro v34 T34 L34 X34 hQ34
      obtain ⟨rfl, Nq34, he34⟩ := hQ34
      have N34 := Fr.app N32 Nq34
      have e34 : T34.heap = T17.heap := he34
      show Run p e below s _ _ _ (T34.setTop (mkF m 80 #[.val (.long q), .second, .val (.int z), .val (.int (0 : Int32)), .val (.ref b16), .val (.int (0 : Int32)), .val (.long (q &&& (9223372036854775807 : Int64))), .second] [(.int (own_und (-1 : Int64) (1 : Int32)))]))
      refine Run.pre (fun _ k => XS.ifNo X34.here hx rfl (hb hby at_80) rfl ((if0 _ _).trans (teq ((by decide) : (own_und (-1 : Int64) (1 : Int32)) = (0 : Int32))).2) k) ?_
      show Run p e below s _ _ _ (T34.setTop (mkF m 83 #[.val (.long q), .second, .val (.int z), .val (.int (0 : Int32)), .val (.ref b16), .val (.int (0 : Int32)), .val (.long (q &&& (9223372036854775807 : Int64))), .second] []))
      refine Run.pre (fun _ k => XS.lload X34.here hx rfl (hb hby at_83) rfl  k) ?_
      show Run p e below s _ _ _ (T34.setTop (mkF m 85 #[.val (.long q), .second, .val (.int z), .val (.int (0 : Int32)), .val (.ref b16), .val (.int (0 : Int32)), .val (.long (q &&& (9223372036854775807 : Int64))), .second] [(.long (q &&& (9223372036854775807 : Int64)))]))
      refine Run.callS X34 hx hZ (y := (⟨"com/example/manana/manana/wire/MessageHead$Framing", "length", "(J)Lcom/example/manana/manana/wire/MessageHead$Framing;"⟩ : MethodName)) hown (hw _ (List.mem_of_getElem? (i := 28) rfl)) (hw _ (List.mem_of_getElem? (i := 29) rfl)) (hw _ (List.mem_of_getElem? (i := 2) rfl)) (hw _ (List.mem_of_getElem? (i := 30) rfl)) (by decide) (W := 0) (rm5 l Z a0 hw (q &&& (9223372036854775807 : Int64)) T17.heap n0 (Nat.le_trans Z0 K17.1)) e34 (by decide) (by decide) (by decide) (by decide) (g := (mkF m 85 #[.val (.long q), .second, .val (.int z), .val (.int (0 : Int32)), .val (.ref b16), .val (.int (0 : Int32)), .val (.long (q &&& (9223372036854775807 : Int64))), .second] [(.long (q &&& (9223372036854775807 : Int64)))])) rfl (by rw [hml]; rfl) (argsL := [(.long (q &&& (9223372036854775807 : Int64)))]) (rest := []) (lenOf pd_3 rfl) rfl (by show 2 * 0 + _ ≤ _; exact Nat.le_of_eq rfl) (hb hby at_85) ?_
      intro v35 T35 L35 X35 hQ35
      obtain ⟨b35, rfl, Nq35, Kc35, sz35, eB35, fL35, fC35⟩ := hQ35
      have N35 := Fr.app N34 Nq35
      have K35 : Keep h0 T35.heap [] := K17.trans Kc35 all0
      have sz_b35 : h0.size ≤ b35 := Nat.le_trans K17.1 sz35
      have gn_b35 : n0 ≤ b35 := Nat.le_trans Z0 sz_b35
      show Run p e below s _ _ _ (T35.setTop (mkF m 88 #[.val (.long q), .second, .val (.int z), .val (.int (0 : Int32)), .val (.ref b16), .val (.int (0 : Int32)), .val (.long (q &&& (9223372036854775807 : Int64))), .second] [(.ref b35)]))
      refine Run.callV X35 hx hZ (y := (⟨"com/example/manana/manana/wire/MessageHead$Framing", "undelimited", "()Z"⟩ : MethodName)) (z := (⟨"com/example/manana/manana/wire/MessageHead$Framing", "undelimited", "()Z"⟩ : MethodName)) hown (hw _ (List.mem_of_getElem? (i := 19) rfl)) (hw _ (List.mem_of_getElem? (i := 20) rfl)) (notFace_of_selects (args := #[]) (mvT hZ (hw _ (List.mem_of_getElem? (i := 22) rfl)))) (hw _ (List.mem_of_getElem? (i := 22) rfl)) (hw _ (List.mem_of_getElem? (i := 21) rfl)) (hw _ (List.mem_of_getElem? (i := 23) rfl)) (hw _ (List.mem_of_getElem? (i := 2) rfl)) (by decide) (b := b35) eB35 (W := 0) (rm4 l Z a0 hw b35 (q &&& (9223372036854775807 : Int64)) (nar .boolean (0 : Int32)) T35.heap n0 (Nat.le_trans Z0 K35.1) fL35 fC35) rfl (by decide) (by decide) (by decide) (by decide) (g := (mkF m 88 #[.val (.long q), .second, .val (.int z), .val (.int (0 : Int32)), .val (.ref b16), .val (.int (0 : Int32)), .val (.long (q &&& (9223372036854775807 : Int64))), .second] [(.ref b35)])) rfl (by rw [hml]; rfl) (argsL := []) (rest := []) (lenOf pd_2 rfl) rfl (by show 2 * 0 + _ ≤ _; exact Nat.le_of_eq rfl) (hb hby at_88) ?_
      intro v36 T36 L36 X36 hQ36
      obtain ⟨rfl, Nq36, he36⟩ := hQ36
      have N36 := Fr.app N35 Nq36
      have e36 : T36.heap = T35.heap := he36
      show Run p e below s _ _ _ (T36.setTop (mkF m 91 #[.val (.long q), .second, .val (.int z), .val (.int (0 : Int32)), .val (.ref b16), .val (.int (0 : Int32)), .val (.long (q &&& (9223372036854775807 : Int64))), .second] [(.int (own_und (q &&& (9223372036854775807 : Int64)) (nar .boolean (0 : Int32))))]))
      refine Run.pre (fun _ k => XS.ifNo X36.here hx rfl (hb hby at_91) rfl ((if0 _ _).trans (teq ((by unfold own_und; rw [if_neg (own_max q)]) : (own_und (q &&& (9223372036854775807 : Int64)) (nar .boolean (0 : Int32))) = (0 : Int32))).2) k) ?_
      show Run p e below s _ _ _ (T36.setTop (mkF m 94 #[.val (.long q), .second, .val (.int z), .val (.int (0 : Int32)), .val (.ref b16), .val (.int (0 : Int32)), .val (.long (q &&& (9223372036854775807 : Int64))), .second] []))
      refine Run.pre (fun _ k => XS.iconst X36.here hx rfl (hb hby at_94) k) ?_
      show Run p e below s _ _ _ (T36.setTop (mkF m 95 #[.val (.long q), .second, .val (.int z), .val (.int (0 : Int32)), .val (.ref b16), .val (.int (0 : Int32)), .val (.long (q &&& (9223372036854775807 : Int64))), .second] [(.int (1 : Int32))]))
      refine Run.pre (fun _ k => XS.goto X36.here hx rfl (pc0 := 95) (pc' := 99) rfl (hb hby at_95) (by decide) (by decide) k) ?_
      show Run p e below s _ _ _ (T36.setTop (mkF m 99 #[.val (.long q), .second, .val (.int z), .val (.int (0 : Int32)), .val (.ref b16), .val (.int (0 : Int32)), .val (.long (q &&& (9223372036854775807 : Int64))), .second] [(.int (1 : Int32))]))
      exact Run.retN X36 hx hret (t := .boolean) (by simp) hlk (hb hby at_99) (by first | (rw [e36]; exact ⟨rfl, N36⟩) | exact ⟨rfl, N36⟩) (by decide) (by decide)
  · skip
    refine Run.pre (fun _ k => XS.ifNo X0.here hx rfl (hb hby at_3) rfl ((if0 _ _).trans (feq (hc15 : ¬ ((z &&& (1 : Int32)) = (0 : Int32)))).1) k) ?_
    show Run p e below s _ _ _ (s₁.setTop (mkF m 6 #[.val (.long q), .second, .val (.int z), .unset, .unset, .unset, .unset, .unset] []))
    refine Run.pre (fun _ k => XS.iconst X0.here hx rfl (hb hby at_6) k) ?_
    show Run p e below s _ _ _ (s₁.setTop (mkF m 7 #[.val (.long q), .second, .val (.int z), .unset, .unset, .unset, .unset, .unset] [(.int (1 : Int32))]))
    refine Run.pre (fun _ k => XS.goto X0.here hx rfl (pc0 := 7) (pc' := 11) rfl (hb hby at_7) (by decide) (by decide) k) ?_
    show Run p e below s _ _ _ (s₁.setTop (mkF m 11 #[.val (.long q), .second, .val (.int z), .unset, .unset, .unset, .unset, .unset] [(.int (1 : Int32))]))
    refine Run.pre (fun _ k => XS.istoreN X0.here hx rfl (hb hby at_11) rfl (l' := #[.val (.long q), .second, .val (.int z), .val (.int (1 : Int32)), .unset, .unset, .unset, .unset]) rfl k) ?_
    show Run p e below s _ _ _ (s₁.setTop (mkF m 12 #[.val (.long q), .second, .val (.int z), .val (.int (1 : Int32)), .unset, .unset, .unset, .unset] []))
    obtain ⟨T37, h37, X37, e37, E37, A37, D37, -, st37⟩ := newO X0 hx hZ hown (hw _ (List.mem_of_getElem? (i := 0) rfl)) (hw _ (List.mem_of_getElem? (i := 1) rfl)) (hw _ (List.mem_of_getElem? (i := 2) rfl)) e0 (g := (mkF m 12 #[.val (.long q), .second, .val (.int z), .val (.int (1 : Int32)), .unset, .unset, .unset, .unset] [])) rfl (hb hby at_12) (by decide) (by decide)
    obtain ⟨b37, g37⟩ : ∃ z, z = h0.size := ⟨_, rfl⟩
    rw [← g37] at A37 D37 st37
    refine Run.pre st37 ?_
    have gn_b37 : n0 ≤ b37 := Nat.le_trans (Nat.le_trans Z0 (Keep.refl h0 []).1) (Nat.le_of_eq g37.symm)
    have sz_b37 : h0.size ≤ b37 := Nat.le_trans (Keep.refl h0 []).1 (Nat.le_of_eq g37.symm)
    have K37 : Keep h0 h37 [] := (Keep.refl h0 []).ext E37
    have F_length_b37 : Fld Z h37 b37 "com/example/manana/manana/wire/MessageHead$Framing" "length" "J" (.long (0 : Int64)) := D37 (Or.inr (hw _ (List.mem_of_getElem? (i := 15) rfl))) (ty := .long) (by decide)
    have F_chunked_b37 : Fld Z h37 b37 "com/example/manana/manana/wire/MessageHead$Framing" "chunked" "Z" (.int (0 : Int32)) := D37 (Or.inr (hw _ (List.mem_of_getElem? (i := 17) rfl))) (ty := .boolean) (by decide)
    show Run p e below s _ _ _ (T37.setTop (mkF m 15 #[.val (.long q), .second, .val (.int z), .val (.int (1 : Int32)), .unset, .unset, .unset, .unset] [(.ref b37)]))
    refine Run.pre (fun _ k => XS.dup X37.here hx rfl (hb hby at_15) rfl rfl k) ?_
    show Run p e below s _ _ _ (T37.setTop (mkF m 16 #[.val (.long q), .second, .val (.int z), .val (.int (1 : Int32)), .unset, .unset, .unset, .unset] [(.ref b37), (.ref b37)]))
    refine Run.pre (fun _ k => XS.lloadN X37.here hx rfl (hb hby at_16) rfl  k) ?_
    show Run p e below s _ _ _ (T37.setTop (mkF m 17 #[.val (.long q), .second, .val (.int z), .val (.int (1 : Int32)), .unset, .unset, .unset, .unset] [(.long q), (.ref b37), (.ref b37)]))
    refine Run.pre (fun _ k => XS.iloadN X37.here hx rfl (hb hby at_17) rfl  k) ?_
    show Run p e below s _ _ _ (T37.setTop (mkF m 18 #[.val (.long q), .second, .val (.int z), .val (.int (1 : Int32)), .unset, .unset, .unset, .unset] [(.int (1 : Int32)), (.long q), (.ref b37), (.ref b37)]))
    refine Run.callI X37 hx hZ (y := (⟨"com/example/manana/manana/wire/MessageHead$Framing", "<init>", "(JZ)V"⟩ : MethodName)) rfl hown (hw _ (List.mem_of_getElem? (i := 3) rfl)) (hw _ (List.mem_of_getElem? (i := 4) rfl)) (hw _ (List.mem_of_getElem? (i := 5) rfl)) (hw _ (List.mem_of_getElem? (i := 2) rfl)) (by decide) (a := b37) (W := 1) (rm1 l Z a0 hw b37 q (1 : Int32) h37 n0 (Nat.le_trans Z0 K37.1) A37 F_length_b37 F_chunked_b37 gn_b37) e37 (by decide) (by decide) (by decide) (by decide) (g := (mkF m 18 #[.val (.long q), .second, .val (.int z), .val (.int (1 : Int32)), .unset, .unset, .unset, .unset] [(.int (1 : Int32)), (.long q), (.ref b37), (.ref b37)])) rfl (by rw [hml]; rfl) (argsL := [(.long q), (.int (1 : Int32))]) (rest := [(.ref b37)]) (lenOf pd_1 rfl) rfl (by show 2 * 0 + _ ≤ _; exact Nat.le_of_eq rfl) (hb hby at_18) ?_
    intro v38 T38 L38 X38 hQ38
    obtain ⟨rfl, Nq38, Kc38, fL38, fC38⟩ := hQ38
    have N38 := Fr.app N0 Nq38
    have K38 : Keep h0 T38.heap [] := K37.trans Kc38 (allS (Or.inr sz_b37) all0)
    show Run p e below s _ _ _ (T38.setTop (mkF m 21 #[.val (.long q), .second, .val (.int z), .val (.int (1 : Int32)), .unset, .unset, .unset, .unset] [(.ref b37)]))
    refine Run.pre (fun _ k => XS.astore X38.here hx rfl (hb hby at_21) rfl rfl (l' := #[.val (.long q), .second, .val (.int z), .val (.int (1 : Int32)), .val (.ref b37), .unset, .unset, .unset]) rfl k) ?_
    show Run p e below s _ _ _ (T38.setTop (mkF m 23 #[.val (.long q), .second, .val (.int z), .val (.int (1 : Int32)), .val (.ref b37), .unset, .unset, .unset] []))
    refine Run.pre (fun _ k => XS.iloadN X38.here hx rfl (hb hby at_23) rfl  k) ?_
    show Run p e below s _ _ _ (T38.setTop (mkF m 24 #[.val (.long q), .second, .val (.int z), .val (.int (1 : Int32)), .val (.ref b37), .unset, .unset, .unset] [(.int (1 : Int32))]))
    refine Run.pre (fun _ k => XS.ifNo X38.here hx rfl (hb hby at_24) rfl ((if0 _ _).trans (feq ((by decide) : ¬ ((1 : Int32) = (0 : Int32)))).1) k) ?_
    show Run p e below s _ _ _ (T38.setTop (mkF m 27 #[.val (.long q), .second, .val (.int z), .val (.int (1 : Int32)), .val (.ref b37), .unset, .unset, .unset] []))
    refine Run.pre (fun _ k => XS.iconst X38.here hx rfl (hb hby at_27) k) ?_
    show Run p e below s _ _ _ (T38.setTop (mkF m 28 #[.val (.long q), .second, .val (.int z), .val (.int (1 : Int32)), .val (.ref b37), .unset, .unset, .unset] [(.int (0 : Int32))]))
    refine Run.pre (fun _ k => XS.istore X38.here hx rfl (hb hby at_28) rfl (l' := #[.val (.long q), .second, .val (.int z), .val (.int (1 : Int32)), .val (.ref b37), .val (.int (0 : Int32)), .unset, .unset]) rfl k) ?_
    show Run p e below s _ _ _ (T38.setTop (mkF m 30 #[.val (.long q), .second, .val (.int z), .val (.int (1 : Int32)), .val (.ref b37), .val (.int (0 : Int32)), .unset, .unset] []))
    refine Run.pre (fun _ k => XS.goto X38.here hx rfl (pc0 := 30) (pc' := 48) rfl (hb hby at_30) (by decide) (by decide) k) ?_
    show Run p e below s _ _ _ (T38.setTop (mkF m 48 #[.val (.long q), .second, .val (.int z), .val (.int (1 : Int32)), .val (.ref b37), .val (.int (0 : Int32)), .unset, .unset] []))
    refine Run.pre (fun _ k => XS.lloadN X38.here hx rfl (hb hby at_48) rfl  k) ?_
    show Run p e below s _ _ _ (T38.setTop (mkF m 49 #[.val (.long q), .second, .val (.int z), .val (.int (1 : Int32)), .val (.ref b37), .val (.int (0 : Int32)), .unset, .unset] [(.long q)]))
    refine Run.pre (X38.ldc2Long hx hown (mvT hZ (hw _ (List.mem_of_getElem? (i := 18) rfl))) (g := (mkF m 49 #[.val (.long q), .second, .val (.int z), .val (.int (1 : Int32)), .val (.ref b37), .val (.int (0 : Int32)), .unset, .unset] [(.long q)])) rfl (hb hby at_49)) ?_
    show Run p e below s _ _ _ (T38.setTop (mkF m 52 #[.val (.long q), .second, .val (.int z), .val (.int (1 : Int32)), .val (.ref b37), .val (.int (0 : Int32)), .unset, .unset] [(.long (9223372036854775807 : Int64)), (.long q)]))
    refine Run.pre (fun _ k => XS.land X38.here hx rfl (hb hby at_52) rfl k) ?_
    show Run p e below s _ _ _ (T38.setTop (mkF m 53 #[.val (.long q), .second, .val (.int z), .val (.int (1 : Int32)), .val (.ref b37), .val (.int (0 : Int32)), .unset, .unset] [(.long (q &&& (9223372036854775807 : Int64)))]))
    refine Run.pre (fun _ k => XS.lstore X38.here hx rfl (hb hby at_53) rfl (l' := #[.val (.long q), .second, .val (.int z), .val (.int (1 : Int32)), .val (.ref b37), .val (.int (0 : Int32)), .val (.long (q &&& (9223372036854775807 : Int64))), .second]) rfl k) ?_
    show Run p e below s _ _ _ (T38.setTop (mkF m 55 #[.val (.long q), .second, .val (.int z), .val (.int (1 : Int32)), .val (.ref b37), .val (.int (0 : Int32)), .val (.long (q &&& (9223372036854775807 : Int64))), .second] []))
    refine Run.pre (fun _ k => XS.aload X38.here hx rfl (hb hby at_55) rfl rfl k) ?_
    show Run p e below s _ _ _ (T38.setTop (mkF m 57 #[.val (.long q), .second, .val (.int z), .val (.int (1 : Int32)), .val (.ref b37), .val (.int (0 : Int32)), .val (.long (q &&& (9223372036854775807 : Int64))), .second] [(.ref b37)]))
    have f40 := (A37.keep Kc38)
    refine Run.callV X38 hx hZ (y := (⟨"com/example/manana/manana/wire/MessageHead$Framing", "undelimited", "()Z"⟩ : MethodName)) (z := (⟨"com/example/manana/manana/wire/MessageHead$Framing", "undelimited", "()Z"⟩ : MethodName)) hown (hw _ (List.mem_of_getElem? (i := 19) rfl)) (hw _ (List.mem_of_getElem? (i := 20) rfl)) (notFace_of_selects (args := #[]) (mvT hZ (hw _ (List.mem_of_getElem? (i := 22) rfl)))) (hw _ (List.mem_of_getElem? (i := 22) rfl)) (hw _ (List.mem_of_getElem? (i := 21) rfl)) (hw _ (List.mem_of_getElem? (i := 23) rfl)) (hw _ (List.mem_of_getElem? (i := 2) rfl)) (by decide) (b := b37) f40 (W := 0) (rm4 l Z a0 hw b37 q (nar .boolean (1 : Int32)) T38.heap n0 (Nat.le_trans Z0 K38.1) fL38 fC38) rfl (by decide) (by decide) (by decide) (by decide) (g := (mkF m 57 #[.val (.long q), .second, .val (.int z), .val (.int (1 : Int32)), .val (.ref b37), .val (.int (0 : Int32)), .val (.long (q &&& (9223372036854775807 : Int64))), .second] [(.ref b37)])) rfl (by rw [hml]; rfl) (argsL := []) (rest := []) (lenOf pd_2 rfl) rfl (by show 2 * 0 + _ ≤ _; exact Nat.le_of_eq rfl) (hb hby at_57) ?_
    intro v39 T39 L39 X39 hQ39
    obtain ⟨rfl, Nq39, he39⟩ := hQ39
    have N39 := Fr.app N38 Nq39
    have e39 : T39.heap = T38.heap := he39
    show Run p e below s _ _ _ (T39.setTop (mkF m 60 #[.val (.long q), .second, .val (.int z), .val (.int (1 : Int32)), .val (.ref b37), .val (.int (0 : Int32)), .val (.long (q &&& (9223372036854775807 : Int64))), .second] [(.int (own_und q (nar .boolean (1 : Int32))))]))
    refine Run.pre (fun _ k => XS.iload X39.here hx rfl (hb hby at_60) rfl  k) ?_
    show Run p e below s _ _ _ (T39.setTop (mkF m 62 #[.val (.long q), .second, .val (.int z), .val (.int (1 : Int32)), .val (.ref b37), .val (.int (0 : Int32)), .val (.long (q &&& (9223372036854775807 : Int64))), .second] [(.int (0 : Int32)), (.int (own_und q (nar .boolean (1 : Int32))))]))
    refine Run.pre (fun _ k => XS.icmpNo X39.here hx rfl (hb hby at_62) rfl (teq ((by simp [own_und, nar, hc15]) : (own_und q (nar .boolean (1 : Int32))) = (0 : Int32))).2 k) ?_
    show Run p e below s _ _ _ (T39.setTop (mkF m 65 #[.val (.long q), .second, .val (.int z), .val (.int (1 : Int32)), .val (.ref b37), .val (.int (0 : Int32)), .val (.long (q &&& (9223372036854775807 : Int64))), .second] []))
    have f41 := ((OL.ext E37).keep Kc38 (allS gn_b37 all0))
    obtain ⟨T42, X42, e42, st42⟩ := getS2 X39 hx hZ hown (host := "") (Or.inl (hw _ (List.mem_of_getElem? (i := 24) rfl))) Via.refl e39 (S0.ext f41.2) (g := (mkF m 65 #[.val (.long q), .second, .val (.int z), .val (.int (1 : Int32)), .val (.ref b37), .val (.int (0 : Int32)), .val (.long (q &&& (9223372036854775807 : Int64))), .second] [])) rfl (hb hby at_65)
    refine Run.pre st42 ?_
    show Run p e below s _ _ _ (T42.setTop (mkF m 68 #[.val (.long q), .second, .val (.int z), .val (.int (1 : Int32)), .val (.ref b37), .val (.int (0 : Int32)), .val (.long (q &&& (9223372036854775807 : Int64))), .second] [(.ref w0)]))
    refine Run.callV X42 hx hZ (y := (⟨"com/example/manana/manana/wire/MessageHead$Framing", "undelimited", "()Z"⟩ : MethodName)) (z := (⟨"com/example/manana/manana/wire/MessageHead$Framing", "undelimited", "()Z"⟩ : MethodName)) hown (hw _ (List.mem_of_getElem? (i := 19) rfl)) (hw _ (List.mem_of_getElem? (i := 20) rfl)) (notFace_of_selects (args := #[]) (mvT hZ (hw _ (List.mem_of_getElem? (i := 22) rfl)))) (hw _ (List.mem_of_getElem? (i := 22) rfl)) (hw _ (List.mem_of_getElem? (i := 21) rfl)) (hw _ (List.mem_of_getElem? (i := 23) rfl)) (hw _ (List.mem_of_getElem? (i := 2) rfl)) (by decide) (b := w0) (E0.ext f41.2) (W := 0) (rm4 l Z a0 hw w0 (-1 : Int64) (0 : Int32) T38.heap n0 (Nat.le_trans Z0 K38.1) (FL0.ext f41.2) (FC0.ext f41.2)) e42 (by decide) (by decide) (by decide) (by decide) (g := (mkF m 68 #[.val (.long q), .second, .val (.int z), .val (.int (1 : Int32)), .val (.ref b37), .val (.int (0 : Int32)), .val (.long (q &&& (9223372036854775807 : Int64))), .second] [(.ref w0)])) rfl (by rw [hml]; rfl) (argsL := []) (rest := []) (lenOf pd_2 rfl) rfl (by show 2 * 0 + _ ≤ _; exact Nat.le_of_eq rfl) (hb hby at_68) ?_
    intro v43 T43 L43 X43 hQ43
    obtain ⟨rfl, Nq43, he43⟩ := hQ43
    have N43 := Fr.app N39 Nq43
    have e43 : T43.heap = T38.heap := he43
    show Run p e below s _ _ _ (T43.setTop (mkF m 71 #[.val (.long q), .second, .val (.int z), .val (.int (1 : Int32)), .val (.ref b37), .val (.int (0 : Int32)), .val (.long (q &&& (9223372036854775807 : Int64))), .second] [(.int (own_und (-1 : Int64) (0 : Int32)))]))
    refine Run.pre (fun _ k => XS.ifNo X43.here hx rfl (hb hby at_71) rfl ((if0 _ _).trans (feq ((by decide) : ¬ ((own_und (-1 : Int64) (0 : Int32)) = (0 : Int32)))).1) k) ?_
    show Run p e below s _ _ _ (T43.setTop (mkF m 74 #[.val (.long q), .second, .val (.int z), .val (.int (1 : Int32)), .val (.ref b37), .val (.int (0 : Int32)), .val (.long (q &&& (9223372036854775807 : Int64))), .second] []))
    obtain ⟨T44, X44, e44, st44⟩ := getS2 X43 hx hZ hown (host := "") (Or.inl (hw _ (List.mem_of_getElem? (i := 26) rfl))) Via.refl e43 (S1.ext f41.2) (g := (mkF m 74 #[.val (.long q), .second, .val (.int z), .val (.int (1 : Int32)), .val (.ref b37), .val (.int (0 : Int32)), .val (.long (q &&& (9223372036854775807 : Int64))), .second] [])) rfl (hb hby at_74)
    refine Run.pre st44 ?_
    show Run p e below s _ _ _ (T44.setTop (mkF m 77 #[.val (.long q), .second, .val (.int z), .val (.int (1 : Int32)), .val (.ref b37), .val (.int (0 : Int32)), .val (.long (q &&& (9223372036854775807 : Int64))), .second] [(.ref w1)]))
    refine Run.callV X44 hx hZ (y := (⟨"com/example/manana/manana/wire/MessageHead$Framing", "undelimited", "()Z"⟩ : MethodName)) (z := (⟨"com/example/manana/manana/wire/MessageHead$Framing", "undelimited", "()Z"⟩ : MethodName)) hown (hw _ (List.mem_of_getElem? (i := 19) rfl)) (hw _ (List.mem_of_getElem? (i := 20) rfl)) (notFace_of_selects (args := #[]) (mvT hZ (hw _ (List.mem_of_getElem? (i := 22) rfl)))) (hw _ (List.mem_of_getElem? (i := 22) rfl)) (hw _ (List.mem_of_getElem? (i := 21) rfl)) (hw _ (List.mem_of_getElem? (i := 23) rfl)) (hw _ (List.mem_of_getElem? (i := 2) rfl)) (by decide) (b := w1) (E1.ext f41.2) (W := 0) (rm4 l Z a0 hw w1 (-1 : Int64) (1 : Int32) T38.heap n0 (Nat.le_trans Z0 K38.1) (FL1.ext f41.2) (FC1.ext f41.2)) e44 (by decide) (by decide) (by decide) (by decide) (g := (mkF m 77 #[.val (.long q), .second, .val (.int z), .val (.int (1 : Int32)), .val (.ref b37), .val (.int (0 : Int32)), .val (.long (q &&& (9223372036854775807 : Int64))), .second] [(.ref w1)])) rfl (by rw [hml]; rfl) (argsL := []) (rest := []) (lenOf pd_2 rfl) rfl (by show 2 * 0 + _ ≤ _; exact Nat.le_of_eq rfl) (hb hby at_77) ?_
    intro v45 T45 L45 X45 hQ45
    obtain ⟨rfl, Nq45, he45⟩ := hQ45
    have N45 := Fr.app N43 Nq45
    have e45 : T45.heap = T38.heap := he45
    show Run p e below s _ _ _ (T45.setTop (mkF m 80 #[.val (.long q), .second, .val (.int z), .val (.int (1 : Int32)), .val (.ref b37), .val (.int (0 : Int32)), .val (.long (q &&& (9223372036854775807 : Int64))), .second] [(.int (own_und (-1 : Int64) (1 : Int32)))]))
    refine Run.pre (fun _ k => XS.ifNo X45.here hx rfl (hb hby at_80) rfl ((if0 _ _).trans (teq ((by decide) : (own_und (-1 : Int64) (1 : Int32)) = (0 : Int32))).2) k) ?_
    show Run p e below s _ _ _ (T45.setTop (mkF m 83 #[.val (.long q), .second, .val (.int z), .val (.int (1 : Int32)), .val (.ref b37), .val (.int (0 : Int32)), .val (.long (q &&& (9223372036854775807 : Int64))), .second] []))
    refine Run.pre (fun _ k => XS.lload X45.here hx rfl (hb hby at_83) rfl  k) ?_
    show Run p e below s _ _ _ (T45.setTop (mkF m 85 #[.val (.long q), .second, .val (.int z), .val (.int (1 : Int32)), .val (.ref b37), .val (.int (0 : Int32)), .val (.long (q &&& (9223372036854775807 : Int64))), .second] [(.long (q &&& (9223372036854775807 : Int64)))]))
    refine Run.callS X45 hx hZ (y := (⟨"com/example/manana/manana/wire/MessageHead$Framing", "length", "(J)Lcom/example/manana/manana/wire/MessageHead$Framing;"⟩ : MethodName)) hown (hw _ (List.mem_of_getElem? (i := 28) rfl)) (hw _ (List.mem_of_getElem? (i := 29) rfl)) (hw _ (List.mem_of_getElem? (i := 2) rfl)) (hw _ (List.mem_of_getElem? (i := 30) rfl)) (by decide) (W := 0) (rm5 l Z a0 hw (q &&& (9223372036854775807 : Int64)) T38.heap n0 (Nat.le_trans Z0 K38.1)) e45 (by decide) (by decide) (by decide) (by decide) (g := (mkF m 85 #[.val (.long q), .second, .val (.int z), .val (.int (1 : Int32)), .val (.ref b37), .val (.int (0 : Int32)), .val (.long (q &&& (9223372036854775807 : Int64))), .second] [(.long (q &&& (9223372036854775807 : Int64)))])) rfl (by rw [hml]; rfl) (argsL := [(.long (q &&& (9223372036854775807 : Int64)))]) (rest := []) (lenOf pd_3 rfl) rfl (by show 2 * 0 + _ ≤ _; exact Nat.le_of_eq rfl) (hb hby at_85) ?_
    intro v46 T46 L46 X46 hQ46
    obtain ⟨b46, rfl, Nq46, Kc46, sz46, eB46, fL46, fC46⟩ := hQ46
    have N46 := Fr.app N45 Nq46
    have K46 : Keep h0 T46.heap [] := K38.trans Kc46 all0
    have sz_b46 : h0.size ≤ b46 := Nat.le_trans K38.1 sz46
    have gn_b46 : n0 ≤ b46 := Nat.le_trans Z0 sz_b46
    show Run p e below s _ _ _ (T46.setTop (mkF m 88 #[.val (.long q), .second, .val (.int z), .val (.int (1 : Int32)), .val (.ref b37), .val (.int (0 : Int32)), .val (.long (q &&& (9223372036854775807 : Int64))), .second] [(.ref b46)]))
    refine Run.callV X46 hx hZ (y := (⟨"com/example/manana/manana/wire/MessageHead$Framing", "undelimited", "()Z"⟩ : MethodName)) (z := (⟨"com/example/manana/manana/wire/MessageHead$Framing", "undelimited", "()Z"⟩ : MethodName)) hown (hw _ (List.mem_of_getElem? (i := 19) rfl)) (hw _ (List.mem_of_getElem? (i := 20) rfl)) (notFace_of_selects (args := #[]) (mvT hZ (hw _ (List.mem_of_getElem? (i := 22) rfl)))) (hw _ (List.mem_of_getElem? (i := 22) rfl)) (hw _ (List.mem_of_getElem? (i := 21) rfl)) (hw _ (List.mem_of_getElem? (i := 23) rfl)) (hw _ (List.mem_of_getElem? (i := 2) rfl)) (by decide) (b := b46) eB46 (W := 0) (rm4 l Z a0 hw b46 (q &&& (9223372036854775807 : Int64)) (nar .boolean (0 : Int32)) T46.heap n0 (Nat.le_trans Z0 K46.1) fL46 fC46) rfl (by decide) (by decide) (by decide) (by decide) (g := (mkF m 88 #[.val (.long q), .second, .val (.int z), .val (.int (1 : Int32)), .val (.ref b37), .val (.int (0 : Int32)), .val (.long (q &&& (9223372036854775807 : Int64))), .second] [(.ref b46)])) rfl (by rw [hml]; rfl) (argsL := []) (rest := []) (lenOf pd_2 rfl) rfl (by show 2 * 0 + _ ≤ _; exact Nat.le_of_eq rfl) (hb hby at_88) ?_
    intro v47 T47 L47 X47 hQ47
    obtain ⟨rfl, Nq47, he47⟩ := hQ47
    have N47 := Fr.app N46 Nq47
    have e47 : T47.heap = T46.heap := he47
    show Run p e below s _ _ _ (T47.setTop (mkF m 91 #[.val (.long q), .second, .val (.int z), .val (.int (1 : Int32)), .val (.ref b37), .val (.int (0 : Int32)), .val (.long (q &&& (9223372036854775807 : Int64))), .second] [(.int (own_und (q &&& (9223372036854775807 : Int64)) (nar .boolean (0 : Int32))))]))
    refine Run.pre (fun _ k => XS.ifNo X47.here hx rfl (hb hby at_91) rfl ((if0 _ _).trans (teq ((by unfold own_und; rw [if_neg (own_max q)]) : (own_und (q &&& (9223372036854775807 : Int64)) (nar .boolean (0 : Int32))) = (0 : Int32))).2) k) ?_
    show Run p e below s _ _ _ (T47.setTop (mkF m 94 #[.val (.long q), .second, .val (.int z), .val (.int (1 : Int32)), .val (.ref b37), .val (.int (0 : Int32)), .val (.long (q &&& (9223372036854775807 : Int64))), .second] []))
    refine Run.pre (fun _ k => XS.iconst X47.here hx rfl (hb hby at_94) k) ?_
    show Run p e below s _ _ _ (T47.setTop (mkF m 95 #[.val (.long q), .second, .val (.int z), .val (.int (1 : Int32)), .val (.ref b37), .val (.int (0 : Int32)), .val (.long (q &&& (9223372036854775807 : Int64))), .second] [(.int (1 : Int32))]))
    refine Run.pre (fun _ k => XS.goto X47.here hx rfl (pc0 := 95) (pc' := 99) rfl (hb hby at_95) (by decide) (by decide) k) ?_
    show Run p e below s _ _ _ (T47.setTop (mkF m 99 #[.val (.long q), .second, .val (.int z), .val (.int (1 : Int32)), .val (.ref b37), .val (.int (0 : Int32)), .val (.long (q &&& (9223372036854775807 : Int64))), .second] [(.int (1 : Int32))]))
    exact Run.retN X47 hx hret (t := .boolean) (by simp) hlk (hb hby at_99) (by first | (rw [e47]; exact ⟨rfl, N47⟩) | exact ⟨rfl, N47⟩) (by decide) (by decide)
set_option maxRecDepth 65536 in
set_option maxHeartbeats 40000000 in
theorem comes_1 {Post : Tables → Env → Array Value → State → Outcome → State → Prop} (hpost : ∀ tb e args s v u, (limb_1_1.after args s (.returned v) u = true ∧ limb_1_2.after args s (.returned v) u = true ∧ True) → FrameEnd s (.returned v) u (Jvm.fieldLocs frame_1_writes args s ++ Jvm.arrayLocs frame_1_arrays args s ++ Jvm.staticLocs frame_1_statics s) 16 128 → Post tb e args s (.returned v) u) :
    ArmFor flags0 classFile x code maxLocals ret World_1 tables_1 room_1 Calls_1 rest_1 Pre_1 Post := by
  intro l hfl _ _ p e ha hc hk s m args below hf hA hF happ hP
  obtain ⟨hcalls, hrest, hpre⟩ := hP
  obtain ⟨-, -, -, hnamed, -, -, -, hat⟩ := (Spec.applies_iff hf).mp happ
  obtain ⟨hg, hn⟩ := and_e (Cond.before_iff.mp (show (Jvm.Cond.and given_1 narrow_1).before args s = true from hpre))
  obtain ⟨g0, gr0⟩ := and_e hg
  obtain ⟨g1, gr1⟩ := and_e gr0
  obtain ⟨w0, w1, rfl⟩ : ∃ w0 w1 : Value, args = #[w0, w1] := by
    have hs : args.size = 2 := by simpa [Cond.value, given_1] using g0
    obtain ⟨L⟩ := args
    match L, hs with
    | [w0, w1], _ => exact ⟨w0, w1, rfl⟩
  have hw := fun d (hd : d ∈ tables_1) => atoms_spec (ws := Jvm.Cond.code x code maxLocals ret :: tables_1) hat d (List.mem_cons_of_mem _ hd)
  have hfit : Fit s := own_fit hF
  obtain ⟨i0, ei0⟩ := isL_v g1
  obtain rfl : w0 = (.long i0) := Option.some.inj ei0
  obtain ⟨i1, ei1⟩ := is_v gr1
  obtain rfl : w1 = (.int i1) := Option.some.inj ei1
  obtain ⟨nn0, nnr0⟩ := and_e hn
  obtain ⟨nn1, nnr1⟩ := and_e nnr0
  obtain ⟨nn2, nnr2⟩ := and_e nnr1
  obtain ⟨nn3, nnr3⟩ := and_e nnr2
  obtain ⟨nn4, nnr4⟩ := and_e nnr3
  obtain ⟨w_NONE, ev_NONE⟩ := exa_v nn0
  have S_NONE := Sta.start ev_NONE (Or.inr ⟨(hw _ (List.mem_of_getElem? (i := 2) rfl)), (hw _ (List.mem_of_getElem? (i := 25) rfl))⟩)
  have E_NONE := Exa.start ev_NONE nn0
  obtain ⟨w_CHUNKED, ev_CHUNKED⟩ := exa_v nn3
  have S_CHUNKED := Sta.start ev_CHUNKED (Or.inr ⟨(hw _ (List.mem_of_getElem? (i := 2) rfl)), (hw _ (List.mem_of_getElem? (i := 27) rfl))⟩)
  have E_CHUNKED := Exa.start ev_CHUNKED nn3
  have F_NONE_length := own_fldLong ev_NONE nn1
  have F_NONE_chunked := own_fldInt ev_NONE nn2
  have F_CHUNKED_length := own_fldLong ev_CHUNKED nn4
  have F_CHUNKED_chunked := own_fldInt ev_CHUNKED nnr4
  obtain ⟨n, o, h1, h2, h3, _, L, rfl, ⟨rfl, N⟩, hq⟩ := rm0 l s _ hw i0 i1 w_NONE w_CHUNKED s.heap s.heap.size (Nat.le_refl _) (Old.start s) S_NONE E_NONE F_NONE_length F_NONE_chunked S_CHUNKED E_CHUNKED F_CHUNKED_length F_CHUNKED_chunked tables_1 p e ha hc hk s m _ below hf ((Spec.applies_iff_loose hf).mp happ).1 ⟨rfl, State.Warmed39.refl s, rfl⟩ trivial
  refine ⟨n, _, h1, h2, h3, hpost _ _ _ _ _ _ ⟨Cond.after_iff.mpr rfl, Cond.after_iff.mpr (eq_i res_at (Term.int_eval (1)) rfl), trivial⟩ ⟨hq.1, hq.2.1, (hq.2.2.sift fun y hy => Or.inr (N y hy)).mono (by decide) (by decide)⟩⟩
theorem main_1_1 : Claimed_1_1 := comes_1 fun _ _ _ _ _ _ h hF => ⟨h.1, hF⟩
theorem main_1_2 : Claimed_1_2 := comes_1 fun _ _ _ _ _ _ h hF => ⟨h.2.1, hF⟩
end Jvm.Pilot.@@N@@
namespace Jvm.Pilot.@@N@@
open Jvm Jvm.ClassFile Sem Op Lib Jvm.Free Jvm.Stand Jvm.Pilot.@@N@@.Jvm.D
/-! MADE BY PROGRAM (witnessworld.py) out of the Statement's table words and the real class files: 10 classes; the members and pool entries that the words name. The judged class is class 1, her method 1. -/
namespace start1
open Jvm.ClassFile
def u (s : String) : CpInfo := .utf8 (stringToUtf16 s)
/-- a pool by its gaps: so many unusable entries, then the entry; so many at the end -/
def gap : Nat → List CpInfo → List CpInfo
  | 0, r => r
  | n + 1, r => .unusable :: gap n r
def poolList (es : List (Nat × CpInfo)) (last : Nat) : List CpInfo := es.foldr (fun e r => gap e.1 (e.2 :: r)) (gap last [])
def pool (es : List (Nat × CpInfo)) (last : Nat) : Array CpInfo := ⟨poolList es last⟩
def fileOf (pool : Array CpInfo) (this : Nat) (attrs : Array Attribute := #[]) (ms : Array MethodInfo := #[]) (fl : Nat := 33) (sup : Nat := 0) (ifs : Array Nat := #[]) (fds : Array FieldInfo := #[]) : ClassFile where
  minorVersion := 0
  majorVersion := 65
  constantPool := pool
  accessFlags := fl
  thisClass := this
  superClass := sup
  interfaces := ifs
  fields := fds
  methods := ms
  attributes := attrs
def plain (name : String) (sup : Option ClassId) : Class where
  name := name
  kind := .ordinary
  loader := none
  accessFlags := 33
  super := sup
  interfaces := #[]
  cf := none
  fields := #[]
  methods := #[]
  instanceTypes := #[]
  staticTypes := #[]
  resolved := #[]
  callSites := []
  init := .initialized
  statics := none
  mirror := none

def pool0 : Array CpInfo := pool [(5, u "<init>"), (0, u "()V"), (1, .class_ 10), (1, u "java/lang/Object")] 113

def k0c0 : Code := { maxStack := 0, maxLocals := 1, code := object_method_1_code, exceptionTable := #[], attributes := #[] }
def k0m0 : Method := { name := "<init>", desc := "()V", sig := { parameters := [], returnType := none }, accessFlags := 1, code := some k0c0 }
/-- java/lang/Object -/
def k0 : Class := { plain "java/lang/Object" none with
  accessFlags := 33
  interfaces := #[]
  cf := some (fileOf pool0 8 #[] #[{ accessFlags := 1, nameIndex := 5, descriptorIndex := 6, attributes := #[] }] 33 0 #[] #[])
  fields := #[]
  methods := #[k0m0]
  instanceTypes := #[]
  staticTypes := #[]
  resolved := Array.replicate 124 none
  statics := none }

def pool1 : Array CpInfo := pool [(2, .class_ 4), (1, u "java/lang/Object"), (0, u "<init>"), (0, u "()V"), (0, .class_ 8), (0, u "com/example/manana/manana/wire/MessageHead$Framing"), (0, .methodref 7 10), (0, .nameAndType 5 11), (0, u "(JZ)V"), (2, .long 9223372036854775807), (1, .methodref 7 17), (0, .nameAndType 18 19), (0, u "undelimited"), (0, u "()Z"), (0, .fieldref 7 21), (0, .nameAndType 22 23), (0, u "NONE"), (0, u "Lcom/example/manana/manana/wire/MessageHead$Framing;"), (0, .fieldref 7 25), (0, .nameAndType 26 23), (0, u "CHUNKED"), (0, .methodref 7 28), (0, .nameAndType 29 30), (0, u "length"), (0, u "(J)Lcom/example/manana/manana/wire/MessageHead$Framing;"), (0, .class_ 32), (0, u "com/example/manana/manana/wire/FramingUndelimitedPinLaw"), (2, u "law"), (0, u "(JI)Z")] 7

def k1m0 : Method := { name := "<init>", desc := "()V", sig := { parameters := [], returnType := none }, accessFlags := 1, code := none }
def k1c1 : Code := { maxStack := 5, maxLocals := 8, code := code, exceptionTable := #[], attributes := #[] }
def k1m1 : Method := { name := "law", desc := "(JI)Z", sig := { parameters := [.long, .int], returnType := some .boolean }, accessFlags := 9, code := some k1c1 }
/-- com/example/manana/manana/wire/FramingUndelimitedPinLaw -/
def k1 : Class := { plain "com/example/manana/manana/wire/FramingUndelimitedPinLaw" (some 0) with
  accessFlags := 49
  interfaces := #[]
  cf := some (fileOf pool1 31 #[] #[{ accessFlags := 1, nameIndex := 5, descriptorIndex := 6, attributes := #[] }, { accessFlags := 9, nameIndex := 35, descriptorIndex := 36, attributes := #[] }] 49 2 #[] #[])
  fields := #[]
  methods := #[k1m0, k1m1]
  instanceTypes := #[]
  staticTypes := #[]
  resolved := Array.replicate 44 none
  statics := none }

def pool2 : Array CpInfo := pool [(1, .methodref 2 3), (0, .class_ 4), (0, .nameAndType 5 6), (0, u "java/lang/Object"), (0, u "<init>"), (0, u "()V"), (0, .class_ 8), (0, u "java/lang/Record")] 13

def k2c0 : Code := { maxStack := 1, maxLocals := 1, code := jdk_30_method_1_code, exceptionTable := #[], attributes := #[] }
def k2m0 : Method := { name := "<init>", desc := "()V", sig := { parameters := [], returnType := none }, accessFlags := 4, code := some k2c0 }
/-- java/lang/Record -/
def k2 : Class := { plain "java/lang/Record" (some 0) with
  accessFlags := 1057
  interfaces := #[]
  cf := some (fileOf pool2 7 #[] #[{ accessFlags := 4, nameIndex := 5, descriptorIndex := 6, attributes := #[] }] 1057 2 #[] #[])
  fields := #[]
  methods := #[k2m0]
  instanceTypes := #[]
  staticTypes := #[]
  resolved := Array.replicate 22 none
  statics := none }

def pool3 : Array CpInfo := pool [(1, .methodref 2 3), (0, .class_ 4), (0, .nameAndType 5 6), (0, u "java/lang/Record"), (0, u "<init>"), (0, u "()V"), (0, .fieldref 8 9), (0, .class_ 10), (0, .nameAndType 11 12), (0, u "com/example/manana/manana/wire/MessageHead$Framing"), (0, u "length"), (0, u "J"), (0, .fieldref 8 14), (0, .nameAndType 15 16), (0, u "chunked"), (0, u "Z"), (0, .methodref 8 18), (0, .nameAndType 5 19), (0, u "(JZ)V"), (16, u "CHUNKED"), (0, u "Lcom/example/manana/manana/wire/MessageHead$Framing;"), (2, u "NONE"), (3, u "(J)Lcom/example/manana/manana/wire/MessageHead$Framing;"), (0, u "undelimited"), (0, u "()Z"), (9, .class_ 57), (0, u "com/example/manana/manana/wire/MessageHead")] 20

def k3c0 : Code := { maxStack := 3, maxLocals := 4, code := prog_94_method_1_code, exceptionTable := #[], attributes := #[] }
def k3m0 : Method := { name := "<init>", desc := "(JZ)V", sig := { parameters := [.long, .boolean], returnType := none }, accessFlags := 1, code := some k3c0 }
def k3c1 : Code := { maxStack := 5, maxLocals := 2, code := prog_94_method_2_code, exceptionTable := #[], attributes := #[] }
def k3m1 : Method := { name := "length", desc := "(J)Lcom/example/manana/manana/wire/MessageHead$Framing;", sig := { parameters := [.long], returnType := some (.object "com/example/manana/manana/wire/MessageHead$Framing") }, accessFlags := 9, code := some k3c1 }
def k3c2 : Code := { maxStack := 4, maxLocals := 1, code := prog_94_method_3_code, exceptionTable := #[], attributes := #[] }
def k3m2 : Method := { name := "undelimited", desc := "()Z", sig := { parameters := [], returnType := some .boolean }, accessFlags := 1, code := some k3c2 }
/-- com/example/manana/manana/wire/MessageHead$Framing -/
def k3 : Class := { plain "com/example/manana/manana/wire/MessageHead$Framing" (some 2) with
  accessFlags := 49
  interfaces := #[]
  cf := some (fileOf pool3 8 #[.nestHost 56] #[{ accessFlags := 1, nameIndex := 5, descriptorIndex := 19, attributes := #[] }, { accessFlags := 9, nameIndex := 11, descriptorIndex := 44, attributes := #[] }, { accessFlags := 1, nameIndex := 45, descriptorIndex := 46, attributes := #[] }] 49 2 #[] #[{ accessFlags := 18, nameIndex := 11, descriptorIndex := 12, attributes := #[] }, { accessFlags := 18, nameIndex := 15, descriptorIndex := 16, attributes := #[] }, { accessFlags := 25, nameIndex := 36, descriptorIndex := 37, attributes := #[] }, { accessFlags := 25, nameIndex := 40, descriptorIndex := 37, attributes := #[] }])
  fields := #[{ name := "length", type := .long, accessFlags := 18, slot := 0, constantValue := 0 }, { name := "chunked", type := .boolean, accessFlags := 18, slot := 1, constantValue := 0 }, { name := "CHUNKED", type := (.object "com/example/manana/manana/wire/MessageHead$Framing"), accessFlags := 25, slot := 0, constantValue := 0 }, { name := "NONE", type := (.object "com/example/manana/manana/wire/MessageHead$Framing"), accessFlags := 25, slot := 1, constantValue := 0 }]
  methods := #[k3m0, k3m1, k3m2]
  instanceTypes := #[.long, .boolean]
  staticTypes := #[(.object "com/example/manana/manana/wire/MessageHead$Framing"), (.object "com/example/manana/manana/wire/MessageHead$Framing")]
  resolved := Array.replicate 78 none
  statics := some 0 }

def pool4 : Array CpInfo := pool [(1, u "java/lang/Cloneable"), (0, .class_ 1), (0, u "java/lang/Object"), (0, .class_ 3)] 3

/-- java/lang/Cloneable -/
def k4 : Class := { plain "java/lang/Cloneable" (some 0) with
  accessFlags := 1537
  interfaces := #[]
  cf := some (fileOf pool4 2 #[] #[] 1537 4 #[] #[])
  fields := #[]
  methods := #[]
  instanceTypes := #[]
  staticTypes := #[]
  resolved := Array.replicate 8 none
  statics := none }

def pool5 : Array CpInfo := pool [(1, u "java/io/Serializable"), (0, .class_ 1), (0, u "java/lang/Object"), (0, .class_ 3)] 3

/-- java/io/Serializable -/
def k5 : Class := { plain "java/io/Serializable" (some 0) with
  accessFlags := 1537
  interfaces := #[]
  cf := some (fileOf pool5 2 #[] #[] 1537 4 #[] #[])
  fields := #[]
  methods := #[]
  instanceTypes := #[]
  staticTypes := #[]
  resolved := Array.replicate 8 none
  statics := none }

/-- the primitive byte -/
def k6 : Class := { plain "byte" none with kind := .primitive 'B', accessFlags := 0x411 }
/-- [B -/
def k7 : Class := { plain "[B" (some 0) with kind := .array 6 .byte, interfaces := #[4, 5], accessFlags := 1041 }

/-- the primitive int -/
def k8 : Class := { plain "int" none with kind := .primitive 'I', accessFlags := 0x411 }
/-- [I -/
def k9 : Class := { plain "[I" (some 0) with kind := .array 8 .int, interfaces := #[4, 5], accessFlags := 1041 }

def heap : Heap := #[{ cls := 3, slots := #[.ref 2, .ref 1], vm := .statics 3 },
  { cls := 3, slots := #[.long (-1), .int 0], vm := .none },
  { cls := 3, slots := #[.long (-1), .int 1], vm := .none }]
def classes : Array Class := #[k0, k1, k2, k3, k4, k5, k6, k7, k8, k9]
def interned : List (Array UInt16 × Addr) := []
def slotsUsed : Nat := 6
def theMethod : MethodId := ⟨1, 1⟩
def args0 : Array Value := #[.long 5, .int 1]
def aboutOver (below : List Frame) : State where
  vm := { classes := classes, interned := interned.toArray }
  heap := heap
  slotsUsed := slotsUsed
  threads := #[{ frames := .invoking theMethod args0 :: below }]
def below0 : List Frame := [.native { method := ⟨0, 0⟩, args := #[] }]
def about1 : State := aboutOver below0
def p0 : Program := .bare "" "" ""
def e0 : Env := launch0.env 0 0 0
theorem w_frames : about1.frames = Frame.invoking theMethod args0 :: below0 := rfl
set_option maxRecDepth 65536 in
theorem w_args : argsFit about1.vm theMethod args0 = true := by decide +kernel
set_option maxRecDepth 65536 in
theorem w_heap : heapFits about1 = true := by decide +kernel
set_option maxRecDepth 65536 in
theorem w_runnable : about1.curStatus? = some .runnable := by decide +kernel
set_option maxRecDepth 65536 in
theorem w_alone : about1.alone = true := by decide +kernel
set_option maxRecDepth 65536 in
theorem w_named : about1.methodNamed? x = some theMethod := by decide +kernel
set_option maxRecDepth 65536 in
theorem w_hears : about1.hears theMethod below0 = true := by decide +kernel
set_option maxRecDepth 65536 in
theorem w_ripe : about1.ripe theMethod args0 below0 = true := by decide +kernel
theorem w_running : about1.status = .running := rfl
set_option maxRecDepth 65536 in
theorem w_room : about1.hasRoom e0.platform room_1 = true :=
  launch0.hasRoom_least _ room_1 (by decide +kernel) (by decide +kernel) (by decide +kernel) (by decide +kernel) (by decide +kernel) (by decide +kernel)
theorem allAtoms_all (ts : List Jvm.Cond) (a : Array Jvm.Value) (st : Jvm.State) : (allAtoms ts).before a st = ts.all (fun c => c.before a st) := by
  induction ts with
  | nil => rfl
  | cons c t ih =>
    show (Jvm.Cond.and c (allAtoms t)).before a st = _
    rw [Jvm.Cond.before_and, ih, List.all_cons]
def words1 : List Jvm.Cond := Jvm.Cond.code x code maxLocals ret :: tables_1
/-- a 'code' word, met by the world's own term for the bytes: nothing is compared byte by byte -/
theorem code_word {y : MethodName} {bytes : ByteArray} {mx : Nat} {rt : Option FieldType} {a : Array Value} {s : State} {m : MethodId} {meth : Method} {c : Code} (h1 : s.methodNamed? y = some m) (h2 : s.vm.method? m = some meth) (h3 : meth.code = some c) (h4 : c.code = bytes)
    (h5 : (c.maxLocals == mx && c.exceptionTable.isEmpty && decide (c.maxStack ≤ mostOperands) && decide (meth.sig.returnType = rt) && !meth.locks && decide (parseMethodDescriptor y.desc = some meth.sig)) = true) : (Jvm.Cond.code y bytes mx rt).before a s = true := by
  simp only [Bool.and_eq_true, beq_iff_eq, Bool.not_eq_true', decide_eq_true_eq] at h5
  obtain ⟨⟨⟨⟨⟨g1, g2⟩, g3⟩, g4⟩, g5⟩, g6⟩ := h5
  simp [Cond.before, Cond.holds, Cond.value, h1, h2, h3, h4, g1, g2, g3, g4, g5, g6]
def isCode : Jvm.Cond → Bool
  | .code _ _ _ _ => true
  | _ => false
theorem all_split {L : List Jvm.Cond} {P : Jvm.Cond → Bool} (h1 : L.all (fun c => isCode c || P c) = true) (h2 : ∀ c ∈ L.filter isCode, P c = true) : L.all P = true := by
  refine List.all_eq_true.mpr fun c hc => ?_
  have h := List.all_eq_true.mp h1 c hc
  rcases Bool.eq_false_or_eq_true (isCode c) with hi | hi
  · exact h2 c (List.mem_filter.mpr ⟨hc, hi⟩)
  · simpa [hi] using h
set_option maxRecDepth 65536 in
theorem w_c0 : (Jvm.Cond.code x code maxLocals ret).before args0 about1 = true := code_word (m := ⟨1, 1⟩) (meth := k1m1) (c := k1c1) (by decide +kernel) rfl rfl rfl (by decide +kernel)
set_option maxRecDepth 65536 in
theorem w_c1 : (Jvm.Cond.code ({ cls := "com/example/manana/manana/wire/MessageHead$Framing", name := "<init>", desc := "(JZ)V" } : Jvm.MethodName) prog_94_method_1_code (4 : Nat) (Option.none : Option Jvm.ClassFile.FieldType)).before args0 about1 = true := code_word (m := ⟨3, 0⟩) (meth := k3m0) (c := k3c0) (by decide +kernel) rfl rfl rfl (by decide +kernel)
set_option maxRecDepth 65536 in
theorem w_c2 : (Jvm.Cond.code ({ cls := "java/lang/Record", name := "<init>", desc := "()V" } : Jvm.MethodName) jdk_30_method_1_code (1 : Nat) (Option.none : Option Jvm.ClassFile.FieldType)).before args0 about1 = true := code_word (m := ⟨2, 0⟩) (meth := k2m0) (c := k2c0) (by decide +kernel) rfl rfl rfl (by decide +kernel)
set_option maxRecDepth 65536 in
theorem w_c3 : (Jvm.Cond.code ({ cls := "java/lang/Object", name := "<init>", desc := "()V" } : Jvm.MethodName) object_method_1_code (1 : Nat) (Option.none : Option Jvm.ClassFile.FieldType)).before args0 about1 = true := code_word (m := ⟨0, 0⟩) (meth := k0m0) (c := k0c0) (by decide +kernel) rfl rfl rfl (by decide +kernel)
set_option maxRecDepth 65536 in
theorem w_c4 : (Jvm.Cond.code ({ cls := "com/example/manana/manana/wire/MessageHead$Framing", name := "undelimited", desc := "()Z" } : Jvm.MethodName) prog_94_method_3_code (1 : Nat) (Option.some Jvm.ClassFile.FieldType.boolean)).before args0 about1 = true := code_word (m := ⟨3, 2⟩) (meth := k3m2) (c := k3c2) (by decide +kernel) rfl rfl rfl (by decide +kernel)
set_option maxRecDepth 65536 in
theorem w_c5 : (Jvm.Cond.code ({ cls := "com/example/manana/manana/wire/MessageHead$Framing", name := "length", desc := "(J)Lcom/example/manana/manana/wire/MessageHead$Framing;" } : Jvm.MethodName) prog_94_method_2_code (2 : Nat) (Option.some (Jvm.ClassFile.FieldType.object "com/example/manana/manana/wire/MessageHead$Framing"))).before args0 about1 = true := code_word (m := ⟨3, 1⟩) (meth := k3m1) (c := k3c1) (by decide +kernel) rfl rfl rfl (by decide +kernel)
def codes1 : List Jvm.Cond := [Jvm.Cond.code x code maxLocals ret, Jvm.Cond.code ({ cls := "com/example/manana/manana/wire/MessageHead$Framing", name := "<init>", desc := "(JZ)V" } : Jvm.MethodName) prog_94_method_1_code (4 : Nat) (Option.none : Option Jvm.ClassFile.FieldType), Jvm.Cond.code ({ cls := "java/lang/Record", name := "<init>", desc := "()V" } : Jvm.MethodName) jdk_30_method_1_code (1 : Nat) (Option.none : Option Jvm.ClassFile.FieldType), Jvm.Cond.code ({ cls := "java/lang/Object", name := "<init>", desc := "()V" } : Jvm.MethodName) object_method_1_code (1 : Nat) (Option.none : Option Jvm.ClassFile.FieldType), Jvm.Cond.code ({ cls := "com/example/manana/manana/wire/MessageHead$Framing", name := "undelimited", desc := "()Z" } : Jvm.MethodName) prog_94_method_3_code (1 : Nat) (Option.some Jvm.ClassFile.FieldType.boolean), Jvm.Cond.code ({ cls := "com/example/manana/manana/wire/MessageHead$Framing", name := "length", desc := "(J)Lcom/example/manana/manana/wire/MessageHead$Framing;" } : Jvm.MethodName) prog_94_method_2_code (2 : Nat) (Option.some (Jvm.ClassFile.FieldType.object "com/example/manana/manana/wire/MessageHead$Framing"))]
set_option maxRecDepth 65536 in
theorem codes_eq : words1.filter isCode = codes1 := rfl
theorem w_codes : ∀ c ∈ words1.filter isCode, c.before args0 about1 = true := by
  rw [codes_eq]
  intro c hc
  simp only [codes1, List.mem_cons, List.not_mem_nil, or_false] at hc
  rcases hc with rfl | rfl | rfl | rfl | rfl | rfl
  · exact w_c0
  · exact w_c1
  · exact w_c2
  · exact w_c3
  · exact w_c4
  · exact w_c5
set_option maxRecDepth 65536 in
theorem w_t1 : (words1.take 24).all (fun c => isCode c || c.before args0 about1) = true := by decide +kernel
set_option maxRecDepth 65536 in
theorem w_t2 : (words1.drop 24).all (fun c => isCode c || c.before args0 about1) = true := by decide +kernel
theorem w_tables : (allAtoms (Jvm.Cond.code x code maxLocals ret :: tables_1)).before args0 about1 = true := by
  rw [allAtoms_all]
  show words1.all (fun c => c.before args0 about1) = true
  refine all_split ?_ w_codes
  rw [← List.take_append_drop 24 words1, List.all_append, w_t1, w_t2]
  rfl
set_option maxRecDepth 65536 in
theorem w_case : (Jvm.Cond.and given_1 narrow_1).before args0 about1 = true := by decide +kernel
theorem w_applies : (headSpec (Jvm.Cond.code x code maxLocals ret :: tables_1) room_1).applies x e0.platform about1 = true :=
  (Spec.applies_iff w_frames).mpr ⟨w_running, w_runnable, w_alone, w_named, w_hears, w_ripe, w_room, w_tables⟩
theorem atStart : AtStart classFile x code maxLocals ret World_1 tables_1 room_1 Calls_1 rest_1 Pre_1 launch0 p0 e0 about1 theMethod args0 below0 :=
  ⟨lists_1, trivial, launch0.admits_env _ _ _, launch0.least_env, fairChoices_fair.cas, fairChoices_fair.clock, w_frames, w_args, w_heap, w_applies, trivial, trivial, w_case⟩
end start1
theorem witness_1 : WitnessClaimed_1 := ⟨start1.p0, start1.e0, start1.about1, start1.theMethod, start1.args0, start1.below0, start1.atStart⟩
end Jvm.Pilot.@@N@@
