import JvmDerived
import JvmDerived.Pilot.@@N@@Statement
import JvmDerived.Pilot.@@N@@Code
set_option linter.unusedVariables false
set_option linter.unusedSimpArgs false
namespace Jvm.Pilot.@@N@@
open Jvm Jvm.ClassFile Sem Op Lib Jvm.Free Jvm.Stand Jvm.LawKit Jvm.RoadKit Bundle Jvm.Pilot.@@N@@.Jvm.D
section Own
variable {p : Program} {l : Launch} {e : Env} {R : Room} {s : State} {m : MethodId} {args : Array Value} {below : List Frame} {meth : Method} {c : Code} {T : State} {locs : List Loc} {cells slots : Nat} {Z : State} {a0 : Array Value} {h : Heap}
/-- from the state S the body ends well: it returns v, leaves the heap and the written places as Q says, within kc cells and ks slots -/
def Run (p : Program) (e : Env) (below : List Frame) (s : State) (Q : Option Value → Heap → List Loc → Prop) (kc ks : Nat) (S : State) : Prop := ∃ s₂ o, Steps p.tables e below S s₂ ∧ s₂.status = .running ∧ Ended s₂ below o ∧ ∃ v L, o = .returned v ∧ Q v s₂.heap L ∧ FrameEnd s o s₂ L kc ks
variable {Q : Option Value → Heap → List Loc → Prop} {kc ks : Nat}
theorem Run.pre {S S' : State} (h : ∀ t, Steps p.tables e below S' t → Steps p.tables e below S t) (k : Run p e below s Q kc ks S') : Run p e below s Q kc ks S := by
  obtain ⟨s₂, o, h1, r⟩ := k; exact ⟨s₂, o, h _ h1, r⟩
theorem Run.out (X : Stand p l e R s m args below meth c T locs cells slots) (hx : p.tables.exec = Jvm.exec) {pc : Nat} {Ls : Array Slot} {w : Value} {t : FieldType} {i : Instr} {rest : List Value} (hret : meth.sig.returnType = some t) (hn : narrow t w = w)
    (hi : (i = .ireturn ∧ (t = .int ∨ t = .boolean ∨ t = .byte ∨ t = .char ∨ t = .short) ∧ ∃ z, w = .int z) ∨ (i = .lreturn ∧ t = .long ∧ ∃ z, w = .long z) ∨ (i = .dreturn ∧ t = .double ∧ ∃ z, w = .double z) ∨ (i = .freturn ∧ t = .float ∧ ∃ z, w = .float z) ∨ (i = .areturn ∧ t.isReference = true ∧ w.isRef = true))
    (hlk : meth.locks = false) (hd : decode c.code pc = .ok (i, 1)) (hq : Q (some w) T.heap locs) (hc : cells ≤ kc) (hs : slots ≤ ks) : Run p e below s Q kc ks (T.setTop (mkF m pc Ls (w :: rest))) := by
  obtain ⟨fs, hr, hrun, hended, hW, hsame⟩ := X.leave (v := some w) (fun h => by rw [hret] at h; cases h) hlk
  exact ⟨_, _, retOut X hx hret hn hi hd hr, hrun, hended, _, _, rfl, hq, ⟨_, rfl⟩, hW, hsame.mono hc hs⟩
theorem Run.retN (X : Stand p l e R s m args below meth c T locs cells slots) (hx : p.tables.exec = Jvm.exec) {pc : Nat} {Ls : Array Slot} {z : Int32} {t : FieldType} {rest : List Value} (hret : meth.sig.returnType = some t) (ht : t = .boolean ∨ t = .byte ∨ t = .char ∨ t = .short) (hlk : meth.locks = false)
    (hd : decode c.code pc = .ok (.ireturn, 1)) (hq : Q (some (.int (nar t z))) T.heap locs) (hc : cells ≤ kc) (hs : slots ≤ ks) : Run p e below s Q kc ks (T.setTop (mkF m pc Ls (.int z :: rest))) := by
  obtain ⟨fs, hr, hrun, hended, hW, hsame⟩ := X.leave (v := some (.int (nar t z))) (fun h => by rw [hret] at h; cases h) hlk
  exact ⟨_, _, Jvm.RoadKit.retN X hx hret ht hd hr, hrun, hended, _, _, rfl, hq, ⟨_, rfl⟩, hW, hsame.mono hc hs⟩
theorem Run.retI (X : Stand p l e R s m args below meth c T locs cells slots) (hx : p.tables.exec = Jvm.exec) {pc : Nat} {Ls : Array Slot} {z : Int32} {rest : List Value} (hret : meth.sig.returnType = some .int) (hlk : meth.locks = false)
    (hd : decode c.code pc = .ok (.ireturn, 1)) (hq : Q (some (.int z)) T.heap locs) (hc : cells ≤ kc) (hs : slots ≤ ks) : Run p e below s Q kc ks (T.setTop (mkF m pc Ls (.int z :: rest))) := Run.out X hx hret rfl (Or.inl ⟨rfl, Or.inl rfl, z, rfl⟩) hlk hd hq hc hs
theorem Run.retJ (X : Stand p l e R s m args below meth c T locs cells slots) (hx : p.tables.exec = Jvm.exec) {pc : Nat} {Ls : Array Slot} {z : Int64} {rest : List Value} (hret : meth.sig.returnType = some .long) (hlk : meth.locks = false)
    (hd : decode c.code pc = .ok (.lreturn, 1)) (hq : Q (some (.long z)) T.heap locs) (hc : cells ≤ kc) (hs : slots ≤ ks) : Run p e below s Q kc ks (T.setTop (mkF m pc Ls (.long z :: rest))) := Run.out X hx hret rfl (Or.inr (Or.inl ⟨rfl, rfl, z, rfl⟩)) hlk hd hq hc hs
theorem Run.retA (X : Stand p l e R s m args below meth c T locs cells slots) (hx : p.tables.exec = Jvm.exec) {pc : Nat} {Ls : Array Slot} {w : Value} {t : FieldType} {rest : List Value} (hret : meth.sig.returnType = some t) (ht : t.isReference = true) (hw : w.isRef = true) (hlk : meth.locks = false)
    (hd : decode c.code pc = .ok (.areturn, 1)) (hq : Q (some w) T.heap locs) (hc : cells ≤ kc) (hs : slots ≤ ks) : Run p e below s Q kc ks (T.setTop (mkF m pc Ls (w :: rest))) := Run.out X hx hret (by cases t <;> cases w <;> simp_all [FieldType.isReference, Value.isRef, narrow]) (Or.inr (Or.inr (Or.inr (Or.inr ⟨rfl, ht, hw⟩)))) hlk hd hq hc hs
theorem Run.retV (X : Stand p l e R s m args below meth c T locs cells slots) (hx : p.tables.exec = Jvm.exec) {pc : Nat} {Ls : Array Slot} (hret : meth.sig.returnType = none) (hlk : meth.locks = false)
    (hd : decode c.code pc = .ok (.return_, 1)) (hq : Q none T.heap locs) (hc : cells ≤ kc) (hs : slots ≤ ks) : Run p e below s Q kc ks (T.setTop (mkF m pc Ls [])) := by
  obtain ⟨fs, hr, hrun, hended, hW, hsame⟩ := X.leave (v := none) (fun _ => rfl) hlk
  exact ⟨_, _, X.returnOut hx hret hd hr, hrun, hended, _, _, rfl, hq, ⟨_, rfl⟩, hW, hsame.mono hc hs⟩
/-- a body's contract, at the heap h0 and the arguments as' -/
def Con (l : Launch) (y : MethodName) (bytes : ByteArray) (maxL : Nat) (ret : Option FieldType) (rm : Room) (Z : State) (as' : Array Value) (h0 : Heap) (Q : Option Value → Heap → List Loc → Prop) : Prop :=
  ∀ ws, MetFree l y (head1 (Jvm.Cond.code y bytes maxL ret :: ws) rm) (fun a U => a = as' ∧ Z.Warmed39 U.vm ∧ U.heap = h0) (fun _ _ _ _ _ => True) (fun _ U o U' => ∃ v L, o = .returned v ∧ Q v U'.heap L ∧ FrameEnd U o U' L rm.cells rm.slots)
theorem Con.mk {y : MethodName} {bytes : ByteArray} {maxL : Nat} {ret : Option FieldType} {rm : Room} {as' : Array Value} {h0 : Heap} {F : MethodId → JFrame} (hpl : plainFor y = true) (hef : ∀ m, entryFrame m as' maxL = F m)
    (body : ∀ (p : Program) (e : Env) (s : State) (m : MethodId) (below : List Frame) (meth : Method) (c : Code) (s₁ : State), p.tables.exec = Jvm.exec → c.code = bytes → c.maxLocals = maxL → s.vm.findClass y.cls = some m.cls → meth.name = y.name → meth.sig.returnType = ret → meth.locks = false → Z.Warmed39 s.vm →
      Stand p l e rm s m as' below meth c s₁ [] 0 0 → s₁.heap = h0 → Run p e below s Q rm.cells rm.slots (s₁.setTop (F m))) : Con l y bytes maxL ret rm Z as' h0 Q := by
  intro ws
  refine MetFree.of_bodySF hpl hisR ?_
  intro p e s m args below meth c s₁ Bd hml0 hP hK
  obtain ⟨rfl, hZ, hh⟩ := hP
  have k := body p e s m below meth c s₁ Bd.exec Bd.bytes hml0 (findClass_of_methodNamed Bd.named) (name_of_methodNamed Bd.named Bd.method).1 Bd.returns Bd.notSynchronized hZ (Stand.of_body Bd) (by rw [← hh, Bd.state]; rfl)
  rw [← hef m] at k
  exact k
theorem Con.back {y : MethodName} {bytes : ByteArray} {maxL : Nat} {ret : Option FieldType} {rm : Room} {len W : Nat} {as' : Array Value} (hM : Con l y bytes maxL ret rm Z as' h Q) (hZ : Z.Warmed39 s.vm) (wc : (Jvm.Cond.code y bytes maxL ret).before a0 Z = true) (wz : (Jvm.Cond.initialized y.cls).before a0 Z = true) (hf : rm.frames + 1 ≤ R.frames) (hl : W + (maxL + 11) + rm.locals ≤ R.locals) :
    Back l R p e below s args y len W (fun A a => a = as' ∧ A.U.heap = h ∧ A.cells + rm.cells ≤ R.cells ∧ A.slots + rm.slots ≤ R.slots) (fun A _ v B => ∃ L, Q v B.U.heap L ∧ B.locs = A.locs ++ L ∧ B.cells = A.cells + rm.cells ∧ B.slots = A.slots + rm.slots) :=
  backOf (hM []) hZ wc wz hf hl
section Calls
variable {y : MethodName} {bytes : ByteArray} {maxL : Nat} {rt : Option FieldType} {rm : Room} {W : Nat} {own : String} {index : Nat} {Qc : Option Value → Heap → List Loc → Prop} {g : JFrame} {argsL rest : List Value} {as' : Array Value}
theorem Run.callS (X : Stand p l e R s m args below meth c T locs cells slots) (hx : p.tables.exec = Jvm.exec) (hZ : Z.Warmed39 s.vm) (hown : s.vm.findClass own = some m.cls) (w1 : (Jvm.Cond.methodLink own index y).before a0 Z = true) (w2 : (Jvm.Cond.static y).before a0 Z = true) (w3 : (Jvm.Cond.initialized y.cls).before a0 Z = true) (w4 : (Jvm.Cond.code y bytes maxL rt).before a0 Z = true)
    (hy : y.cls ≠ "java/lang/invoke/MethodHandle" ∧ y.cls ≠ "java/lang/invoke/VarHandle") (hM : Con l y bytes maxL rt rm Z argsL.toArray h Qc) (eT : T.heap = h) (hfr : rm.frames + 1 ≤ R.frames) (hlo : W + (maxL + 11) + rm.locals ≤ R.locals) (hce : cells + rm.cells ≤ R.cells) (hsl : slots + rm.slots ≤ R.slots)
    (hg : g.method = m) (hsize : g.locals.size = c.maxLocals) (hlen : ∀ sig, parseMethodDescriptor y.desc = some sig → argsL.length = sig.parameters.length) (hstack : g.stack = argsL.reverse ++ rest) (hW : 2 * g.monitorRoom + (rest.map fun v => v.category).sum ≤ W) (hdg : decode c.code g.pc = .ok (.invokestatic index, 3))
    (k : ∀ v T' L, Stand p l e R s m args below meth c T' (locs ++ L) (cells + rm.cells) (slots + rm.slots) → Qc v T'.heap L → Run p e below s Q kc ks (T'.setTop { g with pc := g.pc + 3, stack := v.toList ++ rest })) : Run p e below s Q kc ks (T.setTop g) := by
  obtain ⟨v, vm₁, ⟨T', L', c', n'⟩, -, X', ⟨L, hQ, l1, l2, l3⟩, st⟩ := Jvm.LawKit.callS X hx hown (mvT hZ w1) (mvT hZ w2) (mvT hZ w3) (mvT hZ w4) hy (hM.back (W := W) hZ w4 w3 hfr hlo) hg hsize hlen hstack hW hdg (fun _ _ => ⟨rfl, eT, hce, hsl⟩)
  dsimp only [Pt.U, Pt.locs, Pt.cells, Pt.slots] at X' l1 l2 l3 st hQ
  subst l1 l2 l3
  exact Run.pre st (k v T' L X' hQ)
theorem Run.callI (X : Stand p l e R s m args below meth c T locs cells slots) (hx : p.tables.exec = Jvm.exec) (hZ : Z.Warmed39 s.vm) (hy1 : y.name = "<init>") (hown : s.vm.findClass own = some m.cls) (w1 : (Jvm.Cond.methodLink own index y).before a0 Z = true) (w2 : (Jvm.Cond.instanceMethod y).before a0 Z = true) (w4 : (Jvm.Cond.code y bytes maxL none).before a0 Z = true) (w3 : (Jvm.Cond.initialized y.cls).before a0 Z = true)
    (hy : y.cls ≠ "java/lang/invoke/MethodHandle" ∧ y.cls ≠ "java/lang/invoke/VarHandle") {a : Addr} (hM : Con l y bytes maxL none rm Z (.ref a :: argsL).toArray h Qc) (eT : T.heap = h) (hfr : rm.frames + 1 ≤ R.frames) (hlo : W + (maxL + 11) + rm.locals ≤ R.locals) (hce : cells + rm.cells ≤ R.cells) (hsl : slots + rm.slots ≤ R.slots)
    (hg : g.method = m) (hsize : g.locals.size = c.maxLocals) (hlen : ∀ sig, parseMethodDescriptor y.desc = some sig → argsL.length = sig.parameters.length) (hstack : g.stack = argsL.reverse ++ .ref a :: rest) (hW : 2 * g.monitorRoom + (rest.map fun v => v.category).sum ≤ W) (hdg : decode c.code g.pc = .ok (.invokespecial index, 3))
    (k : ∀ v T' L, Stand p l e R s m args below meth c T' (locs ++ L) (cells + rm.cells) (slots + rm.slots) → Qc v T'.heap L → Run p e below s Q kc ks (T'.setTop { g with pc := g.pc + 3, stack := v.toList ++ rest })) : Run p e below s Q kc ks (T.setTop g) := by
  obtain ⟨v, vm₁, ⟨T', L', c', n'⟩, -, X', ⟨L, hQ, l1, l2, l3⟩, st⟩ := X.specialBack hx hy1 hown (mvT hZ w1) (mvT hZ w2) (mvT hZ w4) hy (hM.back (W := W) hZ w4 w3 hfr hlo) hg hsize (Steps.refl _) hlen hstack hW hdg (fun _ _ => ⟨rfl, eT, hce, hsl⟩)
  dsimp only [Pt.U, Pt.locs, Pt.cells, Pt.slots] at X' l1 l2 l3 st hQ
  subst l1 l2 l3
  exact Run.pre (fun _ q => st.trans q) (k v T' L X' hQ)
theorem Run.callP (X : Stand p l e R s m args below meth c T locs cells slots) (hx : p.tables.exec = Jvm.exec) (hZ : Z.Warmed39 s.vm) (hown : s.vm.findClass own = some m.cls) (w1 : (Jvm.Cond.methodLink own index y).before a0 Z = true) (w2 : (Jvm.Cond.instanceMethod y).before a0 Z = true) (w5 : (Jvm.Cond.selects y.cls y y).before a0 Z = true) (w6 : (Jvm.Cond.privateMethod y).before a0 Z = true) (w4 : (Jvm.Cond.code y bytes maxL rt).before a0 Z = true) (w3 : (Jvm.Cond.initialized y.cls).before a0 Z = true)
    (hy : y.cls ≠ "java/lang/invoke/MethodHandle" ∧ y.cls ≠ "java/lang/invoke/VarHandle") {a : Addr} {C : String} (E : Exa Z h a C) (hM : Con l y bytes maxL rt rm Z (.ref a :: argsL).toArray h Qc) (eT : T.heap = h) (hfr : rm.frames + 1 ≤ R.frames) (hlo : W + (maxL + 11) + rm.locals ≤ R.locals) (hce : cells + rm.cells ≤ R.cells) (hsl : slots + rm.slots ≤ R.slots)
    (hg : g.method = m) (hsize : g.locals.size = c.maxLocals) (hlen : ∀ sig, parseMethodDescriptor y.desc = some sig → argsL.length = sig.parameters.length) (hstack : g.stack = argsL.reverse ++ .ref a :: rest) (hW : 2 * g.monitorRoom + (rest.map fun v => v.category).sum ≤ W) (hdg : decode c.code g.pc = .ok (.invokevirtual index, 3))
    (k : ∀ v T' L, Stand p l e R s m args below meth c T' (locs ++ L) (cells + rm.cells) (slots + rm.slots) → Qc v T'.heap L → Run p e below s Q kc ks (T'.setTop { g with pc := g.pc + 3, stack := v.toList ++ rest })) : Run p e below s Q kc ks (T.setTop g) := by
  obtain ⟨cell, kk, q1, -, -, q4, -⟩ := E
  obtain ⟨v, vm₁, ⟨T', L', c', n'⟩, -, X', ⟨L, hQ, l1, l2, l3⟩, st⟩ := X.privateBack hx hown (mvT hZ w1) (mvT hZ w2) (mvT hZ w5) (Cond.privateMethod_at (mvP hZ w6 (args := #[]))) (mvT hZ w4) hy (hM.back (W := W) hZ w4 w3 hfr hlo) hg hsize (Steps.refl _) (a := a) (by rw [eT]; exact q1) (fun q e => by rw [e] at q4; cases q4) hlen hstack hW hdg (fun _ _ => ⟨rfl, eT, hce, hsl⟩)
  dsimp only [Pt.U, Pt.locs, Pt.cells, Pt.slots] at X' l1 l2 l3 st hQ
  subst l1 l2 l3
  exact Run.pre (fun _ q => st.trans q) (k v T' L X' hQ)
theorem Run.callV {z : MethodName} {C : String} (X : Stand p l e R s m args below meth c T locs cells slots) (hx : p.tables.exec = Jvm.exec) (hZ : Z.Warmed39 s.vm) (hown : s.vm.findClass own = some m.cls) (w1 : (Jvm.Cond.methodLink own index y).before a0 Z = true) (w2 : (Jvm.Cond.declares y).before a0 Z = true) (hnf : NotFace s y) (w5 : (Jvm.Cond.selects C y z).before a0 Z = true) (w6 : (Jvm.Cond.instanceMethod z).before a0 Z = true) (w4 : (Jvm.Cond.code z bytes maxL rt).before a0 Z = true) (w3 : (Jvm.Cond.initialized z.cls).before a0 Z = true)
    (hy : y.cls ≠ "java/lang/invoke/MethodHandle" ∧ y.cls ≠ "java/lang/invoke/VarHandle") {b : Addr} (E : Exa Z h b C) (hM : Con l z bytes maxL rt rm Z (.ref b :: argsL).toArray h Qc) (eT : T.heap = h) (hfr : rm.frames + 1 ≤ R.frames) (hlo : W + (maxL + 11) + rm.locals ≤ R.locals) (hce : cells + rm.cells ≤ R.cells) (hsl : slots + rm.slots ≤ R.slots)
    (hg : g.method = m) (hsize : g.locals.size = c.maxLocals) (hlen : ∀ sig, parseMethodDescriptor y.desc = some sig → argsL.length = sig.parameters.length) (hstack : g.stack = argsL.reverse ++ .ref b :: rest) (hW : 2 * g.monitorRoom + (rest.map fun v => v.category).sum ≤ W) (hdg : decode c.code g.pc = .ok (.invokevirtual index, 3))
    (k : ∀ v T' L, Stand p l e R s m args below meth c T' (locs ++ L) (cells + rm.cells) (slots + rm.slots) → Qc v T'.heap L → Run p e below s Q kc ks (T'.setTop { g with pc := g.pc + 3, stack := v.toList ++ rest })) : Run p e below s Q kc ks (T.setTop g) := by
  obtain ⟨cB, kB, qa, qb, qc⟩ := isOf hZ eT E
  obtain ⟨v, vm₁, ⟨T', L', c', n'⟩, -, X', ⟨L, hQ, l1, l2, l3⟩, st⟩ := X.virtualBack hx hown (mvT hZ w1) (mvT hZ w2) hnf (mvT hZ w5) (mvT hZ w6) hy (hM.back (W := W) hZ w4 w3 hfr hlo) qa qc hg hsize (Steps.refl _) hlen hstack hW hdg (fun _ _ => ⟨rfl, eT, hce, hsl⟩)
  dsimp only [Pt.U, Pt.locs, Pt.cells, Pt.slots] at X' l1 l2 l3 st hQ
  subst l1 l2 l3
  exact Run.pre (fun _ q => st.trans q) (k v T' L X' hQ)
theorem Run.callU {z : MethodName} {C owner : String} (X : Stand p l e R s m args below meth c T locs cells slots) (hx : p.tables.exec = Jvm.exec) (hZ : Z.Warmed39 s.vm) (hown : s.vm.findClass own = some m.cls) (w1 : (Jvm.Cond.methodLink own index y).before a0 Z = true) (w2 : (Jvm.Cond.sameMethod y.cls owner y.name y.desc).before a0 Z = true) (w7 : (Jvm.Cond.declares ⟨owner, y.name, y.desc⟩).before a0 Z = true) (w5 : (Jvm.Cond.selects C y z).before a0 Z = true) (w6 : (Jvm.Cond.instanceMethod z).before a0 Z = true) (w4 : (Jvm.Cond.code z bytes maxL rt).before a0 Z = true) (w3 : (Jvm.Cond.initialized z.cls).before a0 Z = true)
    (hy : owner ≠ "java/lang/invoke/MethodHandle" ∧ owner ≠ "java/lang/invoke/VarHandle") {b : Addr} (E : Exa Z h b C) (hM : Con l z bytes maxL rt rm Z (.ref b :: argsL).toArray h Qc) (eT : T.heap = h) (hfr : rm.frames + 1 ≤ R.frames) (hlo : W + (maxL + 11) + rm.locals ≤ R.locals) (hce : cells + rm.cells ≤ R.cells) (hsl : slots + rm.slots ≤ R.slots)
    (hg : g.method = m) (hsize : g.locals.size = c.maxLocals) (hlen : ∀ sig, parseMethodDescriptor y.desc = some sig → argsL.length = sig.parameters.length) (hstack : g.stack = argsL.reverse ++ .ref b :: rest) (hW : 2 * g.monitorRoom + (rest.map fun v => v.category).sum ≤ W) (hdg : decode c.code g.pc = .ok (.invokevirtual index, 3))
    (k : ∀ v T' L, Stand p l e R s m args below meth c T' (locs ++ L) (cells + rm.cells) (slots + rm.slots) → Qc v T'.heap L → Run p e below s Q kc ks (T'.setTop { g with pc := g.pc + 3, stack := v.toList ++ rest })) : Run p e below s Q kc ks (T.setTop g) := by
  obtain ⟨cB, kB, qa, qb, qc⟩ := isOf hZ eT E
  obtain ⟨v, vm₁, ⟨T', L', c', n'⟩, -, X', ⟨L, hQ, l1, l2, l3⟩, st⟩ := X.virtualBackUp hx hown (mvT hZ w1) (mvT hZ w2) (mvT hZ w7) hy (mvT hZ w5) (mvT hZ w6) (hM.back (W := W) hZ w4 w3 hfr hlo) qa qc hg hsize (Steps.refl _) hlen hstack hW hdg (fun _ _ => ⟨rfl, eT, hce, hsl⟩)
  dsimp only [Pt.U, Pt.locs, Pt.cells, Pt.slots] at X' l1 l2 l3 st hQ
  subst l1 l2 l3
  exact Run.pre (fun _ q => st.trans q) (k v T' L X' hQ)
theorem Run.callF {xi : MethodName} {C : String} {count : Nat} (X : Stand p l e R s m args below meth c T locs cells slots) (hx : p.tables.exec = Jvm.exec) (hZ : Z.Warmed39 s.vm) (hown : s.vm.findClass own = some m.cls) (w1 : (Jvm.Cond.methodLink own index xi).before a0 Z = true) (w2 : (Jvm.Cond.declares xi).before a0 Z = true) (w7 : (Jvm.Cond.interfaceMethod xi.cls xi.cls xi.name xi.desc).before args s = true) (w5 : (Jvm.Cond.selects C xi y).before a0 Z = true) (w6 : (Jvm.Cond.instanceMethod y).before a0 Z = true) (w8 : (Jvm.Cond.publicMethod y).before a0 Z = true) (w9 : (Jvm.Cond.unhidden C xi.name xi.desc).before a0 Z = true) (w10 : (Jvm.Cond.castable C xi.cls).before a0 Z = true) (w4 : (Jvm.Cond.code y bytes maxL rt).before a0 Z = true) (w3 : (Jvm.Cond.initialized y.cls).before a0 Z = true)
    (hy : xi.cls ≠ "java/lang/invoke/MethodHandle" ∧ xi.cls ≠ "java/lang/invoke/VarHandle") {b : Addr} (E : Exa Z h b C) (hM : Con l y bytes maxL rt rm Z (.ref b :: argsL).toArray h Qc) (eT : T.heap = h) (hfr : rm.frames + 1 ≤ R.frames) (hlo : W + (maxL + 11) + rm.locals ≤ R.locals) (hce : cells + rm.cells ≤ R.cells) (hsl : slots + rm.slots ≤ R.slots)
    (hg : g.method = m) (hsize : g.locals.size = c.maxLocals) (hlen : ∀ sig, parseMethodDescriptor xi.desc = some sig → argsL.length = sig.parameters.length) (hstack : g.stack = argsL.reverse ++ .ref b :: rest) (hW : 2 * g.monitorRoom + (rest.map fun v => v.category).sum ≤ W) (hdg : decode c.code g.pc = .ok (.invokeinterface index count, 5))
    (k : ∀ v T' L, Stand p l e R s m args below meth c T' (locs ++ L) (cells + rm.cells) (slots + rm.slots) → Qc v T'.heap L → Run p e below s Q kc ks (T'.setTop { g with pc := g.pc + 5, stack := v.toList ++ rest })) : Run p e below s Q kc ks (T.setTop g) := by
  obtain ⟨cB, kB, qa, qb, qc⟩ := isOf hZ eT E
  obtain ⟨v, vm₁, ⟨T', L', c', n'⟩, -, X', ⟨L, hQ, l1, l2, l3⟩, st⟩ := X.interfaceBack hx hown (mvT hZ w1) (mvT hZ w2) w7 (mvT hZ w5) (mvT hZ w6) (mvT hZ w8) (mvT hZ w9) (mvT hZ w10) hy (hM.back (W := W) hZ w4 w3 hfr hlo) qa qb qc hg hsize (Steps.refl _) hlen hstack hW hdg (fun _ _ => ⟨rfl, eT, hce, hsl⟩)
  dsimp only [Pt.U, Pt.locs, Pt.cells, Pt.slots] at X' l1 l2 l3 st hQ
  subst l1 l2 l3
  exact Run.pre (fun _ q => st.trans q) (k v T' L X' hQ)
end Calls
/-! from the case's words to facts on the heap -/
theorem own_fldInt {args : Array Value} {t : Term} {C n d : String} {k : Int32} {a : Addr} (ht : t.eval args Z none [] Z = some (.ref a)) (h : (Jvm.Cond.eq (Term.field t C n d) (Term.int k)).value args Z none Z [] = some true) : Fld Z Z.heap a C n d (.int k) := by
  obtain ⟨x, y, e1, e2, -, k2⟩ := cmp_v (Or.inl h)
  have e3 : y = .int k := (Option.some.inj ((Term.int_eval k).symm.trans e2)).symm
  subst e3
  obtain ⟨z, rfl⟩ := k2
  have e4 := fld_at (C := C) (n := n) (dd := d) ht
  rw [e4] at e1
  have q : z = k := by
    have hh : (Jvm.Cond.eq (Term.field t C n d) (Term.int k)).value args Z none Z [] = some (decide (z = k)) := by simp [Jvm.Cond.value, e4, e1, e2]
    exact gotT hh h
  subst q
  exact Fld.start e1
theorem own_fldLong {args : Array Value} {t : Term} {C n d : String} {k : Int64} {a : Addr} (ht : t.eval args Z none [] Z = some (.ref a)) (h : (Jvm.Cond.eq (Term.field t C n d) (Term.long k)).value args Z none Z [] = some true) : Fld Z Z.heap a C n d (.long k) := by
  obtain ⟨x, y, e1, e2, -, k2⟩ := cmp_v (Or.inl h)
  have e3 : y = .long k := (Option.some.inj (show some (Value.long k) = some y from e2)).symm
  subst e3
  obtain ⟨z, rfl⟩ := k2
  have e4 := fld_at (C := C) (n := n) (dd := d) ht
  have q : z = k := gotT (eq_L e1 e2) h
  rw [e4] at e1
  subst q
  exact Fld.start e1
theorem own_len {args : Array Value} {t : Term} {n : Int32} {a : Addr} {cl : Cell} {ty : FieldType} (ht : t.eval args Z none [] Z = some (.ref a)) (A : Arr Z Z.heap a cl ty) (h : (Jvm.Cond.eq (Term.length t) (Term.int n)).value args Z none Z [] = some true) : cl.slots.size < 2 ^ 31 ∧ cl.slots.size.toInt32 = n := by
  obtain ⟨x, y, e1, e2, -, k2⟩ := cmp_v (Or.inl h)
  have ha : Z.arrayAt? a = some cl := A.fin (Vm.Alike.refl _)
  by_cases hl : cl.slots.size < 2 ^ 31
  · refine ⟨hl, ?_⟩
    have e3 := len_f ht ha hl
    have hh : (Jvm.Cond.eq (Term.length t) (Term.int n)).value args Z none Z [] = some (decide (cl.slots.size.toInt32 = n)) := by
      have e4 : (Term.int n).eval args Z none [] Z = some (.int n) := Term.int_eval n
      simp [Jvm.Cond.value, e3, e4]
    exact gotT hh h
  · exfalso
    simp [Term.eval, ht, ha, hl] at e1
theorem own_elem {args : Array Value} {t u : Term} {j : Int32} {a w : Addr} {cl : Cell} (ht : t.eval args Z none [] Z = some (.ref a)) (hu : u.eval args Z none [] Z = some (.ref w)) (hc : Z.heap[a]? = some cl) (h : (Jvm.Cond.eq (Term.elem t (Term.int j)) u).value args Z none Z [] = some true) : cl.slots[j.toNatClampNeg]? = some (.ref w) := by
  obtain ⟨x, y, e1, e2, k1, k2⟩ := cmp_v (Or.inl h)
  cases hu.symm.trans e2
  have q := gotT (eq_R e1 e2 k2.2 rfl) h
  subst q
  exact (elem_in e1 ht (Term.int_eval j) hc).2
theorem own_fldRef {args : Array Value} {t u : Term} {C n d : String} {a w : Addr} (ht : t.eval args Z none [] Z = some (.ref a)) (hu : u.eval args Z none [] Z = some (.ref w)) (h : (Jvm.Cond.eq (Term.field t C n d) u).value args Z none Z [] = some true) : Fld Z Z.heap a C n d (.ref w) := by
  obtain ⟨x, y, e1, e2, k1, k2⟩ := cmp_v (Or.inl h)
  cases hu.symm.trans e2
  have q := gotT (eq_R e1 e2 k2.2 rfl) h
  subst q
  rw [fld_at ht] at e1
  exact Fld.start e1
theorem own_fldNull {args : Array Value} {t : Term} {C n d : String} {a : Addr} (ht : t.eval args Z none [] Z = some (.ref a)) (h : (Jvm.Cond.eq (Term.field t C n d) Term.null).value args Z none Z [] = some true) : Fld Z Z.heap a C n d .null := by
  have e1 := null_v h
  rw [fld_at ht] at e1
  exact Fld.start e1
theorem own_neArv {a b : Addr} {C : String} {k : ClassId} {ty : FieldType} {z : Int32} {vs : List Value} {d : Value} {n : Nat} (E : Exa Z h a C) (wi : (Jvm.Cond.instantiable C n).before a0 Z = true) (A : Arv Z h b k ty z vs d) : b ≠ a := by
  obtain ⟨c, A', -⟩ := A; exact (ne_arr E wi A').symm
theorem own_ibStays {vm vm' : Vm} {Ts : List String} (h : IB Z vm Ts) (q : (s.setVm vm).WarmedH vm') : IB Z vm' Ts := by
  obtain ⟨more, e, r⟩ := h; exact ⟨more, by rw [q.interned_eq]; exact e, r⟩
theorem own_ne0 {args : Array Value} {t : Term} {z : Int32} (e : t.eval args Z none [] Z = some (.int z)) (h : (Jvm.Cond.not (Jvm.Cond.eq t (Term.int 0))).value args Z none Z [] = some true) : ¬ z = 0 := by
  have h1 := not_v h
  have e0 : (Term.int 0).eval args Z none [] Z = some (.int 0) := Term.int_eval 0
  have hh : (Jvm.Cond.eq t (Term.int 0)).value args Z none Z [] = some (decide (z = 0)) := by simp [Jvm.Cond.value, e, e0]
  exact gotF hh h1
theorem own_staInt {args : Array Value} {C n d : String} {k : Int32} (h : (Jvm.Cond.eq (Term.static C n d) (Term.int k)).value args Z none Z [] = some true) (hi : (Jvm.Cond.initializedFor C n d).before args Z = true ∨ ((Jvm.Cond.initialized C).before args Z = true ∧ (Jvm.Cond.laysStatic C n d).before args Z = true)) : Sta Z Z.heap C n d (.int k) := by
  obtain ⟨x, y, e1, e2, -, k2⟩ := cmp_v (Or.inl h)
  have e3 : y = .int k := (Option.some.inj ((Term.int_eval k).symm.trans e2)).symm
  subst e3
  obtain ⟨z, rfl⟩ := k2
  have hh : (Jvm.Cond.eq (Term.static C n d) (Term.int k)).value args Z none Z [] = some (decide (z = k)) := by simp [Jvm.Cond.value, e1, e2]
  have q := gotT hh h
  subst q
  exact Sta.start e1 hi
theorem own_cat1 {v : Value} (h : v.isRef = true) : v.category = 1 := by rcases ref_cases h with rfl | ⟨_, rfl⟩ <;> rfl
theorem own_fit {s : State} (hF : heapFits s = true) : Fit s := fun {y c} hc i hi => by
  obtain ⟨ha, rfl⟩ := Array.getElem?_eq_some_iff.mp hc
  have q := List.all_eq_true.mp ((Array.all_eq_true_iff_forall_mem.mp hF) _ (Array.getElem_mem ha)) i (List.mem_range.mpr hi)
  simpa [Array.getElem?_eq_getElem hi] using q
end Own
theorem hwi {Z : State} {a0 : Array Value} (hw : ∀ d ∈ tables_1, d.before a0 Z = true) (i : Nat) {d : Jvm.Cond} (h : tables_1[i]? = some d) : d.before a0 Z = true := hw _ (List.mem_of_getElem? h)
abbrev own_LJ (x y z : Int64) : List Value := [(.long x), (.long y), (.long z), (.long (0 : Int64)), (.long (0 : Int64)), (.long (0 : Int64)), (.long (0 : Int64)), (.long (0 : Int64)), (.long (0 : Int64)), (.long (0 : Int64)), (.long (0 : Int64)), (.long (0 : Int64)), (.long (0 : Int64)), (.long (0 : Int64)), (.long (0 : Int64)), (.long (0 : Int64))]
abbrev own_LI (x y z : Int32) : List Value := [(.int x), (.int y), (.int z), (.int (0 : Int32)), (.int (0 : Int32)), (.int (0 : Int32)), (.int (0 : Int32)), (.int (0 : Int32)), (.int (0 : Int32)), (.int (0 : Int32)), (.int (0 : Int32)), (.int (0 : Int32)), (.int (0 : Int32)), (.int (0 : Int32)), (.int (0 : Int32)), (.int (0 : Int32))]
def own_H (Z : State) (h : Heap) (tb xo xd xl xq xh : Addr) (ko kd kl kq kh : ClassId) (p0 : Int64) (p1 : Int64) (p2 : Int64) (d0 : Int64) (d1 : Int64) (d2 : Int64) (l0 : Int32) (l1 : Int32) (l2 : Int32) (q0 : Int32) (q1 : Int32) (q2 : Int32) (b0 : Int32) (b1 : Int32) (b2 : Int32) (fi : Int32) (en : Int32) (si : Int32) : Prop := Exa Z h tb "com/example/manana/manana/storage/WaitingTable" ∧ Fld Z h tb "com/example/manana/manana/storage/WaitingTable" "offsets" "[J" (.ref xo) ∧ Fld Z h tb "com/example/manana/manana/storage/WaitingTable" "dues" "[J" (.ref xd) ∧ Fld Z h tb "com/example/manana/manana/storage/WaitingTable" "lengths" "[I" (.ref xl) ∧ Fld Z h tb "com/example/manana/manana/storage/WaitingTable" "queues" "[I" (.ref xq) ∧ Fld Z h tb "com/example/manana/manana/storage/WaitingTable" "held" "[Z" (.ref xh) ∧ Fld Z h tb "com/example/manana/manana/storage/WaitingTable" "first" "I" (.int fi) ∧ Fld Z h tb "com/example/manana/manana/storage/WaitingTable" "end" "I" (.int en) ∧ Fld Z h tb "com/example/manana/manana/storage/WaitingTable" "size" "I" (.int si) ∧ Arv Z h xo ko .long 16 (own_LJ p0 p1 p2) (.long (0 : Int64)) ∧ Arv Z h xd kd .long 16 (own_LJ d0 d1 d2) (.long (0 : Int64)) ∧ Arv Z h xl kl .int 16 (own_LI l0 l1 l2) (.int (0 : Int32)) ∧ Arv Z h xq kq .int 16 (own_LI q0 q1 q2) (.int (0 : Int32)) ∧ Arv Z h xh kh .boolean 16 (own_LI b0 b1 b2) (.int (0 : Int32))
def own_D (tb xo xd xl xq xh : Addr) : Prop := tb ≠ xo ∧ tb ≠ xd ∧ tb ≠ xl ∧ tb ≠ xq ∧ tb ≠ xh ∧ xo ≠ xd ∧ xo ≠ xl ∧ xo ≠ xq ∧ xo ≠ xh ∧ xd ≠ xl ∧ xd ≠ xq ∧ xd ≠ xh ∧ xl ≠ xq ∧ xl ≠ xh ∧ xq ≠ xh
theorem own_rG {p x : Int64} (h : lcmpW p x < 0) : ¬ x < p ∧ p < x := by
  have q := (lw_lt _ _).mp h
  exact ⟨fun r => by rw [Int64.lt_iff_toInt_lt] at q r; omega, q⟩
theorem own_rL {p x : Int64} (h : 0 < lcmpW p x) : x < p ∧ ¬ p < x := by
  have q := (lw_gt _ _).mp h
  exact ⟨q, fun r => by rw [Int64.lt_iff_toInt_lt] at q r; omega⟩
theorem own_rE {p x : Int64} (h1 : ¬ lcmpW p x < 0) (h2 : ¬ 0 < lcmpW p x) : ¬ x < p ∧ ¬ p < x := ⟨fun q => h2 ((lw_gt _ _).mpr q), fun q => h1 ((lw_lt _ _).mpr q)⟩
def own_R (p0 p1 p2 : Int64) (b0 b1 b2 fi en si : Int32) (S : Int64 → Prop) : Prop := (fi = 0 ∧ en = 0 ∧ si = 0 ∧ b0 = 0 ∧ b1 = 0 ∧ b2 = 0 ∧ ∀ x, S x ↔ (False)) ∨ (fi = 0 ∧ en = 1 ∧ si = 1 ∧ b0 = 1 ∧ b1 = 0 ∧ b2 = 0 ∧ ∀ x, S x ↔ (x = p0)) ∨ (fi = 1 ∧ en = 1 ∧ si = 0 ∧ b0 = 0 ∧ b1 = 0 ∧ b2 = 0 ∧ ∀ x, S x ↔ (False)) ∨ (fi = 0 ∧ en = 2 ∧ si = 2 ∧ b0 = 1 ∧ b1 = 1 ∧ b2 = 0 ∧ p0 < p1 ∧ ∀ x, S x ↔ (x = p0 ∨ x = p1)) ∨ (fi = 1 ∧ en = 2 ∧ si = 1 ∧ b0 = 0 ∧ b1 = 1 ∧ b2 = 0 ∧ ∀ x, S x ↔ (x = p1)) ∨ (fi = 0 ∧ en = 2 ∧ si = 1 ∧ b0 = 1 ∧ b1 = 0 ∧ b2 = 0 ∧ p0 < p1 ∧ ∀ x, S x ↔ (x = p0)) ∨ (fi = 0 ∧ en = 3 ∧ si = 3 ∧ b0 = 1 ∧ b1 = 1 ∧ b2 = 1 ∧ p0 < p1 ∧ p1 < p2 ∧ ∀ x, S x ↔ (x = p0 ∨ x = p1 ∨ x = p2)) ∨ (fi = 1 ∧ en = 3 ∧ si = 2 ∧ b0 = 0 ∧ b1 = 1 ∧ b2 = 1 ∧ p1 < p2 ∧ ∀ x, S x ↔ (x = p1 ∨ x = p2)) ∨ (fi = 0 ∧ en = 3 ∧ si = 2 ∧ b0 = 1 ∧ b1 = 0 ∧ b2 = 1 ∧ p0 < p1 ∧ p1 < p2 ∧ ∀ x, S x ↔ (x = p0 ∨ x = p2)) ∨ (fi = 0 ∧ en = 3 ∧ si = 2 ∧ b0 = 1 ∧ b1 = 1 ∧ b2 = 0 ∧ p0 < p1 ∧ p1 < p2 ∧ ∀ x, S x ↔ (x = p0 ∨ x = p1))
def own_all (b0 b1 b2 fi en : Int32) : Prop := fi = 0 ∧ (en = 0 ∨ (en = 1 ∧ b0 = 1) ∨ (en = 2 ∧ b0 = 1 ∧ b1 = 1) ∨ (en = 3 ∧ b0 = 1 ∧ b1 = 1 ∧ b2 = 1))
instance (b0 b1 b2 fi en : Int32) : Decidable (own_all b0 b1 b2 fi en) := by unfold own_all; infer_instance
def own_RQ (al : Prop) (e0 : Int32) (S : Int64 → Prop) (p0 p1 p2 : Int64) (b0 b1 b2 fi en si : Int32) : Prop := own_R p0 p1 p2 b0 b1 b2 fi en si S ∧ (al → own_all b0 b1 b2 fi en) ∧ (en = e0 ∨ en = e0 + 1)
def own_mn (x y : Int32) : Int32 := if y < x then y else x
theorem own_eqE {x p : Int64} (h : ¬ x < p ∧ ¬ p < x) : x = p := by
  rw [Int64.lt_iff_toInt_lt, Int64.lt_iff_toInt_lt] at h
  exact Int64.toInt_inj.mp (by omega)
theorem d5_0 : decode jdk_29_method_69_code 0 = .ok (.iload_n 0, 1) := by decide +kernel
theorem d5_1 : decode jdk_29_method_69_code 1 = .ok (.iload_n 1, 1) := by decide +kernel
theorem d5_2 : decode jdk_29_method_69_code 2 = .ok (.if_icmp .gt 7, 3) := by decide +kernel
theorem d5_9 : decode jdk_29_method_69_code 9 = .ok (.iload_n 1, 1) := by decide +kernel
theorem d5_10 : decode jdk_29_method_69_code 10 = .ok (.ireturn, 1) := by decide +kernel
theorem d5_5 : decode jdk_29_method_69_code 5 = .ok (.iload_n 0, 1) := by decide +kernel
theorem d5_6 : decode jdk_29_method_69_code 6 = .ok (.goto 4, 3) := by decide +kernel
set_option maxRecDepth 65536 in
set_option maxHeartbeats 40000000 in
theorem rmMn (l : Launch) (Z : State) (a0 : Array Value) (hw : ∀ d ∈ tables_1, d.before a0 Z = true) (mx : Int32) (my : Int32) (h0 : Heap) (n0 : Nat) (Z0 : n0 ≤ h0.size) :
    Con l (⟨"java/lang/Math", "min", "(II)I"⟩ : MethodName) jdk_29_method_69_code 2 (some .int) ({ frames := 0, cells := 0, slots := 0, locals := 0 } : Room) Z #[(.int mx), (.int my)] h0 (fun v h L => v = some (.int (own_mn mx my)) ∧ Fr n0 L ∧ h = h0) := by
  refine Con.mk (Jvm.Free.JP.mathPlain rfl (by decide +kernel)) (fun m => show entryFrame m #[(.int mx), (.int my)] 2 = mkF m 0 #[.val (.int mx), .val (.int my)] [] by first | (simp [entryFrame, mkF, argsToLocals, Value.category]; done) | rfl) ?_
  intro p e s m below meth c s₁ hx hby hml hown hnm hret hlk hZ X0 e0
  have N0 := Fr.nil n0
  show Run p e below s _ _ _ (s₁.setTop (mkF m 0 #[.val (.int mx), .val (.int my)] []))
  refine Run.pre (fun _ k => XS.iloadN X0.here hx rfl (hb hby d5_0) rfl  k) ?_
  refine Run.pre (fun _ k => XS.iloadN X0.here hx rfl (hb hby d5_1) rfl  k) ?_
  by_cases hc101 : my < mx
  · skip
    refine Run.pre (fun _ k => XS.icmpYes X0.here hx rfl (pc0 := 2) (pc' := 9) rfl (hb hby d5_2) rfl (tlt (hc101 : my < mx)).2.2.1 (by decide) (by decide) k) ?_
    refine Run.pre (fun _ k => XS.iloadN X0.here hx rfl (hb hby d5_9) rfl  k) ?_
    exact Run.retI X0 hx hret hlk (hb hby d5_10) (by first | (rw [e0]; exact ⟨congrArg (fun z => some (Value.int z)) (if_pos hc101).symm, N0, rfl⟩) | exact ⟨congrArg (fun z => some (Value.int z)) (if_pos hc101).symm, N0, rfl⟩) (by decide) (by decide)
  · skip
    refine Run.pre (fun _ k => XS.icmpNo X0.here hx rfl (hb hby d5_2) rfl (flt (hc101 : ¬ (my < mx))).2.2.1 k) ?_
    refine Run.pre (fun _ k => XS.iloadN X0.here hx rfl (hb hby d5_5) rfl  k) ?_
    refine Run.pre (fun _ k => XS.goto X0.here hx rfl (pc0 := 6) (pc' := 10) rfl (hb hby d5_6) (by decide) (by decide) k) ?_
    exact Run.retI X0 hx hret hlk (hb hby d5_10) (by first | (rw [e0]; exact ⟨congrArg (fun z => some (Value.int z)) (if_neg hc101).symm, N0, rfl⟩) | exact ⟨congrArg (fun z => some (Value.int z)) (if_neg hc101).symm, N0, rfl⟩) (by decide) (by decide)
def own_bs01 (xk p0 p1 p2 : Int64) (r : Int32) : Prop := (r = (-2 : Int32) ∧ (¬ xk < p0 ∧ p0 < xk)) ∨ (r = (-1 : Int32) ∧ (xk < p0 ∧ ¬ p0 < xk)) ∨ (r = (0 : Int32) ∧ (¬ xk < p0 ∧ ¬ p0 < xk))
theorem d8_0 : decode jdk_65_method_30_code 0 = .ok (.iload_n 1, 1) := by decide +kernel
theorem d8_1 : decode jdk_65_method_30_code 1 = .ok (.iload_n 2, 1) := by decide +kernel
theorem d8_2 : decode jdk_65_method_30_code 2 = .ok (.if_icmp .le 44, 3) := by decide +kernel
theorem d8_46 : decode jdk_65_method_30_code 46 = .ok (.iload_n 1, 1) := by decide +kernel
theorem d8_47 : decode jdk_65_method_30_code 47 = .ok (.ifCond .ge 12, 3) := by decide +kernel
theorem d8_59 : decode jdk_65_method_30_code 59 = .ok (.iload_n 2, 1) := by decide +kernel
theorem d8_60 : decode jdk_65_method_30_code 60 = .ok (.iload_n 0, 1) := by decide +kernel
theorem d8_61 : decode jdk_65_method_30_code 61 = .ok (.if_icmp .le 12, 3) := by decide +kernel
theorem d8_73 : decode jdk_65_method_30_code 73 = .ok (.return_, 1) := by decide +kernel
theorem pn_8 : plainName "java/util/Arrays" = true := by first | (simp [plainName, overriddenIn]; done) | decide +kernel
set_option maxRecDepth 65536 in
set_option maxHeartbeats 40000000 in
theorem rmRC_01 (l : Launch) (Z : State) (a0 : Array Value) (hw : ∀ d ∈ tables_1, d.before a0 Z = true)  (h0 : Heap) (n0 : Nat) (Z0 : n0 ≤ h0.size) :
    Con l (⟨"java/util/Arrays", "rangeCheck", "(III)V"⟩ : MethodName) jdk_65_method_30_code 3 none ({ frames := 0, cells := 0, slots := 0, locals := 0 } : Room) Z #[(.int (16 : Int32)), (.int (0 : Int32)), (.int (1 : Int32))] h0 (fun v h L => v = none ∧ Fr n0 L ∧ h = h0) := by
  refine Con.mk (plainFor_of_name pn_8) (fun m => show entryFrame m #[(.int (16 : Int32)), (.int (0 : Int32)), (.int (1 : Int32))] 3 = mkF m 0 #[.val (.int (16 : Int32)), .val (.int (0 : Int32)), .val (.int (1 : Int32))] [] by first | (simp [entryFrame, mkF, argsToLocals, Value.category]; done) | rfl) ?_
  intro p e s m below meth c s₁ hx hby hml hown hnm hret hlk hZ X0 e0
  have N0 := Fr.nil n0
  show Run p e below s _ _ _ (s₁.setTop (mkF m 0 #[.val (.int (16 : Int32)), .val (.int (0 : Int32)), .val (.int (1 : Int32))] []))
  refine Run.pre (fun _ k => XS.iloadN X0.here hx rfl (hb hby d8_0) rfl  k) ?_
  refine Run.pre (fun _ k => XS.iloadN X0.here hx rfl (hb hby d8_1) rfl  k) ?_
  refine Run.pre (fun _ k => XS.icmpYes X0.here hx rfl (pc0 := 2) (pc' := 46) rfl (hb hby d8_2) rfl (flt ((by decide) : ¬ ((1 : Int32) < (0 : Int32)))).2.2.2 (by decide) (by decide) k) ?_
  refine Run.pre (fun _ k => XS.iloadN X0.here hx rfl (hb hby d8_46) rfl  k) ?_
  refine Run.pre (fun _ k => XS.ifYes X0.here hx rfl (pc0 := 47) (pc' := 59) rfl (hb hby d8_47) rfl ((if0 _ _).trans (flt ((by decide) : ¬ ((0 : Int32) < (0 : Int32)))).2.1) (by decide) (by decide) k) ?_
  refine Run.pre (fun _ k => XS.iloadN X0.here hx rfl (hb hby d8_59) rfl  k) ?_
  show Run p e below s _ _ _ (s₁.setTop (mkF m 60 #[.val (.int (16 : Int32)), .val (.int (0 : Int32)), .val (.int (1 : Int32))] [(.int (1 : Int32))]))
  refine Run.pre (fun _ k => XS.iloadN X0.here hx rfl (hb hby d8_60) rfl  k) ?_
  refine Run.pre (fun _ k => XS.icmpYes X0.here hx rfl (pc0 := 61) (pc' := 73) rfl (hb hby d8_61) rfl (flt ((by decide) : ¬ ((16 : Int32) < (1 : Int32)))).2.2.2 (by decide) (by decide) k) ?_
  exact Run.retV X0 hx hret hlk (hb hby d8_73) (by first | (rw [e0]; exact ⟨rfl, N0, rfl⟩) | exact ⟨rfl, N0, rfl⟩) (by decide) (by decide)
theorem d9_0 : decode jdk_65_method_56_code 0 = .ok (.iload_n 1, 1) := by decide +kernel
theorem d9_1 : decode jdk_65_method_56_code 1 = .ok (.istore 5, 2) := by decide +kernel
theorem d9_3 : decode jdk_65_method_56_code 3 = .ok (.iload_n 2, 1) := by decide +kernel
theorem d9_4 : decode jdk_65_method_56_code 4 = .ok (.iconst 1, 1) := by decide +kernel
theorem d9_5 : decode jdk_65_method_56_code 5 = .ok (.isub, 1) := by decide +kernel
theorem d9_6 : decode jdk_65_method_56_code 6 = .ok (.istore 6, 2) := by decide +kernel
theorem d9_8 : decode jdk_65_method_56_code 8 = .ok (.iload 5, 2) := by decide +kernel
theorem d9_10 : decode jdk_65_method_56_code 10 = .ok (.iload 6, 2) := by decide +kernel
theorem d9_12 : decode jdk_65_method_56_code 12 = .ok (.if_icmp .gt 56, 3) := by decide +kernel
theorem d9_15 : decode jdk_65_method_56_code 15 = .ok (.iload 5, 2) := by decide +kernel
theorem d9_17 : decode jdk_65_method_56_code 17 = .ok (.iload 6, 2) := by decide +kernel
theorem d9_19 : decode jdk_65_method_56_code 19 = .ok (.iadd, 1) := by decide +kernel
theorem d9_20 : decode jdk_65_method_56_code 20 = .ok (.iconst 1, 1) := by decide +kernel
theorem d9_21 : decode jdk_65_method_56_code 21 = .ok (.iushr, 1) := by decide +kernel
theorem d9_22 : decode jdk_65_method_56_code 22 = .ok (.istore 7, 2) := by decide +kernel
theorem d9_24 : decode jdk_65_method_56_code 24 = .ok (.aload_n 0, 1) := by decide +kernel
theorem d9_25 : decode jdk_65_method_56_code 25 = .ok (.iload 7, 2) := by decide +kernel
theorem d9_27 : decode jdk_65_method_56_code 27 = .ok (.laload, 1) := by decide +kernel
theorem d9_28 : decode jdk_65_method_56_code 28 = .ok (.lstore 8, 2) := by decide +kernel
theorem d9_30 : decode jdk_65_method_56_code 30 = .ok (.lload 8, 2) := by decide +kernel
theorem d9_32 : decode jdk_65_method_56_code 32 = .ok (.lload_n 3, 1) := by decide +kernel
theorem d9_33 : decode jdk_65_method_56_code 33 = .ok (.lcmp, 1) := by decide +kernel
theorem d9_34 : decode jdk_65_method_56_code 34 = .ok (.ifCond .ge 12, 3) := by decide +kernel
theorem d9_37 : decode jdk_65_method_56_code 37 = .ok (.iload 7, 2) := by decide +kernel
theorem d9_39 : decode jdk_65_method_56_code 39 = .ok (.iconst 1, 1) := by decide +kernel
theorem d9_40 : decode jdk_65_method_56_code 40 = .ok (.iadd, 1) := by decide +kernel
theorem d9_41 : decode jdk_65_method_56_code 41 = .ok (.istore 5, 2) := by decide +kernel
theorem d9_43 : decode jdk_65_method_56_code 43 = .ok (.goto 22, 3) := by decide +kernel
theorem d9_65 : decode jdk_65_method_56_code 65 = .ok (.goto (-57), 3) := by decide +kernel
theorem d9_68 : decode jdk_65_method_56_code 68 = .ok (.iload 5, 2) := by decide +kernel
theorem d9_70 : decode jdk_65_method_56_code 70 = .ok (.iconst 1, 1) := by decide +kernel
theorem d9_71 : decode jdk_65_method_56_code 71 = .ok (.iadd, 1) := by decide +kernel
theorem d9_72 : decode jdk_65_method_56_code 72 = .ok (.ineg, 1) := by decide +kernel
theorem d9_73 : decode jdk_65_method_56_code 73 = .ok (.ireturn, 1) := by decide +kernel
theorem d9_46 : decode jdk_65_method_56_code 46 = .ok (.lload 8, 2) := by decide +kernel
theorem d9_48 : decode jdk_65_method_56_code 48 = .ok (.lload_n 3, 1) := by decide +kernel
theorem d9_49 : decode jdk_65_method_56_code 49 = .ok (.lcmp, 1) := by decide +kernel
theorem d9_50 : decode jdk_65_method_56_code 50 = .ok (.ifCond .le 12, 3) := by decide +kernel
theorem d9_53 : decode jdk_65_method_56_code 53 = .ok (.iload 7, 2) := by decide +kernel
theorem d9_55 : decode jdk_65_method_56_code 55 = .ok (.iconst 1, 1) := by decide +kernel
theorem d9_56 : decode jdk_65_method_56_code 56 = .ok (.isub, 1) := by decide +kernel
theorem d9_57 : decode jdk_65_method_56_code 57 = .ok (.istore 6, 2) := by decide +kernel
theorem d9_59 : decode jdk_65_method_56_code 59 = .ok (.goto 6, 3) := by decide +kernel
theorem d9_62 : decode jdk_65_method_56_code 62 = .ok (.iload 7, 2) := by decide +kernel
theorem d9_64 : decode jdk_65_method_56_code 64 = .ok (.ireturn, 1) := by decide +kernel
theorem pn_9 : plainName "java/util/Arrays" = true := by first | (simp [plainName, overriddenIn]; done) | decide +kernel
set_option maxRecDepth 65536 in
set_option maxHeartbeats 40000000 in
theorem rmB0_01 (l : Launch) (Z : State) (a0 : Array Value) (hw : ∀ d ∈ tables_1, d.before a0 Z = true) (xo : Addr) (ko : ClassId) (p0 : Int64) (p1 : Int64) (p2 : Int64) (xk : Int64) (h0 : Heap) (n0 : Nat) (Z0 : n0 ≤ h0.size) (AO : Arv Z h0 xo ko .long 16 (own_LJ p0 p1 p2) (.long (0 : Int64))) :
    Con l (⟨"java/util/Arrays", "binarySearch0", "([JIIJ)I"⟩ : MethodName) jdk_65_method_56_code 10 (some .int) ({ frames := 0, cells := 0, slots := 0, locals := 0 } : Room) Z #[(.ref xo), (.int (0 : Int32)), (.int (1 : Int32)), (.long xk)] h0 (fun v h L => ∃ r : Int32, v = some (.int r) ∧ Fr n0 L ∧ h = h0 ∧ own_bs01 xk p0 p1 p2 r) := by
  refine Con.mk (plainFor_of_name pn_9) (fun m => show entryFrame m #[(.ref xo), (.int (0 : Int32)), (.int (1 : Int32)), (.long xk)] 10 = mkF m 0 #[.val (.ref xo), .val (.int (0 : Int32)), .val (.int (1 : Int32)), .val (.long xk), .second, .unset, .unset, .unset, .unset, .unset] [] by first | (simp [entryFrame, mkF, argsToLocals, Value.category]; done) | rfl) ?_
  intro p e s m below meth c s₁ hx hby hml hown hnm hret hlk hZ X0 e0
  have N0 := Fr.nil n0
  show Run p e below s _ _ _ (s₁.setTop (mkF m 0 #[.val (.ref xo), .val (.int (0 : Int32)), .val (.int (1 : Int32)), .val (.long xk), .second, .unset, .unset, .unset, .unset, .unset] []))
  refine Run.pre (fun _ k => XS.iloadN X0.here hx rfl (hb hby d9_0) rfl  k) ?_
  refine Run.pre (fun _ k => XS.istore X0.here hx rfl (hb hby d9_1) rfl (l' := #[.val (.ref xo), .val (.int (0 : Int32)), .val (.int (1 : Int32)), .val (.long xk), .second, .val (.int (0 : Int32)), .unset, .unset, .unset, .unset]) rfl k) ?_
  refine Run.pre (fun _ k => XS.iloadN X0.here hx rfl (hb hby d9_3) rfl  k) ?_
  refine Run.pre (fun _ k => XS.iconst X0.here hx rfl (hb hby d9_4) k) ?_
  refine Run.pre (fun _ k => XS.isub X0.here hx rfl (hb hby d9_5) rfl k) ?_
  refine Run.pre (fun _ k => XS.istore X0.here hx rfl (hb hby d9_6) rfl (l' := #[.val (.ref xo), .val (.int (0 : Int32)), .val (.int (1 : Int32)), .val (.long xk), .second, .val (.int (0 : Int32)), .val (.int (0 : Int32)), .unset, .unset, .unset]) rfl k) ?_
  show Run p e below s _ _ _ (s₁.setTop (mkF m 8 #[.val (.ref xo), .val (.int (0 : Int32)), .val (.int (1 : Int32)), .val (.long xk), .second, .val (.int (0 : Int32)), .val (.int (0 : Int32)), .unset, .unset, .unset] []))
  refine Run.pre (fun _ k => XS.iload X0.here hx rfl (hb hby d9_8) rfl  k) ?_
  refine Run.pre (fun _ k => XS.iload X0.here hx rfl (hb hby d9_10) rfl  k) ?_
  refine Run.pre (fun _ k => XS.icmpNo X0.here hx rfl (hb hby d9_12) rfl (flt ((by decide) : ¬ ((0 : Int32) < (0 : Int32)))).2.2.1 k) ?_
  refine Run.pre (fun _ k => XS.iload X0.here hx rfl (hb hby d9_15) rfl  k) ?_
  refine Run.pre (fun _ k => XS.iload X0.here hx rfl (hb hby d9_17) rfl  k) ?_
  refine Run.pre (fun _ k => XS.iadd X0.here hx rfl (hb hby d9_19) rfl k) ?_
  show Run p e below s _ _ _ (s₁.setTop (mkF m 20 #[.val (.ref xo), .val (.int (0 : Int32)), .val (.int (1 : Int32)), .val (.long xk), .second, .val (.int (0 : Int32)), .val (.int (0 : Int32)), .unset, .unset, .unset] [(.int (0 : Int32))]))
  refine Run.pre (fun _ k => XS.iconst X0.here hx rfl (hb hby d9_20) k) ?_
  refine Run.pre (fun _ k => XS.iushr X0.here hx rfl (hb hby d9_21) rfl k) ?_
  refine Run.pre (fun _ k => XS.istore X0.here hx rfl (hb hby d9_22) rfl (l' := #[.val (.ref xo), .val (.int (0 : Int32)), .val (.int (1 : Int32)), .val (.long xk), .second, .val (.int (0 : Int32)), .val (.int (0 : Int32)), .val (.int (0 : Int32)), .unset, .unset]) rfl k) ?_
  refine Run.pre (fun _ k => XS.aloadN X0.here hx rfl (hb hby d9_24) rfl rfl k) ?_
  refine Run.pre (fun _ k => XS.iload X0.here hx rfl (hb hby d9_25) rfl  k) ?_
  obtain ⟨c102, Ar102, -, S102, N102, H102, -⟩ := id AO
  have hin102 : ¬ ((0 : Int32) < 0 ∨ c102.slots.size ≤ ((0 : Int32)).toNatClampNeg) := inb_of S102 ⟨by decide, by decide⟩
  refine Run.pre (X0.laload hx (j := (0 : Int32)) (v := (.long p0)) (by rw [e0]; exact Ar102.1) (State.isArrayOf_alike hZ.alike Ar102.2.1) Ar102.2.2 hin102 (H102.at hin102 rfl) (g := (mkF m 27 #[.val (.ref xo), .val (.int (0 : Int32)), .val (.int (1 : Int32)), .val (.long xk), .second, .val (.int (0 : Int32)), .val (.int (0 : Int32)), .val (.int (0 : Int32)), .unset, .unset] [(.int (0 : Int32)), (.ref xo)])) rfl rfl (hb hby d9_27)) ?_
  show Run p e below s _ _ _ (s₁.setTop (mkF m 28 #[.val (.ref xo), .val (.int (0 : Int32)), .val (.int (1 : Int32)), .val (.long xk), .second, .val (.int (0 : Int32)), .val (.int (0 : Int32)), .val (.int (0 : Int32)), .unset, .unset] [(.long p0)]))
  refine Run.pre (fun _ k => XS.lstore X0.here hx rfl (hb hby d9_28) rfl (l' := #[.val (.ref xo), .val (.int (0 : Int32)), .val (.int (1 : Int32)), .val (.long xk), .second, .val (.int (0 : Int32)), .val (.int (0 : Int32)), .val (.int (0 : Int32)), .val (.long p0), .second]) rfl k) ?_
  refine Run.pre (fun _ k => XS.lload X0.here hx rfl (hb hby d9_30) rfl  k) ?_
  refine Run.pre (fun _ k => XS.lloadN X0.here hx rfl (hb hby d9_32) rfl  k) ?_
  refine Run.pre (fun _ k => XS.lcmp X0.here hx rfl (hb hby d9_33) rfl k) ?_
  by_cases hc103 : (lcmpW p0 xk) < (0 : Int32)
  · skip
    refine Run.pre (fun _ k => XS.ifNo X0.here hx rfl (hb hby d9_34) rfl ((if0 _ _).trans (tlt (hc103 : (lcmpW p0 xk) < (0 : Int32))).2.1) k) ?_
    refine Run.pre (fun _ k => XS.iload X0.here hx rfl (hb hby d9_37) rfl  k) ?_
    show Run p e below s _ _ _ (s₁.setTop (mkF m 39 #[.val (.ref xo), .val (.int (0 : Int32)), .val (.int (1 : Int32)), .val (.long xk), .second, .val (.int (0 : Int32)), .val (.int (0 : Int32)), .val (.int (0 : Int32)), .val (.long p0), .second] [(.int (0 : Int32))]))
    refine Run.pre (fun _ k => XS.iconst X0.here hx rfl (hb hby d9_39) k) ?_
    refine Run.pre (fun _ k => XS.iadd X0.here hx rfl (hb hby d9_40) rfl k) ?_
    refine Run.pre (fun _ k => XS.istore X0.here hx rfl (hb hby d9_41) rfl (l' := #[.val (.ref xo), .val (.int (0 : Int32)), .val (.int (1 : Int32)), .val (.long xk), .second, .val (.int (1 : Int32)), .val (.int (0 : Int32)), .val (.int (0 : Int32)), .val (.long p0), .second]) rfl k) ?_
    refine Run.pre (fun _ k => XS.goto X0.here hx rfl (pc0 := 43) (pc' := 65) rfl (hb hby d9_43) (by decide) (by decide) k) ?_
    refine Run.pre (fun _ k => XS.goto X0.here hx rfl (pc0 := 65) (pc' := 8) rfl (hb hby d9_65) (by decide) (by decide) k) ?_
    refine Run.pre (fun _ k => XS.iload X0.here hx rfl (hb hby d9_8) rfl  k) ?_
    show Run p e below s _ _ _ (s₁.setTop (mkF m 10 #[.val (.ref xo), .val (.int (0 : Int32)), .val (.int (1 : Int32)), .val (.long xk), .second, .val (.int (1 : Int32)), .val (.int (0 : Int32)), .val (.int (0 : Int32)), .val (.long p0), .second] [(.int (1 : Int32))]))
    refine Run.pre (fun _ k => XS.iload X0.here hx rfl (hb hby d9_10) rfl  k) ?_
    refine Run.pre (fun _ k => XS.icmpYes X0.here hx rfl (pc0 := 12) (pc' := 68) rfl (hb hby d9_12) rfl (tlt ((by decide) : (0 : Int32) < (1 : Int32))).2.2.1 (by decide) (by decide) k) ?_
    refine Run.pre (fun _ k => XS.iload X0.here hx rfl (hb hby d9_68) rfl  k) ?_
    refine Run.pre (fun _ k => XS.iconst X0.here hx rfl (hb hby d9_70) k) ?_
    refine Run.pre (fun _ k => XS.iadd X0.here hx rfl (hb hby d9_71) rfl k) ?_
    refine Run.pre (fun _ k => XS.ineg X0.here hx rfl (hb hby d9_72) rfl k) ?_
    show Run p e below s _ _ _ (s₁.setTop (mkF m 73 #[.val (.ref xo), .val (.int (0 : Int32)), .val (.int (1 : Int32)), .val (.long xk), .second, .val (.int (1 : Int32)), .val (.int (0 : Int32)), .val (.int (0 : Int32)), .val (.long p0), .second] [(.int (-2 : Int32))]))
    exact Run.retI X0 hx hret hlk (hb hby d9_73) (by first | (rw [e0]; exact ⟨_, rfl, N0, rfl, Or.inl ⟨rfl, own_rG hc103⟩⟩) | exact ⟨_, rfl, N0, rfl, Or.inl ⟨rfl, own_rG hc103⟩⟩) (by decide) (by decide)
  · skip
    refine Run.pre (fun _ k => XS.ifYes X0.here hx rfl (pc0 := 34) (pc' := 46) rfl (hb hby d9_34) rfl ((if0 _ _).trans (flt (hc103 : ¬ ((lcmpW p0 xk) < (0 : Int32)))).2.1) (by decide) (by decide) k) ?_
    refine Run.pre (fun _ k => XS.lload X0.here hx rfl (hb hby d9_46) rfl  k) ?_
    show Run p e below s _ _ _ (s₁.setTop (mkF m 48 #[.val (.ref xo), .val (.int (0 : Int32)), .val (.int (1 : Int32)), .val (.long xk), .second, .val (.int (0 : Int32)), .val (.int (0 : Int32)), .val (.int (0 : Int32)), .val (.long p0), .second] [(.long p0)]))
    refine Run.pre (fun _ k => XS.lloadN X0.here hx rfl (hb hby d9_48) rfl  k) ?_
    refine Run.pre (fun _ k => XS.lcmp X0.here hx rfl (hb hby d9_49) rfl k) ?_
    by_cases hc104 : (0 : Int32) < (lcmpW p0 xk)
    · skip
      refine Run.pre (fun _ k => XS.ifNo X0.here hx rfl (hb hby d9_50) rfl ((if0 _ _).trans (tlt (hc104 : (0 : Int32) < (lcmpW p0 xk))).2.2.2) k) ?_
      refine Run.pre (fun _ k => XS.iload X0.here hx rfl (hb hby d9_53) rfl  k) ?_
      refine Run.pre (fun _ k => XS.iconst X0.here hx rfl (hb hby d9_55) k) ?_
      refine Run.pre (fun _ k => XS.isub X0.here hx rfl (hb hby d9_56) rfl k) ?_
      show Run p e below s _ _ _ (s₁.setTop (mkF m 57 #[.val (.ref xo), .val (.int (0 : Int32)), .val (.int (1 : Int32)), .val (.long xk), .second, .val (.int (0 : Int32)), .val (.int (0 : Int32)), .val (.int (0 : Int32)), .val (.long p0), .second] [(.int (-1 : Int32))]))
      refine Run.pre (fun _ k => XS.istore X0.here hx rfl (hb hby d9_57) rfl (l' := #[.val (.ref xo), .val (.int (0 : Int32)), .val (.int (1 : Int32)), .val (.long xk), .second, .val (.int (0 : Int32)), .val (.int (-1 : Int32)), .val (.int (0 : Int32)), .val (.long p0), .second]) rfl k) ?_
      refine Run.pre (fun _ k => XS.goto X0.here hx rfl (pc0 := 59) (pc' := 65) rfl (hb hby d9_59) (by decide) (by decide) k) ?_
      refine Run.pre (fun _ k => XS.goto X0.here hx rfl (pc0 := 65) (pc' := 8) rfl (hb hby d9_65) (by decide) (by decide) k) ?_
      refine Run.pre (fun _ k => XS.iload X0.here hx rfl (hb hby d9_8) rfl  k) ?_
      refine Run.pre (fun _ k => XS.iload X0.here hx rfl (hb hby d9_10) rfl  k) ?_
      refine Run.pre (fun _ k => XS.icmpYes X0.here hx rfl (pc0 := 12) (pc' := 68) rfl (hb hby d9_12) rfl (tlt ((by decide) : (-1 : Int32) < (0 : Int32))).2.2.1 (by decide) (by decide) k) ?_
      show Run p e below s _ _ _ (s₁.setTop (mkF m 68 #[.val (.ref xo), .val (.int (0 : Int32)), .val (.int (1 : Int32)), .val (.long xk), .second, .val (.int (0 : Int32)), .val (.int (-1 : Int32)), .val (.int (0 : Int32)), .val (.long p0), .second] []))
      refine Run.pre (fun _ k => XS.iload X0.here hx rfl (hb hby d9_68) rfl  k) ?_
      refine Run.pre (fun _ k => XS.iconst X0.here hx rfl (hb hby d9_70) k) ?_
      refine Run.pre (fun _ k => XS.iadd X0.here hx rfl (hb hby d9_71) rfl k) ?_
      refine Run.pre (fun _ k => XS.ineg X0.here hx rfl (hb hby d9_72) rfl k) ?_
      exact Run.retI X0 hx hret hlk (hb hby d9_73) (by first | (rw [e0]; exact ⟨_, rfl, N0, rfl, Or.inr (Or.inl ⟨rfl, own_rL hc104⟩)⟩) | exact ⟨_, rfl, N0, rfl, Or.inr (Or.inl ⟨rfl, own_rL hc104⟩)⟩) (by decide) (by decide)
    · skip
      refine Run.pre (fun _ k => XS.ifYes X0.here hx rfl (pc0 := 50) (pc' := 62) rfl (hb hby d9_50) rfl ((if0 _ _).trans (flt (hc104 : ¬ ((0 : Int32) < (lcmpW p0 xk)))).2.2.2) (by decide) (by decide) k) ?_
      refine Run.pre (fun _ k => XS.iload X0.here hx rfl (hb hby d9_62) rfl  k) ?_
      exact Run.retI X0 hx hret hlk (hb hby d9_64) (by first | (rw [e0]; exact ⟨_, rfl, N0, rfl, Or.inr (Or.inr (⟨rfl, own_rE hc103 hc104⟩))⟩) | exact ⟨_, rfl, N0, rfl, Or.inr (Or.inr (⟨rfl, own_rE hc103 hc104⟩))⟩) (by decide) (by decide)
theorem d7_0 : decode jdk_65_method_55_code 0 = .ok (.aload_n 0, 1) := by decide +kernel
theorem d7_1 : decode jdk_65_method_55_code 1 = .ok (.arraylength, 1) := by decide +kernel
theorem d7_2 : decode jdk_65_method_55_code 2 = .ok (.iload_n 1, 1) := by decide +kernel
theorem d7_3 : decode jdk_65_method_55_code 3 = .ok (.iload_n 2, 1) := by decide +kernel
theorem pd_0 : parseMethodDescriptor "(III)V" = some ⟨[.int, .int, .int], none⟩ := by decide +kernel
theorem d7_4 : decode jdk_65_method_55_code 4 = .ok (.invokestatic 13, 3) := by decide +kernel
theorem d7_7 : decode jdk_65_method_55_code 7 = .ok (.aload_n 0, 1) := by decide +kernel
theorem d7_8 : decode jdk_65_method_55_code 8 = .ok (.iload_n 1, 1) := by decide +kernel
theorem d7_9 : decode jdk_65_method_55_code 9 = .ok (.iload_n 2, 1) := by decide +kernel
theorem d7_10 : decode jdk_65_method_55_code 10 = .ok (.lload_n 3, 1) := by decide +kernel
theorem pd_1 : parseMethodDescriptor "([JIIJ)I" = some ⟨[(.array .long), .int, .int, .long], some .int⟩ := by decide +kernel
theorem d7_11 : decode jdk_65_method_55_code 11 = .ok (.invokestatic 205, 3) := by decide +kernel
theorem d7_14 : decode jdk_65_method_55_code 14 = .ok (.ireturn, 1) := by decide +kernel
theorem pn_7 : plainName "java/util/Arrays" = true := by first | (simp [plainName, overriddenIn]; done) | decide +kernel
set_option maxRecDepth 65536 in
set_option maxHeartbeats 40000000 in
theorem rmB_01 (l : Launch) (Z : State) (a0 : Array Value) (hw : ∀ d ∈ tables_1, d.before a0 Z = true) (xo : Addr) (ko : ClassId) (p0 : Int64) (p1 : Int64) (p2 : Int64) (xk : Int64) (h0 : Heap) (n0 : Nat) (Z0 : n0 ≤ h0.size) (AO : Arv Z h0 xo ko .long 16 (own_LJ p0 p1 p2) (.long (0 : Int64))) :
    Con l (⟨"java/util/Arrays", "binarySearch", "([JIIJ)I"⟩ : MethodName) jdk_65_method_55_code 5 (some .int) ({ frames := 1, cells := 0, slots := 0, locals := 21 } : Room) Z #[(.ref xo), (.int (0 : Int32)), (.int (1 : Int32)), (.long xk)] h0 (fun v h L => ∃ r : Int32, v = some (.int r) ∧ Fr n0 L ∧ h = h0 ∧ own_bs01 xk p0 p1 p2 r) := by
  refine Con.mk (plainFor_of_name pn_7) (fun m => show entryFrame m #[(.ref xo), (.int (0 : Int32)), (.int (1 : Int32)), (.long xk)] 5 = mkF m 0 #[.val (.ref xo), .val (.int (0 : Int32)), .val (.int (1 : Int32)), .val (.long xk), .second] [] by first | (simp [entryFrame, mkF, argsToLocals, Value.category]; done) | rfl) ?_
  intro p e s m below meth c s₁ hx hby hml hown hnm hret hlk hZ X0 e0
  have N0 := Fr.nil n0
  show Run p e below s _ _ _ (s₁.setTop (mkF m 0 #[.val (.ref xo), .val (.int (0 : Int32)), .val (.int (1 : Int32)), .val (.long xk), .second] []))
  refine Run.pre (fun _ k => XS.aloadN X0.here hx rfl (hb hby d7_0) rfl rfl k) ?_
  obtain ⟨c105, Ar105, -, S105, N105, -, -⟩ := id AO
  refine Run.pre (X0.arraylength hx (by rw [e0]; exact Ar105.1) (State.isArrayOf_alike hZ.alike Ar105.2.1) (g := (mkF m 1 #[.val (.ref xo), .val (.int (0 : Int32)), .val (.int (1 : Int32)), .val (.long xk), .second] [(.ref xo)])) rfl rfl (hb hby d7_1)) ?_
  rw [len_of S105 N105]
  refine Run.pre (fun _ k => XS.iloadN X0.here hx rfl (hb hby d7_2) rfl  k) ?_
  refine Run.pre (fun _ k => XS.iloadN X0.here hx rfl (hb hby d7_3) rfl  k) ?_
  refine Run.callS X0 hx hZ (y := (⟨"java/util/Arrays", "rangeCheck", "(III)V"⟩ : MethodName)) hown (hwi hw 50 rfl) (hwi hw 51 rfl) (hwi hw 48 rfl) (hwi hw 52 rfl) (by decide) (W := 0) (rmRC_01 l Z a0 hw h0 n0 (Nat.le_trans Z0 (Keep.refl h0 []).1)) e0 (by decide) (by decide) (by decide) (by decide) (g := (mkF m 4 #[.val (.ref xo), .val (.int (0 : Int32)), .val (.int (1 : Int32)), .val (.long xk), .second] [(.int (1 : Int32)), (.int (0 : Int32)), (.int (16 : Int32))])) rfl (by rw [hml]; rfl) (argsL := [(.int (16 : Int32)), (.int (0 : Int32)), (.int (1 : Int32))]) (rest := []) (lenOf pd_0 rfl) rfl (by show 2 * 0 + _ ≤ _; exact Nat.le_of_eq rfl) (hb hby d7_4) ?_
  intro v106 T106 L106 X106 hQ106
  obtain ⟨rfl, Nq106, he106⟩ := hQ106
  have N106 := Fr.app N0 Nq106
  have e106 : T106.heap = h0 := he106
  refine Run.pre (fun _ k => XS.aloadN X106.here hx rfl (hb hby d7_7) rfl rfl k) ?_
  show Run p e below s _ _ _ (T106.setTop (mkF m 8 #[.val (.ref xo), .val (.int (0 : Int32)), .val (.int (1 : Int32)), .val (.long xk), .second] [(.ref xo)]))
  refine Run.pre (fun _ k => XS.iloadN X106.here hx rfl (hb hby d7_8) rfl  k) ?_
  refine Run.pre (fun _ k => XS.iloadN X106.here hx rfl (hb hby d7_9) rfl  k) ?_
  refine Run.pre (fun _ k => XS.lloadN X106.here hx rfl (hb hby d7_10) rfl  k) ?_
  refine Run.callS X106 hx hZ (y := (⟨"java/util/Arrays", "binarySearch0", "([JIIJ)I"⟩ : MethodName)) hown (hwi hw 53 rfl) (hwi hw 54 rfl) (hwi hw 48 rfl) (hwi hw 55 rfl) (by decide) (W := 0) (rmB0_01 l Z a0 hw xo ko p0 p1 p2 xk h0 n0 (Nat.le_trans Z0 (Keep.refl h0 []).1) AO) e106 (by decide) (by decide) (by decide) (by decide) (g := (mkF m 11 #[.val (.ref xo), .val (.int (0 : Int32)), .val (.int (1 : Int32)), .val (.long xk), .second] [(.long xk), (.int (1 : Int32)), (.int (0 : Int32)), (.ref xo)])) rfl (by rw [hml]; rfl) (argsL := [(.ref xo), (.int (0 : Int32)), (.int (1 : Int32)), (.long xk)]) (rest := []) (lenOf pd_1 rfl) rfl (by show 2 * 0 + _ ≤ _; exact Nat.le_of_eq rfl) (hb hby d7_11) ?_
  intro v107 T107 L107 X107 hQ107
  obtain ⟨r107, rfl, Nq107, he107, sp107⟩ := hQ107
  have N107 := Fr.app N106 Nq107
  have e107 : T107.heap = h0 := he107
  exact Run.retI X107 hx hret hlk (hb hby d7_14) (by first | (rw [e107]; exact ⟨r107, rfl, N107, rfl, sp107⟩) | exact ⟨r107, rfl, N107, rfl, sp107⟩) (by decide) (by decide)
theorem d6_0 : decode prog_84_method_11_code 0 = .ok (.aload_n 0, 1) := by decide +kernel
theorem d6_1 : decode prog_84_method_11_code 1 = .ok (.getfield 7, 3) := by decide +kernel
theorem d6_4 : decode prog_84_method_11_code 4 = .ok (.aload_n 0, 1) := by decide +kernel
theorem d6_5 : decode prog_84_method_11_code 5 = .ok (.getfield 31, 3) := by decide +kernel
theorem d6_8 : decode prog_84_method_11_code 8 = .ok (.aload_n 0, 1) := by decide +kernel
theorem d6_9 : decode prog_84_method_11_code 9 = .ok (.getfield 27, 3) := by decide +kernel
theorem d6_12 : decode prog_84_method_11_code 12 = .ok (.lload_n 1, 1) := by decide +kernel
theorem d6_13 : decode prog_84_method_11_code 13 = .ok (.invokestatic 53, 3) := by decide +kernel
theorem d6_16 : decode prog_84_method_11_code 16 = .ok (.ireturn, 1) := by decide +kernel
theorem pn_6 : plainName "com/example/manana/manana/storage/WaitingTable" = true := by first | (simp [plainName, overriddenIn]; done) | decide +kernel
set_option maxRecDepth 65536 in
set_option maxHeartbeats 40000000 in
theorem rmS_01 (l : Launch) (Z : State) (a0 : Array Value) (hw : ∀ d ∈ tables_1, d.before a0 Z = true) (tb : Addr) (xo : Addr) (ko : ClassId) (p0 : Int64) (p1 : Int64) (p2 : Int64) (xk : Int64) (h0 : Heap) (n0 : Nat) (Z0 : n0 ≤ h0.size) (E_tb : Exa Z h0 tb "com/example/manana/manana/storage/WaitingTable") (FO : Fld Z h0 tb "com/example/manana/manana/storage/WaitingTable" "offsets" "[J" (.ref xo)) (Ff : Fld Z h0 tb "com/example/manana/manana/storage/WaitingTable" "first" "I" (.int 0)) (Fe : Fld Z h0 tb "com/example/manana/manana/storage/WaitingTable" "end" "I" (.int 1)) (AO : Arv Z h0 xo ko .long 16 (own_LJ p0 p1 p2) (.long (0 : Int64))) :
    Con l (⟨"com/example/manana/manana/storage/WaitingTable", "slotOf", "(J)I"⟩ : MethodName) prog_84_method_11_code 3 (some .int) ({ frames := 2, cells := 0, slots := 0, locals := 37 } : Room) Z #[(.ref tb), (.long xk)] h0 (fun v h L => ∃ r : Int32, v = some (.int r) ∧ Fr n0 L ∧ h = h0 ∧ own_bs01 xk p0 p1 p2 r) := by
  refine Con.mk (plainFor_of_name pn_6) (fun m => show entryFrame m #[(.ref tb), (.long xk)] 3 = mkF m 0 #[.val (.ref tb), .val (.long xk), .second] [] by first | (simp [entryFrame, mkF, argsToLocals, Value.category]; done) | rfl) ?_
  intro p e s m below meth c s₁ hx hby hml hown hnm hret hlk hZ X0 e0
  have N0 := Fr.nil n0
  show Run p e below s _ _ _ (s₁.setTop (mkF m 0 #[.val (.ref tb), .val (.long xk), .second] []))
  refine Run.pre (fun _ k => XS.aloadN X0.here hx rfl (hb hby d6_0) rfl rfl k) ?_
  obtain ⟨T108, X108, e108, st108⟩ := getF X0 hx hZ hown (host := "") (Or.inl (hwi hw 10 rfl)) Via.refl e0 FO (g := (mkF m 1 #[.val (.ref tb), .val (.long xk), .second] [(.ref tb)])) rfl rfl (hb hby d6_1)
  refine Run.pre st108 ?_
  refine Run.pre (fun _ k => XS.aloadN X108.here hx rfl (hb hby d6_4) rfl rfl k) ?_
  obtain ⟨T109, X109, e109, st109⟩ := getF X108 hx hZ hown (host := "") (Or.inl (hwi hw 36 rfl)) Via.refl e108 Ff (g := (mkF m 5 #[.val (.ref tb), .val (.long xk), .second] [(.ref tb), (.ref xo)])) rfl rfl (hb hby d6_5)
  refine Run.pre st109 ?_
  refine Run.pre (fun _ k => XS.aloadN X109.here hx rfl (hb hby d6_8) rfl rfl k) ?_
  obtain ⟨T110, X110, e110, st110⟩ := getF X109 hx hZ hown (host := "") (Or.inl (hwi hw 34 rfl)) Via.refl e109 Fe (g := (mkF m 9 #[.val (.ref tb), .val (.long xk), .second] [(.ref tb), (.int (0 : Int32)), (.ref xo)])) rfl rfl (hb hby d6_9)
  refine Run.pre st110 ?_
  show Run p e below s _ _ _ (T110.setTop (mkF m 12 #[.val (.ref tb), .val (.long xk), .second] [(.int (1 : Int32)), (.int (0 : Int32)), (.ref xo)]))
  refine Run.pre (fun _ k => XS.lloadN X110.here hx rfl (hb hby d6_12) rfl  k) ?_
  refine Run.callS X110 hx hZ (y := (⟨"java/util/Arrays", "binarySearch", "([JIIJ)I"⟩ : MethodName)) hown (hwi hw 46 rfl) (hwi hw 47 rfl) (hwi hw 48 rfl) (hwi hw 49 rfl) (by decide) (W := 0) (rmB_01 l Z a0 hw xo ko p0 p1 p2 xk h0 n0 (Nat.le_trans Z0 (Keep.refl h0 []).1) AO) e110 (by decide) (by decide) (by decide) (by decide) (g := (mkF m 13 #[.val (.ref tb), .val (.long xk), .second] [(.long xk), (.int (1 : Int32)), (.int (0 : Int32)), (.ref xo)])) rfl (by rw [hml]; rfl) (argsL := [(.ref xo), (.int (0 : Int32)), (.int (1 : Int32)), (.long xk)]) (rest := []) (lenOf pd_1 rfl) rfl (by show 2 * 0 + _ ≤ _; exact Nat.le_of_eq rfl) (hb hby d6_13) ?_
  intro v111 T111 L111 X111 hQ111
  obtain ⟨r111, rfl, Nq111, he111, sp111⟩ := hQ111
  have N111 := Fr.app N0 Nq111
  have e111 : T111.heap = h0 := he111
  exact Run.retI X111 hx hret hlk (hb hby d6_16) (by first | (rw [e111]; exact ⟨r111, rfl, N111, rfl, sp111⟩) | exact ⟨r111, rfl, N111, rfl, sp111⟩) (by decide) (by decide)
theorem d10_0 : decode prog_84_method_12_code 0 = .ok (.aload_n 0, 1) := by decide +kernel
theorem d10_1 : decode prog_84_method_12_code 1 = .ok (.getfield 27, 3) := by decide +kernel
theorem d10_4 : decode prog_84_method_12_code 4 = .ok (.aload_n 0, 1) := by decide +kernel
theorem d10_5 : decode prog_84_method_12_code 5 = .ok (.getfield 7, 3) := by decide +kernel
theorem d10_8 : decode prog_84_method_12_code 8 = .ok (.arraylength, 1) := by decide +kernel
theorem d10_9 : decode prog_84_method_12_code 9 = .ok (.if_icmp .ne 7, 3) := by decide +kernel
theorem d10_16 : decode prog_84_method_12_code 16 = .ok (.aload_n 0, 1) := by decide +kernel
theorem d10_17 : decode prog_84_method_12_code 17 = .ok (.lload_n 1, 1) := by decide +kernel
theorem pd_2 : parseMethodDescriptor "(J)I" = some ⟨[.long], some .int⟩ := by decide +kernel
theorem d10_18 : decode prog_84_method_12_code 18 = .ok (.invokevirtual 34, 3) := by decide +kernel
theorem own_selP {Z : State} {a0 : Array Value} {y z : MethodName} (w1 : (Jvm.Cond.instanceMethod y).before a0 Z = true) (w2 : (Jvm.Cond.privateMethod y).before a0 Z = true) (w3 : (Jvm.Cond.selects z.cls z z).before a0 Z = true) (e : z.cls = y.cls) (hy : y.cls ≠ "java/lang/invoke/MethodHandle" ∧ y.cls ≠ "java/lang/invoke/VarHandle") : (Jvm.Cond.selects y.cls y y).before a0 Z = true := by
  obtain ⟨c2, r2, m2, q1, q2, q3, q4, kP, hkP, hkPi⟩ := Jvm.Cond.selects_spec w3
  have hc : Z.vm.findClass z.cls = some m2.cls := findClass_of_methodNamed q3
  rw [e] at hc
  exact selects_self_of_private hc hkP hkPi (Jvm.Cond.privateMethod_at w2) w1 hy

theorem d10_21 : decode prog_84_method_12_code 21 = .ok (.ineg, 1) := by decide +kernel
theorem d10_22 : decode prog_84_method_12_code 22 = .ok (.iconst 1, 1) := by decide +kernel
theorem d10_23 : decode prog_84_method_12_code 23 = .ok (.isub, 1) := by decide +kernel
theorem d10_24 : decode prog_84_method_12_code 24 = .ok (.istore_n 3, 1) := by decide +kernel
theorem d10_25 : decode prog_84_method_12_code 25 = .ok (.aload_n 0, 1) := by decide +kernel
theorem d10_26 : decode prog_84_method_12_code 26 = .ok (.getfield 27, 3) := by decide +kernel
theorem d10_29 : decode prog_84_method_12_code 29 = .ok (.iload_n 3, 1) := by decide +kernel
theorem d10_30 : decode prog_84_method_12_code 30 = .ok (.isub, 1) := by decide +kernel
theorem d10_31 : decode prog_84_method_12_code 31 = .ok (.istore 4, 2) := by decide +kernel
theorem d10_33 : decode prog_84_method_12_code 33 = .ok (.aload_n 0, 1) := by decide +kernel
theorem d10_34 : decode prog_84_method_12_code 34 = .ok (.getfield 7, 3) := by decide +kernel
theorem d10_37 : decode prog_84_method_12_code 37 = .ok (.iload_n 3, 1) := by decide +kernel
theorem d10_38 : decode prog_84_method_12_code 38 = .ok (.aload_n 0, 1) := by decide +kernel
theorem d10_39 : decode prog_84_method_12_code 39 = .ok (.getfield 7, 3) := by decide +kernel
theorem d10_42 : decode prog_84_method_12_code 42 = .ok (.iload_n 3, 1) := by decide +kernel
theorem d10_43 : decode prog_84_method_12_code 43 = .ok (.iconst 1, 1) := by decide +kernel
theorem d10_44 : decode prog_84_method_12_code 44 = .ok (.iadd, 1) := by decide +kernel
theorem d10_45 : decode prog_84_method_12_code 45 = .ok (.iload 4, 2) := by decide +kernel
theorem d10_47 : decode prog_84_method_12_code 47 = .ok (.invokestatic 59, 3) := by decide +kernel
theorem d10_50 : decode prog_84_method_12_code 50 = .ok (.aload_n 0, 1) := by decide +kernel
theorem d10_51 : decode prog_84_method_12_code 51 = .ok (.getfield 13, 3) := by decide +kernel
theorem d10_54 : decode prog_84_method_12_code 54 = .ok (.iload_n 3, 1) := by decide +kernel
theorem d10_55 : decode prog_84_method_12_code 55 = .ok (.aload_n 0, 1) := by decide +kernel
theorem d10_56 : decode prog_84_method_12_code 56 = .ok (.getfield 13, 3) := by decide +kernel
theorem d10_59 : decode prog_84_method_12_code 59 = .ok (.iload_n 3, 1) := by decide +kernel
theorem d10_60 : decode prog_84_method_12_code 60 = .ok (.iconst 1, 1) := by decide +kernel
theorem d10_61 : decode prog_84_method_12_code 61 = .ok (.iadd, 1) := by decide +kernel
theorem d10_62 : decode prog_84_method_12_code 62 = .ok (.iload 4, 2) := by decide +kernel
theorem d10_64 : decode prog_84_method_12_code 64 = .ok (.invokestatic 59, 3) := by decide +kernel
theorem d10_67 : decode prog_84_method_12_code 67 = .ok (.aload_n 0, 1) := by decide +kernel
theorem d10_68 : decode prog_84_method_12_code 68 = .ok (.getfield 16, 3) := by decide +kernel
theorem d10_71 : decode prog_84_method_12_code 71 = .ok (.iload_n 3, 1) := by decide +kernel
theorem d10_72 : decode prog_84_method_12_code 72 = .ok (.aload_n 0, 1) := by decide +kernel
theorem d10_73 : decode prog_84_method_12_code 73 = .ok (.getfield 16, 3) := by decide +kernel
theorem d10_76 : decode prog_84_method_12_code 76 = .ok (.iload_n 3, 1) := by decide +kernel
theorem d10_77 : decode prog_84_method_12_code 77 = .ok (.iconst 1, 1) := by decide +kernel
theorem d10_78 : decode prog_84_method_12_code 78 = .ok (.iadd, 1) := by decide +kernel
theorem d10_79 : decode prog_84_method_12_code 79 = .ok (.iload 4, 2) := by decide +kernel
theorem d10_81 : decode prog_84_method_12_code 81 = .ok (.invokestatic 59, 3) := by decide +kernel
theorem d10_84 : decode prog_84_method_12_code 84 = .ok (.aload_n 0, 1) := by decide +kernel
theorem d10_85 : decode prog_84_method_12_code 85 = .ok (.getfield 20, 3) := by decide +kernel
theorem d10_88 : decode prog_84_method_12_code 88 = .ok (.iload_n 3, 1) := by decide +kernel
theorem d10_89 : decode prog_84_method_12_code 89 = .ok (.aload_n 0, 1) := by decide +kernel
theorem d10_90 : decode prog_84_method_12_code 90 = .ok (.getfield 20, 3) := by decide +kernel
theorem d10_93 : decode prog_84_method_12_code 93 = .ok (.iload_n 3, 1) := by decide +kernel
theorem d10_94 : decode prog_84_method_12_code 94 = .ok (.iconst 1, 1) := by decide +kernel
theorem d10_95 : decode prog_84_method_12_code 95 = .ok (.iadd, 1) := by decide +kernel
theorem d10_96 : decode prog_84_method_12_code 96 = .ok (.iload 4, 2) := by decide +kernel
theorem d10_98 : decode prog_84_method_12_code 98 = .ok (.invokestatic 59, 3) := by decide +kernel
theorem d10_101 : decode prog_84_method_12_code 101 = .ok (.aload_n 0, 1) := by decide +kernel
theorem d10_102 : decode prog_84_method_12_code 102 = .ok (.getfield 23, 3) := by decide +kernel
theorem d10_105 : decode prog_84_method_12_code 105 = .ok (.iload_n 3, 1) := by decide +kernel
theorem d10_106 : decode prog_84_method_12_code 106 = .ok (.aload_n 0, 1) := by decide +kernel
theorem d10_107 : decode prog_84_method_12_code 107 = .ok (.getfield 23, 3) := by decide +kernel
theorem d10_110 : decode prog_84_method_12_code 110 = .ok (.iload_n 3, 1) := by decide +kernel
theorem d10_111 : decode prog_84_method_12_code 111 = .ok (.iconst 1, 1) := by decide +kernel
theorem d10_112 : decode prog_84_method_12_code 112 = .ok (.iadd, 1) := by decide +kernel
theorem d10_113 : decode prog_84_method_12_code 113 = .ok (.iload 4, 2) := by decide +kernel
theorem d10_115 : decode prog_84_method_12_code 115 = .ok (.invokestatic 59, 3) := by decide +kernel
theorem d10_118 : decode prog_84_method_12_code 118 = .ok (.aload_n 0, 1) := by decide +kernel
theorem d10_119 : decode prog_84_method_12_code 119 = .ok (.getfield 7, 3) := by decide +kernel
theorem d10_122 : decode prog_84_method_12_code 122 = .ok (.iload_n 3, 1) := by decide +kernel
theorem d10_123 : decode prog_84_method_12_code 123 = .ok (.lload_n 1, 1) := by decide +kernel
theorem d10_124 : decode prog_84_method_12_code 124 = .ok (.lastore, 1) := by decide +kernel
theorem d10_125 : decode prog_84_method_12_code 125 = .ok (.aload_n 0, 1) := by decide +kernel
theorem d10_126 : decode prog_84_method_12_code 126 = .ok (.getfield 23, 3) := by decide +kernel
theorem d10_129 : decode prog_84_method_12_code 129 = .ok (.iload_n 3, 1) := by decide +kernel
theorem d10_130 : decode prog_84_method_12_code 130 = .ok (.iconst 0, 1) := by decide +kernel
theorem d10_131 : decode prog_84_method_12_code 131 = .ok (.bastore, 1) := by decide +kernel
theorem d10_132 : decode prog_84_method_12_code 132 = .ok (.aload_n 0, 1) := by decide +kernel
theorem d10_133 : decode prog_84_method_12_code 133 = .ok (.dup, 1) := by decide +kernel
theorem d10_134 : decode prog_84_method_12_code 134 = .ok (.getfield 27, 3) := by decide +kernel
theorem d10_137 : decode prog_84_method_12_code 137 = .ok (.iconst 1, 1) := by decide +kernel
theorem d10_138 : decode prog_84_method_12_code 138 = .ok (.iadd, 1) := by decide +kernel
theorem d10_139 : decode prog_84_method_12_code 139 = .ok (.putfield 27, 3) := by decide +kernel
theorem d10_142 : decode prog_84_method_12_code 142 = .ok (.iload_n 3, 1) := by decide +kernel
theorem d10_143 : decode prog_84_method_12_code 143 = .ok (.ireturn, 1) := by decide +kernel
theorem pn_10 : plainName "com/example/manana/manana/storage/WaitingTable" = true := by first | (simp [plainName, overriddenIn]; done) | decide +kernel
set_option maxRecDepth 65536 in
set_option maxHeartbeats 40000000 in
theorem rmIn_01_0 (l : Launch) (Z : State) (a0 : Array Value) (hw : ∀ d ∈ tables_1, d.before a0 Z = true) (tb : Addr) (xo : Addr) (xd : Addr) (xl : Addr) (xq : Addr) (xh : Addr) (ko : ClassId) (kd : ClassId) (kl : ClassId) (kq : ClassId) (kh : ClassId) (p0 : Int64) (p1 : Int64) (p2 : Int64) (d0 : Int64) (d1 : Int64) (d2 : Int64) (l0 : Int32) (l1 : Int32) (l2 : Int32) (q0 : Int32) (q1 : Int32) (q2 : Int32) (b0 : Int32) (b1 : Int32) (b2 : Int32) (si : Int32) (xk : Int64) (h0 : Heap) (n0 : Nat) (Z0 : n0 ≤ h0.size) (E_tb : Exa Z h0 tb "com/example/manana/manana/storage/WaitingTable") (FR0 : Fld Z h0 tb "com/example/manana/manana/storage/WaitingTable" "offsets" "[J" (.ref xo)) (FR1 : Fld Z h0 tb "com/example/manana/manana/storage/WaitingTable" "dues" "[J" (.ref xd)) (FR2 : Fld Z h0 tb "com/example/manana/manana/storage/WaitingTable" "lengths" "[I" (.ref xl)) (FR3 : Fld Z h0 tb "com/example/manana/manana/storage/WaitingTable" "queues" "[I" (.ref xq)) (FR4 : Fld Z h0 tb "com/example/manana/manana/storage/WaitingTable" "held" "[Z" (.ref xh)) (Ff : Fld Z h0 tb "com/example/manana/manana/storage/WaitingTable" "first" "I" (.int (0 : Int32))) (Fe : Fld Z h0 tb "com/example/manana/manana/storage/WaitingTable" "end" "I" (.int (1 : Int32))) (Fz : Fld Z h0 tb "com/example/manana/manana/storage/WaitingTable" "size" "I" (.int si)) (AR0 : Arv Z h0 xo ko .long 16 (own_LJ p0 p1 p2) (.long (0 : Int64))) (AR1 : Arv Z h0 xd kd .long 16 (own_LJ d0 d1 d2) (.long (0 : Int64))) (AR2 : Arv Z h0 xl kl .int 16 (own_LI l0 l1 l2) (.int (0 : Int32))) (AR3 : Arv Z h0 xq kq .int 16 (own_LI q0 q1 q2) (.int (0 : Int32))) (AR4 : Arv Z h0 xh kh .boolean 16 (own_LI b0 b1 b2) (.int (0 : Int32))) (hD : own_D tb xo xd xl xq xh) (g_tb : n0 ≤ tb) (g_xo : n0 ≤ xo) (g_xd : n0 ≤ xd) (g_xl : n0 ≤ xl) (g_xq : n0 ≤ xq) (g_xh : n0 ≤ xh) (r0 : (xk < p0 ∧ ¬ p0 < xk)) :
    Con l (⟨"com/example/manana/manana/storage/WaitingTable", "insert", "(J)I"⟩ : MethodName) prog_84_method_12_code 5 (some .int) ({ frames := 3, cells := 0, slots := 0, locals := 51 } : Room) Z #[(.ref tb), (.long xk)] h0 (fun v h L => v = some (.int 0) ∧ Fr n0 L ∧ Keep h0 h [tb, xo, xd, xl, xq, xh] ∧ Exa Z h tb "com/example/manana/manana/storage/WaitingTable" ∧ Fld Z h tb "com/example/manana/manana/storage/WaitingTable" "offsets" "[J" (.ref xo) ∧ Fld Z h tb "com/example/manana/manana/storage/WaitingTable" "dues" "[J" (.ref xd) ∧ Fld Z h tb "com/example/manana/manana/storage/WaitingTable" "lengths" "[I" (.ref xl) ∧ Fld Z h tb "com/example/manana/manana/storage/WaitingTable" "queues" "[I" (.ref xq) ∧ Fld Z h tb "com/example/manana/manana/storage/WaitingTable" "held" "[Z" (.ref xh) ∧ Fld Z h tb "com/example/manana/manana/storage/WaitingTable" "first" "I" (.int (0 : Int32)) ∧ Fld Z h tb "com/example/manana/manana/storage/WaitingTable" "end" "I" (.int (2 : Int32)) ∧ Fld Z h tb "com/example/manana/manana/storage/WaitingTable" "size" "I" (.int si) ∧ Arv Z h xo ko .long 16 (own_LJ xk p0 p2) (.long (0 : Int64)) ∧ Arv Z h xd kd .long 16 (own_LJ d0 d0 d2) (.long (0 : Int64)) ∧ Arv Z h xl kl .int 16 (own_LI l0 l0 l2) (.int (0 : Int32)) ∧ Arv Z h xq kq .int 16 (own_LI q0 q0 q2) (.int (0 : Int32)) ∧ Arv Z h xh kh .boolean 16 (own_LI (nar .boolean (0 : Int32)) b0 b2) (.int (0 : Int32))) := by
  refine Con.mk (plainFor_of_name pn_10) (fun m => show entryFrame m #[(.ref tb), (.long xk)] 5 = mkF m 0 #[.val (.ref tb), .val (.long xk), .second, .unset, .unset] [] by first | (simp [entryFrame, mkF, argsToLocals, Value.category]; done) | rfl) ?_
  intro p e s m below meth c s₁ hx hby hml hown hnm hret hlk hZ X0 e0
  have N0 := Fr.nil n0
  obtain ⟨ne_tb_xo, ne_tb_xd, ne_tb_xl, ne_tb_xq, ne_tb_xh, ne_xo_xd, ne_xo_xl, ne_xo_xq, ne_xo_xh, ne_xd_xl, ne_xd_xq, ne_xd_xh, ne_xl_xq, ne_xl_xh, ne_xq_xh⟩ := id hD
  show Run p e below s _ _ _ (s₁.setTop (mkF m 0 #[.val (.ref tb), .val (.long xk), .second, .unset, .unset] []))
  refine Run.pre (fun _ k => XS.aloadN X0.here hx rfl (hb hby d10_0) rfl rfl k) ?_
  obtain ⟨T112, X112, e112, st112⟩ := getF X0 hx hZ hown (host := "") (Or.inl (hwi hw 34 rfl)) Via.refl e0 Fe (g := (mkF m 1 #[.val (.ref tb), .val (.long xk), .second, .unset, .unset] [(.ref tb)])) rfl rfl (hb hby d10_1)
  refine Run.pre st112 ?_
  refine Run.pre (fun _ k => XS.aloadN X112.here hx rfl (hb hby d10_4) rfl rfl k) ?_
  obtain ⟨T113, X113, e113, st113⟩ := getF X112 hx hZ hown (host := "") (Or.inl (hwi hw 10 rfl)) Via.refl e112 FR0 (g := (mkF m 5 #[.val (.ref tb), .val (.long xk), .second, .unset, .unset] [(.ref tb), (.int (1 : Int32))])) rfl rfl (hb hby d10_5)
  refine Run.pre st113 ?_
  obtain ⟨c114, Ar114, -, S114, N114, -, -⟩ := id AR0
  refine Run.pre (X113.arraylength hx (by rw [e113]; exact Ar114.1) (State.isArrayOf_alike hZ.alike Ar114.2.1) (g := (mkF m 8 #[.val (.ref tb), .val (.long xk), .second, .unset, .unset] [(.ref xo), (.int (1 : Int32))])) rfl rfl (hb hby d10_8)) ?_
  rw [len_of S114 N114]
  refine Run.pre (fun _ k => XS.icmpYes X113.here hx rfl (pc0 := 9) (pc' := 16) rfl (hb hby d10_9) rfl (feq ((by decide) : ¬ ((1 : Int32) = (16 : Int32)))).2 (by decide) (by decide) k) ?_
  show Run p e below s _ _ _ (T113.setTop (mkF m 16 #[.val (.ref tb), .val (.long xk), .second, .unset, .unset] []))
  refine Run.pre (fun _ k => XS.aloadN X113.here hx rfl (hb hby d10_16) rfl rfl k) ?_
  refine Run.pre (fun _ k => XS.lloadN X113.here hx rfl (hb hby d10_17) rfl  k) ?_
  refine Run.callP X113 hx hZ (y := (⟨"com/example/manana/manana/storage/WaitingTable", "slotOf", "(J)I"⟩ : MethodName)) hown (hwi hw 42 rfl) (hwi hw 43 rfl) (own_selP (y := (⟨"com/example/manana/manana/storage/WaitingTable", "slotOf", "(J)I"⟩ : MethodName)) (z := (⟨"com/example/manana/manana/storage/WaitingTable", "lowest", "(J)J"⟩ : MethodName)) (hwi hw 43 rfl) (hwi hw 44 rfl) (hwi hw 25 rfl) rfl (by decide)) (hwi hw 44 rfl) (hwi hw 45 rfl) (hwi hw 2 rfl) (by decide) (a := tb) E_tb (W := 0) (rmS_01 l Z a0 hw tb xo ko p0 p1 p2 xk h0 n0 (Nat.le_trans Z0 (Keep.refl h0 [tb, xo, xd, xl, xq, xh]).1) E_tb FR0 Ff Fe AR0) e113 (by decide) (by decide) (by decide) (by decide) (g := (mkF m 18 #[.val (.ref tb), .val (.long xk), .second, .unset, .unset] [(.long xk), (.ref tb)])) rfl (by rw [hml]; rfl) (argsL := [(.long xk)]) (rest := []) (lenOf pd_2 rfl) rfl (by show 2 * 0 + _ ≤ _; exact Nat.le_of_eq rfl) (hb hby d10_18) ?_
  intro v115 T115 L115 X115 hQ115
  obtain ⟨r115, rfl, Nq115, he115, sp115⟩ := hQ115
  have N115 := Fr.app N0 Nq115
  have e115 : T115.heap = h0 := he115
  show Run p e below s _ _ _ (T115.setTop (mkF m 21 #[.val (.ref tb), .val (.long xk), .second, .unset, .unset] [(.int r115)]))
  rcases sp115 with ⟨rfl, s0⟩ | ⟨rfl, s0⟩ | ⟨rfl, s0⟩
  · skip
    exact absurd r0.1 s0.1
  · skip
    refine Run.pre (fun _ k => XS.ineg X115.here hx rfl (hb hby d10_21) rfl k) ?_
    refine Run.pre (fun _ k => XS.iconst X115.here hx rfl (hb hby d10_22) k) ?_
    refine Run.pre (fun _ k => XS.isub X115.here hx rfl (hb hby d10_23) rfl k) ?_
    show Run p e below s _ _ _ (T115.setTop (mkF m 24 #[.val (.ref tb), .val (.long xk), .second, .unset, .unset] [(.int (0 : Int32))]))
    refine Run.pre (fun _ k => XS.istoreN X115.here hx rfl (hb hby d10_24) rfl (l' := #[.val (.ref tb), .val (.long xk), .second, .val (.int (0 : Int32)), .unset]) rfl k) ?_
    refine Run.pre (fun _ k => XS.aloadN X115.here hx rfl (hb hby d10_25) rfl rfl k) ?_
    obtain ⟨T116, X116, e116, st116⟩ := getF X115 hx hZ hown (host := "") (Or.inl (hwi hw 34 rfl)) Via.refl e115 Fe (g := (mkF m 26 #[.val (.ref tb), .val (.long xk), .second, .val (.int (0 : Int32)), .unset] [(.ref tb)])) rfl rfl (hb hby d10_26)
    refine Run.pre st116 ?_
    refine Run.pre (fun _ k => XS.iloadN X116.here hx rfl (hb hby d10_29) rfl  k) ?_
    refine Run.pre (fun _ k => XS.isub X116.here hx rfl (hb hby d10_30) rfl k) ?_
    refine Run.pre (fun _ k => XS.istore X116.here hx rfl (hb hby d10_31) rfl (l' := #[.val (.ref tb), .val (.long xk), .second, .val (.int (0 : Int32)), .val (.int (1 : Int32))]) rfl k) ?_
    show Run p e below s _ _ _ (T116.setTop (mkF m 33 #[.val (.ref tb), .val (.long xk), .second, .val (.int (0 : Int32)), .val (.int (1 : Int32))] []))
    refine Run.pre (fun _ k => XS.aloadN X116.here hx rfl (hb hby d10_33) rfl rfl k) ?_
    obtain ⟨T117, X117, e117, st117⟩ := getF X116 hx hZ hown (host := "") (Or.inl (hwi hw 10 rfl)) Via.refl e116 FR0 (g := (mkF m 34 #[.val (.ref tb), .val (.long xk), .second, .val (.int (0 : Int32)), .val (.int (1 : Int32))] [(.ref tb)])) rfl rfl (hb hby d10_34)
    refine Run.pre st117 ?_
    refine Run.pre (fun _ k => XS.iloadN X117.here hx rfl (hb hby d10_37) rfl  k) ?_
    refine Run.pre (fun _ k => XS.aloadN X117.here hx rfl (hb hby d10_38) rfl rfl k) ?_
    obtain ⟨T118, X118, e118, st118⟩ := getF X117 hx hZ hown (host := "") (Or.inl (hwi hw 10 rfl)) Via.refl e117 FR0 (g := (mkF m 39 #[.val (.ref tb), .val (.long xk), .second, .val (.int (0 : Int32)), .val (.int (1 : Int32))] [(.ref tb), (.int (0 : Int32)), (.ref xo)])) rfl rfl (hb hby d10_39)
    refine Run.pre st118 ?_
    refine Run.pre (fun _ k => XS.iloadN X118.here hx rfl (hb hby d10_42) rfl  k) ?_
    show Run p e below s _ _ _ (T118.setTop (mkF m 43 #[.val (.ref tb), .val (.long xk), .second, .val (.int (0 : Int32)), .val (.int (1 : Int32))] [(.int (0 : Int32)), (.ref xo), (.int (0 : Int32)), (.ref xo)]))
    refine Run.pre (fun _ k => XS.iconst X118.here hx rfl (hb hby d10_43) k) ?_
    refine Run.pre (fun _ k => XS.iadd X118.here hx rfl (hb hby d10_44) rfl k) ?_
    refine Run.pre (fun _ k => XS.iload X118.here hx rfl (hb hby d10_45) rfl  k) ?_
    obtain ⟨T119, h119, L119, X119, e119, N119, Kc119, V119, st119⟩ := cpA X118 hx hZ hown (hwi hw 60 rfl) (hwi hw 63 rfl) (hwi hw 61 rfl) (hwi hw 62 rfl) e118 AR0 AR0 (Or.inl ⟨rfl, rfl⟩) (by decide) (by decide) (by decide) (by decide) (by decide) rfl (Nat.le_of_ble_eq_true rfl) N115 g_xo (g := (mkF m 47 #[.val (.ref tb), .val (.long xk), .second, .val (.int (0 : Int32)), .val (.int (1 : Int32))] [(.int (1 : Int32)), (.int (1 : Int32)), (.ref xo), (.int (0 : Int32)), (.ref xo)])) rfl (by rw [hml]; rfl) rfl (hb hby d10_47) (by decide) (W := 0) (by show 2 * 0 + _ ≤ _; exact Nat.le_of_eq rfl) (by decide)
    refine Run.pre st119 ?_
    have K119 : Keep h0 h119 [tb, xo, xd, xl, xq, xh] := (Keep.refl h0 [tb, xo, xd, xl, xq, xh]).trans Kc119 (allS (Or.inl (by simp)) all0)
    have V_xo_119 : Arv Z h119 xo ko .long (16 : Int32) (own_LJ p0 p0 p2) (.long (0 : Int64)) := V119
    refine Run.pre (fun _ k => XS.aloadN X119.here hx rfl (hb hby d10_50) rfl rfl k) ?_
    have f120 := (FR1.keep Kc119 (ninS ne_tb_xo nin0))
    obtain ⟨T121, X121, e121, st121⟩ := getF X119 hx hZ hown (host := "") (Or.inl (hwi hw 12 rfl)) Via.refl e119 f120 (g := (mkF m 51 #[.val (.ref tb), .val (.long xk), .second, .val (.int (0 : Int32)), .val (.int (1 : Int32))] [(.ref tb)])) rfl rfl (hb hby d10_51)
    refine Run.pre st121 ?_
    show Run p e below s _ _ _ (T121.setTop (mkF m 54 #[.val (.ref tb), .val (.long xk), .second, .val (.int (0 : Int32)), .val (.int (1 : Int32))] [(.ref xd)]))
    refine Run.pre (fun _ k => XS.iloadN X121.here hx rfl (hb hby d10_54) rfl  k) ?_
    refine Run.pre (fun _ k => XS.aloadN X121.here hx rfl (hb hby d10_55) rfl rfl k) ?_
    obtain ⟨T122, X122, e122, st122⟩ := getF X121 hx hZ hown (host := "") (Or.inl (hwi hw 12 rfl)) Via.refl e121 f120 (g := (mkF m 56 #[.val (.ref tb), .val (.long xk), .second, .val (.int (0 : Int32)), .val (.int (1 : Int32))] [(.ref tb), (.int (0 : Int32)), (.ref xd)])) rfl rfl (hb hby d10_56)
    refine Run.pre st122 ?_
    refine Run.pre (fun _ k => XS.iloadN X122.here hx rfl (hb hby d10_59) rfl  k) ?_
    refine Run.pre (fun _ k => XS.iconst X122.here hx rfl (hb hby d10_60) k) ?_
    refine Run.pre (fun _ k => XS.iadd X122.here hx rfl (hb hby d10_61) rfl k) ?_
    show Run p e below s _ _ _ (T122.setTop (mkF m 62 #[.val (.ref tb), .val (.long xk), .second, .val (.int (0 : Int32)), .val (.int (1 : Int32))] [(.int (1 : Int32)), (.ref xd), (.int (0 : Int32)), (.ref xd)]))
    refine Run.pre (fun _ k => XS.iload X122.here hx rfl (hb hby d10_62) rfl  k) ?_
    have f124 := (AR1.keep Kc119 (ninS (Ne.symm ne_xo_xd) nin0))
    obtain ⟨T123, h123, L123, X123, e123, N123, Kc123, V123, st123⟩ := cpA X122 hx hZ hown (hwi hw 60 rfl) (hwi hw 63 rfl) (hwi hw 61 rfl) (hwi hw 62 rfl) e122 f124 f124 (Or.inl ⟨rfl, rfl⟩) (by decide) (by decide) (by decide) (by decide) (by decide) rfl (Nat.le_of_ble_eq_true rfl) N119 g_xd (g := (mkF m 64 #[.val (.ref tb), .val (.long xk), .second, .val (.int (0 : Int32)), .val (.int (1 : Int32))] [(.int (1 : Int32)), (.int (1 : Int32)), (.ref xd), (.int (0 : Int32)), (.ref xd)])) rfl (by rw [hml]; rfl) rfl (hb hby d10_64) (by decide) (W := 0) (by show 2 * 0 + _ ≤ _; exact Nat.le_of_eq rfl) (by decide)
    refine Run.pre st123 ?_
    have K123 : Keep h0 h123 [tb, xo, xd, xl, xq, xh] := K119.trans Kc123 (allS (Or.inl (by simp)) all0)
    have V_xd_123 : Arv Z h123 xd kd .long (16 : Int32) (own_LJ d0 d0 d2) (.long (0 : Int64)) := V123
    refine Run.pre (fun _ k => XS.aloadN X123.here hx rfl (hb hby d10_67) rfl rfl k) ?_
    have f125 := ((FR2.keep Kc119 (ninS ne_tb_xo nin0)).keep Kc123 (ninS ne_tb_xd nin0))
    obtain ⟨T126, X126, e126, st126⟩ := getF X123 hx hZ hown (host := "") (Or.inl (hwi hw 15 rfl)) Via.refl e123 f125 (g := (mkF m 68 #[.val (.ref tb), .val (.long xk), .second, .val (.int (0 : Int32)), .val (.int (1 : Int32))] [(.ref tb)])) rfl rfl (hb hby d10_68)
    refine Run.pre st126 ?_
    refine Run.pre (fun _ k => XS.iloadN X126.here hx rfl (hb hby d10_71) rfl  k) ?_
    refine Run.pre (fun _ k => XS.aloadN X126.here hx rfl (hb hby d10_72) rfl rfl k) ?_
    show Run p e below s _ _ _ (T126.setTop (mkF m 73 #[.val (.ref tb), .val (.long xk), .second, .val (.int (0 : Int32)), .val (.int (1 : Int32))] [(.ref tb), (.int (0 : Int32)), (.ref xl)]))
    obtain ⟨T127, X127, e127, st127⟩ := getF X126 hx hZ hown (host := "") (Or.inl (hwi hw 15 rfl)) Via.refl e126 f125 (g := (mkF m 73 #[.val (.ref tb), .val (.long xk), .second, .val (.int (0 : Int32)), .val (.int (1 : Int32))] [(.ref tb), (.int (0 : Int32)), (.ref xl)])) rfl rfl (hb hby d10_73)
    refine Run.pre st127 ?_
    refine Run.pre (fun _ k => XS.iloadN X127.here hx rfl (hb hby d10_76) rfl  k) ?_
    refine Run.pre (fun _ k => XS.iconst X127.here hx rfl (hb hby d10_77) k) ?_
    refine Run.pre (fun _ k => XS.iadd X127.here hx rfl (hb hby d10_78) rfl k) ?_
    refine Run.pre (fun _ k => XS.iload X127.here hx rfl (hb hby d10_79) rfl  k) ?_
    have f129 := ((AR2.keep Kc119 (ninS (Ne.symm ne_xo_xl) nin0)).keep Kc123 (ninS (Ne.symm ne_xd_xl) nin0))
    obtain ⟨T128, h128, L128, X128, e128, N128, Kc128, V128, st128⟩ := cpA X127 hx hZ hown (hwi hw 60 rfl) (hwi hw 63 rfl) (hwi hw 61 rfl) (hwi hw 62 rfl) e127 f129 f129 (Or.inl ⟨rfl, rfl⟩) (by decide) (by decide) (by decide) (by decide) (by decide) rfl (Nat.le_of_ble_eq_true rfl) N123 g_xl (g := (mkF m 81 #[.val (.ref tb), .val (.long xk), .second, .val (.int (0 : Int32)), .val (.int (1 : Int32))] [(.int (1 : Int32)), (.int (1 : Int32)), (.ref xl), (.int (0 : Int32)), (.ref xl)])) rfl (by rw [hml]; rfl) rfl (hb hby d10_81) (by decide) (W := 0) (by show 2 * 0 + _ ≤ _; exact Nat.le_of_eq rfl) (by decide)
    refine Run.pre st128 ?_
    have K128 : Keep h0 h128 [tb, xo, xd, xl, xq, xh] := K123.trans Kc128 (allS (Or.inl (by simp)) all0)
    have V_xl_128 : Arv Z h128 xl kl .int (16 : Int32) (own_LI l0 l0 l2) (.int (0 : Int32)) := V128
    show Run p e below s _ _ _ (T128.setTop (mkF m 84 #[.val (.ref tb), .val (.long xk), .second, .val (.int (0 : Int32)), .val (.int (1 : Int32))] []))
    refine Run.pre (fun _ k => XS.aloadN X128.here hx rfl (hb hby d10_84) rfl rfl k) ?_
    have f130 := (((FR3.keep Kc119 (ninS ne_tb_xo nin0)).keep Kc123 (ninS ne_tb_xd nin0)).keep Kc128 (ninS ne_tb_xl nin0))
    obtain ⟨T131, X131, e131, st131⟩ := getF X128 hx hZ hown (host := "") (Or.inl (hwi hw 17 rfl)) Via.refl e128 f130 (g := (mkF m 85 #[.val (.ref tb), .val (.long xk), .second, .val (.int (0 : Int32)), .val (.int (1 : Int32))] [(.ref tb)])) rfl rfl (hb hby d10_85)
    refine Run.pre st131 ?_
    refine Run.pre (fun _ k => XS.iloadN X131.here hx rfl (hb hby d10_88) rfl  k) ?_
    refine Run.pre (fun _ k => XS.aloadN X131.here hx rfl (hb hby d10_89) rfl rfl k) ?_
    obtain ⟨T132, X132, e132, st132⟩ := getF X131 hx hZ hown (host := "") (Or.inl (hwi hw 17 rfl)) Via.refl e131 f130 (g := (mkF m 90 #[.val (.ref tb), .val (.long xk), .second, .val (.int (0 : Int32)), .val (.int (1 : Int32))] [(.ref tb), (.int (0 : Int32)), (.ref xq)])) rfl rfl (hb hby d10_90)
    refine Run.pre st132 ?_
    refine Run.pre (fun _ k => XS.iloadN X132.here hx rfl (hb hby d10_93) rfl  k) ?_
    show Run p e below s _ _ _ (T132.setTop (mkF m 94 #[.val (.ref tb), .val (.long xk), .second, .val (.int (0 : Int32)), .val (.int (1 : Int32))] [(.int (0 : Int32)), (.ref xq), (.int (0 : Int32)), (.ref xq)]))
    refine Run.pre (fun _ k => XS.iconst X132.here hx rfl (hb hby d10_94) k) ?_
    refine Run.pre (fun _ k => XS.iadd X132.here hx rfl (hb hby d10_95) rfl k) ?_
    refine Run.pre (fun _ k => XS.iload X132.here hx rfl (hb hby d10_96) rfl  k) ?_
    have f134 := (((AR3.keep Kc119 (ninS (Ne.symm ne_xo_xq) nin0)).keep Kc123 (ninS (Ne.symm ne_xd_xq) nin0)).keep Kc128 (ninS (Ne.symm ne_xl_xq) nin0))
    obtain ⟨T133, h133, L133, X133, e133, N133, Kc133, V133, st133⟩ := cpA X132 hx hZ hown (hwi hw 60 rfl) (hwi hw 63 rfl) (hwi hw 61 rfl) (hwi hw 62 rfl) e132 f134 f134 (Or.inl ⟨rfl, rfl⟩) (by decide) (by decide) (by decide) (by decide) (by decide) rfl (Nat.le_of_ble_eq_true rfl) N128 g_xq (g := (mkF m 98 #[.val (.ref tb), .val (.long xk), .second, .val (.int (0 : Int32)), .val (.int (1 : Int32))] [(.int (1 : Int32)), (.int (1 : Int32)), (.ref xq), (.int (0 : Int32)), (.ref xq)])) rfl (by rw [hml]; rfl) rfl (hb hby d10_98) (by decide) (W := 0) (by show 2 * 0 + _ ≤ _; exact Nat.le_of_eq rfl) (by decide)
    refine Run.pre st133 ?_
    have K133 : Keep h0 h133 [tb, xo, xd, xl, xq, xh] := K128.trans Kc133 (allS (Or.inl (by simp)) all0)
    have V_xq_133 : Arv Z h133 xq kq .int (16 : Int32) (own_LI q0 q0 q2) (.int (0 : Int32)) := V133
    refine Run.pre (fun _ k => XS.aloadN X133.here hx rfl (hb hby d10_101) rfl rfl k) ?_
    have f135 := ((((FR4.keep Kc119 (ninS ne_tb_xo nin0)).keep Kc123 (ninS ne_tb_xd nin0)).keep Kc128 (ninS ne_tb_xl nin0)).keep Kc133 (ninS ne_tb_xq nin0))
    obtain ⟨T136, X136, e136, st136⟩ := getF X133 hx hZ hown (host := "") (Or.inl (hwi hw 20 rfl)) Via.refl e133 f135 (g := (mkF m 102 #[.val (.ref tb), .val (.long xk), .second, .val (.int (0 : Int32)), .val (.int (1 : Int32))] [(.ref tb)])) rfl rfl (hb hby d10_102)
    refine Run.pre st136 ?_
    show Run p e below s _ _ _ (T136.setTop (mkF m 105 #[.val (.ref tb), .val (.long xk), .second, .val (.int (0 : Int32)), .val (.int (1 : Int32))] [(.ref xh)]))
    refine Run.pre (fun _ k => XS.iloadN X136.here hx rfl (hb hby d10_105) rfl  k) ?_
    refine Run.pre (fun _ k => XS.aloadN X136.here hx rfl (hb hby d10_106) rfl rfl k) ?_
    obtain ⟨T137, X137, e137, st137⟩ := getF X136 hx hZ hown (host := "") (Or.inl (hwi hw 20 rfl)) Via.refl e136 f135 (g := (mkF m 107 #[.val (.ref tb), .val (.long xk), .second, .val (.int (0 : Int32)), .val (.int (1 : Int32))] [(.ref tb), (.int (0 : Int32)), (.ref xh)])) rfl rfl (hb hby d10_107)
    refine Run.pre st137 ?_
    refine Run.pre (fun _ k => XS.iloadN X137.here hx rfl (hb hby d10_110) rfl  k) ?_
    refine Run.pre (fun _ k => XS.iconst X137.here hx rfl (hb hby d10_111) k) ?_
    refine Run.pre (fun _ k => XS.iadd X137.here hx rfl (hb hby d10_112) rfl k) ?_
    show Run p e below s _ _ _ (T137.setTop (mkF m 113 #[.val (.ref tb), .val (.long xk), .second, .val (.int (0 : Int32)), .val (.int (1 : Int32))] [(.int (1 : Int32)), (.ref xh), (.int (0 : Int32)), (.ref xh)]))
    refine Run.pre (fun _ k => XS.iload X137.here hx rfl (hb hby d10_113) rfl  k) ?_
    have f139 := ((((AR4.keep Kc119 (ninS (Ne.symm ne_xo_xh) nin0)).keep Kc123 (ninS (Ne.symm ne_xd_xh) nin0)).keep Kc128 (ninS (Ne.symm ne_xl_xh) nin0)).keep Kc133 (ninS (Ne.symm ne_xq_xh) nin0))
    obtain ⟨T138, h138, L138, X138, e138, N138, Kc138, V138, st138⟩ := cpA X137 hx hZ hown (hwi hw 60 rfl) (hwi hw 63 rfl) (hwi hw 61 rfl) (hwi hw 62 rfl) e137 f139 f139 (Or.inl ⟨rfl, rfl⟩) (by decide) (by decide) (by decide) (by decide) (by decide) rfl (Nat.le_of_ble_eq_true rfl) N133 g_xh (g := (mkF m 115 #[.val (.ref tb), .val (.long xk), .second, .val (.int (0 : Int32)), .val (.int (1 : Int32))] [(.int (1 : Int32)), (.int (1 : Int32)), (.ref xh), (.int (0 : Int32)), (.ref xh)])) rfl (by rw [hml]; rfl) rfl (hb hby d10_115) (by decide) (W := 0) (by show 2 * 0 + _ ≤ _; exact Nat.le_of_eq rfl) (by decide)
    refine Run.pre st138 ?_
    have K138 : Keep h0 h138 [tb, xo, xd, xl, xq, xh] := K133.trans Kc138 (allS (Or.inl (by simp)) all0)
    have V_xh_138 : Arv Z h138 xh kh .boolean (16 : Int32) (own_LI b0 b0 b2) (.int (0 : Int32)) := V138
    refine Run.pre (fun _ k => XS.aloadN X138.here hx rfl (hb hby d10_118) rfl rfl k) ?_
    have f140 := (((((FR0.keep Kc119 (ninS ne_tb_xo nin0)).keep Kc123 (ninS ne_tb_xd nin0)).keep Kc128 (ninS ne_tb_xl nin0)).keep Kc133 (ninS ne_tb_xq nin0)).keep Kc138 (ninS ne_tb_xh nin0))
    obtain ⟨T141, X141, e141, st141⟩ := getF X138 hx hZ hown (host := "") (Or.inl (hwi hw 10 rfl)) Via.refl e138 f140 (g := (mkF m 119 #[.val (.ref tb), .val (.long xk), .second, .val (.int (0 : Int32)), .val (.int (1 : Int32))] [(.ref tb)])) rfl rfl (hb hby d10_119)
    refine Run.pre st141 ?_
    refine Run.pre (fun _ k => XS.iloadN X141.here hx rfl (hb hby d10_122) rfl  k) ?_
    refine Run.pre (fun _ k => XS.lloadN X141.here hx rfl (hb hby d10_123) rfl  k) ?_
    show Run p e below s _ _ _ (T141.setTop (mkF m 124 #[.val (.ref tb), .val (.long xk), .second, .val (.int (0 : Int32)), .val (.int (1 : Int32))] [(.long xk), (.int (0 : Int32)), (.ref xo)]))
    have f142 := ((((V_xo_119.keep Kc123 (ninS ne_xo_xd nin0)).keep Kc128 (ninS ne_xo_xl nin0)).keep Kc133 (ninS ne_xo_xq nin0)).keep Kc138 (ninS ne_xo_xh nin0))
    obtain ⟨c143, Ar143, q143, S143, N143, H143, G143⟩ := id f142
    have hin143 : ¬ ((0 : Int32) < 0 ∨ c143.slots.size ≤ ((0 : Int32)).toNatClampNeg) := inb_of S143 ⟨by decide, by decide⟩
    obtain ⟨T144, h144, X144, e144, W144, st144⟩ := stJ X141 hx hZ e141 Ar143 (j := (0 : Int32)) hin143 (g := (mkF m 124 #[.val (.ref tb), .val (.long xk), .second, .val (.int (0 : Int32)), .val (.int (1 : Int32))] [(.long xk), (.int (0 : Int32)), (.ref xo)])) rfl rfl (hb hby d10_124)
    refine Run.pre st144 ?_
    have V_xo_144 : Arv Z h144 xo ko .long (16 : Int32) (own_LJ xk p0 p2) (.long (0 : Int64)) := Arv.set Ar143 q143 S143 N143 H143 G143 rfl W144 0 rfl (Nat.le_of_ble_eq_true rfl)
    have K144 : Keep h0 h144 [tb, xo, xd, xl, xq, xh] := K138.wr W144 (Or.inl (by simp))
    have N144 := Fr.snoc X144 N138 g_xo
    refine Run.pre (fun _ k => XS.aloadN X144.here hx rfl (hb hby d10_125) rfl rfl k) ?_
    have f145 := ((f135.keep Kc138 (ninS ne_tb_xh nin0)).other W144 (Or.inl ne_tb_xo))
    obtain ⟨T146, X146, e146, st146⟩ := getF X144 hx hZ hown (host := "") (Or.inl (hwi hw 20 rfl)) Via.refl e144 f145 (g := (mkF m 126 #[.val (.ref tb), .val (.long xk), .second, .val (.int (0 : Int32)), .val (.int (1 : Int32))] [(.ref tb)])) rfl rfl (hb hby d10_126)
    refine Run.pre st146 ?_
    refine Run.pre (fun _ k => XS.iloadN X146.here hx rfl (hb hby d10_129) rfl  k) ?_
    refine Run.pre (fun _ k => XS.iconst X146.here hx rfl (hb hby d10_130) k) ?_
    have f147 := (V_xh_138.other W144 (Ne.symm ne_xo_xh))
    obtain ⟨c148, Ar148, q148, S148, N148, H148, G148⟩ := id f147
    have hin148 : ¬ ((0 : Int32) < 0 ∨ c148.slots.size ≤ ((0 : Int32)).toNatClampNeg) := inb_of S148 ⟨by decide, by decide⟩
    obtain ⟨T149, h149, X149, e149, W149, st149⟩ := stZ X146 hx hZ e146 Ar148 (j := (0 : Int32)) hin148 (g := (mkF m 131 #[.val (.ref tb), .val (.long xk), .second, .val (.int (0 : Int32)), .val (.int (1 : Int32))] [(.int (0 : Int32)), (.int (0 : Int32)), (.ref xh)])) rfl rfl (hb hby d10_131)
    refine Run.pre st149 ?_
    have V_xh_149 : Arv Z h149 xh kh .boolean (16 : Int32) (own_LI (nar .boolean (0 : Int32)) b0 b2) (.int (0 : Int32)) := Arv.set Ar148 q148 S148 N148 H148 G148 (fits_nar_bool _) W149 0 rfl (Nat.le_of_ble_eq_true rfl)
    have K149 : Keep h0 h149 [tb, xo, xd, xl, xq, xh] := K144.wr W149 (Or.inl (by simp))
    have N149 := Fr.snoc X149 N144 g_xh
    show Run p e below s _ _ _ (T149.setTop (mkF m 132 #[.val (.ref tb), .val (.long xk), .second, .val (.int (0 : Int32)), .val (.int (1 : Int32))] []))
    refine Run.pre (fun _ k => XS.aloadN X149.here hx rfl (hb hby d10_132) rfl rfl k) ?_
    refine Run.pre (fun _ k => XS.dup X149.here hx rfl (hb hby d10_133) rfl rfl k) ?_
    have f150 := (((((((Fe.keep Kc119 (ninS ne_tb_xo nin0)).keep Kc123 (ninS ne_tb_xd nin0)).keep Kc128 (ninS ne_tb_xl nin0)).keep Kc133 (ninS ne_tb_xq nin0)).keep Kc138 (ninS ne_tb_xh nin0)).other W144 (Or.inl ne_tb_xo)).other W149 (Or.inl ne_tb_xh))
    obtain ⟨T151, X151, e151, st151⟩ := getF X149 hx hZ hown (host := "") (Or.inl (hwi hw 34 rfl)) Via.refl e149 f150 (g := (mkF m 134 #[.val (.ref tb), .val (.long xk), .second, .val (.int (0 : Int32)), .val (.int (1 : Int32))] [(.ref tb), (.ref tb)])) rfl rfl (hb hby d10_134)
    refine Run.pre st151 ?_
    refine Run.pre (fun _ k => XS.iconst X151.here hx rfl (hb hby d10_137) k) ?_
    refine Run.pre (fun _ k => XS.iadd X151.here hx rfl (hb hby d10_138) rfl k) ?_
    have f152 := (((((((E_tb.keep Kc119).keep Kc123).keep Kc128).keep Kc133).keep Kc138).wr W144).wr W149)
    obtain ⟨T153, h153, X153, e153, W153, st153⟩ := putF X151 hx hZ hown (host := "") (Or.inl (hwi hw 34 rfl)) Via.refl e151 f150 f152 (Or.inl (hwi hw 35 rfl)) (hwi hw 1 rfl) (ty := .int) (by decide) rfl rfl (g := (mkF m 139 #[.val (.ref tb), .val (.long xk), .second, .val (.int (0 : Int32)), .val (.int (1 : Int32))] [(.int (2 : Int32)), (.ref tb)])) rfl rfl (hb hby d10_139)
    refine Run.pre st153 ?_
    have Fw153 := f150.same W153
    have K153 : Keep h0 h153 [tb, xo, xd, xl, xq, xh] := K149.wr W153 (Or.inl (by simp))
    have N153 := Fr.snoc X153 N149 g_tb
    show Run p e below s _ _ _ (T153.setTop (mkF m 142 #[.val (.ref tb), .val (.long xk), .second, .val (.int (0 : Int32)), .val (.int (1 : Int32))] []))
    refine Run.pre (fun _ k => XS.iloadN X153.here hx rfl (hb hby d10_142) rfl  k) ?_
    have f154 := (f152.wr W153)
    have f155 := (((f140.other W144 (Or.inl ne_tb_xo)).other W149 (Or.inl ne_tb_xh)).other W153 (Or.inr (slot_ne (Or.inl (hwi hw 11 rfl)) (Or.inl (hwi hw 35 rfl)) (by decide) (t := (.array .long)) (t' := .int) (by decide) (by decide))))
    have f156 := (((((((f120.keep Kc123 (ninS ne_tb_xd nin0)).keep Kc128 (ninS ne_tb_xl nin0)).keep Kc133 (ninS ne_tb_xq nin0)).keep Kc138 (ninS ne_tb_xh nin0)).other W144 (Or.inl ne_tb_xo)).other W149 (Or.inl ne_tb_xh)).other W153 (Or.inr (slot_ne (Or.inl (hwi hw 13 rfl)) (Or.inl (hwi hw 35 rfl)) (by decide) (t := (.array .long)) (t' := .int) (by decide) (by decide))))
    have f157 := ((((((f125.keep Kc128 (ninS ne_tb_xl nin0)).keep Kc133 (ninS ne_tb_xq nin0)).keep Kc138 (ninS ne_tb_xh nin0)).other W144 (Or.inl ne_tb_xo)).other W149 (Or.inl ne_tb_xh)).other W153 (Or.inr (slot_ne (Or.inl (hwi hw 16 rfl)) (Or.inl (hwi hw 35 rfl)) (by decide) (t := (.array .int)) (t' := .int) (by decide) (by decide))))
    have f158 := (((((f130.keep Kc133 (ninS ne_tb_xq nin0)).keep Kc138 (ninS ne_tb_xh nin0)).other W144 (Or.inl ne_tb_xo)).other W149 (Or.inl ne_tb_xh)).other W153 (Or.inr (slot_ne (Or.inl (hwi hw 18 rfl)) (Or.inl (hwi hw 35 rfl)) (by decide) (t := (.array .int)) (t' := .int) (by decide) (by decide))))
    have f159 := ((f145.other W149 (Or.inl ne_tb_xh)).other W153 (Or.inr (slot_ne (Or.inl (hwi hw 21 rfl)) (Or.inl (hwi hw 35 rfl)) (by decide) (t := (.array .boolean)) (t' := .int) (by decide) (by decide))))
    have f160 := ((((((((Ff.keep Kc119 (ninS ne_tb_xo nin0)).keep Kc123 (ninS ne_tb_xd nin0)).keep Kc128 (ninS ne_tb_xl nin0)).keep Kc133 (ninS ne_tb_xq nin0)).keep Kc138 (ninS ne_tb_xh nin0)).other W144 (Or.inl ne_tb_xo)).other W149 (Or.inl ne_tb_xh)).other W153 (Or.inr (slot_ne (Or.inl (hwi hw 37 rfl)) (Or.inl (hwi hw 35 rfl)) (by decide) (t := .int) (t' := .int) (by decide) (by decide))))
    have f161 := ((((((((Fz.keep Kc119 (ninS ne_tb_xo nin0)).keep Kc123 (ninS ne_tb_xd nin0)).keep Kc128 (ninS ne_tb_xl nin0)).keep Kc133 (ninS ne_tb_xq nin0)).keep Kc138 (ninS ne_tb_xh nin0)).other W144 (Or.inl ne_tb_xo)).other W149 (Or.inl ne_tb_xh)).other W153 (Or.inr (slot_ne (Or.inl (hwi hw 28 rfl)) (Or.inl (hwi hw 35 rfl)) (by decide) (t := .int) (t' := .int) (by decide) (by decide))))
    have f162 := ((V_xo_144.other W149 ne_xo_xh).other W153 (Ne.symm ne_tb_xo))
    have f163 := ((((((V_xd_123.keep Kc128 (ninS ne_xd_xl nin0)).keep Kc133 (ninS ne_xd_xq nin0)).keep Kc138 (ninS ne_xd_xh nin0)).other W144 (Ne.symm ne_xo_xd)).other W149 ne_xd_xh).other W153 (Ne.symm ne_tb_xd))
    have f164 := (((((V_xl_128.keep Kc133 (ninS ne_xl_xq nin0)).keep Kc138 (ninS ne_xl_xh nin0)).other W144 (Ne.symm ne_xo_xl)).other W149 ne_xl_xh).other W153 (Ne.symm ne_tb_xl))
    have f165 := ((((V_xq_133.keep Kc138 (ninS ne_xq_xh nin0)).other W144 (Ne.symm ne_xo_xq)).other W149 ne_xq_xh).other W153 (Ne.symm ne_tb_xq))
    have f166 := (V_xh_149.other W153 (Ne.symm ne_tb_xh))
    exact Run.retI X153 hx hret hlk (hb hby d10_143) (by first | (rw [e153]; exact ⟨rfl, N153, K153, f154, f155, f156, f157, f158, f159, f160, Fw153, f161, f162, f163, f164, f165, f166⟩) | exact ⟨rfl, N153, K153, f154, f155, f156, f157, f158, f159, f160, Fw153, f161, f162, f163, f164, f165, f166⟩) (by decide) (by decide)
  · skip
    exact absurd r0.1 s0.1
def own_bs02 (xk p0 p1 p2 : Int64) (r : Int32) : Prop := (r = (-3 : Int32) ∧ (¬ xk < p0 ∧ p0 < xk) ∧ (¬ xk < p1 ∧ p1 < xk)) ∨ (r = (-2 : Int32) ∧ (¬ xk < p0 ∧ p0 < xk) ∧ (xk < p1 ∧ ¬ p1 < xk)) ∨ (r = (1 : Int32) ∧ (¬ xk < p0 ∧ p0 < xk) ∧ (¬ xk < p1 ∧ ¬ p1 < xk)) ∨ (r = (-1 : Int32) ∧ (xk < p0 ∧ ¬ p0 < xk)) ∨ (r = (0 : Int32) ∧ (¬ xk < p0 ∧ ¬ p0 < xk))
set_option maxRecDepth 65536 in
set_option maxHeartbeats 40000000 in
theorem rmRC_02 (l : Launch) (Z : State) (a0 : Array Value) (hw : ∀ d ∈ tables_1, d.before a0 Z = true)  (h0 : Heap) (n0 : Nat) (Z0 : n0 ≤ h0.size) :
    Con l (⟨"java/util/Arrays", "rangeCheck", "(III)V"⟩ : MethodName) jdk_65_method_30_code 3 none ({ frames := 0, cells := 0, slots := 0, locals := 0 } : Room) Z #[(.int (16 : Int32)), (.int (0 : Int32)), (.int (2 : Int32))] h0 (fun v h L => v = none ∧ Fr n0 L ∧ h = h0) := by
  refine Con.mk (plainFor_of_name pn_8) (fun m => show entryFrame m #[(.int (16 : Int32)), (.int (0 : Int32)), (.int (2 : Int32))] 3 = mkF m 0 #[.val (.int (16 : Int32)), .val (.int (0 : Int32)), .val (.int (2 : Int32))] [] by first | (simp [entryFrame, mkF, argsToLocals, Value.category]; done) | rfl) ?_
  intro p e s m below meth c s₁ hx hby hml hown hnm hret hlk hZ X0 e0
  have N0 := Fr.nil n0
  show Run p e below s _ _ _ (s₁.setTop (mkF m 0 #[.val (.int (16 : Int32)), .val (.int (0 : Int32)), .val (.int (2 : Int32))] []))
  refine Run.pre (fun _ k => XS.iloadN X0.here hx rfl (hb hby d8_0) rfl  k) ?_
  refine Run.pre (fun _ k => XS.iloadN X0.here hx rfl (hb hby d8_1) rfl  k) ?_
  refine Run.pre (fun _ k => XS.icmpYes X0.here hx rfl (pc0 := 2) (pc' := 46) rfl (hb hby d8_2) rfl (flt ((by decide) : ¬ ((2 : Int32) < (0 : Int32)))).2.2.2 (by decide) (by decide) k) ?_
  refine Run.pre (fun _ k => XS.iloadN X0.here hx rfl (hb hby d8_46) rfl  k) ?_
  refine Run.pre (fun _ k => XS.ifYes X0.here hx rfl (pc0 := 47) (pc' := 59) rfl (hb hby d8_47) rfl ((if0 _ _).trans (flt ((by decide) : ¬ ((0 : Int32) < (0 : Int32)))).2.1) (by decide) (by decide) k) ?_
  refine Run.pre (fun _ k => XS.iloadN X0.here hx rfl (hb hby d8_59) rfl  k) ?_
  show Run p e below s _ _ _ (s₁.setTop (mkF m 60 #[.val (.int (16 : Int32)), .val (.int (0 : Int32)), .val (.int (2 : Int32))] [(.int (2 : Int32))]))
  refine Run.pre (fun _ k => XS.iloadN X0.here hx rfl (hb hby d8_60) rfl  k) ?_
  refine Run.pre (fun _ k => XS.icmpYes X0.here hx rfl (pc0 := 61) (pc' := 73) rfl (hb hby d8_61) rfl (flt ((by decide) : ¬ ((16 : Int32) < (2 : Int32)))).2.2.2 (by decide) (by decide) k) ?_
  exact Run.retV X0 hx hret hlk (hb hby d8_73) (by first | (rw [e0]; exact ⟨rfl, N0, rfl⟩) | exact ⟨rfl, N0, rfl⟩) (by decide) (by decide)
set_option maxRecDepth 65536 in
set_option maxHeartbeats 40000000 in
theorem rmB0_02 (l : Launch) (Z : State) (a0 : Array Value) (hw : ∀ d ∈ tables_1, d.before a0 Z = true) (xo : Addr) (ko : ClassId) (p0 : Int64) (p1 : Int64) (p2 : Int64) (xk : Int64) (h0 : Heap) (n0 : Nat) (Z0 : n0 ≤ h0.size) (AO : Arv Z h0 xo ko .long 16 (own_LJ p0 p1 p2) (.long (0 : Int64))) :
    Con l (⟨"java/util/Arrays", "binarySearch0", "([JIIJ)I"⟩ : MethodName) jdk_65_method_56_code 10 (some .int) ({ frames := 0, cells := 0, slots := 0, locals := 0 } : Room) Z #[(.ref xo), (.int (0 : Int32)), (.int (2 : Int32)), (.long xk)] h0 (fun v h L => ∃ r : Int32, v = some (.int r) ∧ Fr n0 L ∧ h = h0 ∧ own_bs02 xk p0 p1 p2 r) := by
  refine Con.mk (plainFor_of_name pn_9) (fun m => show entryFrame m #[(.ref xo), (.int (0 : Int32)), (.int (2 : Int32)), (.long xk)] 10 = mkF m 0 #[.val (.ref xo), .val (.int (0 : Int32)), .val (.int (2 : Int32)), .val (.long xk), .second, .unset, .unset, .unset, .unset, .unset] [] by first | (simp [entryFrame, mkF, argsToLocals, Value.category]; done) | rfl) ?_
  intro p e s m below meth c s₁ hx hby hml hown hnm hret hlk hZ X0 e0
  have N0 := Fr.nil n0
  show Run p e below s _ _ _ (s₁.setTop (mkF m 0 #[.val (.ref xo), .val (.int (0 : Int32)), .val (.int (2 : Int32)), .val (.long xk), .second, .unset, .unset, .unset, .unset, .unset] []))
  refine Run.pre (fun _ k => XS.iloadN X0.here hx rfl (hb hby d9_0) rfl  k) ?_
  refine Run.pre (fun _ k => XS.istore X0.here hx rfl (hb hby d9_1) rfl (l' := #[.val (.ref xo), .val (.int (0 : Int32)), .val (.int (2 : Int32)), .val (.long xk), .second, .val (.int (0 : Int32)), .unset, .unset, .unset, .unset]) rfl k) ?_
  refine Run.pre (fun _ k => XS.iloadN X0.here hx rfl (hb hby d9_3) rfl  k) ?_
  refine Run.pre (fun _ k => XS.iconst X0.here hx rfl (hb hby d9_4) k) ?_
  refine Run.pre (fun _ k => XS.isub X0.here hx rfl (hb hby d9_5) rfl k) ?_
  refine Run.pre (fun _ k => XS.istore X0.here hx rfl (hb hby d9_6) rfl (l' := #[.val (.ref xo), .val (.int (0 : Int32)), .val (.int (2 : Int32)), .val (.long xk), .second, .val (.int (0 : Int32)), .val (.int (1 : Int32)), .unset, .unset, .unset]) rfl k) ?_
  show Run p e below s _ _ _ (s₁.setTop (mkF m 8 #[.val (.ref xo), .val (.int (0 : Int32)), .val (.int (2 : Int32)), .val (.long xk), .second, .val (.int (0 : Int32)), .val (.int (1 : Int32)), .unset, .unset, .unset] []))
  refine Run.pre (fun _ k => XS.iload X0.here hx rfl (hb hby d9_8) rfl  k) ?_
  refine Run.pre (fun _ k => XS.iload X0.here hx rfl (hb hby d9_10) rfl  k) ?_
  refine Run.pre (fun _ k => XS.icmpNo X0.here hx rfl (hb hby d9_12) rfl (flt ((by decide) : ¬ ((1 : Int32) < (0 : Int32)))).2.2.1 k) ?_
  refine Run.pre (fun _ k => XS.iload X0.here hx rfl (hb hby d9_15) rfl  k) ?_
  refine Run.pre (fun _ k => XS.iload X0.here hx rfl (hb hby d9_17) rfl  k) ?_
  refine Run.pre (fun _ k => XS.iadd X0.here hx rfl (hb hby d9_19) rfl k) ?_
  show Run p e below s _ _ _ (s₁.setTop (mkF m 20 #[.val (.ref xo), .val (.int (0 : Int32)), .val (.int (2 : Int32)), .val (.long xk), .second, .val (.int (0 : Int32)), .val (.int (1 : Int32)), .unset, .unset, .unset] [(.int (1 : Int32))]))
  refine Run.pre (fun _ k => XS.iconst X0.here hx rfl (hb hby d9_20) k) ?_
  refine Run.pre (fun _ k => XS.iushr X0.here hx rfl (hb hby d9_21) rfl k) ?_
  refine Run.pre (fun _ k => XS.istore X0.here hx rfl (hb hby d9_22) rfl (l' := #[.val (.ref xo), .val (.int (0 : Int32)), .val (.int (2 : Int32)), .val (.long xk), .second, .val (.int (0 : Int32)), .val (.int (1 : Int32)), .val (.int (0 : Int32)), .unset, .unset]) rfl k) ?_
  refine Run.pre (fun _ k => XS.aloadN X0.here hx rfl (hb hby d9_24) rfl rfl k) ?_
  refine Run.pre (fun _ k => XS.iload X0.here hx rfl (hb hby d9_25) rfl  k) ?_
  obtain ⟨c167, Ar167, -, S167, N167, H167, -⟩ := id AO
  have hin167 : ¬ ((0 : Int32) < 0 ∨ c167.slots.size ≤ ((0 : Int32)).toNatClampNeg) := inb_of S167 ⟨by decide, by decide⟩
  refine Run.pre (X0.laload hx (j := (0 : Int32)) (v := (.long p0)) (by rw [e0]; exact Ar167.1) (State.isArrayOf_alike hZ.alike Ar167.2.1) Ar167.2.2 hin167 (H167.at hin167 rfl) (g := (mkF m 27 #[.val (.ref xo), .val (.int (0 : Int32)), .val (.int (2 : Int32)), .val (.long xk), .second, .val (.int (0 : Int32)), .val (.int (1 : Int32)), .val (.int (0 : Int32)), .unset, .unset] [(.int (0 : Int32)), (.ref xo)])) rfl rfl (hb hby d9_27)) ?_
  show Run p e below s _ _ _ (s₁.setTop (mkF m 28 #[.val (.ref xo), .val (.int (0 : Int32)), .val (.int (2 : Int32)), .val (.long xk), .second, .val (.int (0 : Int32)), .val (.int (1 : Int32)), .val (.int (0 : Int32)), .unset, .unset] [(.long p0)]))
  refine Run.pre (fun _ k => XS.lstore X0.here hx rfl (hb hby d9_28) rfl (l' := #[.val (.ref xo), .val (.int (0 : Int32)), .val (.int (2 : Int32)), .val (.long xk), .second, .val (.int (0 : Int32)), .val (.int (1 : Int32)), .val (.int (0 : Int32)), .val (.long p0), .second]) rfl k) ?_
  refine Run.pre (fun _ k => XS.lload X0.here hx rfl (hb hby d9_30) rfl  k) ?_
  refine Run.pre (fun _ k => XS.lloadN X0.here hx rfl (hb hby d9_32) rfl  k) ?_
  refine Run.pre (fun _ k => XS.lcmp X0.here hx rfl (hb hby d9_33) rfl k) ?_
  by_cases hc168 : (lcmpW p0 xk) < (0 : Int32)
  · skip
    refine Run.pre (fun _ k => XS.ifNo X0.here hx rfl (hb hby d9_34) rfl ((if0 _ _).trans (tlt (hc168 : (lcmpW p0 xk) < (0 : Int32))).2.1) k) ?_
    refine Run.pre (fun _ k => XS.iload X0.here hx rfl (hb hby d9_37) rfl  k) ?_
    show Run p e below s _ _ _ (s₁.setTop (mkF m 39 #[.val (.ref xo), .val (.int (0 : Int32)), .val (.int (2 : Int32)), .val (.long xk), .second, .val (.int (0 : Int32)), .val (.int (1 : Int32)), .val (.int (0 : Int32)), .val (.long p0), .second] [(.int (0 : Int32))]))
    refine Run.pre (fun _ k => XS.iconst X0.here hx rfl (hb hby d9_39) k) ?_
    refine Run.pre (fun _ k => XS.iadd X0.here hx rfl (hb hby d9_40) rfl k) ?_
    refine Run.pre (fun _ k => XS.istore X0.here hx rfl (hb hby d9_41) rfl (l' := #[.val (.ref xo), .val (.int (0 : Int32)), .val (.int (2 : Int32)), .val (.long xk), .second, .val (.int (1 : Int32)), .val (.int (1 : Int32)), .val (.int (0 : Int32)), .val (.long p0), .second]) rfl k) ?_
    refine Run.pre (fun _ k => XS.goto X0.here hx rfl (pc0 := 43) (pc' := 65) rfl (hb hby d9_43) (by decide) (by decide) k) ?_
    refine Run.pre (fun _ k => XS.goto X0.here hx rfl (pc0 := 65) (pc' := 8) rfl (hb hby d9_65) (by decide) (by decide) k) ?_
    refine Run.pre (fun _ k => XS.iload X0.here hx rfl (hb hby d9_8) rfl  k) ?_
    show Run p e below s _ _ _ (s₁.setTop (mkF m 10 #[.val (.ref xo), .val (.int (0 : Int32)), .val (.int (2 : Int32)), .val (.long xk), .second, .val (.int (1 : Int32)), .val (.int (1 : Int32)), .val (.int (0 : Int32)), .val (.long p0), .second] [(.int (1 : Int32))]))
    refine Run.pre (fun _ k => XS.iload X0.here hx rfl (hb hby d9_10) rfl  k) ?_
    refine Run.pre (fun _ k => XS.icmpNo X0.here hx rfl (hb hby d9_12) rfl (flt ((by decide) : ¬ ((1 : Int32) < (1 : Int32)))).2.2.1 k) ?_
    refine Run.pre (fun _ k => XS.iload X0.here hx rfl (hb hby d9_15) rfl  k) ?_
    refine Run.pre (fun _ k => XS.iload X0.here hx rfl (hb hby d9_17) rfl  k) ?_
    refine Run.pre (fun _ k => XS.iadd X0.here hx rfl (hb hby d9_19) rfl k) ?_
    refine Run.pre (fun _ k => XS.iconst X0.here hx rfl (hb hby d9_20) k) ?_
    show Run p e below s _ _ _ (s₁.setTop (mkF m 21 #[.val (.ref xo), .val (.int (0 : Int32)), .val (.int (2 : Int32)), .val (.long xk), .second, .val (.int (1 : Int32)), .val (.int (1 : Int32)), .val (.int (0 : Int32)), .val (.long p0), .second] [(.int (1 : Int32)), (.int (2 : Int32))]))
    refine Run.pre (fun _ k => XS.iushr X0.here hx rfl (hb hby d9_21) rfl k) ?_
    refine Run.pre (fun _ k => XS.istore X0.here hx rfl (hb hby d9_22) rfl (l' := #[.val (.ref xo), .val (.int (0 : Int32)), .val (.int (2 : Int32)), .val (.long xk), .second, .val (.int (1 : Int32)), .val (.int (1 : Int32)), .val (.int (1 : Int32)), .val (.long p0), .second]) rfl k) ?_
    refine Run.pre (fun _ k => XS.aloadN X0.here hx rfl (hb hby d9_24) rfl rfl k) ?_
    refine Run.pre (fun _ k => XS.iload X0.here hx rfl (hb hby d9_25) rfl  k) ?_
    obtain ⟨c169, Ar169, -, S169, N169, H169, -⟩ := id AO
    have hin169 : ¬ ((1 : Int32) < 0 ∨ c169.slots.size ≤ ((1 : Int32)).toNatClampNeg) := inb_of S169 ⟨by decide, by decide⟩
    refine Run.pre (X0.laload hx (j := (1 : Int32)) (v := (.long p1)) (by rw [e0]; exact Ar169.1) (State.isArrayOf_alike hZ.alike Ar169.2.1) Ar169.2.2 hin169 (H169.at hin169 rfl) (g := (mkF m 27 #[.val (.ref xo), .val (.int (0 : Int32)), .val (.int (2 : Int32)), .val (.long xk), .second, .val (.int (1 : Int32)), .val (.int (1 : Int32)), .val (.int (1 : Int32)), .val (.long p0), .second] [(.int (1 : Int32)), (.ref xo)])) rfl rfl (hb hby d9_27)) ?_
    refine Run.pre (fun _ k => XS.lstore X0.here hx rfl (hb hby d9_28) rfl (l' := #[.val (.ref xo), .val (.int (0 : Int32)), .val (.int (2 : Int32)), .val (.long xk), .second, .val (.int (1 : Int32)), .val (.int (1 : Int32)), .val (.int (1 : Int32)), .val (.long p1), .second]) rfl k) ?_
    show Run p e below s _ _ _ (s₁.setTop (mkF m 30 #[.val (.ref xo), .val (.int (0 : Int32)), .val (.int (2 : Int32)), .val (.long xk), .second, .val (.int (1 : Int32)), .val (.int (1 : Int32)), .val (.int (1 : Int32)), .val (.long p1), .second] []))
    refine Run.pre (fun _ k => XS.lload X0.here hx rfl (hb hby d9_30) rfl  k) ?_
    refine Run.pre (fun _ k => XS.lloadN X0.here hx rfl (hb hby d9_32) rfl  k) ?_
    refine Run.pre (fun _ k => XS.lcmp X0.here hx rfl (hb hby d9_33) rfl k) ?_
    by_cases hc170 : (lcmpW p1 xk) < (0 : Int32)
    · skip
      refine Run.pre (fun _ k => XS.ifNo X0.here hx rfl (hb hby d9_34) rfl ((if0 _ _).trans (tlt (hc170 : (lcmpW p1 xk) < (0 : Int32))).2.1) k) ?_
      refine Run.pre (fun _ k => XS.iload X0.here hx rfl (hb hby d9_37) rfl  k) ?_
      refine Run.pre (fun _ k => XS.iconst X0.here hx rfl (hb hby d9_39) k) ?_
      show Run p e below s _ _ _ (s₁.setTop (mkF m 40 #[.val (.ref xo), .val (.int (0 : Int32)), .val (.int (2 : Int32)), .val (.long xk), .second, .val (.int (1 : Int32)), .val (.int (1 : Int32)), .val (.int (1 : Int32)), .val (.long p1), .second] [(.int (1 : Int32)), (.int (1 : Int32))]))
      refine Run.pre (fun _ k => XS.iadd X0.here hx rfl (hb hby d9_40) rfl k) ?_
      refine Run.pre (fun _ k => XS.istore X0.here hx rfl (hb hby d9_41) rfl (l' := #[.val (.ref xo), .val (.int (0 : Int32)), .val (.int (2 : Int32)), .val (.long xk), .second, .val (.int (2 : Int32)), .val (.int (1 : Int32)), .val (.int (1 : Int32)), .val (.long p1), .second]) rfl k) ?_
      refine Run.pre (fun _ k => XS.goto X0.here hx rfl (pc0 := 43) (pc' := 65) rfl (hb hby d9_43) (by decide) (by decide) k) ?_
      refine Run.pre (fun _ k => XS.goto X0.here hx rfl (pc0 := 65) (pc' := 8) rfl (hb hby d9_65) (by decide) (by decide) k) ?_
      refine Run.pre (fun _ k => XS.iload X0.here hx rfl (hb hby d9_8) rfl  k) ?_
      refine Run.pre (fun _ k => XS.iload X0.here hx rfl (hb hby d9_10) rfl  k) ?_
      show Run p e below s _ _ _ (s₁.setTop (mkF m 12 #[.val (.ref xo), .val (.int (0 : Int32)), .val (.int (2 : Int32)), .val (.long xk), .second, .val (.int (2 : Int32)), .val (.int (1 : Int32)), .val (.int (1 : Int32)), .val (.long p1), .second] [(.int (1 : Int32)), (.int (2 : Int32))]))
      refine Run.pre (fun _ k => XS.icmpYes X0.here hx rfl (pc0 := 12) (pc' := 68) rfl (hb hby d9_12) rfl (tlt ((by decide) : (1 : Int32) < (2 : Int32))).2.2.1 (by decide) (by decide) k) ?_
      refine Run.pre (fun _ k => XS.iload X0.here hx rfl (hb hby d9_68) rfl  k) ?_
      refine Run.pre (fun _ k => XS.iconst X0.here hx rfl (hb hby d9_70) k) ?_
      refine Run.pre (fun _ k => XS.iadd X0.here hx rfl (hb hby d9_71) rfl k) ?_
      refine Run.pre (fun _ k => XS.ineg X0.here hx rfl (hb hby d9_72) rfl k) ?_
      exact Run.retI X0 hx hret hlk (hb hby d9_73) (by first | (rw [e0]; exact ⟨_, rfl, N0, rfl, Or.inl ⟨rfl, own_rG hc168, own_rG hc170⟩⟩) | exact ⟨_, rfl, N0, rfl, Or.inl ⟨rfl, own_rG hc168, own_rG hc170⟩⟩) (by decide) (by decide)
    · skip
      refine Run.pre (fun _ k => XS.ifYes X0.here hx rfl (pc0 := 34) (pc' := 46) rfl (hb hby d9_34) rfl ((if0 _ _).trans (flt (hc170 : ¬ ((lcmpW p1 xk) < (0 : Int32)))).2.1) (by decide) (by decide) k) ?_
      refine Run.pre (fun _ k => XS.lload X0.here hx rfl (hb hby d9_46) rfl  k) ?_
      refine Run.pre (fun _ k => XS.lloadN X0.here hx rfl (hb hby d9_48) rfl  k) ?_
      show Run p e below s _ _ _ (s₁.setTop (mkF m 49 #[.val (.ref xo), .val (.int (0 : Int32)), .val (.int (2 : Int32)), .val (.long xk), .second, .val (.int (1 : Int32)), .val (.int (1 : Int32)), .val (.int (1 : Int32)), .val (.long p1), .second] [(.long xk), (.long p1)]))
      refine Run.pre (fun _ k => XS.lcmp X0.here hx rfl (hb hby d9_49) rfl k) ?_
      by_cases hc171 : (0 : Int32) < (lcmpW p1 xk)
      · skip
        refine Run.pre (fun _ k => XS.ifNo X0.here hx rfl (hb hby d9_50) rfl ((if0 _ _).trans (tlt (hc171 : (0 : Int32) < (lcmpW p1 xk))).2.2.2) k) ?_
        refine Run.pre (fun _ k => XS.iload X0.here hx rfl (hb hby d9_53) rfl  k) ?_
        refine Run.pre (fun _ k => XS.iconst X0.here hx rfl (hb hby d9_55) k) ?_
        refine Run.pre (fun _ k => XS.isub X0.here hx rfl (hb hby d9_56) rfl k) ?_
        refine Run.pre (fun _ k => XS.istore X0.here hx rfl (hb hby d9_57) rfl (l' := #[.val (.ref xo), .val (.int (0 : Int32)), .val (.int (2 : Int32)), .val (.long xk), .second, .val (.int (1 : Int32)), .val (.int (0 : Int32)), .val (.int (1 : Int32)), .val (.long p1), .second]) rfl k) ?_
        show Run p e below s _ _ _ (s₁.setTop (mkF m 59 #[.val (.ref xo), .val (.int (0 : Int32)), .val (.int (2 : Int32)), .val (.long xk), .second, .val (.int (1 : Int32)), .val (.int (0 : Int32)), .val (.int (1 : Int32)), .val (.long p1), .second] []))
        refine Run.pre (fun _ k => XS.goto X0.here hx rfl (pc0 := 59) (pc' := 65) rfl (hb hby d9_59) (by decide) (by decide) k) ?_
        refine Run.pre (fun _ k => XS.goto X0.here hx rfl (pc0 := 65) (pc' := 8) rfl (hb hby d9_65) (by decide) (by decide) k) ?_
        refine Run.pre (fun _ k => XS.iload X0.here hx rfl (hb hby d9_8) rfl  k) ?_
        refine Run.pre (fun _ k => XS.iload X0.here hx rfl (hb hby d9_10) rfl  k) ?_
        refine Run.pre (fun _ k => XS.icmpYes X0.here hx rfl (pc0 := 12) (pc' := 68) rfl (hb hby d9_12) rfl (tlt ((by decide) : (0 : Int32) < (1 : Int32))).2.2.1 (by decide) (by decide) k) ?_
        refine Run.pre (fun _ k => XS.iload X0.here hx rfl (hb hby d9_68) rfl  k) ?_
        show Run p e below s _ _ _ (s₁.setTop (mkF m 70 #[.val (.ref xo), .val (.int (0 : Int32)), .val (.int (2 : Int32)), .val (.long xk), .second, .val (.int (1 : Int32)), .val (.int (0 : Int32)), .val (.int (1 : Int32)), .val (.long p1), .second] [(.int (1 : Int32))]))
        refine Run.pre (fun _ k => XS.iconst X0.here hx rfl (hb hby d9_70) k) ?_
        refine Run.pre (fun _ k => XS.iadd X0.here hx rfl (hb hby d9_71) rfl k) ?_
        refine Run.pre (fun _ k => XS.ineg X0.here hx rfl (hb hby d9_72) rfl k) ?_
        exact Run.retI X0 hx hret hlk (hb hby d9_73) (by first | (rw [e0]; exact ⟨_, rfl, N0, rfl, Or.inr (Or.inl ⟨rfl, own_rG hc168, own_rL hc171⟩)⟩) | exact ⟨_, rfl, N0, rfl, Or.inr (Or.inl ⟨rfl, own_rG hc168, own_rL hc171⟩)⟩) (by decide) (by decide)
      · skip
        refine Run.pre (fun _ k => XS.ifYes X0.here hx rfl (pc0 := 50) (pc' := 62) rfl (hb hby d9_50) rfl ((if0 _ _).trans (flt (hc171 : ¬ ((0 : Int32) < (lcmpW p1 xk)))).2.2.2) (by decide) (by decide) k) ?_
        refine Run.pre (fun _ k => XS.iload X0.here hx rfl (hb hby d9_62) rfl  k) ?_
        exact Run.retI X0 hx hret hlk (hb hby d9_64) (by first | (rw [e0]; exact ⟨_, rfl, N0, rfl, Or.inr (Or.inr (Or.inl ⟨rfl, own_rG hc168, own_rE hc170 hc171⟩))⟩) | exact ⟨_, rfl, N0, rfl, Or.inr (Or.inr (Or.inl ⟨rfl, own_rG hc168, own_rE hc170 hc171⟩))⟩) (by decide) (by decide)
  · skip
    refine Run.pre (fun _ k => XS.ifYes X0.here hx rfl (pc0 := 34) (pc' := 46) rfl (hb hby d9_34) rfl ((if0 _ _).trans (flt (hc168 : ¬ ((lcmpW p0 xk) < (0 : Int32)))).2.1) (by decide) (by decide) k) ?_
    refine Run.pre (fun _ k => XS.lload X0.here hx rfl (hb hby d9_46) rfl  k) ?_
    show Run p e below s _ _ _ (s₁.setTop (mkF m 48 #[.val (.ref xo), .val (.int (0 : Int32)), .val (.int (2 : Int32)), .val (.long xk), .second, .val (.int (0 : Int32)), .val (.int (1 : Int32)), .val (.int (0 : Int32)), .val (.long p0), .second] [(.long p0)]))
    refine Run.pre (fun _ k => XS.lloadN X0.here hx rfl (hb hby d9_48) rfl  k) ?_
    refine Run.pre (fun _ k => XS.lcmp X0.here hx rfl (hb hby d9_49) rfl k) ?_
    by_cases hc172 : (0 : Int32) < (lcmpW p0 xk)
    · skip
      refine Run.pre (fun _ k => XS.ifNo X0.here hx rfl (hb hby d9_50) rfl ((if0 _ _).trans (tlt (hc172 : (0 : Int32) < (lcmpW p0 xk))).2.2.2) k) ?_
      refine Run.pre (fun _ k => XS.iload X0.here hx rfl (hb hby d9_53) rfl  k) ?_
      refine Run.pre (fun _ k => XS.iconst X0.here hx rfl (hb hby d9_55) k) ?_
      refine Run.pre (fun _ k => XS.isub X0.here hx rfl (hb hby d9_56) rfl k) ?_
      show Run p e below s _ _ _ (s₁.setTop (mkF m 57 #[.val (.ref xo), .val (.int (0 : Int32)), .val (.int (2 : Int32)), .val (.long xk), .second, .val (.int (0 : Int32)), .val (.int (1 : Int32)), .val (.int (0 : Int32)), .val (.long p0), .second] [(.int (-1 : Int32))]))
      refine Run.pre (fun _ k => XS.istore X0.here hx rfl (hb hby d9_57) rfl (l' := #[.val (.ref xo), .val (.int (0 : Int32)), .val (.int (2 : Int32)), .val (.long xk), .second, .val (.int (0 : Int32)), .val (.int (-1 : Int32)), .val (.int (0 : Int32)), .val (.long p0), .second]) rfl k) ?_
      refine Run.pre (fun _ k => XS.goto X0.here hx rfl (pc0 := 59) (pc' := 65) rfl (hb hby d9_59) (by decide) (by decide) k) ?_
      refine Run.pre (fun _ k => XS.goto X0.here hx rfl (pc0 := 65) (pc' := 8) rfl (hb hby d9_65) (by decide) (by decide) k) ?_
      refine Run.pre (fun _ k => XS.iload X0.here hx rfl (hb hby d9_8) rfl  k) ?_
      refine Run.pre (fun _ k => XS.iload X0.here hx rfl (hb hby d9_10) rfl  k) ?_
      refine Run.pre (fun _ k => XS.icmpYes X0.here hx rfl (pc0 := 12) (pc' := 68) rfl (hb hby d9_12) rfl (tlt ((by decide) : (-1 : Int32) < (0 : Int32))).2.2.1 (by decide) (by decide) k) ?_
      show Run p e below s _ _ _ (s₁.setTop (mkF m 68 #[.val (.ref xo), .val (.int (0 : Int32)), .val (.int (2 : Int32)), .val (.long xk), .second, .val (.int (0 : Int32)), .val (.int (-1 : Int32)), .val (.int (0 : Int32)), .val (.long p0), .second] []))
      refine Run.pre (fun _ k => XS.iload X0.here hx rfl (hb hby d9_68) rfl  k) ?_
      refine Run.pre (fun _ k => XS.iconst X0.here hx rfl (hb hby d9_70) k) ?_
      refine Run.pre (fun _ k => XS.iadd X0.here hx rfl (hb hby d9_71) rfl k) ?_
      refine Run.pre (fun _ k => XS.ineg X0.here hx rfl (hb hby d9_72) rfl k) ?_
      exact Run.retI X0 hx hret hlk (hb hby d9_73) (by first | (rw [e0]; exact ⟨_, rfl, N0, rfl, Or.inr (Or.inr (Or.inr (Or.inl ⟨rfl, own_rL hc172⟩)))⟩) | exact ⟨_, rfl, N0, rfl, Or.inr (Or.inr (Or.inr (Or.inl ⟨rfl, own_rL hc172⟩)))⟩) (by decide) (by decide)
    · skip
      refine Run.pre (fun _ k => XS.ifYes X0.here hx rfl (pc0 := 50) (pc' := 62) rfl (hb hby d9_50) rfl ((if0 _ _).trans (flt (hc172 : ¬ ((0 : Int32) < (lcmpW p0 xk)))).2.2.2) (by decide) (by decide) k) ?_
      refine Run.pre (fun _ k => XS.iload X0.here hx rfl (hb hby d9_62) rfl  k) ?_
      exact Run.retI X0 hx hret hlk (hb hby d9_64) (by first | (rw [e0]; exact ⟨_, rfl, N0, rfl, Or.inr (Or.inr (Or.inr (Or.inr (⟨rfl, own_rE hc168 hc172⟩))))⟩) | exact ⟨_, rfl, N0, rfl, Or.inr (Or.inr (Or.inr (Or.inr (⟨rfl, own_rE hc168 hc172⟩))))⟩) (by decide) (by decide)
set_option maxRecDepth 65536 in
set_option maxHeartbeats 40000000 in
theorem rmB_02 (l : Launch) (Z : State) (a0 : Array Value) (hw : ∀ d ∈ tables_1, d.before a0 Z = true) (xo : Addr) (ko : ClassId) (p0 : Int64) (p1 : Int64) (p2 : Int64) (xk : Int64) (h0 : Heap) (n0 : Nat) (Z0 : n0 ≤ h0.size) (AO : Arv Z h0 xo ko .long 16 (own_LJ p0 p1 p2) (.long (0 : Int64))) :
    Con l (⟨"java/util/Arrays", "binarySearch", "([JIIJ)I"⟩ : MethodName) jdk_65_method_55_code 5 (some .int) ({ frames := 1, cells := 0, slots := 0, locals := 21 } : Room) Z #[(.ref xo), (.int (0 : Int32)), (.int (2 : Int32)), (.long xk)] h0 (fun v h L => ∃ r : Int32, v = some (.int r) ∧ Fr n0 L ∧ h = h0 ∧ own_bs02 xk p0 p1 p2 r) := by
  refine Con.mk (plainFor_of_name pn_7) (fun m => show entryFrame m #[(.ref xo), (.int (0 : Int32)), (.int (2 : Int32)), (.long xk)] 5 = mkF m 0 #[.val (.ref xo), .val (.int (0 : Int32)), .val (.int (2 : Int32)), .val (.long xk), .second] [] by first | (simp [entryFrame, mkF, argsToLocals, Value.category]; done) | rfl) ?_
  intro p e s m below meth c s₁ hx hby hml hown hnm hret hlk hZ X0 e0
  have N0 := Fr.nil n0
  show Run p e below s _ _ _ (s₁.setTop (mkF m 0 #[.val (.ref xo), .val (.int (0 : Int32)), .val (.int (2 : Int32)), .val (.long xk), .second] []))
  refine Run.pre (fun _ k => XS.aloadN X0.here hx rfl (hb hby d7_0) rfl rfl k) ?_
  obtain ⟨c173, Ar173, -, S173, N173, -, -⟩ := id AO
  refine Run.pre (X0.arraylength hx (by rw [e0]; exact Ar173.1) (State.isArrayOf_alike hZ.alike Ar173.2.1) (g := (mkF m 1 #[.val (.ref xo), .val (.int (0 : Int32)), .val (.int (2 : Int32)), .val (.long xk), .second] [(.ref xo)])) rfl rfl (hb hby d7_1)) ?_
  rw [len_of S173 N173]
  refine Run.pre (fun _ k => XS.iloadN X0.here hx rfl (hb hby d7_2) rfl  k) ?_
  refine Run.pre (fun _ k => XS.iloadN X0.here hx rfl (hb hby d7_3) rfl  k) ?_
  refine Run.callS X0 hx hZ (y := (⟨"java/util/Arrays", "rangeCheck", "(III)V"⟩ : MethodName)) hown (hwi hw 50 rfl) (hwi hw 51 rfl) (hwi hw 48 rfl) (hwi hw 52 rfl) (by decide) (W := 0) (rmRC_02 l Z a0 hw h0 n0 (Nat.le_trans Z0 (Keep.refl h0 []).1)) e0 (by decide) (by decide) (by decide) (by decide) (g := (mkF m 4 #[.val (.ref xo), .val (.int (0 : Int32)), .val (.int (2 : Int32)), .val (.long xk), .second] [(.int (2 : Int32)), (.int (0 : Int32)), (.int (16 : Int32))])) rfl (by rw [hml]; rfl) (argsL := [(.int (16 : Int32)), (.int (0 : Int32)), (.int (2 : Int32))]) (rest := []) (lenOf pd_0 rfl) rfl (by show 2 * 0 + _ ≤ _; exact Nat.le_of_eq rfl) (hb hby d7_4) ?_
  intro v174 T174 L174 X174 hQ174
  obtain ⟨rfl, Nq174, he174⟩ := hQ174
  have N174 := Fr.app N0 Nq174
  have e174 : T174.heap = h0 := he174
  refine Run.pre (fun _ k => XS.aloadN X174.here hx rfl (hb hby d7_7) rfl rfl k) ?_
  show Run p e below s _ _ _ (T174.setTop (mkF m 8 #[.val (.ref xo), .val (.int (0 : Int32)), .val (.int (2 : Int32)), .val (.long xk), .second] [(.ref xo)]))
  refine Run.pre (fun _ k => XS.iloadN X174.here hx rfl (hb hby d7_8) rfl  k) ?_
  refine Run.pre (fun _ k => XS.iloadN X174.here hx rfl (hb hby d7_9) rfl  k) ?_
  refine Run.pre (fun _ k => XS.lloadN X174.here hx rfl (hb hby d7_10) rfl  k) ?_
  refine Run.callS X174 hx hZ (y := (⟨"java/util/Arrays", "binarySearch0", "([JIIJ)I"⟩ : MethodName)) hown (hwi hw 53 rfl) (hwi hw 54 rfl) (hwi hw 48 rfl) (hwi hw 55 rfl) (by decide) (W := 0) (rmB0_02 l Z a0 hw xo ko p0 p1 p2 xk h0 n0 (Nat.le_trans Z0 (Keep.refl h0 []).1) AO) e174 (by decide) (by decide) (by decide) (by decide) (g := (mkF m 11 #[.val (.ref xo), .val (.int (0 : Int32)), .val (.int (2 : Int32)), .val (.long xk), .second] [(.long xk), (.int (2 : Int32)), (.int (0 : Int32)), (.ref xo)])) rfl (by rw [hml]; rfl) (argsL := [(.ref xo), (.int (0 : Int32)), (.int (2 : Int32)), (.long xk)]) (rest := []) (lenOf pd_1 rfl) rfl (by show 2 * 0 + _ ≤ _; exact Nat.le_of_eq rfl) (hb hby d7_11) ?_
  intro v175 T175 L175 X175 hQ175
  obtain ⟨r175, rfl, Nq175, he175, sp175⟩ := hQ175
  have N175 := Fr.app N174 Nq175
  have e175 : T175.heap = h0 := he175
  exact Run.retI X175 hx hret hlk (hb hby d7_14) (by first | (rw [e175]; exact ⟨r175, rfl, N175, rfl, sp175⟩) | exact ⟨r175, rfl, N175, rfl, sp175⟩) (by decide) (by decide)
set_option maxRecDepth 65536 in
set_option maxHeartbeats 40000000 in
theorem rmS_02 (l : Launch) (Z : State) (a0 : Array Value) (hw : ∀ d ∈ tables_1, d.before a0 Z = true) (tb : Addr) (xo : Addr) (ko : ClassId) (p0 : Int64) (p1 : Int64) (p2 : Int64) (xk : Int64) (h0 : Heap) (n0 : Nat) (Z0 : n0 ≤ h0.size) (E_tb : Exa Z h0 tb "com/example/manana/manana/storage/WaitingTable") (FO : Fld Z h0 tb "com/example/manana/manana/storage/WaitingTable" "offsets" "[J" (.ref xo)) (Ff : Fld Z h0 tb "com/example/manana/manana/storage/WaitingTable" "first" "I" (.int 0)) (Fe : Fld Z h0 tb "com/example/manana/manana/storage/WaitingTable" "end" "I" (.int 2)) (AO : Arv Z h0 xo ko .long 16 (own_LJ p0 p1 p2) (.long (0 : Int64))) :
    Con l (⟨"com/example/manana/manana/storage/WaitingTable", "slotOf", "(J)I"⟩ : MethodName) prog_84_method_11_code 3 (some .int) ({ frames := 2, cells := 0, slots := 0, locals := 37 } : Room) Z #[(.ref tb), (.long xk)] h0 (fun v h L => ∃ r : Int32, v = some (.int r) ∧ Fr n0 L ∧ h = h0 ∧ own_bs02 xk p0 p1 p2 r) := by
  refine Con.mk (plainFor_of_name pn_6) (fun m => show entryFrame m #[(.ref tb), (.long xk)] 3 = mkF m 0 #[.val (.ref tb), .val (.long xk), .second] [] by first | (simp [entryFrame, mkF, argsToLocals, Value.category]; done) | rfl) ?_
  intro p e s m below meth c s₁ hx hby hml hown hnm hret hlk hZ X0 e0
  have N0 := Fr.nil n0
  show Run p e below s _ _ _ (s₁.setTop (mkF m 0 #[.val (.ref tb), .val (.long xk), .second] []))
  refine Run.pre (fun _ k => XS.aloadN X0.here hx rfl (hb hby d6_0) rfl rfl k) ?_
  obtain ⟨T176, X176, e176, st176⟩ := getF X0 hx hZ hown (host := "") (Or.inl (hwi hw 10 rfl)) Via.refl e0 FO (g := (mkF m 1 #[.val (.ref tb), .val (.long xk), .second] [(.ref tb)])) rfl rfl (hb hby d6_1)
  refine Run.pre st176 ?_
  refine Run.pre (fun _ k => XS.aloadN X176.here hx rfl (hb hby d6_4) rfl rfl k) ?_
  obtain ⟨T177, X177, e177, st177⟩ := getF X176 hx hZ hown (host := "") (Or.inl (hwi hw 36 rfl)) Via.refl e176 Ff (g := (mkF m 5 #[.val (.ref tb), .val (.long xk), .second] [(.ref tb), (.ref xo)])) rfl rfl (hb hby d6_5)
  refine Run.pre st177 ?_
  refine Run.pre (fun _ k => XS.aloadN X177.here hx rfl (hb hby d6_8) rfl rfl k) ?_
  obtain ⟨T178, X178, e178, st178⟩ := getF X177 hx hZ hown (host := "") (Or.inl (hwi hw 34 rfl)) Via.refl e177 Fe (g := (mkF m 9 #[.val (.ref tb), .val (.long xk), .second] [(.ref tb), (.int (0 : Int32)), (.ref xo)])) rfl rfl (hb hby d6_9)
  refine Run.pre st178 ?_
  show Run p e below s _ _ _ (T178.setTop (mkF m 12 #[.val (.ref tb), .val (.long xk), .second] [(.int (2 : Int32)), (.int (0 : Int32)), (.ref xo)]))
  refine Run.pre (fun _ k => XS.lloadN X178.here hx rfl (hb hby d6_12) rfl  k) ?_
  refine Run.callS X178 hx hZ (y := (⟨"java/util/Arrays", "binarySearch", "([JIIJ)I"⟩ : MethodName)) hown (hwi hw 46 rfl) (hwi hw 47 rfl) (hwi hw 48 rfl) (hwi hw 49 rfl) (by decide) (W := 0) (rmB_02 l Z a0 hw xo ko p0 p1 p2 xk h0 n0 (Nat.le_trans Z0 (Keep.refl h0 []).1) AO) e178 (by decide) (by decide) (by decide) (by decide) (g := (mkF m 13 #[.val (.ref tb), .val (.long xk), .second] [(.long xk), (.int (2 : Int32)), (.int (0 : Int32)), (.ref xo)])) rfl (by rw [hml]; rfl) (argsL := [(.ref xo), (.int (0 : Int32)), (.int (2 : Int32)), (.long xk)]) (rest := []) (lenOf pd_1 rfl) rfl (by show 2 * 0 + _ ≤ _; exact Nat.le_of_eq rfl) (hb hby d6_13) ?_
  intro v179 T179 L179 X179 hQ179
  obtain ⟨r179, rfl, Nq179, he179, sp179⟩ := hQ179
  have N179 := Fr.app N0 Nq179
  have e179 : T179.heap = h0 := he179
  exact Run.retI X179 hx hret hlk (hb hby d6_16) (by first | (rw [e179]; exact ⟨r179, rfl, N179, rfl, sp179⟩) | exact ⟨r179, rfl, N179, rfl, sp179⟩) (by decide) (by decide)
set_option maxRecDepth 65536 in
set_option maxHeartbeats 40000000 in
theorem rmIn_02_0 (l : Launch) (Z : State) (a0 : Array Value) (hw : ∀ d ∈ tables_1, d.before a0 Z = true) (tb : Addr) (xo : Addr) (xd : Addr) (xl : Addr) (xq : Addr) (xh : Addr) (ko : ClassId) (kd : ClassId) (kl : ClassId) (kq : ClassId) (kh : ClassId) (p0 : Int64) (p1 : Int64) (p2 : Int64) (d0 : Int64) (d1 : Int64) (d2 : Int64) (l0 : Int32) (l1 : Int32) (l2 : Int32) (q0 : Int32) (q1 : Int32) (q2 : Int32) (b0 : Int32) (b1 : Int32) (b2 : Int32) (si : Int32) (xk : Int64) (h0 : Heap) (n0 : Nat) (Z0 : n0 ≤ h0.size) (E_tb : Exa Z h0 tb "com/example/manana/manana/storage/WaitingTable") (FR0 : Fld Z h0 tb "com/example/manana/manana/storage/WaitingTable" "offsets" "[J" (.ref xo)) (FR1 : Fld Z h0 tb "com/example/manana/manana/storage/WaitingTable" "dues" "[J" (.ref xd)) (FR2 : Fld Z h0 tb "com/example/manana/manana/storage/WaitingTable" "lengths" "[I" (.ref xl)) (FR3 : Fld Z h0 tb "com/example/manana/manana/storage/WaitingTable" "queues" "[I" (.ref xq)) (FR4 : Fld Z h0 tb "com/example/manana/manana/storage/WaitingTable" "held" "[Z" (.ref xh)) (Ff : Fld Z h0 tb "com/example/manana/manana/storage/WaitingTable" "first" "I" (.int (0 : Int32))) (Fe : Fld Z h0 tb "com/example/manana/manana/storage/WaitingTable" "end" "I" (.int (2 : Int32))) (Fz : Fld Z h0 tb "com/example/manana/manana/storage/WaitingTable" "size" "I" (.int si)) (AR0 : Arv Z h0 xo ko .long 16 (own_LJ p0 p1 p2) (.long (0 : Int64))) (AR1 : Arv Z h0 xd kd .long 16 (own_LJ d0 d1 d2) (.long (0 : Int64))) (AR2 : Arv Z h0 xl kl .int 16 (own_LI l0 l1 l2) (.int (0 : Int32))) (AR3 : Arv Z h0 xq kq .int 16 (own_LI q0 q1 q2) (.int (0 : Int32))) (AR4 : Arv Z h0 xh kh .boolean 16 (own_LI b0 b1 b2) (.int (0 : Int32))) (hD : own_D tb xo xd xl xq xh) (g_tb : n0 ≤ tb) (g_xo : n0 ≤ xo) (g_xd : n0 ≤ xd) (g_xl : n0 ≤ xl) (g_xq : n0 ≤ xq) (g_xh : n0 ≤ xh) (r0 : (xk < p0 ∧ ¬ p0 < xk)) :
    Con l (⟨"com/example/manana/manana/storage/WaitingTable", "insert", "(J)I"⟩ : MethodName) prog_84_method_12_code 5 (some .int) ({ frames := 3, cells := 0, slots := 0, locals := 51 } : Room) Z #[(.ref tb), (.long xk)] h0 (fun v h L => v = some (.int 0) ∧ Fr n0 L ∧ Keep h0 h [tb, xo, xd, xl, xq, xh] ∧ Exa Z h tb "com/example/manana/manana/storage/WaitingTable" ∧ Fld Z h tb "com/example/manana/manana/storage/WaitingTable" "offsets" "[J" (.ref xo) ∧ Fld Z h tb "com/example/manana/manana/storage/WaitingTable" "dues" "[J" (.ref xd) ∧ Fld Z h tb "com/example/manana/manana/storage/WaitingTable" "lengths" "[I" (.ref xl) ∧ Fld Z h tb "com/example/manana/manana/storage/WaitingTable" "queues" "[I" (.ref xq) ∧ Fld Z h tb "com/example/manana/manana/storage/WaitingTable" "held" "[Z" (.ref xh) ∧ Fld Z h tb "com/example/manana/manana/storage/WaitingTable" "first" "I" (.int (0 : Int32)) ∧ Fld Z h tb "com/example/manana/manana/storage/WaitingTable" "end" "I" (.int (3 : Int32)) ∧ Fld Z h tb "com/example/manana/manana/storage/WaitingTable" "size" "I" (.int si) ∧ Arv Z h xo ko .long 16 (own_LJ xk p0 p1) (.long (0 : Int64)) ∧ Arv Z h xd kd .long 16 (own_LJ d0 d0 d1) (.long (0 : Int64)) ∧ Arv Z h xl kl .int 16 (own_LI l0 l0 l1) (.int (0 : Int32)) ∧ Arv Z h xq kq .int 16 (own_LI q0 q0 q1) (.int (0 : Int32)) ∧ Arv Z h xh kh .boolean 16 (own_LI (nar .boolean (0 : Int32)) b0 b1) (.int (0 : Int32))) := by
  refine Con.mk (plainFor_of_name pn_10) (fun m => show entryFrame m #[(.ref tb), (.long xk)] 5 = mkF m 0 #[.val (.ref tb), .val (.long xk), .second, .unset, .unset] [] by first | (simp [entryFrame, mkF, argsToLocals, Value.category]; done) | rfl) ?_
  intro p e s m below meth c s₁ hx hby hml hown hnm hret hlk hZ X0 e0
  have N0 := Fr.nil n0
  obtain ⟨ne_tb_xo, ne_tb_xd, ne_tb_xl, ne_tb_xq, ne_tb_xh, ne_xo_xd, ne_xo_xl, ne_xo_xq, ne_xo_xh, ne_xd_xl, ne_xd_xq, ne_xd_xh, ne_xl_xq, ne_xl_xh, ne_xq_xh⟩ := id hD
  show Run p e below s _ _ _ (s₁.setTop (mkF m 0 #[.val (.ref tb), .val (.long xk), .second, .unset, .unset] []))
  refine Run.pre (fun _ k => XS.aloadN X0.here hx rfl (hb hby d10_0) rfl rfl k) ?_
  obtain ⟨T180, X180, e180, st180⟩ := getF X0 hx hZ hown (host := "") (Or.inl (hwi hw 34 rfl)) Via.refl e0 Fe (g := (mkF m 1 #[.val (.ref tb), .val (.long xk), .second, .unset, .unset] [(.ref tb)])) rfl rfl (hb hby d10_1)
  refine Run.pre st180 ?_
  refine Run.pre (fun _ k => XS.aloadN X180.here hx rfl (hb hby d10_4) rfl rfl k) ?_
  obtain ⟨T181, X181, e181, st181⟩ := getF X180 hx hZ hown (host := "") (Or.inl (hwi hw 10 rfl)) Via.refl e180 FR0 (g := (mkF m 5 #[.val (.ref tb), .val (.long xk), .second, .unset, .unset] [(.ref tb), (.int (2 : Int32))])) rfl rfl (hb hby d10_5)
  refine Run.pre st181 ?_
  obtain ⟨c182, Ar182, -, S182, N182, -, -⟩ := id AR0
  refine Run.pre (X181.arraylength hx (by rw [e181]; exact Ar182.1) (State.isArrayOf_alike hZ.alike Ar182.2.1) (g := (mkF m 8 #[.val (.ref tb), .val (.long xk), .second, .unset, .unset] [(.ref xo), (.int (2 : Int32))])) rfl rfl (hb hby d10_8)) ?_
  rw [len_of S182 N182]
  refine Run.pre (fun _ k => XS.icmpYes X181.here hx rfl (pc0 := 9) (pc' := 16) rfl (hb hby d10_9) rfl (feq ((by decide) : ¬ ((2 : Int32) = (16 : Int32)))).2 (by decide) (by decide) k) ?_
  show Run p e below s _ _ _ (T181.setTop (mkF m 16 #[.val (.ref tb), .val (.long xk), .second, .unset, .unset] []))
  refine Run.pre (fun _ k => XS.aloadN X181.here hx rfl (hb hby d10_16) rfl rfl k) ?_
  refine Run.pre (fun _ k => XS.lloadN X181.here hx rfl (hb hby d10_17) rfl  k) ?_
  refine Run.callP X181 hx hZ (y := (⟨"com/example/manana/manana/storage/WaitingTable", "slotOf", "(J)I"⟩ : MethodName)) hown (hwi hw 42 rfl) (hwi hw 43 rfl) (own_selP (y := (⟨"com/example/manana/manana/storage/WaitingTable", "slotOf", "(J)I"⟩ : MethodName)) (z := (⟨"com/example/manana/manana/storage/WaitingTable", "lowest", "(J)J"⟩ : MethodName)) (hwi hw 43 rfl) (hwi hw 44 rfl) (hwi hw 25 rfl) rfl (by decide)) (hwi hw 44 rfl) (hwi hw 45 rfl) (hwi hw 2 rfl) (by decide) (a := tb) E_tb (W := 0) (rmS_02 l Z a0 hw tb xo ko p0 p1 p2 xk h0 n0 (Nat.le_trans Z0 (Keep.refl h0 [tb, xo, xd, xl, xq, xh]).1) E_tb FR0 Ff Fe AR0) e181 (by decide) (by decide) (by decide) (by decide) (g := (mkF m 18 #[.val (.ref tb), .val (.long xk), .second, .unset, .unset] [(.long xk), (.ref tb)])) rfl (by rw [hml]; rfl) (argsL := [(.long xk)]) (rest := []) (lenOf pd_2 rfl) rfl (by show 2 * 0 + _ ≤ _; exact Nat.le_of_eq rfl) (hb hby d10_18) ?_
  intro v183 T183 L183 X183 hQ183
  obtain ⟨r183, rfl, Nq183, he183, sp183⟩ := hQ183
  have N183 := Fr.app N0 Nq183
  have e183 : T183.heap = h0 := he183
  show Run p e below s _ _ _ (T183.setTop (mkF m 21 #[.val (.ref tb), .val (.long xk), .second, .unset, .unset] [(.int r183)]))
  rcases sp183 with ⟨rfl, s0, s1⟩ | ⟨rfl, s0, s1⟩ | ⟨rfl, s0, s1⟩ | ⟨rfl, s0⟩ | ⟨rfl, s0⟩
  · skip
    exact absurd r0.1 s0.1
  · skip
    exact absurd r0.1 s0.1
  · skip
    exact absurd r0.1 s0.1
  · skip
    refine Run.pre (fun _ k => XS.ineg X183.here hx rfl (hb hby d10_21) rfl k) ?_
    refine Run.pre (fun _ k => XS.iconst X183.here hx rfl (hb hby d10_22) k) ?_
    refine Run.pre (fun _ k => XS.isub X183.here hx rfl (hb hby d10_23) rfl k) ?_
    show Run p e below s _ _ _ (T183.setTop (mkF m 24 #[.val (.ref tb), .val (.long xk), .second, .unset, .unset] [(.int (0 : Int32))]))
    refine Run.pre (fun _ k => XS.istoreN X183.here hx rfl (hb hby d10_24) rfl (l' := #[.val (.ref tb), .val (.long xk), .second, .val (.int (0 : Int32)), .unset]) rfl k) ?_
    refine Run.pre (fun _ k => XS.aloadN X183.here hx rfl (hb hby d10_25) rfl rfl k) ?_
    obtain ⟨T184, X184, e184, st184⟩ := getF X183 hx hZ hown (host := "") (Or.inl (hwi hw 34 rfl)) Via.refl e183 Fe (g := (mkF m 26 #[.val (.ref tb), .val (.long xk), .second, .val (.int (0 : Int32)), .unset] [(.ref tb)])) rfl rfl (hb hby d10_26)
    refine Run.pre st184 ?_
    refine Run.pre (fun _ k => XS.iloadN X184.here hx rfl (hb hby d10_29) rfl  k) ?_
    refine Run.pre (fun _ k => XS.isub X184.here hx rfl (hb hby d10_30) rfl k) ?_
    refine Run.pre (fun _ k => XS.istore X184.here hx rfl (hb hby d10_31) rfl (l' := #[.val (.ref tb), .val (.long xk), .second, .val (.int (0 : Int32)), .val (.int (2 : Int32))]) rfl k) ?_
    show Run p e below s _ _ _ (T184.setTop (mkF m 33 #[.val (.ref tb), .val (.long xk), .second, .val (.int (0 : Int32)), .val (.int (2 : Int32))] []))
    refine Run.pre (fun _ k => XS.aloadN X184.here hx rfl (hb hby d10_33) rfl rfl k) ?_
    obtain ⟨T185, X185, e185, st185⟩ := getF X184 hx hZ hown (host := "") (Or.inl (hwi hw 10 rfl)) Via.refl e184 FR0 (g := (mkF m 34 #[.val (.ref tb), .val (.long xk), .second, .val (.int (0 : Int32)), .val (.int (2 : Int32))] [(.ref tb)])) rfl rfl (hb hby d10_34)
    refine Run.pre st185 ?_
    refine Run.pre (fun _ k => XS.iloadN X185.here hx rfl (hb hby d10_37) rfl  k) ?_
    refine Run.pre (fun _ k => XS.aloadN X185.here hx rfl (hb hby d10_38) rfl rfl k) ?_
    obtain ⟨T186, X186, e186, st186⟩ := getF X185 hx hZ hown (host := "") (Or.inl (hwi hw 10 rfl)) Via.refl e185 FR0 (g := (mkF m 39 #[.val (.ref tb), .val (.long xk), .second, .val (.int (0 : Int32)), .val (.int (2 : Int32))] [(.ref tb), (.int (0 : Int32)), (.ref xo)])) rfl rfl (hb hby d10_39)
    refine Run.pre st186 ?_
    refine Run.pre (fun _ k => XS.iloadN X186.here hx rfl (hb hby d10_42) rfl  k) ?_
    show Run p e below s _ _ _ (T186.setTop (mkF m 43 #[.val (.ref tb), .val (.long xk), .second, .val (.int (0 : Int32)), .val (.int (2 : Int32))] [(.int (0 : Int32)), (.ref xo), (.int (0 : Int32)), (.ref xo)]))
    refine Run.pre (fun _ k => XS.iconst X186.here hx rfl (hb hby d10_43) k) ?_
    refine Run.pre (fun _ k => XS.iadd X186.here hx rfl (hb hby d10_44) rfl k) ?_
    refine Run.pre (fun _ k => XS.iload X186.here hx rfl (hb hby d10_45) rfl  k) ?_
    obtain ⟨T187, h187, L187, X187, e187, N187, Kc187, V187, st187⟩ := cpA X186 hx hZ hown (hwi hw 60 rfl) (hwi hw 63 rfl) (hwi hw 61 rfl) (hwi hw 62 rfl) e186 AR0 AR0 (Or.inl ⟨rfl, rfl⟩) (by decide) (by decide) (by decide) (by decide) (by decide) rfl (Nat.le_of_ble_eq_true rfl) N183 g_xo (g := (mkF m 47 #[.val (.ref tb), .val (.long xk), .second, .val (.int (0 : Int32)), .val (.int (2 : Int32))] [(.int (2 : Int32)), (.int (1 : Int32)), (.ref xo), (.int (0 : Int32)), (.ref xo)])) rfl (by rw [hml]; rfl) rfl (hb hby d10_47) (by decide) (W := 0) (by show 2 * 0 + _ ≤ _; exact Nat.le_of_eq rfl) (by decide)
    refine Run.pre st187 ?_
    have K187 : Keep h0 h187 [tb, xo, xd, xl, xq, xh] := (Keep.refl h0 [tb, xo, xd, xl, xq, xh]).trans Kc187 (allS (Or.inl (by simp)) all0)
    have V_xo_187 : Arv Z h187 xo ko .long (16 : Int32) (own_LJ p0 p0 p1) (.long (0 : Int64)) := V187
    refine Run.pre (fun _ k => XS.aloadN X187.here hx rfl (hb hby d10_50) rfl rfl k) ?_
    have f188 := (FR1.keep Kc187 (ninS ne_tb_xo nin0))
    obtain ⟨T189, X189, e189, st189⟩ := getF X187 hx hZ hown (host := "") (Or.inl (hwi hw 12 rfl)) Via.refl e187 f188 (g := (mkF m 51 #[.val (.ref tb), .val (.long xk), .second, .val (.int (0 : Int32)), .val (.int (2 : Int32))] [(.ref tb)])) rfl rfl (hb hby d10_51)
    refine Run.pre st189 ?_
    show Run p e below s _ _ _ (T189.setTop (mkF m 54 #[.val (.ref tb), .val (.long xk), .second, .val (.int (0 : Int32)), .val (.int (2 : Int32))] [(.ref xd)]))
    refine Run.pre (fun _ k => XS.iloadN X189.here hx rfl (hb hby d10_54) rfl  k) ?_
    refine Run.pre (fun _ k => XS.aloadN X189.here hx rfl (hb hby d10_55) rfl rfl k) ?_
    obtain ⟨T190, X190, e190, st190⟩ := getF X189 hx hZ hown (host := "") (Or.inl (hwi hw 12 rfl)) Via.refl e189 f188 (g := (mkF m 56 #[.val (.ref tb), .val (.long xk), .second, .val (.int (0 : Int32)), .val (.int (2 : Int32))] [(.ref tb), (.int (0 : Int32)), (.ref xd)])) rfl rfl (hb hby d10_56)
    refine Run.pre st190 ?_
    refine Run.pre (fun _ k => XS.iloadN X190.here hx rfl (hb hby d10_59) rfl  k) ?_
    refine Run.pre (fun _ k => XS.iconst X190.here hx rfl (hb hby d10_60) k) ?_
    refine Run.pre (fun _ k => XS.iadd X190.here hx rfl (hb hby d10_61) rfl k) ?_
    show Run p e below s _ _ _ (T190.setTop (mkF m 62 #[.val (.ref tb), .val (.long xk), .second, .val (.int (0 : Int32)), .val (.int (2 : Int32))] [(.int (1 : Int32)), (.ref xd), (.int (0 : Int32)), (.ref xd)]))
    refine Run.pre (fun _ k => XS.iload X190.here hx rfl (hb hby d10_62) rfl  k) ?_
    have f192 := (AR1.keep Kc187 (ninS (Ne.symm ne_xo_xd) nin0))
    obtain ⟨T191, h191, L191, X191, e191, N191, Kc191, V191, st191⟩ := cpA X190 hx hZ hown (hwi hw 60 rfl) (hwi hw 63 rfl) (hwi hw 61 rfl) (hwi hw 62 rfl) e190 f192 f192 (Or.inl ⟨rfl, rfl⟩) (by decide) (by decide) (by decide) (by decide) (by decide) rfl (Nat.le_of_ble_eq_true rfl) N187 g_xd (g := (mkF m 64 #[.val (.ref tb), .val (.long xk), .second, .val (.int (0 : Int32)), .val (.int (2 : Int32))] [(.int (2 : Int32)), (.int (1 : Int32)), (.ref xd), (.int (0 : Int32)), (.ref xd)])) rfl (by rw [hml]; rfl) rfl (hb hby d10_64) (by decide) (W := 0) (by show 2 * 0 + _ ≤ _; exact Nat.le_of_eq rfl) (by decide)
    refine Run.pre st191 ?_
    have K191 : Keep h0 h191 [tb, xo, xd, xl, xq, xh] := K187.trans Kc191 (allS (Or.inl (by simp)) all0)
    have V_xd_191 : Arv Z h191 xd kd .long (16 : Int32) (own_LJ d0 d0 d1) (.long (0 : Int64)) := V191
    refine Run.pre (fun _ k => XS.aloadN X191.here hx rfl (hb hby d10_67) rfl rfl k) ?_
    have f193 := ((FR2.keep Kc187 (ninS ne_tb_xo nin0)).keep Kc191 (ninS ne_tb_xd nin0))
    obtain ⟨T194, X194, e194, st194⟩ := getF X191 hx hZ hown (host := "") (Or.inl (hwi hw 15 rfl)) Via.refl e191 f193 (g := (mkF m 68 #[.val (.ref tb), .val (.long xk), .second, .val (.int (0 : Int32)), .val (.int (2 : Int32))] [(.ref tb)])) rfl rfl (hb hby d10_68)
    refine Run.pre st194 ?_
    refine Run.pre (fun _ k => XS.iloadN X194.here hx rfl (hb hby d10_71) rfl  k) ?_
    refine Run.pre (fun _ k => XS.aloadN X194.here hx rfl (hb hby d10_72) rfl rfl k) ?_
    show Run p e below s _ _ _ (T194.setTop (mkF m 73 #[.val (.ref tb), .val (.long xk), .second, .val (.int (0 : Int32)), .val (.int (2 : Int32))] [(.ref tb), (.int (0 : Int32)), (.ref xl)]))
    obtain ⟨T195, X195, e195, st195⟩ := getF X194 hx hZ hown (host := "") (Or.inl (hwi hw 15 rfl)) Via.refl e194 f193 (g := (mkF m 73 #[.val (.ref tb), .val (.long xk), .second, .val (.int (0 : Int32)), .val (.int (2 : Int32))] [(.ref tb), (.int (0 : Int32)), (.ref xl)])) rfl rfl (hb hby d10_73)
    refine Run.pre st195 ?_
    refine Run.pre (fun _ k => XS.iloadN X195.here hx rfl (hb hby d10_76) rfl  k) ?_
    refine Run.pre (fun _ k => XS.iconst X195.here hx rfl (hb hby d10_77) k) ?_
    refine Run.pre (fun _ k => XS.iadd X195.here hx rfl (hb hby d10_78) rfl k) ?_
    refine Run.pre (fun _ k => XS.iload X195.here hx rfl (hb hby d10_79) rfl  k) ?_
    have f197 := ((AR2.keep Kc187 (ninS (Ne.symm ne_xo_xl) nin0)).keep Kc191 (ninS (Ne.symm ne_xd_xl) nin0))
    obtain ⟨T196, h196, L196, X196, e196, N196, Kc196, V196, st196⟩ := cpA X195 hx hZ hown (hwi hw 60 rfl) (hwi hw 63 rfl) (hwi hw 61 rfl) (hwi hw 62 rfl) e195 f197 f197 (Or.inl ⟨rfl, rfl⟩) (by decide) (by decide) (by decide) (by decide) (by decide) rfl (Nat.le_of_ble_eq_true rfl) N191 g_xl (g := (mkF m 81 #[.val (.ref tb), .val (.long xk), .second, .val (.int (0 : Int32)), .val (.int (2 : Int32))] [(.int (2 : Int32)), (.int (1 : Int32)), (.ref xl), (.int (0 : Int32)), (.ref xl)])) rfl (by rw [hml]; rfl) rfl (hb hby d10_81) (by decide) (W := 0) (by show 2 * 0 + _ ≤ _; exact Nat.le_of_eq rfl) (by decide)
    refine Run.pre st196 ?_
    have K196 : Keep h0 h196 [tb, xo, xd, xl, xq, xh] := K191.trans Kc196 (allS (Or.inl (by simp)) all0)
    have V_xl_196 : Arv Z h196 xl kl .int (16 : Int32) (own_LI l0 l0 l1) (.int (0 : Int32)) := V196
    show Run p e below s _ _ _ (T196.setTop (mkF m 84 #[.val (.ref tb), .val (.long xk), .second, .val (.int (0 : Int32)), .val (.int (2 : Int32))] []))
    refine Run.pre (fun _ k => XS.aloadN X196.here hx rfl (hb hby d10_84) rfl rfl k) ?_
    have f198 := (((FR3.keep Kc187 (ninS ne_tb_xo nin0)).keep Kc191 (ninS ne_tb_xd nin0)).keep Kc196 (ninS ne_tb_xl nin0))
    obtain ⟨T199, X199, e199, st199⟩ := getF X196 hx hZ hown (host := "") (Or.inl (hwi hw 17 rfl)) Via.refl e196 f198 (g := (mkF m 85 #[.val (.ref tb), .val (.long xk), .second, .val (.int (0 : Int32)), .val (.int (2 : Int32))] [(.ref tb)])) rfl rfl (hb hby d10_85)
    refine Run.pre st199 ?_
    refine Run.pre (fun _ k => XS.iloadN X199.here hx rfl (hb hby d10_88) rfl  k) ?_
    refine Run.pre (fun _ k => XS.aloadN X199.here hx rfl (hb hby d10_89) rfl rfl k) ?_
    obtain ⟨T200, X200, e200, st200⟩ := getF X199 hx hZ hown (host := "") (Or.inl (hwi hw 17 rfl)) Via.refl e199 f198 (g := (mkF m 90 #[.val (.ref tb), .val (.long xk), .second, .val (.int (0 : Int32)), .val (.int (2 : Int32))] [(.ref tb), (.int (0 : Int32)), (.ref xq)])) rfl rfl (hb hby d10_90)
    refine Run.pre st200 ?_
    refine Run.pre (fun _ k => XS.iloadN X200.here hx rfl (hb hby d10_93) rfl  k) ?_
    show Run p e below s _ _ _ (T200.setTop (mkF m 94 #[.val (.ref tb), .val (.long xk), .second, .val (.int (0 : Int32)), .val (.int (2 : Int32))] [(.int (0 : Int32)), (.ref xq), (.int (0 : Int32)), (.ref xq)]))
    refine Run.pre (fun _ k => XS.iconst X200.here hx rfl (hb hby d10_94) k) ?_
    refine Run.pre (fun _ k => XS.iadd X200.here hx rfl (hb hby d10_95) rfl k) ?_
    refine Run.pre (fun _ k => XS.iload X200.here hx rfl (hb hby d10_96) rfl  k) ?_
    have f202 := (((AR3.keep Kc187 (ninS (Ne.symm ne_xo_xq) nin0)).keep Kc191 (ninS (Ne.symm ne_xd_xq) nin0)).keep Kc196 (ninS (Ne.symm ne_xl_xq) nin0))
    obtain ⟨T201, h201, L201, X201, e201, N201, Kc201, V201, st201⟩ := cpA X200 hx hZ hown (hwi hw 60 rfl) (hwi hw 63 rfl) (hwi hw 61 rfl) (hwi hw 62 rfl) e200 f202 f202 (Or.inl ⟨rfl, rfl⟩) (by decide) (by decide) (by decide) (by decide) (by decide) rfl (Nat.le_of_ble_eq_true rfl) N196 g_xq (g := (mkF m 98 #[.val (.ref tb), .val (.long xk), .second, .val (.int (0 : Int32)), .val (.int (2 : Int32))] [(.int (2 : Int32)), (.int (1 : Int32)), (.ref xq), (.int (0 : Int32)), (.ref xq)])) rfl (by rw [hml]; rfl) rfl (hb hby d10_98) (by decide) (W := 0) (by show 2 * 0 + _ ≤ _; exact Nat.le_of_eq rfl) (by decide)
    refine Run.pre st201 ?_
    have K201 : Keep h0 h201 [tb, xo, xd, xl, xq, xh] := K196.trans Kc201 (allS (Or.inl (by simp)) all0)
    have V_xq_201 : Arv Z h201 xq kq .int (16 : Int32) (own_LI q0 q0 q1) (.int (0 : Int32)) := V201
    refine Run.pre (fun _ k => XS.aloadN X201.here hx rfl (hb hby d10_101) rfl rfl k) ?_
    have f203 := ((((FR4.keep Kc187 (ninS ne_tb_xo nin0)).keep Kc191 (ninS ne_tb_xd nin0)).keep Kc196 (ninS ne_tb_xl nin0)).keep Kc201 (ninS ne_tb_xq nin0))
    obtain ⟨T204, X204, e204, st204⟩ := getF X201 hx hZ hown (host := "") (Or.inl (hwi hw 20 rfl)) Via.refl e201 f203 (g := (mkF m 102 #[.val (.ref tb), .val (.long xk), .second, .val (.int (0 : Int32)), .val (.int (2 : Int32))] [(.ref tb)])) rfl rfl (hb hby d10_102)
    refine Run.pre st204 ?_
    show Run p e below s _ _ _ (T204.setTop (mkF m 105 #[.val (.ref tb), .val (.long xk), .second, .val (.int (0 : Int32)), .val (.int (2 : Int32))] [(.ref xh)]))
    refine Run.pre (fun _ k => XS.iloadN X204.here hx rfl (hb hby d10_105) rfl  k) ?_
    refine Run.pre (fun _ k => XS.aloadN X204.here hx rfl (hb hby d10_106) rfl rfl k) ?_
    obtain ⟨T205, X205, e205, st205⟩ := getF X204 hx hZ hown (host := "") (Or.inl (hwi hw 20 rfl)) Via.refl e204 f203 (g := (mkF m 107 #[.val (.ref tb), .val (.long xk), .second, .val (.int (0 : Int32)), .val (.int (2 : Int32))] [(.ref tb), (.int (0 : Int32)), (.ref xh)])) rfl rfl (hb hby d10_107)
    refine Run.pre st205 ?_
    refine Run.pre (fun _ k => XS.iloadN X205.here hx rfl (hb hby d10_110) rfl  k) ?_
    refine Run.pre (fun _ k => XS.iconst X205.here hx rfl (hb hby d10_111) k) ?_
    refine Run.pre (fun _ k => XS.iadd X205.here hx rfl (hb hby d10_112) rfl k) ?_
    show Run p e below s _ _ _ (T205.setTop (mkF m 113 #[.val (.ref tb), .val (.long xk), .second, .val (.int (0 : Int32)), .val (.int (2 : Int32))] [(.int (1 : Int32)), (.ref xh), (.int (0 : Int32)), (.ref xh)]))
    refine Run.pre (fun _ k => XS.iload X205.here hx rfl (hb hby d10_113) rfl  k) ?_
    have f207 := ((((AR4.keep Kc187 (ninS (Ne.symm ne_xo_xh) nin0)).keep Kc191 (ninS (Ne.symm ne_xd_xh) nin0)).keep Kc196 (ninS (Ne.symm ne_xl_xh) nin0)).keep Kc201 (ninS (Ne.symm ne_xq_xh) nin0))
    obtain ⟨T206, h206, L206, X206, e206, N206, Kc206, V206, st206⟩ := cpA X205 hx hZ hown (hwi hw 60 rfl) (hwi hw 63 rfl) (hwi hw 61 rfl) (hwi hw 62 rfl) e205 f207 f207 (Or.inl ⟨rfl, rfl⟩) (by decide) (by decide) (by decide) (by decide) (by decide) rfl (Nat.le_of_ble_eq_true rfl) N201 g_xh (g := (mkF m 115 #[.val (.ref tb), .val (.long xk), .second, .val (.int (0 : Int32)), .val (.int (2 : Int32))] [(.int (2 : Int32)), (.int (1 : Int32)), (.ref xh), (.int (0 : Int32)), (.ref xh)])) rfl (by rw [hml]; rfl) rfl (hb hby d10_115) (by decide) (W := 0) (by show 2 * 0 + _ ≤ _; exact Nat.le_of_eq rfl) (by decide)
    refine Run.pre st206 ?_
    have K206 : Keep h0 h206 [tb, xo, xd, xl, xq, xh] := K201.trans Kc206 (allS (Or.inl (by simp)) all0)
    have V_xh_206 : Arv Z h206 xh kh .boolean (16 : Int32) (own_LI b0 b0 b1) (.int (0 : Int32)) := V206
    refine Run.pre (fun _ k => XS.aloadN X206.here hx rfl (hb hby d10_118) rfl rfl k) ?_
    have f208 := (((((FR0.keep Kc187 (ninS ne_tb_xo nin0)).keep Kc191 (ninS ne_tb_xd nin0)).keep Kc196 (ninS ne_tb_xl nin0)).keep Kc201 (ninS ne_tb_xq nin0)).keep Kc206 (ninS ne_tb_xh nin0))
    obtain ⟨T209, X209, e209, st209⟩ := getF X206 hx hZ hown (host := "") (Or.inl (hwi hw 10 rfl)) Via.refl e206 f208 (g := (mkF m 119 #[.val (.ref tb), .val (.long xk), .second, .val (.int (0 : Int32)), .val (.int (2 : Int32))] [(.ref tb)])) rfl rfl (hb hby d10_119)
    refine Run.pre st209 ?_
    refine Run.pre (fun _ k => XS.iloadN X209.here hx rfl (hb hby d10_122) rfl  k) ?_
    refine Run.pre (fun _ k => XS.lloadN X209.here hx rfl (hb hby d10_123) rfl  k) ?_
    show Run p e below s _ _ _ (T209.setTop (mkF m 124 #[.val (.ref tb), .val (.long xk), .second, .val (.int (0 : Int32)), .val (.int (2 : Int32))] [(.long xk), (.int (0 : Int32)), (.ref xo)]))
    have f210 := ((((V_xo_187.keep Kc191 (ninS ne_xo_xd nin0)).keep Kc196 (ninS ne_xo_xl nin0)).keep Kc201 (ninS ne_xo_xq nin0)).keep Kc206 (ninS ne_xo_xh nin0))
    obtain ⟨c211, Ar211, q211, S211, N211, H211, G211⟩ := id f210
    have hin211 : ¬ ((0 : Int32) < 0 ∨ c211.slots.size ≤ ((0 : Int32)).toNatClampNeg) := inb_of S211 ⟨by decide, by decide⟩
    obtain ⟨T212, h212, X212, e212, W212, st212⟩ := stJ X209 hx hZ e209 Ar211 (j := (0 : Int32)) hin211 (g := (mkF m 124 #[.val (.ref tb), .val (.long xk), .second, .val (.int (0 : Int32)), .val (.int (2 : Int32))] [(.long xk), (.int (0 : Int32)), (.ref xo)])) rfl rfl (hb hby d10_124)
    refine Run.pre st212 ?_
    have V_xo_212 : Arv Z h212 xo ko .long (16 : Int32) (own_LJ xk p0 p1) (.long (0 : Int64)) := Arv.set Ar211 q211 S211 N211 H211 G211 rfl W212 0 rfl (Nat.le_of_ble_eq_true rfl)
    have K212 : Keep h0 h212 [tb, xo, xd, xl, xq, xh] := K206.wr W212 (Or.inl (by simp))
    have N212 := Fr.snoc X212 N206 g_xo
    refine Run.pre (fun _ k => XS.aloadN X212.here hx rfl (hb hby d10_125) rfl rfl k) ?_
    have f213 := ((f203.keep Kc206 (ninS ne_tb_xh nin0)).other W212 (Or.inl ne_tb_xo))
    obtain ⟨T214, X214, e214, st214⟩ := getF X212 hx hZ hown (host := "") (Or.inl (hwi hw 20 rfl)) Via.refl e212 f213 (g := (mkF m 126 #[.val (.ref tb), .val (.long xk), .second, .val (.int (0 : Int32)), .val (.int (2 : Int32))] [(.ref tb)])) rfl rfl (hb hby d10_126)
    refine Run.pre st214 ?_
    refine Run.pre (fun _ k => XS.iloadN X214.here hx rfl (hb hby d10_129) rfl  k) ?_
    refine Run.pre (fun _ k => XS.iconst X214.here hx rfl (hb hby d10_130) k) ?_
    have f215 := (V_xh_206.other W212 (Ne.symm ne_xo_xh))
    obtain ⟨c216, Ar216, q216, S216, N216, H216, G216⟩ := id f215
    have hin216 : ¬ ((0 : Int32) < 0 ∨ c216.slots.size ≤ ((0 : Int32)).toNatClampNeg) := inb_of S216 ⟨by decide, by decide⟩
    obtain ⟨T217, h217, X217, e217, W217, st217⟩ := stZ X214 hx hZ e214 Ar216 (j := (0 : Int32)) hin216 (g := (mkF m 131 #[.val (.ref tb), .val (.long xk), .second, .val (.int (0 : Int32)), .val (.int (2 : Int32))] [(.int (0 : Int32)), (.int (0 : Int32)), (.ref xh)])) rfl rfl (hb hby d10_131)
    refine Run.pre st217 ?_
    have V_xh_217 : Arv Z h217 xh kh .boolean (16 : Int32) (own_LI (nar .boolean (0 : Int32)) b0 b1) (.int (0 : Int32)) := Arv.set Ar216 q216 S216 N216 H216 G216 (fits_nar_bool _) W217 0 rfl (Nat.le_of_ble_eq_true rfl)
    have K217 : Keep h0 h217 [tb, xo, xd, xl, xq, xh] := K212.wr W217 (Or.inl (by simp))
    have N217 := Fr.snoc X217 N212 g_xh
    show Run p e below s _ _ _ (T217.setTop (mkF m 132 #[.val (.ref tb), .val (.long xk), .second, .val (.int (0 : Int32)), .val (.int (2 : Int32))] []))
    refine Run.pre (fun _ k => XS.aloadN X217.here hx rfl (hb hby d10_132) rfl rfl k) ?_
    refine Run.pre (fun _ k => XS.dup X217.here hx rfl (hb hby d10_133) rfl rfl k) ?_
    have f218 := (((((((Fe.keep Kc187 (ninS ne_tb_xo nin0)).keep Kc191 (ninS ne_tb_xd nin0)).keep Kc196 (ninS ne_tb_xl nin0)).keep Kc201 (ninS ne_tb_xq nin0)).keep Kc206 (ninS ne_tb_xh nin0)).other W212 (Or.inl ne_tb_xo)).other W217 (Or.inl ne_tb_xh))
    obtain ⟨T219, X219, e219, st219⟩ := getF X217 hx hZ hown (host := "") (Or.inl (hwi hw 34 rfl)) Via.refl e217 f218 (g := (mkF m 134 #[.val (.ref tb), .val (.long xk), .second, .val (.int (0 : Int32)), .val (.int (2 : Int32))] [(.ref tb), (.ref tb)])) rfl rfl (hb hby d10_134)
    refine Run.pre st219 ?_
    refine Run.pre (fun _ k => XS.iconst X219.here hx rfl (hb hby d10_137) k) ?_
    refine Run.pre (fun _ k => XS.iadd X219.here hx rfl (hb hby d10_138) rfl k) ?_
    have f220 := (((((((E_tb.keep Kc187).keep Kc191).keep Kc196).keep Kc201).keep Kc206).wr W212).wr W217)
    obtain ⟨T221, h221, X221, e221, W221, st221⟩ := putF X219 hx hZ hown (host := "") (Or.inl (hwi hw 34 rfl)) Via.refl e219 f218 f220 (Or.inl (hwi hw 35 rfl)) (hwi hw 1 rfl) (ty := .int) (by decide) rfl rfl (g := (mkF m 139 #[.val (.ref tb), .val (.long xk), .second, .val (.int (0 : Int32)), .val (.int (2 : Int32))] [(.int (3 : Int32)), (.ref tb)])) rfl rfl (hb hby d10_139)
    refine Run.pre st221 ?_
    have Fw221 := f218.same W221
    have K221 : Keep h0 h221 [tb, xo, xd, xl, xq, xh] := K217.wr W221 (Or.inl (by simp))
    have N221 := Fr.snoc X221 N217 g_tb
    show Run p e below s _ _ _ (T221.setTop (mkF m 142 #[.val (.ref tb), .val (.long xk), .second, .val (.int (0 : Int32)), .val (.int (2 : Int32))] []))
    refine Run.pre (fun _ k => XS.iloadN X221.here hx rfl (hb hby d10_142) rfl  k) ?_
    have f222 := (f220.wr W221)
    have f223 := (((f208.other W212 (Or.inl ne_tb_xo)).other W217 (Or.inl ne_tb_xh)).other W221 (Or.inr (slot_ne (Or.inl (hwi hw 11 rfl)) (Or.inl (hwi hw 35 rfl)) (by decide) (t := (.array .long)) (t' := .int) (by decide) (by decide))))
    have f224 := (((((((f188.keep Kc191 (ninS ne_tb_xd nin0)).keep Kc196 (ninS ne_tb_xl nin0)).keep Kc201 (ninS ne_tb_xq nin0)).keep Kc206 (ninS ne_tb_xh nin0)).other W212 (Or.inl ne_tb_xo)).other W217 (Or.inl ne_tb_xh)).other W221 (Or.inr (slot_ne (Or.inl (hwi hw 13 rfl)) (Or.inl (hwi hw 35 rfl)) (by decide) (t := (.array .long)) (t' := .int) (by decide) (by decide))))
    have f225 := ((((((f193.keep Kc196 (ninS ne_tb_xl nin0)).keep Kc201 (ninS ne_tb_xq nin0)).keep Kc206 (ninS ne_tb_xh nin0)).other W212 (Or.inl ne_tb_xo)).other W217 (Or.inl ne_tb_xh)).other W221 (Or.inr (slot_ne (Or.inl (hwi hw 16 rfl)) (Or.inl (hwi hw 35 rfl)) (by decide) (t := (.array .int)) (t' := .int) (by decide) (by decide))))
    have f226 := (((((f198.keep Kc201 (ninS ne_tb_xq nin0)).keep Kc206 (ninS ne_tb_xh nin0)).other W212 (Or.inl ne_tb_xo)).other W217 (Or.inl ne_tb_xh)).other W221 (Or.inr (slot_ne (Or.inl (hwi hw 18 rfl)) (Or.inl (hwi hw 35 rfl)) (by decide) (t := (.array .int)) (t' := .int) (by decide) (by decide))))
    have f227 := ((f213.other W217 (Or.inl ne_tb_xh)).other W221 (Or.inr (slot_ne (Or.inl (hwi hw 21 rfl)) (Or.inl (hwi hw 35 rfl)) (by decide) (t := (.array .boolean)) (t' := .int) (by decide) (by decide))))
    have f228 := ((((((((Ff.keep Kc187 (ninS ne_tb_xo nin0)).keep Kc191 (ninS ne_tb_xd nin0)).keep Kc196 (ninS ne_tb_xl nin0)).keep Kc201 (ninS ne_tb_xq nin0)).keep Kc206 (ninS ne_tb_xh nin0)).other W212 (Or.inl ne_tb_xo)).other W217 (Or.inl ne_tb_xh)).other W221 (Or.inr (slot_ne (Or.inl (hwi hw 37 rfl)) (Or.inl (hwi hw 35 rfl)) (by decide) (t := .int) (t' := .int) (by decide) (by decide))))
    have f229 := ((((((((Fz.keep Kc187 (ninS ne_tb_xo nin0)).keep Kc191 (ninS ne_tb_xd nin0)).keep Kc196 (ninS ne_tb_xl nin0)).keep Kc201 (ninS ne_tb_xq nin0)).keep Kc206 (ninS ne_tb_xh nin0)).other W212 (Or.inl ne_tb_xo)).other W217 (Or.inl ne_tb_xh)).other W221 (Or.inr (slot_ne (Or.inl (hwi hw 28 rfl)) (Or.inl (hwi hw 35 rfl)) (by decide) (t := .int) (t' := .int) (by decide) (by decide))))
    have f230 := ((V_xo_212.other W217 ne_xo_xh).other W221 (Ne.symm ne_tb_xo))
    have f231 := ((((((V_xd_191.keep Kc196 (ninS ne_xd_xl nin0)).keep Kc201 (ninS ne_xd_xq nin0)).keep Kc206 (ninS ne_xd_xh nin0)).other W212 (Ne.symm ne_xo_xd)).other W217 ne_xd_xh).other W221 (Ne.symm ne_tb_xd))
    have f232 := (((((V_xl_196.keep Kc201 (ninS ne_xl_xq nin0)).keep Kc206 (ninS ne_xl_xh nin0)).other W212 (Ne.symm ne_xo_xl)).other W217 ne_xl_xh).other W221 (Ne.symm ne_tb_xl))
    have f233 := ((((V_xq_201.keep Kc206 (ninS ne_xq_xh nin0)).other W212 (Ne.symm ne_xo_xq)).other W217 ne_xq_xh).other W221 (Ne.symm ne_tb_xq))
    have f234 := (V_xh_217.other W221 (Ne.symm ne_tb_xh))
    exact Run.retI X221 hx hret hlk (hb hby d10_143) (by first | (rw [e221]; exact ⟨rfl, N221, K221, f222, f223, f224, f225, f226, f227, f228, Fw221, f229, f230, f231, f232, f233, f234⟩) | exact ⟨rfl, N221, K221, f222, f223, f224, f225, f226, f227, f228, Fw221, f229, f230, f231, f232, f233, f234⟩) (by decide) (by decide)
  · skip
    exact absurd r0.1 s0.1
set_option maxRecDepth 65536 in
set_option maxHeartbeats 40000000 in
theorem rmIn_02_1 (l : Launch) (Z : State) (a0 : Array Value) (hw : ∀ d ∈ tables_1, d.before a0 Z = true) (tb : Addr) (xo : Addr) (xd : Addr) (xl : Addr) (xq : Addr) (xh : Addr) (ko : ClassId) (kd : ClassId) (kl : ClassId) (kq : ClassId) (kh : ClassId) (p0 : Int64) (p1 : Int64) (p2 : Int64) (d0 : Int64) (d1 : Int64) (d2 : Int64) (l0 : Int32) (l1 : Int32) (l2 : Int32) (q0 : Int32) (q1 : Int32) (q2 : Int32) (b0 : Int32) (b1 : Int32) (b2 : Int32) (si : Int32) (xk : Int64) (h0 : Heap) (n0 : Nat) (Z0 : n0 ≤ h0.size) (E_tb : Exa Z h0 tb "com/example/manana/manana/storage/WaitingTable") (FR0 : Fld Z h0 tb "com/example/manana/manana/storage/WaitingTable" "offsets" "[J" (.ref xo)) (FR1 : Fld Z h0 tb "com/example/manana/manana/storage/WaitingTable" "dues" "[J" (.ref xd)) (FR2 : Fld Z h0 tb "com/example/manana/manana/storage/WaitingTable" "lengths" "[I" (.ref xl)) (FR3 : Fld Z h0 tb "com/example/manana/manana/storage/WaitingTable" "queues" "[I" (.ref xq)) (FR4 : Fld Z h0 tb "com/example/manana/manana/storage/WaitingTable" "held" "[Z" (.ref xh)) (Ff : Fld Z h0 tb "com/example/manana/manana/storage/WaitingTable" "first" "I" (.int (0 : Int32))) (Fe : Fld Z h0 tb "com/example/manana/manana/storage/WaitingTable" "end" "I" (.int (2 : Int32))) (Fz : Fld Z h0 tb "com/example/manana/manana/storage/WaitingTable" "size" "I" (.int si)) (AR0 : Arv Z h0 xo ko .long 16 (own_LJ p0 p1 p2) (.long (0 : Int64))) (AR1 : Arv Z h0 xd kd .long 16 (own_LJ d0 d1 d2) (.long (0 : Int64))) (AR2 : Arv Z h0 xl kl .int 16 (own_LI l0 l1 l2) (.int (0 : Int32))) (AR3 : Arv Z h0 xq kq .int 16 (own_LI q0 q1 q2) (.int (0 : Int32))) (AR4 : Arv Z h0 xh kh .boolean 16 (own_LI b0 b1 b2) (.int (0 : Int32))) (hD : own_D tb xo xd xl xq xh) (g_tb : n0 ≤ tb) (g_xo : n0 ≤ xo) (g_xd : n0 ≤ xd) (g_xl : n0 ≤ xl) (g_xq : n0 ≤ xq) (g_xh : n0 ≤ xh) (r0 : (¬ xk < p0 ∧ p0 < xk)) (r1 : (xk < p1 ∧ ¬ p1 < xk)) :
    Con l (⟨"com/example/manana/manana/storage/WaitingTable", "insert", "(J)I"⟩ : MethodName) prog_84_method_12_code 5 (some .int) ({ frames := 3, cells := 0, slots := 0, locals := 51 } : Room) Z #[(.ref tb), (.long xk)] h0 (fun v h L => v = some (.int 1) ∧ Fr n0 L ∧ Keep h0 h [tb, xo, xd, xl, xq, xh] ∧ Exa Z h tb "com/example/manana/manana/storage/WaitingTable" ∧ Fld Z h tb "com/example/manana/manana/storage/WaitingTable" "offsets" "[J" (.ref xo) ∧ Fld Z h tb "com/example/manana/manana/storage/WaitingTable" "dues" "[J" (.ref xd) ∧ Fld Z h tb "com/example/manana/manana/storage/WaitingTable" "lengths" "[I" (.ref xl) ∧ Fld Z h tb "com/example/manana/manana/storage/WaitingTable" "queues" "[I" (.ref xq) ∧ Fld Z h tb "com/example/manana/manana/storage/WaitingTable" "held" "[Z" (.ref xh) ∧ Fld Z h tb "com/example/manana/manana/storage/WaitingTable" "first" "I" (.int (0 : Int32)) ∧ Fld Z h tb "com/example/manana/manana/storage/WaitingTable" "end" "I" (.int (3 : Int32)) ∧ Fld Z h tb "com/example/manana/manana/storage/WaitingTable" "size" "I" (.int si) ∧ Arv Z h xo ko .long 16 (own_LJ p0 xk p1) (.long (0 : Int64)) ∧ Arv Z h xd kd .long 16 (own_LJ d0 d1 d1) (.long (0 : Int64)) ∧ Arv Z h xl kl .int 16 (own_LI l0 l1 l1) (.int (0 : Int32)) ∧ Arv Z h xq kq .int 16 (own_LI q0 q1 q1) (.int (0 : Int32)) ∧ Arv Z h xh kh .boolean 16 (own_LI b0 (nar .boolean (0 : Int32)) b1) (.int (0 : Int32))) := by
  refine Con.mk (plainFor_of_name pn_10) (fun m => show entryFrame m #[(.ref tb), (.long xk)] 5 = mkF m 0 #[.val (.ref tb), .val (.long xk), .second, .unset, .unset] [] by first | (simp [entryFrame, mkF, argsToLocals, Value.category]; done) | rfl) ?_
  intro p e s m below meth c s₁ hx hby hml hown hnm hret hlk hZ X0 e0
  have N0 := Fr.nil n0
  obtain ⟨ne_tb_xo, ne_tb_xd, ne_tb_xl, ne_tb_xq, ne_tb_xh, ne_xo_xd, ne_xo_xl, ne_xo_xq, ne_xo_xh, ne_xd_xl, ne_xd_xq, ne_xd_xh, ne_xl_xq, ne_xl_xh, ne_xq_xh⟩ := id hD
  show Run p e below s _ _ _ (s₁.setTop (mkF m 0 #[.val (.ref tb), .val (.long xk), .second, .unset, .unset] []))
  refine Run.pre (fun _ k => XS.aloadN X0.here hx rfl (hb hby d10_0) rfl rfl k) ?_
  obtain ⟨T235, X235, e235, st235⟩ := getF X0 hx hZ hown (host := "") (Or.inl (hwi hw 34 rfl)) Via.refl e0 Fe (g := (mkF m 1 #[.val (.ref tb), .val (.long xk), .second, .unset, .unset] [(.ref tb)])) rfl rfl (hb hby d10_1)
  refine Run.pre st235 ?_
  refine Run.pre (fun _ k => XS.aloadN X235.here hx rfl (hb hby d10_4) rfl rfl k) ?_
  obtain ⟨T236, X236, e236, st236⟩ := getF X235 hx hZ hown (host := "") (Or.inl (hwi hw 10 rfl)) Via.refl e235 FR0 (g := (mkF m 5 #[.val (.ref tb), .val (.long xk), .second, .unset, .unset] [(.ref tb), (.int (2 : Int32))])) rfl rfl (hb hby d10_5)
  refine Run.pre st236 ?_
  obtain ⟨c237, Ar237, -, S237, N237, -, -⟩ := id AR0
  refine Run.pre (X236.arraylength hx (by rw [e236]; exact Ar237.1) (State.isArrayOf_alike hZ.alike Ar237.2.1) (g := (mkF m 8 #[.val (.ref tb), .val (.long xk), .second, .unset, .unset] [(.ref xo), (.int (2 : Int32))])) rfl rfl (hb hby d10_8)) ?_
  rw [len_of S237 N237]
  refine Run.pre (fun _ k => XS.icmpYes X236.here hx rfl (pc0 := 9) (pc' := 16) rfl (hb hby d10_9) rfl (feq ((by decide) : ¬ ((2 : Int32) = (16 : Int32)))).2 (by decide) (by decide) k) ?_
  show Run p e below s _ _ _ (T236.setTop (mkF m 16 #[.val (.ref tb), .val (.long xk), .second, .unset, .unset] []))
  refine Run.pre (fun _ k => XS.aloadN X236.here hx rfl (hb hby d10_16) rfl rfl k) ?_
  refine Run.pre (fun _ k => XS.lloadN X236.here hx rfl (hb hby d10_17) rfl  k) ?_
  refine Run.callP X236 hx hZ (y := (⟨"com/example/manana/manana/storage/WaitingTable", "slotOf", "(J)I"⟩ : MethodName)) hown (hwi hw 42 rfl) (hwi hw 43 rfl) (own_selP (y := (⟨"com/example/manana/manana/storage/WaitingTable", "slotOf", "(J)I"⟩ : MethodName)) (z := (⟨"com/example/manana/manana/storage/WaitingTable", "lowest", "(J)J"⟩ : MethodName)) (hwi hw 43 rfl) (hwi hw 44 rfl) (hwi hw 25 rfl) rfl (by decide)) (hwi hw 44 rfl) (hwi hw 45 rfl) (hwi hw 2 rfl) (by decide) (a := tb) E_tb (W := 0) (rmS_02 l Z a0 hw tb xo ko p0 p1 p2 xk h0 n0 (Nat.le_trans Z0 (Keep.refl h0 [tb, xo, xd, xl, xq, xh]).1) E_tb FR0 Ff Fe AR0) e236 (by decide) (by decide) (by decide) (by decide) (g := (mkF m 18 #[.val (.ref tb), .val (.long xk), .second, .unset, .unset] [(.long xk), (.ref tb)])) rfl (by rw [hml]; rfl) (argsL := [(.long xk)]) (rest := []) (lenOf pd_2 rfl) rfl (by show 2 * 0 + _ ≤ _; exact Nat.le_of_eq rfl) (hb hby d10_18) ?_
  intro v238 T238 L238 X238 hQ238
  obtain ⟨r238, rfl, Nq238, he238, sp238⟩ := hQ238
  have N238 := Fr.app N0 Nq238
  have e238 : T238.heap = h0 := he238
  show Run p e below s _ _ _ (T238.setTop (mkF m 21 #[.val (.ref tb), .val (.long xk), .second, .unset, .unset] [(.int r238)]))
  rcases sp238 with ⟨rfl, s0, s1⟩ | ⟨rfl, s0, s1⟩ | ⟨rfl, s0, s1⟩ | ⟨rfl, s0⟩ | ⟨rfl, s0⟩
  · skip
    exact absurd r1.1 s1.1
  · skip
    refine Run.pre (fun _ k => XS.ineg X238.here hx rfl (hb hby d10_21) rfl k) ?_
    refine Run.pre (fun _ k => XS.iconst X238.here hx rfl (hb hby d10_22) k) ?_
    refine Run.pre (fun _ k => XS.isub X238.here hx rfl (hb hby d10_23) rfl k) ?_
    show Run p e below s _ _ _ (T238.setTop (mkF m 24 #[.val (.ref tb), .val (.long xk), .second, .unset, .unset] [(.int (1 : Int32))]))
    refine Run.pre (fun _ k => XS.istoreN X238.here hx rfl (hb hby d10_24) rfl (l' := #[.val (.ref tb), .val (.long xk), .second, .val (.int (1 : Int32)), .unset]) rfl k) ?_
    refine Run.pre (fun _ k => XS.aloadN X238.here hx rfl (hb hby d10_25) rfl rfl k) ?_
    obtain ⟨T239, X239, e239, st239⟩ := getF X238 hx hZ hown (host := "") (Or.inl (hwi hw 34 rfl)) Via.refl e238 Fe (g := (mkF m 26 #[.val (.ref tb), .val (.long xk), .second, .val (.int (1 : Int32)), .unset] [(.ref tb)])) rfl rfl (hb hby d10_26)
    refine Run.pre st239 ?_
    refine Run.pre (fun _ k => XS.iloadN X239.here hx rfl (hb hby d10_29) rfl  k) ?_
    refine Run.pre (fun _ k => XS.isub X239.here hx rfl (hb hby d10_30) rfl k) ?_
    refine Run.pre (fun _ k => XS.istore X239.here hx rfl (hb hby d10_31) rfl (l' := #[.val (.ref tb), .val (.long xk), .second, .val (.int (1 : Int32)), .val (.int (1 : Int32))]) rfl k) ?_
    show Run p e below s _ _ _ (T239.setTop (mkF m 33 #[.val (.ref tb), .val (.long xk), .second, .val (.int (1 : Int32)), .val (.int (1 : Int32))] []))
    refine Run.pre (fun _ k => XS.aloadN X239.here hx rfl (hb hby d10_33) rfl rfl k) ?_
    obtain ⟨T240, X240, e240, st240⟩ := getF X239 hx hZ hown (host := "") (Or.inl (hwi hw 10 rfl)) Via.refl e239 FR0 (g := (mkF m 34 #[.val (.ref tb), .val (.long xk), .second, .val (.int (1 : Int32)), .val (.int (1 : Int32))] [(.ref tb)])) rfl rfl (hb hby d10_34)
    refine Run.pre st240 ?_
    refine Run.pre (fun _ k => XS.iloadN X240.here hx rfl (hb hby d10_37) rfl  k) ?_
    refine Run.pre (fun _ k => XS.aloadN X240.here hx rfl (hb hby d10_38) rfl rfl k) ?_
    obtain ⟨T241, X241, e241, st241⟩ := getF X240 hx hZ hown (host := "") (Or.inl (hwi hw 10 rfl)) Via.refl e240 FR0 (g := (mkF m 39 #[.val (.ref tb), .val (.long xk), .second, .val (.int (1 : Int32)), .val (.int (1 : Int32))] [(.ref tb), (.int (1 : Int32)), (.ref xo)])) rfl rfl (hb hby d10_39)
    refine Run.pre st241 ?_
    refine Run.pre (fun _ k => XS.iloadN X241.here hx rfl (hb hby d10_42) rfl  k) ?_
    show Run p e below s _ _ _ (T241.setTop (mkF m 43 #[.val (.ref tb), .val (.long xk), .second, .val (.int (1 : Int32)), .val (.int (1 : Int32))] [(.int (1 : Int32)), (.ref xo), (.int (1 : Int32)), (.ref xo)]))
    refine Run.pre (fun _ k => XS.iconst X241.here hx rfl (hb hby d10_43) k) ?_
    refine Run.pre (fun _ k => XS.iadd X241.here hx rfl (hb hby d10_44) rfl k) ?_
    refine Run.pre (fun _ k => XS.iload X241.here hx rfl (hb hby d10_45) rfl  k) ?_
    obtain ⟨T242, h242, L242, X242, e242, N242, Kc242, V242, st242⟩ := cpA X241 hx hZ hown (hwi hw 60 rfl) (hwi hw 63 rfl) (hwi hw 61 rfl) (hwi hw 62 rfl) e241 AR0 AR0 (Or.inl ⟨rfl, rfl⟩) (by decide) (by decide) (by decide) (by decide) (by decide) rfl (Nat.le_of_ble_eq_true rfl) N238 g_xo (g := (mkF m 47 #[.val (.ref tb), .val (.long xk), .second, .val (.int (1 : Int32)), .val (.int (1 : Int32))] [(.int (1 : Int32)), (.int (2 : Int32)), (.ref xo), (.int (1 : Int32)), (.ref xo)])) rfl (by rw [hml]; rfl) rfl (hb hby d10_47) (by decide) (W := 0) (by show 2 * 0 + _ ≤ _; exact Nat.le_of_eq rfl) (by decide)
    refine Run.pre st242 ?_
    have K242 : Keep h0 h242 [tb, xo, xd, xl, xq, xh] := (Keep.refl h0 [tb, xo, xd, xl, xq, xh]).trans Kc242 (allS (Or.inl (by simp)) all0)
    have V_xo_242 : Arv Z h242 xo ko .long (16 : Int32) (own_LJ p0 p1 p1) (.long (0 : Int64)) := V242
    refine Run.pre (fun _ k => XS.aloadN X242.here hx rfl (hb hby d10_50) rfl rfl k) ?_
    have f243 := (FR1.keep Kc242 (ninS ne_tb_xo nin0))
    obtain ⟨T244, X244, e244, st244⟩ := getF X242 hx hZ hown (host := "") (Or.inl (hwi hw 12 rfl)) Via.refl e242 f243 (g := (mkF m 51 #[.val (.ref tb), .val (.long xk), .second, .val (.int (1 : Int32)), .val (.int (1 : Int32))] [(.ref tb)])) rfl rfl (hb hby d10_51)
    refine Run.pre st244 ?_
    show Run p e below s _ _ _ (T244.setTop (mkF m 54 #[.val (.ref tb), .val (.long xk), .second, .val (.int (1 : Int32)), .val (.int (1 : Int32))] [(.ref xd)]))
    refine Run.pre (fun _ k => XS.iloadN X244.here hx rfl (hb hby d10_54) rfl  k) ?_
    refine Run.pre (fun _ k => XS.aloadN X244.here hx rfl (hb hby d10_55) rfl rfl k) ?_
    obtain ⟨T245, X245, e245, st245⟩ := getF X244 hx hZ hown (host := "") (Or.inl (hwi hw 12 rfl)) Via.refl e244 f243 (g := (mkF m 56 #[.val (.ref tb), .val (.long xk), .second, .val (.int (1 : Int32)), .val (.int (1 : Int32))] [(.ref tb), (.int (1 : Int32)), (.ref xd)])) rfl rfl (hb hby d10_56)
    refine Run.pre st245 ?_
    refine Run.pre (fun _ k => XS.iloadN X245.here hx rfl (hb hby d10_59) rfl  k) ?_
    refine Run.pre (fun _ k => XS.iconst X245.here hx rfl (hb hby d10_60) k) ?_
    refine Run.pre (fun _ k => XS.iadd X245.here hx rfl (hb hby d10_61) rfl k) ?_
    show Run p e below s _ _ _ (T245.setTop (mkF m 62 #[.val (.ref tb), .val (.long xk), .second, .val (.int (1 : Int32)), .val (.int (1 : Int32))] [(.int (2 : Int32)), (.ref xd), (.int (1 : Int32)), (.ref xd)]))
    refine Run.pre (fun _ k => XS.iload X245.here hx rfl (hb hby d10_62) rfl  k) ?_
    have f247 := (AR1.keep Kc242 (ninS (Ne.symm ne_xo_xd) nin0))
    obtain ⟨T246, h246, L246, X246, e246, N246, Kc246, V246, st246⟩ := cpA X245 hx hZ hown (hwi hw 60 rfl) (hwi hw 63 rfl) (hwi hw 61 rfl) (hwi hw 62 rfl) e245 f247 f247 (Or.inl ⟨rfl, rfl⟩) (by decide) (by decide) (by decide) (by decide) (by decide) rfl (Nat.le_of_ble_eq_true rfl) N242 g_xd (g := (mkF m 64 #[.val (.ref tb), .val (.long xk), .second, .val (.int (1 : Int32)), .val (.int (1 : Int32))] [(.int (1 : Int32)), (.int (2 : Int32)), (.ref xd), (.int (1 : Int32)), (.ref xd)])) rfl (by rw [hml]; rfl) rfl (hb hby d10_64) (by decide) (W := 0) (by show 2 * 0 + _ ≤ _; exact Nat.le_of_eq rfl) (by decide)
    refine Run.pre st246 ?_
    have K246 : Keep h0 h246 [tb, xo, xd, xl, xq, xh] := K242.trans Kc246 (allS (Or.inl (by simp)) all0)
    have V_xd_246 : Arv Z h246 xd kd .long (16 : Int32) (own_LJ d0 d1 d1) (.long (0 : Int64)) := V246
    refine Run.pre (fun _ k => XS.aloadN X246.here hx rfl (hb hby d10_67) rfl rfl k) ?_
    have f248 := ((FR2.keep Kc242 (ninS ne_tb_xo nin0)).keep Kc246 (ninS ne_tb_xd nin0))
    obtain ⟨T249, X249, e249, st249⟩ := getF X246 hx hZ hown (host := "") (Or.inl (hwi hw 15 rfl)) Via.refl e246 f248 (g := (mkF m 68 #[.val (.ref tb), .val (.long xk), .second, .val (.int (1 : Int32)), .val (.int (1 : Int32))] [(.ref tb)])) rfl rfl (hb hby d10_68)
    refine Run.pre st249 ?_
    refine Run.pre (fun _ k => XS.iloadN X249.here hx rfl (hb hby d10_71) rfl  k) ?_
    refine Run.pre (fun _ k => XS.aloadN X249.here hx rfl (hb hby d10_72) rfl rfl k) ?_
    show Run p e below s _ _ _ (T249.setTop (mkF m 73 #[.val (.ref tb), .val (.long xk), .second, .val (.int (1 : Int32)), .val (.int (1 : Int32))] [(.ref tb), (.int (1 : Int32)), (.ref xl)]))
    obtain ⟨T250, X250, e250, st250⟩ := getF X249 hx hZ hown (host := "") (Or.inl (hwi hw 15 rfl)) Via.refl e249 f248 (g := (mkF m 73 #[.val (.ref tb), .val (.long xk), .second, .val (.int (1 : Int32)), .val (.int (1 : Int32))] [(.ref tb), (.int (1 : Int32)), (.ref xl)])) rfl rfl (hb hby d10_73)
    refine Run.pre st250 ?_
    refine Run.pre (fun _ k => XS.iloadN X250.here hx rfl (hb hby d10_76) rfl  k) ?_
    refine Run.pre (fun _ k => XS.iconst X250.here hx rfl (hb hby d10_77) k) ?_
    refine Run.pre (fun _ k => XS.iadd X250.here hx rfl (hb hby d10_78) rfl k) ?_
    refine Run.pre (fun _ k => XS.iload X250.here hx rfl (hb hby d10_79) rfl  k) ?_
    have f252 := ((AR2.keep Kc242 (ninS (Ne.symm ne_xo_xl) nin0)).keep Kc246 (ninS (Ne.symm ne_xd_xl) nin0))
    obtain ⟨T251, h251, L251, X251, e251, N251, Kc251, V251, st251⟩ := cpA X250 hx hZ hown (hwi hw 60 rfl) (hwi hw 63 rfl) (hwi hw 61 rfl) (hwi hw 62 rfl) e250 f252 f252 (Or.inl ⟨rfl, rfl⟩) (by decide) (by decide) (by decide) (by decide) (by decide) rfl (Nat.le_of_ble_eq_true rfl) N246 g_xl (g := (mkF m 81 #[.val (.ref tb), .val (.long xk), .second, .val (.int (1 : Int32)), .val (.int (1 : Int32))] [(.int (1 : Int32)), (.int (2 : Int32)), (.ref xl), (.int (1 : Int32)), (.ref xl)])) rfl (by rw [hml]; rfl) rfl (hb hby d10_81) (by decide) (W := 0) (by show 2 * 0 + _ ≤ _; exact Nat.le_of_eq rfl) (by decide)
    refine Run.pre st251 ?_
    have K251 : Keep h0 h251 [tb, xo, xd, xl, xq, xh] := K246.trans Kc251 (allS (Or.inl (by simp)) all0)
    have V_xl_251 : Arv Z h251 xl kl .int (16 : Int32) (own_LI l0 l1 l1) (.int (0 : Int32)) := V251
    show Run p e below s _ _ _ (T251.setTop (mkF m 84 #[.val (.ref tb), .val (.long xk), .second, .val (.int (1 : Int32)), .val (.int (1 : Int32))] []))
    refine Run.pre (fun _ k => XS.aloadN X251.here hx rfl (hb hby d10_84) rfl rfl k) ?_
    have f253 := (((FR3.keep Kc242 (ninS ne_tb_xo nin0)).keep Kc246 (ninS ne_tb_xd nin0)).keep Kc251 (ninS ne_tb_xl nin0))
    obtain ⟨T254, X254, e254, st254⟩ := getF X251 hx hZ hown (host := "") (Or.inl (hwi hw 17 rfl)) Via.refl e251 f253 (g := (mkF m 85 #[.val (.ref tb), .val (.long xk), .second, .val (.int (1 : Int32)), .val (.int (1 : Int32))] [(.ref tb)])) rfl rfl (hb hby d10_85)
    refine Run.pre st254 ?_
    refine Run.pre (fun _ k => XS.iloadN X254.here hx rfl (hb hby d10_88) rfl  k) ?_
    refine Run.pre (fun _ k => XS.aloadN X254.here hx rfl (hb hby d10_89) rfl rfl k) ?_
    obtain ⟨T255, X255, e255, st255⟩ := getF X254 hx hZ hown (host := "") (Or.inl (hwi hw 17 rfl)) Via.refl e254 f253 (g := (mkF m 90 #[.val (.ref tb), .val (.long xk), .second, .val (.int (1 : Int32)), .val (.int (1 : Int32))] [(.ref tb), (.int (1 : Int32)), (.ref xq)])) rfl rfl (hb hby d10_90)
    refine Run.pre st255 ?_
    refine Run.pre (fun _ k => XS.iloadN X255.here hx rfl (hb hby d10_93) rfl  k) ?_
    show Run p e below s _ _ _ (T255.setTop (mkF m 94 #[.val (.ref tb), .val (.long xk), .second, .val (.int (1 : Int32)), .val (.int (1 : Int32))] [(.int (1 : Int32)), (.ref xq), (.int (1 : Int32)), (.ref xq)]))
    refine Run.pre (fun _ k => XS.iconst X255.here hx rfl (hb hby d10_94) k) ?_
    refine Run.pre (fun _ k => XS.iadd X255.here hx rfl (hb hby d10_95) rfl k) ?_
    refine Run.pre (fun _ k => XS.iload X255.here hx rfl (hb hby d10_96) rfl  k) ?_
    have f257 := (((AR3.keep Kc242 (ninS (Ne.symm ne_xo_xq) nin0)).keep Kc246 (ninS (Ne.symm ne_xd_xq) nin0)).keep Kc251 (ninS (Ne.symm ne_xl_xq) nin0))
    obtain ⟨T256, h256, L256, X256, e256, N256, Kc256, V256, st256⟩ := cpA X255 hx hZ hown (hwi hw 60 rfl) (hwi hw 63 rfl) (hwi hw 61 rfl) (hwi hw 62 rfl) e255 f257 f257 (Or.inl ⟨rfl, rfl⟩) (by decide) (by decide) (by decide) (by decide) (by decide) rfl (Nat.le_of_ble_eq_true rfl) N251 g_xq (g := (mkF m 98 #[.val (.ref tb), .val (.long xk), .second, .val (.int (1 : Int32)), .val (.int (1 : Int32))] [(.int (1 : Int32)), (.int (2 : Int32)), (.ref xq), (.int (1 : Int32)), (.ref xq)])) rfl (by rw [hml]; rfl) rfl (hb hby d10_98) (by decide) (W := 0) (by show 2 * 0 + _ ≤ _; exact Nat.le_of_eq rfl) (by decide)
    refine Run.pre st256 ?_
    have K256 : Keep h0 h256 [tb, xo, xd, xl, xq, xh] := K251.trans Kc256 (allS (Or.inl (by simp)) all0)
    have V_xq_256 : Arv Z h256 xq kq .int (16 : Int32) (own_LI q0 q1 q1) (.int (0 : Int32)) := V256
    refine Run.pre (fun _ k => XS.aloadN X256.here hx rfl (hb hby d10_101) rfl rfl k) ?_
    have f258 := ((((FR4.keep Kc242 (ninS ne_tb_xo nin0)).keep Kc246 (ninS ne_tb_xd nin0)).keep Kc251 (ninS ne_tb_xl nin0)).keep Kc256 (ninS ne_tb_xq nin0))
    obtain ⟨T259, X259, e259, st259⟩ := getF X256 hx hZ hown (host := "") (Or.inl (hwi hw 20 rfl)) Via.refl e256 f258 (g := (mkF m 102 #[.val (.ref tb), .val (.long xk), .second, .val (.int (1 : Int32)), .val (.int (1 : Int32))] [(.ref tb)])) rfl rfl (hb hby d10_102)
    refine Run.pre st259 ?_
    show Run p e below s _ _ _ (T259.setTop (mkF m 105 #[.val (.ref tb), .val (.long xk), .second, .val (.int (1 : Int32)), .val (.int (1 : Int32))] [(.ref xh)]))
    refine Run.pre (fun _ k => XS.iloadN X259.here hx rfl (hb hby d10_105) rfl  k) ?_
    refine Run.pre (fun _ k => XS.aloadN X259.here hx rfl (hb hby d10_106) rfl rfl k) ?_
    obtain ⟨T260, X260, e260, st260⟩ := getF X259 hx hZ hown (host := "") (Or.inl (hwi hw 20 rfl)) Via.refl e259 f258 (g := (mkF m 107 #[.val (.ref tb), .val (.long xk), .second, .val (.int (1 : Int32)), .val (.int (1 : Int32))] [(.ref tb), (.int (1 : Int32)), (.ref xh)])) rfl rfl (hb hby d10_107)
    refine Run.pre st260 ?_
    refine Run.pre (fun _ k => XS.iloadN X260.here hx rfl (hb hby d10_110) rfl  k) ?_
    refine Run.pre (fun _ k => XS.iconst X260.here hx rfl (hb hby d10_111) k) ?_
    refine Run.pre (fun _ k => XS.iadd X260.here hx rfl (hb hby d10_112) rfl k) ?_
    show Run p e below s _ _ _ (T260.setTop (mkF m 113 #[.val (.ref tb), .val (.long xk), .second, .val (.int (1 : Int32)), .val (.int (1 : Int32))] [(.int (2 : Int32)), (.ref xh), (.int (1 : Int32)), (.ref xh)]))
    refine Run.pre (fun _ k => XS.iload X260.here hx rfl (hb hby d10_113) rfl  k) ?_
    have f262 := ((((AR4.keep Kc242 (ninS (Ne.symm ne_xo_xh) nin0)).keep Kc246 (ninS (Ne.symm ne_xd_xh) nin0)).keep Kc251 (ninS (Ne.symm ne_xl_xh) nin0)).keep Kc256 (ninS (Ne.symm ne_xq_xh) nin0))
    obtain ⟨T261, h261, L261, X261, e261, N261, Kc261, V261, st261⟩ := cpA X260 hx hZ hown (hwi hw 60 rfl) (hwi hw 63 rfl) (hwi hw 61 rfl) (hwi hw 62 rfl) e260 f262 f262 (Or.inl ⟨rfl, rfl⟩) (by decide) (by decide) (by decide) (by decide) (by decide) rfl (Nat.le_of_ble_eq_true rfl) N256 g_xh (g := (mkF m 115 #[.val (.ref tb), .val (.long xk), .second, .val (.int (1 : Int32)), .val (.int (1 : Int32))] [(.int (1 : Int32)), (.int (2 : Int32)), (.ref xh), (.int (1 : Int32)), (.ref xh)])) rfl (by rw [hml]; rfl) rfl (hb hby d10_115) (by decide) (W := 0) (by show 2 * 0 + _ ≤ _; exact Nat.le_of_eq rfl) (by decide)
    refine Run.pre st261 ?_
    have K261 : Keep h0 h261 [tb, xo, xd, xl, xq, xh] := K256.trans Kc261 (allS (Or.inl (by simp)) all0)
    have V_xh_261 : Arv Z h261 xh kh .boolean (16 : Int32) (own_LI b0 b1 b1) (.int (0 : Int32)) := V261
    refine Run.pre (fun _ k => XS.aloadN X261.here hx rfl (hb hby d10_118) rfl rfl k) ?_
    have f263 := (((((FR0.keep Kc242 (ninS ne_tb_xo nin0)).keep Kc246 (ninS ne_tb_xd nin0)).keep Kc251 (ninS ne_tb_xl nin0)).keep Kc256 (ninS ne_tb_xq nin0)).keep Kc261 (ninS ne_tb_xh nin0))
    obtain ⟨T264, X264, e264, st264⟩ := getF X261 hx hZ hown (host := "") (Or.inl (hwi hw 10 rfl)) Via.refl e261 f263 (g := (mkF m 119 #[.val (.ref tb), .val (.long xk), .second, .val (.int (1 : Int32)), .val (.int (1 : Int32))] [(.ref tb)])) rfl rfl (hb hby d10_119)
    refine Run.pre st264 ?_
    refine Run.pre (fun _ k => XS.iloadN X264.here hx rfl (hb hby d10_122) rfl  k) ?_
    refine Run.pre (fun _ k => XS.lloadN X264.here hx rfl (hb hby d10_123) rfl  k) ?_
    show Run p e below s _ _ _ (T264.setTop (mkF m 124 #[.val (.ref tb), .val (.long xk), .second, .val (.int (1 : Int32)), .val (.int (1 : Int32))] [(.long xk), (.int (1 : Int32)), (.ref xo)]))
    have f265 := ((((V_xo_242.keep Kc246 (ninS ne_xo_xd nin0)).keep Kc251 (ninS ne_xo_xl nin0)).keep Kc256 (ninS ne_xo_xq nin0)).keep Kc261 (ninS ne_xo_xh nin0))
    obtain ⟨c266, Ar266, q266, S266, N266, H266, G266⟩ := id f265
    have hin266 : ¬ ((1 : Int32) < 0 ∨ c266.slots.size ≤ ((1 : Int32)).toNatClampNeg) := inb_of S266 ⟨by decide, by decide⟩
    obtain ⟨T267, h267, X267, e267, W267, st267⟩ := stJ X264 hx hZ e264 Ar266 (j := (1 : Int32)) hin266 (g := (mkF m 124 #[.val (.ref tb), .val (.long xk), .second, .val (.int (1 : Int32)), .val (.int (1 : Int32))] [(.long xk), (.int (1 : Int32)), (.ref xo)])) rfl rfl (hb hby d10_124)
    refine Run.pre st267 ?_
    have V_xo_267 : Arv Z h267 xo ko .long (16 : Int32) (own_LJ p0 xk p1) (.long (0 : Int64)) := Arv.set Ar266 q266 S266 N266 H266 G266 rfl W267 1 rfl (Nat.le_of_ble_eq_true rfl)
    have K267 : Keep h0 h267 [tb, xo, xd, xl, xq, xh] := K261.wr W267 (Or.inl (by simp))
    have N267 := Fr.snoc X267 N261 g_xo
    refine Run.pre (fun _ k => XS.aloadN X267.here hx rfl (hb hby d10_125) rfl rfl k) ?_
    have f268 := ((f258.keep Kc261 (ninS ne_tb_xh nin0)).other W267 (Or.inl ne_tb_xo))
    obtain ⟨T269, X269, e269, st269⟩ := getF X267 hx hZ hown (host := "") (Or.inl (hwi hw 20 rfl)) Via.refl e267 f268 (g := (mkF m 126 #[.val (.ref tb), .val (.long xk), .second, .val (.int (1 : Int32)), .val (.int (1 : Int32))] [(.ref tb)])) rfl rfl (hb hby d10_126)
    refine Run.pre st269 ?_
    refine Run.pre (fun _ k => XS.iloadN X269.here hx rfl (hb hby d10_129) rfl  k) ?_
    refine Run.pre (fun _ k => XS.iconst X269.here hx rfl (hb hby d10_130) k) ?_
    have f270 := (V_xh_261.other W267 (Ne.symm ne_xo_xh))
    obtain ⟨c271, Ar271, q271, S271, N271, H271, G271⟩ := id f270
    have hin271 : ¬ ((1 : Int32) < 0 ∨ c271.slots.size ≤ ((1 : Int32)).toNatClampNeg) := inb_of S271 ⟨by decide, by decide⟩
    obtain ⟨T272, h272, X272, e272, W272, st272⟩ := stZ X269 hx hZ e269 Ar271 (j := (1 : Int32)) hin271 (g := (mkF m 131 #[.val (.ref tb), .val (.long xk), .second, .val (.int (1 : Int32)), .val (.int (1 : Int32))] [(.int (0 : Int32)), (.int (1 : Int32)), (.ref xh)])) rfl rfl (hb hby d10_131)
    refine Run.pre st272 ?_
    have V_xh_272 : Arv Z h272 xh kh .boolean (16 : Int32) (own_LI b0 (nar .boolean (0 : Int32)) b1) (.int (0 : Int32)) := Arv.set Ar271 q271 S271 N271 H271 G271 (fits_nar_bool _) W272 1 rfl (Nat.le_of_ble_eq_true rfl)
    have K272 : Keep h0 h272 [tb, xo, xd, xl, xq, xh] := K267.wr W272 (Or.inl (by simp))
    have N272 := Fr.snoc X272 N267 g_xh
    show Run p e below s _ _ _ (T272.setTop (mkF m 132 #[.val (.ref tb), .val (.long xk), .second, .val (.int (1 : Int32)), .val (.int (1 : Int32))] []))
    refine Run.pre (fun _ k => XS.aloadN X272.here hx rfl (hb hby d10_132) rfl rfl k) ?_
    refine Run.pre (fun _ k => XS.dup X272.here hx rfl (hb hby d10_133) rfl rfl k) ?_
    have f273 := (((((((Fe.keep Kc242 (ninS ne_tb_xo nin0)).keep Kc246 (ninS ne_tb_xd nin0)).keep Kc251 (ninS ne_tb_xl nin0)).keep Kc256 (ninS ne_tb_xq nin0)).keep Kc261 (ninS ne_tb_xh nin0)).other W267 (Or.inl ne_tb_xo)).other W272 (Or.inl ne_tb_xh))
    obtain ⟨T274, X274, e274, st274⟩ := getF X272 hx hZ hown (host := "") (Or.inl (hwi hw 34 rfl)) Via.refl e272 f273 (g := (mkF m 134 #[.val (.ref tb), .val (.long xk), .second, .val (.int (1 : Int32)), .val (.int (1 : Int32))] [(.ref tb), (.ref tb)])) rfl rfl (hb hby d10_134)
    refine Run.pre st274 ?_
    refine Run.pre (fun _ k => XS.iconst X274.here hx rfl (hb hby d10_137) k) ?_
    refine Run.pre (fun _ k => XS.iadd X274.here hx rfl (hb hby d10_138) rfl k) ?_
    have f275 := (((((((E_tb.keep Kc242).keep Kc246).keep Kc251).keep Kc256).keep Kc261).wr W267).wr W272)
    obtain ⟨T276, h276, X276, e276, W276, st276⟩ := putF X274 hx hZ hown (host := "") (Or.inl (hwi hw 34 rfl)) Via.refl e274 f273 f275 (Or.inl (hwi hw 35 rfl)) (hwi hw 1 rfl) (ty := .int) (by decide) rfl rfl (g := (mkF m 139 #[.val (.ref tb), .val (.long xk), .second, .val (.int (1 : Int32)), .val (.int (1 : Int32))] [(.int (3 : Int32)), (.ref tb)])) rfl rfl (hb hby d10_139)
    refine Run.pre st276 ?_
    have Fw276 := f273.same W276
    have K276 : Keep h0 h276 [tb, xo, xd, xl, xq, xh] := K272.wr W276 (Or.inl (by simp))
    have N276 := Fr.snoc X276 N272 g_tb
    show Run p e below s _ _ _ (T276.setTop (mkF m 142 #[.val (.ref tb), .val (.long xk), .second, .val (.int (1 : Int32)), .val (.int (1 : Int32))] []))
    refine Run.pre (fun _ k => XS.iloadN X276.here hx rfl (hb hby d10_142) rfl  k) ?_
    have f277 := (f275.wr W276)
    have f278 := (((f263.other W267 (Or.inl ne_tb_xo)).other W272 (Or.inl ne_tb_xh)).other W276 (Or.inr (slot_ne (Or.inl (hwi hw 11 rfl)) (Or.inl (hwi hw 35 rfl)) (by decide) (t := (.array .long)) (t' := .int) (by decide) (by decide))))
    have f279 := (((((((f243.keep Kc246 (ninS ne_tb_xd nin0)).keep Kc251 (ninS ne_tb_xl nin0)).keep Kc256 (ninS ne_tb_xq nin0)).keep Kc261 (ninS ne_tb_xh nin0)).other W267 (Or.inl ne_tb_xo)).other W272 (Or.inl ne_tb_xh)).other W276 (Or.inr (slot_ne (Or.inl (hwi hw 13 rfl)) (Or.inl (hwi hw 35 rfl)) (by decide) (t := (.array .long)) (t' := .int) (by decide) (by decide))))
    have f280 := ((((((f248.keep Kc251 (ninS ne_tb_xl nin0)).keep Kc256 (ninS ne_tb_xq nin0)).keep Kc261 (ninS ne_tb_xh nin0)).other W267 (Or.inl ne_tb_xo)).other W272 (Or.inl ne_tb_xh)).other W276 (Or.inr (slot_ne (Or.inl (hwi hw 16 rfl)) (Or.inl (hwi hw 35 rfl)) (by decide) (t := (.array .int)) (t' := .int) (by decide) (by decide))))
    have f281 := (((((f253.keep Kc256 (ninS ne_tb_xq nin0)).keep Kc261 (ninS ne_tb_xh nin0)).other W267 (Or.inl ne_tb_xo)).other W272 (Or.inl ne_tb_xh)).other W276 (Or.inr (slot_ne (Or.inl (hwi hw 18 rfl)) (Or.inl (hwi hw 35 rfl)) (by decide) (t := (.array .int)) (t' := .int) (by decide) (by decide))))
    have f282 := ((f268.other W272 (Or.inl ne_tb_xh)).other W276 (Or.inr (slot_ne (Or.inl (hwi hw 21 rfl)) (Or.inl (hwi hw 35 rfl)) (by decide) (t := (.array .boolean)) (t' := .int) (by decide) (by decide))))
    have f283 := ((((((((Ff.keep Kc242 (ninS ne_tb_xo nin0)).keep Kc246 (ninS ne_tb_xd nin0)).keep Kc251 (ninS ne_tb_xl nin0)).keep Kc256 (ninS ne_tb_xq nin0)).keep Kc261 (ninS ne_tb_xh nin0)).other W267 (Or.inl ne_tb_xo)).other W272 (Or.inl ne_tb_xh)).other W276 (Or.inr (slot_ne (Or.inl (hwi hw 37 rfl)) (Or.inl (hwi hw 35 rfl)) (by decide) (t := .int) (t' := .int) (by decide) (by decide))))
    have f284 := ((((((((Fz.keep Kc242 (ninS ne_tb_xo nin0)).keep Kc246 (ninS ne_tb_xd nin0)).keep Kc251 (ninS ne_tb_xl nin0)).keep Kc256 (ninS ne_tb_xq nin0)).keep Kc261 (ninS ne_tb_xh nin0)).other W267 (Or.inl ne_tb_xo)).other W272 (Or.inl ne_tb_xh)).other W276 (Or.inr (slot_ne (Or.inl (hwi hw 28 rfl)) (Or.inl (hwi hw 35 rfl)) (by decide) (t := .int) (t' := .int) (by decide) (by decide))))
    have f285 := ((V_xo_267.other W272 ne_xo_xh).other W276 (Ne.symm ne_tb_xo))
    have f286 := ((((((V_xd_246.keep Kc251 (ninS ne_xd_xl nin0)).keep Kc256 (ninS ne_xd_xq nin0)).keep Kc261 (ninS ne_xd_xh nin0)).other W267 (Ne.symm ne_xo_xd)).other W272 ne_xd_xh).other W276 (Ne.symm ne_tb_xd))
    have f287 := (((((V_xl_251.keep Kc256 (ninS ne_xl_xq nin0)).keep Kc261 (ninS ne_xl_xh nin0)).other W267 (Ne.symm ne_xo_xl)).other W272 ne_xl_xh).other W276 (Ne.symm ne_tb_xl))
    have f288 := ((((V_xq_256.keep Kc261 (ninS ne_xq_xh nin0)).other W267 (Ne.symm ne_xo_xq)).other W272 ne_xq_xh).other W276 (Ne.symm ne_tb_xq))
    have f289 := (V_xh_272.other W276 (Ne.symm ne_tb_xh))
    exact Run.retI X276 hx hret hlk (hb hby d10_143) (by first | (rw [e276]; exact ⟨rfl, N276, K276, f277, f278, f279, f280, f281, f282, f283, Fw276, f284, f285, f286, f287, f288, f289⟩) | exact ⟨rfl, N276, K276, f277, f278, f279, f280, f281, f282, f283, Fw276, f284, f285, f286, f287, f288, f289⟩) (by decide) (by decide)
  · skip
    exact absurd r1.1 s1.1
  · skip
    exact absurd s0.1 r0.1
  · skip
    exact absurd r0.2 s0.2
def own_bs12 (xk p0 p1 p2 : Int64) (r : Int32) : Prop := (r = (-3 : Int32) ∧ (¬ xk < p1 ∧ p1 < xk)) ∨ (r = (-2 : Int32) ∧ (xk < p1 ∧ ¬ p1 < xk)) ∨ (r = (1 : Int32) ∧ (¬ xk < p1 ∧ ¬ p1 < xk))
set_option maxRecDepth 65536 in
set_option maxHeartbeats 40000000 in
theorem rmRC_12 (l : Launch) (Z : State) (a0 : Array Value) (hw : ∀ d ∈ tables_1, d.before a0 Z = true)  (h0 : Heap) (n0 : Nat) (Z0 : n0 ≤ h0.size) :
    Con l (⟨"java/util/Arrays", "rangeCheck", "(III)V"⟩ : MethodName) jdk_65_method_30_code 3 none ({ frames := 0, cells := 0, slots := 0, locals := 0 } : Room) Z #[(.int (16 : Int32)), (.int (1 : Int32)), (.int (2 : Int32))] h0 (fun v h L => v = none ∧ Fr n0 L ∧ h = h0) := by
  refine Con.mk (plainFor_of_name pn_8) (fun m => show entryFrame m #[(.int (16 : Int32)), (.int (1 : Int32)), (.int (2 : Int32))] 3 = mkF m 0 #[.val (.int (16 : Int32)), .val (.int (1 : Int32)), .val (.int (2 : Int32))] [] by first | (simp [entryFrame, mkF, argsToLocals, Value.category]; done) | rfl) ?_
  intro p e s m below meth c s₁ hx hby hml hown hnm hret hlk hZ X0 e0
  have N0 := Fr.nil n0
  show Run p e below s _ _ _ (s₁.setTop (mkF m 0 #[.val (.int (16 : Int32)), .val (.int (1 : Int32)), .val (.int (2 : Int32))] []))
  refine Run.pre (fun _ k => XS.iloadN X0.here hx rfl (hb hby d8_0) rfl  k) ?_
  refine Run.pre (fun _ k => XS.iloadN X0.here hx rfl (hb hby d8_1) rfl  k) ?_
  refine Run.pre (fun _ k => XS.icmpYes X0.here hx rfl (pc0 := 2) (pc' := 46) rfl (hb hby d8_2) rfl (flt ((by decide) : ¬ ((2 : Int32) < (1 : Int32)))).2.2.2 (by decide) (by decide) k) ?_
  refine Run.pre (fun _ k => XS.iloadN X0.here hx rfl (hb hby d8_46) rfl  k) ?_
  refine Run.pre (fun _ k => XS.ifYes X0.here hx rfl (pc0 := 47) (pc' := 59) rfl (hb hby d8_47) rfl ((if0 _ _).trans (flt ((by decide) : ¬ ((1 : Int32) < (0 : Int32)))).2.1) (by decide) (by decide) k) ?_
  refine Run.pre (fun _ k => XS.iloadN X0.here hx rfl (hb hby d8_59) rfl  k) ?_
  show Run p e below s _ _ _ (s₁.setTop (mkF m 60 #[.val (.int (16 : Int32)), .val (.int (1 : Int32)), .val (.int (2 : Int32))] [(.int (2 : Int32))]))
  refine Run.pre (fun _ k => XS.iloadN X0.here hx rfl (hb hby d8_60) rfl  k) ?_
  refine Run.pre (fun _ k => XS.icmpYes X0.here hx rfl (pc0 := 61) (pc' := 73) rfl (hb hby d8_61) rfl (flt ((by decide) : ¬ ((16 : Int32) < (2 : Int32)))).2.2.2 (by decide) (by decide) k) ?_
  exact Run.retV X0 hx hret hlk (hb hby d8_73) (by first | (rw [e0]; exact ⟨rfl, N0, rfl⟩) | exact ⟨rfl, N0, rfl⟩) (by decide) (by decide)
set_option maxRecDepth 65536 in
set_option maxHeartbeats 40000000 in
theorem rmB0_12 (l : Launch) (Z : State) (a0 : Array Value) (hw : ∀ d ∈ tables_1, d.before a0 Z = true) (xo : Addr) (ko : ClassId) (p0 : Int64) (p1 : Int64) (p2 : Int64) (xk : Int64) (h0 : Heap) (n0 : Nat) (Z0 : n0 ≤ h0.size) (AO : Arv Z h0 xo ko .long 16 (own_LJ p0 p1 p2) (.long (0 : Int64))) :
    Con l (⟨"java/util/Arrays", "binarySearch0", "([JIIJ)I"⟩ : MethodName) jdk_65_method_56_code 10 (some .int) ({ frames := 0, cells := 0, slots := 0, locals := 0 } : Room) Z #[(.ref xo), (.int (1 : Int32)), (.int (2 : Int32)), (.long xk)] h0 (fun v h L => ∃ r : Int32, v = some (.int r) ∧ Fr n0 L ∧ h = h0 ∧ own_bs12 xk p0 p1 p2 r) := by
  refine Con.mk (plainFor_of_name pn_9) (fun m => show entryFrame m #[(.ref xo), (.int (1 : Int32)), (.int (2 : Int32)), (.long xk)] 10 = mkF m 0 #[.val (.ref xo), .val (.int (1 : Int32)), .val (.int (2 : Int32)), .val (.long xk), .second, .unset, .unset, .unset, .unset, .unset] [] by first | (simp [entryFrame, mkF, argsToLocals, Value.category]; done) | rfl) ?_
  intro p e s m below meth c s₁ hx hby hml hown hnm hret hlk hZ X0 e0
  have N0 := Fr.nil n0
  show Run p e below s _ _ _ (s₁.setTop (mkF m 0 #[.val (.ref xo), .val (.int (1 : Int32)), .val (.int (2 : Int32)), .val (.long xk), .second, .unset, .unset, .unset, .unset, .unset] []))
  refine Run.pre (fun _ k => XS.iloadN X0.here hx rfl (hb hby d9_0) rfl  k) ?_
  refine Run.pre (fun _ k => XS.istore X0.here hx rfl (hb hby d9_1) rfl (l' := #[.val (.ref xo), .val (.int (1 : Int32)), .val (.int (2 : Int32)), .val (.long xk), .second, .val (.int (1 : Int32)), .unset, .unset, .unset, .unset]) rfl k) ?_
  refine Run.pre (fun _ k => XS.iloadN X0.here hx rfl (hb hby d9_3) rfl  k) ?_
  refine Run.pre (fun _ k => XS.iconst X0.here hx rfl (hb hby d9_4) k) ?_
  refine Run.pre (fun _ k => XS.isub X0.here hx rfl (hb hby d9_5) rfl k) ?_
  refine Run.pre (fun _ k => XS.istore X0.here hx rfl (hb hby d9_6) rfl (l' := #[.val (.ref xo), .val (.int (1 : Int32)), .val (.int (2 : Int32)), .val (.long xk), .second, .val (.int (1 : Int32)), .val (.int (1 : Int32)), .unset, .unset, .unset]) rfl k) ?_
  show Run p e below s _ _ _ (s₁.setTop (mkF m 8 #[.val (.ref xo), .val (.int (1 : Int32)), .val (.int (2 : Int32)), .val (.long xk), .second, .val (.int (1 : Int32)), .val (.int (1 : Int32)), .unset, .unset, .unset] []))
  refine Run.pre (fun _ k => XS.iload X0.here hx rfl (hb hby d9_8) rfl  k) ?_
  refine Run.pre (fun _ k => XS.iload X0.here hx rfl (hb hby d9_10) rfl  k) ?_
  refine Run.pre (fun _ k => XS.icmpNo X0.here hx rfl (hb hby d9_12) rfl (flt ((by decide) : ¬ ((1 : Int32) < (1 : Int32)))).2.2.1 k) ?_
  refine Run.pre (fun _ k => XS.iload X0.here hx rfl (hb hby d9_15) rfl  k) ?_
  refine Run.pre (fun _ k => XS.iload X0.here hx rfl (hb hby d9_17) rfl  k) ?_
  refine Run.pre (fun _ k => XS.iadd X0.here hx rfl (hb hby d9_19) rfl k) ?_
  show Run p e below s _ _ _ (s₁.setTop (mkF m 20 #[.val (.ref xo), .val (.int (1 : Int32)), .val (.int (2 : Int32)), .val (.long xk), .second, .val (.int (1 : Int32)), .val (.int (1 : Int32)), .unset, .unset, .unset] [(.int (2 : Int32))]))
  refine Run.pre (fun _ k => XS.iconst X0.here hx rfl (hb hby d9_20) k) ?_
  refine Run.pre (fun _ k => XS.iushr X0.here hx rfl (hb hby d9_21) rfl k) ?_
  refine Run.pre (fun _ k => XS.istore X0.here hx rfl (hb hby d9_22) rfl (l' := #[.val (.ref xo), .val (.int (1 : Int32)), .val (.int (2 : Int32)), .val (.long xk), .second, .val (.int (1 : Int32)), .val (.int (1 : Int32)), .val (.int (1 : Int32)), .unset, .unset]) rfl k) ?_
  refine Run.pre (fun _ k => XS.aloadN X0.here hx rfl (hb hby d9_24) rfl rfl k) ?_
  refine Run.pre (fun _ k => XS.iload X0.here hx rfl (hb hby d9_25) rfl  k) ?_
  obtain ⟨c290, Ar290, -, S290, N290, H290, -⟩ := id AO
  have hin290 : ¬ ((1 : Int32) < 0 ∨ c290.slots.size ≤ ((1 : Int32)).toNatClampNeg) := inb_of S290 ⟨by decide, by decide⟩
  refine Run.pre (X0.laload hx (j := (1 : Int32)) (v := (.long p1)) (by rw [e0]; exact Ar290.1) (State.isArrayOf_alike hZ.alike Ar290.2.1) Ar290.2.2 hin290 (H290.at hin290 rfl) (g := (mkF m 27 #[.val (.ref xo), .val (.int (1 : Int32)), .val (.int (2 : Int32)), .val (.long xk), .second, .val (.int (1 : Int32)), .val (.int (1 : Int32)), .val (.int (1 : Int32)), .unset, .unset] [(.int (1 : Int32)), (.ref xo)])) rfl rfl (hb hby d9_27)) ?_
  show Run p e below s _ _ _ (s₁.setTop (mkF m 28 #[.val (.ref xo), .val (.int (1 : Int32)), .val (.int (2 : Int32)), .val (.long xk), .second, .val (.int (1 : Int32)), .val (.int (1 : Int32)), .val (.int (1 : Int32)), .unset, .unset] [(.long p1)]))
  refine Run.pre (fun _ k => XS.lstore X0.here hx rfl (hb hby d9_28) rfl (l' := #[.val (.ref xo), .val (.int (1 : Int32)), .val (.int (2 : Int32)), .val (.long xk), .second, .val (.int (1 : Int32)), .val (.int (1 : Int32)), .val (.int (1 : Int32)), .val (.long p1), .second]) rfl k) ?_
  refine Run.pre (fun _ k => XS.lload X0.here hx rfl (hb hby d9_30) rfl  k) ?_
  refine Run.pre (fun _ k => XS.lloadN X0.here hx rfl (hb hby d9_32) rfl  k) ?_
  refine Run.pre (fun _ k => XS.lcmp X0.here hx rfl (hb hby d9_33) rfl k) ?_
  by_cases hc291 : (lcmpW p1 xk) < (0 : Int32)
  · skip
    refine Run.pre (fun _ k => XS.ifNo X0.here hx rfl (hb hby d9_34) rfl ((if0 _ _).trans (tlt (hc291 : (lcmpW p1 xk) < (0 : Int32))).2.1) k) ?_
    refine Run.pre (fun _ k => XS.iload X0.here hx rfl (hb hby d9_37) rfl  k) ?_
    show Run p e below s _ _ _ (s₁.setTop (mkF m 39 #[.val (.ref xo), .val (.int (1 : Int32)), .val (.int (2 : Int32)), .val (.long xk), .second, .val (.int (1 : Int32)), .val (.int (1 : Int32)), .val (.int (1 : Int32)), .val (.long p1), .second] [(.int (1 : Int32))]))
    refine Run.pre (fun _ k => XS.iconst X0.here hx rfl (hb hby d9_39) k) ?_
    refine Run.pre (fun _ k => XS.iadd X0.here hx rfl (hb hby d9_40) rfl k) ?_
    refine Run.pre (fun _ k => XS.istore X0.here hx rfl (hb hby d9_41) rfl (l' := #[.val (.ref xo), .val (.int (1 : Int32)), .val (.int (2 : Int32)), .val (.long xk), .second, .val (.int (2 : Int32)), .val (.int (1 : Int32)), .val (.int (1 : Int32)), .val (.long p1), .second]) rfl k) ?_
    refine Run.pre (fun _ k => XS.goto X0.here hx rfl (pc0 := 43) (pc' := 65) rfl (hb hby d9_43) (by decide) (by decide) k) ?_
    refine Run.pre (fun _ k => XS.goto X0.here hx rfl (pc0 := 65) (pc' := 8) rfl (hb hby d9_65) (by decide) (by decide) k) ?_
    refine Run.pre (fun _ k => XS.iload X0.here hx rfl (hb hby d9_8) rfl  k) ?_
    show Run p e below s _ _ _ (s₁.setTop (mkF m 10 #[.val (.ref xo), .val (.int (1 : Int32)), .val (.int (2 : Int32)), .val (.long xk), .second, .val (.int (2 : Int32)), .val (.int (1 : Int32)), .val (.int (1 : Int32)), .val (.long p1), .second] [(.int (2 : Int32))]))
    refine Run.pre (fun _ k => XS.iload X0.here hx rfl (hb hby d9_10) rfl  k) ?_
    refine Run.pre (fun _ k => XS.icmpYes X0.here hx rfl (pc0 := 12) (pc' := 68) rfl (hb hby d9_12) rfl (tlt ((by decide) : (1 : Int32) < (2 : Int32))).2.2.1 (by decide) (by decide) k) ?_
    refine Run.pre (fun _ k => XS.iload X0.here hx rfl (hb hby d9_68) rfl  k) ?_
    refine Run.pre (fun _ k => XS.iconst X0.here hx rfl (hb hby d9_70) k) ?_
    refine Run.pre (fun _ k => XS.iadd X0.here hx rfl (hb hby d9_71) rfl k) ?_
    refine Run.pre (fun _ k => XS.ineg X0.here hx rfl (hb hby d9_72) rfl k) ?_
    show Run p e below s _ _ _ (s₁.setTop (mkF m 73 #[.val (.ref xo), .val (.int (1 : Int32)), .val (.int (2 : Int32)), .val (.long xk), .second, .val (.int (2 : Int32)), .val (.int (1 : Int32)), .val (.int (1 : Int32)), .val (.long p1), .second] [(.int (-3 : Int32))]))
    exact Run.retI X0 hx hret hlk (hb hby d9_73) (by first | (rw [e0]; exact ⟨_, rfl, N0, rfl, Or.inl ⟨rfl, own_rG hc291⟩⟩) | exact ⟨_, rfl, N0, rfl, Or.inl ⟨rfl, own_rG hc291⟩⟩) (by decide) (by decide)
  · skip
    refine Run.pre (fun _ k => XS.ifYes X0.here hx rfl (pc0 := 34) (pc' := 46) rfl (hb hby d9_34) rfl ((if0 _ _).trans (flt (hc291 : ¬ ((lcmpW p1 xk) < (0 : Int32)))).2.1) (by decide) (by decide) k) ?_
    refine Run.pre (fun _ k => XS.lload X0.here hx rfl (hb hby d9_46) rfl  k) ?_
    show Run p e below s _ _ _ (s₁.setTop (mkF m 48 #[.val (.ref xo), .val (.int (1 : Int32)), .val (.int (2 : Int32)), .val (.long xk), .second, .val (.int (1 : Int32)), .val (.int (1 : Int32)), .val (.int (1 : Int32)), .val (.long p1), .second] [(.long p1)]))
    refine Run.pre (fun _ k => XS.lloadN X0.here hx rfl (hb hby d9_48) rfl  k) ?_
    refine Run.pre (fun _ k => XS.lcmp X0.here hx rfl (hb hby d9_49) rfl k) ?_
    by_cases hc292 : (0 : Int32) < (lcmpW p1 xk)
    · skip
      refine Run.pre (fun _ k => XS.ifNo X0.here hx rfl (hb hby d9_50) rfl ((if0 _ _).trans (tlt (hc292 : (0 : Int32) < (lcmpW p1 xk))).2.2.2) k) ?_
      refine Run.pre (fun _ k => XS.iload X0.here hx rfl (hb hby d9_53) rfl  k) ?_
      refine Run.pre (fun _ k => XS.iconst X0.here hx rfl (hb hby d9_55) k) ?_
      refine Run.pre (fun _ k => XS.isub X0.here hx rfl (hb hby d9_56) rfl k) ?_
      show Run p e below s _ _ _ (s₁.setTop (mkF m 57 #[.val (.ref xo), .val (.int (1 : Int32)), .val (.int (2 : Int32)), .val (.long xk), .second, .val (.int (1 : Int32)), .val (.int (1 : Int32)), .val (.int (1 : Int32)), .val (.long p1), .second] [(.int (0 : Int32))]))
      refine Run.pre (fun _ k => XS.istore X0.here hx rfl (hb hby d9_57) rfl (l' := #[.val (.ref xo), .val (.int (1 : Int32)), .val (.int (2 : Int32)), .val (.long xk), .second, .val (.int (1 : Int32)), .val (.int (0 : Int32)), .val (.int (1 : Int32)), .val (.long p1), .second]) rfl k) ?_
      refine Run.pre (fun _ k => XS.goto X0.here hx rfl (pc0 := 59) (pc' := 65) rfl (hb hby d9_59) (by decide) (by decide) k) ?_
      refine Run.pre (fun _ k => XS.goto X0.here hx rfl (pc0 := 65) (pc' := 8) rfl (hb hby d9_65) (by decide) (by decide) k) ?_
      refine Run.pre (fun _ k => XS.iload X0.here hx rfl (hb hby d9_8) rfl  k) ?_
      refine Run.pre (fun _ k => XS.iload X0.here hx rfl (hb hby d9_10) rfl  k) ?_
      refine Run.pre (fun _ k => XS.icmpYes X0.here hx rfl (pc0 := 12) (pc' := 68) rfl (hb hby d9_12) rfl (tlt ((by decide) : (0 : Int32) < (1 : Int32))).2.2.1 (by decide) (by decide) k) ?_
      show Run p e below s _ _ _ (s₁.setTop (mkF m 68 #[.val (.ref xo), .val (.int (1 : Int32)), .val (.int (2 : Int32)), .val (.long xk), .second, .val (.int (1 : Int32)), .val (.int (0 : Int32)), .val (.int (1 : Int32)), .val (.long p1), .second] []))
      refine Run.pre (fun _ k => XS.iload X0.here hx rfl (hb hby d9_68) rfl  k) ?_
      refine Run.pre (fun _ k => XS.iconst X0.here hx rfl (hb hby d9_70) k) ?_
      refine Run.pre (fun _ k => XS.iadd X0.here hx rfl (hb hby d9_71) rfl k) ?_
      refine Run.pre (fun _ k => XS.ineg X0.here hx rfl (hb hby d9_72) rfl k) ?_
      exact Run.retI X0 hx hret hlk (hb hby d9_73) (by first | (rw [e0]; exact ⟨_, rfl, N0, rfl, Or.inr (Or.inl ⟨rfl, own_rL hc292⟩)⟩) | exact ⟨_, rfl, N0, rfl, Or.inr (Or.inl ⟨rfl, own_rL hc292⟩)⟩) (by decide) (by decide)
    · skip
      refine Run.pre (fun _ k => XS.ifYes X0.here hx rfl (pc0 := 50) (pc' := 62) rfl (hb hby d9_50) rfl ((if0 _ _).trans (flt (hc292 : ¬ ((0 : Int32) < (lcmpW p1 xk)))).2.2.2) (by decide) (by decide) k) ?_
      refine Run.pre (fun _ k => XS.iload X0.here hx rfl (hb hby d9_62) rfl  k) ?_
      exact Run.retI X0 hx hret hlk (hb hby d9_64) (by first | (rw [e0]; exact ⟨_, rfl, N0, rfl, Or.inr (Or.inr (⟨rfl, own_rE hc291 hc292⟩))⟩) | exact ⟨_, rfl, N0, rfl, Or.inr (Or.inr (⟨rfl, own_rE hc291 hc292⟩))⟩) (by decide) (by decide)
set_option maxRecDepth 65536 in
set_option maxHeartbeats 40000000 in
theorem rmB_12 (l : Launch) (Z : State) (a0 : Array Value) (hw : ∀ d ∈ tables_1, d.before a0 Z = true) (xo : Addr) (ko : ClassId) (p0 : Int64) (p1 : Int64) (p2 : Int64) (xk : Int64) (h0 : Heap) (n0 : Nat) (Z0 : n0 ≤ h0.size) (AO : Arv Z h0 xo ko .long 16 (own_LJ p0 p1 p2) (.long (0 : Int64))) :
    Con l (⟨"java/util/Arrays", "binarySearch", "([JIIJ)I"⟩ : MethodName) jdk_65_method_55_code 5 (some .int) ({ frames := 1, cells := 0, slots := 0, locals := 21 } : Room) Z #[(.ref xo), (.int (1 : Int32)), (.int (2 : Int32)), (.long xk)] h0 (fun v h L => ∃ r : Int32, v = some (.int r) ∧ Fr n0 L ∧ h = h0 ∧ own_bs12 xk p0 p1 p2 r) := by
  refine Con.mk (plainFor_of_name pn_7) (fun m => show entryFrame m #[(.ref xo), (.int (1 : Int32)), (.int (2 : Int32)), (.long xk)] 5 = mkF m 0 #[.val (.ref xo), .val (.int (1 : Int32)), .val (.int (2 : Int32)), .val (.long xk), .second] [] by first | (simp [entryFrame, mkF, argsToLocals, Value.category]; done) | rfl) ?_
  intro p e s m below meth c s₁ hx hby hml hown hnm hret hlk hZ X0 e0
  have N0 := Fr.nil n0
  show Run p e below s _ _ _ (s₁.setTop (mkF m 0 #[.val (.ref xo), .val (.int (1 : Int32)), .val (.int (2 : Int32)), .val (.long xk), .second] []))
  refine Run.pre (fun _ k => XS.aloadN X0.here hx rfl (hb hby d7_0) rfl rfl k) ?_
  obtain ⟨c293, Ar293, -, S293, N293, -, -⟩ := id AO
  refine Run.pre (X0.arraylength hx (by rw [e0]; exact Ar293.1) (State.isArrayOf_alike hZ.alike Ar293.2.1) (g := (mkF m 1 #[.val (.ref xo), .val (.int (1 : Int32)), .val (.int (2 : Int32)), .val (.long xk), .second] [(.ref xo)])) rfl rfl (hb hby d7_1)) ?_
  rw [len_of S293 N293]
  refine Run.pre (fun _ k => XS.iloadN X0.here hx rfl (hb hby d7_2) rfl  k) ?_
  refine Run.pre (fun _ k => XS.iloadN X0.here hx rfl (hb hby d7_3) rfl  k) ?_
  refine Run.callS X0 hx hZ (y := (⟨"java/util/Arrays", "rangeCheck", "(III)V"⟩ : MethodName)) hown (hwi hw 50 rfl) (hwi hw 51 rfl) (hwi hw 48 rfl) (hwi hw 52 rfl) (by decide) (W := 0) (rmRC_12 l Z a0 hw h0 n0 (Nat.le_trans Z0 (Keep.refl h0 []).1)) e0 (by decide) (by decide) (by decide) (by decide) (g := (mkF m 4 #[.val (.ref xo), .val (.int (1 : Int32)), .val (.int (2 : Int32)), .val (.long xk), .second] [(.int (2 : Int32)), (.int (1 : Int32)), (.int (16 : Int32))])) rfl (by rw [hml]; rfl) (argsL := [(.int (16 : Int32)), (.int (1 : Int32)), (.int (2 : Int32))]) (rest := []) (lenOf pd_0 rfl) rfl (by show 2 * 0 + _ ≤ _; exact Nat.le_of_eq rfl) (hb hby d7_4) ?_
  intro v294 T294 L294 X294 hQ294
  obtain ⟨rfl, Nq294, he294⟩ := hQ294
  have N294 := Fr.app N0 Nq294
  have e294 : T294.heap = h0 := he294
  refine Run.pre (fun _ k => XS.aloadN X294.here hx rfl (hb hby d7_7) rfl rfl k) ?_
  show Run p e below s _ _ _ (T294.setTop (mkF m 8 #[.val (.ref xo), .val (.int (1 : Int32)), .val (.int (2 : Int32)), .val (.long xk), .second] [(.ref xo)]))
  refine Run.pre (fun _ k => XS.iloadN X294.here hx rfl (hb hby d7_8) rfl  k) ?_
  refine Run.pre (fun _ k => XS.iloadN X294.here hx rfl (hb hby d7_9) rfl  k) ?_
  refine Run.pre (fun _ k => XS.lloadN X294.here hx rfl (hb hby d7_10) rfl  k) ?_
  refine Run.callS X294 hx hZ (y := (⟨"java/util/Arrays", "binarySearch0", "([JIIJ)I"⟩ : MethodName)) hown (hwi hw 53 rfl) (hwi hw 54 rfl) (hwi hw 48 rfl) (hwi hw 55 rfl) (by decide) (W := 0) (rmB0_12 l Z a0 hw xo ko p0 p1 p2 xk h0 n0 (Nat.le_trans Z0 (Keep.refl h0 []).1) AO) e294 (by decide) (by decide) (by decide) (by decide) (g := (mkF m 11 #[.val (.ref xo), .val (.int (1 : Int32)), .val (.int (2 : Int32)), .val (.long xk), .second] [(.long xk), (.int (2 : Int32)), (.int (1 : Int32)), (.ref xo)])) rfl (by rw [hml]; rfl) (argsL := [(.ref xo), (.int (1 : Int32)), (.int (2 : Int32)), (.long xk)]) (rest := []) (lenOf pd_1 rfl) rfl (by show 2 * 0 + _ ≤ _; exact Nat.le_of_eq rfl) (hb hby d7_11) ?_
  intro v295 T295 L295 X295 hQ295
  obtain ⟨r295, rfl, Nq295, he295, sp295⟩ := hQ295
  have N295 := Fr.app N294 Nq295
  have e295 : T295.heap = h0 := he295
  exact Run.retI X295 hx hret hlk (hb hby d7_14) (by first | (rw [e295]; exact ⟨r295, rfl, N295, rfl, sp295⟩) | exact ⟨r295, rfl, N295, rfl, sp295⟩) (by decide) (by decide)
set_option maxRecDepth 65536 in
set_option maxHeartbeats 40000000 in
theorem rmS_12 (l : Launch) (Z : State) (a0 : Array Value) (hw : ∀ d ∈ tables_1, d.before a0 Z = true) (tb : Addr) (xo : Addr) (ko : ClassId) (p0 : Int64) (p1 : Int64) (p2 : Int64) (xk : Int64) (h0 : Heap) (n0 : Nat) (Z0 : n0 ≤ h0.size) (E_tb : Exa Z h0 tb "com/example/manana/manana/storage/WaitingTable") (FO : Fld Z h0 tb "com/example/manana/manana/storage/WaitingTable" "offsets" "[J" (.ref xo)) (Ff : Fld Z h0 tb "com/example/manana/manana/storage/WaitingTable" "first" "I" (.int 1)) (Fe : Fld Z h0 tb "com/example/manana/manana/storage/WaitingTable" "end" "I" (.int 2)) (AO : Arv Z h0 xo ko .long 16 (own_LJ p0 p1 p2) (.long (0 : Int64))) :
    Con l (⟨"com/example/manana/manana/storage/WaitingTable", "slotOf", "(J)I"⟩ : MethodName) prog_84_method_11_code 3 (some .int) ({ frames := 2, cells := 0, slots := 0, locals := 37 } : Room) Z #[(.ref tb), (.long xk)] h0 (fun v h L => ∃ r : Int32, v = some (.int r) ∧ Fr n0 L ∧ h = h0 ∧ own_bs12 xk p0 p1 p2 r) := by
  refine Con.mk (plainFor_of_name pn_6) (fun m => show entryFrame m #[(.ref tb), (.long xk)] 3 = mkF m 0 #[.val (.ref tb), .val (.long xk), .second] [] by first | (simp [entryFrame, mkF, argsToLocals, Value.category]; done) | rfl) ?_
  intro p e s m below meth c s₁ hx hby hml hown hnm hret hlk hZ X0 e0
  have N0 := Fr.nil n0
  show Run p e below s _ _ _ (s₁.setTop (mkF m 0 #[.val (.ref tb), .val (.long xk), .second] []))
  refine Run.pre (fun _ k => XS.aloadN X0.here hx rfl (hb hby d6_0) rfl rfl k) ?_
  obtain ⟨T296, X296, e296, st296⟩ := getF X0 hx hZ hown (host := "") (Or.inl (hwi hw 10 rfl)) Via.refl e0 FO (g := (mkF m 1 #[.val (.ref tb), .val (.long xk), .second] [(.ref tb)])) rfl rfl (hb hby d6_1)
  refine Run.pre st296 ?_
  refine Run.pre (fun _ k => XS.aloadN X296.here hx rfl (hb hby d6_4) rfl rfl k) ?_
  obtain ⟨T297, X297, e297, st297⟩ := getF X296 hx hZ hown (host := "") (Or.inl (hwi hw 36 rfl)) Via.refl e296 Ff (g := (mkF m 5 #[.val (.ref tb), .val (.long xk), .second] [(.ref tb), (.ref xo)])) rfl rfl (hb hby d6_5)
  refine Run.pre st297 ?_
  refine Run.pre (fun _ k => XS.aloadN X297.here hx rfl (hb hby d6_8) rfl rfl k) ?_
  obtain ⟨T298, X298, e298, st298⟩ := getF X297 hx hZ hown (host := "") (Or.inl (hwi hw 34 rfl)) Via.refl e297 Fe (g := (mkF m 9 #[.val (.ref tb), .val (.long xk), .second] [(.ref tb), (.int (1 : Int32)), (.ref xo)])) rfl rfl (hb hby d6_9)
  refine Run.pre st298 ?_
  show Run p e below s _ _ _ (T298.setTop (mkF m 12 #[.val (.ref tb), .val (.long xk), .second] [(.int (2 : Int32)), (.int (1 : Int32)), (.ref xo)]))
  refine Run.pre (fun _ k => XS.lloadN X298.here hx rfl (hb hby d6_12) rfl  k) ?_
  refine Run.callS X298 hx hZ (y := (⟨"java/util/Arrays", "binarySearch", "([JIIJ)I"⟩ : MethodName)) hown (hwi hw 46 rfl) (hwi hw 47 rfl) (hwi hw 48 rfl) (hwi hw 49 rfl) (by decide) (W := 0) (rmB_12 l Z a0 hw xo ko p0 p1 p2 xk h0 n0 (Nat.le_trans Z0 (Keep.refl h0 []).1) AO) e298 (by decide) (by decide) (by decide) (by decide) (g := (mkF m 13 #[.val (.ref tb), .val (.long xk), .second] [(.long xk), (.int (2 : Int32)), (.int (1 : Int32)), (.ref xo)])) rfl (by rw [hml]; rfl) (argsL := [(.ref xo), (.int (1 : Int32)), (.int (2 : Int32)), (.long xk)]) (rest := []) (lenOf pd_1 rfl) rfl (by show 2 * 0 + _ ≤ _; exact Nat.le_of_eq rfl) (hb hby d6_13) ?_
  intro v299 T299 L299 X299 hQ299
  obtain ⟨r299, rfl, Nq299, he299, sp299⟩ := hQ299
  have N299 := Fr.app N0 Nq299
  have e299 : T299.heap = h0 := he299
  exact Run.retI X299 hx hret hlk (hb hby d6_16) (by first | (rw [e299]; exact ⟨r299, rfl, N299, rfl, sp299⟩) | exact ⟨r299, rfl, N299, rfl, sp299⟩) (by decide) (by decide)
set_option maxRecDepth 65536 in
set_option maxHeartbeats 40000000 in
theorem rmIn_12_1 (l : Launch) (Z : State) (a0 : Array Value) (hw : ∀ d ∈ tables_1, d.before a0 Z = true) (tb : Addr) (xo : Addr) (xd : Addr) (xl : Addr) (xq : Addr) (xh : Addr) (ko : ClassId) (kd : ClassId) (kl : ClassId) (kq : ClassId) (kh : ClassId) (p0 : Int64) (p1 : Int64) (p2 : Int64) (d0 : Int64) (d1 : Int64) (d2 : Int64) (l0 : Int32) (l1 : Int32) (l2 : Int32) (q0 : Int32) (q1 : Int32) (q2 : Int32) (b0 : Int32) (b1 : Int32) (b2 : Int32) (si : Int32) (xk : Int64) (h0 : Heap) (n0 : Nat) (Z0 : n0 ≤ h0.size) (E_tb : Exa Z h0 tb "com/example/manana/manana/storage/WaitingTable") (FR0 : Fld Z h0 tb "com/example/manana/manana/storage/WaitingTable" "offsets" "[J" (.ref xo)) (FR1 : Fld Z h0 tb "com/example/manana/manana/storage/WaitingTable" "dues" "[J" (.ref xd)) (FR2 : Fld Z h0 tb "com/example/manana/manana/storage/WaitingTable" "lengths" "[I" (.ref xl)) (FR3 : Fld Z h0 tb "com/example/manana/manana/storage/WaitingTable" "queues" "[I" (.ref xq)) (FR4 : Fld Z h0 tb "com/example/manana/manana/storage/WaitingTable" "held" "[Z" (.ref xh)) (Ff : Fld Z h0 tb "com/example/manana/manana/storage/WaitingTable" "first" "I" (.int (1 : Int32))) (Fe : Fld Z h0 tb "com/example/manana/manana/storage/WaitingTable" "end" "I" (.int (2 : Int32))) (Fz : Fld Z h0 tb "com/example/manana/manana/storage/WaitingTable" "size" "I" (.int si)) (AR0 : Arv Z h0 xo ko .long 16 (own_LJ p0 p1 p2) (.long (0 : Int64))) (AR1 : Arv Z h0 xd kd .long 16 (own_LJ d0 d1 d2) (.long (0 : Int64))) (AR2 : Arv Z h0 xl kl .int 16 (own_LI l0 l1 l2) (.int (0 : Int32))) (AR3 : Arv Z h0 xq kq .int 16 (own_LI q0 q1 q2) (.int (0 : Int32))) (AR4 : Arv Z h0 xh kh .boolean 16 (own_LI b0 b1 b2) (.int (0 : Int32))) (hD : own_D tb xo xd xl xq xh) (g_tb : n0 ≤ tb) (g_xo : n0 ≤ xo) (g_xd : n0 ≤ xd) (g_xl : n0 ≤ xl) (g_xq : n0 ≤ xq) (g_xh : n0 ≤ xh) (r1 : (xk < p1 ∧ ¬ p1 < xk)) :
    Con l (⟨"com/example/manana/manana/storage/WaitingTable", "insert", "(J)I"⟩ : MethodName) prog_84_method_12_code 5 (some .int) ({ frames := 3, cells := 0, slots := 0, locals := 51 } : Room) Z #[(.ref tb), (.long xk)] h0 (fun v h L => v = some (.int 1) ∧ Fr n0 L ∧ Keep h0 h [tb, xo, xd, xl, xq, xh] ∧ Exa Z h tb "com/example/manana/manana/storage/WaitingTable" ∧ Fld Z h tb "com/example/manana/manana/storage/WaitingTable" "offsets" "[J" (.ref xo) ∧ Fld Z h tb "com/example/manana/manana/storage/WaitingTable" "dues" "[J" (.ref xd) ∧ Fld Z h tb "com/example/manana/manana/storage/WaitingTable" "lengths" "[I" (.ref xl) ∧ Fld Z h tb "com/example/manana/manana/storage/WaitingTable" "queues" "[I" (.ref xq) ∧ Fld Z h tb "com/example/manana/manana/storage/WaitingTable" "held" "[Z" (.ref xh) ∧ Fld Z h tb "com/example/manana/manana/storage/WaitingTable" "first" "I" (.int (1 : Int32)) ∧ Fld Z h tb "com/example/manana/manana/storage/WaitingTable" "end" "I" (.int (3 : Int32)) ∧ Fld Z h tb "com/example/manana/manana/storage/WaitingTable" "size" "I" (.int si) ∧ Arv Z h xo ko .long 16 (own_LJ p0 xk p1) (.long (0 : Int64)) ∧ Arv Z h xd kd .long 16 (own_LJ d0 d1 d1) (.long (0 : Int64)) ∧ Arv Z h xl kl .int 16 (own_LI l0 l1 l1) (.int (0 : Int32)) ∧ Arv Z h xq kq .int 16 (own_LI q0 q1 q1) (.int (0 : Int32)) ∧ Arv Z h xh kh .boolean 16 (own_LI b0 (nar .boolean (0 : Int32)) b1) (.int (0 : Int32))) := by
  refine Con.mk (plainFor_of_name pn_10) (fun m => show entryFrame m #[(.ref tb), (.long xk)] 5 = mkF m 0 #[.val (.ref tb), .val (.long xk), .second, .unset, .unset] [] by first | (simp [entryFrame, mkF, argsToLocals, Value.category]; done) | rfl) ?_
  intro p e s m below meth c s₁ hx hby hml hown hnm hret hlk hZ X0 e0
  have N0 := Fr.nil n0
  obtain ⟨ne_tb_xo, ne_tb_xd, ne_tb_xl, ne_tb_xq, ne_tb_xh, ne_xo_xd, ne_xo_xl, ne_xo_xq, ne_xo_xh, ne_xd_xl, ne_xd_xq, ne_xd_xh, ne_xl_xq, ne_xl_xh, ne_xq_xh⟩ := id hD
  show Run p e below s _ _ _ (s₁.setTop (mkF m 0 #[.val (.ref tb), .val (.long xk), .second, .unset, .unset] []))
  refine Run.pre (fun _ k => XS.aloadN X0.here hx rfl (hb hby d10_0) rfl rfl k) ?_
  obtain ⟨T300, X300, e300, st300⟩ := getF X0 hx hZ hown (host := "") (Or.inl (hwi hw 34 rfl)) Via.refl e0 Fe (g := (mkF m 1 #[.val (.ref tb), .val (.long xk), .second, .unset, .unset] [(.ref tb)])) rfl rfl (hb hby d10_1)
  refine Run.pre st300 ?_
  refine Run.pre (fun _ k => XS.aloadN X300.here hx rfl (hb hby d10_4) rfl rfl k) ?_
  obtain ⟨T301, X301, e301, st301⟩ := getF X300 hx hZ hown (host := "") (Or.inl (hwi hw 10 rfl)) Via.refl e300 FR0 (g := (mkF m 5 #[.val (.ref tb), .val (.long xk), .second, .unset, .unset] [(.ref tb), (.int (2 : Int32))])) rfl rfl (hb hby d10_5)
  refine Run.pre st301 ?_
  obtain ⟨c302, Ar302, -, S302, N302, -, -⟩ := id AR0
  refine Run.pre (X301.arraylength hx (by rw [e301]; exact Ar302.1) (State.isArrayOf_alike hZ.alike Ar302.2.1) (g := (mkF m 8 #[.val (.ref tb), .val (.long xk), .second, .unset, .unset] [(.ref xo), (.int (2 : Int32))])) rfl rfl (hb hby d10_8)) ?_
  rw [len_of S302 N302]
  refine Run.pre (fun _ k => XS.icmpYes X301.here hx rfl (pc0 := 9) (pc' := 16) rfl (hb hby d10_9) rfl (feq ((by decide) : ¬ ((2 : Int32) = (16 : Int32)))).2 (by decide) (by decide) k) ?_
  show Run p e below s _ _ _ (T301.setTop (mkF m 16 #[.val (.ref tb), .val (.long xk), .second, .unset, .unset] []))
  refine Run.pre (fun _ k => XS.aloadN X301.here hx rfl (hb hby d10_16) rfl rfl k) ?_
  refine Run.pre (fun _ k => XS.lloadN X301.here hx rfl (hb hby d10_17) rfl  k) ?_
  refine Run.callP X301 hx hZ (y := (⟨"com/example/manana/manana/storage/WaitingTable", "slotOf", "(J)I"⟩ : MethodName)) hown (hwi hw 42 rfl) (hwi hw 43 rfl) (own_selP (y := (⟨"com/example/manana/manana/storage/WaitingTable", "slotOf", "(J)I"⟩ : MethodName)) (z := (⟨"com/example/manana/manana/storage/WaitingTable", "lowest", "(J)J"⟩ : MethodName)) (hwi hw 43 rfl) (hwi hw 44 rfl) (hwi hw 25 rfl) rfl (by decide)) (hwi hw 44 rfl) (hwi hw 45 rfl) (hwi hw 2 rfl) (by decide) (a := tb) E_tb (W := 0) (rmS_12 l Z a0 hw tb xo ko p0 p1 p2 xk h0 n0 (Nat.le_trans Z0 (Keep.refl h0 [tb, xo, xd, xl, xq, xh]).1) E_tb FR0 Ff Fe AR0) e301 (by decide) (by decide) (by decide) (by decide) (g := (mkF m 18 #[.val (.ref tb), .val (.long xk), .second, .unset, .unset] [(.long xk), (.ref tb)])) rfl (by rw [hml]; rfl) (argsL := [(.long xk)]) (rest := []) (lenOf pd_2 rfl) rfl (by show 2 * 0 + _ ≤ _; exact Nat.le_of_eq rfl) (hb hby d10_18) ?_
  intro v303 T303 L303 X303 hQ303
  obtain ⟨r303, rfl, Nq303, he303, sp303⟩ := hQ303
  have N303 := Fr.app N0 Nq303
  have e303 : T303.heap = h0 := he303
  show Run p e below s _ _ _ (T303.setTop (mkF m 21 #[.val (.ref tb), .val (.long xk), .second, .unset, .unset] [(.int r303)]))
  rcases sp303 with ⟨rfl, s1⟩ | ⟨rfl, s1⟩ | ⟨rfl, s1⟩
  · skip
    exact absurd r1.1 s1.1
  · skip
    refine Run.pre (fun _ k => XS.ineg X303.here hx rfl (hb hby d10_21) rfl k) ?_
    refine Run.pre (fun _ k => XS.iconst X303.here hx rfl (hb hby d10_22) k) ?_
    refine Run.pre (fun _ k => XS.isub X303.here hx rfl (hb hby d10_23) rfl k) ?_
    show Run p e below s _ _ _ (T303.setTop (mkF m 24 #[.val (.ref tb), .val (.long xk), .second, .unset, .unset] [(.int (1 : Int32))]))
    refine Run.pre (fun _ k => XS.istoreN X303.here hx rfl (hb hby d10_24) rfl (l' := #[.val (.ref tb), .val (.long xk), .second, .val (.int (1 : Int32)), .unset]) rfl k) ?_
    refine Run.pre (fun _ k => XS.aloadN X303.here hx rfl (hb hby d10_25) rfl rfl k) ?_
    obtain ⟨T304, X304, e304, st304⟩ := getF X303 hx hZ hown (host := "") (Or.inl (hwi hw 34 rfl)) Via.refl e303 Fe (g := (mkF m 26 #[.val (.ref tb), .val (.long xk), .second, .val (.int (1 : Int32)), .unset] [(.ref tb)])) rfl rfl (hb hby d10_26)
    refine Run.pre st304 ?_
    refine Run.pre (fun _ k => XS.iloadN X304.here hx rfl (hb hby d10_29) rfl  k) ?_
    refine Run.pre (fun _ k => XS.isub X304.here hx rfl (hb hby d10_30) rfl k) ?_
    refine Run.pre (fun _ k => XS.istore X304.here hx rfl (hb hby d10_31) rfl (l' := #[.val (.ref tb), .val (.long xk), .second, .val (.int (1 : Int32)), .val (.int (1 : Int32))]) rfl k) ?_
    show Run p e below s _ _ _ (T304.setTop (mkF m 33 #[.val (.ref tb), .val (.long xk), .second, .val (.int (1 : Int32)), .val (.int (1 : Int32))] []))
    refine Run.pre (fun _ k => XS.aloadN X304.here hx rfl (hb hby d10_33) rfl rfl k) ?_
    obtain ⟨T305, X305, e305, st305⟩ := getF X304 hx hZ hown (host := "") (Or.inl (hwi hw 10 rfl)) Via.refl e304 FR0 (g := (mkF m 34 #[.val (.ref tb), .val (.long xk), .second, .val (.int (1 : Int32)), .val (.int (1 : Int32))] [(.ref tb)])) rfl rfl (hb hby d10_34)
    refine Run.pre st305 ?_
    refine Run.pre (fun _ k => XS.iloadN X305.here hx rfl (hb hby d10_37) rfl  k) ?_
    refine Run.pre (fun _ k => XS.aloadN X305.here hx rfl (hb hby d10_38) rfl rfl k) ?_
    obtain ⟨T306, X306, e306, st306⟩ := getF X305 hx hZ hown (host := "") (Or.inl (hwi hw 10 rfl)) Via.refl e305 FR0 (g := (mkF m 39 #[.val (.ref tb), .val (.long xk), .second, .val (.int (1 : Int32)), .val (.int (1 : Int32))] [(.ref tb), (.int (1 : Int32)), (.ref xo)])) rfl rfl (hb hby d10_39)
    refine Run.pre st306 ?_
    refine Run.pre (fun _ k => XS.iloadN X306.here hx rfl (hb hby d10_42) rfl  k) ?_
    show Run p e below s _ _ _ (T306.setTop (mkF m 43 #[.val (.ref tb), .val (.long xk), .second, .val (.int (1 : Int32)), .val (.int (1 : Int32))] [(.int (1 : Int32)), (.ref xo), (.int (1 : Int32)), (.ref xo)]))
    refine Run.pre (fun _ k => XS.iconst X306.here hx rfl (hb hby d10_43) k) ?_
    refine Run.pre (fun _ k => XS.iadd X306.here hx rfl (hb hby d10_44) rfl k) ?_
    refine Run.pre (fun _ k => XS.iload X306.here hx rfl (hb hby d10_45) rfl  k) ?_
    obtain ⟨T307, h307, L307, X307, e307, N307, Kc307, V307, st307⟩ := cpA X306 hx hZ hown (hwi hw 60 rfl) (hwi hw 63 rfl) (hwi hw 61 rfl) (hwi hw 62 rfl) e306 AR0 AR0 (Or.inl ⟨rfl, rfl⟩) (by decide) (by decide) (by decide) (by decide) (by decide) rfl (Nat.le_of_ble_eq_true rfl) N303 g_xo (g := (mkF m 47 #[.val (.ref tb), .val (.long xk), .second, .val (.int (1 : Int32)), .val (.int (1 : Int32))] [(.int (1 : Int32)), (.int (2 : Int32)), (.ref xo), (.int (1 : Int32)), (.ref xo)])) rfl (by rw [hml]; rfl) rfl (hb hby d10_47) (by decide) (W := 0) (by show 2 * 0 + _ ≤ _; exact Nat.le_of_eq rfl) (by decide)
    refine Run.pre st307 ?_
    have K307 : Keep h0 h307 [tb, xo, xd, xl, xq, xh] := (Keep.refl h0 [tb, xo, xd, xl, xq, xh]).trans Kc307 (allS (Or.inl (by simp)) all0)
    have V_xo_307 : Arv Z h307 xo ko .long (16 : Int32) (own_LJ p0 p1 p1) (.long (0 : Int64)) := V307
    refine Run.pre (fun _ k => XS.aloadN X307.here hx rfl (hb hby d10_50) rfl rfl k) ?_
    have f308 := (FR1.keep Kc307 (ninS ne_tb_xo nin0))
    obtain ⟨T309, X309, e309, st309⟩ := getF X307 hx hZ hown (host := "") (Or.inl (hwi hw 12 rfl)) Via.refl e307 f308 (g := (mkF m 51 #[.val (.ref tb), .val (.long xk), .second, .val (.int (1 : Int32)), .val (.int (1 : Int32))] [(.ref tb)])) rfl rfl (hb hby d10_51)
    refine Run.pre st309 ?_
    show Run p e below s _ _ _ (T309.setTop (mkF m 54 #[.val (.ref tb), .val (.long xk), .second, .val (.int (1 : Int32)), .val (.int (1 : Int32))] [(.ref xd)]))
    refine Run.pre (fun _ k => XS.iloadN X309.here hx rfl (hb hby d10_54) rfl  k) ?_
    refine Run.pre (fun _ k => XS.aloadN X309.here hx rfl (hb hby d10_55) rfl rfl k) ?_
    obtain ⟨T310, X310, e310, st310⟩ := getF X309 hx hZ hown (host := "") (Or.inl (hwi hw 12 rfl)) Via.refl e309 f308 (g := (mkF m 56 #[.val (.ref tb), .val (.long xk), .second, .val (.int (1 : Int32)), .val (.int (1 : Int32))] [(.ref tb), (.int (1 : Int32)), (.ref xd)])) rfl rfl (hb hby d10_56)
    refine Run.pre st310 ?_
    refine Run.pre (fun _ k => XS.iloadN X310.here hx rfl (hb hby d10_59) rfl  k) ?_
    refine Run.pre (fun _ k => XS.iconst X310.here hx rfl (hb hby d10_60) k) ?_
    refine Run.pre (fun _ k => XS.iadd X310.here hx rfl (hb hby d10_61) rfl k) ?_
    show Run p e below s _ _ _ (T310.setTop (mkF m 62 #[.val (.ref tb), .val (.long xk), .second, .val (.int (1 : Int32)), .val (.int (1 : Int32))] [(.int (2 : Int32)), (.ref xd), (.int (1 : Int32)), (.ref xd)]))
    refine Run.pre (fun _ k => XS.iload X310.here hx rfl (hb hby d10_62) rfl  k) ?_
    have f312 := (AR1.keep Kc307 (ninS (Ne.symm ne_xo_xd) nin0))
    obtain ⟨T311, h311, L311, X311, e311, N311, Kc311, V311, st311⟩ := cpA X310 hx hZ hown (hwi hw 60 rfl) (hwi hw 63 rfl) (hwi hw 61 rfl) (hwi hw 62 rfl) e310 f312 f312 (Or.inl ⟨rfl, rfl⟩) (by decide) (by decide) (by decide) (by decide) (by decide) rfl (Nat.le_of_ble_eq_true rfl) N307 g_xd (g := (mkF m 64 #[.val (.ref tb), .val (.long xk), .second, .val (.int (1 : Int32)), .val (.int (1 : Int32))] [(.int (1 : Int32)), (.int (2 : Int32)), (.ref xd), (.int (1 : Int32)), (.ref xd)])) rfl (by rw [hml]; rfl) rfl (hb hby d10_64) (by decide) (W := 0) (by show 2 * 0 + _ ≤ _; exact Nat.le_of_eq rfl) (by decide)
    refine Run.pre st311 ?_
    have K311 : Keep h0 h311 [tb, xo, xd, xl, xq, xh] := K307.trans Kc311 (allS (Or.inl (by simp)) all0)
    have V_xd_311 : Arv Z h311 xd kd .long (16 : Int32) (own_LJ d0 d1 d1) (.long (0 : Int64)) := V311
    refine Run.pre (fun _ k => XS.aloadN X311.here hx rfl (hb hby d10_67) rfl rfl k) ?_
    have f313 := ((FR2.keep Kc307 (ninS ne_tb_xo nin0)).keep Kc311 (ninS ne_tb_xd nin0))
    obtain ⟨T314, X314, e314, st314⟩ := getF X311 hx hZ hown (host := "") (Or.inl (hwi hw 15 rfl)) Via.refl e311 f313 (g := (mkF m 68 #[.val (.ref tb), .val (.long xk), .second, .val (.int (1 : Int32)), .val (.int (1 : Int32))] [(.ref tb)])) rfl rfl (hb hby d10_68)
    refine Run.pre st314 ?_
    refine Run.pre (fun _ k => XS.iloadN X314.here hx rfl (hb hby d10_71) rfl  k) ?_
    refine Run.pre (fun _ k => XS.aloadN X314.here hx rfl (hb hby d10_72) rfl rfl k) ?_
    show Run p e below s _ _ _ (T314.setTop (mkF m 73 #[.val (.ref tb), .val (.long xk), .second, .val (.int (1 : Int32)), .val (.int (1 : Int32))] [(.ref tb), (.int (1 : Int32)), (.ref xl)]))
    obtain ⟨T315, X315, e315, st315⟩ := getF X314 hx hZ hown (host := "") (Or.inl (hwi hw 15 rfl)) Via.refl e314 f313 (g := (mkF m 73 #[.val (.ref tb), .val (.long xk), .second, .val (.int (1 : Int32)), .val (.int (1 : Int32))] [(.ref tb), (.int (1 : Int32)), (.ref xl)])) rfl rfl (hb hby d10_73)
    refine Run.pre st315 ?_
    refine Run.pre (fun _ k => XS.iloadN X315.here hx rfl (hb hby d10_76) rfl  k) ?_
    refine Run.pre (fun _ k => XS.iconst X315.here hx rfl (hb hby d10_77) k) ?_
    refine Run.pre (fun _ k => XS.iadd X315.here hx rfl (hb hby d10_78) rfl k) ?_
    refine Run.pre (fun _ k => XS.iload X315.here hx rfl (hb hby d10_79) rfl  k) ?_
    have f317 := ((AR2.keep Kc307 (ninS (Ne.symm ne_xo_xl) nin0)).keep Kc311 (ninS (Ne.symm ne_xd_xl) nin0))
    obtain ⟨T316, h316, L316, X316, e316, N316, Kc316, V316, st316⟩ := cpA X315 hx hZ hown (hwi hw 60 rfl) (hwi hw 63 rfl) (hwi hw 61 rfl) (hwi hw 62 rfl) e315 f317 f317 (Or.inl ⟨rfl, rfl⟩) (by decide) (by decide) (by decide) (by decide) (by decide) rfl (Nat.le_of_ble_eq_true rfl) N311 g_xl (g := (mkF m 81 #[.val (.ref tb), .val (.long xk), .second, .val (.int (1 : Int32)), .val (.int (1 : Int32))] [(.int (1 : Int32)), (.int (2 : Int32)), (.ref xl), (.int (1 : Int32)), (.ref xl)])) rfl (by rw [hml]; rfl) rfl (hb hby d10_81) (by decide) (W := 0) (by show 2 * 0 + _ ≤ _; exact Nat.le_of_eq rfl) (by decide)
    refine Run.pre st316 ?_
    have K316 : Keep h0 h316 [tb, xo, xd, xl, xq, xh] := K311.trans Kc316 (allS (Or.inl (by simp)) all0)
    have V_xl_316 : Arv Z h316 xl kl .int (16 : Int32) (own_LI l0 l1 l1) (.int (0 : Int32)) := V316
    show Run p e below s _ _ _ (T316.setTop (mkF m 84 #[.val (.ref tb), .val (.long xk), .second, .val (.int (1 : Int32)), .val (.int (1 : Int32))] []))
    refine Run.pre (fun _ k => XS.aloadN X316.here hx rfl (hb hby d10_84) rfl rfl k) ?_
    have f318 := (((FR3.keep Kc307 (ninS ne_tb_xo nin0)).keep Kc311 (ninS ne_tb_xd nin0)).keep Kc316 (ninS ne_tb_xl nin0))
    obtain ⟨T319, X319, e319, st319⟩ := getF X316 hx hZ hown (host := "") (Or.inl (hwi hw 17 rfl)) Via.refl e316 f318 (g := (mkF m 85 #[.val (.ref tb), .val (.long xk), .second, .val (.int (1 : Int32)), .val (.int (1 : Int32))] [(.ref tb)])) rfl rfl (hb hby d10_85)
    refine Run.pre st319 ?_
    refine Run.pre (fun _ k => XS.iloadN X319.here hx rfl (hb hby d10_88) rfl  k) ?_
    refine Run.pre (fun _ k => XS.aloadN X319.here hx rfl (hb hby d10_89) rfl rfl k) ?_
    obtain ⟨T320, X320, e320, st320⟩ := getF X319 hx hZ hown (host := "") (Or.inl (hwi hw 17 rfl)) Via.refl e319 f318 (g := (mkF m 90 #[.val (.ref tb), .val (.long xk), .second, .val (.int (1 : Int32)), .val (.int (1 : Int32))] [(.ref tb), (.int (1 : Int32)), (.ref xq)])) rfl rfl (hb hby d10_90)
    refine Run.pre st320 ?_
    refine Run.pre (fun _ k => XS.iloadN X320.here hx rfl (hb hby d10_93) rfl  k) ?_
    show Run p e below s _ _ _ (T320.setTop (mkF m 94 #[.val (.ref tb), .val (.long xk), .second, .val (.int (1 : Int32)), .val (.int (1 : Int32))] [(.int (1 : Int32)), (.ref xq), (.int (1 : Int32)), (.ref xq)]))
    refine Run.pre (fun _ k => XS.iconst X320.here hx rfl (hb hby d10_94) k) ?_
    refine Run.pre (fun _ k => XS.iadd X320.here hx rfl (hb hby d10_95) rfl k) ?_
    refine Run.pre (fun _ k => XS.iload X320.here hx rfl (hb hby d10_96) rfl  k) ?_
    have f322 := (((AR3.keep Kc307 (ninS (Ne.symm ne_xo_xq) nin0)).keep Kc311 (ninS (Ne.symm ne_xd_xq) nin0)).keep Kc316 (ninS (Ne.symm ne_xl_xq) nin0))
    obtain ⟨T321, h321, L321, X321, e321, N321, Kc321, V321, st321⟩ := cpA X320 hx hZ hown (hwi hw 60 rfl) (hwi hw 63 rfl) (hwi hw 61 rfl) (hwi hw 62 rfl) e320 f322 f322 (Or.inl ⟨rfl, rfl⟩) (by decide) (by decide) (by decide) (by decide) (by decide) rfl (Nat.le_of_ble_eq_true rfl) N316 g_xq (g := (mkF m 98 #[.val (.ref tb), .val (.long xk), .second, .val (.int (1 : Int32)), .val (.int (1 : Int32))] [(.int (1 : Int32)), (.int (2 : Int32)), (.ref xq), (.int (1 : Int32)), (.ref xq)])) rfl (by rw [hml]; rfl) rfl (hb hby d10_98) (by decide) (W := 0) (by show 2 * 0 + _ ≤ _; exact Nat.le_of_eq rfl) (by decide)
    refine Run.pre st321 ?_
    have K321 : Keep h0 h321 [tb, xo, xd, xl, xq, xh] := K316.trans Kc321 (allS (Or.inl (by simp)) all0)
    have V_xq_321 : Arv Z h321 xq kq .int (16 : Int32) (own_LI q0 q1 q1) (.int (0 : Int32)) := V321
    refine Run.pre (fun _ k => XS.aloadN X321.here hx rfl (hb hby d10_101) rfl rfl k) ?_
    have f323 := ((((FR4.keep Kc307 (ninS ne_tb_xo nin0)).keep Kc311 (ninS ne_tb_xd nin0)).keep Kc316 (ninS ne_tb_xl nin0)).keep Kc321 (ninS ne_tb_xq nin0))
    obtain ⟨T324, X324, e324, st324⟩ := getF X321 hx hZ hown (host := "") (Or.inl (hwi hw 20 rfl)) Via.refl e321 f323 (g := (mkF m 102 #[.val (.ref tb), .val (.long xk), .second, .val (.int (1 : Int32)), .val (.int (1 : Int32))] [(.ref tb)])) rfl rfl (hb hby d10_102)
    refine Run.pre st324 ?_
    show Run p e below s _ _ _ (T324.setTop (mkF m 105 #[.val (.ref tb), .val (.long xk), .second, .val (.int (1 : Int32)), .val (.int (1 : Int32))] [(.ref xh)]))
    refine Run.pre (fun _ k => XS.iloadN X324.here hx rfl (hb hby d10_105) rfl  k) ?_
    refine Run.pre (fun _ k => XS.aloadN X324.here hx rfl (hb hby d10_106) rfl rfl k) ?_
    obtain ⟨T325, X325, e325, st325⟩ := getF X324 hx hZ hown (host := "") (Or.inl (hwi hw 20 rfl)) Via.refl e324 f323 (g := (mkF m 107 #[.val (.ref tb), .val (.long xk), .second, .val (.int (1 : Int32)), .val (.int (1 : Int32))] [(.ref tb), (.int (1 : Int32)), (.ref xh)])) rfl rfl (hb hby d10_107)
    refine Run.pre st325 ?_
    refine Run.pre (fun _ k => XS.iloadN X325.here hx rfl (hb hby d10_110) rfl  k) ?_
    refine Run.pre (fun _ k => XS.iconst X325.here hx rfl (hb hby d10_111) k) ?_
    refine Run.pre (fun _ k => XS.iadd X325.here hx rfl (hb hby d10_112) rfl k) ?_
    show Run p e below s _ _ _ (T325.setTop (mkF m 113 #[.val (.ref tb), .val (.long xk), .second, .val (.int (1 : Int32)), .val (.int (1 : Int32))] [(.int (2 : Int32)), (.ref xh), (.int (1 : Int32)), (.ref xh)]))
    refine Run.pre (fun _ k => XS.iload X325.here hx rfl (hb hby d10_113) rfl  k) ?_
    have f327 := ((((AR4.keep Kc307 (ninS (Ne.symm ne_xo_xh) nin0)).keep Kc311 (ninS (Ne.symm ne_xd_xh) nin0)).keep Kc316 (ninS (Ne.symm ne_xl_xh) nin0)).keep Kc321 (ninS (Ne.symm ne_xq_xh) nin0))
    obtain ⟨T326, h326, L326, X326, e326, N326, Kc326, V326, st326⟩ := cpA X325 hx hZ hown (hwi hw 60 rfl) (hwi hw 63 rfl) (hwi hw 61 rfl) (hwi hw 62 rfl) e325 f327 f327 (Or.inl ⟨rfl, rfl⟩) (by decide) (by decide) (by decide) (by decide) (by decide) rfl (Nat.le_of_ble_eq_true rfl) N321 g_xh (g := (mkF m 115 #[.val (.ref tb), .val (.long xk), .second, .val (.int (1 : Int32)), .val (.int (1 : Int32))] [(.int (1 : Int32)), (.int (2 : Int32)), (.ref xh), (.int (1 : Int32)), (.ref xh)])) rfl (by rw [hml]; rfl) rfl (hb hby d10_115) (by decide) (W := 0) (by show 2 * 0 + _ ≤ _; exact Nat.le_of_eq rfl) (by decide)
    refine Run.pre st326 ?_
    have K326 : Keep h0 h326 [tb, xo, xd, xl, xq, xh] := K321.trans Kc326 (allS (Or.inl (by simp)) all0)
    have V_xh_326 : Arv Z h326 xh kh .boolean (16 : Int32) (own_LI b0 b1 b1) (.int (0 : Int32)) := V326
    refine Run.pre (fun _ k => XS.aloadN X326.here hx rfl (hb hby d10_118) rfl rfl k) ?_
    have f328 := (((((FR0.keep Kc307 (ninS ne_tb_xo nin0)).keep Kc311 (ninS ne_tb_xd nin0)).keep Kc316 (ninS ne_tb_xl nin0)).keep Kc321 (ninS ne_tb_xq nin0)).keep Kc326 (ninS ne_tb_xh nin0))
    obtain ⟨T329, X329, e329, st329⟩ := getF X326 hx hZ hown (host := "") (Or.inl (hwi hw 10 rfl)) Via.refl e326 f328 (g := (mkF m 119 #[.val (.ref tb), .val (.long xk), .second, .val (.int (1 : Int32)), .val (.int (1 : Int32))] [(.ref tb)])) rfl rfl (hb hby d10_119)
    refine Run.pre st329 ?_
    refine Run.pre (fun _ k => XS.iloadN X329.here hx rfl (hb hby d10_122) rfl  k) ?_
    refine Run.pre (fun _ k => XS.lloadN X329.here hx rfl (hb hby d10_123) rfl  k) ?_
    show Run p e below s _ _ _ (T329.setTop (mkF m 124 #[.val (.ref tb), .val (.long xk), .second, .val (.int (1 : Int32)), .val (.int (1 : Int32))] [(.long xk), (.int (1 : Int32)), (.ref xo)]))
    have f330 := ((((V_xo_307.keep Kc311 (ninS ne_xo_xd nin0)).keep Kc316 (ninS ne_xo_xl nin0)).keep Kc321 (ninS ne_xo_xq nin0)).keep Kc326 (ninS ne_xo_xh nin0))
    obtain ⟨c331, Ar331, q331, S331, N331, H331, G331⟩ := id f330
    have hin331 : ¬ ((1 : Int32) < 0 ∨ c331.slots.size ≤ ((1 : Int32)).toNatClampNeg) := inb_of S331 ⟨by decide, by decide⟩
    obtain ⟨T332, h332, X332, e332, W332, st332⟩ := stJ X329 hx hZ e329 Ar331 (j := (1 : Int32)) hin331 (g := (mkF m 124 #[.val (.ref tb), .val (.long xk), .second, .val (.int (1 : Int32)), .val (.int (1 : Int32))] [(.long xk), (.int (1 : Int32)), (.ref xo)])) rfl rfl (hb hby d10_124)
    refine Run.pre st332 ?_
    have V_xo_332 : Arv Z h332 xo ko .long (16 : Int32) (own_LJ p0 xk p1) (.long (0 : Int64)) := Arv.set Ar331 q331 S331 N331 H331 G331 rfl W332 1 rfl (Nat.le_of_ble_eq_true rfl)
    have K332 : Keep h0 h332 [tb, xo, xd, xl, xq, xh] := K326.wr W332 (Or.inl (by simp))
    have N332 := Fr.snoc X332 N326 g_xo
    refine Run.pre (fun _ k => XS.aloadN X332.here hx rfl (hb hby d10_125) rfl rfl k) ?_
    have f333 := ((f323.keep Kc326 (ninS ne_tb_xh nin0)).other W332 (Or.inl ne_tb_xo))
    obtain ⟨T334, X334, e334, st334⟩ := getF X332 hx hZ hown (host := "") (Or.inl (hwi hw 20 rfl)) Via.refl e332 f333 (g := (mkF m 126 #[.val (.ref tb), .val (.long xk), .second, .val (.int (1 : Int32)), .val (.int (1 : Int32))] [(.ref tb)])) rfl rfl (hb hby d10_126)
    refine Run.pre st334 ?_
    refine Run.pre (fun _ k => XS.iloadN X334.here hx rfl (hb hby d10_129) rfl  k) ?_
    refine Run.pre (fun _ k => XS.iconst X334.here hx rfl (hb hby d10_130) k) ?_
    have f335 := (V_xh_326.other W332 (Ne.symm ne_xo_xh))
    obtain ⟨c336, Ar336, q336, S336, N336, H336, G336⟩ := id f335
    have hin336 : ¬ ((1 : Int32) < 0 ∨ c336.slots.size ≤ ((1 : Int32)).toNatClampNeg) := inb_of S336 ⟨by decide, by decide⟩
    obtain ⟨T337, h337, X337, e337, W337, st337⟩ := stZ X334 hx hZ e334 Ar336 (j := (1 : Int32)) hin336 (g := (mkF m 131 #[.val (.ref tb), .val (.long xk), .second, .val (.int (1 : Int32)), .val (.int (1 : Int32))] [(.int (0 : Int32)), (.int (1 : Int32)), (.ref xh)])) rfl rfl (hb hby d10_131)
    refine Run.pre st337 ?_
    have V_xh_337 : Arv Z h337 xh kh .boolean (16 : Int32) (own_LI b0 (nar .boolean (0 : Int32)) b1) (.int (0 : Int32)) := Arv.set Ar336 q336 S336 N336 H336 G336 (fits_nar_bool _) W337 1 rfl (Nat.le_of_ble_eq_true rfl)
    have K337 : Keep h0 h337 [tb, xo, xd, xl, xq, xh] := K332.wr W337 (Or.inl (by simp))
    have N337 := Fr.snoc X337 N332 g_xh
    show Run p e below s _ _ _ (T337.setTop (mkF m 132 #[.val (.ref tb), .val (.long xk), .second, .val (.int (1 : Int32)), .val (.int (1 : Int32))] []))
    refine Run.pre (fun _ k => XS.aloadN X337.here hx rfl (hb hby d10_132) rfl rfl k) ?_
    refine Run.pre (fun _ k => XS.dup X337.here hx rfl (hb hby d10_133) rfl rfl k) ?_
    have f338 := (((((((Fe.keep Kc307 (ninS ne_tb_xo nin0)).keep Kc311 (ninS ne_tb_xd nin0)).keep Kc316 (ninS ne_tb_xl nin0)).keep Kc321 (ninS ne_tb_xq nin0)).keep Kc326 (ninS ne_tb_xh nin0)).other W332 (Or.inl ne_tb_xo)).other W337 (Or.inl ne_tb_xh))
    obtain ⟨T339, X339, e339, st339⟩ := getF X337 hx hZ hown (host := "") (Or.inl (hwi hw 34 rfl)) Via.refl e337 f338 (g := (mkF m 134 #[.val (.ref tb), .val (.long xk), .second, .val (.int (1 : Int32)), .val (.int (1 : Int32))] [(.ref tb), (.ref tb)])) rfl rfl (hb hby d10_134)
    refine Run.pre st339 ?_
    refine Run.pre (fun _ k => XS.iconst X339.here hx rfl (hb hby d10_137) k) ?_
    refine Run.pre (fun _ k => XS.iadd X339.here hx rfl (hb hby d10_138) rfl k) ?_
    have f340 := (((((((E_tb.keep Kc307).keep Kc311).keep Kc316).keep Kc321).keep Kc326).wr W332).wr W337)
    obtain ⟨T341, h341, X341, e341, W341, st341⟩ := putF X339 hx hZ hown (host := "") (Or.inl (hwi hw 34 rfl)) Via.refl e339 f338 f340 (Or.inl (hwi hw 35 rfl)) (hwi hw 1 rfl) (ty := .int) (by decide) rfl rfl (g := (mkF m 139 #[.val (.ref tb), .val (.long xk), .second, .val (.int (1 : Int32)), .val (.int (1 : Int32))] [(.int (3 : Int32)), (.ref tb)])) rfl rfl (hb hby d10_139)
    refine Run.pre st341 ?_
    have Fw341 := f338.same W341
    have K341 : Keep h0 h341 [tb, xo, xd, xl, xq, xh] := K337.wr W341 (Or.inl (by simp))
    have N341 := Fr.snoc X341 N337 g_tb
    show Run p e below s _ _ _ (T341.setTop (mkF m 142 #[.val (.ref tb), .val (.long xk), .second, .val (.int (1 : Int32)), .val (.int (1 : Int32))] []))
    refine Run.pre (fun _ k => XS.iloadN X341.here hx rfl (hb hby d10_142) rfl  k) ?_
    have f342 := (f340.wr W341)
    have f343 := (((f328.other W332 (Or.inl ne_tb_xo)).other W337 (Or.inl ne_tb_xh)).other W341 (Or.inr (slot_ne (Or.inl (hwi hw 11 rfl)) (Or.inl (hwi hw 35 rfl)) (by decide) (t := (.array .long)) (t' := .int) (by decide) (by decide))))
    have f344 := (((((((f308.keep Kc311 (ninS ne_tb_xd nin0)).keep Kc316 (ninS ne_tb_xl nin0)).keep Kc321 (ninS ne_tb_xq nin0)).keep Kc326 (ninS ne_tb_xh nin0)).other W332 (Or.inl ne_tb_xo)).other W337 (Or.inl ne_tb_xh)).other W341 (Or.inr (slot_ne (Or.inl (hwi hw 13 rfl)) (Or.inl (hwi hw 35 rfl)) (by decide) (t := (.array .long)) (t' := .int) (by decide) (by decide))))
    have f345 := ((((((f313.keep Kc316 (ninS ne_tb_xl nin0)).keep Kc321 (ninS ne_tb_xq nin0)).keep Kc326 (ninS ne_tb_xh nin0)).other W332 (Or.inl ne_tb_xo)).other W337 (Or.inl ne_tb_xh)).other W341 (Or.inr (slot_ne (Or.inl (hwi hw 16 rfl)) (Or.inl (hwi hw 35 rfl)) (by decide) (t := (.array .int)) (t' := .int) (by decide) (by decide))))
    have f346 := (((((f318.keep Kc321 (ninS ne_tb_xq nin0)).keep Kc326 (ninS ne_tb_xh nin0)).other W332 (Or.inl ne_tb_xo)).other W337 (Or.inl ne_tb_xh)).other W341 (Or.inr (slot_ne (Or.inl (hwi hw 18 rfl)) (Or.inl (hwi hw 35 rfl)) (by decide) (t := (.array .int)) (t' := .int) (by decide) (by decide))))
    have f347 := ((f333.other W337 (Or.inl ne_tb_xh)).other W341 (Or.inr (slot_ne (Or.inl (hwi hw 21 rfl)) (Or.inl (hwi hw 35 rfl)) (by decide) (t := (.array .boolean)) (t' := .int) (by decide) (by decide))))
    have f348 := ((((((((Ff.keep Kc307 (ninS ne_tb_xo nin0)).keep Kc311 (ninS ne_tb_xd nin0)).keep Kc316 (ninS ne_tb_xl nin0)).keep Kc321 (ninS ne_tb_xq nin0)).keep Kc326 (ninS ne_tb_xh nin0)).other W332 (Or.inl ne_tb_xo)).other W337 (Or.inl ne_tb_xh)).other W341 (Or.inr (slot_ne (Or.inl (hwi hw 37 rfl)) (Or.inl (hwi hw 35 rfl)) (by decide) (t := .int) (t' := .int) (by decide) (by decide))))
    have f349 := ((((((((Fz.keep Kc307 (ninS ne_tb_xo nin0)).keep Kc311 (ninS ne_tb_xd nin0)).keep Kc316 (ninS ne_tb_xl nin0)).keep Kc321 (ninS ne_tb_xq nin0)).keep Kc326 (ninS ne_tb_xh nin0)).other W332 (Or.inl ne_tb_xo)).other W337 (Or.inl ne_tb_xh)).other W341 (Or.inr (slot_ne (Or.inl (hwi hw 28 rfl)) (Or.inl (hwi hw 35 rfl)) (by decide) (t := .int) (t' := .int) (by decide) (by decide))))
    have f350 := ((V_xo_332.other W337 ne_xo_xh).other W341 (Ne.symm ne_tb_xo))
    have f351 := ((((((V_xd_311.keep Kc316 (ninS ne_xd_xl nin0)).keep Kc321 (ninS ne_xd_xq nin0)).keep Kc326 (ninS ne_xd_xh nin0)).other W332 (Ne.symm ne_xo_xd)).other W337 ne_xd_xh).other W341 (Ne.symm ne_tb_xd))
    have f352 := (((((V_xl_316.keep Kc321 (ninS ne_xl_xq nin0)).keep Kc326 (ninS ne_xl_xh nin0)).other W332 (Ne.symm ne_xo_xl)).other W337 ne_xl_xh).other W341 (Ne.symm ne_tb_xl))
    have f353 := ((((V_xq_321.keep Kc326 (ninS ne_xq_xh nin0)).other W332 (Ne.symm ne_xo_xq)).other W337 ne_xq_xh).other W341 (Ne.symm ne_tb_xq))
    have f354 := (V_xh_337.other W341 (Ne.symm ne_tb_xh))
    exact Run.retI X341 hx hret hlk (hb hby d10_143) (by first | (rw [e341]; exact ⟨rfl, N341, K341, f342, f343, f344, f345, f346, f347, f348, Fw341, f349, f350, f351, f352, f353, f354⟩) | exact ⟨rfl, N341, K341, f342, f343, f344, f345, f346, f347, f348, Fw341, f349, f350, f351, f352, f353, f354⟩) (by decide) (by decide)
  · skip
    exact absurd r1.1 s1.1
theorem d4_86 : decode prog_84_method_2_code 86 = .ok (.aload_n 0, 1) := by decide +kernel
theorem d4_87 : decode prog_84_method_2_code 87 = .ok (.getfield 13, 3) := by decide +kernel
theorem d4_90 : decode prog_84_method_2_code 90 = .ok (.iload 7, 2) := by decide +kernel
theorem d4_92 : decode prog_84_method_2_code 92 = .ok (.lload_n 3, 1) := by decide +kernel
theorem d4_93 : decode prog_84_method_2_code 93 = .ok (.lastore, 1) := by decide +kernel
theorem d4_94 : decode prog_84_method_2_code 94 = .ok (.aload_n 0, 1) := by decide +kernel
theorem d4_95 : decode prog_84_method_2_code 95 = .ok (.getfield 16, 3) := by decide +kernel
theorem d4_98 : decode prog_84_method_2_code 98 = .ok (.iload 7, 2) := by decide +kernel
theorem d4_100 : decode prog_84_method_2_code 100 = .ok (.iload 5, 2) := by decide +kernel
theorem d4_102 : decode prog_84_method_2_code 102 = .ok (.iastore, 1) := by decide +kernel
theorem d4_103 : decode prog_84_method_2_code 103 = .ok (.aload_n 0, 1) := by decide +kernel
theorem d4_104 : decode prog_84_method_2_code 104 = .ok (.getfield 20, 3) := by decide +kernel
theorem d4_107 : decode prog_84_method_2_code 107 = .ok (.iload 7, 2) := by decide +kernel
theorem d4_109 : decode prog_84_method_2_code 109 = .ok (.iload 6, 2) := by decide +kernel
theorem d4_111 : decode prog_84_method_2_code 111 = .ok (.iastore, 1) := by decide +kernel
theorem d4_112 : decode prog_84_method_2_code 112 = .ok (.aload_n 0, 1) := by decide +kernel
theorem d4_113 : decode prog_84_method_2_code 113 = .ok (.getfield 23, 3) := by decide +kernel
theorem d4_116 : decode prog_84_method_2_code 116 = .ok (.iload 7, 2) := by decide +kernel
theorem d4_118 : decode prog_84_method_2_code 118 = .ok (.baload, 1) := by decide +kernel
theorem d4_119 : decode prog_84_method_2_code 119 = .ok (.ifCond .ne 7, 3) := by decide +kernel
theorem d4_122 : decode prog_84_method_2_code 122 = .ok (.iconst 1, 1) := by decide +kernel
theorem d4_123 : decode prog_84_method_2_code 123 = .ok (.goto 4, 3) := by decide +kernel
theorem d4_127 : decode prog_84_method_2_code 127 = .ok (.istore 8, 2) := by decide +kernel
theorem d4_129 : decode prog_84_method_2_code 129 = .ok (.iload 8, 2) := by decide +kernel
theorem d4_131 : decode prog_84_method_2_code 131 = .ok (.ifCond .eq 34, 3) := by decide +kernel
theorem d4_134 : decode prog_84_method_2_code 134 = .ok (.aload_n 0, 1) := by decide +kernel
theorem d4_135 : decode prog_84_method_2_code 135 = .ok (.getfield 23, 3) := by decide +kernel
theorem d4_138 : decode prog_84_method_2_code 138 = .ok (.iload 7, 2) := by decide +kernel
theorem d4_140 : decode prog_84_method_2_code 140 = .ok (.iconst 1, 1) := by decide +kernel
theorem d4_141 : decode prog_84_method_2_code 141 = .ok (.bastore, 1) := by decide +kernel
theorem d4_142 : decode prog_84_method_2_code 142 = .ok (.aload_n 0, 1) := by decide +kernel
theorem d4_143 : decode prog_84_method_2_code 143 = .ok (.dup, 1) := by decide +kernel
theorem d4_144 : decode prog_84_method_2_code 144 = .ok (.getfield 44, 3) := by decide +kernel
theorem d4_147 : decode prog_84_method_2_code 147 = .ok (.iconst 1, 1) := by decide +kernel
theorem d4_148 : decode prog_84_method_2_code 148 = .ok (.iadd, 1) := by decide +kernel
theorem d4_149 : decode prog_84_method_2_code 149 = .ok (.putfield 44, 3) := by decide +kernel
theorem d4_152 : decode prog_84_method_2_code 152 = .ok (.aload_n 0, 1) := by decide +kernel
theorem d4_153 : decode prog_84_method_2_code 153 = .ok (.aload_n 0, 1) := by decide +kernel
theorem d4_154 : decode prog_84_method_2_code 154 = .ok (.getfield 31, 3) := by decide +kernel
theorem d4_157 : decode prog_84_method_2_code 157 = .ok (.iload 7, 2) := by decide +kernel
theorem pd_3 : parseMethodDescriptor "(II)I" = some ⟨[.int, .int], some .int⟩ := by decide +kernel
theorem d4_159 : decode prog_84_method_2_code 159 = .ok (.invokestatic 47, 3) := by decide +kernel
theorem d4_162 : decode prog_84_method_2_code 162 = .ok (.putfield 31, 3) := by decide +kernel
theorem d4_165 : decode prog_84_method_2_code 165 = .ok (.iload 8, 2) := by decide +kernel
theorem d4_167 : decode prog_84_method_2_code 167 = .ok (.ireturn, 1) := by decide +kernel
theorem d4_126 : decode prog_84_method_2_code 126 = .ok (.iconst 0, 1) := by decide +kernel
theorem d4_0 : decode prog_84_method_2_code 0 = .ok (.aload_n 0, 1) := by decide +kernel
theorem d4_1 : decode prog_84_method_2_code 1 = .ok (.getfield 27, 3) := by decide +kernel
theorem d4_4 : decode prog_84_method_2_code 4 = .ok (.aload_n 0, 1) := by decide +kernel
theorem d4_5 : decode prog_84_method_2_code 5 = .ok (.getfield 31, 3) := by decide +kernel
theorem d4_8 : decode prog_84_method_2_code 8 = .ok (.if_icmp .le 41, 3) := by decide +kernel
theorem d4_49 : decode prog_84_method_2_code 49 = .ok (.aload_n 0, 1) := by decide +kernel
theorem d4_50 : decode prog_84_method_2_code 50 = .ok (.getfield 27, 3) := by decide +kernel
theorem d4_53 : decode prog_84_method_2_code 53 = .ok (.aload_n 0, 1) := by decide +kernel
theorem d4_54 : decode prog_84_method_2_code 54 = .ok (.getfield 7, 3) := by decide +kernel
theorem d4_57 : decode prog_84_method_2_code 57 = .ok (.arraylength, 1) := by decide +kernel
theorem d4_58 : decode prog_84_method_2_code 58 = .ok (.if_icmp .ne 7, 3) := by decide +kernel
theorem d4_65 : decode prog_84_method_2_code 65 = .ok (.aload_n 0, 1) := by decide +kernel
theorem d4_66 : decode prog_84_method_2_code 66 = .ok (.dup, 1) := by decide +kernel
theorem d4_67 : decode prog_84_method_2_code 67 = .ok (.getfield 27, 3) := by decide +kernel
theorem d4_70 : decode prog_84_method_2_code 70 = .ok (.dup_x1, 1) := by decide +kernel
theorem d4_71 : decode prog_84_method_2_code 71 = .ok (.iconst 1, 1) := by decide +kernel
theorem d4_72 : decode prog_84_method_2_code 72 = .ok (.iadd, 1) := by decide +kernel
theorem d4_73 : decode prog_84_method_2_code 73 = .ok (.putfield 27, 3) := by decide +kernel
theorem d4_76 : decode prog_84_method_2_code 76 = .ok (.istore 7, 2) := by decide +kernel
theorem d4_78 : decode prog_84_method_2_code 78 = .ok (.aload_n 0, 1) := by decide +kernel
theorem d4_79 : decode prog_84_method_2_code 79 = .ok (.getfield 7, 3) := by decide +kernel
theorem d4_82 : decode prog_84_method_2_code 82 = .ok (.iload 7, 2) := by decide +kernel
theorem d4_84 : decode prog_84_method_2_code 84 = .ok (.lload_n 1, 1) := by decide +kernel
theorem d4_85 : decode prog_84_method_2_code 85 = .ok (.lastore, 1) := by decide +kernel
theorem d4_11 : decode prog_84_method_2_code 11 = .ok (.lload_n 1, 1) := by decide +kernel
theorem d4_12 : decode prog_84_method_2_code 12 = .ok (.aload_n 0, 1) := by decide +kernel
theorem d4_13 : decode prog_84_method_2_code 13 = .ok (.getfield 7, 3) := by decide +kernel
theorem d4_16 : decode prog_84_method_2_code 16 = .ok (.aload_n 0, 1) := by decide +kernel
theorem d4_17 : decode prog_84_method_2_code 17 = .ok (.getfield 27, 3) := by decide +kernel
theorem d4_20 : decode prog_84_method_2_code 20 = .ok (.iconst 1, 1) := by decide +kernel
theorem d4_21 : decode prog_84_method_2_code 21 = .ok (.isub, 1) := by decide +kernel
theorem d4_22 : decode prog_84_method_2_code 22 = .ok (.laload, 1) := by decide +kernel
theorem d4_23 : decode prog_84_method_2_code 23 = .ok (.lcmp, 1) := by decide +kernel
theorem d4_24 : decode prog_84_method_2_code 24 = .ok (.ifCond .gt 25, 3) := by decide +kernel
theorem d4_27 : decode prog_84_method_2_code 27 = .ok (.aload_n 0, 1) := by decide +kernel
theorem d4_28 : decode prog_84_method_2_code 28 = .ok (.lload_n 1, 1) := by decide +kernel
theorem d4_29 : decode prog_84_method_2_code 29 = .ok (.invokevirtual 34, 3) := by decide +kernel
theorem d4_32 : decode prog_84_method_2_code 32 = .ok (.istore 7, 2) := by decide +kernel
theorem d4_34 : decode prog_84_method_2_code 34 = .ok (.iload 7, 2) := by decide +kernel
theorem d4_36 : decode prog_84_method_2_code 36 = .ok (.ifCond .ge 50, 3) := by decide +kernel
theorem d4_39 : decode prog_84_method_2_code 39 = .ok (.aload_n 0, 1) := by decide +kernel
theorem d4_40 : decode prog_84_method_2_code 40 = .ok (.lload_n 1, 1) := by decide +kernel
theorem d4_41 : decode prog_84_method_2_code 41 = .ok (.invokevirtual 38, 3) := by decide +kernel
theorem d4_44 : decode prog_84_method_2_code 44 = .ok (.istore 7, 2) := by decide +kernel
theorem d4_46 : decode prog_84_method_2_code 46 = .ok (.goto 40, 3) := by decide +kernel
theorem pn_4 : plainName "com/example/manana/manana/storage/WaitingTable" = true := by first | (simp [plainName, overriddenIn]; done) | decide +kernel
set_option maxRecDepth 65536 in
set_option maxHeartbeats 40000000 in
theorem rmPut (l : Launch) (Z : State) (a0 : Array Value) (hw : ∀ d ∈ tables_1, d.before a0 Z = true) (tb : Addr) (xo : Addr) (xd : Addr) (xl : Addr) (xq : Addr) (xh : Addr) (ko : ClassId) (kd : ClassId) (kl : ClassId) (kq : ClassId) (kh : ClassId) (p0 : Int64) (p1 : Int64) (p2 : Int64) (d0 : Int64) (d1 : Int64) (d2 : Int64) (l0 : Int32) (l1 : Int32) (l2 : Int32) (q0 : Int32) (q1 : Int32) (q2 : Int32) (b0 : Int32) (b1 : Int32) (b2 : Int32) (fi : Int32) (en : Int32) (si : Int32) (xk : Int64) (dq : Int64) (lk : Int32) (qk : Int32) (S : Int64 → Prop) (h0 : Heap) (n0 : Nat) (Z0 : n0 ≤ h0.size) (hH : own_H Z h0 tb xo xd xl xq xh ko kd kl kq kh p0 p1 p2 d0 d1 d2 l0 l1 l2 q0 q1 q2 b0 b1 b2 fi en si) (hD : own_D tb xo xd xl xq xh) (g_tb : n0 ≤ tb) (g_xo : n0 ≤ xo) (g_xd : n0 ≤ xd) (g_xl : n0 ≤ xl) (g_xq : n0 ≤ xq) (g_xh : n0 ≤ xh) (hR : (fi = 0 ∧ en = 0 ∧ si = 0 ∧ b0 = 0 ∧ b1 = 0 ∧ b2 = 0 ∧ ∀ x, S x ↔ (False)) ∨ (fi = 0 ∧ en = 1 ∧ si = 1 ∧ b0 = 1 ∧ b1 = 0 ∧ b2 = 0 ∧ ∀ x, S x ↔ (x = p0)) ∨ (fi = 1 ∧ en = 1 ∧ si = 0 ∧ b0 = 0 ∧ b1 = 0 ∧ b2 = 0 ∧ ∀ x, S x ↔ (False)) ∨ (fi = 0 ∧ en = 2 ∧ si = 2 ∧ b0 = 1 ∧ b1 = 1 ∧ b2 = 0 ∧ p0 < p1 ∧ ∀ x, S x ↔ (x = p0 ∨ x = p1)) ∨ (fi = 1 ∧ en = 2 ∧ si = 1 ∧ b0 = 0 ∧ b1 = 1 ∧ b2 = 0 ∧ ∀ x, S x ↔ (x = p1)) ∨ (fi = 0 ∧ en = 2 ∧ si = 1 ∧ b0 = 1 ∧ b1 = 0 ∧ b2 = 0 ∧ p0 < p1 ∧ ∀ x, S x ↔ (x = p0))) :
    Con l (⟨"com/example/manana/manana/storage/WaitingTable", "put", "(JJII)Z"⟩ : MethodName) prog_84_method_2_code 9 (some .boolean) ({ frames := 4, cells := 0, slots := 0, locals := 67 } : Room) Z #[(.ref tb), (.long xk), (.long dq), (.int lk), (.int qk)] h0 (fun v h L => ∃ rr : Int32, ∃ p0n : Int64, ∃ p1n : Int64, ∃ p2n : Int64, ∃ d0n : Int64, ∃ d1n : Int64, ∃ d2n : Int64, ∃ l0n : Int32, ∃ l1n : Int32, ∃ l2n : Int32, ∃ q0n : Int32, ∃ q1n : Int32, ∃ q2n : Int32, ∃ b0n : Int32, ∃ b1n : Int32, ∃ b2n : Int32, ∃ fin : Int32, ∃ enn : Int32, ∃ sin : Int32, v = some (.int rr) ∧ Fr n0 L ∧ Keep h0 h [tb, xo, xd, xl, xq, xh] ∧ own_H Z h tb xo xd xl xq xh ko kd kl kq kh p0n p1n p2n d0n d1n d2n l0n l1n l2n q0n q1n q2n b0n b1n b2n fin enn sin ∧ own_RQ (own_all b0 b1 b2 fi en) en (fun x => S x ∨ x = xk) p0n p1n p2n b0n b1n b2n fin enn sin) := by
  refine Con.mk (plainFor_of_name pn_4) (fun m => show entryFrame m #[(.ref tb), (.long xk), (.long dq), (.int lk), (.int qk)] 9 = mkF m 0 #[.val (.ref tb), .val (.long xk), .second, .val (.long dq), .second, .val (.int lk), .val (.int qk), .unset, .unset] [] by first | (simp [entryFrame, mkF, argsToLocals, Value.category]; done) | rfl) ?_
  intro p e s m below meth c s₁ hx hby hml hown hnm hret hlk hZ X0 e0
  have N0 := Fr.nil n0
  obtain ⟨ne_tb_xo, ne_tb_xd, ne_tb_xl, ne_tb_xq, ne_tb_xh, ne_xo_xd, ne_xo_xl, ne_xo_xq, ne_xo_xh, ne_xd_xl, ne_xd_xq, ne_xd_xh, ne_xl_xq, ne_xl_xh, ne_xq_xh⟩ := id hD
  obtain ⟨E_tb, FR0, FR1, FR2, FR3, FR4, Ff, Fe, Fz, AR0, AR1, AR2, AR3, AR4⟩ := id hH
  show Run p e below s _ _ _ (s₁.setTop (mkF m 0 #[.val (.ref tb), .val (.long xk), .second, .val (.long dq), .second, .val (.int lk), .val (.int qk), .unset, .unset] []))
  have GT0 : ∀ (p0n : Int64) (p1n : Int64) (p2n : Int64) (d0n : Int64) (d1n : Int64) (d2n : Int64) (l0n : Int32) (l1n : Int32) (l2n : Int32) (q0n : Int32) (q1n : Int32) (q2n : Int32) (b0n : Int32) (b1n : Int32) (b2n : Int32) (fin : Int32) (enn : Int32) (sin : Int32) (TGT0 : State) (LcGT0 : List Loc) (hGT0 : Heap), (Stand p l e ({ frames := 4, cells := 0, slots := 0, locals := 67 } : Room) s m #[(.ref tb), (.long xk), (.long dq), (.int lk), (.int qk)] below meth c TGT0 LcGT0 0 0) → (TGT0.heap = hGT0) → (Fr n0 LcGT0) → (Keep h0 hGT0 [tb, xo, xd, xl, xq, xh]) → (Exa Z hGT0 tb "com/example/manana/manana/storage/WaitingTable") → (Fld Z hGT0 tb "com/example/manana/manana/storage/WaitingTable" "offsets" "[J" (.ref xo)) → (Fld Z hGT0 tb "com/example/manana/manana/storage/WaitingTable" "dues" "[J" (.ref xd)) → (Fld Z hGT0 tb "com/example/manana/manana/storage/WaitingTable" "lengths" "[I" (.ref xl)) → (Fld Z hGT0 tb "com/example/manana/manana/storage/WaitingTable" "queues" "[I" (.ref xq)) → (Fld Z hGT0 tb "com/example/manana/manana/storage/WaitingTable" "held" "[Z" (.ref xh)) → (Fld Z hGT0 tb "com/example/manana/manana/storage/WaitingTable" "first" "I" (.int fin)) → (Fld Z hGT0 tb "com/example/manana/manana/storage/WaitingTable" "end" "I" (.int enn)) → (Fld Z hGT0 tb "com/example/manana/manana/storage/WaitingTable" "size" "I" (.int sin)) → (Arv Z hGT0 xo ko .long 16 (own_LJ p0n p1n p2n) (.long (0 : Int64))) → (Arv Z hGT0 xd kd .long 16 (own_LJ d0n d1n d2n) (.long (0 : Int64))) → (Arv Z hGT0 xl kl .int 16 (own_LI l0n l1n l2n) (.int (0 : Int32))) → (Arv Z hGT0 xq kq .int 16 (own_LI q0n q1n q2n) (.int (0 : Int32))) → (Arv Z hGT0 xh kh .boolean 16 (own_LI b0n b1n b2n) (.int (0 : Int32))) → ((b0n = 0 → own_RQ (own_all b0 b1 b2 fi en) en (fun x => S x ∨ x = xk) p0n p1n p2n (nar .boolean (1 : Int32)) b1n b2n (own_mn fin 0) enn (sin + 1)) ∧ (¬ b0n = 0 → own_RQ (own_all b0 b1 b2 fi en) en (fun x => S x ∨ x = xk) p0n p1n p2n b0n b1n b2n fin enn sin)) → Run p e below s (fun v h L => ∃ rr : Int32, ∃ p0n : Int64, ∃ p1n : Int64, ∃ p2n : Int64, ∃ d0n : Int64, ∃ d1n : Int64, ∃ d2n : Int64, ∃ l0n : Int32, ∃ l1n : Int32, ∃ l2n : Int32, ∃ q0n : Int32, ∃ q1n : Int32, ∃ q2n : Int32, ∃ b0n : Int32, ∃ b1n : Int32, ∃ b2n : Int32, ∃ fin : Int32, ∃ enn : Int32, ∃ sin : Int32, v = some (.int rr) ∧ Fr n0 L ∧ Keep h0 h [tb, xo, xd, xl, xq, xh] ∧ own_H Z h tb xo xd xl xq xh ko kd kl kq kh p0n p1n p2n d0n d1n d2n l0n l1n l2n q0n q1n q2n b0n b1n b2n fin enn sin ∧ own_RQ (own_all b0 b1 b2 fi en) en (fun x => S x ∨ x = xk) p0n p1n p2n b0n b1n b2n fin enn sin) ({ frames := 4, cells := 0, slots := 0, locals := 67 } : Room).cells ({ frames := 4, cells := 0, slots := 0, locals := 67 } : Room).slots (TGT0.setTop (mkF m 86 #[.val (.ref tb), .val (.long xk), .second, .val (.long dq), .second, .val (.int lk), .val (.int qk), .val (.int (0 : Int32)), .unset] [])) := by
    intro p0n p1n p2n d0n d1n d2n l0n l1n l2n q0n q1n q2n b0n b1n b2n fin enn sin TGT0 LcGT0 hGT0 XGT0 eGT0 NGT0 KGT0 GGT0_0 GGT0_1 GGT0_2 GGT0_3 GGT0_4 GGT0_5 GGT0_6 GGT0_7 GGT0_8 GGT0_9 GGT0_10 GGT0_11 GGT0_12 GGT0_13 hfin
    show Run p e below s _ _ _ (TGT0.setTop (mkF m 86 #[.val (.ref tb), .val (.long xk), .second, .val (.long dq), .second, .val (.int lk), .val (.int qk), .val (.int (0 : Int32)), .unset] []))
    refine Run.pre (fun _ k => XS.aloadN XGT0.here hx rfl (hb hby d4_86) rfl rfl k) ?_
    obtain ⟨T355, X355, e355, st355⟩ := getF XGT0 hx hZ hown (host := "") (Or.inl (hwi hw 12 rfl)) Via.refl eGT0 GGT0_2 (g := (mkF m 87 #[.val (.ref tb), .val (.long xk), .second, .val (.long dq), .second, .val (.int lk), .val (.int qk), .val (.int (0 : Int32)), .unset] [(.ref tb)])) rfl rfl (hb hby d4_87)
    refine Run.pre st355 ?_
    refine Run.pre (fun _ k => XS.iload X355.here hx rfl (hb hby d4_90) rfl  k) ?_
    refine Run.pre (fun _ k => XS.lloadN X355.here hx rfl (hb hby d4_92) rfl  k) ?_
    obtain ⟨c356, Ar356, q356, S356, N356, H356, G356⟩ := id GGT0_10
    have hin356 : ¬ ((0 : Int32) < 0 ∨ c356.slots.size ≤ ((0 : Int32)).toNatClampNeg) := inb_of S356 ⟨by decide, by decide⟩
    obtain ⟨T357, h357, X357, e357, W357, st357⟩ := stJ X355 hx hZ e355 Ar356 (j := (0 : Int32)) hin356 (g := (mkF m 93 #[.val (.ref tb), .val (.long xk), .second, .val (.long dq), .second, .val (.int lk), .val (.int qk), .val (.int (0 : Int32)), .unset] [(.long dq), (.int (0 : Int32)), (.ref xd)])) rfl rfl (hb hby d4_93)
    refine Run.pre st357 ?_
    have V_xd_357 : Arv Z h357 xd kd .long (16 : Int32) (own_LJ dq d1n d2n) (.long (0 : Int64)) := Arv.set Ar356 q356 S356 N356 H356 G356 rfl W357 0 rfl (Nat.le_of_ble_eq_true rfl)
    have K357 : Keep h0 h357 [tb, xo, xd, xl, xq, xh] := KGT0.wr W357 (Or.inl (by simp))
    have N357 := Fr.snoc X357 NGT0 g_xd
    refine Run.pre (fun _ k => XS.aloadN X357.here hx rfl (hb hby d4_94) rfl rfl k) ?_
    show Run p e below s _ _ _ (T357.setTop (mkF m 95 #[.val (.ref tb), .val (.long xk), .second, .val (.long dq), .second, .val (.int lk), .val (.int qk), .val (.int (0 : Int32)), .unset] [(.ref tb)]))
    have f358 := (GGT0_3.other W357 (Or.inl ne_tb_xd))
    obtain ⟨T359, X359, e359, st359⟩ := getF X357 hx hZ hown (host := "") (Or.inl (hwi hw 15 rfl)) Via.refl e357 f358 (g := (mkF m 95 #[.val (.ref tb), .val (.long xk), .second, .val (.long dq), .second, .val (.int lk), .val (.int qk), .val (.int (0 : Int32)), .unset] [(.ref tb)])) rfl rfl (hb hby d4_95)
    refine Run.pre st359 ?_
    refine Run.pre (fun _ k => XS.iload X359.here hx rfl (hb hby d4_98) rfl  k) ?_
    refine Run.pre (fun _ k => XS.iload X359.here hx rfl (hb hby d4_100) rfl  k) ?_
    have f360 := (GGT0_11.other W357 (Ne.symm ne_xd_xl))
    obtain ⟨c361, Ar361, q361, S361, N361, H361, G361⟩ := id f360
    have hin361 : ¬ ((0 : Int32) < 0 ∨ c361.slots.size ≤ ((0 : Int32)).toNatClampNeg) := inb_of S361 ⟨by decide, by decide⟩
    obtain ⟨T362, h362, X362, e362, W362, st362⟩ := stI X359 hx hZ e359 Ar361 (j := (0 : Int32)) hin361 (g := (mkF m 102 #[.val (.ref tb), .val (.long xk), .second, .val (.long dq), .second, .val (.int lk), .val (.int qk), .val (.int (0 : Int32)), .unset] [(.int lk), (.int (0 : Int32)), (.ref xl)])) rfl rfl (hb hby d4_102)
    refine Run.pre st362 ?_
    have V_xl_362 : Arv Z h362 xl kl .int (16 : Int32) (own_LI lk l1n l2n) (.int (0 : Int32)) := Arv.set Ar361 q361 S361 N361 H361 G361 rfl W362 0 rfl (Nat.le_of_ble_eq_true rfl)
    have K362 : Keep h0 h362 [tb, xo, xd, xl, xq, xh] := K357.wr W362 (Or.inl (by simp))
    have N362 := Fr.snoc X362 N357 g_xl
    refine Run.pre (fun _ k => XS.aloadN X362.here hx rfl (hb hby d4_103) rfl rfl k) ?_
    have f363 := ((GGT0_4.other W357 (Or.inl ne_tb_xd)).other W362 (Or.inl ne_tb_xl))
    obtain ⟨T364, X364, e364, st364⟩ := getF X362 hx hZ hown (host := "") (Or.inl (hwi hw 17 rfl)) Via.refl e362 f363 (g := (mkF m 104 #[.val (.ref tb), .val (.long xk), .second, .val (.long dq), .second, .val (.int lk), .val (.int qk), .val (.int (0 : Int32)), .unset] [(.ref tb)])) rfl rfl (hb hby d4_104)
    refine Run.pre st364 ?_
    show Run p e below s _ _ _ (T364.setTop (mkF m 107 #[.val (.ref tb), .val (.long xk), .second, .val (.long dq), .second, .val (.int lk), .val (.int qk), .val (.int (0 : Int32)), .unset] [(.ref xq)]))
    refine Run.pre (fun _ k => XS.iload X364.here hx rfl (hb hby d4_107) rfl  k) ?_
    refine Run.pre (fun _ k => XS.iload X364.here hx rfl (hb hby d4_109) rfl  k) ?_
    have f365 := ((GGT0_12.other W357 (Ne.symm ne_xd_xq)).other W362 (Ne.symm ne_xl_xq))
    obtain ⟨c366, Ar366, q366, S366, N366, H366, G366⟩ := id f365
    have hin366 : ¬ ((0 : Int32) < 0 ∨ c366.slots.size ≤ ((0 : Int32)).toNatClampNeg) := inb_of S366 ⟨by decide, by decide⟩
    obtain ⟨T367, h367, X367, e367, W367, st367⟩ := stI X364 hx hZ e364 Ar366 (j := (0 : Int32)) hin366 (g := (mkF m 111 #[.val (.ref tb), .val (.long xk), .second, .val (.long dq), .second, .val (.int lk), .val (.int qk), .val (.int (0 : Int32)), .unset] [(.int qk), (.int (0 : Int32)), (.ref xq)])) rfl rfl (hb hby d4_111)
    refine Run.pre st367 ?_
    have V_xq_367 : Arv Z h367 xq kq .int (16 : Int32) (own_LI qk q1n q2n) (.int (0 : Int32)) := Arv.set Ar366 q366 S366 N366 H366 G366 rfl W367 0 rfl (Nat.le_of_ble_eq_true rfl)
    have K367 : Keep h0 h367 [tb, xo, xd, xl, xq, xh] := K362.wr W367 (Or.inl (by simp))
    have N367 := Fr.snoc X367 N362 g_xq
    refine Run.pre (fun _ k => XS.aloadN X367.here hx rfl (hb hby d4_112) rfl rfl k) ?_
    have f368 := (((GGT0_5.other W357 (Or.inl ne_tb_xd)).other W362 (Or.inl ne_tb_xl)).other W367 (Or.inl ne_tb_xq))
    obtain ⟨T369, X369, e369, st369⟩ := getF X367 hx hZ hown (host := "") (Or.inl (hwi hw 20 rfl)) Via.refl e367 f368 (g := (mkF m 113 #[.val (.ref tb), .val (.long xk), .second, .val (.long dq), .second, .val (.int lk), .val (.int qk), .val (.int (0 : Int32)), .unset] [(.ref tb)])) rfl rfl (hb hby d4_113)
    refine Run.pre st369 ?_
    refine Run.pre (fun _ k => XS.iload X369.here hx rfl (hb hby d4_116) rfl  k) ?_
    show Run p e below s _ _ _ (T369.setTop (mkF m 118 #[.val (.ref tb), .val (.long xk), .second, .val (.long dq), .second, .val (.int lk), .val (.int qk), .val (.int (0 : Int32)), .unset] [(.int (0 : Int32)), (.ref xh)]))
    have f370 := (((GGT0_13.other W357 (Ne.symm ne_xd_xh)).other W362 (Ne.symm ne_xl_xh)).other W367 (Ne.symm ne_xq_xh))
    obtain ⟨c371, Ar371, -, S371, N371, H371, -⟩ := id f370
    have hin371 : ¬ ((0 : Int32) < 0 ∨ c371.slots.size ≤ ((0 : Int32)).toNatClampNeg) := inb_of S371 ⟨by decide, by decide⟩
    refine Run.pre (X369.baloadBooleans hx (j := (0 : Int32)) (v := (.int b0n)) (by rw [e369]; exact Ar371.1) (State.isArrayOf_alike hZ.alike Ar371.2.1) Ar371.2.2 hin371 (H371.at hin371 rfl) (g := (mkF m 118 #[.val (.ref tb), .val (.long xk), .second, .val (.long dq), .second, .val (.int lk), .val (.int qk), .val (.int (0 : Int32)), .unset] [(.int (0 : Int32)), (.ref xh)])) rfl rfl (hb hby d4_118)) ?_
    by_cases hc372 : b0n = (0 : Int32)
    · skip
      refine Run.pre (fun _ k => XS.ifNo X369.here hx rfl (hb hby d4_119) rfl ((if0 _ _).trans (teq (hc372 : b0n = (0 : Int32))).2) k) ?_
      refine Run.pre (fun _ k => XS.iconst X369.here hx rfl (hb hby d4_122) k) ?_
      refine Run.pre (fun _ k => XS.goto X369.here hx rfl (pc0 := 123) (pc' := 127) rfl (hb hby d4_123) (by decide) (by decide) k) ?_
      refine Run.pre (fun _ k => XS.istore X369.here hx rfl (hb hby d4_127) rfl (l' := #[.val (.ref tb), .val (.long xk), .second, .val (.long dq), .second, .val (.int lk), .val (.int qk), .val (.int (0 : Int32)), .val (.int (1 : Int32))]) rfl k) ?_
      refine Run.pre (fun _ k => XS.iload X369.here hx rfl (hb hby d4_129) rfl  k) ?_
      show Run p e below s _ _ _ (T369.setTop (mkF m 131 #[.val (.ref tb), .val (.long xk), .second, .val (.long dq), .second, .val (.int lk), .val (.int qk), .val (.int (0 : Int32)), .val (.int (1 : Int32))] [(.int (1 : Int32))]))
      refine Run.pre (fun _ k => XS.ifNo X369.here hx rfl (hb hby d4_131) rfl ((if0 _ _).trans (feq ((by decide) : ¬ ((1 : Int32) = (0 : Int32)))).1) k) ?_
      refine Run.pre (fun _ k => XS.aloadN X369.here hx rfl (hb hby d4_134) rfl rfl k) ?_
      obtain ⟨T373, X373, e373, st373⟩ := getF X369 hx hZ hown (host := "") (Or.inl (hwi hw 20 rfl)) Via.refl e369 f368 (g := (mkF m 135 #[.val (.ref tb), .val (.long xk), .second, .val (.long dq), .second, .val (.int lk), .val (.int qk), .val (.int (0 : Int32)), .val (.int (1 : Int32))] [(.ref tb)])) rfl rfl (hb hby d4_135)
      refine Run.pre st373 ?_
      refine Run.pre (fun _ k => XS.iload X373.here hx rfl (hb hby d4_138) rfl  k) ?_
      refine Run.pre (fun _ k => XS.iconst X373.here hx rfl (hb hby d4_140) k) ?_
      obtain ⟨c374, Ar374, q374, S374, N374, H374, G374⟩ := id f370
      have hin374 : ¬ ((0 : Int32) < 0 ∨ c374.slots.size ≤ ((0 : Int32)).toNatClampNeg) := inb_of S374 ⟨by decide, by decide⟩
      obtain ⟨T375, h375, X375, e375, W375, st375⟩ := stZ X373 hx hZ e373 Ar374 (j := (0 : Int32)) hin374 (g := (mkF m 141 #[.val (.ref tb), .val (.long xk), .second, .val (.long dq), .second, .val (.int lk), .val (.int qk), .val (.int (0 : Int32)), .val (.int (1 : Int32))] [(.int (1 : Int32)), (.int (0 : Int32)), (.ref xh)])) rfl rfl (hb hby d4_141)
      refine Run.pre st375 ?_
      have V_xh_375 : Arv Z h375 xh kh .boolean (16 : Int32) (own_LI (nar .boolean (1 : Int32)) b1n b2n) (.int (0 : Int32)) := Arv.set Ar374 q374 S374 N374 H374 G374 (fits_nar_bool _) W375 0 rfl (Nat.le_of_ble_eq_true rfl)
      have K375 : Keep h0 h375 [tb, xo, xd, xl, xq, xh] := K367.wr W375 (Or.inl (by simp))
      have N375 := Fr.snoc X375 N367 g_xh
      show Run p e below s _ _ _ (T375.setTop (mkF m 142 #[.val (.ref tb), .val (.long xk), .second, .val (.long dq), .second, .val (.int lk), .val (.int qk), .val (.int (0 : Int32)), .val (.int (1 : Int32))] []))
      refine Run.pre (fun _ k => XS.aloadN X375.here hx rfl (hb hby d4_142) rfl rfl k) ?_
      refine Run.pre (fun _ k => XS.dup X375.here hx rfl (hb hby d4_143) rfl rfl k) ?_
      have f376 := ((((GGT0_8.other W357 (Or.inl ne_tb_xd)).other W362 (Or.inl ne_tb_xl)).other W367 (Or.inl ne_tb_xq)).other W375 (Or.inl ne_tb_xh))
      obtain ⟨T377, X377, e377, st377⟩ := getF X375 hx hZ hown (host := "") (Or.inl (hwi hw 27 rfl)) Via.refl e375 f376 (g := (mkF m 144 #[.val (.ref tb), .val (.long xk), .second, .val (.long dq), .second, .val (.int lk), .val (.int qk), .val (.int (0 : Int32)), .val (.int (1 : Int32))] [(.ref tb), (.ref tb)])) rfl rfl (hb hby d4_144)
      refine Run.pre st377 ?_
      refine Run.pre (fun _ k => XS.iconst X377.here hx rfl (hb hby d4_147) k) ?_
      refine Run.pre (fun _ k => XS.iadd X377.here hx rfl (hb hby d4_148) rfl k) ?_
      have f378 := ((((GGT0_0.wr W357).wr W362).wr W367).wr W375)
      obtain ⟨T379, h379, X379, e379, W379, st379⟩ := putF X377 hx hZ hown (host := "") (Or.inl (hwi hw 27 rfl)) Via.refl e377 f376 f378 (Or.inl (hwi hw 28 rfl)) (hwi hw 1 rfl) (ty := .int) (by decide) rfl rfl (g := (mkF m 149 #[.val (.ref tb), .val (.long xk), .second, .val (.long dq), .second, .val (.int lk), .val (.int qk), .val (.int (0 : Int32)), .val (.int (1 : Int32))] [(.int (sin + (1 : Int32))), (.ref tb)])) rfl rfl (hb hby d4_149)
      refine Run.pre st379 ?_
      have Fw379 := f376.same W379
      have K379 : Keep h0 h379 [tb, xo, xd, xl, xq, xh] := K375.wr W379 (Or.inl (by simp))
      have N379 := Fr.snoc X379 N375 g_tb
      show Run p e below s _ _ _ (T379.setTop (mkF m 152 #[.val (.ref tb), .val (.long xk), .second, .val (.long dq), .second, .val (.int lk), .val (.int qk), .val (.int (0 : Int32)), .val (.int (1 : Int32))] []))
      refine Run.pre (fun _ k => XS.aloadN X379.here hx rfl (hb hby d4_152) rfl rfl k) ?_
      refine Run.pre (fun _ k => XS.aloadN X379.here hx rfl (hb hby d4_153) rfl rfl k) ?_
      have f380 := (((((GGT0_6.other W357 (Or.inl ne_tb_xd)).other W362 (Or.inl ne_tb_xl)).other W367 (Or.inl ne_tb_xq)).other W375 (Or.inl ne_tb_xh)).other W379 (Or.inr (slot_ne (Or.inl (hwi hw 37 rfl)) (Or.inl (hwi hw 28 rfl)) (by decide) (t := .int) (t' := .int) (by decide) (by decide))))
      obtain ⟨T381, X381, e381, st381⟩ := getF X379 hx hZ hown (host := "") (Or.inl (hwi hw 36 rfl)) Via.refl e379 f380 (g := (mkF m 154 #[.val (.ref tb), .val (.long xk), .second, .val (.long dq), .second, .val (.int lk), .val (.int qk), .val (.int (0 : Int32)), .val (.int (1 : Int32))] [(.ref tb), (.ref tb)])) rfl rfl (hb hby d4_154)
      refine Run.pre st381 ?_
      refine Run.pre (fun _ k => XS.iload X381.here hx rfl (hb hby d4_157) rfl  k) ?_
      refine Run.callS X381 hx hZ (y := (⟨"java/lang/Math", "min", "(II)I"⟩ : MethodName)) hown (hwi hw 38 rfl) (hwi hw 39 rfl) (hwi hw 40 rfl) (hwi hw 41 rfl) (by decide) (W := 1) (rmMn l Z a0 hw fin (0 : Int32) h379 n0 (Nat.le_trans Z0 K379.1)) e381 (by decide) (by decide) (by decide) (by decide) (g := (mkF m 159 #[.val (.ref tb), .val (.long xk), .second, .val (.long dq), .second, .val (.int lk), .val (.int qk), .val (.int (0 : Int32)), .val (.int (1 : Int32))] [(.int (0 : Int32)), (.int fin), (.ref tb)])) rfl (by rw [hml]; rfl) (argsL := [(.int fin), (.int (0 : Int32))]) (rest := [(.ref tb)]) (lenOf pd_3 rfl) rfl (by show 2 * 0 + _ ≤ _; exact Nat.le_of_eq rfl) (hb hby d4_159) ?_
      intro v382 T382 L382 X382 hQ382
      obtain ⟨rfl, Nq382, he382⟩ := hQ382
      have N382 := Fr.app N379 Nq382
      have e382 : T382.heap = h379 := he382
      have f383 := (f378.wr W379)
      obtain ⟨T384, h384, X384, e384, W384, st384⟩ := putF X382 hx hZ hown (host := "") (Or.inl (hwi hw 36 rfl)) Via.refl e382 f380 f383 (Or.inl (hwi hw 37 rfl)) (hwi hw 1 rfl) (ty := .int) (by decide) rfl rfl (g := (mkF m 162 #[.val (.ref tb), .val (.long xk), .second, .val (.long dq), .second, .val (.int lk), .val (.int qk), .val (.int (0 : Int32)), .val (.int (1 : Int32))] [(.int (own_mn fin (0 : Int32))), (.ref tb)])) rfl rfl (hb hby d4_162)
      refine Run.pre st384 ?_
      have Fw384 := f380.same W384
      have K384 : Keep h0 h384 [tb, xo, xd, xl, xq, xh] := K379.wr W384 (Or.inl (by simp))
      have N384 := Fr.snoc X384 N382 g_tb
      show Run p e below s _ _ _ (T384.setTop (mkF m 165 #[.val (.ref tb), .val (.long xk), .second, .val (.long dq), .second, .val (.int lk), .val (.int qk), .val (.int (0 : Int32)), .val (.int (1 : Int32))] []))
      refine Run.pre (fun _ k => XS.iload X384.here hx rfl (hb hby d4_165) rfl  k) ?_
      have f385 := (f383.wr W384)
      have f386 := ((((((GGT0_1.other W357 (Or.inl ne_tb_xd)).other W362 (Or.inl ne_tb_xl)).other W367 (Or.inl ne_tb_xq)).other W375 (Or.inl ne_tb_xh)).other W379 (Or.inr (slot_ne (Or.inl (hwi hw 11 rfl)) (Or.inl (hwi hw 28 rfl)) (by decide) (t := (.array .long)) (t' := .int) (by decide) (by decide)))).other W384 (Or.inr (slot_ne (Or.inl (hwi hw 11 rfl)) (Or.inl (hwi hw 37 rfl)) (by decide) (t := (.array .long)) (t' := .int) (by decide) (by decide))))
      have f387 := ((((((GGT0_2.other W357 (Or.inl ne_tb_xd)).other W362 (Or.inl ne_tb_xl)).other W367 (Or.inl ne_tb_xq)).other W375 (Or.inl ne_tb_xh)).other W379 (Or.inr (slot_ne (Or.inl (hwi hw 13 rfl)) (Or.inl (hwi hw 28 rfl)) (by decide) (t := (.array .long)) (t' := .int) (by decide) (by decide)))).other W384 (Or.inr (slot_ne (Or.inl (hwi hw 13 rfl)) (Or.inl (hwi hw 37 rfl)) (by decide) (t := (.array .long)) (t' := .int) (by decide) (by decide))))
      have f388 := (((((f358.other W362 (Or.inl ne_tb_xl)).other W367 (Or.inl ne_tb_xq)).other W375 (Or.inl ne_tb_xh)).other W379 (Or.inr (slot_ne (Or.inl (hwi hw 16 rfl)) (Or.inl (hwi hw 28 rfl)) (by decide) (t := (.array .int)) (t' := .int) (by decide) (by decide)))).other W384 (Or.inr (slot_ne (Or.inl (hwi hw 16 rfl)) (Or.inl (hwi hw 37 rfl)) (by decide) (t := (.array .int)) (t' := .int) (by decide) (by decide))))
      have f389 := ((((f363.other W367 (Or.inl ne_tb_xq)).other W375 (Or.inl ne_tb_xh)).other W379 (Or.inr (slot_ne (Or.inl (hwi hw 18 rfl)) (Or.inl (hwi hw 28 rfl)) (by decide) (t := (.array .int)) (t' := .int) (by decide) (by decide)))).other W384 (Or.inr (slot_ne (Or.inl (hwi hw 18 rfl)) (Or.inl (hwi hw 37 rfl)) (by decide) (t := (.array .int)) (t' := .int) (by decide) (by decide))))
      have f390 := (((f368.other W375 (Or.inl ne_tb_xh)).other W379 (Or.inr (slot_ne (Or.inl (hwi hw 21 rfl)) (Or.inl (hwi hw 28 rfl)) (by decide) (t := (.array .boolean)) (t' := .int) (by decide) (by decide)))).other W384 (Or.inr (slot_ne (Or.inl (hwi hw 21 rfl)) (Or.inl (hwi hw 37 rfl)) (by decide) (t := (.array .boolean)) (t' := .int) (by decide) (by decide))))
      have f391 := ((((((GGT0_7.other W357 (Or.inl ne_tb_xd)).other W362 (Or.inl ne_tb_xl)).other W367 (Or.inl ne_tb_xq)).other W375 (Or.inl ne_tb_xh)).other W379 (Or.inr (slot_ne (Or.inl (hwi hw 35 rfl)) (Or.inl (hwi hw 28 rfl)) (by decide) (t := .int) (t' := .int) (by decide) (by decide)))).other W384 (Or.inr (slot_ne (Or.inl (hwi hw 35 rfl)) (Or.inl (hwi hw 37 rfl)) (by decide) (t := .int) (t' := .int) (by decide) (by decide))))
      have f392 := (Fw379.other W384 (Or.inr (slot_ne (Or.inl (hwi hw 28 rfl)) (Or.inl (hwi hw 37 rfl)) (by decide) (t := .int) (t' := .int) (by decide) (by decide))))
      have f393 := ((((((GGT0_9.other W357 ne_xo_xd).other W362 ne_xo_xl).other W367 ne_xo_xq).other W375 ne_xo_xh).other W379 (Ne.symm ne_tb_xo)).other W384 (Ne.symm ne_tb_xo))
      have f394 := (((((V_xd_357.other W362 ne_xd_xl).other W367 ne_xd_xq).other W375 ne_xd_xh).other W379 (Ne.symm ne_tb_xd)).other W384 (Ne.symm ne_tb_xd))
      have f395 := ((((V_xl_362.other W367 ne_xl_xq).other W375 ne_xl_xh).other W379 (Ne.symm ne_tb_xl)).other W384 (Ne.symm ne_tb_xl))
      have f396 := (((V_xq_367.other W375 ne_xq_xh).other W379 (Ne.symm ne_tb_xq)).other W384 (Ne.symm ne_tb_xq))
      have f397 := ((V_xh_375.other W379 (Ne.symm ne_tb_xh)).other W384 (Ne.symm ne_tb_xh))
      exact Run.retN X384 hx hret (t := .boolean) (by simp) hlk (hb hby d4_167) (by first | (rw [e384]; exact ⟨_, p0n, p1n, p2n, dq, d1n, d2n, lk, l1n, l2n, qk, q1n, q2n, (nar .boolean (1 : Int32)), b1n, b2n, (own_mn fin (0 : Int32)), enn, (sin + (1 : Int32)), rfl, N384, K384, ⟨f385, f386, f387, f388, f389, f390, Fw384, f391, f392, f393, f394, f395, f396, f397⟩, hfin.1 hc372⟩) | exact ⟨_, p0n, p1n, p2n, dq, d1n, d2n, lk, l1n, l2n, qk, q1n, q2n, (nar .boolean (1 : Int32)), b1n, b2n, (own_mn fin (0 : Int32)), enn, (sin + (1 : Int32)), rfl, N384, K384, ⟨f385, f386, f387, f388, f389, f390, Fw384, f391, f392, f393, f394, f395, f396, f397⟩, hfin.1 hc372⟩) (by decide) (by decide)
    · skip
      refine Run.pre (fun _ k => XS.ifYes X369.here hx rfl (pc0 := 119) (pc' := 126) rfl (hb hby d4_119) rfl ((if0 _ _).trans (feq (hc372 : ¬ (b0n = (0 : Int32)))).2) (by decide) (by decide) k) ?_
      refine Run.pre (fun _ k => XS.iconst X369.here hx rfl (hb hby d4_126) k) ?_
      refine Run.pre (fun _ k => XS.istore X369.here hx rfl (hb hby d4_127) rfl (l' := #[.val (.ref tb), .val (.long xk), .second, .val (.long dq), .second, .val (.int lk), .val (.int qk), .val (.int (0 : Int32)), .val (.int (0 : Int32))]) rfl k) ?_
      refine Run.pre (fun _ k => XS.iload X369.here hx rfl (hb hby d4_129) rfl  k) ?_
      refine Run.pre (fun _ k => XS.ifYes X369.here hx rfl (pc0 := 131) (pc' := 165) rfl (hb hby d4_131) rfl ((if0 _ _).trans (teq ((by decide) : (0 : Int32) = (0 : Int32))).1) (by decide) (by decide) k) ?_
      show Run p e below s _ _ _ (T369.setTop (mkF m 165 #[.val (.ref tb), .val (.long xk), .second, .val (.long dq), .second, .val (.int lk), .val (.int qk), .val (.int (0 : Int32)), .val (.int (0 : Int32))] []))
      refine Run.pre (fun _ k => XS.iload X369.here hx rfl (hb hby d4_165) rfl  k) ?_
      have f398 := (((GGT0_0.wr W357).wr W362).wr W367)
      have f399 := (((GGT0_1.other W357 (Or.inl ne_tb_xd)).other W362 (Or.inl ne_tb_xl)).other W367 (Or.inl ne_tb_xq))
      have f400 := (((GGT0_2.other W357 (Or.inl ne_tb_xd)).other W362 (Or.inl ne_tb_xl)).other W367 (Or.inl ne_tb_xq))
      have f401 := ((f358.other W362 (Or.inl ne_tb_xl)).other W367 (Or.inl ne_tb_xq))
      have f402 := (f363.other W367 (Or.inl ne_tb_xq))
      have f403 := (((GGT0_6.other W357 (Or.inl ne_tb_xd)).other W362 (Or.inl ne_tb_xl)).other W367 (Or.inl ne_tb_xq))
      have f404 := (((GGT0_7.other W357 (Or.inl ne_tb_xd)).other W362 (Or.inl ne_tb_xl)).other W367 (Or.inl ne_tb_xq))
      have f405 := (((GGT0_8.other W357 (Or.inl ne_tb_xd)).other W362 (Or.inl ne_tb_xl)).other W367 (Or.inl ne_tb_xq))
      have f406 := (((GGT0_9.other W357 ne_xo_xd).other W362 ne_xo_xl).other W367 ne_xo_xq)
      have f407 := ((V_xd_357.other W362 ne_xd_xl).other W367 ne_xd_xq)
      have f408 := (V_xl_362.other W367 ne_xl_xq)
      exact Run.retN X369 hx hret (t := .boolean) (by simp) hlk (hb hby d4_167) (by first | (rw [e369]; exact ⟨_, p0n, p1n, p2n, dq, d1n, d2n, lk, l1n, l2n, qk, q1n, q2n, b0n, b1n, b2n, fin, enn, sin, rfl, N367, K367, ⟨f398, f399, f400, f401, f402, f368, f403, f404, f405, f406, f407, f408, V_xq_367, f370⟩, hfin.2 hc372⟩) | exact ⟨_, p0n, p1n, p2n, dq, d1n, d2n, lk, l1n, l2n, qk, q1n, q2n, b0n, b1n, b2n, fin, enn, sin, rfl, N367, K367, ⟨f398, f399, f400, f401, f402, f368, f403, f404, f405, f406, f407, f408, V_xq_367, f370⟩, hfin.2 hc372⟩) (by decide) (by decide)
  have GT1 : ∀ (p0n : Int64) (p1n : Int64) (p2n : Int64) (d0n : Int64) (d1n : Int64) (d2n : Int64) (l0n : Int32) (l1n : Int32) (l2n : Int32) (q0n : Int32) (q1n : Int32) (q2n : Int32) (b0n : Int32) (b1n : Int32) (b2n : Int32) (fin : Int32) (enn : Int32) (sin : Int32) (TGT1 : State) (LcGT1 : List Loc) (hGT1 : Heap), (Stand p l e ({ frames := 4, cells := 0, slots := 0, locals := 67 } : Room) s m #[(.ref tb), (.long xk), (.long dq), (.int lk), (.int qk)] below meth c TGT1 LcGT1 0 0) → (TGT1.heap = hGT1) → (Fr n0 LcGT1) → (Keep h0 hGT1 [tb, xo, xd, xl, xq, xh]) → (Exa Z hGT1 tb "com/example/manana/manana/storage/WaitingTable") → (Fld Z hGT1 tb "com/example/manana/manana/storage/WaitingTable" "offsets" "[J" (.ref xo)) → (Fld Z hGT1 tb "com/example/manana/manana/storage/WaitingTable" "dues" "[J" (.ref xd)) → (Fld Z hGT1 tb "com/example/manana/manana/storage/WaitingTable" "lengths" "[I" (.ref xl)) → (Fld Z hGT1 tb "com/example/manana/manana/storage/WaitingTable" "queues" "[I" (.ref xq)) → (Fld Z hGT1 tb "com/example/manana/manana/storage/WaitingTable" "held" "[Z" (.ref xh)) → (Fld Z hGT1 tb "com/example/manana/manana/storage/WaitingTable" "first" "I" (.int fin)) → (Fld Z hGT1 tb "com/example/manana/manana/storage/WaitingTable" "end" "I" (.int enn)) → (Fld Z hGT1 tb "com/example/manana/manana/storage/WaitingTable" "size" "I" (.int sin)) → (Arv Z hGT1 xo ko .long 16 (own_LJ p0n p1n p2n) (.long (0 : Int64))) → (Arv Z hGT1 xd kd .long 16 (own_LJ d0n d1n d2n) (.long (0 : Int64))) → (Arv Z hGT1 xl kl .int 16 (own_LI l0n l1n l2n) (.int (0 : Int32))) → (Arv Z hGT1 xq kq .int 16 (own_LI q0n q1n q2n) (.int (0 : Int32))) → (Arv Z hGT1 xh kh .boolean 16 (own_LI b0n b1n b2n) (.int (0 : Int32))) → ((b1n = 0 → own_RQ (own_all b0 b1 b2 fi en) en (fun x => S x ∨ x = xk) p0n p1n p2n b0n (nar .boolean (1 : Int32)) b2n (own_mn fin 1) enn (sin + 1)) ∧ (¬ b1n = 0 → own_RQ (own_all b0 b1 b2 fi en) en (fun x => S x ∨ x = xk) p0n p1n p2n b0n b1n b2n fin enn sin)) → Run p e below s (fun v h L => ∃ rr : Int32, ∃ p0n : Int64, ∃ p1n : Int64, ∃ p2n : Int64, ∃ d0n : Int64, ∃ d1n : Int64, ∃ d2n : Int64, ∃ l0n : Int32, ∃ l1n : Int32, ∃ l2n : Int32, ∃ q0n : Int32, ∃ q1n : Int32, ∃ q2n : Int32, ∃ b0n : Int32, ∃ b1n : Int32, ∃ b2n : Int32, ∃ fin : Int32, ∃ enn : Int32, ∃ sin : Int32, v = some (.int rr) ∧ Fr n0 L ∧ Keep h0 h [tb, xo, xd, xl, xq, xh] ∧ own_H Z h tb xo xd xl xq xh ko kd kl kq kh p0n p1n p2n d0n d1n d2n l0n l1n l2n q0n q1n q2n b0n b1n b2n fin enn sin ∧ own_RQ (own_all b0 b1 b2 fi en) en (fun x => S x ∨ x = xk) p0n p1n p2n b0n b1n b2n fin enn sin) ({ frames := 4, cells := 0, slots := 0, locals := 67 } : Room).cells ({ frames := 4, cells := 0, slots := 0, locals := 67 } : Room).slots (TGT1.setTop (mkF m 86 #[.val (.ref tb), .val (.long xk), .second, .val (.long dq), .second, .val (.int lk), .val (.int qk), .val (.int (1 : Int32)), .unset] [])) := by
    intro p0n p1n p2n d0n d1n d2n l0n l1n l2n q0n q1n q2n b0n b1n b2n fin enn sin TGT1 LcGT1 hGT1 XGT1 eGT1 NGT1 KGT1 GGT1_0 GGT1_1 GGT1_2 GGT1_3 GGT1_4 GGT1_5 GGT1_6 GGT1_7 GGT1_8 GGT1_9 GGT1_10 GGT1_11 GGT1_12 GGT1_13 hfin
    show Run p e below s _ _ _ (TGT1.setTop (mkF m 86 #[.val (.ref tb), .val (.long xk), .second, .val (.long dq), .second, .val (.int lk), .val (.int qk), .val (.int (1 : Int32)), .unset] []))
    refine Run.pre (fun _ k => XS.aloadN XGT1.here hx rfl (hb hby d4_86) rfl rfl k) ?_
    obtain ⟨T409, X409, e409, st409⟩ := getF XGT1 hx hZ hown (host := "") (Or.inl (hwi hw 12 rfl)) Via.refl eGT1 GGT1_2 (g := (mkF m 87 #[.val (.ref tb), .val (.long xk), .second, .val (.long dq), .second, .val (.int lk), .val (.int qk), .val (.int (1 : Int32)), .unset] [(.ref tb)])) rfl rfl (hb hby d4_87)
    refine Run.pre st409 ?_
    refine Run.pre (fun _ k => XS.iload X409.here hx rfl (hb hby d4_90) rfl  k) ?_
    refine Run.pre (fun _ k => XS.lloadN X409.here hx rfl (hb hby d4_92) rfl  k) ?_
    obtain ⟨c410, Ar410, q410, S410, N410, H410, G410⟩ := id GGT1_10
    have hin410 : ¬ ((1 : Int32) < 0 ∨ c410.slots.size ≤ ((1 : Int32)).toNatClampNeg) := inb_of S410 ⟨by decide, by decide⟩
    obtain ⟨T411, h411, X411, e411, W411, st411⟩ := stJ X409 hx hZ e409 Ar410 (j := (1 : Int32)) hin410 (g := (mkF m 93 #[.val (.ref tb), .val (.long xk), .second, .val (.long dq), .second, .val (.int lk), .val (.int qk), .val (.int (1 : Int32)), .unset] [(.long dq), (.int (1 : Int32)), (.ref xd)])) rfl rfl (hb hby d4_93)
    refine Run.pre st411 ?_
    have V_xd_411 : Arv Z h411 xd kd .long (16 : Int32) (own_LJ d0n dq d2n) (.long (0 : Int64)) := Arv.set Ar410 q410 S410 N410 H410 G410 rfl W411 1 rfl (Nat.le_of_ble_eq_true rfl)
    have K411 : Keep h0 h411 [tb, xo, xd, xl, xq, xh] := KGT1.wr W411 (Or.inl (by simp))
    have N411 := Fr.snoc X411 NGT1 g_xd
    refine Run.pre (fun _ k => XS.aloadN X411.here hx rfl (hb hby d4_94) rfl rfl k) ?_
    show Run p e below s _ _ _ (T411.setTop (mkF m 95 #[.val (.ref tb), .val (.long xk), .second, .val (.long dq), .second, .val (.int lk), .val (.int qk), .val (.int (1 : Int32)), .unset] [(.ref tb)]))
    have f412 := (GGT1_3.other W411 (Or.inl ne_tb_xd))
    obtain ⟨T413, X413, e413, st413⟩ := getF X411 hx hZ hown (host := "") (Or.inl (hwi hw 15 rfl)) Via.refl e411 f412 (g := (mkF m 95 #[.val (.ref tb), .val (.long xk), .second, .val (.long dq), .second, .val (.int lk), .val (.int qk), .val (.int (1 : Int32)), .unset] [(.ref tb)])) rfl rfl (hb hby d4_95)
    refine Run.pre st413 ?_
    refine Run.pre (fun _ k => XS.iload X413.here hx rfl (hb hby d4_98) rfl  k) ?_
    refine Run.pre (fun _ k => XS.iload X413.here hx rfl (hb hby d4_100) rfl  k) ?_
    have f414 := (GGT1_11.other W411 (Ne.symm ne_xd_xl))
    obtain ⟨c415, Ar415, q415, S415, N415, H415, G415⟩ := id f414
    have hin415 : ¬ ((1 : Int32) < 0 ∨ c415.slots.size ≤ ((1 : Int32)).toNatClampNeg) := inb_of S415 ⟨by decide, by decide⟩
    obtain ⟨T416, h416, X416, e416, W416, st416⟩ := stI X413 hx hZ e413 Ar415 (j := (1 : Int32)) hin415 (g := (mkF m 102 #[.val (.ref tb), .val (.long xk), .second, .val (.long dq), .second, .val (.int lk), .val (.int qk), .val (.int (1 : Int32)), .unset] [(.int lk), (.int (1 : Int32)), (.ref xl)])) rfl rfl (hb hby d4_102)
    refine Run.pre st416 ?_
    have V_xl_416 : Arv Z h416 xl kl .int (16 : Int32) (own_LI l0n lk l2n) (.int (0 : Int32)) := Arv.set Ar415 q415 S415 N415 H415 G415 rfl W416 1 rfl (Nat.le_of_ble_eq_true rfl)
    have K416 : Keep h0 h416 [tb, xo, xd, xl, xq, xh] := K411.wr W416 (Or.inl (by simp))
    have N416 := Fr.snoc X416 N411 g_xl
    refine Run.pre (fun _ k => XS.aloadN X416.here hx rfl (hb hby d4_103) rfl rfl k) ?_
    have f417 := ((GGT1_4.other W411 (Or.inl ne_tb_xd)).other W416 (Or.inl ne_tb_xl))
    obtain ⟨T418, X418, e418, st418⟩ := getF X416 hx hZ hown (host := "") (Or.inl (hwi hw 17 rfl)) Via.refl e416 f417 (g := (mkF m 104 #[.val (.ref tb), .val (.long xk), .second, .val (.long dq), .second, .val (.int lk), .val (.int qk), .val (.int (1 : Int32)), .unset] [(.ref tb)])) rfl rfl (hb hby d4_104)
    refine Run.pre st418 ?_
    show Run p e below s _ _ _ (T418.setTop (mkF m 107 #[.val (.ref tb), .val (.long xk), .second, .val (.long dq), .second, .val (.int lk), .val (.int qk), .val (.int (1 : Int32)), .unset] [(.ref xq)]))
    refine Run.pre (fun _ k => XS.iload X418.here hx rfl (hb hby d4_107) rfl  k) ?_
    refine Run.pre (fun _ k => XS.iload X418.here hx rfl (hb hby d4_109) rfl  k) ?_
    have f419 := ((GGT1_12.other W411 (Ne.symm ne_xd_xq)).other W416 (Ne.symm ne_xl_xq))
    obtain ⟨c420, Ar420, q420, S420, N420, H420, G420⟩ := id f419
    have hin420 : ¬ ((1 : Int32) < 0 ∨ c420.slots.size ≤ ((1 : Int32)).toNatClampNeg) := inb_of S420 ⟨by decide, by decide⟩
    obtain ⟨T421, h421, X421, e421, W421, st421⟩ := stI X418 hx hZ e418 Ar420 (j := (1 : Int32)) hin420 (g := (mkF m 111 #[.val (.ref tb), .val (.long xk), .second, .val (.long dq), .second, .val (.int lk), .val (.int qk), .val (.int (1 : Int32)), .unset] [(.int qk), (.int (1 : Int32)), (.ref xq)])) rfl rfl (hb hby d4_111)
    refine Run.pre st421 ?_
    have V_xq_421 : Arv Z h421 xq kq .int (16 : Int32) (own_LI q0n qk q2n) (.int (0 : Int32)) := Arv.set Ar420 q420 S420 N420 H420 G420 rfl W421 1 rfl (Nat.le_of_ble_eq_true rfl)
    have K421 : Keep h0 h421 [tb, xo, xd, xl, xq, xh] := K416.wr W421 (Or.inl (by simp))
    have N421 := Fr.snoc X421 N416 g_xq
    refine Run.pre (fun _ k => XS.aloadN X421.here hx rfl (hb hby d4_112) rfl rfl k) ?_
    have f422 := (((GGT1_5.other W411 (Or.inl ne_tb_xd)).other W416 (Or.inl ne_tb_xl)).other W421 (Or.inl ne_tb_xq))
    obtain ⟨T423, X423, e423, st423⟩ := getF X421 hx hZ hown (host := "") (Or.inl (hwi hw 20 rfl)) Via.refl e421 f422 (g := (mkF m 113 #[.val (.ref tb), .val (.long xk), .second, .val (.long dq), .second, .val (.int lk), .val (.int qk), .val (.int (1 : Int32)), .unset] [(.ref tb)])) rfl rfl (hb hby d4_113)
    refine Run.pre st423 ?_
    refine Run.pre (fun _ k => XS.iload X423.here hx rfl (hb hby d4_116) rfl  k) ?_
    show Run p e below s _ _ _ (T423.setTop (mkF m 118 #[.val (.ref tb), .val (.long xk), .second, .val (.long dq), .second, .val (.int lk), .val (.int qk), .val (.int (1 : Int32)), .unset] [(.int (1 : Int32)), (.ref xh)]))
    have f424 := (((GGT1_13.other W411 (Ne.symm ne_xd_xh)).other W416 (Ne.symm ne_xl_xh)).other W421 (Ne.symm ne_xq_xh))
    obtain ⟨c425, Ar425, -, S425, N425, H425, -⟩ := id f424
    have hin425 : ¬ ((1 : Int32) < 0 ∨ c425.slots.size ≤ ((1 : Int32)).toNatClampNeg) := inb_of S425 ⟨by decide, by decide⟩
    refine Run.pre (X423.baloadBooleans hx (j := (1 : Int32)) (v := (.int b1n)) (by rw [e423]; exact Ar425.1) (State.isArrayOf_alike hZ.alike Ar425.2.1) Ar425.2.2 hin425 (H425.at hin425 rfl) (g := (mkF m 118 #[.val (.ref tb), .val (.long xk), .second, .val (.long dq), .second, .val (.int lk), .val (.int qk), .val (.int (1 : Int32)), .unset] [(.int (1 : Int32)), (.ref xh)])) rfl rfl (hb hby d4_118)) ?_
    by_cases hc426 : b1n = (0 : Int32)
    · skip
      refine Run.pre (fun _ k => XS.ifNo X423.here hx rfl (hb hby d4_119) rfl ((if0 _ _).trans (teq (hc426 : b1n = (0 : Int32))).2) k) ?_
      refine Run.pre (fun _ k => XS.iconst X423.here hx rfl (hb hby d4_122) k) ?_
      refine Run.pre (fun _ k => XS.goto X423.here hx rfl (pc0 := 123) (pc' := 127) rfl (hb hby d4_123) (by decide) (by decide) k) ?_
      refine Run.pre (fun _ k => XS.istore X423.here hx rfl (hb hby d4_127) rfl (l' := #[.val (.ref tb), .val (.long xk), .second, .val (.long dq), .second, .val (.int lk), .val (.int qk), .val (.int (1 : Int32)), .val (.int (1 : Int32))]) rfl k) ?_
      refine Run.pre (fun _ k => XS.iload X423.here hx rfl (hb hby d4_129) rfl  k) ?_
      show Run p e below s _ _ _ (T423.setTop (mkF m 131 #[.val (.ref tb), .val (.long xk), .second, .val (.long dq), .second, .val (.int lk), .val (.int qk), .val (.int (1 : Int32)), .val (.int (1 : Int32))] [(.int (1 : Int32))]))
      refine Run.pre (fun _ k => XS.ifNo X423.here hx rfl (hb hby d4_131) rfl ((if0 _ _).trans (feq ((by decide) : ¬ ((1 : Int32) = (0 : Int32)))).1) k) ?_
      refine Run.pre (fun _ k => XS.aloadN X423.here hx rfl (hb hby d4_134) rfl rfl k) ?_
      obtain ⟨T427, X427, e427, st427⟩ := getF X423 hx hZ hown (host := "") (Or.inl (hwi hw 20 rfl)) Via.refl e423 f422 (g := (mkF m 135 #[.val (.ref tb), .val (.long xk), .second, .val (.long dq), .second, .val (.int lk), .val (.int qk), .val (.int (1 : Int32)), .val (.int (1 : Int32))] [(.ref tb)])) rfl rfl (hb hby d4_135)
      refine Run.pre st427 ?_
      refine Run.pre (fun _ k => XS.iload X427.here hx rfl (hb hby d4_138) rfl  k) ?_
      refine Run.pre (fun _ k => XS.iconst X427.here hx rfl (hb hby d4_140) k) ?_
      obtain ⟨c428, Ar428, q428, S428, N428, H428, G428⟩ := id f424
      have hin428 : ¬ ((1 : Int32) < 0 ∨ c428.slots.size ≤ ((1 : Int32)).toNatClampNeg) := inb_of S428 ⟨by decide, by decide⟩
      obtain ⟨T429, h429, X429, e429, W429, st429⟩ := stZ X427 hx hZ e427 Ar428 (j := (1 : Int32)) hin428 (g := (mkF m 141 #[.val (.ref tb), .val (.long xk), .second, .val (.long dq), .second, .val (.int lk), .val (.int qk), .val (.int (1 : Int32)), .val (.int (1 : Int32))] [(.int (1 : Int32)), (.int (1 : Int32)), (.ref xh)])) rfl rfl (hb hby d4_141)
      refine Run.pre st429 ?_
      have V_xh_429 : Arv Z h429 xh kh .boolean (16 : Int32) (own_LI b0n (nar .boolean (1 : Int32)) b2n) (.int (0 : Int32)) := Arv.set Ar428 q428 S428 N428 H428 G428 (fits_nar_bool _) W429 1 rfl (Nat.le_of_ble_eq_true rfl)
      have K429 : Keep h0 h429 [tb, xo, xd, xl, xq, xh] := K421.wr W429 (Or.inl (by simp))
      have N429 := Fr.snoc X429 N421 g_xh
      show Run p e below s _ _ _ (T429.setTop (mkF m 142 #[.val (.ref tb), .val (.long xk), .second, .val (.long dq), .second, .val (.int lk), .val (.int qk), .val (.int (1 : Int32)), .val (.int (1 : Int32))] []))
      refine Run.pre (fun _ k => XS.aloadN X429.here hx rfl (hb hby d4_142) rfl rfl k) ?_
      refine Run.pre (fun _ k => XS.dup X429.here hx rfl (hb hby d4_143) rfl rfl k) ?_
      have f430 := ((((GGT1_8.other W411 (Or.inl ne_tb_xd)).other W416 (Or.inl ne_tb_xl)).other W421 (Or.inl ne_tb_xq)).other W429 (Or.inl ne_tb_xh))
      obtain ⟨T431, X431, e431, st431⟩ := getF X429 hx hZ hown (host := "") (Or.inl (hwi hw 27 rfl)) Via.refl e429 f430 (g := (mkF m 144 #[.val (.ref tb), .val (.long xk), .second, .val (.long dq), .second, .val (.int lk), .val (.int qk), .val (.int (1 : Int32)), .val (.int (1 : Int32))] [(.ref tb), (.ref tb)])) rfl rfl (hb hby d4_144)
      refine Run.pre st431 ?_
      refine Run.pre (fun _ k => XS.iconst X431.here hx rfl (hb hby d4_147) k) ?_
      refine Run.pre (fun _ k => XS.iadd X431.here hx rfl (hb hby d4_148) rfl k) ?_
      have f432 := ((((GGT1_0.wr W411).wr W416).wr W421).wr W429)
      obtain ⟨T433, h433, X433, e433, W433, st433⟩ := putF X431 hx hZ hown (host := "") (Or.inl (hwi hw 27 rfl)) Via.refl e431 f430 f432 (Or.inl (hwi hw 28 rfl)) (hwi hw 1 rfl) (ty := .int) (by decide) rfl rfl (g := (mkF m 149 #[.val (.ref tb), .val (.long xk), .second, .val (.long dq), .second, .val (.int lk), .val (.int qk), .val (.int (1 : Int32)), .val (.int (1 : Int32))] [(.int (sin + (1 : Int32))), (.ref tb)])) rfl rfl (hb hby d4_149)
      refine Run.pre st433 ?_
      have Fw433 := f430.same W433
      have K433 : Keep h0 h433 [tb, xo, xd, xl, xq, xh] := K429.wr W433 (Or.inl (by simp))
      have N433 := Fr.snoc X433 N429 g_tb
      show Run p e below s _ _ _ (T433.setTop (mkF m 152 #[.val (.ref tb), .val (.long xk), .second, .val (.long dq), .second, .val (.int lk), .val (.int qk), .val (.int (1 : Int32)), .val (.int (1 : Int32))] []))
      refine Run.pre (fun _ k => XS.aloadN X433.here hx rfl (hb hby d4_152) rfl rfl k) ?_
      refine Run.pre (fun _ k => XS.aloadN X433.here hx rfl (hb hby d4_153) rfl rfl k) ?_
      have f434 := (((((GGT1_6.other W411 (Or.inl ne_tb_xd)).other W416 (Or.inl ne_tb_xl)).other W421 (Or.inl ne_tb_xq)).other W429 (Or.inl ne_tb_xh)).other W433 (Or.inr (slot_ne (Or.inl (hwi hw 37 rfl)) (Or.inl (hwi hw 28 rfl)) (by decide) (t := .int) (t' := .int) (by decide) (by decide))))
      obtain ⟨T435, X435, e435, st435⟩ := getF X433 hx hZ hown (host := "") (Or.inl (hwi hw 36 rfl)) Via.refl e433 f434 (g := (mkF m 154 #[.val (.ref tb), .val (.long xk), .second, .val (.long dq), .second, .val (.int lk), .val (.int qk), .val (.int (1 : Int32)), .val (.int (1 : Int32))] [(.ref tb), (.ref tb)])) rfl rfl (hb hby d4_154)
      refine Run.pre st435 ?_
      refine Run.pre (fun _ k => XS.iload X435.here hx rfl (hb hby d4_157) rfl  k) ?_
      refine Run.callS X435 hx hZ (y := (⟨"java/lang/Math", "min", "(II)I"⟩ : MethodName)) hown (hwi hw 38 rfl) (hwi hw 39 rfl) (hwi hw 40 rfl) (hwi hw 41 rfl) (by decide) (W := 1) (rmMn l Z a0 hw fin (1 : Int32) h433 n0 (Nat.le_trans Z0 K433.1)) e435 (by decide) (by decide) (by decide) (by decide) (g := (mkF m 159 #[.val (.ref tb), .val (.long xk), .second, .val (.long dq), .second, .val (.int lk), .val (.int qk), .val (.int (1 : Int32)), .val (.int (1 : Int32))] [(.int (1 : Int32)), (.int fin), (.ref tb)])) rfl (by rw [hml]; rfl) (argsL := [(.int fin), (.int (1 : Int32))]) (rest := [(.ref tb)]) (lenOf pd_3 rfl) rfl (by show 2 * 0 + _ ≤ _; exact Nat.le_of_eq rfl) (hb hby d4_159) ?_
      intro v436 T436 L436 X436 hQ436
      obtain ⟨rfl, Nq436, he436⟩ := hQ436
      have N436 := Fr.app N433 Nq436
      have e436 : T436.heap = h433 := he436
      have f437 := (f432.wr W433)
      obtain ⟨T438, h438, X438, e438, W438, st438⟩ := putF X436 hx hZ hown (host := "") (Or.inl (hwi hw 36 rfl)) Via.refl e436 f434 f437 (Or.inl (hwi hw 37 rfl)) (hwi hw 1 rfl) (ty := .int) (by decide) rfl rfl (g := (mkF m 162 #[.val (.ref tb), .val (.long xk), .second, .val (.long dq), .second, .val (.int lk), .val (.int qk), .val (.int (1 : Int32)), .val (.int (1 : Int32))] [(.int (own_mn fin (1 : Int32))), (.ref tb)])) rfl rfl (hb hby d4_162)
      refine Run.pre st438 ?_
      have Fw438 := f434.same W438
      have K438 : Keep h0 h438 [tb, xo, xd, xl, xq, xh] := K433.wr W438 (Or.inl (by simp))
      have N438 := Fr.snoc X438 N436 g_tb
      show Run p e below s _ _ _ (T438.setTop (mkF m 165 #[.val (.ref tb), .val (.long xk), .second, .val (.long dq), .second, .val (.int lk), .val (.int qk), .val (.int (1 : Int32)), .val (.int (1 : Int32))] []))
      refine Run.pre (fun _ k => XS.iload X438.here hx rfl (hb hby d4_165) rfl  k) ?_
      have f439 := (f437.wr W438)
      have f440 := ((((((GGT1_1.other W411 (Or.inl ne_tb_xd)).other W416 (Or.inl ne_tb_xl)).other W421 (Or.inl ne_tb_xq)).other W429 (Or.inl ne_tb_xh)).other W433 (Or.inr (slot_ne (Or.inl (hwi hw 11 rfl)) (Or.inl (hwi hw 28 rfl)) (by decide) (t := (.array .long)) (t' := .int) (by decide) (by decide)))).other W438 (Or.inr (slot_ne (Or.inl (hwi hw 11 rfl)) (Or.inl (hwi hw 37 rfl)) (by decide) (t := (.array .long)) (t' := .int) (by decide) (by decide))))
      have f441 := ((((((GGT1_2.other W411 (Or.inl ne_tb_xd)).other W416 (Or.inl ne_tb_xl)).other W421 (Or.inl ne_tb_xq)).other W429 (Or.inl ne_tb_xh)).other W433 (Or.inr (slot_ne (Or.inl (hwi hw 13 rfl)) (Or.inl (hwi hw 28 rfl)) (by decide) (t := (.array .long)) (t' := .int) (by decide) (by decide)))).other W438 (Or.inr (slot_ne (Or.inl (hwi hw 13 rfl)) (Or.inl (hwi hw 37 rfl)) (by decide) (t := (.array .long)) (t' := .int) (by decide) (by decide))))
      have f442 := (((((f412.other W416 (Or.inl ne_tb_xl)).other W421 (Or.inl ne_tb_xq)).other W429 (Or.inl ne_tb_xh)).other W433 (Or.inr (slot_ne (Or.inl (hwi hw 16 rfl)) (Or.inl (hwi hw 28 rfl)) (by decide) (t := (.array .int)) (t' := .int) (by decide) (by decide)))).other W438 (Or.inr (slot_ne (Or.inl (hwi hw 16 rfl)) (Or.inl (hwi hw 37 rfl)) (by decide) (t := (.array .int)) (t' := .int) (by decide) (by decide))))
      have f443 := ((((f417.other W421 (Or.inl ne_tb_xq)).other W429 (Or.inl ne_tb_xh)).other W433 (Or.inr (slot_ne (Or.inl (hwi hw 18 rfl)) (Or.inl (hwi hw 28 rfl)) (by decide) (t := (.array .int)) (t' := .int) (by decide) (by decide)))).other W438 (Or.inr (slot_ne (Or.inl (hwi hw 18 rfl)) (Or.inl (hwi hw 37 rfl)) (by decide) (t := (.array .int)) (t' := .int) (by decide) (by decide))))
      have f444 := (((f422.other W429 (Or.inl ne_tb_xh)).other W433 (Or.inr (slot_ne (Or.inl (hwi hw 21 rfl)) (Or.inl (hwi hw 28 rfl)) (by decide) (t := (.array .boolean)) (t' := .int) (by decide) (by decide)))).other W438 (Or.inr (slot_ne (Or.inl (hwi hw 21 rfl)) (Or.inl (hwi hw 37 rfl)) (by decide) (t := (.array .boolean)) (t' := .int) (by decide) (by decide))))
      have f445 := ((((((GGT1_7.other W411 (Or.inl ne_tb_xd)).other W416 (Or.inl ne_tb_xl)).other W421 (Or.inl ne_tb_xq)).other W429 (Or.inl ne_tb_xh)).other W433 (Or.inr (slot_ne (Or.inl (hwi hw 35 rfl)) (Or.inl (hwi hw 28 rfl)) (by decide) (t := .int) (t' := .int) (by decide) (by decide)))).other W438 (Or.inr (slot_ne (Or.inl (hwi hw 35 rfl)) (Or.inl (hwi hw 37 rfl)) (by decide) (t := .int) (t' := .int) (by decide) (by decide))))
      have f446 := (Fw433.other W438 (Or.inr (slot_ne (Or.inl (hwi hw 28 rfl)) (Or.inl (hwi hw 37 rfl)) (by decide) (t := .int) (t' := .int) (by decide) (by decide))))
      have f447 := ((((((GGT1_9.other W411 ne_xo_xd).other W416 ne_xo_xl).other W421 ne_xo_xq).other W429 ne_xo_xh).other W433 (Ne.symm ne_tb_xo)).other W438 (Ne.symm ne_tb_xo))
      have f448 := (((((V_xd_411.other W416 ne_xd_xl).other W421 ne_xd_xq).other W429 ne_xd_xh).other W433 (Ne.symm ne_tb_xd)).other W438 (Ne.symm ne_tb_xd))
      have f449 := ((((V_xl_416.other W421 ne_xl_xq).other W429 ne_xl_xh).other W433 (Ne.symm ne_tb_xl)).other W438 (Ne.symm ne_tb_xl))
      have f450 := (((V_xq_421.other W429 ne_xq_xh).other W433 (Ne.symm ne_tb_xq)).other W438 (Ne.symm ne_tb_xq))
      have f451 := ((V_xh_429.other W433 (Ne.symm ne_tb_xh)).other W438 (Ne.symm ne_tb_xh))
      exact Run.retN X438 hx hret (t := .boolean) (by simp) hlk (hb hby d4_167) (by first | (rw [e438]; exact ⟨_, p0n, p1n, p2n, d0n, dq, d2n, l0n, lk, l2n, q0n, qk, q2n, b0n, (nar .boolean (1 : Int32)), b2n, (own_mn fin (1 : Int32)), enn, (sin + (1 : Int32)), rfl, N438, K438, ⟨f439, f440, f441, f442, f443, f444, Fw438, f445, f446, f447, f448, f449, f450, f451⟩, hfin.1 hc426⟩) | exact ⟨_, p0n, p1n, p2n, d0n, dq, d2n, l0n, lk, l2n, q0n, qk, q2n, b0n, (nar .boolean (1 : Int32)), b2n, (own_mn fin (1 : Int32)), enn, (sin + (1 : Int32)), rfl, N438, K438, ⟨f439, f440, f441, f442, f443, f444, Fw438, f445, f446, f447, f448, f449, f450, f451⟩, hfin.1 hc426⟩) (by decide) (by decide)
    · skip
      refine Run.pre (fun _ k => XS.ifYes X423.here hx rfl (pc0 := 119) (pc' := 126) rfl (hb hby d4_119) rfl ((if0 _ _).trans (feq (hc426 : ¬ (b1n = (0 : Int32)))).2) (by decide) (by decide) k) ?_
      refine Run.pre (fun _ k => XS.iconst X423.here hx rfl (hb hby d4_126) k) ?_
      refine Run.pre (fun _ k => XS.istore X423.here hx rfl (hb hby d4_127) rfl (l' := #[.val (.ref tb), .val (.long xk), .second, .val (.long dq), .second, .val (.int lk), .val (.int qk), .val (.int (1 : Int32)), .val (.int (0 : Int32))]) rfl k) ?_
      refine Run.pre (fun _ k => XS.iload X423.here hx rfl (hb hby d4_129) rfl  k) ?_
      refine Run.pre (fun _ k => XS.ifYes X423.here hx rfl (pc0 := 131) (pc' := 165) rfl (hb hby d4_131) rfl ((if0 _ _).trans (teq ((by decide) : (0 : Int32) = (0 : Int32))).1) (by decide) (by decide) k) ?_
      show Run p e below s _ _ _ (T423.setTop (mkF m 165 #[.val (.ref tb), .val (.long xk), .second, .val (.long dq), .second, .val (.int lk), .val (.int qk), .val (.int (1 : Int32)), .val (.int (0 : Int32))] []))
      refine Run.pre (fun _ k => XS.iload X423.here hx rfl (hb hby d4_165) rfl  k) ?_
      have f452 := (((GGT1_0.wr W411).wr W416).wr W421)
      have f453 := (((GGT1_1.other W411 (Or.inl ne_tb_xd)).other W416 (Or.inl ne_tb_xl)).other W421 (Or.inl ne_tb_xq))
      have f454 := (((GGT1_2.other W411 (Or.inl ne_tb_xd)).other W416 (Or.inl ne_tb_xl)).other W421 (Or.inl ne_tb_xq))
      have f455 := ((f412.other W416 (Or.inl ne_tb_xl)).other W421 (Or.inl ne_tb_xq))
      have f456 := (f417.other W421 (Or.inl ne_tb_xq))
      have f457 := (((GGT1_6.other W411 (Or.inl ne_tb_xd)).other W416 (Or.inl ne_tb_xl)).other W421 (Or.inl ne_tb_xq))
      have f458 := (((GGT1_7.other W411 (Or.inl ne_tb_xd)).other W416 (Or.inl ne_tb_xl)).other W421 (Or.inl ne_tb_xq))
      have f459 := (((GGT1_8.other W411 (Or.inl ne_tb_xd)).other W416 (Or.inl ne_tb_xl)).other W421 (Or.inl ne_tb_xq))
      have f460 := (((GGT1_9.other W411 ne_xo_xd).other W416 ne_xo_xl).other W421 ne_xo_xq)
      have f461 := ((V_xd_411.other W416 ne_xd_xl).other W421 ne_xd_xq)
      have f462 := (V_xl_416.other W421 ne_xl_xq)
      exact Run.retN X423 hx hret (t := .boolean) (by simp) hlk (hb hby d4_167) (by first | (rw [e423]; exact ⟨_, p0n, p1n, p2n, d0n, dq, d2n, l0n, lk, l2n, q0n, qk, q2n, b0n, b1n, b2n, fin, enn, sin, rfl, N421, K421, ⟨f452, f453, f454, f455, f456, f422, f457, f458, f459, f460, f461, f462, V_xq_421, f424⟩, hfin.2 hc426⟩) | exact ⟨_, p0n, p1n, p2n, d0n, dq, d2n, l0n, lk, l2n, q0n, qk, q2n, b0n, b1n, b2n, fin, enn, sin, rfl, N421, K421, ⟨f452, f453, f454, f455, f456, f422, f457, f458, f459, f460, f461, f462, V_xq_421, f424⟩, hfin.2 hc426⟩) (by decide) (by decide)
  have GT2 : ∀ (p0n : Int64) (p1n : Int64) (p2n : Int64) (d0n : Int64) (d1n : Int64) (d2n : Int64) (l0n : Int32) (l1n : Int32) (l2n : Int32) (q0n : Int32) (q1n : Int32) (q2n : Int32) (b0n : Int32) (b1n : Int32) (b2n : Int32) (fin : Int32) (enn : Int32) (sin : Int32) (TGT2 : State) (LcGT2 : List Loc) (hGT2 : Heap), (Stand p l e ({ frames := 4, cells := 0, slots := 0, locals := 67 } : Room) s m #[(.ref tb), (.long xk), (.long dq), (.int lk), (.int qk)] below meth c TGT2 LcGT2 0 0) → (TGT2.heap = hGT2) → (Fr n0 LcGT2) → (Keep h0 hGT2 [tb, xo, xd, xl, xq, xh]) → (Exa Z hGT2 tb "com/example/manana/manana/storage/WaitingTable") → (Fld Z hGT2 tb "com/example/manana/manana/storage/WaitingTable" "offsets" "[J" (.ref xo)) → (Fld Z hGT2 tb "com/example/manana/manana/storage/WaitingTable" "dues" "[J" (.ref xd)) → (Fld Z hGT2 tb "com/example/manana/manana/storage/WaitingTable" "lengths" "[I" (.ref xl)) → (Fld Z hGT2 tb "com/example/manana/manana/storage/WaitingTable" "queues" "[I" (.ref xq)) → (Fld Z hGT2 tb "com/example/manana/manana/storage/WaitingTable" "held" "[Z" (.ref xh)) → (Fld Z hGT2 tb "com/example/manana/manana/storage/WaitingTable" "first" "I" (.int fin)) → (Fld Z hGT2 tb "com/example/manana/manana/storage/WaitingTable" "end" "I" (.int enn)) → (Fld Z hGT2 tb "com/example/manana/manana/storage/WaitingTable" "size" "I" (.int sin)) → (Arv Z hGT2 xo ko .long 16 (own_LJ p0n p1n p2n) (.long (0 : Int64))) → (Arv Z hGT2 xd kd .long 16 (own_LJ d0n d1n d2n) (.long (0 : Int64))) → (Arv Z hGT2 xl kl .int 16 (own_LI l0n l1n l2n) (.int (0 : Int32))) → (Arv Z hGT2 xq kq .int 16 (own_LI q0n q1n q2n) (.int (0 : Int32))) → (Arv Z hGT2 xh kh .boolean 16 (own_LI b0n b1n b2n) (.int (0 : Int32))) → ((b2n = 0 → own_RQ (own_all b0 b1 b2 fi en) en (fun x => S x ∨ x = xk) p0n p1n p2n b0n b1n (nar .boolean (1 : Int32)) (own_mn fin 2) enn (sin + 1)) ∧ (¬ b2n = 0 → own_RQ (own_all b0 b1 b2 fi en) en (fun x => S x ∨ x = xk) p0n p1n p2n b0n b1n b2n fin enn sin)) → Run p e below s (fun v h L => ∃ rr : Int32, ∃ p0n : Int64, ∃ p1n : Int64, ∃ p2n : Int64, ∃ d0n : Int64, ∃ d1n : Int64, ∃ d2n : Int64, ∃ l0n : Int32, ∃ l1n : Int32, ∃ l2n : Int32, ∃ q0n : Int32, ∃ q1n : Int32, ∃ q2n : Int32, ∃ b0n : Int32, ∃ b1n : Int32, ∃ b2n : Int32, ∃ fin : Int32, ∃ enn : Int32, ∃ sin : Int32, v = some (.int rr) ∧ Fr n0 L ∧ Keep h0 h [tb, xo, xd, xl, xq, xh] ∧ own_H Z h tb xo xd xl xq xh ko kd kl kq kh p0n p1n p2n d0n d1n d2n l0n l1n l2n q0n q1n q2n b0n b1n b2n fin enn sin ∧ own_RQ (own_all b0 b1 b2 fi en) en (fun x => S x ∨ x = xk) p0n p1n p2n b0n b1n b2n fin enn sin) ({ frames := 4, cells := 0, slots := 0, locals := 67 } : Room).cells ({ frames := 4, cells := 0, slots := 0, locals := 67 } : Room).slots (TGT2.setTop (mkF m 86 #[.val (.ref tb), .val (.long xk), .second, .val (.long dq), .second, .val (.int lk), .val (.int qk), .val (.int (2 : Int32)), .unset] [])) := by
    intro p0n p1n p2n d0n d1n d2n l0n l1n l2n q0n q1n q2n b0n b1n b2n fin enn sin TGT2 LcGT2 hGT2 XGT2 eGT2 NGT2 KGT2 GGT2_0 GGT2_1 GGT2_2 GGT2_3 GGT2_4 GGT2_5 GGT2_6 GGT2_7 GGT2_8 GGT2_9 GGT2_10 GGT2_11 GGT2_12 GGT2_13 hfin
    show Run p e below s _ _ _ (TGT2.setTop (mkF m 86 #[.val (.ref tb), .val (.long xk), .second, .val (.long dq), .second, .val (.int lk), .val (.int qk), .val (.int (2 : Int32)), .unset] []))
    refine Run.pre (fun _ k => XS.aloadN XGT2.here hx rfl (hb hby d4_86) rfl rfl k) ?_
    obtain ⟨T463, X463, e463, st463⟩ := getF XGT2 hx hZ hown (host := "") (Or.inl (hwi hw 12 rfl)) Via.refl eGT2 GGT2_2 (g := (mkF m 87 #[.val (.ref tb), .val (.long xk), .second, .val (.long dq), .second, .val (.int lk), .val (.int qk), .val (.int (2 : Int32)), .unset] [(.ref tb)])) rfl rfl (hb hby d4_87)
    refine Run.pre st463 ?_
    refine Run.pre (fun _ k => XS.iload X463.here hx rfl (hb hby d4_90) rfl  k) ?_
    refine Run.pre (fun _ k => XS.lloadN X463.here hx rfl (hb hby d4_92) rfl  k) ?_
    obtain ⟨c464, Ar464, q464, S464, N464, H464, G464⟩ := id GGT2_10
    have hin464 : ¬ ((2 : Int32) < 0 ∨ c464.slots.size ≤ ((2 : Int32)).toNatClampNeg) := inb_of S464 ⟨by decide, by decide⟩
    obtain ⟨T465, h465, X465, e465, W465, st465⟩ := stJ X463 hx hZ e463 Ar464 (j := (2 : Int32)) hin464 (g := (mkF m 93 #[.val (.ref tb), .val (.long xk), .second, .val (.long dq), .second, .val (.int lk), .val (.int qk), .val (.int (2 : Int32)), .unset] [(.long dq), (.int (2 : Int32)), (.ref xd)])) rfl rfl (hb hby d4_93)
    refine Run.pre st465 ?_
    have V_xd_465 : Arv Z h465 xd kd .long (16 : Int32) (own_LJ d0n d1n dq) (.long (0 : Int64)) := Arv.set Ar464 q464 S464 N464 H464 G464 rfl W465 2 rfl (Nat.le_of_ble_eq_true rfl)
    have K465 : Keep h0 h465 [tb, xo, xd, xl, xq, xh] := KGT2.wr W465 (Or.inl (by simp))
    have N465 := Fr.snoc X465 NGT2 g_xd
    refine Run.pre (fun _ k => XS.aloadN X465.here hx rfl (hb hby d4_94) rfl rfl k) ?_
    show Run p e below s _ _ _ (T465.setTop (mkF m 95 #[.val (.ref tb), .val (.long xk), .second, .val (.long dq), .second, .val (.int lk), .val (.int qk), .val (.int (2 : Int32)), .unset] [(.ref tb)]))
    have f466 := (GGT2_3.other W465 (Or.inl ne_tb_xd))
    obtain ⟨T467, X467, e467, st467⟩ := getF X465 hx hZ hown (host := "") (Or.inl (hwi hw 15 rfl)) Via.refl e465 f466 (g := (mkF m 95 #[.val (.ref tb), .val (.long xk), .second, .val (.long dq), .second, .val (.int lk), .val (.int qk), .val (.int (2 : Int32)), .unset] [(.ref tb)])) rfl rfl (hb hby d4_95)
    refine Run.pre st467 ?_
    refine Run.pre (fun _ k => XS.iload X467.here hx rfl (hb hby d4_98) rfl  k) ?_
    refine Run.pre (fun _ k => XS.iload X467.here hx rfl (hb hby d4_100) rfl  k) ?_
    have f468 := (GGT2_11.other W465 (Ne.symm ne_xd_xl))
    obtain ⟨c469, Ar469, q469, S469, N469, H469, G469⟩ := id f468
    have hin469 : ¬ ((2 : Int32) < 0 ∨ c469.slots.size ≤ ((2 : Int32)).toNatClampNeg) := inb_of S469 ⟨by decide, by decide⟩
    obtain ⟨T470, h470, X470, e470, W470, st470⟩ := stI X467 hx hZ e467 Ar469 (j := (2 : Int32)) hin469 (g := (mkF m 102 #[.val (.ref tb), .val (.long xk), .second, .val (.long dq), .second, .val (.int lk), .val (.int qk), .val (.int (2 : Int32)), .unset] [(.int lk), (.int (2 : Int32)), (.ref xl)])) rfl rfl (hb hby d4_102)
    refine Run.pre st470 ?_
    have V_xl_470 : Arv Z h470 xl kl .int (16 : Int32) (own_LI l0n l1n lk) (.int (0 : Int32)) := Arv.set Ar469 q469 S469 N469 H469 G469 rfl W470 2 rfl (Nat.le_of_ble_eq_true rfl)
    have K470 : Keep h0 h470 [tb, xo, xd, xl, xq, xh] := K465.wr W470 (Or.inl (by simp))
    have N470 := Fr.snoc X470 N465 g_xl
    refine Run.pre (fun _ k => XS.aloadN X470.here hx rfl (hb hby d4_103) rfl rfl k) ?_
    have f471 := ((GGT2_4.other W465 (Or.inl ne_tb_xd)).other W470 (Or.inl ne_tb_xl))
    obtain ⟨T472, X472, e472, st472⟩ := getF X470 hx hZ hown (host := "") (Or.inl (hwi hw 17 rfl)) Via.refl e470 f471 (g := (mkF m 104 #[.val (.ref tb), .val (.long xk), .second, .val (.long dq), .second, .val (.int lk), .val (.int qk), .val (.int (2 : Int32)), .unset] [(.ref tb)])) rfl rfl (hb hby d4_104)
    refine Run.pre st472 ?_
    show Run p e below s _ _ _ (T472.setTop (mkF m 107 #[.val (.ref tb), .val (.long xk), .second, .val (.long dq), .second, .val (.int lk), .val (.int qk), .val (.int (2 : Int32)), .unset] [(.ref xq)]))
    refine Run.pre (fun _ k => XS.iload X472.here hx rfl (hb hby d4_107) rfl  k) ?_
    refine Run.pre (fun _ k => XS.iload X472.here hx rfl (hb hby d4_109) rfl  k) ?_
    have f473 := ((GGT2_12.other W465 (Ne.symm ne_xd_xq)).other W470 (Ne.symm ne_xl_xq))
    obtain ⟨c474, Ar474, q474, S474, N474, H474, G474⟩ := id f473
    have hin474 : ¬ ((2 : Int32) < 0 ∨ c474.slots.size ≤ ((2 : Int32)).toNatClampNeg) := inb_of S474 ⟨by decide, by decide⟩
    obtain ⟨T475, h475, X475, e475, W475, st475⟩ := stI X472 hx hZ e472 Ar474 (j := (2 : Int32)) hin474 (g := (mkF m 111 #[.val (.ref tb), .val (.long xk), .second, .val (.long dq), .second, .val (.int lk), .val (.int qk), .val (.int (2 : Int32)), .unset] [(.int qk), (.int (2 : Int32)), (.ref xq)])) rfl rfl (hb hby d4_111)
    refine Run.pre st475 ?_
    have V_xq_475 : Arv Z h475 xq kq .int (16 : Int32) (own_LI q0n q1n qk) (.int (0 : Int32)) := Arv.set Ar474 q474 S474 N474 H474 G474 rfl W475 2 rfl (Nat.le_of_ble_eq_true rfl)
    have K475 : Keep h0 h475 [tb, xo, xd, xl, xq, xh] := K470.wr W475 (Or.inl (by simp))
    have N475 := Fr.snoc X475 N470 g_xq
    refine Run.pre (fun _ k => XS.aloadN X475.here hx rfl (hb hby d4_112) rfl rfl k) ?_
    have f476 := (((GGT2_5.other W465 (Or.inl ne_tb_xd)).other W470 (Or.inl ne_tb_xl)).other W475 (Or.inl ne_tb_xq))
    obtain ⟨T477, X477, e477, st477⟩ := getF X475 hx hZ hown (host := "") (Or.inl (hwi hw 20 rfl)) Via.refl e475 f476 (g := (mkF m 113 #[.val (.ref tb), .val (.long xk), .second, .val (.long dq), .second, .val (.int lk), .val (.int qk), .val (.int (2 : Int32)), .unset] [(.ref tb)])) rfl rfl (hb hby d4_113)
    refine Run.pre st477 ?_
    refine Run.pre (fun _ k => XS.iload X477.here hx rfl (hb hby d4_116) rfl  k) ?_
    show Run p e below s _ _ _ (T477.setTop (mkF m 118 #[.val (.ref tb), .val (.long xk), .second, .val (.long dq), .second, .val (.int lk), .val (.int qk), .val (.int (2 : Int32)), .unset] [(.int (2 : Int32)), (.ref xh)]))
    have f478 := (((GGT2_13.other W465 (Ne.symm ne_xd_xh)).other W470 (Ne.symm ne_xl_xh)).other W475 (Ne.symm ne_xq_xh))
    obtain ⟨c479, Ar479, -, S479, N479, H479, -⟩ := id f478
    have hin479 : ¬ ((2 : Int32) < 0 ∨ c479.slots.size ≤ ((2 : Int32)).toNatClampNeg) := inb_of S479 ⟨by decide, by decide⟩
    refine Run.pre (X477.baloadBooleans hx (j := (2 : Int32)) (v := (.int b2n)) (by rw [e477]; exact Ar479.1) (State.isArrayOf_alike hZ.alike Ar479.2.1) Ar479.2.2 hin479 (H479.at hin479 rfl) (g := (mkF m 118 #[.val (.ref tb), .val (.long xk), .second, .val (.long dq), .second, .val (.int lk), .val (.int qk), .val (.int (2 : Int32)), .unset] [(.int (2 : Int32)), (.ref xh)])) rfl rfl (hb hby d4_118)) ?_
    by_cases hc480 : b2n = (0 : Int32)
    · skip
      refine Run.pre (fun _ k => XS.ifNo X477.here hx rfl (hb hby d4_119) rfl ((if0 _ _).trans (teq (hc480 : b2n = (0 : Int32))).2) k) ?_
      refine Run.pre (fun _ k => XS.iconst X477.here hx rfl (hb hby d4_122) k) ?_
      refine Run.pre (fun _ k => XS.goto X477.here hx rfl (pc0 := 123) (pc' := 127) rfl (hb hby d4_123) (by decide) (by decide) k) ?_
      refine Run.pre (fun _ k => XS.istore X477.here hx rfl (hb hby d4_127) rfl (l' := #[.val (.ref tb), .val (.long xk), .second, .val (.long dq), .second, .val (.int lk), .val (.int qk), .val (.int (2 : Int32)), .val (.int (1 : Int32))]) rfl k) ?_
      refine Run.pre (fun _ k => XS.iload X477.here hx rfl (hb hby d4_129) rfl  k) ?_
      show Run p e below s _ _ _ (T477.setTop (mkF m 131 #[.val (.ref tb), .val (.long xk), .second, .val (.long dq), .second, .val (.int lk), .val (.int qk), .val (.int (2 : Int32)), .val (.int (1 : Int32))] [(.int (1 : Int32))]))
      refine Run.pre (fun _ k => XS.ifNo X477.here hx rfl (hb hby d4_131) rfl ((if0 _ _).trans (feq ((by decide) : ¬ ((1 : Int32) = (0 : Int32)))).1) k) ?_
      refine Run.pre (fun _ k => XS.aloadN X477.here hx rfl (hb hby d4_134) rfl rfl k) ?_
      obtain ⟨T481, X481, e481, st481⟩ := getF X477 hx hZ hown (host := "") (Or.inl (hwi hw 20 rfl)) Via.refl e477 f476 (g := (mkF m 135 #[.val (.ref tb), .val (.long xk), .second, .val (.long dq), .second, .val (.int lk), .val (.int qk), .val (.int (2 : Int32)), .val (.int (1 : Int32))] [(.ref tb)])) rfl rfl (hb hby d4_135)
      refine Run.pre st481 ?_
      refine Run.pre (fun _ k => XS.iload X481.here hx rfl (hb hby d4_138) rfl  k) ?_
      refine Run.pre (fun _ k => XS.iconst X481.here hx rfl (hb hby d4_140) k) ?_
      obtain ⟨c482, Ar482, q482, S482, N482, H482, G482⟩ := id f478
      have hin482 : ¬ ((2 : Int32) < 0 ∨ c482.slots.size ≤ ((2 : Int32)).toNatClampNeg) := inb_of S482 ⟨by decide, by decide⟩
      obtain ⟨T483, h483, X483, e483, W483, st483⟩ := stZ X481 hx hZ e481 Ar482 (j := (2 : Int32)) hin482 (g := (mkF m 141 #[.val (.ref tb), .val (.long xk), .second, .val (.long dq), .second, .val (.int lk), .val (.int qk), .val (.int (2 : Int32)), .val (.int (1 : Int32))] [(.int (1 : Int32)), (.int (2 : Int32)), (.ref xh)])) rfl rfl (hb hby d4_141)
      refine Run.pre st483 ?_
      have V_xh_483 : Arv Z h483 xh kh .boolean (16 : Int32) (own_LI b0n b1n (nar .boolean (1 : Int32))) (.int (0 : Int32)) := Arv.set Ar482 q482 S482 N482 H482 G482 (fits_nar_bool _) W483 2 rfl (Nat.le_of_ble_eq_true rfl)
      have K483 : Keep h0 h483 [tb, xo, xd, xl, xq, xh] := K475.wr W483 (Or.inl (by simp))
      have N483 := Fr.snoc X483 N475 g_xh
      show Run p e below s _ _ _ (T483.setTop (mkF m 142 #[.val (.ref tb), .val (.long xk), .second, .val (.long dq), .second, .val (.int lk), .val (.int qk), .val (.int (2 : Int32)), .val (.int (1 : Int32))] []))
      refine Run.pre (fun _ k => XS.aloadN X483.here hx rfl (hb hby d4_142) rfl rfl k) ?_
      refine Run.pre (fun _ k => XS.dup X483.here hx rfl (hb hby d4_143) rfl rfl k) ?_
      have f484 := ((((GGT2_8.other W465 (Or.inl ne_tb_xd)).other W470 (Or.inl ne_tb_xl)).other W475 (Or.inl ne_tb_xq)).other W483 (Or.inl ne_tb_xh))
      obtain ⟨T485, X485, e485, st485⟩ := getF X483 hx hZ hown (host := "") (Or.inl (hwi hw 27 rfl)) Via.refl e483 f484 (g := (mkF m 144 #[.val (.ref tb), .val (.long xk), .second, .val (.long dq), .second, .val (.int lk), .val (.int qk), .val (.int (2 : Int32)), .val (.int (1 : Int32))] [(.ref tb), (.ref tb)])) rfl rfl (hb hby d4_144)
      refine Run.pre st485 ?_
      refine Run.pre (fun _ k => XS.iconst X485.here hx rfl (hb hby d4_147) k) ?_
      refine Run.pre (fun _ k => XS.iadd X485.here hx rfl (hb hby d4_148) rfl k) ?_
      have f486 := ((((GGT2_0.wr W465).wr W470).wr W475).wr W483)
      obtain ⟨T487, h487, X487, e487, W487, st487⟩ := putF X485 hx hZ hown (host := "") (Or.inl (hwi hw 27 rfl)) Via.refl e485 f484 f486 (Or.inl (hwi hw 28 rfl)) (hwi hw 1 rfl) (ty := .int) (by decide) rfl rfl (g := (mkF m 149 #[.val (.ref tb), .val (.long xk), .second, .val (.long dq), .second, .val (.int lk), .val (.int qk), .val (.int (2 : Int32)), .val (.int (1 : Int32))] [(.int (sin + (1 : Int32))), (.ref tb)])) rfl rfl (hb hby d4_149)
      refine Run.pre st487 ?_
      have Fw487 := f484.same W487
      have K487 : Keep h0 h487 [tb, xo, xd, xl, xq, xh] := K483.wr W487 (Or.inl (by simp))
      have N487 := Fr.snoc X487 N483 g_tb
      show Run p e below s _ _ _ (T487.setTop (mkF m 152 #[.val (.ref tb), .val (.long xk), .second, .val (.long dq), .second, .val (.int lk), .val (.int qk), .val (.int (2 : Int32)), .val (.int (1 : Int32))] []))
      refine Run.pre (fun _ k => XS.aloadN X487.here hx rfl (hb hby d4_152) rfl rfl k) ?_
      refine Run.pre (fun _ k => XS.aloadN X487.here hx rfl (hb hby d4_153) rfl rfl k) ?_
      have f488 := (((((GGT2_6.other W465 (Or.inl ne_tb_xd)).other W470 (Or.inl ne_tb_xl)).other W475 (Or.inl ne_tb_xq)).other W483 (Or.inl ne_tb_xh)).other W487 (Or.inr (slot_ne (Or.inl (hwi hw 37 rfl)) (Or.inl (hwi hw 28 rfl)) (by decide) (t := .int) (t' := .int) (by decide) (by decide))))
      obtain ⟨T489, X489, e489, st489⟩ := getF X487 hx hZ hown (host := "") (Or.inl (hwi hw 36 rfl)) Via.refl e487 f488 (g := (mkF m 154 #[.val (.ref tb), .val (.long xk), .second, .val (.long dq), .second, .val (.int lk), .val (.int qk), .val (.int (2 : Int32)), .val (.int (1 : Int32))] [(.ref tb), (.ref tb)])) rfl rfl (hb hby d4_154)
      refine Run.pre st489 ?_
      refine Run.pre (fun _ k => XS.iload X489.here hx rfl (hb hby d4_157) rfl  k) ?_
      refine Run.callS X489 hx hZ (y := (⟨"java/lang/Math", "min", "(II)I"⟩ : MethodName)) hown (hwi hw 38 rfl) (hwi hw 39 rfl) (hwi hw 40 rfl) (hwi hw 41 rfl) (by decide) (W := 1) (rmMn l Z a0 hw fin (2 : Int32) h487 n0 (Nat.le_trans Z0 K487.1)) e489 (by decide) (by decide) (by decide) (by decide) (g := (mkF m 159 #[.val (.ref tb), .val (.long xk), .second, .val (.long dq), .second, .val (.int lk), .val (.int qk), .val (.int (2 : Int32)), .val (.int (1 : Int32))] [(.int (2 : Int32)), (.int fin), (.ref tb)])) rfl (by rw [hml]; rfl) (argsL := [(.int fin), (.int (2 : Int32))]) (rest := [(.ref tb)]) (lenOf pd_3 rfl) rfl (by show 2 * 0 + _ ≤ _; exact Nat.le_of_eq rfl) (hb hby d4_159) ?_
      intro v490 T490 L490 X490 hQ490
      obtain ⟨rfl, Nq490, he490⟩ := hQ490
      have N490 := Fr.app N487 Nq490
      have e490 : T490.heap = h487 := he490
      have f491 := (f486.wr W487)
      obtain ⟨T492, h492, X492, e492, W492, st492⟩ := putF X490 hx hZ hown (host := "") (Or.inl (hwi hw 36 rfl)) Via.refl e490 f488 f491 (Or.inl (hwi hw 37 rfl)) (hwi hw 1 rfl) (ty := .int) (by decide) rfl rfl (g := (mkF m 162 #[.val (.ref tb), .val (.long xk), .second, .val (.long dq), .second, .val (.int lk), .val (.int qk), .val (.int (2 : Int32)), .val (.int (1 : Int32))] [(.int (own_mn fin (2 : Int32))), (.ref tb)])) rfl rfl (hb hby d4_162)
      refine Run.pre st492 ?_
      have Fw492 := f488.same W492
      have K492 : Keep h0 h492 [tb, xo, xd, xl, xq, xh] := K487.wr W492 (Or.inl (by simp))
      have N492 := Fr.snoc X492 N490 g_tb
      show Run p e below s _ _ _ (T492.setTop (mkF m 165 #[.val (.ref tb), .val (.long xk), .second, .val (.long dq), .second, .val (.int lk), .val (.int qk), .val (.int (2 : Int32)), .val (.int (1 : Int32))] []))
      refine Run.pre (fun _ k => XS.iload X492.here hx rfl (hb hby d4_165) rfl  k) ?_
      have f493 := (f491.wr W492)
      have f494 := ((((((GGT2_1.other W465 (Or.inl ne_tb_xd)).other W470 (Or.inl ne_tb_xl)).other W475 (Or.inl ne_tb_xq)).other W483 (Or.inl ne_tb_xh)).other W487 (Or.inr (slot_ne (Or.inl (hwi hw 11 rfl)) (Or.inl (hwi hw 28 rfl)) (by decide) (t := (.array .long)) (t' := .int) (by decide) (by decide)))).other W492 (Or.inr (slot_ne (Or.inl (hwi hw 11 rfl)) (Or.inl (hwi hw 37 rfl)) (by decide) (t := (.array .long)) (t' := .int) (by decide) (by decide))))
      have f495 := ((((((GGT2_2.other W465 (Or.inl ne_tb_xd)).other W470 (Or.inl ne_tb_xl)).other W475 (Or.inl ne_tb_xq)).other W483 (Or.inl ne_tb_xh)).other W487 (Or.inr (slot_ne (Or.inl (hwi hw 13 rfl)) (Or.inl (hwi hw 28 rfl)) (by decide) (t := (.array .long)) (t' := .int) (by decide) (by decide)))).other W492 (Or.inr (slot_ne (Or.inl (hwi hw 13 rfl)) (Or.inl (hwi hw 37 rfl)) (by decide) (t := (.array .long)) (t' := .int) (by decide) (by decide))))
      have f496 := (((((f466.other W470 (Or.inl ne_tb_xl)).other W475 (Or.inl ne_tb_xq)).other W483 (Or.inl ne_tb_xh)).other W487 (Or.inr (slot_ne (Or.inl (hwi hw 16 rfl)) (Or.inl (hwi hw 28 rfl)) (by decide) (t := (.array .int)) (t' := .int) (by decide) (by decide)))).other W492 (Or.inr (slot_ne (Or.inl (hwi hw 16 rfl)) (Or.inl (hwi hw 37 rfl)) (by decide) (t := (.array .int)) (t' := .int) (by decide) (by decide))))
      have f497 := ((((f471.other W475 (Or.inl ne_tb_xq)).other W483 (Or.inl ne_tb_xh)).other W487 (Or.inr (slot_ne (Or.inl (hwi hw 18 rfl)) (Or.inl (hwi hw 28 rfl)) (by decide) (t := (.array .int)) (t' := .int) (by decide) (by decide)))).other W492 (Or.inr (slot_ne (Or.inl (hwi hw 18 rfl)) (Or.inl (hwi hw 37 rfl)) (by decide) (t := (.array .int)) (t' := .int) (by decide) (by decide))))
      have f498 := (((f476.other W483 (Or.inl ne_tb_xh)).other W487 (Or.inr (slot_ne (Or.inl (hwi hw 21 rfl)) (Or.inl (hwi hw 28 rfl)) (by decide) (t := (.array .boolean)) (t' := .int) (by decide) (by decide)))).other W492 (Or.inr (slot_ne (Or.inl (hwi hw 21 rfl)) (Or.inl (hwi hw 37 rfl)) (by decide) (t := (.array .boolean)) (t' := .int) (by decide) (by decide))))
      have f499 := ((((((GGT2_7.other W465 (Or.inl ne_tb_xd)).other W470 (Or.inl ne_tb_xl)).other W475 (Or.inl ne_tb_xq)).other W483 (Or.inl ne_tb_xh)).other W487 (Or.inr (slot_ne (Or.inl (hwi hw 35 rfl)) (Or.inl (hwi hw 28 rfl)) (by decide) (t := .int) (t' := .int) (by decide) (by decide)))).other W492 (Or.inr (slot_ne (Or.inl (hwi hw 35 rfl)) (Or.inl (hwi hw 37 rfl)) (by decide) (t := .int) (t' := .int) (by decide) (by decide))))
      have f500 := (Fw487.other W492 (Or.inr (slot_ne (Or.inl (hwi hw 28 rfl)) (Or.inl (hwi hw 37 rfl)) (by decide) (t := .int) (t' := .int) (by decide) (by decide))))
      have f501 := ((((((GGT2_9.other W465 ne_xo_xd).other W470 ne_xo_xl).other W475 ne_xo_xq).other W483 ne_xo_xh).other W487 (Ne.symm ne_tb_xo)).other W492 (Ne.symm ne_tb_xo))
      have f502 := (((((V_xd_465.other W470 ne_xd_xl).other W475 ne_xd_xq).other W483 ne_xd_xh).other W487 (Ne.symm ne_tb_xd)).other W492 (Ne.symm ne_tb_xd))
      have f503 := ((((V_xl_470.other W475 ne_xl_xq).other W483 ne_xl_xh).other W487 (Ne.symm ne_tb_xl)).other W492 (Ne.symm ne_tb_xl))
      have f504 := (((V_xq_475.other W483 ne_xq_xh).other W487 (Ne.symm ne_tb_xq)).other W492 (Ne.symm ne_tb_xq))
      have f505 := ((V_xh_483.other W487 (Ne.symm ne_tb_xh)).other W492 (Ne.symm ne_tb_xh))
      exact Run.retN X492 hx hret (t := .boolean) (by simp) hlk (hb hby d4_167) (by first | (rw [e492]; exact ⟨_, p0n, p1n, p2n, d0n, d1n, dq, l0n, l1n, lk, q0n, q1n, qk, b0n, b1n, (nar .boolean (1 : Int32)), (own_mn fin (2 : Int32)), enn, (sin + (1 : Int32)), rfl, N492, K492, ⟨f493, f494, f495, f496, f497, f498, Fw492, f499, f500, f501, f502, f503, f504, f505⟩, hfin.1 hc480⟩) | exact ⟨_, p0n, p1n, p2n, d0n, d1n, dq, l0n, l1n, lk, q0n, q1n, qk, b0n, b1n, (nar .boolean (1 : Int32)), (own_mn fin (2 : Int32)), enn, (sin + (1 : Int32)), rfl, N492, K492, ⟨f493, f494, f495, f496, f497, f498, Fw492, f499, f500, f501, f502, f503, f504, f505⟩, hfin.1 hc480⟩) (by decide) (by decide)
    · skip
      refine Run.pre (fun _ k => XS.ifYes X477.here hx rfl (pc0 := 119) (pc' := 126) rfl (hb hby d4_119) rfl ((if0 _ _).trans (feq (hc480 : ¬ (b2n = (0 : Int32)))).2) (by decide) (by decide) k) ?_
      refine Run.pre (fun _ k => XS.iconst X477.here hx rfl (hb hby d4_126) k) ?_
      refine Run.pre (fun _ k => XS.istore X477.here hx rfl (hb hby d4_127) rfl (l' := #[.val (.ref tb), .val (.long xk), .second, .val (.long dq), .second, .val (.int lk), .val (.int qk), .val (.int (2 : Int32)), .val (.int (0 : Int32))]) rfl k) ?_
      refine Run.pre (fun _ k => XS.iload X477.here hx rfl (hb hby d4_129) rfl  k) ?_
      refine Run.pre (fun _ k => XS.ifYes X477.here hx rfl (pc0 := 131) (pc' := 165) rfl (hb hby d4_131) rfl ((if0 _ _).trans (teq ((by decide) : (0 : Int32) = (0 : Int32))).1) (by decide) (by decide) k) ?_
      show Run p e below s _ _ _ (T477.setTop (mkF m 165 #[.val (.ref tb), .val (.long xk), .second, .val (.long dq), .second, .val (.int lk), .val (.int qk), .val (.int (2 : Int32)), .val (.int (0 : Int32))] []))
      refine Run.pre (fun _ k => XS.iload X477.here hx rfl (hb hby d4_165) rfl  k) ?_
      have f506 := (((GGT2_0.wr W465).wr W470).wr W475)
      have f507 := (((GGT2_1.other W465 (Or.inl ne_tb_xd)).other W470 (Or.inl ne_tb_xl)).other W475 (Or.inl ne_tb_xq))
      have f508 := (((GGT2_2.other W465 (Or.inl ne_tb_xd)).other W470 (Or.inl ne_tb_xl)).other W475 (Or.inl ne_tb_xq))
      have f509 := ((f466.other W470 (Or.inl ne_tb_xl)).other W475 (Or.inl ne_tb_xq))
      have f510 := (f471.other W475 (Or.inl ne_tb_xq))
      have f511 := (((GGT2_6.other W465 (Or.inl ne_tb_xd)).other W470 (Or.inl ne_tb_xl)).other W475 (Or.inl ne_tb_xq))
      have f512 := (((GGT2_7.other W465 (Or.inl ne_tb_xd)).other W470 (Or.inl ne_tb_xl)).other W475 (Or.inl ne_tb_xq))
      have f513 := (((GGT2_8.other W465 (Or.inl ne_tb_xd)).other W470 (Or.inl ne_tb_xl)).other W475 (Or.inl ne_tb_xq))
      have f514 := (((GGT2_9.other W465 ne_xo_xd).other W470 ne_xo_xl).other W475 ne_xo_xq)
      have f515 := ((V_xd_465.other W470 ne_xd_xl).other W475 ne_xd_xq)
      have f516 := (V_xl_470.other W475 ne_xl_xq)
      exact Run.retN X477 hx hret (t := .boolean) (by simp) hlk (hb hby d4_167) (by first | (rw [e477]; exact ⟨_, p0n, p1n, p2n, d0n, d1n, dq, l0n, l1n, lk, q0n, q1n, qk, b0n, b1n, b2n, fin, enn, sin, rfl, N475, K475, ⟨f506, f507, f508, f509, f510, f476, f511, f512, f513, f514, f515, f516, V_xq_475, f478⟩, hfin.2 hc480⟩) | exact ⟨_, p0n, p1n, p2n, d0n, d1n, dq, l0n, l1n, lk, q0n, q1n, qk, b0n, b1n, b2n, fin, enn, sin, rfl, N475, K475, ⟨f506, f507, f508, f509, f510, f476, f511, f512, f513, f514, f515, f516, V_xq_475, f478⟩, hfin.2 hc480⟩) (by decide) (by decide)
  rcases hR with ⟨rfl, rfl, rfl, rfl, rfl, rfl, hS⟩ | ⟨rfl, rfl, rfl, rfl, rfl, rfl, hS⟩ | ⟨rfl, rfl, rfl, rfl, rfl, rfl, hS⟩ | ⟨rfl, rfl, rfl, rfl, rfl, rfl, o01, hS⟩ | ⟨rfl, rfl, rfl, rfl, rfl, rfl, hS⟩ | ⟨rfl, rfl, rfl, rfl, rfl, rfl, o01, hS⟩
  · skip
    show Run p e below s _ _ _ (s₁.setTop (mkF m 0 #[.val (.ref tb), .val (.long xk), .second, .val (.long dq), .second, .val (.int lk), .val (.int qk), .unset, .unset] []))
    refine Run.pre (fun _ k => XS.aloadN X0.here hx rfl (hb hby d4_0) rfl rfl k) ?_
    obtain ⟨T517, X517, e517, st517⟩ := getF X0 hx hZ hown (host := "") (Or.inl (hwi hw 34 rfl)) Via.refl e0 Fe (g := (mkF m 1 #[.val (.ref tb), .val (.long xk), .second, .val (.long dq), .second, .val (.int lk), .val (.int qk), .unset, .unset] [(.ref tb)])) rfl rfl (hb hby d4_1)
    refine Run.pre st517 ?_
    refine Run.pre (fun _ k => XS.aloadN X517.here hx rfl (hb hby d4_4) rfl rfl k) ?_
    obtain ⟨T518, X518, e518, st518⟩ := getF X517 hx hZ hown (host := "") (Or.inl (hwi hw 36 rfl)) Via.refl e517 Ff (g := (mkF m 5 #[.val (.ref tb), .val (.long xk), .second, .val (.long dq), .second, .val (.int lk), .val (.int qk), .unset, .unset] [(.ref tb), (.int (0 : Int32))])) rfl rfl (hb hby d4_5)
    refine Run.pre st518 ?_
    refine Run.pre (fun _ k => XS.icmpYes X518.here hx rfl (pc0 := 8) (pc' := 49) rfl (hb hby d4_8) rfl (flt ((by decide) : ¬ ((0 : Int32) < (0 : Int32)))).2.2.2 (by decide) (by decide) k) ?_
    refine Run.pre (fun _ k => XS.aloadN X518.here hx rfl (hb hby d4_49) rfl rfl k) ?_
    show Run p e below s _ _ _ (T518.setTop (mkF m 50 #[.val (.ref tb), .val (.long xk), .second, .val (.long dq), .second, .val (.int lk), .val (.int qk), .unset, .unset] [(.ref tb)]))
    obtain ⟨T519, X519, e519, st519⟩ := getF X518 hx hZ hown (host := "") (Or.inl (hwi hw 34 rfl)) Via.refl e518 Fe (g := (mkF m 50 #[.val (.ref tb), .val (.long xk), .second, .val (.long dq), .second, .val (.int lk), .val (.int qk), .unset, .unset] [(.ref tb)])) rfl rfl (hb hby d4_50)
    refine Run.pre st519 ?_
    refine Run.pre (fun _ k => XS.aloadN X519.here hx rfl (hb hby d4_53) rfl rfl k) ?_
    obtain ⟨T520, X520, e520, st520⟩ := getF X519 hx hZ hown (host := "") (Or.inl (hwi hw 10 rfl)) Via.refl e519 FR0 (g := (mkF m 54 #[.val (.ref tb), .val (.long xk), .second, .val (.long dq), .second, .val (.int lk), .val (.int qk), .unset, .unset] [(.ref tb), (.int (0 : Int32))])) rfl rfl (hb hby d4_54)
    refine Run.pre st520 ?_
    obtain ⟨c521, Ar521, -, S521, N521, -, -⟩ := id AR0
    refine Run.pre (X520.arraylength hx (by rw [e520]; exact Ar521.1) (State.isArrayOf_alike hZ.alike Ar521.2.1) (g := (mkF m 57 #[.val (.ref tb), .val (.long xk), .second, .val (.long dq), .second, .val (.int lk), .val (.int qk), .unset, .unset] [(.ref xo), (.int (0 : Int32))])) rfl rfl (hb hby d4_57)) ?_
    rw [len_of S521 N521]
    refine Run.pre (fun _ k => XS.icmpYes X520.here hx rfl (pc0 := 58) (pc' := 65) rfl (hb hby d4_58) rfl (feq ((by decide) : ¬ ((0 : Int32) = (16 : Int32)))).2 (by decide) (by decide) k) ?_
    refine Run.pre (fun _ k => XS.aloadN X520.here hx rfl (hb hby d4_65) rfl rfl k) ?_
    show Run p e below s _ _ _ (T520.setTop (mkF m 66 #[.val (.ref tb), .val (.long xk), .second, .val (.long dq), .second, .val (.int lk), .val (.int qk), .unset, .unset] [(.ref tb)]))
    refine Run.pre (fun _ k => XS.dup X520.here hx rfl (hb hby d4_66) rfl rfl k) ?_
    obtain ⟨T522, X522, e522, st522⟩ := getF X520 hx hZ hown (host := "") (Or.inl (hwi hw 34 rfl)) Via.refl e520 Fe (g := (mkF m 67 #[.val (.ref tb), .val (.long xk), .second, .val (.long dq), .second, .val (.int lk), .val (.int qk), .unset, .unset] [(.ref tb), (.ref tb)])) rfl rfl (hb hby d4_67)
    refine Run.pre st522 ?_
    refine Run.pre (fun _ k => XS.dupX1 X522.here hx rfl (hb hby d4_70) rfl rfl rfl k) ?_
    refine Run.pre (fun _ k => XS.iconst X522.here hx rfl (hb hby d4_71) k) ?_
    refine Run.pre (fun _ k => XS.iadd X522.here hx rfl (hb hby d4_72) rfl k) ?_
    obtain ⟨T523, h523, X523, e523, W523, st523⟩ := putF X522 hx hZ hown (host := "") (Or.inl (hwi hw 34 rfl)) Via.refl e522 Fe E_tb (Or.inl (hwi hw 35 rfl)) (hwi hw 1 rfl) (ty := .int) (by decide) rfl rfl (g := (mkF m 73 #[.val (.ref tb), .val (.long xk), .second, .val (.long dq), .second, .val (.int lk), .val (.int qk), .unset, .unset] [(.int (1 : Int32)), (.ref tb), (.int (0 : Int32))])) rfl rfl (hb hby d4_73)
    refine Run.pre st523 ?_
    have Fw523 := Fe.same W523
    have K523 : Keep h0 h523 [tb, xo, xd, xl, xq, xh] := (Keep.refl h0 [tb, xo, xd, xl, xq, xh]).wr W523 (Or.inl (by simp))
    have N523 := Fr.snoc X523 N0 g_tb
    show Run p e below s _ _ _ (T523.setTop (mkF m 76 #[.val (.ref tb), .val (.long xk), .second, .val (.long dq), .second, .val (.int lk), .val (.int qk), .unset, .unset] [(.int (0 : Int32))]))
    refine Run.pre (fun _ k => XS.istore X523.here hx rfl (hb hby d4_76) rfl (l' := #[.val (.ref tb), .val (.long xk), .second, .val (.long dq), .second, .val (.int lk), .val (.int qk), .val (.int (0 : Int32)), .unset]) rfl k) ?_
    refine Run.pre (fun _ k => XS.aloadN X523.here hx rfl (hb hby d4_78) rfl rfl k) ?_
    have f524 := (FR0.other W523 (Or.inr (slot_ne (Or.inl (hwi hw 11 rfl)) (Or.inl (hwi hw 35 rfl)) (by decide) (t := (.array .long)) (t' := .int) (by decide) (by decide))))
    obtain ⟨T525, X525, e525, st525⟩ := getF X523 hx hZ hown (host := "") (Or.inl (hwi hw 10 rfl)) Via.refl e523 f524 (g := (mkF m 79 #[.val (.ref tb), .val (.long xk), .second, .val (.long dq), .second, .val (.int lk), .val (.int qk), .val (.int (0 : Int32)), .unset] [(.ref tb)])) rfl rfl (hb hby d4_79)
    refine Run.pre st525 ?_
    refine Run.pre (fun _ k => XS.iload X525.here hx rfl (hb hby d4_82) rfl  k) ?_
    refine Run.pre (fun _ k => XS.lloadN X525.here hx rfl (hb hby d4_84) rfl  k) ?_
    have f526 := (AR0.other W523 (Ne.symm ne_tb_xo))
    obtain ⟨c527, Ar527, q527, S527, N527, H527, G527⟩ := id f526
    have hin527 : ¬ ((0 : Int32) < 0 ∨ c527.slots.size ≤ ((0 : Int32)).toNatClampNeg) := inb_of S527 ⟨by decide, by decide⟩
    obtain ⟨T528, h528, X528, e528, W528, st528⟩ := stJ X525 hx hZ e525 Ar527 (j := (0 : Int32)) hin527 (g := (mkF m 85 #[.val (.ref tb), .val (.long xk), .second, .val (.long dq), .second, .val (.int lk), .val (.int qk), .val (.int (0 : Int32)), .unset] [(.long xk), (.int (0 : Int32)), (.ref xo)])) rfl rfl (hb hby d4_85)
    refine Run.pre st528 ?_
    have V_xo_528 : Arv Z h528 xo ko .long (16 : Int32) (own_LJ xk p1 p2) (.long (0 : Int64)) := Arv.set Ar527 q527 S527 N527 H527 G527 rfl W528 0 rfl (Nat.le_of_ble_eq_true rfl)
    have K528 : Keep h0 h528 [tb, xo, xd, xl, xq, xh] := K523.wr W528 (Or.inl (by simp))
    have N528 := Fr.snoc X528 N523 g_xo
    show Run p e below s _ _ _ (T528.setTop (mkF m 86 #[.val (.ref tb), .val (.long xk), .second, .val (.long dq), .second, .val (.int lk), .val (.int qk), .val (.int (0 : Int32)), .unset] []))
    have f529 := ((E_tb.wr W523).wr W528)
    have f530 := (f524.other W528 (Or.inl ne_tb_xo))
    have f531 := ((FR1.other W523 (Or.inr (slot_ne (Or.inl (hwi hw 13 rfl)) (Or.inl (hwi hw 35 rfl)) (by decide) (t := (.array .long)) (t' := .int) (by decide) (by decide)))).other W528 (Or.inl ne_tb_xo))
    have f532 := ((FR2.other W523 (Or.inr (slot_ne (Or.inl (hwi hw 16 rfl)) (Or.inl (hwi hw 35 rfl)) (by decide) (t := (.array .int)) (t' := .int) (by decide) (by decide)))).other W528 (Or.inl ne_tb_xo))
    have f533 := ((FR3.other W523 (Or.inr (slot_ne (Or.inl (hwi hw 18 rfl)) (Or.inl (hwi hw 35 rfl)) (by decide) (t := (.array .int)) (t' := .int) (by decide) (by decide)))).other W528 (Or.inl ne_tb_xo))
    have f534 := ((FR4.other W523 (Or.inr (slot_ne (Or.inl (hwi hw 21 rfl)) (Or.inl (hwi hw 35 rfl)) (by decide) (t := (.array .boolean)) (t' := .int) (by decide) (by decide)))).other W528 (Or.inl ne_tb_xo))
    have f535 := ((Ff.other W523 (Or.inr (slot_ne (Or.inl (hwi hw 37 rfl)) (Or.inl (hwi hw 35 rfl)) (by decide) (t := .int) (t' := .int) (by decide) (by decide)))).other W528 (Or.inl ne_tb_xo))
    have f536 := (Fw523.other W528 (Or.inl ne_tb_xo))
    have f537 := ((Fz.other W523 (Or.inr (slot_ne (Or.inl (hwi hw 28 rfl)) (Or.inl (hwi hw 35 rfl)) (by decide) (t := .int) (t' := .int) (by decide) (by decide)))).other W528 (Or.inl ne_tb_xo))
    have f538 := ((AR1.other W523 (Ne.symm ne_tb_xd)).other W528 (Ne.symm ne_xo_xd))
    have f539 := ((AR2.other W523 (Ne.symm ne_tb_xl)).other W528 (Ne.symm ne_xo_xl))
    have f540 := ((AR3.other W523 (Ne.symm ne_tb_xq)).other W528 (Ne.symm ne_xo_xq))
    have f541 := ((AR4.other W523 (Ne.symm ne_tb_xh)).other W528 (Ne.symm ne_xo_xh))
    exact GT0 xk p1 p2 d0 d1 d2 l0 l1 l2 q0 q1 q2 (0 : Int32) (0 : Int32) (0 : Int32) (0 : Int32) (1 : Int32) (0 : Int32) _ _ _ X528 e528 N528 K528 f529 f530 f531 f532 f533 f534 f535 f536 f537 V_xo_528 f538 f539 f540 f541 ⟨fun _ => ⟨(Or.inr (Or.inl ⟨(by decide), (by decide), (by decide), (by decide), (by decide), (by decide), fun x => by show (S x ∨ x = xk) ↔ _; rw [hS x]; try simp [or_comm, or_left_comm, or_assoc]⟩)), fun _ => by decide, Or.inr (by decide)⟩, fun q => absurd (by decide) q⟩
  · skip
    show Run p e below s _ _ _ (s₁.setTop (mkF m 0 #[.val (.ref tb), .val (.long xk), .second, .val (.long dq), .second, .val (.int lk), .val (.int qk), .unset, .unset] []))
    refine Run.pre (fun _ k => XS.aloadN X0.here hx rfl (hb hby d4_0) rfl rfl k) ?_
    obtain ⟨T542, X542, e542, st542⟩ := getF X0 hx hZ hown (host := "") (Or.inl (hwi hw 34 rfl)) Via.refl e0 Fe (g := (mkF m 1 #[.val (.ref tb), .val (.long xk), .second, .val (.long dq), .second, .val (.int lk), .val (.int qk), .unset, .unset] [(.ref tb)])) rfl rfl (hb hby d4_1)
    refine Run.pre st542 ?_
    refine Run.pre (fun _ k => XS.aloadN X542.here hx rfl (hb hby d4_4) rfl rfl k) ?_
    obtain ⟨T543, X543, e543, st543⟩ := getF X542 hx hZ hown (host := "") (Or.inl (hwi hw 36 rfl)) Via.refl e542 Ff (g := (mkF m 5 #[.val (.ref tb), .val (.long xk), .second, .val (.long dq), .second, .val (.int lk), .val (.int qk), .unset, .unset] [(.ref tb), (.int (1 : Int32))])) rfl rfl (hb hby d4_5)
    refine Run.pre st543 ?_
    refine Run.pre (fun _ k => XS.icmpNo X543.here hx rfl (hb hby d4_8) rfl (tlt ((by decide) : (0 : Int32) < (1 : Int32))).2.2.2 k) ?_
    refine Run.pre (fun _ k => XS.lloadN X543.here hx rfl (hb hby d4_11) rfl  k) ?_
    show Run p e below s _ _ _ (T543.setTop (mkF m 12 #[.val (.ref tb), .val (.long xk), .second, .val (.long dq), .second, .val (.int lk), .val (.int qk), .unset, .unset] [(.long xk)]))
    refine Run.pre (fun _ k => XS.aloadN X543.here hx rfl (hb hby d4_12) rfl rfl k) ?_
    obtain ⟨T544, X544, e544, st544⟩ := getF X543 hx hZ hown (host := "") (Or.inl (hwi hw 10 rfl)) Via.refl e543 FR0 (g := (mkF m 13 #[.val (.ref tb), .val (.long xk), .second, .val (.long dq), .second, .val (.int lk), .val (.int qk), .unset, .unset] [(.ref tb), (.long xk)])) rfl rfl (hb hby d4_13)
    refine Run.pre st544 ?_
    refine Run.pre (fun _ k => XS.aloadN X544.here hx rfl (hb hby d4_16) rfl rfl k) ?_
    obtain ⟨T545, X545, e545, st545⟩ := getF X544 hx hZ hown (host := "") (Or.inl (hwi hw 34 rfl)) Via.refl e544 Fe (g := (mkF m 17 #[.val (.ref tb), .val (.long xk), .second, .val (.long dq), .second, .val (.int lk), .val (.int qk), .unset, .unset] [(.ref tb), (.ref xo), (.long xk)])) rfl rfl (hb hby d4_17)
    refine Run.pre st545 ?_
    refine Run.pre (fun _ k => XS.iconst X545.here hx rfl (hb hby d4_20) k) ?_
    refine Run.pre (fun _ k => XS.isub X545.here hx rfl (hb hby d4_21) rfl k) ?_
    show Run p e below s _ _ _ (T545.setTop (mkF m 22 #[.val (.ref tb), .val (.long xk), .second, .val (.long dq), .second, .val (.int lk), .val (.int qk), .unset, .unset] [(.int (0 : Int32)), (.ref xo), (.long xk)]))
    obtain ⟨c546, Ar546, -, S546, N546, H546, -⟩ := id AR0
    have hin546 : ¬ ((0 : Int32) < 0 ∨ c546.slots.size ≤ ((0 : Int32)).toNatClampNeg) := inb_of S546 ⟨by decide, by decide⟩
    refine Run.pre (X545.laload hx (j := (0 : Int32)) (v := (.long p0)) (by rw [e545]; exact Ar546.1) (State.isArrayOf_alike hZ.alike Ar546.2.1) Ar546.2.2 hin546 (H546.at hin546 rfl) (g := (mkF m 22 #[.val (.ref tb), .val (.long xk), .second, .val (.long dq), .second, .val (.int lk), .val (.int qk), .unset, .unset] [(.int (0 : Int32)), (.ref xo), (.long xk)])) rfl rfl (hb hby d4_22)) ?_
    refine Run.pre (fun _ k => XS.lcmp X545.here hx rfl (hb hby d4_23) rfl k) ?_
    by_cases hc547 : (0 : Int32) < (lcmpW xk p0)
    · skip
      refine Run.pre (fun _ k => XS.ifYes X545.here hx rfl (pc0 := 24) (pc' := 49) rfl (hb hby d4_24) rfl ((if0 _ _).trans (tlt (hc547 : (0 : Int32) < (lcmpW xk p0))).2.2.1) (by decide) (by decide) k) ?_
      refine Run.pre (fun _ k => XS.aloadN X545.here hx rfl (hb hby d4_49) rfl rfl k) ?_
      obtain ⟨T548, X548, e548, st548⟩ := getF X545 hx hZ hown (host := "") (Or.inl (hwi hw 34 rfl)) Via.refl e545 Fe (g := (mkF m 50 #[.val (.ref tb), .val (.long xk), .second, .val (.long dq), .second, .val (.int lk), .val (.int qk), .unset, .unset] [(.ref tb)])) rfl rfl (hb hby d4_50)
      refine Run.pre st548 ?_
      refine Run.pre (fun _ k => XS.aloadN X548.here hx rfl (hb hby d4_53) rfl rfl k) ?_
      show Run p e below s _ _ _ (T548.setTop (mkF m 54 #[.val (.ref tb), .val (.long xk), .second, .val (.long dq), .second, .val (.int lk), .val (.int qk), .unset, .unset] [(.ref tb), (.int (1 : Int32))]))
      obtain ⟨T549, X549, e549, st549⟩ := getF X548 hx hZ hown (host := "") (Or.inl (hwi hw 10 rfl)) Via.refl e548 FR0 (g := (mkF m 54 #[.val (.ref tb), .val (.long xk), .second, .val (.long dq), .second, .val (.int lk), .val (.int qk), .unset, .unset] [(.ref tb), (.int (1 : Int32))])) rfl rfl (hb hby d4_54)
      refine Run.pre st549 ?_
      obtain ⟨c550, Ar550, -, S550, N550, -, -⟩ := id AR0
      refine Run.pre (X549.arraylength hx (by rw [e549]; exact Ar550.1) (State.isArrayOf_alike hZ.alike Ar550.2.1) (g := (mkF m 57 #[.val (.ref tb), .val (.long xk), .second, .val (.long dq), .second, .val (.int lk), .val (.int qk), .unset, .unset] [(.ref xo), (.int (1 : Int32))])) rfl rfl (hb hby d4_57)) ?_
      rw [len_of S550 N550]
      refine Run.pre (fun _ k => XS.icmpYes X549.here hx rfl (pc0 := 58) (pc' := 65) rfl (hb hby d4_58) rfl (feq ((by decide) : ¬ ((1 : Int32) = (16 : Int32)))).2 (by decide) (by decide) k) ?_
      refine Run.pre (fun _ k => XS.aloadN X549.here hx rfl (hb hby d4_65) rfl rfl k) ?_
      refine Run.pre (fun _ k => XS.dup X549.here hx rfl (hb hby d4_66) rfl rfl k) ?_
      obtain ⟨T551, X551, e551, st551⟩ := getF X549 hx hZ hown (host := "") (Or.inl (hwi hw 34 rfl)) Via.refl e549 Fe (g := (mkF m 67 #[.val (.ref tb), .val (.long xk), .second, .val (.long dq), .second, .val (.int lk), .val (.int qk), .unset, .unset] [(.ref tb), (.ref tb)])) rfl rfl (hb hby d4_67)
      refine Run.pre st551 ?_
      show Run p e below s _ _ _ (T551.setTop (mkF m 70 #[.val (.ref tb), .val (.long xk), .second, .val (.long dq), .second, .val (.int lk), .val (.int qk), .unset, .unset] [(.int (1 : Int32)), (.ref tb)]))
      refine Run.pre (fun _ k => XS.dupX1 X551.here hx rfl (hb hby d4_70) rfl rfl rfl k) ?_
      refine Run.pre (fun _ k => XS.iconst X551.here hx rfl (hb hby d4_71) k) ?_
      refine Run.pre (fun _ k => XS.iadd X551.here hx rfl (hb hby d4_72) rfl k) ?_
      obtain ⟨T552, h552, X552, e552, W552, st552⟩ := putF X551 hx hZ hown (host := "") (Or.inl (hwi hw 34 rfl)) Via.refl e551 Fe E_tb (Or.inl (hwi hw 35 rfl)) (hwi hw 1 rfl) (ty := .int) (by decide) rfl rfl (g := (mkF m 73 #[.val (.ref tb), .val (.long xk), .second, .val (.long dq), .second, .val (.int lk), .val (.int qk), .unset, .unset] [(.int (2 : Int32)), (.ref tb), (.int (1 : Int32))])) rfl rfl (hb hby d4_73)
      refine Run.pre st552 ?_
      have Fw552 := Fe.same W552
      have K552 : Keep h0 h552 [tb, xo, xd, xl, xq, xh] := (Keep.refl h0 [tb, xo, xd, xl, xq, xh]).wr W552 (Or.inl (by simp))
      have N552 := Fr.snoc X552 N0 g_tb
      refine Run.pre (fun _ k => XS.istore X552.here hx rfl (hb hby d4_76) rfl (l' := #[.val (.ref tb), .val (.long xk), .second, .val (.long dq), .second, .val (.int lk), .val (.int qk), .val (.int (1 : Int32)), .unset]) rfl k) ?_
      refine Run.pre (fun _ k => XS.aloadN X552.here hx rfl (hb hby d4_78) rfl rfl k) ?_
      show Run p e below s _ _ _ (T552.setTop (mkF m 79 #[.val (.ref tb), .val (.long xk), .second, .val (.long dq), .second, .val (.int lk), .val (.int qk), .val (.int (1 : Int32)), .unset] [(.ref tb)]))
      have f553 := (FR0.other W552 (Or.inr (slot_ne (Or.inl (hwi hw 11 rfl)) (Or.inl (hwi hw 35 rfl)) (by decide) (t := (.array .long)) (t' := .int) (by decide) (by decide))))
      obtain ⟨T554, X554, e554, st554⟩ := getF X552 hx hZ hown (host := "") (Or.inl (hwi hw 10 rfl)) Via.refl e552 f553 (g := (mkF m 79 #[.val (.ref tb), .val (.long xk), .second, .val (.long dq), .second, .val (.int lk), .val (.int qk), .val (.int (1 : Int32)), .unset] [(.ref tb)])) rfl rfl (hb hby d4_79)
      refine Run.pre st554 ?_
      refine Run.pre (fun _ k => XS.iload X554.here hx rfl (hb hby d4_82) rfl  k) ?_
      refine Run.pre (fun _ k => XS.lloadN X554.here hx rfl (hb hby d4_84) rfl  k) ?_
      have f555 := (AR0.other W552 (Ne.symm ne_tb_xo))
      obtain ⟨c556, Ar556, q556, S556, N556, H556, G556⟩ := id f555
      have hin556 : ¬ ((1 : Int32) < 0 ∨ c556.slots.size ≤ ((1 : Int32)).toNatClampNeg) := inb_of S556 ⟨by decide, by decide⟩
      obtain ⟨T557, h557, X557, e557, W557, st557⟩ := stJ X554 hx hZ e554 Ar556 (j := (1 : Int32)) hin556 (g := (mkF m 85 #[.val (.ref tb), .val (.long xk), .second, .val (.long dq), .second, .val (.int lk), .val (.int qk), .val (.int (1 : Int32)), .unset] [(.long xk), (.int (1 : Int32)), (.ref xo)])) rfl rfl (hb hby d4_85)
      refine Run.pre st557 ?_
      have V_xo_557 : Arv Z h557 xo ko .long (16 : Int32) (own_LJ p0 xk p2) (.long (0 : Int64)) := Arv.set Ar556 q556 S556 N556 H556 G556 rfl W557 1 rfl (Nat.le_of_ble_eq_true rfl)
      have K557 : Keep h0 h557 [tb, xo, xd, xl, xq, xh] := K552.wr W557 (Or.inl (by simp))
      have N557 := Fr.snoc X557 N552 g_xo
      show Run p e below s _ _ _ (T557.setTop (mkF m 86 #[.val (.ref tb), .val (.long xk), .second, .val (.long dq), .second, .val (.int lk), .val (.int qk), .val (.int (1 : Int32)), .unset] []))
      have f558 := ((E_tb.wr W552).wr W557)
      have f559 := (f553.other W557 (Or.inl ne_tb_xo))
      have f560 := ((FR1.other W552 (Or.inr (slot_ne (Or.inl (hwi hw 13 rfl)) (Or.inl (hwi hw 35 rfl)) (by decide) (t := (.array .long)) (t' := .int) (by decide) (by decide)))).other W557 (Or.inl ne_tb_xo))
      have f561 := ((FR2.other W552 (Or.inr (slot_ne (Or.inl (hwi hw 16 rfl)) (Or.inl (hwi hw 35 rfl)) (by decide) (t := (.array .int)) (t' := .int) (by decide) (by decide)))).other W557 (Or.inl ne_tb_xo))
      have f562 := ((FR3.other W552 (Or.inr (slot_ne (Or.inl (hwi hw 18 rfl)) (Or.inl (hwi hw 35 rfl)) (by decide) (t := (.array .int)) (t' := .int) (by decide) (by decide)))).other W557 (Or.inl ne_tb_xo))
      have f563 := ((FR4.other W552 (Or.inr (slot_ne (Or.inl (hwi hw 21 rfl)) (Or.inl (hwi hw 35 rfl)) (by decide) (t := (.array .boolean)) (t' := .int) (by decide) (by decide)))).other W557 (Or.inl ne_tb_xo))
      have f564 := ((Ff.other W552 (Or.inr (slot_ne (Or.inl (hwi hw 37 rfl)) (Or.inl (hwi hw 35 rfl)) (by decide) (t := .int) (t' := .int) (by decide) (by decide)))).other W557 (Or.inl ne_tb_xo))
      have f565 := (Fw552.other W557 (Or.inl ne_tb_xo))
      have f566 := ((Fz.other W552 (Or.inr (slot_ne (Or.inl (hwi hw 28 rfl)) (Or.inl (hwi hw 35 rfl)) (by decide) (t := .int) (t' := .int) (by decide) (by decide)))).other W557 (Or.inl ne_tb_xo))
      have f567 := ((AR1.other W552 (Ne.symm ne_tb_xd)).other W557 (Ne.symm ne_xo_xd))
      have f568 := ((AR2.other W552 (Ne.symm ne_tb_xl)).other W557 (Ne.symm ne_xo_xl))
      have f569 := ((AR3.other W552 (Ne.symm ne_tb_xq)).other W557 (Ne.symm ne_xo_xq))
      have f570 := ((AR4.other W552 (Ne.symm ne_tb_xh)).other W557 (Ne.symm ne_xo_xh))
      exact GT1 p0 xk p2 d0 d1 d2 l0 l1 l2 q0 q1 q2 (1 : Int32) (0 : Int32) (0 : Int32) (0 : Int32) (2 : Int32) (1 : Int32) _ _ _ X557 e557 N557 K557 f558 f559 f560 f561 f562 f563 f564 f565 f566 V_xo_557 f567 f568 f569 f570 ⟨fun _ => ⟨(Or.inr (Or.inr (Or.inr (Or.inl ⟨(by decide), (by decide), (by decide), (by decide), (by decide), (by decide), ((lw_gt _ _).mp hc547), fun x => by show (S x ∨ x = xk) ↔ _; rw [hS x]; try simp [or_comm, or_left_comm, or_assoc]⟩)))), fun _ => by decide, Or.inr (by decide)⟩, fun q => absurd (by decide) q⟩
    · skip
      refine Run.pre (fun _ k => XS.ifNo X545.here hx rfl (hb hby d4_24) rfl ((if0 _ _).trans (flt (hc547 : ¬ ((0 : Int32) < (lcmpW xk p0)))).2.2.1) k) ?_
      refine Run.pre (fun _ k => XS.aloadN X545.here hx rfl (hb hby d4_27) rfl rfl k) ?_
      refine Run.pre (fun _ k => XS.lloadN X545.here hx rfl (hb hby d4_28) rfl  k) ?_
      refine Run.callP X545 hx hZ (y := (⟨"com/example/manana/manana/storage/WaitingTable", "slotOf", "(J)I"⟩ : MethodName)) hown (hwi hw 42 rfl) (hwi hw 43 rfl) (own_selP (y := (⟨"com/example/manana/manana/storage/WaitingTable", "slotOf", "(J)I"⟩ : MethodName)) (z := (⟨"com/example/manana/manana/storage/WaitingTable", "lowest", "(J)J"⟩ : MethodName)) (hwi hw 43 rfl) (hwi hw 44 rfl) (hwi hw 25 rfl) rfl (by decide)) (hwi hw 44 rfl) (hwi hw 45 rfl) (hwi hw 2 rfl) (by decide) (a := tb) E_tb (W := 0) (rmS_01 l Z a0 hw tb xo ko p0 p1 p2 xk h0 n0 (Nat.le_trans Z0 (Keep.refl h0 [tb, xo, xd, xl, xq, xh]).1) E_tb FR0 Ff Fe AR0) e545 (by decide) (by decide) (by decide) (by decide) (g := (mkF m 29 #[.val (.ref tb), .val (.long xk), .second, .val (.long dq), .second, .val (.int lk), .val (.int qk), .unset, .unset] [(.long xk), (.ref tb)])) rfl (by rw [hml]; rfl) (argsL := [(.long xk)]) (rest := []) (lenOf pd_2 rfl) rfl (by show 2 * 0 + _ ≤ _; exact Nat.le_of_eq rfl) (hb hby d4_29) ?_
      intro v571 T571 L571 X571 hQ571
      obtain ⟨r571, rfl, Nq571, he571, sp571⟩ := hQ571
      have N571 := Fr.app N0 Nq571
      have e571 : T571.heap = h0 := he571
      show Run p e below s _ _ _ (T571.setTop (mkF m 32 #[.val (.ref tb), .val (.long xk), .second, .val (.long dq), .second, .val (.int lk), .val (.int qk), .unset, .unset] [(.int r571)]))
      rcases sp571 with ⟨rfl, s0⟩ | ⟨rfl, s0⟩ | ⟨rfl, s0⟩
      · skip
        exact absurd ((lw_gt _ _).mpr s0.2) hc547
      · skip
        show Run p e below s _ _ _ (T571.setTop (mkF m 32 #[.val (.ref tb), .val (.long xk), .second, .val (.long dq), .second, .val (.int lk), .val (.int qk), .unset, .unset] [(.int (-1 : Int32))]))
        refine Run.pre (fun _ k => XS.istore X571.here hx rfl (hb hby d4_32) rfl (l' := #[.val (.ref tb), .val (.long xk), .second, .val (.long dq), .second, .val (.int lk), .val (.int qk), .val (.int (-1 : Int32)), .unset]) rfl k) ?_
        refine Run.pre (fun _ k => XS.iload X571.here hx rfl (hb hby d4_34) rfl  k) ?_
        refine Run.pre (fun _ k => XS.ifNo X571.here hx rfl (hb hby d4_36) rfl ((if0 _ _).trans (tlt ((by decide) : (-1 : Int32) < (0 : Int32))).2.1) k) ?_
        refine Run.pre (fun _ k => XS.aloadN X571.here hx rfl (hb hby d4_39) rfl rfl k) ?_
        refine Run.pre (fun _ k => XS.lloadN X571.here hx rfl (hb hby d4_40) rfl  k) ?_
        refine Run.callP X571 hx hZ (y := (⟨"com/example/manana/manana/storage/WaitingTable", "insert", "(J)I"⟩ : MethodName)) hown (hwi hw 56 rfl) (hwi hw 57 rfl) (own_selP (y := (⟨"com/example/manana/manana/storage/WaitingTable", "insert", "(J)I"⟩ : MethodName)) (z := (⟨"com/example/manana/manana/storage/WaitingTable", "lowest", "(J)J"⟩ : MethodName)) (hwi hw 57 rfl) (hwi hw 58 rfl) (hwi hw 25 rfl) rfl (by decide)) (hwi hw 58 rfl) (hwi hw 59 rfl) (hwi hw 2 rfl) (by decide) (a := tb) E_tb (W := 0) (rmIn_01_0 l Z a0 hw tb xo xd xl xq xh ko kd kl kq kh p0 p1 p2 d0 d1 d2 l0 l1 l2 q0 q1 q2 (1 : Int32) (0 : Int32) (0 : Int32) (1 : Int32) xk h0 n0 (Nat.le_trans Z0 (Keep.refl h0 [tb, xo, xd, xl, xq, xh]).1) E_tb FR0 FR1 FR2 FR3 FR4 Ff Fe Fz AR0 AR1 AR2 AR3 AR4 hD g_tb g_xo g_xd g_xl g_xq g_xh s0) e571 (by decide) (by decide) (by decide) (by decide) (g := (mkF m 41 #[.val (.ref tb), .val (.long xk), .second, .val (.long dq), .second, .val (.int lk), .val (.int qk), .val (.int (-1 : Int32)), .unset] [(.long xk), (.ref tb)])) rfl (by rw [hml]; rfl) (argsL := [(.long xk)]) (rest := []) (lenOf pd_2 rfl) rfl (by show 2 * 0 + _ ≤ _; exact Nat.le_of_eq rfl) (hb hby d4_41) ?_
        intro v572 T572 L572 X572 hQ572
        obtain ⟨rfl, Nq572, Kc572, iE_tb_572, iFR0_572, iFR1_572, iFR2_572, iFR3_572, iFR4_572, iFf_572, iFe_572, iFz_572, iAR0_572, iAR1_572, iAR2_572, iAR3_572, iAR4_572⟩ := hQ572
        have N572 := Fr.app N571 Nq572
        have K572 : Keep h0 T572.heap [tb, xo, xd, xl, xq, xh] := (Keep.refl h0 [tb, xo, xd, xl, xq, xh]).trans Kc572 (allS (Or.inl (by simp)) (allS (Or.inl (by simp)) (allS (Or.inl (by simp)) (allS (Or.inl (by simp)) (allS (Or.inl (by simp)) (allS (Or.inl (by simp)) all0))))))
        show Run p e below s _ _ _ (T572.setTop (mkF m 44 #[.val (.ref tb), .val (.long xk), .second, .val (.long dq), .second, .val (.int lk), .val (.int qk), .val (.int (-1 : Int32)), .unset] [(.int (0 : Int32))]))
        refine Run.pre (fun _ k => XS.istore X572.here hx rfl (hb hby d4_44) rfl (l' := #[.val (.ref tb), .val (.long xk), .second, .val (.long dq), .second, .val (.int lk), .val (.int qk), .val (.int (0 : Int32)), .unset]) rfl k) ?_
        refine Run.pre (fun _ k => XS.goto X572.here hx rfl (pc0 := 46) (pc' := 86) rfl (hb hby d4_46) (by decide) (by decide) k) ?_
        show Run p e below s _ _ _ (T572.setTop (mkF m 86 #[.val (.ref tb), .val (.long xk), .second, .val (.long dq), .second, .val (.int lk), .val (.int qk), .val (.int (0 : Int32)), .unset] []))
        exact GT0 xk p0 p2 d0 d0 d2 l0 l0 l2 q0 q0 q2 (nar .boolean (0 : Int32)) (1 : Int32) (0 : Int32) (0 : Int32) (2 : Int32) (1 : Int32) _ _ _ X572 rfl N572 K572 iE_tb_572 iFR0_572 iFR1_572 iFR2_572 iFR3_572 iFR4_572 iFf_572 iFe_572 iFz_572 iAR0_572 iAR1_572 iAR2_572 iAR3_572 iAR4_572 ⟨fun _ => ⟨(Or.inr (Or.inr (Or.inr (Or.inl ⟨(by decide), (by decide), (by decide), (by decide), (by decide), (by decide), s0.1, fun x => by show (S x ∨ x = xk) ↔ _; rw [hS x]; try simp [or_comm, or_left_comm, or_assoc]⟩)))), fun _ => by decide, Or.inr (by decide)⟩, fun q => absurd (by decide) q⟩
      · skip
        show Run p e below s _ _ _ (T571.setTop (mkF m 32 #[.val (.ref tb), .val (.long xk), .second, .val (.long dq), .second, .val (.int lk), .val (.int qk), .unset, .unset] [(.int (0 : Int32))]))
        refine Run.pre (fun _ k => XS.istore X571.here hx rfl (hb hby d4_32) rfl (l' := #[.val (.ref tb), .val (.long xk), .second, .val (.long dq), .second, .val (.int lk), .val (.int qk), .val (.int (0 : Int32)), .unset]) rfl k) ?_
        refine Run.pre (fun _ k => XS.iload X571.here hx rfl (hb hby d4_34) rfl  k) ?_
        refine Run.pre (fun _ k => XS.ifYes X571.here hx rfl (pc0 := 36) (pc' := 86) rfl (hb hby d4_36) rfl ((if0 _ _).trans (flt ((by decide) : ¬ ((0 : Int32) < (0 : Int32)))).2.1) (by decide) (by decide) k) ?_
        show Run p e below s _ _ _ (T571.setTop (mkF m 86 #[.val (.ref tb), .val (.long xk), .second, .val (.long dq), .second, .val (.int lk), .val (.int qk), .val (.int (0 : Int32)), .unset] []))
        have hxe0 := own_eqE s0
        exact GT0 p0 p1 p2 d0 d1 d2 l0 l1 l2 q0 q1 q2 (1 : Int32) (0 : Int32) (0 : Int32) (0 : Int32) (1 : Int32) (1 : Int32) _ _ _ X571 e571 N571 (Keep.refl h0 [tb, xo, xd, xl, xq, xh]) E_tb FR0 FR1 FR2 FR3 FR4 Ff Fe Fz AR0 AR1 AR2 AR3 AR4 ⟨fun q => absurd q (by decide), fun _ => ⟨(Or.inr (Or.inl ⟨(by decide), (by decide), (by decide), (by decide), (by decide), (by decide), fun x => by show (S x ∨ x = xk) ↔ _; rw [hS x, hxe0]; try simp [or_comm, or_left_comm, or_assoc]⟩)), fun _ => by decide, Or.inl (by decide)⟩⟩
  · skip
    show Run p e below s _ _ _ (s₁.setTop (mkF m 0 #[.val (.ref tb), .val (.long xk), .second, .val (.long dq), .second, .val (.int lk), .val (.int qk), .unset, .unset] []))
    refine Run.pre (fun _ k => XS.aloadN X0.here hx rfl (hb hby d4_0) rfl rfl k) ?_
    obtain ⟨T573, X573, e573, st573⟩ := getF X0 hx hZ hown (host := "") (Or.inl (hwi hw 34 rfl)) Via.refl e0 Fe (g := (mkF m 1 #[.val (.ref tb), .val (.long xk), .second, .val (.long dq), .second, .val (.int lk), .val (.int qk), .unset, .unset] [(.ref tb)])) rfl rfl (hb hby d4_1)
    refine Run.pre st573 ?_
    refine Run.pre (fun _ k => XS.aloadN X573.here hx rfl (hb hby d4_4) rfl rfl k) ?_
    obtain ⟨T574, X574, e574, st574⟩ := getF X573 hx hZ hown (host := "") (Or.inl (hwi hw 36 rfl)) Via.refl e573 Ff (g := (mkF m 5 #[.val (.ref tb), .val (.long xk), .second, .val (.long dq), .second, .val (.int lk), .val (.int qk), .unset, .unset] [(.ref tb), (.int (1 : Int32))])) rfl rfl (hb hby d4_5)
    refine Run.pre st574 ?_
    refine Run.pre (fun _ k => XS.icmpYes X574.here hx rfl (pc0 := 8) (pc' := 49) rfl (hb hby d4_8) rfl (flt ((by decide) : ¬ ((1 : Int32) < (1 : Int32)))).2.2.2 (by decide) (by decide) k) ?_
    refine Run.pre (fun _ k => XS.aloadN X574.here hx rfl (hb hby d4_49) rfl rfl k) ?_
    show Run p e below s _ _ _ (T574.setTop (mkF m 50 #[.val (.ref tb), .val (.long xk), .second, .val (.long dq), .second, .val (.int lk), .val (.int qk), .unset, .unset] [(.ref tb)]))
    obtain ⟨T575, X575, e575, st575⟩ := getF X574 hx hZ hown (host := "") (Or.inl (hwi hw 34 rfl)) Via.refl e574 Fe (g := (mkF m 50 #[.val (.ref tb), .val (.long xk), .second, .val (.long dq), .second, .val (.int lk), .val (.int qk), .unset, .unset] [(.ref tb)])) rfl rfl (hb hby d4_50)
    refine Run.pre st575 ?_
    refine Run.pre (fun _ k => XS.aloadN X575.here hx rfl (hb hby d4_53) rfl rfl k) ?_
    obtain ⟨T576, X576, e576, st576⟩ := getF X575 hx hZ hown (host := "") (Or.inl (hwi hw 10 rfl)) Via.refl e575 FR0 (g := (mkF m 54 #[.val (.ref tb), .val (.long xk), .second, .val (.long dq), .second, .val (.int lk), .val (.int qk), .unset, .unset] [(.ref tb), (.int (1 : Int32))])) rfl rfl (hb hby d4_54)
    refine Run.pre st576 ?_
    obtain ⟨c577, Ar577, -, S577, N577, -, -⟩ := id AR0
    refine Run.pre (X576.arraylength hx (by rw [e576]; exact Ar577.1) (State.isArrayOf_alike hZ.alike Ar577.2.1) (g := (mkF m 57 #[.val (.ref tb), .val (.long xk), .second, .val (.long dq), .second, .val (.int lk), .val (.int qk), .unset, .unset] [(.ref xo), (.int (1 : Int32))])) rfl rfl (hb hby d4_57)) ?_
    rw [len_of S577 N577]
    refine Run.pre (fun _ k => XS.icmpYes X576.here hx rfl (pc0 := 58) (pc' := 65) rfl (hb hby d4_58) rfl (feq ((by decide) : ¬ ((1 : Int32) = (16 : Int32)))).2 (by decide) (by decide) k) ?_
    refine Run.pre (fun _ k => XS.aloadN X576.here hx rfl (hb hby d4_65) rfl rfl k) ?_
    show Run p e below s _ _ _ (T576.setTop (mkF m 66 #[.val (.ref tb), .val (.long xk), .second, .val (.long dq), .second, .val (.int lk), .val (.int qk), .unset, .unset] [(.ref tb)]))
    refine Run.pre (fun _ k => XS.dup X576.here hx rfl (hb hby d4_66) rfl rfl k) ?_
    obtain ⟨T578, X578, e578, st578⟩ := getF X576 hx hZ hown (host := "") (Or.inl (hwi hw 34 rfl)) Via.refl e576 Fe (g := (mkF m 67 #[.val (.ref tb), .val (.long xk), .second, .val (.long dq), .second, .val (.int lk), .val (.int qk), .unset, .unset] [(.ref tb), (.ref tb)])) rfl rfl (hb hby d4_67)
    refine Run.pre st578 ?_
    refine Run.pre (fun _ k => XS.dupX1 X578.here hx rfl (hb hby d4_70) rfl rfl rfl k) ?_
    refine Run.pre (fun _ k => XS.iconst X578.here hx rfl (hb hby d4_71) k) ?_
    refine Run.pre (fun _ k => XS.iadd X578.here hx rfl (hb hby d4_72) rfl k) ?_
    obtain ⟨T579, h579, X579, e579, W579, st579⟩ := putF X578 hx hZ hown (host := "") (Or.inl (hwi hw 34 rfl)) Via.refl e578 Fe E_tb (Or.inl (hwi hw 35 rfl)) (hwi hw 1 rfl) (ty := .int) (by decide) rfl rfl (g := (mkF m 73 #[.val (.ref tb), .val (.long xk), .second, .val (.long dq), .second, .val (.int lk), .val (.int qk), .unset, .unset] [(.int (2 : Int32)), (.ref tb), (.int (1 : Int32))])) rfl rfl (hb hby d4_73)
    refine Run.pre st579 ?_
    have Fw579 := Fe.same W579
    have K579 : Keep h0 h579 [tb, xo, xd, xl, xq, xh] := (Keep.refl h0 [tb, xo, xd, xl, xq, xh]).wr W579 (Or.inl (by simp))
    have N579 := Fr.snoc X579 N0 g_tb
    show Run p e below s _ _ _ (T579.setTop (mkF m 76 #[.val (.ref tb), .val (.long xk), .second, .val (.long dq), .second, .val (.int lk), .val (.int qk), .unset, .unset] [(.int (1 : Int32))]))
    refine Run.pre (fun _ k => XS.istore X579.here hx rfl (hb hby d4_76) rfl (l' := #[.val (.ref tb), .val (.long xk), .second, .val (.long dq), .second, .val (.int lk), .val (.int qk), .val (.int (1 : Int32)), .unset]) rfl k) ?_
    refine Run.pre (fun _ k => XS.aloadN X579.here hx rfl (hb hby d4_78) rfl rfl k) ?_
    have f580 := (FR0.other W579 (Or.inr (slot_ne (Or.inl (hwi hw 11 rfl)) (Or.inl (hwi hw 35 rfl)) (by decide) (t := (.array .long)) (t' := .int) (by decide) (by decide))))
    obtain ⟨T581, X581, e581, st581⟩ := getF X579 hx hZ hown (host := "") (Or.inl (hwi hw 10 rfl)) Via.refl e579 f580 (g := (mkF m 79 #[.val (.ref tb), .val (.long xk), .second, .val (.long dq), .second, .val (.int lk), .val (.int qk), .val (.int (1 : Int32)), .unset] [(.ref tb)])) rfl rfl (hb hby d4_79)
    refine Run.pre st581 ?_
    refine Run.pre (fun _ k => XS.iload X581.here hx rfl (hb hby d4_82) rfl  k) ?_
    refine Run.pre (fun _ k => XS.lloadN X581.here hx rfl (hb hby d4_84) rfl  k) ?_
    have f582 := (AR0.other W579 (Ne.symm ne_tb_xo))
    obtain ⟨c583, Ar583, q583, S583, N583, H583, G583⟩ := id f582
    have hin583 : ¬ ((1 : Int32) < 0 ∨ c583.slots.size ≤ ((1 : Int32)).toNatClampNeg) := inb_of S583 ⟨by decide, by decide⟩
    obtain ⟨T584, h584, X584, e584, W584, st584⟩ := stJ X581 hx hZ e581 Ar583 (j := (1 : Int32)) hin583 (g := (mkF m 85 #[.val (.ref tb), .val (.long xk), .second, .val (.long dq), .second, .val (.int lk), .val (.int qk), .val (.int (1 : Int32)), .unset] [(.long xk), (.int (1 : Int32)), (.ref xo)])) rfl rfl (hb hby d4_85)
    refine Run.pre st584 ?_
    have V_xo_584 : Arv Z h584 xo ko .long (16 : Int32) (own_LJ p0 xk p2) (.long (0 : Int64)) := Arv.set Ar583 q583 S583 N583 H583 G583 rfl W584 1 rfl (Nat.le_of_ble_eq_true rfl)
    have K584 : Keep h0 h584 [tb, xo, xd, xl, xq, xh] := K579.wr W584 (Or.inl (by simp))
    have N584 := Fr.snoc X584 N579 g_xo
    show Run p e below s _ _ _ (T584.setTop (mkF m 86 #[.val (.ref tb), .val (.long xk), .second, .val (.long dq), .second, .val (.int lk), .val (.int qk), .val (.int (1 : Int32)), .unset] []))
    have f585 := ((E_tb.wr W579).wr W584)
    have f586 := (f580.other W584 (Or.inl ne_tb_xo))
    have f587 := ((FR1.other W579 (Or.inr (slot_ne (Or.inl (hwi hw 13 rfl)) (Or.inl (hwi hw 35 rfl)) (by decide) (t := (.array .long)) (t' := .int) (by decide) (by decide)))).other W584 (Or.inl ne_tb_xo))
    have f588 := ((FR2.other W579 (Or.inr (slot_ne (Or.inl (hwi hw 16 rfl)) (Or.inl (hwi hw 35 rfl)) (by decide) (t := (.array .int)) (t' := .int) (by decide) (by decide)))).other W584 (Or.inl ne_tb_xo))
    have f589 := ((FR3.other W579 (Or.inr (slot_ne (Or.inl (hwi hw 18 rfl)) (Or.inl (hwi hw 35 rfl)) (by decide) (t := (.array .int)) (t' := .int) (by decide) (by decide)))).other W584 (Or.inl ne_tb_xo))
    have f590 := ((FR4.other W579 (Or.inr (slot_ne (Or.inl (hwi hw 21 rfl)) (Or.inl (hwi hw 35 rfl)) (by decide) (t := (.array .boolean)) (t' := .int) (by decide) (by decide)))).other W584 (Or.inl ne_tb_xo))
    have f591 := ((Ff.other W579 (Or.inr (slot_ne (Or.inl (hwi hw 37 rfl)) (Or.inl (hwi hw 35 rfl)) (by decide) (t := .int) (t' := .int) (by decide) (by decide)))).other W584 (Or.inl ne_tb_xo))
    have f592 := (Fw579.other W584 (Or.inl ne_tb_xo))
    have f593 := ((Fz.other W579 (Or.inr (slot_ne (Or.inl (hwi hw 28 rfl)) (Or.inl (hwi hw 35 rfl)) (by decide) (t := .int) (t' := .int) (by decide) (by decide)))).other W584 (Or.inl ne_tb_xo))
    have f594 := ((AR1.other W579 (Ne.symm ne_tb_xd)).other W584 (Ne.symm ne_xo_xd))
    have f595 := ((AR2.other W579 (Ne.symm ne_tb_xl)).other W584 (Ne.symm ne_xo_xl))
    have f596 := ((AR3.other W579 (Ne.symm ne_tb_xq)).other W584 (Ne.symm ne_xo_xq))
    have f597 := ((AR4.other W579 (Ne.symm ne_tb_xh)).other W584 (Ne.symm ne_xo_xh))
    exact GT1 p0 xk p2 d0 d1 d2 l0 l1 l2 q0 q1 q2 (0 : Int32) (0 : Int32) (0 : Int32) (1 : Int32) (2 : Int32) (0 : Int32) _ _ _ X584 e584 N584 K584 f585 f586 f587 f588 f589 f590 f591 f592 f593 V_xo_584 f594 f595 f596 f597 ⟨fun _ => ⟨(Or.inr (Or.inr (Or.inr (Or.inr (Or.inl ⟨(by decide), (by decide), (by decide), (by decide), (by decide), (by decide), fun x => by show (S x ∨ x = xk) ↔ _; rw [hS x]; try simp [or_comm, or_left_comm, or_assoc]⟩))))), fun q => absurd q (by decide), Or.inr (by decide)⟩, fun q => absurd (by decide) q⟩
  · skip
    show Run p e below s _ _ _ (s₁.setTop (mkF m 0 #[.val (.ref tb), .val (.long xk), .second, .val (.long dq), .second, .val (.int lk), .val (.int qk), .unset, .unset] []))
    refine Run.pre (fun _ k => XS.aloadN X0.here hx rfl (hb hby d4_0) rfl rfl k) ?_
    obtain ⟨T598, X598, e598, st598⟩ := getF X0 hx hZ hown (host := "") (Or.inl (hwi hw 34 rfl)) Via.refl e0 Fe (g := (mkF m 1 #[.val (.ref tb), .val (.long xk), .second, .val (.long dq), .second, .val (.int lk), .val (.int qk), .unset, .unset] [(.ref tb)])) rfl rfl (hb hby d4_1)
    refine Run.pre st598 ?_
    refine Run.pre (fun _ k => XS.aloadN X598.here hx rfl (hb hby d4_4) rfl rfl k) ?_
    obtain ⟨T599, X599, e599, st599⟩ := getF X598 hx hZ hown (host := "") (Or.inl (hwi hw 36 rfl)) Via.refl e598 Ff (g := (mkF m 5 #[.val (.ref tb), .val (.long xk), .second, .val (.long dq), .second, .val (.int lk), .val (.int qk), .unset, .unset] [(.ref tb), (.int (2 : Int32))])) rfl rfl (hb hby d4_5)
    refine Run.pre st599 ?_
    refine Run.pre (fun _ k => XS.icmpNo X599.here hx rfl (hb hby d4_8) rfl (tlt ((by decide) : (0 : Int32) < (2 : Int32))).2.2.2 k) ?_
    refine Run.pre (fun _ k => XS.lloadN X599.here hx rfl (hb hby d4_11) rfl  k) ?_
    show Run p e below s _ _ _ (T599.setTop (mkF m 12 #[.val (.ref tb), .val (.long xk), .second, .val (.long dq), .second, .val (.int lk), .val (.int qk), .unset, .unset] [(.long xk)]))
    refine Run.pre (fun _ k => XS.aloadN X599.here hx rfl (hb hby d4_12) rfl rfl k) ?_
    obtain ⟨T600, X600, e600, st600⟩ := getF X599 hx hZ hown (host := "") (Or.inl (hwi hw 10 rfl)) Via.refl e599 FR0 (g := (mkF m 13 #[.val (.ref tb), .val (.long xk), .second, .val (.long dq), .second, .val (.int lk), .val (.int qk), .unset, .unset] [(.ref tb), (.long xk)])) rfl rfl (hb hby d4_13)
    refine Run.pre st600 ?_
    refine Run.pre (fun _ k => XS.aloadN X600.here hx rfl (hb hby d4_16) rfl rfl k) ?_
    obtain ⟨T601, X601, e601, st601⟩ := getF X600 hx hZ hown (host := "") (Or.inl (hwi hw 34 rfl)) Via.refl e600 Fe (g := (mkF m 17 #[.val (.ref tb), .val (.long xk), .second, .val (.long dq), .second, .val (.int lk), .val (.int qk), .unset, .unset] [(.ref tb), (.ref xo), (.long xk)])) rfl rfl (hb hby d4_17)
    refine Run.pre st601 ?_
    refine Run.pre (fun _ k => XS.iconst X601.here hx rfl (hb hby d4_20) k) ?_
    refine Run.pre (fun _ k => XS.isub X601.here hx rfl (hb hby d4_21) rfl k) ?_
    show Run p e below s _ _ _ (T601.setTop (mkF m 22 #[.val (.ref tb), .val (.long xk), .second, .val (.long dq), .second, .val (.int lk), .val (.int qk), .unset, .unset] [(.int (1 : Int32)), (.ref xo), (.long xk)]))
    obtain ⟨c602, Ar602, -, S602, N602, H602, -⟩ := id AR0
    have hin602 : ¬ ((1 : Int32) < 0 ∨ c602.slots.size ≤ ((1 : Int32)).toNatClampNeg) := inb_of S602 ⟨by decide, by decide⟩
    refine Run.pre (X601.laload hx (j := (1 : Int32)) (v := (.long p1)) (by rw [e601]; exact Ar602.1) (State.isArrayOf_alike hZ.alike Ar602.2.1) Ar602.2.2 hin602 (H602.at hin602 rfl) (g := (mkF m 22 #[.val (.ref tb), .val (.long xk), .second, .val (.long dq), .second, .val (.int lk), .val (.int qk), .unset, .unset] [(.int (1 : Int32)), (.ref xo), (.long xk)])) rfl rfl (hb hby d4_22)) ?_
    refine Run.pre (fun _ k => XS.lcmp X601.here hx rfl (hb hby d4_23) rfl k) ?_
    by_cases hc603 : (0 : Int32) < (lcmpW xk p1)
    · skip
      refine Run.pre (fun _ k => XS.ifYes X601.here hx rfl (pc0 := 24) (pc' := 49) rfl (hb hby d4_24) rfl ((if0 _ _).trans (tlt (hc603 : (0 : Int32) < (lcmpW xk p1))).2.2.1) (by decide) (by decide) k) ?_
      refine Run.pre (fun _ k => XS.aloadN X601.here hx rfl (hb hby d4_49) rfl rfl k) ?_
      obtain ⟨T604, X604, e604, st604⟩ := getF X601 hx hZ hown (host := "") (Or.inl (hwi hw 34 rfl)) Via.refl e601 Fe (g := (mkF m 50 #[.val (.ref tb), .val (.long xk), .second, .val (.long dq), .second, .val (.int lk), .val (.int qk), .unset, .unset] [(.ref tb)])) rfl rfl (hb hby d4_50)
      refine Run.pre st604 ?_
      refine Run.pre (fun _ k => XS.aloadN X604.here hx rfl (hb hby d4_53) rfl rfl k) ?_
      show Run p e below s _ _ _ (T604.setTop (mkF m 54 #[.val (.ref tb), .val (.long xk), .second, .val (.long dq), .second, .val (.int lk), .val (.int qk), .unset, .unset] [(.ref tb), (.int (2 : Int32))]))
      obtain ⟨T605, X605, e605, st605⟩ := getF X604 hx hZ hown (host := "") (Or.inl (hwi hw 10 rfl)) Via.refl e604 FR0 (g := (mkF m 54 #[.val (.ref tb), .val (.long xk), .second, .val (.long dq), .second, .val (.int lk), .val (.int qk), .unset, .unset] [(.ref tb), (.int (2 : Int32))])) rfl rfl (hb hby d4_54)
      refine Run.pre st605 ?_
      obtain ⟨c606, Ar606, -, S606, N606, -, -⟩ := id AR0
      refine Run.pre (X605.arraylength hx (by rw [e605]; exact Ar606.1) (State.isArrayOf_alike hZ.alike Ar606.2.1) (g := (mkF m 57 #[.val (.ref tb), .val (.long xk), .second, .val (.long dq), .second, .val (.int lk), .val (.int qk), .unset, .unset] [(.ref xo), (.int (2 : Int32))])) rfl rfl (hb hby d4_57)) ?_
      rw [len_of S606 N606]
      refine Run.pre (fun _ k => XS.icmpYes X605.here hx rfl (pc0 := 58) (pc' := 65) rfl (hb hby d4_58) rfl (feq ((by decide) : ¬ ((2 : Int32) = (16 : Int32)))).2 (by decide) (by decide) k) ?_
      refine Run.pre (fun _ k => XS.aloadN X605.here hx rfl (hb hby d4_65) rfl rfl k) ?_
      refine Run.pre (fun _ k => XS.dup X605.here hx rfl (hb hby d4_66) rfl rfl k) ?_
      obtain ⟨T607, X607, e607, st607⟩ := getF X605 hx hZ hown (host := "") (Or.inl (hwi hw 34 rfl)) Via.refl e605 Fe (g := (mkF m 67 #[.val (.ref tb), .val (.long xk), .second, .val (.long dq), .second, .val (.int lk), .val (.int qk), .unset, .unset] [(.ref tb), (.ref tb)])) rfl rfl (hb hby d4_67)
      refine Run.pre st607 ?_
      show Run p e below s _ _ _ (T607.setTop (mkF m 70 #[.val (.ref tb), .val (.long xk), .second, .val (.long dq), .second, .val (.int lk), .val (.int qk), .unset, .unset] [(.int (2 : Int32)), (.ref tb)]))
      refine Run.pre (fun _ k => XS.dupX1 X607.here hx rfl (hb hby d4_70) rfl rfl rfl k) ?_
      refine Run.pre (fun _ k => XS.iconst X607.here hx rfl (hb hby d4_71) k) ?_
      refine Run.pre (fun _ k => XS.iadd X607.here hx rfl (hb hby d4_72) rfl k) ?_
      obtain ⟨T608, h608, X608, e608, W608, st608⟩ := putF X607 hx hZ hown (host := "") (Or.inl (hwi hw 34 rfl)) Via.refl e607 Fe E_tb (Or.inl (hwi hw 35 rfl)) (hwi hw 1 rfl) (ty := .int) (by decide) rfl rfl (g := (mkF m 73 #[.val (.ref tb), .val (.long xk), .second, .val (.long dq), .second, .val (.int lk), .val (.int qk), .unset, .unset] [(.int (3 : Int32)), (.ref tb), (.int (2 : Int32))])) rfl rfl (hb hby d4_73)
      refine Run.pre st608 ?_
      have Fw608 := Fe.same W608
      have K608 : Keep h0 h608 [tb, xo, xd, xl, xq, xh] := (Keep.refl h0 [tb, xo, xd, xl, xq, xh]).wr W608 (Or.inl (by simp))
      have N608 := Fr.snoc X608 N0 g_tb
      refine Run.pre (fun _ k => XS.istore X608.here hx rfl (hb hby d4_76) rfl (l' := #[.val (.ref tb), .val (.long xk), .second, .val (.long dq), .second, .val (.int lk), .val (.int qk), .val (.int (2 : Int32)), .unset]) rfl k) ?_
      refine Run.pre (fun _ k => XS.aloadN X608.here hx rfl (hb hby d4_78) rfl rfl k) ?_
      show Run p e below s _ _ _ (T608.setTop (mkF m 79 #[.val (.ref tb), .val (.long xk), .second, .val (.long dq), .second, .val (.int lk), .val (.int qk), .val (.int (2 : Int32)), .unset] [(.ref tb)]))
      have f609 := (FR0.other W608 (Or.inr (slot_ne (Or.inl (hwi hw 11 rfl)) (Or.inl (hwi hw 35 rfl)) (by decide) (t := (.array .long)) (t' := .int) (by decide) (by decide))))
      obtain ⟨T610, X610, e610, st610⟩ := getF X608 hx hZ hown (host := "") (Or.inl (hwi hw 10 rfl)) Via.refl e608 f609 (g := (mkF m 79 #[.val (.ref tb), .val (.long xk), .second, .val (.long dq), .second, .val (.int lk), .val (.int qk), .val (.int (2 : Int32)), .unset] [(.ref tb)])) rfl rfl (hb hby d4_79)
      refine Run.pre st610 ?_
      refine Run.pre (fun _ k => XS.iload X610.here hx rfl (hb hby d4_82) rfl  k) ?_
      refine Run.pre (fun _ k => XS.lloadN X610.here hx rfl (hb hby d4_84) rfl  k) ?_
      have f611 := (AR0.other W608 (Ne.symm ne_tb_xo))
      obtain ⟨c612, Ar612, q612, S612, N612, H612, G612⟩ := id f611
      have hin612 : ¬ ((2 : Int32) < 0 ∨ c612.slots.size ≤ ((2 : Int32)).toNatClampNeg) := inb_of S612 ⟨by decide, by decide⟩
      obtain ⟨T613, h613, X613, e613, W613, st613⟩ := stJ X610 hx hZ e610 Ar612 (j := (2 : Int32)) hin612 (g := (mkF m 85 #[.val (.ref tb), .val (.long xk), .second, .val (.long dq), .second, .val (.int lk), .val (.int qk), .val (.int (2 : Int32)), .unset] [(.long xk), (.int (2 : Int32)), (.ref xo)])) rfl rfl (hb hby d4_85)
      refine Run.pre st613 ?_
      have V_xo_613 : Arv Z h613 xo ko .long (16 : Int32) (own_LJ p0 p1 xk) (.long (0 : Int64)) := Arv.set Ar612 q612 S612 N612 H612 G612 rfl W613 2 rfl (Nat.le_of_ble_eq_true rfl)
      have K613 : Keep h0 h613 [tb, xo, xd, xl, xq, xh] := K608.wr W613 (Or.inl (by simp))
      have N613 := Fr.snoc X613 N608 g_xo
      show Run p e below s _ _ _ (T613.setTop (mkF m 86 #[.val (.ref tb), .val (.long xk), .second, .val (.long dq), .second, .val (.int lk), .val (.int qk), .val (.int (2 : Int32)), .unset] []))
      have f614 := ((E_tb.wr W608).wr W613)
      have f615 := (f609.other W613 (Or.inl ne_tb_xo))
      have f616 := ((FR1.other W608 (Or.inr (slot_ne (Or.inl (hwi hw 13 rfl)) (Or.inl (hwi hw 35 rfl)) (by decide) (t := (.array .long)) (t' := .int) (by decide) (by decide)))).other W613 (Or.inl ne_tb_xo))
      have f617 := ((FR2.other W608 (Or.inr (slot_ne (Or.inl (hwi hw 16 rfl)) (Or.inl (hwi hw 35 rfl)) (by decide) (t := (.array .int)) (t' := .int) (by decide) (by decide)))).other W613 (Or.inl ne_tb_xo))
      have f618 := ((FR3.other W608 (Or.inr (slot_ne (Or.inl (hwi hw 18 rfl)) (Or.inl (hwi hw 35 rfl)) (by decide) (t := (.array .int)) (t' := .int) (by decide) (by decide)))).other W613 (Or.inl ne_tb_xo))
      have f619 := ((FR4.other W608 (Or.inr (slot_ne (Or.inl (hwi hw 21 rfl)) (Or.inl (hwi hw 35 rfl)) (by decide) (t := (.array .boolean)) (t' := .int) (by decide) (by decide)))).other W613 (Or.inl ne_tb_xo))
      have f620 := ((Ff.other W608 (Or.inr (slot_ne (Or.inl (hwi hw 37 rfl)) (Or.inl (hwi hw 35 rfl)) (by decide) (t := .int) (t' := .int) (by decide) (by decide)))).other W613 (Or.inl ne_tb_xo))
      have f621 := (Fw608.other W613 (Or.inl ne_tb_xo))
      have f622 := ((Fz.other W608 (Or.inr (slot_ne (Or.inl (hwi hw 28 rfl)) (Or.inl (hwi hw 35 rfl)) (by decide) (t := .int) (t' := .int) (by decide) (by decide)))).other W613 (Or.inl ne_tb_xo))
      have f623 := ((AR1.other W608 (Ne.symm ne_tb_xd)).other W613 (Ne.symm ne_xo_xd))
      have f624 := ((AR2.other W608 (Ne.symm ne_tb_xl)).other W613 (Ne.symm ne_xo_xl))
      have f625 := ((AR3.other W608 (Ne.symm ne_tb_xq)).other W613 (Ne.symm ne_xo_xq))
      have f626 := ((AR4.other W608 (Ne.symm ne_tb_xh)).other W613 (Ne.symm ne_xo_xh))
      exact GT2 p0 p1 xk d0 d1 d2 l0 l1 l2 q0 q1 q2 (1 : Int32) (1 : Int32) (0 : Int32) (0 : Int32) (3 : Int32) (2 : Int32) _ _ _ X613 e613 N613 K613 f614 f615 f616 f617 f618 f619 f620 f621 f622 V_xo_613 f623 f624 f625 f626 ⟨fun _ => ⟨(Or.inr (Or.inr (Or.inr (Or.inr (Or.inr (Or.inr (Or.inl ⟨(by decide), (by decide), (by decide), (by decide), (by decide), (by decide), o01, ((lw_gt _ _).mp hc603), fun x => by show (S x ∨ x = xk) ↔ _; rw [hS x]; try simp [or_comm, or_left_comm, or_assoc]⟩))))))), fun _ => by decide, Or.inr (by decide)⟩, fun q => absurd (by decide) q⟩
    · skip
      refine Run.pre (fun _ k => XS.ifNo X601.here hx rfl (hb hby d4_24) rfl ((if0 _ _).trans (flt (hc603 : ¬ ((0 : Int32) < (lcmpW xk p1)))).2.2.1) k) ?_
      refine Run.pre (fun _ k => XS.aloadN X601.here hx rfl (hb hby d4_27) rfl rfl k) ?_
      refine Run.pre (fun _ k => XS.lloadN X601.here hx rfl (hb hby d4_28) rfl  k) ?_
      refine Run.callP X601 hx hZ (y := (⟨"com/example/manana/manana/storage/WaitingTable", "slotOf", "(J)I"⟩ : MethodName)) hown (hwi hw 42 rfl) (hwi hw 43 rfl) (own_selP (y := (⟨"com/example/manana/manana/storage/WaitingTable", "slotOf", "(J)I"⟩ : MethodName)) (z := (⟨"com/example/manana/manana/storage/WaitingTable", "lowest", "(J)J"⟩ : MethodName)) (hwi hw 43 rfl) (hwi hw 44 rfl) (hwi hw 25 rfl) rfl (by decide)) (hwi hw 44 rfl) (hwi hw 45 rfl) (hwi hw 2 rfl) (by decide) (a := tb) E_tb (W := 0) (rmS_02 l Z a0 hw tb xo ko p0 p1 p2 xk h0 n0 (Nat.le_trans Z0 (Keep.refl h0 [tb, xo, xd, xl, xq, xh]).1) E_tb FR0 Ff Fe AR0) e601 (by decide) (by decide) (by decide) (by decide) (g := (mkF m 29 #[.val (.ref tb), .val (.long xk), .second, .val (.long dq), .second, .val (.int lk), .val (.int qk), .unset, .unset] [(.long xk), (.ref tb)])) rfl (by rw [hml]; rfl) (argsL := [(.long xk)]) (rest := []) (lenOf pd_2 rfl) rfl (by show 2 * 0 + _ ≤ _; exact Nat.le_of_eq rfl) (hb hby d4_29) ?_
      intro v627 T627 L627 X627 hQ627
      obtain ⟨r627, rfl, Nq627, he627, sp627⟩ := hQ627
      have N627 := Fr.app N0 Nq627
      have e627 : T627.heap = h0 := he627
      show Run p e below s _ _ _ (T627.setTop (mkF m 32 #[.val (.ref tb), .val (.long xk), .second, .val (.long dq), .second, .val (.int lk), .val (.int qk), .unset, .unset] [(.int r627)]))
      rcases sp627 with ⟨rfl, s0, s1⟩ | ⟨rfl, s0, s1⟩ | ⟨rfl, s0, s1⟩ | ⟨rfl, s0⟩ | ⟨rfl, s0⟩
      · skip
        exact absurd ((lw_gt _ _).mpr s1.2) hc603
      · skip
        show Run p e below s _ _ _ (T627.setTop (mkF m 32 #[.val (.ref tb), .val (.long xk), .second, .val (.long dq), .second, .val (.int lk), .val (.int qk), .unset, .unset] [(.int (-2 : Int32))]))
        refine Run.pre (fun _ k => XS.istore X627.here hx rfl (hb hby d4_32) rfl (l' := #[.val (.ref tb), .val (.long xk), .second, .val (.long dq), .second, .val (.int lk), .val (.int qk), .val (.int (-2 : Int32)), .unset]) rfl k) ?_
        refine Run.pre (fun _ k => XS.iload X627.here hx rfl (hb hby d4_34) rfl  k) ?_
        refine Run.pre (fun _ k => XS.ifNo X627.here hx rfl (hb hby d4_36) rfl ((if0 _ _).trans (tlt ((by decide) : (-2 : Int32) < (0 : Int32))).2.1) k) ?_
        refine Run.pre (fun _ k => XS.aloadN X627.here hx rfl (hb hby d4_39) rfl rfl k) ?_
        refine Run.pre (fun _ k => XS.lloadN X627.here hx rfl (hb hby d4_40) rfl  k) ?_
        refine Run.callP X627 hx hZ (y := (⟨"com/example/manana/manana/storage/WaitingTable", "insert", "(J)I"⟩ : MethodName)) hown (hwi hw 56 rfl) (hwi hw 57 rfl) (own_selP (y := (⟨"com/example/manana/manana/storage/WaitingTable", "insert", "(J)I"⟩ : MethodName)) (z := (⟨"com/example/manana/manana/storage/WaitingTable", "lowest", "(J)J"⟩ : MethodName)) (hwi hw 57 rfl) (hwi hw 58 rfl) (hwi hw 25 rfl) rfl (by decide)) (hwi hw 58 rfl) (hwi hw 59 rfl) (hwi hw 2 rfl) (by decide) (a := tb) E_tb (W := 0) (rmIn_02_1 l Z a0 hw tb xo xd xl xq xh ko kd kl kq kh p0 p1 p2 d0 d1 d2 l0 l1 l2 q0 q1 q2 (1 : Int32) (1 : Int32) (0 : Int32) (2 : Int32) xk h0 n0 (Nat.le_trans Z0 (Keep.refl h0 [tb, xo, xd, xl, xq, xh]).1) E_tb FR0 FR1 FR2 FR3 FR4 Ff Fe Fz AR0 AR1 AR2 AR3 AR4 hD g_tb g_xo g_xd g_xl g_xq g_xh s0 s1) e627 (by decide) (by decide) (by decide) (by decide) (g := (mkF m 41 #[.val (.ref tb), .val (.long xk), .second, .val (.long dq), .second, .val (.int lk), .val (.int qk), .val (.int (-2 : Int32)), .unset] [(.long xk), (.ref tb)])) rfl (by rw [hml]; rfl) (argsL := [(.long xk)]) (rest := []) (lenOf pd_2 rfl) rfl (by show 2 * 0 + _ ≤ _; exact Nat.le_of_eq rfl) (hb hby d4_41) ?_
        intro v628 T628 L628 X628 hQ628
        obtain ⟨rfl, Nq628, Kc628, iE_tb_628, iFR0_628, iFR1_628, iFR2_628, iFR3_628, iFR4_628, iFf_628, iFe_628, iFz_628, iAR0_628, iAR1_628, iAR2_628, iAR3_628, iAR4_628⟩ := hQ628
        have N628 := Fr.app N627 Nq628
        have K628 : Keep h0 T628.heap [tb, xo, xd, xl, xq, xh] := (Keep.refl h0 [tb, xo, xd, xl, xq, xh]).trans Kc628 (allS (Or.inl (by simp)) (allS (Or.inl (by simp)) (allS (Or.inl (by simp)) (allS (Or.inl (by simp)) (allS (Or.inl (by simp)) (allS (Or.inl (by simp)) all0))))))
        show Run p e below s _ _ _ (T628.setTop (mkF m 44 #[.val (.ref tb), .val (.long xk), .second, .val (.long dq), .second, .val (.int lk), .val (.int qk), .val (.int (-2 : Int32)), .unset] [(.int (1 : Int32))]))
        refine Run.pre (fun _ k => XS.istore X628.here hx rfl (hb hby d4_44) rfl (l' := #[.val (.ref tb), .val (.long xk), .second, .val (.long dq), .second, .val (.int lk), .val (.int qk), .val (.int (1 : Int32)), .unset]) rfl k) ?_
        refine Run.pre (fun _ k => XS.goto X628.here hx rfl (pc0 := 46) (pc' := 86) rfl (hb hby d4_46) (by decide) (by decide) k) ?_
        show Run p e below s _ _ _ (T628.setTop (mkF m 86 #[.val (.ref tb), .val (.long xk), .second, .val (.long dq), .second, .val (.int lk), .val (.int qk), .val (.int (1 : Int32)), .unset] []))
        exact GT1 p0 xk p1 d0 d1 d1 l0 l1 l1 q0 q1 q1 (1 : Int32) (nar .boolean (0 : Int32)) (1 : Int32) (0 : Int32) (3 : Int32) (2 : Int32) _ _ _ X628 rfl N628 K628 iE_tb_628 iFR0_628 iFR1_628 iFR2_628 iFR3_628 iFR4_628 iFf_628 iFe_628 iFz_628 iAR0_628 iAR1_628 iAR2_628 iAR3_628 iAR4_628 ⟨fun _ => ⟨(Or.inr (Or.inr (Or.inr (Or.inr (Or.inr (Or.inr (Or.inl ⟨(by decide), (by decide), (by decide), (by decide), (by decide), (by decide), s0.2, s1.1, fun x => by show (S x ∨ x = xk) ↔ _; rw [hS x]; try simp [or_comm, or_left_comm, or_assoc]⟩))))))), fun _ => by decide, Or.inr (by decide)⟩, fun q => absurd (by decide) q⟩
      · skip
        show Run p e below s _ _ _ (T627.setTop (mkF m 32 #[.val (.ref tb), .val (.long xk), .second, .val (.long dq), .second, .val (.int lk), .val (.int qk), .unset, .unset] [(.int (1 : Int32))]))
        refine Run.pre (fun _ k => XS.istore X627.here hx rfl (hb hby d4_32) rfl (l' := #[.val (.ref tb), .val (.long xk), .second, .val (.long dq), .second, .val (.int lk), .val (.int qk), .val (.int (1 : Int32)), .unset]) rfl k) ?_
        refine Run.pre (fun _ k => XS.iload X627.here hx rfl (hb hby d4_34) rfl  k) ?_
        refine Run.pre (fun _ k => XS.ifYes X627.here hx rfl (pc0 := 36) (pc' := 86) rfl (hb hby d4_36) rfl ((if0 _ _).trans (flt ((by decide) : ¬ ((1 : Int32) < (0 : Int32)))).2.1) (by decide) (by decide) k) ?_
        show Run p e below s _ _ _ (T627.setTop (mkF m 86 #[.val (.ref tb), .val (.long xk), .second, .val (.long dq), .second, .val (.int lk), .val (.int qk), .val (.int (1 : Int32)), .unset] []))
        have hxe1 := own_eqE s1
        exact GT1 p0 p1 p2 d0 d1 d2 l0 l1 l2 q0 q1 q2 (1 : Int32) (1 : Int32) (0 : Int32) (0 : Int32) (2 : Int32) (2 : Int32) _ _ _ X627 e627 N627 (Keep.refl h0 [tb, xo, xd, xl, xq, xh]) E_tb FR0 FR1 FR2 FR3 FR4 Ff Fe Fz AR0 AR1 AR2 AR3 AR4 ⟨fun q => absurd q (by decide), fun _ => ⟨(Or.inr (Or.inr (Or.inr (Or.inl ⟨(by decide), (by decide), (by decide), (by decide), (by decide), (by decide), o01, fun x => by show (S x ∨ x = xk) ↔ _; rw [hS x, hxe1]; try simp [or_comm, or_left_comm, or_assoc]⟩)))), fun _ => by decide, Or.inl (by decide)⟩⟩
      · skip
        show Run p e below s _ _ _ (T627.setTop (mkF m 32 #[.val (.ref tb), .val (.long xk), .second, .val (.long dq), .second, .val (.int lk), .val (.int qk), .unset, .unset] [(.int (-1 : Int32))]))
        refine Run.pre (fun _ k => XS.istore X627.here hx rfl (hb hby d4_32) rfl (l' := #[.val (.ref tb), .val (.long xk), .second, .val (.long dq), .second, .val (.int lk), .val (.int qk), .val (.int (-1 : Int32)), .unset]) rfl k) ?_
        refine Run.pre (fun _ k => XS.iload X627.here hx rfl (hb hby d4_34) rfl  k) ?_
        refine Run.pre (fun _ k => XS.ifNo X627.here hx rfl (hb hby d4_36) rfl ((if0 _ _).trans (tlt ((by decide) : (-1 : Int32) < (0 : Int32))).2.1) k) ?_
        refine Run.pre (fun _ k => XS.aloadN X627.here hx rfl (hb hby d4_39) rfl rfl k) ?_
        refine Run.pre (fun _ k => XS.lloadN X627.here hx rfl (hb hby d4_40) rfl  k) ?_
        refine Run.callP X627 hx hZ (y := (⟨"com/example/manana/manana/storage/WaitingTable", "insert", "(J)I"⟩ : MethodName)) hown (hwi hw 56 rfl) (hwi hw 57 rfl) (own_selP (y := (⟨"com/example/manana/manana/storage/WaitingTable", "insert", "(J)I"⟩ : MethodName)) (z := (⟨"com/example/manana/manana/storage/WaitingTable", "lowest", "(J)J"⟩ : MethodName)) (hwi hw 57 rfl) (hwi hw 58 rfl) (hwi hw 25 rfl) rfl (by decide)) (hwi hw 58 rfl) (hwi hw 59 rfl) (hwi hw 2 rfl) (by decide) (a := tb) E_tb (W := 0) (rmIn_02_0 l Z a0 hw tb xo xd xl xq xh ko kd kl kq kh p0 p1 p2 d0 d1 d2 l0 l1 l2 q0 q1 q2 (1 : Int32) (1 : Int32) (0 : Int32) (2 : Int32) xk h0 n0 (Nat.le_trans Z0 (Keep.refl h0 [tb, xo, xd, xl, xq, xh]).1) E_tb FR0 FR1 FR2 FR3 FR4 Ff Fe Fz AR0 AR1 AR2 AR3 AR4 hD g_tb g_xo g_xd g_xl g_xq g_xh s0) e627 (by decide) (by decide) (by decide) (by decide) (g := (mkF m 41 #[.val (.ref tb), .val (.long xk), .second, .val (.long dq), .second, .val (.int lk), .val (.int qk), .val (.int (-1 : Int32)), .unset] [(.long xk), (.ref tb)])) rfl (by rw [hml]; rfl) (argsL := [(.long xk)]) (rest := []) (lenOf pd_2 rfl) rfl (by show 2 * 0 + _ ≤ _; exact Nat.le_of_eq rfl) (hb hby d4_41) ?_
        intro v629 T629 L629 X629 hQ629
        obtain ⟨rfl, Nq629, Kc629, iE_tb_629, iFR0_629, iFR1_629, iFR2_629, iFR3_629, iFR4_629, iFf_629, iFe_629, iFz_629, iAR0_629, iAR1_629, iAR2_629, iAR3_629, iAR4_629⟩ := hQ629
        have N629 := Fr.app N627 Nq629
        have K629 : Keep h0 T629.heap [tb, xo, xd, xl, xq, xh] := (Keep.refl h0 [tb, xo, xd, xl, xq, xh]).trans Kc629 (allS (Or.inl (by simp)) (allS (Or.inl (by simp)) (allS (Or.inl (by simp)) (allS (Or.inl (by simp)) (allS (Or.inl (by simp)) (allS (Or.inl (by simp)) all0))))))
        show Run p e below s _ _ _ (T629.setTop (mkF m 44 #[.val (.ref tb), .val (.long xk), .second, .val (.long dq), .second, .val (.int lk), .val (.int qk), .val (.int (-1 : Int32)), .unset] [(.int (0 : Int32))]))
        refine Run.pre (fun _ k => XS.istore X629.here hx rfl (hb hby d4_44) rfl (l' := #[.val (.ref tb), .val (.long xk), .second, .val (.long dq), .second, .val (.int lk), .val (.int qk), .val (.int (0 : Int32)), .unset]) rfl k) ?_
        refine Run.pre (fun _ k => XS.goto X629.here hx rfl (pc0 := 46) (pc' := 86) rfl (hb hby d4_46) (by decide) (by decide) k) ?_
        show Run p e below s _ _ _ (T629.setTop (mkF m 86 #[.val (.ref tb), .val (.long xk), .second, .val (.long dq), .second, .val (.int lk), .val (.int qk), .val (.int (0 : Int32)), .unset] []))
        exact GT0 xk p0 p1 d0 d0 d1 l0 l0 l1 q0 q0 q1 (nar .boolean (0 : Int32)) (1 : Int32) (1 : Int32) (0 : Int32) (3 : Int32) (2 : Int32) _ _ _ X629 rfl N629 K629 iE_tb_629 iFR0_629 iFR1_629 iFR2_629 iFR3_629 iFR4_629 iFf_629 iFe_629 iFz_629 iAR0_629 iAR1_629 iAR2_629 iAR3_629 iAR4_629 ⟨fun _ => ⟨(Or.inr (Or.inr (Or.inr (Or.inr (Or.inr (Or.inr (Or.inl ⟨(by decide), (by decide), (by decide), (by decide), (by decide), (by decide), s0.1, o01, fun x => by show (S x ∨ x = xk) ↔ _; rw [hS x]; try simp [or_comm, or_left_comm, or_assoc]⟩))))))), fun _ => by decide, Or.inr (by decide)⟩, fun q => absurd (by decide) q⟩
      · skip
        show Run p e below s _ _ _ (T627.setTop (mkF m 32 #[.val (.ref tb), .val (.long xk), .second, .val (.long dq), .second, .val (.int lk), .val (.int qk), .unset, .unset] [(.int (0 : Int32))]))
        refine Run.pre (fun _ k => XS.istore X627.here hx rfl (hb hby d4_32) rfl (l' := #[.val (.ref tb), .val (.long xk), .second, .val (.long dq), .second, .val (.int lk), .val (.int qk), .val (.int (0 : Int32)), .unset]) rfl k) ?_
        refine Run.pre (fun _ k => XS.iload X627.here hx rfl (hb hby d4_34) rfl  k) ?_
        refine Run.pre (fun _ k => XS.ifYes X627.here hx rfl (pc0 := 36) (pc' := 86) rfl (hb hby d4_36) rfl ((if0 _ _).trans (flt ((by decide) : ¬ ((0 : Int32) < (0 : Int32)))).2.1) (by decide) (by decide) k) ?_
        show Run p e below s _ _ _ (T627.setTop (mkF m 86 #[.val (.ref tb), .val (.long xk), .second, .val (.long dq), .second, .val (.int lk), .val (.int qk), .val (.int (0 : Int32)), .unset] []))
        have hxe0 := own_eqE s0
        exact GT0 p0 p1 p2 d0 d1 d2 l0 l1 l2 q0 q1 q2 (1 : Int32) (1 : Int32) (0 : Int32) (0 : Int32) (2 : Int32) (2 : Int32) _ _ _ X627 e627 N627 (Keep.refl h0 [tb, xo, xd, xl, xq, xh]) E_tb FR0 FR1 FR2 FR3 FR4 Ff Fe Fz AR0 AR1 AR2 AR3 AR4 ⟨fun q => absurd q (by decide), fun _ => ⟨(Or.inr (Or.inr (Or.inr (Or.inl ⟨(by decide), (by decide), (by decide), (by decide), (by decide), (by decide), o01, fun x => by show (S x ∨ x = xk) ↔ _; rw [hS x, hxe0]; try simp [or_comm, or_left_comm, or_assoc]⟩)))), fun _ => by decide, Or.inl (by decide)⟩⟩
  · skip
    show Run p e below s _ _ _ (s₁.setTop (mkF m 0 #[.val (.ref tb), .val (.long xk), .second, .val (.long dq), .second, .val (.int lk), .val (.int qk), .unset, .unset] []))
    refine Run.pre (fun _ k => XS.aloadN X0.here hx rfl (hb hby d4_0) rfl rfl k) ?_
    obtain ⟨T630, X630, e630, st630⟩ := getF X0 hx hZ hown (host := "") (Or.inl (hwi hw 34 rfl)) Via.refl e0 Fe (g := (mkF m 1 #[.val (.ref tb), .val (.long xk), .second, .val (.long dq), .second, .val (.int lk), .val (.int qk), .unset, .unset] [(.ref tb)])) rfl rfl (hb hby d4_1)
    refine Run.pre st630 ?_
    refine Run.pre (fun _ k => XS.aloadN X630.here hx rfl (hb hby d4_4) rfl rfl k) ?_
    obtain ⟨T631, X631, e631, st631⟩ := getF X630 hx hZ hown (host := "") (Or.inl (hwi hw 36 rfl)) Via.refl e630 Ff (g := (mkF m 5 #[.val (.ref tb), .val (.long xk), .second, .val (.long dq), .second, .val (.int lk), .val (.int qk), .unset, .unset] [(.ref tb), (.int (2 : Int32))])) rfl rfl (hb hby d4_5)
    refine Run.pre st631 ?_
    refine Run.pre (fun _ k => XS.icmpNo X631.here hx rfl (hb hby d4_8) rfl (tlt ((by decide) : (1 : Int32) < (2 : Int32))).2.2.2 k) ?_
    refine Run.pre (fun _ k => XS.lloadN X631.here hx rfl (hb hby d4_11) rfl  k) ?_
    show Run p e below s _ _ _ (T631.setTop (mkF m 12 #[.val (.ref tb), .val (.long xk), .second, .val (.long dq), .second, .val (.int lk), .val (.int qk), .unset, .unset] [(.long xk)]))
    refine Run.pre (fun _ k => XS.aloadN X631.here hx rfl (hb hby d4_12) rfl rfl k) ?_
    obtain ⟨T632, X632, e632, st632⟩ := getF X631 hx hZ hown (host := "") (Or.inl (hwi hw 10 rfl)) Via.refl e631 FR0 (g := (mkF m 13 #[.val (.ref tb), .val (.long xk), .second, .val (.long dq), .second, .val (.int lk), .val (.int qk), .unset, .unset] [(.ref tb), (.long xk)])) rfl rfl (hb hby d4_13)
    refine Run.pre st632 ?_
    refine Run.pre (fun _ k => XS.aloadN X632.here hx rfl (hb hby d4_16) rfl rfl k) ?_
    obtain ⟨T633, X633, e633, st633⟩ := getF X632 hx hZ hown (host := "") (Or.inl (hwi hw 34 rfl)) Via.refl e632 Fe (g := (mkF m 17 #[.val (.ref tb), .val (.long xk), .second, .val (.long dq), .second, .val (.int lk), .val (.int qk), .unset, .unset] [(.ref tb), (.ref xo), (.long xk)])) rfl rfl (hb hby d4_17)
    refine Run.pre st633 ?_
    refine Run.pre (fun _ k => XS.iconst X633.here hx rfl (hb hby d4_20) k) ?_
    refine Run.pre (fun _ k => XS.isub X633.here hx rfl (hb hby d4_21) rfl k) ?_
    show Run p e below s _ _ _ (T633.setTop (mkF m 22 #[.val (.ref tb), .val (.long xk), .second, .val (.long dq), .second, .val (.int lk), .val (.int qk), .unset, .unset] [(.int (1 : Int32)), (.ref xo), (.long xk)]))
    obtain ⟨c634, Ar634, -, S634, N634, H634, -⟩ := id AR0
    have hin634 : ¬ ((1 : Int32) < 0 ∨ c634.slots.size ≤ ((1 : Int32)).toNatClampNeg) := inb_of S634 ⟨by decide, by decide⟩
    refine Run.pre (X633.laload hx (j := (1 : Int32)) (v := (.long p1)) (by rw [e633]; exact Ar634.1) (State.isArrayOf_alike hZ.alike Ar634.2.1) Ar634.2.2 hin634 (H634.at hin634 rfl) (g := (mkF m 22 #[.val (.ref tb), .val (.long xk), .second, .val (.long dq), .second, .val (.int lk), .val (.int qk), .unset, .unset] [(.int (1 : Int32)), (.ref xo), (.long xk)])) rfl rfl (hb hby d4_22)) ?_
    refine Run.pre (fun _ k => XS.lcmp X633.here hx rfl (hb hby d4_23) rfl k) ?_
    by_cases hc635 : (0 : Int32) < (lcmpW xk p1)
    · skip
      refine Run.pre (fun _ k => XS.ifYes X633.here hx rfl (pc0 := 24) (pc' := 49) rfl (hb hby d4_24) rfl ((if0 _ _).trans (tlt (hc635 : (0 : Int32) < (lcmpW xk p1))).2.2.1) (by decide) (by decide) k) ?_
      refine Run.pre (fun _ k => XS.aloadN X633.here hx rfl (hb hby d4_49) rfl rfl k) ?_
      obtain ⟨T636, X636, e636, st636⟩ := getF X633 hx hZ hown (host := "") (Or.inl (hwi hw 34 rfl)) Via.refl e633 Fe (g := (mkF m 50 #[.val (.ref tb), .val (.long xk), .second, .val (.long dq), .second, .val (.int lk), .val (.int qk), .unset, .unset] [(.ref tb)])) rfl rfl (hb hby d4_50)
      refine Run.pre st636 ?_
      refine Run.pre (fun _ k => XS.aloadN X636.here hx rfl (hb hby d4_53) rfl rfl k) ?_
      show Run p e below s _ _ _ (T636.setTop (mkF m 54 #[.val (.ref tb), .val (.long xk), .second, .val (.long dq), .second, .val (.int lk), .val (.int qk), .unset, .unset] [(.ref tb), (.int (2 : Int32))]))
      obtain ⟨T637, X637, e637, st637⟩ := getF X636 hx hZ hown (host := "") (Or.inl (hwi hw 10 rfl)) Via.refl e636 FR0 (g := (mkF m 54 #[.val (.ref tb), .val (.long xk), .second, .val (.long dq), .second, .val (.int lk), .val (.int qk), .unset, .unset] [(.ref tb), (.int (2 : Int32))])) rfl rfl (hb hby d4_54)
      refine Run.pre st637 ?_
      obtain ⟨c638, Ar638, -, S638, N638, -, -⟩ := id AR0
      refine Run.pre (X637.arraylength hx (by rw [e637]; exact Ar638.1) (State.isArrayOf_alike hZ.alike Ar638.2.1) (g := (mkF m 57 #[.val (.ref tb), .val (.long xk), .second, .val (.long dq), .second, .val (.int lk), .val (.int qk), .unset, .unset] [(.ref xo), (.int (2 : Int32))])) rfl rfl (hb hby d4_57)) ?_
      rw [len_of S638 N638]
      refine Run.pre (fun _ k => XS.icmpYes X637.here hx rfl (pc0 := 58) (pc' := 65) rfl (hb hby d4_58) rfl (feq ((by decide) : ¬ ((2 : Int32) = (16 : Int32)))).2 (by decide) (by decide) k) ?_
      refine Run.pre (fun _ k => XS.aloadN X637.here hx rfl (hb hby d4_65) rfl rfl k) ?_
      refine Run.pre (fun _ k => XS.dup X637.here hx rfl (hb hby d4_66) rfl rfl k) ?_
      obtain ⟨T639, X639, e639, st639⟩ := getF X637 hx hZ hown (host := "") (Or.inl (hwi hw 34 rfl)) Via.refl e637 Fe (g := (mkF m 67 #[.val (.ref tb), .val (.long xk), .second, .val (.long dq), .second, .val (.int lk), .val (.int qk), .unset, .unset] [(.ref tb), (.ref tb)])) rfl rfl (hb hby d4_67)
      refine Run.pre st639 ?_
      show Run p e below s _ _ _ (T639.setTop (mkF m 70 #[.val (.ref tb), .val (.long xk), .second, .val (.long dq), .second, .val (.int lk), .val (.int qk), .unset, .unset] [(.int (2 : Int32)), (.ref tb)]))
      refine Run.pre (fun _ k => XS.dupX1 X639.here hx rfl (hb hby d4_70) rfl rfl rfl k) ?_
      refine Run.pre (fun _ k => XS.iconst X639.here hx rfl (hb hby d4_71) k) ?_
      refine Run.pre (fun _ k => XS.iadd X639.here hx rfl (hb hby d4_72) rfl k) ?_
      obtain ⟨T640, h640, X640, e640, W640, st640⟩ := putF X639 hx hZ hown (host := "") (Or.inl (hwi hw 34 rfl)) Via.refl e639 Fe E_tb (Or.inl (hwi hw 35 rfl)) (hwi hw 1 rfl) (ty := .int) (by decide) rfl rfl (g := (mkF m 73 #[.val (.ref tb), .val (.long xk), .second, .val (.long dq), .second, .val (.int lk), .val (.int qk), .unset, .unset] [(.int (3 : Int32)), (.ref tb), (.int (2 : Int32))])) rfl rfl (hb hby d4_73)
      refine Run.pre st640 ?_
      have Fw640 := Fe.same W640
      have K640 : Keep h0 h640 [tb, xo, xd, xl, xq, xh] := (Keep.refl h0 [tb, xo, xd, xl, xq, xh]).wr W640 (Or.inl (by simp))
      have N640 := Fr.snoc X640 N0 g_tb
      refine Run.pre (fun _ k => XS.istore X640.here hx rfl (hb hby d4_76) rfl (l' := #[.val (.ref tb), .val (.long xk), .second, .val (.long dq), .second, .val (.int lk), .val (.int qk), .val (.int (2 : Int32)), .unset]) rfl k) ?_
      refine Run.pre (fun _ k => XS.aloadN X640.here hx rfl (hb hby d4_78) rfl rfl k) ?_
      show Run p e below s _ _ _ (T640.setTop (mkF m 79 #[.val (.ref tb), .val (.long xk), .second, .val (.long dq), .second, .val (.int lk), .val (.int qk), .val (.int (2 : Int32)), .unset] [(.ref tb)]))
      have f641 := (FR0.other W640 (Or.inr (slot_ne (Or.inl (hwi hw 11 rfl)) (Or.inl (hwi hw 35 rfl)) (by decide) (t := (.array .long)) (t' := .int) (by decide) (by decide))))
      obtain ⟨T642, X642, e642, st642⟩ := getF X640 hx hZ hown (host := "") (Or.inl (hwi hw 10 rfl)) Via.refl e640 f641 (g := (mkF m 79 #[.val (.ref tb), .val (.long xk), .second, .val (.long dq), .second, .val (.int lk), .val (.int qk), .val (.int (2 : Int32)), .unset] [(.ref tb)])) rfl rfl (hb hby d4_79)
      refine Run.pre st642 ?_
      refine Run.pre (fun _ k => XS.iload X642.here hx rfl (hb hby d4_82) rfl  k) ?_
      refine Run.pre (fun _ k => XS.lloadN X642.here hx rfl (hb hby d4_84) rfl  k) ?_
      have f643 := (AR0.other W640 (Ne.symm ne_tb_xo))
      obtain ⟨c644, Ar644, q644, S644, N644, H644, G644⟩ := id f643
      have hin644 : ¬ ((2 : Int32) < 0 ∨ c644.slots.size ≤ ((2 : Int32)).toNatClampNeg) := inb_of S644 ⟨by decide, by decide⟩
      obtain ⟨T645, h645, X645, e645, W645, st645⟩ := stJ X642 hx hZ e642 Ar644 (j := (2 : Int32)) hin644 (g := (mkF m 85 #[.val (.ref tb), .val (.long xk), .second, .val (.long dq), .second, .val (.int lk), .val (.int qk), .val (.int (2 : Int32)), .unset] [(.long xk), (.int (2 : Int32)), (.ref xo)])) rfl rfl (hb hby d4_85)
      refine Run.pre st645 ?_
      have V_xo_645 : Arv Z h645 xo ko .long (16 : Int32) (own_LJ p0 p1 xk) (.long (0 : Int64)) := Arv.set Ar644 q644 S644 N644 H644 G644 rfl W645 2 rfl (Nat.le_of_ble_eq_true rfl)
      have K645 : Keep h0 h645 [tb, xo, xd, xl, xq, xh] := K640.wr W645 (Or.inl (by simp))
      have N645 := Fr.snoc X645 N640 g_xo
      show Run p e below s _ _ _ (T645.setTop (mkF m 86 #[.val (.ref tb), .val (.long xk), .second, .val (.long dq), .second, .val (.int lk), .val (.int qk), .val (.int (2 : Int32)), .unset] []))
      have f646 := ((E_tb.wr W640).wr W645)
      have f647 := (f641.other W645 (Or.inl ne_tb_xo))
      have f648 := ((FR1.other W640 (Or.inr (slot_ne (Or.inl (hwi hw 13 rfl)) (Or.inl (hwi hw 35 rfl)) (by decide) (t := (.array .long)) (t' := .int) (by decide) (by decide)))).other W645 (Or.inl ne_tb_xo))
      have f649 := ((FR2.other W640 (Or.inr (slot_ne (Or.inl (hwi hw 16 rfl)) (Or.inl (hwi hw 35 rfl)) (by decide) (t := (.array .int)) (t' := .int) (by decide) (by decide)))).other W645 (Or.inl ne_tb_xo))
      have f650 := ((FR3.other W640 (Or.inr (slot_ne (Or.inl (hwi hw 18 rfl)) (Or.inl (hwi hw 35 rfl)) (by decide) (t := (.array .int)) (t' := .int) (by decide) (by decide)))).other W645 (Or.inl ne_tb_xo))
      have f651 := ((FR4.other W640 (Or.inr (slot_ne (Or.inl (hwi hw 21 rfl)) (Or.inl (hwi hw 35 rfl)) (by decide) (t := (.array .boolean)) (t' := .int) (by decide) (by decide)))).other W645 (Or.inl ne_tb_xo))
      have f652 := ((Ff.other W640 (Or.inr (slot_ne (Or.inl (hwi hw 37 rfl)) (Or.inl (hwi hw 35 rfl)) (by decide) (t := .int) (t' := .int) (by decide) (by decide)))).other W645 (Or.inl ne_tb_xo))
      have f653 := (Fw640.other W645 (Or.inl ne_tb_xo))
      have f654 := ((Fz.other W640 (Or.inr (slot_ne (Or.inl (hwi hw 28 rfl)) (Or.inl (hwi hw 35 rfl)) (by decide) (t := .int) (t' := .int) (by decide) (by decide)))).other W645 (Or.inl ne_tb_xo))
      have f655 := ((AR1.other W640 (Ne.symm ne_tb_xd)).other W645 (Ne.symm ne_xo_xd))
      have f656 := ((AR2.other W640 (Ne.symm ne_tb_xl)).other W645 (Ne.symm ne_xo_xl))
      have f657 := ((AR3.other W640 (Ne.symm ne_tb_xq)).other W645 (Ne.symm ne_xo_xq))
      have f658 := ((AR4.other W640 (Ne.symm ne_tb_xh)).other W645 (Ne.symm ne_xo_xh))
      exact GT2 p0 p1 xk d0 d1 d2 l0 l1 l2 q0 q1 q2 (0 : Int32) (1 : Int32) (0 : Int32) (1 : Int32) (3 : Int32) (1 : Int32) _ _ _ X645 e645 N645 K645 f646 f647 f648 f649 f650 f651 f652 f653 f654 V_xo_645 f655 f656 f657 f658 ⟨fun _ => ⟨(Or.inr (Or.inr (Or.inr (Or.inr (Or.inr (Or.inr (Or.inr (Or.inl ⟨(by decide), (by decide), (by decide), (by decide), (by decide), (by decide), ((lw_gt _ _).mp hc635), fun x => by show (S x ∨ x = xk) ↔ _; rw [hS x]; try simp [or_comm, or_left_comm, or_assoc]⟩)))))))), fun q => absurd q (by decide), Or.inr (by decide)⟩, fun q => absurd (by decide) q⟩
    · skip
      refine Run.pre (fun _ k => XS.ifNo X633.here hx rfl (hb hby d4_24) rfl ((if0 _ _).trans (flt (hc635 : ¬ ((0 : Int32) < (lcmpW xk p1)))).2.2.1) k) ?_
      refine Run.pre (fun _ k => XS.aloadN X633.here hx rfl (hb hby d4_27) rfl rfl k) ?_
      refine Run.pre (fun _ k => XS.lloadN X633.here hx rfl (hb hby d4_28) rfl  k) ?_
      refine Run.callP X633 hx hZ (y := (⟨"com/example/manana/manana/storage/WaitingTable", "slotOf", "(J)I"⟩ : MethodName)) hown (hwi hw 42 rfl) (hwi hw 43 rfl) (own_selP (y := (⟨"com/example/manana/manana/storage/WaitingTable", "slotOf", "(J)I"⟩ : MethodName)) (z := (⟨"com/example/manana/manana/storage/WaitingTable", "lowest", "(J)J"⟩ : MethodName)) (hwi hw 43 rfl) (hwi hw 44 rfl) (hwi hw 25 rfl) rfl (by decide)) (hwi hw 44 rfl) (hwi hw 45 rfl) (hwi hw 2 rfl) (by decide) (a := tb) E_tb (W := 0) (rmS_12 l Z a0 hw tb xo ko p0 p1 p2 xk h0 n0 (Nat.le_trans Z0 (Keep.refl h0 [tb, xo, xd, xl, xq, xh]).1) E_tb FR0 Ff Fe AR0) e633 (by decide) (by decide) (by decide) (by decide) (g := (mkF m 29 #[.val (.ref tb), .val (.long xk), .second, .val (.long dq), .second, .val (.int lk), .val (.int qk), .unset, .unset] [(.long xk), (.ref tb)])) rfl (by rw [hml]; rfl) (argsL := [(.long xk)]) (rest := []) (lenOf pd_2 rfl) rfl (by show 2 * 0 + _ ≤ _; exact Nat.le_of_eq rfl) (hb hby d4_29) ?_
      intro v659 T659 L659 X659 hQ659
      obtain ⟨r659, rfl, Nq659, he659, sp659⟩ := hQ659
      have N659 := Fr.app N0 Nq659
      have e659 : T659.heap = h0 := he659
      show Run p e below s _ _ _ (T659.setTop (mkF m 32 #[.val (.ref tb), .val (.long xk), .second, .val (.long dq), .second, .val (.int lk), .val (.int qk), .unset, .unset] [(.int r659)]))
      rcases sp659 with ⟨rfl, s1⟩ | ⟨rfl, s1⟩ | ⟨rfl, s1⟩
      · skip
        exact absurd ((lw_gt _ _).mpr s1.2) hc635
      · skip
        show Run p e below s _ _ _ (T659.setTop (mkF m 32 #[.val (.ref tb), .val (.long xk), .second, .val (.long dq), .second, .val (.int lk), .val (.int qk), .unset, .unset] [(.int (-2 : Int32))]))
        refine Run.pre (fun _ k => XS.istore X659.here hx rfl (hb hby d4_32) rfl (l' := #[.val (.ref tb), .val (.long xk), .second, .val (.long dq), .second, .val (.int lk), .val (.int qk), .val (.int (-2 : Int32)), .unset]) rfl k) ?_
        refine Run.pre (fun _ k => XS.iload X659.here hx rfl (hb hby d4_34) rfl  k) ?_
        refine Run.pre (fun _ k => XS.ifNo X659.here hx rfl (hb hby d4_36) rfl ((if0 _ _).trans (tlt ((by decide) : (-2 : Int32) < (0 : Int32))).2.1) k) ?_
        refine Run.pre (fun _ k => XS.aloadN X659.here hx rfl (hb hby d4_39) rfl rfl k) ?_
        refine Run.pre (fun _ k => XS.lloadN X659.here hx rfl (hb hby d4_40) rfl  k) ?_
        refine Run.callP X659 hx hZ (y := (⟨"com/example/manana/manana/storage/WaitingTable", "insert", "(J)I"⟩ : MethodName)) hown (hwi hw 56 rfl) (hwi hw 57 rfl) (own_selP (y := (⟨"com/example/manana/manana/storage/WaitingTable", "insert", "(J)I"⟩ : MethodName)) (z := (⟨"com/example/manana/manana/storage/WaitingTable", "lowest", "(J)J"⟩ : MethodName)) (hwi hw 57 rfl) (hwi hw 58 rfl) (hwi hw 25 rfl) rfl (by decide)) (hwi hw 58 rfl) (hwi hw 59 rfl) (hwi hw 2 rfl) (by decide) (a := tb) E_tb (W := 0) (rmIn_12_1 l Z a0 hw tb xo xd xl xq xh ko kd kl kq kh p0 p1 p2 d0 d1 d2 l0 l1 l2 q0 q1 q2 (0 : Int32) (1 : Int32) (0 : Int32) (1 : Int32) xk h0 n0 (Nat.le_trans Z0 (Keep.refl h0 [tb, xo, xd, xl, xq, xh]).1) E_tb FR0 FR1 FR2 FR3 FR4 Ff Fe Fz AR0 AR1 AR2 AR3 AR4 hD g_tb g_xo g_xd g_xl g_xq g_xh s1) e659 (by decide) (by decide) (by decide) (by decide) (g := (mkF m 41 #[.val (.ref tb), .val (.long xk), .second, .val (.long dq), .second, .val (.int lk), .val (.int qk), .val (.int (-2 : Int32)), .unset] [(.long xk), (.ref tb)])) rfl (by rw [hml]; rfl) (argsL := [(.long xk)]) (rest := []) (lenOf pd_2 rfl) rfl (by show 2 * 0 + _ ≤ _; exact Nat.le_of_eq rfl) (hb hby d4_41) ?_
        intro v660 T660 L660 X660 hQ660
        obtain ⟨rfl, Nq660, Kc660, iE_tb_660, iFR0_660, iFR1_660, iFR2_660, iFR3_660, iFR4_660, iFf_660, iFe_660, iFz_660, iAR0_660, iAR1_660, iAR2_660, iAR3_660, iAR4_660⟩ := hQ660
        have N660 := Fr.app N659 Nq660
        have K660 : Keep h0 T660.heap [tb, xo, xd, xl, xq, xh] := (Keep.refl h0 [tb, xo, xd, xl, xq, xh]).trans Kc660 (allS (Or.inl (by simp)) (allS (Or.inl (by simp)) (allS (Or.inl (by simp)) (allS (Or.inl (by simp)) (allS (Or.inl (by simp)) (allS (Or.inl (by simp)) all0))))))
        show Run p e below s _ _ _ (T660.setTop (mkF m 44 #[.val (.ref tb), .val (.long xk), .second, .val (.long dq), .second, .val (.int lk), .val (.int qk), .val (.int (-2 : Int32)), .unset] [(.int (1 : Int32))]))
        refine Run.pre (fun _ k => XS.istore X660.here hx rfl (hb hby d4_44) rfl (l' := #[.val (.ref tb), .val (.long xk), .second, .val (.long dq), .second, .val (.int lk), .val (.int qk), .val (.int (1 : Int32)), .unset]) rfl k) ?_
        refine Run.pre (fun _ k => XS.goto X660.here hx rfl (pc0 := 46) (pc' := 86) rfl (hb hby d4_46) (by decide) (by decide) k) ?_
        show Run p e below s _ _ _ (T660.setTop (mkF m 86 #[.val (.ref tb), .val (.long xk), .second, .val (.long dq), .second, .val (.int lk), .val (.int qk), .val (.int (1 : Int32)), .unset] []))
        exact GT1 p0 xk p1 d0 d1 d1 l0 l1 l1 q0 q1 q1 (0 : Int32) (nar .boolean (0 : Int32)) (1 : Int32) (1 : Int32) (3 : Int32) (1 : Int32) _ _ _ X660 rfl N660 K660 iE_tb_660 iFR0_660 iFR1_660 iFR2_660 iFR3_660 iFR4_660 iFf_660 iFe_660 iFz_660 iAR0_660 iAR1_660 iAR2_660 iAR3_660 iAR4_660 ⟨fun _ => ⟨(Or.inr (Or.inr (Or.inr (Or.inr (Or.inr (Or.inr (Or.inr (Or.inl ⟨(by decide), (by decide), (by decide), (by decide), (by decide), (by decide), s1.1, fun x => by show (S x ∨ x = xk) ↔ _; rw [hS x]; try simp [or_comm, or_left_comm, or_assoc]⟩)))))))), fun q => absurd q (by decide), Or.inr (by decide)⟩, fun q => absurd (by decide) q⟩
      · skip
        show Run p e below s _ _ _ (T659.setTop (mkF m 32 #[.val (.ref tb), .val (.long xk), .second, .val (.long dq), .second, .val (.int lk), .val (.int qk), .unset, .unset] [(.int (1 : Int32))]))
        refine Run.pre (fun _ k => XS.istore X659.here hx rfl (hb hby d4_32) rfl (l' := #[.val (.ref tb), .val (.long xk), .second, .val (.long dq), .second, .val (.int lk), .val (.int qk), .val (.int (1 : Int32)), .unset]) rfl k) ?_
        refine Run.pre (fun _ k => XS.iload X659.here hx rfl (hb hby d4_34) rfl  k) ?_
        refine Run.pre (fun _ k => XS.ifYes X659.here hx rfl (pc0 := 36) (pc' := 86) rfl (hb hby d4_36) rfl ((if0 _ _).trans (flt ((by decide) : ¬ ((1 : Int32) < (0 : Int32)))).2.1) (by decide) (by decide) k) ?_
        show Run p e below s _ _ _ (T659.setTop (mkF m 86 #[.val (.ref tb), .val (.long xk), .second, .val (.long dq), .second, .val (.int lk), .val (.int qk), .val (.int (1 : Int32)), .unset] []))
        have hxe1 := own_eqE s1
        exact GT1 p0 p1 p2 d0 d1 d2 l0 l1 l2 q0 q1 q2 (0 : Int32) (1 : Int32) (0 : Int32) (1 : Int32) (2 : Int32) (1 : Int32) _ _ _ X659 e659 N659 (Keep.refl h0 [tb, xo, xd, xl, xq, xh]) E_tb FR0 FR1 FR2 FR3 FR4 Ff Fe Fz AR0 AR1 AR2 AR3 AR4 ⟨fun q => absurd q (by decide), fun _ => ⟨(Or.inr (Or.inr (Or.inr (Or.inr (Or.inl ⟨(by decide), (by decide), (by decide), (by decide), (by decide), (by decide), fun x => by show (S x ∨ x = xk) ↔ _; rw [hS x, hxe1]; try simp [or_comm, or_left_comm, or_assoc]⟩))))), fun q => absurd q (by decide), Or.inl (by decide)⟩⟩
  · skip
    show Run p e below s _ _ _ (s₁.setTop (mkF m 0 #[.val (.ref tb), .val (.long xk), .second, .val (.long dq), .second, .val (.int lk), .val (.int qk), .unset, .unset] []))
    refine Run.pre (fun _ k => XS.aloadN X0.here hx rfl (hb hby d4_0) rfl rfl k) ?_
    obtain ⟨T661, X661, e661, st661⟩ := getF X0 hx hZ hown (host := "") (Or.inl (hwi hw 34 rfl)) Via.refl e0 Fe (g := (mkF m 1 #[.val (.ref tb), .val (.long xk), .second, .val (.long dq), .second, .val (.int lk), .val (.int qk), .unset, .unset] [(.ref tb)])) rfl rfl (hb hby d4_1)
    refine Run.pre st661 ?_
    refine Run.pre (fun _ k => XS.aloadN X661.here hx rfl (hb hby d4_4) rfl rfl k) ?_
    obtain ⟨T662, X662, e662, st662⟩ := getF X661 hx hZ hown (host := "") (Or.inl (hwi hw 36 rfl)) Via.refl e661 Ff (g := (mkF m 5 #[.val (.ref tb), .val (.long xk), .second, .val (.long dq), .second, .val (.int lk), .val (.int qk), .unset, .unset] [(.ref tb), (.int (2 : Int32))])) rfl rfl (hb hby d4_5)
    refine Run.pre st662 ?_
    refine Run.pre (fun _ k => XS.icmpNo X662.here hx rfl (hb hby d4_8) rfl (tlt ((by decide) : (0 : Int32) < (2 : Int32))).2.2.2 k) ?_
    refine Run.pre (fun _ k => XS.lloadN X662.here hx rfl (hb hby d4_11) rfl  k) ?_
    show Run p e below s _ _ _ (T662.setTop (mkF m 12 #[.val (.ref tb), .val (.long xk), .second, .val (.long dq), .second, .val (.int lk), .val (.int qk), .unset, .unset] [(.long xk)]))
    refine Run.pre (fun _ k => XS.aloadN X662.here hx rfl (hb hby d4_12) rfl rfl k) ?_
    obtain ⟨T663, X663, e663, st663⟩ := getF X662 hx hZ hown (host := "") (Or.inl (hwi hw 10 rfl)) Via.refl e662 FR0 (g := (mkF m 13 #[.val (.ref tb), .val (.long xk), .second, .val (.long dq), .second, .val (.int lk), .val (.int qk), .unset, .unset] [(.ref tb), (.long xk)])) rfl rfl (hb hby d4_13)
    refine Run.pre st663 ?_
    refine Run.pre (fun _ k => XS.aloadN X663.here hx rfl (hb hby d4_16) rfl rfl k) ?_
    obtain ⟨T664, X664, e664, st664⟩ := getF X663 hx hZ hown (host := "") (Or.inl (hwi hw 34 rfl)) Via.refl e663 Fe (g := (mkF m 17 #[.val (.ref tb), .val (.long xk), .second, .val (.long dq), .second, .val (.int lk), .val (.int qk), .unset, .unset] [(.ref tb), (.ref xo), (.long xk)])) rfl rfl (hb hby d4_17)
    refine Run.pre st664 ?_
    refine Run.pre (fun _ k => XS.iconst X664.here hx rfl (hb hby d4_20) k) ?_
    refine Run.pre (fun _ k => XS.isub X664.here hx rfl (hb hby d4_21) rfl k) ?_
    show Run p e below s _ _ _ (T664.setTop (mkF m 22 #[.val (.ref tb), .val (.long xk), .second, .val (.long dq), .second, .val (.int lk), .val (.int qk), .unset, .unset] [(.int (1 : Int32)), (.ref xo), (.long xk)]))
    obtain ⟨c665, Ar665, -, S665, N665, H665, -⟩ := id AR0
    have hin665 : ¬ ((1 : Int32) < 0 ∨ c665.slots.size ≤ ((1 : Int32)).toNatClampNeg) := inb_of S665 ⟨by decide, by decide⟩
    refine Run.pre (X664.laload hx (j := (1 : Int32)) (v := (.long p1)) (by rw [e664]; exact Ar665.1) (State.isArrayOf_alike hZ.alike Ar665.2.1) Ar665.2.2 hin665 (H665.at hin665 rfl) (g := (mkF m 22 #[.val (.ref tb), .val (.long xk), .second, .val (.long dq), .second, .val (.int lk), .val (.int qk), .unset, .unset] [(.int (1 : Int32)), (.ref xo), (.long xk)])) rfl rfl (hb hby d4_22)) ?_
    refine Run.pre (fun _ k => XS.lcmp X664.here hx rfl (hb hby d4_23) rfl k) ?_
    by_cases hc666 : (0 : Int32) < (lcmpW xk p1)
    · skip
      refine Run.pre (fun _ k => XS.ifYes X664.here hx rfl (pc0 := 24) (pc' := 49) rfl (hb hby d4_24) rfl ((if0 _ _).trans (tlt (hc666 : (0 : Int32) < (lcmpW xk p1))).2.2.1) (by decide) (by decide) k) ?_
      refine Run.pre (fun _ k => XS.aloadN X664.here hx rfl (hb hby d4_49) rfl rfl k) ?_
      obtain ⟨T667, X667, e667, st667⟩ := getF X664 hx hZ hown (host := "") (Or.inl (hwi hw 34 rfl)) Via.refl e664 Fe (g := (mkF m 50 #[.val (.ref tb), .val (.long xk), .second, .val (.long dq), .second, .val (.int lk), .val (.int qk), .unset, .unset] [(.ref tb)])) rfl rfl (hb hby d4_50)
      refine Run.pre st667 ?_
      refine Run.pre (fun _ k => XS.aloadN X667.here hx rfl (hb hby d4_53) rfl rfl k) ?_
      show Run p e below s _ _ _ (T667.setTop (mkF m 54 #[.val (.ref tb), .val (.long xk), .second, .val (.long dq), .second, .val (.int lk), .val (.int qk), .unset, .unset] [(.ref tb), (.int (2 : Int32))]))
      obtain ⟨T668, X668, e668, st668⟩ := getF X667 hx hZ hown (host := "") (Or.inl (hwi hw 10 rfl)) Via.refl e667 FR0 (g := (mkF m 54 #[.val (.ref tb), .val (.long xk), .second, .val (.long dq), .second, .val (.int lk), .val (.int qk), .unset, .unset] [(.ref tb), (.int (2 : Int32))])) rfl rfl (hb hby d4_54)
      refine Run.pre st668 ?_
      obtain ⟨c669, Ar669, -, S669, N669, -, -⟩ := id AR0
      refine Run.pre (X668.arraylength hx (by rw [e668]; exact Ar669.1) (State.isArrayOf_alike hZ.alike Ar669.2.1) (g := (mkF m 57 #[.val (.ref tb), .val (.long xk), .second, .val (.long dq), .second, .val (.int lk), .val (.int qk), .unset, .unset] [(.ref xo), (.int (2 : Int32))])) rfl rfl (hb hby d4_57)) ?_
      rw [len_of S669 N669]
      refine Run.pre (fun _ k => XS.icmpYes X668.here hx rfl (pc0 := 58) (pc' := 65) rfl (hb hby d4_58) rfl (feq ((by decide) : ¬ ((2 : Int32) = (16 : Int32)))).2 (by decide) (by decide) k) ?_
      refine Run.pre (fun _ k => XS.aloadN X668.here hx rfl (hb hby d4_65) rfl rfl k) ?_
      refine Run.pre (fun _ k => XS.dup X668.here hx rfl (hb hby d4_66) rfl rfl k) ?_
      obtain ⟨T670, X670, e670, st670⟩ := getF X668 hx hZ hown (host := "") (Or.inl (hwi hw 34 rfl)) Via.refl e668 Fe (g := (mkF m 67 #[.val (.ref tb), .val (.long xk), .second, .val (.long dq), .second, .val (.int lk), .val (.int qk), .unset, .unset] [(.ref tb), (.ref tb)])) rfl rfl (hb hby d4_67)
      refine Run.pre st670 ?_
      show Run p e below s _ _ _ (T670.setTop (mkF m 70 #[.val (.ref tb), .val (.long xk), .second, .val (.long dq), .second, .val (.int lk), .val (.int qk), .unset, .unset] [(.int (2 : Int32)), (.ref tb)]))
      refine Run.pre (fun _ k => XS.dupX1 X670.here hx rfl (hb hby d4_70) rfl rfl rfl k) ?_
      refine Run.pre (fun _ k => XS.iconst X670.here hx rfl (hb hby d4_71) k) ?_
      refine Run.pre (fun _ k => XS.iadd X670.here hx rfl (hb hby d4_72) rfl k) ?_
      obtain ⟨T671, h671, X671, e671, W671, st671⟩ := putF X670 hx hZ hown (host := "") (Or.inl (hwi hw 34 rfl)) Via.refl e670 Fe E_tb (Or.inl (hwi hw 35 rfl)) (hwi hw 1 rfl) (ty := .int) (by decide) rfl rfl (g := (mkF m 73 #[.val (.ref tb), .val (.long xk), .second, .val (.long dq), .second, .val (.int lk), .val (.int qk), .unset, .unset] [(.int (3 : Int32)), (.ref tb), (.int (2 : Int32))])) rfl rfl (hb hby d4_73)
      refine Run.pre st671 ?_
      have Fw671 := Fe.same W671
      have K671 : Keep h0 h671 [tb, xo, xd, xl, xq, xh] := (Keep.refl h0 [tb, xo, xd, xl, xq, xh]).wr W671 (Or.inl (by simp))
      have N671 := Fr.snoc X671 N0 g_tb
      refine Run.pre (fun _ k => XS.istore X671.here hx rfl (hb hby d4_76) rfl (l' := #[.val (.ref tb), .val (.long xk), .second, .val (.long dq), .second, .val (.int lk), .val (.int qk), .val (.int (2 : Int32)), .unset]) rfl k) ?_
      refine Run.pre (fun _ k => XS.aloadN X671.here hx rfl (hb hby d4_78) rfl rfl k) ?_
      show Run p e below s _ _ _ (T671.setTop (mkF m 79 #[.val (.ref tb), .val (.long xk), .second, .val (.long dq), .second, .val (.int lk), .val (.int qk), .val (.int (2 : Int32)), .unset] [(.ref tb)]))
      have f672 := (FR0.other W671 (Or.inr (slot_ne (Or.inl (hwi hw 11 rfl)) (Or.inl (hwi hw 35 rfl)) (by decide) (t := (.array .long)) (t' := .int) (by decide) (by decide))))
      obtain ⟨T673, X673, e673, st673⟩ := getF X671 hx hZ hown (host := "") (Or.inl (hwi hw 10 rfl)) Via.refl e671 f672 (g := (mkF m 79 #[.val (.ref tb), .val (.long xk), .second, .val (.long dq), .second, .val (.int lk), .val (.int qk), .val (.int (2 : Int32)), .unset] [(.ref tb)])) rfl rfl (hb hby d4_79)
      refine Run.pre st673 ?_
      refine Run.pre (fun _ k => XS.iload X673.here hx rfl (hb hby d4_82) rfl  k) ?_
      refine Run.pre (fun _ k => XS.lloadN X673.here hx rfl (hb hby d4_84) rfl  k) ?_
      have f674 := (AR0.other W671 (Ne.symm ne_tb_xo))
      obtain ⟨c675, Ar675, q675, S675, N675, H675, G675⟩ := id f674
      have hin675 : ¬ ((2 : Int32) < 0 ∨ c675.slots.size ≤ ((2 : Int32)).toNatClampNeg) := inb_of S675 ⟨by decide, by decide⟩
      obtain ⟨T676, h676, X676, e676, W676, st676⟩ := stJ X673 hx hZ e673 Ar675 (j := (2 : Int32)) hin675 (g := (mkF m 85 #[.val (.ref tb), .val (.long xk), .second, .val (.long dq), .second, .val (.int lk), .val (.int qk), .val (.int (2 : Int32)), .unset] [(.long xk), (.int (2 : Int32)), (.ref xo)])) rfl rfl (hb hby d4_85)
      refine Run.pre st676 ?_
      have V_xo_676 : Arv Z h676 xo ko .long (16 : Int32) (own_LJ p0 p1 xk) (.long (0 : Int64)) := Arv.set Ar675 q675 S675 N675 H675 G675 rfl W676 2 rfl (Nat.le_of_ble_eq_true rfl)
      have K676 : Keep h0 h676 [tb, xo, xd, xl, xq, xh] := K671.wr W676 (Or.inl (by simp))
      have N676 := Fr.snoc X676 N671 g_xo
      show Run p e below s _ _ _ (T676.setTop (mkF m 86 #[.val (.ref tb), .val (.long xk), .second, .val (.long dq), .second, .val (.int lk), .val (.int qk), .val (.int (2 : Int32)), .unset] []))
      have f677 := ((E_tb.wr W671).wr W676)
      have f678 := (f672.other W676 (Or.inl ne_tb_xo))
      have f679 := ((FR1.other W671 (Or.inr (slot_ne (Or.inl (hwi hw 13 rfl)) (Or.inl (hwi hw 35 rfl)) (by decide) (t := (.array .long)) (t' := .int) (by decide) (by decide)))).other W676 (Or.inl ne_tb_xo))
      have f680 := ((FR2.other W671 (Or.inr (slot_ne (Or.inl (hwi hw 16 rfl)) (Or.inl (hwi hw 35 rfl)) (by decide) (t := (.array .int)) (t' := .int) (by decide) (by decide)))).other W676 (Or.inl ne_tb_xo))
      have f681 := ((FR3.other W671 (Or.inr (slot_ne (Or.inl (hwi hw 18 rfl)) (Or.inl (hwi hw 35 rfl)) (by decide) (t := (.array .int)) (t' := .int) (by decide) (by decide)))).other W676 (Or.inl ne_tb_xo))
      have f682 := ((FR4.other W671 (Or.inr (slot_ne (Or.inl (hwi hw 21 rfl)) (Or.inl (hwi hw 35 rfl)) (by decide) (t := (.array .boolean)) (t' := .int) (by decide) (by decide)))).other W676 (Or.inl ne_tb_xo))
      have f683 := ((Ff.other W671 (Or.inr (slot_ne (Or.inl (hwi hw 37 rfl)) (Or.inl (hwi hw 35 rfl)) (by decide) (t := .int) (t' := .int) (by decide) (by decide)))).other W676 (Or.inl ne_tb_xo))
      have f684 := (Fw671.other W676 (Or.inl ne_tb_xo))
      have f685 := ((Fz.other W671 (Or.inr (slot_ne (Or.inl (hwi hw 28 rfl)) (Or.inl (hwi hw 35 rfl)) (by decide) (t := .int) (t' := .int) (by decide) (by decide)))).other W676 (Or.inl ne_tb_xo))
      have f686 := ((AR1.other W671 (Ne.symm ne_tb_xd)).other W676 (Ne.symm ne_xo_xd))
      have f687 := ((AR2.other W671 (Ne.symm ne_tb_xl)).other W676 (Ne.symm ne_xo_xl))
      have f688 := ((AR3.other W671 (Ne.symm ne_tb_xq)).other W676 (Ne.symm ne_xo_xq))
      have f689 := ((AR4.other W671 (Ne.symm ne_tb_xh)).other W676 (Ne.symm ne_xo_xh))
      exact GT2 p0 p1 xk d0 d1 d2 l0 l1 l2 q0 q1 q2 (1 : Int32) (0 : Int32) (0 : Int32) (0 : Int32) (3 : Int32) (1 : Int32) _ _ _ X676 e676 N676 K676 f677 f678 f679 f680 f681 f682 f683 f684 f685 V_xo_676 f686 f687 f688 f689 ⟨fun _ => ⟨(Or.inr (Or.inr (Or.inr (Or.inr (Or.inr (Or.inr (Or.inr (Or.inr (Or.inl ⟨(by decide), (by decide), (by decide), (by decide), (by decide), (by decide), o01, ((lw_gt _ _).mp hc666), fun x => by show (S x ∨ x = xk) ↔ _; rw [hS x]; try simp [or_comm, or_left_comm, or_assoc]⟩))))))))), fun q => absurd q (by decide), Or.inr (by decide)⟩, fun q => absurd (by decide) q⟩
    · skip
      refine Run.pre (fun _ k => XS.ifNo X664.here hx rfl (hb hby d4_24) rfl ((if0 _ _).trans (flt (hc666 : ¬ ((0 : Int32) < (lcmpW xk p1)))).2.2.1) k) ?_
      refine Run.pre (fun _ k => XS.aloadN X664.here hx rfl (hb hby d4_27) rfl rfl k) ?_
      refine Run.pre (fun _ k => XS.lloadN X664.here hx rfl (hb hby d4_28) rfl  k) ?_
      refine Run.callP X664 hx hZ (y := (⟨"com/example/manana/manana/storage/WaitingTable", "slotOf", "(J)I"⟩ : MethodName)) hown (hwi hw 42 rfl) (hwi hw 43 rfl) (own_selP (y := (⟨"com/example/manana/manana/storage/WaitingTable", "slotOf", "(J)I"⟩ : MethodName)) (z := (⟨"com/example/manana/manana/storage/WaitingTable", "lowest", "(J)J"⟩ : MethodName)) (hwi hw 43 rfl) (hwi hw 44 rfl) (hwi hw 25 rfl) rfl (by decide)) (hwi hw 44 rfl) (hwi hw 45 rfl) (hwi hw 2 rfl) (by decide) (a := tb) E_tb (W := 0) (rmS_02 l Z a0 hw tb xo ko p0 p1 p2 xk h0 n0 (Nat.le_trans Z0 (Keep.refl h0 [tb, xo, xd, xl, xq, xh]).1) E_tb FR0 Ff Fe AR0) e664 (by decide) (by decide) (by decide) (by decide) (g := (mkF m 29 #[.val (.ref tb), .val (.long xk), .second, .val (.long dq), .second, .val (.int lk), .val (.int qk), .unset, .unset] [(.long xk), (.ref tb)])) rfl (by rw [hml]; rfl) (argsL := [(.long xk)]) (rest := []) (lenOf pd_2 rfl) rfl (by show 2 * 0 + _ ≤ _; exact Nat.le_of_eq rfl) (hb hby d4_29) ?_
      intro v690 T690 L690 X690 hQ690
      obtain ⟨r690, rfl, Nq690, he690, sp690⟩ := hQ690
      have N690 := Fr.app N0 Nq690
      have e690 : T690.heap = h0 := he690
      show Run p e below s _ _ _ (T690.setTop (mkF m 32 #[.val (.ref tb), .val (.long xk), .second, .val (.long dq), .second, .val (.int lk), .val (.int qk), .unset, .unset] [(.int r690)]))
      rcases sp690 with ⟨rfl, s0, s1⟩ | ⟨rfl, s0, s1⟩ | ⟨rfl, s0, s1⟩ | ⟨rfl, s0⟩ | ⟨rfl, s0⟩
      · skip
        exact absurd ((lw_gt _ _).mpr s1.2) hc666
      · skip
        show Run p e below s _ _ _ (T690.setTop (mkF m 32 #[.val (.ref tb), .val (.long xk), .second, .val (.long dq), .second, .val (.int lk), .val (.int qk), .unset, .unset] [(.int (-2 : Int32))]))
        refine Run.pre (fun _ k => XS.istore X690.here hx rfl (hb hby d4_32) rfl (l' := #[.val (.ref tb), .val (.long xk), .second, .val (.long dq), .second, .val (.int lk), .val (.int qk), .val (.int (-2 : Int32)), .unset]) rfl k) ?_
        refine Run.pre (fun _ k => XS.iload X690.here hx rfl (hb hby d4_34) rfl  k) ?_
        refine Run.pre (fun _ k => XS.ifNo X690.here hx rfl (hb hby d4_36) rfl ((if0 _ _).trans (tlt ((by decide) : (-2 : Int32) < (0 : Int32))).2.1) k) ?_
        refine Run.pre (fun _ k => XS.aloadN X690.here hx rfl (hb hby d4_39) rfl rfl k) ?_
        refine Run.pre (fun _ k => XS.lloadN X690.here hx rfl (hb hby d4_40) rfl  k) ?_
        refine Run.callP X690 hx hZ (y := (⟨"com/example/manana/manana/storage/WaitingTable", "insert", "(J)I"⟩ : MethodName)) hown (hwi hw 56 rfl) (hwi hw 57 rfl) (own_selP (y := (⟨"com/example/manana/manana/storage/WaitingTable", "insert", "(J)I"⟩ : MethodName)) (z := (⟨"com/example/manana/manana/storage/WaitingTable", "lowest", "(J)J"⟩ : MethodName)) (hwi hw 57 rfl) (hwi hw 58 rfl) (hwi hw 25 rfl) rfl (by decide)) (hwi hw 58 rfl) (hwi hw 59 rfl) (hwi hw 2 rfl) (by decide) (a := tb) E_tb (W := 0) (rmIn_02_1 l Z a0 hw tb xo xd xl xq xh ko kd kl kq kh p0 p1 p2 d0 d1 d2 l0 l1 l2 q0 q1 q2 (1 : Int32) (0 : Int32) (0 : Int32) (1 : Int32) xk h0 n0 (Nat.le_trans Z0 (Keep.refl h0 [tb, xo, xd, xl, xq, xh]).1) E_tb FR0 FR1 FR2 FR3 FR4 Ff Fe Fz AR0 AR1 AR2 AR3 AR4 hD g_tb g_xo g_xd g_xl g_xq g_xh s0 s1) e690 (by decide) (by decide) (by decide) (by decide) (g := (mkF m 41 #[.val (.ref tb), .val (.long xk), .second, .val (.long dq), .second, .val (.int lk), .val (.int qk), .val (.int (-2 : Int32)), .unset] [(.long xk), (.ref tb)])) rfl (by rw [hml]; rfl) (argsL := [(.long xk)]) (rest := []) (lenOf pd_2 rfl) rfl (by show 2 * 0 + _ ≤ _; exact Nat.le_of_eq rfl) (hb hby d4_41) ?_
        intro v691 T691 L691 X691 hQ691
        obtain ⟨rfl, Nq691, Kc691, iE_tb_691, iFR0_691, iFR1_691, iFR2_691, iFR3_691, iFR4_691, iFf_691, iFe_691, iFz_691, iAR0_691, iAR1_691, iAR2_691, iAR3_691, iAR4_691⟩ := hQ691
        have N691 := Fr.app N690 Nq691
        have K691 : Keep h0 T691.heap [tb, xo, xd, xl, xq, xh] := (Keep.refl h0 [tb, xo, xd, xl, xq, xh]).trans Kc691 (allS (Or.inl (by simp)) (allS (Or.inl (by simp)) (allS (Or.inl (by simp)) (allS (Or.inl (by simp)) (allS (Or.inl (by simp)) (allS (Or.inl (by simp)) all0))))))
        show Run p e below s _ _ _ (T691.setTop (mkF m 44 #[.val (.ref tb), .val (.long xk), .second, .val (.long dq), .second, .val (.int lk), .val (.int qk), .val (.int (-2 : Int32)), .unset] [(.int (1 : Int32))]))
        refine Run.pre (fun _ k => XS.istore X691.here hx rfl (hb hby d4_44) rfl (l' := #[.val (.ref tb), .val (.long xk), .second, .val (.long dq), .second, .val (.int lk), .val (.int qk), .val (.int (1 : Int32)), .unset]) rfl k) ?_
        refine Run.pre (fun _ k => XS.goto X691.here hx rfl (pc0 := 46) (pc' := 86) rfl (hb hby d4_46) (by decide) (by decide) k) ?_
        show Run p e below s _ _ _ (T691.setTop (mkF m 86 #[.val (.ref tb), .val (.long xk), .second, .val (.long dq), .second, .val (.int lk), .val (.int qk), .val (.int (1 : Int32)), .unset] []))
        exact GT1 p0 xk p1 d0 d1 d1 l0 l1 l1 q0 q1 q1 (1 : Int32) (nar .boolean (0 : Int32)) (0 : Int32) (0 : Int32) (3 : Int32) (1 : Int32) _ _ _ X691 rfl N691 K691 iE_tb_691 iFR0_691 iFR1_691 iFR2_691 iFR3_691 iFR4_691 iFf_691 iFe_691 iFz_691 iAR0_691 iAR1_691 iAR2_691 iAR3_691 iAR4_691 ⟨fun _ => ⟨(Or.inr (Or.inr (Or.inr (Or.inr (Or.inr (Or.inr (Or.inr (Or.inr (Or.inr (⟨(by decide), (by decide), (by decide), (by decide), (by decide), (by decide), s0.2, s1.1, fun x => by show (S x ∨ x = xk) ↔ _; rw [hS x]; try simp [or_comm, or_left_comm, or_assoc]⟩)))))))))), fun q => absurd q (by decide), Or.inr (by decide)⟩, fun q => absurd (by decide) q⟩
      · skip
        show Run p e below s _ _ _ (T690.setTop (mkF m 32 #[.val (.ref tb), .val (.long xk), .second, .val (.long dq), .second, .val (.int lk), .val (.int qk), .unset, .unset] [(.int (1 : Int32))]))
        refine Run.pre (fun _ k => XS.istore X690.here hx rfl (hb hby d4_32) rfl (l' := #[.val (.ref tb), .val (.long xk), .second, .val (.long dq), .second, .val (.int lk), .val (.int qk), .val (.int (1 : Int32)), .unset]) rfl k) ?_
        refine Run.pre (fun _ k => XS.iload X690.here hx rfl (hb hby d4_34) rfl  k) ?_
        refine Run.pre (fun _ k => XS.ifYes X690.here hx rfl (pc0 := 36) (pc' := 86) rfl (hb hby d4_36) rfl ((if0 _ _).trans (flt ((by decide) : ¬ ((1 : Int32) < (0 : Int32)))).2.1) (by decide) (by decide) k) ?_
        show Run p e below s _ _ _ (T690.setTop (mkF m 86 #[.val (.ref tb), .val (.long xk), .second, .val (.long dq), .second, .val (.int lk), .val (.int qk), .val (.int (1 : Int32)), .unset] []))
        have hxe1 := own_eqE s1
        exact GT1 p0 p1 p2 d0 d1 d2 l0 l1 l2 q0 q1 q2 (1 : Int32) (0 : Int32) (0 : Int32) (0 : Int32) (2 : Int32) (1 : Int32) _ _ _ X690 e690 N690 (Keep.refl h0 [tb, xo, xd, xl, xq, xh]) E_tb FR0 FR1 FR2 FR3 FR4 Ff Fe Fz AR0 AR1 AR2 AR3 AR4 ⟨fun _ => ⟨(Or.inr (Or.inr (Or.inr (Or.inl ⟨(by decide), (by decide), (by decide), (by decide), (by decide), (by decide), o01, fun x => by show (S x ∨ x = xk) ↔ _; rw [hS x, hxe1]; try simp [or_comm, or_left_comm, or_assoc]⟩)))), fun q => absurd q (by decide), Or.inl (by decide)⟩, fun q => absurd (by decide) q⟩
      · skip
        show Run p e below s _ _ _ (T690.setTop (mkF m 32 #[.val (.ref tb), .val (.long xk), .second, .val (.long dq), .second, .val (.int lk), .val (.int qk), .unset, .unset] [(.int (-1 : Int32))]))
        refine Run.pre (fun _ k => XS.istore X690.here hx rfl (hb hby d4_32) rfl (l' := #[.val (.ref tb), .val (.long xk), .second, .val (.long dq), .second, .val (.int lk), .val (.int qk), .val (.int (-1 : Int32)), .unset]) rfl k) ?_
        refine Run.pre (fun _ k => XS.iload X690.here hx rfl (hb hby d4_34) rfl  k) ?_
        refine Run.pre (fun _ k => XS.ifNo X690.here hx rfl (hb hby d4_36) rfl ((if0 _ _).trans (tlt ((by decide) : (-1 : Int32) < (0 : Int32))).2.1) k) ?_
        refine Run.pre (fun _ k => XS.aloadN X690.here hx rfl (hb hby d4_39) rfl rfl k) ?_
        refine Run.pre (fun _ k => XS.lloadN X690.here hx rfl (hb hby d4_40) rfl  k) ?_
        refine Run.callP X690 hx hZ (y := (⟨"com/example/manana/manana/storage/WaitingTable", "insert", "(J)I"⟩ : MethodName)) hown (hwi hw 56 rfl) (hwi hw 57 rfl) (own_selP (y := (⟨"com/example/manana/manana/storage/WaitingTable", "insert", "(J)I"⟩ : MethodName)) (z := (⟨"com/example/manana/manana/storage/WaitingTable", "lowest", "(J)J"⟩ : MethodName)) (hwi hw 57 rfl) (hwi hw 58 rfl) (hwi hw 25 rfl) rfl (by decide)) (hwi hw 58 rfl) (hwi hw 59 rfl) (hwi hw 2 rfl) (by decide) (a := tb) E_tb (W := 0) (rmIn_02_0 l Z a0 hw tb xo xd xl xq xh ko kd kl kq kh p0 p1 p2 d0 d1 d2 l0 l1 l2 q0 q1 q2 (1 : Int32) (0 : Int32) (0 : Int32) (1 : Int32) xk h0 n0 (Nat.le_trans Z0 (Keep.refl h0 [tb, xo, xd, xl, xq, xh]).1) E_tb FR0 FR1 FR2 FR3 FR4 Ff Fe Fz AR0 AR1 AR2 AR3 AR4 hD g_tb g_xo g_xd g_xl g_xq g_xh s0) e690 (by decide) (by decide) (by decide) (by decide) (g := (mkF m 41 #[.val (.ref tb), .val (.long xk), .second, .val (.long dq), .second, .val (.int lk), .val (.int qk), .val (.int (-1 : Int32)), .unset] [(.long xk), (.ref tb)])) rfl (by rw [hml]; rfl) (argsL := [(.long xk)]) (rest := []) (lenOf pd_2 rfl) rfl (by show 2 * 0 + _ ≤ _; exact Nat.le_of_eq rfl) (hb hby d4_41) ?_
        intro v692 T692 L692 X692 hQ692
        obtain ⟨rfl, Nq692, Kc692, iE_tb_692, iFR0_692, iFR1_692, iFR2_692, iFR3_692, iFR4_692, iFf_692, iFe_692, iFz_692, iAR0_692, iAR1_692, iAR2_692, iAR3_692, iAR4_692⟩ := hQ692
        have N692 := Fr.app N690 Nq692
        have K692 : Keep h0 T692.heap [tb, xo, xd, xl, xq, xh] := (Keep.refl h0 [tb, xo, xd, xl, xq, xh]).trans Kc692 (allS (Or.inl (by simp)) (allS (Or.inl (by simp)) (allS (Or.inl (by simp)) (allS (Or.inl (by simp)) (allS (Or.inl (by simp)) (allS (Or.inl (by simp)) all0))))))
        show Run p e below s _ _ _ (T692.setTop (mkF m 44 #[.val (.ref tb), .val (.long xk), .second, .val (.long dq), .second, .val (.int lk), .val (.int qk), .val (.int (-1 : Int32)), .unset] [(.int (0 : Int32))]))
        refine Run.pre (fun _ k => XS.istore X692.here hx rfl (hb hby d4_44) rfl (l' := #[.val (.ref tb), .val (.long xk), .second, .val (.long dq), .second, .val (.int lk), .val (.int qk), .val (.int (0 : Int32)), .unset]) rfl k) ?_
        refine Run.pre (fun _ k => XS.goto X692.here hx rfl (pc0 := 46) (pc' := 86) rfl (hb hby d4_46) (by decide) (by decide) k) ?_
        show Run p e below s _ _ _ (T692.setTop (mkF m 86 #[.val (.ref tb), .val (.long xk), .second, .val (.long dq), .second, .val (.int lk), .val (.int qk), .val (.int (0 : Int32)), .unset] []))
        exact GT0 xk p0 p1 d0 d0 d1 l0 l0 l1 q0 q0 q1 (nar .boolean (0 : Int32)) (1 : Int32) (0 : Int32) (0 : Int32) (3 : Int32) (1 : Int32) _ _ _ X692 rfl N692 K692 iE_tb_692 iFR0_692 iFR1_692 iFR2_692 iFR3_692 iFR4_692 iFf_692 iFe_692 iFz_692 iAR0_692 iAR1_692 iAR2_692 iAR3_692 iAR4_692 ⟨fun _ => ⟨(Or.inr (Or.inr (Or.inr (Or.inr (Or.inr (Or.inr (Or.inr (Or.inr (Or.inr (⟨(by decide), (by decide), (by decide), (by decide), (by decide), (by decide), s0.1, o01, fun x => by show (S x ∨ x = xk) ↔ _; rw [hS x]; try simp [or_comm, or_left_comm, or_assoc]⟩)))))))))), fun q => absurd q (by decide), Or.inr (by decide)⟩, fun q => absurd (by decide) q⟩
      · skip
        show Run p e below s _ _ _ (T690.setTop (mkF m 32 #[.val (.ref tb), .val (.long xk), .second, .val (.long dq), .second, .val (.int lk), .val (.int qk), .unset, .unset] [(.int (0 : Int32))]))
        refine Run.pre (fun _ k => XS.istore X690.here hx rfl (hb hby d4_32) rfl (l' := #[.val (.ref tb), .val (.long xk), .second, .val (.long dq), .second, .val (.int lk), .val (.int qk), .val (.int (0 : Int32)), .unset]) rfl k) ?_
        refine Run.pre (fun _ k => XS.iload X690.here hx rfl (hb hby d4_34) rfl  k) ?_
        refine Run.pre (fun _ k => XS.ifYes X690.here hx rfl (pc0 := 36) (pc' := 86) rfl (hb hby d4_36) rfl ((if0 _ _).trans (flt ((by decide) : ¬ ((0 : Int32) < (0 : Int32)))).2.1) (by decide) (by decide) k) ?_
        show Run p e below s _ _ _ (T690.setTop (mkF m 86 #[.val (.ref tb), .val (.long xk), .second, .val (.long dq), .second, .val (.int lk), .val (.int qk), .val (.int (0 : Int32)), .unset] []))
        have hxe0 := own_eqE s0
        exact GT0 p0 p1 p2 d0 d1 d2 l0 l1 l2 q0 q1 q2 (1 : Int32) (0 : Int32) (0 : Int32) (0 : Int32) (2 : Int32) (1 : Int32) _ _ _ X690 e690 N690 (Keep.refl h0 [tb, xo, xd, xl, xq, xh]) E_tb FR0 FR1 FR2 FR3 FR4 Ff Fe Fz AR0 AR1 AR2 AR3 AR4 ⟨fun q => absurd q (by decide), fun _ => ⟨(Or.inr (Or.inr (Or.inr (Or.inr (Or.inr (Or.inl ⟨(by decide), (by decide), (by decide), (by decide), (by decide), (by decide), o01, fun x => by show (S x ∨ x = xk) ↔ _; rw [hS x, hxe0]; try simp [or_comm, or_left_comm, or_assoc]⟩)))))), fun q => absurd q (by decide), Or.inl (by decide)⟩⟩
def own_bs00 (xk p0 p1 p2 : Int64) (r : Int32) : Prop := (r = (-1 : Int32))
set_option maxRecDepth 65536 in
set_option maxHeartbeats 40000000 in
theorem rmRC_00 (l : Launch) (Z : State) (a0 : Array Value) (hw : ∀ d ∈ tables_1, d.before a0 Z = true)  (h0 : Heap) (n0 : Nat) (Z0 : n0 ≤ h0.size) :
    Con l (⟨"java/util/Arrays", "rangeCheck", "(III)V"⟩ : MethodName) jdk_65_method_30_code 3 none ({ frames := 0, cells := 0, slots := 0, locals := 0 } : Room) Z #[(.int (16 : Int32)), (.int (0 : Int32)), (.int (0 : Int32))] h0 (fun v h L => v = none ∧ Fr n0 L ∧ h = h0) := by
  refine Con.mk (plainFor_of_name pn_8) (fun m => show entryFrame m #[(.int (16 : Int32)), (.int (0 : Int32)), (.int (0 : Int32))] 3 = mkF m 0 #[.val (.int (16 : Int32)), .val (.int (0 : Int32)), .val (.int (0 : Int32))] [] by first | (simp [entryFrame, mkF, argsToLocals, Value.category]; done) | rfl) ?_
  intro p e s m below meth c s₁ hx hby hml hown hnm hret hlk hZ X0 e0
  have N0 := Fr.nil n0
  show Run p e below s _ _ _ (s₁.setTop (mkF m 0 #[.val (.int (16 : Int32)), .val (.int (0 : Int32)), .val (.int (0 : Int32))] []))
  refine Run.pre (fun _ k => XS.iloadN X0.here hx rfl (hb hby d8_0) rfl  k) ?_
  refine Run.pre (fun _ k => XS.iloadN X0.here hx rfl (hb hby d8_1) rfl  k) ?_
  refine Run.pre (fun _ k => XS.icmpYes X0.here hx rfl (pc0 := 2) (pc' := 46) rfl (hb hby d8_2) rfl (flt ((by decide) : ¬ ((0 : Int32) < (0 : Int32)))).2.2.2 (by decide) (by decide) k) ?_
  refine Run.pre (fun _ k => XS.iloadN X0.here hx rfl (hb hby d8_46) rfl  k) ?_
  refine Run.pre (fun _ k => XS.ifYes X0.here hx rfl (pc0 := 47) (pc' := 59) rfl (hb hby d8_47) rfl ((if0 _ _).trans (flt ((by decide) : ¬ ((0 : Int32) < (0 : Int32)))).2.1) (by decide) (by decide) k) ?_
  refine Run.pre (fun _ k => XS.iloadN X0.here hx rfl (hb hby d8_59) rfl  k) ?_
  show Run p e below s _ _ _ (s₁.setTop (mkF m 60 #[.val (.int (16 : Int32)), .val (.int (0 : Int32)), .val (.int (0 : Int32))] [(.int (0 : Int32))]))
  refine Run.pre (fun _ k => XS.iloadN X0.here hx rfl (hb hby d8_60) rfl  k) ?_
  refine Run.pre (fun _ k => XS.icmpYes X0.here hx rfl (pc0 := 61) (pc' := 73) rfl (hb hby d8_61) rfl (flt ((by decide) : ¬ ((16 : Int32) < (0 : Int32)))).2.2.2 (by decide) (by decide) k) ?_
  exact Run.retV X0 hx hret hlk (hb hby d8_73) (by first | (rw [e0]; exact ⟨rfl, N0, rfl⟩) | exact ⟨rfl, N0, rfl⟩) (by decide) (by decide)
set_option maxRecDepth 65536 in
set_option maxHeartbeats 40000000 in
theorem rmB0_00 (l : Launch) (Z : State) (a0 : Array Value) (hw : ∀ d ∈ tables_1, d.before a0 Z = true) (xo : Addr) (ko : ClassId) (p0 : Int64) (p1 : Int64) (p2 : Int64) (xk : Int64) (h0 : Heap) (n0 : Nat) (Z0 : n0 ≤ h0.size) (AO : Arv Z h0 xo ko .long 16 (own_LJ p0 p1 p2) (.long (0 : Int64))) :
    Con l (⟨"java/util/Arrays", "binarySearch0", "([JIIJ)I"⟩ : MethodName) jdk_65_method_56_code 10 (some .int) ({ frames := 0, cells := 0, slots := 0, locals := 0 } : Room) Z #[(.ref xo), (.int (0 : Int32)), (.int (0 : Int32)), (.long xk)] h0 (fun v h L => ∃ r : Int32, v = some (.int r) ∧ Fr n0 L ∧ h = h0 ∧ own_bs00 xk p0 p1 p2 r) := by
  refine Con.mk (plainFor_of_name pn_9) (fun m => show entryFrame m #[(.ref xo), (.int (0 : Int32)), (.int (0 : Int32)), (.long xk)] 10 = mkF m 0 #[.val (.ref xo), .val (.int (0 : Int32)), .val (.int (0 : Int32)), .val (.long xk), .second, .unset, .unset, .unset, .unset, .unset] [] by first | (simp [entryFrame, mkF, argsToLocals, Value.category]; done) | rfl) ?_
  intro p e s m below meth c s₁ hx hby hml hown hnm hret hlk hZ X0 e0
  have N0 := Fr.nil n0
  show Run p e below s _ _ _ (s₁.setTop (mkF m 0 #[.val (.ref xo), .val (.int (0 : Int32)), .val (.int (0 : Int32)), .val (.long xk), .second, .unset, .unset, .unset, .unset, .unset] []))
  refine Run.pre (fun _ k => XS.iloadN X0.here hx rfl (hb hby d9_0) rfl  k) ?_
  refine Run.pre (fun _ k => XS.istore X0.here hx rfl (hb hby d9_1) rfl (l' := #[.val (.ref xo), .val (.int (0 : Int32)), .val (.int (0 : Int32)), .val (.long xk), .second, .val (.int (0 : Int32)), .unset, .unset, .unset, .unset]) rfl k) ?_
  refine Run.pre (fun _ k => XS.iloadN X0.here hx rfl (hb hby d9_3) rfl  k) ?_
  refine Run.pre (fun _ k => XS.iconst X0.here hx rfl (hb hby d9_4) k) ?_
  refine Run.pre (fun _ k => XS.isub X0.here hx rfl (hb hby d9_5) rfl k) ?_
  refine Run.pre (fun _ k => XS.istore X0.here hx rfl (hb hby d9_6) rfl (l' := #[.val (.ref xo), .val (.int (0 : Int32)), .val (.int (0 : Int32)), .val (.long xk), .second, .val (.int (0 : Int32)), .val (.int (-1 : Int32)), .unset, .unset, .unset]) rfl k) ?_
  show Run p e below s _ _ _ (s₁.setTop (mkF m 8 #[.val (.ref xo), .val (.int (0 : Int32)), .val (.int (0 : Int32)), .val (.long xk), .second, .val (.int (0 : Int32)), .val (.int (-1 : Int32)), .unset, .unset, .unset] []))
  refine Run.pre (fun _ k => XS.iload X0.here hx rfl (hb hby d9_8) rfl  k) ?_
  refine Run.pre (fun _ k => XS.iload X0.here hx rfl (hb hby d9_10) rfl  k) ?_
  refine Run.pre (fun _ k => XS.icmpYes X0.here hx rfl (pc0 := 12) (pc' := 68) rfl (hb hby d9_12) rfl (tlt ((by decide) : (-1 : Int32) < (0 : Int32))).2.2.1 (by decide) (by decide) k) ?_
  refine Run.pre (fun _ k => XS.iload X0.here hx rfl (hb hby d9_68) rfl  k) ?_
  refine Run.pre (fun _ k => XS.iconst X0.here hx rfl (hb hby d9_70) k) ?_
  refine Run.pre (fun _ k => XS.iadd X0.here hx rfl (hb hby d9_71) rfl k) ?_
  show Run p e below s _ _ _ (s₁.setTop (mkF m 72 #[.val (.ref xo), .val (.int (0 : Int32)), .val (.int (0 : Int32)), .val (.long xk), .second, .val (.int (0 : Int32)), .val (.int (-1 : Int32)), .unset, .unset, .unset] [(.int (1 : Int32))]))
  refine Run.pre (fun _ k => XS.ineg X0.here hx rfl (hb hby d9_72) rfl k) ?_
  exact Run.retI X0 hx hret hlk (hb hby d9_73) (by first | (rw [e0]; exact ⟨_, rfl, N0, rfl, rfl⟩) | exact ⟨_, rfl, N0, rfl, rfl⟩) (by decide) (by decide)
set_option maxRecDepth 65536 in
set_option maxHeartbeats 40000000 in
theorem rmB_00 (l : Launch) (Z : State) (a0 : Array Value) (hw : ∀ d ∈ tables_1, d.before a0 Z = true) (xo : Addr) (ko : ClassId) (p0 : Int64) (p1 : Int64) (p2 : Int64) (xk : Int64) (h0 : Heap) (n0 : Nat) (Z0 : n0 ≤ h0.size) (AO : Arv Z h0 xo ko .long 16 (own_LJ p0 p1 p2) (.long (0 : Int64))) :
    Con l (⟨"java/util/Arrays", "binarySearch", "([JIIJ)I"⟩ : MethodName) jdk_65_method_55_code 5 (some .int) ({ frames := 1, cells := 0, slots := 0, locals := 21 } : Room) Z #[(.ref xo), (.int (0 : Int32)), (.int (0 : Int32)), (.long xk)] h0 (fun v h L => ∃ r : Int32, v = some (.int r) ∧ Fr n0 L ∧ h = h0 ∧ own_bs00 xk p0 p1 p2 r) := by
  refine Con.mk (plainFor_of_name pn_7) (fun m => show entryFrame m #[(.ref xo), (.int (0 : Int32)), (.int (0 : Int32)), (.long xk)] 5 = mkF m 0 #[.val (.ref xo), .val (.int (0 : Int32)), .val (.int (0 : Int32)), .val (.long xk), .second] [] by first | (simp [entryFrame, mkF, argsToLocals, Value.category]; done) | rfl) ?_
  intro p e s m below meth c s₁ hx hby hml hown hnm hret hlk hZ X0 e0
  have N0 := Fr.nil n0
  show Run p e below s _ _ _ (s₁.setTop (mkF m 0 #[.val (.ref xo), .val (.int (0 : Int32)), .val (.int (0 : Int32)), .val (.long xk), .second] []))
  refine Run.pre (fun _ k => XS.aloadN X0.here hx rfl (hb hby d7_0) rfl rfl k) ?_
  obtain ⟨c693, Ar693, -, S693, N693, -, -⟩ := id AO
  refine Run.pre (X0.arraylength hx (by rw [e0]; exact Ar693.1) (State.isArrayOf_alike hZ.alike Ar693.2.1) (g := (mkF m 1 #[.val (.ref xo), .val (.int (0 : Int32)), .val (.int (0 : Int32)), .val (.long xk), .second] [(.ref xo)])) rfl rfl (hb hby d7_1)) ?_
  rw [len_of S693 N693]
  refine Run.pre (fun _ k => XS.iloadN X0.here hx rfl (hb hby d7_2) rfl  k) ?_
  refine Run.pre (fun _ k => XS.iloadN X0.here hx rfl (hb hby d7_3) rfl  k) ?_
  refine Run.callS X0 hx hZ (y := (⟨"java/util/Arrays", "rangeCheck", "(III)V"⟩ : MethodName)) hown (hwi hw 50 rfl) (hwi hw 51 rfl) (hwi hw 48 rfl) (hwi hw 52 rfl) (by decide) (W := 0) (rmRC_00 l Z a0 hw h0 n0 (Nat.le_trans Z0 (Keep.refl h0 []).1)) e0 (by decide) (by decide) (by decide) (by decide) (g := (mkF m 4 #[.val (.ref xo), .val (.int (0 : Int32)), .val (.int (0 : Int32)), .val (.long xk), .second] [(.int (0 : Int32)), (.int (0 : Int32)), (.int (16 : Int32))])) rfl (by rw [hml]; rfl) (argsL := [(.int (16 : Int32)), (.int (0 : Int32)), (.int (0 : Int32))]) (rest := []) (lenOf pd_0 rfl) rfl (by show 2 * 0 + _ ≤ _; exact Nat.le_of_eq rfl) (hb hby d7_4) ?_
  intro v694 T694 L694 X694 hQ694
  obtain ⟨rfl, Nq694, he694⟩ := hQ694
  have N694 := Fr.app N0 Nq694
  have e694 : T694.heap = h0 := he694
  refine Run.pre (fun _ k => XS.aloadN X694.here hx rfl (hb hby d7_7) rfl rfl k) ?_
  show Run p e below s _ _ _ (T694.setTop (mkF m 8 #[.val (.ref xo), .val (.int (0 : Int32)), .val (.int (0 : Int32)), .val (.long xk), .second] [(.ref xo)]))
  refine Run.pre (fun _ k => XS.iloadN X694.here hx rfl (hb hby d7_8) rfl  k) ?_
  refine Run.pre (fun _ k => XS.iloadN X694.here hx rfl (hb hby d7_9) rfl  k) ?_
  refine Run.pre (fun _ k => XS.lloadN X694.here hx rfl (hb hby d7_10) rfl  k) ?_
  refine Run.callS X694 hx hZ (y := (⟨"java/util/Arrays", "binarySearch0", "([JIIJ)I"⟩ : MethodName)) hown (hwi hw 53 rfl) (hwi hw 54 rfl) (hwi hw 48 rfl) (hwi hw 55 rfl) (by decide) (W := 0) (rmB0_00 l Z a0 hw xo ko p0 p1 p2 xk h0 n0 (Nat.le_trans Z0 (Keep.refl h0 []).1) AO) e694 (by decide) (by decide) (by decide) (by decide) (g := (mkF m 11 #[.val (.ref xo), .val (.int (0 : Int32)), .val (.int (0 : Int32)), .val (.long xk), .second] [(.long xk), (.int (0 : Int32)), (.int (0 : Int32)), (.ref xo)])) rfl (by rw [hml]; rfl) (argsL := [(.ref xo), (.int (0 : Int32)), (.int (0 : Int32)), (.long xk)]) (rest := []) (lenOf pd_1 rfl) rfl (by show 2 * 0 + _ ≤ _; exact Nat.le_of_eq rfl) (hb hby d7_11) ?_
  intro v695 T695 L695 X695 hQ695
  obtain ⟨r695, rfl, Nq695, he695, sp695⟩ := hQ695
  have N695 := Fr.app N694 Nq695
  have e695 : T695.heap = h0 := he695
  exact Run.retI X695 hx hret hlk (hb hby d7_14) (by first | (rw [e695]; exact ⟨r695, rfl, N695, rfl, sp695⟩) | exact ⟨r695, rfl, N695, rfl, sp695⟩) (by decide) (by decide)
set_option maxRecDepth 65536 in
set_option maxHeartbeats 40000000 in
theorem rmS_00 (l : Launch) (Z : State) (a0 : Array Value) (hw : ∀ d ∈ tables_1, d.before a0 Z = true) (tb : Addr) (xo : Addr) (ko : ClassId) (p0 : Int64) (p1 : Int64) (p2 : Int64) (xk : Int64) (h0 : Heap) (n0 : Nat) (Z0 : n0 ≤ h0.size) (E_tb : Exa Z h0 tb "com/example/manana/manana/storage/WaitingTable") (FO : Fld Z h0 tb "com/example/manana/manana/storage/WaitingTable" "offsets" "[J" (.ref xo)) (Ff : Fld Z h0 tb "com/example/manana/manana/storage/WaitingTable" "first" "I" (.int 0)) (Fe : Fld Z h0 tb "com/example/manana/manana/storage/WaitingTable" "end" "I" (.int 0)) (AO : Arv Z h0 xo ko .long 16 (own_LJ p0 p1 p2) (.long (0 : Int64))) :
    Con l (⟨"com/example/manana/manana/storage/WaitingTable", "slotOf", "(J)I"⟩ : MethodName) prog_84_method_11_code 3 (some .int) ({ frames := 2, cells := 0, slots := 0, locals := 37 } : Room) Z #[(.ref tb), (.long xk)] h0 (fun v h L => ∃ r : Int32, v = some (.int r) ∧ Fr n0 L ∧ h = h0 ∧ own_bs00 xk p0 p1 p2 r) := by
  refine Con.mk (plainFor_of_name pn_6) (fun m => show entryFrame m #[(.ref tb), (.long xk)] 3 = mkF m 0 #[.val (.ref tb), .val (.long xk), .second] [] by first | (simp [entryFrame, mkF, argsToLocals, Value.category]; done) | rfl) ?_
  intro p e s m below meth c s₁ hx hby hml hown hnm hret hlk hZ X0 e0
  have N0 := Fr.nil n0
  show Run p e below s _ _ _ (s₁.setTop (mkF m 0 #[.val (.ref tb), .val (.long xk), .second] []))
  refine Run.pre (fun _ k => XS.aloadN X0.here hx rfl (hb hby d6_0) rfl rfl k) ?_
  obtain ⟨T696, X696, e696, st696⟩ := getF X0 hx hZ hown (host := "") (Or.inl (hwi hw 10 rfl)) Via.refl e0 FO (g := (mkF m 1 #[.val (.ref tb), .val (.long xk), .second] [(.ref tb)])) rfl rfl (hb hby d6_1)
  refine Run.pre st696 ?_
  refine Run.pre (fun _ k => XS.aloadN X696.here hx rfl (hb hby d6_4) rfl rfl k) ?_
  obtain ⟨T697, X697, e697, st697⟩ := getF X696 hx hZ hown (host := "") (Or.inl (hwi hw 36 rfl)) Via.refl e696 Ff (g := (mkF m 5 #[.val (.ref tb), .val (.long xk), .second] [(.ref tb), (.ref xo)])) rfl rfl (hb hby d6_5)
  refine Run.pre st697 ?_
  refine Run.pre (fun _ k => XS.aloadN X697.here hx rfl (hb hby d6_8) rfl rfl k) ?_
  obtain ⟨T698, X698, e698, st698⟩ := getF X697 hx hZ hown (host := "") (Or.inl (hwi hw 34 rfl)) Via.refl e697 Fe (g := (mkF m 9 #[.val (.ref tb), .val (.long xk), .second] [(.ref tb), (.int (0 : Int32)), (.ref xo)])) rfl rfl (hb hby d6_9)
  refine Run.pre st698 ?_
  show Run p e below s _ _ _ (T698.setTop (mkF m 12 #[.val (.ref tb), .val (.long xk), .second] [(.int (0 : Int32)), (.int (0 : Int32)), (.ref xo)]))
  refine Run.pre (fun _ k => XS.lloadN X698.here hx rfl (hb hby d6_12) rfl  k) ?_
  refine Run.callS X698 hx hZ (y := (⟨"java/util/Arrays", "binarySearch", "([JIIJ)I"⟩ : MethodName)) hown (hwi hw 46 rfl) (hwi hw 47 rfl) (hwi hw 48 rfl) (hwi hw 49 rfl) (by decide) (W := 0) (rmB_00 l Z a0 hw xo ko p0 p1 p2 xk h0 n0 (Nat.le_trans Z0 (Keep.refl h0 []).1) AO) e698 (by decide) (by decide) (by decide) (by decide) (g := (mkF m 13 #[.val (.ref tb), .val (.long xk), .second] [(.long xk), (.int (0 : Int32)), (.int (0 : Int32)), (.ref xo)])) rfl (by rw [hml]; rfl) (argsL := [(.ref xo), (.int (0 : Int32)), (.int (0 : Int32)), (.long xk)]) (rest := []) (lenOf pd_1 rfl) rfl (by show 2 * 0 + _ ≤ _; exact Nat.le_of_eq rfl) (hb hby d6_13) ?_
  intro v699 T699 L699 X699 hQ699
  obtain ⟨r699, rfl, Nq699, he699, sp699⟩ := hQ699
  have N699 := Fr.app N0 Nq699
  have e699 : T699.heap = h0 := he699
  exact Run.retI X699 hx hret hlk (hb hby d6_16) (by first | (rw [e699]; exact ⟨r699, rfl, N699, rfl, sp699⟩) | exact ⟨r699, rfl, N699, rfl, sp699⟩) (by decide) (by decide)
def own_fd0 (xk p0 p1 p2 : Int64) (r : Int32) : Prop := (r = (-1 : Int32))
theorem d14_0 : decode prog_84_method_3_code 0 = .ok (.aload_n 0, 1) := by decide +kernel
theorem d14_1 : decode prog_84_method_3_code 1 = .ok (.lload_n 1, 1) := by decide +kernel
theorem d14_2 : decode prog_84_method_3_code 2 = .ok (.invokevirtual 34, 3) := by decide +kernel
theorem d14_5 : decode prog_84_method_3_code 5 = .ok (.istore_n 3, 1) := by decide +kernel
theorem d14_6 : decode prog_84_method_3_code 6 = .ok (.iload_n 3, 1) := by decide +kernel
theorem d14_7 : decode prog_84_method_3_code 7 = .ok (.ifCond .lt 16, 3) := by decide +kernel
theorem d14_23 : decode prog_84_method_3_code 23 = .ok (.iconst (-1), 1) := by decide +kernel
theorem d14_24 : decode prog_84_method_3_code 24 = .ok (.ireturn, 1) := by decide +kernel
theorem pn_14 : plainName "com/example/manana/manana/storage/WaitingTable" = true := by first | (simp [plainName, overriddenIn]; done) | decide +kernel
set_option maxRecDepth 65536 in
set_option maxHeartbeats 40000000 in
theorem rmF_0 (l : Launch) (Z : State) (a0 : Array Value) (hw : ∀ d ∈ tables_1, d.before a0 Z = true) (tb : Addr) (xo : Addr) (ko : ClassId) (p0 : Int64) (p1 : Int64) (p2 : Int64) (xk : Int64) (xh : Addr) (kh : ClassId) (h0 : Heap) (n0 : Nat) (Z0 : n0 ≤ h0.size) (E_tb : Exa Z h0 tb "com/example/manana/manana/storage/WaitingTable") (FO : Fld Z h0 tb "com/example/manana/manana/storage/WaitingTable" "offsets" "[J" (.ref xo)) (FH : Fld Z h0 tb "com/example/manana/manana/storage/WaitingTable" "held" "[Z" (.ref xh)) (Ff : Fld Z h0 tb "com/example/manana/manana/storage/WaitingTable" "first" "I" (.int 0)) (Fe : Fld Z h0 tb "com/example/manana/manana/storage/WaitingTable" "end" "I" (.int 0)) (AO : Arv Z h0 xo ko .long 16 (own_LJ p0 p1 p2) (.long (0 : Int64))) (AH : Arv Z h0 xh kh .boolean 16 (own_LI (0 : Int32) (0 : Int32) (0 : Int32)) (.int (0 : Int32))) :
    Con l (⟨"com/example/manana/manana/storage/WaitingTable", "find", "(J)I"⟩ : MethodName) prog_84_method_3_code 4 (some .int) ({ frames := 3, cells := 0, slots := 0, locals := 51 } : Room) Z #[(.ref tb), (.long xk)] h0 (fun v h L => ∃ r : Int32, v = some (.int r) ∧ Fr n0 L ∧ h = h0 ∧ own_fd0 xk p0 p1 p2 r) := by
  refine Con.mk (plainFor_of_name pn_14) (fun m => show entryFrame m #[(.ref tb), (.long xk)] 4 = mkF m 0 #[.val (.ref tb), .val (.long xk), .second, .unset] [] by first | (simp [entryFrame, mkF, argsToLocals, Value.category]; done) | rfl) ?_
  intro p e s m below meth c s₁ hx hby hml hown hnm hret hlk hZ X0 e0
  have N0 := Fr.nil n0
  show Run p e below s _ _ _ (s₁.setTop (mkF m 0 #[.val (.ref tb), .val (.long xk), .second, .unset] []))
  refine Run.pre (fun _ k => XS.aloadN X0.here hx rfl (hb hby d14_0) rfl rfl k) ?_
  refine Run.pre (fun _ k => XS.lloadN X0.here hx rfl (hb hby d14_1) rfl  k) ?_
  refine Run.callP X0 hx hZ (y := (⟨"com/example/manana/manana/storage/WaitingTable", "slotOf", "(J)I"⟩ : MethodName)) hown (hwi hw 42 rfl) (hwi hw 43 rfl) (own_selP (y := (⟨"com/example/manana/manana/storage/WaitingTable", "slotOf", "(J)I"⟩ : MethodName)) (z := (⟨"com/example/manana/manana/storage/WaitingTable", "lowest", "(J)J"⟩ : MethodName)) (hwi hw 43 rfl) (hwi hw 44 rfl) (hwi hw 25 rfl) rfl (by decide)) (hwi hw 44 rfl) (hwi hw 45 rfl) (hwi hw 2 rfl) (by decide) (a := tb) E_tb (W := 0) (rmS_00 l Z a0 hw tb xo ko p0 p1 p2 xk h0 n0 (Nat.le_trans Z0 (Keep.refl h0 []).1) E_tb FO Ff Fe AO) e0 (by decide) (by decide) (by decide) (by decide) (g := (mkF m 2 #[.val (.ref tb), .val (.long xk), .second, .unset] [(.long xk), (.ref tb)])) rfl (by rw [hml]; rfl) (argsL := [(.long xk)]) (rest := []) (lenOf pd_2 rfl) rfl (by show 2 * 0 + _ ≤ _; exact Nat.le_of_eq rfl) (hb hby d14_2) ?_
  intro v700 T700 L700 X700 hQ700
  obtain ⟨r700, rfl, Nq700, he700, sp700⟩ := hQ700
  have N700 := Fr.app N0 Nq700
  have e700 : T700.heap = h0 := he700
  show Run p e below s _ _ _ (T700.setTop (mkF m 5 #[.val (.ref tb), .val (.long xk), .second, .unset] [(.int r700)]))
  obtain rfl := sp700
  refine Run.pre (fun _ k => XS.istoreN X700.here hx rfl (hb hby d14_5) rfl (l' := #[.val (.ref tb), .val (.long xk), .second, .val (.int (-1 : Int32))]) rfl k) ?_
  refine Run.pre (fun _ k => XS.iloadN X700.here hx rfl (hb hby d14_6) rfl  k) ?_
  refine Run.pre (fun _ k => XS.ifYes X700.here hx rfl (pc0 := 7) (pc' := 23) rfl (hb hby d14_7) rfl ((if0 _ _).trans (tlt ((by decide) : (-1 : Int32) < (0 : Int32))).1) (by decide) (by decide) k) ?_
  show Run p e below s _ _ _ (T700.setTop (mkF m 23 #[.val (.ref tb), .val (.long xk), .second, .val (.int (-1 : Int32))] []))
  refine Run.pre (fun _ k => XS.iconst X700.here hx rfl (hb hby d14_23) k) ?_
  exact Run.retI X700 hx hret hlk (hb hby d14_24) (by first | (rw [e700]; exact ⟨_, rfl, N700, rfl, rfl⟩) | exact ⟨_, rfl, N700, rfl, rfl⟩) (by decide) (by decide)
def own_fd1 (xk p0 p1 p2 : Int64) (r : Int32) : Prop := (r = (-1 : Int32) ∧ (¬ xk < p0 ∧ p0 < xk)) ∨ (r = (-1 : Int32) ∧ (xk < p0 ∧ ¬ p0 < xk)) ∨ (r = (0 : Int32) ∧ (¬ xk < p0 ∧ ¬ p0 < xk))
theorem d14_10 : decode prog_84_method_3_code 10 = .ok (.aload_n 0, 1) := by decide +kernel
theorem d14_11 : decode prog_84_method_3_code 11 = .ok (.getfield 23, 3) := by decide +kernel
theorem d14_14 : decode prog_84_method_3_code 14 = .ok (.iload_n 3, 1) := by decide +kernel
theorem d14_15 : decode prog_84_method_3_code 15 = .ok (.baload, 1) := by decide +kernel
theorem d14_16 : decode prog_84_method_3_code 16 = .ok (.ifCond .eq 7, 3) := by decide +kernel
theorem d14_19 : decode prog_84_method_3_code 19 = .ok (.iload_n 3, 1) := by decide +kernel
theorem d14_20 : decode prog_84_method_3_code 20 = .ok (.goto 4, 3) := by decide +kernel
set_option maxRecDepth 65536 in
set_option maxHeartbeats 40000000 in
theorem rmF_1 (l : Launch) (Z : State) (a0 : Array Value) (hw : ∀ d ∈ tables_1, d.before a0 Z = true) (tb : Addr) (xo : Addr) (ko : ClassId) (p0 : Int64) (p1 : Int64) (p2 : Int64) (xk : Int64) (xh : Addr) (kh : ClassId) (h0 : Heap) (n0 : Nat) (Z0 : n0 ≤ h0.size) (E_tb : Exa Z h0 tb "com/example/manana/manana/storage/WaitingTable") (FO : Fld Z h0 tb "com/example/manana/manana/storage/WaitingTable" "offsets" "[J" (.ref xo)) (FH : Fld Z h0 tb "com/example/manana/manana/storage/WaitingTable" "held" "[Z" (.ref xh)) (Ff : Fld Z h0 tb "com/example/manana/manana/storage/WaitingTable" "first" "I" (.int 0)) (Fe : Fld Z h0 tb "com/example/manana/manana/storage/WaitingTable" "end" "I" (.int 1)) (AO : Arv Z h0 xo ko .long 16 (own_LJ p0 p1 p2) (.long (0 : Int64))) (AH : Arv Z h0 xh kh .boolean 16 (own_LI (1 : Int32) (0 : Int32) (0 : Int32)) (.int (0 : Int32))) :
    Con l (⟨"com/example/manana/manana/storage/WaitingTable", "find", "(J)I"⟩ : MethodName) prog_84_method_3_code 4 (some .int) ({ frames := 3, cells := 0, slots := 0, locals := 51 } : Room) Z #[(.ref tb), (.long xk)] h0 (fun v h L => ∃ r : Int32, v = some (.int r) ∧ Fr n0 L ∧ h = h0 ∧ own_fd1 xk p0 p1 p2 r) := by
  refine Con.mk (plainFor_of_name pn_14) (fun m => show entryFrame m #[(.ref tb), (.long xk)] 4 = mkF m 0 #[.val (.ref tb), .val (.long xk), .second, .unset] [] by first | (simp [entryFrame, mkF, argsToLocals, Value.category]; done) | rfl) ?_
  intro p e s m below meth c s₁ hx hby hml hown hnm hret hlk hZ X0 e0
  have N0 := Fr.nil n0
  show Run p e below s _ _ _ (s₁.setTop (mkF m 0 #[.val (.ref tb), .val (.long xk), .second, .unset] []))
  refine Run.pre (fun _ k => XS.aloadN X0.here hx rfl (hb hby d14_0) rfl rfl k) ?_
  refine Run.pre (fun _ k => XS.lloadN X0.here hx rfl (hb hby d14_1) rfl  k) ?_
  refine Run.callP X0 hx hZ (y := (⟨"com/example/manana/manana/storage/WaitingTable", "slotOf", "(J)I"⟩ : MethodName)) hown (hwi hw 42 rfl) (hwi hw 43 rfl) (own_selP (y := (⟨"com/example/manana/manana/storage/WaitingTable", "slotOf", "(J)I"⟩ : MethodName)) (z := (⟨"com/example/manana/manana/storage/WaitingTable", "lowest", "(J)J"⟩ : MethodName)) (hwi hw 43 rfl) (hwi hw 44 rfl) (hwi hw 25 rfl) rfl (by decide)) (hwi hw 44 rfl) (hwi hw 45 rfl) (hwi hw 2 rfl) (by decide) (a := tb) E_tb (W := 0) (rmS_01 l Z a0 hw tb xo ko p0 p1 p2 xk h0 n0 (Nat.le_trans Z0 (Keep.refl h0 []).1) E_tb FO Ff Fe AO) e0 (by decide) (by decide) (by decide) (by decide) (g := (mkF m 2 #[.val (.ref tb), .val (.long xk), .second, .unset] [(.long xk), (.ref tb)])) rfl (by rw [hml]; rfl) (argsL := [(.long xk)]) (rest := []) (lenOf pd_2 rfl) rfl (by show 2 * 0 + _ ≤ _; exact Nat.le_of_eq rfl) (hb hby d14_2) ?_
  intro v701 T701 L701 X701 hQ701
  obtain ⟨r701, rfl, Nq701, he701, sp701⟩ := hQ701
  have N701 := Fr.app N0 Nq701
  have e701 : T701.heap = h0 := he701
  show Run p e below s _ _ _ (T701.setTop (mkF m 5 #[.val (.ref tb), .val (.long xk), .second, .unset] [(.int r701)]))
  rcases sp701 with ⟨rfl, s0⟩ | ⟨rfl, s0⟩ | ⟨rfl, s0⟩
  · skip
    refine Run.pre (fun _ k => XS.istoreN X701.here hx rfl (hb hby d14_5) rfl (l' := #[.val (.ref tb), .val (.long xk), .second, .val (.int (-2 : Int32))]) rfl k) ?_
    refine Run.pre (fun _ k => XS.iloadN X701.here hx rfl (hb hby d14_6) rfl  k) ?_
    refine Run.pre (fun _ k => XS.ifYes X701.here hx rfl (pc0 := 7) (pc' := 23) rfl (hb hby d14_7) rfl ((if0 _ _).trans (tlt ((by decide) : (-2 : Int32) < (0 : Int32))).1) (by decide) (by decide) k) ?_
    show Run p e below s _ _ _ (T701.setTop (mkF m 23 #[.val (.ref tb), .val (.long xk), .second, .val (.int (-2 : Int32))] []))
    refine Run.pre (fun _ k => XS.iconst X701.here hx rfl (hb hby d14_23) k) ?_
    exact Run.retI X701 hx hret hlk (hb hby d14_24) (by first | (rw [e701]; exact ⟨_, rfl, N701, rfl, Or.inl ⟨rfl, s0⟩⟩) | exact ⟨_, rfl, N701, rfl, Or.inl ⟨rfl, s0⟩⟩) (by decide) (by decide)
  · skip
    refine Run.pre (fun _ k => XS.istoreN X701.here hx rfl (hb hby d14_5) rfl (l' := #[.val (.ref tb), .val (.long xk), .second, .val (.int (-1 : Int32))]) rfl k) ?_
    refine Run.pre (fun _ k => XS.iloadN X701.here hx rfl (hb hby d14_6) rfl  k) ?_
    refine Run.pre (fun _ k => XS.ifYes X701.here hx rfl (pc0 := 7) (pc' := 23) rfl (hb hby d14_7) rfl ((if0 _ _).trans (tlt ((by decide) : (-1 : Int32) < (0 : Int32))).1) (by decide) (by decide) k) ?_
    show Run p e below s _ _ _ (T701.setTop (mkF m 23 #[.val (.ref tb), .val (.long xk), .second, .val (.int (-1 : Int32))] []))
    refine Run.pre (fun _ k => XS.iconst X701.here hx rfl (hb hby d14_23) k) ?_
    exact Run.retI X701 hx hret hlk (hb hby d14_24) (by first | (rw [e701]; exact ⟨_, rfl, N701, rfl, Or.inr (Or.inl ⟨rfl, s0⟩)⟩) | exact ⟨_, rfl, N701, rfl, Or.inr (Or.inl ⟨rfl, s0⟩)⟩) (by decide) (by decide)
  · skip
    refine Run.pre (fun _ k => XS.istoreN X701.here hx rfl (hb hby d14_5) rfl (l' := #[.val (.ref tb), .val (.long xk), .second, .val (.int (0 : Int32))]) rfl k) ?_
    refine Run.pre (fun _ k => XS.iloadN X701.here hx rfl (hb hby d14_6) rfl  k) ?_
    refine Run.pre (fun _ k => XS.ifNo X701.here hx rfl (hb hby d14_7) rfl ((if0 _ _).trans (flt ((by decide) : ¬ ((0 : Int32) < (0 : Int32)))).1) k) ?_
    show Run p e below s _ _ _ (T701.setTop (mkF m 10 #[.val (.ref tb), .val (.long xk), .second, .val (.int (0 : Int32))] []))
    refine Run.pre (fun _ k => XS.aloadN X701.here hx rfl (hb hby d14_10) rfl rfl k) ?_
    obtain ⟨T702, X702, e702, st702⟩ := getF X701 hx hZ hown (host := "") (Or.inl (hwi hw 20 rfl)) Via.refl e701 FH (g := (mkF m 11 #[.val (.ref tb), .val (.long xk), .second, .val (.int (0 : Int32))] [(.ref tb)])) rfl rfl (hb hby d14_11)
    refine Run.pre st702 ?_
    refine Run.pre (fun _ k => XS.iloadN X702.here hx rfl (hb hby d14_14) rfl  k) ?_
    obtain ⟨c703, Ar703, -, S703, N703, H703, -⟩ := id AH
    have hin703 : ¬ ((0 : Int32) < 0 ∨ c703.slots.size ≤ ((0 : Int32)).toNatClampNeg) := inb_of S703 ⟨by decide, by decide⟩
    refine Run.pre (X702.baloadBooleans hx (j := (0 : Int32)) (v := (.int (1 : Int32))) (by rw [e702]; exact Ar703.1) (State.isArrayOf_alike hZ.alike Ar703.2.1) Ar703.2.2 hin703 (H703.at hin703 rfl) (g := (mkF m 15 #[.val (.ref tb), .val (.long xk), .second, .val (.int (0 : Int32))] [(.int (0 : Int32)), (.ref xh)])) rfl rfl (hb hby d14_15)) ?_
    refine Run.pre (fun _ k => XS.ifNo X702.here hx rfl (hb hby d14_16) rfl ((if0 _ _).trans (feq ((by decide) : ¬ ((1 : Int32) = (0 : Int32)))).1) k) ?_
    refine Run.pre (fun _ k => XS.iloadN X702.here hx rfl (hb hby d14_19) rfl  k) ?_
    show Run p e below s _ _ _ (T702.setTop (mkF m 20 #[.val (.ref tb), .val (.long xk), .second, .val (.int (0 : Int32))] [(.int (0 : Int32))]))
    refine Run.pre (fun _ k => XS.goto X702.here hx rfl (pc0 := 20) (pc' := 24) rfl (hb hby d14_20) (by decide) (by decide) k) ?_
    exact Run.retI X702 hx hret hlk (hb hby d14_24) (by first | (rw [e702]; exact ⟨_, rfl, N701, rfl, Or.inr (Or.inr (⟨rfl, s0⟩))⟩) | exact ⟨_, rfl, N701, rfl, Or.inr (Or.inr (⟨rfl, s0⟩))⟩) (by decide) (by decide)
def own_fd2 (xk p0 p1 p2 : Int64) (r : Int32) : Prop := (r = (-1 : Int32) ∧ (¬ xk < p0 ∧ p0 < xk) ∧ (¬ xk < p1 ∧ p1 < xk)) ∨ (r = (-1 : Int32) ∧ (¬ xk < p0 ∧ p0 < xk) ∧ (xk < p1 ∧ ¬ p1 < xk)) ∨ (r = (1 : Int32) ∧ (¬ xk < p0 ∧ p0 < xk) ∧ (¬ xk < p1 ∧ ¬ p1 < xk)) ∨ (r = (-1 : Int32) ∧ (xk < p0 ∧ ¬ p0 < xk)) ∨ (r = (0 : Int32) ∧ (¬ xk < p0 ∧ ¬ p0 < xk))
set_option maxRecDepth 65536 in
set_option maxHeartbeats 40000000 in
theorem rmF_2 (l : Launch) (Z : State) (a0 : Array Value) (hw : ∀ d ∈ tables_1, d.before a0 Z = true) (tb : Addr) (xo : Addr) (ko : ClassId) (p0 : Int64) (p1 : Int64) (p2 : Int64) (xk : Int64) (xh : Addr) (kh : ClassId) (h0 : Heap) (n0 : Nat) (Z0 : n0 ≤ h0.size) (E_tb : Exa Z h0 tb "com/example/manana/manana/storage/WaitingTable") (FO : Fld Z h0 tb "com/example/manana/manana/storage/WaitingTable" "offsets" "[J" (.ref xo)) (FH : Fld Z h0 tb "com/example/manana/manana/storage/WaitingTable" "held" "[Z" (.ref xh)) (Ff : Fld Z h0 tb "com/example/manana/manana/storage/WaitingTable" "first" "I" (.int 0)) (Fe : Fld Z h0 tb "com/example/manana/manana/storage/WaitingTable" "end" "I" (.int 2)) (AO : Arv Z h0 xo ko .long 16 (own_LJ p0 p1 p2) (.long (0 : Int64))) (AH : Arv Z h0 xh kh .boolean 16 (own_LI (1 : Int32) (1 : Int32) (0 : Int32)) (.int (0 : Int32))) :
    Con l (⟨"com/example/manana/manana/storage/WaitingTable", "find", "(J)I"⟩ : MethodName) prog_84_method_3_code 4 (some .int) ({ frames := 3, cells := 0, slots := 0, locals := 51 } : Room) Z #[(.ref tb), (.long xk)] h0 (fun v h L => ∃ r : Int32, v = some (.int r) ∧ Fr n0 L ∧ h = h0 ∧ own_fd2 xk p0 p1 p2 r) := by
  refine Con.mk (plainFor_of_name pn_14) (fun m => show entryFrame m #[(.ref tb), (.long xk)] 4 = mkF m 0 #[.val (.ref tb), .val (.long xk), .second, .unset] [] by first | (simp [entryFrame, mkF, argsToLocals, Value.category]; done) | rfl) ?_
  intro p e s m below meth c s₁ hx hby hml hown hnm hret hlk hZ X0 e0
  have N0 := Fr.nil n0
  show Run p e below s _ _ _ (s₁.setTop (mkF m 0 #[.val (.ref tb), .val (.long xk), .second, .unset] []))
  refine Run.pre (fun _ k => XS.aloadN X0.here hx rfl (hb hby d14_0) rfl rfl k) ?_
  refine Run.pre (fun _ k => XS.lloadN X0.here hx rfl (hb hby d14_1) rfl  k) ?_
  refine Run.callP X0 hx hZ (y := (⟨"com/example/manana/manana/storage/WaitingTable", "slotOf", "(J)I"⟩ : MethodName)) hown (hwi hw 42 rfl) (hwi hw 43 rfl) (own_selP (y := (⟨"com/example/manana/manana/storage/WaitingTable", "slotOf", "(J)I"⟩ : MethodName)) (z := (⟨"com/example/manana/manana/storage/WaitingTable", "lowest", "(J)J"⟩ : MethodName)) (hwi hw 43 rfl) (hwi hw 44 rfl) (hwi hw 25 rfl) rfl (by decide)) (hwi hw 44 rfl) (hwi hw 45 rfl) (hwi hw 2 rfl) (by decide) (a := tb) E_tb (W := 0) (rmS_02 l Z a0 hw tb xo ko p0 p1 p2 xk h0 n0 (Nat.le_trans Z0 (Keep.refl h0 []).1) E_tb FO Ff Fe AO) e0 (by decide) (by decide) (by decide) (by decide) (g := (mkF m 2 #[.val (.ref tb), .val (.long xk), .second, .unset] [(.long xk), (.ref tb)])) rfl (by rw [hml]; rfl) (argsL := [(.long xk)]) (rest := []) (lenOf pd_2 rfl) rfl (by show 2 * 0 + _ ≤ _; exact Nat.le_of_eq rfl) (hb hby d14_2) ?_
  intro v704 T704 L704 X704 hQ704
  obtain ⟨r704, rfl, Nq704, he704, sp704⟩ := hQ704
  have N704 := Fr.app N0 Nq704
  have e704 : T704.heap = h0 := he704
  show Run p e below s _ _ _ (T704.setTop (mkF m 5 #[.val (.ref tb), .val (.long xk), .second, .unset] [(.int r704)]))
  rcases sp704 with ⟨rfl, s0, s1⟩ | ⟨rfl, s0, s1⟩ | ⟨rfl, s0, s1⟩ | ⟨rfl, s0⟩ | ⟨rfl, s0⟩
  · skip
    refine Run.pre (fun _ k => XS.istoreN X704.here hx rfl (hb hby d14_5) rfl (l' := #[.val (.ref tb), .val (.long xk), .second, .val (.int (-3 : Int32))]) rfl k) ?_
    refine Run.pre (fun _ k => XS.iloadN X704.here hx rfl (hb hby d14_6) rfl  k) ?_
    refine Run.pre (fun _ k => XS.ifYes X704.here hx rfl (pc0 := 7) (pc' := 23) rfl (hb hby d14_7) rfl ((if0 _ _).trans (tlt ((by decide) : (-3 : Int32) < (0 : Int32))).1) (by decide) (by decide) k) ?_
    show Run p e below s _ _ _ (T704.setTop (mkF m 23 #[.val (.ref tb), .val (.long xk), .second, .val (.int (-3 : Int32))] []))
    refine Run.pre (fun _ k => XS.iconst X704.here hx rfl (hb hby d14_23) k) ?_
    exact Run.retI X704 hx hret hlk (hb hby d14_24) (by first | (rw [e704]; exact ⟨_, rfl, N704, rfl, Or.inl ⟨rfl, s0, s1⟩⟩) | exact ⟨_, rfl, N704, rfl, Or.inl ⟨rfl, s0, s1⟩⟩) (by decide) (by decide)
  · skip
    refine Run.pre (fun _ k => XS.istoreN X704.here hx rfl (hb hby d14_5) rfl (l' := #[.val (.ref tb), .val (.long xk), .second, .val (.int (-2 : Int32))]) rfl k) ?_
    refine Run.pre (fun _ k => XS.iloadN X704.here hx rfl (hb hby d14_6) rfl  k) ?_
    refine Run.pre (fun _ k => XS.ifYes X704.here hx rfl (pc0 := 7) (pc' := 23) rfl (hb hby d14_7) rfl ((if0 _ _).trans (tlt ((by decide) : (-2 : Int32) < (0 : Int32))).1) (by decide) (by decide) k) ?_
    show Run p e below s _ _ _ (T704.setTop (mkF m 23 #[.val (.ref tb), .val (.long xk), .second, .val (.int (-2 : Int32))] []))
    refine Run.pre (fun _ k => XS.iconst X704.here hx rfl (hb hby d14_23) k) ?_
    exact Run.retI X704 hx hret hlk (hb hby d14_24) (by first | (rw [e704]; exact ⟨_, rfl, N704, rfl, Or.inr (Or.inl ⟨rfl, s0, s1⟩)⟩) | exact ⟨_, rfl, N704, rfl, Or.inr (Or.inl ⟨rfl, s0, s1⟩)⟩) (by decide) (by decide)
  · skip
    refine Run.pre (fun _ k => XS.istoreN X704.here hx rfl (hb hby d14_5) rfl (l' := #[.val (.ref tb), .val (.long xk), .second, .val (.int (1 : Int32))]) rfl k) ?_
    refine Run.pre (fun _ k => XS.iloadN X704.here hx rfl (hb hby d14_6) rfl  k) ?_
    refine Run.pre (fun _ k => XS.ifNo X704.here hx rfl (hb hby d14_7) rfl ((if0 _ _).trans (flt ((by decide) : ¬ ((1 : Int32) < (0 : Int32)))).1) k) ?_
    show Run p e below s _ _ _ (T704.setTop (mkF m 10 #[.val (.ref tb), .val (.long xk), .second, .val (.int (1 : Int32))] []))
    refine Run.pre (fun _ k => XS.aloadN X704.here hx rfl (hb hby d14_10) rfl rfl k) ?_
    obtain ⟨T705, X705, e705, st705⟩ := getF X704 hx hZ hown (host := "") (Or.inl (hwi hw 20 rfl)) Via.refl e704 FH (g := (mkF m 11 #[.val (.ref tb), .val (.long xk), .second, .val (.int (1 : Int32))] [(.ref tb)])) rfl rfl (hb hby d14_11)
    refine Run.pre st705 ?_
    refine Run.pre (fun _ k => XS.iloadN X705.here hx rfl (hb hby d14_14) rfl  k) ?_
    obtain ⟨c706, Ar706, -, S706, N706, H706, -⟩ := id AH
    have hin706 : ¬ ((1 : Int32) < 0 ∨ c706.slots.size ≤ ((1 : Int32)).toNatClampNeg) := inb_of S706 ⟨by decide, by decide⟩
    refine Run.pre (X705.baloadBooleans hx (j := (1 : Int32)) (v := (.int (1 : Int32))) (by rw [e705]; exact Ar706.1) (State.isArrayOf_alike hZ.alike Ar706.2.1) Ar706.2.2 hin706 (H706.at hin706 rfl) (g := (mkF m 15 #[.val (.ref tb), .val (.long xk), .second, .val (.int (1 : Int32))] [(.int (1 : Int32)), (.ref xh)])) rfl rfl (hb hby d14_15)) ?_
    refine Run.pre (fun _ k => XS.ifNo X705.here hx rfl (hb hby d14_16) rfl ((if0 _ _).trans (feq ((by decide) : ¬ ((1 : Int32) = (0 : Int32)))).1) k) ?_
    refine Run.pre (fun _ k => XS.iloadN X705.here hx rfl (hb hby d14_19) rfl  k) ?_
    show Run p e below s _ _ _ (T705.setTop (mkF m 20 #[.val (.ref tb), .val (.long xk), .second, .val (.int (1 : Int32))] [(.int (1 : Int32))]))
    refine Run.pre (fun _ k => XS.goto X705.here hx rfl (pc0 := 20) (pc' := 24) rfl (hb hby d14_20) (by decide) (by decide) k) ?_
    exact Run.retI X705 hx hret hlk (hb hby d14_24) (by first | (rw [e705]; exact ⟨_, rfl, N704, rfl, Or.inr (Or.inr (Or.inl ⟨rfl, s0, s1⟩))⟩) | exact ⟨_, rfl, N704, rfl, Or.inr (Or.inr (Or.inl ⟨rfl, s0, s1⟩))⟩) (by decide) (by decide)
  · skip
    refine Run.pre (fun _ k => XS.istoreN X704.here hx rfl (hb hby d14_5) rfl (l' := #[.val (.ref tb), .val (.long xk), .second, .val (.int (-1 : Int32))]) rfl k) ?_
    refine Run.pre (fun _ k => XS.iloadN X704.here hx rfl (hb hby d14_6) rfl  k) ?_
    refine Run.pre (fun _ k => XS.ifYes X704.here hx rfl (pc0 := 7) (pc' := 23) rfl (hb hby d14_7) rfl ((if0 _ _).trans (tlt ((by decide) : (-1 : Int32) < (0 : Int32))).1) (by decide) (by decide) k) ?_
    show Run p e below s _ _ _ (T704.setTop (mkF m 23 #[.val (.ref tb), .val (.long xk), .second, .val (.int (-1 : Int32))] []))
    refine Run.pre (fun _ k => XS.iconst X704.here hx rfl (hb hby d14_23) k) ?_
    exact Run.retI X704 hx hret hlk (hb hby d14_24) (by first | (rw [e704]; exact ⟨_, rfl, N704, rfl, Or.inr (Or.inr (Or.inr (Or.inl ⟨rfl, s0⟩)))⟩) | exact ⟨_, rfl, N704, rfl, Or.inr (Or.inr (Or.inr (Or.inl ⟨rfl, s0⟩)))⟩) (by decide) (by decide)
  · skip
    refine Run.pre (fun _ k => XS.istoreN X704.here hx rfl (hb hby d14_5) rfl (l' := #[.val (.ref tb), .val (.long xk), .second, .val (.int (0 : Int32))]) rfl k) ?_
    refine Run.pre (fun _ k => XS.iloadN X704.here hx rfl (hb hby d14_6) rfl  k) ?_
    refine Run.pre (fun _ k => XS.ifNo X704.here hx rfl (hb hby d14_7) rfl ((if0 _ _).trans (flt ((by decide) : ¬ ((0 : Int32) < (0 : Int32)))).1) k) ?_
    show Run p e below s _ _ _ (T704.setTop (mkF m 10 #[.val (.ref tb), .val (.long xk), .second, .val (.int (0 : Int32))] []))
    refine Run.pre (fun _ k => XS.aloadN X704.here hx rfl (hb hby d14_10) rfl rfl k) ?_
    obtain ⟨T707, X707, e707, st707⟩ := getF X704 hx hZ hown (host := "") (Or.inl (hwi hw 20 rfl)) Via.refl e704 FH (g := (mkF m 11 #[.val (.ref tb), .val (.long xk), .second, .val (.int (0 : Int32))] [(.ref tb)])) rfl rfl (hb hby d14_11)
    refine Run.pre st707 ?_
    refine Run.pre (fun _ k => XS.iloadN X707.here hx rfl (hb hby d14_14) rfl  k) ?_
    obtain ⟨c708, Ar708, -, S708, N708, H708, -⟩ := id AH
    have hin708 : ¬ ((0 : Int32) < 0 ∨ c708.slots.size ≤ ((0 : Int32)).toNatClampNeg) := inb_of S708 ⟨by decide, by decide⟩
    refine Run.pre (X707.baloadBooleans hx (j := (0 : Int32)) (v := (.int (1 : Int32))) (by rw [e707]; exact Ar708.1) (State.isArrayOf_alike hZ.alike Ar708.2.1) Ar708.2.2 hin708 (H708.at hin708 rfl) (g := (mkF m 15 #[.val (.ref tb), .val (.long xk), .second, .val (.int (0 : Int32))] [(.int (0 : Int32)), (.ref xh)])) rfl rfl (hb hby d14_15)) ?_
    refine Run.pre (fun _ k => XS.ifNo X707.here hx rfl (hb hby d14_16) rfl ((if0 _ _).trans (feq ((by decide) : ¬ ((1 : Int32) = (0 : Int32)))).1) k) ?_
    refine Run.pre (fun _ k => XS.iloadN X707.here hx rfl (hb hby d14_19) rfl  k) ?_
    show Run p e below s _ _ _ (T707.setTop (mkF m 20 #[.val (.ref tb), .val (.long xk), .second, .val (.int (0 : Int32))] [(.int (0 : Int32))]))
    refine Run.pre (fun _ k => XS.goto X707.here hx rfl (pc0 := 20) (pc' := 24) rfl (hb hby d14_20) (by decide) (by decide) k) ?_
    exact Run.retI X707 hx hret hlk (hb hby d14_24) (by first | (rw [e707]; exact ⟨_, rfl, N704, rfl, Or.inr (Or.inr (Or.inr (Or.inr (⟨rfl, s0⟩))))⟩) | exact ⟨_, rfl, N704, rfl, Or.inr (Or.inr (Or.inr (Or.inr (⟨rfl, s0⟩))))⟩) (by decide) (by decide)
def own_bs03 (xk p0 p1 p2 : Int64) (r : Int32) : Prop := (r = (-4 : Int32) ∧ (¬ xk < p1 ∧ p1 < xk) ∧ (¬ xk < p2 ∧ p2 < xk)) ∨ (r = (-3 : Int32) ∧ (¬ xk < p1 ∧ p1 < xk) ∧ (xk < p2 ∧ ¬ p2 < xk)) ∨ (r = (2 : Int32) ∧ (¬ xk < p1 ∧ p1 < xk) ∧ (¬ xk < p2 ∧ ¬ p2 < xk)) ∨ (r = (-2 : Int32) ∧ (¬ xk < p0 ∧ p0 < xk) ∧ (xk < p1 ∧ ¬ p1 < xk)) ∨ (r = (-1 : Int32) ∧ (xk < p0 ∧ ¬ p0 < xk) ∧ (xk < p1 ∧ ¬ p1 < xk)) ∨ (r = (0 : Int32) ∧ (¬ xk < p0 ∧ ¬ p0 < xk) ∧ (xk < p1 ∧ ¬ p1 < xk)) ∨ (r = (1 : Int32) ∧ (¬ xk < p1 ∧ ¬ p1 < xk))
set_option maxRecDepth 65536 in
set_option maxHeartbeats 40000000 in
theorem rmRC_03 (l : Launch) (Z : State) (a0 : Array Value) (hw : ∀ d ∈ tables_1, d.before a0 Z = true)  (h0 : Heap) (n0 : Nat) (Z0 : n0 ≤ h0.size) :
    Con l (⟨"java/util/Arrays", "rangeCheck", "(III)V"⟩ : MethodName) jdk_65_method_30_code 3 none ({ frames := 0, cells := 0, slots := 0, locals := 0 } : Room) Z #[(.int (16 : Int32)), (.int (0 : Int32)), (.int (3 : Int32))] h0 (fun v h L => v = none ∧ Fr n0 L ∧ h = h0) := by
  refine Con.mk (plainFor_of_name pn_8) (fun m => show entryFrame m #[(.int (16 : Int32)), (.int (0 : Int32)), (.int (3 : Int32))] 3 = mkF m 0 #[.val (.int (16 : Int32)), .val (.int (0 : Int32)), .val (.int (3 : Int32))] [] by first | (simp [entryFrame, mkF, argsToLocals, Value.category]; done) | rfl) ?_
  intro p e s m below meth c s₁ hx hby hml hown hnm hret hlk hZ X0 e0
  have N0 := Fr.nil n0
  show Run p e below s _ _ _ (s₁.setTop (mkF m 0 #[.val (.int (16 : Int32)), .val (.int (0 : Int32)), .val (.int (3 : Int32))] []))
  refine Run.pre (fun _ k => XS.iloadN X0.here hx rfl (hb hby d8_0) rfl  k) ?_
  refine Run.pre (fun _ k => XS.iloadN X0.here hx rfl (hb hby d8_1) rfl  k) ?_
  refine Run.pre (fun _ k => XS.icmpYes X0.here hx rfl (pc0 := 2) (pc' := 46) rfl (hb hby d8_2) rfl (flt ((by decide) : ¬ ((3 : Int32) < (0 : Int32)))).2.2.2 (by decide) (by decide) k) ?_
  refine Run.pre (fun _ k => XS.iloadN X0.here hx rfl (hb hby d8_46) rfl  k) ?_
  refine Run.pre (fun _ k => XS.ifYes X0.here hx rfl (pc0 := 47) (pc' := 59) rfl (hb hby d8_47) rfl ((if0 _ _).trans (flt ((by decide) : ¬ ((0 : Int32) < (0 : Int32)))).2.1) (by decide) (by decide) k) ?_
  refine Run.pre (fun _ k => XS.iloadN X0.here hx rfl (hb hby d8_59) rfl  k) ?_
  show Run p e below s _ _ _ (s₁.setTop (mkF m 60 #[.val (.int (16 : Int32)), .val (.int (0 : Int32)), .val (.int (3 : Int32))] [(.int (3 : Int32))]))
  refine Run.pre (fun _ k => XS.iloadN X0.here hx rfl (hb hby d8_60) rfl  k) ?_
  refine Run.pre (fun _ k => XS.icmpYes X0.here hx rfl (pc0 := 61) (pc' := 73) rfl (hb hby d8_61) rfl (flt ((by decide) : ¬ ((16 : Int32) < (3 : Int32)))).2.2.2 (by decide) (by decide) k) ?_
  exact Run.retV X0 hx hret hlk (hb hby d8_73) (by first | (rw [e0]; exact ⟨rfl, N0, rfl⟩) | exact ⟨rfl, N0, rfl⟩) (by decide) (by decide)
set_option maxRecDepth 65536 in
set_option maxHeartbeats 40000000 in
theorem rmB0_03 (l : Launch) (Z : State) (a0 : Array Value) (hw : ∀ d ∈ tables_1, d.before a0 Z = true) (xo : Addr) (ko : ClassId) (p0 : Int64) (p1 : Int64) (p2 : Int64) (xk : Int64) (h0 : Heap) (n0 : Nat) (Z0 : n0 ≤ h0.size) (AO : Arv Z h0 xo ko .long 16 (own_LJ p0 p1 p2) (.long (0 : Int64))) :
    Con l (⟨"java/util/Arrays", "binarySearch0", "([JIIJ)I"⟩ : MethodName) jdk_65_method_56_code 10 (some .int) ({ frames := 0, cells := 0, slots := 0, locals := 0 } : Room) Z #[(.ref xo), (.int (0 : Int32)), (.int (3 : Int32)), (.long xk)] h0 (fun v h L => ∃ r : Int32, v = some (.int r) ∧ Fr n0 L ∧ h = h0 ∧ own_bs03 xk p0 p1 p2 r) := by
  refine Con.mk (plainFor_of_name pn_9) (fun m => show entryFrame m #[(.ref xo), (.int (0 : Int32)), (.int (3 : Int32)), (.long xk)] 10 = mkF m 0 #[.val (.ref xo), .val (.int (0 : Int32)), .val (.int (3 : Int32)), .val (.long xk), .second, .unset, .unset, .unset, .unset, .unset] [] by first | (simp [entryFrame, mkF, argsToLocals, Value.category]; done) | rfl) ?_
  intro p e s m below meth c s₁ hx hby hml hown hnm hret hlk hZ X0 e0
  have N0 := Fr.nil n0
  show Run p e below s _ _ _ (s₁.setTop (mkF m 0 #[.val (.ref xo), .val (.int (0 : Int32)), .val (.int (3 : Int32)), .val (.long xk), .second, .unset, .unset, .unset, .unset, .unset] []))
  refine Run.pre (fun _ k => XS.iloadN X0.here hx rfl (hb hby d9_0) rfl  k) ?_
  refine Run.pre (fun _ k => XS.istore X0.here hx rfl (hb hby d9_1) rfl (l' := #[.val (.ref xo), .val (.int (0 : Int32)), .val (.int (3 : Int32)), .val (.long xk), .second, .val (.int (0 : Int32)), .unset, .unset, .unset, .unset]) rfl k) ?_
  refine Run.pre (fun _ k => XS.iloadN X0.here hx rfl (hb hby d9_3) rfl  k) ?_
  refine Run.pre (fun _ k => XS.iconst X0.here hx rfl (hb hby d9_4) k) ?_
  refine Run.pre (fun _ k => XS.isub X0.here hx rfl (hb hby d9_5) rfl k) ?_
  refine Run.pre (fun _ k => XS.istore X0.here hx rfl (hb hby d9_6) rfl (l' := #[.val (.ref xo), .val (.int (0 : Int32)), .val (.int (3 : Int32)), .val (.long xk), .second, .val (.int (0 : Int32)), .val (.int (2 : Int32)), .unset, .unset, .unset]) rfl k) ?_
  show Run p e below s _ _ _ (s₁.setTop (mkF m 8 #[.val (.ref xo), .val (.int (0 : Int32)), .val (.int (3 : Int32)), .val (.long xk), .second, .val (.int (0 : Int32)), .val (.int (2 : Int32)), .unset, .unset, .unset] []))
  refine Run.pre (fun _ k => XS.iload X0.here hx rfl (hb hby d9_8) rfl  k) ?_
  refine Run.pre (fun _ k => XS.iload X0.here hx rfl (hb hby d9_10) rfl  k) ?_
  refine Run.pre (fun _ k => XS.icmpNo X0.here hx rfl (hb hby d9_12) rfl (flt ((by decide) : ¬ ((2 : Int32) < (0 : Int32)))).2.2.1 k) ?_
  refine Run.pre (fun _ k => XS.iload X0.here hx rfl (hb hby d9_15) rfl  k) ?_
  refine Run.pre (fun _ k => XS.iload X0.here hx rfl (hb hby d9_17) rfl  k) ?_
  refine Run.pre (fun _ k => XS.iadd X0.here hx rfl (hb hby d9_19) rfl k) ?_
  show Run p e below s _ _ _ (s₁.setTop (mkF m 20 #[.val (.ref xo), .val (.int (0 : Int32)), .val (.int (3 : Int32)), .val (.long xk), .second, .val (.int (0 : Int32)), .val (.int (2 : Int32)), .unset, .unset, .unset] [(.int (2 : Int32))]))
  refine Run.pre (fun _ k => XS.iconst X0.here hx rfl (hb hby d9_20) k) ?_
  refine Run.pre (fun _ k => XS.iushr X0.here hx rfl (hb hby d9_21) rfl k) ?_
  refine Run.pre (fun _ k => XS.istore X0.here hx rfl (hb hby d9_22) rfl (l' := #[.val (.ref xo), .val (.int (0 : Int32)), .val (.int (3 : Int32)), .val (.long xk), .second, .val (.int (0 : Int32)), .val (.int (2 : Int32)), .val (.int (1 : Int32)), .unset, .unset]) rfl k) ?_
  refine Run.pre (fun _ k => XS.aloadN X0.here hx rfl (hb hby d9_24) rfl rfl k) ?_
  refine Run.pre (fun _ k => XS.iload X0.here hx rfl (hb hby d9_25) rfl  k) ?_
  obtain ⟨c709, Ar709, -, S709, N709, H709, -⟩ := id AO
  have hin709 : ¬ ((1 : Int32) < 0 ∨ c709.slots.size ≤ ((1 : Int32)).toNatClampNeg) := inb_of S709 ⟨by decide, by decide⟩
  refine Run.pre (X0.laload hx (j := (1 : Int32)) (v := (.long p1)) (by rw [e0]; exact Ar709.1) (State.isArrayOf_alike hZ.alike Ar709.2.1) Ar709.2.2 hin709 (H709.at hin709 rfl) (g := (mkF m 27 #[.val (.ref xo), .val (.int (0 : Int32)), .val (.int (3 : Int32)), .val (.long xk), .second, .val (.int (0 : Int32)), .val (.int (2 : Int32)), .val (.int (1 : Int32)), .unset, .unset] [(.int (1 : Int32)), (.ref xo)])) rfl rfl (hb hby d9_27)) ?_
  show Run p e below s _ _ _ (s₁.setTop (mkF m 28 #[.val (.ref xo), .val (.int (0 : Int32)), .val (.int (3 : Int32)), .val (.long xk), .second, .val (.int (0 : Int32)), .val (.int (2 : Int32)), .val (.int (1 : Int32)), .unset, .unset] [(.long p1)]))
  refine Run.pre (fun _ k => XS.lstore X0.here hx rfl (hb hby d9_28) rfl (l' := #[.val (.ref xo), .val (.int (0 : Int32)), .val (.int (3 : Int32)), .val (.long xk), .second, .val (.int (0 : Int32)), .val (.int (2 : Int32)), .val (.int (1 : Int32)), .val (.long p1), .second]) rfl k) ?_
  refine Run.pre (fun _ k => XS.lload X0.here hx rfl (hb hby d9_30) rfl  k) ?_
  refine Run.pre (fun _ k => XS.lloadN X0.here hx rfl (hb hby d9_32) rfl  k) ?_
  refine Run.pre (fun _ k => XS.lcmp X0.here hx rfl (hb hby d9_33) rfl k) ?_
  by_cases hc710 : (lcmpW p1 xk) < (0 : Int32)
  · skip
    refine Run.pre (fun _ k => XS.ifNo X0.here hx rfl (hb hby d9_34) rfl ((if0 _ _).trans (tlt (hc710 : (lcmpW p1 xk) < (0 : Int32))).2.1) k) ?_
    refine Run.pre (fun _ k => XS.iload X0.here hx rfl (hb hby d9_37) rfl  k) ?_
    show Run p e below s _ _ _ (s₁.setTop (mkF m 39 #[.val (.ref xo), .val (.int (0 : Int32)), .val (.int (3 : Int32)), .val (.long xk), .second, .val (.int (0 : Int32)), .val (.int (2 : Int32)), .val (.int (1 : Int32)), .val (.long p1), .second] [(.int (1 : Int32))]))
    refine Run.pre (fun _ k => XS.iconst X0.here hx rfl (hb hby d9_39) k) ?_
    refine Run.pre (fun _ k => XS.iadd X0.here hx rfl (hb hby d9_40) rfl k) ?_
    refine Run.pre (fun _ k => XS.istore X0.here hx rfl (hb hby d9_41) rfl (l' := #[.val (.ref xo), .val (.int (0 : Int32)), .val (.int (3 : Int32)), .val (.long xk), .second, .val (.int (2 : Int32)), .val (.int (2 : Int32)), .val (.int (1 : Int32)), .val (.long p1), .second]) rfl k) ?_
    refine Run.pre (fun _ k => XS.goto X0.here hx rfl (pc0 := 43) (pc' := 65) rfl (hb hby d9_43) (by decide) (by decide) k) ?_
    refine Run.pre (fun _ k => XS.goto X0.here hx rfl (pc0 := 65) (pc' := 8) rfl (hb hby d9_65) (by decide) (by decide) k) ?_
    refine Run.pre (fun _ k => XS.iload X0.here hx rfl (hb hby d9_8) rfl  k) ?_
    show Run p e below s _ _ _ (s₁.setTop (mkF m 10 #[.val (.ref xo), .val (.int (0 : Int32)), .val (.int (3 : Int32)), .val (.long xk), .second, .val (.int (2 : Int32)), .val (.int (2 : Int32)), .val (.int (1 : Int32)), .val (.long p1), .second] [(.int (2 : Int32))]))
    refine Run.pre (fun _ k => XS.iload X0.here hx rfl (hb hby d9_10) rfl  k) ?_
    refine Run.pre (fun _ k => XS.icmpNo X0.here hx rfl (hb hby d9_12) rfl (flt ((by decide) : ¬ ((2 : Int32) < (2 : Int32)))).2.2.1 k) ?_
    refine Run.pre (fun _ k => XS.iload X0.here hx rfl (hb hby d9_15) rfl  k) ?_
    refine Run.pre (fun _ k => XS.iload X0.here hx rfl (hb hby d9_17) rfl  k) ?_
    refine Run.pre (fun _ k => XS.iadd X0.here hx rfl (hb hby d9_19) rfl k) ?_
    refine Run.pre (fun _ k => XS.iconst X0.here hx rfl (hb hby d9_20) k) ?_
    show Run p e below s _ _ _ (s₁.setTop (mkF m 21 #[.val (.ref xo), .val (.int (0 : Int32)), .val (.int (3 : Int32)), .val (.long xk), .second, .val (.int (2 : Int32)), .val (.int (2 : Int32)), .val (.int (1 : Int32)), .val (.long p1), .second] [(.int (1 : Int32)), (.int (4 : Int32))]))
    refine Run.pre (fun _ k => XS.iushr X0.here hx rfl (hb hby d9_21) rfl k) ?_
    refine Run.pre (fun _ k => XS.istore X0.here hx rfl (hb hby d9_22) rfl (l' := #[.val (.ref xo), .val (.int (0 : Int32)), .val (.int (3 : Int32)), .val (.long xk), .second, .val (.int (2 : Int32)), .val (.int (2 : Int32)), .val (.int (2 : Int32)), .val (.long p1), .second]) rfl k) ?_
    refine Run.pre (fun _ k => XS.aloadN X0.here hx rfl (hb hby d9_24) rfl rfl k) ?_
    refine Run.pre (fun _ k => XS.iload X0.here hx rfl (hb hby d9_25) rfl  k) ?_
    obtain ⟨c711, Ar711, -, S711, N711, H711, -⟩ := id AO
    have hin711 : ¬ ((2 : Int32) < 0 ∨ c711.slots.size ≤ ((2 : Int32)).toNatClampNeg) := inb_of S711 ⟨by decide, by decide⟩
    refine Run.pre (X0.laload hx (j := (2 : Int32)) (v := (.long p2)) (by rw [e0]; exact Ar711.1) (State.isArrayOf_alike hZ.alike Ar711.2.1) Ar711.2.2 hin711 (H711.at hin711 rfl) (g := (mkF m 27 #[.val (.ref xo), .val (.int (0 : Int32)), .val (.int (3 : Int32)), .val (.long xk), .second, .val (.int (2 : Int32)), .val (.int (2 : Int32)), .val (.int (2 : Int32)), .val (.long p1), .second] [(.int (2 : Int32)), (.ref xo)])) rfl rfl (hb hby d9_27)) ?_
    refine Run.pre (fun _ k => XS.lstore X0.here hx rfl (hb hby d9_28) rfl (l' := #[.val (.ref xo), .val (.int (0 : Int32)), .val (.int (3 : Int32)), .val (.long xk), .second, .val (.int (2 : Int32)), .val (.int (2 : Int32)), .val (.int (2 : Int32)), .val (.long p2), .second]) rfl k) ?_
    show Run p e below s _ _ _ (s₁.setTop (mkF m 30 #[.val (.ref xo), .val (.int (0 : Int32)), .val (.int (3 : Int32)), .val (.long xk), .second, .val (.int (2 : Int32)), .val (.int (2 : Int32)), .val (.int (2 : Int32)), .val (.long p2), .second] []))
    refine Run.pre (fun _ k => XS.lload X0.here hx rfl (hb hby d9_30) rfl  k) ?_
    refine Run.pre (fun _ k => XS.lloadN X0.here hx rfl (hb hby d9_32) rfl  k) ?_
    refine Run.pre (fun _ k => XS.lcmp X0.here hx rfl (hb hby d9_33) rfl k) ?_
    by_cases hc712 : (lcmpW p2 xk) < (0 : Int32)
    · skip
      refine Run.pre (fun _ k => XS.ifNo X0.here hx rfl (hb hby d9_34) rfl ((if0 _ _).trans (tlt (hc712 : (lcmpW p2 xk) < (0 : Int32))).2.1) k) ?_
      refine Run.pre (fun _ k => XS.iload X0.here hx rfl (hb hby d9_37) rfl  k) ?_
      refine Run.pre (fun _ k => XS.iconst X0.here hx rfl (hb hby d9_39) k) ?_
      show Run p e below s _ _ _ (s₁.setTop (mkF m 40 #[.val (.ref xo), .val (.int (0 : Int32)), .val (.int (3 : Int32)), .val (.long xk), .second, .val (.int (2 : Int32)), .val (.int (2 : Int32)), .val (.int (2 : Int32)), .val (.long p2), .second] [(.int (1 : Int32)), (.int (2 : Int32))]))
      refine Run.pre (fun _ k => XS.iadd X0.here hx rfl (hb hby d9_40) rfl k) ?_
      refine Run.pre (fun _ k => XS.istore X0.here hx rfl (hb hby d9_41) rfl (l' := #[.val (.ref xo), .val (.int (0 : Int32)), .val (.int (3 : Int32)), .val (.long xk), .second, .val (.int (3 : Int32)), .val (.int (2 : Int32)), .val (.int (2 : Int32)), .val (.long p2), .second]) rfl k) ?_
      refine Run.pre (fun _ k => XS.goto X0.here hx rfl (pc0 := 43) (pc' := 65) rfl (hb hby d9_43) (by decide) (by decide) k) ?_
      refine Run.pre (fun _ k => XS.goto X0.here hx rfl (pc0 := 65) (pc' := 8) rfl (hb hby d9_65) (by decide) (by decide) k) ?_
      refine Run.pre (fun _ k => XS.iload X0.here hx rfl (hb hby d9_8) rfl  k) ?_
      refine Run.pre (fun _ k => XS.iload X0.here hx rfl (hb hby d9_10) rfl  k) ?_
      show Run p e below s _ _ _ (s₁.setTop (mkF m 12 #[.val (.ref xo), .val (.int (0 : Int32)), .val (.int (3 : Int32)), .val (.long xk), .second, .val (.int (3 : Int32)), .val (.int (2 : Int32)), .val (.int (2 : Int32)), .val (.long p2), .second] [(.int (2 : Int32)), (.int (3 : Int32))]))
      refine Run.pre (fun _ k => XS.icmpYes X0.here hx rfl (pc0 := 12) (pc' := 68) rfl (hb hby d9_12) rfl (tlt ((by decide) : (2 : Int32) < (3 : Int32))).2.2.1 (by decide) (by decide) k) ?_
      refine Run.pre (fun _ k => XS.iload X0.here hx rfl (hb hby d9_68) rfl  k) ?_
      refine Run.pre (fun _ k => XS.iconst X0.here hx rfl (hb hby d9_70) k) ?_
      refine Run.pre (fun _ k => XS.iadd X0.here hx rfl (hb hby d9_71) rfl k) ?_
      refine Run.pre (fun _ k => XS.ineg X0.here hx rfl (hb hby d9_72) rfl k) ?_
      exact Run.retI X0 hx hret hlk (hb hby d9_73) (by first | (rw [e0]; exact ⟨_, rfl, N0, rfl, Or.inl ⟨rfl, own_rG hc710, own_rG hc712⟩⟩) | exact ⟨_, rfl, N0, rfl, Or.inl ⟨rfl, own_rG hc710, own_rG hc712⟩⟩) (by decide) (by decide)
    · skip
      refine Run.pre (fun _ k => XS.ifYes X0.here hx rfl (pc0 := 34) (pc' := 46) rfl (hb hby d9_34) rfl ((if0 _ _).trans (flt (hc712 : ¬ ((lcmpW p2 xk) < (0 : Int32)))).2.1) (by decide) (by decide) k) ?_
      refine Run.pre (fun _ k => XS.lload X0.here hx rfl (hb hby d9_46) rfl  k) ?_
      refine Run.pre (fun _ k => XS.lloadN X0.here hx rfl (hb hby d9_48) rfl  k) ?_
      show Run p e below s _ _ _ (s₁.setTop (mkF m 49 #[.val (.ref xo), .val (.int (0 : Int32)), .val (.int (3 : Int32)), .val (.long xk), .second, .val (.int (2 : Int32)), .val (.int (2 : Int32)), .val (.int (2 : Int32)), .val (.long p2), .second] [(.long xk), (.long p2)]))
      refine Run.pre (fun _ k => XS.lcmp X0.here hx rfl (hb hby d9_49) rfl k) ?_
      by_cases hc713 : (0 : Int32) < (lcmpW p2 xk)
      · skip
        refine Run.pre (fun _ k => XS.ifNo X0.here hx rfl (hb hby d9_50) rfl ((if0 _ _).trans (tlt (hc713 : (0 : Int32) < (lcmpW p2 xk))).2.2.2) k) ?_
        refine Run.pre (fun _ k => XS.iload X0.here hx rfl (hb hby d9_53) rfl  k) ?_
        refine Run.pre (fun _ k => XS.iconst X0.here hx rfl (hb hby d9_55) k) ?_
        refine Run.pre (fun _ k => XS.isub X0.here hx rfl (hb hby d9_56) rfl k) ?_
        refine Run.pre (fun _ k => XS.istore X0.here hx rfl (hb hby d9_57) rfl (l' := #[.val (.ref xo), .val (.int (0 : Int32)), .val (.int (3 : Int32)), .val (.long xk), .second, .val (.int (2 : Int32)), .val (.int (1 : Int32)), .val (.int (2 : Int32)), .val (.long p2), .second]) rfl k) ?_
        show Run p e below s _ _ _ (s₁.setTop (mkF m 59 #[.val (.ref xo), .val (.int (0 : Int32)), .val (.int (3 : Int32)), .val (.long xk), .second, .val (.int (2 : Int32)), .val (.int (1 : Int32)), .val (.int (2 : Int32)), .val (.long p2), .second] []))
        refine Run.pre (fun _ k => XS.goto X0.here hx rfl (pc0 := 59) (pc' := 65) rfl (hb hby d9_59) (by decide) (by decide) k) ?_
        refine Run.pre (fun _ k => XS.goto X0.here hx rfl (pc0 := 65) (pc' := 8) rfl (hb hby d9_65) (by decide) (by decide) k) ?_
        refine Run.pre (fun _ k => XS.iload X0.here hx rfl (hb hby d9_8) rfl  k) ?_
        refine Run.pre (fun _ k => XS.iload X0.here hx rfl (hb hby d9_10) rfl  k) ?_
        refine Run.pre (fun _ k => XS.icmpYes X0.here hx rfl (pc0 := 12) (pc' := 68) rfl (hb hby d9_12) rfl (tlt ((by decide) : (1 : Int32) < (2 : Int32))).2.2.1 (by decide) (by decide) k) ?_
        refine Run.pre (fun _ k => XS.iload X0.here hx rfl (hb hby d9_68) rfl  k) ?_
        show Run p e below s _ _ _ (s₁.setTop (mkF m 70 #[.val (.ref xo), .val (.int (0 : Int32)), .val (.int (3 : Int32)), .val (.long xk), .second, .val (.int (2 : Int32)), .val (.int (1 : Int32)), .val (.int (2 : Int32)), .val (.long p2), .second] [(.int (2 : Int32))]))
        refine Run.pre (fun _ k => XS.iconst X0.here hx rfl (hb hby d9_70) k) ?_
        refine Run.pre (fun _ k => XS.iadd X0.here hx rfl (hb hby d9_71) rfl k) ?_
        refine Run.pre (fun _ k => XS.ineg X0.here hx rfl (hb hby d9_72) rfl k) ?_
        exact Run.retI X0 hx hret hlk (hb hby d9_73) (by first | (rw [e0]; exact ⟨_, rfl, N0, rfl, Or.inr (Or.inl ⟨rfl, own_rG hc710, own_rL hc713⟩)⟩) | exact ⟨_, rfl, N0, rfl, Or.inr (Or.inl ⟨rfl, own_rG hc710, own_rL hc713⟩)⟩) (by decide) (by decide)
      · skip
        refine Run.pre (fun _ k => XS.ifYes X0.here hx rfl (pc0 := 50) (pc' := 62) rfl (hb hby d9_50) rfl ((if0 _ _).trans (flt (hc713 : ¬ ((0 : Int32) < (lcmpW p2 xk)))).2.2.2) (by decide) (by decide) k) ?_
        refine Run.pre (fun _ k => XS.iload X0.here hx rfl (hb hby d9_62) rfl  k) ?_
        exact Run.retI X0 hx hret hlk (hb hby d9_64) (by first | (rw [e0]; exact ⟨_, rfl, N0, rfl, Or.inr (Or.inr (Or.inl ⟨rfl, own_rG hc710, own_rE hc712 hc713⟩))⟩) | exact ⟨_, rfl, N0, rfl, Or.inr (Or.inr (Or.inl ⟨rfl, own_rG hc710, own_rE hc712 hc713⟩))⟩) (by decide) (by decide)
  · skip
    refine Run.pre (fun _ k => XS.ifYes X0.here hx rfl (pc0 := 34) (pc' := 46) rfl (hb hby d9_34) rfl ((if0 _ _).trans (flt (hc710 : ¬ ((lcmpW p1 xk) < (0 : Int32)))).2.1) (by decide) (by decide) k) ?_
    refine Run.pre (fun _ k => XS.lload X0.here hx rfl (hb hby d9_46) rfl  k) ?_
    show Run p e below s _ _ _ (s₁.setTop (mkF m 48 #[.val (.ref xo), .val (.int (0 : Int32)), .val (.int (3 : Int32)), .val (.long xk), .second, .val (.int (0 : Int32)), .val (.int (2 : Int32)), .val (.int (1 : Int32)), .val (.long p1), .second] [(.long p1)]))
    refine Run.pre (fun _ k => XS.lloadN X0.here hx rfl (hb hby d9_48) rfl  k) ?_
    refine Run.pre (fun _ k => XS.lcmp X0.here hx rfl (hb hby d9_49) rfl k) ?_
    by_cases hc714 : (0 : Int32) < (lcmpW p1 xk)
    · skip
      refine Run.pre (fun _ k => XS.ifNo X0.here hx rfl (hb hby d9_50) rfl ((if0 _ _).trans (tlt (hc714 : (0 : Int32) < (lcmpW p1 xk))).2.2.2) k) ?_
      refine Run.pre (fun _ k => XS.iload X0.here hx rfl (hb hby d9_53) rfl  k) ?_
      refine Run.pre (fun _ k => XS.iconst X0.here hx rfl (hb hby d9_55) k) ?_
      refine Run.pre (fun _ k => XS.isub X0.here hx rfl (hb hby d9_56) rfl k) ?_
      show Run p e below s _ _ _ (s₁.setTop (mkF m 57 #[.val (.ref xo), .val (.int (0 : Int32)), .val (.int (3 : Int32)), .val (.long xk), .second, .val (.int (0 : Int32)), .val (.int (2 : Int32)), .val (.int (1 : Int32)), .val (.long p1), .second] [(.int (0 : Int32))]))
      refine Run.pre (fun _ k => XS.istore X0.here hx rfl (hb hby d9_57) rfl (l' := #[.val (.ref xo), .val (.int (0 : Int32)), .val (.int (3 : Int32)), .val (.long xk), .second, .val (.int (0 : Int32)), .val (.int (0 : Int32)), .val (.int (1 : Int32)), .val (.long p1), .second]) rfl k) ?_
      refine Run.pre (fun _ k => XS.goto X0.here hx rfl (pc0 := 59) (pc' := 65) rfl (hb hby d9_59) (by decide) (by decide) k) ?_
      refine Run.pre (fun _ k => XS.goto X0.here hx rfl (pc0 := 65) (pc' := 8) rfl (hb hby d9_65) (by decide) (by decide) k) ?_
      refine Run.pre (fun _ k => XS.iload X0.here hx rfl (hb hby d9_8) rfl  k) ?_
      refine Run.pre (fun _ k => XS.iload X0.here hx rfl (hb hby d9_10) rfl  k) ?_
      refine Run.pre (fun _ k => XS.icmpNo X0.here hx rfl (hb hby d9_12) rfl (flt ((by decide) : ¬ ((0 : Int32) < (0 : Int32)))).2.2.1 k) ?_
      show Run p e below s _ _ _ (s₁.setTop (mkF m 15 #[.val (.ref xo), .val (.int (0 : Int32)), .val (.int (3 : Int32)), .val (.long xk), .second, .val (.int (0 : Int32)), .val (.int (0 : Int32)), .val (.int (1 : Int32)), .val (.long p1), .second] []))
      refine Run.pre (fun _ k => XS.iload X0.here hx rfl (hb hby d9_15) rfl  k) ?_
      refine Run.pre (fun _ k => XS.iload X0.here hx rfl (hb hby d9_17) rfl  k) ?_
      refine Run.pre (fun _ k => XS.iadd X0.here hx rfl (hb hby d9_19) rfl k) ?_
      refine Run.pre (fun _ k => XS.iconst X0.here hx rfl (hb hby d9_20) k) ?_
      refine Run.pre (fun _ k => XS.iushr X0.here hx rfl (hb hby d9_21) rfl k) ?_
      refine Run.pre (fun _ k => XS.istore X0.here hx rfl (hb hby d9_22) rfl (l' := #[.val (.ref xo), .val (.int (0 : Int32)), .val (.int (3 : Int32)), .val (.long xk), .second, .val (.int (0 : Int32)), .val (.int (0 : Int32)), .val (.int (0 : Int32)), .val (.long p1), .second]) rfl k) ?_
      show Run p e below s _ _ _ (s₁.setTop (mkF m 24 #[.val (.ref xo), .val (.int (0 : Int32)), .val (.int (3 : Int32)), .val (.long xk), .second, .val (.int (0 : Int32)), .val (.int (0 : Int32)), .val (.int (0 : Int32)), .val (.long p1), .second] []))
      refine Run.pre (fun _ k => XS.aloadN X0.here hx rfl (hb hby d9_24) rfl rfl k) ?_
      refine Run.pre (fun _ k => XS.iload X0.here hx rfl (hb hby d9_25) rfl  k) ?_
      obtain ⟨c715, Ar715, -, S715, N715, H715, -⟩ := id AO
      have hin715 : ¬ ((0 : Int32) < 0 ∨ c715.slots.size ≤ ((0 : Int32)).toNatClampNeg) := inb_of S715 ⟨by decide, by decide⟩
      refine Run.pre (X0.laload hx (j := (0 : Int32)) (v := (.long p0)) (by rw [e0]; exact Ar715.1) (State.isArrayOf_alike hZ.alike Ar715.2.1) Ar715.2.2 hin715 (H715.at hin715 rfl) (g := (mkF m 27 #[.val (.ref xo), .val (.int (0 : Int32)), .val (.int (3 : Int32)), .val (.long xk), .second, .val (.int (0 : Int32)), .val (.int (0 : Int32)), .val (.int (0 : Int32)), .val (.long p1), .second] [(.int (0 : Int32)), (.ref xo)])) rfl rfl (hb hby d9_27)) ?_
      refine Run.pre (fun _ k => XS.lstore X0.here hx rfl (hb hby d9_28) rfl (l' := #[.val (.ref xo), .val (.int (0 : Int32)), .val (.int (3 : Int32)), .val (.long xk), .second, .val (.int (0 : Int32)), .val (.int (0 : Int32)), .val (.int (0 : Int32)), .val (.long p0), .second]) rfl k) ?_
      refine Run.pre (fun _ k => XS.lload X0.here hx rfl (hb hby d9_30) rfl  k) ?_
      refine Run.pre (fun _ k => XS.lloadN X0.here hx rfl (hb hby d9_32) rfl  k) ?_
      show Run p e below s _ _ _ (s₁.setTop (mkF m 33 #[.val (.ref xo), .val (.int (0 : Int32)), .val (.int (3 : Int32)), .val (.long xk), .second, .val (.int (0 : Int32)), .val (.int (0 : Int32)), .val (.int (0 : Int32)), .val (.long p0), .second] [(.long xk), (.long p0)]))
      refine Run.pre (fun _ k => XS.lcmp X0.here hx rfl (hb hby d9_33) rfl k) ?_
      by_cases hc716 : (lcmpW p0 xk) < (0 : Int32)
      · skip
        refine Run.pre (fun _ k => XS.ifNo X0.here hx rfl (hb hby d9_34) rfl ((if0 _ _).trans (tlt (hc716 : (lcmpW p0 xk) < (0 : Int32))).2.1) k) ?_
        refine Run.pre (fun _ k => XS.iload X0.here hx rfl (hb hby d9_37) rfl  k) ?_
        refine Run.pre (fun _ k => XS.iconst X0.here hx rfl (hb hby d9_39) k) ?_
        refine Run.pre (fun _ k => XS.iadd X0.here hx rfl (hb hby d9_40) rfl k) ?_
        refine Run.pre (fun _ k => XS.istore X0.here hx rfl (hb hby d9_41) rfl (l' := #[.val (.ref xo), .val (.int (0 : Int32)), .val (.int (3 : Int32)), .val (.long xk), .second, .val (.int (1 : Int32)), .val (.int (0 : Int32)), .val (.int (0 : Int32)), .val (.long p0), .second]) rfl k) ?_
        show Run p e below s _ _ _ (s₁.setTop (mkF m 43 #[.val (.ref xo), .val (.int (0 : Int32)), .val (.int (3 : Int32)), .val (.long xk), .second, .val (.int (1 : Int32)), .val (.int (0 : Int32)), .val (.int (0 : Int32)), .val (.long p0), .second] []))
        refine Run.pre (fun _ k => XS.goto X0.here hx rfl (pc0 := 43) (pc' := 65) rfl (hb hby d9_43) (by decide) (by decide) k) ?_
        refine Run.pre (fun _ k => XS.goto X0.here hx rfl (pc0 := 65) (pc' := 8) rfl (hb hby d9_65) (by decide) (by decide) k) ?_
        refine Run.pre (fun _ k => XS.iload X0.here hx rfl (hb hby d9_8) rfl  k) ?_
        refine Run.pre (fun _ k => XS.iload X0.here hx rfl (hb hby d9_10) rfl  k) ?_
        refine Run.pre (fun _ k => XS.icmpYes X0.here hx rfl (pc0 := 12) (pc' := 68) rfl (hb hby d9_12) rfl (tlt ((by decide) : (0 : Int32) < (1 : Int32))).2.2.1 (by decide) (by decide) k) ?_
        refine Run.pre (fun _ k => XS.iload X0.here hx rfl (hb hby d9_68) rfl  k) ?_
        show Run p e below s _ _ _ (s₁.setTop (mkF m 70 #[.val (.ref xo), .val (.int (0 : Int32)), .val (.int (3 : Int32)), .val (.long xk), .second, .val (.int (1 : Int32)), .val (.int (0 : Int32)), .val (.int (0 : Int32)), .val (.long p0), .second] [(.int (1 : Int32))]))
        refine Run.pre (fun _ k => XS.iconst X0.here hx rfl (hb hby d9_70) k) ?_
        refine Run.pre (fun _ k => XS.iadd X0.here hx rfl (hb hby d9_71) rfl k) ?_
        refine Run.pre (fun _ k => XS.ineg X0.here hx rfl (hb hby d9_72) rfl k) ?_
        exact Run.retI X0 hx hret hlk (hb hby d9_73) (by first | (rw [e0]; exact ⟨_, rfl, N0, rfl, Or.inr (Or.inr (Or.inr (Or.inl ⟨rfl, own_rG hc716, own_rL hc714⟩)))⟩) | exact ⟨_, rfl, N0, rfl, Or.inr (Or.inr (Or.inr (Or.inl ⟨rfl, own_rG hc716, own_rL hc714⟩)))⟩) (by decide) (by decide)
      · skip
        refine Run.pre (fun _ k => XS.ifYes X0.here hx rfl (pc0 := 34) (pc' := 46) rfl (hb hby d9_34) rfl ((if0 _ _).trans (flt (hc716 : ¬ ((lcmpW p0 xk) < (0 : Int32)))).2.1) (by decide) (by decide) k) ?_
        refine Run.pre (fun _ k => XS.lload X0.here hx rfl (hb hby d9_46) rfl  k) ?_
        refine Run.pre (fun _ k => XS.lloadN X0.here hx rfl (hb hby d9_48) rfl  k) ?_
        refine Run.pre (fun _ k => XS.lcmp X0.here hx rfl (hb hby d9_49) rfl k) ?_
        by_cases hc717 : (0 : Int32) < (lcmpW p0 xk)
        · skip
          refine Run.pre (fun _ k => XS.ifNo X0.here hx rfl (hb hby d9_50) rfl ((if0 _ _).trans (tlt (hc717 : (0 : Int32) < (lcmpW p0 xk))).2.2.2) k) ?_
          show Run p e below s _ _ _ (s₁.setTop (mkF m 53 #[.val (.ref xo), .val (.int (0 : Int32)), .val (.int (3 : Int32)), .val (.long xk), .second, .val (.int (0 : Int32)), .val (.int (0 : Int32)), .val (.int (0 : Int32)), .val (.long p0), .second] []))
          refine Run.pre (fun _ k => XS.iload X0.here hx rfl (hb hby d9_53) rfl  k) ?_
          refine Run.pre (fun _ k => XS.iconst X0.here hx rfl (hb hby d9_55) k) ?_
          refine Run.pre (fun _ k => XS.isub X0.here hx rfl (hb hby d9_56) rfl k) ?_
          refine Run.pre (fun _ k => XS.istore X0.here hx rfl (hb hby d9_57) rfl (l' := #[.val (.ref xo), .val (.int (0 : Int32)), .val (.int (3 : Int32)), .val (.long xk), .second, .val (.int (0 : Int32)), .val (.int (-1 : Int32)), .val (.int (0 : Int32)), .val (.long p0), .second]) rfl k) ?_
          refine Run.pre (fun _ k => XS.goto X0.here hx rfl (pc0 := 59) (pc' := 65) rfl (hb hby d9_59) (by decide) (by decide) k) ?_
          refine Run.pre (fun _ k => XS.goto X0.here hx rfl (pc0 := 65) (pc' := 8) rfl (hb hby d9_65) (by decide) (by decide) k) ?_
          show Run p e below s _ _ _ (s₁.setTop (mkF m 8 #[.val (.ref xo), .val (.int (0 : Int32)), .val (.int (3 : Int32)), .val (.long xk), .second, .val (.int (0 : Int32)), .val (.int (-1 : Int32)), .val (.int (0 : Int32)), .val (.long p0), .second] []))
          refine Run.pre (fun _ k => XS.iload X0.here hx rfl (hb hby d9_8) rfl  k) ?_
          refine Run.pre (fun _ k => XS.iload X0.here hx rfl (hb hby d9_10) rfl  k) ?_
          refine Run.pre (fun _ k => XS.icmpYes X0.here hx rfl (pc0 := 12) (pc' := 68) rfl (hb hby d9_12) rfl (tlt ((by decide) : (-1 : Int32) < (0 : Int32))).2.2.1 (by decide) (by decide) k) ?_
          refine Run.pre (fun _ k => XS.iload X0.here hx rfl (hb hby d9_68) rfl  k) ?_
          refine Run.pre (fun _ k => XS.iconst X0.here hx rfl (hb hby d9_70) k) ?_
          refine Run.pre (fun _ k => XS.iadd X0.here hx rfl (hb hby d9_71) rfl k) ?_
          show Run p e below s _ _ _ (s₁.setTop (mkF m 72 #[.val (.ref xo), .val (.int (0 : Int32)), .val (.int (3 : Int32)), .val (.long xk), .second, .val (.int (0 : Int32)), .val (.int (-1 : Int32)), .val (.int (0 : Int32)), .val (.long p0), .second] [(.int (1 : Int32))]))
          refine Run.pre (fun _ k => XS.ineg X0.here hx rfl (hb hby d9_72) rfl k) ?_
          exact Run.retI X0 hx hret hlk (hb hby d9_73) (by first | (rw [e0]; exact ⟨_, rfl, N0, rfl, Or.inr (Or.inr (Or.inr (Or.inr (Or.inl ⟨rfl, own_rL hc717, own_rL hc714⟩))))⟩) | exact ⟨_, rfl, N0, rfl, Or.inr (Or.inr (Or.inr (Or.inr (Or.inl ⟨rfl, own_rL hc717, own_rL hc714⟩))))⟩) (by decide) (by decide)
        · skip
          refine Run.pre (fun _ k => XS.ifYes X0.here hx rfl (pc0 := 50) (pc' := 62) rfl (hb hby d9_50) rfl ((if0 _ _).trans (flt (hc717 : ¬ ((0 : Int32) < (lcmpW p0 xk)))).2.2.2) (by decide) (by decide) k) ?_
          show Run p e below s _ _ _ (s₁.setTop (mkF m 62 #[.val (.ref xo), .val (.int (0 : Int32)), .val (.int (3 : Int32)), .val (.long xk), .second, .val (.int (0 : Int32)), .val (.int (0 : Int32)), .val (.int (0 : Int32)), .val (.long p0), .second] []))
          refine Run.pre (fun _ k => XS.iload X0.here hx rfl (hb hby d9_62) rfl  k) ?_
          exact Run.retI X0 hx hret hlk (hb hby d9_64) (by first | (rw [e0]; exact ⟨_, rfl, N0, rfl, Or.inr (Or.inr (Or.inr (Or.inr (Or.inr (Or.inl ⟨rfl, own_rE hc716 hc717, own_rL hc714⟩)))))⟩) | exact ⟨_, rfl, N0, rfl, Or.inr (Or.inr (Or.inr (Or.inr (Or.inr (Or.inl ⟨rfl, own_rE hc716 hc717, own_rL hc714⟩)))))⟩) (by decide) (by decide)
    · skip
      refine Run.pre (fun _ k => XS.ifYes X0.here hx rfl (pc0 := 50) (pc' := 62) rfl (hb hby d9_50) rfl ((if0 _ _).trans (flt (hc714 : ¬ ((0 : Int32) < (lcmpW p1 xk)))).2.2.2) (by decide) (by decide) k) ?_
      refine Run.pre (fun _ k => XS.iload X0.here hx rfl (hb hby d9_62) rfl  k) ?_
      exact Run.retI X0 hx hret hlk (hb hby d9_64) (by first | (rw [e0]; exact ⟨_, rfl, N0, rfl, Or.inr (Or.inr (Or.inr (Or.inr (Or.inr (Or.inr (⟨rfl, own_rE hc710 hc714⟩))))))⟩) | exact ⟨_, rfl, N0, rfl, Or.inr (Or.inr (Or.inr (Or.inr (Or.inr (Or.inr (⟨rfl, own_rE hc710 hc714⟩))))))⟩) (by decide) (by decide)
set_option maxRecDepth 65536 in
set_option maxHeartbeats 40000000 in
theorem rmB_03 (l : Launch) (Z : State) (a0 : Array Value) (hw : ∀ d ∈ tables_1, d.before a0 Z = true) (xo : Addr) (ko : ClassId) (p0 : Int64) (p1 : Int64) (p2 : Int64) (xk : Int64) (h0 : Heap) (n0 : Nat) (Z0 : n0 ≤ h0.size) (AO : Arv Z h0 xo ko .long 16 (own_LJ p0 p1 p2) (.long (0 : Int64))) :
    Con l (⟨"java/util/Arrays", "binarySearch", "([JIIJ)I"⟩ : MethodName) jdk_65_method_55_code 5 (some .int) ({ frames := 1, cells := 0, slots := 0, locals := 21 } : Room) Z #[(.ref xo), (.int (0 : Int32)), (.int (3 : Int32)), (.long xk)] h0 (fun v h L => ∃ r : Int32, v = some (.int r) ∧ Fr n0 L ∧ h = h0 ∧ own_bs03 xk p0 p1 p2 r) := by
  refine Con.mk (plainFor_of_name pn_7) (fun m => show entryFrame m #[(.ref xo), (.int (0 : Int32)), (.int (3 : Int32)), (.long xk)] 5 = mkF m 0 #[.val (.ref xo), .val (.int (0 : Int32)), .val (.int (3 : Int32)), .val (.long xk), .second] [] by first | (simp [entryFrame, mkF, argsToLocals, Value.category]; done) | rfl) ?_
  intro p e s m below meth c s₁ hx hby hml hown hnm hret hlk hZ X0 e0
  have N0 := Fr.nil n0
  show Run p e below s _ _ _ (s₁.setTop (mkF m 0 #[.val (.ref xo), .val (.int (0 : Int32)), .val (.int (3 : Int32)), .val (.long xk), .second] []))
  refine Run.pre (fun _ k => XS.aloadN X0.here hx rfl (hb hby d7_0) rfl rfl k) ?_
  obtain ⟨c718, Ar718, -, S718, N718, -, -⟩ := id AO
  refine Run.pre (X0.arraylength hx (by rw [e0]; exact Ar718.1) (State.isArrayOf_alike hZ.alike Ar718.2.1) (g := (mkF m 1 #[.val (.ref xo), .val (.int (0 : Int32)), .val (.int (3 : Int32)), .val (.long xk), .second] [(.ref xo)])) rfl rfl (hb hby d7_1)) ?_
  rw [len_of S718 N718]
  refine Run.pre (fun _ k => XS.iloadN X0.here hx rfl (hb hby d7_2) rfl  k) ?_
  refine Run.pre (fun _ k => XS.iloadN X0.here hx rfl (hb hby d7_3) rfl  k) ?_
  refine Run.callS X0 hx hZ (y := (⟨"java/util/Arrays", "rangeCheck", "(III)V"⟩ : MethodName)) hown (hwi hw 50 rfl) (hwi hw 51 rfl) (hwi hw 48 rfl) (hwi hw 52 rfl) (by decide) (W := 0) (rmRC_03 l Z a0 hw h0 n0 (Nat.le_trans Z0 (Keep.refl h0 []).1)) e0 (by decide) (by decide) (by decide) (by decide) (g := (mkF m 4 #[.val (.ref xo), .val (.int (0 : Int32)), .val (.int (3 : Int32)), .val (.long xk), .second] [(.int (3 : Int32)), (.int (0 : Int32)), (.int (16 : Int32))])) rfl (by rw [hml]; rfl) (argsL := [(.int (16 : Int32)), (.int (0 : Int32)), (.int (3 : Int32))]) (rest := []) (lenOf pd_0 rfl) rfl (by show 2 * 0 + _ ≤ _; exact Nat.le_of_eq rfl) (hb hby d7_4) ?_
  intro v719 T719 L719 X719 hQ719
  obtain ⟨rfl, Nq719, he719⟩ := hQ719
  have N719 := Fr.app N0 Nq719
  have e719 : T719.heap = h0 := he719
  refine Run.pre (fun _ k => XS.aloadN X719.here hx rfl (hb hby d7_7) rfl rfl k) ?_
  show Run p e below s _ _ _ (T719.setTop (mkF m 8 #[.val (.ref xo), .val (.int (0 : Int32)), .val (.int (3 : Int32)), .val (.long xk), .second] [(.ref xo)]))
  refine Run.pre (fun _ k => XS.iloadN X719.here hx rfl (hb hby d7_8) rfl  k) ?_
  refine Run.pre (fun _ k => XS.iloadN X719.here hx rfl (hb hby d7_9) rfl  k) ?_
  refine Run.pre (fun _ k => XS.lloadN X719.here hx rfl (hb hby d7_10) rfl  k) ?_
  refine Run.callS X719 hx hZ (y := (⟨"java/util/Arrays", "binarySearch0", "([JIIJ)I"⟩ : MethodName)) hown (hwi hw 53 rfl) (hwi hw 54 rfl) (hwi hw 48 rfl) (hwi hw 55 rfl) (by decide) (W := 0) (rmB0_03 l Z a0 hw xo ko p0 p1 p2 xk h0 n0 (Nat.le_trans Z0 (Keep.refl h0 []).1) AO) e719 (by decide) (by decide) (by decide) (by decide) (g := (mkF m 11 #[.val (.ref xo), .val (.int (0 : Int32)), .val (.int (3 : Int32)), .val (.long xk), .second] [(.long xk), (.int (3 : Int32)), (.int (0 : Int32)), (.ref xo)])) rfl (by rw [hml]; rfl) (argsL := [(.ref xo), (.int (0 : Int32)), (.int (3 : Int32)), (.long xk)]) (rest := []) (lenOf pd_1 rfl) rfl (by show 2 * 0 + _ ≤ _; exact Nat.le_of_eq rfl) (hb hby d7_11) ?_
  intro v720 T720 L720 X720 hQ720
  obtain ⟨r720, rfl, Nq720, he720, sp720⟩ := hQ720
  have N720 := Fr.app N719 Nq720
  have e720 : T720.heap = h0 := he720
  exact Run.retI X720 hx hret hlk (hb hby d7_14) (by first | (rw [e720]; exact ⟨r720, rfl, N720, rfl, sp720⟩) | exact ⟨r720, rfl, N720, rfl, sp720⟩) (by decide) (by decide)
set_option maxRecDepth 65536 in
set_option maxHeartbeats 40000000 in
theorem rmS_03 (l : Launch) (Z : State) (a0 : Array Value) (hw : ∀ d ∈ tables_1, d.before a0 Z = true) (tb : Addr) (xo : Addr) (ko : ClassId) (p0 : Int64) (p1 : Int64) (p2 : Int64) (xk : Int64) (h0 : Heap) (n0 : Nat) (Z0 : n0 ≤ h0.size) (E_tb : Exa Z h0 tb "com/example/manana/manana/storage/WaitingTable") (FO : Fld Z h0 tb "com/example/manana/manana/storage/WaitingTable" "offsets" "[J" (.ref xo)) (Ff : Fld Z h0 tb "com/example/manana/manana/storage/WaitingTable" "first" "I" (.int 0)) (Fe : Fld Z h0 tb "com/example/manana/manana/storage/WaitingTable" "end" "I" (.int 3)) (AO : Arv Z h0 xo ko .long 16 (own_LJ p0 p1 p2) (.long (0 : Int64))) :
    Con l (⟨"com/example/manana/manana/storage/WaitingTable", "slotOf", "(J)I"⟩ : MethodName) prog_84_method_11_code 3 (some .int) ({ frames := 2, cells := 0, slots := 0, locals := 37 } : Room) Z #[(.ref tb), (.long xk)] h0 (fun v h L => ∃ r : Int32, v = some (.int r) ∧ Fr n0 L ∧ h = h0 ∧ own_bs03 xk p0 p1 p2 r) := by
  refine Con.mk (plainFor_of_name pn_6) (fun m => show entryFrame m #[(.ref tb), (.long xk)] 3 = mkF m 0 #[.val (.ref tb), .val (.long xk), .second] [] by first | (simp [entryFrame, mkF, argsToLocals, Value.category]; done) | rfl) ?_
  intro p e s m below meth c s₁ hx hby hml hown hnm hret hlk hZ X0 e0
  have N0 := Fr.nil n0
  show Run p e below s _ _ _ (s₁.setTop (mkF m 0 #[.val (.ref tb), .val (.long xk), .second] []))
  refine Run.pre (fun _ k => XS.aloadN X0.here hx rfl (hb hby d6_0) rfl rfl k) ?_
  obtain ⟨T721, X721, e721, st721⟩ := getF X0 hx hZ hown (host := "") (Or.inl (hwi hw 10 rfl)) Via.refl e0 FO (g := (mkF m 1 #[.val (.ref tb), .val (.long xk), .second] [(.ref tb)])) rfl rfl (hb hby d6_1)
  refine Run.pre st721 ?_
  refine Run.pre (fun _ k => XS.aloadN X721.here hx rfl (hb hby d6_4) rfl rfl k) ?_
  obtain ⟨T722, X722, e722, st722⟩ := getF X721 hx hZ hown (host := "") (Or.inl (hwi hw 36 rfl)) Via.refl e721 Ff (g := (mkF m 5 #[.val (.ref tb), .val (.long xk), .second] [(.ref tb), (.ref xo)])) rfl rfl (hb hby d6_5)
  refine Run.pre st722 ?_
  refine Run.pre (fun _ k => XS.aloadN X722.here hx rfl (hb hby d6_8) rfl rfl k) ?_
  obtain ⟨T723, X723, e723, st723⟩ := getF X722 hx hZ hown (host := "") (Or.inl (hwi hw 34 rfl)) Via.refl e722 Fe (g := (mkF m 9 #[.val (.ref tb), .val (.long xk), .second] [(.ref tb), (.int (0 : Int32)), (.ref xo)])) rfl rfl (hb hby d6_9)
  refine Run.pre st723 ?_
  show Run p e below s _ _ _ (T723.setTop (mkF m 12 #[.val (.ref tb), .val (.long xk), .second] [(.int (3 : Int32)), (.int (0 : Int32)), (.ref xo)]))
  refine Run.pre (fun _ k => XS.lloadN X723.here hx rfl (hb hby d6_12) rfl  k) ?_
  refine Run.callS X723 hx hZ (y := (⟨"java/util/Arrays", "binarySearch", "([JIIJ)I"⟩ : MethodName)) hown (hwi hw 46 rfl) (hwi hw 47 rfl) (hwi hw 48 rfl) (hwi hw 49 rfl) (by decide) (W := 0) (rmB_03 l Z a0 hw xo ko p0 p1 p2 xk h0 n0 (Nat.le_trans Z0 (Keep.refl h0 []).1) AO) e723 (by decide) (by decide) (by decide) (by decide) (g := (mkF m 13 #[.val (.ref tb), .val (.long xk), .second] [(.long xk), (.int (3 : Int32)), (.int (0 : Int32)), (.ref xo)])) rfl (by rw [hml]; rfl) (argsL := [(.ref xo), (.int (0 : Int32)), (.int (3 : Int32)), (.long xk)]) (rest := []) (lenOf pd_1 rfl) rfl (by show 2 * 0 + _ ≤ _; exact Nat.le_of_eq rfl) (hb hby d6_13) ?_
  intro v724 T724 L724 X724 hQ724
  obtain ⟨r724, rfl, Nq724, he724, sp724⟩ := hQ724
  have N724 := Fr.app N0 Nq724
  have e724 : T724.heap = h0 := he724
  exact Run.retI X724 hx hret hlk (hb hby d6_16) (by first | (rw [e724]; exact ⟨r724, rfl, N724, rfl, sp724⟩) | exact ⟨r724, rfl, N724, rfl, sp724⟩) (by decide) (by decide)
def own_fd3 (xk p0 p1 p2 : Int64) (r : Int32) : Prop := (r = (-1 : Int32) ∧ (¬ xk < p1 ∧ p1 < xk) ∧ (¬ xk < p2 ∧ p2 < xk)) ∨ (r = (-1 : Int32) ∧ (¬ xk < p1 ∧ p1 < xk) ∧ (xk < p2 ∧ ¬ p2 < xk)) ∨ (r = (2 : Int32) ∧ (¬ xk < p1 ∧ p1 < xk) ∧ (¬ xk < p2 ∧ ¬ p2 < xk)) ∨ (r = (-1 : Int32) ∧ (¬ xk < p0 ∧ p0 < xk) ∧ (xk < p1 ∧ ¬ p1 < xk)) ∨ (r = (-1 : Int32) ∧ (xk < p0 ∧ ¬ p0 < xk) ∧ (xk < p1 ∧ ¬ p1 < xk)) ∨ (r = (0 : Int32) ∧ (¬ xk < p0 ∧ ¬ p0 < xk) ∧ (xk < p1 ∧ ¬ p1 < xk)) ∨ (r = (1 : Int32) ∧ (¬ xk < p1 ∧ ¬ p1 < xk))
set_option maxRecDepth 65536 in
set_option maxHeartbeats 40000000 in
theorem rmF_3 (l : Launch) (Z : State) (a0 : Array Value) (hw : ∀ d ∈ tables_1, d.before a0 Z = true) (tb : Addr) (xo : Addr) (ko : ClassId) (p0 : Int64) (p1 : Int64) (p2 : Int64) (xk : Int64) (xh : Addr) (kh : ClassId) (h0 : Heap) (n0 : Nat) (Z0 : n0 ≤ h0.size) (E_tb : Exa Z h0 tb "com/example/manana/manana/storage/WaitingTable") (FO : Fld Z h0 tb "com/example/manana/manana/storage/WaitingTable" "offsets" "[J" (.ref xo)) (FH : Fld Z h0 tb "com/example/manana/manana/storage/WaitingTable" "held" "[Z" (.ref xh)) (Ff : Fld Z h0 tb "com/example/manana/manana/storage/WaitingTable" "first" "I" (.int 0)) (Fe : Fld Z h0 tb "com/example/manana/manana/storage/WaitingTable" "end" "I" (.int 3)) (AO : Arv Z h0 xo ko .long 16 (own_LJ p0 p1 p2) (.long (0 : Int64))) (AH : Arv Z h0 xh kh .boolean 16 (own_LI (1 : Int32) (1 : Int32) (1 : Int32)) (.int (0 : Int32))) :
    Con l (⟨"com/example/manana/manana/storage/WaitingTable", "find", "(J)I"⟩ : MethodName) prog_84_method_3_code 4 (some .int) ({ frames := 3, cells := 0, slots := 0, locals := 51 } : Room) Z #[(.ref tb), (.long xk)] h0 (fun v h L => ∃ r : Int32, v = some (.int r) ∧ Fr n0 L ∧ h = h0 ∧ own_fd3 xk p0 p1 p2 r) := by
  refine Con.mk (plainFor_of_name pn_14) (fun m => show entryFrame m #[(.ref tb), (.long xk)] 4 = mkF m 0 #[.val (.ref tb), .val (.long xk), .second, .unset] [] by first | (simp [entryFrame, mkF, argsToLocals, Value.category]; done) | rfl) ?_
  intro p e s m below meth c s₁ hx hby hml hown hnm hret hlk hZ X0 e0
  have N0 := Fr.nil n0
  show Run p e below s _ _ _ (s₁.setTop (mkF m 0 #[.val (.ref tb), .val (.long xk), .second, .unset] []))
  refine Run.pre (fun _ k => XS.aloadN X0.here hx rfl (hb hby d14_0) rfl rfl k) ?_
  refine Run.pre (fun _ k => XS.lloadN X0.here hx rfl (hb hby d14_1) rfl  k) ?_
  refine Run.callP X0 hx hZ (y := (⟨"com/example/manana/manana/storage/WaitingTable", "slotOf", "(J)I"⟩ : MethodName)) hown (hwi hw 42 rfl) (hwi hw 43 rfl) (own_selP (y := (⟨"com/example/manana/manana/storage/WaitingTable", "slotOf", "(J)I"⟩ : MethodName)) (z := (⟨"com/example/manana/manana/storage/WaitingTable", "lowest", "(J)J"⟩ : MethodName)) (hwi hw 43 rfl) (hwi hw 44 rfl) (hwi hw 25 rfl) rfl (by decide)) (hwi hw 44 rfl) (hwi hw 45 rfl) (hwi hw 2 rfl) (by decide) (a := tb) E_tb (W := 0) (rmS_03 l Z a0 hw tb xo ko p0 p1 p2 xk h0 n0 (Nat.le_trans Z0 (Keep.refl h0 []).1) E_tb FO Ff Fe AO) e0 (by decide) (by decide) (by decide) (by decide) (g := (mkF m 2 #[.val (.ref tb), .val (.long xk), .second, .unset] [(.long xk), (.ref tb)])) rfl (by rw [hml]; rfl) (argsL := [(.long xk)]) (rest := []) (lenOf pd_2 rfl) rfl (by show 2 * 0 + _ ≤ _; exact Nat.le_of_eq rfl) (hb hby d14_2) ?_
  intro v725 T725 L725 X725 hQ725
  obtain ⟨r725, rfl, Nq725, he725, sp725⟩ := hQ725
  have N725 := Fr.app N0 Nq725
  have e725 : T725.heap = h0 := he725
  show Run p e below s _ _ _ (T725.setTop (mkF m 5 #[.val (.ref tb), .val (.long xk), .second, .unset] [(.int r725)]))
  rcases sp725 with ⟨rfl, s1, s2⟩ | ⟨rfl, s1, s2⟩ | ⟨rfl, s1, s2⟩ | ⟨rfl, s0, s1⟩ | ⟨rfl, s0, s1⟩ | ⟨rfl, s0, s1⟩ | ⟨rfl, s1⟩
  · skip
    refine Run.pre (fun _ k => XS.istoreN X725.here hx rfl (hb hby d14_5) rfl (l' := #[.val (.ref tb), .val (.long xk), .second, .val (.int (-4 : Int32))]) rfl k) ?_
    refine Run.pre (fun _ k => XS.iloadN X725.here hx rfl (hb hby d14_6) rfl  k) ?_
    refine Run.pre (fun _ k => XS.ifYes X725.here hx rfl (pc0 := 7) (pc' := 23) rfl (hb hby d14_7) rfl ((if0 _ _).trans (tlt ((by decide) : (-4 : Int32) < (0 : Int32))).1) (by decide) (by decide) k) ?_
    show Run p e below s _ _ _ (T725.setTop (mkF m 23 #[.val (.ref tb), .val (.long xk), .second, .val (.int (-4 : Int32))] []))
    refine Run.pre (fun _ k => XS.iconst X725.here hx rfl (hb hby d14_23) k) ?_
    exact Run.retI X725 hx hret hlk (hb hby d14_24) (by first | (rw [e725]; exact ⟨_, rfl, N725, rfl, Or.inl ⟨rfl, s1, s2⟩⟩) | exact ⟨_, rfl, N725, rfl, Or.inl ⟨rfl, s1, s2⟩⟩) (by decide) (by decide)
  · skip
    refine Run.pre (fun _ k => XS.istoreN X725.here hx rfl (hb hby d14_5) rfl (l' := #[.val (.ref tb), .val (.long xk), .second, .val (.int (-3 : Int32))]) rfl k) ?_
    refine Run.pre (fun _ k => XS.iloadN X725.here hx rfl (hb hby d14_6) rfl  k) ?_
    refine Run.pre (fun _ k => XS.ifYes X725.here hx rfl (pc0 := 7) (pc' := 23) rfl (hb hby d14_7) rfl ((if0 _ _).trans (tlt ((by decide) : (-3 : Int32) < (0 : Int32))).1) (by decide) (by decide) k) ?_
    show Run p e below s _ _ _ (T725.setTop (mkF m 23 #[.val (.ref tb), .val (.long xk), .second, .val (.int (-3 : Int32))] []))
    refine Run.pre (fun _ k => XS.iconst X725.here hx rfl (hb hby d14_23) k) ?_
    exact Run.retI X725 hx hret hlk (hb hby d14_24) (by first | (rw [e725]; exact ⟨_, rfl, N725, rfl, Or.inr (Or.inl ⟨rfl, s1, s2⟩)⟩) | exact ⟨_, rfl, N725, rfl, Or.inr (Or.inl ⟨rfl, s1, s2⟩)⟩) (by decide) (by decide)
  · skip
    refine Run.pre (fun _ k => XS.istoreN X725.here hx rfl (hb hby d14_5) rfl (l' := #[.val (.ref tb), .val (.long xk), .second, .val (.int (2 : Int32))]) rfl k) ?_
    refine Run.pre (fun _ k => XS.iloadN X725.here hx rfl (hb hby d14_6) rfl  k) ?_
    refine Run.pre (fun _ k => XS.ifNo X725.here hx rfl (hb hby d14_7) rfl ((if0 _ _).trans (flt ((by decide) : ¬ ((2 : Int32) < (0 : Int32)))).1) k) ?_
    show Run p e below s _ _ _ (T725.setTop (mkF m 10 #[.val (.ref tb), .val (.long xk), .second, .val (.int (2 : Int32))] []))
    refine Run.pre (fun _ k => XS.aloadN X725.here hx rfl (hb hby d14_10) rfl rfl k) ?_
    obtain ⟨T726, X726, e726, st726⟩ := getF X725 hx hZ hown (host := "") (Or.inl (hwi hw 20 rfl)) Via.refl e725 FH (g := (mkF m 11 #[.val (.ref tb), .val (.long xk), .second, .val (.int (2 : Int32))] [(.ref tb)])) rfl rfl (hb hby d14_11)
    refine Run.pre st726 ?_
    refine Run.pre (fun _ k => XS.iloadN X726.here hx rfl (hb hby d14_14) rfl  k) ?_
    obtain ⟨c727, Ar727, -, S727, N727, H727, -⟩ := id AH
    have hin727 : ¬ ((2 : Int32) < 0 ∨ c727.slots.size ≤ ((2 : Int32)).toNatClampNeg) := inb_of S727 ⟨by decide, by decide⟩
    refine Run.pre (X726.baloadBooleans hx (j := (2 : Int32)) (v := (.int (1 : Int32))) (by rw [e726]; exact Ar727.1) (State.isArrayOf_alike hZ.alike Ar727.2.1) Ar727.2.2 hin727 (H727.at hin727 rfl) (g := (mkF m 15 #[.val (.ref tb), .val (.long xk), .second, .val (.int (2 : Int32))] [(.int (2 : Int32)), (.ref xh)])) rfl rfl (hb hby d14_15)) ?_
    refine Run.pre (fun _ k => XS.ifNo X726.here hx rfl (hb hby d14_16) rfl ((if0 _ _).trans (feq ((by decide) : ¬ ((1 : Int32) = (0 : Int32)))).1) k) ?_
    refine Run.pre (fun _ k => XS.iloadN X726.here hx rfl (hb hby d14_19) rfl  k) ?_
    show Run p e below s _ _ _ (T726.setTop (mkF m 20 #[.val (.ref tb), .val (.long xk), .second, .val (.int (2 : Int32))] [(.int (2 : Int32))]))
    refine Run.pre (fun _ k => XS.goto X726.here hx rfl (pc0 := 20) (pc' := 24) rfl (hb hby d14_20) (by decide) (by decide) k) ?_
    exact Run.retI X726 hx hret hlk (hb hby d14_24) (by first | (rw [e726]; exact ⟨_, rfl, N725, rfl, Or.inr (Or.inr (Or.inl ⟨rfl, s1, s2⟩))⟩) | exact ⟨_, rfl, N725, rfl, Or.inr (Or.inr (Or.inl ⟨rfl, s1, s2⟩))⟩) (by decide) (by decide)
  · skip
    refine Run.pre (fun _ k => XS.istoreN X725.here hx rfl (hb hby d14_5) rfl (l' := #[.val (.ref tb), .val (.long xk), .second, .val (.int (-2 : Int32))]) rfl k) ?_
    refine Run.pre (fun _ k => XS.iloadN X725.here hx rfl (hb hby d14_6) rfl  k) ?_
    refine Run.pre (fun _ k => XS.ifYes X725.here hx rfl (pc0 := 7) (pc' := 23) rfl (hb hby d14_7) rfl ((if0 _ _).trans (tlt ((by decide) : (-2 : Int32) < (0 : Int32))).1) (by decide) (by decide) k) ?_
    show Run p e below s _ _ _ (T725.setTop (mkF m 23 #[.val (.ref tb), .val (.long xk), .second, .val (.int (-2 : Int32))] []))
    refine Run.pre (fun _ k => XS.iconst X725.here hx rfl (hb hby d14_23) k) ?_
    exact Run.retI X725 hx hret hlk (hb hby d14_24) (by first | (rw [e725]; exact ⟨_, rfl, N725, rfl, Or.inr (Or.inr (Or.inr (Or.inl ⟨rfl, s0, s1⟩)))⟩) | exact ⟨_, rfl, N725, rfl, Or.inr (Or.inr (Or.inr (Or.inl ⟨rfl, s0, s1⟩)))⟩) (by decide) (by decide)
  · skip
    refine Run.pre (fun _ k => XS.istoreN X725.here hx rfl (hb hby d14_5) rfl (l' := #[.val (.ref tb), .val (.long xk), .second, .val (.int (-1 : Int32))]) rfl k) ?_
    refine Run.pre (fun _ k => XS.iloadN X725.here hx rfl (hb hby d14_6) rfl  k) ?_
    refine Run.pre (fun _ k => XS.ifYes X725.here hx rfl (pc0 := 7) (pc' := 23) rfl (hb hby d14_7) rfl ((if0 _ _).trans (tlt ((by decide) : (-1 : Int32) < (0 : Int32))).1) (by decide) (by decide) k) ?_
    show Run p e below s _ _ _ (T725.setTop (mkF m 23 #[.val (.ref tb), .val (.long xk), .second, .val (.int (-1 : Int32))] []))
    refine Run.pre (fun _ k => XS.iconst X725.here hx rfl (hb hby d14_23) k) ?_
    exact Run.retI X725 hx hret hlk (hb hby d14_24) (by first | (rw [e725]; exact ⟨_, rfl, N725, rfl, Or.inr (Or.inr (Or.inr (Or.inr (Or.inl ⟨rfl, s0, s1⟩))))⟩) | exact ⟨_, rfl, N725, rfl, Or.inr (Or.inr (Or.inr (Or.inr (Or.inl ⟨rfl, s0, s1⟩))))⟩) (by decide) (by decide)
  · skip
    refine Run.pre (fun _ k => XS.istoreN X725.here hx rfl (hb hby d14_5) rfl (l' := #[.val (.ref tb), .val (.long xk), .second, .val (.int (0 : Int32))]) rfl k) ?_
    refine Run.pre (fun _ k => XS.iloadN X725.here hx rfl (hb hby d14_6) rfl  k) ?_
    refine Run.pre (fun _ k => XS.ifNo X725.here hx rfl (hb hby d14_7) rfl ((if0 _ _).trans (flt ((by decide) : ¬ ((0 : Int32) < (0 : Int32)))).1) k) ?_
    show Run p e below s _ _ _ (T725.setTop (mkF m 10 #[.val (.ref tb), .val (.long xk), .second, .val (.int (0 : Int32))] []))
    refine Run.pre (fun _ k => XS.aloadN X725.here hx rfl (hb hby d14_10) rfl rfl k) ?_
    obtain ⟨T728, X728, e728, st728⟩ := getF X725 hx hZ hown (host := "") (Or.inl (hwi hw 20 rfl)) Via.refl e725 FH (g := (mkF m 11 #[.val (.ref tb), .val (.long xk), .second, .val (.int (0 : Int32))] [(.ref tb)])) rfl rfl (hb hby d14_11)
    refine Run.pre st728 ?_
    refine Run.pre (fun _ k => XS.iloadN X728.here hx rfl (hb hby d14_14) rfl  k) ?_
    obtain ⟨c729, Ar729, -, S729, N729, H729, -⟩ := id AH
    have hin729 : ¬ ((0 : Int32) < 0 ∨ c729.slots.size ≤ ((0 : Int32)).toNatClampNeg) := inb_of S729 ⟨by decide, by decide⟩
    refine Run.pre (X728.baloadBooleans hx (j := (0 : Int32)) (v := (.int (1 : Int32))) (by rw [e728]; exact Ar729.1) (State.isArrayOf_alike hZ.alike Ar729.2.1) Ar729.2.2 hin729 (H729.at hin729 rfl) (g := (mkF m 15 #[.val (.ref tb), .val (.long xk), .second, .val (.int (0 : Int32))] [(.int (0 : Int32)), (.ref xh)])) rfl rfl (hb hby d14_15)) ?_
    refine Run.pre (fun _ k => XS.ifNo X728.here hx rfl (hb hby d14_16) rfl ((if0 _ _).trans (feq ((by decide) : ¬ ((1 : Int32) = (0 : Int32)))).1) k) ?_
    refine Run.pre (fun _ k => XS.iloadN X728.here hx rfl (hb hby d14_19) rfl  k) ?_
    show Run p e below s _ _ _ (T728.setTop (mkF m 20 #[.val (.ref tb), .val (.long xk), .second, .val (.int (0 : Int32))] [(.int (0 : Int32))]))
    refine Run.pre (fun _ k => XS.goto X728.here hx rfl (pc0 := 20) (pc' := 24) rfl (hb hby d14_20) (by decide) (by decide) k) ?_
    exact Run.retI X728 hx hret hlk (hb hby d14_24) (by first | (rw [e728]; exact ⟨_, rfl, N725, rfl, Or.inr (Or.inr (Or.inr (Or.inr (Or.inr (Or.inl ⟨rfl, s0, s1⟩)))))⟩) | exact ⟨_, rfl, N725, rfl, Or.inr (Or.inr (Or.inr (Or.inr (Or.inr (Or.inl ⟨rfl, s0, s1⟩)))))⟩) (by decide) (by decide)
  · skip
    refine Run.pre (fun _ k => XS.istoreN X725.here hx rfl (hb hby d14_5) rfl (l' := #[.val (.ref tb), .val (.long xk), .second, .val (.int (1 : Int32))]) rfl k) ?_
    refine Run.pre (fun _ k => XS.iloadN X725.here hx rfl (hb hby d14_6) rfl  k) ?_
    refine Run.pre (fun _ k => XS.ifNo X725.here hx rfl (hb hby d14_7) rfl ((if0 _ _).trans (flt ((by decide) : ¬ ((1 : Int32) < (0 : Int32)))).1) k) ?_
    show Run p e below s _ _ _ (T725.setTop (mkF m 10 #[.val (.ref tb), .val (.long xk), .second, .val (.int (1 : Int32))] []))
    refine Run.pre (fun _ k => XS.aloadN X725.here hx rfl (hb hby d14_10) rfl rfl k) ?_
    obtain ⟨T730, X730, e730, st730⟩ := getF X725 hx hZ hown (host := "") (Or.inl (hwi hw 20 rfl)) Via.refl e725 FH (g := (mkF m 11 #[.val (.ref tb), .val (.long xk), .second, .val (.int (1 : Int32))] [(.ref tb)])) rfl rfl (hb hby d14_11)
    refine Run.pre st730 ?_
    refine Run.pre (fun _ k => XS.iloadN X730.here hx rfl (hb hby d14_14) rfl  k) ?_
    obtain ⟨c731, Ar731, -, S731, N731, H731, -⟩ := id AH
    have hin731 : ¬ ((1 : Int32) < 0 ∨ c731.slots.size ≤ ((1 : Int32)).toNatClampNeg) := inb_of S731 ⟨by decide, by decide⟩
    refine Run.pre (X730.baloadBooleans hx (j := (1 : Int32)) (v := (.int (1 : Int32))) (by rw [e730]; exact Ar731.1) (State.isArrayOf_alike hZ.alike Ar731.2.1) Ar731.2.2 hin731 (H731.at hin731 rfl) (g := (mkF m 15 #[.val (.ref tb), .val (.long xk), .second, .val (.int (1 : Int32))] [(.int (1 : Int32)), (.ref xh)])) rfl rfl (hb hby d14_15)) ?_
    refine Run.pre (fun _ k => XS.ifNo X730.here hx rfl (hb hby d14_16) rfl ((if0 _ _).trans (feq ((by decide) : ¬ ((1 : Int32) = (0 : Int32)))).1) k) ?_
    refine Run.pre (fun _ k => XS.iloadN X730.here hx rfl (hb hby d14_19) rfl  k) ?_
    show Run p e below s _ _ _ (T730.setTop (mkF m 20 #[.val (.ref tb), .val (.long xk), .second, .val (.int (1 : Int32))] [(.int (1 : Int32))]))
    refine Run.pre (fun _ k => XS.goto X730.here hx rfl (pc0 := 20) (pc' := 24) rfl (hb hby d14_20) (by decide) (by decide) k) ?_
    exact Run.retI X730 hx hret hlk (hb hby d14_24) (by first | (rw [e730]; exact ⟨_, rfl, N725, rfl, Or.inr (Or.inr (Or.inr (Or.inr (Or.inr (Or.inr (⟨rfl, s1⟩))))))⟩) | exact ⟨_, rfl, N725, rfl, Or.inr (Or.inr (Or.inr (Or.inr (Or.inr (Or.inr (⟨rfl, s1⟩))))))⟩) (by decide) (by decide)
theorem d15_0 : decode prog_84_method_8_code 0 = .ok (.aload_n 0, 1) := by decide +kernel
theorem d15_1 : decode prog_84_method_8_code 1 = .ok (.getfield 23, 3) := by decide +kernel
theorem d15_4 : decode prog_84_method_8_code 4 = .ok (.iload_n 1, 1) := by decide +kernel
theorem d15_5 : decode prog_84_method_8_code 5 = .ok (.iconst 0, 1) := by decide +kernel
theorem d15_6 : decode prog_84_method_8_code 6 = .ok (.bastore, 1) := by decide +kernel
theorem d15_7 : decode prog_84_method_8_code 7 = .ok (.aload_n 0, 1) := by decide +kernel
theorem d15_8 : decode prog_84_method_8_code 8 = .ok (.dup, 1) := by decide +kernel
theorem d15_9 : decode prog_84_method_8_code 9 = .ok (.getfield 44, 3) := by decide +kernel
theorem d15_12 : decode prog_84_method_8_code 12 = .ok (.iconst 1, 1) := by decide +kernel
theorem d15_13 : decode prog_84_method_8_code 13 = .ok (.isub, 1) := by decide +kernel
theorem d15_14 : decode prog_84_method_8_code 14 = .ok (.putfield 44, 3) := by decide +kernel
theorem d15_17 : decode prog_84_method_8_code 17 = .ok (.aload_n 0, 1) := by decide +kernel
theorem d15_18 : decode prog_84_method_8_code 18 = .ok (.getfield 31, 3) := by decide +kernel
theorem d15_21 : decode prog_84_method_8_code 21 = .ok (.aload_n 0, 1) := by decide +kernel
theorem d15_22 : decode prog_84_method_8_code 22 = .ok (.getfield 27, 3) := by decide +kernel
theorem d15_25 : decode prog_84_method_8_code 25 = .ok (.if_icmp .ge 28, 3) := by decide +kernel
theorem d15_28 : decode prog_84_method_8_code 28 = .ok (.aload_n 0, 1) := by decide +kernel
theorem d15_29 : decode prog_84_method_8_code 29 = .ok (.getfield 23, 3) := by decide +kernel
theorem d15_32 : decode prog_84_method_8_code 32 = .ok (.aload_n 0, 1) := by decide +kernel
theorem d15_33 : decode prog_84_method_8_code 33 = .ok (.getfield 31, 3) := by decide +kernel
theorem d15_36 : decode prog_84_method_8_code 36 = .ok (.baload, 1) := by decide +kernel
theorem d15_37 : decode prog_84_method_8_code 37 = .ok (.ifCond .ne 16, 3) := by decide +kernel
theorem d15_40 : decode prog_84_method_8_code 40 = .ok (.aload_n 0, 1) := by decide +kernel
theorem d15_41 : decode prog_84_method_8_code 41 = .ok (.dup, 1) := by decide +kernel
theorem d15_42 : decode prog_84_method_8_code 42 = .ok (.getfield 31, 3) := by decide +kernel
theorem d15_45 : decode prog_84_method_8_code 45 = .ok (.iconst 1, 1) := by decide +kernel
theorem d15_46 : decode prog_84_method_8_code 46 = .ok (.iadd, 1) := by decide +kernel
theorem d15_47 : decode prog_84_method_8_code 47 = .ok (.putfield 31, 3) := by decide +kernel
theorem d15_50 : decode prog_84_method_8_code 50 = .ok (.goto (-33), 3) := by decide +kernel
theorem d15_53 : decode prog_84_method_8_code 53 = .ok (.return_, 1) := by decide +kernel
theorem pn_15 : plainName "com/example/manana/manana/storage/WaitingTable" = true := by first | (simp [plainName, overriddenIn]; done) | decide +kernel
set_option maxRecDepth 65536 in
set_option maxHeartbeats 40000000 in
theorem rmR_10 (l : Launch) (Z : State) (a0 : Array Value) (hw : ∀ d ∈ tables_1, d.before a0 Z = true) (tb : Addr) (xo : Addr) (xd : Addr) (xl : Addr) (xq : Addr) (xh : Addr) (ko : ClassId) (kd : ClassId) (kl : ClassId) (kq : ClassId) (kh : ClassId) (p0 : Int64) (p1 : Int64) (p2 : Int64) (d0 : Int64) (d1 : Int64) (d2 : Int64) (l0 : Int32) (l1 : Int32) (l2 : Int32) (q0 : Int32) (q1 : Int32) (q2 : Int32) (h0 : Heap) (n0 : Nat) (Z0 : n0 ≤ h0.size) (E_tb : Exa Z h0 tb "com/example/manana/manana/storage/WaitingTable") (FR0 : Fld Z h0 tb "com/example/manana/manana/storage/WaitingTable" "offsets" "[J" (.ref xo)) (FR1 : Fld Z h0 tb "com/example/manana/manana/storage/WaitingTable" "dues" "[J" (.ref xd)) (FR2 : Fld Z h0 tb "com/example/manana/manana/storage/WaitingTable" "lengths" "[I" (.ref xl)) (FR3 : Fld Z h0 tb "com/example/manana/manana/storage/WaitingTable" "queues" "[I" (.ref xq)) (FR4 : Fld Z h0 tb "com/example/manana/manana/storage/WaitingTable" "held" "[Z" (.ref xh)) (Ff : Fld Z h0 tb "com/example/manana/manana/storage/WaitingTable" "first" "I" (.int (0 : Int32))) (Fe : Fld Z h0 tb "com/example/manana/manana/storage/WaitingTable" "end" "I" (.int (1 : Int32))) (Fz : Fld Z h0 tb "com/example/manana/manana/storage/WaitingTable" "size" "I" (.int (1 : Int32))) (AR0 : Arv Z h0 xo ko .long 16 (own_LJ p0 p1 p2) (.long (0 : Int64))) (AR1 : Arv Z h0 xd kd .long 16 (own_LJ d0 d1 d2) (.long (0 : Int64))) (AR2 : Arv Z h0 xl kl .int 16 (own_LI l0 l1 l2) (.int (0 : Int32))) (AR3 : Arv Z h0 xq kq .int 16 (own_LI q0 q1 q2) (.int (0 : Int32))) (AR4 : Arv Z h0 xh kh .boolean 16 (own_LI (1 : Int32) (0 : Int32) (0 : Int32)) (.int (0 : Int32))) (hD : own_D tb xo xd xl xq xh) (g_tb : n0 ≤ tb) (g_xo : n0 ≤ xo) (g_xd : n0 ≤ xd) (g_xl : n0 ≤ xl) (g_xq : n0 ≤ xq) (g_xh : n0 ≤ xh) :
    Con l (⟨"com/example/manana/manana/storage/WaitingTable", "remove", "(I)V"⟩ : MethodName) prog_84_method_8_code 2 none ({ frames := 0, cells := 0, slots := 0, locals := 0 } : Room) Z #[(.ref tb), (.int (0 : Int32))] h0 (fun v h L => v = none ∧ Fr n0 L ∧ Keep h0 h [tb, xo, xd, xl, xq, xh] ∧ Exa Z h tb "com/example/manana/manana/storage/WaitingTable" ∧ Fld Z h tb "com/example/manana/manana/storage/WaitingTable" "offsets" "[J" (.ref xo) ∧ Fld Z h tb "com/example/manana/manana/storage/WaitingTable" "dues" "[J" (.ref xd) ∧ Fld Z h tb "com/example/manana/manana/storage/WaitingTable" "lengths" "[I" (.ref xl) ∧ Fld Z h tb "com/example/manana/manana/storage/WaitingTable" "queues" "[I" (.ref xq) ∧ Fld Z h tb "com/example/manana/manana/storage/WaitingTable" "held" "[Z" (.ref xh) ∧ Fld Z h tb "com/example/manana/manana/storage/WaitingTable" "first" "I" (.int (1 : Int32)) ∧ Fld Z h tb "com/example/manana/manana/storage/WaitingTable" "end" "I" (.int (1 : Int32)) ∧ Fld Z h tb "com/example/manana/manana/storage/WaitingTable" "size" "I" (.int (0 : Int32)) ∧ Arv Z h xo ko .long 16 (own_LJ p0 p1 p2) (.long (0 : Int64)) ∧ Arv Z h xd kd .long 16 (own_LJ d0 d1 d2) (.long (0 : Int64)) ∧ Arv Z h xl kl .int 16 (own_LI l0 l1 l2) (.int (0 : Int32)) ∧ Arv Z h xq kq .int 16 (own_LI q0 q1 q2) (.int (0 : Int32)) ∧ Arv Z h xh kh .boolean 16 (own_LI (nar .boolean (0 : Int32)) (0 : Int32) (0 : Int32)) (.int (0 : Int32))) := by
  refine Con.mk (plainFor_of_name pn_15) (fun m => show entryFrame m #[(.ref tb), (.int (0 : Int32))] 2 = mkF m 0 #[.val (.ref tb), .val (.int (0 : Int32))] [] by first | (simp [entryFrame, mkF, argsToLocals, Value.category]; done) | rfl) ?_
  intro p e s m below meth c s₁ hx hby hml hown hnm hret hlk hZ X0 e0
  have N0 := Fr.nil n0
  obtain ⟨ne_tb_xo, ne_tb_xd, ne_tb_xl, ne_tb_xq, ne_tb_xh, ne_xo_xd, ne_xo_xl, ne_xo_xq, ne_xo_xh, ne_xd_xl, ne_xd_xq, ne_xd_xh, ne_xl_xq, ne_xl_xh, ne_xq_xh⟩ := id hD
  show Run p e below s _ _ _ (s₁.setTop (mkF m 0 #[.val (.ref tb), .val (.int (0 : Int32))] []))
  refine Run.pre (fun _ k => XS.aloadN X0.here hx rfl (hb hby d15_0) rfl rfl k) ?_
  obtain ⟨T732, X732, e732, st732⟩ := getF X0 hx hZ hown (host := "") (Or.inl (hwi hw 20 rfl)) Via.refl e0 FR4 (g := (mkF m 1 #[.val (.ref tb), .val (.int (0 : Int32))] [(.ref tb)])) rfl rfl (hb hby d15_1)
  refine Run.pre st732 ?_
  refine Run.pre (fun _ k => XS.iloadN X732.here hx rfl (hb hby d15_4) rfl  k) ?_
  refine Run.pre (fun _ k => XS.iconst X732.here hx rfl (hb hby d15_5) k) ?_
  obtain ⟨c733, Ar733, q733, S733, N733, H733, G733⟩ := id AR4
  have hin733 : ¬ ((0 : Int32) < 0 ∨ c733.slots.size ≤ ((0 : Int32)).toNatClampNeg) := inb_of S733 ⟨by decide, by decide⟩
  obtain ⟨T734, h734, X734, e734, W734, st734⟩ := stZ X732 hx hZ e732 Ar733 (j := (0 : Int32)) hin733 (g := (mkF m 6 #[.val (.ref tb), .val (.int (0 : Int32))] [(.int (0 : Int32)), (.int (0 : Int32)), (.ref xh)])) rfl rfl (hb hby d15_6)
  refine Run.pre st734 ?_
  have V_xh_734 : Arv Z h734 xh kh .boolean (16 : Int32) (own_LI (nar .boolean (0 : Int32)) (0 : Int32) (0 : Int32)) (.int (0 : Int32)) := Arv.set Ar733 q733 S733 N733 H733 G733 (fits_nar_bool _) W734 0 rfl (Nat.le_of_ble_eq_true rfl)
  have K734 : Keep h0 h734 [tb, xo, xd, xl, xq, xh] := (Keep.refl h0 [tb, xo, xd, xl, xq, xh]).wr W734 (Or.inl (by simp))
  have N734 := Fr.snoc X734 N0 g_xh
  refine Run.pre (fun _ k => XS.aloadN X734.here hx rfl (hb hby d15_7) rfl rfl k) ?_
  show Run p e below s _ _ _ (T734.setTop (mkF m 8 #[.val (.ref tb), .val (.int (0 : Int32))] [(.ref tb)]))
  refine Run.pre (fun _ k => XS.dup X734.here hx rfl (hb hby d15_8) rfl rfl k) ?_
  have f735 := (Fz.other W734 (Or.inl ne_tb_xh))
  obtain ⟨T736, X736, e736, st736⟩ := getF X734 hx hZ hown (host := "") (Or.inl (hwi hw 27 rfl)) Via.refl e734 f735 (g := (mkF m 9 #[.val (.ref tb), .val (.int (0 : Int32))] [(.ref tb), (.ref tb)])) rfl rfl (hb hby d15_9)
  refine Run.pre st736 ?_
  refine Run.pre (fun _ k => XS.iconst X736.here hx rfl (hb hby d15_12) k) ?_
  refine Run.pre (fun _ k => XS.isub X736.here hx rfl (hb hby d15_13) rfl k) ?_
  have f737 := (E_tb.wr W734)
  obtain ⟨T738, h738, X738, e738, W738, st738⟩ := putF X736 hx hZ hown (host := "") (Or.inl (hwi hw 27 rfl)) Via.refl e736 f735 f737 (Or.inl (hwi hw 28 rfl)) (hwi hw 1 rfl) (ty := .int) (by decide) rfl rfl (g := (mkF m 14 #[.val (.ref tb), .val (.int (0 : Int32))] [(.int (0 : Int32)), (.ref tb)])) rfl rfl (hb hby d15_14)
  refine Run.pre st738 ?_
  have Fw738 := f735.same W738
  have K738 : Keep h0 h738 [tb, xo, xd, xl, xq, xh] := K734.wr W738 (Or.inl (by simp))
  have N738 := Fr.snoc X738 N734 g_tb
  refine Run.pre (fun _ k => XS.aloadN X738.here hx rfl (hb hby d15_17) rfl rfl k) ?_
  show Run p e below s _ _ _ (T738.setTop (mkF m 18 #[.val (.ref tb), .val (.int (0 : Int32))] [(.ref tb)]))
  have f739 := ((Ff.other W734 (Or.inl ne_tb_xh)).other W738 (Or.inr (slot_ne (Or.inl (hwi hw 37 rfl)) (Or.inl (hwi hw 28 rfl)) (by decide) (t := .int) (t' := .int) (by decide) (by decide))))
  obtain ⟨T740, X740, e740, st740⟩ := getF X738 hx hZ hown (host := "") (Or.inl (hwi hw 36 rfl)) Via.refl e738 f739 (g := (mkF m 18 #[.val (.ref tb), .val (.int (0 : Int32))] [(.ref tb)])) rfl rfl (hb hby d15_18)
  refine Run.pre st740 ?_
  refine Run.pre (fun _ k => XS.aloadN X740.here hx rfl (hb hby d15_21) rfl rfl k) ?_
  have f741 := ((Fe.other W734 (Or.inl ne_tb_xh)).other W738 (Or.inr (slot_ne (Or.inl (hwi hw 35 rfl)) (Or.inl (hwi hw 28 rfl)) (by decide) (t := .int) (t' := .int) (by decide) (by decide))))
  obtain ⟨T742, X742, e742, st742⟩ := getF X740 hx hZ hown (host := "") (Or.inl (hwi hw 34 rfl)) Via.refl e740 f741 (g := (mkF m 22 #[.val (.ref tb), .val (.int (0 : Int32))] [(.ref tb), (.int (0 : Int32))])) rfl rfl (hb hby d15_22)
  refine Run.pre st742 ?_
  refine Run.pre (fun _ k => XS.icmpNo X742.here hx rfl (hb hby d15_25) rfl (tlt ((by decide) : (0 : Int32) < (1 : Int32))).2.1 k) ?_
  refine Run.pre (fun _ k => XS.aloadN X742.here hx rfl (hb hby d15_28) rfl rfl k) ?_
  have f743 := ((FR4.other W734 (Or.inl ne_tb_xh)).other W738 (Or.inr (slot_ne (Or.inl (hwi hw 21 rfl)) (Or.inl (hwi hw 28 rfl)) (by decide) (t := (.array .boolean)) (t' := .int) (by decide) (by decide))))
  obtain ⟨T744, X744, e744, st744⟩ := getF X742 hx hZ hown (host := "") (Or.inl (hwi hw 20 rfl)) Via.refl e742 f743 (g := (mkF m 29 #[.val (.ref tb), .val (.int (0 : Int32))] [(.ref tb)])) rfl rfl (hb hby d15_29)
  refine Run.pre st744 ?_
  show Run p e below s _ _ _ (T744.setTop (mkF m 32 #[.val (.ref tb), .val (.int (0 : Int32))] [(.ref xh)]))
  refine Run.pre (fun _ k => XS.aloadN X744.here hx rfl (hb hby d15_32) rfl rfl k) ?_
  obtain ⟨T745, X745, e745, st745⟩ := getF X744 hx hZ hown (host := "") (Or.inl (hwi hw 36 rfl)) Via.refl e744 f739 (g := (mkF m 33 #[.val (.ref tb), .val (.int (0 : Int32))] [(.ref tb), (.ref xh)])) rfl rfl (hb hby d15_33)
  refine Run.pre st745 ?_
  have f746 := (V_xh_734.other W738 (Ne.symm ne_tb_xh))
  obtain ⟨c747, Ar747, -, S747, N747, H747, -⟩ := id f746
  have hin747 : ¬ ((0 : Int32) < 0 ∨ c747.slots.size ≤ ((0 : Int32)).toNatClampNeg) := inb_of S747 ⟨by decide, by decide⟩
  refine Run.pre (X745.baloadBooleans hx (j := (0 : Int32)) (v := (.int (nar .boolean (0 : Int32)))) (by rw [e745]; exact Ar747.1) (State.isArrayOf_alike hZ.alike Ar747.2.1) Ar747.2.2 hin747 (H747.at hin747 rfl) (g := (mkF m 36 #[.val (.ref tb), .val (.int (0 : Int32))] [(.int (0 : Int32)), (.ref xh)])) rfl rfl (hb hby d15_36)) ?_
  refine Run.pre (fun _ k => XS.ifNo X745.here hx rfl (hb hby d15_37) rfl ((if0 _ _).trans (teq ((by decide) : (nar .boolean (0 : Int32)) = (0 : Int32))).2) k) ?_
  refine Run.pre (fun _ k => XS.aloadN X745.here hx rfl (hb hby d15_40) rfl rfl k) ?_
  refine Run.pre (fun _ k => XS.dup X745.here hx rfl (hb hby d15_41) rfl rfl k) ?_
  show Run p e below s _ _ _ (T745.setTop (mkF m 42 #[.val (.ref tb), .val (.int (0 : Int32))] [(.ref tb), (.ref tb)]))
  obtain ⟨T748, X748, e748, st748⟩ := getF X745 hx hZ hown (host := "") (Or.inl (hwi hw 36 rfl)) Via.refl e745 f739 (g := (mkF m 42 #[.val (.ref tb), .val (.int (0 : Int32))] [(.ref tb), (.ref tb)])) rfl rfl (hb hby d15_42)
  refine Run.pre st748 ?_
  refine Run.pre (fun _ k => XS.iconst X748.here hx rfl (hb hby d15_45) k) ?_
  refine Run.pre (fun _ k => XS.iadd X748.here hx rfl (hb hby d15_46) rfl k) ?_
  have f749 := (f737.wr W738)
  obtain ⟨T750, h750, X750, e750, W750, st750⟩ := putF X748 hx hZ hown (host := "") (Or.inl (hwi hw 36 rfl)) Via.refl e748 f739 f749 (Or.inl (hwi hw 37 rfl)) (hwi hw 1 rfl) (ty := .int) (by decide) rfl rfl (g := (mkF m 47 #[.val (.ref tb), .val (.int (0 : Int32))] [(.int (1 : Int32)), (.ref tb)])) rfl rfl (hb hby d15_47)
  refine Run.pre st750 ?_
  have Fw750 := f739.same W750
  have K750 : Keep h0 h750 [tb, xo, xd, xl, xq, xh] := K738.wr W750 (Or.inl (by simp))
  have N750 := Fr.snoc X750 N738 g_tb
  refine Run.pre (fun _ k => XS.goto X750.here hx rfl (pc0 := 50) (pc' := 17) rfl (hb hby d15_50) (by decide) (by decide) k) ?_
  refine Run.pre (fun _ k => XS.aloadN X750.here hx rfl (hb hby d15_17) rfl rfl k) ?_
  show Run p e below s _ _ _ (T750.setTop (mkF m 18 #[.val (.ref tb), .val (.int (0 : Int32))] [(.ref tb)]))
  obtain ⟨T751, X751, e751, st751⟩ := getF X750 hx hZ hown (host := "") (Or.inl (hwi hw 36 rfl)) Via.refl e750 Fw750 (g := (mkF m 18 #[.val (.ref tb), .val (.int (0 : Int32))] [(.ref tb)])) rfl rfl (hb hby d15_18)
  refine Run.pre st751 ?_
  refine Run.pre (fun _ k => XS.aloadN X751.here hx rfl (hb hby d15_21) rfl rfl k) ?_
  have f752 := (f741.other W750 (Or.inr (slot_ne (Or.inl (hwi hw 35 rfl)) (Or.inl (hwi hw 37 rfl)) (by decide) (t := .int) (t' := .int) (by decide) (by decide))))
  obtain ⟨T753, X753, e753, st753⟩ := getF X751 hx hZ hown (host := "") (Or.inl (hwi hw 34 rfl)) Via.refl e751 f752 (g := (mkF m 22 #[.val (.ref tb), .val (.int (0 : Int32))] [(.ref tb), (.int (1 : Int32))])) rfl rfl (hb hby d15_22)
  refine Run.pre st753 ?_
  refine Run.pre (fun _ k => XS.icmpYes X753.here hx rfl (pc0 := 25) (pc' := 53) rfl (hb hby d15_25) rfl (flt ((by decide) : ¬ ((1 : Int32) < (1 : Int32)))).2.1 (by decide) (by decide) k) ?_
  have f754 := (f749.wr W750)
  have f755 := (((FR0.other W734 (Or.inl ne_tb_xh)).other W738 (Or.inr (slot_ne (Or.inl (hwi hw 11 rfl)) (Or.inl (hwi hw 28 rfl)) (by decide) (t := (.array .long)) (t' := .int) (by decide) (by decide)))).other W750 (Or.inr (slot_ne (Or.inl (hwi hw 11 rfl)) (Or.inl (hwi hw 37 rfl)) (by decide) (t := (.array .long)) (t' := .int) (by decide) (by decide))))
  have f756 := (((FR1.other W734 (Or.inl ne_tb_xh)).other W738 (Or.inr (slot_ne (Or.inl (hwi hw 13 rfl)) (Or.inl (hwi hw 28 rfl)) (by decide) (t := (.array .long)) (t' := .int) (by decide) (by decide)))).other W750 (Or.inr (slot_ne (Or.inl (hwi hw 13 rfl)) (Or.inl (hwi hw 37 rfl)) (by decide) (t := (.array .long)) (t' := .int) (by decide) (by decide))))
  have f757 := (((FR2.other W734 (Or.inl ne_tb_xh)).other W738 (Or.inr (slot_ne (Or.inl (hwi hw 16 rfl)) (Or.inl (hwi hw 28 rfl)) (by decide) (t := (.array .int)) (t' := .int) (by decide) (by decide)))).other W750 (Or.inr (slot_ne (Or.inl (hwi hw 16 rfl)) (Or.inl (hwi hw 37 rfl)) (by decide) (t := (.array .int)) (t' := .int) (by decide) (by decide))))
  have f758 := (((FR3.other W734 (Or.inl ne_tb_xh)).other W738 (Or.inr (slot_ne (Or.inl (hwi hw 18 rfl)) (Or.inl (hwi hw 28 rfl)) (by decide) (t := (.array .int)) (t' := .int) (by decide) (by decide)))).other W750 (Or.inr (slot_ne (Or.inl (hwi hw 18 rfl)) (Or.inl (hwi hw 37 rfl)) (by decide) (t := (.array .int)) (t' := .int) (by decide) (by decide))))
  have f759 := (f743.other W750 (Or.inr (slot_ne (Or.inl (hwi hw 21 rfl)) (Or.inl (hwi hw 37 rfl)) (by decide) (t := (.array .boolean)) (t' := .int) (by decide) (by decide))))
  have f760 := (Fw738.other W750 (Or.inr (slot_ne (Or.inl (hwi hw 28 rfl)) (Or.inl (hwi hw 37 rfl)) (by decide) (t := .int) (t' := .int) (by decide) (by decide))))
  have f761 := (((AR0.other W734 ne_xo_xh).other W738 (Ne.symm ne_tb_xo)).other W750 (Ne.symm ne_tb_xo))
  have f762 := (((AR1.other W734 ne_xd_xh).other W738 (Ne.symm ne_tb_xd)).other W750 (Ne.symm ne_tb_xd))
  have f763 := (((AR2.other W734 ne_xl_xh).other W738 (Ne.symm ne_tb_xl)).other W750 (Ne.symm ne_tb_xl))
  have f764 := (((AR3.other W734 ne_xq_xh).other W738 (Ne.symm ne_tb_xq)).other W750 (Ne.symm ne_tb_xq))
  have f765 := (f746.other W750 (Ne.symm ne_tb_xh))
  exact Run.retV X753 hx hret hlk (hb hby d15_53) (by first | (rw [e753]; exact ⟨rfl, N750, K750, f754, f755, f756, f757, f758, f759, Fw750, f752, f760, f761, f762, f763, f764, f765⟩) | exact ⟨rfl, N750, K750, f754, f755, f756, f757, f758, f759, Fw750, f752, f760, f761, f762, f763, f764, f765⟩) (by decide) (by decide)
set_option maxRecDepth 65536 in
set_option maxHeartbeats 40000000 in
theorem rmR_20 (l : Launch) (Z : State) (a0 : Array Value) (hw : ∀ d ∈ tables_1, d.before a0 Z = true) (tb : Addr) (xo : Addr) (xd : Addr) (xl : Addr) (xq : Addr) (xh : Addr) (ko : ClassId) (kd : ClassId) (kl : ClassId) (kq : ClassId) (kh : ClassId) (p0 : Int64) (p1 : Int64) (p2 : Int64) (d0 : Int64) (d1 : Int64) (d2 : Int64) (l0 : Int32) (l1 : Int32) (l2 : Int32) (q0 : Int32) (q1 : Int32) (q2 : Int32) (h0 : Heap) (n0 : Nat) (Z0 : n0 ≤ h0.size) (E_tb : Exa Z h0 tb "com/example/manana/manana/storage/WaitingTable") (FR0 : Fld Z h0 tb "com/example/manana/manana/storage/WaitingTable" "offsets" "[J" (.ref xo)) (FR1 : Fld Z h0 tb "com/example/manana/manana/storage/WaitingTable" "dues" "[J" (.ref xd)) (FR2 : Fld Z h0 tb "com/example/manana/manana/storage/WaitingTable" "lengths" "[I" (.ref xl)) (FR3 : Fld Z h0 tb "com/example/manana/manana/storage/WaitingTable" "queues" "[I" (.ref xq)) (FR4 : Fld Z h0 tb "com/example/manana/manana/storage/WaitingTable" "held" "[Z" (.ref xh)) (Ff : Fld Z h0 tb "com/example/manana/manana/storage/WaitingTable" "first" "I" (.int (0 : Int32))) (Fe : Fld Z h0 tb "com/example/manana/manana/storage/WaitingTable" "end" "I" (.int (2 : Int32))) (Fz : Fld Z h0 tb "com/example/manana/manana/storage/WaitingTable" "size" "I" (.int (2 : Int32))) (AR0 : Arv Z h0 xo ko .long 16 (own_LJ p0 p1 p2) (.long (0 : Int64))) (AR1 : Arv Z h0 xd kd .long 16 (own_LJ d0 d1 d2) (.long (0 : Int64))) (AR2 : Arv Z h0 xl kl .int 16 (own_LI l0 l1 l2) (.int (0 : Int32))) (AR3 : Arv Z h0 xq kq .int 16 (own_LI q0 q1 q2) (.int (0 : Int32))) (AR4 : Arv Z h0 xh kh .boolean 16 (own_LI (1 : Int32) (1 : Int32) (0 : Int32)) (.int (0 : Int32))) (hD : own_D tb xo xd xl xq xh) (g_tb : n0 ≤ tb) (g_xo : n0 ≤ xo) (g_xd : n0 ≤ xd) (g_xl : n0 ≤ xl) (g_xq : n0 ≤ xq) (g_xh : n0 ≤ xh) :
    Con l (⟨"com/example/manana/manana/storage/WaitingTable", "remove", "(I)V"⟩ : MethodName) prog_84_method_8_code 2 none ({ frames := 0, cells := 0, slots := 0, locals := 0 } : Room) Z #[(.ref tb), (.int (0 : Int32))] h0 (fun v h L => v = none ∧ Fr n0 L ∧ Keep h0 h [tb, xo, xd, xl, xq, xh] ∧ Exa Z h tb "com/example/manana/manana/storage/WaitingTable" ∧ Fld Z h tb "com/example/manana/manana/storage/WaitingTable" "offsets" "[J" (.ref xo) ∧ Fld Z h tb "com/example/manana/manana/storage/WaitingTable" "dues" "[J" (.ref xd) ∧ Fld Z h tb "com/example/manana/manana/storage/WaitingTable" "lengths" "[I" (.ref xl) ∧ Fld Z h tb "com/example/manana/manana/storage/WaitingTable" "queues" "[I" (.ref xq) ∧ Fld Z h tb "com/example/manana/manana/storage/WaitingTable" "held" "[Z" (.ref xh) ∧ Fld Z h tb "com/example/manana/manana/storage/WaitingTable" "first" "I" (.int (1 : Int32)) ∧ Fld Z h tb "com/example/manana/manana/storage/WaitingTable" "end" "I" (.int (2 : Int32)) ∧ Fld Z h tb "com/example/manana/manana/storage/WaitingTable" "size" "I" (.int (1 : Int32)) ∧ Arv Z h xo ko .long 16 (own_LJ p0 p1 p2) (.long (0 : Int64)) ∧ Arv Z h xd kd .long 16 (own_LJ d0 d1 d2) (.long (0 : Int64)) ∧ Arv Z h xl kl .int 16 (own_LI l0 l1 l2) (.int (0 : Int32)) ∧ Arv Z h xq kq .int 16 (own_LI q0 q1 q2) (.int (0 : Int32)) ∧ Arv Z h xh kh .boolean 16 (own_LI (nar .boolean (0 : Int32)) (1 : Int32) (0 : Int32)) (.int (0 : Int32))) := by
  refine Con.mk (plainFor_of_name pn_15) (fun m => show entryFrame m #[(.ref tb), (.int (0 : Int32))] 2 = mkF m 0 #[.val (.ref tb), .val (.int (0 : Int32))] [] by first | (simp [entryFrame, mkF, argsToLocals, Value.category]; done) | rfl) ?_
  intro p e s m below meth c s₁ hx hby hml hown hnm hret hlk hZ X0 e0
  have N0 := Fr.nil n0
  obtain ⟨ne_tb_xo, ne_tb_xd, ne_tb_xl, ne_tb_xq, ne_tb_xh, ne_xo_xd, ne_xo_xl, ne_xo_xq, ne_xo_xh, ne_xd_xl, ne_xd_xq, ne_xd_xh, ne_xl_xq, ne_xl_xh, ne_xq_xh⟩ := id hD
  show Run p e below s _ _ _ (s₁.setTop (mkF m 0 #[.val (.ref tb), .val (.int (0 : Int32))] []))
  refine Run.pre (fun _ k => XS.aloadN X0.here hx rfl (hb hby d15_0) rfl rfl k) ?_
  obtain ⟨T766, X766, e766, st766⟩ := getF X0 hx hZ hown (host := "") (Or.inl (hwi hw 20 rfl)) Via.refl e0 FR4 (g := (mkF m 1 #[.val (.ref tb), .val (.int (0 : Int32))] [(.ref tb)])) rfl rfl (hb hby d15_1)
  refine Run.pre st766 ?_
  refine Run.pre (fun _ k => XS.iloadN X766.here hx rfl (hb hby d15_4) rfl  k) ?_
  refine Run.pre (fun _ k => XS.iconst X766.here hx rfl (hb hby d15_5) k) ?_
  obtain ⟨c767, Ar767, q767, S767, N767, H767, G767⟩ := id AR4
  have hin767 : ¬ ((0 : Int32) < 0 ∨ c767.slots.size ≤ ((0 : Int32)).toNatClampNeg) := inb_of S767 ⟨by decide, by decide⟩
  obtain ⟨T768, h768, X768, e768, W768, st768⟩ := stZ X766 hx hZ e766 Ar767 (j := (0 : Int32)) hin767 (g := (mkF m 6 #[.val (.ref tb), .val (.int (0 : Int32))] [(.int (0 : Int32)), (.int (0 : Int32)), (.ref xh)])) rfl rfl (hb hby d15_6)
  refine Run.pre st768 ?_
  have V_xh_768 : Arv Z h768 xh kh .boolean (16 : Int32) (own_LI (nar .boolean (0 : Int32)) (1 : Int32) (0 : Int32)) (.int (0 : Int32)) := Arv.set Ar767 q767 S767 N767 H767 G767 (fits_nar_bool _) W768 0 rfl (Nat.le_of_ble_eq_true rfl)
  have K768 : Keep h0 h768 [tb, xo, xd, xl, xq, xh] := (Keep.refl h0 [tb, xo, xd, xl, xq, xh]).wr W768 (Or.inl (by simp))
  have N768 := Fr.snoc X768 N0 g_xh
  refine Run.pre (fun _ k => XS.aloadN X768.here hx rfl (hb hby d15_7) rfl rfl k) ?_
  show Run p e below s _ _ _ (T768.setTop (mkF m 8 #[.val (.ref tb), .val (.int (0 : Int32))] [(.ref tb)]))
  refine Run.pre (fun _ k => XS.dup X768.here hx rfl (hb hby d15_8) rfl rfl k) ?_
  have f769 := (Fz.other W768 (Or.inl ne_tb_xh))
  obtain ⟨T770, X770, e770, st770⟩ := getF X768 hx hZ hown (host := "") (Or.inl (hwi hw 27 rfl)) Via.refl e768 f769 (g := (mkF m 9 #[.val (.ref tb), .val (.int (0 : Int32))] [(.ref tb), (.ref tb)])) rfl rfl (hb hby d15_9)
  refine Run.pre st770 ?_
  refine Run.pre (fun _ k => XS.iconst X770.here hx rfl (hb hby d15_12) k) ?_
  refine Run.pre (fun _ k => XS.isub X770.here hx rfl (hb hby d15_13) rfl k) ?_
  have f771 := (E_tb.wr W768)
  obtain ⟨T772, h772, X772, e772, W772, st772⟩ := putF X770 hx hZ hown (host := "") (Or.inl (hwi hw 27 rfl)) Via.refl e770 f769 f771 (Or.inl (hwi hw 28 rfl)) (hwi hw 1 rfl) (ty := .int) (by decide) rfl rfl (g := (mkF m 14 #[.val (.ref tb), .val (.int (0 : Int32))] [(.int (1 : Int32)), (.ref tb)])) rfl rfl (hb hby d15_14)
  refine Run.pre st772 ?_
  have Fw772 := f769.same W772
  have K772 : Keep h0 h772 [tb, xo, xd, xl, xq, xh] := K768.wr W772 (Or.inl (by simp))
  have N772 := Fr.snoc X772 N768 g_tb
  refine Run.pre (fun _ k => XS.aloadN X772.here hx rfl (hb hby d15_17) rfl rfl k) ?_
  show Run p e below s _ _ _ (T772.setTop (mkF m 18 #[.val (.ref tb), .val (.int (0 : Int32))] [(.ref tb)]))
  have f773 := ((Ff.other W768 (Or.inl ne_tb_xh)).other W772 (Or.inr (slot_ne (Or.inl (hwi hw 37 rfl)) (Or.inl (hwi hw 28 rfl)) (by decide) (t := .int) (t' := .int) (by decide) (by decide))))
  obtain ⟨T774, X774, e774, st774⟩ := getF X772 hx hZ hown (host := "") (Or.inl (hwi hw 36 rfl)) Via.refl e772 f773 (g := (mkF m 18 #[.val (.ref tb), .val (.int (0 : Int32))] [(.ref tb)])) rfl rfl (hb hby d15_18)
  refine Run.pre st774 ?_
  refine Run.pre (fun _ k => XS.aloadN X774.here hx rfl (hb hby d15_21) rfl rfl k) ?_
  have f775 := ((Fe.other W768 (Or.inl ne_tb_xh)).other W772 (Or.inr (slot_ne (Or.inl (hwi hw 35 rfl)) (Or.inl (hwi hw 28 rfl)) (by decide) (t := .int) (t' := .int) (by decide) (by decide))))
  obtain ⟨T776, X776, e776, st776⟩ := getF X774 hx hZ hown (host := "") (Or.inl (hwi hw 34 rfl)) Via.refl e774 f775 (g := (mkF m 22 #[.val (.ref tb), .val (.int (0 : Int32))] [(.ref tb), (.int (0 : Int32))])) rfl rfl (hb hby d15_22)
  refine Run.pre st776 ?_
  refine Run.pre (fun _ k => XS.icmpNo X776.here hx rfl (hb hby d15_25) rfl (tlt ((by decide) : (0 : Int32) < (2 : Int32))).2.1 k) ?_
  refine Run.pre (fun _ k => XS.aloadN X776.here hx rfl (hb hby d15_28) rfl rfl k) ?_
  have f777 := ((FR4.other W768 (Or.inl ne_tb_xh)).other W772 (Or.inr (slot_ne (Or.inl (hwi hw 21 rfl)) (Or.inl (hwi hw 28 rfl)) (by decide) (t := (.array .boolean)) (t' := .int) (by decide) (by decide))))
  obtain ⟨T778, X778, e778, st778⟩ := getF X776 hx hZ hown (host := "") (Or.inl (hwi hw 20 rfl)) Via.refl e776 f777 (g := (mkF m 29 #[.val (.ref tb), .val (.int (0 : Int32))] [(.ref tb)])) rfl rfl (hb hby d15_29)
  refine Run.pre st778 ?_
  show Run p e below s _ _ _ (T778.setTop (mkF m 32 #[.val (.ref tb), .val (.int (0 : Int32))] [(.ref xh)]))
  refine Run.pre (fun _ k => XS.aloadN X778.here hx rfl (hb hby d15_32) rfl rfl k) ?_
  obtain ⟨T779, X779, e779, st779⟩ := getF X778 hx hZ hown (host := "") (Or.inl (hwi hw 36 rfl)) Via.refl e778 f773 (g := (mkF m 33 #[.val (.ref tb), .val (.int (0 : Int32))] [(.ref tb), (.ref xh)])) rfl rfl (hb hby d15_33)
  refine Run.pre st779 ?_
  have f780 := (V_xh_768.other W772 (Ne.symm ne_tb_xh))
  obtain ⟨c781, Ar781, -, S781, N781, H781, -⟩ := id f780
  have hin781 : ¬ ((0 : Int32) < 0 ∨ c781.slots.size ≤ ((0 : Int32)).toNatClampNeg) := inb_of S781 ⟨by decide, by decide⟩
  refine Run.pre (X779.baloadBooleans hx (j := (0 : Int32)) (v := (.int (nar .boolean (0 : Int32)))) (by rw [e779]; exact Ar781.1) (State.isArrayOf_alike hZ.alike Ar781.2.1) Ar781.2.2 hin781 (H781.at hin781 rfl) (g := (mkF m 36 #[.val (.ref tb), .val (.int (0 : Int32))] [(.int (0 : Int32)), (.ref xh)])) rfl rfl (hb hby d15_36)) ?_
  refine Run.pre (fun _ k => XS.ifNo X779.here hx rfl (hb hby d15_37) rfl ((if0 _ _).trans (teq ((by decide) : (nar .boolean (0 : Int32)) = (0 : Int32))).2) k) ?_
  refine Run.pre (fun _ k => XS.aloadN X779.here hx rfl (hb hby d15_40) rfl rfl k) ?_
  refine Run.pre (fun _ k => XS.dup X779.here hx rfl (hb hby d15_41) rfl rfl k) ?_
  show Run p e below s _ _ _ (T779.setTop (mkF m 42 #[.val (.ref tb), .val (.int (0 : Int32))] [(.ref tb), (.ref tb)]))
  obtain ⟨T782, X782, e782, st782⟩ := getF X779 hx hZ hown (host := "") (Or.inl (hwi hw 36 rfl)) Via.refl e779 f773 (g := (mkF m 42 #[.val (.ref tb), .val (.int (0 : Int32))] [(.ref tb), (.ref tb)])) rfl rfl (hb hby d15_42)
  refine Run.pre st782 ?_
  refine Run.pre (fun _ k => XS.iconst X782.here hx rfl (hb hby d15_45) k) ?_
  refine Run.pre (fun _ k => XS.iadd X782.here hx rfl (hb hby d15_46) rfl k) ?_
  have f783 := (f771.wr W772)
  obtain ⟨T784, h784, X784, e784, W784, st784⟩ := putF X782 hx hZ hown (host := "") (Or.inl (hwi hw 36 rfl)) Via.refl e782 f773 f783 (Or.inl (hwi hw 37 rfl)) (hwi hw 1 rfl) (ty := .int) (by decide) rfl rfl (g := (mkF m 47 #[.val (.ref tb), .val (.int (0 : Int32))] [(.int (1 : Int32)), (.ref tb)])) rfl rfl (hb hby d15_47)
  refine Run.pre st784 ?_
  have Fw784 := f773.same W784
  have K784 : Keep h0 h784 [tb, xo, xd, xl, xq, xh] := K772.wr W784 (Or.inl (by simp))
  have N784 := Fr.snoc X784 N772 g_tb
  refine Run.pre (fun _ k => XS.goto X784.here hx rfl (pc0 := 50) (pc' := 17) rfl (hb hby d15_50) (by decide) (by decide) k) ?_
  refine Run.pre (fun _ k => XS.aloadN X784.here hx rfl (hb hby d15_17) rfl rfl k) ?_
  show Run p e below s _ _ _ (T784.setTop (mkF m 18 #[.val (.ref tb), .val (.int (0 : Int32))] [(.ref tb)]))
  obtain ⟨T785, X785, e785, st785⟩ := getF X784 hx hZ hown (host := "") (Or.inl (hwi hw 36 rfl)) Via.refl e784 Fw784 (g := (mkF m 18 #[.val (.ref tb), .val (.int (0 : Int32))] [(.ref tb)])) rfl rfl (hb hby d15_18)
  refine Run.pre st785 ?_
  refine Run.pre (fun _ k => XS.aloadN X785.here hx rfl (hb hby d15_21) rfl rfl k) ?_
  have f786 := (f775.other W784 (Or.inr (slot_ne (Or.inl (hwi hw 35 rfl)) (Or.inl (hwi hw 37 rfl)) (by decide) (t := .int) (t' := .int) (by decide) (by decide))))
  obtain ⟨T787, X787, e787, st787⟩ := getF X785 hx hZ hown (host := "") (Or.inl (hwi hw 34 rfl)) Via.refl e785 f786 (g := (mkF m 22 #[.val (.ref tb), .val (.int (0 : Int32))] [(.ref tb), (.int (1 : Int32))])) rfl rfl (hb hby d15_22)
  refine Run.pre st787 ?_
  refine Run.pre (fun _ k => XS.icmpNo X787.here hx rfl (hb hby d15_25) rfl (tlt ((by decide) : (1 : Int32) < (2 : Int32))).2.1 k) ?_
  refine Run.pre (fun _ k => XS.aloadN X787.here hx rfl (hb hby d15_28) rfl rfl k) ?_
  have f788 := (f777.other W784 (Or.inr (slot_ne (Or.inl (hwi hw 21 rfl)) (Or.inl (hwi hw 37 rfl)) (by decide) (t := (.array .boolean)) (t' := .int) (by decide) (by decide))))
  obtain ⟨T789, X789, e789, st789⟩ := getF X787 hx hZ hown (host := "") (Or.inl (hwi hw 20 rfl)) Via.refl e787 f788 (g := (mkF m 29 #[.val (.ref tb), .val (.int (0 : Int32))] [(.ref tb)])) rfl rfl (hb hby d15_29)
  refine Run.pre st789 ?_
  show Run p e below s _ _ _ (T789.setTop (mkF m 32 #[.val (.ref tb), .val (.int (0 : Int32))] [(.ref xh)]))
  refine Run.pre (fun _ k => XS.aloadN X789.here hx rfl (hb hby d15_32) rfl rfl k) ?_
  obtain ⟨T790, X790, e790, st790⟩ := getF X789 hx hZ hown (host := "") (Or.inl (hwi hw 36 rfl)) Via.refl e789 Fw784 (g := (mkF m 33 #[.val (.ref tb), .val (.int (0 : Int32))] [(.ref tb), (.ref xh)])) rfl rfl (hb hby d15_33)
  refine Run.pre st790 ?_
  have f791 := (f780.other W784 (Ne.symm ne_tb_xh))
  obtain ⟨c792, Ar792, -, S792, N792, H792, -⟩ := id f791
  have hin792 : ¬ ((1 : Int32) < 0 ∨ c792.slots.size ≤ ((1 : Int32)).toNatClampNeg) := inb_of S792 ⟨by decide, by decide⟩
  refine Run.pre (X790.baloadBooleans hx (j := (1 : Int32)) (v := (.int (1 : Int32))) (by rw [e790]; exact Ar792.1) (State.isArrayOf_alike hZ.alike Ar792.2.1) Ar792.2.2 hin792 (H792.at hin792 rfl) (g := (mkF m 36 #[.val (.ref tb), .val (.int (0 : Int32))] [(.int (1 : Int32)), (.ref xh)])) rfl rfl (hb hby d15_36)) ?_
  refine Run.pre (fun _ k => XS.ifYes X790.here hx rfl (pc0 := 37) (pc' := 53) rfl (hb hby d15_37) rfl ((if0 _ _).trans (feq ((by decide) : ¬ ((1 : Int32) = (0 : Int32)))).2) (by decide) (by decide) k) ?_
  have f793 := (f783.wr W784)
  have f794 := (((FR0.other W768 (Or.inl ne_tb_xh)).other W772 (Or.inr (slot_ne (Or.inl (hwi hw 11 rfl)) (Or.inl (hwi hw 28 rfl)) (by decide) (t := (.array .long)) (t' := .int) (by decide) (by decide)))).other W784 (Or.inr (slot_ne (Or.inl (hwi hw 11 rfl)) (Or.inl (hwi hw 37 rfl)) (by decide) (t := (.array .long)) (t' := .int) (by decide) (by decide))))
  have f795 := (((FR1.other W768 (Or.inl ne_tb_xh)).other W772 (Or.inr (slot_ne (Or.inl (hwi hw 13 rfl)) (Or.inl (hwi hw 28 rfl)) (by decide) (t := (.array .long)) (t' := .int) (by decide) (by decide)))).other W784 (Or.inr (slot_ne (Or.inl (hwi hw 13 rfl)) (Or.inl (hwi hw 37 rfl)) (by decide) (t := (.array .long)) (t' := .int) (by decide) (by decide))))
  have f796 := (((FR2.other W768 (Or.inl ne_tb_xh)).other W772 (Or.inr (slot_ne (Or.inl (hwi hw 16 rfl)) (Or.inl (hwi hw 28 rfl)) (by decide) (t := (.array .int)) (t' := .int) (by decide) (by decide)))).other W784 (Or.inr (slot_ne (Or.inl (hwi hw 16 rfl)) (Or.inl (hwi hw 37 rfl)) (by decide) (t := (.array .int)) (t' := .int) (by decide) (by decide))))
  have f797 := (((FR3.other W768 (Or.inl ne_tb_xh)).other W772 (Or.inr (slot_ne (Or.inl (hwi hw 18 rfl)) (Or.inl (hwi hw 28 rfl)) (by decide) (t := (.array .int)) (t' := .int) (by decide) (by decide)))).other W784 (Or.inr (slot_ne (Or.inl (hwi hw 18 rfl)) (Or.inl (hwi hw 37 rfl)) (by decide) (t := (.array .int)) (t' := .int) (by decide) (by decide))))
  have f798 := (Fw772.other W784 (Or.inr (slot_ne (Or.inl (hwi hw 28 rfl)) (Or.inl (hwi hw 37 rfl)) (by decide) (t := .int) (t' := .int) (by decide) (by decide))))
  have f799 := (((AR0.other W768 ne_xo_xh).other W772 (Ne.symm ne_tb_xo)).other W784 (Ne.symm ne_tb_xo))
  have f800 := (((AR1.other W768 ne_xd_xh).other W772 (Ne.symm ne_tb_xd)).other W784 (Ne.symm ne_tb_xd))
  have f801 := (((AR2.other W768 ne_xl_xh).other W772 (Ne.symm ne_tb_xl)).other W784 (Ne.symm ne_tb_xl))
  have f802 := (((AR3.other W768 ne_xq_xh).other W772 (Ne.symm ne_tb_xq)).other W784 (Ne.symm ne_tb_xq))
  exact Run.retV X790 hx hret hlk (hb hby d15_53) (by first | (rw [e790]; exact ⟨rfl, N784, K784, f793, f794, f795, f796, f797, f788, Fw784, f786, f798, f799, f800, f801, f802, f791⟩) | exact ⟨rfl, N784, K784, f793, f794, f795, f796, f797, f788, Fw784, f786, f798, f799, f800, f801, f802, f791⟩) (by decide) (by decide)
set_option maxRecDepth 65536 in
set_option maxHeartbeats 40000000 in
theorem rmR_21 (l : Launch) (Z : State) (a0 : Array Value) (hw : ∀ d ∈ tables_1, d.before a0 Z = true) (tb : Addr) (xo : Addr) (xd : Addr) (xl : Addr) (xq : Addr) (xh : Addr) (ko : ClassId) (kd : ClassId) (kl : ClassId) (kq : ClassId) (kh : ClassId) (p0 : Int64) (p1 : Int64) (p2 : Int64) (d0 : Int64) (d1 : Int64) (d2 : Int64) (l0 : Int32) (l1 : Int32) (l2 : Int32) (q0 : Int32) (q1 : Int32) (q2 : Int32) (h0 : Heap) (n0 : Nat) (Z0 : n0 ≤ h0.size) (E_tb : Exa Z h0 tb "com/example/manana/manana/storage/WaitingTable") (FR0 : Fld Z h0 tb "com/example/manana/manana/storage/WaitingTable" "offsets" "[J" (.ref xo)) (FR1 : Fld Z h0 tb "com/example/manana/manana/storage/WaitingTable" "dues" "[J" (.ref xd)) (FR2 : Fld Z h0 tb "com/example/manana/manana/storage/WaitingTable" "lengths" "[I" (.ref xl)) (FR3 : Fld Z h0 tb "com/example/manana/manana/storage/WaitingTable" "queues" "[I" (.ref xq)) (FR4 : Fld Z h0 tb "com/example/manana/manana/storage/WaitingTable" "held" "[Z" (.ref xh)) (Ff : Fld Z h0 tb "com/example/manana/manana/storage/WaitingTable" "first" "I" (.int (0 : Int32))) (Fe : Fld Z h0 tb "com/example/manana/manana/storage/WaitingTable" "end" "I" (.int (2 : Int32))) (Fz : Fld Z h0 tb "com/example/manana/manana/storage/WaitingTable" "size" "I" (.int (2 : Int32))) (AR0 : Arv Z h0 xo ko .long 16 (own_LJ p0 p1 p2) (.long (0 : Int64))) (AR1 : Arv Z h0 xd kd .long 16 (own_LJ d0 d1 d2) (.long (0 : Int64))) (AR2 : Arv Z h0 xl kl .int 16 (own_LI l0 l1 l2) (.int (0 : Int32))) (AR3 : Arv Z h0 xq kq .int 16 (own_LI q0 q1 q2) (.int (0 : Int32))) (AR4 : Arv Z h0 xh kh .boolean 16 (own_LI (1 : Int32) (1 : Int32) (0 : Int32)) (.int (0 : Int32))) (hD : own_D tb xo xd xl xq xh) (g_tb : n0 ≤ tb) (g_xo : n0 ≤ xo) (g_xd : n0 ≤ xd) (g_xl : n0 ≤ xl) (g_xq : n0 ≤ xq) (g_xh : n0 ≤ xh) :
    Con l (⟨"com/example/manana/manana/storage/WaitingTable", "remove", "(I)V"⟩ : MethodName) prog_84_method_8_code 2 none ({ frames := 0, cells := 0, slots := 0, locals := 0 } : Room) Z #[(.ref tb), (.int (1 : Int32))] h0 (fun v h L => v = none ∧ Fr n0 L ∧ Keep h0 h [tb, xo, xd, xl, xq, xh] ∧ Exa Z h tb "com/example/manana/manana/storage/WaitingTable" ∧ Fld Z h tb "com/example/manana/manana/storage/WaitingTable" "offsets" "[J" (.ref xo) ∧ Fld Z h tb "com/example/manana/manana/storage/WaitingTable" "dues" "[J" (.ref xd) ∧ Fld Z h tb "com/example/manana/manana/storage/WaitingTable" "lengths" "[I" (.ref xl) ∧ Fld Z h tb "com/example/manana/manana/storage/WaitingTable" "queues" "[I" (.ref xq) ∧ Fld Z h tb "com/example/manana/manana/storage/WaitingTable" "held" "[Z" (.ref xh) ∧ Fld Z h tb "com/example/manana/manana/storage/WaitingTable" "first" "I" (.int (0 : Int32)) ∧ Fld Z h tb "com/example/manana/manana/storage/WaitingTable" "end" "I" (.int (2 : Int32)) ∧ Fld Z h tb "com/example/manana/manana/storage/WaitingTable" "size" "I" (.int (1 : Int32)) ∧ Arv Z h xo ko .long 16 (own_LJ p0 p1 p2) (.long (0 : Int64)) ∧ Arv Z h xd kd .long 16 (own_LJ d0 d1 d2) (.long (0 : Int64)) ∧ Arv Z h xl kl .int 16 (own_LI l0 l1 l2) (.int (0 : Int32)) ∧ Arv Z h xq kq .int 16 (own_LI q0 q1 q2) (.int (0 : Int32)) ∧ Arv Z h xh kh .boolean 16 (own_LI (1 : Int32) (nar .boolean (0 : Int32)) (0 : Int32)) (.int (0 : Int32))) := by
  refine Con.mk (plainFor_of_name pn_15) (fun m => show entryFrame m #[(.ref tb), (.int (1 : Int32))] 2 = mkF m 0 #[.val (.ref tb), .val (.int (1 : Int32))] [] by first | (simp [entryFrame, mkF, argsToLocals, Value.category]; done) | rfl) ?_
  intro p e s m below meth c s₁ hx hby hml hown hnm hret hlk hZ X0 e0
  have N0 := Fr.nil n0
  obtain ⟨ne_tb_xo, ne_tb_xd, ne_tb_xl, ne_tb_xq, ne_tb_xh, ne_xo_xd, ne_xo_xl, ne_xo_xq, ne_xo_xh, ne_xd_xl, ne_xd_xq, ne_xd_xh, ne_xl_xq, ne_xl_xh, ne_xq_xh⟩ := id hD
  show Run p e below s _ _ _ (s₁.setTop (mkF m 0 #[.val (.ref tb), .val (.int (1 : Int32))] []))
  refine Run.pre (fun _ k => XS.aloadN X0.here hx rfl (hb hby d15_0) rfl rfl k) ?_
  obtain ⟨T803, X803, e803, st803⟩ := getF X0 hx hZ hown (host := "") (Or.inl (hwi hw 20 rfl)) Via.refl e0 FR4 (g := (mkF m 1 #[.val (.ref tb), .val (.int (1 : Int32))] [(.ref tb)])) rfl rfl (hb hby d15_1)
  refine Run.pre st803 ?_
  refine Run.pre (fun _ k => XS.iloadN X803.here hx rfl (hb hby d15_4) rfl  k) ?_
  refine Run.pre (fun _ k => XS.iconst X803.here hx rfl (hb hby d15_5) k) ?_
  obtain ⟨c804, Ar804, q804, S804, N804, H804, G804⟩ := id AR4
  have hin804 : ¬ ((1 : Int32) < 0 ∨ c804.slots.size ≤ ((1 : Int32)).toNatClampNeg) := inb_of S804 ⟨by decide, by decide⟩
  obtain ⟨T805, h805, X805, e805, W805, st805⟩ := stZ X803 hx hZ e803 Ar804 (j := (1 : Int32)) hin804 (g := (mkF m 6 #[.val (.ref tb), .val (.int (1 : Int32))] [(.int (0 : Int32)), (.int (1 : Int32)), (.ref xh)])) rfl rfl (hb hby d15_6)
  refine Run.pre st805 ?_
  have V_xh_805 : Arv Z h805 xh kh .boolean (16 : Int32) (own_LI (1 : Int32) (nar .boolean (0 : Int32)) (0 : Int32)) (.int (0 : Int32)) := Arv.set Ar804 q804 S804 N804 H804 G804 (fits_nar_bool _) W805 1 rfl (Nat.le_of_ble_eq_true rfl)
  have K805 : Keep h0 h805 [tb, xo, xd, xl, xq, xh] := (Keep.refl h0 [tb, xo, xd, xl, xq, xh]).wr W805 (Or.inl (by simp))
  have N805 := Fr.snoc X805 N0 g_xh
  refine Run.pre (fun _ k => XS.aloadN X805.here hx rfl (hb hby d15_7) rfl rfl k) ?_
  show Run p e below s _ _ _ (T805.setTop (mkF m 8 #[.val (.ref tb), .val (.int (1 : Int32))] [(.ref tb)]))
  refine Run.pre (fun _ k => XS.dup X805.here hx rfl (hb hby d15_8) rfl rfl k) ?_
  have f806 := (Fz.other W805 (Or.inl ne_tb_xh))
  obtain ⟨T807, X807, e807, st807⟩ := getF X805 hx hZ hown (host := "") (Or.inl (hwi hw 27 rfl)) Via.refl e805 f806 (g := (mkF m 9 #[.val (.ref tb), .val (.int (1 : Int32))] [(.ref tb), (.ref tb)])) rfl rfl (hb hby d15_9)
  refine Run.pre st807 ?_
  refine Run.pre (fun _ k => XS.iconst X807.here hx rfl (hb hby d15_12) k) ?_
  refine Run.pre (fun _ k => XS.isub X807.here hx rfl (hb hby d15_13) rfl k) ?_
  have f808 := (E_tb.wr W805)
  obtain ⟨T809, h809, X809, e809, W809, st809⟩ := putF X807 hx hZ hown (host := "") (Or.inl (hwi hw 27 rfl)) Via.refl e807 f806 f808 (Or.inl (hwi hw 28 rfl)) (hwi hw 1 rfl) (ty := .int) (by decide) rfl rfl (g := (mkF m 14 #[.val (.ref tb), .val (.int (1 : Int32))] [(.int (1 : Int32)), (.ref tb)])) rfl rfl (hb hby d15_14)
  refine Run.pre st809 ?_
  have Fw809 := f806.same W809
  have K809 : Keep h0 h809 [tb, xo, xd, xl, xq, xh] := K805.wr W809 (Or.inl (by simp))
  have N809 := Fr.snoc X809 N805 g_tb
  refine Run.pre (fun _ k => XS.aloadN X809.here hx rfl (hb hby d15_17) rfl rfl k) ?_
  show Run p e below s _ _ _ (T809.setTop (mkF m 18 #[.val (.ref tb), .val (.int (1 : Int32))] [(.ref tb)]))
  have f810 := ((Ff.other W805 (Or.inl ne_tb_xh)).other W809 (Or.inr (slot_ne (Or.inl (hwi hw 37 rfl)) (Or.inl (hwi hw 28 rfl)) (by decide) (t := .int) (t' := .int) (by decide) (by decide))))
  obtain ⟨T811, X811, e811, st811⟩ := getF X809 hx hZ hown (host := "") (Or.inl (hwi hw 36 rfl)) Via.refl e809 f810 (g := (mkF m 18 #[.val (.ref tb), .val (.int (1 : Int32))] [(.ref tb)])) rfl rfl (hb hby d15_18)
  refine Run.pre st811 ?_
  refine Run.pre (fun _ k => XS.aloadN X811.here hx rfl (hb hby d15_21) rfl rfl k) ?_
  have f812 := ((Fe.other W805 (Or.inl ne_tb_xh)).other W809 (Or.inr (slot_ne (Or.inl (hwi hw 35 rfl)) (Or.inl (hwi hw 28 rfl)) (by decide) (t := .int) (t' := .int) (by decide) (by decide))))
  obtain ⟨T813, X813, e813, st813⟩ := getF X811 hx hZ hown (host := "") (Or.inl (hwi hw 34 rfl)) Via.refl e811 f812 (g := (mkF m 22 #[.val (.ref tb), .val (.int (1 : Int32))] [(.ref tb), (.int (0 : Int32))])) rfl rfl (hb hby d15_22)
  refine Run.pre st813 ?_
  refine Run.pre (fun _ k => XS.icmpNo X813.here hx rfl (hb hby d15_25) rfl (tlt ((by decide) : (0 : Int32) < (2 : Int32))).2.1 k) ?_
  refine Run.pre (fun _ k => XS.aloadN X813.here hx rfl (hb hby d15_28) rfl rfl k) ?_
  have f814 := ((FR4.other W805 (Or.inl ne_tb_xh)).other W809 (Or.inr (slot_ne (Or.inl (hwi hw 21 rfl)) (Or.inl (hwi hw 28 rfl)) (by decide) (t := (.array .boolean)) (t' := .int) (by decide) (by decide))))
  obtain ⟨T815, X815, e815, st815⟩ := getF X813 hx hZ hown (host := "") (Or.inl (hwi hw 20 rfl)) Via.refl e813 f814 (g := (mkF m 29 #[.val (.ref tb), .val (.int (1 : Int32))] [(.ref tb)])) rfl rfl (hb hby d15_29)
  refine Run.pre st815 ?_
  show Run p e below s _ _ _ (T815.setTop (mkF m 32 #[.val (.ref tb), .val (.int (1 : Int32))] [(.ref xh)]))
  refine Run.pre (fun _ k => XS.aloadN X815.here hx rfl (hb hby d15_32) rfl rfl k) ?_
  obtain ⟨T816, X816, e816, st816⟩ := getF X815 hx hZ hown (host := "") (Or.inl (hwi hw 36 rfl)) Via.refl e815 f810 (g := (mkF m 33 #[.val (.ref tb), .val (.int (1 : Int32))] [(.ref tb), (.ref xh)])) rfl rfl (hb hby d15_33)
  refine Run.pre st816 ?_
  have f817 := (V_xh_805.other W809 (Ne.symm ne_tb_xh))
  obtain ⟨c818, Ar818, -, S818, N818, H818, -⟩ := id f817
  have hin818 : ¬ ((0 : Int32) < 0 ∨ c818.slots.size ≤ ((0 : Int32)).toNatClampNeg) := inb_of S818 ⟨by decide, by decide⟩
  refine Run.pre (X816.baloadBooleans hx (j := (0 : Int32)) (v := (.int (1 : Int32))) (by rw [e816]; exact Ar818.1) (State.isArrayOf_alike hZ.alike Ar818.2.1) Ar818.2.2 hin818 (H818.at hin818 rfl) (g := (mkF m 36 #[.val (.ref tb), .val (.int (1 : Int32))] [(.int (0 : Int32)), (.ref xh)])) rfl rfl (hb hby d15_36)) ?_
  refine Run.pre (fun _ k => XS.ifYes X816.here hx rfl (pc0 := 37) (pc' := 53) rfl (hb hby d15_37) rfl ((if0 _ _).trans (feq ((by decide) : ¬ ((1 : Int32) = (0 : Int32)))).2) (by decide) (by decide) k) ?_
  have f819 := (f808.wr W809)
  have f820 := ((FR0.other W805 (Or.inl ne_tb_xh)).other W809 (Or.inr (slot_ne (Or.inl (hwi hw 11 rfl)) (Or.inl (hwi hw 28 rfl)) (by decide) (t := (.array .long)) (t' := .int) (by decide) (by decide))))
  have f821 := ((FR1.other W805 (Or.inl ne_tb_xh)).other W809 (Or.inr (slot_ne (Or.inl (hwi hw 13 rfl)) (Or.inl (hwi hw 28 rfl)) (by decide) (t := (.array .long)) (t' := .int) (by decide) (by decide))))
  have f822 := ((FR2.other W805 (Or.inl ne_tb_xh)).other W809 (Or.inr (slot_ne (Or.inl (hwi hw 16 rfl)) (Or.inl (hwi hw 28 rfl)) (by decide) (t := (.array .int)) (t' := .int) (by decide) (by decide))))
  have f823 := ((FR3.other W805 (Or.inl ne_tb_xh)).other W809 (Or.inr (slot_ne (Or.inl (hwi hw 18 rfl)) (Or.inl (hwi hw 28 rfl)) (by decide) (t := (.array .int)) (t' := .int) (by decide) (by decide))))
  have f824 := ((AR0.other W805 ne_xo_xh).other W809 (Ne.symm ne_tb_xo))
  have f825 := ((AR1.other W805 ne_xd_xh).other W809 (Ne.symm ne_tb_xd))
  have f826 := ((AR2.other W805 ne_xl_xh).other W809 (Ne.symm ne_tb_xl))
  have f827 := ((AR3.other W805 ne_xq_xh).other W809 (Ne.symm ne_tb_xq))
  exact Run.retV X816 hx hret hlk (hb hby d15_53) (by first | (rw [e816]; exact ⟨rfl, N809, K809, f819, f820, f821, f822, f823, f814, f810, f812, Fw809, f824, f825, f826, f827, f817⟩) | exact ⟨rfl, N809, K809, f819, f820, f821, f822, f823, f814, f810, f812, Fw809, f824, f825, f826, f827, f817⟩) (by decide) (by decide)
set_option maxRecDepth 65536 in
set_option maxHeartbeats 40000000 in
theorem rmR_30 (l : Launch) (Z : State) (a0 : Array Value) (hw : ∀ d ∈ tables_1, d.before a0 Z = true) (tb : Addr) (xo : Addr) (xd : Addr) (xl : Addr) (xq : Addr) (xh : Addr) (ko : ClassId) (kd : ClassId) (kl : ClassId) (kq : ClassId) (kh : ClassId) (p0 : Int64) (p1 : Int64) (p2 : Int64) (d0 : Int64) (d1 : Int64) (d2 : Int64) (l0 : Int32) (l1 : Int32) (l2 : Int32) (q0 : Int32) (q1 : Int32) (q2 : Int32) (h0 : Heap) (n0 : Nat) (Z0 : n0 ≤ h0.size) (E_tb : Exa Z h0 tb "com/example/manana/manana/storage/WaitingTable") (FR0 : Fld Z h0 tb "com/example/manana/manana/storage/WaitingTable" "offsets" "[J" (.ref xo)) (FR1 : Fld Z h0 tb "com/example/manana/manana/storage/WaitingTable" "dues" "[J" (.ref xd)) (FR2 : Fld Z h0 tb "com/example/manana/manana/storage/WaitingTable" "lengths" "[I" (.ref xl)) (FR3 : Fld Z h0 tb "com/example/manana/manana/storage/WaitingTable" "queues" "[I" (.ref xq)) (FR4 : Fld Z h0 tb "com/example/manana/manana/storage/WaitingTable" "held" "[Z" (.ref xh)) (Ff : Fld Z h0 tb "com/example/manana/manana/storage/WaitingTable" "first" "I" (.int (0 : Int32))) (Fe : Fld Z h0 tb "com/example/manana/manana/storage/WaitingTable" "end" "I" (.int (3 : Int32))) (Fz : Fld Z h0 tb "com/example/manana/manana/storage/WaitingTable" "size" "I" (.int (3 : Int32))) (AR0 : Arv Z h0 xo ko .long 16 (own_LJ p0 p1 p2) (.long (0 : Int64))) (AR1 : Arv Z h0 xd kd .long 16 (own_LJ d0 d1 d2) (.long (0 : Int64))) (AR2 : Arv Z h0 xl kl .int 16 (own_LI l0 l1 l2) (.int (0 : Int32))) (AR3 : Arv Z h0 xq kq .int 16 (own_LI q0 q1 q2) (.int (0 : Int32))) (AR4 : Arv Z h0 xh kh .boolean 16 (own_LI (1 : Int32) (1 : Int32) (1 : Int32)) (.int (0 : Int32))) (hD : own_D tb xo xd xl xq xh) (g_tb : n0 ≤ tb) (g_xo : n0 ≤ xo) (g_xd : n0 ≤ xd) (g_xl : n0 ≤ xl) (g_xq : n0 ≤ xq) (g_xh : n0 ≤ xh) :
    Con l (⟨"com/example/manana/manana/storage/WaitingTable", "remove", "(I)V"⟩ : MethodName) prog_84_method_8_code 2 none ({ frames := 0, cells := 0, slots := 0, locals := 0 } : Room) Z #[(.ref tb), (.int (0 : Int32))] h0 (fun v h L => v = none ∧ Fr n0 L ∧ Keep h0 h [tb, xo, xd, xl, xq, xh] ∧ Exa Z h tb "com/example/manana/manana/storage/WaitingTable" ∧ Fld Z h tb "com/example/manana/manana/storage/WaitingTable" "offsets" "[J" (.ref xo) ∧ Fld Z h tb "com/example/manana/manana/storage/WaitingTable" "dues" "[J" (.ref xd) ∧ Fld Z h tb "com/example/manana/manana/storage/WaitingTable" "lengths" "[I" (.ref xl) ∧ Fld Z h tb "com/example/manana/manana/storage/WaitingTable" "queues" "[I" (.ref xq) ∧ Fld Z h tb "com/example/manana/manana/storage/WaitingTable" "held" "[Z" (.ref xh) ∧ Fld Z h tb "com/example/manana/manana/storage/WaitingTable" "first" "I" (.int (1 : Int32)) ∧ Fld Z h tb "com/example/manana/manana/storage/WaitingTable" "end" "I" (.int (3 : Int32)) ∧ Fld Z h tb "com/example/manana/manana/storage/WaitingTable" "size" "I" (.int (2 : Int32)) ∧ Arv Z h xo ko .long 16 (own_LJ p0 p1 p2) (.long (0 : Int64)) ∧ Arv Z h xd kd .long 16 (own_LJ d0 d1 d2) (.long (0 : Int64)) ∧ Arv Z h xl kl .int 16 (own_LI l0 l1 l2) (.int (0 : Int32)) ∧ Arv Z h xq kq .int 16 (own_LI q0 q1 q2) (.int (0 : Int32)) ∧ Arv Z h xh kh .boolean 16 (own_LI (nar .boolean (0 : Int32)) (1 : Int32) (1 : Int32)) (.int (0 : Int32))) := by
  refine Con.mk (plainFor_of_name pn_15) (fun m => show entryFrame m #[(.ref tb), (.int (0 : Int32))] 2 = mkF m 0 #[.val (.ref tb), .val (.int (0 : Int32))] [] by first | (simp [entryFrame, mkF, argsToLocals, Value.category]; done) | rfl) ?_
  intro p e s m below meth c s₁ hx hby hml hown hnm hret hlk hZ X0 e0
  have N0 := Fr.nil n0
  obtain ⟨ne_tb_xo, ne_tb_xd, ne_tb_xl, ne_tb_xq, ne_tb_xh, ne_xo_xd, ne_xo_xl, ne_xo_xq, ne_xo_xh, ne_xd_xl, ne_xd_xq, ne_xd_xh, ne_xl_xq, ne_xl_xh, ne_xq_xh⟩ := id hD
  show Run p e below s _ _ _ (s₁.setTop (mkF m 0 #[.val (.ref tb), .val (.int (0 : Int32))] []))
  refine Run.pre (fun _ k => XS.aloadN X0.here hx rfl (hb hby d15_0) rfl rfl k) ?_
  obtain ⟨T828, X828, e828, st828⟩ := getF X0 hx hZ hown (host := "") (Or.inl (hwi hw 20 rfl)) Via.refl e0 FR4 (g := (mkF m 1 #[.val (.ref tb), .val (.int (0 : Int32))] [(.ref tb)])) rfl rfl (hb hby d15_1)
  refine Run.pre st828 ?_
  refine Run.pre (fun _ k => XS.iloadN X828.here hx rfl (hb hby d15_4) rfl  k) ?_
  refine Run.pre (fun _ k => XS.iconst X828.here hx rfl (hb hby d15_5) k) ?_
  obtain ⟨c829, Ar829, q829, S829, N829, H829, G829⟩ := id AR4
  have hin829 : ¬ ((0 : Int32) < 0 ∨ c829.slots.size ≤ ((0 : Int32)).toNatClampNeg) := inb_of S829 ⟨by decide, by decide⟩
  obtain ⟨T830, h830, X830, e830, W830, st830⟩ := stZ X828 hx hZ e828 Ar829 (j := (0 : Int32)) hin829 (g := (mkF m 6 #[.val (.ref tb), .val (.int (0 : Int32))] [(.int (0 : Int32)), (.int (0 : Int32)), (.ref xh)])) rfl rfl (hb hby d15_6)
  refine Run.pre st830 ?_
  have V_xh_830 : Arv Z h830 xh kh .boolean (16 : Int32) (own_LI (nar .boolean (0 : Int32)) (1 : Int32) (1 : Int32)) (.int (0 : Int32)) := Arv.set Ar829 q829 S829 N829 H829 G829 (fits_nar_bool _) W830 0 rfl (Nat.le_of_ble_eq_true rfl)
  have K830 : Keep h0 h830 [tb, xo, xd, xl, xq, xh] := (Keep.refl h0 [tb, xo, xd, xl, xq, xh]).wr W830 (Or.inl (by simp))
  have N830 := Fr.snoc X830 N0 g_xh
  refine Run.pre (fun _ k => XS.aloadN X830.here hx rfl (hb hby d15_7) rfl rfl k) ?_
  show Run p e below s _ _ _ (T830.setTop (mkF m 8 #[.val (.ref tb), .val (.int (0 : Int32))] [(.ref tb)]))
  refine Run.pre (fun _ k => XS.dup X830.here hx rfl (hb hby d15_8) rfl rfl k) ?_
  have f831 := (Fz.other W830 (Or.inl ne_tb_xh))
  obtain ⟨T832, X832, e832, st832⟩ := getF X830 hx hZ hown (host := "") (Or.inl (hwi hw 27 rfl)) Via.refl e830 f831 (g := (mkF m 9 #[.val (.ref tb), .val (.int (0 : Int32))] [(.ref tb), (.ref tb)])) rfl rfl (hb hby d15_9)
  refine Run.pre st832 ?_
  refine Run.pre (fun _ k => XS.iconst X832.here hx rfl (hb hby d15_12) k) ?_
  refine Run.pre (fun _ k => XS.isub X832.here hx rfl (hb hby d15_13) rfl k) ?_
  have f833 := (E_tb.wr W830)
  obtain ⟨T834, h834, X834, e834, W834, st834⟩ := putF X832 hx hZ hown (host := "") (Or.inl (hwi hw 27 rfl)) Via.refl e832 f831 f833 (Or.inl (hwi hw 28 rfl)) (hwi hw 1 rfl) (ty := .int) (by decide) rfl rfl (g := (mkF m 14 #[.val (.ref tb), .val (.int (0 : Int32))] [(.int (2 : Int32)), (.ref tb)])) rfl rfl (hb hby d15_14)
  refine Run.pre st834 ?_
  have Fw834 := f831.same W834
  have K834 : Keep h0 h834 [tb, xo, xd, xl, xq, xh] := K830.wr W834 (Or.inl (by simp))
  have N834 := Fr.snoc X834 N830 g_tb
  refine Run.pre (fun _ k => XS.aloadN X834.here hx rfl (hb hby d15_17) rfl rfl k) ?_
  show Run p e below s _ _ _ (T834.setTop (mkF m 18 #[.val (.ref tb), .val (.int (0 : Int32))] [(.ref tb)]))
  have f835 := ((Ff.other W830 (Or.inl ne_tb_xh)).other W834 (Or.inr (slot_ne (Or.inl (hwi hw 37 rfl)) (Or.inl (hwi hw 28 rfl)) (by decide) (t := .int) (t' := .int) (by decide) (by decide))))
  obtain ⟨T836, X836, e836, st836⟩ := getF X834 hx hZ hown (host := "") (Or.inl (hwi hw 36 rfl)) Via.refl e834 f835 (g := (mkF m 18 #[.val (.ref tb), .val (.int (0 : Int32))] [(.ref tb)])) rfl rfl (hb hby d15_18)
  refine Run.pre st836 ?_
  refine Run.pre (fun _ k => XS.aloadN X836.here hx rfl (hb hby d15_21) rfl rfl k) ?_
  have f837 := ((Fe.other W830 (Or.inl ne_tb_xh)).other W834 (Or.inr (slot_ne (Or.inl (hwi hw 35 rfl)) (Or.inl (hwi hw 28 rfl)) (by decide) (t := .int) (t' := .int) (by decide) (by decide))))
  obtain ⟨T838, X838, e838, st838⟩ := getF X836 hx hZ hown (host := "") (Or.inl (hwi hw 34 rfl)) Via.refl e836 f837 (g := (mkF m 22 #[.val (.ref tb), .val (.int (0 : Int32))] [(.ref tb), (.int (0 : Int32))])) rfl rfl (hb hby d15_22)
  refine Run.pre st838 ?_
  refine Run.pre (fun _ k => XS.icmpNo X838.here hx rfl (hb hby d15_25) rfl (tlt ((by decide) : (0 : Int32) < (3 : Int32))).2.1 k) ?_
  refine Run.pre (fun _ k => XS.aloadN X838.here hx rfl (hb hby d15_28) rfl rfl k) ?_
  have f839 := ((FR4.other W830 (Or.inl ne_tb_xh)).other W834 (Or.inr (slot_ne (Or.inl (hwi hw 21 rfl)) (Or.inl (hwi hw 28 rfl)) (by decide) (t := (.array .boolean)) (t' := .int) (by decide) (by decide))))
  obtain ⟨T840, X840, e840, st840⟩ := getF X838 hx hZ hown (host := "") (Or.inl (hwi hw 20 rfl)) Via.refl e838 f839 (g := (mkF m 29 #[.val (.ref tb), .val (.int (0 : Int32))] [(.ref tb)])) rfl rfl (hb hby d15_29)
  refine Run.pre st840 ?_
  show Run p e below s _ _ _ (T840.setTop (mkF m 32 #[.val (.ref tb), .val (.int (0 : Int32))] [(.ref xh)]))
  refine Run.pre (fun _ k => XS.aloadN X840.here hx rfl (hb hby d15_32) rfl rfl k) ?_
  obtain ⟨T841, X841, e841, st841⟩ := getF X840 hx hZ hown (host := "") (Or.inl (hwi hw 36 rfl)) Via.refl e840 f835 (g := (mkF m 33 #[.val (.ref tb), .val (.int (0 : Int32))] [(.ref tb), (.ref xh)])) rfl rfl (hb hby d15_33)
  refine Run.pre st841 ?_
  have f842 := (V_xh_830.other W834 (Ne.symm ne_tb_xh))
  obtain ⟨c843, Ar843, -, S843, N843, H843, -⟩ := id f842
  have hin843 : ¬ ((0 : Int32) < 0 ∨ c843.slots.size ≤ ((0 : Int32)).toNatClampNeg) := inb_of S843 ⟨by decide, by decide⟩
  refine Run.pre (X841.baloadBooleans hx (j := (0 : Int32)) (v := (.int (nar .boolean (0 : Int32)))) (by rw [e841]; exact Ar843.1) (State.isArrayOf_alike hZ.alike Ar843.2.1) Ar843.2.2 hin843 (H843.at hin843 rfl) (g := (mkF m 36 #[.val (.ref tb), .val (.int (0 : Int32))] [(.int (0 : Int32)), (.ref xh)])) rfl rfl (hb hby d15_36)) ?_
  refine Run.pre (fun _ k => XS.ifNo X841.here hx rfl (hb hby d15_37) rfl ((if0 _ _).trans (teq ((by decide) : (nar .boolean (0 : Int32)) = (0 : Int32))).2) k) ?_
  refine Run.pre (fun _ k => XS.aloadN X841.here hx rfl (hb hby d15_40) rfl rfl k) ?_
  refine Run.pre (fun _ k => XS.dup X841.here hx rfl (hb hby d15_41) rfl rfl k) ?_
  show Run p e below s _ _ _ (T841.setTop (mkF m 42 #[.val (.ref tb), .val (.int (0 : Int32))] [(.ref tb), (.ref tb)]))
  obtain ⟨T844, X844, e844, st844⟩ := getF X841 hx hZ hown (host := "") (Or.inl (hwi hw 36 rfl)) Via.refl e841 f835 (g := (mkF m 42 #[.val (.ref tb), .val (.int (0 : Int32))] [(.ref tb), (.ref tb)])) rfl rfl (hb hby d15_42)
  refine Run.pre st844 ?_
  refine Run.pre (fun _ k => XS.iconst X844.here hx rfl (hb hby d15_45) k) ?_
  refine Run.pre (fun _ k => XS.iadd X844.here hx rfl (hb hby d15_46) rfl k) ?_
  have f845 := (f833.wr W834)
  obtain ⟨T846, h846, X846, e846, W846, st846⟩ := putF X844 hx hZ hown (host := "") (Or.inl (hwi hw 36 rfl)) Via.refl e844 f835 f845 (Or.inl (hwi hw 37 rfl)) (hwi hw 1 rfl) (ty := .int) (by decide) rfl rfl (g := (mkF m 47 #[.val (.ref tb), .val (.int (0 : Int32))] [(.int (1 : Int32)), (.ref tb)])) rfl rfl (hb hby d15_47)
  refine Run.pre st846 ?_
  have Fw846 := f835.same W846
  have K846 : Keep h0 h846 [tb, xo, xd, xl, xq, xh] := K834.wr W846 (Or.inl (by simp))
  have N846 := Fr.snoc X846 N834 g_tb
  refine Run.pre (fun _ k => XS.goto X846.here hx rfl (pc0 := 50) (pc' := 17) rfl (hb hby d15_50) (by decide) (by decide) k) ?_
  refine Run.pre (fun _ k => XS.aloadN X846.here hx rfl (hb hby d15_17) rfl rfl k) ?_
  show Run p e below s _ _ _ (T846.setTop (mkF m 18 #[.val (.ref tb), .val (.int (0 : Int32))] [(.ref tb)]))
  obtain ⟨T847, X847, e847, st847⟩ := getF X846 hx hZ hown (host := "") (Or.inl (hwi hw 36 rfl)) Via.refl e846 Fw846 (g := (mkF m 18 #[.val (.ref tb), .val (.int (0 : Int32))] [(.ref tb)])) rfl rfl (hb hby d15_18)
  refine Run.pre st847 ?_
  refine Run.pre (fun _ k => XS.aloadN X847.here hx rfl (hb hby d15_21) rfl rfl k) ?_
  have f848 := (f837.other W846 (Or.inr (slot_ne (Or.inl (hwi hw 35 rfl)) (Or.inl (hwi hw 37 rfl)) (by decide) (t := .int) (t' := .int) (by decide) (by decide))))
  obtain ⟨T849, X849, e849, st849⟩ := getF X847 hx hZ hown (host := "") (Or.inl (hwi hw 34 rfl)) Via.refl e847 f848 (g := (mkF m 22 #[.val (.ref tb), .val (.int (0 : Int32))] [(.ref tb), (.int (1 : Int32))])) rfl rfl (hb hby d15_22)
  refine Run.pre st849 ?_
  refine Run.pre (fun _ k => XS.icmpNo X849.here hx rfl (hb hby d15_25) rfl (tlt ((by decide) : (1 : Int32) < (3 : Int32))).2.1 k) ?_
  refine Run.pre (fun _ k => XS.aloadN X849.here hx rfl (hb hby d15_28) rfl rfl k) ?_
  have f850 := (f839.other W846 (Or.inr (slot_ne (Or.inl (hwi hw 21 rfl)) (Or.inl (hwi hw 37 rfl)) (by decide) (t := (.array .boolean)) (t' := .int) (by decide) (by decide))))
  obtain ⟨T851, X851, e851, st851⟩ := getF X849 hx hZ hown (host := "") (Or.inl (hwi hw 20 rfl)) Via.refl e849 f850 (g := (mkF m 29 #[.val (.ref tb), .val (.int (0 : Int32))] [(.ref tb)])) rfl rfl (hb hby d15_29)
  refine Run.pre st851 ?_
  show Run p e below s _ _ _ (T851.setTop (mkF m 32 #[.val (.ref tb), .val (.int (0 : Int32))] [(.ref xh)]))
  refine Run.pre (fun _ k => XS.aloadN X851.here hx rfl (hb hby d15_32) rfl rfl k) ?_
  obtain ⟨T852, X852, e852, st852⟩ := getF X851 hx hZ hown (host := "") (Or.inl (hwi hw 36 rfl)) Via.refl e851 Fw846 (g := (mkF m 33 #[.val (.ref tb), .val (.int (0 : Int32))] [(.ref tb), (.ref xh)])) rfl rfl (hb hby d15_33)
  refine Run.pre st852 ?_
  have f853 := (f842.other W846 (Ne.symm ne_tb_xh))
  obtain ⟨c854, Ar854, -, S854, N854, H854, -⟩ := id f853
  have hin854 : ¬ ((1 : Int32) < 0 ∨ c854.slots.size ≤ ((1 : Int32)).toNatClampNeg) := inb_of S854 ⟨by decide, by decide⟩
  refine Run.pre (X852.baloadBooleans hx (j := (1 : Int32)) (v := (.int (1 : Int32))) (by rw [e852]; exact Ar854.1) (State.isArrayOf_alike hZ.alike Ar854.2.1) Ar854.2.2 hin854 (H854.at hin854 rfl) (g := (mkF m 36 #[.val (.ref tb), .val (.int (0 : Int32))] [(.int (1 : Int32)), (.ref xh)])) rfl rfl (hb hby d15_36)) ?_
  refine Run.pre (fun _ k => XS.ifYes X852.here hx rfl (pc0 := 37) (pc' := 53) rfl (hb hby d15_37) rfl ((if0 _ _).trans (feq ((by decide) : ¬ ((1 : Int32) = (0 : Int32)))).2) (by decide) (by decide) k) ?_
  have f855 := (f845.wr W846)
  have f856 := (((FR0.other W830 (Or.inl ne_tb_xh)).other W834 (Or.inr (slot_ne (Or.inl (hwi hw 11 rfl)) (Or.inl (hwi hw 28 rfl)) (by decide) (t := (.array .long)) (t' := .int) (by decide) (by decide)))).other W846 (Or.inr (slot_ne (Or.inl (hwi hw 11 rfl)) (Or.inl (hwi hw 37 rfl)) (by decide) (t := (.array .long)) (t' := .int) (by decide) (by decide))))
  have f857 := (((FR1.other W830 (Or.inl ne_tb_xh)).other W834 (Or.inr (slot_ne (Or.inl (hwi hw 13 rfl)) (Or.inl (hwi hw 28 rfl)) (by decide) (t := (.array .long)) (t' := .int) (by decide) (by decide)))).other W846 (Or.inr (slot_ne (Or.inl (hwi hw 13 rfl)) (Or.inl (hwi hw 37 rfl)) (by decide) (t := (.array .long)) (t' := .int) (by decide) (by decide))))
  have f858 := (((FR2.other W830 (Or.inl ne_tb_xh)).other W834 (Or.inr (slot_ne (Or.inl (hwi hw 16 rfl)) (Or.inl (hwi hw 28 rfl)) (by decide) (t := (.array .int)) (t' := .int) (by decide) (by decide)))).other W846 (Or.inr (slot_ne (Or.inl (hwi hw 16 rfl)) (Or.inl (hwi hw 37 rfl)) (by decide) (t := (.array .int)) (t' := .int) (by decide) (by decide))))
  have f859 := (((FR3.other W830 (Or.inl ne_tb_xh)).other W834 (Or.inr (slot_ne (Or.inl (hwi hw 18 rfl)) (Or.inl (hwi hw 28 rfl)) (by decide) (t := (.array .int)) (t' := .int) (by decide) (by decide)))).other W846 (Or.inr (slot_ne (Or.inl (hwi hw 18 rfl)) (Or.inl (hwi hw 37 rfl)) (by decide) (t := (.array .int)) (t' := .int) (by decide) (by decide))))
  have f860 := (Fw834.other W846 (Or.inr (slot_ne (Or.inl (hwi hw 28 rfl)) (Or.inl (hwi hw 37 rfl)) (by decide) (t := .int) (t' := .int) (by decide) (by decide))))
  have f861 := (((AR0.other W830 ne_xo_xh).other W834 (Ne.symm ne_tb_xo)).other W846 (Ne.symm ne_tb_xo))
  have f862 := (((AR1.other W830 ne_xd_xh).other W834 (Ne.symm ne_tb_xd)).other W846 (Ne.symm ne_tb_xd))
  have f863 := (((AR2.other W830 ne_xl_xh).other W834 (Ne.symm ne_tb_xl)).other W846 (Ne.symm ne_tb_xl))
  have f864 := (((AR3.other W830 ne_xq_xh).other W834 (Ne.symm ne_tb_xq)).other W846 (Ne.symm ne_tb_xq))
  exact Run.retV X852 hx hret hlk (hb hby d15_53) (by first | (rw [e852]; exact ⟨rfl, N846, K846, f855, f856, f857, f858, f859, f850, Fw846, f848, f860, f861, f862, f863, f864, f853⟩) | exact ⟨rfl, N846, K846, f855, f856, f857, f858, f859, f850, Fw846, f848, f860, f861, f862, f863, f864, f853⟩) (by decide) (by decide)
set_option maxRecDepth 65536 in
set_option maxHeartbeats 40000000 in
theorem rmR_31 (l : Launch) (Z : State) (a0 : Array Value) (hw : ∀ d ∈ tables_1, d.before a0 Z = true) (tb : Addr) (xo : Addr) (xd : Addr) (xl : Addr) (xq : Addr) (xh : Addr) (ko : ClassId) (kd : ClassId) (kl : ClassId) (kq : ClassId) (kh : ClassId) (p0 : Int64) (p1 : Int64) (p2 : Int64) (d0 : Int64) (d1 : Int64) (d2 : Int64) (l0 : Int32) (l1 : Int32) (l2 : Int32) (q0 : Int32) (q1 : Int32) (q2 : Int32) (h0 : Heap) (n0 : Nat) (Z0 : n0 ≤ h0.size) (E_tb : Exa Z h0 tb "com/example/manana/manana/storage/WaitingTable") (FR0 : Fld Z h0 tb "com/example/manana/manana/storage/WaitingTable" "offsets" "[J" (.ref xo)) (FR1 : Fld Z h0 tb "com/example/manana/manana/storage/WaitingTable" "dues" "[J" (.ref xd)) (FR2 : Fld Z h0 tb "com/example/manana/manana/storage/WaitingTable" "lengths" "[I" (.ref xl)) (FR3 : Fld Z h0 tb "com/example/manana/manana/storage/WaitingTable" "queues" "[I" (.ref xq)) (FR4 : Fld Z h0 tb "com/example/manana/manana/storage/WaitingTable" "held" "[Z" (.ref xh)) (Ff : Fld Z h0 tb "com/example/manana/manana/storage/WaitingTable" "first" "I" (.int (0 : Int32))) (Fe : Fld Z h0 tb "com/example/manana/manana/storage/WaitingTable" "end" "I" (.int (3 : Int32))) (Fz : Fld Z h0 tb "com/example/manana/manana/storage/WaitingTable" "size" "I" (.int (3 : Int32))) (AR0 : Arv Z h0 xo ko .long 16 (own_LJ p0 p1 p2) (.long (0 : Int64))) (AR1 : Arv Z h0 xd kd .long 16 (own_LJ d0 d1 d2) (.long (0 : Int64))) (AR2 : Arv Z h0 xl kl .int 16 (own_LI l0 l1 l2) (.int (0 : Int32))) (AR3 : Arv Z h0 xq kq .int 16 (own_LI q0 q1 q2) (.int (0 : Int32))) (AR4 : Arv Z h0 xh kh .boolean 16 (own_LI (1 : Int32) (1 : Int32) (1 : Int32)) (.int (0 : Int32))) (hD : own_D tb xo xd xl xq xh) (g_tb : n0 ≤ tb) (g_xo : n0 ≤ xo) (g_xd : n0 ≤ xd) (g_xl : n0 ≤ xl) (g_xq : n0 ≤ xq) (g_xh : n0 ≤ xh) :
    Con l (⟨"com/example/manana/manana/storage/WaitingTable", "remove", "(I)V"⟩ : MethodName) prog_84_method_8_code 2 none ({ frames := 0, cells := 0, slots := 0, locals := 0 } : Room) Z #[(.ref tb), (.int (1 : Int32))] h0 (fun v h L => v = none ∧ Fr n0 L ∧ Keep h0 h [tb, xo, xd, xl, xq, xh] ∧ Exa Z h tb "com/example/manana/manana/storage/WaitingTable" ∧ Fld Z h tb "com/example/manana/manana/storage/WaitingTable" "offsets" "[J" (.ref xo) ∧ Fld Z h tb "com/example/manana/manana/storage/WaitingTable" "dues" "[J" (.ref xd) ∧ Fld Z h tb "com/example/manana/manana/storage/WaitingTable" "lengths" "[I" (.ref xl) ∧ Fld Z h tb "com/example/manana/manana/storage/WaitingTable" "queues" "[I" (.ref xq) ∧ Fld Z h tb "com/example/manana/manana/storage/WaitingTable" "held" "[Z" (.ref xh) ∧ Fld Z h tb "com/example/manana/manana/storage/WaitingTable" "first" "I" (.int (0 : Int32)) ∧ Fld Z h tb "com/example/manana/manana/storage/WaitingTable" "end" "I" (.int (3 : Int32)) ∧ Fld Z h tb "com/example/manana/manana/storage/WaitingTable" "size" "I" (.int (2 : Int32)) ∧ Arv Z h xo ko .long 16 (own_LJ p0 p1 p2) (.long (0 : Int64)) ∧ Arv Z h xd kd .long 16 (own_LJ d0 d1 d2) (.long (0 : Int64)) ∧ Arv Z h xl kl .int 16 (own_LI l0 l1 l2) (.int (0 : Int32)) ∧ Arv Z h xq kq .int 16 (own_LI q0 q1 q2) (.int (0 : Int32)) ∧ Arv Z h xh kh .boolean 16 (own_LI (1 : Int32) (nar .boolean (0 : Int32)) (1 : Int32)) (.int (0 : Int32))) := by
  refine Con.mk (plainFor_of_name pn_15) (fun m => show entryFrame m #[(.ref tb), (.int (1 : Int32))] 2 = mkF m 0 #[.val (.ref tb), .val (.int (1 : Int32))] [] by first | (simp [entryFrame, mkF, argsToLocals, Value.category]; done) | rfl) ?_
  intro p e s m below meth c s₁ hx hby hml hown hnm hret hlk hZ X0 e0
  have N0 := Fr.nil n0
  obtain ⟨ne_tb_xo, ne_tb_xd, ne_tb_xl, ne_tb_xq, ne_tb_xh, ne_xo_xd, ne_xo_xl, ne_xo_xq, ne_xo_xh, ne_xd_xl, ne_xd_xq, ne_xd_xh, ne_xl_xq, ne_xl_xh, ne_xq_xh⟩ := id hD
  show Run p e below s _ _ _ (s₁.setTop (mkF m 0 #[.val (.ref tb), .val (.int (1 : Int32))] []))
  refine Run.pre (fun _ k => XS.aloadN X0.here hx rfl (hb hby d15_0) rfl rfl k) ?_
  obtain ⟨T865, X865, e865, st865⟩ := getF X0 hx hZ hown (host := "") (Or.inl (hwi hw 20 rfl)) Via.refl e0 FR4 (g := (mkF m 1 #[.val (.ref tb), .val (.int (1 : Int32))] [(.ref tb)])) rfl rfl (hb hby d15_1)
  refine Run.pre st865 ?_
  refine Run.pre (fun _ k => XS.iloadN X865.here hx rfl (hb hby d15_4) rfl  k) ?_
  refine Run.pre (fun _ k => XS.iconst X865.here hx rfl (hb hby d15_5) k) ?_
  obtain ⟨c866, Ar866, q866, S866, N866, H866, G866⟩ := id AR4
  have hin866 : ¬ ((1 : Int32) < 0 ∨ c866.slots.size ≤ ((1 : Int32)).toNatClampNeg) := inb_of S866 ⟨by decide, by decide⟩
  obtain ⟨T867, h867, X867, e867, W867, st867⟩ := stZ X865 hx hZ e865 Ar866 (j := (1 : Int32)) hin866 (g := (mkF m 6 #[.val (.ref tb), .val (.int (1 : Int32))] [(.int (0 : Int32)), (.int (1 : Int32)), (.ref xh)])) rfl rfl (hb hby d15_6)
  refine Run.pre st867 ?_
  have V_xh_867 : Arv Z h867 xh kh .boolean (16 : Int32) (own_LI (1 : Int32) (nar .boolean (0 : Int32)) (1 : Int32)) (.int (0 : Int32)) := Arv.set Ar866 q866 S866 N866 H866 G866 (fits_nar_bool _) W867 1 rfl (Nat.le_of_ble_eq_true rfl)
  have K867 : Keep h0 h867 [tb, xo, xd, xl, xq, xh] := (Keep.refl h0 [tb, xo, xd, xl, xq, xh]).wr W867 (Or.inl (by simp))
  have N867 := Fr.snoc X867 N0 g_xh
  refine Run.pre (fun _ k => XS.aloadN X867.here hx rfl (hb hby d15_7) rfl rfl k) ?_
  show Run p e below s _ _ _ (T867.setTop (mkF m 8 #[.val (.ref tb), .val (.int (1 : Int32))] [(.ref tb)]))
  refine Run.pre (fun _ k => XS.dup X867.here hx rfl (hb hby d15_8) rfl rfl k) ?_
  have f868 := (Fz.other W867 (Or.inl ne_tb_xh))
  obtain ⟨T869, X869, e869, st869⟩ := getF X867 hx hZ hown (host := "") (Or.inl (hwi hw 27 rfl)) Via.refl e867 f868 (g := (mkF m 9 #[.val (.ref tb), .val (.int (1 : Int32))] [(.ref tb), (.ref tb)])) rfl rfl (hb hby d15_9)
  refine Run.pre st869 ?_
  refine Run.pre (fun _ k => XS.iconst X869.here hx rfl (hb hby d15_12) k) ?_
  refine Run.pre (fun _ k => XS.isub X869.here hx rfl (hb hby d15_13) rfl k) ?_
  have f870 := (E_tb.wr W867)
  obtain ⟨T871, h871, X871, e871, W871, st871⟩ := putF X869 hx hZ hown (host := "") (Or.inl (hwi hw 27 rfl)) Via.refl e869 f868 f870 (Or.inl (hwi hw 28 rfl)) (hwi hw 1 rfl) (ty := .int) (by decide) rfl rfl (g := (mkF m 14 #[.val (.ref tb), .val (.int (1 : Int32))] [(.int (2 : Int32)), (.ref tb)])) rfl rfl (hb hby d15_14)
  refine Run.pre st871 ?_
  have Fw871 := f868.same W871
  have K871 : Keep h0 h871 [tb, xo, xd, xl, xq, xh] := K867.wr W871 (Or.inl (by simp))
  have N871 := Fr.snoc X871 N867 g_tb
  refine Run.pre (fun _ k => XS.aloadN X871.here hx rfl (hb hby d15_17) rfl rfl k) ?_
  show Run p e below s _ _ _ (T871.setTop (mkF m 18 #[.val (.ref tb), .val (.int (1 : Int32))] [(.ref tb)]))
  have f872 := ((Ff.other W867 (Or.inl ne_tb_xh)).other W871 (Or.inr (slot_ne (Or.inl (hwi hw 37 rfl)) (Or.inl (hwi hw 28 rfl)) (by decide) (t := .int) (t' := .int) (by decide) (by decide))))
  obtain ⟨T873, X873, e873, st873⟩ := getF X871 hx hZ hown (host := "") (Or.inl (hwi hw 36 rfl)) Via.refl e871 f872 (g := (mkF m 18 #[.val (.ref tb), .val (.int (1 : Int32))] [(.ref tb)])) rfl rfl (hb hby d15_18)
  refine Run.pre st873 ?_
  refine Run.pre (fun _ k => XS.aloadN X873.here hx rfl (hb hby d15_21) rfl rfl k) ?_
  have f874 := ((Fe.other W867 (Or.inl ne_tb_xh)).other W871 (Or.inr (slot_ne (Or.inl (hwi hw 35 rfl)) (Or.inl (hwi hw 28 rfl)) (by decide) (t := .int) (t' := .int) (by decide) (by decide))))
  obtain ⟨T875, X875, e875, st875⟩ := getF X873 hx hZ hown (host := "") (Or.inl (hwi hw 34 rfl)) Via.refl e873 f874 (g := (mkF m 22 #[.val (.ref tb), .val (.int (1 : Int32))] [(.ref tb), (.int (0 : Int32))])) rfl rfl (hb hby d15_22)
  refine Run.pre st875 ?_
  refine Run.pre (fun _ k => XS.icmpNo X875.here hx rfl (hb hby d15_25) rfl (tlt ((by decide) : (0 : Int32) < (3 : Int32))).2.1 k) ?_
  refine Run.pre (fun _ k => XS.aloadN X875.here hx rfl (hb hby d15_28) rfl rfl k) ?_
  have f876 := ((FR4.other W867 (Or.inl ne_tb_xh)).other W871 (Or.inr (slot_ne (Or.inl (hwi hw 21 rfl)) (Or.inl (hwi hw 28 rfl)) (by decide) (t := (.array .boolean)) (t' := .int) (by decide) (by decide))))
  obtain ⟨T877, X877, e877, st877⟩ := getF X875 hx hZ hown (host := "") (Or.inl (hwi hw 20 rfl)) Via.refl e875 f876 (g := (mkF m 29 #[.val (.ref tb), .val (.int (1 : Int32))] [(.ref tb)])) rfl rfl (hb hby d15_29)
  refine Run.pre st877 ?_
  show Run p e below s _ _ _ (T877.setTop (mkF m 32 #[.val (.ref tb), .val (.int (1 : Int32))] [(.ref xh)]))
  refine Run.pre (fun _ k => XS.aloadN X877.here hx rfl (hb hby d15_32) rfl rfl k) ?_
  obtain ⟨T878, X878, e878, st878⟩ := getF X877 hx hZ hown (host := "") (Or.inl (hwi hw 36 rfl)) Via.refl e877 f872 (g := (mkF m 33 #[.val (.ref tb), .val (.int (1 : Int32))] [(.ref tb), (.ref xh)])) rfl rfl (hb hby d15_33)
  refine Run.pre st878 ?_
  have f879 := (V_xh_867.other W871 (Ne.symm ne_tb_xh))
  obtain ⟨c880, Ar880, -, S880, N880, H880, -⟩ := id f879
  have hin880 : ¬ ((0 : Int32) < 0 ∨ c880.slots.size ≤ ((0 : Int32)).toNatClampNeg) := inb_of S880 ⟨by decide, by decide⟩
  refine Run.pre (X878.baloadBooleans hx (j := (0 : Int32)) (v := (.int (1 : Int32))) (by rw [e878]; exact Ar880.1) (State.isArrayOf_alike hZ.alike Ar880.2.1) Ar880.2.2 hin880 (H880.at hin880 rfl) (g := (mkF m 36 #[.val (.ref tb), .val (.int (1 : Int32))] [(.int (0 : Int32)), (.ref xh)])) rfl rfl (hb hby d15_36)) ?_
  refine Run.pre (fun _ k => XS.ifYes X878.here hx rfl (pc0 := 37) (pc' := 53) rfl (hb hby d15_37) rfl ((if0 _ _).trans (feq ((by decide) : ¬ ((1 : Int32) = (0 : Int32)))).2) (by decide) (by decide) k) ?_
  have f881 := (f870.wr W871)
  have f882 := ((FR0.other W867 (Or.inl ne_tb_xh)).other W871 (Or.inr (slot_ne (Or.inl (hwi hw 11 rfl)) (Or.inl (hwi hw 28 rfl)) (by decide) (t := (.array .long)) (t' := .int) (by decide) (by decide))))
  have f883 := ((FR1.other W867 (Or.inl ne_tb_xh)).other W871 (Or.inr (slot_ne (Or.inl (hwi hw 13 rfl)) (Or.inl (hwi hw 28 rfl)) (by decide) (t := (.array .long)) (t' := .int) (by decide) (by decide))))
  have f884 := ((FR2.other W867 (Or.inl ne_tb_xh)).other W871 (Or.inr (slot_ne (Or.inl (hwi hw 16 rfl)) (Or.inl (hwi hw 28 rfl)) (by decide) (t := (.array .int)) (t' := .int) (by decide) (by decide))))
  have f885 := ((FR3.other W867 (Or.inl ne_tb_xh)).other W871 (Or.inr (slot_ne (Or.inl (hwi hw 18 rfl)) (Or.inl (hwi hw 28 rfl)) (by decide) (t := (.array .int)) (t' := .int) (by decide) (by decide))))
  have f886 := ((AR0.other W867 ne_xo_xh).other W871 (Ne.symm ne_tb_xo))
  have f887 := ((AR1.other W867 ne_xd_xh).other W871 (Ne.symm ne_tb_xd))
  have f888 := ((AR2.other W867 ne_xl_xh).other W871 (Ne.symm ne_tb_xl))
  have f889 := ((AR3.other W867 ne_xq_xh).other W871 (Ne.symm ne_tb_xq))
  exact Run.retV X878 hx hret hlk (hb hby d15_53) (by first | (rw [e878]; exact ⟨rfl, N871, K871, f881, f882, f883, f884, f885, f876, f872, f874, Fw871, f886, f887, f888, f889, f879⟩) | exact ⟨rfl, N871, K871, f881, f882, f883, f884, f885, f876, f872, f874, Fw871, f886, f887, f888, f889, f879⟩) (by decide) (by decide)
set_option maxRecDepth 65536 in
set_option maxHeartbeats 40000000 in
theorem rmR_32 (l : Launch) (Z : State) (a0 : Array Value) (hw : ∀ d ∈ tables_1, d.before a0 Z = true) (tb : Addr) (xo : Addr) (xd : Addr) (xl : Addr) (xq : Addr) (xh : Addr) (ko : ClassId) (kd : ClassId) (kl : ClassId) (kq : ClassId) (kh : ClassId) (p0 : Int64) (p1 : Int64) (p2 : Int64) (d0 : Int64) (d1 : Int64) (d2 : Int64) (l0 : Int32) (l1 : Int32) (l2 : Int32) (q0 : Int32) (q1 : Int32) (q2 : Int32) (h0 : Heap) (n0 : Nat) (Z0 : n0 ≤ h0.size) (E_tb : Exa Z h0 tb "com/example/manana/manana/storage/WaitingTable") (FR0 : Fld Z h0 tb "com/example/manana/manana/storage/WaitingTable" "offsets" "[J" (.ref xo)) (FR1 : Fld Z h0 tb "com/example/manana/manana/storage/WaitingTable" "dues" "[J" (.ref xd)) (FR2 : Fld Z h0 tb "com/example/manana/manana/storage/WaitingTable" "lengths" "[I" (.ref xl)) (FR3 : Fld Z h0 tb "com/example/manana/manana/storage/WaitingTable" "queues" "[I" (.ref xq)) (FR4 : Fld Z h0 tb "com/example/manana/manana/storage/WaitingTable" "held" "[Z" (.ref xh)) (Ff : Fld Z h0 tb "com/example/manana/manana/storage/WaitingTable" "first" "I" (.int (0 : Int32))) (Fe : Fld Z h0 tb "com/example/manana/manana/storage/WaitingTable" "end" "I" (.int (3 : Int32))) (Fz : Fld Z h0 tb "com/example/manana/manana/storage/WaitingTable" "size" "I" (.int (3 : Int32))) (AR0 : Arv Z h0 xo ko .long 16 (own_LJ p0 p1 p2) (.long (0 : Int64))) (AR1 : Arv Z h0 xd kd .long 16 (own_LJ d0 d1 d2) (.long (0 : Int64))) (AR2 : Arv Z h0 xl kl .int 16 (own_LI l0 l1 l2) (.int (0 : Int32))) (AR3 : Arv Z h0 xq kq .int 16 (own_LI q0 q1 q2) (.int (0 : Int32))) (AR4 : Arv Z h0 xh kh .boolean 16 (own_LI (1 : Int32) (1 : Int32) (1 : Int32)) (.int (0 : Int32))) (hD : own_D tb xo xd xl xq xh) (g_tb : n0 ≤ tb) (g_xo : n0 ≤ xo) (g_xd : n0 ≤ xd) (g_xl : n0 ≤ xl) (g_xq : n0 ≤ xq) (g_xh : n0 ≤ xh) :
    Con l (⟨"com/example/manana/manana/storage/WaitingTable", "remove", "(I)V"⟩ : MethodName) prog_84_method_8_code 2 none ({ frames := 0, cells := 0, slots := 0, locals := 0 } : Room) Z #[(.ref tb), (.int (2 : Int32))] h0 (fun v h L => v = none ∧ Fr n0 L ∧ Keep h0 h [tb, xo, xd, xl, xq, xh] ∧ Exa Z h tb "com/example/manana/manana/storage/WaitingTable" ∧ Fld Z h tb "com/example/manana/manana/storage/WaitingTable" "offsets" "[J" (.ref xo) ∧ Fld Z h tb "com/example/manana/manana/storage/WaitingTable" "dues" "[J" (.ref xd) ∧ Fld Z h tb "com/example/manana/manana/storage/WaitingTable" "lengths" "[I" (.ref xl) ∧ Fld Z h tb "com/example/manana/manana/storage/WaitingTable" "queues" "[I" (.ref xq) ∧ Fld Z h tb "com/example/manana/manana/storage/WaitingTable" "held" "[Z" (.ref xh) ∧ Fld Z h tb "com/example/manana/manana/storage/WaitingTable" "first" "I" (.int (0 : Int32)) ∧ Fld Z h tb "com/example/manana/manana/storage/WaitingTable" "end" "I" (.int (3 : Int32)) ∧ Fld Z h tb "com/example/manana/manana/storage/WaitingTable" "size" "I" (.int (2 : Int32)) ∧ Arv Z h xo ko .long 16 (own_LJ p0 p1 p2) (.long (0 : Int64)) ∧ Arv Z h xd kd .long 16 (own_LJ d0 d1 d2) (.long (0 : Int64)) ∧ Arv Z h xl kl .int 16 (own_LI l0 l1 l2) (.int (0 : Int32)) ∧ Arv Z h xq kq .int 16 (own_LI q0 q1 q2) (.int (0 : Int32)) ∧ Arv Z h xh kh .boolean 16 (own_LI (1 : Int32) (1 : Int32) (nar .boolean (0 : Int32))) (.int (0 : Int32))) := by
  refine Con.mk (plainFor_of_name pn_15) (fun m => show entryFrame m #[(.ref tb), (.int (2 : Int32))] 2 = mkF m 0 #[.val (.ref tb), .val (.int (2 : Int32))] [] by first | (simp [entryFrame, mkF, argsToLocals, Value.category]; done) | rfl) ?_
  intro p e s m below meth c s₁ hx hby hml hown hnm hret hlk hZ X0 e0
  have N0 := Fr.nil n0
  obtain ⟨ne_tb_xo, ne_tb_xd, ne_tb_xl, ne_tb_xq, ne_tb_xh, ne_xo_xd, ne_xo_xl, ne_xo_xq, ne_xo_xh, ne_xd_xl, ne_xd_xq, ne_xd_xh, ne_xl_xq, ne_xl_xh, ne_xq_xh⟩ := id hD
  show Run p e below s _ _ _ (s₁.setTop (mkF m 0 #[.val (.ref tb), .val (.int (2 : Int32))] []))
  refine Run.pre (fun _ k => XS.aloadN X0.here hx rfl (hb hby d15_0) rfl rfl k) ?_
  obtain ⟨T890, X890, e890, st890⟩ := getF X0 hx hZ hown (host := "") (Or.inl (hwi hw 20 rfl)) Via.refl e0 FR4 (g := (mkF m 1 #[.val (.ref tb), .val (.int (2 : Int32))] [(.ref tb)])) rfl rfl (hb hby d15_1)
  refine Run.pre st890 ?_
  refine Run.pre (fun _ k => XS.iloadN X890.here hx rfl (hb hby d15_4) rfl  k) ?_
  refine Run.pre (fun _ k => XS.iconst X890.here hx rfl (hb hby d15_5) k) ?_
  obtain ⟨c891, Ar891, q891, S891, N891, H891, G891⟩ := id AR4
  have hin891 : ¬ ((2 : Int32) < 0 ∨ c891.slots.size ≤ ((2 : Int32)).toNatClampNeg) := inb_of S891 ⟨by decide, by decide⟩
  obtain ⟨T892, h892, X892, e892, W892, st892⟩ := stZ X890 hx hZ e890 Ar891 (j := (2 : Int32)) hin891 (g := (mkF m 6 #[.val (.ref tb), .val (.int (2 : Int32))] [(.int (0 : Int32)), (.int (2 : Int32)), (.ref xh)])) rfl rfl (hb hby d15_6)
  refine Run.pre st892 ?_
  have V_xh_892 : Arv Z h892 xh kh .boolean (16 : Int32) (own_LI (1 : Int32) (1 : Int32) (nar .boolean (0 : Int32))) (.int (0 : Int32)) := Arv.set Ar891 q891 S891 N891 H891 G891 (fits_nar_bool _) W892 2 rfl (Nat.le_of_ble_eq_true rfl)
  have K892 : Keep h0 h892 [tb, xo, xd, xl, xq, xh] := (Keep.refl h0 [tb, xo, xd, xl, xq, xh]).wr W892 (Or.inl (by simp))
  have N892 := Fr.snoc X892 N0 g_xh
  refine Run.pre (fun _ k => XS.aloadN X892.here hx rfl (hb hby d15_7) rfl rfl k) ?_
  show Run p e below s _ _ _ (T892.setTop (mkF m 8 #[.val (.ref tb), .val (.int (2 : Int32))] [(.ref tb)]))
  refine Run.pre (fun _ k => XS.dup X892.here hx rfl (hb hby d15_8) rfl rfl k) ?_
  have f893 := (Fz.other W892 (Or.inl ne_tb_xh))
  obtain ⟨T894, X894, e894, st894⟩ := getF X892 hx hZ hown (host := "") (Or.inl (hwi hw 27 rfl)) Via.refl e892 f893 (g := (mkF m 9 #[.val (.ref tb), .val (.int (2 : Int32))] [(.ref tb), (.ref tb)])) rfl rfl (hb hby d15_9)
  refine Run.pre st894 ?_
  refine Run.pre (fun _ k => XS.iconst X894.here hx rfl (hb hby d15_12) k) ?_
  refine Run.pre (fun _ k => XS.isub X894.here hx rfl (hb hby d15_13) rfl k) ?_
  have f895 := (E_tb.wr W892)
  obtain ⟨T896, h896, X896, e896, W896, st896⟩ := putF X894 hx hZ hown (host := "") (Or.inl (hwi hw 27 rfl)) Via.refl e894 f893 f895 (Or.inl (hwi hw 28 rfl)) (hwi hw 1 rfl) (ty := .int) (by decide) rfl rfl (g := (mkF m 14 #[.val (.ref tb), .val (.int (2 : Int32))] [(.int (2 : Int32)), (.ref tb)])) rfl rfl (hb hby d15_14)
  refine Run.pre st896 ?_
  have Fw896 := f893.same W896
  have K896 : Keep h0 h896 [tb, xo, xd, xl, xq, xh] := K892.wr W896 (Or.inl (by simp))
  have N896 := Fr.snoc X896 N892 g_tb
  refine Run.pre (fun _ k => XS.aloadN X896.here hx rfl (hb hby d15_17) rfl rfl k) ?_
  show Run p e below s _ _ _ (T896.setTop (mkF m 18 #[.val (.ref tb), .val (.int (2 : Int32))] [(.ref tb)]))
  have f897 := ((Ff.other W892 (Or.inl ne_tb_xh)).other W896 (Or.inr (slot_ne (Or.inl (hwi hw 37 rfl)) (Or.inl (hwi hw 28 rfl)) (by decide) (t := .int) (t' := .int) (by decide) (by decide))))
  obtain ⟨T898, X898, e898, st898⟩ := getF X896 hx hZ hown (host := "") (Or.inl (hwi hw 36 rfl)) Via.refl e896 f897 (g := (mkF m 18 #[.val (.ref tb), .val (.int (2 : Int32))] [(.ref tb)])) rfl rfl (hb hby d15_18)
  refine Run.pre st898 ?_
  refine Run.pre (fun _ k => XS.aloadN X898.here hx rfl (hb hby d15_21) rfl rfl k) ?_
  have f899 := ((Fe.other W892 (Or.inl ne_tb_xh)).other W896 (Or.inr (slot_ne (Or.inl (hwi hw 35 rfl)) (Or.inl (hwi hw 28 rfl)) (by decide) (t := .int) (t' := .int) (by decide) (by decide))))
  obtain ⟨T900, X900, e900, st900⟩ := getF X898 hx hZ hown (host := "") (Or.inl (hwi hw 34 rfl)) Via.refl e898 f899 (g := (mkF m 22 #[.val (.ref tb), .val (.int (2 : Int32))] [(.ref tb), (.int (0 : Int32))])) rfl rfl (hb hby d15_22)
  refine Run.pre st900 ?_
  refine Run.pre (fun _ k => XS.icmpNo X900.here hx rfl (hb hby d15_25) rfl (tlt ((by decide) : (0 : Int32) < (3 : Int32))).2.1 k) ?_
  refine Run.pre (fun _ k => XS.aloadN X900.here hx rfl (hb hby d15_28) rfl rfl k) ?_
  have f901 := ((FR4.other W892 (Or.inl ne_tb_xh)).other W896 (Or.inr (slot_ne (Or.inl (hwi hw 21 rfl)) (Or.inl (hwi hw 28 rfl)) (by decide) (t := (.array .boolean)) (t' := .int) (by decide) (by decide))))
  obtain ⟨T902, X902, e902, st902⟩ := getF X900 hx hZ hown (host := "") (Or.inl (hwi hw 20 rfl)) Via.refl e900 f901 (g := (mkF m 29 #[.val (.ref tb), .val (.int (2 : Int32))] [(.ref tb)])) rfl rfl (hb hby d15_29)
  refine Run.pre st902 ?_
  show Run p e below s _ _ _ (T902.setTop (mkF m 32 #[.val (.ref tb), .val (.int (2 : Int32))] [(.ref xh)]))
  refine Run.pre (fun _ k => XS.aloadN X902.here hx rfl (hb hby d15_32) rfl rfl k) ?_
  obtain ⟨T903, X903, e903, st903⟩ := getF X902 hx hZ hown (host := "") (Or.inl (hwi hw 36 rfl)) Via.refl e902 f897 (g := (mkF m 33 #[.val (.ref tb), .val (.int (2 : Int32))] [(.ref tb), (.ref xh)])) rfl rfl (hb hby d15_33)
  refine Run.pre st903 ?_
  have f904 := (V_xh_892.other W896 (Ne.symm ne_tb_xh))
  obtain ⟨c905, Ar905, -, S905, N905, H905, -⟩ := id f904
  have hin905 : ¬ ((0 : Int32) < 0 ∨ c905.slots.size ≤ ((0 : Int32)).toNatClampNeg) := inb_of S905 ⟨by decide, by decide⟩
  refine Run.pre (X903.baloadBooleans hx (j := (0 : Int32)) (v := (.int (1 : Int32))) (by rw [e903]; exact Ar905.1) (State.isArrayOf_alike hZ.alike Ar905.2.1) Ar905.2.2 hin905 (H905.at hin905 rfl) (g := (mkF m 36 #[.val (.ref tb), .val (.int (2 : Int32))] [(.int (0 : Int32)), (.ref xh)])) rfl rfl (hb hby d15_36)) ?_
  refine Run.pre (fun _ k => XS.ifYes X903.here hx rfl (pc0 := 37) (pc' := 53) rfl (hb hby d15_37) rfl ((if0 _ _).trans (feq ((by decide) : ¬ ((1 : Int32) = (0 : Int32)))).2) (by decide) (by decide) k) ?_
  have f906 := (f895.wr W896)
  have f907 := ((FR0.other W892 (Or.inl ne_tb_xh)).other W896 (Or.inr (slot_ne (Or.inl (hwi hw 11 rfl)) (Or.inl (hwi hw 28 rfl)) (by decide) (t := (.array .long)) (t' := .int) (by decide) (by decide))))
  have f908 := ((FR1.other W892 (Or.inl ne_tb_xh)).other W896 (Or.inr (slot_ne (Or.inl (hwi hw 13 rfl)) (Or.inl (hwi hw 28 rfl)) (by decide) (t := (.array .long)) (t' := .int) (by decide) (by decide))))
  have f909 := ((FR2.other W892 (Or.inl ne_tb_xh)).other W896 (Or.inr (slot_ne (Or.inl (hwi hw 16 rfl)) (Or.inl (hwi hw 28 rfl)) (by decide) (t := (.array .int)) (t' := .int) (by decide) (by decide))))
  have f910 := ((FR3.other W892 (Or.inl ne_tb_xh)).other W896 (Or.inr (slot_ne (Or.inl (hwi hw 18 rfl)) (Or.inl (hwi hw 28 rfl)) (by decide) (t := (.array .int)) (t' := .int) (by decide) (by decide))))
  have f911 := ((AR0.other W892 ne_xo_xh).other W896 (Ne.symm ne_tb_xo))
  have f912 := ((AR1.other W892 ne_xd_xh).other W896 (Ne.symm ne_tb_xd))
  have f913 := ((AR2.other W892 ne_xl_xh).other W896 (Ne.symm ne_tb_xl))
  have f914 := ((AR3.other W892 ne_xq_xh).other W896 (Ne.symm ne_tb_xq))
  exact Run.retV X903 hx hret hlk (hb hby d15_53) (by first | (rw [e903]; exact ⟨rfl, N896, K896, f906, f907, f908, f909, f910, f901, f897, f899, Fw896, f911, f912, f913, f914, f904⟩) | exact ⟨rfl, N896, K896, f906, f907, f908, f909, f910, f901, f897, f899, Fw896, f911, f912, f913, f914, f904⟩) (by decide) (by decide)
theorem d13_0 : decode method_3_code 0 = .ok (.aload_n 0, 1) := by decide +kernel
theorem d13_1 : decode method_3_code 1 = .ok (.lload_n 1, 1) := by decide +kernel
theorem d13_2 : decode method_3_code 2 = .ok (.invokevirtual 36, 3) := by decide +kernel
theorem d13_5 : decode method_3_code 5 = .ok (.istore_n 3, 1) := by decide +kernel
theorem d13_6 : decode method_3_code 6 = .ok (.iload_n 3, 1) := by decide +kernel
theorem d13_7 : decode method_3_code 7 = .ok (.ifCond .lt 8, 3) := by decide +kernel
theorem d13_15 : decode method_3_code 15 = .ok (.return_, 1) := by decide +kernel
theorem d13_10 : decode method_3_code 10 = .ok (.aload_n 0, 1) := by decide +kernel
theorem d13_11 : decode method_3_code 11 = .ok (.iload_n 3, 1) := by decide +kernel
theorem pd_4 : parseMethodDescriptor "(I)V" = some ⟨[.int], none⟩ := by decide +kernel
theorem d13_12 : decode method_3_code 12 = .ok (.invokevirtual 40, 3) := by decide +kernel
theorem pn_13 : plainName "com/example/manana/manana/storage/WaitingTableLowestPinLaw" = true := by first | (simp [plainName, overriddenIn]; done) | decide +kernel
set_option maxRecDepth 65536 in
set_option maxHeartbeats 40000000 in
theorem rmDrop (l : Launch) (Z : State) (a0 : Array Value) (hw : ∀ d ∈ tables_1, d.before a0 Z = true) (tb : Addr) (xo : Addr) (xd : Addr) (xl : Addr) (xq : Addr) (xh : Addr) (ko : ClassId) (kd : ClassId) (kl : ClassId) (kq : ClassId) (kh : ClassId) (p0 : Int64) (p1 : Int64) (p2 : Int64) (d0 : Int64) (d1 : Int64) (d2 : Int64) (l0 : Int32) (l1 : Int32) (l2 : Int32) (q0 : Int32) (q1 : Int32) (q2 : Int32) (b0 : Int32) (b1 : Int32) (b2 : Int32) (fi : Int32) (en : Int32) (si : Int32) (xk : Int64) (S : Int64 → Prop) (h0 : Heap) (n0 : Nat) (Z0 : n0 ≤ h0.size) (hH : own_H Z h0 tb xo xd xl xq xh ko kd kl kq kh p0 p1 p2 d0 d1 d2 l0 l1 l2 q0 q1 q2 b0 b1 b2 fi en si) (hD : own_D tb xo xd xl xq xh) (g_tb : n0 ≤ tb) (g_xo : n0 ≤ xo) (g_xd : n0 ≤ xd) (g_xl : n0 ≤ xl) (g_xq : n0 ≤ xq) (g_xh : n0 ≤ xh) (hR : (fi = 0 ∧ en = 0 ∧ si = 0 ∧ b0 = 0 ∧ b1 = 0 ∧ b2 = 0 ∧ ∀ x, S x ↔ (False)) ∨ (fi = 0 ∧ en = 1 ∧ si = 1 ∧ b0 = 1 ∧ b1 = 0 ∧ b2 = 0 ∧ ∀ x, S x ↔ (x = p0)) ∨ (fi = 0 ∧ en = 2 ∧ si = 2 ∧ b0 = 1 ∧ b1 = 1 ∧ b2 = 0 ∧ p0 < p1 ∧ ∀ x, S x ↔ (x = p0 ∨ x = p1)) ∨ (fi = 0 ∧ en = 3 ∧ si = 3 ∧ b0 = 1 ∧ b1 = 1 ∧ b2 = 1 ∧ p0 < p1 ∧ p1 < p2 ∧ ∀ x, S x ↔ (x = p0 ∨ x = p1 ∨ x = p2))) :
    Con l (⟨"com/example/manana/manana/storage/WaitingTableLowestPinLaw", "drop", "(Lcom/example/manana/manana/storage/WaitingTable;J)V"⟩ : MethodName) method_3_code 4 none ({ frames := 4, cells := 0, slots := 0, locals := 66 } : Room) Z #[(.ref tb), (.long xk)] h0 (fun v h L => ∃ b0n : Int32, ∃ b1n : Int32, ∃ b2n : Int32, ∃ fin : Int32, ∃ enn : Int32, ∃ sin : Int32, v = none ∧ Fr n0 L ∧ Keep h0 h [tb, xo, xd, xl, xq, xh] ∧ own_H Z h tb xo xd xl xq xh ko kd kl kq kh p0 p1 p2 d0 d1 d2 l0 l1 l2 q0 q1 q2 b0n b1n b2n fin enn sin ∧ own_R p0 p1 p2 b0n b1n b2n fin enn sin (fun x => S x ∧ ¬ x = xk) ∧ enn = en) := by
  refine Con.mk (plainFor_of_name pn_13) (fun m => show entryFrame m #[(.ref tb), (.long xk)] 4 = mkF m 0 #[.val (.ref tb), .val (.long xk), .second, .unset] [] by first | (simp [entryFrame, mkF, argsToLocals, Value.category]; done) | rfl) ?_
  intro p e s m below meth c s₁ hx hby hml hown hnm hret hlk hZ X0 e0
  have N0 := Fr.nil n0
  obtain ⟨ne_tb_xo, ne_tb_xd, ne_tb_xl, ne_tb_xq, ne_tb_xh, ne_xo_xd, ne_xo_xl, ne_xo_xq, ne_xo_xh, ne_xd_xl, ne_xd_xq, ne_xd_xh, ne_xl_xq, ne_xl_xh, ne_xq_xh⟩ := id hD
  obtain ⟨E_tb, FR0, FR1, FR2, FR3, FR4, Ff, Fe, Fz, AR0, AR1, AR2, AR3, AR4⟩ := id hH
  show Run p e below s _ _ _ (s₁.setTop (mkF m 0 #[.val (.ref tb), .val (.long xk), .second, .unset] []))
  rcases hR with ⟨rfl, rfl, rfl, rfl, rfl, rfl, hS⟩ | ⟨rfl, rfl, rfl, rfl, rfl, rfl, hS⟩ | ⟨rfl, rfl, rfl, rfl, rfl, rfl, o01, hS⟩ | ⟨rfl, rfl, rfl, rfl, rfl, rfl, o01, o12, hS⟩
  · skip
    show Run p e below s _ _ _ (s₁.setTop (mkF m 0 #[.val (.ref tb), .val (.long xk), .second, .unset] []))
    refine Run.pre (fun _ k => XS.aloadN X0.here hx rfl (hb hby d13_0) rfl rfl k) ?_
    refine Run.pre (fun _ k => XS.lloadN X0.here hx rfl (hb hby d13_1) rfl  k) ?_
    refine Run.callV X0 hx hZ (y := (⟨"com/example/manana/manana/storage/WaitingTable", "find", "(J)I"⟩ : MethodName)) (z := (⟨"com/example/manana/manana/storage/WaitingTable", "find", "(J)I"⟩ : MethodName)) hown (hwi hw 74 rfl) (hwi hw 75 rfl) (notFace_of_selects (args := #[]) (mvT hZ (hwi hw 77 rfl))) (hwi hw 77 rfl) (hwi hw 76 rfl) (hwi hw 78 rfl) (hwi hw 2 rfl) (by decide) (b := tb) E_tb (W := 0) (rmF_0 l Z a0 hw tb xo ko p0 p1 p2 xk xh kh h0 n0 (Nat.le_trans Z0 (Keep.refl h0 [tb, xo, xd, xl, xq, xh]).1) E_tb FR0 FR4 Ff Fe AR0 AR4) e0 (by decide) (by decide) (by decide) (by decide) (g := (mkF m 2 #[.val (.ref tb), .val (.long xk), .second, .unset] [(.long xk), (.ref tb)])) rfl (by rw [hml]; rfl) (argsL := [(.long xk)]) (rest := []) (lenOf pd_2 rfl) rfl (by show 2 * 0 + _ ≤ _; exact Nat.le_of_eq rfl) (hb hby d13_2) ?_
    intro v915 T915 L915 X915 hQ915
    obtain ⟨r915, rfl, Nq915, he915, fd915⟩ := hQ915
    have N915 := Fr.app N0 Nq915
    have e915 : T915.heap = h0 := he915
    show Run p e below s _ _ _ (T915.setTop (mkF m 5 #[.val (.ref tb), .val (.long xk), .second, .unset] [(.int r915)]))
    obtain rfl := fd915
    refine Run.pre (fun _ k => XS.istoreN X915.here hx rfl (hb hby d13_5) rfl (l' := #[.val (.ref tb), .val (.long xk), .second, .val (.int (-1 : Int32))]) rfl k) ?_
    refine Run.pre (fun _ k => XS.iloadN X915.here hx rfl (hb hby d13_6) rfl  k) ?_
    refine Run.pre (fun _ k => XS.ifYes X915.here hx rfl (pc0 := 7) (pc' := 15) rfl (hb hby d13_7) rfl ((if0 _ _).trans (tlt ((by decide) : (-1 : Int32) < (0 : Int32))).1) (by decide) (by decide) k) ?_
    show Run p e below s _ _ _ (T915.setTop (mkF m 15 #[.val (.ref tb), .val (.long xk), .second, .val (.int (-1 : Int32))] []))
    exact Run.retV X915 hx hret hlk (hb hby d13_15) (by first | (rw [e915]; exact ⟨(0 : Int32), (0 : Int32), (0 : Int32), (0 : Int32), (0 : Int32), (0 : Int32), rfl, N915, (Keep.refl h0 [tb, xo, xd, xl, xq, xh]), ⟨E_tb, FR0, FR1, FR2, FR3, FR4, Ff, Fe, Fz, AR0, AR1, AR2, AR3, AR4⟩, (Or.inl ⟨(by decide), (by decide), (by decide), (by decide), (by decide), (by decide), fun x => by show (S x ∧ ¬ x = xk) ↔ _; have hx1 := hS x; clear hS; grind⟩), rfl⟩) | exact ⟨(0 : Int32), (0 : Int32), (0 : Int32), (0 : Int32), (0 : Int32), (0 : Int32), rfl, N915, (Keep.refl h0 [tb, xo, xd, xl, xq, xh]), ⟨E_tb, FR0, FR1, FR2, FR3, FR4, Ff, Fe, Fz, AR0, AR1, AR2, AR3, AR4⟩, (Or.inl ⟨(by decide), (by decide), (by decide), (by decide), (by decide), (by decide), fun x => by show (S x ∧ ¬ x = xk) ↔ _; have hx1 := hS x; clear hS; grind⟩), rfl⟩) (by decide) (by decide)
  · skip
    show Run p e below s _ _ _ (s₁.setTop (mkF m 0 #[.val (.ref tb), .val (.long xk), .second, .unset] []))
    refine Run.pre (fun _ k => XS.aloadN X0.here hx rfl (hb hby d13_0) rfl rfl k) ?_
    refine Run.pre (fun _ k => XS.lloadN X0.here hx rfl (hb hby d13_1) rfl  k) ?_
    refine Run.callV X0 hx hZ (y := (⟨"com/example/manana/manana/storage/WaitingTable", "find", "(J)I"⟩ : MethodName)) (z := (⟨"com/example/manana/manana/storage/WaitingTable", "find", "(J)I"⟩ : MethodName)) hown (hwi hw 74 rfl) (hwi hw 75 rfl) (notFace_of_selects (args := #[]) (mvT hZ (hwi hw 77 rfl))) (hwi hw 77 rfl) (hwi hw 76 rfl) (hwi hw 78 rfl) (hwi hw 2 rfl) (by decide) (b := tb) E_tb (W := 0) (rmF_1 l Z a0 hw tb xo ko p0 p1 p2 xk xh kh h0 n0 (Nat.le_trans Z0 (Keep.refl h0 [tb, xo, xd, xl, xq, xh]).1) E_tb FR0 FR4 Ff Fe AR0 AR4) e0 (by decide) (by decide) (by decide) (by decide) (g := (mkF m 2 #[.val (.ref tb), .val (.long xk), .second, .unset] [(.long xk), (.ref tb)])) rfl (by rw [hml]; rfl) (argsL := [(.long xk)]) (rest := []) (lenOf pd_2 rfl) rfl (by show 2 * 0 + _ ≤ _; exact Nat.le_of_eq rfl) (hb hby d13_2) ?_
    intro v916 T916 L916 X916 hQ916
    obtain ⟨r916, rfl, Nq916, he916, fd916⟩ := hQ916
    have N916 := Fr.app N0 Nq916
    have e916 : T916.heap = h0 := he916
    show Run p e below s _ _ _ (T916.setTop (mkF m 5 #[.val (.ref tb), .val (.long xk), .second, .unset] [(.int r916)]))
    rcases fd916 with ⟨rfl, s0⟩ | ⟨rfl, s0⟩ | ⟨rfl, s0⟩
    · skip
      refine Run.pre (fun _ k => XS.istoreN X916.here hx rfl (hb hby d13_5) rfl (l' := #[.val (.ref tb), .val (.long xk), .second, .val (.int (-1 : Int32))]) rfl k) ?_
      refine Run.pre (fun _ k => XS.iloadN X916.here hx rfl (hb hby d13_6) rfl  k) ?_
      refine Run.pre (fun _ k => XS.ifYes X916.here hx rfl (pc0 := 7) (pc' := 15) rfl (hb hby d13_7) rfl ((if0 _ _).trans (tlt ((by decide) : (-1 : Int32) < (0 : Int32))).1) (by decide) (by decide) k) ?_
      show Run p e below s _ _ _ (T916.setTop (mkF m 15 #[.val (.ref tb), .val (.long xk), .second, .val (.int (-1 : Int32))] []))
      have m0 : ¬ p0 = xk := by intro q; have q2 := congrArg Int64.toInt q; simp only [Int64.lt_iff_toInt_lt] at s0; omega
      exact Run.retV X916 hx hret hlk (hb hby d13_15) (by first | (rw [e916]; exact ⟨(1 : Int32), (0 : Int32), (0 : Int32), (0 : Int32), (1 : Int32), (1 : Int32), rfl, N916, (Keep.refl h0 [tb, xo, xd, xl, xq, xh]), ⟨E_tb, FR0, FR1, FR2, FR3, FR4, Ff, Fe, Fz, AR0, AR1, AR2, AR3, AR4⟩, (Or.inr (Or.inl ⟨(by decide), (by decide), (by decide), (by decide), (by decide), (by decide), fun x => by show (S x ∧ ¬ x = xk) ↔ _; have hx1 := hS x; clear hS; grind⟩)), rfl⟩) | exact ⟨(1 : Int32), (0 : Int32), (0 : Int32), (0 : Int32), (1 : Int32), (1 : Int32), rfl, N916, (Keep.refl h0 [tb, xo, xd, xl, xq, xh]), ⟨E_tb, FR0, FR1, FR2, FR3, FR4, Ff, Fe, Fz, AR0, AR1, AR2, AR3, AR4⟩, (Or.inr (Or.inl ⟨(by decide), (by decide), (by decide), (by decide), (by decide), (by decide), fun x => by show (S x ∧ ¬ x = xk) ↔ _; have hx1 := hS x; clear hS; grind⟩)), rfl⟩) (by decide) (by decide)
    · skip
      refine Run.pre (fun _ k => XS.istoreN X916.here hx rfl (hb hby d13_5) rfl (l' := #[.val (.ref tb), .val (.long xk), .second, .val (.int (-1 : Int32))]) rfl k) ?_
      refine Run.pre (fun _ k => XS.iloadN X916.here hx rfl (hb hby d13_6) rfl  k) ?_
      refine Run.pre (fun _ k => XS.ifYes X916.here hx rfl (pc0 := 7) (pc' := 15) rfl (hb hby d13_7) rfl ((if0 _ _).trans (tlt ((by decide) : (-1 : Int32) < (0 : Int32))).1) (by decide) (by decide) k) ?_
      show Run p e below s _ _ _ (T916.setTop (mkF m 15 #[.val (.ref tb), .val (.long xk), .second, .val (.int (-1 : Int32))] []))
      have m0 : ¬ p0 = xk := by intro q; have q2 := congrArg Int64.toInt q; simp only [Int64.lt_iff_toInt_lt] at s0; omega
      exact Run.retV X916 hx hret hlk (hb hby d13_15) (by first | (rw [e916]; exact ⟨(1 : Int32), (0 : Int32), (0 : Int32), (0 : Int32), (1 : Int32), (1 : Int32), rfl, N916, (Keep.refl h0 [tb, xo, xd, xl, xq, xh]), ⟨E_tb, FR0, FR1, FR2, FR3, FR4, Ff, Fe, Fz, AR0, AR1, AR2, AR3, AR4⟩, (Or.inr (Or.inl ⟨(by decide), (by decide), (by decide), (by decide), (by decide), (by decide), fun x => by show (S x ∧ ¬ x = xk) ↔ _; have hx1 := hS x; clear hS; grind⟩)), rfl⟩) | exact ⟨(1 : Int32), (0 : Int32), (0 : Int32), (0 : Int32), (1 : Int32), (1 : Int32), rfl, N916, (Keep.refl h0 [tb, xo, xd, xl, xq, xh]), ⟨E_tb, FR0, FR1, FR2, FR3, FR4, Ff, Fe, Fz, AR0, AR1, AR2, AR3, AR4⟩, (Or.inr (Or.inl ⟨(by decide), (by decide), (by decide), (by decide), (by decide), (by decide), fun x => by show (S x ∧ ¬ x = xk) ↔ _; have hx1 := hS x; clear hS; grind⟩)), rfl⟩) (by decide) (by decide)
    · skip
      refine Run.pre (fun _ k => XS.istoreN X916.here hx rfl (hb hby d13_5) rfl (l' := #[.val (.ref tb), .val (.long xk), .second, .val (.int (0 : Int32))]) rfl k) ?_
      refine Run.pre (fun _ k => XS.iloadN X916.here hx rfl (hb hby d13_6) rfl  k) ?_
      refine Run.pre (fun _ k => XS.ifNo X916.here hx rfl (hb hby d13_7) rfl ((if0 _ _).trans (flt ((by decide) : ¬ ((0 : Int32) < (0 : Int32)))).1) k) ?_
      show Run p e below s _ _ _ (T916.setTop (mkF m 10 #[.val (.ref tb), .val (.long xk), .second, .val (.int (0 : Int32))] []))
      refine Run.pre (fun _ k => XS.aloadN X916.here hx rfl (hb hby d13_10) rfl rfl k) ?_
      refine Run.pre (fun _ k => XS.iloadN X916.here hx rfl (hb hby d13_11) rfl  k) ?_
      refine Run.callV X916 hx hZ (y := (⟨"com/example/manana/manana/storage/WaitingTable", "remove", "(I)V"⟩ : MethodName)) (z := (⟨"com/example/manana/manana/storage/WaitingTable", "remove", "(I)V"⟩ : MethodName)) hown (hwi hw 79 rfl) (hwi hw 80 rfl) (notFace_of_selects (args := #[]) (mvT hZ (hwi hw 82 rfl))) (hwi hw 82 rfl) (hwi hw 81 rfl) (hwi hw 83 rfl) (hwi hw 2 rfl) (by decide) (b := tb) E_tb (W := 0) (rmR_10 l Z a0 hw tb xo xd xl xq xh ko kd kl kq kh p0 p1 p2 d0 d1 d2 l0 l1 l2 q0 q1 q2 h0 n0 (Nat.le_trans Z0 (Keep.refl h0 [tb, xo, xd, xl, xq, xh]).1) E_tb FR0 FR1 FR2 FR3 FR4 Ff Fe Fz AR0 AR1 AR2 AR3 AR4 hD g_tb g_xo g_xd g_xl g_xq g_xh) e916 (by decide) (by decide) (by decide) (by decide) (g := (mkF m 12 #[.val (.ref tb), .val (.long xk), .second, .val (.int (0 : Int32))] [(.int (0 : Int32)), (.ref tb)])) rfl (by rw [hml]; rfl) (argsL := [(.int (0 : Int32))]) (rest := []) (lenOf pd_4 rfl) rfl (by show 2 * 0 + _ ≤ _; exact Nat.le_of_eq rfl) (hb hby d13_12) ?_
      intro v917 T917 L917 X917 hQ917
      obtain ⟨rfl, Nq917, Kc917, iE_tb_917, iFR0_917, iFR1_917, iFR2_917, iFR3_917, iFR4_917, iFf_917, iFe_917, iFz_917, iAR0_917, iAR1_917, iAR2_917, iAR3_917, iAR4_917⟩ := hQ917
      have N917 := Fr.app N916 Nq917
      have K917 : Keep h0 T917.heap [tb, xo, xd, xl, xq, xh] := (Keep.refl h0 [tb, xo, xd, xl, xq, xh]).trans Kc917 (allS (Or.inl (by simp)) (allS (Or.inl (by simp)) (allS (Or.inl (by simp)) (allS (Or.inl (by simp)) (allS (Or.inl (by simp)) (allS (Or.inl (by simp)) all0))))))
      have hxe0 := own_eqE s0
      exact Run.retV X917 hx hret hlk (hb hby d13_15) ⟨(nar .boolean (0 : Int32)), (0 : Int32), (0 : Int32), (1 : Int32), (1 : Int32), (0 : Int32), rfl, N917, K917, ⟨iE_tb_917, iFR0_917, iFR1_917, iFR2_917, iFR3_917, iFR4_917, iFf_917, iFe_917, iFz_917, iAR0_917, iAR1_917, iAR2_917, iAR3_917, iAR4_917⟩, (Or.inr (Or.inr (Or.inl ⟨(by decide), (by decide), (by decide), (by decide), (by decide), (by decide), fun x => by show (S x ∧ ¬ x = xk) ↔ _; have hx1 := hS x; clear hS; grind⟩))), rfl⟩ (by decide) (by decide)
  · skip
    show Run p e below s _ _ _ (s₁.setTop (mkF m 0 #[.val (.ref tb), .val (.long xk), .second, .unset] []))
    refine Run.pre (fun _ k => XS.aloadN X0.here hx rfl (hb hby d13_0) rfl rfl k) ?_
    refine Run.pre (fun _ k => XS.lloadN X0.here hx rfl (hb hby d13_1) rfl  k) ?_
    refine Run.callV X0 hx hZ (y := (⟨"com/example/manana/manana/storage/WaitingTable", "find", "(J)I"⟩ : MethodName)) (z := (⟨"com/example/manana/manana/storage/WaitingTable", "find", "(J)I"⟩ : MethodName)) hown (hwi hw 74 rfl) (hwi hw 75 rfl) (notFace_of_selects (args := #[]) (mvT hZ (hwi hw 77 rfl))) (hwi hw 77 rfl) (hwi hw 76 rfl) (hwi hw 78 rfl) (hwi hw 2 rfl) (by decide) (b := tb) E_tb (W := 0) (rmF_2 l Z a0 hw tb xo ko p0 p1 p2 xk xh kh h0 n0 (Nat.le_trans Z0 (Keep.refl h0 [tb, xo, xd, xl, xq, xh]).1) E_tb FR0 FR4 Ff Fe AR0 AR4) e0 (by decide) (by decide) (by decide) (by decide) (g := (mkF m 2 #[.val (.ref tb), .val (.long xk), .second, .unset] [(.long xk), (.ref tb)])) rfl (by rw [hml]; rfl) (argsL := [(.long xk)]) (rest := []) (lenOf pd_2 rfl) rfl (by show 2 * 0 + _ ≤ _; exact Nat.le_of_eq rfl) (hb hby d13_2) ?_
    intro v918 T918 L918 X918 hQ918
    obtain ⟨r918, rfl, Nq918, he918, fd918⟩ := hQ918
    have N918 := Fr.app N0 Nq918
    have e918 : T918.heap = h0 := he918
    show Run p e below s _ _ _ (T918.setTop (mkF m 5 #[.val (.ref tb), .val (.long xk), .second, .unset] [(.int r918)]))
    rcases fd918 with ⟨rfl, s0, s1⟩ | ⟨rfl, s0, s1⟩ | ⟨rfl, s0, s1⟩ | ⟨rfl, s0⟩ | ⟨rfl, s0⟩
    · skip
      refine Run.pre (fun _ k => XS.istoreN X918.here hx rfl (hb hby d13_5) rfl (l' := #[.val (.ref tb), .val (.long xk), .second, .val (.int (-1 : Int32))]) rfl k) ?_
      refine Run.pre (fun _ k => XS.iloadN X918.here hx rfl (hb hby d13_6) rfl  k) ?_
      refine Run.pre (fun _ k => XS.ifYes X918.here hx rfl (pc0 := 7) (pc' := 15) rfl (hb hby d13_7) rfl ((if0 _ _).trans (tlt ((by decide) : (-1 : Int32) < (0 : Int32))).1) (by decide) (by decide) k) ?_
      show Run p e below s _ _ _ (T918.setTop (mkF m 15 #[.val (.ref tb), .val (.long xk), .second, .val (.int (-1 : Int32))] []))
      have m0 : ¬ p0 = xk := by intro q; have q2 := congrArg Int64.toInt q; simp only [Int64.lt_iff_toInt_lt] at s0 s1 o01; omega
      have m1 : ¬ p1 = xk := by intro q; have q2 := congrArg Int64.toInt q; simp only [Int64.lt_iff_toInt_lt] at s0 s1 o01; omega
      exact Run.retV X918 hx hret hlk (hb hby d13_15) (by first | (rw [e918]; exact ⟨(1 : Int32), (1 : Int32), (0 : Int32), (0 : Int32), (2 : Int32), (2 : Int32), rfl, N918, (Keep.refl h0 [tb, xo, xd, xl, xq, xh]), ⟨E_tb, FR0, FR1, FR2, FR3, FR4, Ff, Fe, Fz, AR0, AR1, AR2, AR3, AR4⟩, (Or.inr (Or.inr (Or.inr (Or.inl ⟨(by decide), (by decide), (by decide), (by decide), (by decide), (by decide), o01, fun x => by show (S x ∧ ¬ x = xk) ↔ _; have hx1 := hS x; clear hS; grind⟩)))), rfl⟩) | exact ⟨(1 : Int32), (1 : Int32), (0 : Int32), (0 : Int32), (2 : Int32), (2 : Int32), rfl, N918, (Keep.refl h0 [tb, xo, xd, xl, xq, xh]), ⟨E_tb, FR0, FR1, FR2, FR3, FR4, Ff, Fe, Fz, AR0, AR1, AR2, AR3, AR4⟩, (Or.inr (Or.inr (Or.inr (Or.inl ⟨(by decide), (by decide), (by decide), (by decide), (by decide), (by decide), o01, fun x => by show (S x ∧ ¬ x = xk) ↔ _; have hx1 := hS x; clear hS; grind⟩)))), rfl⟩) (by decide) (by decide)
    · skip
      refine Run.pre (fun _ k => XS.istoreN X918.here hx rfl (hb hby d13_5) rfl (l' := #[.val (.ref tb), .val (.long xk), .second, .val (.int (-1 : Int32))]) rfl k) ?_
      refine Run.pre (fun _ k => XS.iloadN X918.here hx rfl (hb hby d13_6) rfl  k) ?_
      refine Run.pre (fun _ k => XS.ifYes X918.here hx rfl (pc0 := 7) (pc' := 15) rfl (hb hby d13_7) rfl ((if0 _ _).trans (tlt ((by decide) : (-1 : Int32) < (0 : Int32))).1) (by decide) (by decide) k) ?_
      show Run p e below s _ _ _ (T918.setTop (mkF m 15 #[.val (.ref tb), .val (.long xk), .second, .val (.int (-1 : Int32))] []))
      have m0 : ¬ p0 = xk := by intro q; have q2 := congrArg Int64.toInt q; simp only [Int64.lt_iff_toInt_lt] at s0 s1 o01; omega
      have m1 : ¬ p1 = xk := by intro q; have q2 := congrArg Int64.toInt q; simp only [Int64.lt_iff_toInt_lt] at s0 s1 o01; omega
      exact Run.retV X918 hx hret hlk (hb hby d13_15) (by first | (rw [e918]; exact ⟨(1 : Int32), (1 : Int32), (0 : Int32), (0 : Int32), (2 : Int32), (2 : Int32), rfl, N918, (Keep.refl h0 [tb, xo, xd, xl, xq, xh]), ⟨E_tb, FR0, FR1, FR2, FR3, FR4, Ff, Fe, Fz, AR0, AR1, AR2, AR3, AR4⟩, (Or.inr (Or.inr (Or.inr (Or.inl ⟨(by decide), (by decide), (by decide), (by decide), (by decide), (by decide), o01, fun x => by show (S x ∧ ¬ x = xk) ↔ _; have hx1 := hS x; clear hS; grind⟩)))), rfl⟩) | exact ⟨(1 : Int32), (1 : Int32), (0 : Int32), (0 : Int32), (2 : Int32), (2 : Int32), rfl, N918, (Keep.refl h0 [tb, xo, xd, xl, xq, xh]), ⟨E_tb, FR0, FR1, FR2, FR3, FR4, Ff, Fe, Fz, AR0, AR1, AR2, AR3, AR4⟩, (Or.inr (Or.inr (Or.inr (Or.inl ⟨(by decide), (by decide), (by decide), (by decide), (by decide), (by decide), o01, fun x => by show (S x ∧ ¬ x = xk) ↔ _; have hx1 := hS x; clear hS; grind⟩)))), rfl⟩) (by decide) (by decide)
    · skip
      refine Run.pre (fun _ k => XS.istoreN X918.here hx rfl (hb hby d13_5) rfl (l' := #[.val (.ref tb), .val (.long xk), .second, .val (.int (1 : Int32))]) rfl k) ?_
      refine Run.pre (fun _ k => XS.iloadN X918.here hx rfl (hb hby d13_6) rfl  k) ?_
      refine Run.pre (fun _ k => XS.ifNo X918.here hx rfl (hb hby d13_7) rfl ((if0 _ _).trans (flt ((by decide) : ¬ ((1 : Int32) < (0 : Int32)))).1) k) ?_
      show Run p e below s _ _ _ (T918.setTop (mkF m 10 #[.val (.ref tb), .val (.long xk), .second, .val (.int (1 : Int32))] []))
      refine Run.pre (fun _ k => XS.aloadN X918.here hx rfl (hb hby d13_10) rfl rfl k) ?_
      refine Run.pre (fun _ k => XS.iloadN X918.here hx rfl (hb hby d13_11) rfl  k) ?_
      refine Run.callV X918 hx hZ (y := (⟨"com/example/manana/manana/storage/WaitingTable", "remove", "(I)V"⟩ : MethodName)) (z := (⟨"com/example/manana/manana/storage/WaitingTable", "remove", "(I)V"⟩ : MethodName)) hown (hwi hw 79 rfl) (hwi hw 80 rfl) (notFace_of_selects (args := #[]) (mvT hZ (hwi hw 82 rfl))) (hwi hw 82 rfl) (hwi hw 81 rfl) (hwi hw 83 rfl) (hwi hw 2 rfl) (by decide) (b := tb) E_tb (W := 0) (rmR_21 l Z a0 hw tb xo xd xl xq xh ko kd kl kq kh p0 p1 p2 d0 d1 d2 l0 l1 l2 q0 q1 q2 h0 n0 (Nat.le_trans Z0 (Keep.refl h0 [tb, xo, xd, xl, xq, xh]).1) E_tb FR0 FR1 FR2 FR3 FR4 Ff Fe Fz AR0 AR1 AR2 AR3 AR4 hD g_tb g_xo g_xd g_xl g_xq g_xh) e918 (by decide) (by decide) (by decide) (by decide) (g := (mkF m 12 #[.val (.ref tb), .val (.long xk), .second, .val (.int (1 : Int32))] [(.int (1 : Int32)), (.ref tb)])) rfl (by rw [hml]; rfl) (argsL := [(.int (1 : Int32))]) (rest := []) (lenOf pd_4 rfl) rfl (by show 2 * 0 + _ ≤ _; exact Nat.le_of_eq rfl) (hb hby d13_12) ?_
      intro v919 T919 L919 X919 hQ919
      obtain ⟨rfl, Nq919, Kc919, iE_tb_919, iFR0_919, iFR1_919, iFR2_919, iFR3_919, iFR4_919, iFf_919, iFe_919, iFz_919, iAR0_919, iAR1_919, iAR2_919, iAR3_919, iAR4_919⟩ := hQ919
      have N919 := Fr.app N918 Nq919
      have K919 : Keep h0 T919.heap [tb, xo, xd, xl, xq, xh] := (Keep.refl h0 [tb, xo, xd, xl, xq, xh]).trans Kc919 (allS (Or.inl (by simp)) (allS (Or.inl (by simp)) (allS (Or.inl (by simp)) (allS (Or.inl (by simp)) (allS (Or.inl (by simp)) (allS (Or.inl (by simp)) all0))))))
      have m0 : ¬ p0 = xk := by intro q; have q2 := congrArg Int64.toInt q; simp only [Int64.lt_iff_toInt_lt] at s0 s1 o01; omega
      have hxe1 := own_eqE s1
      exact Run.retV X919 hx hret hlk (hb hby d13_15) ⟨(1 : Int32), (nar .boolean (0 : Int32)), (0 : Int32), (0 : Int32), (2 : Int32), (1 : Int32), rfl, N919, K919, ⟨iE_tb_919, iFR0_919, iFR1_919, iFR2_919, iFR3_919, iFR4_919, iFf_919, iFe_919, iFz_919, iAR0_919, iAR1_919, iAR2_919, iAR3_919, iAR4_919⟩, (Or.inr (Or.inr (Or.inr (Or.inr (Or.inr (Or.inl ⟨(by decide), (by decide), (by decide), (by decide), (by decide), (by decide), o01, fun x => by show (S x ∧ ¬ x = xk) ↔ _; have hx1 := hS x; clear hS; grind⟩)))))), rfl⟩ (by decide) (by decide)
    · skip
      refine Run.pre (fun _ k => XS.istoreN X918.here hx rfl (hb hby d13_5) rfl (l' := #[.val (.ref tb), .val (.long xk), .second, .val (.int (-1 : Int32))]) rfl k) ?_
      refine Run.pre (fun _ k => XS.iloadN X918.here hx rfl (hb hby d13_6) rfl  k) ?_
      refine Run.pre (fun _ k => XS.ifYes X918.here hx rfl (pc0 := 7) (pc' := 15) rfl (hb hby d13_7) rfl ((if0 _ _).trans (tlt ((by decide) : (-1 : Int32) < (0 : Int32))).1) (by decide) (by decide) k) ?_
      show Run p e below s _ _ _ (T918.setTop (mkF m 15 #[.val (.ref tb), .val (.long xk), .second, .val (.int (-1 : Int32))] []))
      have m0 : ¬ p0 = xk := by intro q; have q2 := congrArg Int64.toInt q; simp only [Int64.lt_iff_toInt_lt] at s0 o01; omega
      have m1 : ¬ p1 = xk := by intro q; have q2 := congrArg Int64.toInt q; simp only [Int64.lt_iff_toInt_lt] at s0 o01; omega
      exact Run.retV X918 hx hret hlk (hb hby d13_15) (by first | (rw [e918]; exact ⟨(1 : Int32), (1 : Int32), (0 : Int32), (0 : Int32), (2 : Int32), (2 : Int32), rfl, N918, (Keep.refl h0 [tb, xo, xd, xl, xq, xh]), ⟨E_tb, FR0, FR1, FR2, FR3, FR4, Ff, Fe, Fz, AR0, AR1, AR2, AR3, AR4⟩, (Or.inr (Or.inr (Or.inr (Or.inl ⟨(by decide), (by decide), (by decide), (by decide), (by decide), (by decide), o01, fun x => by show (S x ∧ ¬ x = xk) ↔ _; have hx1 := hS x; clear hS; grind⟩)))), rfl⟩) | exact ⟨(1 : Int32), (1 : Int32), (0 : Int32), (0 : Int32), (2 : Int32), (2 : Int32), rfl, N918, (Keep.refl h0 [tb, xo, xd, xl, xq, xh]), ⟨E_tb, FR0, FR1, FR2, FR3, FR4, Ff, Fe, Fz, AR0, AR1, AR2, AR3, AR4⟩, (Or.inr (Or.inr (Or.inr (Or.inl ⟨(by decide), (by decide), (by decide), (by decide), (by decide), (by decide), o01, fun x => by show (S x ∧ ¬ x = xk) ↔ _; have hx1 := hS x; clear hS; grind⟩)))), rfl⟩) (by decide) (by decide)
    · skip
      refine Run.pre (fun _ k => XS.istoreN X918.here hx rfl (hb hby d13_5) rfl (l' := #[.val (.ref tb), .val (.long xk), .second, .val (.int (0 : Int32))]) rfl k) ?_
      refine Run.pre (fun _ k => XS.iloadN X918.here hx rfl (hb hby d13_6) rfl  k) ?_
      refine Run.pre (fun _ k => XS.ifNo X918.here hx rfl (hb hby d13_7) rfl ((if0 _ _).trans (flt ((by decide) : ¬ ((0 : Int32) < (0 : Int32)))).1) k) ?_
      show Run p e below s _ _ _ (T918.setTop (mkF m 10 #[.val (.ref tb), .val (.long xk), .second, .val (.int (0 : Int32))] []))
      refine Run.pre (fun _ k => XS.aloadN X918.here hx rfl (hb hby d13_10) rfl rfl k) ?_
      refine Run.pre (fun _ k => XS.iloadN X918.here hx rfl (hb hby d13_11) rfl  k) ?_
      refine Run.callV X918 hx hZ (y := (⟨"com/example/manana/manana/storage/WaitingTable", "remove", "(I)V"⟩ : MethodName)) (z := (⟨"com/example/manana/manana/storage/WaitingTable", "remove", "(I)V"⟩ : MethodName)) hown (hwi hw 79 rfl) (hwi hw 80 rfl) (notFace_of_selects (args := #[]) (mvT hZ (hwi hw 82 rfl))) (hwi hw 82 rfl) (hwi hw 81 rfl) (hwi hw 83 rfl) (hwi hw 2 rfl) (by decide) (b := tb) E_tb (W := 0) (rmR_20 l Z a0 hw tb xo xd xl xq xh ko kd kl kq kh p0 p1 p2 d0 d1 d2 l0 l1 l2 q0 q1 q2 h0 n0 (Nat.le_trans Z0 (Keep.refl h0 [tb, xo, xd, xl, xq, xh]).1) E_tb FR0 FR1 FR2 FR3 FR4 Ff Fe Fz AR0 AR1 AR2 AR3 AR4 hD g_tb g_xo g_xd g_xl g_xq g_xh) e918 (by decide) (by decide) (by decide) (by decide) (g := (mkF m 12 #[.val (.ref tb), .val (.long xk), .second, .val (.int (0 : Int32))] [(.int (0 : Int32)), (.ref tb)])) rfl (by rw [hml]; rfl) (argsL := [(.int (0 : Int32))]) (rest := []) (lenOf pd_4 rfl) rfl (by show 2 * 0 + _ ≤ _; exact Nat.le_of_eq rfl) (hb hby d13_12) ?_
      intro v920 T920 L920 X920 hQ920
      obtain ⟨rfl, Nq920, Kc920, iE_tb_920, iFR0_920, iFR1_920, iFR2_920, iFR3_920, iFR4_920, iFf_920, iFe_920, iFz_920, iAR0_920, iAR1_920, iAR2_920, iAR3_920, iAR4_920⟩ := hQ920
      have N920 := Fr.app N918 Nq920
      have K920 : Keep h0 T920.heap [tb, xo, xd, xl, xq, xh] := (Keep.refl h0 [tb, xo, xd, xl, xq, xh]).trans Kc920 (allS (Or.inl (by simp)) (allS (Or.inl (by simp)) (allS (Or.inl (by simp)) (allS (Or.inl (by simp)) (allS (Or.inl (by simp)) (allS (Or.inl (by simp)) all0))))))
      have m1 : ¬ p1 = xk := by intro q; have q2 := congrArg Int64.toInt q; simp only [Int64.lt_iff_toInt_lt] at s0 o01; omega
      have hxe0 := own_eqE s0
      exact Run.retV X920 hx hret hlk (hb hby d13_15) ⟨(nar .boolean (0 : Int32)), (1 : Int32), (0 : Int32), (1 : Int32), (2 : Int32), (1 : Int32), rfl, N920, K920, ⟨iE_tb_920, iFR0_920, iFR1_920, iFR2_920, iFR3_920, iFR4_920, iFf_920, iFe_920, iFz_920, iAR0_920, iAR1_920, iAR2_920, iAR3_920, iAR4_920⟩, (Or.inr (Or.inr (Or.inr (Or.inr (Or.inl ⟨(by decide), (by decide), (by decide), (by decide), (by decide), (by decide), fun x => by show (S x ∧ ¬ x = xk) ↔ _; have hx1 := hS x; clear hS; grind⟩))))), rfl⟩ (by decide) (by decide)
  · skip
    show Run p e below s _ _ _ (s₁.setTop (mkF m 0 #[.val (.ref tb), .val (.long xk), .second, .unset] []))
    refine Run.pre (fun _ k => XS.aloadN X0.here hx rfl (hb hby d13_0) rfl rfl k) ?_
    refine Run.pre (fun _ k => XS.lloadN X0.here hx rfl (hb hby d13_1) rfl  k) ?_
    refine Run.callV X0 hx hZ (y := (⟨"com/example/manana/manana/storage/WaitingTable", "find", "(J)I"⟩ : MethodName)) (z := (⟨"com/example/manana/manana/storage/WaitingTable", "find", "(J)I"⟩ : MethodName)) hown (hwi hw 74 rfl) (hwi hw 75 rfl) (notFace_of_selects (args := #[]) (mvT hZ (hwi hw 77 rfl))) (hwi hw 77 rfl) (hwi hw 76 rfl) (hwi hw 78 rfl) (hwi hw 2 rfl) (by decide) (b := tb) E_tb (W := 0) (rmF_3 l Z a0 hw tb xo ko p0 p1 p2 xk xh kh h0 n0 (Nat.le_trans Z0 (Keep.refl h0 [tb, xo, xd, xl, xq, xh]).1) E_tb FR0 FR4 Ff Fe AR0 AR4) e0 (by decide) (by decide) (by decide) (by decide) (g := (mkF m 2 #[.val (.ref tb), .val (.long xk), .second, .unset] [(.long xk), (.ref tb)])) rfl (by rw [hml]; rfl) (argsL := [(.long xk)]) (rest := []) (lenOf pd_2 rfl) rfl (by show 2 * 0 + _ ≤ _; exact Nat.le_of_eq rfl) (hb hby d13_2) ?_
    intro v921 T921 L921 X921 hQ921
    obtain ⟨r921, rfl, Nq921, he921, fd921⟩ := hQ921
    have N921 := Fr.app N0 Nq921
    have e921 : T921.heap = h0 := he921
    show Run p e below s _ _ _ (T921.setTop (mkF m 5 #[.val (.ref tb), .val (.long xk), .second, .unset] [(.int r921)]))
    rcases fd921 with ⟨rfl, s1, s2⟩ | ⟨rfl, s1, s2⟩ | ⟨rfl, s1, s2⟩ | ⟨rfl, s0, s1⟩ | ⟨rfl, s0, s1⟩ | ⟨rfl, s0, s1⟩ | ⟨rfl, s1⟩
    · skip
      refine Run.pre (fun _ k => XS.istoreN X921.here hx rfl (hb hby d13_5) rfl (l' := #[.val (.ref tb), .val (.long xk), .second, .val (.int (-1 : Int32))]) rfl k) ?_
      refine Run.pre (fun _ k => XS.iloadN X921.here hx rfl (hb hby d13_6) rfl  k) ?_
      refine Run.pre (fun _ k => XS.ifYes X921.here hx rfl (pc0 := 7) (pc' := 15) rfl (hb hby d13_7) rfl ((if0 _ _).trans (tlt ((by decide) : (-1 : Int32) < (0 : Int32))).1) (by decide) (by decide) k) ?_
      show Run p e below s _ _ _ (T921.setTop (mkF m 15 #[.val (.ref tb), .val (.long xk), .second, .val (.int (-1 : Int32))] []))
      have m0 : ¬ p0 = xk := by intro q; have q2 := congrArg Int64.toInt q; simp only [Int64.lt_iff_toInt_lt] at s1 s2 o01 o12; omega
      have m1 : ¬ p1 = xk := by intro q; have q2 := congrArg Int64.toInt q; simp only [Int64.lt_iff_toInt_lt] at s1 s2 o01 o12; omega
      have m2 : ¬ p2 = xk := by intro q; have q2 := congrArg Int64.toInt q; simp only [Int64.lt_iff_toInt_lt] at s1 s2 o01 o12; omega
      exact Run.retV X921 hx hret hlk (hb hby d13_15) (by first | (rw [e921]; exact ⟨(1 : Int32), (1 : Int32), (1 : Int32), (0 : Int32), (3 : Int32), (3 : Int32), rfl, N921, (Keep.refl h0 [tb, xo, xd, xl, xq, xh]), ⟨E_tb, FR0, FR1, FR2, FR3, FR4, Ff, Fe, Fz, AR0, AR1, AR2, AR3, AR4⟩, (Or.inr (Or.inr (Or.inr (Or.inr (Or.inr (Or.inr (Or.inl ⟨(by decide), (by decide), (by decide), (by decide), (by decide), (by decide), o01, o12, fun x => by show (S x ∧ ¬ x = xk) ↔ _; have hx1 := hS x; clear hS; grind⟩))))))), rfl⟩) | exact ⟨(1 : Int32), (1 : Int32), (1 : Int32), (0 : Int32), (3 : Int32), (3 : Int32), rfl, N921, (Keep.refl h0 [tb, xo, xd, xl, xq, xh]), ⟨E_tb, FR0, FR1, FR2, FR3, FR4, Ff, Fe, Fz, AR0, AR1, AR2, AR3, AR4⟩, (Or.inr (Or.inr (Or.inr (Or.inr (Or.inr (Or.inr (Or.inl ⟨(by decide), (by decide), (by decide), (by decide), (by decide), (by decide), o01, o12, fun x => by show (S x ∧ ¬ x = xk) ↔ _; have hx1 := hS x; clear hS; grind⟩))))))), rfl⟩) (by decide) (by decide)
    · skip
      refine Run.pre (fun _ k => XS.istoreN X921.here hx rfl (hb hby d13_5) rfl (l' := #[.val (.ref tb), .val (.long xk), .second, .val (.int (-1 : Int32))]) rfl k) ?_
      refine Run.pre (fun _ k => XS.iloadN X921.here hx rfl (hb hby d13_6) rfl  k) ?_
      refine Run.pre (fun _ k => XS.ifYes X921.here hx rfl (pc0 := 7) (pc' := 15) rfl (hb hby d13_7) rfl ((if0 _ _).trans (tlt ((by decide) : (-1 : Int32) < (0 : Int32))).1) (by decide) (by decide) k) ?_
      show Run p e below s _ _ _ (T921.setTop (mkF m 15 #[.val (.ref tb), .val (.long xk), .second, .val (.int (-1 : Int32))] []))
      have m0 : ¬ p0 = xk := by intro q; have q2 := congrArg Int64.toInt q; simp only [Int64.lt_iff_toInt_lt] at s1 s2 o01 o12; omega
      have m1 : ¬ p1 = xk := by intro q; have q2 := congrArg Int64.toInt q; simp only [Int64.lt_iff_toInt_lt] at s1 s2 o01 o12; omega
      have m2 : ¬ p2 = xk := by intro q; have q2 := congrArg Int64.toInt q; simp only [Int64.lt_iff_toInt_lt] at s1 s2 o01 o12; omega
      exact Run.retV X921 hx hret hlk (hb hby d13_15) (by first | (rw [e921]; exact ⟨(1 : Int32), (1 : Int32), (1 : Int32), (0 : Int32), (3 : Int32), (3 : Int32), rfl, N921, (Keep.refl h0 [tb, xo, xd, xl, xq, xh]), ⟨E_tb, FR0, FR1, FR2, FR3, FR4, Ff, Fe, Fz, AR0, AR1, AR2, AR3, AR4⟩, (Or.inr (Or.inr (Or.inr (Or.inr (Or.inr (Or.inr (Or.inl ⟨(by decide), (by decide), (by decide), (by decide), (by decide), (by decide), o01, o12, fun x => by show (S x ∧ ¬ x = xk) ↔ _; have hx1 := hS x; clear hS; grind⟩))))))), rfl⟩) | exact ⟨(1 : Int32), (1 : Int32), (1 : Int32), (0 : Int32), (3 : Int32), (3 : Int32), rfl, N921, (Keep.refl h0 [tb, xo, xd, xl, xq, xh]), ⟨E_tb, FR0, FR1, FR2, FR3, FR4, Ff, Fe, Fz, AR0, AR1, AR2, AR3, AR4⟩, (Or.inr (Or.inr (Or.inr (Or.inr (Or.inr (Or.inr (Or.inl ⟨(by decide), (by decide), (by decide), (by decide), (by decide), (by decide), o01, o12, fun x => by show (S x ∧ ¬ x = xk) ↔ _; have hx1 := hS x; clear hS; grind⟩))))))), rfl⟩) (by decide) (by decide)
    · skip
      refine Run.pre (fun _ k => XS.istoreN X921.here hx rfl (hb hby d13_5) rfl (l' := #[.val (.ref tb), .val (.long xk), .second, .val (.int (2 : Int32))]) rfl k) ?_
      refine Run.pre (fun _ k => XS.iloadN X921.here hx rfl (hb hby d13_6) rfl  k) ?_
      refine Run.pre (fun _ k => XS.ifNo X921.here hx rfl (hb hby d13_7) rfl ((if0 _ _).trans (flt ((by decide) : ¬ ((2 : Int32) < (0 : Int32)))).1) k) ?_
      show Run p e below s _ _ _ (T921.setTop (mkF m 10 #[.val (.ref tb), .val (.long xk), .second, .val (.int (2 : Int32))] []))
      refine Run.pre (fun _ k => XS.aloadN X921.here hx rfl (hb hby d13_10) rfl rfl k) ?_
      refine Run.pre (fun _ k => XS.iloadN X921.here hx rfl (hb hby d13_11) rfl  k) ?_
      refine Run.callV X921 hx hZ (y := (⟨"com/example/manana/manana/storage/WaitingTable", "remove", "(I)V"⟩ : MethodName)) (z := (⟨"com/example/manana/manana/storage/WaitingTable", "remove", "(I)V"⟩ : MethodName)) hown (hwi hw 79 rfl) (hwi hw 80 rfl) (notFace_of_selects (args := #[]) (mvT hZ (hwi hw 82 rfl))) (hwi hw 82 rfl) (hwi hw 81 rfl) (hwi hw 83 rfl) (hwi hw 2 rfl) (by decide) (b := tb) E_tb (W := 0) (rmR_32 l Z a0 hw tb xo xd xl xq xh ko kd kl kq kh p0 p1 p2 d0 d1 d2 l0 l1 l2 q0 q1 q2 h0 n0 (Nat.le_trans Z0 (Keep.refl h0 [tb, xo, xd, xl, xq, xh]).1) E_tb FR0 FR1 FR2 FR3 FR4 Ff Fe Fz AR0 AR1 AR2 AR3 AR4 hD g_tb g_xo g_xd g_xl g_xq g_xh) e921 (by decide) (by decide) (by decide) (by decide) (g := (mkF m 12 #[.val (.ref tb), .val (.long xk), .second, .val (.int (2 : Int32))] [(.int (2 : Int32)), (.ref tb)])) rfl (by rw [hml]; rfl) (argsL := [(.int (2 : Int32))]) (rest := []) (lenOf pd_4 rfl) rfl (by show 2 * 0 + _ ≤ _; exact Nat.le_of_eq rfl) (hb hby d13_12) ?_
      intro v922 T922 L922 X922 hQ922
      obtain ⟨rfl, Nq922, Kc922, iE_tb_922, iFR0_922, iFR1_922, iFR2_922, iFR3_922, iFR4_922, iFf_922, iFe_922, iFz_922, iAR0_922, iAR1_922, iAR2_922, iAR3_922, iAR4_922⟩ := hQ922
      have N922 := Fr.app N921 Nq922
      have K922 : Keep h0 T922.heap [tb, xo, xd, xl, xq, xh] := (Keep.refl h0 [tb, xo, xd, xl, xq, xh]).trans Kc922 (allS (Or.inl (by simp)) (allS (Or.inl (by simp)) (allS (Or.inl (by simp)) (allS (Or.inl (by simp)) (allS (Or.inl (by simp)) (allS (Or.inl (by simp)) all0))))))
      have m0 : ¬ p0 = xk := by intro q; have q2 := congrArg Int64.toInt q; simp only [Int64.lt_iff_toInt_lt] at s1 s2 o01 o12; omega
      have m1 : ¬ p1 = xk := by intro q; have q2 := congrArg Int64.toInt q; simp only [Int64.lt_iff_toInt_lt] at s1 s2 o01 o12; omega
      have hxe2 := own_eqE s2
      exact Run.retV X922 hx hret hlk (hb hby d13_15) ⟨(1 : Int32), (1 : Int32), (nar .boolean (0 : Int32)), (0 : Int32), (3 : Int32), (2 : Int32), rfl, N922, K922, ⟨iE_tb_922, iFR0_922, iFR1_922, iFR2_922, iFR3_922, iFR4_922, iFf_922, iFe_922, iFz_922, iAR0_922, iAR1_922, iAR2_922, iAR3_922, iAR4_922⟩, (Or.inr (Or.inr (Or.inr (Or.inr (Or.inr (Or.inr (Or.inr (Or.inr (Or.inr (⟨(by decide), (by decide), (by decide), (by decide), (by decide), (by decide), o01, o12, fun x => by show (S x ∧ ¬ x = xk) ↔ _; have hx1 := hS x; clear hS; grind⟩)))))))))), rfl⟩ (by decide) (by decide)
    · skip
      refine Run.pre (fun _ k => XS.istoreN X921.here hx rfl (hb hby d13_5) rfl (l' := #[.val (.ref tb), .val (.long xk), .second, .val (.int (-1 : Int32))]) rfl k) ?_
      refine Run.pre (fun _ k => XS.iloadN X921.here hx rfl (hb hby d13_6) rfl  k) ?_
      refine Run.pre (fun _ k => XS.ifYes X921.here hx rfl (pc0 := 7) (pc' := 15) rfl (hb hby d13_7) rfl ((if0 _ _).trans (tlt ((by decide) : (-1 : Int32) < (0 : Int32))).1) (by decide) (by decide) k) ?_
      show Run p e below s _ _ _ (T921.setTop (mkF m 15 #[.val (.ref tb), .val (.long xk), .second, .val (.int (-1 : Int32))] []))
      have m0 : ¬ p0 = xk := by intro q; have q2 := congrArg Int64.toInt q; simp only [Int64.lt_iff_toInt_lt] at s0 s1 o01 o12; omega
      have m1 : ¬ p1 = xk := by intro q; have q2 := congrArg Int64.toInt q; simp only [Int64.lt_iff_toInt_lt] at s0 s1 o01 o12; omega
      have m2 : ¬ p2 = xk := by intro q; have q2 := congrArg Int64.toInt q; simp only [Int64.lt_iff_toInt_lt] at s0 s1 o01 o12; omega
      exact Run.retV X921 hx hret hlk (hb hby d13_15) (by first | (rw [e921]; exact ⟨(1 : Int32), (1 : Int32), (1 : Int32), (0 : Int32), (3 : Int32), (3 : Int32), rfl, N921, (Keep.refl h0 [tb, xo, xd, xl, xq, xh]), ⟨E_tb, FR0, FR1, FR2, FR3, FR4, Ff, Fe, Fz, AR0, AR1, AR2, AR3, AR4⟩, (Or.inr (Or.inr (Or.inr (Or.inr (Or.inr (Or.inr (Or.inl ⟨(by decide), (by decide), (by decide), (by decide), (by decide), (by decide), o01, o12, fun x => by show (S x ∧ ¬ x = xk) ↔ _; have hx1 := hS x; clear hS; grind⟩))))))), rfl⟩) | exact ⟨(1 : Int32), (1 : Int32), (1 : Int32), (0 : Int32), (3 : Int32), (3 : Int32), rfl, N921, (Keep.refl h0 [tb, xo, xd, xl, xq, xh]), ⟨E_tb, FR0, FR1, FR2, FR3, FR4, Ff, Fe, Fz, AR0, AR1, AR2, AR3, AR4⟩, (Or.inr (Or.inr (Or.inr (Or.inr (Or.inr (Or.inr (Or.inl ⟨(by decide), (by decide), (by decide), (by decide), (by decide), (by decide), o01, o12, fun x => by show (S x ∧ ¬ x = xk) ↔ _; have hx1 := hS x; clear hS; grind⟩))))))), rfl⟩) (by decide) (by decide)
    · skip
      refine Run.pre (fun _ k => XS.istoreN X921.here hx rfl (hb hby d13_5) rfl (l' := #[.val (.ref tb), .val (.long xk), .second, .val (.int (-1 : Int32))]) rfl k) ?_
      refine Run.pre (fun _ k => XS.iloadN X921.here hx rfl (hb hby d13_6) rfl  k) ?_
      refine Run.pre (fun _ k => XS.ifYes X921.here hx rfl (pc0 := 7) (pc' := 15) rfl (hb hby d13_7) rfl ((if0 _ _).trans (tlt ((by decide) : (-1 : Int32) < (0 : Int32))).1) (by decide) (by decide) k) ?_
      show Run p e below s _ _ _ (T921.setTop (mkF m 15 #[.val (.ref tb), .val (.long xk), .second, .val (.int (-1 : Int32))] []))
      have m0 : ¬ p0 = xk := by intro q; have q2 := congrArg Int64.toInt q; simp only [Int64.lt_iff_toInt_lt] at s0 s1 o01 o12; omega
      have m1 : ¬ p1 = xk := by intro q; have q2 := congrArg Int64.toInt q; simp only [Int64.lt_iff_toInt_lt] at s0 s1 o01 o12; omega
      have m2 : ¬ p2 = xk := by intro q; have q2 := congrArg Int64.toInt q; simp only [Int64.lt_iff_toInt_lt] at s0 s1 o01 o12; omega
      exact Run.retV X921 hx hret hlk (hb hby d13_15) (by first | (rw [e921]; exact ⟨(1 : Int32), (1 : Int32), (1 : Int32), (0 : Int32), (3 : Int32), (3 : Int32), rfl, N921, (Keep.refl h0 [tb, xo, xd, xl, xq, xh]), ⟨E_tb, FR0, FR1, FR2, FR3, FR4, Ff, Fe, Fz, AR0, AR1, AR2, AR3, AR4⟩, (Or.inr (Or.inr (Or.inr (Or.inr (Or.inr (Or.inr (Or.inl ⟨(by decide), (by decide), (by decide), (by decide), (by decide), (by decide), o01, o12, fun x => by show (S x ∧ ¬ x = xk) ↔ _; have hx1 := hS x; clear hS; grind⟩))))))), rfl⟩) | exact ⟨(1 : Int32), (1 : Int32), (1 : Int32), (0 : Int32), (3 : Int32), (3 : Int32), rfl, N921, (Keep.refl h0 [tb, xo, xd, xl, xq, xh]), ⟨E_tb, FR0, FR1, FR2, FR3, FR4, Ff, Fe, Fz, AR0, AR1, AR2, AR3, AR4⟩, (Or.inr (Or.inr (Or.inr (Or.inr (Or.inr (Or.inr (Or.inl ⟨(by decide), (by decide), (by decide), (by decide), (by decide), (by decide), o01, o12, fun x => by show (S x ∧ ¬ x = xk) ↔ _; have hx1 := hS x; clear hS; grind⟩))))))), rfl⟩) (by decide) (by decide)
    · skip
      refine Run.pre (fun _ k => XS.istoreN X921.here hx rfl (hb hby d13_5) rfl (l' := #[.val (.ref tb), .val (.long xk), .second, .val (.int (0 : Int32))]) rfl k) ?_
      refine Run.pre (fun _ k => XS.iloadN X921.here hx rfl (hb hby d13_6) rfl  k) ?_
      refine Run.pre (fun _ k => XS.ifNo X921.here hx rfl (hb hby d13_7) rfl ((if0 _ _).trans (flt ((by decide) : ¬ ((0 : Int32) < (0 : Int32)))).1) k) ?_
      show Run p e below s _ _ _ (T921.setTop (mkF m 10 #[.val (.ref tb), .val (.long xk), .second, .val (.int (0 : Int32))] []))
      refine Run.pre (fun _ k => XS.aloadN X921.here hx rfl (hb hby d13_10) rfl rfl k) ?_
      refine Run.pre (fun _ k => XS.iloadN X921.here hx rfl (hb hby d13_11) rfl  k) ?_
      refine Run.callV X921 hx hZ (y := (⟨"com/example/manana/manana/storage/WaitingTable", "remove", "(I)V"⟩ : MethodName)) (z := (⟨"com/example/manana/manana/storage/WaitingTable", "remove", "(I)V"⟩ : MethodName)) hown (hwi hw 79 rfl) (hwi hw 80 rfl) (notFace_of_selects (args := #[]) (mvT hZ (hwi hw 82 rfl))) (hwi hw 82 rfl) (hwi hw 81 rfl) (hwi hw 83 rfl) (hwi hw 2 rfl) (by decide) (b := tb) E_tb (W := 0) (rmR_30 l Z a0 hw tb xo xd xl xq xh ko kd kl kq kh p0 p1 p2 d0 d1 d2 l0 l1 l2 q0 q1 q2 h0 n0 (Nat.le_trans Z0 (Keep.refl h0 [tb, xo, xd, xl, xq, xh]).1) E_tb FR0 FR1 FR2 FR3 FR4 Ff Fe Fz AR0 AR1 AR2 AR3 AR4 hD g_tb g_xo g_xd g_xl g_xq g_xh) e921 (by decide) (by decide) (by decide) (by decide) (g := (mkF m 12 #[.val (.ref tb), .val (.long xk), .second, .val (.int (0 : Int32))] [(.int (0 : Int32)), (.ref tb)])) rfl (by rw [hml]; rfl) (argsL := [(.int (0 : Int32))]) (rest := []) (lenOf pd_4 rfl) rfl (by show 2 * 0 + _ ≤ _; exact Nat.le_of_eq rfl) (hb hby d13_12) ?_
      intro v923 T923 L923 X923 hQ923
      obtain ⟨rfl, Nq923, Kc923, iE_tb_923, iFR0_923, iFR1_923, iFR2_923, iFR3_923, iFR4_923, iFf_923, iFe_923, iFz_923, iAR0_923, iAR1_923, iAR2_923, iAR3_923, iAR4_923⟩ := hQ923
      have N923 := Fr.app N921 Nq923
      have K923 : Keep h0 T923.heap [tb, xo, xd, xl, xq, xh] := (Keep.refl h0 [tb, xo, xd, xl, xq, xh]).trans Kc923 (allS (Or.inl (by simp)) (allS (Or.inl (by simp)) (allS (Or.inl (by simp)) (allS (Or.inl (by simp)) (allS (Or.inl (by simp)) (allS (Or.inl (by simp)) all0))))))
      have m1 : ¬ p1 = xk := by intro q; have q2 := congrArg Int64.toInt q; simp only [Int64.lt_iff_toInt_lt] at s0 s1 o01 o12; omega
      have m2 : ¬ p2 = xk := by intro q; have q2 := congrArg Int64.toInt q; simp only [Int64.lt_iff_toInt_lt] at s0 s1 o01 o12; omega
      have hxe0 := own_eqE s0
      exact Run.retV X923 hx hret hlk (hb hby d13_15) ⟨(nar .boolean (0 : Int32)), (1 : Int32), (1 : Int32), (1 : Int32), (3 : Int32), (2 : Int32), rfl, N923, K923, ⟨iE_tb_923, iFR0_923, iFR1_923, iFR2_923, iFR3_923, iFR4_923, iFf_923, iFe_923, iFz_923, iAR0_923, iAR1_923, iAR2_923, iAR3_923, iAR4_923⟩, (Or.inr (Or.inr (Or.inr (Or.inr (Or.inr (Or.inr (Or.inr (Or.inl ⟨(by decide), (by decide), (by decide), (by decide), (by decide), (by decide), o12, fun x => by show (S x ∧ ¬ x = xk) ↔ _; have hx1 := hS x; clear hS; grind⟩)))))))), rfl⟩ (by decide) (by decide)
    · skip
      refine Run.pre (fun _ k => XS.istoreN X921.here hx rfl (hb hby d13_5) rfl (l' := #[.val (.ref tb), .val (.long xk), .second, .val (.int (1 : Int32))]) rfl k) ?_
      refine Run.pre (fun _ k => XS.iloadN X921.here hx rfl (hb hby d13_6) rfl  k) ?_
      refine Run.pre (fun _ k => XS.ifNo X921.here hx rfl (hb hby d13_7) rfl ((if0 _ _).trans (flt ((by decide) : ¬ ((1 : Int32) < (0 : Int32)))).1) k) ?_
      show Run p e below s _ _ _ (T921.setTop (mkF m 10 #[.val (.ref tb), .val (.long xk), .second, .val (.int (1 : Int32))] []))
      refine Run.pre (fun _ k => XS.aloadN X921.here hx rfl (hb hby d13_10) rfl rfl k) ?_
      refine Run.pre (fun _ k => XS.iloadN X921.here hx rfl (hb hby d13_11) rfl  k) ?_
      refine Run.callV X921 hx hZ (y := (⟨"com/example/manana/manana/storage/WaitingTable", "remove", "(I)V"⟩ : MethodName)) (z := (⟨"com/example/manana/manana/storage/WaitingTable", "remove", "(I)V"⟩ : MethodName)) hown (hwi hw 79 rfl) (hwi hw 80 rfl) (notFace_of_selects (args := #[]) (mvT hZ (hwi hw 82 rfl))) (hwi hw 82 rfl) (hwi hw 81 rfl) (hwi hw 83 rfl) (hwi hw 2 rfl) (by decide) (b := tb) E_tb (W := 0) (rmR_31 l Z a0 hw tb xo xd xl xq xh ko kd kl kq kh p0 p1 p2 d0 d1 d2 l0 l1 l2 q0 q1 q2 h0 n0 (Nat.le_trans Z0 (Keep.refl h0 [tb, xo, xd, xl, xq, xh]).1) E_tb FR0 FR1 FR2 FR3 FR4 Ff Fe Fz AR0 AR1 AR2 AR3 AR4 hD g_tb g_xo g_xd g_xl g_xq g_xh) e921 (by decide) (by decide) (by decide) (by decide) (g := (mkF m 12 #[.val (.ref tb), .val (.long xk), .second, .val (.int (1 : Int32))] [(.int (1 : Int32)), (.ref tb)])) rfl (by rw [hml]; rfl) (argsL := [(.int (1 : Int32))]) (rest := []) (lenOf pd_4 rfl) rfl (by show 2 * 0 + _ ≤ _; exact Nat.le_of_eq rfl) (hb hby d13_12) ?_
      intro v924 T924 L924 X924 hQ924
      obtain ⟨rfl, Nq924, Kc924, iE_tb_924, iFR0_924, iFR1_924, iFR2_924, iFR3_924, iFR4_924, iFf_924, iFe_924, iFz_924, iAR0_924, iAR1_924, iAR2_924, iAR3_924, iAR4_924⟩ := hQ924
      have N924 := Fr.app N921 Nq924
      have K924 : Keep h0 T924.heap [tb, xo, xd, xl, xq, xh] := (Keep.refl h0 [tb, xo, xd, xl, xq, xh]).trans Kc924 (allS (Or.inl (by simp)) (allS (Or.inl (by simp)) (allS (Or.inl (by simp)) (allS (Or.inl (by simp)) (allS (Or.inl (by simp)) (allS (Or.inl (by simp)) all0))))))
      have m0 : ¬ p0 = xk := by intro q; have q2 := congrArg Int64.toInt q; simp only [Int64.lt_iff_toInt_lt] at s1 o01 o12; omega
      have m2 : ¬ p2 = xk := by intro q; have q2 := congrArg Int64.toInt q; simp only [Int64.lt_iff_toInt_lt] at s1 o01 o12; omega
      have hxe1 := own_eqE s1
      exact Run.retV X924 hx hret hlk (hb hby d13_15) ⟨(1 : Int32), (nar .boolean (0 : Int32)), (1 : Int32), (0 : Int32), (3 : Int32), (2 : Int32), rfl, N924, K924, ⟨iE_tb_924, iFR0_924, iFR1_924, iFR2_924, iFR3_924, iFR4_924, iFf_924, iFe_924, iFz_924, iAR0_924, iAR1_924, iAR2_924, iAR3_924, iAR4_924⟩, (Or.inr (Or.inr (Or.inr (Or.inr (Or.inr (Or.inr (Or.inr (Or.inr (Or.inl ⟨(by decide), (by decide), (by decide), (by decide), (by decide), (by decide), o01, o12, fun x => by show (S x ∧ ¬ x = xk) ↔ _; have hx1 := hS x; clear hS; grind⟩))))))))), rfl⟩ (by decide) (by decide)
theorem d3_0 : decode prog_84_method_10_code 0 = .ok (.aload_n 0, 1) := by decide +kernel
theorem d3_1 : decode prog_84_method_10_code 1 = .ok (.getfield 44, 3) := by decide +kernel
theorem d3_4 : decode prog_84_method_10_code 4 = .ok (.ifCond .ne 7, 3) := by decide +kernel
theorem d3_7 : decode prog_84_method_10_code 7 = .ok (.lload_n 1, 1) := by decide +kernel
theorem d3_8 : decode prog_84_method_10_code 8 = .ok (.goto 12, 3) := by decide +kernel
theorem d3_20 : decode prog_84_method_10_code 20 = .ok (.lreturn, 1) := by decide +kernel
theorem d3_11 : decode prog_84_method_10_code 11 = .ok (.aload_n 0, 1) := by decide +kernel
theorem d3_12 : decode prog_84_method_10_code 12 = .ok (.getfield 7, 3) := by decide +kernel
theorem d3_15 : decode prog_84_method_10_code 15 = .ok (.aload_n 0, 1) := by decide +kernel
theorem d3_16 : decode prog_84_method_10_code 16 = .ok (.getfield 31, 3) := by decide +kernel
theorem d3_19 : decode prog_84_method_10_code 19 = .ok (.laload, 1) := by decide +kernel
theorem pn_3 : plainName "com/example/manana/manana/storage/WaitingTable" = true := by first | (simp [plainName, overriddenIn]; done) | decide +kernel
set_option maxRecDepth 65536 in
set_option maxHeartbeats 40000000 in
theorem rmLow (l : Launch) (Z : State) (a0 : Array Value) (hw : ∀ d ∈ tables_1, d.before a0 Z = true) (tb : Addr) (xo : Addr) (xd : Addr) (xl : Addr) (xq : Addr) (xh : Addr) (ko : ClassId) (kd : ClassId) (kl : ClassId) (kq : ClassId) (kh : ClassId) (p0 : Int64) (p1 : Int64) (p2 : Int64) (d0 : Int64) (d1 : Int64) (d2 : Int64) (l0 : Int32) (l1 : Int32) (l2 : Int32) (q0 : Int32) (q1 : Int32) (q2 : Int32) (b0 : Int32) (b1 : Int32) (b2 : Int32) (fi : Int32) (en : Int32) (si : Int32) (ot : Int64) (S : Int64 → Prop) (h0 : Heap) (n0 : Nat) (Z0 : n0 ≤ h0.size) (hH : own_H Z h0 tb xo xd xl xq xh ko kd kl kq kh p0 p1 p2 d0 d1 d2 l0 l1 l2 q0 q1 q2 b0 b1 b2 fi en si) (hR : own_R p0 p1 p2 b0 b1 b2 fi en si S) :
    Con l (⟨"com/example/manana/manana/storage/WaitingTable", "lowest", "(J)J"⟩ : MethodName) prog_84_method_10_code 3 (some .long) ({ frames := 0, cells := 0, slots := 0, locals := 0 } : Room) Z #[(.ref tb), (.long ot)] h0 (fun v h L => ∃ y : Int64, v = some (.long y) ∧ Fr n0 L ∧ h = h0 ∧ (((∀ x, ¬ S x) ∧ y = ot) ∨ (S y ∧ ∀ x, S x → ¬ x < y))) := by
  refine Con.mk (plainFor_of_name pn_3) (fun m => show entryFrame m #[(.ref tb), (.long ot)] 3 = mkF m 0 #[.val (.ref tb), .val (.long ot), .second] [] by first | (simp [entryFrame, mkF, argsToLocals, Value.category]; done) | rfl) ?_
  intro p e s m below meth c s₁ hx hby hml hown hnm hret hlk hZ X0 e0
  have N0 := Fr.nil n0
  obtain ⟨E_tb, FR0, FR1, FR2, FR3, FR4, Ff, Fe, Fz, AR0, AR1, AR2, AR3, AR4⟩ := id hH
  show Run p e below s _ _ _ (s₁.setTop (mkF m 0 #[.val (.ref tb), .val (.long ot), .second] []))
  rcases hR with ⟨rfl, rfl, rfl, rfl, rfl, rfl, hS⟩ | ⟨rfl, rfl, rfl, rfl, rfl, rfl, hS⟩ | ⟨rfl, rfl, rfl, rfl, rfl, rfl, hS⟩ | ⟨rfl, rfl, rfl, rfl, rfl, rfl, o01, hS⟩ | ⟨rfl, rfl, rfl, rfl, rfl, rfl, hS⟩ | ⟨rfl, rfl, rfl, rfl, rfl, rfl, o01, hS⟩ | ⟨rfl, rfl, rfl, rfl, rfl, rfl, o01, o12, hS⟩ | ⟨rfl, rfl, rfl, rfl, rfl, rfl, o12, hS⟩ | ⟨rfl, rfl, rfl, rfl, rfl, rfl, o01, o12, hS⟩ | ⟨rfl, rfl, rfl, rfl, rfl, rfl, o01, o12, hS⟩
  · skip
    show Run p e below s _ _ _ (s₁.setTop (mkF m 0 #[.val (.ref tb), .val (.long ot), .second] []))
    refine Run.pre (fun _ k => XS.aloadN X0.here hx rfl (hb hby d3_0) rfl rfl k) ?_
    obtain ⟨T925, X925, e925, st925⟩ := getF X0 hx hZ hown (host := "") (Or.inl (hwi hw 27 rfl)) Via.refl e0 Fz (g := (mkF m 1 #[.val (.ref tb), .val (.long ot), .second] [(.ref tb)])) rfl rfl (hb hby d3_1)
    refine Run.pre st925 ?_
    refine Run.pre (fun _ k => XS.ifNo X925.here hx rfl (hb hby d3_4) rfl ((if0 _ _).trans (teq ((by decide) : (0 : Int32) = (0 : Int32))).2) k) ?_
    refine Run.pre (fun _ k => XS.lloadN X925.here hx rfl (hb hby d3_7) rfl  k) ?_
    refine Run.pre (fun _ k => XS.goto X925.here hx rfl (pc0 := 8) (pc' := 20) rfl (hb hby d3_8) (by decide) (by decide) k) ?_
    exact Run.retJ X925 hx hret hlk (hb hby d3_20) (by first | (rw [e925]; exact ⟨ot, rfl, N0, rfl, Or.inl ⟨fun x q => (hS x).mp q, rfl⟩⟩) | exact ⟨ot, rfl, N0, rfl, Or.inl ⟨fun x q => (hS x).mp q, rfl⟩⟩) (by decide) (by decide)
  · skip
    show Run p e below s _ _ _ (s₁.setTop (mkF m 0 #[.val (.ref tb), .val (.long ot), .second] []))
    refine Run.pre (fun _ k => XS.aloadN X0.here hx rfl (hb hby d3_0) rfl rfl k) ?_
    obtain ⟨T926, X926, e926, st926⟩ := getF X0 hx hZ hown (host := "") (Or.inl (hwi hw 27 rfl)) Via.refl e0 Fz (g := (mkF m 1 #[.val (.ref tb), .val (.long ot), .second] [(.ref tb)])) rfl rfl (hb hby d3_1)
    refine Run.pre st926 ?_
    refine Run.pre (fun _ k => XS.ifYes X926.here hx rfl (pc0 := 4) (pc' := 11) rfl (hb hby d3_4) rfl ((if0 _ _).trans (feq ((by decide) : ¬ ((1 : Int32) = (0 : Int32)))).2) (by decide) (by decide) k) ?_
    refine Run.pre (fun _ k => XS.aloadN X926.here hx rfl (hb hby d3_11) rfl rfl k) ?_
    obtain ⟨T927, X927, e927, st927⟩ := getF X926 hx hZ hown (host := "") (Or.inl (hwi hw 10 rfl)) Via.refl e926 FR0 (g := (mkF m 12 #[.val (.ref tb), .val (.long ot), .second] [(.ref tb)])) rfl rfl (hb hby d3_12)
    refine Run.pre st927 ?_
    refine Run.pre (fun _ k => XS.aloadN X927.here hx rfl (hb hby d3_15) rfl rfl k) ?_
    show Run p e below s _ _ _ (T927.setTop (mkF m 16 #[.val (.ref tb), .val (.long ot), .second] [(.ref tb), (.ref xo)]))
    obtain ⟨T928, X928, e928, st928⟩ := getF X927 hx hZ hown (host := "") (Or.inl (hwi hw 36 rfl)) Via.refl e927 Ff (g := (mkF m 16 #[.val (.ref tb), .val (.long ot), .second] [(.ref tb), (.ref xo)])) rfl rfl (hb hby d3_16)
    refine Run.pre st928 ?_
    obtain ⟨c929, Ar929, -, S929, N929, H929, -⟩ := id AR0
    have hin929 : ¬ ((0 : Int32) < 0 ∨ c929.slots.size ≤ ((0 : Int32)).toNatClampNeg) := inb_of S929 ⟨by decide, by decide⟩
    refine Run.pre (X928.laload hx (j := (0 : Int32)) (v := (.long p0)) (by rw [e928]; exact Ar929.1) (State.isArrayOf_alike hZ.alike Ar929.2.1) Ar929.2.2 hin929 (H929.at hin929 rfl) (g := (mkF m 19 #[.val (.ref tb), .val (.long ot), .second] [(.int (0 : Int32)), (.ref xo)])) rfl rfl (hb hby d3_19)) ?_
    exact Run.retJ X928 hx hret hlk (hb hby d3_20) (by first | (rw [e928]; exact ⟨p0, rfl, N0, rfl, Or.inr ⟨(hS _).mpr rfl, fun x q => by have q1 := (hS x).mp q; clear hS; rcases q1 with rfl <;> first | exact fun r => by rw [Int64.lt_iff_toInt_lt] at r; omega | (intro r; rw [Int64.lt_iff_toInt_lt] at r; omega)⟩⟩) | exact ⟨p0, rfl, N0, rfl, Or.inr ⟨(hS _).mpr rfl, fun x q => by have q1 := (hS x).mp q; clear hS; rcases q1 with rfl <;> first | exact fun r => by rw [Int64.lt_iff_toInt_lt] at r; omega | (intro r; rw [Int64.lt_iff_toInt_lt] at r; omega)⟩⟩) (by decide) (by decide)
  · skip
    show Run p e below s _ _ _ (s₁.setTop (mkF m 0 #[.val (.ref tb), .val (.long ot), .second] []))
    refine Run.pre (fun _ k => XS.aloadN X0.here hx rfl (hb hby d3_0) rfl rfl k) ?_
    obtain ⟨T930, X930, e930, st930⟩ := getF X0 hx hZ hown (host := "") (Or.inl (hwi hw 27 rfl)) Via.refl e0 Fz (g := (mkF m 1 #[.val (.ref tb), .val (.long ot), .second] [(.ref tb)])) rfl rfl (hb hby d3_1)
    refine Run.pre st930 ?_
    refine Run.pre (fun _ k => XS.ifNo X930.here hx rfl (hb hby d3_4) rfl ((if0 _ _).trans (teq ((by decide) : (0 : Int32) = (0 : Int32))).2) k) ?_
    refine Run.pre (fun _ k => XS.lloadN X930.here hx rfl (hb hby d3_7) rfl  k) ?_
    refine Run.pre (fun _ k => XS.goto X930.here hx rfl (pc0 := 8) (pc' := 20) rfl (hb hby d3_8) (by decide) (by decide) k) ?_
    exact Run.retJ X930 hx hret hlk (hb hby d3_20) (by first | (rw [e930]; exact ⟨ot, rfl, N0, rfl, Or.inl ⟨fun x q => (hS x).mp q, rfl⟩⟩) | exact ⟨ot, rfl, N0, rfl, Or.inl ⟨fun x q => (hS x).mp q, rfl⟩⟩) (by decide) (by decide)
  · skip
    show Run p e below s _ _ _ (s₁.setTop (mkF m 0 #[.val (.ref tb), .val (.long ot), .second] []))
    refine Run.pre (fun _ k => XS.aloadN X0.here hx rfl (hb hby d3_0) rfl rfl k) ?_
    obtain ⟨T931, X931, e931, st931⟩ := getF X0 hx hZ hown (host := "") (Or.inl (hwi hw 27 rfl)) Via.refl e0 Fz (g := (mkF m 1 #[.val (.ref tb), .val (.long ot), .second] [(.ref tb)])) rfl rfl (hb hby d3_1)
    refine Run.pre st931 ?_
    refine Run.pre (fun _ k => XS.ifYes X931.here hx rfl (pc0 := 4) (pc' := 11) rfl (hb hby d3_4) rfl ((if0 _ _).trans (feq ((by decide) : ¬ ((2 : Int32) = (0 : Int32)))).2) (by decide) (by decide) k) ?_
    refine Run.pre (fun _ k => XS.aloadN X931.here hx rfl (hb hby d3_11) rfl rfl k) ?_
    obtain ⟨T932, X932, e932, st932⟩ := getF X931 hx hZ hown (host := "") (Or.inl (hwi hw 10 rfl)) Via.refl e931 FR0 (g := (mkF m 12 #[.val (.ref tb), .val (.long ot), .second] [(.ref tb)])) rfl rfl (hb hby d3_12)
    refine Run.pre st932 ?_
    refine Run.pre (fun _ k => XS.aloadN X932.here hx rfl (hb hby d3_15) rfl rfl k) ?_
    show Run p e below s _ _ _ (T932.setTop (mkF m 16 #[.val (.ref tb), .val (.long ot), .second] [(.ref tb), (.ref xo)]))
    obtain ⟨T933, X933, e933, st933⟩ := getF X932 hx hZ hown (host := "") (Or.inl (hwi hw 36 rfl)) Via.refl e932 Ff (g := (mkF m 16 #[.val (.ref tb), .val (.long ot), .second] [(.ref tb), (.ref xo)])) rfl rfl (hb hby d3_16)
    refine Run.pre st933 ?_
    obtain ⟨c934, Ar934, -, S934, N934, H934, -⟩ := id AR0
    have hin934 : ¬ ((0 : Int32) < 0 ∨ c934.slots.size ≤ ((0 : Int32)).toNatClampNeg) := inb_of S934 ⟨by decide, by decide⟩
    refine Run.pre (X933.laload hx (j := (0 : Int32)) (v := (.long p0)) (by rw [e933]; exact Ar934.1) (State.isArrayOf_alike hZ.alike Ar934.2.1) Ar934.2.2 hin934 (H934.at hin934 rfl) (g := (mkF m 19 #[.val (.ref tb), .val (.long ot), .second] [(.int (0 : Int32)), (.ref xo)])) rfl rfl (hb hby d3_19)) ?_
    exact Run.retJ X933 hx hret hlk (hb hby d3_20) (by first | (rw [e933]; exact ⟨p0, rfl, N0, rfl, Or.inr ⟨(hS _).mpr (Or.inl rfl), fun x q => by have q1 := (hS x).mp q; clear hS; simp only [Int64.lt_iff_toInt_lt] at o01; rcases q1 with rfl | rfl <;> first | exact fun r => by rw [Int64.lt_iff_toInt_lt] at r; omega | (intro r; rw [Int64.lt_iff_toInt_lt] at r; omega)⟩⟩) | exact ⟨p0, rfl, N0, rfl, Or.inr ⟨(hS _).mpr (Or.inl rfl), fun x q => by have q1 := (hS x).mp q; clear hS; simp only [Int64.lt_iff_toInt_lt] at o01; rcases q1 with rfl | rfl <;> first | exact fun r => by rw [Int64.lt_iff_toInt_lt] at r; omega | (intro r; rw [Int64.lt_iff_toInt_lt] at r; omega)⟩⟩) (by decide) (by decide)
  · skip
    show Run p e below s _ _ _ (s₁.setTop (mkF m 0 #[.val (.ref tb), .val (.long ot), .second] []))
    refine Run.pre (fun _ k => XS.aloadN X0.here hx rfl (hb hby d3_0) rfl rfl k) ?_
    obtain ⟨T935, X935, e935, st935⟩ := getF X0 hx hZ hown (host := "") (Or.inl (hwi hw 27 rfl)) Via.refl e0 Fz (g := (mkF m 1 #[.val (.ref tb), .val (.long ot), .second] [(.ref tb)])) rfl rfl (hb hby d3_1)
    refine Run.pre st935 ?_
    refine Run.pre (fun _ k => XS.ifYes X935.here hx rfl (pc0 := 4) (pc' := 11) rfl (hb hby d3_4) rfl ((if0 _ _).trans (feq ((by decide) : ¬ ((1 : Int32) = (0 : Int32)))).2) (by decide) (by decide) k) ?_
    refine Run.pre (fun _ k => XS.aloadN X935.here hx rfl (hb hby d3_11) rfl rfl k) ?_
    obtain ⟨T936, X936, e936, st936⟩ := getF X935 hx hZ hown (host := "") (Or.inl (hwi hw 10 rfl)) Via.refl e935 FR0 (g := (mkF m 12 #[.val (.ref tb), .val (.long ot), .second] [(.ref tb)])) rfl rfl (hb hby d3_12)
    refine Run.pre st936 ?_
    refine Run.pre (fun _ k => XS.aloadN X936.here hx rfl (hb hby d3_15) rfl rfl k) ?_
    show Run p e below s _ _ _ (T936.setTop (mkF m 16 #[.val (.ref tb), .val (.long ot), .second] [(.ref tb), (.ref xo)]))
    obtain ⟨T937, X937, e937, st937⟩ := getF X936 hx hZ hown (host := "") (Or.inl (hwi hw 36 rfl)) Via.refl e936 Ff (g := (mkF m 16 #[.val (.ref tb), .val (.long ot), .second] [(.ref tb), (.ref xo)])) rfl rfl (hb hby d3_16)
    refine Run.pre st937 ?_
    obtain ⟨c938, Ar938, -, S938, N938, H938, -⟩ := id AR0
    have hin938 : ¬ ((1 : Int32) < 0 ∨ c938.slots.size ≤ ((1 : Int32)).toNatClampNeg) := inb_of S938 ⟨by decide, by decide⟩
    refine Run.pre (X937.laload hx (j := (1 : Int32)) (v := (.long p1)) (by rw [e937]; exact Ar938.1) (State.isArrayOf_alike hZ.alike Ar938.2.1) Ar938.2.2 hin938 (H938.at hin938 rfl) (g := (mkF m 19 #[.val (.ref tb), .val (.long ot), .second] [(.int (1 : Int32)), (.ref xo)])) rfl rfl (hb hby d3_19)) ?_
    exact Run.retJ X937 hx hret hlk (hb hby d3_20) (by first | (rw [e937]; exact ⟨p1, rfl, N0, rfl, Or.inr ⟨(hS _).mpr rfl, fun x q => by have q1 := (hS x).mp q; clear hS; rcases q1 with rfl <;> first | exact fun r => by rw [Int64.lt_iff_toInt_lt] at r; omega | (intro r; rw [Int64.lt_iff_toInt_lt] at r; omega)⟩⟩) | exact ⟨p1, rfl, N0, rfl, Or.inr ⟨(hS _).mpr rfl, fun x q => by have q1 := (hS x).mp q; clear hS; rcases q1 with rfl <;> first | exact fun r => by rw [Int64.lt_iff_toInt_lt] at r; omega | (intro r; rw [Int64.lt_iff_toInt_lt] at r; omega)⟩⟩) (by decide) (by decide)
  · skip
    show Run p e below s _ _ _ (s₁.setTop (mkF m 0 #[.val (.ref tb), .val (.long ot), .second] []))
    refine Run.pre (fun _ k => XS.aloadN X0.here hx rfl (hb hby d3_0) rfl rfl k) ?_
    obtain ⟨T939, X939, e939, st939⟩ := getF X0 hx hZ hown (host := "") (Or.inl (hwi hw 27 rfl)) Via.refl e0 Fz (g := (mkF m 1 #[.val (.ref tb), .val (.long ot), .second] [(.ref tb)])) rfl rfl (hb hby d3_1)
    refine Run.pre st939 ?_
    refine Run.pre (fun _ k => XS.ifYes X939.here hx rfl (pc0 := 4) (pc' := 11) rfl (hb hby d3_4) rfl ((if0 _ _).trans (feq ((by decide) : ¬ ((1 : Int32) = (0 : Int32)))).2) (by decide) (by decide) k) ?_
    refine Run.pre (fun _ k => XS.aloadN X939.here hx rfl (hb hby d3_11) rfl rfl k) ?_
    obtain ⟨T940, X940, e940, st940⟩ := getF X939 hx hZ hown (host := "") (Or.inl (hwi hw 10 rfl)) Via.refl e939 FR0 (g := (mkF m 12 #[.val (.ref tb), .val (.long ot), .second] [(.ref tb)])) rfl rfl (hb hby d3_12)
    refine Run.pre st940 ?_
    refine Run.pre (fun _ k => XS.aloadN X940.here hx rfl (hb hby d3_15) rfl rfl k) ?_
    show Run p e below s _ _ _ (T940.setTop (mkF m 16 #[.val (.ref tb), .val (.long ot), .second] [(.ref tb), (.ref xo)]))
    obtain ⟨T941, X941, e941, st941⟩ := getF X940 hx hZ hown (host := "") (Or.inl (hwi hw 36 rfl)) Via.refl e940 Ff (g := (mkF m 16 #[.val (.ref tb), .val (.long ot), .second] [(.ref tb), (.ref xo)])) rfl rfl (hb hby d3_16)
    refine Run.pre st941 ?_
    obtain ⟨c942, Ar942, -, S942, N942, H942, -⟩ := id AR0
    have hin942 : ¬ ((0 : Int32) < 0 ∨ c942.slots.size ≤ ((0 : Int32)).toNatClampNeg) := inb_of S942 ⟨by decide, by decide⟩
    refine Run.pre (X941.laload hx (j := (0 : Int32)) (v := (.long p0)) (by rw [e941]; exact Ar942.1) (State.isArrayOf_alike hZ.alike Ar942.2.1) Ar942.2.2 hin942 (H942.at hin942 rfl) (g := (mkF m 19 #[.val (.ref tb), .val (.long ot), .second] [(.int (0 : Int32)), (.ref xo)])) rfl rfl (hb hby d3_19)) ?_
    exact Run.retJ X941 hx hret hlk (hb hby d3_20) (by first | (rw [e941]; exact ⟨p0, rfl, N0, rfl, Or.inr ⟨(hS _).mpr rfl, fun x q => by have q1 := (hS x).mp q; clear hS; simp only [Int64.lt_iff_toInt_lt] at o01; rcases q1 with rfl <;> first | exact fun r => by rw [Int64.lt_iff_toInt_lt] at r; omega | (intro r; rw [Int64.lt_iff_toInt_lt] at r; omega)⟩⟩) | exact ⟨p0, rfl, N0, rfl, Or.inr ⟨(hS _).mpr rfl, fun x q => by have q1 := (hS x).mp q; clear hS; simp only [Int64.lt_iff_toInt_lt] at o01; rcases q1 with rfl <;> first | exact fun r => by rw [Int64.lt_iff_toInt_lt] at r; omega | (intro r; rw [Int64.lt_iff_toInt_lt] at r; omega)⟩⟩) (by decide) (by decide)
  · skip
    show Run p e below s _ _ _ (s₁.setTop (mkF m 0 #[.val (.ref tb), .val (.long ot), .second] []))
    refine Run.pre (fun _ k => XS.aloadN X0.here hx rfl (hb hby d3_0) rfl rfl k) ?_
    obtain ⟨T943, X943, e943, st943⟩ := getF X0 hx hZ hown (host := "") (Or.inl (hwi hw 27 rfl)) Via.refl e0 Fz (g := (mkF m 1 #[.val (.ref tb), .val (.long ot), .second] [(.ref tb)])) rfl rfl (hb hby d3_1)
    refine Run.pre st943 ?_
    refine Run.pre (fun _ k => XS.ifYes X943.here hx rfl (pc0 := 4) (pc' := 11) rfl (hb hby d3_4) rfl ((if0 _ _).trans (feq ((by decide) : ¬ ((3 : Int32) = (0 : Int32)))).2) (by decide) (by decide) k) ?_
    refine Run.pre (fun _ k => XS.aloadN X943.here hx rfl (hb hby d3_11) rfl rfl k) ?_
    obtain ⟨T944, X944, e944, st944⟩ := getF X943 hx hZ hown (host := "") (Or.inl (hwi hw 10 rfl)) Via.refl e943 FR0 (g := (mkF m 12 #[.val (.ref tb), .val (.long ot), .second] [(.ref tb)])) rfl rfl (hb hby d3_12)
    refine Run.pre st944 ?_
    refine Run.pre (fun _ k => XS.aloadN X944.here hx rfl (hb hby d3_15) rfl rfl k) ?_
    show Run p e below s _ _ _ (T944.setTop (mkF m 16 #[.val (.ref tb), .val (.long ot), .second] [(.ref tb), (.ref xo)]))
    obtain ⟨T945, X945, e945, st945⟩ := getF X944 hx hZ hown (host := "") (Or.inl (hwi hw 36 rfl)) Via.refl e944 Ff (g := (mkF m 16 #[.val (.ref tb), .val (.long ot), .second] [(.ref tb), (.ref xo)])) rfl rfl (hb hby d3_16)
    refine Run.pre st945 ?_
    obtain ⟨c946, Ar946, -, S946, N946, H946, -⟩ := id AR0
    have hin946 : ¬ ((0 : Int32) < 0 ∨ c946.slots.size ≤ ((0 : Int32)).toNatClampNeg) := inb_of S946 ⟨by decide, by decide⟩
    refine Run.pre (X945.laload hx (j := (0 : Int32)) (v := (.long p0)) (by rw [e945]; exact Ar946.1) (State.isArrayOf_alike hZ.alike Ar946.2.1) Ar946.2.2 hin946 (H946.at hin946 rfl) (g := (mkF m 19 #[.val (.ref tb), .val (.long ot), .second] [(.int (0 : Int32)), (.ref xo)])) rfl rfl (hb hby d3_19)) ?_
    exact Run.retJ X945 hx hret hlk (hb hby d3_20) (by first | (rw [e945]; exact ⟨p0, rfl, N0, rfl, Or.inr ⟨(hS _).mpr (Or.inl rfl), fun x q => by have q1 := (hS x).mp q; clear hS; simp only [Int64.lt_iff_toInt_lt] at o01 o12; rcases q1 with rfl | rfl | rfl <;> first | exact fun r => by rw [Int64.lt_iff_toInt_lt] at r; omega | (intro r; rw [Int64.lt_iff_toInt_lt] at r; omega)⟩⟩) | exact ⟨p0, rfl, N0, rfl, Or.inr ⟨(hS _).mpr (Or.inl rfl), fun x q => by have q1 := (hS x).mp q; clear hS; simp only [Int64.lt_iff_toInt_lt] at o01 o12; rcases q1 with rfl | rfl | rfl <;> first | exact fun r => by rw [Int64.lt_iff_toInt_lt] at r; omega | (intro r; rw [Int64.lt_iff_toInt_lt] at r; omega)⟩⟩) (by decide) (by decide)
  · skip
    show Run p e below s _ _ _ (s₁.setTop (mkF m 0 #[.val (.ref tb), .val (.long ot), .second] []))
    refine Run.pre (fun _ k => XS.aloadN X0.here hx rfl (hb hby d3_0) rfl rfl k) ?_
    obtain ⟨T947, X947, e947, st947⟩ := getF X0 hx hZ hown (host := "") (Or.inl (hwi hw 27 rfl)) Via.refl e0 Fz (g := (mkF m 1 #[.val (.ref tb), .val (.long ot), .second] [(.ref tb)])) rfl rfl (hb hby d3_1)
    refine Run.pre st947 ?_
    refine Run.pre (fun _ k => XS.ifYes X947.here hx rfl (pc0 := 4) (pc' := 11) rfl (hb hby d3_4) rfl ((if0 _ _).trans (feq ((by decide) : ¬ ((2 : Int32) = (0 : Int32)))).2) (by decide) (by decide) k) ?_
    refine Run.pre (fun _ k => XS.aloadN X947.here hx rfl (hb hby d3_11) rfl rfl k) ?_
    obtain ⟨T948, X948, e948, st948⟩ := getF X947 hx hZ hown (host := "") (Or.inl (hwi hw 10 rfl)) Via.refl e947 FR0 (g := (mkF m 12 #[.val (.ref tb), .val (.long ot), .second] [(.ref tb)])) rfl rfl (hb hby d3_12)
    refine Run.pre st948 ?_
    refine Run.pre (fun _ k => XS.aloadN X948.here hx rfl (hb hby d3_15) rfl rfl k) ?_
    show Run p e below s _ _ _ (T948.setTop (mkF m 16 #[.val (.ref tb), .val (.long ot), .second] [(.ref tb), (.ref xo)]))
    obtain ⟨T949, X949, e949, st949⟩ := getF X948 hx hZ hown (host := "") (Or.inl (hwi hw 36 rfl)) Via.refl e948 Ff (g := (mkF m 16 #[.val (.ref tb), .val (.long ot), .second] [(.ref tb), (.ref xo)])) rfl rfl (hb hby d3_16)
    refine Run.pre st949 ?_
    obtain ⟨c950, Ar950, -, S950, N950, H950, -⟩ := id AR0
    have hin950 : ¬ ((1 : Int32) < 0 ∨ c950.slots.size ≤ ((1 : Int32)).toNatClampNeg) := inb_of S950 ⟨by decide, by decide⟩
    refine Run.pre (X949.laload hx (j := (1 : Int32)) (v := (.long p1)) (by rw [e949]; exact Ar950.1) (State.isArrayOf_alike hZ.alike Ar950.2.1) Ar950.2.2 hin950 (H950.at hin950 rfl) (g := (mkF m 19 #[.val (.ref tb), .val (.long ot), .second] [(.int (1 : Int32)), (.ref xo)])) rfl rfl (hb hby d3_19)) ?_
    exact Run.retJ X949 hx hret hlk (hb hby d3_20) (by first | (rw [e949]; exact ⟨p1, rfl, N0, rfl, Or.inr ⟨(hS _).mpr (Or.inl rfl), fun x q => by have q1 := (hS x).mp q; clear hS; simp only [Int64.lt_iff_toInt_lt] at o12; rcases q1 with rfl | rfl <;> first | exact fun r => by rw [Int64.lt_iff_toInt_lt] at r; omega | (intro r; rw [Int64.lt_iff_toInt_lt] at r; omega)⟩⟩) | exact ⟨p1, rfl, N0, rfl, Or.inr ⟨(hS _).mpr (Or.inl rfl), fun x q => by have q1 := (hS x).mp q; clear hS; simp only [Int64.lt_iff_toInt_lt] at o12; rcases q1 with rfl | rfl <;> first | exact fun r => by rw [Int64.lt_iff_toInt_lt] at r; omega | (intro r; rw [Int64.lt_iff_toInt_lt] at r; omega)⟩⟩) (by decide) (by decide)
  · skip
    show Run p e below s _ _ _ (s₁.setTop (mkF m 0 #[.val (.ref tb), .val (.long ot), .second] []))
    refine Run.pre (fun _ k => XS.aloadN X0.here hx rfl (hb hby d3_0) rfl rfl k) ?_
    obtain ⟨T951, X951, e951, st951⟩ := getF X0 hx hZ hown (host := "") (Or.inl (hwi hw 27 rfl)) Via.refl e0 Fz (g := (mkF m 1 #[.val (.ref tb), .val (.long ot), .second] [(.ref tb)])) rfl rfl (hb hby d3_1)
    refine Run.pre st951 ?_
    refine Run.pre (fun _ k => XS.ifYes X951.here hx rfl (pc0 := 4) (pc' := 11) rfl (hb hby d3_4) rfl ((if0 _ _).trans (feq ((by decide) : ¬ ((2 : Int32) = (0 : Int32)))).2) (by decide) (by decide) k) ?_
    refine Run.pre (fun _ k => XS.aloadN X951.here hx rfl (hb hby d3_11) rfl rfl k) ?_
    obtain ⟨T952, X952, e952, st952⟩ := getF X951 hx hZ hown (host := "") (Or.inl (hwi hw 10 rfl)) Via.refl e951 FR0 (g := (mkF m 12 #[.val (.ref tb), .val (.long ot), .second] [(.ref tb)])) rfl rfl (hb hby d3_12)
    refine Run.pre st952 ?_
    refine Run.pre (fun _ k => XS.aloadN X952.here hx rfl (hb hby d3_15) rfl rfl k) ?_
    show Run p e below s _ _ _ (T952.setTop (mkF m 16 #[.val (.ref tb), .val (.long ot), .second] [(.ref tb), (.ref xo)]))
    obtain ⟨T953, X953, e953, st953⟩ := getF X952 hx hZ hown (host := "") (Or.inl (hwi hw 36 rfl)) Via.refl e952 Ff (g := (mkF m 16 #[.val (.ref tb), .val (.long ot), .second] [(.ref tb), (.ref xo)])) rfl rfl (hb hby d3_16)
    refine Run.pre st953 ?_
    obtain ⟨c954, Ar954, -, S954, N954, H954, -⟩ := id AR0
    have hin954 : ¬ ((0 : Int32) < 0 ∨ c954.slots.size ≤ ((0 : Int32)).toNatClampNeg) := inb_of S954 ⟨by decide, by decide⟩
    refine Run.pre (X953.laload hx (j := (0 : Int32)) (v := (.long p0)) (by rw [e953]; exact Ar954.1) (State.isArrayOf_alike hZ.alike Ar954.2.1) Ar954.2.2 hin954 (H954.at hin954 rfl) (g := (mkF m 19 #[.val (.ref tb), .val (.long ot), .second] [(.int (0 : Int32)), (.ref xo)])) rfl rfl (hb hby d3_19)) ?_
    exact Run.retJ X953 hx hret hlk (hb hby d3_20) (by first | (rw [e953]; exact ⟨p0, rfl, N0, rfl, Or.inr ⟨(hS _).mpr (Or.inl rfl), fun x q => by have q1 := (hS x).mp q; clear hS; simp only [Int64.lt_iff_toInt_lt] at o01 o12; rcases q1 with rfl | rfl <;> first | exact fun r => by rw [Int64.lt_iff_toInt_lt] at r; omega | (intro r; rw [Int64.lt_iff_toInt_lt] at r; omega)⟩⟩) | exact ⟨p0, rfl, N0, rfl, Or.inr ⟨(hS _).mpr (Or.inl rfl), fun x q => by have q1 := (hS x).mp q; clear hS; simp only [Int64.lt_iff_toInt_lt] at o01 o12; rcases q1 with rfl | rfl <;> first | exact fun r => by rw [Int64.lt_iff_toInt_lt] at r; omega | (intro r; rw [Int64.lt_iff_toInt_lt] at r; omega)⟩⟩) (by decide) (by decide)
  · skip
    show Run p e below s _ _ _ (s₁.setTop (mkF m 0 #[.val (.ref tb), .val (.long ot), .second] []))
    refine Run.pre (fun _ k => XS.aloadN X0.here hx rfl (hb hby d3_0) rfl rfl k) ?_
    obtain ⟨T955, X955, e955, st955⟩ := getF X0 hx hZ hown (host := "") (Or.inl (hwi hw 27 rfl)) Via.refl e0 Fz (g := (mkF m 1 #[.val (.ref tb), .val (.long ot), .second] [(.ref tb)])) rfl rfl (hb hby d3_1)
    refine Run.pre st955 ?_
    refine Run.pre (fun _ k => XS.ifYes X955.here hx rfl (pc0 := 4) (pc' := 11) rfl (hb hby d3_4) rfl ((if0 _ _).trans (feq ((by decide) : ¬ ((2 : Int32) = (0 : Int32)))).2) (by decide) (by decide) k) ?_
    refine Run.pre (fun _ k => XS.aloadN X955.here hx rfl (hb hby d3_11) rfl rfl k) ?_
    obtain ⟨T956, X956, e956, st956⟩ := getF X955 hx hZ hown (host := "") (Or.inl (hwi hw 10 rfl)) Via.refl e955 FR0 (g := (mkF m 12 #[.val (.ref tb), .val (.long ot), .second] [(.ref tb)])) rfl rfl (hb hby d3_12)
    refine Run.pre st956 ?_
    refine Run.pre (fun _ k => XS.aloadN X956.here hx rfl (hb hby d3_15) rfl rfl k) ?_
    show Run p e below s _ _ _ (T956.setTop (mkF m 16 #[.val (.ref tb), .val (.long ot), .second] [(.ref tb), (.ref xo)]))
    obtain ⟨T957, X957, e957, st957⟩ := getF X956 hx hZ hown (host := "") (Or.inl (hwi hw 36 rfl)) Via.refl e956 Ff (g := (mkF m 16 #[.val (.ref tb), .val (.long ot), .second] [(.ref tb), (.ref xo)])) rfl rfl (hb hby d3_16)
    refine Run.pre st957 ?_
    obtain ⟨c958, Ar958, -, S958, N958, H958, -⟩ := id AR0
    have hin958 : ¬ ((0 : Int32) < 0 ∨ c958.slots.size ≤ ((0 : Int32)).toNatClampNeg) := inb_of S958 ⟨by decide, by decide⟩
    refine Run.pre (X957.laload hx (j := (0 : Int32)) (v := (.long p0)) (by rw [e957]; exact Ar958.1) (State.isArrayOf_alike hZ.alike Ar958.2.1) Ar958.2.2 hin958 (H958.at hin958 rfl) (g := (mkF m 19 #[.val (.ref tb), .val (.long ot), .second] [(.int (0 : Int32)), (.ref xo)])) rfl rfl (hb hby d3_19)) ?_
    exact Run.retJ X957 hx hret hlk (hb hby d3_20) (by first | (rw [e957]; exact ⟨p0, rfl, N0, rfl, Or.inr ⟨(hS _).mpr (Or.inl rfl), fun x q => by have q1 := (hS x).mp q; clear hS; simp only [Int64.lt_iff_toInt_lt] at o01 o12; rcases q1 with rfl | rfl <;> first | exact fun r => by rw [Int64.lt_iff_toInt_lt] at r; omega | (intro r; rw [Int64.lt_iff_toInt_lt] at r; omega)⟩⟩) | exact ⟨p0, rfl, N0, rfl, Or.inr ⟨(hS _).mpr (Or.inl rfl), fun x q => by have q1 := (hS x).mp q; clear hS; simp only [Int64.lt_iff_toInt_lt] at o01 o12; rcases q1 with rfl | rfl <;> first | exact fun r => by rw [Int64.lt_iff_toInt_lt] at r; omega | (intro r; rw [Int64.lt_iff_toInt_lt] at r; omega)⟩⟩) (by decide) (by decide)
theorem d1_0 : decode prog_84_method_1_code 0 = .ok (.aload_n 0, 1) := by decide +kernel
theorem d1_1 : decode prog_84_method_1_code 1 = .ok (.invokespecial 1, 3) := by decide +kernel
theorem d1_4 : decode prog_84_method_1_code 4 = .ok (.aload_n 0, 1) := by decide +kernel
theorem d1_5 : decode prog_84_method_1_code 5 = .ok (.bipush 16, 2) := by decide +kernel
theorem d1_7 : decode prog_84_method_1_code 7 = .ok (.newarray .long, 2) := by decide +kernel
theorem d1_9 : decode prog_84_method_1_code 9 = .ok (.putfield 7, 3) := by decide +kernel
theorem d1_12 : decode prog_84_method_1_code 12 = .ok (.aload_n 0, 1) := by decide +kernel
theorem d1_13 : decode prog_84_method_1_code 13 = .ok (.bipush 16, 2) := by decide +kernel
theorem d1_15 : decode prog_84_method_1_code 15 = .ok (.newarray .long, 2) := by decide +kernel
theorem d1_17 : decode prog_84_method_1_code 17 = .ok (.putfield 13, 3) := by decide +kernel
theorem d1_20 : decode prog_84_method_1_code 20 = .ok (.aload_n 0, 1) := by decide +kernel
theorem d1_21 : decode prog_84_method_1_code 21 = .ok (.bipush 16, 2) := by decide +kernel
theorem d1_23 : decode prog_84_method_1_code 23 = .ok (.newarray .int, 2) := by decide +kernel
theorem d1_25 : decode prog_84_method_1_code 25 = .ok (.putfield 16, 3) := by decide +kernel
theorem d1_28 : decode prog_84_method_1_code 28 = .ok (.aload_n 0, 1) := by decide +kernel
theorem d1_29 : decode prog_84_method_1_code 29 = .ok (.bipush 16, 2) := by decide +kernel
theorem d1_31 : decode prog_84_method_1_code 31 = .ok (.newarray .int, 2) := by decide +kernel
theorem d1_33 : decode prog_84_method_1_code 33 = .ok (.putfield 20, 3) := by decide +kernel
theorem d1_36 : decode prog_84_method_1_code 36 = .ok (.aload_n 0, 1) := by decide +kernel
theorem d1_37 : decode prog_84_method_1_code 37 = .ok (.bipush 16, 2) := by decide +kernel
theorem d1_39 : decode prog_84_method_1_code 39 = .ok (.newarray .boolean, 2) := by decide +kernel
theorem d1_41 : decode prog_84_method_1_code 41 = .ok (.putfield 23, 3) := by decide +kernel
theorem d1_44 : decode prog_84_method_1_code 44 = .ok (.return_, 1) := by decide +kernel
theorem pn_1 : plainName "com/example/manana/manana/storage/WaitingTable" = true := by first | (simp [plainName, overriddenIn]; done) | decide +kernel
set_option maxRecDepth 65536 in
set_option maxHeartbeats 40000000 in
theorem rmWT (l : Launch) (Z : State) (a0 : Array Value) (hw : ∀ d ∈ tables_1, d.before a0 Z = true) (tb : Addr) (h0 : Heap) (n0 : Nat) (Z0 : n0 ≤ h0.size) (E_tb : Exa Z h0 tb "com/example/manana/manana/storage/WaitingTable") (FR0 : Fld Z h0 tb "com/example/manana/manana/storage/WaitingTable" "offsets" "[J" .null) (FR1 : Fld Z h0 tb "com/example/manana/manana/storage/WaitingTable" "dues" "[J" .null) (FR2 : Fld Z h0 tb "com/example/manana/manana/storage/WaitingTable" "lengths" "[I" .null) (FR3 : Fld Z h0 tb "com/example/manana/manana/storage/WaitingTable" "queues" "[I" .null) (FR4 : Fld Z h0 tb "com/example/manana/manana/storage/WaitingTable" "held" "[Z" .null) (Ff : Fld Z h0 tb "com/example/manana/manana/storage/WaitingTable" "first" "I" (.int 0)) (Fe : Fld Z h0 tb "com/example/manana/manana/storage/WaitingTable" "end" "I" (.int 0)) (Fz : Fld Z h0 tb "com/example/manana/manana/storage/WaitingTable" "size" "I" (.int 0)) (g_tb : n0 ≤ tb) :
    Con l (⟨"com/example/manana/manana/storage/WaitingTable", "<init>", "()V"⟩ : MethodName) prog_84_method_1_code 1 none ({ frames := 1, cells := 5, slots := 80, locals := 12 } : Room) Z #[(.ref tb)] h0 (fun v h L => ∃ xo : Addr, ∃ xd : Addr, ∃ xl : Addr, ∃ xq : Addr, ∃ xh : Addr, ∃ ko : ClassId, ∃ kd : ClassId, ∃ kl : ClassId, ∃ kq : ClassId, ∃ kh : ClassId, v = none ∧ Fr n0 L ∧ Keep h0 h [tb] ∧ h0.size ≤ xo ∧ h0.size ≤ xd ∧ h0.size ≤ xl ∧ h0.size ≤ xq ∧ h0.size ≤ xh ∧ own_D tb xo xd xl xq xh ∧ own_H Z h tb xo xd xl xq xh ko kd kl kq kh (0 : Int64) (0 : Int64) (0 : Int64) (0 : Int64) (0 : Int64) (0 : Int64) (0 : Int32) (0 : Int32) (0 : Int32) (0 : Int32) (0 : Int32) (0 : Int32) (0 : Int32) (0 : Int32) (0 : Int32) (0 : Int32) (0 : Int32) (0 : Int32)) := by
  refine Con.mk (plainFor_of_name pn_1) (fun m => show entryFrame m #[(.ref tb)] 1 = mkF m 0 #[.val (.ref tb)] [] by first | (simp [entryFrame, mkF, argsToLocals, Value.category]; done) | rfl) ?_
  intro p e s m below meth c s₁ hx hby hml hown hnm hret hlk hZ X0 e0
  have N0 := Fr.nil n0
  show Run p e below s _ _ _ (s₁.setTop (mkF m 0 #[.val (.ref tb)] []))
  refine Run.pre (fun _ k => XS.aloadN X0.here hx rfl (hb hby d1_0) rfl rfl k) ?_
  obtain ⟨T959, X959, e959, st959⟩ := initO X0 hx hZ hown (hwi hw 6 rfl) (hwi hw 7 rfl) (hwi hw 8 rfl) e0 (g := (mkF m 1 #[.val (.ref tb)] [(.ref tb)])) rfl (by rw [hml]; rfl) rfl (hb hby d1_1) (by decide) (W := 0) (by show 2 * 0 + _ ≤ _; exact Nat.le_of_eq rfl) (by decide)
  refine Run.pre st959 ?_
  refine Run.pre (fun _ k => XS.aloadN X959.here hx rfl (hb hby d1_4) rfl rfl k) ?_
  refine Run.pre (fun _ k => XS.bipush X959.here hx rfl (hb hby d1_5) k) ?_
  obtain ⟨T960, h960, k960, X960, e960, E960, A960, st960⟩ := newP X959 hx hZ (hwi hw 9 rfl) e959 (g := (mkF m 7 #[.val (.ref tb)] [(.int (16 : Int32)), (.ref tb)])) rfl (hb hby d1_7) rfl (by decide) (cap := 16) (by decide) (by decide) (by decide) (by decide)
  obtain ⟨b960, g960⟩ : ∃ z, z = h0.size := ⟨_, rfl⟩
  rw [← g960] at A960 st960
  refine Run.pre st960 ?_
  have V_b960 : Arv Z h960 b960 k960 .long (16 : Int32) [(.long (0 : Int64)), (.long (0 : Int64)), (.long (0 : Int64)), (.long (0 : Int64)), (.long (0 : Int64)), (.long (0 : Int64)), (.long (0 : Int64)), (.long (0 : Int64)), (.long (0 : Int64)), (.long (0 : Int64)), (.long (0 : Int64)), (.long (0 : Int64)), (.long (0 : Int64)), (.long (0 : Int64)), (.long (0 : Int64)), (.long (0 : Int64))] (.long (0 : Int64)) := (Arv.new A960 (by decide)).pad (pad_rep [] (.long (0 : Int64)) 16)
  have gn_b960 : n0 ≤ b960 := Nat.le_trans (Nat.le_trans Z0 (Keep.refl h0 [tb]).1) (Nat.le_of_eq g960.symm)
  have sz_b960 : h0.size ≤ b960 := Nat.le_trans (Keep.refl h0 [tb]).1 (Nat.le_of_eq g960.symm)
  have K960 : Keep h0 h960 [tb] := (Keep.refl h0 [tb]).ext E960
  have f961 := (E_tb.ext E960)
  have f962 := (FR0.ext E960)
  obtain ⟨T963, h963, X963, e963, W963, st963⟩ := putF X960 hx hZ hown (host := "") (Or.inl (hwi hw 10 rfl)) Via.refl e960 f962 f961 (Or.inl (hwi hw 11 rfl)) (hwi hw 1 rfl) (ty := (.array .long)) (by decide) rfl rfl (g := (mkF m 9 #[.val (.ref tb)] [(.ref b960), (.ref tb)])) rfl rfl (hb hby d1_9)
  refine Run.pre st963 ?_
  have Fw963 := f962.same W963
  have K963 : Keep h0 h963 [tb] := K960.wr W963 (Or.inl (by simp))
  have N963 := Fr.snoc X963 N0 g_tb
  show Run p e below s _ _ _ (T963.setTop (mkF m 12 #[.val (.ref tb)] []))
  refine Run.pre (fun _ k => XS.aloadN X963.here hx rfl (hb hby d1_12) rfl rfl k) ?_
  refine Run.pre (fun _ k => XS.bipush X963.here hx rfl (hb hby d1_13) k) ?_
  obtain ⟨T964, h964, k964, X964, e964, E964, A964, st964⟩ := newP X963 hx hZ (hwi hw 9 rfl) e963 (g := (mkF m 15 #[.val (.ref tb)] [(.int (16 : Int32)), (.ref tb)])) rfl (hb hby d1_15) rfl (by decide) (cap := 16) (by decide) (by decide) (by decide) (by decide)
  obtain ⟨b964, g964⟩ : ∃ z, z = h963.size := ⟨_, rfl⟩
  rw [← g964] at A964 st964
  refine Run.pre st964 ?_
  have V_b964 : Arv Z h964 b964 k964 .long (16 : Int32) [(.long (0 : Int64)), (.long (0 : Int64)), (.long (0 : Int64)), (.long (0 : Int64)), (.long (0 : Int64)), (.long (0 : Int64)), (.long (0 : Int64)), (.long (0 : Int64)), (.long (0 : Int64)), (.long (0 : Int64)), (.long (0 : Int64)), (.long (0 : Int64)), (.long (0 : Int64)), (.long (0 : Int64)), (.long (0 : Int64)), (.long (0 : Int64))] (.long (0 : Int64)) := (Arv.new A964 (by decide)).pad (pad_rep [] (.long (0 : Int64)) 16)
  have gn_b964 : n0 ≤ b964 := Nat.le_trans (Nat.le_trans Z0 K963.1) (Nat.le_of_eq g964.symm)
  have sz_b964 : h0.size ≤ b964 := Nat.le_trans K963.1 (Nat.le_of_eq g964.symm)
  have K964 : Keep h0 h964 [tb] := K963.ext E964
  have f965 := ((f961.wr W963).ext E964)
  have f966 := (((FR1.ext E960).other W963 (Or.inr (slot_ne (Or.inl (hwi hw 13 rfl)) (Or.inl (hwi hw 11 rfl)) (by decide) (t := (.array .long)) (t' := (.array .long)) (by decide) (by decide)))).ext E964)
  obtain ⟨T967, h967, X967, e967, W967, st967⟩ := putF X964 hx hZ hown (host := "") (Or.inl (hwi hw 12 rfl)) Via.refl e964 f966 f965 (Or.inl (hwi hw 13 rfl)) (hwi hw 1 rfl) (ty := (.array .long)) (by decide) rfl rfl (g := (mkF m 17 #[.val (.ref tb)] [(.ref b964), (.ref tb)])) rfl rfl (hb hby d1_17)
  refine Run.pre st967 ?_
  have Fw967 := f966.same W967
  have K967 : Keep h0 h967 [tb] := K964.wr W967 (Or.inl (by simp))
  have N967 := Fr.snoc X967 N963 g_tb
  refine Run.pre (fun _ k => XS.aloadN X967.here hx rfl (hb hby d1_20) rfl rfl k) ?_
  refine Run.pre (fun _ k => XS.bipush X967.here hx rfl (hb hby d1_21) k) ?_
  show Run p e below s _ _ _ (T967.setTop (mkF m 23 #[.val (.ref tb)] [(.int (16 : Int32)), (.ref tb)]))
  obtain ⟨T968, h968, k968, X968, e968, E968, A968, st968⟩ := newP X967 hx hZ (hwi hw 14 rfl) e967 (g := (mkF m 23 #[.val (.ref tb)] [(.int (16 : Int32)), (.ref tb)])) rfl (hb hby d1_23) rfl (by decide) (cap := 16) (by decide) (by decide) (by decide) (by decide)
  obtain ⟨b968, g968⟩ : ∃ z, z = h967.size := ⟨_, rfl⟩
  rw [← g968] at A968 st968
  refine Run.pre st968 ?_
  have V_b968 : Arv Z h968 b968 k968 .int (16 : Int32) [(.int (0 : Int32)), (.int (0 : Int32)), (.int (0 : Int32)), (.int (0 : Int32)), (.int (0 : Int32)), (.int (0 : Int32)), (.int (0 : Int32)), (.int (0 : Int32)), (.int (0 : Int32)), (.int (0 : Int32)), (.int (0 : Int32)), (.int (0 : Int32)), (.int (0 : Int32)), (.int (0 : Int32)), (.int (0 : Int32)), (.int (0 : Int32))] (.int (0 : Int32)) := (Arv.new A968 (by decide)).pad (pad_rep [] (.int (0 : Int32)) 16)
  have gn_b968 : n0 ≤ b968 := Nat.le_trans (Nat.le_trans Z0 K967.1) (Nat.le_of_eq g968.symm)
  have sz_b968 : h0.size ≤ b968 := Nat.le_trans K967.1 (Nat.le_of_eq g968.symm)
  have K968 : Keep h0 h968 [tb] := K967.ext E968
  have f969 := ((f965.wr W967).ext E968)
  have f970 := (((((FR2.ext E960).other W963 (Or.inr (slot_ne (Or.inl (hwi hw 16 rfl)) (Or.inl (hwi hw 11 rfl)) (by decide) (t := (.array .int)) (t' := (.array .long)) (by decide) (by decide)))).ext E964).other W967 (Or.inr (slot_ne (Or.inl (hwi hw 16 rfl)) (Or.inl (hwi hw 13 rfl)) (by decide) (t := (.array .int)) (t' := (.array .long)) (by decide) (by decide)))).ext E968)
  obtain ⟨T971, h971, X971, e971, W971, st971⟩ := putF X968 hx hZ hown (host := "") (Or.inl (hwi hw 15 rfl)) Via.refl e968 f970 f969 (Or.inl (hwi hw 16 rfl)) (hwi hw 1 rfl) (ty := (.array .int)) (by decide) rfl rfl (g := (mkF m 25 #[.val (.ref tb)] [(.ref b968), (.ref tb)])) rfl rfl (hb hby d1_25)
  refine Run.pre st971 ?_
  have Fw971 := f970.same W971
  have K971 : Keep h0 h971 [tb] := K968.wr W971 (Or.inl (by simp))
  have N971 := Fr.snoc X971 N967 g_tb
  refine Run.pre (fun _ k => XS.aloadN X971.here hx rfl (hb hby d1_28) rfl rfl k) ?_
  refine Run.pre (fun _ k => XS.bipush X971.here hx rfl (hb hby d1_29) k) ?_
  obtain ⟨T972, h972, k972, X972, e972, E972, A972, st972⟩ := newP X971 hx hZ (hwi hw 14 rfl) e971 (g := (mkF m 31 #[.val (.ref tb)] [(.int (16 : Int32)), (.ref tb)])) rfl (hb hby d1_31) rfl (by decide) (cap := 16) (by decide) (by decide) (by decide) (by decide)
  obtain ⟨b972, g972⟩ : ∃ z, z = h971.size := ⟨_, rfl⟩
  rw [← g972] at A972 st972
  refine Run.pre st972 ?_
  have V_b972 : Arv Z h972 b972 k972 .int (16 : Int32) [(.int (0 : Int32)), (.int (0 : Int32)), (.int (0 : Int32)), (.int (0 : Int32)), (.int (0 : Int32)), (.int (0 : Int32)), (.int (0 : Int32)), (.int (0 : Int32)), (.int (0 : Int32)), (.int (0 : Int32)), (.int (0 : Int32)), (.int (0 : Int32)), (.int (0 : Int32)), (.int (0 : Int32)), (.int (0 : Int32)), (.int (0 : Int32))] (.int (0 : Int32)) := (Arv.new A972 (by decide)).pad (pad_rep [] (.int (0 : Int32)) 16)
  have gn_b972 : n0 ≤ b972 := Nat.le_trans (Nat.le_trans Z0 K971.1) (Nat.le_of_eq g972.symm)
  have sz_b972 : h0.size ≤ b972 := Nat.le_trans K971.1 (Nat.le_of_eq g972.symm)
  have K972 : Keep h0 h972 [tb] := K971.ext E972
  have f973 := ((f969.wr W971).ext E972)
  have f974 := (((((((FR3.ext E960).other W963 (Or.inr (slot_ne (Or.inl (hwi hw 18 rfl)) (Or.inl (hwi hw 11 rfl)) (by decide) (t := (.array .int)) (t' := (.array .long)) (by decide) (by decide)))).ext E964).other W967 (Or.inr (slot_ne (Or.inl (hwi hw 18 rfl)) (Or.inl (hwi hw 13 rfl)) (by decide) (t := (.array .int)) (t' := (.array .long)) (by decide) (by decide)))).ext E968).other W971 (Or.inr (slot_ne (Or.inl (hwi hw 18 rfl)) (Or.inl (hwi hw 16 rfl)) (by decide) (t := (.array .int)) (t' := (.array .int)) (by decide) (by decide)))).ext E972)
  obtain ⟨T975, h975, X975, e975, W975, st975⟩ := putF X972 hx hZ hown (host := "") (Or.inl (hwi hw 17 rfl)) Via.refl e972 f974 f973 (Or.inl (hwi hw 18 rfl)) (hwi hw 1 rfl) (ty := (.array .int)) (by decide) rfl rfl (g := (mkF m 33 #[.val (.ref tb)] [(.ref b972), (.ref tb)])) rfl rfl (hb hby d1_33)
  refine Run.pre st975 ?_
  have Fw975 := f974.same W975
  have K975 : Keep h0 h975 [tb] := K972.wr W975 (Or.inl (by simp))
  have N975 := Fr.snoc X975 N971 g_tb
  show Run p e below s _ _ _ (T975.setTop (mkF m 36 #[.val (.ref tb)] []))
  refine Run.pre (fun _ k => XS.aloadN X975.here hx rfl (hb hby d1_36) rfl rfl k) ?_
  refine Run.pre (fun _ k => XS.bipush X975.here hx rfl (hb hby d1_37) k) ?_
  obtain ⟨T976, h976, k976, X976, e976, E976, A976, st976⟩ := newP X975 hx hZ (hwi hw 19 rfl) e975 (g := (mkF m 39 #[.val (.ref tb)] [(.int (16 : Int32)), (.ref tb)])) rfl (hb hby d1_39) rfl (by decide) (cap := 16) (by decide) (by decide) (by decide) (by decide)
  obtain ⟨b976, g976⟩ : ∃ z, z = h975.size := ⟨_, rfl⟩
  rw [← g976] at A976 st976
  refine Run.pre st976 ?_
  have V_b976 : Arv Z h976 b976 k976 .boolean (16 : Int32) [(.int (0 : Int32)), (.int (0 : Int32)), (.int (0 : Int32)), (.int (0 : Int32)), (.int (0 : Int32)), (.int (0 : Int32)), (.int (0 : Int32)), (.int (0 : Int32)), (.int (0 : Int32)), (.int (0 : Int32)), (.int (0 : Int32)), (.int (0 : Int32)), (.int (0 : Int32)), (.int (0 : Int32)), (.int (0 : Int32)), (.int (0 : Int32))] (.int (0 : Int32)) := (Arv.new A976 (by decide)).pad (pad_rep [] (.int (0 : Int32)) 16)
  have gn_b976 : n0 ≤ b976 := Nat.le_trans (Nat.le_trans Z0 K975.1) (Nat.le_of_eq g976.symm)
  have sz_b976 : h0.size ≤ b976 := Nat.le_trans K975.1 (Nat.le_of_eq g976.symm)
  have K976 : Keep h0 h976 [tb] := K975.ext E976
  have f977 := ((f973.wr W975).ext E976)
  have f978 := (((((((((FR4.ext E960).other W963 (Or.inr (slot_ne (Or.inl (hwi hw 21 rfl)) (Or.inl (hwi hw 11 rfl)) (by decide) (t := (.array .boolean)) (t' := (.array .long)) (by decide) (by decide)))).ext E964).other W967 (Or.inr (slot_ne (Or.inl (hwi hw 21 rfl)) (Or.inl (hwi hw 13 rfl)) (by decide) (t := (.array .boolean)) (t' := (.array .long)) (by decide) (by decide)))).ext E968).other W971 (Or.inr (slot_ne (Or.inl (hwi hw 21 rfl)) (Or.inl (hwi hw 16 rfl)) (by decide) (t := (.array .boolean)) (t' := (.array .int)) (by decide) (by decide)))).ext E972).other W975 (Or.inr (slot_ne (Or.inl (hwi hw 21 rfl)) (Or.inl (hwi hw 18 rfl)) (by decide) (t := (.array .boolean)) (t' := (.array .int)) (by decide) (by decide)))).ext E976)
  obtain ⟨T979, h979, X979, e979, W979, st979⟩ := putF X976 hx hZ hown (host := "") (Or.inl (hwi hw 20 rfl)) Via.refl e976 f978 f977 (Or.inl (hwi hw 21 rfl)) (hwi hw 1 rfl) (ty := (.array .boolean)) (by decide) rfl rfl (g := (mkF m 41 #[.val (.ref tb)] [(.ref b976), (.ref tb)])) rfl rfl (hb hby d1_41)
  refine Run.pre st979 ?_
  have Fw979 := f978.same W979
  have K979 : Keep h0 h979 [tb] := K976.wr W979 (Or.inl (by simp))
  have N979 := Fr.snoc X979 N975 g_tb
  have f980 := (f977.wr W979)
  have f981 := ((((((((Fw963.ext E964).other W967 (Or.inr (slot_ne (Or.inl (hwi hw 11 rfl)) (Or.inl (hwi hw 13 rfl)) (by decide) (t := (.array .long)) (t' := (.array .long)) (by decide) (by decide)))).ext E968).other W971 (Or.inr (slot_ne (Or.inl (hwi hw 11 rfl)) (Or.inl (hwi hw 16 rfl)) (by decide) (t := (.array .long)) (t' := (.array .int)) (by decide) (by decide)))).ext E972).other W975 (Or.inr (slot_ne (Or.inl (hwi hw 11 rfl)) (Or.inl (hwi hw 18 rfl)) (by decide) (t := (.array .long)) (t' := (.array .int)) (by decide) (by decide)))).ext E976).other W979 (Or.inr (slot_ne (Or.inl (hwi hw 11 rfl)) (Or.inl (hwi hw 21 rfl)) (by decide) (t := (.array .long)) (t' := (.array .boolean)) (by decide) (by decide))))
  have f982 := ((((((Fw967.ext E968).other W971 (Or.inr (slot_ne (Or.inl (hwi hw 13 rfl)) (Or.inl (hwi hw 16 rfl)) (by decide) (t := (.array .long)) (t' := (.array .int)) (by decide) (by decide)))).ext E972).other W975 (Or.inr (slot_ne (Or.inl (hwi hw 13 rfl)) (Or.inl (hwi hw 18 rfl)) (by decide) (t := (.array .long)) (t' := (.array .int)) (by decide) (by decide)))).ext E976).other W979 (Or.inr (slot_ne (Or.inl (hwi hw 13 rfl)) (Or.inl (hwi hw 21 rfl)) (by decide) (t := (.array .long)) (t' := (.array .boolean)) (by decide) (by decide))))
  have f983 := ((((Fw971.ext E972).other W975 (Or.inr (slot_ne (Or.inl (hwi hw 16 rfl)) (Or.inl (hwi hw 18 rfl)) (by decide) (t := (.array .int)) (t' := (.array .int)) (by decide) (by decide)))).ext E976).other W979 (Or.inr (slot_ne (Or.inl (hwi hw 16 rfl)) (Or.inl (hwi hw 21 rfl)) (by decide) (t := (.array .int)) (t' := (.array .boolean)) (by decide) (by decide))))
  have f984 := ((Fw975.ext E976).other W979 (Or.inr (slot_ne (Or.inl (hwi hw 18 rfl)) (Or.inl (hwi hw 21 rfl)) (by decide) (t := (.array .int)) (t' := (.array .boolean)) (by decide) (by decide))))
  have f985 := ((((((((((Ff.ext E960).other W963 (Or.inr (slot_ne (Or.inl (hwi hw 37 rfl)) (Or.inl (hwi hw 11 rfl)) (by decide) (t := .int) (t' := (.array .long)) (by decide) (by decide)))).ext E964).other W967 (Or.inr (slot_ne (Or.inl (hwi hw 37 rfl)) (Or.inl (hwi hw 13 rfl)) (by decide) (t := .int) (t' := (.array .long)) (by decide) (by decide)))).ext E968).other W971 (Or.inr (slot_ne (Or.inl (hwi hw 37 rfl)) (Or.inl (hwi hw 16 rfl)) (by decide) (t := .int) (t' := (.array .int)) (by decide) (by decide)))).ext E972).other W975 (Or.inr (slot_ne (Or.inl (hwi hw 37 rfl)) (Or.inl (hwi hw 18 rfl)) (by decide) (t := .int) (t' := (.array .int)) (by decide) (by decide)))).ext E976).other W979 (Or.inr (slot_ne (Or.inl (hwi hw 37 rfl)) (Or.inl (hwi hw 21 rfl)) (by decide) (t := .int) (t' := (.array .boolean)) (by decide) (by decide))))
  have f986 := ((((((((((Fe.ext E960).other W963 (Or.inr (slot_ne (Or.inl (hwi hw 35 rfl)) (Or.inl (hwi hw 11 rfl)) (by decide) (t := .int) (t' := (.array .long)) (by decide) (by decide)))).ext E964).other W967 (Or.inr (slot_ne (Or.inl (hwi hw 35 rfl)) (Or.inl (hwi hw 13 rfl)) (by decide) (t := .int) (t' := (.array .long)) (by decide) (by decide)))).ext E968).other W971 (Or.inr (slot_ne (Or.inl (hwi hw 35 rfl)) (Or.inl (hwi hw 16 rfl)) (by decide) (t := .int) (t' := (.array .int)) (by decide) (by decide)))).ext E972).other W975 (Or.inr (slot_ne (Or.inl (hwi hw 35 rfl)) (Or.inl (hwi hw 18 rfl)) (by decide) (t := .int) (t' := (.array .int)) (by decide) (by decide)))).ext E976).other W979 (Or.inr (slot_ne (Or.inl (hwi hw 35 rfl)) (Or.inl (hwi hw 21 rfl)) (by decide) (t := .int) (t' := (.array .boolean)) (by decide) (by decide))))
  have f987 := ((((((((((Fz.ext E960).other W963 (Or.inr (slot_ne (Or.inl (hwi hw 28 rfl)) (Or.inl (hwi hw 11 rfl)) (by decide) (t := .int) (t' := (.array .long)) (by decide) (by decide)))).ext E964).other W967 (Or.inr (slot_ne (Or.inl (hwi hw 28 rfl)) (Or.inl (hwi hw 13 rfl)) (by decide) (t := .int) (t' := (.array .long)) (by decide) (by decide)))).ext E968).other W971 (Or.inr (slot_ne (Or.inl (hwi hw 28 rfl)) (Or.inl (hwi hw 16 rfl)) (by decide) (t := .int) (t' := (.array .int)) (by decide) (by decide)))).ext E972).other W975 (Or.inr (slot_ne (Or.inl (hwi hw 28 rfl)) (Or.inl (hwi hw 18 rfl)) (by decide) (t := .int) (t' := (.array .int)) (by decide) (by decide)))).ext E976).other W979 (Or.inr (slot_ne (Or.inl (hwi hw 28 rfl)) (Or.inl (hwi hw 21 rfl)) (by decide) (t := .int) (t' := (.array .boolean)) (by decide) (by decide))))
  have f988 := (((((((((V_b960.other W963 (Ne.symm (Nat.ne_of_lt (Nat.lt_of_lt_of_le E_tb.lt (Nat.le_of_eq g960.symm))))).ext E964).other W967 (Ne.symm (Nat.ne_of_lt (Nat.lt_of_lt_of_le E_tb.lt (Nat.le_of_eq g960.symm))))).ext E968).other W971 (Ne.symm (Nat.ne_of_lt (Nat.lt_of_lt_of_le E_tb.lt (Nat.le_of_eq g960.symm))))).ext E972).other W975 (Ne.symm (Nat.ne_of_lt (Nat.lt_of_lt_of_le E_tb.lt (Nat.le_of_eq g960.symm))))).ext E976).other W979 (Ne.symm (Nat.ne_of_lt (Nat.lt_of_lt_of_le E_tb.lt (Nat.le_of_eq g960.symm)))))
  have f989 := (((((((V_b964.other W967 (Ne.symm (Nat.ne_of_lt (Nat.lt_of_lt_of_le Fw963.lt (Nat.le_of_eq g964.symm))))).ext E968).other W971 (Ne.symm (Nat.ne_of_lt (Nat.lt_of_lt_of_le Fw963.lt (Nat.le_of_eq g964.symm))))).ext E972).other W975 (Ne.symm (Nat.ne_of_lt (Nat.lt_of_lt_of_le Fw963.lt (Nat.le_of_eq g964.symm))))).ext E976).other W979 (Ne.symm (Nat.ne_of_lt (Nat.lt_of_lt_of_le Fw963.lt (Nat.le_of_eq g964.symm)))))
  have f990 := (((((V_b968.other W971 (Ne.symm (Nat.ne_of_lt (Nat.lt_of_lt_of_le Fw967.lt (Nat.le_of_eq g968.symm))))).ext E972).other W975 (Ne.symm (Nat.ne_of_lt (Nat.lt_of_lt_of_le Fw967.lt (Nat.le_of_eq g968.symm))))).ext E976).other W979 (Ne.symm (Nat.ne_of_lt (Nat.lt_of_lt_of_le Fw967.lt (Nat.le_of_eq g968.symm)))))
  have f991 := (((V_b972.other W975 (Ne.symm (Nat.ne_of_lt (Nat.lt_of_lt_of_le Fw971.lt (Nat.le_of_eq g972.symm))))).ext E976).other W979 (Ne.symm (Nat.ne_of_lt (Nat.lt_of_lt_of_le Fw971.lt (Nat.le_of_eq g972.symm)))))
  have f992 := (V_b976.other W979 (Ne.symm (Nat.ne_of_lt (Nat.lt_of_lt_of_le Fw975.lt (Nat.le_of_eq g976.symm)))))
  exact Run.retV X979 hx hret hlk (hb hby d1_44) (by first | (rw [e979]; exact ⟨b960, b964, b968, b972, b976, k960, k964, k968, k972, k976, rfl, N979, K979, sz_b960, sz_b964, sz_b968, sz_b972, sz_b976, ⟨(Nat.ne_of_lt (Nat.lt_of_lt_of_le E_tb.lt (Nat.le_of_eq g960.symm))), (Nat.ne_of_lt (Nat.lt_of_lt_of_le Fw963.lt (Nat.le_of_eq g964.symm))), (Nat.ne_of_lt (Nat.lt_of_lt_of_le Fw967.lt (Nat.le_of_eq g968.symm))), (Nat.ne_of_lt (Nat.lt_of_lt_of_le Fw971.lt (Nat.le_of_eq g972.symm))), (Nat.ne_of_lt (Nat.lt_of_lt_of_le Fw975.lt (Nat.le_of_eq g976.symm))), (Nat.ne_of_lt (Nat.lt_of_lt_of_le (V_b960.other W963 (Ne.symm (Nat.ne_of_lt (Nat.lt_of_lt_of_le E_tb.lt (Nat.le_of_eq g960.symm))))).lt (Nat.le_of_eq g964.symm))), (Nat.ne_of_lt (Nat.lt_of_lt_of_le (((V_b960.other W963 (Ne.symm (Nat.ne_of_lt (Nat.lt_of_lt_of_le E_tb.lt (Nat.le_of_eq g960.symm))))).ext E964).other W967 (Ne.symm (Nat.ne_of_lt (Nat.lt_of_lt_of_le E_tb.lt (Nat.le_of_eq g960.symm))))).lt (Nat.le_of_eq g968.symm))), (Nat.ne_of_lt (Nat.lt_of_lt_of_le (((((V_b960.other W963 (Ne.symm (Nat.ne_of_lt (Nat.lt_of_lt_of_le E_tb.lt (Nat.le_of_eq g960.symm))))).ext E964).other W967 (Ne.symm (Nat.ne_of_lt (Nat.lt_of_lt_of_le E_tb.lt (Nat.le_of_eq g960.symm))))).ext E968).other W971 (Ne.symm (Nat.ne_of_lt (Nat.lt_of_lt_of_le E_tb.lt (Nat.le_of_eq g960.symm))))).lt (Nat.le_of_eq g972.symm))), (Nat.ne_of_lt (Nat.lt_of_lt_of_le (((((((V_b960.other W963 (Ne.symm (Nat.ne_of_lt (Nat.lt_of_lt_of_le E_tb.lt (Nat.le_of_eq g960.symm))))).ext E964).other W967 (Ne.symm (Nat.ne_of_lt (Nat.lt_of_lt_of_le E_tb.lt (Nat.le_of_eq g960.symm))))).ext E968).other W971 (Ne.symm (Nat.ne_of_lt (Nat.lt_of_lt_of_le E_tb.lt (Nat.le_of_eq g960.symm))))).ext E972).other W975 (Ne.symm (Nat.ne_of_lt (Nat.lt_of_lt_of_le E_tb.lt (Nat.le_of_eq g960.symm))))).lt (Nat.le_of_eq g976.symm))), (Nat.ne_of_lt (Nat.lt_of_lt_of_le (V_b964.other W967 (Ne.symm (Nat.ne_of_lt (Nat.lt_of_lt_of_le Fw963.lt (Nat.le_of_eq g964.symm))))).lt (Nat.le_of_eq g968.symm))), (Nat.ne_of_lt (Nat.lt_of_lt_of_le (((V_b964.other W967 (Ne.symm (Nat.ne_of_lt (Nat.lt_of_lt_of_le Fw963.lt (Nat.le_of_eq g964.symm))))).ext E968).other W971 (Ne.symm (Nat.ne_of_lt (Nat.lt_of_lt_of_le Fw963.lt (Nat.le_of_eq g964.symm))))).lt (Nat.le_of_eq g972.symm))), (Nat.ne_of_lt (Nat.lt_of_lt_of_le (((((V_b964.other W967 (Ne.symm (Nat.ne_of_lt (Nat.lt_of_lt_of_le Fw963.lt (Nat.le_of_eq g964.symm))))).ext E968).other W971 (Ne.symm (Nat.ne_of_lt (Nat.lt_of_lt_of_le Fw963.lt (Nat.le_of_eq g964.symm))))).ext E972).other W975 (Ne.symm (Nat.ne_of_lt (Nat.lt_of_lt_of_le Fw963.lt (Nat.le_of_eq g964.symm))))).lt (Nat.le_of_eq g976.symm))), (Nat.ne_of_lt (Nat.lt_of_lt_of_le (V_b968.other W971 (Ne.symm (Nat.ne_of_lt (Nat.lt_of_lt_of_le Fw967.lt (Nat.le_of_eq g968.symm))))).lt (Nat.le_of_eq g972.symm))), (Nat.ne_of_lt (Nat.lt_of_lt_of_le (((V_b968.other W971 (Ne.symm (Nat.ne_of_lt (Nat.lt_of_lt_of_le Fw967.lt (Nat.le_of_eq g968.symm))))).ext E972).other W975 (Ne.symm (Nat.ne_of_lt (Nat.lt_of_lt_of_le Fw967.lt (Nat.le_of_eq g968.symm))))).lt (Nat.le_of_eq g976.symm))), (Nat.ne_of_lt (Nat.lt_of_lt_of_le (V_b972.other W975 (Ne.symm (Nat.ne_of_lt (Nat.lt_of_lt_of_le Fw971.lt (Nat.le_of_eq g972.symm))))).lt (Nat.le_of_eq g976.symm)))⟩, ⟨f980, f981, f982, f983, f984, Fw979, f985, f986, f987, f988, f989, f990, f991, f992⟩⟩) | exact ⟨b960, b964, b968, b972, b976, k960, k964, k968, k972, k976, rfl, N979, K979, sz_b960, sz_b964, sz_b968, sz_b972, sz_b976, ⟨(Nat.ne_of_lt (Nat.lt_of_lt_of_le E_tb.lt (Nat.le_of_eq g960.symm))), (Nat.ne_of_lt (Nat.lt_of_lt_of_le Fw963.lt (Nat.le_of_eq g964.symm))), (Nat.ne_of_lt (Nat.lt_of_lt_of_le Fw967.lt (Nat.le_of_eq g968.symm))), (Nat.ne_of_lt (Nat.lt_of_lt_of_le Fw971.lt (Nat.le_of_eq g972.symm))), (Nat.ne_of_lt (Nat.lt_of_lt_of_le Fw975.lt (Nat.le_of_eq g976.symm))), (Nat.ne_of_lt (Nat.lt_of_lt_of_le (V_b960.other W963 (Ne.symm (Nat.ne_of_lt (Nat.lt_of_lt_of_le E_tb.lt (Nat.le_of_eq g960.symm))))).lt (Nat.le_of_eq g964.symm))), (Nat.ne_of_lt (Nat.lt_of_lt_of_le (((V_b960.other W963 (Ne.symm (Nat.ne_of_lt (Nat.lt_of_lt_of_le E_tb.lt (Nat.le_of_eq g960.symm))))).ext E964).other W967 (Ne.symm (Nat.ne_of_lt (Nat.lt_of_lt_of_le E_tb.lt (Nat.le_of_eq g960.symm))))).lt (Nat.le_of_eq g968.symm))), (Nat.ne_of_lt (Nat.lt_of_lt_of_le (((((V_b960.other W963 (Ne.symm (Nat.ne_of_lt (Nat.lt_of_lt_of_le E_tb.lt (Nat.le_of_eq g960.symm))))).ext E964).other W967 (Ne.symm (Nat.ne_of_lt (Nat.lt_of_lt_of_le E_tb.lt (Nat.le_of_eq g960.symm))))).ext E968).other W971 (Ne.symm (Nat.ne_of_lt (Nat.lt_of_lt_of_le E_tb.lt (Nat.le_of_eq g960.symm))))).lt (Nat.le_of_eq g972.symm))), (Nat.ne_of_lt (Nat.lt_of_lt_of_le (((((((V_b960.other W963 (Ne.symm (Nat.ne_of_lt (Nat.lt_of_lt_of_le E_tb.lt (Nat.le_of_eq g960.symm))))).ext E964).other W967 (Ne.symm (Nat.ne_of_lt (Nat.lt_of_lt_of_le E_tb.lt (Nat.le_of_eq g960.symm))))).ext E968).other W971 (Ne.symm (Nat.ne_of_lt (Nat.lt_of_lt_of_le E_tb.lt (Nat.le_of_eq g960.symm))))).ext E972).other W975 (Ne.symm (Nat.ne_of_lt (Nat.lt_of_lt_of_le E_tb.lt (Nat.le_of_eq g960.symm))))).lt (Nat.le_of_eq g976.symm))), (Nat.ne_of_lt (Nat.lt_of_lt_of_le (V_b964.other W967 (Ne.symm (Nat.ne_of_lt (Nat.lt_of_lt_of_le Fw963.lt (Nat.le_of_eq g964.symm))))).lt (Nat.le_of_eq g968.symm))), (Nat.ne_of_lt (Nat.lt_of_lt_of_le (((V_b964.other W967 (Ne.symm (Nat.ne_of_lt (Nat.lt_of_lt_of_le Fw963.lt (Nat.le_of_eq g964.symm))))).ext E968).other W971 (Ne.symm (Nat.ne_of_lt (Nat.lt_of_lt_of_le Fw963.lt (Nat.le_of_eq g964.symm))))).lt (Nat.le_of_eq g972.symm))), (Nat.ne_of_lt (Nat.lt_of_lt_of_le (((((V_b964.other W967 (Ne.symm (Nat.ne_of_lt (Nat.lt_of_lt_of_le Fw963.lt (Nat.le_of_eq g964.symm))))).ext E968).other W971 (Ne.symm (Nat.ne_of_lt (Nat.lt_of_lt_of_le Fw963.lt (Nat.le_of_eq g964.symm))))).ext E972).other W975 (Ne.symm (Nat.ne_of_lt (Nat.lt_of_lt_of_le Fw963.lt (Nat.le_of_eq g964.symm))))).lt (Nat.le_of_eq g976.symm))), (Nat.ne_of_lt (Nat.lt_of_lt_of_le (V_b968.other W971 (Ne.symm (Nat.ne_of_lt (Nat.lt_of_lt_of_le Fw967.lt (Nat.le_of_eq g968.symm))))).lt (Nat.le_of_eq g972.symm))), (Nat.ne_of_lt (Nat.lt_of_lt_of_le (((V_b968.other W971 (Ne.symm (Nat.ne_of_lt (Nat.lt_of_lt_of_le Fw967.lt (Nat.le_of_eq g968.symm))))).ext E972).other W975 (Ne.symm (Nat.ne_of_lt (Nat.lt_of_lt_of_le Fw967.lt (Nat.le_of_eq g968.symm))))).lt (Nat.le_of_eq g976.symm))), (Nat.ne_of_lt (Nat.lt_of_lt_of_le (V_b972.other W975 (Ne.symm (Nat.ne_of_lt (Nat.lt_of_lt_of_le Fw971.lt (Nat.le_of_eq g972.symm))))).lt (Nat.le_of_eq g976.symm)))⟩, ⟨f980, f981, f982, f983, f984, Fw979, f985, f986, f987, f988, f989, f990, f991, f992⟩⟩) (by decide) (by decide)
def own_I (vA vB : Int32) (ka kb x : Int64) : Prop := (¬ vA = 0 ∧ x = ka) ∨ (¬ vB = 0 ∧ x = kb)
def own_G (vR : Int32) (tt x : Int64) : Prop := ¬ vR = 0 ∧ x = tt
def own_C (vC : Int32) (kc x : Int64) : Prop := ¬ vC = 0 ∧ x = kc
def own_A5 (vA vB vC vR vL : Int32) (ka kb kc tt : Int64) (x : Int64) : Prop := ((own_I vA vB ka kb x ∧ ¬ (vL = 0 ∧ own_G vR tt x)) ∨ own_C vC kc x) ∧ ¬ (¬ vL = 0 ∧ own_G vR tt x)
theorem own_A5m (vA vB vC vR vL : Int32) (ka kb kc tt : Int64) : ∀ x, own_A5 vA vB vC vR vL ka kb kc tt x → x = ka ∨ x = kb ∨ x = kc := by
  intro x h; unfold own_A5 own_I own_C at h; grind
theorem own_low3 {S A : Int64 → Prop} {ka kb kc ot y : Int64} (hS : ∀ x, S x ↔ A x) (hA : ∀ x, A x → x = ka ∨ x = kb ∨ x = kc) (hy : ((∀ x, ¬ S x) ∧ y = ot) ∨ (S y ∧ ∀ x, S x → ¬ x < y)) (z : Int64) (hz : (¬ A ka ∧ ¬ A kb ∧ ¬ A kc ∧ z = ot) ∨ (A z ∧ (A ka → ¬ ka < z) ∧ (A kb → ¬ kb < z) ∧ (A kc → ¬ kc < z))) : y = z := by
  rcases hy with ⟨h1, rfl⟩ | ⟨h1, h2⟩
  · rcases hz with ⟨-, -, -, rfl⟩ | ⟨q, -⟩
    · rfl
    · exact absurd ((hS z).mpr q) (h1 z)
  · have h3 := (hS y).mp h1
    have h4 := hA y h3
    rcases hz with ⟨q1, q2, q3, -⟩ | ⟨q, q1, q2, q3⟩
    · rcases h4 with rfl | rfl | rfl
      · exact absurd h3 q1
      · exact absurd h3 q2
      · exact absurd h3 q3
    · have h5 := h2 z ((hS z).mpr q)
      have h6 : ¬ y < z := by
        rcases h4 with rfl | rfl | rfl
        · exact q1 h3
        · exact q2 h3
        · exact q3 h3
      rw [Int64.lt_iff_toInt_lt] at h5 h6
      exact Int64.toInt_inj.mp (by omega)
def own_nz (z : Int32) : Int32 := if z = 0 then 0 else 1
def own_tt (r : Int32) (x y z : Int64) : Int64 := if r = 1 then x else if r = 2 then y else z
def own_F : Int64 → Prop := fun _ => False
theorem own_Rd {p0 p1 p2 : Int64} {b0 b1 b2 fi en si : Int32} {S : Int64 → Prop} (h : own_R p0 p1 p2 b0 b1 b2 fi en si S) (hen : en = 0 ∨ en = 1 ∨ en = 2) : (fi = 0 ∧ en = 0 ∧ si = 0 ∧ b0 = 0 ∧ b1 = 0 ∧ b2 = 0 ∧ ∀ x, S x ↔ (False)) ∨ (fi = 0 ∧ en = 1 ∧ si = 1 ∧ b0 = 1 ∧ b1 = 0 ∧ b2 = 0 ∧ ∀ x, S x ↔ (x = p0)) ∨ (fi = 1 ∧ en = 1 ∧ si = 0 ∧ b0 = 0 ∧ b1 = 0 ∧ b2 = 0 ∧ ∀ x, S x ↔ (False)) ∨ (fi = 0 ∧ en = 2 ∧ si = 2 ∧ b0 = 1 ∧ b1 = 1 ∧ b2 = 0 ∧ p0 < p1 ∧ ∀ x, S x ↔ (x = p0 ∨ x = p1)) ∨ (fi = 1 ∧ en = 2 ∧ si = 1 ∧ b0 = 0 ∧ b1 = 1 ∧ b2 = 0 ∧ ∀ x, S x ↔ (x = p1)) ∨ (fi = 0 ∧ en = 2 ∧ si = 1 ∧ b0 = 1 ∧ b1 = 0 ∧ b2 = 0 ∧ p0 < p1 ∧ ∀ x, S x ↔ (x = p0)) := by
  rcases h with h | h | h | h | h | h | h | h | h | h
  · exact Or.inl h
  · exact Or.inr (Or.inl h)
  · exact Or.inr (Or.inr (Or.inl h))
  · exact Or.inr (Or.inr (Or.inr (Or.inl h)))
  · exact Or.inr (Or.inr (Or.inr (Or.inr (Or.inl h))))
  · exact Or.inr (Or.inr (Or.inr (Or.inr (Or.inr (h)))))
  · rw [h.2.1] at hen; exact absurd hen (by decide)
  · rw [h.2.1] at hen; exact absurd hen (by decide)
  · rw [h.2.1] at hen; exact absurd hen (by decide)
  · rw [h.2.1] at hen; exact absurd hen (by decide)
theorem own_Ro {p0 p1 p2 : Int64} {b0 b1 b2 fi en si : Int32} {S : Int64 → Prop} (h : own_R p0 p1 p2 b0 b1 b2 fi en si S) (ha : own_all b0 b1 b2 fi en) : (fi = 0 ∧ en = 0 ∧ si = 0 ∧ b0 = 0 ∧ b1 = 0 ∧ b2 = 0 ∧ ∀ x, S x ↔ (False)) ∨ (fi = 0 ∧ en = 1 ∧ si = 1 ∧ b0 = 1 ∧ b1 = 0 ∧ b2 = 0 ∧ ∀ x, S x ↔ (x = p0)) ∨ (fi = 0 ∧ en = 2 ∧ si = 2 ∧ b0 = 1 ∧ b1 = 1 ∧ b2 = 0 ∧ p0 < p1 ∧ ∀ x, S x ↔ (x = p0 ∨ x = p1)) ∨ (fi = 0 ∧ en = 3 ∧ si = 3 ∧ b0 = 1 ∧ b1 = 1 ∧ b2 = 1 ∧ p0 < p1 ∧ p1 < p2 ∧ ∀ x, S x ↔ (x = p0 ∨ x = p1 ∨ x = p2)) := by
  rcases h with h | h | h | h | h | h | h | h | h | h
  · exact Or.inl h
  · exact Or.inr (Or.inl h)
  · obtain ⟨h1, h2, h3, h4, h5, h6, -⟩ := h; rw [h1, h2, h4, h5, h6] at ha; exact absurd ha (by decide)
  · exact Or.inr (Or.inr (Or.inl h))
  · obtain ⟨h1, h2, h3, h4, h5, h6, -⟩ := h; rw [h1, h2, h4, h5, h6] at ha; exact absurd ha (by decide)
  · obtain ⟨h1, h2, h3, h4, h5, h6, -⟩ := h; rw [h1, h2, h4, h5, h6] at ha; exact absurd ha (by decide)
  · exact Or.inr (Or.inr (Or.inr (h)))
  · obtain ⟨h1, h2, h3, h4, h5, h6, -⟩ := h; rw [h1, h2, h4, h5, h6] at ha; exact absurd ha (by decide)
  · obtain ⟨h1, h2, h3, h4, h5, h6, -⟩ := h; rw [h1, h2, h4, h5, h6] at ha; exact absurd ha (by decide)
  · obtain ⟨h1, h2, h3, h4, h5, h6, -⟩ := h; rw [h1, h2, h4, h5, h6] at ha; exact absurd ha (by decide)
theorem d11_47 : decode method_4_code 47 = .ok (.istore 16, 2) := by decide +kernel
theorem d11_49 : decode method_4_code 49 = .ok (.iload 12, 2) := by decide +kernel
theorem d11_51 : decode method_4_code 51 = .ok (.ifCond .eq 31, 3) := by decide +kernel
theorem d11_82 : decode method_4_code 82 = .ok (.iload 15, 2) := by decide +kernel
theorem d11_84 : decode method_4_code 84 = .ok (.ifCond .eq 8, 3) := by decide +kernel
theorem d11_87 : decode method_4_code 87 = .ok (.iload 16, 2) := by decide +kernel
theorem d11_89 : decode method_4_code 89 = .ok (.ifCond .eq 15, 3) := by decide +kernel
theorem d11_92 : decode method_4_code 92 = .ok (.iload 10, 2) := by decide +kernel
theorem d11_94 : decode method_4_code 94 = .ok (.ifCond .eq 14, 3) := by decide +kernel
theorem d11_108 : decode method_4_code 108 = .ok (.iconst 0, 1) := by decide +kernel
theorem d11_109 : decode method_4_code 109 = .ok (.ireturn, 1) := by decide +kernel
theorem d11_97 : decode method_4_code 97 = .ok (.lload_n 0, 1) := by decide +kernel
theorem d11_98 : decode method_4_code 98 = .ok (.lload 6, 2) := by decide +kernel
theorem d11_100 : decode method_4_code 100 = .ok (.lcmp, 1) := by decide +kernel
theorem d11_101 : decode method_4_code 101 = .ok (.ifCond .ne 7, 3) := by decide +kernel
theorem d11_104 : decode method_4_code 104 = .ok (.iconst 1, 1) := by decide +kernel
theorem d11_105 : decode method_4_code 105 = .ok (.goto 4, 3) := by decide +kernel
theorem d11_54 : decode method_4_code 54 = .ok (.iload 15, 2) := by decide +kernel
theorem d11_56 : decode method_4_code 56 = .ok (.ifCond .ne 15, 3) := by decide +kernel
theorem d11_71 : decode method_4_code 71 = .ok (.iload 16, 2) := by decide +kernel
theorem d11_73 : decode method_4_code 73 = .ok (.ifCond .ne 7, 3) := by decide +kernel
theorem d11_80 : decode method_4_code 80 = .ok (.iconst 0, 1) := by decide +kernel
theorem d11_81 : decode method_4_code 81 = .ok (.ireturn, 1) := by decide +kernel
theorem d11_76 : decode method_4_code 76 = .ok (.iconst 1, 1) := by decide +kernel
theorem d11_77 : decode method_4_code 77 = .ok (.goto 4, 3) := by decide +kernel
theorem d11_59 : decode method_4_code 59 = .ok (.iload 10, 2) := by decide +kernel
theorem d11_61 : decode method_4_code 61 = .ok (.ifCond .eq 19, 3) := by decide +kernel
theorem d11_64 : decode method_4_code 64 = .ok (.lload_n 0, 1) := by decide +kernel
theorem d11_65 : decode method_4_code 65 = .ok (.lload 6, 2) := by decide +kernel
theorem d11_67 : decode method_4_code 67 = .ok (.lcmp, 1) := by decide +kernel
theorem d11_68 : decode method_4_code 68 = .ok (.ifCond .ne 12, 3) := by decide +kernel
theorem d11_28 : decode method_4_code 28 = .ok (.istore 15, 2) := by decide +kernel
theorem d11_30 : decode method_4_code 30 = .ok (.iload 11, 2) := by decide +kernel
theorem d11_32 : decode method_4_code 32 = .ok (.ifCond .eq 14, 3) := by decide +kernel
theorem d11_46 : decode method_4_code 46 = .ok (.iconst 0, 1) := by decide +kernel
theorem d11_35 : decode method_4_code 35 = .ok (.lload_n 0, 1) := by decide +kernel
theorem d11_36 : decode method_4_code 36 = .ok (.lload 13, 2) := by decide +kernel
theorem d11_38 : decode method_4_code 38 = .ok (.lcmp, 1) := by decide +kernel
theorem d11_39 : decode method_4_code 39 = .ok (.ifCond .ne 7, 3) := by decide +kernel
theorem d11_42 : decode method_4_code 42 = .ok (.iconst 1, 1) := by decide +kernel
theorem d11_43 : decode method_4_code 43 = .ok (.goto 4, 3) := by decide +kernel
theorem d11_0 : decode method_4_code 0 = .ok (.iload 8, 2) := by decide +kernel
theorem d11_2 : decode method_4_code 2 = .ok (.ifCond .eq 9, 3) := by decide +kernel
theorem d11_11 : decode method_4_code 11 = .ok (.iload 9, 2) := by decide +kernel
theorem d11_13 : decode method_4_code 13 = .ok (.ifCond .eq 14, 3) := by decide +kernel
theorem d11_27 : decode method_4_code 27 = .ok (.iconst 0, 1) := by decide +kernel
theorem d11_16 : decode method_4_code 16 = .ok (.lload_n 0, 1) := by decide +kernel
theorem d11_17 : decode method_4_code 17 = .ok (.lload 4, 2) := by decide +kernel
theorem d11_19 : decode method_4_code 19 = .ok (.lcmp, 1) := by decide +kernel
theorem d11_20 : decode method_4_code 20 = .ok (.ifCond .ne 7, 3) := by decide +kernel
theorem d11_23 : decode method_4_code 23 = .ok (.iconst 1, 1) := by decide +kernel
theorem d11_24 : decode method_4_code 24 = .ok (.goto 4, 3) := by decide +kernel
theorem d11_5 : decode method_4_code 5 = .ok (.lload_n 0, 1) := by decide +kernel
theorem d11_6 : decode method_4_code 6 = .ok (.lload_n 2, 1) := by decide +kernel
theorem d11_7 : decode method_4_code 7 = .ok (.lcmp, 1) := by decide +kernel
theorem d11_8 : decode method_4_code 8 = .ok (.ifCond .eq 15, 3) := by decide +kernel
theorem pn_11 : plainName "com/example/manana/manana/storage/WaitingTableLowestPinLaw" = true := by first | (simp [plainName, overriddenIn]; done) | decide +kernel
set_option maxRecDepth 65536 in
set_option maxHeartbeats 40000000 in
theorem rmMem (l : Launch) (Z : State) (a0 : Array Value) (hw : ∀ d ∈ tables_1, d.before a0 Z = true) (xx : Int64) (ka : Int64) (kb : Int64) (kc : Int64) (vA : Int32) (vB : Int32) (vC : Int32) (vR : Int32) (vL : Int32) (tt : Int64) (h0 : Heap) (n0 : Nat) (Z0 : n0 ≤ h0.size) :
    Con l (⟨"com/example/manana/manana/storage/WaitingTableLowestPinLaw", "member", "(JJJJZZZZZJ)Z"⟩ : MethodName) method_4_code 17 (some .boolean) ({ frames := 0, cells := 0, slots := 0, locals := 0 } : Room) Z #[(.long xx), (.long ka), (.long kb), (.long kc), (.int vA), (.int vB), (.int vC), (.int vR), (.int vL), (.long tt)] h0 (fun v h L => ∃ r : Int32, v = some (.int r) ∧ Fr n0 L ∧ h = h0 ∧ ((r = 1 ∧ own_A5 vA vB vC vR vL ka kb kc tt xx) ∨ (r = 0 ∧ ¬ own_A5 vA vB vC vR vL ka kb kc tt xx))) := by
  refine Con.mk (plainFor_of_name pn_11) (fun m => show entryFrame m #[(.long xx), (.long ka), (.long kb), (.long kc), (.int vA), (.int vB), (.int vC), (.int vR), (.int vL), (.long tt)] 17 = mkF m 0 #[.val (.long xx), .second, .val (.long ka), .second, .val (.long kb), .second, .val (.long kc), .second, .val (.int vA), .val (.int vB), .val (.int vC), .val (.int vR), .val (.int vL), .val (.long tt), .second, .unset, .unset] [] by first | (simp [entryFrame, mkF, argsToLocals, Value.category]; done) | rfl) ?_
  intro p e s m below meth c s₁ hx hby hml hown hnm hret hlk hZ X0 e0
  have N0 := Fr.nil n0
  show Run p e below s _ _ _ (s₁.setTop (mkF m 0 #[.val (.long xx), .second, .val (.long ka), .second, .val (.long kb), .second, .val (.long kc), .second, .val (.int vA), .val (.int vB), .val (.int vC), .val (.int vR), .val (.int vL), .val (.long tt), .second, .unset, .unset] []))
  have GB : ∀ (iv : Int32) (gv : Int32) (TGB : State) (LcGB : List Loc) (hGB : Heap), (Stand p l e ({ frames := 0, cells := 0, slots := 0, locals := 0 } : Room) s m #[(.long xx), (.long ka), (.long kb), (.long kc), (.int vA), (.int vB), (.int vC), (.int vR), (.int vL), (.long tt)] below meth c TGB LcGB 0 0) → (TGB.heap = hGB) → (Fr n0 LcGB) → (Keep h0 hGB []) → ((iv = 1 ∧ own_I vA vB ka kb xx) ∨ (iv = 0 ∧ ¬ own_I vA vB ka kb xx)) → ((gv = 1 ∧ own_G vR tt xx) ∨ (gv = 0 ∧ ¬ own_G vR tt xx)) → (hGB = h0) → Run p e below s (fun v h L => ∃ r : Int32, v = some (.int r) ∧ Fr n0 L ∧ h = h0 ∧ ((r = 1 ∧ own_A5 vA vB vC vR vL ka kb kc tt xx) ∨ (r = 0 ∧ ¬ own_A5 vA vB vC vR vL ka kb kc tt xx))) ({ frames := 0, cells := 0, slots := 0, locals := 0 } : Room).cells ({ frames := 0, cells := 0, slots := 0, locals := 0 } : Room).slots (TGB.setTop (mkF m 47 #[.val (.long xx), .second, .val (.long ka), .second, .val (.long kb), .second, .val (.long kc), .second, .val (.int vA), .val (.int vB), .val (.int vC), .val (.int vR), .val (.int vL), .val (.long tt), .second, .val (.int iv), .unset] [(.int gv)])) := by
    intro iv gv TGB LcGB hGB XGB eGB NGB KGB hi hg hhGB
    show Run p e below s _ _ _ (TGB.setTop (mkF m 47 #[.val (.long xx), .second, .val (.long ka), .second, .val (.long kb), .second, .val (.long kc), .second, .val (.int vA), .val (.int vB), .val (.int vC), .val (.int vR), .val (.int vL), .val (.long tt), .second, .val (.int iv), .unset] [(.int gv)]))
    refine Run.pre (fun _ k => XS.istore XGB.here hx rfl (hb hby d11_47) rfl (l' := #[.val (.long xx), .second, .val (.long ka), .second, .val (.long kb), .second, .val (.long kc), .second, .val (.int vA), .val (.int vB), .val (.int vC), .val (.int vR), .val (.int vL), .val (.long tt), .second, .val (.int iv), .val (.int gv)]) rfl k) ?_
    show Run p e below s _ _ _ (TGB.setTop (mkF m 49 #[.val (.long xx), .second, .val (.long ka), .second, .val (.long kb), .second, .val (.long kc), .second, .val (.int vA), .val (.int vB), .val (.int vC), .val (.int vR), .val (.int vL), .val (.long tt), .second, .val (.int iv), .val (.int gv)] []))
    rcases hi with ⟨rfl, hi⟩ | ⟨rfl, hi⟩ <;> rcases hg with ⟨rfl, hg⟩ | ⟨rfl, hg⟩
    · skip
      refine Run.pre (fun _ k => XS.iload XGB.here hx rfl (hb hby d11_49) rfl  k) ?_
      by_cases hc993 : vL = (0 : Int32)
      · skip
        refine Run.pre (fun _ k => XS.ifYes XGB.here hx rfl (pc0 := 51) (pc' := 82) rfl (hb hby d11_51) rfl ((if0 _ _).trans (teq (hc993 : vL = (0 : Int32))).1) (by decide) (by decide) k) ?_
        refine Run.pre (fun _ k => XS.iload XGB.here hx rfl (hb hby d11_82) rfl  k) ?_
        refine Run.pre (fun _ k => XS.ifNo XGB.here hx rfl (hb hby d11_84) rfl ((if0 _ _).trans (feq ((by decide) : ¬ ((1 : Int32) = (0 : Int32)))).1) k) ?_
        refine Run.pre (fun _ k => XS.iload XGB.here hx rfl (hb hby d11_87) rfl  k) ?_
        show Run p e below s _ _ _ (TGB.setTop (mkF m 89 #[.val (.long xx), .second, .val (.long ka), .second, .val (.long kb), .second, .val (.long kc), .second, .val (.int vA), .val (.int vB), .val (.int vC), .val (.int vR), .val (.int vL), .val (.long tt), .second, .val (.int (1 : Int32)), .val (.int (1 : Int32))] [(.int (1 : Int32))]))
        refine Run.pre (fun _ k => XS.ifNo XGB.here hx rfl (hb hby d11_89) rfl ((if0 _ _).trans (feq ((by decide) : ¬ ((1 : Int32) = (0 : Int32)))).1) k) ?_
        refine Run.pre (fun _ k => XS.iload XGB.here hx rfl (hb hby d11_92) rfl  k) ?_
        by_cases hc994 : vC = (0 : Int32)
        · skip
          refine Run.pre (fun _ k => XS.ifYes XGB.here hx rfl (pc0 := 94) (pc' := 108) rfl (hb hby d11_94) rfl ((if0 _ _).trans (teq (hc994 : vC = (0 : Int32))).1) (by decide) (by decide) k) ?_
          refine Run.pre (fun _ k => XS.iconst XGB.here hx rfl (hb hby d11_108) k) ?_
          have hC : ¬ own_C vC kc xx := fun q => q.1 hc994
          exact Run.retN XGB hx hret (t := .boolean) (by simp) hlk (hb hby d11_109) (by first | (rw [eGB]; exact ⟨0, rfl, NGB, hhGB, Or.inr ⟨rfl, by unfold own_A5; have hL := hc993; grind⟩⟩) | exact ⟨0, rfl, NGB, hhGB, Or.inr ⟨rfl, by unfold own_A5; have hL := hc993; grind⟩⟩) (by decide) (by decide)
        · skip
          refine Run.pre (fun _ k => XS.ifNo XGB.here hx rfl (hb hby d11_94) rfl ((if0 _ _).trans (feq (hc994 : ¬ (vC = (0 : Int32)))).1) k) ?_
          refine Run.pre (fun _ k => XS.lloadN XGB.here hx rfl (hb hby d11_97) rfl  k) ?_
          refine Run.pre (fun _ k => XS.lload XGB.here hx rfl (hb hby d11_98) rfl  k) ?_
          refine Run.pre (fun _ k => XS.lcmp XGB.here hx rfl (hb hby d11_100) rfl k) ?_
          show Run p e below s _ _ _ (TGB.setTop (mkF m 101 #[.val (.long xx), .second, .val (.long ka), .second, .val (.long kb), .second, .val (.long kc), .second, .val (.int vA), .val (.int vB), .val (.int vC), .val (.int vR), .val (.int vL), .val (.long tt), .second, .val (.int (1 : Int32)), .val (.int (1 : Int32))] [(.int (lcmpW xx kc))]))
          by_cases hc995 : (lcmpW xx kc) = (0 : Int32)
          · skip
            refine Run.pre (fun _ k => XS.ifNo XGB.here hx rfl (hb hby d11_101) rfl ((if0 _ _).trans (teq (hc995 : (lcmpW xx kc) = (0 : Int32))).2) k) ?_
            refine Run.pre (fun _ k => XS.iconst XGB.here hx rfl (hb hby d11_104) k) ?_
            refine Run.pre (fun _ k => XS.goto XGB.here hx rfl (pc0 := 105) (pc' := 109) rfl (hb hby d11_105) (by decide) (by decide) k) ?_
            have hC : own_C vC kc xx := ⟨hc994, ((lw_eq _ _).mp hc995)⟩
            exact Run.retN XGB hx hret (t := .boolean) (by simp) hlk (hb hby d11_109) (by first | (rw [eGB]; exact ⟨1, rfl, NGB, hhGB, Or.inl ⟨rfl, by unfold own_A5; have hL := hc993; grind⟩⟩) | exact ⟨1, rfl, NGB, hhGB, Or.inl ⟨rfl, by unfold own_A5; have hL := hc993; grind⟩⟩) (by decide) (by decide)
          · skip
            refine Run.pre (fun _ k => XS.ifYes XGB.here hx rfl (pc0 := 101) (pc' := 108) rfl (hb hby d11_101) rfl ((if0 _ _).trans (feq (hc995 : ¬ ((lcmpW xx kc) = (0 : Int32)))).2) (by decide) (by decide) k) ?_
            refine Run.pre (fun _ k => XS.iconst XGB.here hx rfl (hb hby d11_108) k) ?_
            have hC : ¬ own_C vC kc xx := fun q => hc995 ((lw_eq _ _).mpr q.2)
            exact Run.retN XGB hx hret (t := .boolean) (by simp) hlk (hb hby d11_109) (by first | (rw [eGB]; exact ⟨0, rfl, NGB, hhGB, Or.inr ⟨rfl, by unfold own_A5; have hL := hc993; grind⟩⟩) | exact ⟨0, rfl, NGB, hhGB, Or.inr ⟨rfl, by unfold own_A5; have hL := hc993; grind⟩⟩) (by decide) (by decide)
      · skip
        refine Run.pre (fun _ k => XS.ifNo XGB.here hx rfl (hb hby d11_51) rfl ((if0 _ _).trans (feq (hc993 : ¬ (vL = (0 : Int32)))).1) k) ?_
        refine Run.pre (fun _ k => XS.iload XGB.here hx rfl (hb hby d11_54) rfl  k) ?_
        refine Run.pre (fun _ k => XS.ifYes XGB.here hx rfl (pc0 := 56) (pc' := 71) rfl (hb hby d11_56) rfl ((if0 _ _).trans (feq ((by decide) : ¬ ((1 : Int32) = (0 : Int32)))).2) (by decide) (by decide) k) ?_
        refine Run.pre (fun _ k => XS.iload XGB.here hx rfl (hb hby d11_71) rfl  k) ?_
        show Run p e below s _ _ _ (TGB.setTop (mkF m 73 #[.val (.long xx), .second, .val (.long ka), .second, .val (.long kb), .second, .val (.long kc), .second, .val (.int vA), .val (.int vB), .val (.int vC), .val (.int vR), .val (.int vL), .val (.long tt), .second, .val (.int (1 : Int32)), .val (.int (1 : Int32))] [(.int (1 : Int32))]))
        refine Run.pre (fun _ k => XS.ifYes XGB.here hx rfl (pc0 := 73) (pc' := 80) rfl (hb hby d11_73) rfl ((if0 _ _).trans (feq ((by decide) : ¬ ((1 : Int32) = (0 : Int32)))).2) (by decide) (by decide) k) ?_
        refine Run.pre (fun _ k => XS.iconst XGB.here hx rfl (hb hby d11_80) k) ?_
        exact Run.retN XGB hx hret (t := .boolean) (by simp) hlk (hb hby d11_81) (by first | (rw [eGB]; exact ⟨0, rfl, NGB, hhGB, Or.inr ⟨rfl, by unfold own_A5; have hL := hc993; grind⟩⟩) | exact ⟨0, rfl, NGB, hhGB, Or.inr ⟨rfl, by unfold own_A5; have hL := hc993; grind⟩⟩) (by decide) (by decide)
    · skip
      refine Run.pre (fun _ k => XS.iload XGB.here hx rfl (hb hby d11_49) rfl  k) ?_
      by_cases hc996 : vL = (0 : Int32)
      · skip
        refine Run.pre (fun _ k => XS.ifYes XGB.here hx rfl (pc0 := 51) (pc' := 82) rfl (hb hby d11_51) rfl ((if0 _ _).trans (teq (hc996 : vL = (0 : Int32))).1) (by decide) (by decide) k) ?_
        refine Run.pre (fun _ k => XS.iload XGB.here hx rfl (hb hby d11_82) rfl  k) ?_
        refine Run.pre (fun _ k => XS.ifNo XGB.here hx rfl (hb hby d11_84) rfl ((if0 _ _).trans (feq ((by decide) : ¬ ((1 : Int32) = (0 : Int32)))).1) k) ?_
        refine Run.pre (fun _ k => XS.iload XGB.here hx rfl (hb hby d11_87) rfl  k) ?_
        show Run p e below s _ _ _ (TGB.setTop (mkF m 89 #[.val (.long xx), .second, .val (.long ka), .second, .val (.long kb), .second, .val (.long kc), .second, .val (.int vA), .val (.int vB), .val (.int vC), .val (.int vR), .val (.int vL), .val (.long tt), .second, .val (.int (1 : Int32)), .val (.int (0 : Int32))] [(.int (0 : Int32))]))
        refine Run.pre (fun _ k => XS.ifYes XGB.here hx rfl (pc0 := 89) (pc' := 104) rfl (hb hby d11_89) rfl ((if0 _ _).trans (teq ((by decide) : (0 : Int32) = (0 : Int32))).1) (by decide) (by decide) k) ?_
        refine Run.pre (fun _ k => XS.iconst XGB.here hx rfl (hb hby d11_104) k) ?_
        refine Run.pre (fun _ k => XS.goto XGB.here hx rfl (pc0 := 105) (pc' := 109) rfl (hb hby d11_105) (by decide) (by decide) k) ?_
        exact Run.retN XGB hx hret (t := .boolean) (by simp) hlk (hb hby d11_109) (by first | (rw [eGB]; exact ⟨1, rfl, NGB, hhGB, Or.inl ⟨rfl, by unfold own_A5; have hL := hc996; grind⟩⟩) | exact ⟨1, rfl, NGB, hhGB, Or.inl ⟨rfl, by unfold own_A5; have hL := hc996; grind⟩⟩) (by decide) (by decide)
      · skip
        refine Run.pre (fun _ k => XS.ifNo XGB.here hx rfl (hb hby d11_51) rfl ((if0 _ _).trans (feq (hc996 : ¬ (vL = (0 : Int32)))).1) k) ?_
        refine Run.pre (fun _ k => XS.iload XGB.here hx rfl (hb hby d11_54) rfl  k) ?_
        refine Run.pre (fun _ k => XS.ifYes XGB.here hx rfl (pc0 := 56) (pc' := 71) rfl (hb hby d11_56) rfl ((if0 _ _).trans (feq ((by decide) : ¬ ((1 : Int32) = (0 : Int32)))).2) (by decide) (by decide) k) ?_
        refine Run.pre (fun _ k => XS.iload XGB.here hx rfl (hb hby d11_71) rfl  k) ?_
        show Run p e below s _ _ _ (TGB.setTop (mkF m 73 #[.val (.long xx), .second, .val (.long ka), .second, .val (.long kb), .second, .val (.long kc), .second, .val (.int vA), .val (.int vB), .val (.int vC), .val (.int vR), .val (.int vL), .val (.long tt), .second, .val (.int (1 : Int32)), .val (.int (0 : Int32))] [(.int (0 : Int32))]))
        refine Run.pre (fun _ k => XS.ifNo XGB.here hx rfl (hb hby d11_73) rfl ((if0 _ _).trans (teq ((by decide) : (0 : Int32) = (0 : Int32))).2) k) ?_
        refine Run.pre (fun _ k => XS.iconst XGB.here hx rfl (hb hby d11_76) k) ?_
        refine Run.pre (fun _ k => XS.goto XGB.here hx rfl (pc0 := 77) (pc' := 81) rfl (hb hby d11_77) (by decide) (by decide) k) ?_
        exact Run.retN XGB hx hret (t := .boolean) (by simp) hlk (hb hby d11_81) (by first | (rw [eGB]; exact ⟨1, rfl, NGB, hhGB, Or.inl ⟨rfl, by unfold own_A5; have hL := hc996; grind⟩⟩) | exact ⟨1, rfl, NGB, hhGB, Or.inl ⟨rfl, by unfold own_A5; have hL := hc996; grind⟩⟩) (by decide) (by decide)
    · skip
      refine Run.pre (fun _ k => XS.iload XGB.here hx rfl (hb hby d11_49) rfl  k) ?_
      by_cases hc997 : vL = (0 : Int32)
      · skip
        refine Run.pre (fun _ k => XS.ifYes XGB.here hx rfl (pc0 := 51) (pc' := 82) rfl (hb hby d11_51) rfl ((if0 _ _).trans (teq (hc997 : vL = (0 : Int32))).1) (by decide) (by decide) k) ?_
        refine Run.pre (fun _ k => XS.iload XGB.here hx rfl (hb hby d11_82) rfl  k) ?_
        refine Run.pre (fun _ k => XS.ifYes XGB.here hx rfl (pc0 := 84) (pc' := 92) rfl (hb hby d11_84) rfl ((if0 _ _).trans (teq ((by decide) : (0 : Int32) = (0 : Int32))).1) (by decide) (by decide) k) ?_
        refine Run.pre (fun _ k => XS.iload XGB.here hx rfl (hb hby d11_92) rfl  k) ?_
        show Run p e below s _ _ _ (TGB.setTop (mkF m 94 #[.val (.long xx), .second, .val (.long ka), .second, .val (.long kb), .second, .val (.long kc), .second, .val (.int vA), .val (.int vB), .val (.int vC), .val (.int vR), .val (.int vL), .val (.long tt), .second, .val (.int (0 : Int32)), .val (.int (1 : Int32))] [(.int vC)]))
        by_cases hc998 : vC = (0 : Int32)
        · skip
          refine Run.pre (fun _ k => XS.ifYes XGB.here hx rfl (pc0 := 94) (pc' := 108) rfl (hb hby d11_94) rfl ((if0 _ _).trans (teq (hc998 : vC = (0 : Int32))).1) (by decide) (by decide) k) ?_
          refine Run.pre (fun _ k => XS.iconst XGB.here hx rfl (hb hby d11_108) k) ?_
          have hC : ¬ own_C vC kc xx := fun q => q.1 hc998
          exact Run.retN XGB hx hret (t := .boolean) (by simp) hlk (hb hby d11_109) (by first | (rw [eGB]; exact ⟨0, rfl, NGB, hhGB, Or.inr ⟨rfl, by unfold own_A5; have hL := hc997; grind⟩⟩) | exact ⟨0, rfl, NGB, hhGB, Or.inr ⟨rfl, by unfold own_A5; have hL := hc997; grind⟩⟩) (by decide) (by decide)
        · skip
          refine Run.pre (fun _ k => XS.ifNo XGB.here hx rfl (hb hby d11_94) rfl ((if0 _ _).trans (feq (hc998 : ¬ (vC = (0 : Int32)))).1) k) ?_
          refine Run.pre (fun _ k => XS.lloadN XGB.here hx rfl (hb hby d11_97) rfl  k) ?_
          refine Run.pre (fun _ k => XS.lload XGB.here hx rfl (hb hby d11_98) rfl  k) ?_
          refine Run.pre (fun _ k => XS.lcmp XGB.here hx rfl (hb hby d11_100) rfl k) ?_
          by_cases hc999 : (lcmpW xx kc) = (0 : Int32)
          · skip
            refine Run.pre (fun _ k => XS.ifNo XGB.here hx rfl (hb hby d11_101) rfl ((if0 _ _).trans (teq (hc999 : (lcmpW xx kc) = (0 : Int32))).2) k) ?_
            refine Run.pre (fun _ k => XS.iconst XGB.here hx rfl (hb hby d11_104) k) ?_
            show Run p e below s _ _ _ (TGB.setTop (mkF m 105 #[.val (.long xx), .second, .val (.long ka), .second, .val (.long kb), .second, .val (.long kc), .second, .val (.int vA), .val (.int vB), .val (.int vC), .val (.int vR), .val (.int vL), .val (.long tt), .second, .val (.int (0 : Int32)), .val (.int (1 : Int32))] [(.int (1 : Int32))]))
            refine Run.pre (fun _ k => XS.goto XGB.here hx rfl (pc0 := 105) (pc' := 109) rfl (hb hby d11_105) (by decide) (by decide) k) ?_
            have hC : own_C vC kc xx := ⟨hc998, ((lw_eq _ _).mp hc999)⟩
            exact Run.retN XGB hx hret (t := .boolean) (by simp) hlk (hb hby d11_109) (by first | (rw [eGB]; exact ⟨1, rfl, NGB, hhGB, Or.inl ⟨rfl, by unfold own_A5; have hL := hc997; grind⟩⟩) | exact ⟨1, rfl, NGB, hhGB, Or.inl ⟨rfl, by unfold own_A5; have hL := hc997; grind⟩⟩) (by decide) (by decide)
          · skip
            refine Run.pre (fun _ k => XS.ifYes XGB.here hx rfl (pc0 := 101) (pc' := 108) rfl (hb hby d11_101) rfl ((if0 _ _).trans (feq (hc999 : ¬ ((lcmpW xx kc) = (0 : Int32)))).2) (by decide) (by decide) k) ?_
            refine Run.pre (fun _ k => XS.iconst XGB.here hx rfl (hb hby d11_108) k) ?_
            show Run p e below s _ _ _ (TGB.setTop (mkF m 109 #[.val (.long xx), .second, .val (.long ka), .second, .val (.long kb), .second, .val (.long kc), .second, .val (.int vA), .val (.int vB), .val (.int vC), .val (.int vR), .val (.int vL), .val (.long tt), .second, .val (.int (0 : Int32)), .val (.int (1 : Int32))] [(.int (0 : Int32))]))
            have hC : ¬ own_C vC kc xx := fun q => hc999 ((lw_eq _ _).mpr q.2)
            exact Run.retN XGB hx hret (t := .boolean) (by simp) hlk (hb hby d11_109) (by first | (rw [eGB]; exact ⟨0, rfl, NGB, hhGB, Or.inr ⟨rfl, by unfold own_A5; have hL := hc997; grind⟩⟩) | exact ⟨0, rfl, NGB, hhGB, Or.inr ⟨rfl, by unfold own_A5; have hL := hc997; grind⟩⟩) (by decide) (by decide)
      · skip
        refine Run.pre (fun _ k => XS.ifNo XGB.here hx rfl (hb hby d11_51) rfl ((if0 _ _).trans (feq (hc997 : ¬ (vL = (0 : Int32)))).1) k) ?_
        refine Run.pre (fun _ k => XS.iload XGB.here hx rfl (hb hby d11_54) rfl  k) ?_
        refine Run.pre (fun _ k => XS.ifNo XGB.here hx rfl (hb hby d11_56) rfl ((if0 _ _).trans (teq ((by decide) : (0 : Int32) = (0 : Int32))).2) k) ?_
        refine Run.pre (fun _ k => XS.iload XGB.here hx rfl (hb hby d11_59) rfl  k) ?_
        show Run p e below s _ _ _ (TGB.setTop (mkF m 61 #[.val (.long xx), .second, .val (.long ka), .second, .val (.long kb), .second, .val (.long kc), .second, .val (.int vA), .val (.int vB), .val (.int vC), .val (.int vR), .val (.int vL), .val (.long tt), .second, .val (.int (0 : Int32)), .val (.int (1 : Int32))] [(.int vC)]))
        by_cases hc1000 : vC = (0 : Int32)
        · skip
          refine Run.pre (fun _ k => XS.ifYes XGB.here hx rfl (pc0 := 61) (pc' := 80) rfl (hb hby d11_61) rfl ((if0 _ _).trans (teq (hc1000 : vC = (0 : Int32))).1) (by decide) (by decide) k) ?_
          refine Run.pre (fun _ k => XS.iconst XGB.here hx rfl (hb hby d11_80) k) ?_
          have hC : ¬ own_C vC kc xx := fun q => q.1 hc1000
          exact Run.retN XGB hx hret (t := .boolean) (by simp) hlk (hb hby d11_81) (by first | (rw [eGB]; exact ⟨0, rfl, NGB, hhGB, Or.inr ⟨rfl, by unfold own_A5; have hL := hc997; grind⟩⟩) | exact ⟨0, rfl, NGB, hhGB, Or.inr ⟨rfl, by unfold own_A5; have hL := hc997; grind⟩⟩) (by decide) (by decide)
        · skip
          refine Run.pre (fun _ k => XS.ifNo XGB.here hx rfl (hb hby d11_61) rfl ((if0 _ _).trans (feq (hc1000 : ¬ (vC = (0 : Int32)))).1) k) ?_
          refine Run.pre (fun _ k => XS.lloadN XGB.here hx rfl (hb hby d11_64) rfl  k) ?_
          refine Run.pre (fun _ k => XS.lload XGB.here hx rfl (hb hby d11_65) rfl  k) ?_
          refine Run.pre (fun _ k => XS.lcmp XGB.here hx rfl (hb hby d11_67) rfl k) ?_
          by_cases hc1001 : (lcmpW xx kc) = (0 : Int32)
          · skip
            refine Run.pre (fun _ k => XS.ifNo XGB.here hx rfl (hb hby d11_68) rfl ((if0 _ _).trans (teq (hc1001 : (lcmpW xx kc) = (0 : Int32))).2) k) ?_
            refine Run.pre (fun _ k => XS.iload XGB.here hx rfl (hb hby d11_71) rfl  k) ?_
            show Run p e below s _ _ _ (TGB.setTop (mkF m 73 #[.val (.long xx), .second, .val (.long ka), .second, .val (.long kb), .second, .val (.long kc), .second, .val (.int vA), .val (.int vB), .val (.int vC), .val (.int vR), .val (.int vL), .val (.long tt), .second, .val (.int (0 : Int32)), .val (.int (1 : Int32))] [(.int (1 : Int32))]))
            refine Run.pre (fun _ k => XS.ifYes XGB.here hx rfl (pc0 := 73) (pc' := 80) rfl (hb hby d11_73) rfl ((if0 _ _).trans (feq ((by decide) : ¬ ((1 : Int32) = (0 : Int32)))).2) (by decide) (by decide) k) ?_
            refine Run.pre (fun _ k => XS.iconst XGB.here hx rfl (hb hby d11_80) k) ?_
            have hC : own_C vC kc xx := ⟨hc1000, ((lw_eq _ _).mp hc1001)⟩
            exact Run.retN XGB hx hret (t := .boolean) (by simp) hlk (hb hby d11_81) (by first | (rw [eGB]; exact ⟨0, rfl, NGB, hhGB, Or.inr ⟨rfl, by unfold own_A5; have hL := hc997; grind⟩⟩) | exact ⟨0, rfl, NGB, hhGB, Or.inr ⟨rfl, by unfold own_A5; have hL := hc997; grind⟩⟩) (by decide) (by decide)
          · skip
            refine Run.pre (fun _ k => XS.ifYes XGB.here hx rfl (pc0 := 68) (pc' := 80) rfl (hb hby d11_68) rfl ((if0 _ _).trans (feq (hc1001 : ¬ ((lcmpW xx kc) = (0 : Int32)))).2) (by decide) (by decide) k) ?_
            refine Run.pre (fun _ k => XS.iconst XGB.here hx rfl (hb hby d11_80) k) ?_
            show Run p e below s _ _ _ (TGB.setTop (mkF m 81 #[.val (.long xx), .second, .val (.long ka), .second, .val (.long kb), .second, .val (.long kc), .second, .val (.int vA), .val (.int vB), .val (.int vC), .val (.int vR), .val (.int vL), .val (.long tt), .second, .val (.int (0 : Int32)), .val (.int (1 : Int32))] [(.int (0 : Int32))]))
            have hC : ¬ own_C vC kc xx := fun q => hc1001 ((lw_eq _ _).mpr q.2)
            exact Run.retN XGB hx hret (t := .boolean) (by simp) hlk (hb hby d11_81) (by first | (rw [eGB]; exact ⟨0, rfl, NGB, hhGB, Or.inr ⟨rfl, by unfold own_A5; have hL := hc997; grind⟩⟩) | exact ⟨0, rfl, NGB, hhGB, Or.inr ⟨rfl, by unfold own_A5; have hL := hc997; grind⟩⟩) (by decide) (by decide)
    · skip
      refine Run.pre (fun _ k => XS.iload XGB.here hx rfl (hb hby d11_49) rfl  k) ?_
      by_cases hc1002 : vL = (0 : Int32)
      · skip
        refine Run.pre (fun _ k => XS.ifYes XGB.here hx rfl (pc0 := 51) (pc' := 82) rfl (hb hby d11_51) rfl ((if0 _ _).trans (teq (hc1002 : vL = (0 : Int32))).1) (by decide) (by decide) k) ?_
        refine Run.pre (fun _ k => XS.iload XGB.here hx rfl (hb hby d11_82) rfl  k) ?_
        refine Run.pre (fun _ k => XS.ifYes XGB.here hx rfl (pc0 := 84) (pc' := 92) rfl (hb hby d11_84) rfl ((if0 _ _).trans (teq ((by decide) : (0 : Int32) = (0 : Int32))).1) (by decide) (by decide) k) ?_
        refine Run.pre (fun _ k => XS.iload XGB.here hx rfl (hb hby d11_92) rfl  k) ?_
        show Run p e below s _ _ _ (TGB.setTop (mkF m 94 #[.val (.long xx), .second, .val (.long ka), .second, .val (.long kb), .second, .val (.long kc), .second, .val (.int vA), .val (.int vB), .val (.int vC), .val (.int vR), .val (.int vL), .val (.long tt), .second, .val (.int (0 : Int32)), .val (.int (0 : Int32))] [(.int vC)]))
        by_cases hc1003 : vC = (0 : Int32)
        · skip
          refine Run.pre (fun _ k => XS.ifYes XGB.here hx rfl (pc0 := 94) (pc' := 108) rfl (hb hby d11_94) rfl ((if0 _ _).trans (teq (hc1003 : vC = (0 : Int32))).1) (by decide) (by decide) k) ?_
          refine Run.pre (fun _ k => XS.iconst XGB.here hx rfl (hb hby d11_108) k) ?_
          have hC : ¬ own_C vC kc xx := fun q => q.1 hc1003
          exact Run.retN XGB hx hret (t := .boolean) (by simp) hlk (hb hby d11_109) (by first | (rw [eGB]; exact ⟨0, rfl, NGB, hhGB, Or.inr ⟨rfl, by unfold own_A5; have hL := hc1002; grind⟩⟩) | exact ⟨0, rfl, NGB, hhGB, Or.inr ⟨rfl, by unfold own_A5; have hL := hc1002; grind⟩⟩) (by decide) (by decide)
        · skip
          refine Run.pre (fun _ k => XS.ifNo XGB.here hx rfl (hb hby d11_94) rfl ((if0 _ _).trans (feq (hc1003 : ¬ (vC = (0 : Int32)))).1) k) ?_
          refine Run.pre (fun _ k => XS.lloadN XGB.here hx rfl (hb hby d11_97) rfl  k) ?_
          refine Run.pre (fun _ k => XS.lload XGB.here hx rfl (hb hby d11_98) rfl  k) ?_
          refine Run.pre (fun _ k => XS.lcmp XGB.here hx rfl (hb hby d11_100) rfl k) ?_
          by_cases hc1004 : (lcmpW xx kc) = (0 : Int32)
          · skip
            refine Run.pre (fun _ k => XS.ifNo XGB.here hx rfl (hb hby d11_101) rfl ((if0 _ _).trans (teq (hc1004 : (lcmpW xx kc) = (0 : Int32))).2) k) ?_
            refine Run.pre (fun _ k => XS.iconst XGB.here hx rfl (hb hby d11_104) k) ?_
            show Run p e below s _ _ _ (TGB.setTop (mkF m 105 #[.val (.long xx), .second, .val (.long ka), .second, .val (.long kb), .second, .val (.long kc), .second, .val (.int vA), .val (.int vB), .val (.int vC), .val (.int vR), .val (.int vL), .val (.long tt), .second, .val (.int (0 : Int32)), .val (.int (0 : Int32))] [(.int (1 : Int32))]))
            refine Run.pre (fun _ k => XS.goto XGB.here hx rfl (pc0 := 105) (pc' := 109) rfl (hb hby d11_105) (by decide) (by decide) k) ?_
            have hC : own_C vC kc xx := ⟨hc1003, ((lw_eq _ _).mp hc1004)⟩
            exact Run.retN XGB hx hret (t := .boolean) (by simp) hlk (hb hby d11_109) (by first | (rw [eGB]; exact ⟨1, rfl, NGB, hhGB, Or.inl ⟨rfl, by unfold own_A5; have hL := hc1002; grind⟩⟩) | exact ⟨1, rfl, NGB, hhGB, Or.inl ⟨rfl, by unfold own_A5; have hL := hc1002; grind⟩⟩) (by decide) (by decide)
          · skip
            refine Run.pre (fun _ k => XS.ifYes XGB.here hx rfl (pc0 := 101) (pc' := 108) rfl (hb hby d11_101) rfl ((if0 _ _).trans (feq (hc1004 : ¬ ((lcmpW xx kc) = (0 : Int32)))).2) (by decide) (by decide) k) ?_
            refine Run.pre (fun _ k => XS.iconst XGB.here hx rfl (hb hby d11_108) k) ?_
            show Run p e below s _ _ _ (TGB.setTop (mkF m 109 #[.val (.long xx), .second, .val (.long ka), .second, .val (.long kb), .second, .val (.long kc), .second, .val (.int vA), .val (.int vB), .val (.int vC), .val (.int vR), .val (.int vL), .val (.long tt), .second, .val (.int (0 : Int32)), .val (.int (0 : Int32))] [(.int (0 : Int32))]))
            have hC : ¬ own_C vC kc xx := fun q => hc1004 ((lw_eq _ _).mpr q.2)
            exact Run.retN XGB hx hret (t := .boolean) (by simp) hlk (hb hby d11_109) (by first | (rw [eGB]; exact ⟨0, rfl, NGB, hhGB, Or.inr ⟨rfl, by unfold own_A5; have hL := hc1002; grind⟩⟩) | exact ⟨0, rfl, NGB, hhGB, Or.inr ⟨rfl, by unfold own_A5; have hL := hc1002; grind⟩⟩) (by decide) (by decide)
      · skip
        refine Run.pre (fun _ k => XS.ifNo XGB.here hx rfl (hb hby d11_51) rfl ((if0 _ _).trans (feq (hc1002 : ¬ (vL = (0 : Int32)))).1) k) ?_
        refine Run.pre (fun _ k => XS.iload XGB.here hx rfl (hb hby d11_54) rfl  k) ?_
        refine Run.pre (fun _ k => XS.ifNo XGB.here hx rfl (hb hby d11_56) rfl ((if0 _ _).trans (teq ((by decide) : (0 : Int32) = (0 : Int32))).2) k) ?_
        refine Run.pre (fun _ k => XS.iload XGB.here hx rfl (hb hby d11_59) rfl  k) ?_
        show Run p e below s _ _ _ (TGB.setTop (mkF m 61 #[.val (.long xx), .second, .val (.long ka), .second, .val (.long kb), .second, .val (.long kc), .second, .val (.int vA), .val (.int vB), .val (.int vC), .val (.int vR), .val (.int vL), .val (.long tt), .second, .val (.int (0 : Int32)), .val (.int (0 : Int32))] [(.int vC)]))
        by_cases hc1005 : vC = (0 : Int32)
        · skip
          refine Run.pre (fun _ k => XS.ifYes XGB.here hx rfl (pc0 := 61) (pc' := 80) rfl (hb hby d11_61) rfl ((if0 _ _).trans (teq (hc1005 : vC = (0 : Int32))).1) (by decide) (by decide) k) ?_
          refine Run.pre (fun _ k => XS.iconst XGB.here hx rfl (hb hby d11_80) k) ?_
          have hC : ¬ own_C vC kc xx := fun q => q.1 hc1005
          exact Run.retN XGB hx hret (t := .boolean) (by simp) hlk (hb hby d11_81) (by first | (rw [eGB]; exact ⟨0, rfl, NGB, hhGB, Or.inr ⟨rfl, by unfold own_A5; have hL := hc1002; grind⟩⟩) | exact ⟨0, rfl, NGB, hhGB, Or.inr ⟨rfl, by unfold own_A5; have hL := hc1002; grind⟩⟩) (by decide) (by decide)
        · skip
          refine Run.pre (fun _ k => XS.ifNo XGB.here hx rfl (hb hby d11_61) rfl ((if0 _ _).trans (feq (hc1005 : ¬ (vC = (0 : Int32)))).1) k) ?_
          refine Run.pre (fun _ k => XS.lloadN XGB.here hx rfl (hb hby d11_64) rfl  k) ?_
          refine Run.pre (fun _ k => XS.lload XGB.here hx rfl (hb hby d11_65) rfl  k) ?_
          refine Run.pre (fun _ k => XS.lcmp XGB.here hx rfl (hb hby d11_67) rfl k) ?_
          by_cases hc1006 : (lcmpW xx kc) = (0 : Int32)
          · skip
            refine Run.pre (fun _ k => XS.ifNo XGB.here hx rfl (hb hby d11_68) rfl ((if0 _ _).trans (teq (hc1006 : (lcmpW xx kc) = (0 : Int32))).2) k) ?_
            refine Run.pre (fun _ k => XS.iload XGB.here hx rfl (hb hby d11_71) rfl  k) ?_
            show Run p e below s _ _ _ (TGB.setTop (mkF m 73 #[.val (.long xx), .second, .val (.long ka), .second, .val (.long kb), .second, .val (.long kc), .second, .val (.int vA), .val (.int vB), .val (.int vC), .val (.int vR), .val (.int vL), .val (.long tt), .second, .val (.int (0 : Int32)), .val (.int (0 : Int32))] [(.int (0 : Int32))]))
            refine Run.pre (fun _ k => XS.ifNo XGB.here hx rfl (hb hby d11_73) rfl ((if0 _ _).trans (teq ((by decide) : (0 : Int32) = (0 : Int32))).2) k) ?_
            refine Run.pre (fun _ k => XS.iconst XGB.here hx rfl (hb hby d11_76) k) ?_
            refine Run.pre (fun _ k => XS.goto XGB.here hx rfl (pc0 := 77) (pc' := 81) rfl (hb hby d11_77) (by decide) (by decide) k) ?_
            have hC : own_C vC kc xx := ⟨hc1005, ((lw_eq _ _).mp hc1006)⟩
            exact Run.retN XGB hx hret (t := .boolean) (by simp) hlk (hb hby d11_81) (by first | (rw [eGB]; exact ⟨1, rfl, NGB, hhGB, Or.inl ⟨rfl, by unfold own_A5; have hL := hc1002; grind⟩⟩) | exact ⟨1, rfl, NGB, hhGB, Or.inl ⟨rfl, by unfold own_A5; have hL := hc1002; grind⟩⟩) (by decide) (by decide)
          · skip
            refine Run.pre (fun _ k => XS.ifYes XGB.here hx rfl (pc0 := 68) (pc' := 80) rfl (hb hby d11_68) rfl ((if0 _ _).trans (feq (hc1006 : ¬ ((lcmpW xx kc) = (0 : Int32)))).2) (by decide) (by decide) k) ?_
            refine Run.pre (fun _ k => XS.iconst XGB.here hx rfl (hb hby d11_80) k) ?_
            show Run p e below s _ _ _ (TGB.setTop (mkF m 81 #[.val (.long xx), .second, .val (.long ka), .second, .val (.long kb), .second, .val (.long kc), .second, .val (.int vA), .val (.int vB), .val (.int vC), .val (.int vR), .val (.int vL), .val (.long tt), .second, .val (.int (0 : Int32)), .val (.int (0 : Int32))] [(.int (0 : Int32))]))
            have hC : ¬ own_C vC kc xx := fun q => hc1006 ((lw_eq _ _).mpr q.2)
            exact Run.retN XGB hx hret (t := .boolean) (by simp) hlk (hb hby d11_81) (by first | (rw [eGB]; exact ⟨0, rfl, NGB, hhGB, Or.inr ⟨rfl, by unfold own_A5; have hL := hc1002; grind⟩⟩) | exact ⟨0, rfl, NGB, hhGB, Or.inr ⟨rfl, by unfold own_A5; have hL := hc1002; grind⟩⟩) (by decide) (by decide)
  have GA : ∀ (iv : Int32) (TGA : State) (LcGA : List Loc) (hGA : Heap), (Stand p l e ({ frames := 0, cells := 0, slots := 0, locals := 0 } : Room) s m #[(.long xx), (.long ka), (.long kb), (.long kc), (.int vA), (.int vB), (.int vC), (.int vR), (.int vL), (.long tt)] below meth c TGA LcGA 0 0) → (TGA.heap = hGA) → (Fr n0 LcGA) → (Keep h0 hGA []) → ((iv = 1 ∧ own_I vA vB ka kb xx) ∨ (iv = 0 ∧ ¬ own_I vA vB ka kb xx)) → (hGA = h0) → Run p e below s (fun v h L => ∃ r : Int32, v = some (.int r) ∧ Fr n0 L ∧ h = h0 ∧ ((r = 1 ∧ own_A5 vA vB vC vR vL ka kb kc tt xx) ∨ (r = 0 ∧ ¬ own_A5 vA vB vC vR vL ka kb kc tt xx))) ({ frames := 0, cells := 0, slots := 0, locals := 0 } : Room).cells ({ frames := 0, cells := 0, slots := 0, locals := 0 } : Room).slots (TGA.setTop (mkF m 28 #[.val (.long xx), .second, .val (.long ka), .second, .val (.long kb), .second, .val (.long kc), .second, .val (.int vA), .val (.int vB), .val (.int vC), .val (.int vR), .val (.int vL), .val (.long tt), .second, .unset, .unset] [(.int iv)])) := by
    intro iv TGA LcGA hGA XGA eGA NGA KGA hi hhGA
    show Run p e below s _ _ _ (TGA.setTop (mkF m 28 #[.val (.long xx), .second, .val (.long ka), .second, .val (.long kb), .second, .val (.long kc), .second, .val (.int vA), .val (.int vB), .val (.int vC), .val (.int vR), .val (.int vL), .val (.long tt), .second, .unset, .unset] [(.int iv)]))
    refine Run.pre (fun _ k => XS.istore XGA.here hx rfl (hb hby d11_28) rfl (l' := #[.val (.long xx), .second, .val (.long ka), .second, .val (.long kb), .second, .val (.long kc), .second, .val (.int vA), .val (.int vB), .val (.int vC), .val (.int vR), .val (.int vL), .val (.long tt), .second, .val (.int iv), .unset]) rfl k) ?_
    refine Run.pre (fun _ k => XS.iload XGA.here hx rfl (hb hby d11_30) rfl  k) ?_
    by_cases hc1007 : vR = (0 : Int32)
    · skip
      refine Run.pre (fun _ k => XS.ifYes XGA.here hx rfl (pc0 := 32) (pc' := 46) rfl (hb hby d11_32) rfl ((if0 _ _).trans (teq (hc1007 : vR = (0 : Int32))).1) (by decide) (by decide) k) ?_
      refine Run.pre (fun _ k => XS.iconst XGA.here hx rfl (hb hby d11_46) k) ?_
      show Run p e below s _ _ _ (TGA.setTop (mkF m 47 #[.val (.long xx), .second, .val (.long ka), .second, .val (.long kb), .second, .val (.long kc), .second, .val (.int vA), .val (.int vB), .val (.int vC), .val (.int vR), .val (.int vL), .val (.long tt), .second, .val (.int iv), .unset] [(.int (0 : Int32))]))
      exact GB iv (0 : Int32) _ _ _ XGA eGA NGA KGA hi (Or.inr ⟨rfl, fun q => q.1 hc1007⟩) hhGA
    · skip
      refine Run.pre (fun _ k => XS.ifNo XGA.here hx rfl (hb hby d11_32) rfl ((if0 _ _).trans (feq (hc1007 : ¬ (vR = (0 : Int32)))).1) k) ?_
      refine Run.pre (fun _ k => XS.lloadN XGA.here hx rfl (hb hby d11_35) rfl  k) ?_
      refine Run.pre (fun _ k => XS.lload XGA.here hx rfl (hb hby d11_36) rfl  k) ?_
      refine Run.pre (fun _ k => XS.lcmp XGA.here hx rfl (hb hby d11_38) rfl k) ?_
      show Run p e below s _ _ _ (TGA.setTop (mkF m 39 #[.val (.long xx), .second, .val (.long ka), .second, .val (.long kb), .second, .val (.long kc), .second, .val (.int vA), .val (.int vB), .val (.int vC), .val (.int vR), .val (.int vL), .val (.long tt), .second, .val (.int iv), .unset] [(.int (lcmpW xx tt))]))
      by_cases hc1008 : (lcmpW xx tt) = (0 : Int32)
      · skip
        refine Run.pre (fun _ k => XS.ifNo XGA.here hx rfl (hb hby d11_39) rfl ((if0 _ _).trans (teq (hc1008 : (lcmpW xx tt) = (0 : Int32))).2) k) ?_
        refine Run.pre (fun _ k => XS.iconst XGA.here hx rfl (hb hby d11_42) k) ?_
        refine Run.pre (fun _ k => XS.goto XGA.here hx rfl (pc0 := 43) (pc' := 47) rfl (hb hby d11_43) (by decide) (by decide) k) ?_
        show Run p e below s _ _ _ (TGA.setTop (mkF m 47 #[.val (.long xx), .second, .val (.long ka), .second, .val (.long kb), .second, .val (.long kc), .second, .val (.int vA), .val (.int vB), .val (.int vC), .val (.int vR), .val (.int vL), .val (.long tt), .second, .val (.int iv), .unset] [(.int (1 : Int32))]))
        exact GB iv (1 : Int32) _ _ _ XGA eGA NGA KGA hi (Or.inl ⟨rfl, hc1007, ((lw_eq _ _).mp hc1008)⟩) hhGA
      · skip
        refine Run.pre (fun _ k => XS.ifYes XGA.here hx rfl (pc0 := 39) (pc' := 46) rfl (hb hby d11_39) rfl ((if0 _ _).trans (feq (hc1008 : ¬ ((lcmpW xx tt) = (0 : Int32)))).2) (by decide) (by decide) k) ?_
        refine Run.pre (fun _ k => XS.iconst XGA.here hx rfl (hb hby d11_46) k) ?_
        show Run p e below s _ _ _ (TGA.setTop (mkF m 47 #[.val (.long xx), .second, .val (.long ka), .second, .val (.long kb), .second, .val (.long kc), .second, .val (.int vA), .val (.int vB), .val (.int vC), .val (.int vR), .val (.int vL), .val (.long tt), .second, .val (.int iv), .unset] [(.int (0 : Int32))]))
        exact GB iv (0 : Int32) _ _ _ XGA eGA NGA KGA hi (Or.inr ⟨rfl, fun q => hc1008 ((lw_eq _ _).mpr q.2)⟩) hhGA
  show Run p e below s _ _ _ (s₁.setTop (mkF m 0 #[.val (.long xx), .second, .val (.long ka), .second, .val (.long kb), .second, .val (.long kc), .second, .val (.int vA), .val (.int vB), .val (.int vC), .val (.int vR), .val (.int vL), .val (.long tt), .second, .unset, .unset] []))
  refine Run.pre (fun _ k => XS.iload X0.here hx rfl (hb hby d11_0) rfl  k) ?_
  by_cases hc1009 : vA = (0 : Int32)
  · skip
    refine Run.pre (fun _ k => XS.ifYes X0.here hx rfl (pc0 := 2) (pc' := 11) rfl (hb hby d11_2) rfl ((if0 _ _).trans (teq (hc1009 : vA = (0 : Int32))).1) (by decide) (by decide) k) ?_
    refine Run.pre (fun _ k => XS.iload X0.here hx rfl (hb hby d11_11) rfl  k) ?_
    by_cases hc1010 : vB = (0 : Int32)
    · skip
      refine Run.pre (fun _ k => XS.ifYes X0.here hx rfl (pc0 := 13) (pc' := 27) rfl (hb hby d11_13) rfl ((if0 _ _).trans (teq (hc1010 : vB = (0 : Int32))).1) (by decide) (by decide) k) ?_
      refine Run.pre (fun _ k => XS.iconst X0.here hx rfl (hb hby d11_27) k) ?_
      show Run p e below s _ _ _ (s₁.setTop (mkF m 28 #[.val (.long xx), .second, .val (.long ka), .second, .val (.long kb), .second, .val (.long kc), .second, .val (.int vA), .val (.int vB), .val (.int vC), .val (.int vR), .val (.int vL), .val (.long tt), .second, .unset, .unset] [(.int (0 : Int32))]))
      exact GA (0 : Int32) _ _ _ X0 e0 N0 (Keep.refl h0 []) (Or.inr ⟨rfl, fun q => q.elim (fun q => q.1 hc1009) (fun q => q.1 hc1010)⟩) rfl
    · skip
      refine Run.pre (fun _ k => XS.ifNo X0.here hx rfl (hb hby d11_13) rfl ((if0 _ _).trans (feq (hc1010 : ¬ (vB = (0 : Int32)))).1) k) ?_
      refine Run.pre (fun _ k => XS.lloadN X0.here hx rfl (hb hby d11_16) rfl  k) ?_
      refine Run.pre (fun _ k => XS.lload X0.here hx rfl (hb hby d11_17) rfl  k) ?_
      show Run p e below s _ _ _ (s₁.setTop (mkF m 19 #[.val (.long xx), .second, .val (.long ka), .second, .val (.long kb), .second, .val (.long kc), .second, .val (.int vA), .val (.int vB), .val (.int vC), .val (.int vR), .val (.int vL), .val (.long tt), .second, .unset, .unset] [(.long kb), (.long xx)]))
      refine Run.pre (fun _ k => XS.lcmp X0.here hx rfl (hb hby d11_19) rfl k) ?_
      by_cases hc1011 : (lcmpW xx kb) = (0 : Int32)
      · skip
        refine Run.pre (fun _ k => XS.ifNo X0.here hx rfl (hb hby d11_20) rfl ((if0 _ _).trans (teq (hc1011 : (lcmpW xx kb) = (0 : Int32))).2) k) ?_
        refine Run.pre (fun _ k => XS.iconst X0.here hx rfl (hb hby d11_23) k) ?_
        refine Run.pre (fun _ k => XS.goto X0.here hx rfl (pc0 := 24) (pc' := 28) rfl (hb hby d11_24) (by decide) (by decide) k) ?_
        show Run p e below s _ _ _ (s₁.setTop (mkF m 28 #[.val (.long xx), .second, .val (.long ka), .second, .val (.long kb), .second, .val (.long kc), .second, .val (.int vA), .val (.int vB), .val (.int vC), .val (.int vR), .val (.int vL), .val (.long tt), .second, .unset, .unset] [(.int (1 : Int32))]))
        exact GA (1 : Int32) _ _ _ X0 e0 N0 (Keep.refl h0 []) (Or.inl ⟨rfl, Or.inr ⟨hc1010, ((lw_eq _ _).mp hc1011)⟩⟩) rfl
      · skip
        refine Run.pre (fun _ k => XS.ifYes X0.here hx rfl (pc0 := 20) (pc' := 27) rfl (hb hby d11_20) rfl ((if0 _ _).trans (feq (hc1011 : ¬ ((lcmpW xx kb) = (0 : Int32)))).2) (by decide) (by decide) k) ?_
        refine Run.pre (fun _ k => XS.iconst X0.here hx rfl (hb hby d11_27) k) ?_
        show Run p e below s _ _ _ (s₁.setTop (mkF m 28 #[.val (.long xx), .second, .val (.long ka), .second, .val (.long kb), .second, .val (.long kc), .second, .val (.int vA), .val (.int vB), .val (.int vC), .val (.int vR), .val (.int vL), .val (.long tt), .second, .unset, .unset] [(.int (0 : Int32))]))
        exact GA (0 : Int32) _ _ _ X0 e0 N0 (Keep.refl h0 []) (Or.inr ⟨rfl, fun q => q.elim (fun q => q.1 hc1009) (fun q => hc1011 ((lw_eq _ _).mpr q.2))⟩) rfl
  · skip
    refine Run.pre (fun _ k => XS.ifNo X0.here hx rfl (hb hby d11_2) rfl ((if0 _ _).trans (feq (hc1009 : ¬ (vA = (0 : Int32)))).1) k) ?_
    refine Run.pre (fun _ k => XS.lloadN X0.here hx rfl (hb hby d11_5) rfl  k) ?_
    refine Run.pre (fun _ k => XS.lloadN X0.here hx rfl (hb hby d11_6) rfl  k) ?_
    refine Run.pre (fun _ k => XS.lcmp X0.here hx rfl (hb hby d11_7) rfl k) ?_
    by_cases hc1012 : (lcmpW xx ka) = (0 : Int32)
    · skip
      refine Run.pre (fun _ k => XS.ifYes X0.here hx rfl (pc0 := 8) (pc' := 23) rfl (hb hby d11_8) rfl ((if0 _ _).trans (teq (hc1012 : (lcmpW xx ka) = (0 : Int32))).1) (by decide) (by decide) k) ?_
      show Run p e below s _ _ _ (s₁.setTop (mkF m 23 #[.val (.long xx), .second, .val (.long ka), .second, .val (.long kb), .second, .val (.long kc), .second, .val (.int vA), .val (.int vB), .val (.int vC), .val (.int vR), .val (.int vL), .val (.long tt), .second, .unset, .unset] []))
      refine Run.pre (fun _ k => XS.iconst X0.here hx rfl (hb hby d11_23) k) ?_
      refine Run.pre (fun _ k => XS.goto X0.here hx rfl (pc0 := 24) (pc' := 28) rfl (hb hby d11_24) (by decide) (by decide) k) ?_
      show Run p e below s _ _ _ (s₁.setTop (mkF m 28 #[.val (.long xx), .second, .val (.long ka), .second, .val (.long kb), .second, .val (.long kc), .second, .val (.int vA), .val (.int vB), .val (.int vC), .val (.int vR), .val (.int vL), .val (.long tt), .second, .unset, .unset] [(.int (1 : Int32))]))
      exact GA (1 : Int32) _ _ _ X0 e0 N0 (Keep.refl h0 []) (Or.inl ⟨rfl, Or.inl ⟨hc1009, ((lw_eq _ _).mp hc1012)⟩⟩) rfl
    · skip
      refine Run.pre (fun _ k => XS.ifNo X0.here hx rfl (hb hby d11_8) rfl ((if0 _ _).trans (feq (hc1012 : ¬ ((lcmpW xx ka) = (0 : Int32)))).1) k) ?_
      show Run p e below s _ _ _ (s₁.setTop (mkF m 11 #[.val (.long xx), .second, .val (.long ka), .second, .val (.long kb), .second, .val (.long kc), .second, .val (.int vA), .val (.int vB), .val (.int vC), .val (.int vR), .val (.int vL), .val (.long tt), .second, .unset, .unset] []))
      refine Run.pre (fun _ k => XS.iload X0.here hx rfl (hb hby d11_11) rfl  k) ?_
      by_cases hc1013 : vB = (0 : Int32)
      · skip
        refine Run.pre (fun _ k => XS.ifYes X0.here hx rfl (pc0 := 13) (pc' := 27) rfl (hb hby d11_13) rfl ((if0 _ _).trans (teq (hc1013 : vB = (0 : Int32))).1) (by decide) (by decide) k) ?_
        refine Run.pre (fun _ k => XS.iconst X0.here hx rfl (hb hby d11_27) k) ?_
        show Run p e below s _ _ _ (s₁.setTop (mkF m 28 #[.val (.long xx), .second, .val (.long ka), .second, .val (.long kb), .second, .val (.long kc), .second, .val (.int vA), .val (.int vB), .val (.int vC), .val (.int vR), .val (.int vL), .val (.long tt), .second, .unset, .unset] [(.int (0 : Int32))]))
        exact GA (0 : Int32) _ _ _ X0 e0 N0 (Keep.refl h0 []) (Or.inr ⟨rfl, fun q => q.elim (fun q => hc1012 ((lw_eq _ _).mpr q.2)) (fun q => q.1 hc1013)⟩) rfl
      · skip
        refine Run.pre (fun _ k => XS.ifNo X0.here hx rfl (hb hby d11_13) rfl ((if0 _ _).trans (feq (hc1013 : ¬ (vB = (0 : Int32)))).1) k) ?_
        refine Run.pre (fun _ k => XS.lloadN X0.here hx rfl (hb hby d11_16) rfl  k) ?_
        refine Run.pre (fun _ k => XS.lload X0.here hx rfl (hb hby d11_17) rfl  k) ?_
        refine Run.pre (fun _ k => XS.lcmp X0.here hx rfl (hb hby d11_19) rfl k) ?_
        by_cases hc1014 : (lcmpW xx kb) = (0 : Int32)
        · skip
          refine Run.pre (fun _ k => XS.ifNo X0.here hx rfl (hb hby d11_20) rfl ((if0 _ _).trans (teq (hc1014 : (lcmpW xx kb) = (0 : Int32))).2) k) ?_
          show Run p e below s _ _ _ (s₁.setTop (mkF m 23 #[.val (.long xx), .second, .val (.long ka), .second, .val (.long kb), .second, .val (.long kc), .second, .val (.int vA), .val (.int vB), .val (.int vC), .val (.int vR), .val (.int vL), .val (.long tt), .second, .unset, .unset] []))
          refine Run.pre (fun _ k => XS.iconst X0.here hx rfl (hb hby d11_23) k) ?_
          refine Run.pre (fun _ k => XS.goto X0.here hx rfl (pc0 := 24) (pc' := 28) rfl (hb hby d11_24) (by decide) (by decide) k) ?_
          show Run p e below s _ _ _ (s₁.setTop (mkF m 28 #[.val (.long xx), .second, .val (.long ka), .second, .val (.long kb), .second, .val (.long kc), .second, .val (.int vA), .val (.int vB), .val (.int vC), .val (.int vR), .val (.int vL), .val (.long tt), .second, .unset, .unset] [(.int (1 : Int32))]))
          exact GA (1 : Int32) _ _ _ X0 e0 N0 (Keep.refl h0 []) (Or.inl ⟨rfl, Or.inr ⟨hc1013, ((lw_eq _ _).mp hc1014)⟩⟩) rfl
        · skip
          refine Run.pre (fun _ k => XS.ifYes X0.here hx rfl (pc0 := 20) (pc' := 27) rfl (hb hby d11_20) rfl ((if0 _ _).trans (feq (hc1014 : ¬ ((lcmpW xx kb) = (0 : Int32)))).2) (by decide) (by decide) k) ?_
          show Run p e below s _ _ _ (s₁.setTop (mkF m 27 #[.val (.long xx), .second, .val (.long ka), .second, .val (.long kb), .second, .val (.long kc), .second, .val (.int vA), .val (.int vB), .val (.int vC), .val (.int vR), .val (.int vL), .val (.long tt), .second, .unset, .unset] []))
          refine Run.pre (fun _ k => XS.iconst X0.here hx rfl (hb hby d11_27) k) ?_
          show Run p e below s _ _ _ (s₁.setTop (mkF m 28 #[.val (.long xx), .second, .val (.long ka), .second, .val (.long kb), .second, .val (.long kc), .second, .val (.int vA), .val (.int vB), .val (.int vC), .val (.int vR), .val (.int vL), .val (.long tt), .second, .unset, .unset] [(.int (0 : Int32))]))
          exact GA (0 : Int32) _ _ _ X0 e0 N0 (Keep.refl h0 []) (Or.inr ⟨rfl, fun q => q.elim (fun q => hc1012 ((lw_eq _ _).mpr q.2)) (fun q => hc1014 ((lw_eq _ _).mpr q.2))⟩) rfl
theorem d12_0 : decode jdk_29_method_70_code 0 = .ok (.lload_n 0, 1) := by decide +kernel
theorem d12_1 : decode jdk_29_method_70_code 1 = .ok (.lload_n 2, 1) := by decide +kernel
theorem d12_2 : decode jdk_29_method_70_code 2 = .ok (.lcmp, 1) := by decide +kernel
theorem d12_3 : decode jdk_29_method_70_code 3 = .ok (.ifCond .gt 7, 3) := by decide +kernel
theorem d12_10 : decode jdk_29_method_70_code 10 = .ok (.lload_n 2, 1) := by decide +kernel
theorem d12_11 : decode jdk_29_method_70_code 11 = .ok (.lreturn, 1) := by decide +kernel
theorem d12_6 : decode jdk_29_method_70_code 6 = .ok (.lload_n 0, 1) := by decide +kernel
theorem d12_7 : decode jdk_29_method_70_code 7 = .ok (.goto 4, 3) := by decide +kernel
set_option maxRecDepth 65536 in
set_option maxHeartbeats 40000000 in
theorem rmMJ (l : Launch) (Z : State) (a0 : Array Value) (hw : ∀ d ∈ tables_1, d.before a0 Z = true) (mx : Int64) (my : Int64) (h0 : Heap) (n0 : Nat) (Z0 : n0 ≤ h0.size) :
    Con l (⟨"java/lang/Math", "min", "(JJ)J"⟩ : MethodName) jdk_29_method_70_code 4 (some .long) ({ frames := 0, cells := 0, slots := 0, locals := 0 } : Room) Z #[(.long mx), (.long my)] h0 (fun v h L => ∃ z : Int64, v = some (.long z) ∧ Fr n0 L ∧ h = h0 ∧ ((z = mx ∧ ¬ my < mx) ∨ (z = my ∧ my < mx))) := by
  refine Con.mk (Jvm.Free.JP.mathPlain rfl (by decide +kernel)) (fun m => show entryFrame m #[(.long mx), (.long my)] 4 = mkF m 0 #[.val (.long mx), .second, .val (.long my), .second] [] by first | (simp [entryFrame, mkF, argsToLocals, Value.category]; done) | rfl) ?_
  intro p e s m below meth c s₁ hx hby hml hown hnm hret hlk hZ X0 e0
  have N0 := Fr.nil n0
  show Run p e below s _ _ _ (s₁.setTop (mkF m 0 #[.val (.long mx), .second, .val (.long my), .second] []))
  refine Run.pre (fun _ k => XS.lloadN X0.here hx rfl (hb hby d12_0) rfl  k) ?_
  refine Run.pre (fun _ k => XS.lloadN X0.here hx rfl (hb hby d12_1) rfl  k) ?_
  refine Run.pre (fun _ k => XS.lcmp X0.here hx rfl (hb hby d12_2) rfl k) ?_
  by_cases hc1015 : (0 : Int32) < (lcmpW mx my)
  · skip
    refine Run.pre (fun _ k => XS.ifYes X0.here hx rfl (pc0 := 3) (pc' := 10) rfl (hb hby d12_3) rfl ((if0 _ _).trans (tlt (hc1015 : (0 : Int32) < (lcmpW mx my))).2.2.1) (by decide) (by decide) k) ?_
    refine Run.pre (fun _ k => XS.lloadN X0.here hx rfl (hb hby d12_10) rfl  k) ?_
    exact Run.retJ X0 hx hret hlk (hb hby d12_11) (by first | (rw [e0]; exact ⟨_, rfl, N0, rfl, Or.inr ⟨rfl, (lw_gt _ _).mp hc1015⟩⟩) | exact ⟨_, rfl, N0, rfl, Or.inr ⟨rfl, (lw_gt _ _).mp hc1015⟩⟩) (by decide) (by decide)
  · skip
    refine Run.pre (fun _ k => XS.ifNo X0.here hx rfl (hb hby d12_3) rfl ((if0 _ _).trans (flt (hc1015 : ¬ ((0 : Int32) < (lcmpW mx my)))).2.2.1) k) ?_
    refine Run.pre (fun _ k => XS.lloadN X0.here hx rfl (hb hby d12_6) rfl  k) ?_
    refine Run.pre (fun _ k => XS.goto X0.here hx rfl (pc0 := 7) (pc' := 11) rfl (hb hby d12_7) (by decide) (by decide) k) ?_
    show Run p e below s _ _ _ (s₁.setTop (mkF m 11 #[.val (.long mx), .second, .val (.long my), .second] [(.long mx)]))
    exact Run.retJ X0 hx hret hlk (hb hby d12_11) (by first | (rw [e0]; exact ⟨_, rfl, N0, rfl, Or.inl ⟨rfl, fun q => hc1015 ((lw_gt _ _).mpr q)⟩⟩) | exact ⟨_, rfl, N0, rfl, Or.inl ⟨rfl, fun q => hc1015 ((lw_gt _ _).mpr q)⟩⟩) (by decide) (by decide)
theorem pd_5 : parseMethodDescriptor "()V" = some ⟨[], none⟩ := by decide +kernel
theorem pd_6 : parseMethodDescriptor "(J)J" = some ⟨[.long], some .long⟩ := by decide +kernel
theorem pd_7 : parseMethodDescriptor "(JJJJZZZZZJ)Z" = some ⟨[.long, .long, .long, .long, .boolean, .boolean, .boolean, .boolean, .boolean, .long], some .boolean⟩ := by decide +kernel
theorem pd_8 : parseMethodDescriptor "(JJ)J" = some ⟨[.long, .long], some .long⟩ := by decide +kernel
theorem pd_9 : parseMethodDescriptor "(Lcom/example/manana/manana/storage/WaitingTable;J)V" = some ⟨[(.object "com/example/manana/manana/storage/WaitingTable"), .long], none⟩ := by decide +kernel
theorem pd_10 : parseMethodDescriptor "(JJII)Z" = some ⟨[.long, .long, .int, .int], some .boolean⟩ := by decide +kernel
theorem pn_0 : plainName "com/example/manana/manana/storage/WaitingTableLowestPinLaw" = true := by first | (simp [plainName, overriddenIn]; done) | decide +kernel
set_option maxRecDepth 65536 in
set_option maxHeartbeats 40000000 in
theorem rm0 (l : Launch) (Z : State) (a0 : Array Value) (hw : ∀ d ∈ tables_1, d.before a0 Z = true) (ka : Int64) (kb : Int64) (kc : Int64) (ot : Int64) (oq : Int32) (h0 : Heap) (n0 : Nat) (Z0 : n0 ≤ h0.size) :
    Con l x code maxLocals ret room_1 Z #[(.long ka), (.long kb), (.long kc), (.long ot), (.int oq)] h0 (fun v h L => v = some (.int 1) ∧ Fr n0 L) := by
  refine Con.mk (plainFor_of_name pn_0) (fun m => show entryFrame m #[(.long ka), (.long kb), (.long kc), (.long ot), (.int oq)] maxLocals = mkF m 0 #[.val (.long ka), .second, .val (.long kb), .second, .val (.long kc), .second, .val (.long ot), .second, .val (.int oq), .unset, .unset, .unset, .unset, .unset, .unset, .unset, .unset, .unset, .unset, .unset, .unset] [] by first | (simp [entryFrame, mkF, argsToLocals, Value.category, maxLocals]; done) | rfl) ?_
  intro p e s m below meth c s₁ hx hby hml hown hnm hret hlk hZ X0 e0
  have hml : c.maxLocals = 21 := hml
  have N0 := Fr.nil n0
  show Run p e below s _ _ _ (s₁.setTop (mkF m 0 #[.val (.long ka), .second, .val (.long kb), .second, .val (.long kc), .second, .val (.long ot), .second, .val (.int oq), .unset, .unset, .unset, .unset, .unset, .unset, .unset, .unset, .unset, .unset, .unset, .unset] []))
  refine Run.pre (fun _ k => XS.iload X0.here hx rfl (hb hby at_0) rfl  k) ?_
  refine Run.pre (fun _ k => XS.iconst X0.here hx rfl (hb hby at_2) k) ?_
  refine Run.pre (fun _ k => XS.iand X0.here hx rfl (hb hby at_3) rfl k) ?_
  have KJ1017 : Run p e below s (fun v h L => v = some (.int 1) ∧ Fr n0 L) room_1.cells room_1.slots (s₁.setTop (mkF m 12 #[.val (.long ka), .second, .val (.long kb), .second, .val (.long kc), .second, .val (.long ot), .second, .val (.int oq), .unset, .unset, .unset, .unset, .unset, .unset, .unset, .unset, .unset, .unset, .unset, .unset] [(.int (own_nz (oq &&& (1 : Int32))))])) := by
    refine Run.pre (fun _ k => XS.istore X0.here hx rfl (hb hby at_12) rfl (l' := #[.val (.long ka), .second, .val (.long kb), .second, .val (.long kc), .second, .val (.long ot), .second, .val (.int oq), .val (.int (own_nz (oq &&& (1 : Int32)))), .unset, .unset, .unset, .unset, .unset, .unset, .unset, .unset, .unset, .unset, .unset]) rfl k) ?_
    refine Run.pre (fun _ k => XS.iload X0.here hx rfl (hb hby at_14) rfl  k) ?_
    show Run p e below s _ _ _ (s₁.setTop (mkF m 16 #[.val (.long ka), .second, .val (.long kb), .second, .val (.long kc), .second, .val (.long ot), .second, .val (.int oq), .val (.int (own_nz (oq &&& (1 : Int32)))), .unset, .unset, .unset, .unset, .unset, .unset, .unset, .unset, .unset, .unset, .unset] [(.int oq)]))
    refine Run.pre (fun _ k => XS.iconst X0.here hx rfl (hb hby at_16) k) ?_
    refine Run.pre (fun _ k => XS.iand X0.here hx rfl (hb hby at_17) rfl k) ?_
    have KJ1019 : Run p e below s (fun v h L => v = some (.int 1) ∧ Fr n0 L) room_1.cells room_1.slots (s₁.setTop (mkF m 26 #[.val (.long ka), .second, .val (.long kb), .second, .val (.long kc), .second, .val (.long ot), .second, .val (.int oq), .val (.int (own_nz (oq &&& (1 : Int32)))), .unset, .unset, .unset, .unset, .unset, .unset, .unset, .unset, .unset, .unset, .unset] [(.int (own_nz (oq &&& (2 : Int32))))])) := by
      refine Run.pre (fun _ k => XS.istore X0.here hx rfl (hb hby at_26) rfl (l' := #[.val (.long ka), .second, .val (.long kb), .second, .val (.long kc), .second, .val (.long ot), .second, .val (.int oq), .val (.int (own_nz (oq &&& (1 : Int32)))), .val (.int (own_nz (oq &&& (2 : Int32)))), .unset, .unset, .unset, .unset, .unset, .unset, .unset, .unset, .unset, .unset]) rfl k) ?_
      refine Run.pre (fun _ k => XS.iload X0.here hx rfl (hb hby at_28) rfl  k) ?_
      refine Run.pre (fun _ k => XS.iconst X0.here hx rfl (hb hby at_30) k) ?_
      show Run p e below s _ _ _ (s₁.setTop (mkF m 31 #[.val (.long ka), .second, .val (.long kb), .second, .val (.long kc), .second, .val (.long ot), .second, .val (.int oq), .val (.int (own_nz (oq &&& (1 : Int32)))), .val (.int (own_nz (oq &&& (2 : Int32)))), .unset, .unset, .unset, .unset, .unset, .unset, .unset, .unset, .unset, .unset] [(.int (4 : Int32)), (.int oq)]))
      refine Run.pre (fun _ k => XS.iand X0.here hx rfl (hb hby at_31) rfl k) ?_
      have KJ1021 : Run p e below s (fun v h L => v = some (.int 1) ∧ Fr n0 L) room_1.cells room_1.slots (s₁.setTop (mkF m 40 #[.val (.long ka), .second, .val (.long kb), .second, .val (.long kc), .second, .val (.long ot), .second, .val (.int oq), .val (.int (own_nz (oq &&& (1 : Int32)))), .val (.int (own_nz (oq &&& (2 : Int32)))), .unset, .unset, .unset, .unset, .unset, .unset, .unset, .unset, .unset, .unset] [(.int (own_nz (oq &&& (4 : Int32))))])) := by
        refine Run.pre (fun _ k => XS.istore X0.here hx rfl (hb hby at_40) rfl (l' := #[.val (.long ka), .second, .val (.long kb), .second, .val (.long kc), .second, .val (.long ot), .second, .val (.int oq), .val (.int (own_nz (oq &&& (1 : Int32)))), .val (.int (own_nz (oq &&& (2 : Int32)))), .val (.int (own_nz (oq &&& (4 : Int32)))), .unset, .unset, .unset, .unset, .unset, .unset, .unset, .unset, .unset]) rfl k) ?_
        refine Run.pre (fun _ k => XS.iload X0.here hx rfl (hb hby at_42) rfl  k) ?_
        refine Run.pre (fun _ k => XS.iconst X0.here hx rfl (hb hby at_44) k) ?_
        refine Run.pre (fun _ k => XS.iushr X0.here hx rfl (hb hby at_45) rfl k) ?_
        show Run p e below s _ _ _ (s₁.setTop (mkF m 46 #[.val (.long ka), .second, .val (.long kb), .second, .val (.long kc), .second, .val (.long ot), .second, .val (.int oq), .val (.int (own_nz (oq &&& (1 : Int32)))), .val (.int (own_nz (oq &&& (2 : Int32)))), .val (.int (own_nz (oq &&& (4 : Int32)))), .unset, .unset, .unset, .unset, .unset, .unset, .unset, .unset, .unset] [(.int ((oq.toUInt32 >>> ((3 : Int32) &&& 31).toUInt32).toInt32))]))
        refine Run.pre (fun _ k => XS.iconst X0.here hx rfl (hb hby at_46) k) ?_
        refine Run.pre (fun _ k => XS.iand X0.here hx rfl (hb hby at_47) rfl k) ?_
        refine Run.pre (fun _ k => XS.istore X0.here hx rfl (hb hby at_48) rfl (l' := #[.val (.long ka), .second, .val (.long kb), .second, .val (.long kc), .second, .val (.long ot), .second, .val (.int oq), .val (.int (own_nz (oq &&& (1 : Int32)))), .val (.int (own_nz (oq &&& (2 : Int32)))), .val (.int (own_nz (oq &&& (4 : Int32)))), .val (.int (((oq.toUInt32 >>> ((3 : Int32) &&& 31).toUInt32).toInt32) &&& (3 : Int32))), .unset, .unset, .unset, .unset, .unset, .unset, .unset, .unset]) rfl k) ?_
        refine Run.pre (fun _ k => XS.iload X0.here hx rfl (hb hby at_50) rfl  k) ?_
        have KJ1023 : Run p e below s (fun v h L => v = some (.int 1) ∧ Fr n0 L) room_1.cells room_1.slots (s₁.setTop (mkF m 60 #[.val (.long ka), .second, .val (.long kb), .second, .val (.long kc), .second, .val (.long ot), .second, .val (.int oq), .val (.int (own_nz (oq &&& (1 : Int32)))), .val (.int (own_nz (oq &&& (2 : Int32)))), .val (.int (own_nz (oq &&& (4 : Int32)))), .val (.int (((oq.toUInt32 >>> ((3 : Int32) &&& 31).toUInt32).toInt32) &&& (3 : Int32))), .unset, .unset, .unset, .unset, .unset, .unset, .unset, .unset] [(.int (own_nz (((oq.toUInt32 >>> ((3 : Int32) &&& 31).toUInt32).toInt32) &&& (3 : Int32))))])) := by
          refine Run.pre (fun _ k => XS.istore X0.here hx rfl (hb hby at_60) rfl (l' := #[.val (.long ka), .second, .val (.long kb), .second, .val (.long kc), .second, .val (.long ot), .second, .val (.int oq), .val (.int (own_nz (oq &&& (1 : Int32)))), .val (.int (own_nz (oq &&& (2 : Int32)))), .val (.int (own_nz (oq &&& (4 : Int32)))), .val (.int (((oq.toUInt32 >>> ((3 : Int32) &&& 31).toUInt32).toInt32) &&& (3 : Int32))), .val (.int (own_nz (((oq.toUInt32 >>> ((3 : Int32) &&& 31).toUInt32).toInt32) &&& (3 : Int32)))), .unset, .unset, .unset, .unset, .unset, .unset, .unset]) rfl k) ?_
          show Run p e below s _ _ _ (s₁.setTop (mkF m 62 #[.val (.long ka), .second, .val (.long kb), .second, .val (.long kc), .second, .val (.long ot), .second, .val (.int oq), .val (.int (own_nz (oq &&& (1 : Int32)))), .val (.int (own_nz (oq &&& (2 : Int32)))), .val (.int (own_nz (oq &&& (4 : Int32)))), .val (.int (((oq.toUInt32 >>> ((3 : Int32) &&& 31).toUInt32).toInt32) &&& (3 : Int32))), .val (.int (own_nz (((oq.toUInt32 >>> ((3 : Int32) &&& 31).toUInt32).toInt32) &&& (3 : Int32)))), .unset, .unset, .unset, .unset, .unset, .unset, .unset] []))
          refine Run.pre (fun _ k => XS.iload X0.here hx rfl (hb hby at_62) rfl  k) ?_
          refine Run.pre (fun _ k => XS.iconst X0.here hx rfl (hb hby at_64) k) ?_
          have KJ1025 : Run p e below s (fun v h L => v = some (.int 1) ∧ Fr n0 L) room_1.cells room_1.slots (s₁.setTop (mkF m 84 #[.val (.long ka), .second, .val (.long kb), .second, .val (.long kc), .second, .val (.long ot), .second, .val (.int oq), .val (.int (own_nz (oq &&& (1 : Int32)))), .val (.int (own_nz (oq &&& (2 : Int32)))), .val (.int (own_nz (oq &&& (4 : Int32)))), .val (.int (((oq.toUInt32 >>> ((3 : Int32) &&& 31).toUInt32).toInt32) &&& (3 : Int32))), .val (.int (own_nz (((oq.toUInt32 >>> ((3 : Int32) &&& 31).toUInt32).toInt32) &&& (3 : Int32)))), .unset, .unset, .unset, .unset, .unset, .unset, .unset] [(.long (own_tt (((oq.toUInt32 >>> ((3 : Int32) &&& 31).toUInt32).toInt32) &&& (3 : Int32)) ka kb kc))])) := by
            refine Run.pre (fun _ k => XS.lstore X0.here hx rfl (hb hby at_84) rfl (l' := #[.val (.long ka), .second, .val (.long kb), .second, .val (.long kc), .second, .val (.long ot), .second, .val (.int oq), .val (.int (own_nz (oq &&& (1 : Int32)))), .val (.int (own_nz (oq &&& (2 : Int32)))), .val (.int (own_nz (oq &&& (4 : Int32)))), .val (.int (((oq.toUInt32 >>> ((3 : Int32) &&& 31).toUInt32).toInt32) &&& (3 : Int32))), .val (.int (own_nz (((oq.toUInt32 >>> ((3 : Int32) &&& 31).toUInt32).toInt32) &&& (3 : Int32)))), .val (.long (own_tt (((oq.toUInt32 >>> ((3 : Int32) &&& 31).toUInt32).toInt32) &&& (3 : Int32)) ka kb kc)), .second, .unset, .unset, .unset, .unset, .unset]) rfl k) ?_
            refine Run.pre (fun _ k => XS.iload X0.here hx rfl (hb hby at_86) rfl  k) ?_
            refine Run.pre (fun _ k => XS.bipush X0.here hx rfl (hb hby at_88) k) ?_
            show Run p e below s _ _ _ (s₁.setTop (mkF m 90 #[.val (.long ka), .second, .val (.long kb), .second, .val (.long kc), .second, .val (.long ot), .second, .val (.int oq), .val (.int (own_nz (oq &&& (1 : Int32)))), .val (.int (own_nz (oq &&& (2 : Int32)))), .val (.int (own_nz (oq &&& (4 : Int32)))), .val (.int (((oq.toUInt32 >>> ((3 : Int32) &&& 31).toUInt32).toInt32) &&& (3 : Int32))), .val (.int (own_nz (((oq.toUInt32 >>> ((3 : Int32) &&& 31).toUInt32).toInt32) &&& (3 : Int32)))), .val (.long (own_tt (((oq.toUInt32 >>> ((3 : Int32) &&& 31).toUInt32).toInt32) &&& (3 : Int32)) ka kb kc)), .second, .unset, .unset, .unset, .unset, .unset] [(.int (32 : Int32)), (.int oq)]))
            refine Run.pre (fun _ k => XS.iand X0.here hx rfl (hb hby at_90) rfl k) ?_
            have KJ1027 : Run p e below s (fun v h L => v = some (.int 1) ∧ Fr n0 L) room_1.cells room_1.slots (s₁.setTop (mkF m 99 #[.val (.long ka), .second, .val (.long kb), .second, .val (.long kc), .second, .val (.long ot), .second, .val (.int oq), .val (.int (own_nz (oq &&& (1 : Int32)))), .val (.int (own_nz (oq &&& (2 : Int32)))), .val (.int (own_nz (oq &&& (4 : Int32)))), .val (.int (((oq.toUInt32 >>> ((3 : Int32) &&& 31).toUInt32).toInt32) &&& (3 : Int32))), .val (.int (own_nz (((oq.toUInt32 >>> ((3 : Int32) &&& 31).toUInt32).toInt32) &&& (3 : Int32)))), .val (.long (own_tt (((oq.toUInt32 >>> ((3 : Int32) &&& 31).toUInt32).toInt32) &&& (3 : Int32)) ka kb kc)), .second, .unset, .unset, .unset, .unset, .unset] [(.int (own_nz (oq &&& (32 : Int32))))])) := by
              refine Run.pre (fun _ k => XS.istore X0.here hx rfl (hb hby at_99) rfl (l' := #[.val (.long ka), .second, .val (.long kb), .second, .val (.long kc), .second, .val (.long ot), .second, .val (.int oq), .val (.int (own_nz (oq &&& (1 : Int32)))), .val (.int (own_nz (oq &&& (2 : Int32)))), .val (.int (own_nz (oq &&& (4 : Int32)))), .val (.int (((oq.toUInt32 >>> ((3 : Int32) &&& 31).toUInt32).toInt32) &&& (3 : Int32))), .val (.int (own_nz (((oq.toUInt32 >>> ((3 : Int32) &&& 31).toUInt32).toInt32) &&& (3 : Int32)))), .val (.long (own_tt (((oq.toUInt32 >>> ((3 : Int32) &&& 31).toUInt32).toInt32) &&& (3 : Int32)) ka kb kc)), .second, .val (.int (own_nz (oq &&& (32 : Int32)))), .unset, .unset, .unset, .unset]) rfl k) ?_
              show Run p e below s _ _ _ (s₁.setTop (mkF m 101 #[.val (.long ka), .second, .val (.long kb), .second, .val (.long kc), .second, .val (.long ot), .second, .val (.int oq), .val (.int (own_nz (oq &&& (1 : Int32)))), .val (.int (own_nz (oq &&& (2 : Int32)))), .val (.int (own_nz (oq &&& (4 : Int32)))), .val (.int (((oq.toUInt32 >>> ((3 : Int32) &&& 31).toUInt32).toInt32) &&& (3 : Int32))), .val (.int (own_nz (((oq.toUInt32 >>> ((3 : Int32) &&& 31).toUInt32).toInt32) &&& (3 : Int32)))), .val (.long (own_tt (((oq.toUInt32 >>> ((3 : Int32) &&& 31).toUInt32).toInt32) &&& (3 : Int32)) ka kb kc)), .second, .val (.int (own_nz (oq &&& (32 : Int32)))), .unset, .unset, .unset, .unset] []))
              obtain ⟨vA, e_vA⟩ : ∃ z, z = (own_nz (oq &&& (1 : Int32))) := ⟨_, rfl⟩
              rw [← e_vA]
              obtain ⟨vB, e_vB⟩ : ∃ z, z = (own_nz (oq &&& (2 : Int32))) := ⟨_, rfl⟩
              rw [← e_vB]
              obtain ⟨vC, e_vC⟩ : ∃ z, z = (own_nz (oq &&& (4 : Int32))) := ⟨_, rfl⟩
              rw [← e_vC]
              obtain ⟨vR, e_vR⟩ : ∃ z, z = (own_nz (((oq.toUInt32 >>> ((3 : Int32) &&& 31).toUInt32).toInt32) &&& (3 : Int32))) := ⟨_, rfl⟩
              rw [← e_vR]
              obtain ⟨tt, e_tt⟩ : ∃ z, z = (own_tt (((oq.toUInt32 >>> ((3 : Int32) &&& 31).toUInt32).toInt32) &&& (3 : Int32)) ka kb kc) := ⟨_, rfl⟩
              rw [← e_tt]
              obtain ⟨vL, e_vL⟩ : ∃ z, z = (own_nz (oq &&& (32 : Int32))) := ⟨_, rfl⟩
              rw [← e_vL]
              obtain ⟨rq, e_rq⟩ : ∃ z, z = (((oq.toUInt32 >>> ((3 : Int32) &&& 31).toUInt32).toInt32) &&& (3 : Int32)) := ⟨_, rfl⟩
              rw [← e_rq]
              clear e_vA e_vB e_vC e_vR e_tt e_vL e_rq
              obtain ⟨T1028, h1028, X1028, e1028, E1028, A1028, D1028, -, st1028⟩ := newO X0 hx hZ hown (hwi hw 0 rfl) (hwi hw 1 rfl) (hwi hw 2 rfl) e0 (g := (mkF m 101 #[.val (.long ka), .second, .val (.long kb), .second, .val (.long kc), .second, .val (.long ot), .second, .val (.int oq), .val (.int vA), .val (.int vB), .val (.int vC), .val (.int rq), .val (.int vR), .val (.long tt), .second, .val (.int vL), .unset, .unset, .unset, .unset] [])) rfl (hb hby at_101) (by decide) (by decide)
              obtain ⟨b1028, g1028⟩ : ∃ z, z = h0.size := ⟨_, rfl⟩
              rw [← g1028] at A1028 D1028 st1028
              refine Run.pre st1028 ?_
              have gn_b1028 : n0 ≤ b1028 := Nat.le_trans (Nat.le_trans Z0 (Keep.refl h0 []).1) (Nat.le_of_eq g1028.symm)
              have sz_b1028 : h0.size ≤ b1028 := Nat.le_trans (Keep.refl h0 []).1 (Nat.le_of_eq g1028.symm)
              have K1028 : Keep h0 h1028 [] := (Keep.refl h0 []).ext E1028
              have F_offsets_b1028 : Fld Z h1028 b1028 "com/example/manana/manana/storage/WaitingTable" "offsets" "[J" .null := D1028 (Or.inl (hwi hw 11 rfl)) (ty := (.array .long)) (by decide)
              have F_dues_b1028 : Fld Z h1028 b1028 "com/example/manana/manana/storage/WaitingTable" "dues" "[J" .null := D1028 (Or.inl (hwi hw 13 rfl)) (ty := (.array .long)) (by decide)
              have F_lengths_b1028 : Fld Z h1028 b1028 "com/example/manana/manana/storage/WaitingTable" "lengths" "[I" .null := D1028 (Or.inl (hwi hw 16 rfl)) (ty := (.array .int)) (by decide)
              have F_queues_b1028 : Fld Z h1028 b1028 "com/example/manana/manana/storage/WaitingTable" "queues" "[I" .null := D1028 (Or.inl (hwi hw 18 rfl)) (ty := (.array .int)) (by decide)
              have F_held_b1028 : Fld Z h1028 b1028 "com/example/manana/manana/storage/WaitingTable" "held" "[Z" .null := D1028 (Or.inl (hwi hw 21 rfl)) (ty := (.array .boolean)) (by decide)
              have F_size_b1028 : Fld Z h1028 b1028 "com/example/manana/manana/storage/WaitingTable" "size" "I" (.int (0 : Int32)) := D1028 (Or.inl (hwi hw 28 rfl)) (ty := .int) (by decide)
              have F_end_b1028 : Fld Z h1028 b1028 "com/example/manana/manana/storage/WaitingTable" "end" "I" (.int (0 : Int32)) := D1028 (Or.inl (hwi hw 35 rfl)) (ty := .int) (by decide)
              have F_first_b1028 : Fld Z h1028 b1028 "com/example/manana/manana/storage/WaitingTable" "first" "I" (.int (0 : Int32)) := D1028 (Or.inl (hwi hw 37 rfl)) (ty := .int) (by decide)
              refine Run.pre (fun _ k => XS.dup X1028.here hx rfl (hb hby at_104) rfl rfl k) ?_
              refine Run.callI X1028 hx hZ (y := (⟨"com/example/manana/manana/storage/WaitingTable", "<init>", "()V"⟩ : MethodName)) rfl hown (hwi hw 3 rfl) (hwi hw 4 rfl) (hwi hw 5 rfl) (hwi hw 2 rfl) (by decide) (a := b1028) (W := 1) (rmWT l Z a0 hw b1028 h1028 n0 (Nat.le_trans Z0 K1028.1) A1028 F_offsets_b1028 F_dues_b1028 F_lengths_b1028 F_queues_b1028 F_held_b1028 F_first_b1028 F_end_b1028 F_size_b1028 gn_b1028) e1028 (by decide) (by decide) (by decide) (by decide) (g := (mkF m 105 #[.val (.long ka), .second, .val (.long kb), .second, .val (.long kc), .second, .val (.long ot), .second, .val (.int oq), .val (.int vA), .val (.int vB), .val (.int vC), .val (.int rq), .val (.int vR), .val (.long tt), .second, .val (.int vL), .unset, .unset, .unset, .unset] [(.ref b1028), (.ref b1028)])) rfl (by rw [hml]; rfl) (argsL := []) (rest := [(.ref b1028)]) (lenOf pd_5 rfl) rfl (by show 2 * 0 + _ ≤ _; exact Nat.le_of_eq rfl) (hb hby at_105) ?_
              intro v1029 T1029 L1029 X1029 hQ1029
              obtain ⟨xo1029, xd1029, xl1029, xq1029, xh1029, ko1029, kd1029, kl1029, kq1029, kh1029, rfl, Nq1029, Kc1029, sxo1029, sxd1029, sxl1029, sxq1029, sxh1029, hD1029, hH1029⟩ := hQ1029
              have N1029 := Fr.app N0 Nq1029
              have K1029 : Keep h0 T1029.heap [] := K1028.trans Kc1029 (allS (Or.inr sz_b1028) all0)
              have sz_xo1029 : h0.size ≤ xo1029 := Nat.le_trans K1028.1 sxo1029
              have gn_xo1029 : n0 ≤ xo1029 := Nat.le_trans Z0 sz_xo1029
              have sz_xd1029 : h0.size ≤ xd1029 := Nat.le_trans K1028.1 sxd1029
              have gn_xd1029 : n0 ≤ xd1029 := Nat.le_trans Z0 sz_xd1029
              have sz_xl1029 : h0.size ≤ xl1029 := Nat.le_trans K1028.1 sxl1029
              have gn_xl1029 : n0 ≤ xl1029 := Nat.le_trans Z0 sz_xl1029
              have sz_xq1029 : h0.size ≤ xq1029 := Nat.le_trans K1028.1 sxq1029
              have gn_xq1029 : n0 ≤ xq1029 := Nat.le_trans Z0 sz_xq1029
              have sz_xh1029 : h0.size ≤ xh1029 := Nat.le_trans K1028.1 sxh1029
              have gn_xh1029 : n0 ≤ xh1029 := Nat.le_trans Z0 sz_xh1029
              show Run p e below s _ _ _ (T1029.setTop (mkF m 108 #[.val (.long ka), .second, .val (.long kb), .second, .val (.long kc), .second, .val (.long ot), .second, .val (.int oq), .val (.int vA), .val (.int vB), .val (.int vC), .val (.int rq), .val (.int vR), .val (.long tt), .second, .val (.int vL), .unset, .unset, .unset, .unset] [(.ref b1028)]))
              refine Run.pre (fun _ k => XS.astore X1029.here hx rfl (hb hby at_108) rfl rfl (l' := #[.val (.long ka), .second, .val (.long kb), .second, .val (.long kc), .second, .val (.long ot), .second, .val (.int oq), .val (.int vA), .val (.int vB), .val (.int vC), .val (.int rq), .val (.int vR), .val (.long tt), .second, .val (.int vL), .val (.ref b1028), .unset, .unset, .unset]) rfl k) ?_
              refine Run.pre (fun _ k => XS.aload X1029.here hx rfl (hb hby at_110) rfl rfl k) ?_
              refine Run.pre (fun _ k => XS.lload X1029.here hx rfl (hb hby at_112) rfl  k) ?_
              have f1031 := (A1028.keep Kc1029)
              refine Run.callV X1029 hx hZ (y := (⟨"com/example/manana/manana/storage/WaitingTable", "lowest", "(J)J"⟩ : MethodName)) (z := (⟨"com/example/manana/manana/storage/WaitingTable", "lowest", "(J)J"⟩ : MethodName)) hown (hwi hw 22 rfl) (hwi hw 23 rfl) (notFace_of_selects (args := #[]) (mvT hZ (hwi hw 25 rfl))) (hwi hw 25 rfl) (hwi hw 24 rfl) (hwi hw 26 rfl) (hwi hw 2 rfl) (by decide) (b := b1028) f1031 (W := 0) (rmLow l Z a0 hw b1028 xo1029 xd1029 xl1029 xq1029 xh1029 ko1029 kd1029 kl1029 kq1029 kh1029 (0 : Int64) (0 : Int64) (0 : Int64) (0 : Int64) (0 : Int64) (0 : Int64) (0 : Int32) (0 : Int32) (0 : Int32) (0 : Int32) (0 : Int32) (0 : Int32) (0 : Int32) (0 : Int32) (0 : Int32) (0 : Int32) (0 : Int32) (0 : Int32) ot own_F T1029.heap n0 (Nat.le_trans Z0 K1029.1) hH1029 (Or.inl ⟨rfl, rfl, rfl, rfl, rfl, rfl, fun x => Iff.rfl⟩ : own_R 0 0 0 0 0 0 0 0 0 own_F)) rfl (by decide) (by decide) (by decide) (by decide) (g := (mkF m 114 #[.val (.long ka), .second, .val (.long kb), .second, .val (.long kc), .second, .val (.long ot), .second, .val (.int oq), .val (.int vA), .val (.int vB), .val (.int vC), .val (.int rq), .val (.int vR), .val (.long tt), .second, .val (.int vL), .val (.ref b1028), .unset, .unset, .unset] [(.long ot), (.ref b1028)])) rfl (by rw [hml]; rfl) (argsL := [(.long ot)]) (rest := []) (lenOf pd_6 rfl) rfl (by show 2 * 0 + _ ≤ _; exact Nat.le_of_eq rfl) (hb hby at_114) ?_
              intro v1030 T1030 L1030 X1030 hQ1030
              obtain ⟨y1030, rfl, Nq1030, he1030, lw1030⟩ := hQ1030
              have N1030 := Fr.app N1029 Nq1030
              have e1030 : T1030.heap = T1029.heap := he1030
              show Run p e below s _ _ _ (T1030.setTop (mkF m 117 #[.val (.long ka), .second, .val (.long kb), .second, .val (.long kc), .second, .val (.long ot), .second, .val (.int oq), .val (.int vA), .val (.int vB), .val (.int vC), .val (.int rq), .val (.int vR), .val (.long tt), .second, .val (.int vL), .val (.ref b1028), .unset, .unset, .unset] [(.long y1030)]))
              have hyo := lw1030.elim (fun q => q.2) (fun q => q.1.elim)
              rw [hyo]
              refine Run.pre (fun _ k => XS.lload X1030.here hx rfl (hb hby at_117) rfl  k) ?_
              refine Run.pre (fun _ k => XS.lcmp X1030.here hx rfl (hb hby at_119) rfl k) ?_
              show Run p e below s _ _ _ (T1030.setTop (mkF m 120 #[.val (.long ka), .second, .val (.long kb), .second, .val (.long kc), .second, .val (.long ot), .second, .val (.int oq), .val (.int vA), .val (.int vB), .val (.int vC), .val (.int rq), .val (.int vR), .val (.long tt), .second, .val (.int vL), .val (.ref b1028), .unset, .unset, .unset] [(.int (lcmpW ot ot))]))
              refine Run.pre (fun _ k => XS.ifYes X1030.here hx rfl (pc0 := 120) (pc' := 125) rfl (hb hby at_120) rfl ((if0 _ _).trans (teq (((lw_eq _ _).mpr rfl) : (lcmpW ot ot) = (0 : Int32))).1) (by decide) (by decide) k) ?_
              show Run p e below s _ _ _ (T1030.setTop (mkF m 125 #[.val (.long ka), .second, .val (.long kb), .second, .val (.long kc), .second, .val (.long ot), .second, .val (.int oq), .val (.int vA), .val (.int vB), .val (.int vC), .val (.int rq), .val (.int vR), .val (.long tt), .second, .val (.int vL), .val (.ref b1028), .unset, .unset, .unset] []))
              have GL207 : ∀ (p0 : Int64) (p1 : Int64) (p2 : Int64) (d0 : Int64) (d1 : Int64) (d2 : Int64) (l0 : Int32) (l1 : Int32) (l2 : Int32) (q0 : Int32) (q1 : Int32) (q2 : Int32) (b0 : Int32) (b1 : Int32) (b2 : Int32) (fi : Int32) (en : Int32) (si : Int32) (S : Int64 → Prop) (TGL207 : State) (LcGL207 : List Loc) (hGL207 : Heap), (Stand p l e room_1 s m #[(.long ka), (.long kb), (.long kc), (.long ot), (.int oq)] below meth c TGL207 LcGL207 6 88) → (TGL207.heap = hGL207) → (Fr n0 LcGL207) → (Keep h0 hGL207 []) → (own_H Z hGL207 b1028 xo1029 xd1029 xl1029 xq1029 xh1029 ko1029 kd1029 kl1029 kq1029 kh1029 p0 p1 p2 d0 d1 d2 l0 l1 l2 q0 q1 q2 b0 b1 b2 fi en si) → (own_R p0 p1 p2 b0 b1 b2 fi en si S) → (∀ x, S x ↔ own_A5 vA vB vC vR vL ka kb kc tt x) → Run p e below s (fun v h L => v = some (.int 1) ∧ Fr n0 L) room_1.cells room_1.slots (TGL207.setTop (mkF m 207 #[.val (.long ka), .second, .val (.long kb), .second, .val (.long kc), .second, .val (.long ot), .second, .val (.int oq), .val (.int vA), .val (.int vB), .val (.int vC), .val (.int rq), .val (.int vR), .val (.long tt), .second, .val (.int vL), .val (.ref b1028), .unset, .unset, .unset] [])) := by
                intro p0 p1 p2 d0 d1 d2 l0 l1 l2 q0 q1 q2 b0 b1 b2 fi en si S TGL207 LcGL207 hGL207 XGL207 eGL207 NGL207 KGL207 hH hR hS
                refine Run.pre (fun _ k => XS.lload XGL207.here hx rfl (hb hby at_207) rfl  k) ?_
                refine Run.pre (fun _ k => XS.lstore XGL207.here hx rfl (hb hby at_209) rfl (l' := #[.val (.long ka), .second, .val (.long kb), .second, .val (.long kc), .second, .val (.long ot), .second, .val (.int oq), .val (.int vA), .val (.int vB), .val (.int vC), .val (.int rq), .val (.int vR), .val (.long tt), .second, .val (.int vL), .val (.ref b1028), .val (.long ot), .second, .unset]) rfl k) ?_
                refine Run.pre (fun _ k => XS.iconst XGL207.here hx rfl (hb hby at_211) k) ?_
                refine Run.pre (fun _ k => XS.istore XGL207.here hx rfl (hb hby at_212) rfl (l' := #[.val (.long ka), .second, .val (.long kb), .second, .val (.long kc), .second, .val (.long ot), .second, .val (.int oq), .val (.int vA), .val (.int vB), .val (.int vC), .val (.int rq), .val (.int vR), .val (.long tt), .second, .val (.int vL), .val (.ref b1028), .val (.long ot), .second, .val (.int (0 : Int32))]) rfl k) ?_
                refine Run.pre (fun _ k => XS.lloadN XGL207.here hx rfl (hb hby at_214) rfl  k) ?_
                show Run p e below s _ _ _ (TGL207.setTop (mkF m 215 #[.val (.long ka), .second, .val (.long kb), .second, .val (.long kc), .second, .val (.long ot), .second, .val (.int oq), .val (.int vA), .val (.int vB), .val (.int vC), .val (.int rq), .val (.int vR), .val (.long tt), .second, .val (.int vL), .val (.ref b1028), .val (.long ot), .second, .val (.int (0 : Int32))] [(.long ka)]))
                refine Run.pre (fun _ k => XS.lloadN XGL207.here hx rfl (hb hby at_215) rfl  k) ?_
                refine Run.pre (fun _ k => XS.lloadN XGL207.here hx rfl (hb hby at_216) rfl  k) ?_
                refine Run.pre (fun _ k => XS.lload XGL207.here hx rfl (hb hby at_217) rfl  k) ?_
                refine Run.pre (fun _ k => XS.iload XGL207.here hx rfl (hb hby at_219) rfl  k) ?_
                refine Run.pre (fun _ k => XS.iload XGL207.here hx rfl (hb hby at_221) rfl  k) ?_
                refine Run.pre (fun _ k => XS.iload XGL207.here hx rfl (hb hby at_223) rfl  k) ?_
                show Run p e below s _ _ _ (TGL207.setTop (mkF m 225 #[.val (.long ka), .second, .val (.long kb), .second, .val (.long kc), .second, .val (.long ot), .second, .val (.int oq), .val (.int vA), .val (.int vB), .val (.int vC), .val (.int rq), .val (.int vR), .val (.long tt), .second, .val (.int vL), .val (.ref b1028), .val (.long ot), .second, .val (.int (0 : Int32))] [(.int vC), (.int vB), (.int vA), (.long kc), (.long kb), (.long ka), (.long ka)]))
                refine Run.pre (fun _ k => XS.iload XGL207.here hx rfl (hb hby at_225) rfl  k) ?_
                refine Run.pre (fun _ k => XS.iload XGL207.here hx rfl (hb hby at_227) rfl  k) ?_
                refine Run.pre (fun _ k => XS.lload XGL207.here hx rfl (hb hby at_229) rfl  k) ?_
                refine Run.callS XGL207 hx hZ (y := (⟨"com/example/manana/manana/storage/WaitingTableLowestPinLaw", "member", "(JJJJZZZZZJ)Z"⟩ : MethodName)) hown (hwi hw 64 rfl) (hwi hw 65 rfl) (hwi hw 66 rfl) (hwi hw 67 rfl) (by decide) (W := 0) (rmMem l Z a0 hw ka ka kb kc vA vB vC vR vL tt hGL207 n0 (Nat.le_trans Z0 KGL207.1)) eGL207 (by decide) (by decide) (by decide) (by decide) (g := (mkF m 231 #[.val (.long ka), .second, .val (.long kb), .second, .val (.long kc), .second, .val (.long ot), .second, .val (.int oq), .val (.int vA), .val (.int vB), .val (.int vC), .val (.int rq), .val (.int vR), .val (.long tt), .second, .val (.int vL), .val (.ref b1028), .val (.long ot), .second, .val (.int (0 : Int32))] [(.long tt), (.int vL), (.int vR), (.int vC), (.int vB), (.int vA), (.long kc), (.long kb), (.long ka), (.long ka)])) rfl (by rw [hml]; rfl) (argsL := [(.long ka), (.long ka), (.long kb), (.long kc), (.int vA), (.int vB), (.int vC), (.int vR), (.int vL), (.long tt)]) (rest := []) (lenOf pd_7 rfl) rfl (by show 2 * 0 + _ ≤ _; exact Nat.le_of_eq rfl) (hb hby at_231) ?_
                intro v1032 T1032 L1032 X1032 hQ1032
                obtain ⟨r1032, rfl, Nq1032, he1032, mm1032⟩ := hQ1032
                have N1032 := Fr.app NGL207 Nq1032
                have e1032 : T1032.heap = hGL207 := he1032
                show Run p e below s _ _ _ (T1032.setTop (mkF m 234 #[.val (.long ka), .second, .val (.long kb), .second, .val (.long kc), .second, .val (.long ot), .second, .val (.int oq), .val (.int vA), .val (.int vB), .val (.int vC), .val (.int rq), .val (.int vR), .val (.long tt), .second, .val (.int vL), .val (.ref b1028), .val (.long ot), .second, .val (.int (0 : Int32))] [(.int r1032)]))
                rcases mm1032 with ⟨rfl, mA⟩ | ⟨rfl, mA⟩
                · skip
                  refine Run.pre (fun _ k => XS.ifNo X1032.here hx rfl (hb hby at_234) rfl ((if0 _ _).trans (feq ((by decide) : ¬ ((1 : Int32) = (0 : Int32)))).1) k) ?_
                  refine Run.pre (fun _ k => XS.lloadN X1032.here hx rfl (hb hby at_237) rfl  k) ?_
                  show Run p e below s _ _ _ (T1032.setTop (mkF m 238 #[.val (.long ka), .second, .val (.long kb), .second, .val (.long kc), .second, .val (.long ot), .second, .val (.int oq), .val (.int vA), .val (.int vB), .val (.int vC), .val (.int rq), .val (.int vR), .val (.long tt), .second, .val (.int vL), .val (.ref b1028), .val (.long ot), .second, .val (.int (0 : Int32))] [(.long ka)]))
                  refine Run.pre (fun _ k => XS.lstore X1032.here hx rfl (hb hby at_238) rfl (l' := #[.val (.long ka), .second, .val (.long kb), .second, .val (.long kc), .second, .val (.long ot), .second, .val (.int oq), .val (.int vA), .val (.int vB), .val (.int vC), .val (.int rq), .val (.int vR), .val (.long tt), .second, .val (.int vL), .val (.ref b1028), .val (.long ka), .second, .val (.int (0 : Int32))]) rfl k) ?_
                  refine Run.pre (fun _ k => XS.iconst X1032.here hx rfl (hb hby at_240) k) ?_
                  refine Run.pre (fun _ k => XS.istore X1032.here hx rfl (hb hby at_241) rfl (l' := #[.val (.long ka), .second, .val (.long kb), .second, .val (.long kc), .second, .val (.long ot), .second, .val (.int oq), .val (.int vA), .val (.int vB), .val (.int vC), .val (.int rq), .val (.int vR), .val (.long tt), .second, .val (.int vL), .val (.ref b1028), .val (.long ka), .second, .val (.int (1 : Int32))]) rfl k) ?_
                  refine Run.pre (fun _ k => XS.lloadN X1032.here hx rfl (hb hby at_243) rfl  k) ?_
                  refine Run.pre (fun _ k => XS.lloadN X1032.here hx rfl (hb hby at_244) rfl  k) ?_
                  refine Run.pre (fun _ k => XS.lloadN X1032.here hx rfl (hb hby at_245) rfl  k) ?_
                  show Run p e below s _ _ _ (T1032.setTop (mkF m 246 #[.val (.long ka), .second, .val (.long kb), .second, .val (.long kc), .second, .val (.long ot), .second, .val (.int oq), .val (.int vA), .val (.int vB), .val (.int vC), .val (.int rq), .val (.int vR), .val (.long tt), .second, .val (.int vL), .val (.ref b1028), .val (.long ka), .second, .val (.int (1 : Int32))] [(.long kb), (.long ka), (.long kb)]))
                  refine Run.pre (fun _ k => XS.lload X1032.here hx rfl (hb hby at_246) rfl  k) ?_
                  refine Run.pre (fun _ k => XS.iload X1032.here hx rfl (hb hby at_248) rfl  k) ?_
                  refine Run.pre (fun _ k => XS.iload X1032.here hx rfl (hb hby at_250) rfl  k) ?_
                  refine Run.pre (fun _ k => XS.iload X1032.here hx rfl (hb hby at_252) rfl  k) ?_
                  refine Run.pre (fun _ k => XS.iload X1032.here hx rfl (hb hby at_254) rfl  k) ?_
                  refine Run.pre (fun _ k => XS.iload X1032.here hx rfl (hb hby at_256) rfl  k) ?_
                  show Run p e below s _ _ _ (T1032.setTop (mkF m 258 #[.val (.long ka), .second, .val (.long kb), .second, .val (.long kc), .second, .val (.long ot), .second, .val (.int oq), .val (.int vA), .val (.int vB), .val (.int vC), .val (.int rq), .val (.int vR), .val (.long tt), .second, .val (.int vL), .val (.ref b1028), .val (.long ka), .second, .val (.int (1 : Int32))] [(.int vL), (.int vR), (.int vC), (.int vB), (.int vA), (.long kc), (.long kb), (.long ka), (.long kb)]))
                  refine Run.pre (fun _ k => XS.lload X1032.here hx rfl (hb hby at_258) rfl  k) ?_
                  refine Run.callS X1032 hx hZ (y := (⟨"com/example/manana/manana/storage/WaitingTableLowestPinLaw", "member", "(JJJJZZZZZJ)Z"⟩ : MethodName)) hown (hwi hw 64 rfl) (hwi hw 65 rfl) (hwi hw 66 rfl) (hwi hw 67 rfl) (by decide) (W := 0) (rmMem l Z a0 hw kb ka kb kc vA vB vC vR vL tt hGL207 n0 (Nat.le_trans Z0 KGL207.1)) e1032 (by decide) (by decide) (by decide) (by decide) (g := (mkF m 260 #[.val (.long ka), .second, .val (.long kb), .second, .val (.long kc), .second, .val (.long ot), .second, .val (.int oq), .val (.int vA), .val (.int vB), .val (.int vC), .val (.int rq), .val (.int vR), .val (.long tt), .second, .val (.int vL), .val (.ref b1028), .val (.long ka), .second, .val (.int (1 : Int32))] [(.long tt), (.int vL), (.int vR), (.int vC), (.int vB), (.int vA), (.long kc), (.long kb), (.long ka), (.long kb)])) rfl (by rw [hml]; rfl) (argsL := [(.long kb), (.long ka), (.long kb), (.long kc), (.int vA), (.int vB), (.int vC), (.int vR), (.int vL), (.long tt)]) (rest := []) (lenOf pd_7 rfl) rfl (by show 2 * 0 + _ ≤ _; exact Nat.le_of_eq rfl) (hb hby at_260) ?_
                  intro v1033 T1033 L1033 X1033 hQ1033
                  obtain ⟨r1033, rfl, Nq1033, he1033, mm1033⟩ := hQ1033
                  have N1033 := Fr.app N1032 Nq1033
                  have e1033 : T1033.heap = hGL207 := he1033
                  show Run p e below s _ _ _ (T1033.setTop (mkF m 263 #[.val (.long ka), .second, .val (.long kb), .second, .val (.long kc), .second, .val (.long ot), .second, .val (.int oq), .val (.int vA), .val (.int vB), .val (.int vC), .val (.int rq), .val (.int vR), .val (.long tt), .second, .val (.int vL), .val (.ref b1028), .val (.long ka), .second, .val (.int (1 : Int32))] [(.int r1033)]))
                  rcases mm1033 with ⟨rfl, mB⟩ | ⟨rfl, mB⟩
                  · skip
                    refine Run.pre (fun _ k => XS.ifNo X1033.here hx rfl (hb hby at_263) rfl ((if0 _ _).trans (feq ((by decide) : ¬ ((1 : Int32) = (0 : Int32)))).1) k) ?_
                    refine Run.pre (fun _ k => XS.iload X1033.here hx rfl (hb hby at_266) rfl  k) ?_
                    refine Run.pre (fun _ k => XS.ifNo X1033.here hx rfl (hb hby at_268) rfl ((if0 _ _).trans (feq ((by decide) : ¬ ((1 : Int32) = (0 : Int32)))).1) k) ?_
                    refine Run.pre (fun _ k => XS.lload X1033.here hx rfl (hb hby at_271) rfl  k) ?_
                    show Run p e below s _ _ _ (T1033.setTop (mkF m 273 #[.val (.long ka), .second, .val (.long kb), .second, .val (.long kc), .second, .val (.long ot), .second, .val (.int oq), .val (.int vA), .val (.int vB), .val (.int vC), .val (.int rq), .val (.int vR), .val (.long tt), .second, .val (.int vL), .val (.ref b1028), .val (.long ka), .second, .val (.int (1 : Int32))] [(.long ka)]))
                    refine Run.pre (fun _ k => XS.lloadN X1033.here hx rfl (hb hby at_273) rfl  k) ?_
                    refine Run.callS X1033 hx hZ (y := (⟨"java/lang/Math", "min", "(JJ)J"⟩ : MethodName)) hown (hwi hw 68 rfl) (hwi hw 69 rfl) (hwi hw 40 rfl) (hwi hw 70 rfl) (by decide) (W := 0) (rmMJ l Z a0 hw ka kb hGL207 n0 (Nat.le_trans Z0 KGL207.1)) e1033 (by decide) (by decide) (by decide) (by decide) (g := (mkF m 274 #[.val (.long ka), .second, .val (.long kb), .second, .val (.long kc), .second, .val (.long ot), .second, .val (.int oq), .val (.int vA), .val (.int vB), .val (.int vC), .val (.int rq), .val (.int vR), .val (.long tt), .second, .val (.int vL), .val (.ref b1028), .val (.long ka), .second, .val (.int (1 : Int32))] [(.long kb), (.long ka)])) rfl (by rw [hml]; rfl) (argsL := [(.long ka), (.long kb)]) (rest := []) (lenOf pd_8 rfl) rfl (by show 2 * 0 + _ ≤ _; exact Nat.le_of_eq rfl) (hb hby at_274) ?_
                    intro v1034 T1034 L1034 X1034 hQ1034
                    obtain ⟨z1034, rfl, Nq1034, he1034, mn_1034⟩ := hQ1034
                    have N1034 := Fr.app N1033 Nq1034
                    have e1034 : T1034.heap = hGL207 := he1034
                    show Run p e below s _ _ _ (T1034.setTop (mkF m 277 #[.val (.long ka), .second, .val (.long kb), .second, .val (.long kc), .second, .val (.long ot), .second, .val (.int oq), .val (.int vA), .val (.int vB), .val (.int vC), .val (.int rq), .val (.int vR), .val (.long tt), .second, .val (.int vL), .val (.ref b1028), .val (.long ka), .second, .val (.int (1 : Int32))] [(.long z1034)]))
                    rcases mn_1034 with ⟨hz1, mn1⟩ | ⟨hz1, mn1⟩
                    · rw [hz1]
                      refine Run.pre (fun _ k => XS.goto X1034.here hx rfl (pc0 := 277) (pc' := 281) rfl (hb hby at_277) (by decide) (by decide) k) ?_
                      refine Run.pre (fun _ k => XS.lstore X1034.here hx rfl (hb hby at_281) rfl (l' := #[.val (.long ka), .second, .val (.long kb), .second, .val (.long kc), .second, .val (.long ot), .second, .val (.int oq), .val (.int vA), .val (.int vB), .val (.int vC), .val (.int rq), .val (.int vR), .val (.long tt), .second, .val (.int vL), .val (.ref b1028), .val (.long ka), .second, .val (.int (1 : Int32))]) rfl k) ?_
                      refine Run.pre (fun _ k => XS.iconst X1034.here hx rfl (hb hby at_283) k) ?_
                      refine Run.pre (fun _ k => XS.istore X1034.here hx rfl (hb hby at_284) rfl (l' := #[.val (.long ka), .second, .val (.long kb), .second, .val (.long kc), .second, .val (.long ot), .second, .val (.int oq), .val (.int vA), .val (.int vB), .val (.int vC), .val (.int rq), .val (.int vR), .val (.long tt), .second, .val (.int vL), .val (.ref b1028), .val (.long ka), .second, .val (.int (1 : Int32))]) rfl k) ?_
                      show Run p e below s _ _ _ (T1034.setTop (mkF m 286 #[.val (.long ka), .second, .val (.long kb), .second, .val (.long kc), .second, .val (.long ot), .second, .val (.int oq), .val (.int vA), .val (.int vB), .val (.int vC), .val (.int rq), .val (.int vR), .val (.long tt), .second, .val (.int vL), .val (.ref b1028), .val (.long ka), .second, .val (.int (1 : Int32))] []))
                      refine Run.pre (fun _ k => XS.lload X1034.here hx rfl (hb hby at_286) rfl  k) ?_
                      refine Run.pre (fun _ k => XS.lloadN X1034.here hx rfl (hb hby at_288) rfl  k) ?_
                      refine Run.pre (fun _ k => XS.lloadN X1034.here hx rfl (hb hby at_289) rfl  k) ?_
                      refine Run.pre (fun _ k => XS.lload X1034.here hx rfl (hb hby at_290) rfl  k) ?_
                      refine Run.pre (fun _ k => XS.iload X1034.here hx rfl (hb hby at_292) rfl  k) ?_
                      refine Run.pre (fun _ k => XS.iload X1034.here hx rfl (hb hby at_294) rfl  k) ?_
                      show Run p e below s _ _ _ (T1034.setTop (mkF m 296 #[.val (.long ka), .second, .val (.long kb), .second, .val (.long kc), .second, .val (.long ot), .second, .val (.int oq), .val (.int vA), .val (.int vB), .val (.int vC), .val (.int rq), .val (.int vR), .val (.long tt), .second, .val (.int vL), .val (.ref b1028), .val (.long ka), .second, .val (.int (1 : Int32))] [(.int vB), (.int vA), (.long kc), (.long kb), (.long ka), (.long kc)]))
                      refine Run.pre (fun _ k => XS.iload X1034.here hx rfl (hb hby at_296) rfl  k) ?_
                      refine Run.pre (fun _ k => XS.iload X1034.here hx rfl (hb hby at_298) rfl  k) ?_
                      refine Run.pre (fun _ k => XS.iload X1034.here hx rfl (hb hby at_300) rfl  k) ?_
                      refine Run.pre (fun _ k => XS.lload X1034.here hx rfl (hb hby at_302) rfl  k) ?_
                      refine Run.callS X1034 hx hZ (y := (⟨"com/example/manana/manana/storage/WaitingTableLowestPinLaw", "member", "(JJJJZZZZZJ)Z"⟩ : MethodName)) hown (hwi hw 64 rfl) (hwi hw 65 rfl) (hwi hw 66 rfl) (hwi hw 67 rfl) (by decide) (W := 0) (rmMem l Z a0 hw kc ka kb kc vA vB vC vR vL tt hGL207 n0 (Nat.le_trans Z0 KGL207.1)) e1034 (by decide) (by decide) (by decide) (by decide) (g := (mkF m 304 #[.val (.long ka), .second, .val (.long kb), .second, .val (.long kc), .second, .val (.long ot), .second, .val (.int oq), .val (.int vA), .val (.int vB), .val (.int vC), .val (.int rq), .val (.int vR), .val (.long tt), .second, .val (.int vL), .val (.ref b1028), .val (.long ka), .second, .val (.int (1 : Int32))] [(.long tt), (.int vL), (.int vR), (.int vC), (.int vB), (.int vA), (.long kc), (.long kb), (.long ka), (.long kc)])) rfl (by rw [hml]; rfl) (argsL := [(.long kc), (.long ka), (.long kb), (.long kc), (.int vA), (.int vB), (.int vC), (.int vR), (.int vL), (.long tt)]) (rest := []) (lenOf pd_7 rfl) rfl (by show 2 * 0 + _ ≤ _; exact Nat.le_of_eq rfl) (hb hby at_304) ?_
                      intro v1035 T1035 L1035 X1035 hQ1035
                      obtain ⟨r1035, rfl, Nq1035, he1035, mm1035⟩ := hQ1035
                      have N1035 := Fr.app N1034 Nq1035
                      have e1035 : T1035.heap = hGL207 := he1035
                      show Run p e below s _ _ _ (T1035.setTop (mkF m 307 #[.val (.long ka), .second, .val (.long kb), .second, .val (.long kc), .second, .val (.long ot), .second, .val (.int oq), .val (.int vA), .val (.int vB), .val (.int vC), .val (.int rq), .val (.int vR), .val (.long tt), .second, .val (.int vL), .val (.ref b1028), .val (.long ka), .second, .val (.int (1 : Int32))] [(.int r1035)]))
                      rcases mm1035 with ⟨rfl, mC⟩ | ⟨rfl, mC⟩
                      · skip
                        refine Run.pre (fun _ k => XS.ifNo X1035.here hx rfl (hb hby at_307) rfl ((if0 _ _).trans (feq ((by decide) : ¬ ((1 : Int32) = (0 : Int32)))).1) k) ?_
                        show Run p e below s _ _ _ (T1035.setTop (mkF m 310 #[.val (.long ka), .second, .val (.long kb), .second, .val (.long kc), .second, .val (.long ot), .second, .val (.int oq), .val (.int vA), .val (.int vB), .val (.int vC), .val (.int rq), .val (.int vR), .val (.long tt), .second, .val (.int vL), .val (.ref b1028), .val (.long ka), .second, .val (.int (1 : Int32))] []))
                        refine Run.pre (fun _ k => XS.iload X1035.here hx rfl (hb hby at_310) rfl  k) ?_
                        refine Run.pre (fun _ k => XS.ifNo X1035.here hx rfl (hb hby at_312) rfl ((if0 _ _).trans (feq ((by decide) : ¬ ((1 : Int32) = (0 : Int32)))).1) k) ?_
                        refine Run.pre (fun _ k => XS.lload X1035.here hx rfl (hb hby at_315) rfl  k) ?_
                        refine Run.pre (fun _ k => XS.lload X1035.here hx rfl (hb hby at_317) rfl  k) ?_
                        refine Run.callS X1035 hx hZ (y := (⟨"java/lang/Math", "min", "(JJ)J"⟩ : MethodName)) hown (hwi hw 68 rfl) (hwi hw 69 rfl) (hwi hw 40 rfl) (hwi hw 70 rfl) (by decide) (W := 0) (rmMJ l Z a0 hw ka kc hGL207 n0 (Nat.le_trans Z0 KGL207.1)) e1035 (by decide) (by decide) (by decide) (by decide) (g := (mkF m 319 #[.val (.long ka), .second, .val (.long kb), .second, .val (.long kc), .second, .val (.long ot), .second, .val (.int oq), .val (.int vA), .val (.int vB), .val (.int vC), .val (.int rq), .val (.int vR), .val (.long tt), .second, .val (.int vL), .val (.ref b1028), .val (.long ka), .second, .val (.int (1 : Int32))] [(.long kc), (.long ka)])) rfl (by rw [hml]; rfl) (argsL := [(.long ka), (.long kc)]) (rest := []) (lenOf pd_8 rfl) rfl (by show 2 * 0 + _ ≤ _; exact Nat.le_of_eq rfl) (hb hby at_319) ?_
                        intro v1036 T1036 L1036 X1036 hQ1036
                        obtain ⟨z1036, rfl, Nq1036, he1036, mn_1036⟩ := hQ1036
                        have N1036 := Fr.app N1035 Nq1036
                        have e1036 : T1036.heap = hGL207 := he1036
                        show Run p e below s _ _ _ (T1036.setTop (mkF m 322 #[.val (.long ka), .second, .val (.long kb), .second, .val (.long kc), .second, .val (.long ot), .second, .val (.int oq), .val (.int vA), .val (.int vB), .val (.int vC), .val (.int rq), .val (.int vR), .val (.long tt), .second, .val (.int vL), .val (.ref b1028), .val (.long ka), .second, .val (.int (1 : Int32))] [(.long z1036)]))
                        rcases mn_1036 with ⟨hz2, mn2⟩ | ⟨hz2, mn2⟩
                        · rw [hz2]
                          refine Run.pre (fun _ k => XS.goto X1036.here hx rfl (pc0 := 322) (pc' := 327) rfl (hb hby at_322) (by decide) (by decide) k) ?_
                          show Run p e below s _ _ _ (T1036.setTop (mkF m 327 #[.val (.long ka), .second, .val (.long kb), .second, .val (.long kc), .second, .val (.long ot), .second, .val (.int oq), .val (.int vA), .val (.int vB), .val (.int vC), .val (.int rq), .val (.int vR), .val (.long tt), .second, .val (.int vL), .val (.ref b1028), .val (.long ka), .second, .val (.int (1 : Int32))] [(.long ka)]))
                          refine Run.pre (fun _ k => XS.lstore X1036.here hx rfl (hb hby at_327) rfl (l' := #[.val (.long ka), .second, .val (.long kb), .second, .val (.long kc), .second, .val (.long ot), .second, .val (.int oq), .val (.int vA), .val (.int vB), .val (.int vC), .val (.int rq), .val (.int vR), .val (.long tt), .second, .val (.int vL), .val (.ref b1028), .val (.long ka), .second, .val (.int (1 : Int32))]) rfl k) ?_
                          refine Run.pre (fun _ k => XS.iconst X1036.here hx rfl (hb hby at_329) k) ?_
                          refine Run.pre (fun _ k => XS.istore X1036.here hx rfl (hb hby at_330) rfl (l' := #[.val (.long ka), .second, .val (.long kb), .second, .val (.long kc), .second, .val (.long ot), .second, .val (.int oq), .val (.int vA), .val (.int vB), .val (.int vC), .val (.int rq), .val (.int vR), .val (.long tt), .second, .val (.int vL), .val (.ref b1028), .val (.long ka), .second, .val (.int (1 : Int32))]) rfl k) ?_
                          refine Run.pre (fun _ k => XS.aload X1036.here hx rfl (hb hby at_332) rfl rfl k) ?_
                          refine Run.pre (fun _ k => XS.lload X1036.here hx rfl (hb hby at_334) rfl  k) ?_
                          refine Run.callV X1036 hx hZ (y := (⟨"com/example/manana/manana/storage/WaitingTable", "lowest", "(J)J"⟩ : MethodName)) (z := (⟨"com/example/manana/manana/storage/WaitingTable", "lowest", "(J)J"⟩ : MethodName)) hown (hwi hw 22 rfl) (hwi hw 23 rfl) (notFace_of_selects (args := #[]) (mvT hZ (hwi hw 25 rfl))) (hwi hw 25 rfl) (hwi hw 24 rfl) (hwi hw 26 rfl) (hwi hw 2 rfl) (by decide) (b := b1028) (hH.1) (W := 0) (rmLow l Z a0 hw b1028 xo1029 xd1029 xl1029 xq1029 xh1029 ko1029 kd1029 kl1029 kq1029 kh1029 p0 p1 p2 d0 d1 d2 l0 l1 l2 q0 q1 q2 b0 b1 b2 fi en si ot S hGL207 n0 (Nat.le_trans Z0 KGL207.1) hH hR) e1036 (by decide) (by decide) (by decide) (by decide) (g := (mkF m 336 #[.val (.long ka), .second, .val (.long kb), .second, .val (.long kc), .second, .val (.long ot), .second, .val (.int oq), .val (.int vA), .val (.int vB), .val (.int vC), .val (.int rq), .val (.int vR), .val (.long tt), .second, .val (.int vL), .val (.ref b1028), .val (.long ka), .second, .val (.int (1 : Int32))] [(.long ot), (.ref b1028)])) rfl (by rw [hml]; rfl) (argsL := [(.long ot)]) (rest := []) (lenOf pd_6 rfl) rfl (by show 2 * 0 + _ ≤ _; exact Nat.le_of_eq rfl) (hb hby at_336) ?_
                          intro v1037 T1037 L1037 X1037 hQ1037
                          obtain ⟨y1037, rfl, Nq1037, he1037, lw1037⟩ := hQ1037
                          have N1037 := Fr.app N1036 Nq1037
                          have e1037 : T1037.heap = hGL207 := he1037
                          show Run p e below s _ _ _ (T1037.setTop (mkF m 339 #[.val (.long ka), .second, .val (.long kb), .second, .val (.long kc), .second, .val (.long ot), .second, .val (.int oq), .val (.int vA), .val (.int vB), .val (.int vC), .val (.int rq), .val (.int vR), .val (.long tt), .second, .val (.int vL), .val (.ref b1028), .val (.long ka), .second, .val (.int (1 : Int32))] [(.long y1037)]))
                          refine Run.pre (fun _ k => XS.lload X1037.here hx rfl (hb hby at_339) rfl  k) ?_
                          refine Run.pre (fun _ k => XS.lcmp X1037.here hx rfl (hb hby at_341) rfl k) ?_
                          refine Run.pre (fun _ k => XS.ifNo X1037.here hx rfl (hb hby at_342) rfl ((if0 _ _).trans (teq (((lw_eq _ _).mpr (own_low3 hS (own_A5m vA vB vC vR vL ka kb kc tt) lw1037 ka (Or.inr ⟨mA, fun _ r => by simp only [Int64.lt_iff_toInt_lt] at r mn1 mn2; omega, fun _ r => by simp only [Int64.lt_iff_toInt_lt] at r mn1 mn2; omega, fun _ r => by simp only [Int64.lt_iff_toInt_lt] at r mn1 mn2; omega⟩))) : (lcmpW y1037 ka) = (0 : Int32))).2) k) ?_
                          refine Run.pre (fun _ k => XS.iconst X1037.here hx rfl (hb hby at_345) k) ?_
                          refine Run.pre (fun _ k => XS.goto X1037.here hx rfl (pc0 := 346) (pc' := 350) rfl (hb hby at_346) (by decide) (by decide) k) ?_
                          exact Run.retN X1037 hx hret (t := .boolean) (by simp) hlk (hb hby at_350) (by first | (rw [e1037]; exact ⟨rfl, N1037⟩) | exact ⟨rfl, N1037⟩) (by decide) (by decide)
                        · rw [hz2]
                          refine Run.pre (fun _ k => XS.goto X1036.here hx rfl (pc0 := 322) (pc' := 327) rfl (hb hby at_322) (by decide) (by decide) k) ?_
                          show Run p e below s _ _ _ (T1036.setTop (mkF m 327 #[.val (.long ka), .second, .val (.long kb), .second, .val (.long kc), .second, .val (.long ot), .second, .val (.int oq), .val (.int vA), .val (.int vB), .val (.int vC), .val (.int rq), .val (.int vR), .val (.long tt), .second, .val (.int vL), .val (.ref b1028), .val (.long ka), .second, .val (.int (1 : Int32))] [(.long kc)]))
                          refine Run.pre (fun _ k => XS.lstore X1036.here hx rfl (hb hby at_327) rfl (l' := #[.val (.long ka), .second, .val (.long kb), .second, .val (.long kc), .second, .val (.long ot), .second, .val (.int oq), .val (.int vA), .val (.int vB), .val (.int vC), .val (.int rq), .val (.int vR), .val (.long tt), .second, .val (.int vL), .val (.ref b1028), .val (.long kc), .second, .val (.int (1 : Int32))]) rfl k) ?_
                          refine Run.pre (fun _ k => XS.iconst X1036.here hx rfl (hb hby at_329) k) ?_
                          refine Run.pre (fun _ k => XS.istore X1036.here hx rfl (hb hby at_330) rfl (l' := #[.val (.long ka), .second, .val (.long kb), .second, .val (.long kc), .second, .val (.long ot), .second, .val (.int oq), .val (.int vA), .val (.int vB), .val (.int vC), .val (.int rq), .val (.int vR), .val (.long tt), .second, .val (.int vL), .val (.ref b1028), .val (.long kc), .second, .val (.int (1 : Int32))]) rfl k) ?_
                          refine Run.pre (fun _ k => XS.aload X1036.here hx rfl (hb hby at_332) rfl rfl k) ?_
                          refine Run.pre (fun _ k => XS.lload X1036.here hx rfl (hb hby at_334) rfl  k) ?_
                          refine Run.callV X1036 hx hZ (y := (⟨"com/example/manana/manana/storage/WaitingTable", "lowest", "(J)J"⟩ : MethodName)) (z := (⟨"com/example/manana/manana/storage/WaitingTable", "lowest", "(J)J"⟩ : MethodName)) hown (hwi hw 22 rfl) (hwi hw 23 rfl) (notFace_of_selects (args := #[]) (mvT hZ (hwi hw 25 rfl))) (hwi hw 25 rfl) (hwi hw 24 rfl) (hwi hw 26 rfl) (hwi hw 2 rfl) (by decide) (b := b1028) (hH.1) (W := 0) (rmLow l Z a0 hw b1028 xo1029 xd1029 xl1029 xq1029 xh1029 ko1029 kd1029 kl1029 kq1029 kh1029 p0 p1 p2 d0 d1 d2 l0 l1 l2 q0 q1 q2 b0 b1 b2 fi en si ot S hGL207 n0 (Nat.le_trans Z0 KGL207.1) hH hR) e1036 (by decide) (by decide) (by decide) (by decide) (g := (mkF m 336 #[.val (.long ka), .second, .val (.long kb), .second, .val (.long kc), .second, .val (.long ot), .second, .val (.int oq), .val (.int vA), .val (.int vB), .val (.int vC), .val (.int rq), .val (.int vR), .val (.long tt), .second, .val (.int vL), .val (.ref b1028), .val (.long kc), .second, .val (.int (1 : Int32))] [(.long ot), (.ref b1028)])) rfl (by rw [hml]; rfl) (argsL := [(.long ot)]) (rest := []) (lenOf pd_6 rfl) rfl (by show 2 * 0 + _ ≤ _; exact Nat.le_of_eq rfl) (hb hby at_336) ?_
                          intro v1038 T1038 L1038 X1038 hQ1038
                          obtain ⟨y1038, rfl, Nq1038, he1038, lw1038⟩ := hQ1038
                          have N1038 := Fr.app N1036 Nq1038
                          have e1038 : T1038.heap = hGL207 := he1038
                          show Run p e below s _ _ _ (T1038.setTop (mkF m 339 #[.val (.long ka), .second, .val (.long kb), .second, .val (.long kc), .second, .val (.long ot), .second, .val (.int oq), .val (.int vA), .val (.int vB), .val (.int vC), .val (.int rq), .val (.int vR), .val (.long tt), .second, .val (.int vL), .val (.ref b1028), .val (.long kc), .second, .val (.int (1 : Int32))] [(.long y1038)]))
                          refine Run.pre (fun _ k => XS.lload X1038.here hx rfl (hb hby at_339) rfl  k) ?_
                          refine Run.pre (fun _ k => XS.lcmp X1038.here hx rfl (hb hby at_341) rfl k) ?_
                          refine Run.pre (fun _ k => XS.ifNo X1038.here hx rfl (hb hby at_342) rfl ((if0 _ _).trans (teq (((lw_eq _ _).mpr (own_low3 hS (own_A5m vA vB vC vR vL ka kb kc tt) lw1038 kc (Or.inr ⟨mC, fun _ r => by simp only [Int64.lt_iff_toInt_lt] at r mn1 mn2; omega, fun _ r => by simp only [Int64.lt_iff_toInt_lt] at r mn1 mn2; omega, fun _ r => by simp only [Int64.lt_iff_toInt_lt] at r mn1 mn2; omega⟩))) : (lcmpW y1038 kc) = (0 : Int32))).2) k) ?_
                          refine Run.pre (fun _ k => XS.iconst X1038.here hx rfl (hb hby at_345) k) ?_
                          refine Run.pre (fun _ k => XS.goto X1038.here hx rfl (pc0 := 346) (pc' := 350) rfl (hb hby at_346) (by decide) (by decide) k) ?_
                          exact Run.retN X1038 hx hret (t := .boolean) (by simp) hlk (hb hby at_350) (by first | (rw [e1038]; exact ⟨rfl, N1038⟩) | exact ⟨rfl, N1038⟩) (by decide) (by decide)
                      · skip
                        refine Run.pre (fun _ k => XS.ifYes X1035.here hx rfl (pc0 := 307) (pc' := 332) rfl (hb hby at_307) rfl ((if0 _ _).trans (teq ((by decide) : (0 : Int32) = (0 : Int32))).1) (by decide) (by decide) k) ?_
                        show Run p e below s _ _ _ (T1035.setTop (mkF m 332 #[.val (.long ka), .second, .val (.long kb), .second, .val (.long kc), .second, .val (.long ot), .second, .val (.int oq), .val (.int vA), .val (.int vB), .val (.int vC), .val (.int rq), .val (.int vR), .val (.long tt), .second, .val (.int vL), .val (.ref b1028), .val (.long ka), .second, .val (.int (1 : Int32))] []))
                        refine Run.pre (fun _ k => XS.aload X1035.here hx rfl (hb hby at_332) rfl rfl k) ?_
                        refine Run.pre (fun _ k => XS.lload X1035.here hx rfl (hb hby at_334) rfl  k) ?_
                        refine Run.callV X1035 hx hZ (y := (⟨"com/example/manana/manana/storage/WaitingTable", "lowest", "(J)J"⟩ : MethodName)) (z := (⟨"com/example/manana/manana/storage/WaitingTable", "lowest", "(J)J"⟩ : MethodName)) hown (hwi hw 22 rfl) (hwi hw 23 rfl) (notFace_of_selects (args := #[]) (mvT hZ (hwi hw 25 rfl))) (hwi hw 25 rfl) (hwi hw 24 rfl) (hwi hw 26 rfl) (hwi hw 2 rfl) (by decide) (b := b1028) (hH.1) (W := 0) (rmLow l Z a0 hw b1028 xo1029 xd1029 xl1029 xq1029 xh1029 ko1029 kd1029 kl1029 kq1029 kh1029 p0 p1 p2 d0 d1 d2 l0 l1 l2 q0 q1 q2 b0 b1 b2 fi en si ot S hGL207 n0 (Nat.le_trans Z0 KGL207.1) hH hR) e1035 (by decide) (by decide) (by decide) (by decide) (g := (mkF m 336 #[.val (.long ka), .second, .val (.long kb), .second, .val (.long kc), .second, .val (.long ot), .second, .val (.int oq), .val (.int vA), .val (.int vB), .val (.int vC), .val (.int rq), .val (.int vR), .val (.long tt), .second, .val (.int vL), .val (.ref b1028), .val (.long ka), .second, .val (.int (1 : Int32))] [(.long ot), (.ref b1028)])) rfl (by rw [hml]; rfl) (argsL := [(.long ot)]) (rest := []) (lenOf pd_6 rfl) rfl (by show 2 * 0 + _ ≤ _; exact Nat.le_of_eq rfl) (hb hby at_336) ?_
                        intro v1039 T1039 L1039 X1039 hQ1039
                        obtain ⟨y1039, rfl, Nq1039, he1039, lw1039⟩ := hQ1039
                        have N1039 := Fr.app N1035 Nq1039
                        have e1039 : T1039.heap = hGL207 := he1039
                        refine Run.pre (fun _ k => XS.lload X1039.here hx rfl (hb hby at_339) rfl  k) ?_
                        refine Run.pre (fun _ k => XS.lcmp X1039.here hx rfl (hb hby at_341) rfl k) ?_
                        refine Run.pre (fun _ k => XS.ifNo X1039.here hx rfl (hb hby at_342) rfl ((if0 _ _).trans (teq (((lw_eq _ _).mpr (own_low3 hS (own_A5m vA vB vC vR vL ka kb kc tt) lw1039 ka (Or.inr ⟨mA, fun _ r => by simp only [Int64.lt_iff_toInt_lt] at r mn1; omega, fun _ r => by simp only [Int64.lt_iff_toInt_lt] at r mn1; omega, fun q => absurd q mC⟩))) : (lcmpW y1039 ka) = (0 : Int32))).2) k) ?_
                        show Run p e below s _ _ _ (T1039.setTop (mkF m 345 #[.val (.long ka), .second, .val (.long kb), .second, .val (.long kc), .second, .val (.long ot), .second, .val (.int oq), .val (.int vA), .val (.int vB), .val (.int vC), .val (.int rq), .val (.int vR), .val (.long tt), .second, .val (.int vL), .val (.ref b1028), .val (.long ka), .second, .val (.int (1 : Int32))] []))
                        refine Run.pre (fun _ k => XS.iconst X1039.here hx rfl (hb hby at_345) k) ?_
                        refine Run.pre (fun _ k => XS.goto X1039.here hx rfl (pc0 := 346) (pc' := 350) rfl (hb hby at_346) (by decide) (by decide) k) ?_
                        exact Run.retN X1039 hx hret (t := .boolean) (by simp) hlk (hb hby at_350) (by first | (rw [e1039]; exact ⟨rfl, N1039⟩) | exact ⟨rfl, N1039⟩) (by decide) (by decide)
                    · rw [hz1]
                      refine Run.pre (fun _ k => XS.goto X1034.here hx rfl (pc0 := 277) (pc' := 281) rfl (hb hby at_277) (by decide) (by decide) k) ?_
                      refine Run.pre (fun _ k => XS.lstore X1034.here hx rfl (hb hby at_281) rfl (l' := #[.val (.long ka), .second, .val (.long kb), .second, .val (.long kc), .second, .val (.long ot), .second, .val (.int oq), .val (.int vA), .val (.int vB), .val (.int vC), .val (.int rq), .val (.int vR), .val (.long tt), .second, .val (.int vL), .val (.ref b1028), .val (.long kb), .second, .val (.int (1 : Int32))]) rfl k) ?_
                      refine Run.pre (fun _ k => XS.iconst X1034.here hx rfl (hb hby at_283) k) ?_
                      refine Run.pre (fun _ k => XS.istore X1034.here hx rfl (hb hby at_284) rfl (l' := #[.val (.long ka), .second, .val (.long kb), .second, .val (.long kc), .second, .val (.long ot), .second, .val (.int oq), .val (.int vA), .val (.int vB), .val (.int vC), .val (.int rq), .val (.int vR), .val (.long tt), .second, .val (.int vL), .val (.ref b1028), .val (.long kb), .second, .val (.int (1 : Int32))]) rfl k) ?_
                      show Run p e below s _ _ _ (T1034.setTop (mkF m 286 #[.val (.long ka), .second, .val (.long kb), .second, .val (.long kc), .second, .val (.long ot), .second, .val (.int oq), .val (.int vA), .val (.int vB), .val (.int vC), .val (.int rq), .val (.int vR), .val (.long tt), .second, .val (.int vL), .val (.ref b1028), .val (.long kb), .second, .val (.int (1 : Int32))] []))
                      refine Run.pre (fun _ k => XS.lload X1034.here hx rfl (hb hby at_286) rfl  k) ?_
                      refine Run.pre (fun _ k => XS.lloadN X1034.here hx rfl (hb hby at_288) rfl  k) ?_
                      refine Run.pre (fun _ k => XS.lloadN X1034.here hx rfl (hb hby at_289) rfl  k) ?_
                      refine Run.pre (fun _ k => XS.lload X1034.here hx rfl (hb hby at_290) rfl  k) ?_
                      refine Run.pre (fun _ k => XS.iload X1034.here hx rfl (hb hby at_292) rfl  k) ?_
                      refine Run.pre (fun _ k => XS.iload X1034.here hx rfl (hb hby at_294) rfl  k) ?_
                      show Run p e below s _ _ _ (T1034.setTop (mkF m 296 #[.val (.long ka), .second, .val (.long kb), .second, .val (.long kc), .second, .val (.long ot), .second, .val (.int oq), .val (.int vA), .val (.int vB), .val (.int vC), .val (.int rq), .val (.int vR), .val (.long tt), .second, .val (.int vL), .val (.ref b1028), .val (.long kb), .second, .val (.int (1 : Int32))] [(.int vB), (.int vA), (.long kc), (.long kb), (.long ka), (.long kc)]))
                      refine Run.pre (fun _ k => XS.iload X1034.here hx rfl (hb hby at_296) rfl  k) ?_
                      refine Run.pre (fun _ k => XS.iload X1034.here hx rfl (hb hby at_298) rfl  k) ?_
                      refine Run.pre (fun _ k => XS.iload X1034.here hx rfl (hb hby at_300) rfl  k) ?_
                      refine Run.pre (fun _ k => XS.lload X1034.here hx rfl (hb hby at_302) rfl  k) ?_
                      refine Run.callS X1034 hx hZ (y := (⟨"com/example/manana/manana/storage/WaitingTableLowestPinLaw", "member", "(JJJJZZZZZJ)Z"⟩ : MethodName)) hown (hwi hw 64 rfl) (hwi hw 65 rfl) (hwi hw 66 rfl) (hwi hw 67 rfl) (by decide) (W := 0) (rmMem l Z a0 hw kc ka kb kc vA vB vC vR vL tt hGL207 n0 (Nat.le_trans Z0 KGL207.1)) e1034 (by decide) (by decide) (by decide) (by decide) (g := (mkF m 304 #[.val (.long ka), .second, .val (.long kb), .second, .val (.long kc), .second, .val (.long ot), .second, .val (.int oq), .val (.int vA), .val (.int vB), .val (.int vC), .val (.int rq), .val (.int vR), .val (.long tt), .second, .val (.int vL), .val (.ref b1028), .val (.long kb), .second, .val (.int (1 : Int32))] [(.long tt), (.int vL), (.int vR), (.int vC), (.int vB), (.int vA), (.long kc), (.long kb), (.long ka), (.long kc)])) rfl (by rw [hml]; rfl) (argsL := [(.long kc), (.long ka), (.long kb), (.long kc), (.int vA), (.int vB), (.int vC), (.int vR), (.int vL), (.long tt)]) (rest := []) (lenOf pd_7 rfl) rfl (by show 2 * 0 + _ ≤ _; exact Nat.le_of_eq rfl) (hb hby at_304) ?_
                      intro v1040 T1040 L1040 X1040 hQ1040
                      obtain ⟨r1040, rfl, Nq1040, he1040, mm1040⟩ := hQ1040
                      have N1040 := Fr.app N1034 Nq1040
                      have e1040 : T1040.heap = hGL207 := he1040
                      show Run p e below s _ _ _ (T1040.setTop (mkF m 307 #[.val (.long ka), .second, .val (.long kb), .second, .val (.long kc), .second, .val (.long ot), .second, .val (.int oq), .val (.int vA), .val (.int vB), .val (.int vC), .val (.int rq), .val (.int vR), .val (.long tt), .second, .val (.int vL), .val (.ref b1028), .val (.long kb), .second, .val (.int (1 : Int32))] [(.int r1040)]))
                      rcases mm1040 with ⟨rfl, mC⟩ | ⟨rfl, mC⟩
                      · skip
                        refine Run.pre (fun _ k => XS.ifNo X1040.here hx rfl (hb hby at_307) rfl ((if0 _ _).trans (feq ((by decide) : ¬ ((1 : Int32) = (0 : Int32)))).1) k) ?_
                        show Run p e below s _ _ _ (T1040.setTop (mkF m 310 #[.val (.long ka), .second, .val (.long kb), .second, .val (.long kc), .second, .val (.long ot), .second, .val (.int oq), .val (.int vA), .val (.int vB), .val (.int vC), .val (.int rq), .val (.int vR), .val (.long tt), .second, .val (.int vL), .val (.ref b1028), .val (.long kb), .second, .val (.int (1 : Int32))] []))
                        refine Run.pre (fun _ k => XS.iload X1040.here hx rfl (hb hby at_310) rfl  k) ?_
                        refine Run.pre (fun _ k => XS.ifNo X1040.here hx rfl (hb hby at_312) rfl ((if0 _ _).trans (feq ((by decide) : ¬ ((1 : Int32) = (0 : Int32)))).1) k) ?_
                        refine Run.pre (fun _ k => XS.lload X1040.here hx rfl (hb hby at_315) rfl  k) ?_
                        refine Run.pre (fun _ k => XS.lload X1040.here hx rfl (hb hby at_317) rfl  k) ?_
                        refine Run.callS X1040 hx hZ (y := (⟨"java/lang/Math", "min", "(JJ)J"⟩ : MethodName)) hown (hwi hw 68 rfl) (hwi hw 69 rfl) (hwi hw 40 rfl) (hwi hw 70 rfl) (by decide) (W := 0) (rmMJ l Z a0 hw kb kc hGL207 n0 (Nat.le_trans Z0 KGL207.1)) e1040 (by decide) (by decide) (by decide) (by decide) (g := (mkF m 319 #[.val (.long ka), .second, .val (.long kb), .second, .val (.long kc), .second, .val (.long ot), .second, .val (.int oq), .val (.int vA), .val (.int vB), .val (.int vC), .val (.int rq), .val (.int vR), .val (.long tt), .second, .val (.int vL), .val (.ref b1028), .val (.long kb), .second, .val (.int (1 : Int32))] [(.long kc), (.long kb)])) rfl (by rw [hml]; rfl) (argsL := [(.long kb), (.long kc)]) (rest := []) (lenOf pd_8 rfl) rfl (by show 2 * 0 + _ ≤ _; exact Nat.le_of_eq rfl) (hb hby at_319) ?_
                        intro v1041 T1041 L1041 X1041 hQ1041
                        obtain ⟨z1041, rfl, Nq1041, he1041, mn_1041⟩ := hQ1041
                        have N1041 := Fr.app N1040 Nq1041
                        have e1041 : T1041.heap = hGL207 := he1041
                        show Run p e below s _ _ _ (T1041.setTop (mkF m 322 #[.val (.long ka), .second, .val (.long kb), .second, .val (.long kc), .second, .val (.long ot), .second, .val (.int oq), .val (.int vA), .val (.int vB), .val (.int vC), .val (.int rq), .val (.int vR), .val (.long tt), .second, .val (.int vL), .val (.ref b1028), .val (.long kb), .second, .val (.int (1 : Int32))] [(.long z1041)]))
                        rcases mn_1041 with ⟨hz2, mn2⟩ | ⟨hz2, mn2⟩
                        · rw [hz2]
                          refine Run.pre (fun _ k => XS.goto X1041.here hx rfl (pc0 := 322) (pc' := 327) rfl (hb hby at_322) (by decide) (by decide) k) ?_
                          show Run p e below s _ _ _ (T1041.setTop (mkF m 327 #[.val (.long ka), .second, .val (.long kb), .second, .val (.long kc), .second, .val (.long ot), .second, .val (.int oq), .val (.int vA), .val (.int vB), .val (.int vC), .val (.int rq), .val (.int vR), .val (.long tt), .second, .val (.int vL), .val (.ref b1028), .val (.long kb), .second, .val (.int (1 : Int32))] [(.long kb)]))
                          refine Run.pre (fun _ k => XS.lstore X1041.here hx rfl (hb hby at_327) rfl (l' := #[.val (.long ka), .second, .val (.long kb), .second, .val (.long kc), .second, .val (.long ot), .second, .val (.int oq), .val (.int vA), .val (.int vB), .val (.int vC), .val (.int rq), .val (.int vR), .val (.long tt), .second, .val (.int vL), .val (.ref b1028), .val (.long kb), .second, .val (.int (1 : Int32))]) rfl k) ?_
                          refine Run.pre (fun _ k => XS.iconst X1041.here hx rfl (hb hby at_329) k) ?_
                          refine Run.pre (fun _ k => XS.istore X1041.here hx rfl (hb hby at_330) rfl (l' := #[.val (.long ka), .second, .val (.long kb), .second, .val (.long kc), .second, .val (.long ot), .second, .val (.int oq), .val (.int vA), .val (.int vB), .val (.int vC), .val (.int rq), .val (.int vR), .val (.long tt), .second, .val (.int vL), .val (.ref b1028), .val (.long kb), .second, .val (.int (1 : Int32))]) rfl k) ?_
                          refine Run.pre (fun _ k => XS.aload X1041.here hx rfl (hb hby at_332) rfl rfl k) ?_
                          refine Run.pre (fun _ k => XS.lload X1041.here hx rfl (hb hby at_334) rfl  k) ?_
                          refine Run.callV X1041 hx hZ (y := (⟨"com/example/manana/manana/storage/WaitingTable", "lowest", "(J)J"⟩ : MethodName)) (z := (⟨"com/example/manana/manana/storage/WaitingTable", "lowest", "(J)J"⟩ : MethodName)) hown (hwi hw 22 rfl) (hwi hw 23 rfl) (notFace_of_selects (args := #[]) (mvT hZ (hwi hw 25 rfl))) (hwi hw 25 rfl) (hwi hw 24 rfl) (hwi hw 26 rfl) (hwi hw 2 rfl) (by decide) (b := b1028) (hH.1) (W := 0) (rmLow l Z a0 hw b1028 xo1029 xd1029 xl1029 xq1029 xh1029 ko1029 kd1029 kl1029 kq1029 kh1029 p0 p1 p2 d0 d1 d2 l0 l1 l2 q0 q1 q2 b0 b1 b2 fi en si ot S hGL207 n0 (Nat.le_trans Z0 KGL207.1) hH hR) e1041 (by decide) (by decide) (by decide) (by decide) (g := (mkF m 336 #[.val (.long ka), .second, .val (.long kb), .second, .val (.long kc), .second, .val (.long ot), .second, .val (.int oq), .val (.int vA), .val (.int vB), .val (.int vC), .val (.int rq), .val (.int vR), .val (.long tt), .second, .val (.int vL), .val (.ref b1028), .val (.long kb), .second, .val (.int (1 : Int32))] [(.long ot), (.ref b1028)])) rfl (by rw [hml]; rfl) (argsL := [(.long ot)]) (rest := []) (lenOf pd_6 rfl) rfl (by show 2 * 0 + _ ≤ _; exact Nat.le_of_eq rfl) (hb hby at_336) ?_
                          intro v1042 T1042 L1042 X1042 hQ1042
                          obtain ⟨y1042, rfl, Nq1042, he1042, lw1042⟩ := hQ1042
                          have N1042 := Fr.app N1041 Nq1042
                          have e1042 : T1042.heap = hGL207 := he1042
                          show Run p e below s _ _ _ (T1042.setTop (mkF m 339 #[.val (.long ka), .second, .val (.long kb), .second, .val (.long kc), .second, .val (.long ot), .second, .val (.int oq), .val (.int vA), .val (.int vB), .val (.int vC), .val (.int rq), .val (.int vR), .val (.long tt), .second, .val (.int vL), .val (.ref b1028), .val (.long kb), .second, .val (.int (1 : Int32))] [(.long y1042)]))
                          refine Run.pre (fun _ k => XS.lload X1042.here hx rfl (hb hby at_339) rfl  k) ?_
                          refine Run.pre (fun _ k => XS.lcmp X1042.here hx rfl (hb hby at_341) rfl k) ?_
                          refine Run.pre (fun _ k => XS.ifNo X1042.here hx rfl (hb hby at_342) rfl ((if0 _ _).trans (teq (((lw_eq _ _).mpr (own_low3 hS (own_A5m vA vB vC vR vL ka kb kc tt) lw1042 kb (Or.inr ⟨mB, fun _ r => by simp only [Int64.lt_iff_toInt_lt] at r mn1 mn2; omega, fun _ r => by simp only [Int64.lt_iff_toInt_lt] at r mn1 mn2; omega, fun _ r => by simp only [Int64.lt_iff_toInt_lt] at r mn1 mn2; omega⟩))) : (lcmpW y1042 kb) = (0 : Int32))).2) k) ?_
                          refine Run.pre (fun _ k => XS.iconst X1042.here hx rfl (hb hby at_345) k) ?_
                          refine Run.pre (fun _ k => XS.goto X1042.here hx rfl (pc0 := 346) (pc' := 350) rfl (hb hby at_346) (by decide) (by decide) k) ?_
                          exact Run.retN X1042 hx hret (t := .boolean) (by simp) hlk (hb hby at_350) (by first | (rw [e1042]; exact ⟨rfl, N1042⟩) | exact ⟨rfl, N1042⟩) (by decide) (by decide)
                        · rw [hz2]
                          refine Run.pre (fun _ k => XS.goto X1041.here hx rfl (pc0 := 322) (pc' := 327) rfl (hb hby at_322) (by decide) (by decide) k) ?_
                          show Run p e below s _ _ _ (T1041.setTop (mkF m 327 #[.val (.long ka), .second, .val (.long kb), .second, .val (.long kc), .second, .val (.long ot), .second, .val (.int oq), .val (.int vA), .val (.int vB), .val (.int vC), .val (.int rq), .val (.int vR), .val (.long tt), .second, .val (.int vL), .val (.ref b1028), .val (.long kb), .second, .val (.int (1 : Int32))] [(.long kc)]))
                          refine Run.pre (fun _ k => XS.lstore X1041.here hx rfl (hb hby at_327) rfl (l' := #[.val (.long ka), .second, .val (.long kb), .second, .val (.long kc), .second, .val (.long ot), .second, .val (.int oq), .val (.int vA), .val (.int vB), .val (.int vC), .val (.int rq), .val (.int vR), .val (.long tt), .second, .val (.int vL), .val (.ref b1028), .val (.long kc), .second, .val (.int (1 : Int32))]) rfl k) ?_
                          refine Run.pre (fun _ k => XS.iconst X1041.here hx rfl (hb hby at_329) k) ?_
                          refine Run.pre (fun _ k => XS.istore X1041.here hx rfl (hb hby at_330) rfl (l' := #[.val (.long ka), .second, .val (.long kb), .second, .val (.long kc), .second, .val (.long ot), .second, .val (.int oq), .val (.int vA), .val (.int vB), .val (.int vC), .val (.int rq), .val (.int vR), .val (.long tt), .second, .val (.int vL), .val (.ref b1028), .val (.long kc), .second, .val (.int (1 : Int32))]) rfl k) ?_
                          refine Run.pre (fun _ k => XS.aload X1041.here hx rfl (hb hby at_332) rfl rfl k) ?_
                          refine Run.pre (fun _ k => XS.lload X1041.here hx rfl (hb hby at_334) rfl  k) ?_
                          refine Run.callV X1041 hx hZ (y := (⟨"com/example/manana/manana/storage/WaitingTable", "lowest", "(J)J"⟩ : MethodName)) (z := (⟨"com/example/manana/manana/storage/WaitingTable", "lowest", "(J)J"⟩ : MethodName)) hown (hwi hw 22 rfl) (hwi hw 23 rfl) (notFace_of_selects (args := #[]) (mvT hZ (hwi hw 25 rfl))) (hwi hw 25 rfl) (hwi hw 24 rfl) (hwi hw 26 rfl) (hwi hw 2 rfl) (by decide) (b := b1028) (hH.1) (W := 0) (rmLow l Z a0 hw b1028 xo1029 xd1029 xl1029 xq1029 xh1029 ko1029 kd1029 kl1029 kq1029 kh1029 p0 p1 p2 d0 d1 d2 l0 l1 l2 q0 q1 q2 b0 b1 b2 fi en si ot S hGL207 n0 (Nat.le_trans Z0 KGL207.1) hH hR) e1041 (by decide) (by decide) (by decide) (by decide) (g := (mkF m 336 #[.val (.long ka), .second, .val (.long kb), .second, .val (.long kc), .second, .val (.long ot), .second, .val (.int oq), .val (.int vA), .val (.int vB), .val (.int vC), .val (.int rq), .val (.int vR), .val (.long tt), .second, .val (.int vL), .val (.ref b1028), .val (.long kc), .second, .val (.int (1 : Int32))] [(.long ot), (.ref b1028)])) rfl (by rw [hml]; rfl) (argsL := [(.long ot)]) (rest := []) (lenOf pd_6 rfl) rfl (by show 2 * 0 + _ ≤ _; exact Nat.le_of_eq rfl) (hb hby at_336) ?_
                          intro v1043 T1043 L1043 X1043 hQ1043
                          obtain ⟨y1043, rfl, Nq1043, he1043, lw1043⟩ := hQ1043
                          have N1043 := Fr.app N1041 Nq1043
                          have e1043 : T1043.heap = hGL207 := he1043
                          show Run p e below s _ _ _ (T1043.setTop (mkF m 339 #[.val (.long ka), .second, .val (.long kb), .second, .val (.long kc), .second, .val (.long ot), .second, .val (.int oq), .val (.int vA), .val (.int vB), .val (.int vC), .val (.int rq), .val (.int vR), .val (.long tt), .second, .val (.int vL), .val (.ref b1028), .val (.long kc), .second, .val (.int (1 : Int32))] [(.long y1043)]))
                          refine Run.pre (fun _ k => XS.lload X1043.here hx rfl (hb hby at_339) rfl  k) ?_
                          refine Run.pre (fun _ k => XS.lcmp X1043.here hx rfl (hb hby at_341) rfl k) ?_
                          refine Run.pre (fun _ k => XS.ifNo X1043.here hx rfl (hb hby at_342) rfl ((if0 _ _).trans (teq (((lw_eq _ _).mpr (own_low3 hS (own_A5m vA vB vC vR vL ka kb kc tt) lw1043 kc (Or.inr ⟨mC, fun _ r => by simp only [Int64.lt_iff_toInt_lt] at r mn1 mn2; omega, fun _ r => by simp only [Int64.lt_iff_toInt_lt] at r mn1 mn2; omega, fun _ r => by simp only [Int64.lt_iff_toInt_lt] at r mn1 mn2; omega⟩))) : (lcmpW y1043 kc) = (0 : Int32))).2) k) ?_
                          refine Run.pre (fun _ k => XS.iconst X1043.here hx rfl (hb hby at_345) k) ?_
                          refine Run.pre (fun _ k => XS.goto X1043.here hx rfl (pc0 := 346) (pc' := 350) rfl (hb hby at_346) (by decide) (by decide) k) ?_
                          exact Run.retN X1043 hx hret (t := .boolean) (by simp) hlk (hb hby at_350) (by first | (rw [e1043]; exact ⟨rfl, N1043⟩) | exact ⟨rfl, N1043⟩) (by decide) (by decide)
                      · skip
                        refine Run.pre (fun _ k => XS.ifYes X1040.here hx rfl (pc0 := 307) (pc' := 332) rfl (hb hby at_307) rfl ((if0 _ _).trans (teq ((by decide) : (0 : Int32) = (0 : Int32))).1) (by decide) (by decide) k) ?_
                        show Run p e below s _ _ _ (T1040.setTop (mkF m 332 #[.val (.long ka), .second, .val (.long kb), .second, .val (.long kc), .second, .val (.long ot), .second, .val (.int oq), .val (.int vA), .val (.int vB), .val (.int vC), .val (.int rq), .val (.int vR), .val (.long tt), .second, .val (.int vL), .val (.ref b1028), .val (.long kb), .second, .val (.int (1 : Int32))] []))
                        refine Run.pre (fun _ k => XS.aload X1040.here hx rfl (hb hby at_332) rfl rfl k) ?_
                        refine Run.pre (fun _ k => XS.lload X1040.here hx rfl (hb hby at_334) rfl  k) ?_
                        refine Run.callV X1040 hx hZ (y := (⟨"com/example/manana/manana/storage/WaitingTable", "lowest", "(J)J"⟩ : MethodName)) (z := (⟨"com/example/manana/manana/storage/WaitingTable", "lowest", "(J)J"⟩ : MethodName)) hown (hwi hw 22 rfl) (hwi hw 23 rfl) (notFace_of_selects (args := #[]) (mvT hZ (hwi hw 25 rfl))) (hwi hw 25 rfl) (hwi hw 24 rfl) (hwi hw 26 rfl) (hwi hw 2 rfl) (by decide) (b := b1028) (hH.1) (W := 0) (rmLow l Z a0 hw b1028 xo1029 xd1029 xl1029 xq1029 xh1029 ko1029 kd1029 kl1029 kq1029 kh1029 p0 p1 p2 d0 d1 d2 l0 l1 l2 q0 q1 q2 b0 b1 b2 fi en si ot S hGL207 n0 (Nat.le_trans Z0 KGL207.1) hH hR) e1040 (by decide) (by decide) (by decide) (by decide) (g := (mkF m 336 #[.val (.long ka), .second, .val (.long kb), .second, .val (.long kc), .second, .val (.long ot), .second, .val (.int oq), .val (.int vA), .val (.int vB), .val (.int vC), .val (.int rq), .val (.int vR), .val (.long tt), .second, .val (.int vL), .val (.ref b1028), .val (.long kb), .second, .val (.int (1 : Int32))] [(.long ot), (.ref b1028)])) rfl (by rw [hml]; rfl) (argsL := [(.long ot)]) (rest := []) (lenOf pd_6 rfl) rfl (by show 2 * 0 + _ ≤ _; exact Nat.le_of_eq rfl) (hb hby at_336) ?_
                        intro v1044 T1044 L1044 X1044 hQ1044
                        obtain ⟨y1044, rfl, Nq1044, he1044, lw1044⟩ := hQ1044
                        have N1044 := Fr.app N1040 Nq1044
                        have e1044 : T1044.heap = hGL207 := he1044
                        refine Run.pre (fun _ k => XS.lload X1044.here hx rfl (hb hby at_339) rfl  k) ?_
                        refine Run.pre (fun _ k => XS.lcmp X1044.here hx rfl (hb hby at_341) rfl k) ?_
                        refine Run.pre (fun _ k => XS.ifNo X1044.here hx rfl (hb hby at_342) rfl ((if0 _ _).trans (teq (((lw_eq _ _).mpr (own_low3 hS (own_A5m vA vB vC vR vL ka kb kc tt) lw1044 kb (Or.inr ⟨mB, fun _ r => by simp only [Int64.lt_iff_toInt_lt] at r mn1; omega, fun _ r => by simp only [Int64.lt_iff_toInt_lt] at r mn1; omega, fun q => absurd q mC⟩))) : (lcmpW y1044 kb) = (0 : Int32))).2) k) ?_
                        show Run p e below s _ _ _ (T1044.setTop (mkF m 345 #[.val (.long ka), .second, .val (.long kb), .second, .val (.long kc), .second, .val (.long ot), .second, .val (.int oq), .val (.int vA), .val (.int vB), .val (.int vC), .val (.int rq), .val (.int vR), .val (.long tt), .second, .val (.int vL), .val (.ref b1028), .val (.long kb), .second, .val (.int (1 : Int32))] []))
                        refine Run.pre (fun _ k => XS.iconst X1044.here hx rfl (hb hby at_345) k) ?_
                        refine Run.pre (fun _ k => XS.goto X1044.here hx rfl (pc0 := 346) (pc' := 350) rfl (hb hby at_346) (by decide) (by decide) k) ?_
                        exact Run.retN X1044 hx hret (t := .boolean) (by simp) hlk (hb hby at_350) (by first | (rw [e1044]; exact ⟨rfl, N1044⟩) | exact ⟨rfl, N1044⟩) (by decide) (by decide)
                  · skip
                    refine Run.pre (fun _ k => XS.ifYes X1033.here hx rfl (pc0 := 263) (pc' := 286) rfl (hb hby at_263) rfl ((if0 _ _).trans (teq ((by decide) : (0 : Int32) = (0 : Int32))).1) (by decide) (by decide) k) ?_
                    refine Run.pre (fun _ k => XS.lload X1033.here hx rfl (hb hby at_286) rfl  k) ?_
                    refine Run.pre (fun _ k => XS.lloadN X1033.here hx rfl (hb hby at_288) rfl  k) ?_
                    refine Run.pre (fun _ k => XS.lloadN X1033.here hx rfl (hb hby at_289) rfl  k) ?_
                    show Run p e below s _ _ _ (T1033.setTop (mkF m 290 #[.val (.long ka), .second, .val (.long kb), .second, .val (.long kc), .second, .val (.long ot), .second, .val (.int oq), .val (.int vA), .val (.int vB), .val (.int vC), .val (.int rq), .val (.int vR), .val (.long tt), .second, .val (.int vL), .val (.ref b1028), .val (.long ka), .second, .val (.int (1 : Int32))] [(.long kb), (.long ka), (.long kc)]))
                    refine Run.pre (fun _ k => XS.lload X1033.here hx rfl (hb hby at_290) rfl  k) ?_
                    refine Run.pre (fun _ k => XS.iload X1033.here hx rfl (hb hby at_292) rfl  k) ?_
                    refine Run.pre (fun _ k => XS.iload X1033.here hx rfl (hb hby at_294) rfl  k) ?_
                    refine Run.pre (fun _ k => XS.iload X1033.here hx rfl (hb hby at_296) rfl  k) ?_
                    refine Run.pre (fun _ k => XS.iload X1033.here hx rfl (hb hby at_298) rfl  k) ?_
                    refine Run.pre (fun _ k => XS.iload X1033.here hx rfl (hb hby at_300) rfl  k) ?_
                    show Run p e below s _ _ _ (T1033.setTop (mkF m 302 #[.val (.long ka), .second, .val (.long kb), .second, .val (.long kc), .second, .val (.long ot), .second, .val (.int oq), .val (.int vA), .val (.int vB), .val (.int vC), .val (.int rq), .val (.int vR), .val (.long tt), .second, .val (.int vL), .val (.ref b1028), .val (.long ka), .second, .val (.int (1 : Int32))] [(.int vL), (.int vR), (.int vC), (.int vB), (.int vA), (.long kc), (.long kb), (.long ka), (.long kc)]))
                    refine Run.pre (fun _ k => XS.lload X1033.here hx rfl (hb hby at_302) rfl  k) ?_
                    refine Run.callS X1033 hx hZ (y := (⟨"com/example/manana/manana/storage/WaitingTableLowestPinLaw", "member", "(JJJJZZZZZJ)Z"⟩ : MethodName)) hown (hwi hw 64 rfl) (hwi hw 65 rfl) (hwi hw 66 rfl) (hwi hw 67 rfl) (by decide) (W := 0) (rmMem l Z a0 hw kc ka kb kc vA vB vC vR vL tt hGL207 n0 (Nat.le_trans Z0 KGL207.1)) e1033 (by decide) (by decide) (by decide) (by decide) (g := (mkF m 304 #[.val (.long ka), .second, .val (.long kb), .second, .val (.long kc), .second, .val (.long ot), .second, .val (.int oq), .val (.int vA), .val (.int vB), .val (.int vC), .val (.int rq), .val (.int vR), .val (.long tt), .second, .val (.int vL), .val (.ref b1028), .val (.long ka), .second, .val (.int (1 : Int32))] [(.long tt), (.int vL), (.int vR), (.int vC), (.int vB), (.int vA), (.long kc), (.long kb), (.long ka), (.long kc)])) rfl (by rw [hml]; rfl) (argsL := [(.long kc), (.long ka), (.long kb), (.long kc), (.int vA), (.int vB), (.int vC), (.int vR), (.int vL), (.long tt)]) (rest := []) (lenOf pd_7 rfl) rfl (by show 2 * 0 + _ ≤ _; exact Nat.le_of_eq rfl) (hb hby at_304) ?_
                    intro v1045 T1045 L1045 X1045 hQ1045
                    obtain ⟨r1045, rfl, Nq1045, he1045, mm1045⟩ := hQ1045
                    have N1045 := Fr.app N1033 Nq1045
                    have e1045 : T1045.heap = hGL207 := he1045
                    show Run p e below s _ _ _ (T1045.setTop (mkF m 307 #[.val (.long ka), .second, .val (.long kb), .second, .val (.long kc), .second, .val (.long ot), .second, .val (.int oq), .val (.int vA), .val (.int vB), .val (.int vC), .val (.int rq), .val (.int vR), .val (.long tt), .second, .val (.int vL), .val (.ref b1028), .val (.long ka), .second, .val (.int (1 : Int32))] [(.int r1045)]))
                    rcases mm1045 with ⟨rfl, mC⟩ | ⟨rfl, mC⟩
                    · skip
                      refine Run.pre (fun _ k => XS.ifNo X1045.here hx rfl (hb hby at_307) rfl ((if0 _ _).trans (feq ((by decide) : ¬ ((1 : Int32) = (0 : Int32)))).1) k) ?_
                      refine Run.pre (fun _ k => XS.iload X1045.here hx rfl (hb hby at_310) rfl  k) ?_
                      refine Run.pre (fun _ k => XS.ifNo X1045.here hx rfl (hb hby at_312) rfl ((if0 _ _).trans (feq ((by decide) : ¬ ((1 : Int32) = (0 : Int32)))).1) k) ?_
                      refine Run.pre (fun _ k => XS.lload X1045.here hx rfl (hb hby at_315) rfl  k) ?_
                      show Run p e below s _ _ _ (T1045.setTop (mkF m 317 #[.val (.long ka), .second, .val (.long kb), .second, .val (.long kc), .second, .val (.long ot), .second, .val (.int oq), .val (.int vA), .val (.int vB), .val (.int vC), .val (.int rq), .val (.int vR), .val (.long tt), .second, .val (.int vL), .val (.ref b1028), .val (.long ka), .second, .val (.int (1 : Int32))] [(.long ka)]))
                      refine Run.pre (fun _ k => XS.lload X1045.here hx rfl (hb hby at_317) rfl  k) ?_
                      refine Run.callS X1045 hx hZ (y := (⟨"java/lang/Math", "min", "(JJ)J"⟩ : MethodName)) hown (hwi hw 68 rfl) (hwi hw 69 rfl) (hwi hw 40 rfl) (hwi hw 70 rfl) (by decide) (W := 0) (rmMJ l Z a0 hw ka kc hGL207 n0 (Nat.le_trans Z0 KGL207.1)) e1045 (by decide) (by decide) (by decide) (by decide) (g := (mkF m 319 #[.val (.long ka), .second, .val (.long kb), .second, .val (.long kc), .second, .val (.long ot), .second, .val (.int oq), .val (.int vA), .val (.int vB), .val (.int vC), .val (.int rq), .val (.int vR), .val (.long tt), .second, .val (.int vL), .val (.ref b1028), .val (.long ka), .second, .val (.int (1 : Int32))] [(.long kc), (.long ka)])) rfl (by rw [hml]; rfl) (argsL := [(.long ka), (.long kc)]) (rest := []) (lenOf pd_8 rfl) rfl (by show 2 * 0 + _ ≤ _; exact Nat.le_of_eq rfl) (hb hby at_319) ?_
                      intro v1046 T1046 L1046 X1046 hQ1046
                      obtain ⟨z1046, rfl, Nq1046, he1046, mn_1046⟩ := hQ1046
                      have N1046 := Fr.app N1045 Nq1046
                      have e1046 : T1046.heap = hGL207 := he1046
                      show Run p e below s _ _ _ (T1046.setTop (mkF m 322 #[.val (.long ka), .second, .val (.long kb), .second, .val (.long kc), .second, .val (.long ot), .second, .val (.int oq), .val (.int vA), .val (.int vB), .val (.int vC), .val (.int rq), .val (.int vR), .val (.long tt), .second, .val (.int vL), .val (.ref b1028), .val (.long ka), .second, .val (.int (1 : Int32))] [(.long z1046)]))
                      rcases mn_1046 with ⟨hz2, mn2⟩ | ⟨hz2, mn2⟩
                      · rw [hz2]
                        refine Run.pre (fun _ k => XS.goto X1046.here hx rfl (pc0 := 322) (pc' := 327) rfl (hb hby at_322) (by decide) (by decide) k) ?_
                        refine Run.pre (fun _ k => XS.lstore X1046.here hx rfl (hb hby at_327) rfl (l' := #[.val (.long ka), .second, .val (.long kb), .second, .val (.long kc), .second, .val (.long ot), .second, .val (.int oq), .val (.int vA), .val (.int vB), .val (.int vC), .val (.int rq), .val (.int vR), .val (.long tt), .second, .val (.int vL), .val (.ref b1028), .val (.long ka), .second, .val (.int (1 : Int32))]) rfl k) ?_
                        refine Run.pre (fun _ k => XS.iconst X1046.here hx rfl (hb hby at_329) k) ?_
                        refine Run.pre (fun _ k => XS.istore X1046.here hx rfl (hb hby at_330) rfl (l' := #[.val (.long ka), .second, .val (.long kb), .second, .val (.long kc), .second, .val (.long ot), .second, .val (.int oq), .val (.int vA), .val (.int vB), .val (.int vC), .val (.int rq), .val (.int vR), .val (.long tt), .second, .val (.int vL), .val (.ref b1028), .val (.long ka), .second, .val (.int (1 : Int32))]) rfl k) ?_
                        show Run p e below s _ _ _ (T1046.setTop (mkF m 332 #[.val (.long ka), .second, .val (.long kb), .second, .val (.long kc), .second, .val (.long ot), .second, .val (.int oq), .val (.int vA), .val (.int vB), .val (.int vC), .val (.int rq), .val (.int vR), .val (.long tt), .second, .val (.int vL), .val (.ref b1028), .val (.long ka), .second, .val (.int (1 : Int32))] []))
                        refine Run.pre (fun _ k => XS.aload X1046.here hx rfl (hb hby at_332) rfl rfl k) ?_
                        refine Run.pre (fun _ k => XS.lload X1046.here hx rfl (hb hby at_334) rfl  k) ?_
                        refine Run.callV X1046 hx hZ (y := (⟨"com/example/manana/manana/storage/WaitingTable", "lowest", "(J)J"⟩ : MethodName)) (z := (⟨"com/example/manana/manana/storage/WaitingTable", "lowest", "(J)J"⟩ : MethodName)) hown (hwi hw 22 rfl) (hwi hw 23 rfl) (notFace_of_selects (args := #[]) (mvT hZ (hwi hw 25 rfl))) (hwi hw 25 rfl) (hwi hw 24 rfl) (hwi hw 26 rfl) (hwi hw 2 rfl) (by decide) (b := b1028) (hH.1) (W := 0) (rmLow l Z a0 hw b1028 xo1029 xd1029 xl1029 xq1029 xh1029 ko1029 kd1029 kl1029 kq1029 kh1029 p0 p1 p2 d0 d1 d2 l0 l1 l2 q0 q1 q2 b0 b1 b2 fi en si ot S hGL207 n0 (Nat.le_trans Z0 KGL207.1) hH hR) e1046 (by decide) (by decide) (by decide) (by decide) (g := (mkF m 336 #[.val (.long ka), .second, .val (.long kb), .second, .val (.long kc), .second, .val (.long ot), .second, .val (.int oq), .val (.int vA), .val (.int vB), .val (.int vC), .val (.int rq), .val (.int vR), .val (.long tt), .second, .val (.int vL), .val (.ref b1028), .val (.long ka), .second, .val (.int (1 : Int32))] [(.long ot), (.ref b1028)])) rfl (by rw [hml]; rfl) (argsL := [(.long ot)]) (rest := []) (lenOf pd_6 rfl) rfl (by show 2 * 0 + _ ≤ _; exact Nat.le_of_eq rfl) (hb hby at_336) ?_
                        intro v1047 T1047 L1047 X1047 hQ1047
                        obtain ⟨y1047, rfl, Nq1047, he1047, lw1047⟩ := hQ1047
                        have N1047 := Fr.app N1046 Nq1047
                        have e1047 : T1047.heap = hGL207 := he1047
                        refine Run.pre (fun _ k => XS.lload X1047.here hx rfl (hb hby at_339) rfl  k) ?_
                        refine Run.pre (fun _ k => XS.lcmp X1047.here hx rfl (hb hby at_341) rfl k) ?_
                        refine Run.pre (fun _ k => XS.ifNo X1047.here hx rfl (hb hby at_342) rfl ((if0 _ _).trans (teq (((lw_eq _ _).mpr (own_low3 hS (own_A5m vA vB vC vR vL ka kb kc tt) lw1047 ka (Or.inr ⟨mA, fun _ r => by simp only [Int64.lt_iff_toInt_lt] at r mn2; omega, fun q => absurd q mB, fun _ r => by simp only [Int64.lt_iff_toInt_lt] at r mn2; omega⟩))) : (lcmpW y1047 ka) = (0 : Int32))).2) k) ?_
                        show Run p e below s _ _ _ (T1047.setTop (mkF m 345 #[.val (.long ka), .second, .val (.long kb), .second, .val (.long kc), .second, .val (.long ot), .second, .val (.int oq), .val (.int vA), .val (.int vB), .val (.int vC), .val (.int rq), .val (.int vR), .val (.long tt), .second, .val (.int vL), .val (.ref b1028), .val (.long ka), .second, .val (.int (1 : Int32))] []))
                        refine Run.pre (fun _ k => XS.iconst X1047.here hx rfl (hb hby at_345) k) ?_
                        refine Run.pre (fun _ k => XS.goto X1047.here hx rfl (pc0 := 346) (pc' := 350) rfl (hb hby at_346) (by decide) (by decide) k) ?_
                        exact Run.retN X1047 hx hret (t := .boolean) (by simp) hlk (hb hby at_350) (by first | (rw [e1047]; exact ⟨rfl, N1047⟩) | exact ⟨rfl, N1047⟩) (by decide) (by decide)
                      · rw [hz2]
                        refine Run.pre (fun _ k => XS.goto X1046.here hx rfl (pc0 := 322) (pc' := 327) rfl (hb hby at_322) (by decide) (by decide) k) ?_
                        refine Run.pre (fun _ k => XS.lstore X1046.here hx rfl (hb hby at_327) rfl (l' := #[.val (.long ka), .second, .val (.long kb), .second, .val (.long kc), .second, .val (.long ot), .second, .val (.int oq), .val (.int vA), .val (.int vB), .val (.int vC), .val (.int rq), .val (.int vR), .val (.long tt), .second, .val (.int vL), .val (.ref b1028), .val (.long kc), .second, .val (.int (1 : Int32))]) rfl k) ?_
                        refine Run.pre (fun _ k => XS.iconst X1046.here hx rfl (hb hby at_329) k) ?_
                        refine Run.pre (fun _ k => XS.istore X1046.here hx rfl (hb hby at_330) rfl (l' := #[.val (.long ka), .second, .val (.long kb), .second, .val (.long kc), .second, .val (.long ot), .second, .val (.int oq), .val (.int vA), .val (.int vB), .val (.int vC), .val (.int rq), .val (.int vR), .val (.long tt), .second, .val (.int vL), .val (.ref b1028), .val (.long kc), .second, .val (.int (1 : Int32))]) rfl k) ?_
                        show Run p e below s _ _ _ (T1046.setTop (mkF m 332 #[.val (.long ka), .second, .val (.long kb), .second, .val (.long kc), .second, .val (.long ot), .second, .val (.int oq), .val (.int vA), .val (.int vB), .val (.int vC), .val (.int rq), .val (.int vR), .val (.long tt), .second, .val (.int vL), .val (.ref b1028), .val (.long kc), .second, .val (.int (1 : Int32))] []))
                        refine Run.pre (fun _ k => XS.aload X1046.here hx rfl (hb hby at_332) rfl rfl k) ?_
                        refine Run.pre (fun _ k => XS.lload X1046.here hx rfl (hb hby at_334) rfl  k) ?_
                        refine Run.callV X1046 hx hZ (y := (⟨"com/example/manana/manana/storage/WaitingTable", "lowest", "(J)J"⟩ : MethodName)) (z := (⟨"com/example/manana/manana/storage/WaitingTable", "lowest", "(J)J"⟩ : MethodName)) hown (hwi hw 22 rfl) (hwi hw 23 rfl) (notFace_of_selects (args := #[]) (mvT hZ (hwi hw 25 rfl))) (hwi hw 25 rfl) (hwi hw 24 rfl) (hwi hw 26 rfl) (hwi hw 2 rfl) (by decide) (b := b1028) (hH.1) (W := 0) (rmLow l Z a0 hw b1028 xo1029 xd1029 xl1029 xq1029 xh1029 ko1029 kd1029 kl1029 kq1029 kh1029 p0 p1 p2 d0 d1 d2 l0 l1 l2 q0 q1 q2 b0 b1 b2 fi en si ot S hGL207 n0 (Nat.le_trans Z0 KGL207.1) hH hR) e1046 (by decide) (by decide) (by decide) (by decide) (g := (mkF m 336 #[.val (.long ka), .second, .val (.long kb), .second, .val (.long kc), .second, .val (.long ot), .second, .val (.int oq), .val (.int vA), .val (.int vB), .val (.int vC), .val (.int rq), .val (.int vR), .val (.long tt), .second, .val (.int vL), .val (.ref b1028), .val (.long kc), .second, .val (.int (1 : Int32))] [(.long ot), (.ref b1028)])) rfl (by rw [hml]; rfl) (argsL := [(.long ot)]) (rest := []) (lenOf pd_6 rfl) rfl (by show 2 * 0 + _ ≤ _; exact Nat.le_of_eq rfl) (hb hby at_336) ?_
                        intro v1048 T1048 L1048 X1048 hQ1048
                        obtain ⟨y1048, rfl, Nq1048, he1048, lw1048⟩ := hQ1048
                        have N1048 := Fr.app N1046 Nq1048
                        have e1048 : T1048.heap = hGL207 := he1048
                        refine Run.pre (fun _ k => XS.lload X1048.here hx rfl (hb hby at_339) rfl  k) ?_
                        refine Run.pre (fun _ k => XS.lcmp X1048.here hx rfl (hb hby at_341) rfl k) ?_
                        refine Run.pre (fun _ k => XS.ifNo X1048.here hx rfl (hb hby at_342) rfl ((if0 _ _).trans (teq (((lw_eq _ _).mpr (own_low3 hS (own_A5m vA vB vC vR vL ka kb kc tt) lw1048 kc (Or.inr ⟨mC, fun _ r => by simp only [Int64.lt_iff_toInt_lt] at r mn2; omega, fun q => absurd q mB, fun _ r => by simp only [Int64.lt_iff_toInt_lt] at r mn2; omega⟩))) : (lcmpW y1048 kc) = (0 : Int32))).2) k) ?_
                        show Run p e below s _ _ _ (T1048.setTop (mkF m 345 #[.val (.long ka), .second, .val (.long kb), .second, .val (.long kc), .second, .val (.long ot), .second, .val (.int oq), .val (.int vA), .val (.int vB), .val (.int vC), .val (.int rq), .val (.int vR), .val (.long tt), .second, .val (.int vL), .val (.ref b1028), .val (.long kc), .second, .val (.int (1 : Int32))] []))
                        refine Run.pre (fun _ k => XS.iconst X1048.here hx rfl (hb hby at_345) k) ?_
                        refine Run.pre (fun _ k => XS.goto X1048.here hx rfl (pc0 := 346) (pc' := 350) rfl (hb hby at_346) (by decide) (by decide) k) ?_
                        exact Run.retN X1048 hx hret (t := .boolean) (by simp) hlk (hb hby at_350) (by first | (rw [e1048]; exact ⟨rfl, N1048⟩) | exact ⟨rfl, N1048⟩) (by decide) (by decide)
                    · skip
                      refine Run.pre (fun _ k => XS.ifYes X1045.here hx rfl (pc0 := 307) (pc' := 332) rfl (hb hby at_307) rfl ((if0 _ _).trans (teq ((by decide) : (0 : Int32) = (0 : Int32))).1) (by decide) (by decide) k) ?_
                      refine Run.pre (fun _ k => XS.aload X1045.here hx rfl (hb hby at_332) rfl rfl k) ?_
                      refine Run.pre (fun _ k => XS.lload X1045.here hx rfl (hb hby at_334) rfl  k) ?_
                      refine Run.callV X1045 hx hZ (y := (⟨"com/example/manana/manana/storage/WaitingTable", "lowest", "(J)J"⟩ : MethodName)) (z := (⟨"com/example/manana/manana/storage/WaitingTable", "lowest", "(J)J"⟩ : MethodName)) hown (hwi hw 22 rfl) (hwi hw 23 rfl) (notFace_of_selects (args := #[]) (mvT hZ (hwi hw 25 rfl))) (hwi hw 25 rfl) (hwi hw 24 rfl) (hwi hw 26 rfl) (hwi hw 2 rfl) (by decide) (b := b1028) (hH.1) (W := 0) (rmLow l Z a0 hw b1028 xo1029 xd1029 xl1029 xq1029 xh1029 ko1029 kd1029 kl1029 kq1029 kh1029 p0 p1 p2 d0 d1 d2 l0 l1 l2 q0 q1 q2 b0 b1 b2 fi en si ot S hGL207 n0 (Nat.le_trans Z0 KGL207.1) hH hR) e1045 (by decide) (by decide) (by decide) (by decide) (g := (mkF m 336 #[.val (.long ka), .second, .val (.long kb), .second, .val (.long kc), .second, .val (.long ot), .second, .val (.int oq), .val (.int vA), .val (.int vB), .val (.int vC), .val (.int rq), .val (.int vR), .val (.long tt), .second, .val (.int vL), .val (.ref b1028), .val (.long ka), .second, .val (.int (1 : Int32))] [(.long ot), (.ref b1028)])) rfl (by rw [hml]; rfl) (argsL := [(.long ot)]) (rest := []) (lenOf pd_6 rfl) rfl (by show 2 * 0 + _ ≤ _; exact Nat.le_of_eq rfl) (hb hby at_336) ?_
                      intro v1049 T1049 L1049 X1049 hQ1049
                      obtain ⟨y1049, rfl, Nq1049, he1049, lw1049⟩ := hQ1049
                      have N1049 := Fr.app N1045 Nq1049
                      have e1049 : T1049.heap = hGL207 := he1049
                      show Run p e below s _ _ _ (T1049.setTop (mkF m 339 #[.val (.long ka), .second, .val (.long kb), .second, .val (.long kc), .second, .val (.long ot), .second, .val (.int oq), .val (.int vA), .val (.int vB), .val (.int vC), .val (.int rq), .val (.int vR), .val (.long tt), .second, .val (.int vL), .val (.ref b1028), .val (.long ka), .second, .val (.int (1 : Int32))] [(.long y1049)]))
                      refine Run.pre (fun _ k => XS.lload X1049.here hx rfl (hb hby at_339) rfl  k) ?_
                      refine Run.pre (fun _ k => XS.lcmp X1049.here hx rfl (hb hby at_341) rfl k) ?_
                      refine Run.pre (fun _ k => XS.ifNo X1049.here hx rfl (hb hby at_342) rfl ((if0 _ _).trans (teq (((lw_eq _ _).mpr (own_low3 hS (own_A5m vA vB vC vR vL ka kb kc tt) lw1049 ka (Or.inr ⟨mA, fun _ r => by simp only [Int64.lt_iff_toInt_lt] at r ; omega, fun q => absurd q mB, fun q => absurd q mC⟩))) : (lcmpW y1049 ka) = (0 : Int32))).2) k) ?_
                      refine Run.pre (fun _ k => XS.iconst X1049.here hx rfl (hb hby at_345) k) ?_
                      refine Run.pre (fun _ k => XS.goto X1049.here hx rfl (pc0 := 346) (pc' := 350) rfl (hb hby at_346) (by decide) (by decide) k) ?_
                      exact Run.retN X1049 hx hret (t := .boolean) (by simp) hlk (hb hby at_350) (by first | (rw [e1049]; exact ⟨rfl, N1049⟩) | exact ⟨rfl, N1049⟩) (by decide) (by decide)
                · skip
                  refine Run.pre (fun _ k => XS.ifYes X1032.here hx rfl (pc0 := 234) (pc' := 243) rfl (hb hby at_234) rfl ((if0 _ _).trans (teq ((by decide) : (0 : Int32) = (0 : Int32))).1) (by decide) (by decide) k) ?_
                  refine Run.pre (fun _ k => XS.lloadN X1032.here hx rfl (hb hby at_243) rfl  k) ?_
                  show Run p e below s _ _ _ (T1032.setTop (mkF m 244 #[.val (.long ka), .second, .val (.long kb), .second, .val (.long kc), .second, .val (.long ot), .second, .val (.int oq), .val (.int vA), .val (.int vB), .val (.int vC), .val (.int rq), .val (.int vR), .val (.long tt), .second, .val (.int vL), .val (.ref b1028), .val (.long ot), .second, .val (.int (0 : Int32))] [(.long kb)]))
                  refine Run.pre (fun _ k => XS.lloadN X1032.here hx rfl (hb hby at_244) rfl  k) ?_
                  refine Run.pre (fun _ k => XS.lloadN X1032.here hx rfl (hb hby at_245) rfl  k) ?_
                  refine Run.pre (fun _ k => XS.lload X1032.here hx rfl (hb hby at_246) rfl  k) ?_
                  refine Run.pre (fun _ k => XS.iload X1032.here hx rfl (hb hby at_248) rfl  k) ?_
                  refine Run.pre (fun _ k => XS.iload X1032.here hx rfl (hb hby at_250) rfl  k) ?_
                  refine Run.pre (fun _ k => XS.iload X1032.here hx rfl (hb hby at_252) rfl  k) ?_
                  show Run p e below s _ _ _ (T1032.setTop (mkF m 254 #[.val (.long ka), .second, .val (.long kb), .second, .val (.long kc), .second, .val (.long ot), .second, .val (.int oq), .val (.int vA), .val (.int vB), .val (.int vC), .val (.int rq), .val (.int vR), .val (.long tt), .second, .val (.int vL), .val (.ref b1028), .val (.long ot), .second, .val (.int (0 : Int32))] [(.int vC), (.int vB), (.int vA), (.long kc), (.long kb), (.long ka), (.long kb)]))
                  refine Run.pre (fun _ k => XS.iload X1032.here hx rfl (hb hby at_254) rfl  k) ?_
                  refine Run.pre (fun _ k => XS.iload X1032.here hx rfl (hb hby at_256) rfl  k) ?_
                  refine Run.pre (fun _ k => XS.lload X1032.here hx rfl (hb hby at_258) rfl  k) ?_
                  refine Run.callS X1032 hx hZ (y := (⟨"com/example/manana/manana/storage/WaitingTableLowestPinLaw", "member", "(JJJJZZZZZJ)Z"⟩ : MethodName)) hown (hwi hw 64 rfl) (hwi hw 65 rfl) (hwi hw 66 rfl) (hwi hw 67 rfl) (by decide) (W := 0) (rmMem l Z a0 hw kb ka kb kc vA vB vC vR vL tt hGL207 n0 (Nat.le_trans Z0 KGL207.1)) e1032 (by decide) (by decide) (by decide) (by decide) (g := (mkF m 260 #[.val (.long ka), .second, .val (.long kb), .second, .val (.long kc), .second, .val (.long ot), .second, .val (.int oq), .val (.int vA), .val (.int vB), .val (.int vC), .val (.int rq), .val (.int vR), .val (.long tt), .second, .val (.int vL), .val (.ref b1028), .val (.long ot), .second, .val (.int (0 : Int32))] [(.long tt), (.int vL), (.int vR), (.int vC), (.int vB), (.int vA), (.long kc), (.long kb), (.long ka), (.long kb)])) rfl (by rw [hml]; rfl) (argsL := [(.long kb), (.long ka), (.long kb), (.long kc), (.int vA), (.int vB), (.int vC), (.int vR), (.int vL), (.long tt)]) (rest := []) (lenOf pd_7 rfl) rfl (by show 2 * 0 + _ ≤ _; exact Nat.le_of_eq rfl) (hb hby at_260) ?_
                  intro v1050 T1050 L1050 X1050 hQ1050
                  obtain ⟨r1050, rfl, Nq1050, he1050, mm1050⟩ := hQ1050
                  have N1050 := Fr.app N1032 Nq1050
                  have e1050 : T1050.heap = hGL207 := he1050
                  show Run p e below s _ _ _ (T1050.setTop (mkF m 263 #[.val (.long ka), .second, .val (.long kb), .second, .val (.long kc), .second, .val (.long ot), .second, .val (.int oq), .val (.int vA), .val (.int vB), .val (.int vC), .val (.int rq), .val (.int vR), .val (.long tt), .second, .val (.int vL), .val (.ref b1028), .val (.long ot), .second, .val (.int (0 : Int32))] [(.int r1050)]))
                  rcases mm1050 with ⟨rfl, mB⟩ | ⟨rfl, mB⟩
                  · skip
                    refine Run.pre (fun _ k => XS.ifNo X1050.here hx rfl (hb hby at_263) rfl ((if0 _ _).trans (feq ((by decide) : ¬ ((1 : Int32) = (0 : Int32)))).1) k) ?_
                    refine Run.pre (fun _ k => XS.iload X1050.here hx rfl (hb hby at_266) rfl  k) ?_
                    show Run p e below s _ _ _ (T1050.setTop (mkF m 268 #[.val (.long ka), .second, .val (.long kb), .second, .val (.long kc), .second, .val (.long ot), .second, .val (.int oq), .val (.int vA), .val (.int vB), .val (.int vC), .val (.int rq), .val (.int vR), .val (.long tt), .second, .val (.int vL), .val (.ref b1028), .val (.long ot), .second, .val (.int (0 : Int32))] [(.int (0 : Int32))]))
                    refine Run.pre (fun _ k => XS.ifYes X1050.here hx rfl (pc0 := 268) (pc' := 280) rfl (hb hby at_268) rfl ((if0 _ _).trans (teq ((by decide) : (0 : Int32) = (0 : Int32))).1) (by decide) (by decide) k) ?_
                    refine Run.pre (fun _ k => XS.lloadN X1050.here hx rfl (hb hby at_280) rfl  k) ?_
                    refine Run.pre (fun _ k => XS.lstore X1050.here hx rfl (hb hby at_281) rfl (l' := #[.val (.long ka), .second, .val (.long kb), .second, .val (.long kc), .second, .val (.long ot), .second, .val (.int oq), .val (.int vA), .val (.int vB), .val (.int vC), .val (.int rq), .val (.int vR), .val (.long tt), .second, .val (.int vL), .val (.ref b1028), .val (.long kb), .second, .val (.int (0 : Int32))]) rfl k) ?_
                    refine Run.pre (fun _ k => XS.iconst X1050.here hx rfl (hb hby at_283) k) ?_
                    refine Run.pre (fun _ k => XS.istore X1050.here hx rfl (hb hby at_284) rfl (l' := #[.val (.long ka), .second, .val (.long kb), .second, .val (.long kc), .second, .val (.long ot), .second, .val (.int oq), .val (.int vA), .val (.int vB), .val (.int vC), .val (.int rq), .val (.int vR), .val (.long tt), .second, .val (.int vL), .val (.ref b1028), .val (.long kb), .second, .val (.int (1 : Int32))]) rfl k) ?_
                    refine Run.pre (fun _ k => XS.lload X1050.here hx rfl (hb hby at_286) rfl  k) ?_
                    show Run p e below s _ _ _ (T1050.setTop (mkF m 288 #[.val (.long ka), .second, .val (.long kb), .second, .val (.long kc), .second, .val (.long ot), .second, .val (.int oq), .val (.int vA), .val (.int vB), .val (.int vC), .val (.int rq), .val (.int vR), .val (.long tt), .second, .val (.int vL), .val (.ref b1028), .val (.long kb), .second, .val (.int (1 : Int32))] [(.long kc)]))
                    refine Run.pre (fun _ k => XS.lloadN X1050.here hx rfl (hb hby at_288) rfl  k) ?_
                    refine Run.pre (fun _ k => XS.lloadN X1050.here hx rfl (hb hby at_289) rfl  k) ?_
                    refine Run.pre (fun _ k => XS.lload X1050.here hx rfl (hb hby at_290) rfl  k) ?_
                    refine Run.pre (fun _ k => XS.iload X1050.here hx rfl (hb hby at_292) rfl  k) ?_
                    refine Run.pre (fun _ k => XS.iload X1050.here hx rfl (hb hby at_294) rfl  k) ?_
                    refine Run.pre (fun _ k => XS.iload X1050.here hx rfl (hb hby at_296) rfl  k) ?_
                    show Run p e below s _ _ _ (T1050.setTop (mkF m 298 #[.val (.long ka), .second, .val (.long kb), .second, .val (.long kc), .second, .val (.long ot), .second, .val (.int oq), .val (.int vA), .val (.int vB), .val (.int vC), .val (.int rq), .val (.int vR), .val (.long tt), .second, .val (.int vL), .val (.ref b1028), .val (.long kb), .second, .val (.int (1 : Int32))] [(.int vC), (.int vB), (.int vA), (.long kc), (.long kb), (.long ka), (.long kc)]))
                    refine Run.pre (fun _ k => XS.iload X1050.here hx rfl (hb hby at_298) rfl  k) ?_
                    refine Run.pre (fun _ k => XS.iload X1050.here hx rfl (hb hby at_300) rfl  k) ?_
                    refine Run.pre (fun _ k => XS.lload X1050.here hx rfl (hb hby at_302) rfl  k) ?_
                    refine Run.callS X1050 hx hZ (y := (⟨"com/example/manana/manana/storage/WaitingTableLowestPinLaw", "member", "(JJJJZZZZZJ)Z"⟩ : MethodName)) hown (hwi hw 64 rfl) (hwi hw 65 rfl) (hwi hw 66 rfl) (hwi hw 67 rfl) (by decide) (W := 0) (rmMem l Z a0 hw kc ka kb kc vA vB vC vR vL tt hGL207 n0 (Nat.le_trans Z0 KGL207.1)) e1050 (by decide) (by decide) (by decide) (by decide) (g := (mkF m 304 #[.val (.long ka), .second, .val (.long kb), .second, .val (.long kc), .second, .val (.long ot), .second, .val (.int oq), .val (.int vA), .val (.int vB), .val (.int vC), .val (.int rq), .val (.int vR), .val (.long tt), .second, .val (.int vL), .val (.ref b1028), .val (.long kb), .second, .val (.int (1 : Int32))] [(.long tt), (.int vL), (.int vR), (.int vC), (.int vB), (.int vA), (.long kc), (.long kb), (.long ka), (.long kc)])) rfl (by rw [hml]; rfl) (argsL := [(.long kc), (.long ka), (.long kb), (.long kc), (.int vA), (.int vB), (.int vC), (.int vR), (.int vL), (.long tt)]) (rest := []) (lenOf pd_7 rfl) rfl (by show 2 * 0 + _ ≤ _; exact Nat.le_of_eq rfl) (hb hby at_304) ?_
                    intro v1051 T1051 L1051 X1051 hQ1051
                    obtain ⟨r1051, rfl, Nq1051, he1051, mm1051⟩ := hQ1051
                    have N1051 := Fr.app N1050 Nq1051
                    have e1051 : T1051.heap = hGL207 := he1051
                    show Run p e below s _ _ _ (T1051.setTop (mkF m 307 #[.val (.long ka), .second, .val (.long kb), .second, .val (.long kc), .second, .val (.long ot), .second, .val (.int oq), .val (.int vA), .val (.int vB), .val (.int vC), .val (.int rq), .val (.int vR), .val (.long tt), .second, .val (.int vL), .val (.ref b1028), .val (.long kb), .second, .val (.int (1 : Int32))] [(.int r1051)]))
                    rcases mm1051 with ⟨rfl, mC⟩ | ⟨rfl, mC⟩
                    · skip
                      refine Run.pre (fun _ k => XS.ifNo X1051.here hx rfl (hb hby at_307) rfl ((if0 _ _).trans (feq ((by decide) : ¬ ((1 : Int32) = (0 : Int32)))).1) k) ?_
                      refine Run.pre (fun _ k => XS.iload X1051.here hx rfl (hb hby at_310) rfl  k) ?_
                      show Run p e below s _ _ _ (T1051.setTop (mkF m 312 #[.val (.long ka), .second, .val (.long kb), .second, .val (.long kc), .second, .val (.long ot), .second, .val (.int oq), .val (.int vA), .val (.int vB), .val (.int vC), .val (.int rq), .val (.int vR), .val (.long tt), .second, .val (.int vL), .val (.ref b1028), .val (.long kb), .second, .val (.int (1 : Int32))] [(.int (1 : Int32))]))
                      refine Run.pre (fun _ k => XS.ifNo X1051.here hx rfl (hb hby at_312) rfl ((if0 _ _).trans (feq ((by decide) : ¬ ((1 : Int32) = (0 : Int32)))).1) k) ?_
                      refine Run.pre (fun _ k => XS.lload X1051.here hx rfl (hb hby at_315) rfl  k) ?_
                      refine Run.pre (fun _ k => XS.lload X1051.here hx rfl (hb hby at_317) rfl  k) ?_
                      refine Run.callS X1051 hx hZ (y := (⟨"java/lang/Math", "min", "(JJ)J"⟩ : MethodName)) hown (hwi hw 68 rfl) (hwi hw 69 rfl) (hwi hw 40 rfl) (hwi hw 70 rfl) (by decide) (W := 0) (rmMJ l Z a0 hw kb kc hGL207 n0 (Nat.le_trans Z0 KGL207.1)) e1051 (by decide) (by decide) (by decide) (by decide) (g := (mkF m 319 #[.val (.long ka), .second, .val (.long kb), .second, .val (.long kc), .second, .val (.long ot), .second, .val (.int oq), .val (.int vA), .val (.int vB), .val (.int vC), .val (.int rq), .val (.int vR), .val (.long tt), .second, .val (.int vL), .val (.ref b1028), .val (.long kb), .second, .val (.int (1 : Int32))] [(.long kc), (.long kb)])) rfl (by rw [hml]; rfl) (argsL := [(.long kb), (.long kc)]) (rest := []) (lenOf pd_8 rfl) rfl (by show 2 * 0 + _ ≤ _; exact Nat.le_of_eq rfl) (hb hby at_319) ?_
                      intro v1052 T1052 L1052 X1052 hQ1052
                      obtain ⟨z1052, rfl, Nq1052, he1052, mn_1052⟩ := hQ1052
                      have N1052 := Fr.app N1051 Nq1052
                      have e1052 : T1052.heap = hGL207 := he1052
                      show Run p e below s _ _ _ (T1052.setTop (mkF m 322 #[.val (.long ka), .second, .val (.long kb), .second, .val (.long kc), .second, .val (.long ot), .second, .val (.int oq), .val (.int vA), .val (.int vB), .val (.int vC), .val (.int rq), .val (.int vR), .val (.long tt), .second, .val (.int vL), .val (.ref b1028), .val (.long kb), .second, .val (.int (1 : Int32))] [(.long z1052)]))
                      rcases mn_1052 with ⟨hz2, mn2⟩ | ⟨hz2, mn2⟩
                      · rw [hz2]
                        refine Run.pre (fun _ k => XS.goto X1052.here hx rfl (pc0 := 322) (pc' := 327) rfl (hb hby at_322) (by decide) (by decide) k) ?_
                        refine Run.pre (fun _ k => XS.lstore X1052.here hx rfl (hb hby at_327) rfl (l' := #[.val (.long ka), .second, .val (.long kb), .second, .val (.long kc), .second, .val (.long ot), .second, .val (.int oq), .val (.int vA), .val (.int vB), .val (.int vC), .val (.int rq), .val (.int vR), .val (.long tt), .second, .val (.int vL), .val (.ref b1028), .val (.long kb), .second, .val (.int (1 : Int32))]) rfl k) ?_
                        show Run p e below s _ _ _ (T1052.setTop (mkF m 329 #[.val (.long ka), .second, .val (.long kb), .second, .val (.long kc), .second, .val (.long ot), .second, .val (.int oq), .val (.int vA), .val (.int vB), .val (.int vC), .val (.int rq), .val (.int vR), .val (.long tt), .second, .val (.int vL), .val (.ref b1028), .val (.long kb), .second, .val (.int (1 : Int32))] []))
                        refine Run.pre (fun _ k => XS.iconst X1052.here hx rfl (hb hby at_329) k) ?_
                        refine Run.pre (fun _ k => XS.istore X1052.here hx rfl (hb hby at_330) rfl (l' := #[.val (.long ka), .second, .val (.long kb), .second, .val (.long kc), .second, .val (.long ot), .second, .val (.int oq), .val (.int vA), .val (.int vB), .val (.int vC), .val (.int rq), .val (.int vR), .val (.long tt), .second, .val (.int vL), .val (.ref b1028), .val (.long kb), .second, .val (.int (1 : Int32))]) rfl k) ?_
                        refine Run.pre (fun _ k => XS.aload X1052.here hx rfl (hb hby at_332) rfl rfl k) ?_
                        refine Run.pre (fun _ k => XS.lload X1052.here hx rfl (hb hby at_334) rfl  k) ?_
                        refine Run.callV X1052 hx hZ (y := (⟨"com/example/manana/manana/storage/WaitingTable", "lowest", "(J)J"⟩ : MethodName)) (z := (⟨"com/example/manana/manana/storage/WaitingTable", "lowest", "(J)J"⟩ : MethodName)) hown (hwi hw 22 rfl) (hwi hw 23 rfl) (notFace_of_selects (args := #[]) (mvT hZ (hwi hw 25 rfl))) (hwi hw 25 rfl) (hwi hw 24 rfl) (hwi hw 26 rfl) (hwi hw 2 rfl) (by decide) (b := b1028) (hH.1) (W := 0) (rmLow l Z a0 hw b1028 xo1029 xd1029 xl1029 xq1029 xh1029 ko1029 kd1029 kl1029 kq1029 kh1029 p0 p1 p2 d0 d1 d2 l0 l1 l2 q0 q1 q2 b0 b1 b2 fi en si ot S hGL207 n0 (Nat.le_trans Z0 KGL207.1) hH hR) e1052 (by decide) (by decide) (by decide) (by decide) (g := (mkF m 336 #[.val (.long ka), .second, .val (.long kb), .second, .val (.long kc), .second, .val (.long ot), .second, .val (.int oq), .val (.int vA), .val (.int vB), .val (.int vC), .val (.int rq), .val (.int vR), .val (.long tt), .second, .val (.int vL), .val (.ref b1028), .val (.long kb), .second, .val (.int (1 : Int32))] [(.long ot), (.ref b1028)])) rfl (by rw [hml]; rfl) (argsL := [(.long ot)]) (rest := []) (lenOf pd_6 rfl) rfl (by show 2 * 0 + _ ≤ _; exact Nat.le_of_eq rfl) (hb hby at_336) ?_
                        intro v1053 T1053 L1053 X1053 hQ1053
                        obtain ⟨y1053, rfl, Nq1053, he1053, lw1053⟩ := hQ1053
                        have N1053 := Fr.app N1052 Nq1053
                        have e1053 : T1053.heap = hGL207 := he1053
                        refine Run.pre (fun _ k => XS.lload X1053.here hx rfl (hb hby at_339) rfl  k) ?_
                        show Run p e below s _ _ _ (T1053.setTop (mkF m 341 #[.val (.long ka), .second, .val (.long kb), .second, .val (.long kc), .second, .val (.long ot), .second, .val (.int oq), .val (.int vA), .val (.int vB), .val (.int vC), .val (.int rq), .val (.int vR), .val (.long tt), .second, .val (.int vL), .val (.ref b1028), .val (.long kb), .second, .val (.int (1 : Int32))] [(.long kb), (.long y1053)]))
                        refine Run.pre (fun _ k => XS.lcmp X1053.here hx rfl (hb hby at_341) rfl k) ?_
                        refine Run.pre (fun _ k => XS.ifNo X1053.here hx rfl (hb hby at_342) rfl ((if0 _ _).trans (teq (((lw_eq _ _).mpr (own_low3 hS (own_A5m vA vB vC vR vL ka kb kc tt) lw1053 kb (Or.inr ⟨mB, fun q => absurd q mA, fun _ r => by simp only [Int64.lt_iff_toInt_lt] at r mn2; omega, fun _ r => by simp only [Int64.lt_iff_toInt_lt] at r mn2; omega⟩))) : (lcmpW y1053 kb) = (0 : Int32))).2) k) ?_
                        refine Run.pre (fun _ k => XS.iconst X1053.here hx rfl (hb hby at_345) k) ?_
                        refine Run.pre (fun _ k => XS.goto X1053.here hx rfl (pc0 := 346) (pc' := 350) rfl (hb hby at_346) (by decide) (by decide) k) ?_
                        exact Run.retN X1053 hx hret (t := .boolean) (by simp) hlk (hb hby at_350) (by first | (rw [e1053]; exact ⟨rfl, N1053⟩) | exact ⟨rfl, N1053⟩) (by decide) (by decide)
                      · rw [hz2]
                        refine Run.pre (fun _ k => XS.goto X1052.here hx rfl (pc0 := 322) (pc' := 327) rfl (hb hby at_322) (by decide) (by decide) k) ?_
                        refine Run.pre (fun _ k => XS.lstore X1052.here hx rfl (hb hby at_327) rfl (l' := #[.val (.long ka), .second, .val (.long kb), .second, .val (.long kc), .second, .val (.long ot), .second, .val (.int oq), .val (.int vA), .val (.int vB), .val (.int vC), .val (.int rq), .val (.int vR), .val (.long tt), .second, .val (.int vL), .val (.ref b1028), .val (.long kc), .second, .val (.int (1 : Int32))]) rfl k) ?_
                        show Run p e below s _ _ _ (T1052.setTop (mkF m 329 #[.val (.long ka), .second, .val (.long kb), .second, .val (.long kc), .second, .val (.long ot), .second, .val (.int oq), .val (.int vA), .val (.int vB), .val (.int vC), .val (.int rq), .val (.int vR), .val (.long tt), .second, .val (.int vL), .val (.ref b1028), .val (.long kc), .second, .val (.int (1 : Int32))] []))
                        refine Run.pre (fun _ k => XS.iconst X1052.here hx rfl (hb hby at_329) k) ?_
                        refine Run.pre (fun _ k => XS.istore X1052.here hx rfl (hb hby at_330) rfl (l' := #[.val (.long ka), .second, .val (.long kb), .second, .val (.long kc), .second, .val (.long ot), .second, .val (.int oq), .val (.int vA), .val (.int vB), .val (.int vC), .val (.int rq), .val (.int vR), .val (.long tt), .second, .val (.int vL), .val (.ref b1028), .val (.long kc), .second, .val (.int (1 : Int32))]) rfl k) ?_
                        refine Run.pre (fun _ k => XS.aload X1052.here hx rfl (hb hby at_332) rfl rfl k) ?_
                        refine Run.pre (fun _ k => XS.lload X1052.here hx rfl (hb hby at_334) rfl  k) ?_
                        refine Run.callV X1052 hx hZ (y := (⟨"com/example/manana/manana/storage/WaitingTable", "lowest", "(J)J"⟩ : MethodName)) (z := (⟨"com/example/manana/manana/storage/WaitingTable", "lowest", "(J)J"⟩ : MethodName)) hown (hwi hw 22 rfl) (hwi hw 23 rfl) (notFace_of_selects (args := #[]) (mvT hZ (hwi hw 25 rfl))) (hwi hw 25 rfl) (hwi hw 24 rfl) (hwi hw 26 rfl) (hwi hw 2 rfl) (by decide) (b := b1028) (hH.1) (W := 0) (rmLow l Z a0 hw b1028 xo1029 xd1029 xl1029 xq1029 xh1029 ko1029 kd1029 kl1029 kq1029 kh1029 p0 p1 p2 d0 d1 d2 l0 l1 l2 q0 q1 q2 b0 b1 b2 fi en si ot S hGL207 n0 (Nat.le_trans Z0 KGL207.1) hH hR) e1052 (by decide) (by decide) (by decide) (by decide) (g := (mkF m 336 #[.val (.long ka), .second, .val (.long kb), .second, .val (.long kc), .second, .val (.long ot), .second, .val (.int oq), .val (.int vA), .val (.int vB), .val (.int vC), .val (.int rq), .val (.int vR), .val (.long tt), .second, .val (.int vL), .val (.ref b1028), .val (.long kc), .second, .val (.int (1 : Int32))] [(.long ot), (.ref b1028)])) rfl (by rw [hml]; rfl) (argsL := [(.long ot)]) (rest := []) (lenOf pd_6 rfl) rfl (by show 2 * 0 + _ ≤ _; exact Nat.le_of_eq rfl) (hb hby at_336) ?_
                        intro v1054 T1054 L1054 X1054 hQ1054
                        obtain ⟨y1054, rfl, Nq1054, he1054, lw1054⟩ := hQ1054
                        have N1054 := Fr.app N1052 Nq1054
                        have e1054 : T1054.heap = hGL207 := he1054
                        refine Run.pre (fun _ k => XS.lload X1054.here hx rfl (hb hby at_339) rfl  k) ?_
                        show Run p e below s _ _ _ (T1054.setTop (mkF m 341 #[.val (.long ka), .second, .val (.long kb), .second, .val (.long kc), .second, .val (.long ot), .second, .val (.int oq), .val (.int vA), .val (.int vB), .val (.int vC), .val (.int rq), .val (.int vR), .val (.long tt), .second, .val (.int vL), .val (.ref b1028), .val (.long kc), .second, .val (.int (1 : Int32))] [(.long kc), (.long y1054)]))
                        refine Run.pre (fun _ k => XS.lcmp X1054.here hx rfl (hb hby at_341) rfl k) ?_
                        refine Run.pre (fun _ k => XS.ifNo X1054.here hx rfl (hb hby at_342) rfl ((if0 _ _).trans (teq (((lw_eq _ _).mpr (own_low3 hS (own_A5m vA vB vC vR vL ka kb kc tt) lw1054 kc (Or.inr ⟨mC, fun q => absurd q mA, fun _ r => by simp only [Int64.lt_iff_toInt_lt] at r mn2; omega, fun _ r => by simp only [Int64.lt_iff_toInt_lt] at r mn2; omega⟩))) : (lcmpW y1054 kc) = (0 : Int32))).2) k) ?_
                        refine Run.pre (fun _ k => XS.iconst X1054.here hx rfl (hb hby at_345) k) ?_
                        refine Run.pre (fun _ k => XS.goto X1054.here hx rfl (pc0 := 346) (pc' := 350) rfl (hb hby at_346) (by decide) (by decide) k) ?_
                        exact Run.retN X1054 hx hret (t := .boolean) (by simp) hlk (hb hby at_350) (by first | (rw [e1054]; exact ⟨rfl, N1054⟩) | exact ⟨rfl, N1054⟩) (by decide) (by decide)
                    · skip
                      refine Run.pre (fun _ k => XS.ifYes X1051.here hx rfl (pc0 := 307) (pc' := 332) rfl (hb hby at_307) rfl ((if0 _ _).trans (teq ((by decide) : (0 : Int32) = (0 : Int32))).1) (by decide) (by decide) k) ?_
                      refine Run.pre (fun _ k => XS.aload X1051.here hx rfl (hb hby at_332) rfl rfl k) ?_
                      show Run p e below s _ _ _ (T1051.setTop (mkF m 334 #[.val (.long ka), .second, .val (.long kb), .second, .val (.long kc), .second, .val (.long ot), .second, .val (.int oq), .val (.int vA), .val (.int vB), .val (.int vC), .val (.int rq), .val (.int vR), .val (.long tt), .second, .val (.int vL), .val (.ref b1028), .val (.long kb), .second, .val (.int (1 : Int32))] [(.ref b1028)]))
                      refine Run.pre (fun _ k => XS.lload X1051.here hx rfl (hb hby at_334) rfl  k) ?_
                      refine Run.callV X1051 hx hZ (y := (⟨"com/example/manana/manana/storage/WaitingTable", "lowest", "(J)J"⟩ : MethodName)) (z := (⟨"com/example/manana/manana/storage/WaitingTable", "lowest", "(J)J"⟩ : MethodName)) hown (hwi hw 22 rfl) (hwi hw 23 rfl) (notFace_of_selects (args := #[]) (mvT hZ (hwi hw 25 rfl))) (hwi hw 25 rfl) (hwi hw 24 rfl) (hwi hw 26 rfl) (hwi hw 2 rfl) (by decide) (b := b1028) (hH.1) (W := 0) (rmLow l Z a0 hw b1028 xo1029 xd1029 xl1029 xq1029 xh1029 ko1029 kd1029 kl1029 kq1029 kh1029 p0 p1 p2 d0 d1 d2 l0 l1 l2 q0 q1 q2 b0 b1 b2 fi en si ot S hGL207 n0 (Nat.le_trans Z0 KGL207.1) hH hR) e1051 (by decide) (by decide) (by decide) (by decide) (g := (mkF m 336 #[.val (.long ka), .second, .val (.long kb), .second, .val (.long kc), .second, .val (.long ot), .second, .val (.int oq), .val (.int vA), .val (.int vB), .val (.int vC), .val (.int rq), .val (.int vR), .val (.long tt), .second, .val (.int vL), .val (.ref b1028), .val (.long kb), .second, .val (.int (1 : Int32))] [(.long ot), (.ref b1028)])) rfl (by rw [hml]; rfl) (argsL := [(.long ot)]) (rest := []) (lenOf pd_6 rfl) rfl (by show 2 * 0 + _ ≤ _; exact Nat.le_of_eq rfl) (hb hby at_336) ?_
                      intro v1055 T1055 L1055 X1055 hQ1055
                      obtain ⟨y1055, rfl, Nq1055, he1055, lw1055⟩ := hQ1055
                      have N1055 := Fr.app N1051 Nq1055
                      have e1055 : T1055.heap = hGL207 := he1055
                      refine Run.pre (fun _ k => XS.lload X1055.here hx rfl (hb hby at_339) rfl  k) ?_
                      refine Run.pre (fun _ k => XS.lcmp X1055.here hx rfl (hb hby at_341) rfl k) ?_
                      refine Run.pre (fun _ k => XS.ifNo X1055.here hx rfl (hb hby at_342) rfl ((if0 _ _).trans (teq (((lw_eq _ _).mpr (own_low3 hS (own_A5m vA vB vC vR vL ka kb kc tt) lw1055 kb (Or.inr ⟨mB, fun q => absurd q mA, fun _ r => by simp only [Int64.lt_iff_toInt_lt] at r ; omega, fun q => absurd q mC⟩))) : (lcmpW y1055 kb) = (0 : Int32))).2) k) ?_
                      refine Run.pre (fun _ k => XS.iconst X1055.here hx rfl (hb hby at_345) k) ?_
                      show Run p e below s _ _ _ (T1055.setTop (mkF m 346 #[.val (.long ka), .second, .val (.long kb), .second, .val (.long kc), .second, .val (.long ot), .second, .val (.int oq), .val (.int vA), .val (.int vB), .val (.int vC), .val (.int rq), .val (.int vR), .val (.long tt), .second, .val (.int vL), .val (.ref b1028), .val (.long kb), .second, .val (.int (1 : Int32))] [(.int (1 : Int32))]))
                      refine Run.pre (fun _ k => XS.goto X1055.here hx rfl (pc0 := 346) (pc' := 350) rfl (hb hby at_346) (by decide) (by decide) k) ?_
                      exact Run.retN X1055 hx hret (t := .boolean) (by simp) hlk (hb hby at_350) (by first | (rw [e1055]; exact ⟨rfl, N1055⟩) | exact ⟨rfl, N1055⟩) (by decide) (by decide)
                  · skip
                    refine Run.pre (fun _ k => XS.ifYes X1050.here hx rfl (pc0 := 263) (pc' := 286) rfl (hb hby at_263) rfl ((if0 _ _).trans (teq ((by decide) : (0 : Int32) = (0 : Int32))).1) (by decide) (by decide) k) ?_
                    refine Run.pre (fun _ k => XS.lload X1050.here hx rfl (hb hby at_286) rfl  k) ?_
                    show Run p e below s _ _ _ (T1050.setTop (mkF m 288 #[.val (.long ka), .second, .val (.long kb), .second, .val (.long kc), .second, .val (.long ot), .second, .val (.int oq), .val (.int vA), .val (.int vB), .val (.int vC), .val (.int rq), .val (.int vR), .val (.long tt), .second, .val (.int vL), .val (.ref b1028), .val (.long ot), .second, .val (.int (0 : Int32))] [(.long kc)]))
                    refine Run.pre (fun _ k => XS.lloadN X1050.here hx rfl (hb hby at_288) rfl  k) ?_
                    refine Run.pre (fun _ k => XS.lloadN X1050.here hx rfl (hb hby at_289) rfl  k) ?_
                    refine Run.pre (fun _ k => XS.lload X1050.here hx rfl (hb hby at_290) rfl  k) ?_
                    refine Run.pre (fun _ k => XS.iload X1050.here hx rfl (hb hby at_292) rfl  k) ?_
                    refine Run.pre (fun _ k => XS.iload X1050.here hx rfl (hb hby at_294) rfl  k) ?_
                    refine Run.pre (fun _ k => XS.iload X1050.here hx rfl (hb hby at_296) rfl  k) ?_
                    show Run p e below s _ _ _ (T1050.setTop (mkF m 298 #[.val (.long ka), .second, .val (.long kb), .second, .val (.long kc), .second, .val (.long ot), .second, .val (.int oq), .val (.int vA), .val (.int vB), .val (.int vC), .val (.int rq), .val (.int vR), .val (.long tt), .second, .val (.int vL), .val (.ref b1028), .val (.long ot), .second, .val (.int (0 : Int32))] [(.int vC), (.int vB), (.int vA), (.long kc), (.long kb), (.long ka), (.long kc)]))
                    refine Run.pre (fun _ k => XS.iload X1050.here hx rfl (hb hby at_298) rfl  k) ?_
                    refine Run.pre (fun _ k => XS.iload X1050.here hx rfl (hb hby at_300) rfl  k) ?_
                    refine Run.pre (fun _ k => XS.lload X1050.here hx rfl (hb hby at_302) rfl  k) ?_
                    refine Run.callS X1050 hx hZ (y := (⟨"com/example/manana/manana/storage/WaitingTableLowestPinLaw", "member", "(JJJJZZZZZJ)Z"⟩ : MethodName)) hown (hwi hw 64 rfl) (hwi hw 65 rfl) (hwi hw 66 rfl) (hwi hw 67 rfl) (by decide) (W := 0) (rmMem l Z a0 hw kc ka kb kc vA vB vC vR vL tt hGL207 n0 (Nat.le_trans Z0 KGL207.1)) e1050 (by decide) (by decide) (by decide) (by decide) (g := (mkF m 304 #[.val (.long ka), .second, .val (.long kb), .second, .val (.long kc), .second, .val (.long ot), .second, .val (.int oq), .val (.int vA), .val (.int vB), .val (.int vC), .val (.int rq), .val (.int vR), .val (.long tt), .second, .val (.int vL), .val (.ref b1028), .val (.long ot), .second, .val (.int (0 : Int32))] [(.long tt), (.int vL), (.int vR), (.int vC), (.int vB), (.int vA), (.long kc), (.long kb), (.long ka), (.long kc)])) rfl (by rw [hml]; rfl) (argsL := [(.long kc), (.long ka), (.long kb), (.long kc), (.int vA), (.int vB), (.int vC), (.int vR), (.int vL), (.long tt)]) (rest := []) (lenOf pd_7 rfl) rfl (by show 2 * 0 + _ ≤ _; exact Nat.le_of_eq rfl) (hb hby at_304) ?_
                    intro v1056 T1056 L1056 X1056 hQ1056
                    obtain ⟨r1056, rfl, Nq1056, he1056, mm1056⟩ := hQ1056
                    have N1056 := Fr.app N1050 Nq1056
                    have e1056 : T1056.heap = hGL207 := he1056
                    show Run p e below s _ _ _ (T1056.setTop (mkF m 307 #[.val (.long ka), .second, .val (.long kb), .second, .val (.long kc), .second, .val (.long ot), .second, .val (.int oq), .val (.int vA), .val (.int vB), .val (.int vC), .val (.int rq), .val (.int vR), .val (.long tt), .second, .val (.int vL), .val (.ref b1028), .val (.long ot), .second, .val (.int (0 : Int32))] [(.int r1056)]))
                    rcases mm1056 with ⟨rfl, mC⟩ | ⟨rfl, mC⟩
                    · skip
                      refine Run.pre (fun _ k => XS.ifNo X1056.here hx rfl (hb hby at_307) rfl ((if0 _ _).trans (feq ((by decide) : ¬ ((1 : Int32) = (0 : Int32)))).1) k) ?_
                      refine Run.pre (fun _ k => XS.iload X1056.here hx rfl (hb hby at_310) rfl  k) ?_
                      show Run p e below s _ _ _ (T1056.setTop (mkF m 312 #[.val (.long ka), .second, .val (.long kb), .second, .val (.long kc), .second, .val (.long ot), .second, .val (.int oq), .val (.int vA), .val (.int vB), .val (.int vC), .val (.int rq), .val (.int vR), .val (.long tt), .second, .val (.int vL), .val (.ref b1028), .val (.long ot), .second, .val (.int (0 : Int32))] [(.int (0 : Int32))]))
                      refine Run.pre (fun _ k => XS.ifYes X1056.here hx rfl (pc0 := 312) (pc' := 325) rfl (hb hby at_312) rfl ((if0 _ _).trans (teq ((by decide) : (0 : Int32) = (0 : Int32))).1) (by decide) (by decide) k) ?_
                      refine Run.pre (fun _ k => XS.lload X1056.here hx rfl (hb hby at_325) rfl  k) ?_
                      refine Run.pre (fun _ k => XS.lstore X1056.here hx rfl (hb hby at_327) rfl (l' := #[.val (.long ka), .second, .val (.long kb), .second, .val (.long kc), .second, .val (.long ot), .second, .val (.int oq), .val (.int vA), .val (.int vB), .val (.int vC), .val (.int rq), .val (.int vR), .val (.long tt), .second, .val (.int vL), .val (.ref b1028), .val (.long kc), .second, .val (.int (0 : Int32))]) rfl k) ?_
                      refine Run.pre (fun _ k => XS.iconst X1056.here hx rfl (hb hby at_329) k) ?_
                      refine Run.pre (fun _ k => XS.istore X1056.here hx rfl (hb hby at_330) rfl (l' := #[.val (.long ka), .second, .val (.long kb), .second, .val (.long kc), .second, .val (.long ot), .second, .val (.int oq), .val (.int vA), .val (.int vB), .val (.int vC), .val (.int rq), .val (.int vR), .val (.long tt), .second, .val (.int vL), .val (.ref b1028), .val (.long kc), .second, .val (.int (1 : Int32))]) rfl k) ?_
                      refine Run.pre (fun _ k => XS.aload X1056.here hx rfl (hb hby at_332) rfl rfl k) ?_
                      show Run p e below s _ _ _ (T1056.setTop (mkF m 334 #[.val (.long ka), .second, .val (.long kb), .second, .val (.long kc), .second, .val (.long ot), .second, .val (.int oq), .val (.int vA), .val (.int vB), .val (.int vC), .val (.int rq), .val (.int vR), .val (.long tt), .second, .val (.int vL), .val (.ref b1028), .val (.long kc), .second, .val (.int (1 : Int32))] [(.ref b1028)]))
                      refine Run.pre (fun _ k => XS.lload X1056.here hx rfl (hb hby at_334) rfl  k) ?_
                      refine Run.callV X1056 hx hZ (y := (⟨"com/example/manana/manana/storage/WaitingTable", "lowest", "(J)J"⟩ : MethodName)) (z := (⟨"com/example/manana/manana/storage/WaitingTable", "lowest", "(J)J"⟩ : MethodName)) hown (hwi hw 22 rfl) (hwi hw 23 rfl) (notFace_of_selects (args := #[]) (mvT hZ (hwi hw 25 rfl))) (hwi hw 25 rfl) (hwi hw 24 rfl) (hwi hw 26 rfl) (hwi hw 2 rfl) (by decide) (b := b1028) (hH.1) (W := 0) (rmLow l Z a0 hw b1028 xo1029 xd1029 xl1029 xq1029 xh1029 ko1029 kd1029 kl1029 kq1029 kh1029 p0 p1 p2 d0 d1 d2 l0 l1 l2 q0 q1 q2 b0 b1 b2 fi en si ot S hGL207 n0 (Nat.le_trans Z0 KGL207.1) hH hR) e1056 (by decide) (by decide) (by decide) (by decide) (g := (mkF m 336 #[.val (.long ka), .second, .val (.long kb), .second, .val (.long kc), .second, .val (.long ot), .second, .val (.int oq), .val (.int vA), .val (.int vB), .val (.int vC), .val (.int rq), .val (.int vR), .val (.long tt), .second, .val (.int vL), .val (.ref b1028), .val (.long kc), .second, .val (.int (1 : Int32))] [(.long ot), (.ref b1028)])) rfl (by rw [hml]; rfl) (argsL := [(.long ot)]) (rest := []) (lenOf pd_6 rfl) rfl (by show 2 * 0 + _ ≤ _; exact Nat.le_of_eq rfl) (hb hby at_336) ?_
                      intro v1057 T1057 L1057 X1057 hQ1057
                      obtain ⟨y1057, rfl, Nq1057, he1057, lw1057⟩ := hQ1057
                      have N1057 := Fr.app N1056 Nq1057
                      have e1057 : T1057.heap = hGL207 := he1057
                      refine Run.pre (fun _ k => XS.lload X1057.here hx rfl (hb hby at_339) rfl  k) ?_
                      refine Run.pre (fun _ k => XS.lcmp X1057.here hx rfl (hb hby at_341) rfl k) ?_
                      refine Run.pre (fun _ k => XS.ifNo X1057.here hx rfl (hb hby at_342) rfl ((if0 _ _).trans (teq (((lw_eq _ _).mpr (own_low3 hS (own_A5m vA vB vC vR vL ka kb kc tt) lw1057 kc (Or.inr ⟨mC, fun q => absurd q mA, fun q => absurd q mB, fun _ r => by simp only [Int64.lt_iff_toInt_lt] at r ; omega⟩))) : (lcmpW y1057 kc) = (0 : Int32))).2) k) ?_
                      refine Run.pre (fun _ k => XS.iconst X1057.here hx rfl (hb hby at_345) k) ?_
                      show Run p e below s _ _ _ (T1057.setTop (mkF m 346 #[.val (.long ka), .second, .val (.long kb), .second, .val (.long kc), .second, .val (.long ot), .second, .val (.int oq), .val (.int vA), .val (.int vB), .val (.int vC), .val (.int rq), .val (.int vR), .val (.long tt), .second, .val (.int vL), .val (.ref b1028), .val (.long kc), .second, .val (.int (1 : Int32))] [(.int (1 : Int32))]))
                      refine Run.pre (fun _ k => XS.goto X1057.here hx rfl (pc0 := 346) (pc' := 350) rfl (hb hby at_346) (by decide) (by decide) k) ?_
                      exact Run.retN X1057 hx hret (t := .boolean) (by simp) hlk (hb hby at_350) (by first | (rw [e1057]; exact ⟨rfl, N1057⟩) | exact ⟨rfl, N1057⟩) (by decide) (by decide)
                    · skip
                      refine Run.pre (fun _ k => XS.ifYes X1056.here hx rfl (pc0 := 307) (pc' := 332) rfl (hb hby at_307) rfl ((if0 _ _).trans (teq ((by decide) : (0 : Int32) = (0 : Int32))).1) (by decide) (by decide) k) ?_
                      refine Run.pre (fun _ k => XS.aload X1056.here hx rfl (hb hby at_332) rfl rfl k) ?_
                      show Run p e below s _ _ _ (T1056.setTop (mkF m 334 #[.val (.long ka), .second, .val (.long kb), .second, .val (.long kc), .second, .val (.long ot), .second, .val (.int oq), .val (.int vA), .val (.int vB), .val (.int vC), .val (.int rq), .val (.int vR), .val (.long tt), .second, .val (.int vL), .val (.ref b1028), .val (.long ot), .second, .val (.int (0 : Int32))] [(.ref b1028)]))
                      refine Run.pre (fun _ k => XS.lload X1056.here hx rfl (hb hby at_334) rfl  k) ?_
                      refine Run.callV X1056 hx hZ (y := (⟨"com/example/manana/manana/storage/WaitingTable", "lowest", "(J)J"⟩ : MethodName)) (z := (⟨"com/example/manana/manana/storage/WaitingTable", "lowest", "(J)J"⟩ : MethodName)) hown (hwi hw 22 rfl) (hwi hw 23 rfl) (notFace_of_selects (args := #[]) (mvT hZ (hwi hw 25 rfl))) (hwi hw 25 rfl) (hwi hw 24 rfl) (hwi hw 26 rfl) (hwi hw 2 rfl) (by decide) (b := b1028) (hH.1) (W := 0) (rmLow l Z a0 hw b1028 xo1029 xd1029 xl1029 xq1029 xh1029 ko1029 kd1029 kl1029 kq1029 kh1029 p0 p1 p2 d0 d1 d2 l0 l1 l2 q0 q1 q2 b0 b1 b2 fi en si ot S hGL207 n0 (Nat.le_trans Z0 KGL207.1) hH hR) e1056 (by decide) (by decide) (by decide) (by decide) (g := (mkF m 336 #[.val (.long ka), .second, .val (.long kb), .second, .val (.long kc), .second, .val (.long ot), .second, .val (.int oq), .val (.int vA), .val (.int vB), .val (.int vC), .val (.int rq), .val (.int vR), .val (.long tt), .second, .val (.int vL), .val (.ref b1028), .val (.long ot), .second, .val (.int (0 : Int32))] [(.long ot), (.ref b1028)])) rfl (by rw [hml]; rfl) (argsL := [(.long ot)]) (rest := []) (lenOf pd_6 rfl) rfl (by show 2 * 0 + _ ≤ _; exact Nat.le_of_eq rfl) (hb hby at_336) ?_
                      intro v1058 T1058 L1058 X1058 hQ1058
                      obtain ⟨y1058, rfl, Nq1058, he1058, lw1058⟩ := hQ1058
                      have N1058 := Fr.app N1056 Nq1058
                      have e1058 : T1058.heap = hGL207 := he1058
                      refine Run.pre (fun _ k => XS.lload X1058.here hx rfl (hb hby at_339) rfl  k) ?_
                      refine Run.pre (fun _ k => XS.lcmp X1058.here hx rfl (hb hby at_341) rfl k) ?_
                      refine Run.pre (fun _ k => XS.ifNo X1058.here hx rfl (hb hby at_342) rfl ((if0 _ _).trans (teq (((lw_eq _ _).mpr (own_low3 hS (own_A5m vA vB vC vR vL ka kb kc tt) lw1058 ot (Or.inl ⟨mA, mB, mC, rfl⟩))) : (lcmpW y1058 ot) = (0 : Int32))).2) k) ?_
                      refine Run.pre (fun _ k => XS.iconst X1058.here hx rfl (hb hby at_345) k) ?_
                      show Run p e below s _ _ _ (T1058.setTop (mkF m 346 #[.val (.long ka), .second, .val (.long kb), .second, .val (.long kc), .second, .val (.long ot), .second, .val (.int oq), .val (.int vA), .val (.int vB), .val (.int vC), .val (.int rq), .val (.int vR), .val (.long tt), .second, .val (.int vL), .val (.ref b1028), .val (.long ot), .second, .val (.int (0 : Int32))] [(.int (1 : Int32))]))
                      refine Run.pre (fun _ k => XS.goto X1058.here hx rfl (pc0 := 346) (pc' := 350) rfl (hb hby at_346) (by decide) (by decide) k) ?_
                      exact Run.retN X1058 hx hret (t := .boolean) (by simp) hlk (hb hby at_350) (by first | (rw [e1058]; exact ⟨rfl, N1058⟩) | exact ⟨rfl, N1058⟩) (by decide) (by decide)
              have GL190 : ∀ (p0 : Int64) (p1 : Int64) (p2 : Int64) (d0 : Int64) (d1 : Int64) (d2 : Int64) (l0 : Int32) (l1 : Int32) (l2 : Int32) (q0 : Int32) (q1 : Int32) (q2 : Int32) (b0 : Int32) (b1 : Int32) (b2 : Int32) (fi : Int32) (en : Int32) (si : Int32) (S : Int64 → Prop) (TGL190 : State) (LcGL190 : List Loc) (hGL190 : Heap), (Stand p l e room_1 s m #[(.long ka), (.long kb), (.long kc), (.long ot), (.int oq)] below meth c TGL190 LcGL190 6 88) → (TGL190.heap = hGL190) → (Fr n0 LcGL190) → (Keep h0 hGL190 []) → (own_H Z hGL190 b1028 xo1029 xd1029 xl1029 xq1029 xh1029 ko1029 kd1029 kl1029 kq1029 kh1029 p0 p1 p2 d0 d1 d2 l0 l1 l2 q0 q1 q2 b0 b1 b2 fi en si) → (own_R p0 p1 p2 b0 b1 b2 fi en si S) → (∀ x, S x ↔ ((own_I vA vB ka kb x ∧ ¬ (vL = 0 ∧ own_G vR tt x)) ∨ own_C vC kc x)) → (¬ vL = 0 → own_all b0 b1 b2 fi en) → Run p e below s (fun v h L => v = some (.int 1) ∧ Fr n0 L) room_1.cells room_1.slots (TGL190.setTop (mkF m 190 #[.val (.long ka), .second, .val (.long kb), .second, .val (.long kc), .second, .val (.long ot), .second, .val (.int oq), .val (.int vA), .val (.int vB), .val (.int vC), .val (.int rq), .val (.int vR), .val (.long tt), .second, .val (.int vL), .val (.ref b1028), .unset, .unset, .unset] [])) := by
                intro p0 p1 p2 d0 d1 d2 l0 l1 l2 q0 q1 q2 b0 b1 b2 fi en si S TGL190 LcGL190 hGL190 XGL190 eGL190 NGL190 KGL190 hH hR hS hal
                refine Run.pre (fun _ k => XS.iload XGL190.here hx rfl (hb hby at_190) rfl  k) ?_
                by_cases hc1059 : vL = (0 : Int32)
                · skip
                  refine Run.pre (fun _ k => XS.ifYes XGL190.here hx rfl (pc0 := 192) (pc' := 207) rfl (hb hby at_192) rfl ((if0 _ _).trans (teq (hc1059 : vL = (0 : Int32))).1) (by decide) (by decide) k) ?_
                  show Run p e below s _ _ _ (TGL190.setTop (mkF m 207 #[.val (.long ka), .second, .val (.long kb), .second, .val (.long kc), .second, .val (.long ot), .second, .val (.int oq), .val (.int vA), .val (.int vB), .val (.int vC), .val (.int rq), .val (.int vR), .val (.long tt), .second, .val (.int vL), .val (.ref b1028), .unset, .unset, .unset] []))
                  exact GL207 p0 p1 p2 d0 d1 d2 l0 l1 l2 q0 q1 q2 b0 b1 b2 fi en si S _ _ _ XGL190 eGL190 NGL190 KGL190 hH hR (fun x => by show S x ↔ _; have q := hS x; have c0 := hc1059; simp only [own_I, own_G, own_C, own_A5, own_F] at q ⊢; grind)
                · skip
                  refine Run.pre (fun _ k => XS.ifNo XGL190.here hx rfl (hb hby at_192) rfl ((if0 _ _).trans (feq (hc1059 : ¬ (vL = (0 : Int32)))).1) k) ?_
                  refine Run.pre (fun _ k => XS.iload XGL190.here hx rfl (hb hby at_195) rfl  k) ?_
                  by_cases hc1060 : vR = (0 : Int32)
                  · skip
                    refine Run.pre (fun _ k => XS.ifYes XGL190.here hx rfl (pc0 := 197) (pc' := 207) rfl (hb hby at_197) rfl ((if0 _ _).trans (teq (hc1060 : vR = (0 : Int32))).1) (by decide) (by decide) k) ?_
                    show Run p e below s _ _ _ (TGL190.setTop (mkF m 207 #[.val (.long ka), .second, .val (.long kb), .second, .val (.long kc), .second, .val (.long ot), .second, .val (.int oq), .val (.int vA), .val (.int vB), .val (.int vC), .val (.int rq), .val (.int vR), .val (.long tt), .second, .val (.int vL), .val (.ref b1028), .unset, .unset, .unset] []))
                    exact GL207 p0 p1 p2 d0 d1 d2 l0 l1 l2 q0 q1 q2 b0 b1 b2 fi en si S _ _ _ XGL190 eGL190 NGL190 KGL190 hH hR (fun x => by show S x ↔ _; have q := hS x; have c0 := hc1059; have c1 := hc1060; simp only [own_I, own_G, own_C, own_A5, own_F] at q ⊢; grind)
                  · skip
                    refine Run.pre (fun _ k => XS.ifNo XGL190.here hx rfl (hb hby at_197) rfl ((if0 _ _).trans (feq (hc1060 : ¬ (vR = (0 : Int32)))).1) k) ?_
                    refine Run.pre (fun _ k => XS.aload XGL190.here hx rfl (hb hby at_200) rfl rfl k) ?_
                    show Run p e below s _ _ _ (TGL190.setTop (mkF m 202 #[.val (.long ka), .second, .val (.long kb), .second, .val (.long kc), .second, .val (.long ot), .second, .val (.int oq), .val (.int vA), .val (.int vB), .val (.int vC), .val (.int rq), .val (.int vR), .val (.long tt), .second, .val (.int vL), .val (.ref b1028), .unset, .unset, .unset] [(.ref b1028)]))
                    refine Run.pre (fun _ k => XS.lload XGL190.here hx rfl (hb hby at_202) rfl  k) ?_
                    refine Run.callS XGL190 hx hZ (y := (⟨"com/example/manana/manana/storage/WaitingTableLowestPinLaw", "drop", "(Lcom/example/manana/manana/storage/WaitingTable;J)V"⟩ : MethodName)) hown (hwi hw 71 rfl) (hwi hw 72 rfl) (hwi hw 66 rfl) (hwi hw 73 rfl) (by decide) (W := 0) (rmDrop l Z a0 hw b1028 xo1029 xd1029 xl1029 xq1029 xh1029 ko1029 kd1029 kl1029 kq1029 kh1029 p0 p1 p2 d0 d1 d2 l0 l1 l2 q0 q1 q2 b0 b1 b2 fi en si tt S hGL190 n0 (Nat.le_trans Z0 KGL190.1) hH hD1029 gn_b1028 gn_xo1029 gn_xd1029 gn_xl1029 gn_xq1029 gn_xh1029 (own_Ro hR (hal hc1059))) eGL190 (by decide) (by decide) (by decide) (by decide) (g := (mkF m 204 #[.val (.long ka), .second, .val (.long kb), .second, .val (.long kc), .second, .val (.long ot), .second, .val (.int oq), .val (.int vA), .val (.int vB), .val (.int vC), .val (.int rq), .val (.int vR), .val (.long tt), .second, .val (.int vL), .val (.ref b1028), .unset, .unset, .unset] [(.long tt), (.ref b1028)])) rfl (by rw [hml]; rfl) (argsL := [(.ref b1028), (.long tt)]) (rest := []) (lenOf pd_9 rfl) rfl (by show 2 * 0 + _ ≤ _; exact Nat.le_of_eq rfl) (hb hby at_204) ?_
                    intro v1061 T1061 L1061 X1061 hQ1061
                    obtain ⟨b0n1061, b1n1061, b2n1061, fin1061, enn1061, sin1061, rfl, Nq1061, Kc1061, hh1061, hr1061, ee1061⟩ := hQ1061
                    have N1061 := Fr.app NGL190 Nq1061
                    have K1061 : Keep h0 T1061.heap [] := KGL190.trans Kc1061 (allS (Or.inr sz_b1028) (allS (Or.inr sz_xo1029) (allS (Or.inr sz_xd1029) (allS (Or.inr sz_xl1029) (allS (Or.inr sz_xq1029) (allS (Or.inr sz_xh1029) all0))))))
                    show Run p e below s _ _ _ (T1061.setTop (mkF m 207 #[.val (.long ka), .second, .val (.long kb), .second, .val (.long kc), .second, .val (.long ot), .second, .val (.int oq), .val (.int vA), .val (.int vB), .val (.int vC), .val (.int rq), .val (.int vR), .val (.long tt), .second, .val (.int vL), .val (.ref b1028), .unset, .unset, .unset] []))
                    exact GL207 p0 p1 p2 d0 d1 d2 l0 l1 l2 q0 q1 q2 b0n1061 b1n1061 b2n1061 fin1061 enn1061 sin1061 (fun x => S x ∧ ¬ x = tt) _ _ _ X1061 rfl N1061 K1061 hh1061 hr1061 (fun x => by show (S x ∧ ¬ x = tt) ↔ _; have q := hS x; have c0 := hc1059; have c1 := hc1060; simp only [own_I, own_G, own_C, own_A5, own_F] at q ⊢; grind)
              have GL172 : ∀ (p0 : Int64) (p1 : Int64) (p2 : Int64) (d0 : Int64) (d1 : Int64) (d2 : Int64) (l0 : Int32) (l1 : Int32) (l2 : Int32) (q0 : Int32) (q1 : Int32) (q2 : Int32) (b0 : Int32) (b1 : Int32) (b2 : Int32) (fi : Int32) (en : Int32) (si : Int32) (S : Int64 → Prop) (TGL172 : State) (LcGL172 : List Loc) (hGL172 : Heap), (Stand p l e room_1 s m #[(.long ka), (.long kb), (.long kc), (.long ot), (.int oq)] below meth c TGL172 LcGL172 6 88) → (TGL172.heap = hGL172) → (Fr n0 LcGL172) → (Keep h0 hGL172 []) → (own_H Z hGL172 b1028 xo1029 xd1029 xl1029 xq1029 xh1029 ko1029 kd1029 kl1029 kq1029 kh1029 p0 p1 p2 d0 d1 d2 l0 l1 l2 q0 q1 q2 b0 b1 b2 fi en si) → (own_R p0 p1 p2 b0 b1 b2 fi en si S) → (∀ x, S x ↔ (own_I vA vB ka kb x ∧ ¬ (vL = 0 ∧ own_G vR tt x))) → (¬ vL = 0 → own_all b0 b1 b2 fi en) → (en = 0 ∨ en = 1 ∨ en = 2) → Run p e below s (fun v h L => v = some (.int 1) ∧ Fr n0 L) room_1.cells room_1.slots (TGL172.setTop (mkF m 172 #[.val (.long ka), .second, .val (.long kb), .second, .val (.long kc), .second, .val (.long ot), .second, .val (.int oq), .val (.int vA), .val (.int vB), .val (.int vC), .val (.int rq), .val (.int vR), .val (.long tt), .second, .val (.int vL), .val (.ref b1028), .unset, .unset, .unset] [])) := by
                intro p0 p1 p2 d0 d1 d2 l0 l1 l2 q0 q1 q2 b0 b1 b2 fi en si S TGL172 LcGL172 hGL172 XGL172 eGL172 NGL172 KGL172 hH hR hS hal hen
                refine Run.pre (fun _ k => XS.iload XGL172.here hx rfl (hb hby at_172) rfl  k) ?_
                by_cases hc1062 : vC = (0 : Int32)
                · skip
                  refine Run.pre (fun _ k => XS.ifYes XGL172.here hx rfl (pc0 := 174) (pc' := 190) rfl (hb hby at_174) rfl ((if0 _ _).trans (teq (hc1062 : vC = (0 : Int32))).1) (by decide) (by decide) k) ?_
                  show Run p e below s _ _ _ (TGL172.setTop (mkF m 190 #[.val (.long ka), .second, .val (.long kb), .second, .val (.long kc), .second, .val (.long ot), .second, .val (.int oq), .val (.int vA), .val (.int vB), .val (.int vC), .val (.int rq), .val (.int vR), .val (.long tt), .second, .val (.int vL), .val (.ref b1028), .unset, .unset, .unset] []))
                  exact GL190 p0 p1 p2 d0 d1 d2 l0 l1 l2 q0 q1 q2 b0 b1 b2 fi en si S _ _ _ XGL172 eGL172 NGL172 KGL172 hH hR (fun x => by show S x ↔ _; have q := hS x; have c0 := hc1062; simp only [own_I, own_G, own_C, own_A5, own_F] at q ⊢; grind) hal
                · skip
                  refine Run.pre (fun _ k => XS.ifNo XGL172.here hx rfl (hb hby at_174) rfl ((if0 _ _).trans (feq (hc1062 : ¬ (vC = (0 : Int32)))).1) k) ?_
                  refine Run.pre (fun _ k => XS.aload XGL172.here hx rfl (hb hby at_177) rfl rfl k) ?_
                  refine Run.pre (fun _ k => XS.lload XGL172.here hx rfl (hb hby at_179) rfl  k) ?_
                  refine Run.pre (XGL172.ldc2Long hx hown (mvT hZ (hwi hw 84 rfl)) (g := (mkF m 181 #[.val (.long ka), .second, .val (.long kb), .second, .val (.long kc), .second, .val (.long ot), .second, .val (.int oq), .val (.int vA), .val (.int vB), .val (.int vC), .val (.int rq), .val (.int vR), .val (.long tt), .second, .val (.int vL), .val (.ref b1028), .unset, .unset, .unset] [(.long kc), (.ref b1028)])) rfl (hb hby at_181)) ?_
                  show Run p e below s _ _ _ (TGL172.setTop (mkF m 184 #[.val (.long ka), .second, .val (.long kb), .second, .val (.long kc), .second, .val (.long ot), .second, .val (.int oq), .val (.int vA), .val (.int vB), .val (.int vC), .val (.int rq), .val (.int vR), .val (.long tt), .second, .val (.int vL), .val (.ref b1028), .unset, .unset, .unset] [(.long (2 : Int64)), (.long kc), (.ref b1028)]))
                  refine Run.pre (fun _ k => XS.iconst XGL172.here hx rfl (hb hby at_184) k) ?_
                  refine Run.pre (fun _ k => XS.iconst XGL172.here hx rfl (hb hby at_185) k) ?_
                  refine Run.callV XGL172 hx hZ (y := (⟨"com/example/manana/manana/storage/WaitingTable", "put", "(JJII)Z"⟩ : MethodName)) (z := (⟨"com/example/manana/manana/storage/WaitingTable", "put", "(JJII)Z"⟩ : MethodName)) hown (hwi hw 29 rfl) (hwi hw 30 rfl) (notFace_of_selects (args := #[]) (mvT hZ (hwi hw 32 rfl))) (hwi hw 32 rfl) (hwi hw 31 rfl) (hwi hw 33 rfl) (hwi hw 2 rfl) (by decide) (b := b1028) (hH.1) (W := 0) (rmPut l Z a0 hw b1028 xo1029 xd1029 xl1029 xq1029 xh1029 ko1029 kd1029 kl1029 kq1029 kh1029 p0 p1 p2 d0 d1 d2 l0 l1 l2 q0 q1 q2 b0 b1 b2 fi en si kc (2 : Int64) (2 : Int32) (2 : Int32) S hGL172 n0 (Nat.le_trans Z0 KGL172.1) hH hD1029 gn_b1028 gn_xo1029 gn_xd1029 gn_xl1029 gn_xq1029 gn_xh1029 (own_Rd hR hen)) eGL172 (by decide) (by decide) (by decide) (by decide) (g := (mkF m 186 #[.val (.long ka), .second, .val (.long kb), .second, .val (.long kc), .second, .val (.long ot), .second, .val (.int oq), .val (.int vA), .val (.int vB), .val (.int vC), .val (.int rq), .val (.int vR), .val (.long tt), .second, .val (.int vL), .val (.ref b1028), .unset, .unset, .unset] [(.int (2 : Int32)), (.int (2 : Int32)), (.long (2 : Int64)), (.long kc), (.ref b1028)])) rfl (by rw [hml]; rfl) (argsL := [(.long kc), (.long (2 : Int64)), (.int (2 : Int32)), (.int (2 : Int32))]) (rest := []) (lenOf pd_10 rfl) rfl (by show 2 * 0 + _ ≤ _; exact Nat.le_of_eq rfl) (hb hby at_186) ?_
                  intro v1063 T1063 L1063 X1063 hQ1063
                  obtain ⟨rr1063, p0n1063, p1n1063, p2n1063, d0n1063, d1n1063, d2n1063, l0n1063, l1n1063, l2n1063, q0n1063, q1n1063, q2n1063, b0n1063, b1n1063, b2n1063, fin1063, enn1063, sin1063, rfl, Nq1063, Kc1063, hh1063, hq1063⟩ := hQ1063
                  have N1063 := Fr.app NGL172 Nq1063
                  have K1063 : Keep h0 T1063.heap [] := KGL172.trans Kc1063 (allS (Or.inr sz_b1028) (allS (Or.inr sz_xo1029) (allS (Or.inr sz_xd1029) (allS (Or.inr sz_xl1029) (allS (Or.inr sz_xq1029) (allS (Or.inr sz_xh1029) all0))))))
                  refine Run.pre (fun _ k => XS.pop X1063.here hx rfl (hb hby at_189) rfl rfl k) ?_
                  show Run p e below s _ _ _ (T1063.setTop (mkF m 190 #[.val (.long ka), .second, .val (.long kb), .second, .val (.long kc), .second, .val (.long ot), .second, .val (.int oq), .val (.int vA), .val (.int vB), .val (.int vC), .val (.int rq), .val (.int vR), .val (.long tt), .second, .val (.int vL), .val (.ref b1028), .unset, .unset, .unset] []))
                  exact GL190 p0n1063 p1n1063 p2n1063 d0n1063 d1n1063 d2n1063 l0n1063 l1n1063 l2n1063 q0n1063 q1n1063 q2n1063 b0n1063 b1n1063 b2n1063 fin1063 enn1063 sin1063 (fun x => S x ∨ x = kc) _ _ _ X1063 rfl N1063 K1063 hh1063 hq1063.1 (fun x => by show (S x ∨ x = kc) ↔ _; have q := hS x; have c0 := hc1062; simp only [own_I, own_G, own_C, own_A5, own_F] at q ⊢; grind) (fun q => hq1063.2.1 (hal q))
              have GL155 : ∀ (p0 : Int64) (p1 : Int64) (p2 : Int64) (d0 : Int64) (d1 : Int64) (d2 : Int64) (l0 : Int32) (l1 : Int32) (l2 : Int32) (q0 : Int32) (q1 : Int32) (q2 : Int32) (b0 : Int32) (b1 : Int32) (b2 : Int32) (fi : Int32) (en : Int32) (si : Int32) (S : Int64 → Prop) (TGL155 : State) (LcGL155 : List Loc) (hGL155 : Heap), (Stand p l e room_1 s m #[(.long ka), (.long kb), (.long kc), (.long ot), (.int oq)] below meth c TGL155 LcGL155 6 88) → (TGL155.heap = hGL155) → (Fr n0 LcGL155) → (Keep h0 hGL155 []) → (own_H Z hGL155 b1028 xo1029 xd1029 xl1029 xq1029 xh1029 ko1029 kd1029 kl1029 kq1029 kh1029 p0 p1 p2 d0 d1 d2 l0 l1 l2 q0 q1 q2 b0 b1 b2 fi en si) → (own_R p0 p1 p2 b0 b1 b2 fi en si S) → (∀ x, S x ↔ own_I vA vB ka kb x) → (own_all b0 b1 b2 fi en) → (en = 0 ∨ en = 1 ∨ en = 2) → Run p e below s (fun v h L => v = some (.int 1) ∧ Fr n0 L) room_1.cells room_1.slots (TGL155.setTop (mkF m 155 #[.val (.long ka), .second, .val (.long kb), .second, .val (.long kc), .second, .val (.long ot), .second, .val (.int oq), .val (.int vA), .val (.int vB), .val (.int vC), .val (.int rq), .val (.int vR), .val (.long tt), .second, .val (.int vL), .val (.ref b1028), .unset, .unset, .unset] [])) := by
                intro p0 p1 p2 d0 d1 d2 l0 l1 l2 q0 q1 q2 b0 b1 b2 fi en si S TGL155 LcGL155 hGL155 XGL155 eGL155 NGL155 KGL155 hH hR hS hal hen
                refine Run.pre (fun _ k => XS.iload XGL155.here hx rfl (hb hby at_155) rfl  k) ?_
                by_cases hc1064 : vL = (0 : Int32)
                · skip
                  refine Run.pre (fun _ k => XS.ifNo XGL155.here hx rfl (hb hby at_157) rfl ((if0 _ _).trans (teq (hc1064 : vL = (0 : Int32))).2) k) ?_
                  refine Run.pre (fun _ k => XS.iload XGL155.here hx rfl (hb hby at_160) rfl  k) ?_
                  by_cases hc1065 : vR = (0 : Int32)
                  · skip
                    refine Run.pre (fun _ k => XS.ifYes XGL155.here hx rfl (pc0 := 162) (pc' := 172) rfl (hb hby at_162) rfl ((if0 _ _).trans (teq (hc1065 : vR = (0 : Int32))).1) (by decide) (by decide) k) ?_
                    show Run p e below s _ _ _ (TGL155.setTop (mkF m 172 #[.val (.long ka), .second, .val (.long kb), .second, .val (.long kc), .second, .val (.long ot), .second, .val (.int oq), .val (.int vA), .val (.int vB), .val (.int vC), .val (.int rq), .val (.int vR), .val (.long tt), .second, .val (.int vL), .val (.ref b1028), .unset, .unset, .unset] []))
                    exact GL172 p0 p1 p2 d0 d1 d2 l0 l1 l2 q0 q1 q2 b0 b1 b2 fi en si S _ _ _ XGL155 eGL155 NGL155 KGL155 hH hR (fun x => by show S x ↔ _; have q := hS x; have c0 := hc1064; have c1 := hc1065; simp only [own_I, own_G, own_C, own_A5, own_F] at q ⊢; grind) (fun q => absurd hc1064 q) hen
                  · skip
                    refine Run.pre (fun _ k => XS.ifNo XGL155.here hx rfl (hb hby at_162) rfl ((if0 _ _).trans (feq (hc1065 : ¬ (vR = (0 : Int32)))).1) k) ?_
                    refine Run.pre (fun _ k => XS.aload XGL155.here hx rfl (hb hby at_165) rfl rfl k) ?_
                    show Run p e below s _ _ _ (TGL155.setTop (mkF m 167 #[.val (.long ka), .second, .val (.long kb), .second, .val (.long kc), .second, .val (.long ot), .second, .val (.int oq), .val (.int vA), .val (.int vB), .val (.int vC), .val (.int rq), .val (.int vR), .val (.long tt), .second, .val (.int vL), .val (.ref b1028), .unset, .unset, .unset] [(.ref b1028)]))
                    refine Run.pre (fun _ k => XS.lload XGL155.here hx rfl (hb hby at_167) rfl  k) ?_
                    refine Run.callS XGL155 hx hZ (y := (⟨"com/example/manana/manana/storage/WaitingTableLowestPinLaw", "drop", "(Lcom/example/manana/manana/storage/WaitingTable;J)V"⟩ : MethodName)) hown (hwi hw 71 rfl) (hwi hw 72 rfl) (hwi hw 66 rfl) (hwi hw 73 rfl) (by decide) (W := 0) (rmDrop l Z a0 hw b1028 xo1029 xd1029 xl1029 xq1029 xh1029 ko1029 kd1029 kl1029 kq1029 kh1029 p0 p1 p2 d0 d1 d2 l0 l1 l2 q0 q1 q2 b0 b1 b2 fi en si tt S hGL155 n0 (Nat.le_trans Z0 KGL155.1) hH hD1029 gn_b1028 gn_xo1029 gn_xd1029 gn_xl1029 gn_xq1029 gn_xh1029 (own_Ro hR hal)) eGL155 (by decide) (by decide) (by decide) (by decide) (g := (mkF m 169 #[.val (.long ka), .second, .val (.long kb), .second, .val (.long kc), .second, .val (.long ot), .second, .val (.int oq), .val (.int vA), .val (.int vB), .val (.int vC), .val (.int rq), .val (.int vR), .val (.long tt), .second, .val (.int vL), .val (.ref b1028), .unset, .unset, .unset] [(.long tt), (.ref b1028)])) rfl (by rw [hml]; rfl) (argsL := [(.ref b1028), (.long tt)]) (rest := []) (lenOf pd_9 rfl) rfl (by show 2 * 0 + _ ≤ _; exact Nat.le_of_eq rfl) (hb hby at_169) ?_
                    intro v1066 T1066 L1066 X1066 hQ1066
                    obtain ⟨b0n1066, b1n1066, b2n1066, fin1066, enn1066, sin1066, rfl, Nq1066, Kc1066, hh1066, hr1066, ee1066⟩ := hQ1066
                    have N1066 := Fr.app NGL155 Nq1066
                    have K1066 : Keep h0 T1066.heap [] := KGL155.trans Kc1066 (allS (Or.inr sz_b1028) (allS (Or.inr sz_xo1029) (allS (Or.inr sz_xd1029) (allS (Or.inr sz_xl1029) (allS (Or.inr sz_xq1029) (allS (Or.inr sz_xh1029) all0))))))
                    show Run p e below s _ _ _ (T1066.setTop (mkF m 172 #[.val (.long ka), .second, .val (.long kb), .second, .val (.long kc), .second, .val (.long ot), .second, .val (.int oq), .val (.int vA), .val (.int vB), .val (.int vC), .val (.int rq), .val (.int vR), .val (.long tt), .second, .val (.int vL), .val (.ref b1028), .unset, .unset, .unset] []))
                    exact GL172 p0 p1 p2 d0 d1 d2 l0 l1 l2 q0 q1 q2 b0n1066 b1n1066 b2n1066 fin1066 enn1066 sin1066 (fun x => S x ∧ ¬ x = tt) _ _ _ X1066 rfl N1066 K1066 hh1066 hr1066 (fun x => by show (S x ∧ ¬ x = tt) ↔ _; have q := hS x; have c0 := hc1064; have c1 := hc1065; simp only [own_I, own_G, own_C, own_A5, own_F] at q ⊢; grind) (fun q => absurd hc1064 q) (by rw [ee1066]; exact hen)
                · skip
                  refine Run.pre (fun _ k => XS.ifYes XGL155.here hx rfl (pc0 := 157) (pc' := 172) rfl (hb hby at_157) rfl ((if0 _ _).trans (feq (hc1064 : ¬ (vL = (0 : Int32)))).2) (by decide) (by decide) k) ?_
                  show Run p e below s _ _ _ (TGL155.setTop (mkF m 172 #[.val (.long ka), .second, .val (.long kb), .second, .val (.long kc), .second, .val (.long ot), .second, .val (.int oq), .val (.int vA), .val (.int vB), .val (.int vC), .val (.int rq), .val (.int vR), .val (.long tt), .second, .val (.int vL), .val (.ref b1028), .unset, .unset, .unset] []))
                  exact GL172 p0 p1 p2 d0 d1 d2 l0 l1 l2 q0 q1 q2 b0 b1 b2 fi en si S _ _ _ XGL155 eGL155 NGL155 KGL155 hH hR (fun x => by show S x ↔ _; have q := hS x; have c0 := hc1064; simp only [own_I, own_G, own_C, own_A5, own_F] at q ⊢; grind) (fun _ => hal) hen
              have GL140 : ∀ (p0 : Int64) (p1 : Int64) (p2 : Int64) (d0 : Int64) (d1 : Int64) (d2 : Int64) (l0 : Int32) (l1 : Int32) (l2 : Int32) (q0 : Int32) (q1 : Int32) (q2 : Int32) (b0 : Int32) (b1 : Int32) (b2 : Int32) (fi : Int32) (en : Int32) (si : Int32) (S : Int64 → Prop) (TGL140 : State) (LcGL140 : List Loc) (hGL140 : Heap), (Stand p l e room_1 s m #[(.long ka), (.long kb), (.long kc), (.long ot), (.int oq)] below meth c TGL140 LcGL140 6 88) → (TGL140.heap = hGL140) → (Fr n0 LcGL140) → (Keep h0 hGL140 []) → (own_H Z hGL140 b1028 xo1029 xd1029 xl1029 xq1029 xh1029 ko1029 kd1029 kl1029 kq1029 kh1029 p0 p1 p2 d0 d1 d2 l0 l1 l2 q0 q1 q2 b0 b1 b2 fi en si) → (own_R p0 p1 p2 b0 b1 b2 fi en si S) → (∀ x, S x ↔ (¬ vA = 0 ∧ x = ka)) → (own_all b0 b1 b2 fi en) → (en = 0 ∨ en = 1) → Run p e below s (fun v h L => v = some (.int 1) ∧ Fr n0 L) room_1.cells room_1.slots (TGL140.setTop (mkF m 140 #[.val (.long ka), .second, .val (.long kb), .second, .val (.long kc), .second, .val (.long ot), .second, .val (.int oq), .val (.int vA), .val (.int vB), .val (.int vC), .val (.int rq), .val (.int vR), .val (.long tt), .second, .val (.int vL), .val (.ref b1028), .unset, .unset, .unset] [])) := by
                intro p0 p1 p2 d0 d1 d2 l0 l1 l2 q0 q1 q2 b0 b1 b2 fi en si S TGL140 LcGL140 hGL140 XGL140 eGL140 NGL140 KGL140 hH hR hS hal hen
                refine Run.pre (fun _ k => XS.iload XGL140.here hx rfl (hb hby at_140) rfl  k) ?_
                by_cases hc1067 : vB = (0 : Int32)
                · skip
                  refine Run.pre (fun _ k => XS.ifYes XGL140.here hx rfl (pc0 := 142) (pc' := 155) rfl (hb hby at_142) rfl ((if0 _ _).trans (teq (hc1067 : vB = (0 : Int32))).1) (by decide) (by decide) k) ?_
                  show Run p e below s _ _ _ (TGL140.setTop (mkF m 155 #[.val (.long ka), .second, .val (.long kb), .second, .val (.long kc), .second, .val (.long ot), .second, .val (.int oq), .val (.int vA), .val (.int vB), .val (.int vC), .val (.int rq), .val (.int vR), .val (.long tt), .second, .val (.int vL), .val (.ref b1028), .unset, .unset, .unset] []))
                  exact GL155 p0 p1 p2 d0 d1 d2 l0 l1 l2 q0 q1 q2 b0 b1 b2 fi en si S _ _ _ XGL140 eGL140 NGL140 KGL140 hH hR (fun x => by show S x ↔ _; have q := hS x; have c0 := hc1067; simp only [own_I, own_G, own_C, own_A5, own_F] at q ⊢; grind) hal (by rcases hen with h | h <;> simp [h])
                · skip
                  refine Run.pre (fun _ k => XS.ifNo XGL140.here hx rfl (hb hby at_142) rfl ((if0 _ _).trans (feq (hc1067 : ¬ (vB = (0 : Int32)))).1) k) ?_
                  refine Run.pre (fun _ k => XS.aload XGL140.here hx rfl (hb hby at_145) rfl rfl k) ?_
                  refine Run.pre (fun _ k => XS.lloadN XGL140.here hx rfl (hb hby at_147) rfl  k) ?_
                  refine Run.pre (fun _ k => XS.lconst XGL140.here hx rfl (hb hby at_148) k) ?_
                  show Run p e below s _ _ _ (TGL140.setTop (mkF m 149 #[.val (.long ka), .second, .val (.long kb), .second, .val (.long kc), .second, .val (.long ot), .second, .val (.int oq), .val (.int vA), .val (.int vB), .val (.int vC), .val (.int rq), .val (.int vR), .val (.long tt), .second, .val (.int vL), .val (.ref b1028), .unset, .unset, .unset] [(.long (1 : Int64)), (.long kb), (.ref b1028)]))
                  refine Run.pre (fun _ k => XS.iconst XGL140.here hx rfl (hb hby at_149) k) ?_
                  refine Run.pre (fun _ k => XS.iconst XGL140.here hx rfl (hb hby at_150) k) ?_
                  refine Run.callV XGL140 hx hZ (y := (⟨"com/example/manana/manana/storage/WaitingTable", "put", "(JJII)Z"⟩ : MethodName)) (z := (⟨"com/example/manana/manana/storage/WaitingTable", "put", "(JJII)Z"⟩ : MethodName)) hown (hwi hw 29 rfl) (hwi hw 30 rfl) (notFace_of_selects (args := #[]) (mvT hZ (hwi hw 32 rfl))) (hwi hw 32 rfl) (hwi hw 31 rfl) (hwi hw 33 rfl) (hwi hw 2 rfl) (by decide) (b := b1028) (hH.1) (W := 0) (rmPut l Z a0 hw b1028 xo1029 xd1029 xl1029 xq1029 xh1029 ko1029 kd1029 kl1029 kq1029 kh1029 p0 p1 p2 d0 d1 d2 l0 l1 l2 q0 q1 q2 b0 b1 b2 fi en si kb (1 : Int64) (1 : Int32) (1 : Int32) S hGL140 n0 (Nat.le_trans Z0 KGL140.1) hH hD1029 gn_b1028 gn_xo1029 gn_xd1029 gn_xl1029 gn_xq1029 gn_xh1029 (own_Rd hR (by rcases hen with h | h <;> simp [h]))) eGL140 (by decide) (by decide) (by decide) (by decide) (g := (mkF m 151 #[.val (.long ka), .second, .val (.long kb), .second, .val (.long kc), .second, .val (.long ot), .second, .val (.int oq), .val (.int vA), .val (.int vB), .val (.int vC), .val (.int rq), .val (.int vR), .val (.long tt), .second, .val (.int vL), .val (.ref b1028), .unset, .unset, .unset] [(.int (1 : Int32)), (.int (1 : Int32)), (.long (1 : Int64)), (.long kb), (.ref b1028)])) rfl (by rw [hml]; rfl) (argsL := [(.long kb), (.long (1 : Int64)), (.int (1 : Int32)), (.int (1 : Int32))]) (rest := []) (lenOf pd_10 rfl) rfl (by show 2 * 0 + _ ≤ _; exact Nat.le_of_eq rfl) (hb hby at_151) ?_
                  intro v1068 T1068 L1068 X1068 hQ1068
                  obtain ⟨rr1068, p0n1068, p1n1068, p2n1068, d0n1068, d1n1068, d2n1068, l0n1068, l1n1068, l2n1068, q0n1068, q1n1068, q2n1068, b0n1068, b1n1068, b2n1068, fin1068, enn1068, sin1068, rfl, Nq1068, Kc1068, hh1068, hq1068⟩ := hQ1068
                  have N1068 := Fr.app NGL140 Nq1068
                  have K1068 : Keep h0 T1068.heap [] := KGL140.trans Kc1068 (allS (Or.inr sz_b1028) (allS (Or.inr sz_xo1029) (allS (Or.inr sz_xd1029) (allS (Or.inr sz_xl1029) (allS (Or.inr sz_xq1029) (allS (Or.inr sz_xh1029) all0))))))
                  refine Run.pre (fun _ k => XS.pop X1068.here hx rfl (hb hby at_154) rfl rfl k) ?_
                  show Run p e below s _ _ _ (T1068.setTop (mkF m 155 #[.val (.long ka), .second, .val (.long kb), .second, .val (.long kc), .second, .val (.long ot), .second, .val (.int oq), .val (.int vA), .val (.int vB), .val (.int vC), .val (.int rq), .val (.int vR), .val (.long tt), .second, .val (.int vL), .val (.ref b1028), .unset, .unset, .unset] []))
                  exact GL155 p0n1068 p1n1068 p2n1068 d0n1068 d1n1068 d2n1068 l0n1068 l1n1068 l2n1068 q0n1068 q1n1068 q2n1068 b0n1068 b1n1068 b2n1068 fin1068 enn1068 sin1068 (fun x => S x ∨ x = kb) _ _ _ X1068 rfl N1068 K1068 hh1068 hq1068.1 (fun x => by show (S x ∨ x = kb) ↔ _; have q := hS x; have c0 := hc1067; simp only [own_I, own_G, own_C, own_A5, own_F] at q ⊢; grind) (hq1068.2.1 hal) (by rcases hen with h | h <;> rcases hq1068.2.2 with q | q <;> rw [q, h] <;> decide)
              refine Run.pre (fun _ k => XS.iload X1030.here hx rfl (hb hby at_125) rfl  k) ?_
              by_cases hc1069 : vA = (0 : Int32)
              · skip
                refine Run.pre (fun _ k => XS.ifYes X1030.here hx rfl (pc0 := 127) (pc' := 140) rfl (hb hby at_127) rfl ((if0 _ _).trans (teq (hc1069 : vA = (0 : Int32))).1) (by decide) (by decide) k) ?_
                show Run p e below s _ _ _ (T1030.setTop (mkF m 140 #[.val (.long ka), .second, .val (.long kb), .second, .val (.long kc), .second, .val (.long ot), .second, .val (.int oq), .val (.int vA), .val (.int vB), .val (.int vC), .val (.int rq), .val (.int vR), .val (.long tt), .second, .val (.int vL), .val (.ref b1028), .unset, .unset, .unset] []))
                exact GL140 (0 : Int64) (0 : Int64) (0 : Int64) (0 : Int64) (0 : Int64) (0 : Int64) (0 : Int32) (0 : Int32) (0 : Int32) (0 : Int32) (0 : Int32) (0 : Int32) (0 : Int32) (0 : Int32) (0 : Int32) (0 : Int32) (0 : Int32) (0 : Int32) own_F _ _ _ X1030 e1030 N1030 K1029 hH1029 (Or.inl ⟨rfl, rfl, rfl, rfl, rfl, rfl, fun x => Iff.rfl⟩ : own_R 0 0 0 0 0 0 0 0 0 own_F) (fun x => by show own_F x ↔ _; have q := (fun x => Iff.rfl : ∀ x, own_F x ↔ False) x; have c0 := hc1069; simp only [own_I, own_G, own_C, own_A5, own_F] at q ⊢; grind) (by decide : own_all 0 0 0 0 0) (Or.inl rfl : (0 : Int32) = 0 ∨ (0 : Int32) = 1)
              · skip
                refine Run.pre (fun _ k => XS.ifNo X1030.here hx rfl (hb hby at_127) rfl ((if0 _ _).trans (feq (hc1069 : ¬ (vA = (0 : Int32)))).1) k) ?_
                refine Run.pre (fun _ k => XS.aload X1030.here hx rfl (hb hby at_130) rfl rfl k) ?_
                refine Run.pre (fun _ k => XS.lloadN X1030.here hx rfl (hb hby at_132) rfl  k) ?_
                refine Run.pre (fun _ k => XS.lconst X1030.here hx rfl (hb hby at_133) k) ?_
                show Run p e below s _ _ _ (T1030.setTop (mkF m 134 #[.val (.long ka), .second, .val (.long kb), .second, .val (.long kc), .second, .val (.long ot), .second, .val (.int oq), .val (.int vA), .val (.int vB), .val (.int vC), .val (.int rq), .val (.int vR), .val (.long tt), .second, .val (.int vL), .val (.ref b1028), .unset, .unset, .unset] [(.long (0 : Int64)), (.long ka), (.ref b1028)]))
                refine Run.pre (fun _ k => XS.iconst X1030.here hx rfl (hb hby at_134) k) ?_
                refine Run.pre (fun _ k => XS.iconst X1030.here hx rfl (hb hby at_135) k) ?_
                refine Run.callV X1030 hx hZ (y := (⟨"com/example/manana/manana/storage/WaitingTable", "put", "(JJII)Z"⟩ : MethodName)) (z := (⟨"com/example/manana/manana/storage/WaitingTable", "put", "(JJII)Z"⟩ : MethodName)) hown (hwi hw 29 rfl) (hwi hw 30 rfl) (notFace_of_selects (args := #[]) (mvT hZ (hwi hw 32 rfl))) (hwi hw 32 rfl) (hwi hw 31 rfl) (hwi hw 33 rfl) (hwi hw 2 rfl) (by decide) (b := b1028) f1031 (W := 0) (rmPut l Z a0 hw b1028 xo1029 xd1029 xl1029 xq1029 xh1029 ko1029 kd1029 kl1029 kq1029 kh1029 (0 : Int64) (0 : Int64) (0 : Int64) (0 : Int64) (0 : Int64) (0 : Int64) (0 : Int32) (0 : Int32) (0 : Int32) (0 : Int32) (0 : Int32) (0 : Int32) (0 : Int32) (0 : Int32) (0 : Int32) (0 : Int32) (0 : Int32) (0 : Int32) ka (0 : Int64) (0 : Int32) (0 : Int32) own_F T1029.heap n0 (Nat.le_trans Z0 K1029.1) hH1029 hD1029 gn_b1028 gn_xo1029 gn_xd1029 gn_xl1029 gn_xq1029 gn_xh1029 (own_Rd (Or.inl ⟨rfl, rfl, rfl, rfl, rfl, rfl, fun x => Iff.rfl⟩ : own_R 0 0 0 0 0 0 0 0 0 own_F) (Or.inl rfl))) e1030 (by decide) (by decide) (by decide) (by decide) (g := (mkF m 136 #[.val (.long ka), .second, .val (.long kb), .second, .val (.long kc), .second, .val (.long ot), .second, .val (.int oq), .val (.int vA), .val (.int vB), .val (.int vC), .val (.int rq), .val (.int vR), .val (.long tt), .second, .val (.int vL), .val (.ref b1028), .unset, .unset, .unset] [(.int (0 : Int32)), (.int (0 : Int32)), (.long (0 : Int64)), (.long ka), (.ref b1028)])) rfl (by rw [hml]; rfl) (argsL := [(.long ka), (.long (0 : Int64)), (.int (0 : Int32)), (.int (0 : Int32))]) (rest := []) (lenOf pd_10 rfl) rfl (by show 2 * 0 + _ ≤ _; exact Nat.le_of_eq rfl) (hb hby at_136) ?_
                intro v1070 T1070 L1070 X1070 hQ1070
                obtain ⟨rr1070, p0n1070, p1n1070, p2n1070, d0n1070, d1n1070, d2n1070, l0n1070, l1n1070, l2n1070, q0n1070, q1n1070, q2n1070, b0n1070, b1n1070, b2n1070, fin1070, enn1070, sin1070, rfl, Nq1070, Kc1070, hh1070, hq1070⟩ := hQ1070
                have N1070 := Fr.app N1030 Nq1070
                have K1070 : Keep h0 T1070.heap [] := K1029.trans Kc1070 (allS (Or.inr sz_b1028) (allS (Or.inr sz_xo1029) (allS (Or.inr sz_xd1029) (allS (Or.inr sz_xl1029) (allS (Or.inr sz_xq1029) (allS (Or.inr sz_xh1029) all0))))))
                refine Run.pre (fun _ k => XS.pop X1070.here hx rfl (hb hby at_139) rfl rfl k) ?_
                show Run p e below s _ _ _ (T1070.setTop (mkF m 140 #[.val (.long ka), .second, .val (.long kb), .second, .val (.long kc), .second, .val (.long ot), .second, .val (.int oq), .val (.int vA), .val (.int vB), .val (.int vC), .val (.int rq), .val (.int vR), .val (.long tt), .second, .val (.int vL), .val (.ref b1028), .unset, .unset, .unset] []))
                exact GL140 p0n1070 p1n1070 p2n1070 d0n1070 d1n1070 d2n1070 l0n1070 l1n1070 l2n1070 q0n1070 q1n1070 q2n1070 b0n1070 b1n1070 b2n1070 fin1070 enn1070 sin1070 (fun x => own_F x ∨ x = ka) _ _ _ X1070 rfl N1070 K1070 hh1070 hq1070.1 (fun x => by show (own_F x ∨ x = ka) ↔ _; have q := (fun x => Iff.rfl : ∀ x, own_F x ↔ False) x; have c0 := hc1069; simp only [own_I, own_G, own_C, own_A5, own_F] at q ⊢; grind) (hq1070.2.1 (by decide : own_all 0 0 0 0 0)) (by rcases hq1070.2.2 with q | q <;> rw [q] <;> decide)
            by_cases hc1026 : (oq &&& (32 : Int32)) = (0 : Int32)
            · skip
              refine Run.pre (fun _ k => XS.ifYes X0.here hx rfl (pc0 := 91) (pc' := 98) rfl (hb hby at_91) rfl ((if0 _ _).trans (teq (hc1026 : (oq &&& (32 : Int32)) = (0 : Int32))).1) (by decide) (by decide) k) ?_
              refine Run.pre (fun _ k => XS.iconst X0.here hx rfl (hb hby at_98) k) ?_
              show Run p e below s _ _ _ (s₁.setTop (mkF m 99 #[.val (.long ka), .second, .val (.long kb), .second, .val (.long kc), .second, .val (.long ot), .second, .val (.int oq), .val (.int (own_nz (oq &&& (1 : Int32)))), .val (.int (own_nz (oq &&& (2 : Int32)))), .val (.int (own_nz (oq &&& (4 : Int32)))), .val (.int (((oq.toUInt32 >>> ((3 : Int32) &&& 31).toUInt32).toInt32) &&& (3 : Int32))), .val (.int (own_nz (((oq.toUInt32 >>> ((3 : Int32) &&& 31).toUInt32).toInt32) &&& (3 : Int32)))), .val (.long (own_tt (((oq.toUInt32 >>> ((3 : Int32) &&& 31).toUInt32).toInt32) &&& (3 : Int32)) ka kb kc)), .second, .unset, .unset, .unset, .unset, .unset] [(.int (0 : Int32))]))
              have KK := KJ1027
              rw [show (own_nz (oq &&& (32 : Int32))) = (0 : Int32) from (if_pos hc1026)] at KK
              exact KK
            · skip
              refine Run.pre (fun _ k => XS.ifNo X0.here hx rfl (hb hby at_91) rfl ((if0 _ _).trans (feq (hc1026 : ¬ ((oq &&& (32 : Int32)) = (0 : Int32)))).1) k) ?_
              refine Run.pre (fun _ k => XS.iconst X0.here hx rfl (hb hby at_94) k) ?_
              refine Run.pre (fun _ k => XS.goto X0.here hx rfl (pc0 := 95) (pc' := 99) rfl (hb hby at_95) (by decide) (by decide) k) ?_
              show Run p e below s _ _ _ (s₁.setTop (mkF m 99 #[.val (.long ka), .second, .val (.long kb), .second, .val (.long kc), .second, .val (.long ot), .second, .val (.int oq), .val (.int (own_nz (oq &&& (1 : Int32)))), .val (.int (own_nz (oq &&& (2 : Int32)))), .val (.int (own_nz (oq &&& (4 : Int32)))), .val (.int (((oq.toUInt32 >>> ((3 : Int32) &&& 31).toUInt32).toInt32) &&& (3 : Int32))), .val (.int (own_nz (((oq.toUInt32 >>> ((3 : Int32) &&& 31).toUInt32).toInt32) &&& (3 : Int32)))), .val (.long (own_tt (((oq.toUInt32 >>> ((3 : Int32) &&& 31).toUInt32).toInt32) &&& (3 : Int32)) ka kb kc)), .second, .unset, .unset, .unset, .unset, .unset] [(.int (1 : Int32))]))
              have KK := KJ1027
              rw [show (own_nz (oq &&& (32 : Int32))) = (1 : Int32) from (if_neg hc1026)] at KK
              exact KK
          by_cases hc1024 : (((oq.toUInt32 >>> ((3 : Int32) &&& 31).toUInt32).toInt32) &&& (3 : Int32)) = (1 : Int32)
          · skip
            refine Run.pre (fun _ k => XS.icmpNo X0.here hx rfl (hb hby at_65) rfl (teq (hc1024 : (((oq.toUInt32 >>> ((3 : Int32) &&& 31).toUInt32).toInt32) &&& (3 : Int32)) = (1 : Int32))).2 k) ?_
            refine Run.pre (fun _ k => XS.lloadN X0.here hx rfl (hb hby at_68) rfl  k) ?_
            refine Run.pre (fun _ k => XS.goto X0.here hx rfl (pc0 := 69) (pc' := 84) rfl (hb hby at_69) (by decide) (by decide) k) ?_
            show Run p e below s _ _ _ (s₁.setTop (mkF m 84 #[.val (.long ka), .second, .val (.long kb), .second, .val (.long kc), .second, .val (.long ot), .second, .val (.int oq), .val (.int (own_nz (oq &&& (1 : Int32)))), .val (.int (own_nz (oq &&& (2 : Int32)))), .val (.int (own_nz (oq &&& (4 : Int32)))), .val (.int (((oq.toUInt32 >>> ((3 : Int32) &&& 31).toUInt32).toInt32) &&& (3 : Int32))), .val (.int (own_nz (((oq.toUInt32 >>> ((3 : Int32) &&& 31).toUInt32).toInt32) &&& (3 : Int32)))), .unset, .unset, .unset, .unset, .unset, .unset, .unset] [(.long ka)]))
            have KK := KJ1025
            rw [show (own_tt (((oq.toUInt32 >>> ((3 : Int32) &&& 31).toUInt32).toInt32) &&& (3 : Int32)) ka kb kc) = ka from (if_pos hc1024)] at KK
            exact KK
          · skip
            refine Run.pre (fun _ k => XS.icmpYes X0.here hx rfl (pc0 := 65) (pc' := 72) rfl (hb hby at_65) rfl (feq (hc1024 : ¬ ((((oq.toUInt32 >>> ((3 : Int32) &&& 31).toUInt32).toInt32) &&& (3 : Int32)) = (1 : Int32)))).2 (by decide) (by decide) k) ?_
            refine Run.pre (fun _ k => XS.iload X0.here hx rfl (hb hby at_72) rfl  k) ?_
            refine Run.pre (fun _ k => XS.iconst X0.here hx rfl (hb hby at_74) k) ?_
            by_cases hc1071 : (((oq.toUInt32 >>> ((3 : Int32) &&& 31).toUInt32).toInt32) &&& (3 : Int32)) = (2 : Int32)
            · skip
              refine Run.pre (fun _ k => XS.icmpNo X0.here hx rfl (hb hby at_75) rfl (teq (hc1071 : (((oq.toUInt32 >>> ((3 : Int32) &&& 31).toUInt32).toInt32) &&& (3 : Int32)) = (2 : Int32))).2 k) ?_
              show Run p e below s _ _ _ (s₁.setTop (mkF m 78 #[.val (.long ka), .second, .val (.long kb), .second, .val (.long kc), .second, .val (.long ot), .second, .val (.int oq), .val (.int (own_nz (oq &&& (1 : Int32)))), .val (.int (own_nz (oq &&& (2 : Int32)))), .val (.int (own_nz (oq &&& (4 : Int32)))), .val (.int (((oq.toUInt32 >>> ((3 : Int32) &&& 31).toUInt32).toInt32) &&& (3 : Int32))), .val (.int (own_nz (((oq.toUInt32 >>> ((3 : Int32) &&& 31).toUInt32).toInt32) &&& (3 : Int32)))), .unset, .unset, .unset, .unset, .unset, .unset, .unset] []))
              refine Run.pre (fun _ k => XS.lloadN X0.here hx rfl (hb hby at_78) rfl  k) ?_
              refine Run.pre (fun _ k => XS.goto X0.here hx rfl (pc0 := 79) (pc' := 84) rfl (hb hby at_79) (by decide) (by decide) k) ?_
              show Run p e below s _ _ _ (s₁.setTop (mkF m 84 #[.val (.long ka), .second, .val (.long kb), .second, .val (.long kc), .second, .val (.long ot), .second, .val (.int oq), .val (.int (own_nz (oq &&& (1 : Int32)))), .val (.int (own_nz (oq &&& (2 : Int32)))), .val (.int (own_nz (oq &&& (4 : Int32)))), .val (.int (((oq.toUInt32 >>> ((3 : Int32) &&& 31).toUInt32).toInt32) &&& (3 : Int32))), .val (.int (own_nz (((oq.toUInt32 >>> ((3 : Int32) &&& 31).toUInt32).toInt32) &&& (3 : Int32)))), .unset, .unset, .unset, .unset, .unset, .unset, .unset] [(.long kb)]))
              have KK := KJ1025
              rw [show (own_tt (((oq.toUInt32 >>> ((3 : Int32) &&& 31).toUInt32).toInt32) &&& (3 : Int32)) ka kb kc) = kb from ((if_neg hc1024).trans (if_pos hc1071))] at KK
              exact KK
            · skip
              refine Run.pre (fun _ k => XS.icmpYes X0.here hx rfl (pc0 := 75) (pc' := 82) rfl (hb hby at_75) rfl (feq (hc1071 : ¬ ((((oq.toUInt32 >>> ((3 : Int32) &&& 31).toUInt32).toInt32) &&& (3 : Int32)) = (2 : Int32)))).2 (by decide) (by decide) k) ?_
              show Run p e below s _ _ _ (s₁.setTop (mkF m 82 #[.val (.long ka), .second, .val (.long kb), .second, .val (.long kc), .second, .val (.long ot), .second, .val (.int oq), .val (.int (own_nz (oq &&& (1 : Int32)))), .val (.int (own_nz (oq &&& (2 : Int32)))), .val (.int (own_nz (oq &&& (4 : Int32)))), .val (.int (((oq.toUInt32 >>> ((3 : Int32) &&& 31).toUInt32).toInt32) &&& (3 : Int32))), .val (.int (own_nz (((oq.toUInt32 >>> ((3 : Int32) &&& 31).toUInt32).toInt32) &&& (3 : Int32)))), .unset, .unset, .unset, .unset, .unset, .unset, .unset] []))
              refine Run.pre (fun _ k => XS.lload X0.here hx rfl (hb hby at_82) rfl  k) ?_
              show Run p e below s _ _ _ (s₁.setTop (mkF m 84 #[.val (.long ka), .second, .val (.long kb), .second, .val (.long kc), .second, .val (.long ot), .second, .val (.int oq), .val (.int (own_nz (oq &&& (1 : Int32)))), .val (.int (own_nz (oq &&& (2 : Int32)))), .val (.int (own_nz (oq &&& (4 : Int32)))), .val (.int (((oq.toUInt32 >>> ((3 : Int32) &&& 31).toUInt32).toInt32) &&& (3 : Int32))), .val (.int (own_nz (((oq.toUInt32 >>> ((3 : Int32) &&& 31).toUInt32).toInt32) &&& (3 : Int32)))), .unset, .unset, .unset, .unset, .unset, .unset, .unset] [(.long kc)]))
              have KK := KJ1025
              rw [show (own_tt (((oq.toUInt32 >>> ((3 : Int32) &&& 31).toUInt32).toInt32) &&& (3 : Int32)) ka kb kc) = kc from ((if_neg hc1024).trans (if_neg hc1071))] at KK
              exact KK
        by_cases hc1022 : (((oq.toUInt32 >>> ((3 : Int32) &&& 31).toUInt32).toInt32) &&& (3 : Int32)) = (0 : Int32)
        · skip
          refine Run.pre (fun _ k => XS.ifYes X0.here hx rfl (pc0 := 52) (pc' := 59) rfl (hb hby at_52) rfl ((if0 _ _).trans (teq (hc1022 : (((oq.toUInt32 >>> ((3 : Int32) &&& 31).toUInt32).toInt32) &&& (3 : Int32)) = (0 : Int32))).1) (by decide) (by decide) k) ?_
          refine Run.pre (fun _ k => XS.iconst X0.here hx rfl (hb hby at_59) k) ?_
          show Run p e below s _ _ _ (s₁.setTop (mkF m 60 #[.val (.long ka), .second, .val (.long kb), .second, .val (.long kc), .second, .val (.long ot), .second, .val (.int oq), .val (.int (own_nz (oq &&& (1 : Int32)))), .val (.int (own_nz (oq &&& (2 : Int32)))), .val (.int (own_nz (oq &&& (4 : Int32)))), .val (.int (((oq.toUInt32 >>> ((3 : Int32) &&& 31).toUInt32).toInt32) &&& (3 : Int32))), .unset, .unset, .unset, .unset, .unset, .unset, .unset, .unset] [(.int (0 : Int32))]))
          have KK := KJ1023
          rw [show (own_nz (((oq.toUInt32 >>> ((3 : Int32) &&& 31).toUInt32).toInt32) &&& (3 : Int32))) = (0 : Int32) from (if_pos hc1022)] at KK
          exact KK
        · skip
          refine Run.pre (fun _ k => XS.ifNo X0.here hx rfl (hb hby at_52) rfl ((if0 _ _).trans (feq (hc1022 : ¬ ((((oq.toUInt32 >>> ((3 : Int32) &&& 31).toUInt32).toInt32) &&& (3 : Int32)) = (0 : Int32)))).1) k) ?_
          refine Run.pre (fun _ k => XS.iconst X0.here hx rfl (hb hby at_55) k) ?_
          show Run p e below s _ _ _ (s₁.setTop (mkF m 56 #[.val (.long ka), .second, .val (.long kb), .second, .val (.long kc), .second, .val (.long ot), .second, .val (.int oq), .val (.int (own_nz (oq &&& (1 : Int32)))), .val (.int (own_nz (oq &&& (2 : Int32)))), .val (.int (own_nz (oq &&& (4 : Int32)))), .val (.int (((oq.toUInt32 >>> ((3 : Int32) &&& 31).toUInt32).toInt32) &&& (3 : Int32))), .unset, .unset, .unset, .unset, .unset, .unset, .unset, .unset] [(.int (1 : Int32))]))
          refine Run.pre (fun _ k => XS.goto X0.here hx rfl (pc0 := 56) (pc' := 60) rfl (hb hby at_56) (by decide) (by decide) k) ?_
          show Run p e below s _ _ _ (s₁.setTop (mkF m 60 #[.val (.long ka), .second, .val (.long kb), .second, .val (.long kc), .second, .val (.long ot), .second, .val (.int oq), .val (.int (own_nz (oq &&& (1 : Int32)))), .val (.int (own_nz (oq &&& (2 : Int32)))), .val (.int (own_nz (oq &&& (4 : Int32)))), .val (.int (((oq.toUInt32 >>> ((3 : Int32) &&& 31).toUInt32).toInt32) &&& (3 : Int32))), .unset, .unset, .unset, .unset, .unset, .unset, .unset, .unset] [(.int (1 : Int32))]))
          have KK := KJ1023
          rw [show (own_nz (((oq.toUInt32 >>> ((3 : Int32) &&& 31).toUInt32).toInt32) &&& (3 : Int32))) = (1 : Int32) from (if_neg hc1022)] at KK
          exact KK
      by_cases hc1020 : (oq &&& (4 : Int32)) = (0 : Int32)
      · skip
        refine Run.pre (fun _ k => XS.ifYes X0.here hx rfl (pc0 := 32) (pc' := 39) rfl (hb hby at_32) rfl ((if0 _ _).trans (teq (hc1020 : (oq &&& (4 : Int32)) = (0 : Int32))).1) (by decide) (by decide) k) ?_
        refine Run.pre (fun _ k => XS.iconst X0.here hx rfl (hb hby at_39) k) ?_
        show Run p e below s _ _ _ (s₁.setTop (mkF m 40 #[.val (.long ka), .second, .val (.long kb), .second, .val (.long kc), .second, .val (.long ot), .second, .val (.int oq), .val (.int (own_nz (oq &&& (1 : Int32)))), .val (.int (own_nz (oq &&& (2 : Int32)))), .unset, .unset, .unset, .unset, .unset, .unset, .unset, .unset, .unset, .unset] [(.int (0 : Int32))]))
        have KK := KJ1021
        rw [show (own_nz (oq &&& (4 : Int32))) = (0 : Int32) from (if_pos hc1020)] at KK
        exact KK
      · skip
        refine Run.pre (fun _ k => XS.ifNo X0.here hx rfl (hb hby at_32) rfl ((if0 _ _).trans (feq (hc1020 : ¬ ((oq &&& (4 : Int32)) = (0 : Int32)))).1) k) ?_
        refine Run.pre (fun _ k => XS.iconst X0.here hx rfl (hb hby at_35) k) ?_
        refine Run.pre (fun _ k => XS.goto X0.here hx rfl (pc0 := 36) (pc' := 40) rfl (hb hby at_36) (by decide) (by decide) k) ?_
        show Run p e below s _ _ _ (s₁.setTop (mkF m 40 #[.val (.long ka), .second, .val (.long kb), .second, .val (.long kc), .second, .val (.long ot), .second, .val (.int oq), .val (.int (own_nz (oq &&& (1 : Int32)))), .val (.int (own_nz (oq &&& (2 : Int32)))), .unset, .unset, .unset, .unset, .unset, .unset, .unset, .unset, .unset, .unset] [(.int (1 : Int32))]))
        have KK := KJ1021
        rw [show (own_nz (oq &&& (4 : Int32))) = (1 : Int32) from (if_neg hc1020)] at KK
        exact KK
    by_cases hc1018 : (oq &&& (2 : Int32)) = (0 : Int32)
    · skip
      refine Run.pre (fun _ k => XS.ifYes X0.here hx rfl (pc0 := 18) (pc' := 25) rfl (hb hby at_18) rfl ((if0 _ _).trans (teq (hc1018 : (oq &&& (2 : Int32)) = (0 : Int32))).1) (by decide) (by decide) k) ?_
      refine Run.pre (fun _ k => XS.iconst X0.here hx rfl (hb hby at_25) k) ?_
      show Run p e below s _ _ _ (s₁.setTop (mkF m 26 #[.val (.long ka), .second, .val (.long kb), .second, .val (.long kc), .second, .val (.long ot), .second, .val (.int oq), .val (.int (own_nz (oq &&& (1 : Int32)))), .unset, .unset, .unset, .unset, .unset, .unset, .unset, .unset, .unset, .unset, .unset] [(.int (0 : Int32))]))
      have KK := KJ1019
      rw [show (own_nz (oq &&& (2 : Int32))) = (0 : Int32) from (if_pos hc1018)] at KK
      exact KK
    · skip
      refine Run.pre (fun _ k => XS.ifNo X0.here hx rfl (hb hby at_18) rfl ((if0 _ _).trans (feq (hc1018 : ¬ ((oq &&& (2 : Int32)) = (0 : Int32)))).1) k) ?_
      refine Run.pre (fun _ k => XS.iconst X0.here hx rfl (hb hby at_21) k) ?_
      refine Run.pre (fun _ k => XS.goto X0.here hx rfl (pc0 := 22) (pc' := 26) rfl (hb hby at_22) (by decide) (by decide) k) ?_
      show Run p e below s _ _ _ (s₁.setTop (mkF m 26 #[.val (.long ka), .second, .val (.long kb), .second, .val (.long kc), .second, .val (.long ot), .second, .val (.int oq), .val (.int (own_nz (oq &&& (1 : Int32)))), .unset, .unset, .unset, .unset, .unset, .unset, .unset, .unset, .unset, .unset, .unset] [(.int (1 : Int32))]))
      have KK := KJ1019
      rw [show (own_nz (oq &&& (2 : Int32))) = (1 : Int32) from (if_neg hc1018)] at KK
      exact KK
  by_cases hc1016 : (oq &&& (1 : Int32)) = (0 : Int32)
  · skip
    refine Run.pre (fun _ k => XS.ifYes X0.here hx rfl (pc0 := 4) (pc' := 11) rfl (hb hby at_4) rfl ((if0 _ _).trans (teq (hc1016 : (oq &&& (1 : Int32)) = (0 : Int32))).1) (by decide) (by decide) k) ?_
    refine Run.pre (fun _ k => XS.iconst X0.here hx rfl (hb hby at_11) k) ?_
    show Run p e below s _ _ _ (s₁.setTop (mkF m 12 #[.val (.long ka), .second, .val (.long kb), .second, .val (.long kc), .second, .val (.long ot), .second, .val (.int oq), .unset, .unset, .unset, .unset, .unset, .unset, .unset, .unset, .unset, .unset, .unset, .unset] [(.int (0 : Int32))]))
    have KK := KJ1017
    rw [show (own_nz (oq &&& (1 : Int32))) = (0 : Int32) from (if_pos hc1016)] at KK
    exact KK
  · skip
    refine Run.pre (fun _ k => XS.ifNo X0.here hx rfl (hb hby at_4) rfl ((if0 _ _).trans (feq (hc1016 : ¬ ((oq &&& (1 : Int32)) = (0 : Int32)))).1) k) ?_
    refine Run.pre (fun _ k => XS.iconst X0.here hx rfl (hb hby at_7) k) ?_
    refine Run.pre (fun _ k => XS.goto X0.here hx rfl (pc0 := 8) (pc' := 12) rfl (hb hby at_8) (by decide) (by decide) k) ?_
    show Run p e below s _ _ _ (s₁.setTop (mkF m 12 #[.val (.long ka), .second, .val (.long kb), .second, .val (.long kc), .second, .val (.long ot), .second, .val (.int oq), .unset, .unset, .unset, .unset, .unset, .unset, .unset, .unset, .unset, .unset, .unset, .unset] [(.int (1 : Int32))]))
    have KK := KJ1017
    rw [show (own_nz (oq &&& (1 : Int32))) = (1 : Int32) from (if_neg hc1016)] at KK
    exact KK
set_option maxRecDepth 65536 in
set_option maxHeartbeats 40000000 in
theorem comes_1 {Post : Tables → Env → Array Value → State → Outcome → State → Prop} (hpost : ∀ tb e args s v u, (limb_1_1.after args s (.returned v) u = true ∧ limb_1_2.after args s (.returned v) u = true ∧ True) → FrameEnd s (.returned v) u (Jvm.fieldLocs frame_1_writes args s ++ Jvm.arrayLocs frame_1_arrays args s ++ Jvm.staticLocs frame_1_statics s) 24 256 → Post tb e args s (.returned v) u) :
    ArmFor flags0 classFile x code maxLocals ret World_1 tables_1 room_1 Calls_1 rest_1 Pre_1 Post := by
  intro l hfl _ _ p e ha hc hk s m args below hf hA hF happ hP
  obtain ⟨hcalls, hrest, hpre⟩ := hP
  obtain ⟨-, -, -, hnamed, -, -, -, hat⟩ := (Spec.applies_iff hf).mp happ
  obtain ⟨hg, hn⟩ := and_e (Cond.before_iff.mp (show (Jvm.Cond.and given_1 narrow_1).before args s = true from hpre))
  obtain ⟨g0, gr0⟩ := and_e hg
  obtain ⟨g1, gr1⟩ := and_e gr0
  obtain ⟨g2, gr2⟩ := and_e gr1
  obtain ⟨g3, gr3⟩ := and_e gr2
  obtain ⟨g4, gr4⟩ := and_e gr3
  obtain ⟨w0, w1, w2, w3, w4, rfl⟩ : ∃ w0 w1 w2 w3 w4 : Value, args = #[w0, w1, w2, w3, w4] := by
    have hs : args.size = 5 := by simpa [Cond.value, given_1] using g0
    obtain ⟨L⟩ := args
    match L, hs with
    | [w0, w1, w2, w3, w4], _ => exact ⟨w0, w1, w2, w3, w4, rfl⟩
  have hw := fun d (hd : d ∈ tables_1) => atoms_spec (ws := Jvm.Cond.code x code maxLocals ret :: tables_1) hat d (List.mem_cons_of_mem _ hd)
  have hfit : Fit s := own_fit hF
  obtain ⟨i0, ei0⟩ := isL_v g1
  obtain rfl : w0 = (.long i0) := Option.some.inj ei0
  obtain ⟨i1, ei1⟩ := isL_v g2
  obtain rfl : w1 = (.long i1) := Option.some.inj ei1
  obtain ⟨i2, ei2⟩ := isL_v g3
  obtain rfl : w2 = (.long i2) := Option.some.inj ei2
  obtain ⟨i3, ei3⟩ := isL_v g4
  obtain rfl : w3 = (.long i3) := Option.some.inj ei3
  obtain ⟨i4, ei4⟩ := is_v gr4
  obtain rfl : w4 = (.int i4) := Option.some.inj ei4
  obtain ⟨n, o, h1, h2, h3, _, L, rfl, ⟨rfl, N⟩, hq⟩ := rm0 l s _ hw i0 i1 i2 i3 i4 s.heap s.heap.size (Nat.le_refl _) tables_1 p e ha hc hk s m _ below hf ((Spec.applies_iff_loose hf).mp happ).1 ⟨rfl, State.Warmed39.refl s, rfl⟩ trivial
  refine ⟨n, _, h1, h2, h3, hpost _ _ _ _ _ _ ⟨Cond.after_iff.mpr rfl, Cond.after_iff.mpr (eq_i res_at (Term.int_eval (1)) rfl), trivial⟩ ⟨hq.1, hq.2.1, (hq.2.2.sift fun y hy => Or.inr (N y hy)).mono (by decide) (by decide)⟩⟩
theorem main_1_1 : Claimed_1_1 := comes_1 fun _ _ _ _ _ _ h hF => ⟨h.1, hF⟩
theorem main_1_2 : Claimed_1_2 := comes_1 fun _ _ _ _ _ _ h hF => ⟨h.2.1, hF⟩
end Jvm.Pilot.@@N@@
namespace Jvm.Pilot.@@N@@
open Jvm Jvm.ClassFile Sem Op Lib Jvm.Free Jvm.Stand Jvm.Pilot.@@N@@.Jvm.D
/-! MADE BY PROGRAM (witnessworld.py) out of the Statement's table words and the real class files: 16 classes; the members and pool entries that the words name. The judged class is class 1, her method 1. -/
namespace start1
open Jvm.ClassFile
def u (s : String) : CpInfo := .utf8 (stringToUtf16 s)
/-- a pool by its gaps: so many unusable entries, then the entry; so many at the end -/
def gap : Nat → List CpInfo → List CpInfo
  | 0, r => r
  | n + 1, r => .unusable :: gap n r
def poolList (es : List (Nat × CpInfo)) (last : Nat) : List CpInfo := es.foldr (fun e r => gap e.1 (e.2 :: r)) (gap last [])
def pool (es : List (Nat × CpInfo)) (last : Nat) : Array CpInfo := ⟨poolList es last⟩
def fileOf (pool : Array CpInfo) (this : Nat) (attrs : Array Attribute := #[]) (ms : Array MethodInfo := #[]) (fl : Nat := 33) (sup : Nat := 0) (ifs : Array Nat := #[]) (fds : Array FieldInfo := #[]) : ClassFile where
  minorVersion := 0
  majorVersion := 65
  constantPool := pool
  accessFlags := fl
  thisClass := this
  superClass := sup
  interfaces := ifs
  fields := fds
  methods := ms
  attributes := attrs
def plain (name : String) (sup : Option ClassId) : Class where
  name := name
  kind := .ordinary
  loader := none
  accessFlags := 33
  super := sup
  interfaces := #[]
  cf := none
  fields := #[]
  methods := #[]
  instanceTypes := #[]
  staticTypes := #[]
  resolved := #[]
  callSites := []
  init := .initialized
  statics := none
  mirror := none

def pool0 : Array CpInfo := pool [(5, u "<init>"), (0, u "()V"), (1, .class_ 10), (1, u "java/lang/Object")] 113

def k0c0 : Code := { maxStack := 0, maxLocals := 1, code := object_method_1_code, exceptionTable := #[], attributes := #[] }
def k0m0 : Method := { name := "<init>", desc := "()V", sig := { parameters := [], returnType := none }, accessFlags := 1, code := some k0c0 }
/-- java/lang/Object -/
def k0 : Class := { plain "java/lang/Object" none with
  accessFlags := 33
  interfaces := #[]
  cf := some (fileOf pool0 8 #[] #[{ accessFlags := 1, nameIndex := 5, descriptorIndex := 6, attributes := #[] }] 33 0 #[] #[])
  fields := #[]
  methods := #[k0m0]
  instanceTypes := #[]
  staticTypes := #[]
  resolved := Array.replicate 124 none
  statics := none }

def pool1 : Array CpInfo := pool [(2, .class_ 4), (0, .nameAndType 5 6), (0, u "java/lang/Object"), (0, u "<init>"), (0, u "()V"), (0, .class_ 8), (0, u "com/example/manana/manana/storage/WaitingTable"), (0, .methodref 7 3), (0, .methodref 7 11), (0, .nameAndType 12 13), (0, u "lowest"), (0, u "(J)J"), (0, .methodref 7 15), (0, .nameAndType 16 17), (0, u "put"), (0, u "(JJII)Z"), (0, .methodref 19 20), (0, .class_ 21), (0, .nameAndType 22 23), (0, u "com/example/manana/manana/storage/WaitingTableLowestPinLaw"), (0, u "drop"), (0, u "(Lcom/example/manana/manana/storage/WaitingTable;J)V"), (0, .long 2), (1, .methodref 19 27), (0, .nameAndType 28 29), (0, u "member"), (0, u "(JJJJZZZZZJ)Z"), (0, .methodref 31 32), (0, .class_ 33), (0, .nameAndType 34 35), (0, u "java/lang/Math"), (0, u "min"), (0, u "(JJ)J"), (0, .methodref 7 37), (0, .nameAndType 38 39), (0, u "find"), (0, u "(J)I"), (0, .methodref 7 41), (0, .nameAndType 42 43), (0, u "remove"), (0, u "(I)V"), (2, u "law"), (0, u "(JJJJI)Z")] 3

def k1m0 : Method := { name := "<init>", desc := "()V", sig := { parameters := [], returnType := none }, accessFlags := 1, code := none }
def k1c1 : Code := { maxStack := 15, maxLocals := 21, code := code, exceptionTable := #[], attributes := #[] }
def k1m1 : Method := { name := "law", desc := "(JJJJI)Z", sig := { parameters := [.long, .long, .long, .long, .int], returnType := some .boolean }, accessFlags := 9, code := some k1c1 }
def k1c2 : Code := { maxStack := 3, maxLocals := 4, code := method_3_code, exceptionTable := #[], attributes := #[] }
def k1m2 : Method := { name := "drop", desc := "(Lcom/example/manana/manana/storage/WaitingTable;J)V", sig := { parameters := [(.object "com/example/manana/manana/storage/WaitingTable"), .long], returnType := none }, accessFlags := 10, code := some k1c2 }
def k1c3 : Code := { maxStack := 4, maxLocals := 17, code := method_4_code, exceptionTable := #[], attributes := #[] }
def k1m3 : Method := { name := "member", desc := "(JJJJZZZZZJ)Z", sig := { parameters := [.long, .long, .long, .long, .boolean, .boolean, .boolean, .boolean, .boolean, .long], returnType := some .boolean }, accessFlags := 10, code := some k1c3 }
/-- com/example/manana/manana/storage/WaitingTableLowestPinLaw -/
def k1 : Class := { plain "com/example/manana/manana/storage/WaitingTableLowestPinLaw" (some 0) with
  accessFlags := 49
  interfaces := #[]
  cf := some (fileOf pool1 19 #[] #[{ accessFlags := 1, nameIndex := 5, descriptorIndex := 6, attributes := #[] }, { accessFlags := 9, nameIndex := 46, descriptorIndex := 47, attributes := #[] }, { accessFlags := 10, nameIndex := 22, descriptorIndex := 23, attributes := #[] }, { accessFlags := 10, nameIndex := 28, descriptorIndex := 29, attributes := #[] }] 49 2 #[] #[])
  fields := #[]
  methods := #[k1m0, k1m1, k1m2, k1m3]
  instanceTypes := #[]
  staticTypes := #[]
  resolved := Array.replicate 51 none
  statics := none }

def pool2 : Array CpInfo := pool [(1, .methodref 2 3), (0, .class_ 4), (0, .nameAndType 5 6), (0, u "java/lang/Object"), (0, u "<init>"), (0, u "()V"), (0, .fieldref 8 9), (0, .class_ 10), (0, .nameAndType 11 12), (0, u "com/example/manana/manana/storage/WaitingTable"), (0, u "offsets"), (0, u "[J"), (0, .fieldref 8 14), (0, .nameAndType 15 12), (0, u "dues"), (0, .fieldref 8 17), (0, .nameAndType 18 19), (0, u "lengths"), (0, u "[I"), (0, .fieldref 8 21), (0, .nameAndType 22 19), (0, u "queues"), (0, .fieldref 8 24), (0, .nameAndType 25 26), (0, u "held"), (0, u "[Z"), (0, .fieldref 8 28), (0, .nameAndType 29 30), (0, u "end"), (0, u "I"), (0, .fieldref 8 32), (0, .nameAndType 33 30), (0, u "first"), (0, .methodref 8 35), (0, .nameAndType 36 37), (0, u "slotOf"), (0, u "(J)I"), (0, .methodref 8 39), (0, .nameAndType 40 37), (0, u "insert"), (3, .fieldref 8 45), (0, .nameAndType 46 30), (0, u "size"), (0, .methodref 48 49), (0, .class_ 50), (0, .nameAndType 51 52), (0, u "java/lang/Math"), (0, u "min"), (0, u "(II)I"), (0, .methodref 54 55), (0, .class_ 56), (0, .nameAndType 57 58), (0, u "java/util/Arrays"), (0, u "binarySearch"), (0, u "([JIIJ)I"), (0, .methodref 60 61), (0, .class_ 62), (0, .nameAndType 63 64), (0, u "java/lang/System"), (0, u "arraycopy"), (0, u "(Ljava/lang/Object;ILjava/lang/Object;II)V"), (6, u "put"), (0, u "(JJII)Z"), (1, u "find"), (6, u "remove"), (0, u "(I)V"), (1, u "lowest"), (0, u "(J)J")] 5

def k2c0 : Code := { maxStack := 2, maxLocals := 1, code := prog_84_method_1_code, exceptionTable := #[], attributes := #[] }
def k2m0 : Method := { name := "<init>", desc := "()V", sig := { parameters := [], returnType := none }, accessFlags := 0, code := some k2c0 }
def k2c1 : Code := { maxStack := 5, maxLocals := 9, code := prog_84_method_2_code, exceptionTable := #[], attributes := #[] }
def k2m1 : Method := { name := "put", desc := "(JJII)Z", sig := { parameters := [.long, .long, .int, .int], returnType := some .boolean }, accessFlags := 0, code := some k2c1 }
def k2c2 : Code := { maxStack := 3, maxLocals := 4, code := prog_84_method_3_code, exceptionTable := #[], attributes := #[] }
def k2m2 : Method := { name := "find", desc := "(J)I", sig := { parameters := [.long], returnType := some .int }, accessFlags := 0, code := some k2c2 }
def k2c3 : Code := { maxStack := 3, maxLocals := 2, code := prog_84_method_8_code, exceptionTable := #[], attributes := #[] }
def k2m3 : Method := { name := "remove", desc := "(I)V", sig := { parameters := [.int], returnType := none }, accessFlags := 0, code := some k2c3 }
def k2c4 : Code := { maxStack := 2, maxLocals := 3, code := prog_84_method_10_code, exceptionTable := #[], attributes := #[] }
def k2m4 : Method := { name := "lowest", desc := "(J)J", sig := { parameters := [.long], returnType := some .long }, accessFlags := 0, code := some k2c4 }
def k2c5 : Code := { maxStack := 5, maxLocals := 3, code := prog_84_method_11_code, exceptionTable := #[], attributes := #[] }
def k2m5 : Method := { name := "slotOf", desc := "(J)I", sig := { parameters := [.long], returnType := some .int }, accessFlags := 2, code := some k2c5 }
def k2c6 : Code := { maxStack := 5, maxLocals := 5, code := prog_84_method_12_code, exceptionTable := #[], attributes := #[] }
def k2m6 : Method := { name := "insert", desc := "(J)I", sig := { parameters := [.long], returnType := some .int }, accessFlags := 2, code := some k2c6 }
/-- com/example/manana/manana/storage/WaitingTable -/
def k2 : Class := { plain "com/example/manana/manana/storage/WaitingTable" (some 0) with
  accessFlags := 48
  interfaces := #[]
  cf := some (fileOf pool2 8 #[] #[{ accessFlags := 0, nameIndex := 5, descriptorIndex := 6, attributes := #[] }, { accessFlags := 0, nameIndex := 71, descriptorIndex := 72, attributes := #[] }, { accessFlags := 0, nameIndex := 74, descriptorIndex := 37, attributes := #[] }, { accessFlags := 0, nameIndex := 81, descriptorIndex := 82, attributes := #[] }, { accessFlags := 0, nameIndex := 84, descriptorIndex := 85, attributes := #[] }, { accessFlags := 2, nameIndex := 36, descriptorIndex := 37, attributes := #[] }, { accessFlags := 2, nameIndex := 40, descriptorIndex := 37, attributes := #[] }] 48 2 #[] #[{ accessFlags := 2, nameIndex := 11, descriptorIndex := 12, attributes := #[] }, { accessFlags := 2, nameIndex := 15, descriptorIndex := 12, attributes := #[] }, { accessFlags := 2, nameIndex := 18, descriptorIndex := 19, attributes := #[] }, { accessFlags := 2, nameIndex := 22, descriptorIndex := 19, attributes := #[] }, { accessFlags := 2, nameIndex := 25, descriptorIndex := 26, attributes := #[] }, { accessFlags := 2, nameIndex := 33, descriptorIndex := 30, attributes := #[] }, { accessFlags := 2, nameIndex := 29, descriptorIndex := 30, attributes := #[] }, { accessFlags := 2, nameIndex := 46, descriptorIndex := 30, attributes := #[] }])
  fields := #[{ name := "offsets", type := (.array .long), accessFlags := 2, slot := 0, constantValue := 0 }, { name := "dues", type := (.array .long), accessFlags := 2, slot := 1, constantValue := 0 }, { name := "lengths", type := (.array .int), accessFlags := 2, slot := 2, constantValue := 0 }, { name := "queues", type := (.array .int), accessFlags := 2, slot := 3, constantValue := 0 }, { name := "held", type := (.array .boolean), accessFlags := 2, slot := 4, constantValue := 0 }, { name := "first", type := .int, accessFlags := 2, slot := 5, constantValue := 0 }, { name := "end", type := .int, accessFlags := 2, slot := 6, constantValue := 0 }, { name := "size", type := .int, accessFlags := 2, slot := 7, constantValue := 0 }]
  methods := #[k2m0, k2m1, k2m2, k2m3, k2m4, k2m5, k2m6]
  instanceTypes := #[(.array .long), (.array .long), (.array .int), (.array .int), (.array .boolean), .int, .int, .int]
  staticTypes := #[]
  resolved := Array.replicate 91 none
  statics := none }

def pool3 : Array CpInfo := pool [(1, .class_ 2), (0, u "java/lang/Math"), (1, .class_ 6), (1, u "java/lang/Object"), (0, u "<init>"), (0, u "()V"), (89, .class_ 100), (1, u "java/lang/Math$RandomNumberGeneratorHolder"), (20, u "(JJ)J"), (50, u "negativeZeroFloatBits"), (0, u "J"), (2, u "negativeZeroDoubleBits"), (24, u "min"), (43, u "$assertionsDisabled"), (0, u "Z"), (88, u "(II)I"), (2, u "twoToTheDoubleScaleDown"), (0, u "D"), (4, u "twoToTheDoubleScaleUp"), (9, u "E"), (3, u "PI"), (2, u "TAU"), (2, u "DEGREES_TO_RADIANS"), (0, u "RADIANS_TO_DEGREES")] 94

def k3m0 : Method := { name := "<init>", desc := "()V", sig := { parameters := [], returnType := none }, accessFlags := 2, code := none }
def k3c1 : Code := { maxStack := 2, maxLocals := 2, code := jdk_29_method_69_code, exceptionTable := #[], attributes := #[] }
def k3m1 : Method := { name := "min", desc := "(II)I", sig := { parameters := [.int, .int], returnType := some .int }, accessFlags := 9, code := some k3c1 }
def k3c2 : Code := { maxStack := 4, maxLocals := 4, code := jdk_29_method_70_code, exceptionTable := #[], attributes := #[] }
def k3m2 : Method := { name := "min", desc := "(JJ)J", sig := { parameters := [.long, .long], returnType := some .long }, accessFlags := 9, code := some k3c2 }
/-- java/lang/Math -/
def k3 : Class := { plain "java/lang/Math" (some 0) with
  accessFlags := 49
  interfaces := #[]
  cf := some (fileOf pool3 1 #[.nestMembers #[98]] #[{ accessFlags := 2, nameIndex := 7, descriptorIndex := 8, attributes := #[] }, { accessFlags := 9, nameIndex := 201, descriptorIndex := 335, attributes := #[] }, { accessFlags := 9, nameIndex := 201, descriptorIndex := 121, attributes := #[] }] 49 4 #[] #[{ accessFlags := 25, nameIndex := 354, descriptorIndex := 339, attributes := #[] }, { accessFlags := 25, nameIndex := 358, descriptorIndex := 339, attributes := #[] }, { accessFlags := 25, nameIndex := 361, descriptorIndex := 339, attributes := #[] }, { accessFlags := 26, nameIndex := 364, descriptorIndex := 339, attributes := #[] }, { accessFlags := 26, nameIndex := 365, descriptorIndex := 339, attributes := #[] }, { accessFlags := 26, nameIndex := 172, descriptorIndex := 173, attributes := #[] }, { accessFlags := 26, nameIndex := 176, descriptorIndex := 173, attributes := #[] }, { accessFlags := 8, nameIndex := 344, descriptorIndex := 339, attributes := #[] }, { accessFlags := 8, nameIndex := 338, descriptorIndex := 339, attributes := #[] }, { accessFlags := 4120, nameIndex := 245, descriptorIndex := 246, attributes := #[] }])
  fields := #[{ name := "E", type := .double, accessFlags := 25, slot := 0, constantValue := 0 }, { name := "PI", type := .double, accessFlags := 25, slot := 1, constantValue := 0 }, { name := "TAU", type := .double, accessFlags := 25, slot := 2, constantValue := 0 }, { name := "DEGREES_TO_RADIANS", type := .double, accessFlags := 26, slot := 3, constantValue := 0 }, { name := "RADIANS_TO_DEGREES", type := .double, accessFlags := 26, slot := 4, constantValue := 0 }, { name := "negativeZeroFloatBits", type := .long, accessFlags := 26, slot := 5, constantValue := 0 }, { name := "negativeZeroDoubleBits", type := .long, accessFlags := 26, slot := 6, constantValue := 0 }, { name := "twoToTheDoubleScaleUp", type := .double, accessFlags := 8, slot := 7, constantValue := 0 }, { name := "twoToTheDoubleScaleDown", type := .double, accessFlags := 8, slot := 8, constantValue := 0 }, { name := "$assertionsDisabled", type := .boolean, accessFlags := 4120, slot := 9, constantValue := 0 }]
  methods := #[k3m0, k3m1, k3m2]
  instanceTypes := #[]
  staticTypes := #[.double, .double, .double, .double, .double, .long, .long, .double, .double, .boolean]
  resolved := Array.replicate 460 none
  statics := none }

def pool4 : Array CpInfo := pool [(2, .class_ 4), (1, u "java/lang/Object"), (0, u "<init>"), (0, u "()V"), (6, .methodref 14 15), (0, .class_ 16), (0, .nameAndType 17 18), (0, u "java/util/Arrays"), (0, u "rangeCheck"), (0, u "(III)V"), (55, .class_ 76), (1, u "java/util/Arrays$NaturalOrder"), (36, .class_ 115), (1, u "java/util/Arrays$LegacyMergeSort"), (1, u "Z"), (87, .methodref 14 206), (0, .nameAndType 207 208), (0, u "binarySearch0"), (0, u "([JIIJ)I"), (166, .class_ 376), (0, u "java/util/Arrays$ArrayList"), (68, u "$assertionsDisabled"), (269, u "MIN_ARRAY_SORT_GRAN"), (0, u "I"), (2, u "INSERTIONSORT_THRESHOLD"), (74, u "binarySearch"), (180, .class_ 976), (0, u "java/util/Arrays$ArrayItr")] 52

def k4m0 : Method := { name := "<init>", desc := "()V", sig := { parameters := [], returnType := none }, accessFlags := 2, code := none }
def k4c1 : Code := { maxStack := 4, maxLocals := 3, code := jdk_65_method_30_code, exceptionTable := #[], attributes := #[] }
def k4m1 : Method := { name := "rangeCheck", desc := "(III)V", sig := { parameters := [.int, .int, .int], returnType := none }, accessFlags := 8, code := some k4c1 }
def k4c2 : Code := { maxStack := 5, maxLocals := 5, code := jdk_65_method_55_code, exceptionTable := #[], attributes := #[] }
def k4m2 : Method := { name := "binarySearch", desc := "([JIIJ)I", sig := { parameters := [(.array .long), .int, .int, .long], returnType := some .int }, accessFlags := 9, code := some k4c2 }
def k4c3 : Code := { maxStack := 4, maxLocals := 10, code := jdk_65_method_56_code, exceptionTable := #[], attributes := #[] }
def k4m3 : Method := { name := "binarySearch0", desc := "([JIIJ)I", sig := { parameters := [(.array .long), .int, .int, .long], returnType := some .int }, accessFlags := 10, code := some k4c3 }
/-- java/util/Arrays -/
def k4 : Class := { plain "java/util/Arrays" (some 0) with
  accessFlags := 49
  interfaces := #[]
  cf := some (fileOf pool4 14 #[.nestMembers #[975, 375, 113, 74]] #[{ accessFlags := 2, nameIndex := 5, descriptorIndex := 6, attributes := #[] }, { accessFlags := 8, nameIndex := 17, descriptorIndex := 18, attributes := #[] }, { accessFlags := 9, nameIndex := 794, descriptorIndex := 208, attributes := #[] }, { accessFlags := 10, nameIndex := 207, descriptorIndex := 208, attributes := #[] }] 49 2 #[] #[{ accessFlags := 26, nameIndex := 715, descriptorIndex := 716, attributes := #[] }, { accessFlags := 26, nameIndex := 719, descriptorIndex := 716, attributes := #[] }, { accessFlags := 4120, nameIndex := 445, descriptorIndex := 117, attributes := #[] }])
  fields := #[{ name := "MIN_ARRAY_SORT_GRAN", type := .int, accessFlags := 26, slot := 0, constantValue := 0 }, { name := "INSERTIONSORT_THRESHOLD", type := .int, accessFlags := 26, slot := 1, constantValue := 0 }, { name := "$assertionsDisabled", type := .boolean, accessFlags := 4120, slot := 2, constantValue := 0 }]
  methods := #[k4m0, k4m1, k4m2, k4m3]
  instanceTypes := #[]
  staticTypes := #[.int, .int, .boolean]
  resolved := Array.replicate 1029 none
  statics := none }

def pool5 : Array CpInfo := pool [(2, .class_ 4), (1, u "java/lang/Object"), (0, u "<init>"), (0, u "()V"), (1, .class_ 10), (1, u "java/lang/System"), (0, u "allowSecurityManager"), (0, u "I"), (16, u "cons"), (0, u "Ljava/io/Console;"), (77, .class_ 110), (1, u "java/lang/System$CallersHolder"), (43, u "initialErrStream"), (0, u "Ljava/io/PrintStream;"), (19, u "security"), (0, u "Ljava/lang/SecurityManager;"), (31, .class_ 209), (0, u "java/lang/System$1"), (7, u "props"), (0, u "Ljava/util/Properties;"), (2, u "lineSeparator"), (0, u "Ljava/lang/String;"), (96, .class_ 321), (1, u "java/lang/System$LoggerFinder"), (5, .class_ 328), (0, u "java/lang/System$Logger"), (67, u "err"), (2, u "out"), (91, u "notSupportedJnuEncoding"), (15, u "in"), (17, u "initialIn"), (0, u "Ljava/io/InputStream;"), (35, u "bootLayer"), (0, u "Ljava/lang/ModuleLayer;"), (99, .class_ 664), (0, u "java/lang/System$2"), (9, u "NEVER"), (2, u "MAYBE"), (49, u "arraycopy"), (0, u "(Ljava/lang/Object;ILjava/lang/Object;II)V"), (72, .class_ 802), (0, u "java/lang/System$Logger$Level")] 31

def k5m0 : Method := { name := "<init>", desc := "()V", sig := { parameters := [], returnType := none }, accessFlags := 2, code := none }
def k5m1 : Method := { name := "arraycopy", desc := "(Ljava/lang/Object;ILjava/lang/Object;II)V", sig := { parameters := [(.object "java/lang/Object"), .int, (.object "java/lang/Object"), .int, .int], returnType := none }, accessFlags := 265, code := none }
/-- java/lang/System -/
def k5 : Class := { plain "java/lang/System" (some 0) with
  accessFlags := 49
  interfaces := #[]
  cf := some (fileOf pool5 8 #[.nestMembers #[319, 327, 801, 108, 663, 208]] #[{ accessFlags := 2, nameIndex := 5, descriptorIndex := 6, attributes := #[] }, { accessFlags := 265, nameIndex := 727, descriptorIndex := 728, attributes := #[] }] 49 2 #[] #[{ accessFlags := 25, nameIndex := 507, descriptorIndex := 526, attributes := #[] }, { accessFlags := 25, nameIndex := 399, descriptorIndex := 155, attributes := #[] }, { accessFlags := 25, nameIndex := 396, descriptorIndex := 155, attributes := #[] }, { accessFlags := 10, nameIndex := 525, descriptorIndex := 526, attributes := #[] }, { accessFlags := 26, nameIndex := 674, descriptorIndex := 12, attributes := #[] }, { accessFlags := 26, nameIndex := 677, descriptorIndex := 12, attributes := #[] }, { accessFlags := 10, nameIndex := 11, descriptorIndex := 12, attributes := #[] }, { accessFlags := 74, nameIndex := 175, descriptorIndex := 176, attributes := #[] }, { accessFlags := 10, nameIndex := 491, descriptorIndex := 222, attributes := #[] }, { accessFlags := 74, nameIndex := 29, descriptorIndex := 30, attributes := #[] }, { accessFlags := 74, nameIndex := 154, descriptorIndex := 155, attributes := #[] }, { accessFlags := 10, nameIndex := 217, descriptorIndex := 218, attributes := #[] }, { accessFlags := 10, nameIndex := 221, descriptorIndex := 222, attributes := #[] }, { accessFlags := 8, nameIndex := 562, descriptorIndex := 563, attributes := #[] }])
  fields := #[{ name := "in", type := (.object "java/io/InputStream"), accessFlags := 25, slot := 0, constantValue := 0 }, { name := "out", type := (.object "java/io/PrintStream"), accessFlags := 25, slot := 1, constantValue := 0 }, { name := "err", type := (.object "java/io/PrintStream"), accessFlags := 25, slot := 2, constantValue := 0 }, { name := "initialIn", type := (.object "java/io/InputStream"), accessFlags := 10, slot := 3, constantValue := 0 }, { name := "NEVER", type := .int, accessFlags := 26, slot := 4, constantValue := 0 }, { name := "MAYBE", type := .int, accessFlags := 26, slot := 5, constantValue := 0 }, { name := "allowSecurityManager", type := .int, accessFlags := 10, slot := 6, constantValue := 0 }, { name := "security", type := (.object "java/lang/SecurityManager"), accessFlags := 74, slot := 7, constantValue := 0 }, { name := "notSupportedJnuEncoding", type := (.object "java/lang/String"), accessFlags := 10, slot := 8, constantValue := 0 }, { name := "cons", type := (.object "java/io/Console"), accessFlags := 74, slot := 9, constantValue := 0 }, { name := "initialErrStream", type := (.object "java/io/PrintStream"), accessFlags := 74, slot := 10, constantValue := 0 }, { name := "props", type := (.object "java/util/Properties"), accessFlags := 10, slot := 11, constantValue := 0 }, { name := "lineSeparator", type := (.object "java/lang/String"), accessFlags := 10, slot := 12, constantValue := 0 }, { name := "bootLayer", type := (.object "java/lang/ModuleLayer"), accessFlags := 8, slot := 13, constantValue := 0 }]
  methods := #[k5m0, k5m1]
  instanceTypes := #[]
  staticTypes := #[(.object "java/io/InputStream"), (.object "java/io/PrintStream"), (.object "java/io/PrintStream"), (.object "java/io/InputStream"), .int, .int, .int, (.object "java/lang/SecurityManager"), (.object "java/lang/String"), (.object "java/io/Console"), (.object "java/io/PrintStream"), (.object "java/util/Properties"), (.object "java/lang/String"), (.object "java/lang/ModuleLayer")]
  resolved := Array.replicate 834 none
  statics := none }

def pool6 : Array CpInfo := pool [(1, u "java/lang/Cloneable"), (0, .class_ 1), (0, u "java/lang/Object"), (0, .class_ 3)] 3

/-- java/lang/Cloneable -/
def k6 : Class := { plain "java/lang/Cloneable" (some 0) with
  accessFlags := 1537
  interfaces := #[]
  cf := some (fileOf pool6 2 #[] #[] 1537 4 #[] #[])
  fields := #[]
  methods := #[]
  instanceTypes := #[]
  staticTypes := #[]
  resolved := Array.replicate 8 none
  statics := none }

def pool7 : Array CpInfo := pool [(1, u "java/io/Serializable"), (0, .class_ 1), (0, u "java/lang/Object"), (0, .class_ 3)] 3

/-- java/io/Serializable -/
def k7 : Class := { plain "java/io/Serializable" (some 0) with
  accessFlags := 1537
  interfaces := #[]
  cf := some (fileOf pool7 2 #[] #[] 1537 4 #[] #[])
  fields := #[]
  methods := #[]
  instanceTypes := #[]
  staticTypes := #[]
  resolved := Array.replicate 8 none
  statics := none }

/-- the primitive boolean -/
def k8 : Class := { plain "boolean" none with kind := .primitive 'Z', accessFlags := 0x411 }
/-- [Z -/
def k9 : Class := { plain "[Z" (some 0) with kind := .array 8 .boolean, interfaces := #[6, 7], accessFlags := 1041 }

/-- the primitive byte -/
def k10 : Class := { plain "byte" none with kind := .primitive 'B', accessFlags := 0x411 }
/-- [B -/
def k11 : Class := { plain "[B" (some 0) with kind := .array 10 .byte, interfaces := #[6, 7], accessFlags := 1041 }

/-- the primitive int -/
def k12 : Class := { plain "int" none with kind := .primitive 'I', accessFlags := 0x411 }
/-- [I -/
def k13 : Class := { plain "[I" (some 0) with kind := .array 12 .int, interfaces := #[6, 7], accessFlags := 1041 }

/-- the primitive long -/
def k14 : Class := { plain "long" none with kind := .primitive 'J', accessFlags := 0x411 }
/-- [J -/
def k15 : Class := { plain "[J" (some 0) with kind := .array 14 .long, interfaces := #[6, 7], accessFlags := 1041 }

def heap : Heap := #[]
def classes : Array Class := #[k0, k1, k2, k3, k4, k5, k6, k7, k8, k9, k10, k11, k12, k13, k14, k15]
def interned : List (Array UInt16 × Addr) := []
def slotsUsed : Nat := 0
def theMethod : MethodId := ⟨1, 1⟩
def args0 : Array Value := #[.long 5, .long 7, .long 6, .long 1, .int 15]
def aboutOver (below : List Frame) : State where
  vm := { classes := classes, interned := interned.toArray }
  heap := heap
  slotsUsed := slotsUsed
  threads := #[{ frames := .invoking theMethod args0 :: below }]
def below0 : List Frame := [.native { method := ⟨0, 0⟩, args := #[] }]
def about1 : State := aboutOver below0
def p0 : Program := .bare "" "" ""
def e0 : Env := launch0.env 0 0 0
theorem w_frames : about1.frames = Frame.invoking theMethod args0 :: below0 := rfl
set_option maxRecDepth 65536 in
theorem w_args : argsFit about1.vm theMethod args0 = true := by decide +kernel
set_option maxRecDepth 65536 in
theorem w_heap : heapFits about1 = true := by decide +kernel
set_option maxRecDepth 65536 in
theorem w_runnable : about1.curStatus? = some .runnable := by decide +kernel
set_option maxRecDepth 65536 in
theorem w_alone : about1.alone = true := by decide +kernel
set_option maxRecDepth 65536 in
theorem w_named : about1.methodNamed? x = some theMethod := by decide +kernel
set_option maxRecDepth 65536 in
theorem w_hears : about1.hears theMethod below0 = true := by decide +kernel
set_option maxRecDepth 65536 in
theorem w_ripe : about1.ripe theMethod args0 below0 = true := by decide +kernel
theorem w_running : about1.status = .running := rfl
set_option maxRecDepth 65536 in
theorem w_room : about1.hasRoom e0.platform room_1 = true :=
  launch0.hasRoom_least _ room_1 (by decide +kernel) (by decide +kernel) (by decide +kernel) (by decide +kernel) (by decide +kernel) (by decide +kernel)
theorem allAtoms_all (ts : List Jvm.Cond) (a : Array Jvm.Value) (st : Jvm.State) : (allAtoms ts).before a st = ts.all (fun c => c.before a st) := by
  induction ts with
  | nil => rfl
  | cons c t ih =>
    show (Jvm.Cond.and c (allAtoms t)).before a st = _
    rw [Jvm.Cond.before_and, ih, List.all_cons]
def words1 : List Jvm.Cond := Jvm.Cond.code x code maxLocals ret :: tables_1
/-- a 'code' word, met by the world's own term for the bytes: nothing is compared byte by byte -/
theorem code_word {y : MethodName} {bytes : ByteArray} {mx : Nat} {rt : Option FieldType} {a : Array Value} {s : State} {m : MethodId} {meth : Method} {c : Code} (h1 : s.methodNamed? y = some m) (h2 : s.vm.method? m = some meth) (h3 : meth.code = some c) (h4 : c.code = bytes)
    (h5 : (c.maxLocals == mx && c.exceptionTable.isEmpty && decide (c.maxStack ≤ mostOperands) && decide (meth.sig.returnType = rt) && !meth.locks && decide (parseMethodDescriptor y.desc = some meth.sig)) = true) : (Jvm.Cond.code y bytes mx rt).before a s = true := by
  simp only [Bool.and_eq_true, beq_iff_eq, Bool.not_eq_true', decide_eq_true_eq] at h5
  obtain ⟨⟨⟨⟨⟨g1, g2⟩, g3⟩, g4⟩, g5⟩, g6⟩ := h5
  simp [Cond.before, Cond.holds, Cond.value, h1, h2, h3, h4, g1, g2, g3, g4, g5, g6]
def isCode : Jvm.Cond → Bool
  | .code _ _ _ _ => true
  | _ => false
theorem all_split {L : List Jvm.Cond} {P : Jvm.Cond → Bool} (h1 : L.all (fun c => isCode c || P c) = true) (h2 : ∀ c ∈ L.filter isCode, P c = true) : L.all P = true := by
  refine List.all_eq_true.mpr fun c hc => ?_
  have h := List.all_eq_true.mp h1 c hc
  rcases Bool.eq_false_or_eq_true (isCode c) with hi | hi
  · exact h2 c (List.mem_filter.mpr ⟨hc, hi⟩)
  · simpa [hi] using h
set_option maxRecDepth 65536 in
theorem w_c0 : (Jvm.Cond.code x code maxLocals ret).before args0 about1 = true := code_word (m := ⟨1, 1⟩) (meth := k1m1) (c := k1c1) (by decide +kernel) rfl rfl rfl (by decide +kernel)
set_option maxRecDepth 65536 in
theorem w_c1 : (Jvm.Cond.code ({ cls := "com/example/manana/manana/storage/WaitingTable", name := "<init>", desc := "()V" } : Jvm.MethodName) prog_84_method_1_code (1 : Nat) (Option.none : Option Jvm.ClassFile.FieldType)).before args0 about1 = true := code_word (m := ⟨2, 0⟩) (meth := k2m0) (c := k2c0) (by decide +kernel) rfl rfl rfl (by decide +kernel)
set_option maxRecDepth 65536 in
theorem w_c2 : (Jvm.Cond.code ({ cls := "java/lang/Object", name := "<init>", desc := "()V" } : Jvm.MethodName) object_method_1_code (1 : Nat) (Option.none : Option Jvm.ClassFile.FieldType)).before args0 about1 = true := code_word (m := ⟨0, 0⟩) (meth := k0m0) (c := k0c0) (by decide +kernel) rfl rfl rfl (by decide +kernel)
set_option maxRecDepth 65536 in
theorem w_c3 : (Jvm.Cond.code ({ cls := "com/example/manana/manana/storage/WaitingTable", name := "lowest", desc := "(J)J" } : Jvm.MethodName) prog_84_method_10_code (3 : Nat) (Option.some Jvm.ClassFile.FieldType.long)).before args0 about1 = true := code_word (m := ⟨2, 4⟩) (meth := k2m4) (c := k2c4) (by decide +kernel) rfl rfl rfl (by decide +kernel)
set_option maxRecDepth 65536 in
theorem w_c4 : (Jvm.Cond.code ({ cls := "com/example/manana/manana/storage/WaitingTable", name := "put", desc := "(JJII)Z" } : Jvm.MethodName) prog_84_method_2_code (9 : Nat) (Option.some Jvm.ClassFile.FieldType.boolean)).before args0 about1 = true := code_word (m := ⟨2, 1⟩) (meth := k2m1) (c := k2c1) (by decide +kernel) rfl rfl rfl (by decide +kernel)
set_option maxRecDepth 65536 in
theorem w_c5 : (Jvm.Cond.code ({ cls := "java/lang/Math", name := "min", desc := "(II)I" } : Jvm.MethodName) jdk_29_method_69_code (2 : Nat) (Option.some Jvm.ClassFile.FieldType.int)).before args0 about1 = true := code_word (m := ⟨3, 1⟩) (meth := k3m1) (c := k3c1) (by decide +kernel) rfl rfl rfl (by decide +kernel)
set_option maxRecDepth 65536 in
theorem w_c6 : (Jvm.Cond.code ({ cls := "com/example/manana/manana/storage/WaitingTable", name := "slotOf", desc := "(J)I" } : Jvm.MethodName) prog_84_method_11_code (3 : Nat) (Option.some Jvm.ClassFile.FieldType.int)).before args0 about1 = true := code_word (m := ⟨2, 5⟩) (meth := k2m5) (c := k2c5) (by decide +kernel) rfl rfl rfl (by decide +kernel)
set_option maxRecDepth 65536 in
theorem w_c7 : (Jvm.Cond.code ({ cls := "java/util/Arrays", name := "binarySearch", desc := "([JIIJ)I" } : Jvm.MethodName) jdk_65_method_55_code (5 : Nat) (Option.some Jvm.ClassFile.FieldType.int)).before args0 about1 = true := code_word (m := ⟨4, 2⟩) (meth := k4m2) (c := k4c2) (by decide +kernel) rfl rfl rfl (by decide +kernel)
set_option maxRecDepth 65536 in
theorem w_c8 : (Jvm.Cond.code ({ cls := "java/util/Arrays", name := "rangeCheck", desc := "(III)V" } : Jvm.MethodName) jdk_65_method_30_code (3 : Nat) (Option.none : Option Jvm.ClassFile.FieldType)).before args0 about1 = true := code_word (m := ⟨4, 1⟩) (meth := k4m1) (c := k4c1) (by decide +kernel) rfl rfl rfl (by decide +kernel)
set_option maxRecDepth 65536 in
theorem w_c9 : (Jvm.Cond.code ({ cls := "java/util/Arrays", name := "binarySearch0", desc := "([JIIJ)I" } : Jvm.MethodName) jdk_65_method_56_code (10 : Nat) (Option.some Jvm.ClassFile.FieldType.int)).before args0 about1 = true := code_word (m := ⟨4, 3⟩) (meth := k4m3) (c := k4c3) (by decide +kernel) rfl rfl rfl (by decide +kernel)
set_option maxRecDepth 65536 in
theorem w_c10 : (Jvm.Cond.code ({ cls := "com/example/manana/manana/storage/WaitingTable", name := "insert", desc := "(J)I" } : Jvm.MethodName) prog_84_method_12_code (5 : Nat) (Option.some Jvm.ClassFile.FieldType.int)).before args0 about1 = true := code_word (m := ⟨2, 6⟩) (meth := k2m6) (c := k2c6) (by decide +kernel) rfl rfl rfl (by decide +kernel)
set_option maxRecDepth 65536 in
theorem w_c11 : (Jvm.Cond.code ({ cls := "com/example/manana/manana/storage/WaitingTableLowestPinLaw", name := "member", desc := "(JJJJZZZZZJ)Z" } : Jvm.MethodName) method_4_code (17 : Nat) (Option.some Jvm.ClassFile.FieldType.boolean)).before args0 about1 = true := code_word (m := ⟨1, 3⟩) (meth := k1m3) (c := k1c3) (by decide +kernel) rfl rfl rfl (by decide +kernel)
set_option maxRecDepth 65536 in
theorem w_c12 : (Jvm.Cond.code ({ cls := "java/lang/Math", name := "min", desc := "(JJ)J" } : Jvm.MethodName) jdk_29_method_70_code (4 : Nat) (Option.some Jvm.ClassFile.FieldType.long)).before args0 about1 = true := code_word (m := ⟨3, 2⟩) (meth := k3m2) (c := k3c2) (by decide +kernel) rfl rfl rfl (by decide +kernel)
set_option maxRecDepth 65536 in
theorem w_c13 : (Jvm.Cond.code ({ cls := "com/example/manana/manana/storage/WaitingTableLowestPinLaw", name := "drop", desc := "(Lcom/example/manana/manana/storage/WaitingTable;J)V" } : Jvm.MethodName) method_3_code (4 : Nat) (Option.none : Option Jvm.ClassFile.FieldType)).before args0 about1 = true := code_word (m := ⟨1, 2⟩) (meth := k1m2) (c := k1c2) (by decide +kernel) rfl rfl rfl (by decide +kernel)
set_option maxRecDepth 65536 in
theorem w_c14 : (Jvm.Cond.code ({ cls := "com/example/manana/manana/storage/WaitingTable", name := "find", desc := "(J)I" } : Jvm.MethodName) prog_84_method_3_code (4 : Nat) (Option.some Jvm.ClassFile.FieldType.int)).before args0 about1 = true := code_word (m := ⟨2, 2⟩) (meth := k2m2) (c := k2c2) (by decide +kernel) rfl rfl rfl (by decide +kernel)
set_option maxRecDepth 65536 in
theorem w_c15 : (Jvm.Cond.code ({ cls := "com/example/manana/manana/storage/WaitingTable", name := "remove", desc := "(I)V" } : Jvm.MethodName) prog_84_method_8_code (2 : Nat) (Option.none : Option Jvm.ClassFile.FieldType)).before args0 about1 = true := code_word (m := ⟨2, 3⟩) (meth := k2m3) (c := k2c3) (by decide +kernel) rfl rfl rfl (by decide +kernel)
def codes1 : List Jvm.Cond := [Jvm.Cond.code x code maxLocals ret, Jvm.Cond.code ({ cls := "com/example/manana/manana/storage/WaitingTable", name := "<init>", desc := "()V" } : Jvm.MethodName) prog_84_method_1_code (1 : Nat) (Option.none : Option Jvm.ClassFile.FieldType), Jvm.Cond.code ({ cls := "java/lang/Object", name := "<init>", desc := "()V" } : Jvm.MethodName) object_method_1_code (1 : Nat) (Option.none : Option Jvm.ClassFile.FieldType), Jvm.Cond.code ({ cls := "com/example/manana/manana/storage/WaitingTable", name := "lowest", desc := "(J)J" } : Jvm.MethodName) prog_84_method_10_code (3 : Nat) (Option.some Jvm.ClassFile.FieldType.long), Jvm.Cond.code ({ cls := "com/example/manana/manana/storage/WaitingTable", name := "put", desc := "(JJII)Z" } : Jvm.MethodName) prog_84_method_2_code (9 : Nat) (Option.some Jvm.ClassFile.FieldType.boolean), Jvm.Cond.code ({ cls := "java/lang/Math", name := "min", desc := "(II)I" } : Jvm.MethodName) jdk_29_method_69_code (2 : Nat) (Option.some Jvm.ClassFile.FieldType.int), Jvm.Cond.code ({ cls := "com/example/manana/manana/storage/WaitingTable", name := "slotOf", desc := "(J)I" } : Jvm.MethodName) prog_84_method_11_code (3 : Nat) (Option.some Jvm.ClassFile.FieldType.int), Jvm.Cond.code ({ cls := "java/util/Arrays", name := "binarySearch", desc := "([JIIJ)I" } : Jvm.MethodName) jdk_65_method_55_code (5 : Nat) (Option.some Jvm.ClassFile.FieldType.int), Jvm.Cond.code ({ cls := "java/util/Arrays", name := "rangeCheck", desc := "(III)V" } : Jvm.MethodName) jdk_65_method_30_code (3 : Nat) (Option.none : Option Jvm.ClassFile.FieldType), Jvm.Cond.code ({ cls := "java/util/Arrays", name := "binarySearch0", desc := "([JIIJ)I" } : Jvm.MethodName) jdk_65_method_56_code (10 : Nat) (Option.some Jvm.ClassFile.FieldType.int), Jvm.Cond.code ({ cls := "com/example/manana/manana/storage/WaitingTable", name := "insert", desc := "(J)I" } : Jvm.MethodName) prog_84_method_12_code (5 : Nat) (Option.some Jvm.ClassFile.FieldType.int), Jvm.Cond.code ({ cls := "com/example/manana/manana/storage/WaitingTableLowestPinLaw", name := "member", desc := "(JJJJZZZZZJ)Z" } : Jvm.MethodName) method_4_code (17 : Nat) (Option.some Jvm.ClassFile.FieldType.boolean), Jvm.Cond.code ({ cls := "java/lang/Math", name := "min", desc := "(JJ)J" } : Jvm.MethodName) jdk_29_method_70_code (4 : Nat) (Option.some Jvm.ClassFile.FieldType.long), Jvm.Cond.code ({ cls := "com/example/manana/manana/storage/WaitingTableLowestPinLaw", name := "drop", desc := "(Lcom/example/manana/manana/storage/WaitingTable;J)V" } : Jvm.MethodName) method_3_code (4 : Nat) (Option.none : Option Jvm.ClassFile.FieldType), Jvm.Cond.code ({ cls := "com/example/manana/manana/storage/WaitingTable", name := "find", desc := "(J)I" } : Jvm.MethodName) prog_84_method_3_code (4 : Nat) (Option.some Jvm.ClassFile.FieldType.int), Jvm.Cond.code ({ cls := "com/example/manana/manana/storage/WaitingTable", name := "remove", desc := "(I)V" } : Jvm.MethodName) prog_84_method_8_code (2 : Nat) (Option.none : Option Jvm.ClassFile.FieldType)]
set_option maxRecDepth 65536 in
theorem codes_eq : words1.filter isCode = codes1 := rfl
theorem w_codes : ∀ c ∈ words1.filter isCode, c.before args0 about1 = true := by
  rw [codes_eq]
  intro c hc
  simp only [codes1, List.mem_cons, List.not_mem_nil, or_false] at hc
  rcases hc with rfl | rfl | rfl | rfl | rfl | rfl | rfl | rfl | rfl | rfl | rfl | rfl | rfl | rfl | rfl | rfl
  · exact w_c0
  · exact w_c1
  · exact w_c2
  · exact w_c3
  · exact w_c4
  · exact w_c5
  · exact w_c6
  · exact w_c7
  · exact w_c8
  · exact w_c9
  · exact w_c10
  · exact w_c11
  · exact w_c12
  · exact w_c13
  · exact w_c14
  · exact w_c15
set_option maxRecDepth 65536 in
theorem w_t1 : (words1.take 24).all (fun c => isCode c || c.before args0 about1) = true := by decide +kernel
set_option maxRecDepth 65536 in
theorem w_t2 : ((words1.drop 24).take 24).all (fun c => isCode c || c.before args0 about1) = true := by decide +kernel
set_option maxRecDepth 65536 in
theorem w_t3 : (((words1.drop 24).drop 24).take 24).all (fun c => isCode c || c.before args0 about1) = true := by decide +kernel
set_option maxRecDepth 65536 in
theorem w_t4 : (((words1.drop 24).drop 24).drop 24).all (fun c => isCode c || c.before args0 about1) = true := by decide +kernel
theorem w_tables : (allAtoms (Jvm.Cond.code x code maxLocals ret :: tables_1)).before args0 about1 = true := by
  rw [allAtoms_all]
  show words1.all (fun c => c.before args0 about1) = true
  refine all_split ?_ w_codes
  rw [← List.take_append_drop 24 words1, List.all_append, w_t1, ← List.take_append_drop 24 (words1.drop 24), List.all_append, w_t2, ← List.take_append_drop 24 ((words1.drop 24).drop 24), List.all_append, w_t3, w_t4]
  rfl
set_option maxRecDepth 65536 in
theorem w_case : (Jvm.Cond.and given_1 narrow_1).before args0 about1 = true := by decide +kernel
theorem w_applies : (headSpec (Jvm.Cond.code x code maxLocals ret :: tables_1) room_1).applies x e0.platform about1 = true :=
  (Spec.applies_iff w_frames).mpr ⟨w_running, w_runnable, w_alone, w_named, w_hears, w_ripe, w_room, w_tables⟩
theorem atStart : AtStart classFile x code maxLocals ret World_1 tables_1 room_1 Calls_1 rest_1 Pre_1 launch0 p0 e0 about1 theMethod args0 below0 :=
  ⟨lists_1, trivial, launch0.admits_env _ _ _, launch0.least_env, fairChoices_fair.cas, fairChoices_fair.clock, w_frames, w_args, w_heap, w_applies, trivial, trivial, w_case⟩
end start1
theorem witness_1 : WitnessClaimed_1 := ⟨start1.p0, start1.e0, start1.about1, start1.theMethod, start1.args0, start1.below0, start1.atStart⟩
end Jvm.Pilot.@@N@@
