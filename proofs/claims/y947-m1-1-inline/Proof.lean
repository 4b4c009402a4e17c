import JvmDerived
import JvmDerived.Pilot.@@N@@Statement
import JvmDerived.Pilot.@@N@@Code
set_option linter.unusedVariables false
set_option linter.unusedSimpArgs false
namespace Jvm.OwnKit
open Sem ClassFile Op Lib Jvm.Stand Jvm.Free Jvm.LawKit Jvm.RoadKit
/-- from S the run comes to a state of which P holds -/
def Go (tb : Tables) (e : Env) (below : List Frame) (P : State → Prop) (S : State) : Prop := ∃ t, Steps tb e below S t ∧ P t
theorem Go.st {tb : Tables} {e : Env} {below : List Frame} {P : State → Prop} {S S' : State} (h : ∀ t, Steps tb e below S' t → Steps tb e below S t) (g : Go tb e below P S') : Go tb e below P S := by
  obtain ⟨t, h1, h2⟩ := g
  exact ⟨t, h t h1, h2⟩
theorem Go.cast {tb : Tables} {e : Env} {below : List Frame} {P : State → Prop} {T : State} {g g' : JFrame} (q : g = g') (k : Go tb e below P (T.setTop g')) : Go tb e below P (T.setTop g) := q ▸ k
/-- the invocation of s has returned, and Q says what -/
def Fine (s : State) (below : List Frame) (Q : Option Value → Heap → List Loc → Prop) (kc ks : Nat) (t : State) : Prop := ∃ o, t.status = .running ∧ Ended t below o ∧ ∃ v L, o = .returned v ∧ Q v t.heap L ∧ FrameEnd s o t L kc ks
/-- a method's contract, over the tables of the start Z: called with 'as' at the heap h0 it returns, and Q says what -/
def Con (l : Launch) (Z : State) (y : MethodName) (bytes : ByteArray) (maxL : Nat) (ret : Option FieldType) (ws : List Jvm.Cond) (rm : Room) (as : Array Value) (h0 : Heap) (Q : Option Value → Heap → List Loc → Prop) : Prop :=
  MetFree l y (head1 (Jvm.Cond.code y bytes maxL ret :: ws) rm) (fun a U => a = as ∧ Z.Warmed39 U.vm ∧ U.heap = h0) (fun _ _ _ _ _ => True) (fun _ U o U' => ∃ v L, o = .returned v ∧ Q v U'.heap L ∧ FrameEnd U o U' L rm.cells rm.slots)
theorem Con.of {l : Launch} {Z : State} {y : MethodName} {bytes : ByteArray} {maxL : Nat} {ret : Option FieldType} {ws : List Jvm.Cond} {rm : Room} {as : Array Value} {h0 : Heap} {Q : Option Value → Heap → List Loc → Prop} (hpl : plainFor y = true)
    (body : ∀ (p : Program) (e : Env) (s : State) (m : MethodId) (below : List Frame) (meth : Method) (c : Code) (s₁ : State), Z.Warmed39 s.vm → s₁.heap = h0 → Stand p l e rm s m as below meth c s₁ [] 0 0 → p.tables.exec = Jvm.exec → c.code = bytes → c.maxLocals = maxL → s.vm.findClass y.cls = some m.cls → meth.name = y.name → meth.sig.returnType = ret → meth.locks = false →
      Go p.tables e below (Fine s below Q rm.cells rm.slots) (s₁.setTop (entryFrame m as maxL))) : Con l Z y bytes maxL ret ws rm as h0 Q := by
  refine MetFree.of_bodySF hpl hisR ?_
  intro p e s m args below meth c s₁ Bd hml hP hK
  obtain ⟨rfl, hZ, hh⟩ := hP
  have e0 : s₁.heap = h0 := by rw [← hh, Bd.state]; rfl
  obtain ⟨t, h1, o, h2, h3, h4⟩ := body p e s m below meth c s₁ hZ e0 (Stand.of_body Bd) Bd.exec Bd.bytes hml (findClass_of_methodNamed Bd.named) (name_of_methodNamed Bd.named Bd.method).1 Bd.returns Bd.notSynchronized
  exact ⟨t, o, h1, h2, h3, h4⟩
theorem Con.of2 {l : Launch} {Z : State} {y : MethodName} {bytes : ByteArray} {maxL : Nat} {ret : Option FieldType} {ws : List Jvm.Cond} {rm : Room} {as : Array Value} {h0 : Heap} {Q : Option Value → Heap → List Loc → Prop} (hpl : plainFor y = true)
    (body : ∀ (p : Program) (e : Env) (s : State) (m : MethodId) (below : List Frame) (meth : Method) (c : Code) (s₁ : State), Z.Warmed39 s.vm → s₁.heap = h0 → Stand p l e rm s m as below meth c s₁ [] 0 0 → p.tables.exec = Jvm.exec → c.code = bytes → c.maxLocals = maxL → s.vm.findClass y.cls = some m.cls → meth.name = y.name → meth.sig.returnType = ret → meth.locks = false →
      ∀ PP, PP = Fine s below Q rm.cells rm.slots → Go p.tables e below PP (s₁.setTop (entryFrame m as maxL))) : Con l Z y bytes maxL ret ws rm as h0 Q :=
  Con.of hpl fun p e s m below meth c s₁ a1 a2 a3 a4 a5 a6 a7 a8 a9 a10 => body p e s m below meth c s₁ a1 a2 a3 a4 a5 a6 a7 a8 a9 a10 _ rfl
def bi (P : Prop) [Decidable P] : Int32 := if P then 1 else 0
theorem bi_t {P : Prop} [Decidable P] (h : P) : bi P = 1 := if_pos h
theorem bi_f {P : Prop} [Decidable P] (h : ¬ P) : bi P = 0 := if_neg h
theorem eqI_v {args : Array Value} {first s : State} {o : Option Outcome} {idx : List Nat} {t : Term} {k : Int32} (h : (Cond.eq t (.int k)).value args first o s idx = some true) : t.eval args first o idx s = some (.int k) := by
  obtain ⟨x, y, ev, ey, -, hk⟩ := cmp_v (Or.inl h)
  obtain rfl : Value.int k = y := Option.some.inj ey
  obtain ⟨z, rfl⟩ := hk
  have q : (Cond.eq t (.int k)).value args first o s idx = some (decide (z = k)) := by simp [Cond.value, ev, ey]
  obtain rfl : z = k := gotT q h
  exact ev
section
variable {p : Program} {l : Launch} {e : Env} {R : Room} {s : State} {m : MethodId} {args : Array Value} {below : List Frame} {meth : Method} {c : Code} {T : State} {locs : List Loc} {cells slots : Nat} {Z : State} {a0 : Array Value} {h : Heap}
theorem fin {Q : Option Value → Heap → List Loc → Prop} {kc ks : Nat} {v : Option Value} {S : State} (X : Stand p l e R s m args below meth c T locs cells slots) (hv : meth.sig.returnType = none → v = none) (hlk : meth.locks = false) (hq : Q v T.heap locs) (hc : cells ≤ kc) (hs : slots ≤ ks)
    (st : ∀ fs, (∀ (f : JFrame) (acts : List Action), f.method = m → f.locked = none → f.entered = [] → (doReturn e (T.setTop f) acts v).1 = T.setFrames fs) → Steps p.tables e below S (T.setFrames fs)) : Go p.tables e below (Fine s below Q kc ks) S := by
  obtain ⟨fs, hr, hrun, hended, hW, hsame⟩ := X.leave (v := v) hv hlk
  exact ⟨_, st fs hr, _, hrun, hended, v, locs, rfl, hq, ⟨_, rfl⟩, hW, hsame.mono hc hs⟩
/-- return of an int, a long, a reference (no narrowing) -/
theorem endW {Q : Option Value → Heap → List Loc → Prop} {kc ks : Nat} (X : Stand p l e R s m args below meth c T locs cells slots) (hx : p.tables.exec = Jvm.exec) (hlk : meth.locks = false) {pc : Nat} {Ls : Array Slot} {w : Value} {t : FieldType} {i : Instr} {rest : List Value} (hret : meth.sig.returnType = some t) (hn : narrow t w = w)
    (hi : (i = .ireturn ∧ (t = .int ∨ t = .boolean ∨ t = .byte ∨ t = .char ∨ t = .short) ∧ ∃ z, w = .int z) ∨ (i = .lreturn ∧ t = .long ∧ ∃ z, w = .long z) ∨ (i = .dreturn ∧ t = .double ∧ ∃ z, w = .double z) ∨ (i = .freturn ∧ t = .float ∧ ∃ z, w = .float z) ∨ (i = .areturn ∧ t.isReference = true ∧ w.isRef = true))
    (hd : decode c.code pc = .ok (i, 1)) (hq : Q (some w) T.heap locs) (hc : cells ≤ kc) (hs : slots ≤ ks) : Go p.tables e below (Fine s below Q kc ks) (T.setTop (mkF m pc Ls (w :: rest))) :=
  fin X (fun h => by rw [hret] at h; cases h) hlk hq hc hs fun fs hr => retOut X hx hret hn hi hd hr
theorem endI {Q : Option Value → Heap → List Loc → Prop} {kc ks : Nat} (X : Stand p l e R s m args below meth c T locs cells slots) (hx : p.tables.exec = Jvm.exec) (hlk : meth.locks = false) {pc : Nat} {Ls : Array Slot} {z : Int32} {rest : List Value} (hret : meth.sig.returnType = some .int)
    (hd : decode c.code pc = .ok (.ireturn, 1)) (hq : Q (some (.int z)) T.heap locs) (hc : cells ≤ kc) (hs : slots ≤ ks) : Go p.tables e below (Fine s below Q kc ks) (T.setTop (mkF m pc Ls (.int z :: rest))) :=
  endW X hx hlk hret rfl (Or.inl ⟨rfl, Or.inl rfl, z, rfl⟩) hd hq hc hs
theorem endR {Q : Option Value → Heap → List Loc → Prop} {kc ks : Nat} (X : Stand p l e R s m args below meth c T locs cells slots) (hx : p.tables.exec = Jvm.exec) (hlk : meth.locks = false) {pc : Nat} {Ls : Array Slot} {w : Value} {t : FieldType} {rest : List Value} (hret : meth.sig.returnType = some t) (ht : t.isReference = true) (hw : w.isRef = true)
    (hd : decode c.code pc = .ok (.areturn, 1)) (hq : Q (some w) T.heap locs) (hc : cells ≤ kc) (hs : slots ≤ ks) : Go p.tables e below (Fine s below Q kc ks) (T.setTop (mkF m pc Ls (w :: rest))) :=
  endW X hx hlk hret (by cases w <;> first | rfl | (cases t <;> first | rfl | cases ht) | cases hw) (Or.inr (Or.inr (Or.inr (Or.inr ⟨rfl, ht, hw⟩)))) hd hq hc hs
/-- return of a boolean, byte, char or short: narrowed -/
theorem endN {Q : Option Value → Heap → List Loc → Prop} {kc ks : Nat} (X : Stand p l e R s m args below meth c T locs cells slots) (hx : p.tables.exec = Jvm.exec) (hlk : meth.locks = false) {pc : Nat} {Ls : Array Slot} {z w : Int32} {t : FieldType} {rest : List Value} (hret : meth.sig.returnType = some t) (ht : t = .boolean ∨ t = .byte ∨ t = .char ∨ t = .short)
    (hd : decode c.code pc = .ok (.ireturn, 1)) (hz : nar t z = w) (hq : Q (some (.int w)) T.heap locs) (hc : cells ≤ kc) (hs : slots ≤ ks) : Go p.tables e below (Fine s below Q kc ks) (T.setTop (mkF m pc Ls (.int z :: rest))) := by
  subst hz
  exact fin X (fun h => by rw [hret] at h; cases h) hlk hq hc hs fun fs hr => retN X hx hret ht hd hr
theorem endV {Q : Option Value → Heap → List Loc → Prop} {kc ks : Nat} (X : Stand p l e R s m args below meth c T locs cells slots) (hx : p.tables.exec = Jvm.exec) (hlk : meth.locks = false) {pc : Nat} {Ls : Array Slot} (hret : meth.sig.returnType = none)
    (hd : decode c.code pc = .ok (.return_, 1)) (hq : Q none T.heap locs) (hc : cells ≤ kc) (hs : slots ≤ ks) : Go p.tables e below (Fine s below Q kc ks) (T.setTop (mkF m pc Ls [])) :=
  fin X (fun _ => rfl) hlk hq hc hs fun fs hr => X.returnOut hx hret hd hr
/-- a static call by its contract -/
theorem callSt (X : Stand p l e R s m args below meth c T locs cells slots) (hx : p.tables.exec = Jvm.exec) (hZ : Z.Warmed39 s.vm) {own : String} {index : Nat} {y : MethodName} {bytes : ByteArray} {maxL : Nat} {ret : Option FieldType} {rm : Room} {Q : Option Value → Heap → List Loc → Prop} {argsL rest : List Value}
    (hown : s.vm.findClass own = some m.cls) (w1 : (Cond.methodLink own index y).before a0 Z = true) (w2 : (Cond.static y).before a0 Z = true) (w3 : (Cond.initialized y.cls).before a0 Z = true) (w4 : (Cond.code y bytes maxL ret).before a0 Z = true) (hy : y.cls ≠ "java/lang/invoke/MethodHandle" ∧ y.cls ≠ "java/lang/invoke/VarHandle")
    (hM : Con l Z y bytes maxL ret [] rm argsL.toArray h Q) (eT : T.heap = h) (W : Nat) (hf : rm.frames + 1 ≤ R.frames) (hl : W + (maxL + 11) + rm.locals ≤ R.locals) (hcc : cells + rm.cells ≤ R.cells) (hss : slots + rm.slots ≤ R.slots)
    {g : JFrame} (hg : g.method = m) (hsize : g.locals.size = c.maxLocals) (hlen : ∀ sig, parseMethodDescriptor y.desc = some sig → argsL.length = sig.parameters.length)
    (hstack : g.stack = argsL.reverse ++ rest) (hW : 2 * g.monitorRoom + (rest.map fun v => v.category).sum ≤ W) (hd : decode c.code g.pc = .ok (.invokestatic index, 3)) :
    ∃ v T' L, Stand p l e R s m args below meth c T' (locs ++ L) (cells + rm.cells) (slots + rm.slots) ∧ Q v T'.heap L ∧ ∀ target, Steps p.tables e below (T'.setTop { g with pc := g.pc + 3, stack := v.toList ++ rest }) target → Steps p.tables e below (T.setTop g) target := by
  obtain ⟨v, vm1, ⟨T', L', k', n'⟩, -, X', ⟨L, hQ, l1, l2, l3⟩, st⟩ := Jvm.LawKit.callS X hx hown (mvT hZ w1) (mvT hZ w2) (mvT hZ w3) (mvT hZ w4) hy (backOf (Q := Q) (W := W) hM hZ w4 w3 hf hl) hg hsize hlen hstack hW hd (fun _ _ => ⟨rfl, eT, hcc, hss⟩)
  (try dsimp only at X' l1 l2 l3 st hQ)
  subst l1 l2 l3
  exact ⟨v, T', L, X', hQ, st⟩
/-- a constructor by its contract -/
theorem callIn (X : Stand p l e R s m args below meth c T locs cells slots) (hx : p.tables.exec = Jvm.exec) (hZ : Z.Warmed39 s.vm) {own : String} {index : Nat} {y : MethodName} {bytes : ByteArray} {maxL : Nat} {rm : Room} {Q : Option Value → Heap → List Loc → Prop} {a : Addr} {argsL rest : List Value} (hy1 : y.name = "<init>")
    (hown : s.vm.findClass own = some m.cls) (w1 : (Cond.methodLink own index y).before a0 Z = true) (w2 : (Cond.instanceMethod y).before a0 Z = true) (w3 : (Cond.initialized y.cls).before a0 Z = true) (w4 : (Cond.code y bytes maxL none).before a0 Z = true) (hy : y.cls ≠ "java/lang/invoke/MethodHandle" ∧ y.cls ≠ "java/lang/invoke/VarHandle")
    (hM : Con l Z y bytes maxL none [] rm (.ref a :: argsL).toArray h Q) (eT : T.heap = h) (W : Nat) (hf : rm.frames + 1 ≤ R.frames) (hl : W + (maxL + 11) + rm.locals ≤ R.locals) (hcc : cells + rm.cells ≤ R.cells) (hss : slots + rm.slots ≤ R.slots)
    {g : JFrame} (hg : g.method = m) (hsize : g.locals.size = c.maxLocals) (hlen : ∀ sig, parseMethodDescriptor y.desc = some sig → argsL.length = sig.parameters.length)
    (hstack : g.stack = argsL.reverse ++ .ref a :: rest) (hW : 2 * g.monitorRoom + (rest.map fun v => v.category).sum ≤ W) (hd : decode c.code g.pc = .ok (.invokespecial index, 3)) :
    ∃ v T' L, Stand p l e R s m args below meth c T' (locs ++ L) (cells + rm.cells) (slots + rm.slots) ∧ Q v T'.heap L ∧ ∀ target, Steps p.tables e below (T'.setTop { g with pc := g.pc + 3, stack := v.toList ++ rest }) target → Steps p.tables e below (T.setTop g) target := by
  obtain ⟨v, vm1, ⟨T', L', k', n'⟩, -, X', ⟨L, hQ, l1, l2, l3⟩, st⟩ := X.specialBack hx hy1 hown (mvT hZ w1) (mvT hZ w2) (mvT hZ w4) hy (backOf (Q := Q) (W := W) hM hZ w4 w3 hf hl) hg hsize (Steps.refl _) hlen hstack hW hd (fun _ _ => ⟨rfl, eT, hcc, hss⟩)
  (try dsimp only at X' l1 l2 l3 st hQ)
  subst l1 l2 l3
  exact ⟨v, T', L, X', hQ, fun target k => st.trans k⟩
/-- an instance method by the contract of the body that the receiver's class selects -/
theorem callVi (X : Stand p l e R s m args below meth c T locs cells slots) (hx : p.tables.exec = Jvm.exec) (hZ : Z.Warmed39 s.vm) {own C : String} {index : Nat} {y z : MethodName} {bytes : ByteArray} {maxL : Nat} {ret : Option FieldType} {rm : Room} {Q : Option Value → Heap → List Loc → Prop} {a : Addr} {argsL rest : List Value}
    (hown : s.vm.findClass own = some m.cls) (w1 : (Cond.methodLink own index y).before a0 Z = true) (w2 : (Cond.declares y).before a0 Z = true) (nf : NotFace s y) (w3 : (Cond.selects C y z).before a0 Z = true) (w4 : (Cond.instanceMethod z).before a0 Z = true) (w5 : (Cond.initialized z.cls).before a0 Z = true) (w6 : (Cond.code z bytes maxL ret).before a0 Z = true) (hy : y.cls ≠ "java/lang/invoke/MethodHandle" ∧ y.cls ≠ "java/lang/invoke/VarHandle")
    (hyz : z.desc = y.desc) (E : Exa Z h a C) (hM : Con l Z z bytes maxL ret [] rm (.ref a :: argsL).toArray h Q) (eT : T.heap = h) (W : Nat) (hf : rm.frames + 1 ≤ R.frames) (hl : W + (maxL + 11) + rm.locals ≤ R.locals) (hcc : cells + rm.cells ≤ R.cells) (hss : slots + rm.slots ≤ R.slots)
    {g : JFrame} (hg : g.method = m) (hsize : g.locals.size = c.maxLocals) (hlen : ∀ sig, parseMethodDescriptor y.desc = some sig → argsL.length = sig.parameters.length)
    (hstack : g.stack = argsL.reverse ++ .ref a :: rest) (hW : 2 * g.monitorRoom + (rest.map fun v => v.category).sum ≤ W) (hd : decode c.code g.pc = .ok (.invokevirtual index, 3)) :
    ∃ v T' L, Stand p l e R s m args below meth c T' (locs ++ L) (cells + rm.cells) (slots + rm.slots) ∧ Q v T'.heap L ∧ ∀ target, Steps p.tables e below (T'.setTop { g with pc := g.pc + 3, stack := v.toList ++ rest }) target → Steps p.tables e below (T.setTop g) target := by
  obtain ⟨cq, kq, qa, qb, qc⟩ := isOf hZ eT E
  obtain ⟨v, vm1, ⟨T', L', k', n'⟩, -, X', ⟨L, hQ, l1, l2, l3⟩, st⟩ := X.virtualBack hx (y := y) (z := z) hown (mvT hZ w1) (mvT hZ w2) nf (mvT hZ w3) (mvT hZ w4) hy (backOf (Q := Q) (W := W) hM hZ w6 w5 hf hl) qa qc hg hsize (Steps.refl _) hlen hstack hW hd (fun _ _ => ⟨rfl, eT, hcc, hss⟩)
  (try dsimp only at X' l1 l2 l3 st hQ)
  subst l1 l2 l3
  exact ⟨v, T', L, X', hQ, fun target k => st.trans k⟩
/-- a private instance method by its contract -/
theorem callPr (X : Stand p l e R s m args below meth c T locs cells slots) (hx : p.tables.exec = Jvm.exec) (hZ : Z.Warmed39 s.vm) {own C : String} {index : Nat} {y : MethodName} {bytes : ByteArray} {maxL : Nat} {ret : Option FieldType} {rm : Room} {Q : Option Value → Heap → List Loc → Prop} {a : Addr} {argsL rest : List Value}
    (hown : s.vm.findClass own = some m.cls) (w1 : (Cond.methodLink own index y).before a0 Z = true) (w2 : (Cond.instanceMethod y).before a0 Z = true) (w3 : (Cond.selects y.cls y y).before a0 Z = true) (w4 : (Cond.privateMethod y).before a0 Z = true) (w5 : (Cond.initialized y.cls).before a0 Z = true) (w6 : (Cond.code y bytes maxL ret).before a0 Z = true) (hy : y.cls ≠ "java/lang/invoke/MethodHandle" ∧ y.cls ≠ "java/lang/invoke/VarHandle")
    (E : Exa Z h a C) (hM : Con l Z y bytes maxL ret [] rm (.ref a :: argsL).toArray h Q) (eT : T.heap = h) (W : Nat) (hf : rm.frames + 1 ≤ R.frames) (hl : W + (maxL + 11) + rm.locals ≤ R.locals) (hcc : cells + rm.cells ≤ R.cells) (hss : slots + rm.slots ≤ R.slots)
    {g : JFrame} (hg : g.method = m) (hsize : g.locals.size = c.maxLocals) (hlen : ∀ sig, parseMethodDescriptor y.desc = some sig → argsL.length = sig.parameters.length)
    (hstack : g.stack = argsL.reverse ++ .ref a :: rest) (hW : 2 * g.monitorRoom + (rest.map fun v => v.category).sum ≤ W) (hd : decode c.code g.pc = .ok (.invokevirtual index, 3)) :
    ∃ v T' L, Stand p l e R s m args below meth c T' (locs ++ L) (cells + rm.cells) (slots + rm.slots) ∧ Q v T'.heap L ∧ ∀ target, Steps p.tables e below (T'.setTop { g with pc := g.pc + 3, stack := v.toList ++ rest }) target → Steps p.tables e below (T.setTop g) target := by
  obtain ⟨cell, q1, q2⟩ := E.cell
  obtain ⟨v, vm1, ⟨T', L', k', n'⟩, -, X', ⟨L, hQ, l1, l2, l3⟩, st⟩ := X.privateBack hx hown (mvT hZ w1) (mvT hZ w2) (mvT hZ w3) (Cond.privateMethod_at (mvP (args := args) hZ w4)) (mvT hZ w6) hy (backOf (Q := Q) (W := W) hM hZ w6 w5 hf hl) hg hsize (Steps.refl _) (by rw [eT]; exact q1) q2 hlen hstack hW hd (fun _ _ => ⟨rfl, eT, hcc, hss⟩)
  (try dsimp only at X' l1 l2 l3 st hQ)
  subst l1 l2 l3
  exact ⟨v, T', L, X', hQ, fun target k => st.trans k⟩
/-- an array whose k-th element is f k -/
def Afn (Z : State) (h : Heap) (a : Addr) (ty : FieldType) (n : Int32) (f : Nat → Value) : Prop := ∃ c : Cell, Arr Z h a c ty ∧ c.slots.size = n.toNatClampNeg ∧ ¬ n < 0 ∧ ∀ k, k < n.toNatClampNeg → c.slots[k]? = some (f k) ∧ fits ty (f k) = true
theorem Afn.lt {h : Heap} {a : Addr} {ty : FieldType} {n : Int32} {f : Nat → Value} (F : Afn Z h a ty n f) : a < h.size := by obtain ⟨c, A, -⟩ := F; exact A.lt
theorem Afn.nn {h : Heap} {a : Addr} {ty : FieldType} {n : Int32} {f : Nat → Value} (F : Afn Z h a ty n f) : ¬ n < 0 := by obtain ⟨c, -, -, q, -⟩ := F; exact q
theorem Afn.ext {h h' : Heap} {a : Addr} {ty : FieldType} {n : Int32} {f : Nat → Value} (F : Afn Z h a ty n f) (E : Ext h h') : Afn Z h' a ty n f := by obtain ⟨c, A, r⟩ := F; exact ⟨c, A.ext E, r⟩
theorem Afn.other {h h' : Heap} {a b : Addr} {ty : FieldType} {n : Int32} {f : Nat → Value} {sl : Nat} {v : Value} (F : Afn Z h b ty n f) (W : Wr h h' a sl v) (q : b ≠ a) : Afn Z h' b ty n f := by obtain ⟨c, A, r⟩ := F; exact ⟨c, A.other W q, r⟩
theorem Afn.keep {h h' : Heap} {a : Addr} {ty : FieldType} {n : Int32} {f : Nat → Value} {ws : List Addr} (F : Afn Z h a ty n f) (K : Keep h h' ws) (q : a ∉ ws) : Afn Z h' a ty n f := by obtain ⟨c, A, r⟩ := F; exact ⟨c, ⟨K.2.1 a c A.1 q, A.2⟩, r⟩
theorem Afn.congr {h : Heap} {a : Addr} {ty : FieldType} {n : Int32} {f g : Nat → Value} (F : Afn Z h a ty n f) (q : ∀ k, k < n.toNatClampNeg → f k = g k) : Afn Z h a ty n g := by
  obtain ⟨c, A, s, m, r⟩ := F
  exact ⟨c, A, s, m, fun k hk => by rw [← q k hk]; exact r k hk⟩
theorem Afn.new {h : Heap} {a : Addr} {ty : FieldType} {n : Int32} {k : ClassId} (A : Arr Z h a (newA k ty n) ty) (q : ¬ n < 0) : Afn Z h a ty n (fun _ => defaultValue ty) := by
  obtain ⟨c, B, -, s, m, H, G⟩ := Arv.new A q
  exact ⟨c, B, s, m, fun j hj => ⟨by simpa using H j (by rw [s]; exact hj), by simpa using G j (by rw [s]; exact hj)⟩⟩
theorem Afn.set {h h' : Heap} {a : Addr} {ty : FieldType} {n : Int32} {f : Nat → Value} {c : Cell} {j : Int32} {v : Value} (A : Arr Z h a c ty) (s : c.slots.size = n.toNatClampNeg) (m : ¬ n < 0) (r : ∀ k, k < n.toNatClampNeg → c.slots[k]? = some (f k) ∧ fits ty (f k) = true) (hv : fits ty v = true) (W : Wr h h' a j.toNatClampNeg v) :
    Afn Z h' a ty n (fun k => if k = j.toNatClampNeg then v else f k) := by
  refine ⟨c.setSlot j.toNatClampNeg v, A.same W, by rw [sz_set]; exact s, m, fun k hk => ?_⟩
  dsimp only
  by_cases q : k = j.toNatClampNeg
  · rw [if_pos q]
    refine ⟨?_, hv⟩
    subst q
    simp [Cell.setSlot, s, hk]
  · rw [if_neg q]
    refine ⟨?_, (r k hk).2⟩
    show (c.slots.setIfInBounds _ _)[k]? = _
    rw [Array.getElem?_setIfInBounds_ne (Ne.symm q)]
    exact (r k hk).1
theorem inbN {n j : Int32} (q : ¬ j < 0 ∧ j < n) : j.toNatClampNeg < n.toNatClampNeg := by
  obtain ⟨h1, h2⟩ := q
  rw [Int32.lt_iff_toInt_lt] at h1 h2
  have e : (0 : Int32).toInt = 0 := rfl
  simp only [Int32.toNatClampNeg]
  omega
theorem Afn.of_arv {h : Heap} {a : Addr} {k : ClassId} {ty : FieldType} {n : Int32} {vs : List Value} {d : Value} (F : Arv Z h a k ty n vs d) : Afn Z h a ty n (fun i => vs.getD i d) := by
  obtain ⟨c, A, -, s, m, H, G⟩ := F
  exact ⟨c, A, s, m, fun i hi => ⟨H i (by rw [s]; exact hi), G i (by rw [s]; exact hi)⟩⟩
end
end Jvm.OwnKit
namespace Jvm.OwnKit
open Sem ClassFile Op Lib Jvm.Stand Jvm.Free Jvm.LawKit Jvm.RoadKit
section
variable {p : Program} {l : Launch} {e : Env} {R : Room} {s : State} {m : MethodId} {args : Array Value} {below : List Frame} {meth : Method} {c : Code} {T : State} {locs : List Loc} {cells slots : Nat} {Z : State} {a0 : Array Value} {h : Heap}
theorem rng_getD (f : Nat → Value) (n k : Nat) (d : Value) (hk : k < n) : ((List.range n).map f).getD k d = f k := by
  rw [List.getD_eq_getElem?_getD]
  simp [hk]
theorem Afn.arv {a : Addr} {ty : FieldType} {n : Int32} {f : Nat → Value} (F : Afn Z h a ty n f) : ∃ k, Arv Z h a k ty n ((List.range n.toNatClampNeg).map f) (.int 0) := by
  obtain ⟨c, A, s, m, r⟩ := F
  refine ⟨_, c, A, rfl, s, m, fun i hi => ?_, fun i hi => ?_⟩
  · rw [rng_getD _ _ _ _ (by rw [← s]; exact hi)]; exact (r i (by rw [← s]; exact hi)).1
  · rw [rng_getD _ _ _ _ (by rw [← s]; exact hi)]; exact (r i (by rw [← s]; exact hi)).2
theorem cp_get (f g : Nat → Value) (z z' sp dp nn k : Nat) (d : Value) (h4 : sp + nn ≤ z) (h5 : dp + nn ≤ z') (hk : k < z') :
    (((List.range z').map g).take dp ++ ((List.range nn).map fun i => ((List.range z).map f).getD (sp + i) d) ++ ((List.range z').map g).drop (dp + nn)).getD k d = if dp ≤ k ∧ k < dp + nn then f (sp + (k - dp)) else g k := by
  have e : ((List.range nn).map fun i => ((List.range z).map f).getD (sp + i) d) = (List.range nn).map fun i => f (sp + i) := by
    apply List.map_congr_left
    intro i hi
    rw [List.mem_range] at hi
    exact rng_getD _ _ _ _ (by omega)
  rw [e, List.getD_eq_getElem?_getD, List.append_assoc, List.getElem?_append]
  simp only [List.length_take, List.length_map, List.length_range]
  have m1 : min dp z' = dp := by omega
  rw [m1]
  by_cases h1 : k < dp
  · rw [if_pos h1, if_neg (by omega), List.getElem?_take]
    simp [h1, hk]
  · rw [if_neg h1, List.getElem?_append]
    simp only [List.length_map, List.length_range]
    by_cases h2 : k - dp < nn
    · rw [if_pos h2, if_pos (by omega)]
      simp [h2]
    · rw [if_neg h2, if_neg (by omega), List.getElem?_drop]
      have : dp + nn + (k - dp - nn) = k := by omega
      rw [this]
      simp [hk]
/-- System.arraycopy over functions -/
theorem cpF (X : Stand p l e R s m args below meth c T locs cells slots) (hx : p.tables.exec = Jvm.exec) (hZ : Z.Warmed39 s.vm) {own : String} {index : Nat} (hown : s.vm.findClass own = some m.cls)
    (w1 : (Cond.methodLink own index Jvm.Stand.acN).before a0 Z = true) (w2 : (Cond.native Jvm.Stand.acN).before a0 Z = true) (w3 : (Cond.static Jvm.Stand.acN).before a0 Z = true) (w4 : (Cond.initialized "java/lang/System").before a0 Z = true) (eT : T.heap = h)
    {a b : Addr} {ty : FieldType} {z z' sp dp nn : Int32} {f f' : Nat → Value} (A : Afn Z h a ty z f) (B : Afn Z h b ty z' f') (hty : refKind ty = false)
    (h1 : ¬ sp < 0) (h2 : ¬ dp < 0) (h3 : ¬ nn < 0) (h4 : sp.toNatClampNeg + nn.toNatClampNeg ≤ z.toNatClampNeg) (h5 : dp.toNatClampNeg + nn.toNatClampNeg ≤ z'.toNatClampNeg) {n0 : Nat} (N : Fr n0 locs) (ge : n0 ≤ b)
    {g : JFrame} (hg : g.method = m) (hsize : g.locals.size = c.maxLocals) {rest : List Value} (hs : g.stack = .int nn :: .int dp :: .ref b :: .int sp :: .ref a :: rest) (hd : decode c.code g.pc = .ok (.invokestatic index, 3))
    (hf : 1 ≤ R.frames) {W : Nat} (hW : 2 * g.monitorRoom + (rest.map fun v => v.category).sum ≤ W) (hlo : W + (nativeFrameWords "java/lang/System" "arraycopy" 5 + 11) ≤ R.locals) :
    ∃ T' h' L, Stand p l e R s m args below meth c T' L cells slots ∧ T'.heap = h' ∧ Fr n0 L ∧ Keep h h' [b] ∧ Afn Z h' b ty z' (fun k => if dp.toNatClampNeg ≤ k ∧ k < dp.toNatClampNeg + nn.toNatClampNeg then f (sp.toNatClampNeg + (k - dp.toNatClampNeg)) else f' k) ∧
      ∀ target, Steps p.tables e below (T'.setTop { g with pc := g.pc + 3, stack := rest }) target → Steps p.tables e below (T.setTop g) target := by
  obtain ⟨ka, Aa⟩ := A.arv
  obtain ⟨kb, Ab⟩ := B.arv
  obtain ⟨T', h', L, X', e', N', K', V', st⟩ := cpA X hx hZ hown w1 w2 w3 w4 eT Aa Ab (Or.inl ⟨rfl, hty⟩) h1 h2 h3 h4 h5 rfl (by simpa using h5) N ge hg hsize hs hd hf hW hlo
  exact ⟨T', h', L, X', e', N', K', (Afn.of_arv V').congr (fun k hk => cp_get f f' _ _ _ _ _ k _ h4 h5 hk), st⟩
end
end Jvm.OwnKit
namespace Jvm.OwnKit
open Sem ClassFile Op Lib Jvm.Stand Jvm.Free Jvm.LawKit Jvm.RoadKit
section
variable {p : Program} {l : Launch} {e : Env} {R : Room} {s : State} {m : MethodId} {args : Array Value} {below : List Frame} {meth : Method} {c : Code} {T : State} {locs : List Loc} {cells slots : Nat} {Z : State} {a0 : Array Value} {h : Heap}
/-- clone of an array over a function -/
theorem cloneF (X : Stand p l e R s m args below meth c T locs cells slots) (hx : p.tables.exec = Jvm.exec) (hZ : Z.Warmed39 s.vm) {own ad : String} {index : Nat} (hown : s.vm.findClass own = some m.cls)
    (w1 : (Cond.methodLink own index ⟨ad, "clone", "()Ljava/lang/Object;"⟩).before a0 Z = true) (w2 : (Cond.sameMethod ad "java/lang/Object" "clone" "()Ljava/lang/Object;").before a0 Z = true) (w3 : (Cond.native ⟨"java/lang/Object", "clone", "()Ljava/lang/Object;"⟩).before a0 Z = true)
    (w4 : (Cond.instanceMethod ⟨"java/lang/Object", "clone", "()Ljava/lang/Object;"⟩).before a0 Z = true) (w5 : (Cond.selects ad ⟨ad, "clone", "()Ljava/lang/Object;"⟩ ⟨"java/lang/Object", "clone", "()Ljava/lang/Object;"⟩).before a0 Z = true) (w6 : (Cond.castable ad "java/lang/Cloneable").before a0 Z = true)
    (eT : T.heap = h) {a : Addr} {ty : FieldType} {n : Int32} {f : Nat → Value} (F : Afn Z h a ty n f) (E : Exa Z h a ad) {g : JFrame} (hg : g.method = m) (hsize : g.locals.size = c.maxLocals) {rest : List Value} (hs : g.stack = .ref a :: rest) (hd : decode c.code g.pc = .ok (.invokevirtual index, 3))
    (hf : 1 ≤ R.frames) {W cap : Nat} (hW : 2 * g.monitorRoom + (rest.map fun v => v.category).sum ≤ W) (hl : W + 14 ≤ R.locals) (hcap : n.toNatClampNeg ≤ cap) (hc : cells + 1 ≤ R.cells) (hsl : slots + cap ≤ R.slots) :
    ∃ T' h', Stand p l e R s m args below meth c T' locs (cells + 1) (slots + cap) ∧ T'.heap = h' ∧ Ext h h' ∧ Afn Z h' h.size ty n f ∧ Exa Z h' h.size ad ∧
      ∀ target, Steps p.tables e below (T'.setTop { g with pc := g.pc + 3, stack := .ref h.size :: rest }) target → Steps p.tables e below (T.setTop g) target := by
  obtain ⟨cl, A, S, mm, r⟩ := F
  have FC : FitC Z cl := fitC_of A fun i hi v hv => by
    have q := r i (by rw [← S]; exact hi)
    rw [q.1] at hv; cases hv; exact q.2
  obtain ⟨T', h', X', e', ex, A', E', st⟩ := cloneA X hx hZ hown w1 w2 w3 w4 w5 w6 eT A E FC hg hsize hs hd hf hW hl (by rw [S]; exact hcap) hc hsl
  exact ⟨T', h', X', e', ex, ⟨cloneOf cl, A', S, mm, r⟩, E', st⟩
end
end Jvm.OwnKit
namespace Jvm.OwnKit
open Sem ClassFile Op Lib Jvm.Stand Jvm.Free Jvm.LawKit Jvm.RoadKit
section
variable {p : Program} {l : Launch} {e : Env} {R : Room} {s ss : State} {m : MethodId} {args : Array Value} {below : List Frame} {meth : Method} {c : Code} {T : State} {locs : List Loc} {cells slots : Nat} {Z : State} {a0 : Array Value} {h h' h0 h1 hT : Heap}
/-- each monitor is as it was -/
def MonB (h h' : Heap) : Prop := ∀ (x : Addr) (c : Cell), h[x]? = some c → ∃ c' : Cell, h'[x]? = some c' ∧ c'.monitor = c.monitor
theorem keep_mon {ws : List Addr} (M0 : Mon h0 h1) (K : Keep h1 hT ws) (M1 : Mon hT h') (B : MonB h0 h') : Keep h0 h' ws := by
  refine ⟨by rw [M1.1, ← M0.1]; exact K.1, fun x c q r => ?_, fun x c q => ?_⟩
  · obtain ⟨mo, q1⟩ := M0.2 _ _ q
    obtain ⟨mo', q2⟩ := M1.2 _ _ (K.2.1 _ _ q1 r)
    obtain ⟨c', q3, q4⟩ := B _ _ q
    rw [q2] at q3 ⊢
    cases q3
    have : mo' = c.monitor := q4
    subst this
    rfl
  · obtain ⟨mo, q1⟩ := M0.2 _ _ q
    obtain ⟨c1, q2, q3, q4, q5⟩ := K.2.2 _ _ q1
    obtain ⟨mo', q6⟩ := M1.2 _ _ q2
    exact ⟨_, q6, q3, q4, q5⟩
theorem Afn.mon {a : Addr} {ty : FieldType} {n : Int32} {f : Nat → Value} (F : Afn Z h a ty n f) (M : Mon h h') : Afn Z h' a ty n f := by
  obtain ⟨c, A, r⟩ := F
  obtain ⟨mo, q⟩ := M.2 _ _ A.1
  exact ⟨{ c with monitor := mo }, ⟨q, A.2⟩, r⟩
theorem unt_back {a : Addr} {ws : List Addr} (N : Unt h0 a) (K : Keep h0 h' ws) (B : MonB h0 h') : Unt h' a := by
  obtain ⟨c, q1, q2, q3⟩ := N
  obtain ⟨c', k1, -, k3, -⟩ := K.2.2 _ _ q1
  obtain ⟨c2, b1, b2⟩ := B _ _ q1
  cases k1.symm.trans b1
  exact ⟨_, k1, k3.trans q2, b2.trans q3⟩
theorem unt_wr {a b : Addr} {sl : Nat} {v : Value} (N : Unt h b) (W : Wr h h' a sl v) : Unt h' b := by
  obtain ⟨c, q1, q2, q3⟩ := N
  obtain ⟨cell, w1, w2, w3, rfl⟩ := W
  by_cases z : a = b
  · subst z
    cases q1.symm.trans w1
    exact ⟨c.setSlot sl v, by rw [Array.getElem?_setIfInBounds_self_of_lt (Array.getElem?_eq_some_iff.mp w1).1], q2, q3⟩
  · exact ⟨c, by rw [Array.getElem?_setIfInBounds_ne z]; exact q1, q2, q3⟩
theorem unt_keep {ws : List Addr} {a : Addr} (N : Unt h a) (K : Keep h h' ws) (hn : a ∉ ws) : Unt h' a := by
  obtain ⟨c1, q1, q2, q3⟩ := N; exact ⟨c1, K.2.1 _ _ q1 hn, q2, q3⟩
/-- the invocation of ss, a synchronized one, has returned -/
def FineS (ss : State) (below : List Frame) (Q : Option Value → Heap → List Loc → Prop) (kc ks : Nat) (t : State) : Prop := ∃ o, t.status = .running ∧ Ended t below o ∧ ∃ v L hT, o = .returned v ∧ Q v hT L ∧ Mon hT t.heap ∧ FrameEnd ss o t L kc ks
def LeaveS (p : Program) (l : Launch) (e : Env) (rm : Room) (ss s : State) (m : MethodId) (as : Array Value) (below : List Frame) (meth : Method) (c : Code) (a : Addr) : Prop :=
  ∀ (T : State) (locs : List Loc) (cells slots : Nat) (v : Option Value), Stand p l e rm s m as below meth c T locs cells slots → (meth.sig.returnType = none → v = none) →
    ∃ V : State, (∀ (f : JFrame) (acts : List Action), f.method = m → f.locked = some a → f.entered = [] → (doReturn e (T.setTop f) acts v).1 = V) ∧ V.status = .running ∧ Ended V below (.returned v) ∧ Mon T.heap V.heap ∧ ss.WarmedH V.vm ∧ ss.sameButNew { V with vm := ss.vm } locs cells slots
/-- the contract of a synchronized instance method -/
def ConS (l : Launch) (Z : State) (y : MethodName) (bytes : ByteArray) (maxL : Nat) (ret : Option FieldType) (rm : Room) (as : Array Value) (h0 : Heap) (Q : Option Value → Heap → List Loc → Prop) : Prop :=
  MetFree l y (head1 [Jvm.Cond.codeSync y bytes maxL ret, Jvm.Cond.instanceMethod y] rm) (fun a U => a = as ∧ Z.Warmed39 U.vm ∧ U.heap = h0) (fun _ _ _ _ _ => True) (fun _ U o U' => ∃ v L, o = .returned v ∧ Q v U'.heap L ∧ FrameEnd U o U' L rm.cells rm.slots)
theorem ConS.of {y : MethodName} {bytes : ByteArray} {maxL : Nat} {ret : Option FieldType} {rm : Room} {as : Array Value} {a : Addr} {Q : Option Value → Heap → List Loc → Prop} (Q' : Heap → Option Value → Heap → List Loc → Prop) (hpl : plainFor y = true) (has : as[0]? = some (.ref a)) (N : Unt h0 a)
    (body : ∀ (p : Program) (e : Env) (ss s : State) (m : MethodId) (below : List Frame) (meth : Method) (c : Code) (s₁ : State) (h1 : Heap), Mon h0 h1 → Z.Warmed39 s.vm → s₁.heap = h1 → Stand p l e rm s m as below meth c s₁ [] 0 0 → LeaveS p l e rm ss s m as below meth c a → p.tables.exec = Jvm.exec → c.code = bytes → c.maxLocals = maxL → s.vm.findClass y.cls = some m.cls → meth.name = y.name → meth.sig.returnType = ret →
      Go p.tables e below (FineS ss below (Q' h1) rm.cells rm.slots) (s₁.setTop (entryFrameSync m as maxL a)))
    (conv : ∀ h1 v hT L h', Mon h0 h1 → Q' h1 v hT L → Mon hT h' → MonB h0 h' → Q v h' L) : ConS l Z y bytes maxL ret rm as h0 Q := by
  refine MetFree.of_bodySync hpl (hisS (List.mem_cons_self ..)) (fun _ s _ ⟨h1, _, h2⟩ => ?_) ?_
  · obtain ⟨cl, u1, -, u3⟩ := N
    exact ⟨a, cl, by rw [h1]; exact has, by rw [h2]; exact u1, by rw [Cell.enterable, u3]; simp⟩
  intro p e ss m args below meth c a' cell s₁ Bd hml hP _
  obtain ⟨rfl, hZ, hh⟩ := hP
  obtain rfl : a' = a := by have q := Bd.receiver; rw [has] at q; cases q; rfl
  have M0 : Mon h0 s₁.heap := by rw [← hh, Bd.state]; exact mon_set Bd.object _
  obtain ⟨t, k1, o, k2, k3, v, L, hT, k4, k5, k6, k7⟩ := body p e ss (ss.setCell a' (cell.withEntry ss.cur)) m below meth c s₁ s₁.heap M0 hZ rfl (Stand.of_bodySync Bd) (fun T locs cells slots v X hv => leaveS X Bd.object Bd.enterable Bd.synchronized hv) Bd.exec Bd.bytes hml (findClass_of_methodNamed Bd.named) (name_of_methodNamed Bd.named Bd.method).1 Bd.returns
  refine ⟨t, o, k1, k2, k3, v, L, k4, conv _ v hT L _ M0 k5 k6 ?_, k7⟩
  intro x cx hx
  rw [← hh] at hx
  obtain ⟨c', q1, q2, -⟩ := k7.2.2.2.2.2.2.2 x cx hx
  exact ⟨c', q1, by rw [q2]⟩
theorem endVS {Q : Option Value → Heap → List Loc → Prop} {kc ks : Nat} {a : Addr} (X : Stand p l e R s m args below meth c T locs cells slots) (hx : p.tables.exec = Jvm.exec) (LV : LeaveS p l e R ss s m args below meth c a) {pc : Nat} {Ls : Array Slot} (hret : meth.sig.returnType = none)
    (hd : decode c.code pc = .ok (.return_, 1)) (hq : Q none T.heap locs) (hc : cells ≤ kc) (hs : slots ≤ ks) : Go p.tables e below (FineS ss below Q kc ks) (T.setTop (mkL a m pc Ls [])) := by
  obtain ⟨V, hr, hrun, hended, M, hW, hsame⟩ := LV T locs cells slots none X (fun _ => rfl)
  exact ⟨V, retS0 X hx hret hd hr, _, hrun, hended, none, locs, T.heap, rfl, hq, M, ⟨_, rfl⟩, hW, hsame.mono hc hs⟩
theorem endRS {Q : Option Value → Heap → List Loc → Prop} {kc ks : Nat} {a : Addr} (X : Stand p l e R s m args below meth c T locs cells slots) (hx : p.tables.exec = Jvm.exec) (LV : LeaveS p l e R ss s m args below meth c a) {pc : Nat} {Ls : Array Slot} {w : Value} {t : FieldType} {rest : List Value} (hret : meth.sig.returnType = some t) (ht : t.isReference = true) (hw : w.isRef = true)
    (hd : decode c.code pc = .ok (.areturn, 1)) (hq : Q (some w) T.heap locs) (hc : cells ≤ kc) (hs : slots ≤ ks) : Go p.tables e below (FineS ss below Q kc ks) (T.setTop (mkL a m pc Ls (w :: rest))) := by
  obtain ⟨V, hr, hrun, hended, M, hW, hsame⟩ := LV T locs cells slots (some w) X (fun h => by rw [hret] at h; cases h)
  have hn : narrow t w = w := by cases w <;> first | rfl | (cases t <;> first | rfl | cases ht) | cases hw
  exact ⟨V, retS X hx hret hn (Or.inr (Or.inr (Or.inr (Or.inr ⟨rfl, ht, hw⟩)))) hd hr, _, hrun, hended, some w, locs, T.heap, rfl, hq, M, ⟨_, rfl⟩, hW, hsame.mono hc hs⟩
theorem backOfS {y : MethodName} {bytes : ByteArray} {maxL : Nat} {ret : Option FieldType} {rm : Room} {len W : Nat} {as' : Array Value} {Q : Option Value → Heap → List Loc → Prop}
    (hM : ConS l Z y bytes maxL ret rm as' h Q) (hZ : Z.Warmed39 s.vm) (wc : (Cond.codeSync y bytes maxL ret).before a0 Z = true) (wi : (Cond.instanceMethod y).before a0 Z = true) (wz : (Cond.initialized y.cls).before a0 Z = true) (hf : rm.frames + 1 ≤ R.frames) (hl : W + (maxL + 11) + rm.locals ≤ R.locals) :
    Back l R p e below s args y len W (fun A a => a = as' ∧ A.U.heap = h ∧ A.cells + rm.cells ≤ R.cells ∧ A.slots + rm.slots ≤ R.slots)
      (fun A _ v B => ∃ L, Q v B.U.heap L ∧ B.locs = A.locs ++ L ∧ B.cells = A.cells + rm.cells ∧ B.slots = A.slots + rm.slots) :=
  Jvm.Free.XT.back_of_sync (bytes := bytes) (maxL := maxL) (ret := ret) (E := fun _ _ o t L k n => k = rm.cells ∧ n = rm.slots ∧ ∃ v, o = .returned v ∧ Q v t.heap L) hM hf hl
    (fun m meth c A a Y hp => have hU : Z.Warmed39 A.U.vm := wtrans hZ Y.warmed
      ⟨by show (Cond.and _ (Cond.and _ .tt)).before a A.U = true; rw [Cond.before_and, Cond.before_and, mv hU wc, mv hU wi]; rfl, mv hU wc, mv hU wz, hp.2.2.1, hp.2.2.2⟩)
    (fun m meth c A a g mk Y hp => ⟨hp.1, wtrans hZ Y.warmed, hp.2.1⟩) (fun _ _ _ _ _ _ _ _ _ => trivial)
    (fun _ _ _ _ ⟨v, L, h1, h2, h3⟩ => ⟨L, _, _, h3, rfl, rfl, v, h1, h2⟩)
    (fun m meth c A a g mk v t L k n Y hp _ _ ⟨e1, e2, v', e3, e4⟩ => by cases e3; subst e1 e2; exact ⟨L, e4, rfl, rfl, rfl⟩)
/-- a synchronized instance method by its contract -/
theorem callViS (X : Stand p l e R s m args below meth c T locs cells slots) (hx : p.tables.exec = Jvm.exec) (hZ : Z.Warmed39 s.vm) {own C : String} {index : Nat} {y z : MethodName} {bytes : ByteArray} {maxL : Nat} {ret : Option FieldType} {rm : Room} {Q : Option Value → Heap → List Loc → Prop} {a : Addr} {argsL rest : List Value}
    (hown : s.vm.findClass own = some m.cls) (w1 : (Cond.methodLink own index y).before a0 Z = true) (w2 : (Cond.declares y).before a0 Z = true) (nf : NotFace s y) (w3 : (Cond.selects C y z).before a0 Z = true) (w4 : (Cond.instanceMethod z).before a0 Z = true) (w5 : (Cond.initialized z.cls).before a0 Z = true) (w6 : (Cond.codeSync z bytes maxL ret).before a0 Z = true) (hy : y.cls ≠ "java/lang/invoke/MethodHandle" ∧ y.cls ≠ "java/lang/invoke/VarHandle")
    (hyz : z.desc = y.desc) (E : Exa Z h a C) (hM : ConS l Z z bytes maxL ret rm (.ref a :: argsL).toArray h Q) (eT : T.heap = h) (W : Nat) (hf : rm.frames + 1 ≤ R.frames) (hl : W + (maxL + 11) + rm.locals ≤ R.locals) (hcc : cells + rm.cells ≤ R.cells) (hss : slots + rm.slots ≤ R.slots)
    {g : JFrame} (hg : g.method = m) (hsize : g.locals.size = c.maxLocals) (hlen : ∀ sig, parseMethodDescriptor y.desc = some sig → argsL.length = sig.parameters.length)
    (hstack : g.stack = argsL.reverse ++ .ref a :: rest) (hW : 2 * g.monitorRoom + (rest.map fun v => v.category).sum ≤ W) (hd : decode c.code g.pc = .ok (.invokevirtual index, 3)) :
    ∃ v T' L, Stand p l e R s m args below meth c T' (locs ++ L) (cells + rm.cells) (slots + rm.slots) ∧ Q v T'.heap L ∧ ∀ target, Steps p.tables e below (T'.setTop { g with pc := g.pc + 3, stack := v.toList ++ rest }) target → Steps p.tables e below (T.setTop g) target := by
  obtain ⟨cq, kq, qa, qb, qc⟩ := isOf hZ eT E
  obtain ⟨v, vm1, ⟨T', L', k', n'⟩, -, X', ⟨L, hQ, l1, l2, l3⟩, st⟩ := X.virtualBack hx (y := y) (z := z) hown (mvT hZ w1) (mvT hZ w2) nf (mvT hZ w3) (mvT hZ w4) hy (backOfS (Q := Q) (W := W) hM hZ w6 w4 w5 hf hl) qa qc hg hsize (Steps.refl _) hlen hstack hW hd (fun _ _ => ⟨rfl, eT, hcc, hss⟩)
  (try dsimp only at X' l1 l2 l3 st hQ)
  subst l1 l2 l3
  exact ⟨v, T', L, X', hQ, fun target k => st.trans k⟩
theorem nf_of {C : String} {x y z : MethodName} (ws : (Cond.selects C x z).before a0 Z = true) (hc : z.cls = y.cls) : NotFace Z y := fun r0 h0 => by
  obtain ⟨c2, r2, m2, q1, q2, q3, q4, kP, hkP, hkPi⟩ := Cond.selects_spec ws
  have a1 := findClass_of_methodNamed h0
  have a2 := findClass_of_methodNamed q3
  rw [hc] at a2
  rw [Option.some.inj (a1.symm.trans a2)]
  exact ⟨kP, hkP, hkPi⟩
theorem sameSelf {y : MethodName} (wm : (Cond.instanceMethod y).before a0 Z = true) (nf : NotFace Z y) (hy : y.cls ≠ "java/lang/invoke/MethodHandle" ∧ y.cls ≠ "java/lang/invoke/VarHandle") : (Cond.sameMethod y.cls y.cls y.name y.desc).before a0 Z = true := by
  obtain ⟨mk, methM, hnamed, hmethM, -, -⟩ := Cond.instanceMethod_spec wm
  obtain ⟨kr, q1, q2⟩ := nf _ hnamed
  have hf := State.methodFound?_of_named hnamed hy
  have hc := findClass_of_methodNamed hnamed
  have hnamed' : Z.methodNamed? ⟨y.cls, y.name, y.desc⟩ = some mk := hnamed
  simp [Cond.before, Cond.holds, Cond.value, hc, hf, hnamed', q1, q2]
theorem selPriv2 {y : MethodName} (nf : NotFace Z y) (wp : (Cond.privateMethod y).before a0 Z = true) (wm : (Cond.instanceMethod y).before a0 Z = true) (hy : y.cls ≠ "java/lang/invoke/MethodHandle" ∧ y.cls ≠ "java/lang/invoke/VarHandle") : (Cond.selects y.cls y y).before a0 Z = true := by
  obtain ⟨mk, methM, hnamed, hmethM, -, -⟩ := Cond.instanceMethod_spec wm
  obtain ⟨kr, q1, q2⟩ := nf _ hnamed
  exact selects_self_of_private (findClass_of_methodNamed hnamed) q1 q2 (Cond.privateMethod_at wp) wm hy
/-- a superclass's instance method, by invokespecial -/
theorem callSup (X : Stand p l e R s m args below meth c T locs cells slots) (hx : p.tables.exec = Jvm.exec) (hZ : Z.Warmed39 s.vm) {own K : String} {index : Nat} {y : MethodName} {bytes : ByteArray} {maxL : Nat} {ret : Option FieldType} {rm : Room} {Q : Option Value → Heap → List Loc → Prop} {a : Addr} {argsL rest : List Value}
    (hown : s.vm.findClass own = some m.cls) (w1 : (Cond.methodLink own index y).before a0 Z = true) (w2 : (Cond.sameMethod y.cls y.cls y.name y.desc).before a0 Z = true) (w3 : (Cond.instanceMethod y).before a0 Z = true) (w4 : (Cond.superclass own y.cls).before a0 Z = true) (w5 : (Cond.initialized y.cls).before a0 Z = true) (w6 : (Cond.code y bytes maxL ret).before a0 Z = true) (hn : y.name ≠ "<init>")
    (E : Exa Z h a K) (hM : Con l Z y bytes maxL ret [] rm (.ref a :: argsL).toArray h Q) (eT : T.heap = h) (W : Nat) (hf : rm.frames + 1 ≤ R.frames) (hl : W + (maxL + 11) + rm.locals ≤ R.locals) (hcc : cells + rm.cells ≤ R.cells) (hss : slots + rm.slots ≤ R.slots)
    {g : JFrame} (hg : g.method = m) (hsize : g.locals.size = c.maxLocals) (hlen : ∀ sig, parseMethodDescriptor y.desc = some sig → argsL.length = sig.parameters.length)
    (hstack : g.stack = argsL.reverse ++ .ref a :: rest) (hW : 2 * g.monitorRoom + (rest.map fun v => v.category).sum ≤ W) (hd : decode c.code g.pc = .ok (.invokespecial index, 3)) :
    ∃ v T' L, Stand p l e R s m args below meth c T' (locs ++ L) (cells + rm.cells) (slots + rm.slots) ∧ Q v T'.heap L ∧ ∀ target, Steps p.tables e below (T'.setTop { g with pc := g.pc + 3, stack := v.toList ++ rest }) target → Steps p.tables e below (T.setTop g) target := by
  obtain ⟨v, vm1, ⟨T', L', k', n'⟩, -, X', ⟨L, hQ, l1, l2, l3⟩, st⟩ := superBack X hx hZ hown w1 w2 w3 w4 hn (backOf (Q := Q) (W := W) hM hZ w6 w5 hf hl) eT (Ins.self E) hg hsize w6 hlen hstack hW hd (fun _ _ => ⟨rfl, eT, hcc, hss⟩)
  (try dsimp only at X' l1 l2 l3 st hQ)
  subst l1 l2 l3
  exact ⟨v, T', L, X', hQ, fun target k => st.trans k⟩
/-- a constructor whose entry has been resolved (methodRef), by its contract -/
theorem callInR (X : Stand p l e R s m args below meth c T locs cells slots) (hx : p.tables.exec = Jvm.exec) (hZ : Z.Warmed39 s.vm) {own : String} {index : Nat} {y : MethodName} {bytes : ByteArray} {maxL : Nat} {rm : Room} {Q : Option Value → Heap → List Loc → Prop} {a : Addr} {argsL rest : List Value} (hy1 : y.name = "<init>")
    (hown : s.vm.findClass own = some m.cls) (w1 : (Cond.methodRef own index y).before a0 Z = true) (w2 : (Cond.instanceMethod y).before a0 Z = true) (w3 : (Cond.initialized y.cls).before a0 Z = true) (w4 : (Cond.code y bytes maxL none).before a0 Z = true) (hy : y.cls ≠ "java/lang/invoke/MethodHandle" ∧ y.cls ≠ "java/lang/invoke/VarHandle")
    (hM : Con l Z y bytes maxL none [] rm (.ref a :: argsL).toArray h Q) (eT : T.heap = h) (W : Nat) (hf : rm.frames + 1 ≤ R.frames) (hl : W + (maxL + 11) + rm.locals ≤ R.locals) (hcc : cells + rm.cells ≤ R.cells) (hss : slots + rm.slots ≤ R.slots)
    {g : JFrame} (hg : g.method = m) (hsize : g.locals.size = c.maxLocals) (hlen : ∀ sig, parseMethodDescriptor y.desc = some sig → argsL.length = sig.parameters.length)
    (hstack : g.stack = argsL.reverse ++ .ref a :: rest) (hW : 2 * g.monitorRoom + (rest.map fun v => v.category).sum ≤ W) (hd : decode c.code g.pc = .ok (.invokespecial index, 3)) :
    ∃ v T' L, Stand p l e R s m args below meth c T' (locs ++ L) (cells + rm.cells) (slots + rm.slots) ∧ Q v T'.heap L ∧ ∀ target, Steps p.tables e below (T'.setTop { g with pc := g.pc + 3, stack := v.toList ++ rest }) target → Steps p.tables e below (T.setTop g) target := by
  subst hg
  obtain ⟨obj, methO, hnO, hmO, hstO, habO⟩ := Cond.instanceMethod_spec (mv (args := args) hZ w2)
  obtain ⟨methO', cO, hmO', hcO, hbO, hlO, -, hlockO, -, hsigO⟩ := Cond.code_spec hnO (mv (args := args) hZ w4)
  cases hmO.symm.trans hmO'
  obtain ⟨kO, hkO, hnameO⟩ := className_of_methodNamed hnO
  obtain ⟨hnameMO, hdescO⟩ := name_of_methodNamed hnO hmO
  obtain ⟨objZ, methZ, hnZ, -, -, -⟩ := Cond.instanceMethod_spec w2
  have hp : (Cond.methodRef own index y).before a0 (Z.setVm T.vm) = true := Cond.methodRef_warmed39 (wtrans hZ X.warmed) hnZ hy w1
  have hcur : (Z.setVm T.vm).vm.findClass own = some g.method.cls := by show T.vm.findClass own = _; rw [X.warmed.alike.findClass]; exact hown
  obtain ⟨m1, c', hm1, hready, hfind, hnr⟩ := Cond.methodRef_named e hcur hp
  have hnT : (Z.setVm T.vm).methodNamed? y = some obj := X.named hnO
  have q1 := State.methodFound?_of_named hnT hy
  obtain rfl : obj = m1 := Option.some.inj (q1.symm.trans hm1)
  obtain rfl : c' = obj.cls := Option.some.inj (hfind.symm.trans (findClass_of_methodNamed hnT))
  obtain ⟨kO₂, hkO₂, heO₂⟩ := X.warmed.alike.2.2 _ _ hkO
  have hmO₂ : T.vm.method? obj = some methO := by rw [X.warmed.alike.method?]; exact hmO
  have hfound : lookupSpecial T.vm obj.cls "<init>" methO.desc = .method obj := by
    rw [X.warmed.alike.lookupSpecial, hdescO, ← hy1]; exact lookupSpecial_of_named hnO hmO hstO
  have st1 : ∀ target, (∀ acts, Steps p.tables e below (doInvoke e (T.setTop { g with stack := rest }) acts obj (.ref a :: argsL).toArray).1 target) → Steps p.tables e below (T.setTop g) target := by
    intro target hrest
    jvm_step X.here [hx, hd, invokespecial.wp_init (e := e) (s := T) (k := kO₂) (meth := methO) (m := obj) (a := a) (args := argsL) (rest := rest) (f := g) X.here.top hnr hready hkO₂ hmO₂ (by rw [hnameMO]; exact hy1) hstO habO hfound (hlen _ hsigO) hstack]
    exact hrest
  obtain ⟨v, ⟨T', L', k', n'⟩, X', ⟨L, hQ, l1, l2, l3⟩, hsteps⟩ := (backOf (len := 3) (p := p) (l := l) (R := R) (e := e) (below := below) (s := s) (args := args) (Q := Q) (W := W) hM hZ w4 w3 hf hl) g.method meth c ⟨T, locs, cells, slots⟩ { g with stack := rest } (.invokespecial index) obj (.ref a :: argsL).toArray X rfl hsize hd hW (X.named hnO) ⟨rfl, eT, hcc, hss⟩
  (try dsimp only at X' l1 l2 l3 hsteps hQ)
  subst l1 l2 l3
  exact ⟨v, T', L, X', hQ, fun target k => (st1 _ fun acts => by rw [doInvoke_state]; exact Steps.refl _).trans (hsteps.trans k)⟩
def intOf : Value → Int32
  | .int x => x
  | _ => 0
theorem own_ints {a : Addr} {n : Int32} {f : Nat → Value} (F : Afn Z h a .byte n f) : Afn Z h a .byte n (fun k => .int (intOf (f k))) := by
  refine F.congr (fun k hk => ?_)
  obtain ⟨c, -, -, -, r⟩ := F
  have q := (r k hk).2
  cases hf : f k <;> rw [hf] at q <;> first | rfl | cases q
end
end Jvm.OwnKit
namespace Jvm.OwnKit
open Sem ClassFile Op Lib Jvm.Stand Jvm.Free Jvm.LawKit Jvm.RoadKit
/-- the invocation of s has returned, perhaps with new entries in the intern table; what the tables book for EL says its text -/
def FineW (Z : State) (EL : List (String × Nat)) (s : State) (below : List Frame) (Q : Option Value → Heap → List Loc → Prop) (kc ks : Nat) (t : State) : Prop := ∃ o, t.status = .running ∧ Ended t below o ∧ ∃ v L, o = .returned v ∧ Q v t.heap L ∧ CHr Z EL s.vm s.heap t.vm t.heap ∧ ReturnedEndW s o t L kc ks
/-- a contract of a method that may load String constants for the first time -/
def ConH (l : Launch) (Z : State) (EL : List (String × Nat)) (y : MethodName) (bytes : ByteArray) (maxL : Nat) (ret : Option FieldType) (ws : List Jvm.Cond) (rm : Room) (as : Array Value) (h0 : Heap) (Q : Option Value → Heap → List Loc → Prop) : Prop :=
  MetFree l y (head1 (Jvm.Cond.code y bytes maxL ret :: ws) rm) (fun a U => a = as ∧ Z.Warmed39 U.vm ∧ U.heap = h0 ∧ CHv Z EL U.vm h0) (fun _ _ _ _ _ => True) (fun _ U o U' => ∃ v L, o = .returned v ∧ Q v U'.heap L ∧ CHr Z EL U.vm U.heap U'.vm U'.heap ∧ ReturnedEndW U o U' L rm.cells rm.slots)
theorem ConH.of {l : Launch} {Z : State} {EL : List (String × Nat)} {y : MethodName} {bytes : ByteArray} {maxL : Nat} {ret : Option FieldType} {ws : List Jvm.Cond} {rm : Room} {as : Array Value} {h0 : Heap} {Q : Option Value → Heap → List Loc → Prop} (hpl : plainFor y = true)
    (body : ∀ (p : Program) (e : Env) (s : State) (m : MethodId) (below : List Frame) (meth : Method) (c : Code) (s₁ : State) (vm0 : Vm) (k0 : Nat), Z.Warmed39 vm0 → s₁.heap = h0 → Stand p l e rm (s.setVm vm0) m as below meth c s₁ [] 0 0 → p.tables.exec = Jvm.exec → c.code = bytes → c.maxLocals = maxL → vm0.findClass y.cls = some m.cls → meth.name = y.name → meth.sig.returnType = ret → meth.locks = false →
      s.Since vm0 k0 → k0 ≤ h0.size → CHv Z EL vm0 h0 → CHr Z EL s.vm s.heap vm0 h0 → Go p.tables e below (FineW Z EL s below Q rm.cells rm.slots) (s₁.setTop (entryFrame m as maxL))) : ConH l Z EL y bytes maxL ret ws rm as h0 Q := by
  refine MetFree.of_bodySF hpl hisR ?_
  intro p e s m args below meth c s₁ Bd hml hP hK
  obtain ⟨rfl, hZ, hh, hCH⟩ := hP
  have e0 : s₁.heap = h0 := by rw [← hh, Bd.state]; rfl
  have X0 : Stand p l e rm (s.setVm s.vm) m args below meth c s₁ [] 0 0 := by rw [State.setVm_self]; exact Stand.of_body Bd
  obtain ⟨t, h1, o, h2, h3, h4⟩ := body p e s m below meth c s₁ s.vm h0.size hZ e0 X0 Bd.exec Bd.bytes hml (findClass_of_methodNamed Bd.named) (name_of_methodNamed Bd.named Bd.method).1 Bd.returns Bd.notSynchronized ((State.WarmedH.refl s).since _) (Nat.le_refl _) hCH (by rw [hh]; exact CHr.refl hCH)
  exact ⟨t, o, h1, h2, h3, h4⟩
section
variable {p : Program} {l : Launch} {e : Env} {R : Room} {s : State} {m : MethodId} {args : Array Value} {below : List Frame} {meth : Method} {c : Code} {T : State} {locs : List Loc} {cells slots : Nat} {Z : State} {a0 : Array Value} {h : Heap} {vm0 : Vm} {k0 : Nat} {EL : List (String × Nat)}
theorem finW {Q : Option Value → Heap → List Loc → Prop} {kc ks : Nat} {v : Option Value} {S : State} (X : Stand p l e R (s.setVm vm0) m args below meth c T locs cells slots) (hZ : Z.Warmed39 vm0) (hS : s.Since vm0 k0) (eT : T.heap = h) (hk : k0 ≤ h.size) (hEL : EW Z a0 EL) (CH : CHv Z EL vm0 h) (CR : CHr Z EL s.vm s.heap vm0 h)
    (hv : meth.sig.returnType = none → v = none) (hlk : meth.locks = false) (hq : Q v T.heap locs) (hc : cells ≤ kc) (hs : slots ≤ ks)
    (st : ∀ fs, (∀ (f : JFrame) (acts : List Action), f.method = m → f.locked = none → f.entered = [] → (doReturn e (T.setTop f) acts v).1 = T.setFrames fs) → Steps p.tables e below S (T.setFrames fs)) : Go p.tables e below (FineW Z EL s below Q kc ks) S := by
  obtain ⟨fs, hr, hrun, hended, hRE⟩ := X.leaveW hS (by rw [eT]; exact hk) hv hlk
  refine ⟨_, st fs hr, _, hrun, hended, v, locs, rfl, hq, ?_, hRE.1, hRE.2.1, hRE.2.2.1, hRE.2.2.2.mono hc hs⟩
  have q := CR.trans (CHv.at X hZ hEL CH)
  rw [← eT] at q
  exact q
theorem endWW {Q : Option Value → Heap → List Loc → Prop} {kc ks : Nat} (X : Stand p l e R (s.setVm vm0) m args below meth c T locs cells slots) (hx : p.tables.exec = Jvm.exec) (hlk : meth.locks = false) (hZ : Z.Warmed39 vm0) (hS : s.Since vm0 k0) (eT : T.heap = h) (hk : k0 ≤ h.size) (hEL : EW Z a0 EL) (CH : CHv Z EL vm0 h) (CR : CHr Z EL s.vm s.heap vm0 h) {pc : Nat} {Ls : Array Slot} {w : Value} {t : FieldType} {i : Instr} {rest : List Value} (hret : meth.sig.returnType = some t) (hn : narrow t w = w)
    (hi : (i = .ireturn ∧ (t = .int ∨ t = .boolean ∨ t = .byte ∨ t = .char ∨ t = .short) ∧ ∃ z, w = .int z) ∨ (i = .lreturn ∧ t = .long ∧ ∃ z, w = .long z) ∨ (i = .dreturn ∧ t = .double ∧ ∃ z, w = .double z) ∨ (i = .freturn ∧ t = .float ∧ ∃ z, w = .float z) ∨ (i = .areturn ∧ t.isReference = true ∧ w.isRef = true))
    (hd : decode c.code pc = .ok (i, 1)) (hq : Q (some w) T.heap locs) (hc : cells ≤ kc) (hs : slots ≤ ks) : Go p.tables e below (FineW Z EL s below Q kc ks) (T.setTop (mkF m pc Ls (w :: rest))) :=
  finW X hZ hS eT hk hEL CH CR (fun h => by rw [hret] at h; cases h) hlk hq hc hs fun fs hr => retOut X hx hret hn hi hd hr
theorem endRW {Q : Option Value → Heap → List Loc → Prop} {kc ks : Nat} (X : Stand p l e R (s.setVm vm0) m args below meth c T locs cells slots) (hx : p.tables.exec = Jvm.exec) (hlk : meth.locks = false) (hZ : Z.Warmed39 vm0) (hS : s.Since vm0 k0) (eT : T.heap = h) (hk : k0 ≤ h.size) (hEL : EW Z a0 EL) (CH : CHv Z EL vm0 h) (CR : CHr Z EL s.vm s.heap vm0 h) {pc : Nat} {Ls : Array Slot} {w : Value} {t : FieldType} {rest : List Value} (hret : meth.sig.returnType = some t) (ht : t.isReference = true) (hw : w.isRef = true)
    (hd : decode c.code pc = .ok (.areturn, 1)) (hq : Q (some w) T.heap locs) (hc : cells ≤ kc) (hs : slots ≤ ks) : Go p.tables e below (FineW Z EL s below Q kc ks) (T.setTop (mkF m pc Ls (w :: rest))) :=
  endWW X hx hlk hZ hS eT hk hEL CH CR hret (by cases w <;> first | rfl | (cases t <;> first | rfl | cases ht) | cases hw) (Or.inr (Or.inr (Or.inr (Or.inr ⟨rfl, ht, hw⟩)))) hd hq hc hs
theorem endNW {Q : Option Value → Heap → List Loc → Prop} {kc ks : Nat} (X : Stand p l e R (s.setVm vm0) m args below meth c T locs cells slots) (hx : p.tables.exec = Jvm.exec) (hlk : meth.locks = false) (hZ : Z.Warmed39 vm0) (hS : s.Since vm0 k0) (eT : T.heap = h) (hk : k0 ≤ h.size) (hEL : EW Z a0 EL) (CH : CHv Z EL vm0 h) (CR : CHr Z EL s.vm s.heap vm0 h) {pc : Nat} {Ls : Array Slot} {z w : Int32} {t : FieldType} {rest : List Value} (hret : meth.sig.returnType = some t) (ht : t = .boolean ∨ t = .byte ∨ t = .char ∨ t = .short)
    (hd : decode c.code pc = .ok (.ireturn, 1)) (hz : nar t z = w) (hq : Q (some (.int w)) T.heap locs) (hc : cells ≤ kc) (hs : slots ≤ ks) : Go p.tables e below (FineW Z EL s below Q kc ks) (T.setTop (mkF m pc Ls (.int z :: rest))) := by
  subst hz
  exact finW X hZ hS eT hk hEL CH CR (fun h => by rw [hret] at h; cases h) hlk hq hc hs fun fs hr => retN X hx hret ht hd hr
theorem endVW {Q : Option Value → Heap → List Loc → Prop} {kc ks : Nat} (X : Stand p l e R (s.setVm vm0) m args below meth c T locs cells slots) (hx : p.tables.exec = Jvm.exec) (hlk : meth.locks = false) (hZ : Z.Warmed39 vm0) (hS : s.Since vm0 k0) (eT : T.heap = h) (hk : k0 ≤ h.size) (hEL : EW Z a0 EL) (CH : CHv Z EL vm0 h) (CR : CHr Z EL s.vm s.heap vm0 h) {pc : Nat} {Ls : Array Slot} (hret : meth.sig.returnType = none)
    (hd : decode c.code pc = .ok (.return_, 1)) (hq : Q none T.heap locs) (hc : cells ≤ kc) (hs : slots ≤ ks) : Go p.tables e below (FineW Z EL s below Q kc ks) (T.setTop (mkF m pc Ls [])) :=
  finW X hZ hS eT hk hEL CH CR (fun _ => rfl) hlk hq hc hs fun fs hr => X.returnOut hx hret hd hr
theorem callInW (X : Stand p l e R (s.setVm vm0) m args below meth c T locs cells slots) (hx : p.tables.exec = Jvm.exec) (hZ : Z.Warmed39 vm0) {own : String} {index : Nat} {y : MethodName} {bytes : ByteArray} {maxL : Nat} {rm : Room} {Q : Option Value → Heap → List Loc → Prop} {a : Addr} {argsL rest : List Value} (hy1 : y.name = "<init>")
    (hown : vm0.findClass own = some m.cls) (w1 : (Cond.methodLink own index y).before a0 Z = true) (w2 : (Cond.instanceMethod y).before a0 Z = true) (w3 : (Cond.initialized y.cls).before a0 Z = true) (w4 : (Cond.code y bytes maxL none).before a0 Z = true) (hy : y.cls ≠ "java/lang/invoke/MethodHandle" ∧ y.cls ≠ "java/lang/invoke/VarHandle")
    (hM : ConH l Z EL y bytes maxL none [] rm (.ref a :: argsL).toArray h Q) (eT : T.heap = h) (hEL : EW Z a0 EL) (CH : CHv Z EL vm0 h) (hS : s.Since vm0 k0) (hk : k0 ≤ h.size) (W : Nat) (hf : rm.frames + 1 ≤ R.frames) (hl : W + (maxL + 11) + rm.locals ≤ R.locals) (hcc : cells + rm.cells ≤ R.cells) (hss : slots + rm.slots ≤ R.slots)
    {g : JFrame} (hg : g.method = m) (hsize : g.locals.size = c.maxLocals) (hlen : ∀ sig, parseMethodDescriptor y.desc = some sig → argsL.length = sig.parameters.length)
    (hstack : g.stack = argsL.reverse ++ .ref a :: rest) (hW : 2 * g.monitorRoom + (rest.map fun v => v.category).sum ≤ W) (hd : decode c.code g.pc = .ok (.invokespecial index, 3)) :
    ∃ v T' L, Stand p l e R (s.setVm T'.vm) m args below meth c T' (locs ++ L) (cells + rm.cells) (slots + rm.slots) ∧ Q v T'.heap L ∧ CHr Z EL vm0 h T'.vm T'.heap ∧ s.Since T'.vm T'.heap.size ∧ Z.Warmed39 T'.vm ∧ T'.vm.findClass own = some m.cls ∧ ∀ target, Steps p.tables e below (T'.setTop { g with pc := g.pc + 3, stack := v.toList ++ rest }) target → Steps p.tables e below (T.setTop g) target := by
  obtain ⟨v, vm1, ⟨T', L', k', n'⟩, -, X', hS2, hgr, ⟨L, hQ, l1, l2, l3, hC⟩, st⟩ := X.specialBackS hx hy1 hown (mvT (s := s.setVm vm0) hZ w1) (mvT (s := s.setVm vm0) hZ w2) (mvT (s := s.setVm vm0) hZ w4) hy (backOfSH (Q := Q) (W := W) hM hZ w4 w3 hf hl hEL CH) hg hsize (Steps.refl _) hlen hstack hW hd (fun _ _ => ⟨rfl, eT, hcc, hss⟩)
  (try dsimp only at X' l1 l2 l3 st hQ hC hS2 hgr)
  subst l1 l2 l3
  obtain ⟨Y, hS3, hZ3, hown3⟩ := rebS hS (n1 := T.heap.size) (by rw [eT]; exact hk) X' hS2 hgr hZ hown
  exact ⟨v, T', L, Y, hQ, hC, hS3, hZ3, hown3, fun target k => st.trans k⟩
theorem callViW (X : Stand p l e R (s.setVm vm0) m args below meth c T locs cells slots) (hx : p.tables.exec = Jvm.exec) (hZ : Z.Warmed39 vm0) {own C : String} {index : Nat} {y z : MethodName} {bytes : ByteArray} {maxL : Nat} {ret : Option FieldType} {rm : Room} {Q : Option Value → Heap → List Loc → Prop} {a : Addr} {argsL rest : List Value}
    (hown : vm0.findClass own = some m.cls) (w1 : (Cond.methodLink own index y).before a0 Z = true) (w2 : (Cond.declares y).before a0 Z = true) (nf : NotFace (s.setVm vm0) y) (w3 : (Cond.selects C y z).before a0 Z = true) (w4 : (Cond.instanceMethod z).before a0 Z = true) (w5 : (Cond.initialized z.cls).before a0 Z = true) (w6 : (Cond.code z bytes maxL ret).before a0 Z = true) (hy : y.cls ≠ "java/lang/invoke/MethodHandle" ∧ y.cls ≠ "java/lang/invoke/VarHandle")
    (hyz : z.desc = y.desc) (E : Exa Z h a C) (hM : ConH l Z EL z bytes maxL ret [] rm (.ref a :: argsL).toArray h Q) (eT : T.heap = h) (hEL : EW Z a0 EL) (CH : CHv Z EL vm0 h) (hS : s.Since vm0 k0) (hk : k0 ≤ h.size) (W : Nat) (hf : rm.frames + 1 ≤ R.frames) (hl : W + (maxL + 11) + rm.locals ≤ R.locals) (hcc : cells + rm.cells ≤ R.cells) (hss : slots + rm.slots ≤ R.slots)
    {g : JFrame} (hg : g.method = m) (hsize : g.locals.size = c.maxLocals) (hlen : ∀ sig, parseMethodDescriptor y.desc = some sig → argsL.length = sig.parameters.length)
    (hstack : g.stack = argsL.reverse ++ .ref a :: rest) (hW : 2 * g.monitorRoom + (rest.map fun v => v.category).sum ≤ W) (hd : decode c.code g.pc = .ok (.invokevirtual index, 3)) :
    ∃ v T' L, Stand p l e R (s.setVm T'.vm) m args below meth c T' (locs ++ L) (cells + rm.cells) (slots + rm.slots) ∧ Q v T'.heap L ∧ CHr Z EL vm0 h T'.vm T'.heap ∧ s.Since T'.vm T'.heap.size ∧ Z.Warmed39 T'.vm ∧ T'.vm.findClass own = some m.cls ∧ ∀ target, Steps p.tables e below (T'.setTop { g with pc := g.pc + 3, stack := v.toList ++ rest }) target → Steps p.tables e below (T.setTop g) target := by
  obtain ⟨cq, kq, qa, qb, qc⟩ := isOf (s := s.setVm vm0) hZ eT E
  obtain ⟨v, vm1, ⟨T', L', k', n'⟩, -, X', hS2, hgr, ⟨L, hQ, l1, l2, l3, hC⟩, st⟩ := X.virtualBackS hx (y := y) (z := z) hown (mvT (s := s.setVm vm0) hZ w1) (mvT (s := s.setVm vm0) hZ w2) nf (mvT (s := s.setVm vm0) hZ w3) (mvT (s := s.setVm vm0) hZ w4) hy (backOfSH (Q := Q) (W := W) hM hZ w6 w5 hf hl hEL CH) qa qc hg hsize (Steps.refl _) hlen hstack hW hd (fun _ _ => ⟨rfl, eT, hcc, hss⟩)
  (try dsimp only at X' l1 l2 l3 st hQ hC hS2 hgr)
  subst l1 l2 l3
  obtain ⟨Y, hS3, hZ3, hown3⟩ := rebS hS (n1 := T.heap.size) (by rw [eT]; exact hk) X' hS2 hgr hZ hown
  exact ⟨v, T', L, Y, hQ, hC, hS3, hZ3, hown3, fun target k => st.trans k⟩
end
end Jvm.OwnKit
namespace Jvm.Pilot.@@N@@
open Jvm Jvm.ClassFile Sem Op Lib Jvm.Free Jvm.Stand Jvm.LawKit Jvm.RoadKit Jvm.OwnKit Bundle Jvm.Pilot.@@N@@.Jvm.D
theorem own_nar (x : Int32) (h : 0 ≤ x.toInt ∧ x.toInt ≤ 255) : nar .char x = x := by
  have q := c_i2c x
  apply Int32.toInt_inj.mp
  show (x.toUInt32.toUInt16.toUInt32.toInt32).toInt = x.toInt
  omega
theorem own_ch (z v : Int32) (h : ((z &&& (255 : Int32)).toUInt32.toUInt16.toUInt32.toInt32) = v) : ¬ v < (0 : Int32) ∧ ¬ (255 : Int32) < v ∧ nar .char v = v := by
  have q := c_and z 255 (by decide)
  have e0 : (0 : Int32).toInt = 0 := rfl
  have e5 : (255 : Int32).toInt = 255 := rfl
  have r := c_i2c (z &&& 255)
  rw [h] at r
  have e : 0 ≤ v.toInt ∧ v.toInt ≤ 255 := by omega
  refine ⟨?_, ?_, own_nar _ e⟩ <;> rw [Int32.lt_iff_toInt_lt] <;> omega
def csL (l : List Int32) (k : Nat) : Int32 := l.getD k 0
set_option maxRecDepth 65536
set_option maxHeartbeats 40000000
abbrev SS0 (Z : State) (zc : Int32) : Prop := Sta Z Z.heap "java/lang/String" "COMPACT_STRINGS" "Z" (.int zc)
abbrev SS1 (Z : State) (sv : Value) : Prop := Sta Z Z.heap "jdk/internal/util/Preconditions" "SIOOBE_FORMATTER" "Ljava/util/function/BiFunction;" sv
abbrev SS2 (Z : State) : Prop := Sta Z Z.heap "java/lang/StringUTF16" "$assertionsDisabled" "Z" (.int (1 : Int32))
abbrev SS3 (Z : State) : Prop := Sta Z Z.heap "java/lang/StringUTF16" "HI_BYTE_SHIFT" "I" (.int (0 : Int32))
abbrev SS4 (Z : State) : Prop := Sta Z Z.heap "java/lang/StringUTF16" "LO_BYTE_SHIFT" "I" (.int (8 : Int32))
abbrev HWt (Z : State) (a0 : Array Value) : Prop := ∀ d ∈ tables_1, d.before a0 Z = true
theorem wk {Z : State} {a0 : Array Value} (hw : HWt Z a0) (i : Nat) {d : Jvm.Cond} (h : tables_1[i]? = some d) : d.before a0 Z = true := hw d (List.mem_of_getElem? h)
abbrev k_0 : String := "com/example/crossname/crossname/access/ItemName"
abbrev k_1 : String := "com/example/crossname/crossname/access/ResourceNameForm"
abbrev k_2 : String := "com/example/crossname/crossname/access/Version"
abbrev k_4 : String := "com/example/crossname/crossname/store/Records$Output"
abbrev k_5 : String := "com/example/crossname/crossname/store/RecordsIsDeletedItemPinLaw"
abbrev k_6 : String := "java/io/ByteArrayOutputStream"
abbrev k_8 : String := "java/lang/AbstractStringBuilder"
abbrev k_14 : String := "java/lang/String"
abbrev k_15 : String := "java/lang/StringBuilder"
abbrev y_1 : MethodName := ⟨"com/example/crossname/crossname/store/RecordsIsDeletedItemPinLaw", "bytesOf", "(II)[B"⟩
abbrev y_2 : MethodName := ⟨"com/example/crossname/crossname/store/Records", "isDeletedItem", "([B)Z"⟩
abbrev y_3 : MethodName := ⟨"java/lang/String", "valueOf", "(C)Ljava/lang/String;"⟩
abbrev y_4 : MethodName := ⟨"java/lang/StringLatin1", "canEncode", "(C)Z"⟩
abbrev y_5 : MethodName := ⟨"java/lang/StringLatin1", "toBytes", "(C)[B"⟩
abbrev y_6 : MethodName := ⟨"java/lang/String", "<init>", "([BB)V"⟩
abbrev y_8 : MethodName := ⟨"com/example/crossname/crossname/access/ItemName", "<init>", "(Ljava/lang/String;Ljava/lang/String;)V"⟩
abbrev y_9 : MethodName := ⟨"java/lang/Record", "<init>", "()V"⟩
abbrev y_10 : MethodName := ⟨"com/example/crossname/crossname/access/ResourceNameForm", "check", "(Ljava/lang/String;Ljava/lang/String;)V"⟩
abbrev y_11 : MethodName := ⟨"com/example/crossname/crossname/access/ResourceNameForm", "checkParentId", "(Ljava/lang/String;)V"⟩
abbrev y_12 : MethodName := ⟨"java/util/Objects", "requireNonNull", "(Ljava/lang/Object;Ljava/lang/String;)Ljava/lang/Object;"⟩
abbrev y_13 : MethodName := ⟨"java/lang/String", "isEmpty", "()Z"⟩
abbrev y_14 : MethodName := ⟨"java/lang/String", "indexOf", "(I)I"⟩
abbrev y_15 : MethodName := ⟨"java/lang/String", "indexOf", "(II)I"⟩
abbrev y_16 : MethodName := ⟨"java/lang/String", "isLatin1", "()Z"⟩
abbrev y_17 : MethodName := ⟨"java/lang/String", "length", "()I"⟩
abbrev y_18 : MethodName := ⟨"java/lang/String", "coder", "()B"⟩
abbrev y_19 : MethodName := ⟨"java/lang/StringLatin1", "indexOf", "([BIII)I"⟩
abbrev y_20 : MethodName := ⟨"java/lang/StringLatin1", "canEncode", "(I)Z"⟩
abbrev y_21 : MethodName := ⟨"java/lang/Math", "max", "(II)I"⟩
abbrev y_22 : MethodName := ⟨"java/lang/Math", "min", "(II)I"⟩
abbrev y_23 : MethodName := ⟨"java/lang/StringLatin1", "indexOfChar", "([BIII)I"⟩
abbrev y_24 : MethodName := ⟨"com/example/crossname/crossname/access/ResourceNameForm", "format", "(Ljava/lang/String;Ljava/lang/String;)Ljava/lang/String;"⟩
abbrev y_25 : MethodName := ⟨"java/lang/StringBuilder", "<init>", "()V"⟩
abbrev y_26 : MethodName := ⟨"java/lang/AbstractStringBuilder", "<init>", "(I)V"⟩
abbrev y_27 : MethodName := ⟨"java/lang/StringBuilder", "append", "(Ljava/lang/String;)Ljava/lang/StringBuilder;"⟩
abbrev y_28 : MethodName := ⟨"java/lang/AbstractStringBuilder", "append", "(Ljava/lang/String;)Ljava/lang/AbstractStringBuilder;"⟩
abbrev y_29 : MethodName := ⟨"java/lang/AbstractStringBuilder", "ensureCapacityInternal", "(I)V"⟩
abbrev y_30 : MethodName := ⟨"java/lang/AbstractStringBuilder", "putStringAt", "(ILjava/lang/String;)V"⟩
abbrev y_31 : MethodName := ⟨"java/lang/AbstractStringBuilder", "inflateIfNeededFor", "(Ljava/lang/String;)V"⟩
abbrev y_32 : MethodName := ⟨"java/lang/String", "getBytes", "([BIB)V"⟩
abbrev y_33 : MethodName := ⟨"java/lang/AbstractStringBuilder", "newCapacity", "(I)I"⟩
abbrev y_34 : MethodName := ⟨"jdk/internal/util/ArraysSupport", "newLength", "(III)I"⟩
abbrev y_35 : MethodName := ⟨"java/util/Arrays", "copyOf", "([BI)[B"⟩
abbrev y_36 : MethodName := ⟨"java/lang/StringBuilder", "toString", "()Ljava/lang/String;"⟩
abbrev y_37 : MethodName := ⟨"java/lang/String", "<init>", "(Ljava/lang/StringBuilder;)V"⟩
abbrev y_38 : MethodName := ⟨"java/lang/String", "<init>", "(Ljava/lang/AbstractStringBuilder;Ljava/lang/Void;)V"⟩
abbrev y_39 : MethodName := ⟨"java/lang/AbstractStringBuilder", "getValue", "()[B"⟩
abbrev y_40 : MethodName := ⟨"java/lang/StringBuilder", "length", "()I"⟩
abbrev y_41 : MethodName := ⟨"java/lang/AbstractStringBuilder", "length", "()I"⟩
abbrev y_42 : MethodName := ⟨"java/lang/AbstractStringBuilder", "isLatin1", "()Z"⟩
abbrev y_43 : MethodName := ⟨"java/util/Arrays", "copyOfRange", "([BII)[B"⟩
abbrev y_44 : MethodName := ⟨"java/util/Arrays", "copyOfRangeByte", "([BII)[B"⟩
abbrev y_45 : MethodName := ⟨"java/util/Arrays", "checkLength", "(II)V"⟩
abbrev y_46 : MethodName := ⟨"java/lang/String", "codePointCount", "(II)I"⟩
abbrev y_47 : MethodName := ⟨"java/util/Objects", "checkFromToIndex", "(III)I"⟩
abbrev y_48 : MethodName := ⟨"jdk/internal/util/Preconditions", "checkFromToIndex", "(IIILjava/util/function/BiFunction;)I"⟩
abbrev y_49 : MethodName := ⟨"com/example/crossname/crossname/access/Version", "<init>", "([B)V"⟩
abbrev y_50 : MethodName := ⟨"com/example/crossname/crossname/store/Records", "deletedItem", "(Lcom/example/crossname/crossname/access/ItemName;Lcom/example/crossname/crossname/access/Version;)[B"⟩
abbrev y_51 : MethodName := ⟨"com/example/crossname/crossname/store/Records$Output", "<init>", "()V"⟩
abbrev y_52 : MethodName := ⟨"java/io/ByteArrayOutputStream", "<init>", "()V"⟩
abbrev y_53 : MethodName := ⟨"java/io/ByteArrayOutputStream", "<init>", "(I)V"⟩
abbrev y_54 : MethodName := ⟨"java/io/OutputStream", "<init>", "()V"⟩
abbrev y_55 : MethodName := ⟨"com/example/crossname/crossname/store/Records$Output", "tag", "(B)V"⟩
abbrev y_56 : MethodName := ⟨"java/io/ByteArrayOutputStream", "write", "(I)V"⟩
abbrev y_57 : MethodName := ⟨"java/io/ByteArrayOutputStream", "ensureCapacity", "(I)V"⟩
abbrev y_58 : MethodName := ⟨"com/example/crossname/crossname/store/Records$Output", "itemName", "(Lcom/example/crossname/crossname/access/ItemName;)V"⟩
abbrev y_59 : MethodName := ⟨"com/example/crossname/crossname/access/ItemName", "dataSource", "()Ljava/lang/String;"⟩
abbrev y_60 : MethodName := ⟨"com/example/crossname/crossname/store/Records$Output", "string", "(Ljava/lang/String;)V"⟩
abbrev y_61 : MethodName := ⟨"com/example/crossname/crossname/store/Records$Output", "count", "(I)V"⟩
abbrev y_62 : MethodName := ⟨"com/example/crossname/crossname/store/Records$Output", "number", "(J)V"⟩
abbrev y_63 : MethodName := ⟨"java/lang/String", "charAt", "(I)C"⟩
abbrev y_64 : MethodName := ⟨"java/lang/StringLatin1", "charAt", "([BI)C"⟩
abbrev y_65 : MethodName := ⟨"java/lang/String", "checkIndex", "(II)V"⟩
abbrev y_66 : MethodName := ⟨"jdk/internal/util/Preconditions", "checkIndex", "(IILjava/util/function/BiFunction;)I"⟩
abbrev y_67 : MethodName := ⟨"com/example/crossname/crossname/access/ItemName", "id", "()Ljava/lang/String;"⟩
abbrev y_68 : MethodName := ⟨"com/example/crossname/crossname/store/Records$Output", "version", "(Lcom/example/crossname/crossname/access/Version;)V"⟩
abbrev y_69 : MethodName := ⟨"com/example/crossname/crossname/access/Version", "bytes", "()[B"⟩
abbrev y_70 : MethodName := ⟨"java/io/ByteArrayOutputStream", "writeBytes", "([B)V"⟩
abbrev y_71 : MethodName := ⟨"java/io/ByteArrayOutputStream", "write", "([BII)V"⟩
abbrev y_72 : MethodName := ⟨"java/util/Objects", "checkFromIndexSize", "(III)I"⟩
abbrev y_73 : MethodName := ⟨"jdk/internal/util/Preconditions", "checkFromIndexSize", "(IIILjava/util/function/BiFunction;)I"⟩
abbrev y_74 : MethodName := ⟨"com/example/crossname/crossname/store/Records$Output", "bytes", "()[B"⟩
abbrev y_75 : MethodName := ⟨"java/io/ByteArrayOutputStream", "toByteArray", "()[B"⟩
abbrev y_76 : MethodName := ⟨"java/lang/StringUTF16", "toBytes", "(C)[B"⟩
abbrev y_77 : MethodName := ⟨"java/lang/StringUTF16", "putChar", "([BII)V"⟩
abbrev y_78 : MethodName := ⟨"java/lang/AbstractStringBuilder", "inflate", "()V"⟩
abbrev y_79 : MethodName := ⟨"java/lang/StringUTF16", "newBytesFor", "(I)[B"⟩
abbrev y_80 : MethodName := ⟨"java/lang/StringUTF16", "newBytesLength", "(I)I"⟩
abbrev y_81 : MethodName := ⟨"java/lang/StringLatin1", "inflate", "([BI[BII)V"⟩
abbrev y_82 : MethodName := ⟨"java/lang/StringUTF16", "inflate", "([BI[BII)V"⟩
abbrev y_83 : MethodName := ⟨"java/lang/StringUTF16", "checkBoundsOffCount", "(II[B)V"⟩
abbrev y_84 : MethodName := ⟨"java/lang/StringUTF16", "length", "([B)I"⟩
abbrev y_85 : MethodName := ⟨"java/lang/String", "checkBoundsOffCount", "(III)I"⟩
abbrev y_86 : MethodName := ⟨"java/lang/StringUTF16", "codePointCount", "([BII)I"⟩
abbrev y_87 : MethodName := ⟨"java/lang/StringUTF16", "codePointCount", "([BIIZ)I"⟩
abbrev y_88 : MethodName := ⟨"java/lang/StringUTF16", "getChar", "([BI)C"⟩
abbrev y_89 : MethodName := ⟨"java/lang/Character", "isHighSurrogate", "(C)Z"⟩
abbrev y_90 : MethodName := ⟨"java/lang/StringUTF16", "charAt", "([BI)C"⟩
abbrev y_91 : MethodName := ⟨"java/lang/StringUTF16", "checkIndex", "(I[B)V"⟩
abbrev dk (b : ByteArray) (p : Nat) (i : Instr) (n : Nat) : Prop := decode b p = .ok (i, n)
abbrev b_18 : ByteArray := jdk_42_method_152_code
theorem d18_0 : dk b_18 0 (.getstatic 38) 3 := by decide +kernel
theorem d18_3 : dk b_18 3 (.ifCond .eq 10) 3 := by decide +kernel
theorem d18_6 : dk b_18 6 (.aload_n 0) 1 := by decide +kernel
theorem d18_7 : dk b_18 7 (.getfield 15) 3 := by decide +kernel
theorem d18_10 : dk b_18 10 (.goto 4) 3 := by decide +kernel
theorem d18_14 : dk b_18 14 (.ireturn) 1 := by decide +kernel
abbrev r_rm18 : Room := { frames := 0, cells := 0, slots := 0, locals := 0 }
theorem pn_rm18 : plainName "java/lang/String" = true := by first | (simp [plainName, overriddenIn]; done) | decide +kernel
theorem ef_rm18 (m : MethodId) (a1 : Addr) : entryFrame m #[(.ref a1)] 1 = mkF m 0 #[.val (.ref a1)] [] := by first | (simp [entryFrame, mkF, argsToLocals, Value.category]; done) | rfl
def Q18 (Z : State) (a1 : Addr) (zc : Int32) (h0 : Heap) (n0 : Nat) (v : Option Value) (h : Heap) (L : List Loc) : Prop := v = some (.int (0 : Int32)) ∧ L = [] ∧ h = h0
theorem rm18 (l : Launch) (Z : State) (a0 : Array Value) (hw : HWt Z a0) (ws : List Jvm.Cond) (a1 : Addr) (zc : Int32) (h0 : Heap) (n0 : Nat) (Z0 : n0 ≤ h0.size) (zaa : Fld Z h0 a1 k_14 "coder" "B" (.int (0 : Int32))) (SC : SS0 Z zc) (hzc : ¬ zc = (0 : Int32)) (O : Old Z n0 h0) :
    Con l Z y_18 jdk_42_method_152_code 1 (some .byte) ws r_rm18 #[(.ref a1)] h0 (Q18 Z a1 zc h0 n0) := by
  refine Con.of2 (plainFor_of_name pn_rm18) ?_
  intro p e s m below meth c s₁ hZ e0 X0 hx hby hml hown hnm hret hlk PP hPP
  have N0 := Fr.nil n0
  refine Go.cast (ef_rm18 m a1) ?_
  have Zn : n0 ≤ h0.size := Z0
  obtain ⟨T1, X1, e1, st1⟩ := getS2 X0 hx hZ hown (host := "") (Or.inl (wk hw 16 rfl)) Via.refl e0 (SC.ext O.2) (g := (mkF m 0 #[.val (.ref a1)] [])) rfl (hb hby d18_0)
  refine Go.st st1 ?_
  refine Go.st (fun t k => XS.ifNo X1.here hx rfl (hb hby d18_3) rfl (XT.i0_eq_f hzc) (XS.aloadN X1.here hx rfl (hb hby d18_6) rfl rfl k)) ?_
  obtain ⟨T2, X2, e2, st2⟩ := getF X1 hx hZ hown (host := "") (Or.inl (wk hw 35 rfl)) Via.refl e1 zaa (g := (mkF m 7 #[.val (.ref a1)] [(.ref a1)])) rfl rfl (hb hby d18_7)
  refine Go.st st2 ?_
  refine Go.st (fun t k => XS.goto X2.here hx rfl (pc0 := 10) (pc' := 14) rfl (hb hby d18_10) (by decide) (by decide) k) ?_
  show Go p.tables e below PP (T2.setTop (mkF m 14 #[.val (.ref a1)] [(.int (0 : Int32))]))
  rw [hPP]
  refine endN X2 hx hlk (t := .byte) hret (by simp) (hb hby d18_14) (w := (0 : Int32)) (rfl) ?_ (by decide) (by decide)
  rw [e2]
  exact ⟨rfl, rfl, rfl⟩
abbrev b_16 : ByteArray := jdk_42_method_154_code
theorem d16_0 : dk b_16 0 (.getstatic 38) 3 := by decide +kernel
theorem d16_3 : dk b_16 3 (.ifCond .eq 14) 3 := by decide +kernel
theorem d16_6 : dk b_16 6 (.aload_n 0) 1 := by decide +kernel
theorem d16_7 : dk b_16 7 (.getfield 15) 3 := by decide +kernel
theorem d16_10 : dk b_16 10 (.ifCond .ne 7) 3 := by decide +kernel
theorem d16_13 : dk b_16 13 (.iconst 1) 1 := by decide +kernel
theorem d16_14 : dk b_16 14 (.goto 4) 3 := by decide +kernel
theorem d16_17 : dk b_16 17 (.iconst 0) 1 := by decide +kernel
theorem d16_18 : dk b_16 18 (.ireturn) 1 := by decide +kernel
abbrev r_rm16 : Room := { frames := 0, cells := 0, slots := 0, locals := 0 }
def Q16 (Z : State) (a1 : Addr) (zc : Int32) (h0 : Heap) (n0 : Nat) (v : Option Value) (h : Heap) (L : List Loc) : Prop := v = some (.int (1 : Int32)) ∧ L = [] ∧ h = h0
theorem rm16 (l : Launch) (Z : State) (a0 : Array Value) (hw : HWt Z a0) (ws : List Jvm.Cond) (a1 : Addr) (zc : Int32) (h0 : Heap) (n0 : Nat) (Z0 : n0 ≤ h0.size) (zaa : Fld Z h0 a1 k_14 "coder" "B" (.int (0 : Int32))) (SC : SS0 Z zc) (hzc : ¬ zc = (0 : Int32)) (O : Old Z n0 h0) :
    Con l Z y_16 jdk_42_method_154_code 1 (some .boolean) ws r_rm16 #[(.ref a1)] h0 (Q16 Z a1 zc h0 n0) := by
  refine Con.of2 (plainFor_of_name pn_rm18) ?_
  intro p e s m below meth c s₁ hZ e0 X0 hx hby hml hown hnm hret hlk PP hPP
  have N0 := Fr.nil n0
  refine Go.cast (ef_rm18 m a1) ?_
  have Zn : n0 ≤ h0.size := Z0
  obtain ⟨T1, X1, e1, st1⟩ := getS2 X0 hx hZ hown (host := "") (Or.inl (wk hw 16 rfl)) Via.refl e0 (SC.ext O.2) (g := (mkF m 0 #[.val (.ref a1)] [])) rfl (hb hby d16_0)
  refine Go.st st1 ?_
  refine Go.st (fun t k => XS.ifNo X1.here hx rfl (hb hby d16_3) rfl (XT.i0_eq_f hzc) (XS.aloadN X1.here hx rfl (hb hby d16_6) rfl rfl k)) ?_
  obtain ⟨T2, X2, e2, st2⟩ := getF X1 hx hZ hown (host := "") (Or.inl (wk hw 35 rfl)) Via.refl e1 zaa (g := (mkF m 7 #[.val (.ref a1)] [(.ref a1)])) rfl rfl (hb hby d16_7)
  refine Go.st st2 ?_
  refine Go.st (fun t k => XS.ifNo X2.here hx rfl (hb hby d16_10) rfl (XT.i0_ne_f (by decide)) (XS.iconst X2.here hx rfl (hb hby d16_13) (XS.goto X2.here hx rfl (pc0 := 14) (pc' := 18) rfl (hb hby d16_14) (by decide) (by decide) k))) ?_
  show Go p.tables e below PP (T2.setTop (mkF m 18 #[.val (.ref a1)] [(.int (1 : Int32))]))
  rw [hPP]
  refine endN X2 hx hlk (t := .boolean) hret (by simp) (hb hby d16_18) (w := (1 : Int32)) (rfl) ?_ (by decide) (by decide)
  rw [e2]
  exact ⟨rfl, rfl, rfl⟩
theorem own_shr0 (n : Int32) : n >>> ((0 : Int32) &&& 31) = n := Int32.toInt_inj.mp (by rw [c_ishr n 0 0 (by decide)]; simp)
abbrev b_17 : ByteArray := jdk_42_method_54_code
theorem d17_0 : dk b_17 0 (.aload_n 0) 1 := by decide +kernel
theorem d17_1 : dk b_17 1 (.getfield 9) 3 := by decide +kernel
theorem d17_4 : dk b_17 4 (.arraylength) 1 := by decide +kernel
theorem d17_5 : dk b_17 5 (.aload_n 0) 1 := by decide +kernel
theorem d17_6 : dk b_17 6 (.invokevirtual 335) 3 := by decide +kernel
theorem d17_9 : dk b_17 9 (.ishr) 1 := by decide +kernel
theorem d17_10 : dk b_17 10 (.ireturn) 1 := by decide +kernel
abbrev r_rm17 : Room := { frames := 1, cells := 0, slots := 0, locals := 13 }
def Q17 (Z : State) (a1 : Addr) (t1 : Addr) (n1 : Int32) (f1 : Nat → Int32) (zc : Int32) (h0 : Heap) (n0 : Nat) (v : Option Value) (h : Heap) (L : List Loc) : Prop := v = some (.int n1) ∧ L = [] ∧ h = h0
theorem pd_0 : parseMethodDescriptor "()B" = some ⟨[], some .byte⟩ := by decide +kernel
theorem rm17 (l : Launch) (Z : State) (a0 : Array Value) (hw : HWt Z a0) (ws : List Jvm.Cond) (a1 : Addr) (t1 : Addr) (n1 : Int32) (f1 : Nat → Int32) (zc : Int32) (h0 : Heap) (n0 : Nat) (Z0 : n0 ≤ h0.size) (zab : Fld Z h0 a1 k_14 "value" "[B" (.ref t1)) (zaa : Fld Z h0 a1 k_14 "coder" "B" (.int (0 : Int32))) (V_t1 : Afn Z h0 t1 .byte n1 (fun k => .int (f1 k))) (E_a1 : Exa Z h0 a1 k_14) (SC : SS0 Z zc) (hzc : ¬ zc = (0 : Int32)) (O : Old Z n0 h0) :
    Con l Z y_17 jdk_42_method_54_code 1 (some .int) ws r_rm17 #[(.ref a1)] h0 (Q17 Z a1 t1 n1 f1 zc h0 n0) := by
  refine Con.of2 (plainFor_of_name pn_rm18) ?_
  intro p e s m below meth c s₁ hZ e0 X0 hx hby hml hown hnm hret hlk PP hPP
  have N0 := Fr.nil n0
  refine Go.cast (ef_rm18 m a1) ?_
  have Zn : n0 ≤ h0.size := Z0
  show Go p.tables e below PP (s₁.setTop (mkF m 0 #[.val (.ref a1)] []))
  refine Go.st (fun t k => XS.aloadN X0.here hx rfl (hb hby d17_0) rfl rfl k) ?_
  obtain ⟨T1, X1, e1, st1⟩ := getF X0 hx hZ hown (host := "") (Or.inl (wk hw 33 rfl)) Via.refl e0 zab (g := (mkF m 1 #[.val (.ref a1)] [(.ref a1)])) rfl rfl (hb hby d17_1)
  refine Go.st st1 ?_
  obtain ⟨cl2, Ar2, S2, Nn2, -⟩ := id V_t1
  refine Go.st (fun t k => X1.arraylength hx (by rw [e1]; exact Ar2.1) (State.isArrayOf_alike hZ.alike Ar2.2.1) (g := (mkF m 4 #[.val (.ref a1)] [(.ref t1)])) rfl rfl (hb hby d17_4) _ k) ?_
  rw [len_of S2 Nn2]
  refine Go.st (fun t k => XS.aloadN X1.here hx rfl (hb hby d17_5) rfl rfl k) ?_
  obtain ⟨v3, T3, L3, X3, hQ3, st3⟩ := callVi X1 hx hZ (C := k_14) (y := y_18) (z := y_18) (a := a1) (argsL := []) (rest := [(.int n1)]) hown (wk hw 90 rfl) (wk hw 91 rfl) (notFace_of_selects (args := #[]) (mvT hZ (wk hw 93 rfl))) (wk hw 93 rfl) (wk hw 92 rfl) (wk hw 14 rfl) (wk hw 94 rfl) (by decide) rfl E_a1 (rm18 l Z a0 hw [] a1 zc h0 n0 Zn zaa SC hzc O) e1 1 (by decide) (by decide) (by decide) (by decide) (g := (mkF m 6 #[.val (.ref a1)] [(.ref a1), (.int n1)])) rfl (by rw [hml]; rfl) (lenOf pd_0 rfl) rfl (Nat.le_of_eq rfl) (hb hby d17_6)
  obtain ⟨rfl, rfl, e3⟩ := hQ3
  rw [List.append_nil] at X3
  refine Go.st st3 ?_
  refine Go.st (fun t k => XS.ishr X3.here hx rfl (hb hby d17_9) rfl k) ?_
  show Go p.tables e below PP (T3.setTop (mkF m 10 #[.val (.ref a1)] [(.int (n1 >>> ((0 : Int32) &&& 31)))]))
  rw [hPP]
  refine endI X3 hx hlk hret (hb hby d17_10) ?_ (by decide) (by decide)
  rw [e3]
  exact ⟨by rw [own_shr0], rfl, rfl⟩
abbrev b_20 : ByteArray := jdk_43_method_4_code
theorem d20_0 : dk b_20 0 (.iload_n 0) 1 := by decide +kernel
theorem d20_1 : dk b_20 1 (.ifCond .lt 14) 3 := by decide +kernel
theorem d20_4 : dk b_20 4 (.iload_n 0) 1 := by decide +kernel
theorem d20_5 : dk b_20 5 (.sipush 255) 3 := by decide +kernel
theorem d20_8 : dk b_20 8 (.if_icmp .gt 7) 3 := by decide +kernel
theorem d20_11 : dk b_20 11 (.iconst 1) 1 := by decide +kernel
theorem d20_12 : dk b_20 12 (.goto 4) 3 := by decide +kernel
theorem d20_15 : dk b_20 15 (.iconst 0) 1 := by decide +kernel
theorem d20_16 : dk b_20 16 (.ireturn) 1 := by decide +kernel
abbrev r_rm20 : Room := { frames := 0, cells := 0, slots := 0, locals := 0 }
theorem pn_rm20 : plainName "java/lang/StringLatin1" = true := by first | (simp [plainName, overriddenIn]; done) | decide +kernel
theorem ef_rm20 (m : MethodId) (p1 : Int32) : entryFrame m #[(.int p1)] 1 = mkF m 0 #[.val (.int p1)] [] := by first | (simp [entryFrame, mkF, argsToLocals, Value.category]; done) | rfl
def Q20 (Z : State) (p1 : Int32) (h0 : Heap) (n0 : Nat) (v : Option Value) (h : Heap) (L : List Loc) : Prop := v = some (.int (bi (¬ p1 < (0 : Int32) ∧ ¬ (255 : Int32) < p1))) ∧ L = [] ∧ h = h0
theorem rm20 (l : Launch) (Z : State) (a0 : Array Value) (hw : HWt Z a0) (ws : List Jvm.Cond) (p1 : Int32) (h0 : Heap) (n0 : Nat) (Z0 : n0 ≤ h0.size) :
    Con l Z y_20 jdk_43_method_4_code 1 (some .boolean) ws r_rm20 #[(.int p1)] h0 (Q20 Z p1 h0 n0) := by
  refine Con.of2 (plainFor_of_name pn_rm20) ?_
  intro p e s m below meth c s₁ hZ e0 X0 hx hby hml hown hnm hret hlk PP hPP
  have N0 := Fr.nil n0
  refine Go.cast (ef_rm20 m p1) ?_
  have Zn : n0 ≤ h0.size := Z0
  show Go p.tables e below PP (s₁.setTop (mkF m 0 #[.val (.int p1)] []))
  refine Go.st (fun t k => XS.iloadN X0.here hx rfl (hb hby d20_0) rfl k) ?_
  show Go p.tables e below PP (s₁.setTop (mkF m 1 #[.val (.int p1)] [(.int p1)]))
  by_cases hc1 : p1 < (0 : Int32)
  · --
    refine Go.st (fun t k => XS.ifYes X0.here hx rfl (pc0 := 1) (pc' := 15) rfl (hb hby d20_1) rfl (XT.i0_lt_t hc1) (by decide) (by decide) (XS.iconst X0.here hx rfl (hb hby d20_15) k)) ?_
    show Go p.tables e below PP (s₁.setTop (mkF m 16 #[.val (.int p1)] [(.int (0 : Int32))]))
    rw [hPP]
    refine endN X0 hx hlk (t := .boolean) hret (by simp) (hb hby d20_16) (w := (0 : Int32)) (rfl) ?_ (by decide) (by decide)
    rw [e0]
    exact ⟨by simp [bi, hc1], rfl, rfl⟩
  · --
    refine Go.st (fun t k => XS.ifNo X0.here hx rfl (hb hby d20_1) rfl (XT.i0_lt_f hc1) (XS.iloadN X0.here hx rfl (hb hby d20_4) rfl (XS.sipush X0.here hx rfl (hb hby d20_5) k))) ?_
    show Go p.tables e below PP (s₁.setTop (mkF m 8 #[.val (.int p1)] [(.int (255 : Int32)), (.int p1)]))
    by_cases hc8 : (255 : Int32) < p1
    · --
      refine Go.st (fun t k => XS.icmpYes X0.here hx rfl (pc0 := 8) (pc' := 15) rfl (hb hby d20_8) rfl (XT.ii_gt_t hc8) (by decide) (by decide) (XS.iconst X0.here hx rfl (hb hby d20_15) k)) ?_
      show Go p.tables e below PP (s₁.setTop (mkF m 16 #[.val (.int p1)] [(.int (0 : Int32))]))
      rw [hPP]
      refine endN X0 hx hlk (t := .boolean) hret (by simp) (hb hby d20_16) (w := (0 : Int32)) (rfl) ?_ (by decide) (by decide)
      rw [e0]
      exact ⟨by simp [bi, hc1, hc8], rfl, rfl⟩
    · --
      refine Go.st (fun t k => XS.icmpNo X0.here hx rfl (hb hby d20_8) rfl (XT.ii_gt_f hc8) (XS.iconst X0.here hx rfl (hb hby d20_11) (XS.goto X0.here hx rfl (pc0 := 12) (pc' := 16) rfl (hb hby d20_12) (by decide) (by decide) k))) ?_
      show Go p.tables e below PP (s₁.setTop (mkF m 16 #[.val (.int p1)] [(.int (1 : Int32))]))
      rw [hPP]
      refine endN X0 hx hlk (t := .boolean) hret (by simp) (hb hby d20_16) (w := (1 : Int32)) (rfl) ?_ (by decide) (by decide)
      rw [e0]
      exact ⟨by simp [bi, hc1, hc8], rfl, rfl⟩
abbrev b_22 : ByteArray := jdk_29_method_69_code
theorem d22_0 : dk b_22 0 (.iload_n 0) 1 := by decide +kernel
theorem d22_1 : dk b_22 1 (.iload_n 1) 1 := by decide +kernel
theorem d22_2 : dk b_22 2 (.if_icmp .gt 7) 3 := by decide +kernel
theorem d22_5 : dk b_22 5 (.iload_n 0) 1 := by decide +kernel
theorem d22_6 : dk b_22 6 (.goto 4) 3 := by decide +kernel
theorem d22_9 : dk b_22 9 (.iload_n 1) 1 := by decide +kernel
theorem d22_10 : dk b_22 10 (.ireturn) 1 := by decide +kernel
abbrev r_rm22 : Room := { frames := 0, cells := 0, slots := 0, locals := 0 }
theorem pn_rm22 : plainFor y_22 = true := Jvm.Free.JP.mathPlain rfl (by decide +kernel)
theorem ef_rm22 (m : MethodId) (p1 : Int32) (p2 : Int32) : entryFrame m #[(.int p1), (.int p2)] 2 = mkF m 0 #[.val (.int p1), .val (.int p2)] [] := by first | (simp [entryFrame, mkF, argsToLocals, Value.category]; done) | rfl
def Q22 (Z : State) (p1 : Int32) (p2 : Int32) (h0 : Heap) (n0 : Nat) (v : Option Value) (h : Heap) (L : List Loc) : Prop := v = some (.int (if p2 < p1 then p2 else p1)) ∧ L = [] ∧ h = h0
theorem rm22 (l : Launch) (Z : State) (a0 : Array Value) (hw : HWt Z a0) (ws : List Jvm.Cond) (p1 : Int32) (p2 : Int32) (h0 : Heap) (n0 : Nat) (Z0 : n0 ≤ h0.size) :
    Con l Z y_22 jdk_29_method_69_code 2 (some .int) ws r_rm22 #[(.int p1), (.int p2)] h0 (Q22 Z p1 p2 h0 n0) := by
  refine Con.of2 pn_rm22 ?_
  intro p e s m below meth c s₁ hZ e0 X0 hx hby hml hown hnm hret hlk PP hPP
  have N0 := Fr.nil n0
  refine Go.cast (ef_rm22 m p1 p2) ?_
  have Zn : n0 ≤ h0.size := Z0
  show Go p.tables e below PP (s₁.setTop (mkF m 0 #[.val (.int p1), .val (.int p2)] []))
  refine Go.st (fun t k => XS.iloadN X0.here hx rfl (hb hby d22_0) rfl (XS.iloadN X0.here hx rfl (hb hby d22_1) rfl k)) ?_
  show Go p.tables e below PP (s₁.setTop (mkF m 2 #[.val (.int p1), .val (.int p2)] [(.int p2), (.int p1)]))
  by_cases hc2 : p2 < p1
  · --
    refine Go.st (fun t k => XS.icmpYes X0.here hx rfl (pc0 := 2) (pc' := 9) rfl (hb hby d22_2) rfl (XT.ii_gt_t hc2) (by decide) (by decide) (XS.iloadN X0.here hx rfl (hb hby d22_9) rfl k)) ?_
    show Go p.tables e below PP (s₁.setTop (mkF m 10 #[.val (.int p1), .val (.int p2)] [(.int p2)]))
    rw [hPP]
    refine endI X0 hx hlk hret (hb hby d22_10) ?_ (by decide) (by decide)
    rw [e0]
    exact ⟨by simp [hc2], rfl, rfl⟩
  · --
    refine Go.st (fun t k => XS.icmpNo X0.here hx rfl (hb hby d22_2) rfl (XT.ii_gt_f hc2) (XS.iloadN X0.here hx rfl (hb hby d22_5) rfl (XS.goto X0.here hx rfl (pc0 := 6) (pc' := 10) rfl (hb hby d22_6) (by decide) (by decide) k))) ?_
    show Go p.tables e below PP (s₁.setTop (mkF m 10 #[.val (.int p1), .val (.int p2)] [(.int p1)]))
    rw [hPP]
    refine endI X0 hx hlk hret (hb hby d22_10) ?_ (by decide) (by decide)
    rw [e0]
    exact ⟨by simp [hc2], rfl, rfl⟩
abbrev b_21 : ByteArray := jdk_29_method_65_code
theorem d21_0 : dk b_21 0 (.iload_n 0) 1 := by decide +kernel
theorem d21_1 : dk b_21 1 (.iload_n 1) 1 := by decide +kernel
theorem d21_2 : dk b_21 2 (.if_icmp .lt 7) 3 := by decide +kernel
theorem d21_5 : dk b_21 5 (.iload_n 0) 1 := by decide +kernel
theorem d21_6 : dk b_21 6 (.goto 4) 3 := by decide +kernel
theorem d21_9 : dk b_21 9 (.iload_n 1) 1 := by decide +kernel
theorem d21_10 : dk b_21 10 (.ireturn) 1 := by decide +kernel
abbrev r_rm21 : Room := { frames := 0, cells := 0, slots := 0, locals := 0 }
theorem pn_rm21 : plainFor y_21 = true := Jvm.Free.JP.mathPlain rfl (by decide +kernel)
def Q21 (Z : State) (p1 : Int32) (p2 : Int32) (h0 : Heap) (n0 : Nat) (v : Option Value) (h : Heap) (L : List Loc) : Prop := v = some (.int (if p1 < p2 then p2 else p1)) ∧ L = [] ∧ h = h0
theorem rm21 (l : Launch) (Z : State) (a0 : Array Value) (hw : HWt Z a0) (ws : List Jvm.Cond) (p1 : Int32) (p2 : Int32) (h0 : Heap) (n0 : Nat) (Z0 : n0 ≤ h0.size) :
    Con l Z y_21 jdk_29_method_65_code 2 (some .int) ws r_rm21 #[(.int p1), (.int p2)] h0 (Q21 Z p1 p2 h0 n0) := by
  refine Con.of2 pn_rm21 ?_
  intro p e s m below meth c s₁ hZ e0 X0 hx hby hml hown hnm hret hlk PP hPP
  have N0 := Fr.nil n0
  refine Go.cast (ef_rm22 m p1 p2) ?_
  have Zn : n0 ≤ h0.size := Z0
  show Go p.tables e below PP (s₁.setTop (mkF m 0 #[.val (.int p1), .val (.int p2)] []))
  refine Go.st (fun t k => XS.iloadN X0.here hx rfl (hb hby d21_0) rfl (XS.iloadN X0.here hx rfl (hb hby d21_1) rfl k)) ?_
  show Go p.tables e below PP (s₁.setTop (mkF m 2 #[.val (.int p1), .val (.int p2)] [(.int p2), (.int p1)]))
  by_cases hc2 : p1 < p2
  · --
    refine Go.st (fun t k => XS.icmpYes X0.here hx rfl (pc0 := 2) (pc' := 9) rfl (hb hby d21_2) rfl (XT.ii_lt_t hc2) (by decide) (by decide) (XS.iloadN X0.here hx rfl (hb hby d21_9) rfl k)) ?_
    show Go p.tables e below PP (s₁.setTop (mkF m 10 #[.val (.int p1), .val (.int p2)] [(.int p2)]))
    rw [hPP]
    refine endI X0 hx hlk hret (hb hby d21_10) ?_ (by decide) (by decide)
    rw [e0]
    exact ⟨by simp [hc2], rfl, rfl⟩
  · --
    refine Go.st (fun t k => XS.icmpNo X0.here hx rfl (hb hby d21_2) rfl (XT.ii_lt_f hc2) (XS.iloadN X0.here hx rfl (hb hby d21_5) rfl (XS.goto X0.here hx rfl (pc0 := 6) (pc' := 10) rfl (hb hby d21_6) (by decide) (by decide) k))) ?_
    show Go p.tables e below PP (s₁.setTop (mkF m 10 #[.val (.int p1), .val (.int p2)] [(.int p1)]))
    rw [hPP]
    refine endI X0 hx hlk hret (hb hby d21_10) ?_ (by decide) (by decide)
    rw [e0]
    exact ⟨by simp [hc2], rfl, rfl⟩
abbrev N4 (n : Int32) : Prop := n = 0 ∨ n = 1 ∨ n = 2 ∨ n = 3
theorem own_n4 (x n : Int32) (h : (x &&& (3 : Int32)) = n) : N4 n := by
  have q := c_mask x 3 2 (by decide) (by decide)
  rw [h] at q
  unfold N4
  simp only [← Int32.toInt_inj]
  have e0 : (0 : Int32).toInt = 0 := rfl
  have e1 : (1 : Int32).toInt = 1 := rfl
  have e2 : (2 : Int32).toInt = 2 := rfl
  have e3 : (3 : Int32).toInt = 3 := rfl
  omega
theorem own_n4x {n : Int32} (h : N4 n) : ¬ n < (0 : Int32) ∧ n.toNatClampNeg ≤ 3 ∧ ¬ (1024 : Int32) < n ∧ 0 ≤ n.toInt ∧ n.toInt ≤ 3 ∧ n.toNatClampNeg = n.toInt.toNat := by
  rcases h with rfl | rfl | rfl | rfl <;> decide
theorem own_n4l {n : Int32} (h : N4 n) : (n.toInt64 &&& (-128 : Int64)) = (0 : Int64) := by rcases h with rfl | rfl | rfl | rfl <;> decide
theorem own_n4c {n : Int32} (h : N4 n) : ¬ ((n ||| (0 : Int32)) ||| n) < (0 : Int32) ∧ ¬ (n - (0 : Int32)) < n := by rcases h with rfl | rfl | rfl | rfl <;> decide
def by3 (v : Int32) (k : Nat) : Int32 := if k = 0 then v.toInt8.toInt32 else if k = 1 then ((v.toUInt32 >>> ((8 : Int32) &&& 31).toUInt32).toInt32).toInt8.toInt32 else ((v.toUInt32 >>> ((16 : Int32) &&& 31).toUInt32).toInt32).toInt8.toInt32
theorem own_b8 (x : Int32) : (x.toInt8.toInt32).toInt8.toInt32 = x.toInt8.toInt32 := by rw [Int8.toInt8_toInt32]
theorem own_by1 (x : Int32) (k : Nat) (hk : k < (1 : Int32).toNatClampNeg) : (if k = (0 : Int32).toNatClampNeg then Value.int ((x.toInt8.toInt32).toInt8.toInt32) else Value.int (0 : Int32)) = Value.int (by3 x k) := by
  have e : (1 : Int32).toNatClampNeg = 1 := rfl
  have e0 : (0 : Int32).toNatClampNeg = 0 := rfl
  rw [e] at hk
  obtain rfl : k = 0 := by omega
  simp [by3, e0, own_b8]
theorem own_by2 (x : Int32) (k : Nat) (hk : k < (2 : Int32).toNatClampNeg) : (if k = (1 : Int32).toNatClampNeg then Value.int ((((x.toUInt32 >>> ((8 : Int32) &&& 31).toUInt32).toInt32).toInt8.toInt32).toInt8.toInt32) else (if k = (0 : Int32).toNatClampNeg then Value.int ((x.toInt8.toInt32).toInt8.toInt32) else Value.int (0 : Int32))) = Value.int (by3 x k) := by
  have e : (2 : Int32).toNatClampNeg = 2 := rfl
  have e0 : (0 : Int32).toNatClampNeg = 0 := rfl
  have e1 : (1 : Int32).toNatClampNeg = 1 := rfl
  rw [e] at hk
  rw [e0, e1, own_b8, own_b8]
  have : k = 0 ∨ k = 1 := by omega
  rcases this with rfl | rfl <;> rfl
theorem own_by3 (x : Int32) (k : Nat) (hk : k < (3 : Int32).toNatClampNeg) : (if k = (2 : Int32).toNatClampNeg then Value.int ((((x.toUInt32 >>> ((16 : Int32) &&& 31).toUInt32).toInt32).toInt8.toInt32).toInt8.toInt32) else (if k = (1 : Int32).toNatClampNeg then Value.int ((((x.toUInt32 >>> ((8 : Int32) &&& 31).toUInt32).toInt32).toInt8.toInt32).toInt8.toInt32) else (if k = (0 : Int32).toNatClampNeg then Value.int ((x.toInt8.toInt32).toInt8.toInt32) else Value.int (0 : Int32)))) = Value.int (by3 x k) := by
  have e : (3 : Int32).toNatClampNeg = 3 := rfl
  have e0 : (0 : Int32).toNatClampNeg = 0 := rfl
  have e1 : (1 : Int32).toNatClampNeg = 1 := rfl
  have e2 : (2 : Int32).toNatClampNeg = 2 := rfl
  rw [e] at hk
  rw [e0, e1, e2, own_b8, own_b8, own_b8]
  have : k = 0 ∨ k = 1 ∨ k = 2 := by omega
  rcases this with rfl | rfl | rfl <;> rfl
theorem own_4 {n : Int32} (h : N4 n) (h0 : ¬ n = (0 : Int32)) (h1 : ¬ n = (1 : Int32)) (h2 : ¬ n = (2 : Int32)) : n = (3 : Int32) := by
  rcases h with rfl | rfl | rfl | rfl
  · exact absurd rfl h0
  · exact absurd rfl h1
  · exact absurd rfl h2
  · rfl
theorem own_low (v : Int32) : v.toInt8.toInt32 = (1 : Int32) ↔ (v &&& (255 : Int32)) = (1 : Int32) := by
  have q := c_i2b v
  have r := c_mask v 255 8 (by decide) (by decide)
  have e1 : (1 : Int32).toInt = 1 := rfl
  rw [← Int32.toInt_inj, ← Int32.toInt_inj]
  omega
theorem own_raw {n : Int32} (v : Int32) (h : N4 n) : bi ((0 : Int32) < n ∧ by3 v (0 : Int32).toNatClampNeg = (1 : Int32)) = bi (¬ n = (0 : Int32) ∧ (v &&& (255 : Int32)) = (1 : Int32)) := by
  have e0 : (0 : Int32).toNatClampNeg = 0 := rfl
  have e : by3 v 0 = v.toInt8.toInt32 := rfl
  rw [e0, e]
  have z : ((0 : Int32) < n) ↔ ¬ n = (0 : Int32) := by rcases h with rfl | rfl | rfl | rfl <;> decide
  unfold bi
  simp only [z, own_low]
def lo8 (x : Int32) : Int32 := (x >>> ((0 : Int32) &&& 31)).toInt8.toInt32
def hi8 (x : Int32) : Int32 := (x >>> ((8 : Int32) &&& 31)).toInt8.toInt32
def pcF (f : Nat → Int32) (i x : Int32) (k : Nat) : Int32 := if k = 2 * i.toNatClampNeg + 1 then hi8 x else if k = 2 * i.toNatClampNeg then lo8 x else f k
theorem own_sh1 {i n ix : Int32} (h : ¬ i < (0 : Int32) ∧ 2 * i.toInt + 1 < n.toInt) (hx : (i <<< ((1 : Int32) &&& 31)) = ix) : ix.toNatClampNeg = 2 * i.toNatClampNeg ∧ (ix + (1 : Int32)).toNatClampNeg = 2 * i.toNatClampNeg + 1 ∧ (¬ ix < (0 : Int32) ∧ ix < n) ∧ (¬ (ix + (1 : Int32)) < (0 : Int32) ∧ (ix + (1 : Int32)) < n) := by
  obtain ⟨h0, h1⟩ := h
  have q := c_ishl i 1 1 (by decide)
  rw [hx] at q
  have r := rng32 n
  have r2 := rng32 ix
  have q2 := c_iadd ix 1
  have r3 := rng32 (ix + 1)
  have e1 : (1 : Int32).toInt = 1 := rfl
  have e0 : (0 : Int32).toInt = 0 := rfl
  simp only [Int32.lt_iff_toInt_lt, Int32.toNatClampNeg] at *
  refine ⟨?_, ?_, ⟨?_, ?_⟩, ?_, ?_⟩ <;> omega
theorem own_pc {i ix : Int32} (f : Nat → Int32) (x : Int32) (h1 : ix.toNatClampNeg = 2 * i.toNatClampNeg) (h2 : (ix + (1 : Int32)).toNatClampNeg = 2 * i.toNatClampNeg + 1) (k : Nat) : (if k = (ix + (1 : Int32)).toNatClampNeg then Value.int (((x >>> ((8 : Int32) &&& 31)).toInt8.toInt32).toInt8.toInt32) else (if k = ix.toNatClampNeg then Value.int (((x >>> ((0 : Int32) &&& 31)).toInt8.toInt32).toInt8.toInt32) else Value.int (f k))) = Value.int (pcF f i x k) := by
  rw [h1, h2, own_b8, own_b8]
  unfold pcF hi8 lo8
  split
  · rfl
  · split <;> rfl
theorem own_hz (x : Int32) : hi8 (x &&& (255 : Int32)) = (0 : Int32) := by
  have q := c_mask x 255 8 (by decide) (by decide)
  have r := c_ishr (x &&& 255) 8 8 (by decide)
  have e : (x &&& (255 : Int32)) >>> ((8 : Int32) &&& 31) = 0 := Int32.toInt_inj.mp (by rw [r]; have e0 : (0 : Int32).toInt = 0 := rfl; omega)
  unfold hi8
  rw [e]
  decide
theorem own_inc (n i : Int32) (h0 : ¬ i < (0 : Int32)) (h : i < n) : ¬ (i + (1 : Int32)) < (0 : Int32) ∧ ¬ n < (i + (1 : Int32)) ∧ (i + (1 : Int32)).toNatClampNeg = i.toNatClampNeg + 1 ∧ i.toNatClampNeg < n.toNatClampNeg := by
  have q := c_iadd i 1
  have r := rng32 (i + 1)
  have r2 := rng32 n
  have e1 : (1 : Int32).toInt = 1 := rfl
  have e0 : (0 : Int32).toInt = 0 := rfl
  simp only [Int32.lt_iff_toInt_lt, Int32.toNatClampNeg] at *
  omega
theorem own_pcz {g : Nat → Int32} {i x : Int32} (h0 : ¬ i < (0 : Int32)) (h : i < (20 : Int32)) (hz : ∀ j, j < i.toNatClampNeg → g (2 * j + 1) = (0 : Int32)) : ∀ j, j < (i + (1 : Int32)).toNatClampNeg → pcF g i (x &&& (255 : Int32)) (2 * j + 1) = (0 : Int32) := by
  intro j hj
  rw [(own_inc _ _ h0 h).2.2.1] at hj
  unfold pcF
  by_cases z : j = i.toNatClampNeg
  · rw [if_pos (by omega)]; exact own_hz x
  · rw [if_neg (by omega), if_neg (by omega)]; exact hz j (by omega)
theorem own_20 {i : Int32} (h0 : ¬ i < (0 : Int32)) (h : i < (20 : Int32)) : (¬ i < (0 : Int32) ∧ i < (34 : Int32)) ∧ (¬ i < (0 : Int32) ∧ 2 * i.toInt + 1 < (68 : Int32).toInt) ∧ (¬ i < (0 : Int32) ∧ 2 * i.toInt + 1 < (42 : Int32).toInt) := by
  have e : (20 : Int32).toInt = 20 := rfl
  have e3 : (34 : Int32).toInt = 34 := rfl
  have e6 : (68 : Int32).toInt = 68 := rfl
  have e4 : (42 : Int32).toInt = 42 := rfl
  rw [Int32.lt_iff_toInt_lt] at h
  refine ⟨⟨h0, ?_⟩, ⟨h0, ?_⟩, h0, ?_⟩
  · rw [Int32.lt_iff_toInt_lt]; omega
  · omega
  · omega
theorem own_e20 {i : Int32} (h : ¬ (20 : Int32) < i) (h' : ¬ i < (20 : Int32)) : i = (20 : Int32) := Int32.toInt_inj.mp (by rw [Int32.lt_iff_toInt_lt] at h h'; omega)
theorem own_gbz {f g : Nat → Int32} (hz : ∀ j, j < 20 → g (2 * j + 1) = (0 : Int32)) (j : Nat) (hj : j < 20) (F : Nat → Value) (hF : ∀ k, F k = if (40 : Int32).toNatClampNeg ≤ k ∧ k < (40 : Int32).toNatClampNeg + (2 : Int32).toNatClampNeg then Value.int (f k) else Value.int (g k)) : intOf (F (2 * j + 1)) = (0 : Int32) := by
  have e : (40 : Int32).toNatClampNeg = 40 := rfl
  rw [hF, e, if_neg (by omega)]
  exact hz j hj
def gcF (x y : Int32) : Int32 := nar .char (((((x &&& (255 : Int32)) <<< ((0 : Int32) &&& 31)) ||| ((y &&& (255 : Int32)) <<< ((8 : Int32) &&& 31)))).toUInt32.toUInt16.toUInt32.toInt32)
theorem own_gc0 (x y : Int32) (h : y = (0 : Int32)) : gcF x y < (55296 : Int32) := by
  subst h
  unfold gcF
  have e1 : ((0 : Int32) &&& (255 : Int32)) <<< ((8 : Int32) &&& 31) = 0 := by decide
  have q := c_ishl (x &&& 255) 0 0 (by decide)
  have r := c_and x 255 (by decide)
  have r2 := rng32 ((x &&& (255 : Int32)) <<< ((0 : Int32) &&& 31))
  have r3 := rng32 (x &&& (255 : Int32))
  have e5 : (255 : Int32).toInt = 255 := rfl
  have e2 : (x &&& (255 : Int32)) <<< ((0 : Int32) &&& 31) = x &&& (255 : Int32) := Int32.toInt_inj.mp (by omega)
  rw [e1, e2, Int32.or_zero]
  have w := own_ch x _ rfl
  rw [w.2.2]
  have b := w.2.1
  rw [Int32.lt_iff_toInt_lt] at b ⊢
  have e6 : (55296 : Int32).toInt = 55296 := rfl
  omega
def firstIx (f : Nat → Int32) (ch : Int32) : Nat → Nat → Int32
  | _, 0 => -1
  | i, r + 1 => if f i = ch then Int32.ofNat i else firstIx f ch (i + 1) r
theorem firstIx_step {f : Nat → Int32} {ch r : Int32} {i n : Nat} (h : r = firstIx f ch i (n - i)) (hi : i < n) : (f i = ch → r = Int32.ofNat i) ∧ (¬ f i = ch → r = firstIx f ch (i + 1) (n - (i + 1))) := by
  obtain ⟨q, e⟩ : ∃ q, n - i = q + 1 := ⟨n - i - 1, by omega⟩
  rw [e] at h
  unfold firstIx at h
  refine ⟨fun z => by rw [h, if_pos z], fun z => ?_⟩
  rw [h, if_neg z, show n - (i + 1) = q by omega]
theorem own_on (i : Int32) (h : ¬ i < (0 : Int32)) : Int32.ofNat i.toNatClampNeg = i := by
  have e : (0 : Int32).toInt = 0 := rfl
  rw [Int32.lt_iff_toInt_lt, e] at h
  have r := rng32 i
  have t : (i.toNatClampNeg : Int) = i.toInt := by simp only [Int32.toNatClampNeg]; omega
  exact Int32.toInt_inj.mp (by rw [Int32.toInt_ofNat_of_lt (by omega), t])
abbrev b_23 : ByteArray := jdk_43_method_23_code
theorem d23_0 : dk b_23 0 (.iload_n 1) 1 := by decide +kernel
theorem d23_1 : dk b_23 1 (.i2b) 1 := by decide +kernel
theorem d23_2 : dk b_23 2 (.istore 4) 2 := by decide +kernel
theorem d23_4 : dk b_23 4 (.iload_n 2) 1 := by decide +kernel
theorem d23_5 : dk b_23 5 (.istore 5) 2 := by decide +kernel
theorem d23_7 : dk b_23 7 (.iload 5) 2 := by decide +kernel
theorem d23_9 : dk b_23 9 (.iload_n 3) 1 := by decide +kernel
theorem d23_10 : dk b_23 10 (.if_icmp .ge 21) 3 := by decide +kernel
theorem d23_13 : dk b_23 13 (.aload_n 0) 1 := by decide +kernel
theorem d23_14 : dk b_23 14 (.iload 5) 2 := by decide +kernel
theorem d23_16 : dk b_23 16 (.baload) 1 := by decide +kernel
theorem d23_17 : dk b_23 17 (.iload 4) 2 := by decide +kernel
theorem d23_19 : dk b_23 19 (.if_icmp .ne 6) 3 := by decide +kernel
theorem d23_22 : dk b_23 22 (.iload 5) 2 := by decide +kernel
theorem d23_24 : dk b_23 24 (.ireturn) 1 := by decide +kernel
theorem d23_25 : dk b_23 25 (.iinc 5 1) 3 := by decide +kernel
theorem d23_28 : dk b_23 28 (.goto (-21)) 3 := by decide +kernel
theorem d23_31 : dk b_23 31 (.iconst (-1)) 1 := by decide +kernel
theorem d23_32 : dk b_23 32 (.ireturn) 1 := by decide +kernel
abbrev r_rm23 : Room := { frames := 0, cells := 0, slots := 0, locals := 0 }
theorem ef_rm23 (m : MethodId) (a1 : Addr) (p2 : Int32) (n1 : Int32) : entryFrame m #[(.ref a1), (.int p2), (.int (0 : Int32)), (.int n1)] 6 = mkF m 0 #[.val (.ref a1), .val (.int p2), .val (.int (0 : Int32)), .val (.int n1), .unset, .unset] [] := by first | (simp [entryFrame, mkF, argsToLocals, Value.category]; done) | rfl
def Q23 (Z : State) (a1 : Addr) (p2 : Int32) (n1 : Int32) (f1 : Nat → Int32) (h0 : Heap) (n0 : Nat) (v : Option Value) (h : Heap) (L : List Loc) : Prop := v = some (.int (firstIx f1 (p2.toInt8.toInt32) 0 n1.toNatClampNeg)) ∧ L = [] ∧ h = h0
theorem rm23 (l : Launch) (Z : State) (a0 : Array Value) (hw : HWt Z a0) (ws : List Jvm.Cond) (a1 : Addr) (p2 : Int32) (n1 : Int32) (f1 : Nat → Int32) (h0 : Heap) (n0 : Nat) (Z0 : n0 ≤ h0.size) (V1 : Afn Z h0 a1 .byte n1 (fun k => .int (f1 k))) :
    Con l Z y_23 jdk_43_method_23_code 6 (some .int) ws r_rm23 #[(.ref a1), (.int p2), (.int (0 : Int32)), (.int n1)] h0 (Q23 Z a1 p2 n1 f1 h0 n0) := by
  refine Con.of2 (plainFor_of_name pn_rm20) ?_
  intro p e s m below meth c s₁ hZ e0 X0 hx hby hml hown hnm hret hlk PP hPP
  have N0 := Fr.nil n0
  refine Go.cast (ef_rm23 m a1 p2 n1) ?_
  have Zn : n0 ≤ h0.size := Z0
  show Go p.tables e below PP (s₁.setTop (mkF m 0 #[.val (.ref a1), .val (.int p2), .val (.int (0 : Int32)), .val (.int n1), .unset, .unset] []))
  refine Go.st (fun t k => XS.iloadN X0.here hx rfl (hb hby d23_0) rfl (XS.i2b X0.here hx rfl (hb hby d23_1) rfl (XS.istore X0.here hx rfl (hb hby d23_2) rfl (l' := #[.val (.ref a1), .val (.int p2), .val (.int (0 : Int32)), .val (.int n1), .val (.int (p2.toInt8.toInt32)), .unset]) rfl (XS.iloadN X0.here hx rfl (hb hby d23_4) rfl (XS.istore X0.here hx rfl (hb hby d23_5) rfl (l' := #[.val (.ref a1), .val (.int p2), .val (.int (0 : Int32)), .val (.int n1), .val (.int (p2.toInt8.toInt32)), .val (.int (0 : Int32))]) rfl k))))) ?_
  show Go p.tables e below PP (s₁.setTop (mkF m 7 #[.val (.ref a1), .val (.int p2), .val (.int (0 : Int32)), .val (.int n1), .val (.int (p2.toInt8.toInt32)), .val (.int (0 : Int32))] []))
  have J7 : ∀ (d1 : Nat) (T1 : State) (i : Int32), Stand p l e r_rm23 s m #[(.ref a1), (.int p2), (.int (0 : Int32)), (.int n1)] below meth c T1 [] 0 0 → T1.heap = h0 → (¬ i < (0 : Int32) ∧ ¬ n1 < i ∧ (firstIx f1 (p2.toInt8.toInt32) 0 n1.toNatClampNeg) = firstIx f1 (p2.toInt8.toInt32) i.toNatClampNeg (n1.toNatClampNeg - i.toNatClampNeg)) → n1.toNatClampNeg - i.toNatClampNeg = d1 → Go p.tables e below PP (T1.setTop (mkF m 7 #[.val (.ref a1), .val (.int p2), .val (.int (0 : Int32)), .val (.int n1), .val (.int (p2.toInt8.toInt32)), .val (.int i)] [])) := by
    intro d1
    induction d1 using Nat.strongRecOn with
    | _ d1 ih1 =>
      intro T1 i X1 e1 hJ7 hd1
      show Go p.tables e below PP (T1.setTop (mkF m 7 #[.val (.ref a1), .val (.int p2), .val (.int (0 : Int32)), .val (.int n1), .val (.int (p2.toInt8.toInt32)), .val (.int i)] []))
      refine Go.st (fun t k => XS.iload X1.here hx rfl (hb hby d23_7) rfl (XS.iloadN X1.here hx rfl (hb hby d23_9) rfl k)) ?_
      show Go p.tables e below PP (T1.setTop (mkF m 10 #[.val (.ref a1), .val (.int p2), .val (.int (0 : Int32)), .val (.int n1), .val (.int (p2.toInt8.toInt32)), .val (.int i)] [(.int n1), (.int i)]))
      by_cases hc10 : i < n1
      · --
        refine Go.st (fun t k => XS.icmpNo X1.here hx rfl (hb hby d23_10) rfl (XT.ii_ge_f hc10) (XS.aloadN X1.here hx rfl (hb hby d23_13) rfl rfl (XS.iload X1.here hx rfl (hb hby d23_14) rfl k))) ?_
        obtain ⟨cl2, Ar2, S2, Nn2, H2⟩ := id V1
        have hin2 : ¬ (i < 0 ∨ cl2.slots.size ≤ (i).toNatClampNeg) := inb_of S2 ⟨hJ7.1, hc10⟩
        refine Go.st (fun t k => X1.baloadBytes hx (j := i) (v := (.int (f1 i.toNatClampNeg))) (by rw [e1]; exact Ar2.1) (State.isArrayOf_alike hZ.alike Ar2.2.1) Ar2.2.2 hin2 ((H2 _ (inbN ⟨hJ7.1, hc10⟩)).1.trans (congrArg some (rfl))) (g := (mkF m 16 #[.val (.ref a1), .val (.int p2), .val (.int (0 : Int32)), .val (.int n1), .val (.int (p2.toInt8.toInt32)), .val (.int i)] [(.int i), (.ref a1)])) rfl rfl (hb hby d23_16) _ (XS.iload X1.here hx rfl (hb hby d23_17) rfl k)) ?_
        show Go p.tables e below PP (T1.setTop (mkF m 19 #[.val (.ref a1), .val (.int p2), .val (.int (0 : Int32)), .val (.int n1), .val (.int (p2.toInt8.toInt32)), .val (.int i)] [(.int (p2.toInt8.toInt32)), (.int (f1 i.toNatClampNeg))]))
        by_cases hc19 : (f1 i.toNatClampNeg) = (p2.toInt8.toInt32)
        · --
          refine Go.st (fun t k => XS.icmpNo X1.here hx rfl (hb hby d23_19) rfl (XT.ii_ne_f hc19) (XS.iload X1.here hx rfl (hb hby d23_22) rfl k)) ?_
          show Go p.tables e below PP (T1.setTop (mkF m 24 #[.val (.ref a1), .val (.int p2), .val (.int (0 : Int32)), .val (.int n1), .val (.int (p2.toInt8.toInt32)), .val (.int i)] [(.int i)]))
          rw [hPP]
          refine endI X1 hx hlk hret (hb hby d23_24) ?_ (by decide) (by decide)
          rw [e1]
          exact ⟨congrArg some (congrArg Value.int ((own_on _ hJ7.1).symm.trans ((firstIx_step hJ7.2.2 (own_inc _ _ hJ7.1 hc10).2.2.2).1 hc19).symm)), rfl, rfl⟩
        · --
          refine Go.st (fun t k => XS.icmpYes X1.here hx rfl (pc0 := 19) (pc' := 25) rfl (hb hby d23_19) rfl (XT.ii_ne_t hc19) (by decide) (by decide) (XS.iinc X1.here hx rfl (hb hby d23_25) rfl (l' := #[.val (.ref a1), .val (.int p2), .val (.int (0 : Int32)), .val (.int n1), .val (.int (p2.toInt8.toInt32)), .val (.int (i + (1 : Int32)))]) rfl (XS.goto X1.here hx rfl (pc0 := 28) (pc' := 7) rfl (hb hby d23_28) (by decide) (by decide) k))) ?_
          show Go p.tables e below PP (T1.setTop (mkF m 7 #[.val (.ref a1), .val (.int p2), .val (.int (0 : Int32)), .val (.int n1), .val (.int (p2.toInt8.toInt32)), .val (.int (i + (1 : Int32)))] []))
          exact ih1 _ (by have q := own_inc _ _ hJ7.1 hc10; omega) _ _ X1 e1 (⟨(own_inc _ _ hJ7.1 hc10).1, (own_inc _ _ hJ7.1 hc10).2.1, by rw [(own_inc _ _ hJ7.1 hc10).2.2.1]; exact (firstIx_step hJ7.2.2 (own_inc _ _ hJ7.1 hc10).2.2.2).2 hc19⟩) rfl
      · --
        refine Go.st (fun t k => XS.icmpYes X1.here hx rfl (pc0 := 10) (pc' := 31) rfl (hb hby d23_10) rfl (XT.ii_ge_t hc10) (by decide) (by decide) (XS.iconst X1.here hx rfl (hb hby d23_31) k)) ?_
        show Go p.tables e below PP (T1.setTop (mkF m 32 #[.val (.ref a1), .val (.int p2), .val (.int (0 : Int32)), .val (.int n1), .val (.int (p2.toInt8.toInt32)), .val (.int i)] [(.int (-1 : Int32))]))
        rw [hPP]
        refine endI X1 hx hlk hret (hb hby d23_32) ?_ (by decide) (by decide)
        rw [e1]
        exact ⟨by rw [hJ7.2.2, show n1.toNatClampNeg - i.toNatClampNeg = 0 by have a := hJ7.2.1; rw [Int32.lt_iff_toInt_lt] at a hc10; simp only [Int32.toNatClampNeg]; omega]; rfl, rfl, rfl⟩
  show Go p.tables e below PP (s₁.setTop (mkF m 7 #[.val (.ref a1), .val (.int p2), .val (.int (0 : Int32)), .val (.int n1), .val (.int (p2.toInt8.toInt32)), .val (.int (0 : Int32))] []))
  exact J7 _ _ _ X0 e0 (⟨by decide, V1.nn, rfl⟩) rfl
abbrev b_19 : ByteArray := jdk_43_method_22_code
theorem d19_0 : dk b_19 0 (.iload_n 1) 1 := by decide +kernel
theorem d19_1 : dk b_19 1 (.invokestatic 88) 3 := by decide +kernel
theorem d19_4 : dk b_19 4 (.ifCond .ne 5) 3 := by decide +kernel
theorem d19_9 : dk b_19 9 (.iload_n 2) 1 := by decide +kernel
theorem d19_10 : dk b_19 10 (.iconst 0) 1 := by decide +kernel
theorem d19_11 : dk b_19 11 (.invokestatic 92) 3 := by decide +kernel
theorem d19_14 : dk b_19 14 (.istore_n 2) 1 := by decide +kernel
theorem d19_15 : dk b_19 15 (.iload_n 3) 1 := by decide +kernel
theorem d19_16 : dk b_19 16 (.aload_n 0) 1 := by decide +kernel
theorem d19_17 : dk b_19 17 (.arraylength) 1 := by decide +kernel
theorem d19_18 : dk b_19 18 (.invokestatic 38) 3 := by decide +kernel
theorem d19_21 : dk b_19 21 (.istore_n 3) 1 := by decide +kernel
theorem d19_22 : dk b_19 22 (.iload_n 2) 1 := by decide +kernel
theorem d19_23 : dk b_19 23 (.iload_n 3) 1 := by decide +kernel
theorem d19_24 : dk b_19 24 (.if_icmp .lt 5) 3 := by decide +kernel
theorem d19_27 : dk b_19 27 (.iconst (-1)) 1 := by decide +kernel
theorem d19_28 : dk b_19 28 (.ireturn) 1 := by decide +kernel
theorem d19_29 : dk b_19 29 (.aload_n 0) 1 := by decide +kernel
theorem d19_30 : dk b_19 30 (.iload_n 1) 1 := by decide +kernel
theorem d19_31 : dk b_19 31 (.iload_n 2) 1 := by decide +kernel
theorem d19_32 : dk b_19 32 (.iload_n 3) 1 := by decide +kernel
theorem d19_33 : dk b_19 33 (.invokestatic 95) 3 := by decide +kernel
theorem d19_36 : dk b_19 36 (.ireturn) 1 := by decide +kernel
abbrev r_rm19 : Room := { frames := 1, cells := 0, slots := 0, locals := 17 }
theorem ef_rm19 (m : MethodId) (a1 : Addr) (p2 : Int32) (n1 : Int32) : entryFrame m #[(.ref a1), (.int p2), (.int (0 : Int32)), (.int n1)] 4 = mkF m 0 #[.val (.ref a1), .val (.int p2), .val (.int (0 : Int32)), .val (.int n1)] [] := by first | (simp [entryFrame, mkF, argsToLocals, Value.category]; done) | rfl
def Q19 (Z : State) (a1 : Addr) (p2 : Int32) (n1 : Int32) (f1 : Nat → Int32) (h0 : Heap) (n0 : Nat) (v : Option Value) (h : Heap) (L : List Loc) : Prop := v = some (.int (firstIx f1 (p2.toInt8.toInt32) 0 n1.toNatClampNeg)) ∧ L = [] ∧ h = h0
theorem pd_1 : parseMethodDescriptor "(I)Z" = some ⟨[.int], some .boolean⟩ := by decide +kernel
theorem pd_2 : parseMethodDescriptor "(II)I" = some ⟨[.int, .int], some .int⟩ := by decide +kernel
theorem pd_3 : parseMethodDescriptor "([BIII)I" = some ⟨[(.array .byte), .int, .int, .int], some .int⟩ := by decide +kernel
theorem rm19 (l : Launch) (Z : State) (a0 : Array Value) (hw : HWt Z a0) (ws : List Jvm.Cond) (a1 : Addr) (p2 : Int32) (n1 : Int32) (f1 : Nat → Int32) (h0 : Heap) (n0 : Nat) (Z0 : n0 ≤ h0.size) (V1 : Afn Z h0 a1 .byte n1 (fun k => .int (f1 k))) (hch : ¬ p2 < (0 : Int32) ∧ ¬ (255 : Int32) < p2) :
    Con l Z y_19 jdk_43_method_22_code 4 (some .int) ws r_rm19 #[(.ref a1), (.int p2), (.int (0 : Int32)), (.int n1)] h0 (Q19 Z a1 p2 n1 f1 h0 n0) := by
  refine Con.of2 (plainFor_of_name pn_rm20) ?_
  intro p e s m below meth c s₁ hZ e0 X0 hx hby hml hown hnm hret hlk PP hPP
  have N0 := Fr.nil n0
  refine Go.cast (ef_rm19 m a1 p2 n1) ?_
  have Zn : n0 ≤ h0.size := Z0
  show Go p.tables e below PP (s₁.setTop (mkF m 0 #[.val (.ref a1), .val (.int p2), .val (.int (0 : Int32)), .val (.int n1)] []))
  refine Go.st (fun t k => XS.iloadN X0.here hx rfl (hb hby d19_0) rfl k) ?_
  obtain ⟨v1, T1, L1, X1, hQ1, st1⟩ := callSt X0 hx hZ (y := y_20) (argsL := [(.int p2)]) (rest := []) hown (wk hw 98 rfl) (wk hw 99 rfl) (wk hw 19 rfl) (wk hw 100 rfl) (by decide) (rm20 l Z a0 hw [] p2 h0 n0 Zn) e0 0 (by decide) (by decide) (by decide) (by decide) (g := (mkF m 1 #[.val (.ref a1), .val (.int p2), .val (.int (0 : Int32)), .val (.int n1)] [(.int p2)])) rfl (by rw [hml]; rfl) (lenOf pd_1 rfl) rfl (Nat.le_of_eq rfl) (hb hby d19_1)
  obtain ⟨rfl, rfl, e1⟩ := hQ1
  rw [List.append_nil] at X1
  refine Go.st st1 ?_
  refine Go.st (fun t k => XS.ifYes X1.here hx rfl (pc0 := 4) (pc' := 9) rfl (hb hby d19_4) rfl (XT.i0_ne_t (by rw [bi_t hch]; decide)) (by decide) (by decide) (XS.iloadN X1.here hx rfl (hb hby d19_9) rfl (XS.iconst X1.here hx rfl (hb hby d19_10) k))) ?_
  obtain ⟨v2, T2, L2, X2, hQ2, st2⟩ := callSt X1 hx hZ (y := y_21) (argsL := [(.int (0 : Int32)), (.int (0 : Int32))]) (rest := []) hown (wk hw 101 rfl) (wk hw 102 rfl) (wk hw 103 rfl) (wk hw 104 rfl) (by decide) (rm21 l Z a0 hw [] (0 : Int32) (0 : Int32) h0 n0 Zn) e1 0 (by decide) (by decide) (by decide) (by decide) (g := (mkF m 11 #[.val (.ref a1), .val (.int p2), .val (.int (0 : Int32)), .val (.int n1)] [(.int (0 : Int32)), (.int (0 : Int32))])) rfl (by rw [hml]; rfl) (lenOf pd_2 rfl) rfl (Nat.le_of_eq rfl) (hb hby d19_11)
  obtain ⟨rfl, rfl, e2⟩ := hQ2
  rw [List.append_nil] at X2
  refine Go.st st2 ?_
  have hz0 : (if (0 : Int32) < (0 : Int32) then (0 : Int32) else (0 : Int32)) = (0 : Int32) := by decide
  rw [hz0]
  refine Go.st (fun t k => XS.istoreN X2.here hx rfl (hb hby d19_14) rfl (l' := #[.val (.ref a1), .val (.int p2), .val (.int (0 : Int32)), .val (.int n1)]) rfl (XS.iloadN X2.here hx rfl (hb hby d19_15) rfl (XS.aloadN X2.here hx rfl (hb hby d19_16) rfl rfl k))) ?_
  obtain ⟨cl3, Ar3, S3, Nn3, -⟩ := id V1
  refine Go.st (fun t k => X2.arraylength hx (by rw [e2]; exact Ar3.1) (State.isArrayOf_alike hZ.alike Ar3.2.1) (g := (mkF m 17 #[.val (.ref a1), .val (.int p2), .val (.int (0 : Int32)), .val (.int n1)] [(.ref a1), (.int n1)])) rfl rfl (hb hby d19_17) _ k) ?_
  rw [len_of S3 Nn3]
  obtain ⟨v4, T4, L4, X4, hQ4, st4⟩ := callSt X2 hx hZ (y := y_22) (argsL := [(.int n1), (.int n1)]) (rest := []) hown (wk hw 105 rfl) (wk hw 106 rfl) (wk hw 103 rfl) (wk hw 107 rfl) (by decide) (rm22 l Z a0 hw [] n1 n1 h0 n0 Zn) e2 0 (by decide) (by decide) (by decide) (by decide) (g := (mkF m 18 #[.val (.ref a1), .val (.int p2), .val (.int (0 : Int32)), .val (.int n1)] [(.int n1), (.int n1)])) rfl (by rw [hml]; rfl) (lenOf pd_2 rfl) rfl (Nat.le_of_eq rfl) (hb hby d19_18)
  obtain ⟨rfl, rfl, e4⟩ := hQ4
  rw [List.append_nil] at X4
  refine Go.st st4 ?_
  have hzn : (if n1 < n1 then n1 else n1) = n1 := by split <;> rfl
  rw [hzn]
  refine Go.st (fun t k => XS.istoreN X4.here hx rfl (hb hby d19_21) rfl (l' := #[.val (.ref a1), .val (.int p2), .val (.int (0 : Int32)), .val (.int n1)]) rfl (XS.iloadN X4.here hx rfl (hb hby d19_22) rfl (XS.iloadN X4.here hx rfl (hb hby d19_23) rfl k))) ?_
  show Go p.tables e below PP (T4.setTop (mkF m 24 #[.val (.ref a1), .val (.int p2), .val (.int (0 : Int32)), .val (.int n1)] [(.int n1), (.int (0 : Int32))]))
  by_cases hc24 : (0 : Int32) < n1
  · --
    refine Go.st (fun t k => XS.icmpYes X4.here hx rfl (pc0 := 24) (pc' := 29) rfl (hb hby d19_24) rfl (XT.ii_lt_t hc24) (by decide) (by decide) (XS.aloadN X4.here hx rfl (hb hby d19_29) rfl rfl (XS.iloadN X4.here hx rfl (hb hby d19_30) rfl (XS.iloadN X4.here hx rfl (hb hby d19_31) rfl (XS.iloadN X4.here hx rfl (hb hby d19_32) rfl k))))) ?_
    obtain ⟨v5, T5, L5, X5, hQ5, st5⟩ := callSt X4 hx hZ (y := y_23) (argsL := [(.ref a1), (.int p2), (.int (0 : Int32)), (.int n1)]) (rest := []) hown (wk hw 108 rfl) (wk hw 109 rfl) (wk hw 19 rfl) (wk hw 110 rfl) (by decide) (rm23 l Z a0 hw [] a1 p2 n1 f1 h0 n0 Zn V1) e4 0 (by decide) (by decide) (by decide) (by decide) (g := (mkF m 33 #[.val (.ref a1), .val (.int p2), .val (.int (0 : Int32)), .val (.int n1)] [(.int n1), (.int (0 : Int32)), (.int p2), (.ref a1)])) rfl (by rw [hml]; rfl) (lenOf pd_3 rfl) rfl (Nat.le_of_eq rfl) (hb hby d19_33)
    obtain ⟨rfl, rfl, e5⟩ := hQ5
    rw [List.append_nil] at X5
    refine Go.st st5 ?_
    show Go p.tables e below PP (T5.setTop (mkF m 36 #[.val (.ref a1), .val (.int p2), .val (.int (0 : Int32)), .val (.int n1)] [(.int (firstIx f1 (p2.toInt8.toInt32) 0 n1.toNatClampNeg))]))
    rw [hPP]
    refine endI X5 hx hlk hret (hb hby d19_36) ?_ (by decide) (by decide)
    rw [e5]
    exact ⟨rfl, rfl, rfl⟩
  · --
    refine Go.st (fun t k => XS.icmpNo X4.here hx rfl (hb hby d19_24) rfl (XT.ii_lt_f hc24) (XS.iconst X4.here hx rfl (hb hby d19_27) k)) ?_
    show Go p.tables e below PP (T4.setTop (mkF m 28 #[.val (.ref a1), .val (.int p2), .val (.int (0 : Int32)), .val (.int n1)] [(.int (-1 : Int32))]))
    rw [hPP]
    refine endI X4 hx hlk hret (hb hby d19_28) ?_ (by decide) (by decide)
    rw [e4]
    exact ⟨by rw [show n1.toNatClampNeg = 0 by have e : (0 : Int32).toInt = 0 := rfl; rw [Int32.lt_iff_toInt_lt] at hc24; simp only [Int32.toNatClampNeg]; omega]; rfl, rfl, rfl⟩
abbrev b_15 : ByteArray := jdk_42_method_80_code
theorem d15_0 : dk b_15 0 (.aload_n 0) 1 := by decide +kernel
theorem d15_1 : dk b_15 1 (.invokevirtual 492) 3 := by decide +kernel
theorem d15_4 : dk b_15 4 (.ifCond .eq 19) 3 := by decide +kernel
theorem d15_7 : dk b_15 7 (.aload_n 0) 1 := by decide +kernel
theorem d15_8 : dk b_15 8 (.getfield 9) 3 := by decide +kernel
theorem d15_11 : dk b_15 11 (.iload_n 1) 1 := by decide +kernel
theorem d15_12 : dk b_15 12 (.iload_n 2) 1 := by decide +kernel
theorem d15_13 : dk b_15 13 (.aload_n 0) 1 := by decide +kernel
theorem d15_14 : dk b_15 14 (.invokevirtual 505) 3 := by decide +kernel
theorem d15_17 : dk b_15 17 (.invokestatic 637) 3 := by decide +kernel
theorem d15_20 : dk b_15 20 (.goto 16) 3 := by decide +kernel
theorem d15_36 : dk b_15 36 (.ireturn) 1 := by decide +kernel
abbrev r_rm15 : Room := { frames := 2, cells := 0, slots := 0, locals := 32 }
theorem ef_rm15 (m : MethodId) (a1 : Addr) (p2 : Int32) : entryFrame m #[(.ref a1), (.int p2), (.int (0 : Int32))] 3 = mkF m 0 #[.val (.ref a1), .val (.int p2), .val (.int (0 : Int32))] [] := by first | (simp [entryFrame, mkF, argsToLocals, Value.category]; done) | rfl
def Q15 (Z : State) (a1 : Addr) (p2 : Int32) (t1 : Addr) (n1 : Int32) (f1 : Nat → Int32) (zc : Int32) (h0 : Heap) (n0 : Nat) (v : Option Value) (h : Heap) (L : List Loc) : Prop := v = some (.int (firstIx f1 (p2.toInt8.toInt32) 0 n1.toNatClampNeg)) ∧ L = [] ∧ h = h0
theorem pd_4 : parseMethodDescriptor "()Z" = some ⟨[], some .boolean⟩ := by decide +kernel
theorem pd_5 : parseMethodDescriptor "()I" = some ⟨[], some .int⟩ := by decide +kernel
theorem rm15 (l : Launch) (Z : State) (a0 : Array Value) (hw : HWt Z a0) (ws : List Jvm.Cond) (a1 : Addr) (p2 : Int32) (t1 : Addr) (n1 : Int32) (f1 : Nat → Int32) (zc : Int32) (h0 : Heap) (n0 : Nat) (Z0 : n0 ≤ h0.size) (zab : Fld Z h0 a1 k_14 "value" "[B" (.ref t1)) (zaa : Fld Z h0 a1 k_14 "coder" "B" (.int (0 : Int32))) (V_t1 : Afn Z h0 t1 .byte n1 (fun k => .int (f1 k))) (E_a1 : Exa Z h0 a1 k_14) (SC : SS0 Z zc) (hzc : ¬ zc = (0 : Int32)) (O : Old Z n0 h0) (hch : ¬ p2 < (0 : Int32) ∧ ¬ (255 : Int32) < p2) :
    Con l Z y_15 jdk_42_method_80_code 3 (some .int) ws r_rm15 #[(.ref a1), (.int p2), (.int (0 : Int32))] h0 (Q15 Z a1 p2 t1 n1 f1 zc h0 n0) := by
  refine Con.of2 (plainFor_of_name pn_rm18) ?_
  intro p e s m below meth c s₁ hZ e0 X0 hx hby hml hown hnm hret hlk PP hPP
  have N0 := Fr.nil n0
  refine Go.cast (ef_rm15 m a1 p2) ?_
  have Zn : n0 ≤ h0.size := Z0
  show Go p.tables e below PP (s₁.setTop (mkF m 0 #[.val (.ref a1), .val (.int p2), .val (.int (0 : Int32))] []))
  refine Go.st (fun t k => XS.aloadN X0.here hx rfl (hb hby d15_0) rfl rfl k) ?_
  obtain ⟨v1, T1, L1, X1, hQ1, st1⟩ := callVi X0 hx hZ (C := k_14) (y := y_16) (z := y_16) (a := a1) (argsL := []) (rest := []) hown (wk hw 80 rfl) (wk hw 81 rfl) (notFace_of_selects (args := #[]) (mvT hZ (wk hw 83 rfl))) (wk hw 83 rfl) (wk hw 82 rfl) (wk hw 14 rfl) (wk hw 84 rfl) (by decide) rfl E_a1 (rm16 l Z a0 hw [] a1 zc h0 n0 Zn zaa SC hzc O) e0 0 (by decide) (by decide) (by decide) (by decide) (g := (mkF m 1 #[.val (.ref a1), .val (.int p2), .val (.int (0 : Int32))] [(.ref a1)])) rfl (by rw [hml]; rfl) (lenOf pd_4 rfl) rfl (Nat.le_of_eq rfl) (hb hby d15_1)
  obtain ⟨rfl, rfl, e1⟩ := hQ1
  rw [List.append_nil] at X1
  refine Go.st st1 ?_
  refine Go.st (fun t k => XS.ifNo X1.here hx rfl (hb hby d15_4) rfl (XT.i0_eq_f (by decide)) (XS.aloadN X1.here hx rfl (hb hby d15_7) rfl rfl k)) ?_
  obtain ⟨T2, X2, e2, st2⟩ := getF X1 hx hZ hown (host := "") (Or.inl (wk hw 33 rfl)) Via.refl e1 zab (g := (mkF m 8 #[.val (.ref a1), .val (.int p2), .val (.int (0 : Int32))] [(.ref a1)])) rfl rfl (hb hby d15_8)
  refine Go.st st2 ?_
  refine Go.st (fun t k => XS.iloadN X2.here hx rfl (hb hby d15_11) rfl (XS.iloadN X2.here hx rfl (hb hby d15_12) rfl (XS.aloadN X2.here hx rfl (hb hby d15_13) rfl rfl k))) ?_
  obtain ⟨v3, T3, L3, X3, hQ3, st3⟩ := callVi X2 hx hZ (C := k_14) (y := y_17) (z := y_17) (a := a1) (argsL := []) (rest := [(.int (0 : Int32)), (.int p2), (.ref t1)]) hown (wk hw 85 rfl) (wk hw 86 rfl) (notFace_of_selects (args := #[]) (mvT hZ (wk hw 88 rfl))) (wk hw 88 rfl) (wk hw 87 rfl) (wk hw 14 rfl) (wk hw 89 rfl) (by decide) rfl E_a1 (rm17 l Z a0 hw [] a1 t1 n1 f1 zc h0 n0 Zn zab zaa V_t1 E_a1 SC hzc O) e2 3 (by decide) (by decide) (by decide) (by decide) (g := (mkF m 14 #[.val (.ref a1), .val (.int p2), .val (.int (0 : Int32))] [(.ref a1), (.int (0 : Int32)), (.int p2), (.ref t1)])) rfl (by rw [hml]; rfl) (lenOf pd_5 rfl) rfl (Nat.le_of_eq rfl) (hb hby d15_14)
  obtain ⟨rfl, rfl, e3⟩ := hQ3
  rw [List.append_nil] at X3
  refine Go.st st3 ?_
  obtain ⟨v4, T4, L4, X4, hQ4, st4⟩ := callSt X3 hx hZ (y := y_19) (argsL := [(.ref t1), (.int p2), (.int (0 : Int32)), (.int n1)]) (rest := []) hown (wk hw 95 rfl) (wk hw 96 rfl) (wk hw 19 rfl) (wk hw 97 rfl) (by decide) (rm19 l Z a0 hw [] t1 p2 n1 f1 h0 n0 Zn V_t1 hch) e3 0 (by decide) (by decide) (by decide) (by decide) (g := (mkF m 17 #[.val (.ref a1), .val (.int p2), .val (.int (0 : Int32))] [(.int n1), (.int (0 : Int32)), (.int p2), (.ref t1)])) rfl (by rw [hml]; rfl) (lenOf pd_3 rfl) rfl (Nat.le_of_eq rfl) (hb hby d15_17)
  obtain ⟨rfl, rfl, e4⟩ := hQ4
  rw [List.append_nil] at X4
  refine Go.st st4 ?_
  refine Go.st (fun t k => XS.goto X4.here hx rfl (pc0 := 20) (pc' := 36) rfl (hb hby d15_20) (by decide) (by decide) k) ?_
  show Go p.tables e below PP (T4.setTop (mkF m 36 #[.val (.ref a1), .val (.int p2), .val (.int (0 : Int32))] [(.int (firstIx f1 (p2.toInt8.toInt32) 0 n1.toNatClampNeg))]))
  rw [hPP]
  refine endI X4 hx hlk hret (hb hby d15_36) ?_ (by decide) (by decide)
  rw [e4]
  exact ⟨rfl, rfl, rfl⟩
abbrev b_14 : ByteArray := jdk_42_method_79_code
theorem d14_0 : dk b_14 0 (.aload_n 0) 1 := by decide +kernel
theorem d14_1 : dk b_14 1 (.iload_n 1) 1 := by decide +kernel
theorem d14_2 : dk b_14 2 (.iconst 0) 1 := by decide +kernel
theorem d14_3 : dk b_14 3 (.invokevirtual 633) 3 := by decide +kernel
theorem d14_6 : dk b_14 6 (.ireturn) 1 := by decide +kernel
abbrev r_rm14 : Room := { frames := 3, cells := 0, slots := 0, locals := 46 }
theorem ef_rm14 (m : MethodId) (a1 : Addr) (p2 : Int32) : entryFrame m #[(.ref a1), (.int p2)] 2 = mkF m 0 #[.val (.ref a1), .val (.int p2)] [] := by first | (simp [entryFrame, mkF, argsToLocals, Value.category]; done) | rfl
def Q14 (Z : State) (a1 : Addr) (p2 : Int32) (t1 : Addr) (n1 : Int32) (f1 : Nat → Int32) (zc : Int32) (h0 : Heap) (n0 : Nat) (v : Option Value) (h : Heap) (L : List Loc) : Prop := v = some (.int (firstIx f1 (p2.toInt8.toInt32) 0 n1.toNatClampNeg)) ∧ L = [] ∧ h = h0
theorem rm14 (l : Launch) (Z : State) (a0 : Array Value) (hw : HWt Z a0) (ws : List Jvm.Cond) (a1 : Addr) (p2 : Int32) (t1 : Addr) (n1 : Int32) (f1 : Nat → Int32) (zc : Int32) (h0 : Heap) (n0 : Nat) (Z0 : n0 ≤ h0.size) (zab : Fld Z h0 a1 k_14 "value" "[B" (.ref t1)) (zaa : Fld Z h0 a1 k_14 "coder" "B" (.int (0 : Int32))) (V_t1 : Afn Z h0 t1 .byte n1 (fun k => .int (f1 k))) (E_a1 : Exa Z h0 a1 k_14) (SC : SS0 Z zc) (hzc : ¬ zc = (0 : Int32)) (O : Old Z n0 h0) (hch : ¬ p2 < (0 : Int32) ∧ ¬ (255 : Int32) < p2) :
    Con l Z y_14 jdk_42_method_79_code 2 (some .int) ws r_rm14 #[(.ref a1), (.int p2)] h0 (Q14 Z a1 p2 t1 n1 f1 zc h0 n0) := by
  refine Con.of2 (plainFor_of_name pn_rm18) ?_
  intro p e s m below meth c s₁ hZ e0 X0 hx hby hml hown hnm hret hlk PP hPP
  have N0 := Fr.nil n0
  refine Go.cast (ef_rm14 m a1 p2) ?_
  have Zn : n0 ≤ h0.size := Z0
  show Go p.tables e below PP (s₁.setTop (mkF m 0 #[.val (.ref a1), .val (.int p2)] []))
  refine Go.st (fun t k => XS.aloadN X0.here hx rfl (hb hby d14_0) rfl rfl (XS.iloadN X0.here hx rfl (hb hby d14_1) rfl (XS.iconst X0.here hx rfl (hb hby d14_2) k))) ?_
  obtain ⟨v1, T1, L1, X1, hQ1, st1⟩ := callVi X0 hx hZ (C := k_14) (y := y_15) (z := y_15) (a := a1) (argsL := [(.int p2), (.int (0 : Int32))]) (rest := []) hown (wk hw 75 rfl) (wk hw 76 rfl) (notFace_of_selects (args := #[]) (mvT hZ (wk hw 78 rfl))) (wk hw 78 rfl) (wk hw 77 rfl) (wk hw 14 rfl) (wk hw 79 rfl) (by decide) rfl E_a1 (rm15 l Z a0 hw [] a1 p2 t1 n1 f1 zc h0 n0 Zn zab zaa V_t1 E_a1 SC hzc O hch) e0 0 (by decide) (by decide) (by decide) (by decide) (g := (mkF m 3 #[.val (.ref a1), .val (.int p2)] [(.int (0 : Int32)), (.int p2), (.ref a1)])) rfl (by rw [hml]; rfl) (lenOf pd_2 rfl) rfl (Nat.le_of_eq rfl) (hb hby d14_3)
  obtain ⟨rfl, rfl, e1⟩ := hQ1
  rw [List.append_nil] at X1
  refine Go.st st1 ?_
  show Go p.tables e below PP (T1.setTop (mkF m 6 #[.val (.ref a1), .val (.int p2)] [(.int (firstIx f1 (p2.toInt8.toInt32) 0 n1.toNatClampNeg))]))
  rw [hPP]
  refine endI X1 hx hlk hret (hb hby d14_6) ?_ (by decide) (by decide)
  rw [e1]
  exact ⟨rfl, rfl, rfl⟩
theorem own_ds {f : Nat → Int32} (h : ¬ f 0 = (47 : Int32)) : firstIx f ((47 : Int32).toInt8.toInt32) 0 (1 : Int32).toNatClampNeg < (0 : Int32) := by
  have e : (1 : Int32).toNatClampNeg = 1 := rfl
  have e2 : ((47 : Int32).toInt8.toInt32) = 47 := by decide
  rw [e, e2]
  unfold firstIx
  rw [if_neg h]
  unfold firstIx
  decide
def upd (f : Nat → Int32) (i b : Int32) (k : Nat) : Int32 := if k = i.toNatClampNeg then b else f k
theorem own_ups (f : Nat → Int32) (i b : Int32) (k : Nat) : (if k = i.toNatClampNeg then Value.int b else Value.int (f k)) = Value.int (upd f i b k) := by unfold upd; split <;> rfl
theorem own_wr {cn : Int32} (h : ¬ cn < (0 : Int32) ∧ cn.toInt < 32) : (¬ cn < (0 : Int32) ∧ cn < (32 : Int32)) ∧ ¬ (0 : Int32) < ((cn + (1 : Int32)) - (32 : Int32)) ∧ (cn + (1 : Int32)).toInt = cn.toInt + 1 ∧ ¬ (cn + (1 : Int32)) < (0 : Int32) := by
  obtain ⟨h0, h1⟩ := h
  have q := c_iadd cn 1
  have q2 := c_isub (cn + 1) 32
  have r := rng32 (cn + 1)
  have r2 := rng32 (cn + 1 - 32)
  have e1 : (1 : Int32).toInt = 1 := rfl
  have e0 : (0 : Int32).toInt = 0 := rfl
  have e3 : (32 : Int32).toInt = 32 := rfl
  simp only [Int32.lt_iff_toInt_lt] at *
  refine ⟨⟨h0, ?_⟩, ?_, ?_, ?_⟩ <;> omega
theorem own_w0 {f : Nat → Int32} {cn b : Int32} (h : ¬ cn < (0 : Int32)) : (0 < cn.toInt → upd f cn b 0 = f 0) ∧ (cn.toInt = 0 → upd f cn b 0 = b) := by
  have e0 : (0 : Int32).toInt = 0 := rfl
  rw [Int32.lt_iff_toInt_lt] at h
  unfold upd
  refine ⟨fun z => if_neg ?_, fun z => if_pos ?_⟩ <;> simp only [Int32.toNatClampNeg] <;> omega
theorem own_wn {cn n : Int32} (h : ¬ cn < (0 : Int32) ∧ cn.toInt < 28) (hn : N4 n) : ¬ (0 : Int32) < ((cn + n) - (32 : Int32)) ∧ (cn + n).toInt = cn.toInt + n.toInt ∧ ¬ (cn + n) < (0 : Int32) ∧ cn.toNatClampNeg + n.toNatClampNeg ≤ (32 : Int32).toNatClampNeg := by
  obtain ⟨h0, h1⟩ := h
  have z := own_n4x hn
  have q := c_iadd cn n
  have q2 := c_isub (cn + n) 32
  have r := rng32 (cn + n)
  have r2 := rng32 (cn + n - 32)
  have e0 : (0 : Int32).toInt = 0 := rfl
  have e3 : (32 : Int32).toInt = 32 := rfl
  simp only [Int32.lt_iff_toInt_lt, Int32.toNatClampNeg] at *
  refine ⟨?_, ?_, ?_, ?_⟩ <;> omega
theorem own_wz {f g : Nat → Int32} {cn n : Int32} (h : ¬ cn < (0 : Int32)) (F : Nat → Value) (hF : ∀ k, F k = if cn.toNatClampNeg ≤ k ∧ k < cn.toNatClampNeg + n.toNatClampNeg then Value.int (f k) else Value.int (g k)) : 0 < cn.toInt → intOf (F 0) = g 0 := by
  intro z
  rw [hF, if_neg (by simp only [Int32.toNatClampNeg]; omega)]
  rfl
theorem own_mn {p2 n1 mn : Int32} (hm : (if p2 < n1 then p2 else n1) = mn) (hp : ¬ p2 < (0 : Int32)) (hn : ¬ n1 < (0 : Int32)) : ¬ mn < (0 : Int32) ∧ mn.toNatClampNeg ≤ n1.toNatClampNeg ∧ mn.toNatClampNeg ≤ p2.toNatClampNeg := by
  subst hm
  simp only [Int32.toNatClampNeg]
  split <;> rename_i z <;> rw [Int32.lt_iff_toInt_lt] at z <;> refine ⟨by assumption, ?_, ?_⟩ <;> omega
theorem own_cpo (f : Nat → Int32) (n1 p2 mn : Int32) (hm : (if p2 < n1 then p2 else n1) = mn) (k : Nat) (hk : k < p2.toNatClampNeg) : (if (0 : Int32).toNatClampNeg ≤ k ∧ k < (0 : Int32).toNatClampNeg + mn.toNatClampNeg then Value.int (f ((0 : Int32).toNatClampNeg + (k - (0 : Int32).toNatClampNeg))) else Value.int (0 : Int32)) = Value.int (if k < n1.toNatClampNeg then f k else 0) := by
  have e : (0 : Int32).toNatClampNeg = 0 := rfl
  rw [e, Nat.sub_zero, Nat.zero_add, Nat.zero_add]
  have q : (k < mn.toNatClampNeg) ↔ (k < n1.toNatClampNeg) := by
    subst hm
    simp only [Int32.toNatClampNeg] at *
    split <;> rename_i z <;> rw [Int32.lt_iff_toInt_lt] at z <;> omega
  by_cases z : k < n1.toNatClampNeg
  · rw [if_pos ⟨Nat.zero_le k, q.mpr z⟩, if_pos z]
  · rw [if_neg (fun w => z (q.mp w.2)), if_neg z]
theorem own_tb32 {cn : Int32} (h : ¬ cn < (0 : Int32) ∧ cn.toInt < 32) : ¬ cn < (0 : Int32) ∧ cn.toNatClampNeg ≤ 34 ∧ ¬ cn = (32 : Int32) := by
  refine ⟨h.1, ?_, ?_⟩
  · simp only [Int32.toNatClampNeg]; omega
  · rintro rfl; exact absurd h.2 (by decide)
theorem own_ds1 (x v : Int32) (h : (((97 : Int32) + (x &&& (15 : Int32))).toUInt32.toUInt16.toUInt32.toInt32) = v) : ¬ (255 : Int32) < v ∧ ¬ (v.toInt8.toInt32) = (47 : Int32) := by
  have q := c_mask x 15 4 (by decide) (by decide)
  have a := c_iadd 97 (x &&& 15)
  have r := rng32 (97 + (x &&& 15))
  have t := c_i2c (97 + (x &&& 15))
  rw [h] at t
  have b := c_i2b v
  have e9 : (97 : Int32).toInt = 97 := rfl
  have e2 : (255 : Int32).toInt = 255 := rfl
  have e4 : (47 : Int32).toInt = 47 := rfl
  rw [Int32.lt_iff_toInt_lt, ← Int32.toInt_inj]
  omega
abbrev b_6 : ByteArray := jdk_42_method_151_code
theorem d6_0 : dk b_6 0 (.aload_n 0) 1 := by decide +kernel
theorem d6_1 : dk b_6 1 (.invokespecial 1) 3 := by decide +kernel
theorem d6_4 : dk b_6 4 (.aload_n 0) 1 := by decide +kernel
theorem d6_5 : dk b_6 5 (.aload_n 1) 1 := by decide +kernel
theorem d6_6 : dk b_6 6 (.putfield 9) 3 := by decide +kernel
theorem d6_9 : dk b_6 9 (.aload_n 0) 1 := by decide +kernel
theorem d6_10 : dk b_6 10 (.iload_n 2) 1 := by decide +kernel
theorem d6_11 : dk b_6 11 (.putfield 15) 3 := by decide +kernel
theorem d6_14 : dk b_6 14 (.return_) 1 := by decide +kernel
abbrev r_rm6 : Room := { frames := 1, cells := 0, slots := 0, locals := 12 }
theorem ef_rm6 (m : MethodId) (a1 : Addr) (a2 : Addr) : entryFrame m #[(.ref a1), (.ref a2), (.int (0 : Int32))] 3 = mkF m 0 #[.val (.ref a1), .val (.ref a2), .val (.int (0 : Int32))] [] := by first | (simp [entryFrame, mkF, argsToLocals, Value.category]; done) | rfl
def Q6 (Z : State) (a1 : Addr) (a2 : Addr) (h0 : Heap) (n0 : Nat) (v : Option Value) (h : Heap) (L : List Loc) : Prop := v = none ∧ Fr n0 L ∧ Keep h0 h [a1] ∧ Fld Z h a1 k_14 "value" "[B" (.ref a2) ∧ Fld Z h a1 k_14 "coder" "B" (.int (0 : Int32))
theorem rm6 (l : Launch) (Z : State) (a0 : Array Value) (hw : HWt Z a0) (ws : List Jvm.Cond) (a1 : Addr) (a2 : Addr) (h0 : Heap) (n0 : Nat) (Z0 : n0 ≤ h0.size) (E_a1 : Exa Z h0 a1 k_14) (zab : Fld Z h0 a1 k_14 "value" "[B" .null) (zaa : Fld Z h0 a1 k_14 "coder" "B" (.int (0 : Int32))) (g_a1 : n0 ≤ a1) :
    Con l Z y_6 jdk_42_method_151_code 3 none ws r_rm6 #[(.ref a1), (.ref a2), (.int (0 : Int32))] h0 (Q6 Z a1 a2 h0 n0) := by
  refine Con.of2 (plainFor_of_name pn_rm18) ?_
  intro p e s m below meth c s₁ hZ e0 X0 hx hby hml hown hnm hret hlk PP hPP
  have N0 := Fr.nil n0
  refine Go.cast (ef_rm6 m a1 a2) ?_
  have K : Keep h0 h0 [a1] := Keep.refl h0 _
  have Zn : n0 ≤ h0.size := Z0
  show Go p.tables e below PP (s₁.setTop (mkF m 0 #[.val (.ref a1), .val (.ref a2), .val (.int (0 : Int32))] []))
  refine Go.st (fun t k => XS.aloadN X0.here hx rfl (hb hby d6_0) rfl rfl k) ?_
  obtain ⟨T1, X1, e1, st1⟩ := initO X0 hx hZ hown (wk hw 30 rfl) (wk hw 31 rfl) (wk hw 32 rfl) e0 (g := (mkF m 1 #[.val (.ref a1), .val (.ref a2), .val (.int (0 : Int32))] [(.ref a1)])) rfl (by rw [hml]; rfl) rfl (hb hby d6_1) (by decide) (W := 0) (by show 2 * 0 + _ ≤ _; exact Nat.le_of_eq rfl) (by decide)
  refine Go.st st1 ?_
  refine Go.st (fun t k => XS.aloadN X1.here hx rfl (hb hby d6_4) rfl rfl (XS.aloadN X1.here hx rfl (hb hby d6_5) rfl rfl k)) ?_
  obtain ⟨T2, h2, X2, e2, W2, st2⟩ := putF X1 hx hZ hown (host := "") (Or.inl (wk hw 33 rfl)) Via.refl e1 zab E_a1 (Or.inr ⟨(wk hw 34 rfl), rfl, hnm⟩) (wk hw 22 rfl) (ty := (.array .byte)) (by decide) rfl rfl (g := (mkF m 6 #[.val (.ref a1), .val (.ref a2), .val (.int (0 : Int32))] [(.ref a2), (.ref a1)])) rfl rfl (hb hby d6_6)
  refine Go.st st2 ?_
  have N2 := Fr.snoc X2 N0 g_a1
  replace E_a1 := E_a1.wr W2
  replace zaa := zaa.other W2 (Or.inr (slot_ne (a0 := a0) (Or.inr (wk hw 36 rfl)) (Or.inr (wk hw 34 rfl)) (by decide) (t := .byte) (t' := (.array .byte)) (by decide) (by decide)))
  replace K := K.wr W2 (Or.inl (List.mem_of_getElem? (i := 0) rfl))
  replace Zn : n0 ≤ h2.size := by rw [W2.size]; exact Zn
  replace zab := zab.same W2
  refine Go.st (fun t k => XS.aloadN X2.here hx rfl (hb hby d6_9) rfl rfl (XS.iloadN X2.here hx rfl (hb hby d6_10) rfl k)) ?_
  obtain ⟨T3, h3, X3, e3, W3, st3⟩ := putFN X2 hx hZ hown (wk hw 35 rfl) Via.refl e2 zaa E_a1 (Or.inr ⟨(wk hw 36 rfl), rfl, hnm⟩) (wk hw 22 rfl) (ty := .byte) (v' := (.int (0 : Int32))) (by decide) rfl (by decide) (g := (mkF m 11 #[.val (.ref a1), .val (.ref a2), .val (.int (0 : Int32))] [(.int (0 : Int32)), (.ref a1)])) rfl rfl (hb hby d6_11)
  refine Go.st st3 ?_
  have N3 := Fr.snoc X3 N2 g_a1
  replace zab := zab.other W3 (Or.inr (slot_ne (a0 := a0) (Or.inr (wk hw 34 rfl)) (Or.inr (wk hw 36 rfl)) (by decide) (t := (.array .byte)) (t' := .byte) (by decide) (by decide)))
  replace K := K.wr W3 (Or.inl (List.mem_of_getElem? (i := 0) rfl))
  replace Zn : n0 ≤ h3.size := by rw [W3.size]; exact Zn
  replace zaa := zaa.same W3
  show Go p.tables e below PP (T3.setTop (mkF m 14 #[.val (.ref a1), .val (.ref a2), .val (.int (0 : Int32))] []))
  rw [hPP]
  refine endV X3 hx hlk hret (hb hby d6_14) ?_ (by decide) (by decide)
  rw [e3]
  exact ⟨rfl, N3, K, zab, zaa⟩
abbrev b_4 : ByteArray := jdk_43_method_3_code
theorem d4_0 : dk b_4 0 (.iload_n 0) 1 := by decide +kernel
theorem d4_1 : dk b_4 1 (.sipush 255) 3 := by decide +kernel
theorem d4_4 : dk b_4 4 (.if_icmp .gt 7) 3 := by decide +kernel
theorem d4_7 : dk b_4 7 (.iconst 1) 1 := by decide +kernel
theorem d4_8 : dk b_4 8 (.goto 4) 3 := by decide +kernel
theorem d4_11 : dk b_4 11 (.iconst 0) 1 := by decide +kernel
theorem d4_12 : dk b_4 12 (.ireturn) 1 := by decide +kernel
abbrev r_rm4 : Room := { frames := 0, cells := 0, slots := 0, locals := 0 }
def Q4 (Z : State) (p1 : Int32) (h0 : Heap) (n0 : Nat) (v : Option Value) (h : Heap) (L : List Loc) : Prop := v = some (.int (bi (¬ (255 : Int32) < p1))) ∧ L = [] ∧ h = h0
theorem rm4 (l : Launch) (Z : State) (a0 : Array Value) (hw : HWt Z a0) (ws : List Jvm.Cond) (p1 : Int32) (h0 : Heap) (n0 : Nat) (Z0 : n0 ≤ h0.size) :
    Con l Z y_4 jdk_43_method_3_code 1 (some .boolean) ws r_rm4 #[(.int p1)] h0 (Q4 Z p1 h0 n0) := by
  refine Con.of2 (plainFor_of_name pn_rm20) ?_
  intro p e s m below meth c s₁ hZ e0 X0 hx hby hml hown hnm hret hlk PP hPP
  have N0 := Fr.nil n0
  refine Go.cast (ef_rm20 m p1) ?_
  have Zn : n0 ≤ h0.size := Z0
  show Go p.tables e below PP (s₁.setTop (mkF m 0 #[.val (.int p1)] []))
  refine Go.st (fun t k => XS.iloadN X0.here hx rfl (hb hby d4_0) rfl (XS.sipush X0.here hx rfl (hb hby d4_1) k)) ?_
  show Go p.tables e below PP (s₁.setTop (mkF m 4 #[.val (.int p1)] [(.int (255 : Int32)), (.int p1)]))
  by_cases hc4 : (255 : Int32) < p1
  · --
    refine Go.st (fun t k => XS.icmpYes X0.here hx rfl (pc0 := 4) (pc' := 11) rfl (hb hby d4_4) rfl (XT.ii_gt_t hc4) (by decide) (by decide) (XS.iconst X0.here hx rfl (hb hby d4_11) k)) ?_
    show Go p.tables e below PP (s₁.setTop (mkF m 12 #[.val (.int p1)] [(.int (0 : Int32))]))
    rw [hPP]
    refine endN X0 hx hlk (t := .boolean) hret (by simp) (hb hby d4_12) (w := (0 : Int32)) (rfl) ?_ (by decide) (by decide)
    rw [e0]
    exact ⟨by simp [bi, hc4], rfl, rfl⟩
  · --
    refine Go.st (fun t k => XS.icmpNo X0.here hx rfl (hb hby d4_4) rfl (XT.ii_gt_f hc4) (XS.iconst X0.here hx rfl (hb hby d4_7) (XS.goto X0.here hx rfl (pc0 := 8) (pc' := 12) rfl (hb hby d4_8) (by decide) (by decide) k))) ?_
    show Go p.tables e below PP (s₁.setTop (mkF m 12 #[.val (.int p1)] [(.int (1 : Int32))]))
    rw [hPP]
    refine endN X0 hx hlk (t := .boolean) hret (by simp) (hb hby d4_12) (w := (1 : Int32)) (rfl) ?_ (by decide) (by decide)
    rw [e0]
    exact ⟨by simp [bi, hc4], rfl, rfl⟩
theorem own_tb (x : Int32) (k : Nat) (hk : k < (1 : Int32).toNatClampNeg) : (if k = (0 : Int32).toNatClampNeg then Value.int ((x.toInt8.toInt32).toInt8.toInt32) else Value.int (0 : Int32)) = Value.int ((csL [x] k).toInt8.toInt32) := by
  have e : (1 : Int32).toNatClampNeg = 1 := rfl
  have e0 : (0 : Int32).toNatClampNeg = 0 := rfl
  rw [e] at hk
  obtain rfl : k = 0 := by omega
  simp [csL, e0]
abbrev b_5 : ByteArray := jdk_43_method_46_code
theorem d5_0 : dk b_5 0 (.iconst 1) 1 := by decide +kernel
theorem d5_1 : dk b_5 1 (.newarray .byte) 2 := by decide +kernel
theorem d5_3 : dk b_5 3 (.dup) 1 := by decide +kernel
theorem d5_4 : dk b_5 4 (.iconst 0) 1 := by decide +kernel
theorem d5_5 : dk b_5 5 (.iload_n 0) 1 := by decide +kernel
theorem d5_6 : dk b_5 6 (.i2b) 1 := by decide +kernel
theorem d5_7 : dk b_5 7 (.bastore) 1 := by decide +kernel
theorem d5_8 : dk b_5 8 (.areturn) 1 := by decide +kernel
abbrev r_rm5 : Room := { frames := 0, cells := 1, slots := 1, locals := 0 }
def Q5 (Z : State) (p1 : Int32) (h0 : Heap) (n0 : Nat) (v : Option Value) (h : Heap) (L : List Loc) : Prop := ∃ t : Addr, v = some (.ref t) ∧ Fr n0 L ∧ Keep h0 h [] ∧ h0.size ≤ t ∧ Afn Z h t .byte (1 : Int32) (fun k => .int ((csL [p1] k).toInt8.toInt32))
theorem rm5 (l : Launch) (Z : State) (a0 : Array Value) (hw : HWt Z a0) (ws : List Jvm.Cond) (p1 : Int32) (h0 : Heap) (n0 : Nat) (Z0 : n0 ≤ h0.size) :
    Con l Z y_5 jdk_43_method_46_code 1 (some (.array .byte)) ws r_rm5 #[(.int p1)] h0 (Q5 Z p1 h0 n0) := by
  refine Con.of2 (plainFor_of_name pn_rm20) ?_
  intro p e s m below meth c s₁ hZ e0 X0 hx hby hml hown hnm hret hlk PP hPP
  have N0 := Fr.nil n0
  refine Go.cast (ef_rm20 m p1) ?_
  have K : Keep h0 h0 [] := Keep.refl h0 _
  have Zn : n0 ≤ h0.size := Z0
  show Go p.tables e below PP (s₁.setTop (mkF m 0 #[.val (.int p1)] []))
  refine Go.st (fun t k => XS.iconst X0.here hx rfl (hb hby d5_0) k) ?_
  obtain ⟨T1, h1, k1, X1, e1, E1, A1, st1⟩ := newP X0 hx hZ (wk hw 4 rfl) e0 (g := (mkF m 1 #[.val (.int p1)] [(.int (1 : Int32))])) rfl (hb hby d5_1) rfl (by decide) (cap := 1) (by decide) (by decide) (by decide) (by decide)
  obtain ⟨b1, gz1⟩ : ∃ z, z = h0.size := ⟨_, rfl⟩
  rw [← gz1] at A1 st1
  have g_b1 : n0 ≤ b1 := Nat.le_trans Zn (Nat.le_of_eq gz1.symm)
  have zas : h0.size ≤ b1 := Nat.le_trans K.1 (Nat.le_of_eq gz1.symm)
  refine Go.st st1 ?_
  replace K := K.ext E1
  replace Zn := Nat.le_trans Zn E1.1
  have V_b1 : Afn Z h1 b1 .byte (1 : Int32) (fun _ => (.int (0 : Int32))) := Afn.new A1 (by decide)
  refine Go.st (fun t k => XS.dup X1.here hx rfl (hb hby d5_3) rfl rfl (XS.iconst X1.here hx rfl (hb hby d5_4) (XS.iloadN X1.here hx rfl (hb hby d5_5) rfl (XS.i2b X1.here hx rfl (hb hby d5_6) rfl k)))) ?_
  obtain ⟨cl2, Ar2, S2, Nn2, H2⟩ := id V_b1
  have hin2 : ¬ ((0 : Int32) < 0 ∨ cl2.slots.size ≤ ((0 : Int32)).toNatClampNeg) := inb_of S2 ⟨by decide, by decide⟩
  obtain ⟨T2, h2, X2, e2, W2, st2⟩ := stB X1 hx hZ e1 Ar2 (j := (0 : Int32)) hin2 (g := (mkF m 7 #[.val (.int p1)] [(.int (p1.toInt8.toInt32)), (.int (0 : Int32)), (.ref b1), (.ref b1)])) rfl rfl (hb hby d5_7)
  refine Go.st st2 ?_
  have N2 := Fr.snoc X2 N0 g_b1
  replace K := K.wr W2 (Or.inr zas)
  replace Zn : n0 ≤ h2.size := by rw [W2.size]; exact Zn
  replace V_b1 := Afn.set Ar2 S2 Nn2 H2 (fits_nar_byte _) W2
  show Go p.tables e below PP (T2.setTop (mkF m 8 #[.val (.int p1)] [(.ref b1)]))
  rw [hPP]
  refine endR X2 hx hlk hret rfl rfl (hb hby d5_8) ?_ (by decide) (by decide)
  rw [e2]
  exact ⟨b1, rfl, N2, K, zas, V_b1.congr (fun k hk => own_tb p1 k hk)⟩
abbrev b_3 : ByteArray := jdk_42_method_139_code
theorem d3_0 : dk b_3 0 (.getstatic 38) 3 := by decide +kernel
theorem d3_3 : dk b_3 3 (.ifCond .eq 23) 3 := by decide +kernel
theorem d3_6 : dk b_3 6 (.iload_n 0) 1 := by decide +kernel
theorem d3_7 : dk b_3 7 (.invokestatic 1015) 3 := by decide +kernel
theorem d3_10 : dk b_3 10 (.ifCond .eq 16) 3 := by decide +kernel
theorem d3_13 : dk b_3 13 (.new 10) 3 := by decide +kernel
theorem d3_16 : dk b_3 16 (.dup) 1 := by decide +kernel
theorem d3_17 : dk b_3 17 (.iload_n 0) 1 := by decide +kernel
theorem d3_18 : dk b_3 18 (.invokestatic 1018) 3 := by decide +kernel
theorem d3_21 : dk b_3 21 (.iconst 0) 1 := by decide +kernel
theorem d3_22 : dk b_3 22 (.invokespecial 209) 3 := by decide +kernel
theorem d3_25 : dk b_3 25 (.areturn) 1 := by decide +kernel
theorem d3_26 : dk b_3 26 (.new 10) 3 := by decide +kernel
theorem d3_29 : dk b_3 29 (.dup) 1 := by decide +kernel
theorem d3_30 : dk b_3 30 (.iload_n 0) 1 := by decide +kernel
theorem d3_31 : dk b_3 31 (.invokestatic 1021) 3 := by decide +kernel
theorem d3_34 : dk b_3 34 (.iconst 1) 1 := by decide +kernel
theorem d3_35 : dk b_3 35 (.invokespecial 209) 3 := by decide +kernel
theorem d3_38 : dk b_3 38 (.areturn) 1 := by decide +kernel
abbrev r_rm3 : Room := { frames := 2, cells := 2, slots := 5, locals := 27 }
def Q3 (Z : State) (p1 : Int32) (zc : Int32) (h0 : Heap) (n0 : Nat) (v : Option Value) (h : Heap) (L : List Loc) : Prop := ∃ r t : Addr, v = some (.ref r) ∧ Fr n0 L ∧ Keep h0 h [] ∧ h0.size ≤ r ∧ h0.size ≤ t ∧ Exa Z h r k_14 ∧ Fld Z h r k_14 "coder" "B" (.int (0 : Int32)) ∧ Fld Z h r k_14 "value" "[B" (.ref t) ∧ Afn Z h t .byte (1 : Int32) (fun k => .int ((csL [p1] k).toInt8.toInt32))
theorem pd_6 : parseMethodDescriptor "(C)Z" = some ⟨[.char], some .boolean⟩ := by decide +kernel
theorem pd_7 : parseMethodDescriptor "(C)[B" = some ⟨[.char], some (.array .byte)⟩ := by decide +kernel
theorem pd_8 : parseMethodDescriptor "([BB)V" = some ⟨[(.array .byte), .byte], none⟩ := by decide +kernel
theorem rm3 (l : Launch) (Z : State) (a0 : Array Value) (hw : HWt Z a0) (ws : List Jvm.Cond) (p1 : Int32) (zc : Int32) (h0 : Heap) (n0 : Nat) (Z0 : n0 ≤ h0.size) (SC : SS0 Z zc) (hzc : ¬ zc = (0 : Int32)) (O : Old Z n0 h0) (hlo : ¬ (255 : Int32) < p1) :
    Con l Z y_3 jdk_42_method_139_code 1 (some (.object "java/lang/String")) ws r_rm3 #[(.int p1)] h0 (Q3 Z p1 zc h0 n0) := by
  refine Con.of2 (plainFor_of_name pn_rm18) ?_
  intro p e s m below meth c s₁ hZ e0 X0 hx hby hml hown hnm hret hlk PP hPP
  have N0 := Fr.nil n0
  refine Go.cast (ef_rm20 m p1) ?_
  have K : Keep h0 h0 [] := Keep.refl h0 _
  have Zn : n0 ≤ h0.size := Z0
  obtain ⟨T1, X1, e1, st1⟩ := getS2 X0 hx hZ hown (host := "") (Or.inl (wk hw 16 rfl)) Via.refl e0 (SC.ext O.2) (g := (mkF m 0 #[.val (.int p1)] [])) rfl (hb hby d3_0)
  refine Go.st st1 ?_
  refine Go.st (fun t k => XS.ifNo X1.here hx rfl (hb hby d3_3) rfl (XT.i0_eq_f hzc) (XS.iloadN X1.here hx rfl (hb hby d3_6) rfl k)) ?_
  obtain ⟨v2, T2, L2, X2, hQ2, st2⟩ := callSt X1 hx hZ (y := y_4) (argsL := [(.int p1)]) (rest := []) hown (wk hw 17 rfl) (wk hw 18 rfl) (wk hw 19 rfl) (wk hw 20 rfl) (by decide) (rm4 l Z a0 hw [] p1 h0 n0 Zn) e1 0 (by decide) (by decide) (by decide) (by decide) (g := (mkF m 7 #[.val (.int p1)] [(.int p1)])) rfl (by rw [hml]; rfl) (lenOf pd_6 rfl) rfl (Nat.le_of_eq rfl) (hb hby d3_7)
  obtain ⟨rfl, rfl, e2⟩ := hQ2
  rw [List.append_nil] at X2
  refine Go.st st2 ?_
  refine Go.st (fun t k => XS.ifNo X2.here hx rfl (hb hby d3_10) rfl (XT.i0_eq_f (by rw [bi_t hlo]; decide)) k) ?_
  obtain ⟨T3, h3, X3, e3, E3, A3, D3, U3, st3⟩ := newO X2 hx hZ hown (wk hw 21 rfl) (wk hw 22 rfl) (wk hw 14 rfl) e2 (g := (mkF m 13 #[.val (.int p1)] [])) rfl (hb hby d3_13) (by decide) (by decide)
  obtain ⟨b3, gz3⟩ : ∃ z, z = h0.size := ⟨_, rfl⟩
  rw [← gz3] at A3 D3 U3 st3
  have g_b3 : n0 ≤ b3 := Nat.le_trans Zn (Nat.le_of_eq gz3.symm)
  have zet : h0.size ≤ b3 := Nat.le_trans K.1 (Nat.le_of_eq gz3.symm)
  refine Go.st st3 ?_
  replace O := O.ext E3
  replace K := K.ext E3
  replace Zn := Nat.le_trans Zn E3.1
  have E_b3 := A3
  have zdy : Fld Z h3 b3 k_14 "value" "[B" .null := D3 (Or.inr (wk hw 34 rfl)) (ty := (.array .byte)) (by decide)
  have zdz : Fld Z h3 b3 k_14 "coder" "B" (.int (0 : Int32)) := D3 (Or.inr (wk hw 36 rfl)) (ty := .byte) (by decide)
  refine Go.st (fun t k => XS.dup X3.here hx rfl (hb hby d3_16) rfl rfl (XS.iloadN X3.here hx rfl (hb hby d3_17) rfl k)) ?_
  obtain ⟨v4, T4, L4, X4, hQ4, st4⟩ := callSt X3 hx hZ (y := y_5) (argsL := [(.int p1)]) (rest := [(.ref b3), (.ref b3)]) hown (wk hw 23 rfl) (wk hw 24 rfl) (wk hw 19 rfl) (wk hw 25 rfl) (by decide) (rm5 l Z a0 hw [] p1 h3 n0 Zn) e3 2 (by decide) (by decide) (by decide) (by decide) (g := (mkF m 18 #[.val (.int p1)] [(.int p1), (.ref b3), (.ref b3)])) rfl (by rw [hml]; rfl) (lenOf pd_7 rfl) rfl (Nat.le_of_eq rfl) (hb hby d3_18)
  obtain ⟨h4, e4⟩ : ∃ z, T4.heap = z := ⟨_, rfl⟩
  rw [e4] at hQ4
  obtain ⟨t_4, rfl, Nq4, Kq4, sq4_t, zaw⟩ := hQ4
  have N4 := Fr.app N0 Nq4
  have zeo : b3 ≠ t_4 := Nat.ne_of_lt (Nat.lt_of_lt_of_le E_b3.lt sq4_t)
  have zfu : h0.size ≤ t_4 := Nat.le_trans K.1 sq4_t
  replace E_b3 := E_b3.keep Kq4
  replace zdy := zdy.keep Kq4 nin0
  replace zdz := zdz.keep Kq4 nin0
  replace O := O.keep Kq4 all0
  replace K := K.trans Kq4 all0
  replace Zn := Nat.le_trans Zn Kq4.1
  have zat := zaw
  refine Go.st st4 ?_
  refine Go.st (fun t k => XS.iconst X4.here hx rfl (hb hby d3_21) k) ?_
  obtain ⟨v5, T5, L5, X5, hQ5, st5⟩ := callIn X4 hx hZ (y := y_6) (a := b3) (argsL := [(.ref t_4), (.int (0 : Int32))]) (rest := [(.ref b3)]) rfl hown (wk hw 26 rfl) (wk hw 27 rfl) (wk hw 14 rfl) (wk hw 29 rfl) (by decide) (rm6 l Z a0 hw [] b3 t_4 h4 n0 Zn E_b3 zdy zdz g_b3) e4 1 (by decide) (by decide) (by decide) (by decide) (g := (mkF m 22 #[.val (.int p1)] [(.int (0 : Int32)), (.ref t_4), (.ref b3), (.ref b3)])) rfl (by rw [hml]; rfl) (lenOf pd_8 rfl) rfl (Nat.le_of_eq rfl) (hb hby d3_22)
  obtain ⟨h5, e5⟩ : ∃ z, T5.heap = z := ⟨_, rfl⟩
  rw [e5] at hQ5
  obtain ⟨rfl, Nq5, Kq5, zan, zay⟩ := hQ5
  have N5 := Fr.app N4 Nq5
  replace E_b3 := E_b3.keep Kq5
  replace zat := zat.keep Kq5 (ninS (Ne.symm zeo) nin0)
  replace O := O.keep Kq5 (allS g_b3 all0)
  replace K := K.trans Kq5 (allS (Or.inr zet) all0)
  replace Zn := Nat.le_trans Zn Kq5.1
  have zdy := zan
  have zdz := zay
  refine Go.st st5 ?_
  show Go p.tables e below PP (T5.setTop (mkF m 25 #[.val (.int p1)] [(.ref b3)]))
  rw [hPP]
  refine endR X5 hx hlk hret rfl rfl (hb hby d3_25) ?_ (by decide) (by decide)
  rw [e5]
  exact ⟨b3, t_4, rfl, N5, K, zet, zfu, E_b3, zdz, zdy, zat⟩
theorem strA {Z : State} {a0 : Array Value} (hw : HWt Z a0) : ∀ d ∈ Bundle.stringAtoms, d.before a0 Z = true := by
  intro d hd
  simp only [Bundle.stringAtoms, List.mem_cons, List.not_mem_nil, or_false] at hd
  rcases hd with rfl | rfl | rfl | rfl | rfl | rfl | rfl
  · exact (wk hw 14 rfl)
  · exact (wk hw 22 rfl)
  · exact (wk hw 4 rfl)
  · exact (wk hw 34 rfl)
  · exact (wk hw 36 rfl)
  · exact (wk hw 112 rfl)
  · exact (wk hw 113 rfl)
abbrev b_66 : ByteArray := jdk_41_method_11_code
theorem d66_0 : dk b_66 0 (.iload_n 0) 1 := by decide +kernel
theorem d66_1 : dk b_66 1 (.ifCond .lt 8) 3 := by decide +kernel
theorem d66_4 : dk b_66 4 (.iload_n 0) 1 := by decide +kernel
theorem d66_5 : dk b_66 5 (.iload_n 1) 1 := by decide +kernel
theorem d66_6 : dk b_66 6 (.if_icmp .lt 10) 3 := by decide +kernel
theorem d66_16 : dk b_66 16 (.iload_n 0) 1 := by decide +kernel
theorem d66_17 : dk b_66 17 (.ireturn) 1 := by decide +kernel
abbrev r_rm66 : Room := { frames := 0, cells := 0, slots := 0, locals := 0 }
theorem pn_rm66 : plainName "jdk/internal/util/Preconditions" = true := by first | (simp [plainName, overriddenIn]; done) | decide +kernel
theorem ef_rm66 (m : MethodId) (p1 : Int32) (p2 : Int32) (sv : Value) (hr_sv : sv.isRef = true) : entryFrame m #[(.int p1), (.int p2), sv] 3 = mkF m 0 #[.val (.int p1), .val (.int p2), .val sv] [] := by cases sv <;> first | (simp [entryFrame, mkF, argsToLocals, Value.category]; done) | rfl | (simp [Value.isRef] at hr_sv; done)
def Q66 (Z : State) (p1 : Int32) (p2 : Int32) (sv : Value) (h0 : Heap) (n0 : Nat) (v : Option Value) (h : Heap) (L : List Loc) : Prop := v = some (.int p1) ∧ L = [] ∧ h = h0
theorem rm66 (l : Launch) (Z : State) (a0 : Array Value) (hw : HWt Z a0) (ws : List Jvm.Cond) (p1 : Int32) (p2 : Int32) (sv : Value) (h0 : Heap) (n0 : Nat) (Z0 : n0 ≤ h0.size) (hr_sv : sv.isRef = true) (hci : ¬ p1 < (0 : Int32) ∧ p1 < p2) :
    Con l Z y_66 jdk_41_method_11_code 3 (some .int) ws r_rm66 #[(.int p1), (.int p2), sv] h0 (Q66 Z p1 p2 sv h0 n0) := by
  refine Con.of2 (plainFor_of_name pn_rm66) ?_
  intro p e s m below meth c s₁ hZ e0 X0 hx hby hml hown hnm hret hlk PP hPP
  have N0 := Fr.nil n0
  refine Go.cast (ef_rm66 m p1 p2 sv hr_sv) ?_
  have Zn : n0 ≤ h0.size := Z0
  show Go p.tables e below PP (s₁.setTop (mkF m 0 #[.val (.int p1), .val (.int p2), .val sv] []))
  refine Go.st (fun t k => XS.iloadN X0.here hx rfl (hb hby d66_0) rfl (XS.ifNo X0.here hx rfl (hb hby d66_1) rfl (XT.i0_lt_f hci.1) (XS.iloadN X0.here hx rfl (hb hby d66_4) rfl (XS.iloadN X0.here hx rfl (hb hby d66_5) rfl (XS.icmpYes X0.here hx rfl (pc0 := 6) (pc' := 16) rfl (hb hby d66_6) rfl (XT.ii_lt_t hci.2) (by decide) (by decide) (XS.iloadN X0.here hx rfl (hb hby d66_16) rfl k)))))) ?_
  show Go p.tables e below PP (s₁.setTop (mkF m 17 #[.val (.int p1), .val (.int p2), .val sv] [(.int p1)]))
  rw [hPP]
  refine endI X0 hx hlk hret (hb hby d66_17) ?_ (by decide) (by decide)
  rw [e0]
  exact ⟨rfl, rfl, rfl⟩
abbrev b_65 : ByteArray := jdk_42_method_155_code
theorem d65_0 : dk b_65 0 (.iload_n 0) 1 := by decide +kernel
theorem d65_1 : dk b_65 1 (.iload_n 1) 1 := by decide +kernel
theorem d65_2 : dk b_65 2 (.getstatic 1053) 3 := by decide +kernel
theorem d65_5 : dk b_65 5 (.invokestatic 1059) 3 := by decide +kernel
theorem d65_8 : dk b_65 8 (.pop) 1 := by decide +kernel
theorem d65_9 : dk b_65 9 (.return_) 1 := by decide +kernel
abbrev r_rm65 : Room := { frames := 1, cells := 0, slots := 0, locals := 14 }
def Q65 (Z : State) (p1 : Int32) (p2 : Int32) (sv : Value) (h0 : Heap) (n0 : Nat) (v : Option Value) (h : Heap) (L : List Loc) : Prop := v = none ∧ L = [] ∧ h = h0
theorem pd_9 : parseMethodDescriptor "(IILjava/util/function/BiFunction;)I" = some ⟨[.int, .int, (.object "java/util/function/BiFunction")], some .int⟩ := by decide +kernel
theorem rm65 (l : Launch) (Z : State) (a0 : Array Value) (hw : HWt Z a0) (ws : List Jvm.Cond) (p1 : Int32) (p2 : Int32) (sv : Value) (h0 : Heap) (n0 : Nat) (Z0 : n0 ≤ h0.size) (SV : SS1 Z sv) (hr_sv : sv.isRef = true) (O : Old Z n0 h0) (hci : ¬ p1 < (0 : Int32) ∧ p1 < p2) :
    Con l Z y_65 jdk_42_method_155_code 2 none ws r_rm65 #[(.int p1), (.int p2)] h0 (Q65 Z p1 p2 sv h0 n0) := by
  refine Con.of2 (plainFor_of_name pn_rm18) ?_
  intro p e s m below meth c s₁ hZ e0 X0 hx hby hml hown hnm hret hlk PP hPP
  have N0 := Fr.nil n0
  refine Go.cast (ef_rm22 m p1 p2) ?_
  have Zn : n0 ≤ h0.size := Z0
  show Go p.tables e below PP (s₁.setTop (mkF m 0 #[.val (.int p1), .val (.int p2)] []))
  refine Go.st (fun t k => XS.iloadN X0.here hx rfl (hb hby d65_0) rfl (XS.iloadN X0.here hx rfl (hb hby d65_1) rfl k)) ?_
  obtain ⟨T1, X1, e1, st1⟩ := getS2 X0 hx hZ hown (host := "") (Or.inl (wk hw 360 rfl)) Via.refl e0 (SV.ext O.2) (g := (mkF m 2 #[.val (.int p1), .val (.int p2)] [(.int p2), (.int p1)])) rfl (hb hby d65_2)
  refine Go.st st1 ?_
  obtain ⟨v2, T2, L2, X2, hQ2, st2⟩ := callSt X1 hx hZ (y := y_66) (argsL := [(.int p1), (.int p2), sv]) (rest := []) hown (wk hw 361 rfl) (wk hw 362 rfl) (wk hw 248 rfl) (wk hw 363 rfl) (by decide) (rm66 l Z a0 hw [] p1 p2 sv h0 n0 Zn hr_sv hci) e1 0 (by decide) (by decide) (by decide) (by decide) (g := (mkF m 5 #[.val (.int p1), .val (.int p2)] [sv, (.int p2), (.int p1)])) rfl (by rw [hml]; rfl) (lenOf pd_9 rfl) rfl (Nat.le_of_eq rfl) (hb hby d65_5)
  obtain ⟨rfl, rfl, e2⟩ := hQ2
  rw [List.append_nil] at X2
  refine Go.st st2 ?_
  refine Go.st (fun t k => XS.pop X2.here hx rfl (hb hby d65_8) rfl rfl k) ?_
  show Go p.tables e below PP (T2.setTop (mkF m 9 #[.val (.int p1), .val (.int p2)] []))
  rw [hPP]
  refine endV X2 hx hlk hret (hb hby d65_9) ?_ (by decide) (by decide)
  rw [e2]
  exact ⟨rfl, rfl, rfl⟩
def chB (b : Int32) : Int32 := nar .char ((b &&& (255 : Int32)).toUInt32.toUInt16.toUInt32.toInt32)
def chC (b : Int32) : Int32 := nar .char (chB b)
abbrev b_64 : ByteArray := jdk_43_method_2_code
theorem d64_0 : dk b_64 0 (.iload_n 1) 1 := by decide +kernel
theorem d64_1 : dk b_64 1 (.aload_n 0) 1 := by decide +kernel
theorem d64_2 : dk b_64 2 (.arraylength) 1 := by decide +kernel
theorem d64_3 : dk b_64 3 (.invokestatic 9) 3 := by decide +kernel
theorem d64_6 : dk b_64 6 (.aload_n 0) 1 := by decide +kernel
theorem d64_7 : dk b_64 7 (.iload_n 1) 1 := by decide +kernel
theorem d64_8 : dk b_64 8 (.baload) 1 := by decide +kernel
theorem d64_9 : dk b_64 9 (.sipush 255) 3 := by decide +kernel
theorem d64_12 : dk b_64 12 (.iand) 1 := by decide +kernel
theorem d64_13 : dk b_64 13 (.i2c) 1 := by decide +kernel
theorem d64_14 : dk b_64 14 (.ireturn) 1 := by decide +kernel
abbrev r_rm64 : Room := { frames := 2, cells := 0, slots := 0, locals := 27 }
def Q64 (Z : State) (a1 : Addr) (p2 : Int32) (n1 : Int32) (f1 : Nat → Int32) (sv : Value) (h0 : Heap) (n0 : Nat) (v : Option Value) (h : Heap) (L : List Loc) : Prop := v = some (.int (chB (f1 p2.toNatClampNeg))) ∧ L = [] ∧ h = h0
theorem pd_10 : parseMethodDescriptor "(II)V" = some ⟨[.int, .int], none⟩ := by decide +kernel
theorem rm64 (l : Launch) (Z : State) (a0 : Array Value) (hw : HWt Z a0) (ws : List Jvm.Cond) (a1 : Addr) (p2 : Int32) (n1 : Int32) (f1 : Nat → Int32) (sv : Value) (h0 : Heap) (n0 : Nat) (Z0 : n0 ≤ h0.size) (V1 : Afn Z h0 a1 .byte n1 (fun k => .int (f1 k))) (SV : SS1 Z sv) (hr_sv : sv.isRef = true) (O : Old Z n0 h0) (hci : ¬ p2 < (0 : Int32) ∧ p2 < n1) :
    Con l Z y_64 jdk_43_method_2_code 2 (some .char) ws r_rm64 #[(.ref a1), (.int p2)] h0 (Q64 Z a1 p2 n1 f1 sv h0 n0) := by
  refine Con.of2 (plainFor_of_name pn_rm20) ?_
  intro p e s m below meth c s₁ hZ e0 X0 hx hby hml hown hnm hret hlk PP hPP
  have N0 := Fr.nil n0
  refine Go.cast (ef_rm14 m a1 p2) ?_
  have Zn : n0 ≤ h0.size := Z0
  show Go p.tables e below PP (s₁.setTop (mkF m 0 #[.val (.ref a1), .val (.int p2)] []))
  refine Go.st (fun t k => XS.iloadN X0.here hx rfl (hb hby d64_0) rfl (XS.aloadN X0.here hx rfl (hb hby d64_1) rfl rfl k)) ?_
  obtain ⟨cl1, Ar1, S1, Nn1, -⟩ := id V1
  refine Go.st (fun t k => X0.arraylength hx (by rw [e0]; exact Ar1.1) (State.isArrayOf_alike hZ.alike Ar1.2.1) (g := (mkF m 2 #[.val (.ref a1), .val (.int p2)] [(.ref a1), (.int p2)])) rfl rfl (hb hby d64_2) _ k) ?_
  rw [len_of S1 Nn1]
  obtain ⟨v2, T2, L2, X2, hQ2, st2⟩ := callSt X0 hx hZ (y := y_65) (argsL := [(.int p2), (.int n1)]) (rest := []) hown (wk hw 357 rfl) (wk hw 358 rfl) (wk hw 14 rfl) (wk hw 359 rfl) (by decide) (rm65 l Z a0 hw [] p2 n1 sv h0 n0 Zn SV hr_sv O hci) e0 0 (by decide) (by decide) (by decide) (by decide) (g := (mkF m 3 #[.val (.ref a1), .val (.int p2)] [(.int n1), (.int p2)])) rfl (by rw [hml]; rfl) (lenOf pd_10 rfl) rfl (Nat.le_of_eq rfl) (hb hby d64_3)
  obtain ⟨rfl, rfl, e2⟩ := hQ2
  rw [List.append_nil] at X2
  refine Go.st st2 ?_
  refine Go.st (fun t k => XS.aloadN X2.here hx rfl (hb hby d64_6) rfl rfl (XS.iloadN X2.here hx rfl (hb hby d64_7) rfl k)) ?_
  obtain ⟨cl3, Ar3, S3, Nn3, H3⟩ := id V1
  have hin3 : ¬ (p2 < 0 ∨ cl3.slots.size ≤ (p2).toNatClampNeg) := inb_of S3 hci
  refine Go.st (fun t k => X2.baloadBytes hx (j := p2) (v := (.int (f1 p2.toNatClampNeg))) (by rw [e2]; exact Ar3.1) (State.isArrayOf_alike hZ.alike Ar3.2.1) Ar3.2.2 hin3 ((H3 _ (inbN hci)).1.trans (congrArg some (rfl))) (g := (mkF m 8 #[.val (.ref a1), .val (.int p2)] [(.int p2), (.ref a1)])) rfl rfl (hb hby d64_8) _ (XS.sipush X2.here hx rfl (hb hby d64_9) (XS.iand X2.here hx rfl (hb hby d64_12) rfl (XS.i2c X2.here hx rfl (hb hby d64_13) rfl k)))) ?_
  show Go p.tables e below PP (T2.setTop (mkF m 14 #[.val (.ref a1), .val (.int p2)] [(.int (((f1 p2.toNatClampNeg) &&& (255 : Int32)).toUInt32.toUInt16.toUInt32.toInt32))]))
  rw [hPP]
  refine endN X2 hx hlk (t := .char) hret (by simp) (hb hby d64_14) (w := (chB (f1 p2.toNatClampNeg))) (rfl) ?_ (by decide) (by decide)
  rw [e2]
  exact ⟨rfl, rfl, rfl⟩
abbrev b_63 : ByteArray := jdk_42_method_56_code
theorem d63_0 : dk b_63 0 (.aload_n 0) 1 := by decide +kernel
theorem d63_1 : dk b_63 1 (.invokevirtual 492) 3 := by decide +kernel
theorem d63_4 : dk b_63 4 (.ifCond .eq 12) 3 := by decide +kernel
theorem d63_7 : dk b_63 7 (.aload_n 0) 1 := by decide +kernel
theorem d63_8 : dk b_63 8 (.getfield 9) 3 := by decide +kernel
theorem d63_11 : dk b_63 11 (.iload_n 1) 1 := by decide +kernel
theorem d63_12 : dk b_63 12 (.invokestatic 495) 3 := by decide +kernel
theorem d63_15 : dk b_63 15 (.ireturn) 1 := by decide +kernel
theorem d63_16 : dk b_63 16 (.aload_n 0) 1 := by decide +kernel
theorem d63_17 : dk b_63 17 (.getfield 9) 3 := by decide +kernel
theorem d63_20 : dk b_63 20 (.iload_n 1) 1 := by decide +kernel
theorem d63_21 : dk b_63 21 (.invokestatic 498) 3 := by decide +kernel
theorem d63_24 : dk b_63 24 (.ireturn) 1 := by decide +kernel
abbrev r_rm63 : Room := { frames := 4, cells := 0, slots := 0, locals := 53 }
def Q63 (Z : State) (a1 : Addr) (p2 : Int32) (t1 : Addr) (n1 : Int32) (f1 : Nat → Int32) (zc : Int32) (sv : Value) (h0 : Heap) (n0 : Nat) (v : Option Value) (h : Heap) (L : List Loc) : Prop := v = some (.int (chC (f1 p2.toNatClampNeg))) ∧ L = [] ∧ h = h0
theorem pd_11 : parseMethodDescriptor "([BI)C" = some ⟨[(.array .byte), .int], some .char⟩ := by decide +kernel
theorem rm63 (l : Launch) (Z : State) (a0 : Array Value) (hw : HWt Z a0) (ws : List Jvm.Cond) (a1 : Addr) (p2 : Int32) (t1 : Addr) (n1 : Int32) (f1 : Nat → Int32) (zc : Int32) (sv : Value) (h0 : Heap) (n0 : Nat) (Z0 : n0 ≤ h0.size) (zab : Fld Z h0 a1 k_14 "value" "[B" (.ref t1)) (zaa : Fld Z h0 a1 k_14 "coder" "B" (.int (0 : Int32))) (V_t1 : Afn Z h0 t1 .byte n1 (fun k => .int (f1 k))) (E_a1 : Exa Z h0 a1 k_14) (SC : SS0 Z zc) (hzc : ¬ zc = (0 : Int32)) (O : Old Z n0 h0) (SV : SS1 Z sv) (hr_sv : sv.isRef = true) (hci : ¬ p2 < (0 : Int32) ∧ p2 < n1) :
    Con l Z y_63 jdk_42_method_56_code 2 (some .char) ws r_rm63 #[(.ref a1), (.int p2)] h0 (Q63 Z a1 p2 t1 n1 f1 zc sv h0 n0) := by
  refine Con.of2 (plainFor_of_name pn_rm18) ?_
  intro p e s m below meth c s₁ hZ e0 X0 hx hby hml hown hnm hret hlk PP hPP
  have N0 := Fr.nil n0
  refine Go.cast (ef_rm14 m a1 p2) ?_
  have Zn : n0 ≤ h0.size := Z0
  show Go p.tables e below PP (s₁.setTop (mkF m 0 #[.val (.ref a1), .val (.int p2)] []))
  refine Go.st (fun t k => XS.aloadN X0.here hx rfl (hb hby d63_0) rfl rfl k) ?_
  obtain ⟨v1, T1, L1, X1, hQ1, st1⟩ := callVi X0 hx hZ (C := k_14) (y := y_16) (z := y_16) (a := a1) (argsL := []) (rest := []) hown (wk hw 80 rfl) (wk hw 81 rfl) (notFace_of_selects (args := #[]) (mvT hZ (wk hw 83 rfl))) (wk hw 83 rfl) (wk hw 82 rfl) (wk hw 14 rfl) (wk hw 84 rfl) (by decide) rfl E_a1 (rm16 l Z a0 hw [] a1 zc h0 n0 Zn zaa SC hzc O) e0 0 (by decide) (by decide) (by decide) (by decide) (g := (mkF m 1 #[.val (.ref a1), .val (.int p2)] [(.ref a1)])) rfl (by rw [hml]; rfl) (lenOf pd_4 rfl) rfl (Nat.le_of_eq rfl) (hb hby d63_1)
  obtain ⟨rfl, rfl, e1⟩ := hQ1
  rw [List.append_nil] at X1
  refine Go.st st1 ?_
  refine Go.st (fun t k => XS.ifNo X1.here hx rfl (hb hby d63_4) rfl (XT.i0_eq_f (by decide)) (XS.aloadN X1.here hx rfl (hb hby d63_7) rfl rfl k)) ?_
  obtain ⟨T2, X2, e2, st2⟩ := getF X1 hx hZ hown (host := "") (Or.inl (wk hw 33 rfl)) Via.refl e1 zab (g := (mkF m 8 #[.val (.ref a1), .val (.int p2)] [(.ref a1)])) rfl rfl (hb hby d63_8)
  refine Go.st st2 ?_
  refine Go.st (fun t k => XS.iloadN X2.here hx rfl (hb hby d63_11) rfl k) ?_
  obtain ⟨v3, T3, L3, X3, hQ3, st3⟩ := callSt X2 hx hZ (y := y_64) (argsL := [(.ref t1), (.int p2)]) (rest := []) hown (wk hw 354 rfl) (wk hw 355 rfl) (wk hw 19 rfl) (wk hw 356 rfl) (by decide) (rm64 l Z a0 hw [] t1 p2 n1 f1 sv h0 n0 Zn V_t1 SV hr_sv O hci) e2 0 (by decide) (by decide) (by decide) (by decide) (g := (mkF m 12 #[.val (.ref a1), .val (.int p2)] [(.int p2), (.ref t1)])) rfl (by rw [hml]; rfl) (lenOf pd_11 rfl) rfl (Nat.le_of_eq rfl) (hb hby d63_12)
  obtain ⟨rfl, rfl, e3⟩ := hQ3
  rw [List.append_nil] at X3
  refine Go.st st3 ?_
  show Go p.tables e below PP (T3.setTop (mkF m 15 #[.val (.ref a1), .val (.int p2)] [(.int (chB (f1 p2.toNatClampNeg)))]))
  rw [hPP]
  refine endN X3 hx hlk (t := .char) hret (by simp) (hb hby d63_15) (w := (chC (f1 p2.toNatClampNeg))) (rfl) ?_ (by decide) (by decide)
  rw [e3]
  exact ⟨rfl, rfl, rfl⟩
theorem own_ltne {x y : Int32} (h : x < y) : ¬ x = y := by
  rintro rfl
  exact Int32.lt_irrefl h
theorem own_cp (f : Nat → Int32) (n : Int32) (k : Nat) (hk : k < n.toNatClampNeg) (v : Value) : (if (0 : Int32).toNatClampNeg ≤ k ∧ k < (0 : Int32).toNatClampNeg + n.toNatClampNeg then Value.int (f ((0 : Int32).toNatClampNeg + (k - (0 : Int32).toNatClampNeg))) else v) = Value.int (f k) := by
  have e : (0 : Int32).toNatClampNeg = 0 := rfl
  rw [e, if_pos (by omega), Nat.sub_zero, Nat.zero_add]
abbrev b_45 : ByteArray := jdk_65_method_131_code
theorem d45_0 : dk b_45 0 (.iload_n 1) 1 := by decide +kernel
theorem d45_1 : dk b_45 1 (.iload_n 0) 1 := by decide +kernel
theorem d45_2 : dk b_45 2 (.if_icmp .ge 35) 3 := by decide +kernel
theorem d45_37 : dk b_45 37 (.return_) 1 := by decide +kernel
abbrev r_rm45 : Room := { frames := 0, cells := 0, slots := 0, locals := 0 }
theorem pn_rm45 : plainName "java/util/Arrays" = true := by first | (simp [plainName, overriddenIn]; done) | decide +kernel
def Q45 (Z : State) (p1 : Int32) (p2 : Int32) (h0 : Heap) (n0 : Nat) (v : Option Value) (h : Heap) (L : List Loc) : Prop := v = none ∧ L = [] ∧ h = h0
theorem rm45 (l : Launch) (Z : State) (a0 : Array Value) (hw : HWt Z a0) (ws : List Jvm.Cond) (p1 : Int32) (p2 : Int32) (h0 : Heap) (n0 : Nat) (Z0 : n0 ≤ h0.size) (hcl : ¬ p2 < p1) :
    Con l Z y_45 jdk_65_method_131_code 2 none ws r_rm45 #[(.int p1), (.int p2)] h0 (Q45 Z p1 p2 h0 n0) := by
  refine Con.of2 (plainFor_of_name pn_rm45) ?_
  intro p e s m below meth c s₁ hZ e0 X0 hx hby hml hown hnm hret hlk PP hPP
  have N0 := Fr.nil n0
  refine Go.cast (ef_rm22 m p1 p2) ?_
  have Zn : n0 ≤ h0.size := Z0
  show Go p.tables e below PP (s₁.setTop (mkF m 0 #[.val (.int p1), .val (.int p2)] []))
  refine Go.st (fun t k => XS.iloadN X0.here hx rfl (hb hby d45_0) rfl (XS.iloadN X0.here hx rfl (hb hby d45_1) rfl (XS.icmpYes X0.here hx rfl (pc0 := 2) (pc' := 37) rfl (hb hby d45_2) rfl (XT.ii_ge_t hcl) (by decide) (by decide) k))) ?_
  show Go p.tables e below PP (s₁.setTop (mkF m 37 #[.val (.int p1), .val (.int p2)] []))
  rw [hPP]
  refine endV X0 hx hlk hret (hb hby d45_37) ?_ (by decide) (by decide)
  rw [e0]
  exact ⟨rfl, rfl, rfl⟩
abbrev b_44 : ByteArray := jdk_65_method_133_code
theorem d44_0 : dk b_44 0 (.iload_n 1) 1 := by decide +kernel
theorem d44_1 : dk b_44 1 (.iload_n 2) 1 := by decide +kernel
theorem d44_2 : dk b_44 2 (.invokestatic 343) 3 := by decide +kernel
theorem d44_5 : dk b_44 5 (.iload_n 2) 1 := by decide +kernel
theorem d44_6 : dk b_44 6 (.iload_n 1) 1 := by decide +kernel
theorem d44_7 : dk b_44 7 (.isub) 1 := by decide +kernel
theorem d44_8 : dk b_44 8 (.istore_n 3) 1 := by decide +kernel
theorem d44_9 : dk b_44 9 (.iload_n 3) 1 := by decide +kernel
theorem d44_10 : dk b_44 10 (.newarray .byte) 2 := by decide +kernel
theorem d44_12 : dk b_44 12 (.astore 4) 2 := by decide +kernel
theorem d44_14 : dk b_44 14 (.aload_n 0) 1 := by decide +kernel
theorem d44_15 : dk b_44 15 (.iload_n 1) 1 := by decide +kernel
theorem d44_16 : dk b_44 16 (.aload 4) 2 := by decide +kernel
theorem d44_18 : dk b_44 18 (.iconst 0) 1 := by decide +kernel
theorem d44_19 : dk b_44 19 (.aload_n 0) 1 := by decide +kernel
theorem d44_20 : dk b_44 20 (.arraylength) 1 := by decide +kernel
theorem d44_21 : dk b_44 21 (.iload_n 1) 1 := by decide +kernel
theorem d44_22 : dk b_44 22 (.isub) 1 := by decide +kernel
theorem d44_23 : dk b_44 23 (.iload_n 3) 1 := by decide +kernel
theorem d44_24 : dk b_44 24 (.invokestatic 304) 3 := by decide +kernel
theorem d44_27 : dk b_44 27 (.invokestatic 150) 3 := by decide +kernel
theorem d44_30 : dk b_44 30 (.aload 4) 2 := by decide +kernel
theorem d44_32 : dk b_44 32 (.areturn) 1 := by decide +kernel
abbrev r_rm44 : Room := { frames := 1, cells := 1, slots := 42, locals := 40 }
theorem ef_rm44 (m : MethodId) (a1 : Addr) (p3 : Int32) : entryFrame m #[(.ref a1), (.int (0 : Int32)), (.int p3)] 5 = mkF m 0 #[.val (.ref a1), .val (.int (0 : Int32)), .val (.int p3), .unset, .unset] [] := by first | (simp [entryFrame, mkF, argsToLocals, Value.category]; done) | rfl
def Q44 (Z : State) (a1 : Addr) (p3 : Int32) (n1 : Int32) (f1 : Nat → Int32) (h0 : Heap) (n0 : Nat) (v : Option Value) (h : Heap) (L : List Loc) : Prop := ∃ t : Addr, v = some (.ref t) ∧ Fr n0 L ∧ Keep h0 h [] ∧ h0.size ≤ t ∧ Afn Z h t .byte p3 (fun k => .int (f1 k))
theorem rm44 (l : Launch) (Z : State) (a0 : Array Value) (hw : HWt Z a0) (ws : List Jvm.Cond) (a1 : Addr) (p3 : Int32) (n1 : Int32) (f1 : Nat → Int32) (h0 : Heap) (n0 : Nat) (Z0 : n0 ≤ h0.size) (V1 : Afn Z h0 a1 .byte n1 (fun k => .int (f1 k))) (hp : ¬ p3 < (0 : Int32) ∧ p3 < n1) (hcap : p3.toNatClampNeg ≤ 42) :
    Con l Z y_44 jdk_65_method_133_code 5 (some (.array .byte)) ws r_rm44 #[(.ref a1), (.int (0 : Int32)), (.int p3)] h0 (Q44 Z a1 p3 n1 f1 h0 n0) := by
  refine Con.of2 (plainFor_of_name pn_rm45) ?_
  intro p e s m below meth c s₁ hZ e0 X0 hx hby hml hown hnm hret hlk PP hPP
  have N0 := Fr.nil n0
  refine Go.cast (ef_rm44 m a1 p3) ?_
  have K : Keep h0 h0 [] := Keep.refl h0 _
  have Zn : n0 ≤ h0.size := Z0
  show Go p.tables e below PP (s₁.setTop (mkF m 0 #[.val (.ref a1), .val (.int (0 : Int32)), .val (.int p3), .unset, .unset] []))
  refine Go.st (fun t k => XS.iloadN X0.here hx rfl (hb hby d44_0) rfl (XS.iloadN X0.here hx rfl (hb hby d44_1) rfl k)) ?_
  obtain ⟨v1, T1, L1, X1, hQ1, st1⟩ := callSt X0 hx hZ (y := y_45) (argsL := [(.int (0 : Int32)), (.int p3)]) (rest := []) hown (wk hw 234 rfl) (wk hw 235 rfl) (wk hw 194 rfl) (wk hw 236 rfl) (by decide) (rm45 l Z a0 hw [] (0 : Int32) p3 h0 n0 Zn hp.1) e0 0 (by decide) (by decide) (by decide) (by decide) (g := (mkF m 2 #[.val (.ref a1), .val (.int (0 : Int32)), .val (.int p3), .unset, .unset] [(.int p3), (.int (0 : Int32))])) rfl (by rw [hml]; rfl) (lenOf pd_10 rfl) rfl (Nat.le_of_eq rfl) (hb hby d44_2)
  obtain ⟨rfl, rfl, e1⟩ := hQ1
  rw [List.append_nil] at X1
  refine Go.st st1 ?_
  refine Go.st (fun t k => XS.iloadN X1.here hx rfl (hb hby d44_5) rfl (XS.iloadN X1.here hx rfl (hb hby d44_6) rfl (XS.isub X1.here hx rfl (hb hby d44_7) rfl k))) ?_
  show Go p.tables e below PP (T1.setTop (mkF m 8 #[.val (.ref a1), .val (.int (0 : Int32)), .val (.int p3), .unset, .unset] [(.int (p3 - (0 : Int32)))]))
  rw [Int32.sub_zero]
  show Go p.tables e below PP (T1.setTop (mkF m 8 #[.val (.ref a1), .val (.int (0 : Int32)), .val (.int p3), .unset, .unset] [(.int p3)]))
  refine Go.st (fun t k => XS.istoreN X1.here hx rfl (hb hby d44_8) rfl (l' := #[.val (.ref a1), .val (.int (0 : Int32)), .val (.int p3), .val (.int p3), .unset]) rfl (XS.iloadN X1.here hx rfl (hb hby d44_9) rfl k)) ?_
  obtain ⟨T2, h2, k2, X2, e2, E2, A2, st2⟩ := newP X1 hx hZ (wk hw 4 rfl) e1 (g := (mkF m 10 #[.val (.ref a1), .val (.int (0 : Int32)), .val (.int p3), .val (.int p3), .unset] [(.int p3)])) rfl (hb hby d44_10) rfl hp.1 (cap := 42) hcap (by decide) (by decide) (by decide)
  obtain ⟨b2, gz2⟩ : ∃ z, z = h0.size := ⟨_, rfl⟩
  rw [← gz2] at A2 st2
  have zeu : a1 ≠ b2 := Nat.ne_of_lt (Nat.lt_of_lt_of_le V1.lt (Nat.le_of_eq gz2.symm))
  have g_b2 : n0 ≤ b2 := Nat.le_trans Zn (Nat.le_of_eq gz2.symm)
  have zbz : h0.size ≤ b2 := Nat.le_trans K.1 (Nat.le_of_eq gz2.symm)
  refine Go.st st2 ?_
  replace V1 := V1.ext E2
  replace K := K.ext E2
  replace Zn := Nat.le_trans Zn E2.1
  have V_b2 : Afn Z h2 b2 .byte p3 (fun _ => (.int (0 : Int32))) := Afn.new A2 hp.1
  refine Go.st (fun t k => XS.astore X2.here hx rfl (hb hby d44_12) rfl rfl (l' := #[.val (.ref a1), .val (.int (0 : Int32)), .val (.int p3), .val (.int p3), .val (.ref b2)]) rfl (XS.aloadN X2.here hx rfl (hb hby d44_14) rfl rfl (XS.iloadN X2.here hx rfl (hb hby d44_15) rfl (XS.aload X2.here hx rfl (hb hby d44_16) rfl rfl (XS.iconst X2.here hx rfl (hb hby d44_18) (XS.aloadN X2.here hx rfl (hb hby d44_19) rfl rfl k)))))) ?_
  obtain ⟨cl3, Ar3, S3, Nn3, -⟩ := id V1
  refine Go.st (fun t k => X2.arraylength hx (by rw [e2]; exact Ar3.1) (State.isArrayOf_alike hZ.alike Ar3.2.1) (g := (mkF m 20 #[.val (.ref a1), .val (.int (0 : Int32)), .val (.int p3), .val (.int p3), .val (.ref b2)] [(.ref a1), (.int (0 : Int32)), (.ref b2), (.int (0 : Int32)), (.ref a1)])) rfl rfl (hb hby d44_20) _ k) ?_
  rw [len_of S3 Nn3]
  refine Go.st (fun t k => XS.iloadN X2.here hx rfl (hb hby d44_21) rfl (XS.isub X2.here hx rfl (hb hby d44_22) rfl k)) ?_
  show Go p.tables e below PP (T2.setTop (mkF m 23 #[.val (.ref a1), .val (.int (0 : Int32)), .val (.int p3), .val (.int p3), .val (.ref b2)] [(.int (n1 - (0 : Int32))), (.int (0 : Int32)), (.ref b2), (.int (0 : Int32)), (.ref a1)]))
  rw [Int32.sub_zero]
  show Go p.tables e below PP (T2.setTop (mkF m 23 #[.val (.ref a1), .val (.int (0 : Int32)), .val (.int p3), .val (.int p3), .val (.ref b2)] [(.int n1), (.int (0 : Int32)), (.ref b2), (.int (0 : Int32)), (.ref a1)]))
  refine Go.st (fun t k => XS.iloadN X2.here hx rfl (hb hby d44_23) rfl k) ?_
  obtain ⟨v4, T4, L4, X4, hQ4, st4⟩ := callSt X2 hx hZ (y := y_22) (argsL := [(.int n1), (.int p3)]) (rest := [(.int (0 : Int32)), (.ref b2), (.int (0 : Int32)), (.ref a1)]) hown (wk hw 196 rfl) (wk hw 106 rfl) (wk hw 103 rfl) (wk hw 107 rfl) (by decide) (rm22 l Z a0 hw [] n1 p3 h2 n0 Zn) e2 4 (by decide) (by decide) (by decide) (by decide) (g := (mkF m 24 #[.val (.ref a1), .val (.int (0 : Int32)), .val (.int p3), .val (.int p3), .val (.ref b2)] [(.int p3), (.int n1), (.int (0 : Int32)), (.ref b2), (.int (0 : Int32)), (.ref a1)])) rfl (by rw [hml]; rfl) (lenOf pd_2 rfl) rfl (Nat.le_of_eq rfl) (hb hby d44_24)
  obtain ⟨rfl, rfl, e4⟩ := hQ4
  rw [List.append_nil] at X4
  refine Go.st st4 ?_
  rw [if_pos hp.2]
  obtain ⟨T5, h5, L5, X5, e5, N5, Kq5, Vq5, st5⟩ := cpF X4 hx hZ hown (wk hw 197 rfl) (wk hw 176 rfl) (wk hw 174 rfl) (wk hw 175 rfl) e4 V1 V_b2 rfl (by decide) (by decide) (hp.1) (by have e : (0 : Int32).toNatClampNeg = 0 := rfl; have a := inbN hp; omega) (by have e : (0 : Int32).toNatClampNeg = 0 := rfl; omega) N0 g_b2 (g := (mkF m 27 #[.val (.ref a1), .val (.int (0 : Int32)), .val (.int p3), .val (.int p3), .val (.ref b2)] [(.int p3), (.int (0 : Int32)), (.ref b2), (.int (0 : Int32)), (.ref a1)])) rfl (by rw [hml]; rfl) rfl (hb hby d44_27) (by decide) (W := 0) (by show 2 * 0 + _ ≤ _; exact Nat.le_of_eq rfl) (by decide)
  replace V1 := V1.keep Kq5 (ninS zeu nin0)
  replace K := K.trans Kq5 (allS (Or.inr zbz) all0)
  replace Zn := Nat.le_trans Zn Kq5.1
  have V_b2 := Vq5
  refine Go.st st5 ?_
  refine Go.st (fun t k => XS.aload X5.here hx rfl (hb hby d44_30) rfl rfl k) ?_
  show Go p.tables e below PP (T5.setTop (mkF m 32 #[.val (.ref a1), .val (.int (0 : Int32)), .val (.int p3), .val (.int p3), .val (.ref b2)] [(.ref b2)]))
  rw [hPP]
  refine endR X5 hx hlk hret rfl rfl (hb hby d44_32) ?_ (by decide) (by decide)
  rw [e5]
  exact ⟨b2, rfl, N5, K, zbz, V_b2.congr (fun k hk => own_cp f1 p3 k hk _)⟩
abbrev b_43 : ByteArray := jdk_65_method_132_code
theorem d43_0 : dk b_43 0 (.iload_n 1) 1 := by decide +kernel
theorem d43_1 : dk b_43 1 (.ifCond .ne 9) 3 := by decide +kernel
theorem d43_4 : dk b_43 4 (.iload_n 2) 1 := by decide +kernel
theorem d43_5 : dk b_43 5 (.aload_n 0) 1 := by decide +kernel
theorem d43_6 : dk b_43 6 (.arraylength) 1 := by decide +kernel
theorem d43_7 : dk b_43 7 (.if_icmp .eq 10) 3 := by decide +kernel
theorem d43_10 : dk b_43 10 (.aload_n 0) 1 := by decide +kernel
theorem d43_11 : dk b_43 11 (.iload_n 1) 1 := by decide +kernel
theorem d43_12 : dk b_43 12 (.iload_n 2) 1 := by decide +kernel
theorem d43_13 : dk b_43 13 (.invokestatic 339) 3 := by decide +kernel
theorem d43_16 : dk b_43 16 (.areturn) 1 := by decide +kernel
abbrev r_rm43 : Room := { frames := 2, cells := 1, slots := 42, locals := 56 }
theorem ef_rm43 (m : MethodId) (a1 : Addr) (p3 : Int32) : entryFrame m #[(.ref a1), (.int (0 : Int32)), (.int p3)] 3 = mkF m 0 #[.val (.ref a1), .val (.int (0 : Int32)), .val (.int p3)] [] := by first | (simp [entryFrame, mkF, argsToLocals, Value.category]; done) | rfl
def Q43 (Z : State) (a1 : Addr) (p3 : Int32) (n1 : Int32) (f1 : Nat → Int32) (h0 : Heap) (n0 : Nat) (v : Option Value) (h : Heap) (L : List Loc) : Prop := ∃ t : Addr, v = some (.ref t) ∧ Fr n0 L ∧ Keep h0 h [] ∧ h0.size ≤ t ∧ Afn Z h t .byte p3 (fun k => .int (f1 k))
theorem pd_12 : parseMethodDescriptor "([BII)[B" = some ⟨[(.array .byte), .int, .int], some (.array .byte)⟩ := by decide +kernel
theorem rm43 (l : Launch) (Z : State) (a0 : Array Value) (hw : HWt Z a0) (ws : List Jvm.Cond) (a1 : Addr) (p3 : Int32) (n1 : Int32) (f1 : Nat → Int32) (h0 : Heap) (n0 : Nat) (Z0 : n0 ≤ h0.size) (V1 : Afn Z h0 a1 .byte n1 (fun k => .int (f1 k))) (hp : ¬ p3 < (0 : Int32) ∧ p3 < n1) (hcap : p3.toNatClampNeg ≤ 42) :
    Con l Z y_43 jdk_65_method_132_code 3 (some (.array .byte)) ws r_rm43 #[(.ref a1), (.int (0 : Int32)), (.int p3)] h0 (Q43 Z a1 p3 n1 f1 h0 n0) := by
  refine Con.of2 (plainFor_of_name pn_rm45) ?_
  intro p e s m below meth c s₁ hZ e0 X0 hx hby hml hown hnm hret hlk PP hPP
  have N0 := Fr.nil n0
  refine Go.cast (ef_rm43 m a1 p3) ?_
  have K : Keep h0 h0 [] := Keep.refl h0 _
  have Zn : n0 ≤ h0.size := Z0
  show Go p.tables e below PP (s₁.setTop (mkF m 0 #[.val (.ref a1), .val (.int (0 : Int32)), .val (.int p3)] []))
  refine Go.st (fun t k => XS.iloadN X0.here hx rfl (hb hby d43_0) rfl (XS.ifNo X0.here hx rfl (hb hby d43_1) rfl (XT.i0_ne_f (by decide)) (XS.iloadN X0.here hx rfl (hb hby d43_4) rfl (XS.aloadN X0.here hx rfl (hb hby d43_5) rfl rfl k)))) ?_
  obtain ⟨cl1, Ar1, S1, Nn1, -⟩ := id V1
  refine Go.st (fun t k => X0.arraylength hx (by rw [e0]; exact Ar1.1) (State.isArrayOf_alike hZ.alike Ar1.2.1) (g := (mkF m 6 #[.val (.ref a1), .val (.int (0 : Int32)), .val (.int p3)] [(.ref a1), (.int p3)])) rfl rfl (hb hby d43_6) _ k) ?_
  rw [len_of S1 Nn1]
  refine Go.st (fun t k => XS.icmpNo X0.here hx rfl (hb hby d43_7) rfl (XT.ii_eq_f (own_ltne hp.2)) (XS.aloadN X0.here hx rfl (hb hby d43_10) rfl rfl (XS.iloadN X0.here hx rfl (hb hby d43_11) rfl (XS.iloadN X0.here hx rfl (hb hby d43_12) rfl k)))) ?_
  obtain ⟨v2, T2, L2, X2, hQ2, st2⟩ := callSt X0 hx hZ (y := y_44) (argsL := [(.ref a1), (.int (0 : Int32)), (.int p3)]) (rest := []) hown (wk hw 231 rfl) (wk hw 232 rfl) (wk hw 194 rfl) (wk hw 233 rfl) (by decide) (rm44 l Z a0 hw [] a1 p3 n1 f1 h0 n0 Zn V1 hp hcap) e0 0 (by decide) (by decide) (by decide) (by decide) (g := (mkF m 13 #[.val (.ref a1), .val (.int (0 : Int32)), .val (.int p3)] [(.int p3), (.int (0 : Int32)), (.ref a1)])) rfl (by rw [hml]; rfl) (lenOf pd_12 rfl) rfl (Nat.le_of_eq rfl) (hb hby d43_13)
  obtain ⟨h2, e2⟩ : ∃ z, T2.heap = z := ⟨_, rfl⟩
  rw [e2] at hQ2
  obtain ⟨t_2, rfl, Nq2, Kq2, sq2_t, zaq⟩ := hQ2
  have N2 := Fr.app N0 Nq2
  have zdb : h0.size ≤ t_2 := Nat.le_trans K.1 sq2_t
  replace V1 := V1.keep Kq2 nin0
  replace K := K.trans Kq2 all0
  replace Zn := Nat.le_trans Zn Kq2.1
  have zkz := zaq
  refine Go.st st2 ?_
  show Go p.tables e below PP (T2.setTop (mkF m 16 #[.val (.ref a1), .val (.int (0 : Int32)), .val (.int p3)] [(.ref t_2)]))
  rw [hPP]
  refine endR X2 hx hlk hret rfl rfl (hb hby d43_16) ?_ (by decide) (by decide)
  rw [e2]
  exact ⟨t_2, rfl, N2, K, zdb, zkz⟩
abbrev b_13 : ByteArray := jdk_42_method_55_code
theorem d13_0 : dk b_13 0 (.aload_n 0) 1 := by decide +kernel
theorem d13_1 : dk b_13 1 (.getfield 9) 3 := by decide +kernel
theorem d13_4 : dk b_13 4 (.arraylength) 1 := by decide +kernel
theorem d13_5 : dk b_13 5 (.ifCond .ne 7) 3 := by decide +kernel
theorem d13_12 : dk b_13 12 (.iconst 0) 1 := by decide +kernel
theorem d13_13 : dk b_13 13 (.ireturn) 1 := by decide +kernel
abbrev r_rm13_1 : Room := { frames := 0, cells := 0, slots := 0, locals := 0 }
def Q13_1 (Z : State) (a1 : Addr) (t1 : Addr) (f1 : Nat → Int32) (h0 : Heap) (n0 : Nat) (v : Option Value) (h : Heap) (L : List Loc) : Prop := v = some (.int (0 : Int32)) ∧ L = [] ∧ h = h0
theorem rm13_1 (l : Launch) (Z : State) (a0 : Array Value) (hw : HWt Z a0) (ws : List Jvm.Cond) (a1 : Addr) (t1 : Addr) (f1 : Nat → Int32) (h0 : Heap) (n0 : Nat) (Z0 : n0 ≤ h0.size) (zab : Fld Z h0 a1 k_14 "value" "[B" (.ref t1)) (V_t1 : Afn Z h0 t1 .byte (1 : Int32) (fun k => .int (f1 k))) :
    Con l Z y_13 jdk_42_method_55_code 1 (some .boolean) ws r_rm13_1 #[(.ref a1)] h0 (Q13_1 Z a1 t1 f1 h0 n0) := by
  refine Con.of2 (plainFor_of_name pn_rm18) ?_
  intro p e s m below meth c s₁ hZ e0 X0 hx hby hml hown hnm hret hlk PP hPP
  have N0 := Fr.nil n0
  refine Go.cast (ef_rm18 m a1) ?_
  have Zn : n0 ≤ h0.size := Z0
  show Go p.tables e below PP (s₁.setTop (mkF m 0 #[.val (.ref a1)] []))
  refine Go.st (fun t k => XS.aloadN X0.here hx rfl (hb hby d13_0) rfl rfl k) ?_
  obtain ⟨T1, X1, e1, st1⟩ := getF X0 hx hZ hown (host := "") (Or.inl (wk hw 33 rfl)) Via.refl e0 zab (g := (mkF m 1 #[.val (.ref a1)] [(.ref a1)])) rfl rfl (hb hby d13_1)
  refine Go.st st1 ?_
  obtain ⟨cl2, Ar2, S2, Nn2, -⟩ := id V_t1
  refine Go.st (fun t k => X1.arraylength hx (by rw [e1]; exact Ar2.1) (State.isArrayOf_alike hZ.alike Ar2.2.1) (g := (mkF m 4 #[.val (.ref a1)] [(.ref t1)])) rfl rfl (hb hby d13_4) _ k) ?_
  rw [len_of S2 Nn2]
  refine Go.st (fun t k => XS.ifYes X1.here hx rfl (pc0 := 5) (pc' := 12) rfl (hb hby d13_5) rfl (XT.i0_ne_t (by decide)) (by decide) (by decide) (XS.iconst X1.here hx rfl (hb hby d13_12) k)) ?_
  show Go p.tables e below PP (T1.setTop (mkF m 13 #[.val (.ref a1)] [(.int (0 : Int32))]))
  rw [hPP]
  refine endN X1 hx hlk (t := .boolean) hret (by simp) (hb hby d13_13) (w := (0 : Int32)) (rfl) ?_ (by decide) (by decide)
  rw [e1]
  exact ⟨rfl, rfl, rfl⟩
abbrev r_rm13_2 : Room := { frames := 0, cells := 0, slots := 0, locals := 0 }
def Q13_2 (Z : State) (a1 : Addr) (t1 : Addr) (f1 : Nat → Int32) (h0 : Heap) (n0 : Nat) (v : Option Value) (h : Heap) (L : List Loc) : Prop := v = some (.int (0 : Int32)) ∧ L = [] ∧ h = h0
theorem rm13_2 (l : Launch) (Z : State) (a0 : Array Value) (hw : HWt Z a0) (ws : List Jvm.Cond) (a1 : Addr) (t1 : Addr) (f1 : Nat → Int32) (h0 : Heap) (n0 : Nat) (Z0 : n0 ≤ h0.size) (zab : Fld Z h0 a1 k_14 "value" "[B" (.ref t1)) (V_t1 : Afn Z h0 t1 .byte (2 : Int32) (fun k => .int (f1 k))) :
    Con l Z y_13 jdk_42_method_55_code 1 (some .boolean) ws r_rm13_2 #[(.ref a1)] h0 (Q13_2 Z a1 t1 f1 h0 n0) := by
  refine Con.of2 (plainFor_of_name pn_rm18) ?_
  intro p e s m below meth c s₁ hZ e0 X0 hx hby hml hown hnm hret hlk PP hPP
  have N0 := Fr.nil n0
  refine Go.cast (ef_rm18 m a1) ?_
  have Zn : n0 ≤ h0.size := Z0
  show Go p.tables e below PP (s₁.setTop (mkF m 0 #[.val (.ref a1)] []))
  refine Go.st (fun t k => XS.aloadN X0.here hx rfl (hb hby d13_0) rfl rfl k) ?_
  obtain ⟨T1, X1, e1, st1⟩ := getF X0 hx hZ hown (host := "") (Or.inl (wk hw 33 rfl)) Via.refl e0 zab (g := (mkF m 1 #[.val (.ref a1)] [(.ref a1)])) rfl rfl (hb hby d13_1)
  refine Go.st st1 ?_
  obtain ⟨cl2, Ar2, S2, Nn2, -⟩ := id V_t1
  refine Go.st (fun t k => X1.arraylength hx (by rw [e1]; exact Ar2.1) (State.isArrayOf_alike hZ.alike Ar2.2.1) (g := (mkF m 4 #[.val (.ref a1)] [(.ref t1)])) rfl rfl (hb hby d13_4) _ k) ?_
  rw [len_of S2 Nn2]
  refine Go.st (fun t k => XS.ifYes X1.here hx rfl (pc0 := 5) (pc' := 12) rfl (hb hby d13_5) rfl (XT.i0_ne_t (by decide)) (by decide) (by decide) (XS.iconst X1.here hx rfl (hb hby d13_12) k)) ?_
  show Go p.tables e below PP (T1.setTop (mkF m 13 #[.val (.ref a1)] [(.int (0 : Int32))]))
  rw [hPP]
  refine endN X1 hx hlk (t := .boolean) hret (by simp) (hb hby d13_13) (w := (0 : Int32)) (rfl) ?_ (by decide) (by decide)
  rw [e1]
  exact ⟨rfl, rfl, rfl⟩
abbrev b_12 : ByteArray := jdk_31_method_11_code
theorem d12_0 : dk b_12 0 (.aload_n 0) 1 := by decide +kernel
theorem d12_1 : dk b_12 1 (.ifnonnull 12) 3 := by decide +kernel
theorem d12_13 : dk b_12 13 (.aload_n 0) 1 := by decide +kernel
theorem d12_14 : dk b_12 14 (.areturn) 1 := by decide +kernel
abbrev r_rm12 : Room := { frames := 0, cells := 0, slots := 0, locals := 0 }
theorem pn_rm12 : plainName "java/util/Objects" = true := by first | (simp [plainName, overriddenIn]; done) | decide +kernel
theorem ef_rm12 (m : MethodId) (a1 : Addr) (a2 : Addr) : entryFrame m #[(.ref a1), (.ref a2)] 2 = mkF m 0 #[.val (.ref a1), .val (.ref a2)] [] := by first | (simp [entryFrame, mkF, argsToLocals, Value.category]; done) | rfl
def Q12 (Z : State) (a1 : Addr) (a2 : Addr) (h0 : Heap) (n0 : Nat) (v : Option Value) (h : Heap) (L : List Loc) : Prop := v = some (.ref a1) ∧ L = [] ∧ h = h0
theorem rm12 (l : Launch) (Z : State) (a0 : Array Value) (hw : HWt Z a0) (ws : List Jvm.Cond) (a1 : Addr) (a2 : Addr) (h0 : Heap) (n0 : Nat) (Z0 : n0 ≤ h0.size) :
    Con l Z y_12 jdk_31_method_11_code 2 (some (.object "java/lang/Object")) ws r_rm12 #[(.ref a1), (.ref a2)] h0 (Q12 Z a1 a2 h0 n0) := by
  refine Con.of2 (plainFor_of_name pn_rm12) ?_
  intro p e s m below meth c s₁ hZ e0 X0 hx hby hml hown hnm hret hlk PP hPP
  have N0 := Fr.nil n0
  refine Go.cast (ef_rm12 m a1 a2) ?_
  have Zn : n0 ≤ h0.size := Z0
  show Go p.tables e below PP (s₁.setTop (mkF m 0 #[.val (.ref a1), .val (.ref a2)] []))
  refine Go.st (fun t k => XS.aloadN X0.here hx rfl (hb hby d12_0) rfl rfl (XS.ifnonnullYes X0.here hx rfl (pc0 := 1) (pc' := 13) rfl (hb hby d12_1) rfl (by decide) (by decide) (XS.aloadN X0.here hx rfl (hb hby d12_13) rfl rfl k))) ?_
  show Go p.tables e below PP (s₁.setTop (mkF m 14 #[.val (.ref a1), .val (.ref a2)] [(.ref a1)]))
  rw [hPP]
  refine endR X0 hx hlk hret rfl rfl (hb hby d12_14) ?_ (by decide) (by decide)
  rw [e0]
  exact ⟨rfl, rfl, rfl⟩
abbrev r_rm18u : Room := { frames := 0, cells := 0, slots := 0, locals := 0 }
def Q18u (Z : State) (a1 : Addr) (zc : Int32) (h0 : Heap) (n0 : Nat) (v : Option Value) (h : Heap) (L : List Loc) : Prop := v = some (.int (1 : Int32)) ∧ L = [] ∧ h = h0
theorem rm18u (l : Launch) (Z : State) (a0 : Array Value) (hw : HWt Z a0) (ws : List Jvm.Cond) (a1 : Addr) (zc : Int32) (h0 : Heap) (n0 : Nat) (Z0 : n0 ≤ h0.size) (zaa : Fld Z h0 a1 k_14 "coder" "B" (.int (1 : Int32))) (SC : SS0 Z zc) (hzc : ¬ zc = (0 : Int32)) (O : Old Z n0 h0) :
    Con l Z y_18 jdk_42_method_152_code 1 (some .byte) ws r_rm18u #[(.ref a1)] h0 (Q18u Z a1 zc h0 n0) := by
  refine Con.of2 (plainFor_of_name pn_rm18) ?_
  intro p e s m below meth c s₁ hZ e0 X0 hx hby hml hown hnm hret hlk PP hPP
  have N0 := Fr.nil n0
  refine Go.cast (ef_rm18 m a1) ?_
  have Zn : n0 ≤ h0.size := Z0
  obtain ⟨T1, X1, e1, st1⟩ := getS2 X0 hx hZ hown (host := "") (Or.inl (wk hw 16 rfl)) Via.refl e0 (SC.ext O.2) (g := (mkF m 0 #[.val (.ref a1)] [])) rfl (hb hby d18_0)
  refine Go.st st1 ?_
  refine Go.st (fun t k => XS.ifNo X1.here hx rfl (hb hby d18_3) rfl (XT.i0_eq_f hzc) (XS.aloadN X1.here hx rfl (hb hby d18_6) rfl rfl k)) ?_
  obtain ⟨T2, X2, e2, st2⟩ := getF X1 hx hZ hown (host := "") (Or.inl (wk hw 35 rfl)) Via.refl e1 zaa (g := (mkF m 7 #[.val (.ref a1)] [(.ref a1)])) rfl rfl (hb hby d18_7)
  refine Go.st st2 ?_
  refine Go.st (fun t k => XS.goto X2.here hx rfl (pc0 := 10) (pc' := 14) rfl (hb hby d18_10) (by decide) (by decide) k) ?_
  show Go p.tables e below PP (T2.setTop (mkF m 14 #[.val (.ref a1)] [(.int (1 : Int32))]))
  rw [hPP]
  refine endN X2 hx hlk (t := .byte) hret (by simp) (hb hby d18_14) (w := (1 : Int32)) (rfl) ?_ (by decide) (by decide)
  rw [e2]
  exact ⟨rfl, rfl, rfl⟩
abbrev r_rm16u : Room := { frames := 0, cells := 0, slots := 0, locals := 0 }
def Q16u (Z : State) (a1 : Addr) (zc : Int32) (h0 : Heap) (n0 : Nat) (v : Option Value) (h : Heap) (L : List Loc) : Prop := v = some (.int (0 : Int32)) ∧ L = [] ∧ h = h0
theorem rm16u (l : Launch) (Z : State) (a0 : Array Value) (hw : HWt Z a0) (ws : List Jvm.Cond) (a1 : Addr) (zc : Int32) (h0 : Heap) (n0 : Nat) (Z0 : n0 ≤ h0.size) (zaa : Fld Z h0 a1 k_14 "coder" "B" (.int (1 : Int32))) (SC : SS0 Z zc) (hzc : ¬ zc = (0 : Int32)) (O : Old Z n0 h0) :
    Con l Z y_16 jdk_42_method_154_code 1 (some .boolean) ws r_rm16u #[(.ref a1)] h0 (Q16u Z a1 zc h0 n0) := by
  refine Con.of2 (plainFor_of_name pn_rm18) ?_
  intro p e s m below meth c s₁ hZ e0 X0 hx hby hml hown hnm hret hlk PP hPP
  have N0 := Fr.nil n0
  refine Go.cast (ef_rm18 m a1) ?_
  have Zn : n0 ≤ h0.size := Z0
  obtain ⟨T1, X1, e1, st1⟩ := getS2 X0 hx hZ hown (host := "") (Or.inl (wk hw 16 rfl)) Via.refl e0 (SC.ext O.2) (g := (mkF m 0 #[.val (.ref a1)] [])) rfl (hb hby d16_0)
  refine Go.st st1 ?_
  refine Go.st (fun t k => XS.ifNo X1.here hx rfl (hb hby d16_3) rfl (XT.i0_eq_f hzc) (XS.aloadN X1.here hx rfl (hb hby d16_6) rfl rfl k)) ?_
  obtain ⟨T2, X2, e2, st2⟩ := getF X1 hx hZ hown (host := "") (Or.inl (wk hw 35 rfl)) Via.refl e1 zaa (g := (mkF m 7 #[.val (.ref a1)] [(.ref a1)])) rfl rfl (hb hby d16_7)
  refine Go.st st2 ?_
  refine Go.st (fun t k => XS.ifYes X2.here hx rfl (pc0 := 10) (pc' := 17) rfl (hb hby d16_10) rfl (XT.i0_ne_t (by decide)) (by decide) (by decide) (XS.iconst X2.here hx rfl (hb hby d16_17) k)) ?_
  show Go p.tables e below PP (T2.setTop (mkF m 18 #[.val (.ref a1)] [(.int (0 : Int32))]))
  rw [hPP]
  refine endN X2 hx hlk (t := .boolean) hret (by simp) (hb hby d16_18) (w := (0 : Int32)) (rfl) ?_ (by decide) (by decide)
  rw [e2]
  exact ⟨rfl, rfl, rfl⟩
abbrev r_rm17u_2 : Room := { frames := 1, cells := 0, slots := 0, locals := 13 }
def Q17u_2 (Z : State) (a1 : Addr) (t1 : Addr) (f1 : Nat → Int32) (zc : Int32) (h0 : Heap) (n0 : Nat) (v : Option Value) (h : Heap) (L : List Loc) : Prop := v = some (.int (1 : Int32)) ∧ L = [] ∧ h = h0
theorem rm17u_2 (l : Launch) (Z : State) (a0 : Array Value) (hw : HWt Z a0) (ws : List Jvm.Cond) (a1 : Addr) (t1 : Addr) (f1 : Nat → Int32) (zc : Int32) (h0 : Heap) (n0 : Nat) (Z0 : n0 ≤ h0.size) (zab : Fld Z h0 a1 k_14 "value" "[B" (.ref t1)) (zaa : Fld Z h0 a1 k_14 "coder" "B" (.int (1 : Int32))) (V_t1 : Afn Z h0 t1 .byte (2 : Int32) (fun k => .int (f1 k))) (E_a1 : Exa Z h0 a1 k_14) (SC : SS0 Z zc) (hzc : ¬ zc = (0 : Int32)) (O : Old Z n0 h0) :
    Con l Z y_17 jdk_42_method_54_code 1 (some .int) ws r_rm17u_2 #[(.ref a1)] h0 (Q17u_2 Z a1 t1 f1 zc h0 n0) := by
  refine Con.of2 (plainFor_of_name pn_rm18) ?_
  intro p e s m below meth c s₁ hZ e0 X0 hx hby hml hown hnm hret hlk PP hPP
  have N0 := Fr.nil n0
  refine Go.cast (ef_rm18 m a1) ?_
  have Zn : n0 ≤ h0.size := Z0
  show Go p.tables e below PP (s₁.setTop (mkF m 0 #[.val (.ref a1)] []))
  refine Go.st (fun t k => XS.aloadN X0.here hx rfl (hb hby d17_0) rfl rfl k) ?_
  obtain ⟨T1, X1, e1, st1⟩ := getF X0 hx hZ hown (host := "") (Or.inl (wk hw 33 rfl)) Via.refl e0 zab (g := (mkF m 1 #[.val (.ref a1)] [(.ref a1)])) rfl rfl (hb hby d17_1)
  refine Go.st st1 ?_
  obtain ⟨cl2, Ar2, S2, Nn2, -⟩ := id V_t1
  refine Go.st (fun t k => X1.arraylength hx (by rw [e1]; exact Ar2.1) (State.isArrayOf_alike hZ.alike Ar2.2.1) (g := (mkF m 4 #[.val (.ref a1)] [(.ref t1)])) rfl rfl (hb hby d17_4) _ k) ?_
  rw [len_of S2 Nn2]
  refine Go.st (fun t k => XS.aloadN X1.here hx rfl (hb hby d17_5) rfl rfl k) ?_
  obtain ⟨v3, T3, L3, X3, hQ3, st3⟩ := callVi X1 hx hZ (C := k_14) (y := y_18) (z := y_18) (a := a1) (argsL := []) (rest := [(.int (2 : Int32))]) hown (wk hw 90 rfl) (wk hw 91 rfl) (notFace_of_selects (args := #[]) (mvT hZ (wk hw 93 rfl))) (wk hw 93 rfl) (wk hw 92 rfl) (wk hw 14 rfl) (wk hw 94 rfl) (by decide) rfl E_a1 (rm18u l Z a0 hw [] a1 zc h0 n0 Zn zaa SC hzc O) e1 1 (by decide) (by decide) (by decide) (by decide) (g := (mkF m 6 #[.val (.ref a1)] [(.ref a1), (.int (2 : Int32))])) rfl (by rw [hml]; rfl) (lenOf pd_0 rfl) rfl (Nat.le_of_eq rfl) (hb hby d17_6)
  obtain ⟨rfl, rfl, e3⟩ := hQ3
  rw [List.append_nil] at X3
  refine Go.st st3 ?_
  show Go p.tables e below PP (T3.setTop (mkF m 9 #[.val (.ref a1)] [(.int (1 : Int32)), (.int (2 : Int32))]))
  refine Go.st (fun t k => XS.ishr X3.here hx rfl (hb hby d17_9) rfl k) ?_
  show Go p.tables e below PP (T3.setTop (mkF m 10 #[.val (.ref a1)] [(.int ((2 : Int32) >>> ((1 : Int32) &&& 31)))]))
  rw [show ((2 : Int32) >>> ((1 : Int32) &&& 31)) = (1 : Int32) from by decide]
  show Go p.tables e below PP (T3.setTop (mkF m 10 #[.val (.ref a1)] [(.int (1 : Int32))]))
  rw [hPP]
  refine endI X3 hx hlk hret (hb hby d17_10) ?_ (by decide) (by decide)
  rw [e3]
  exact ⟨rfl, rfl, rfl⟩
abbrev r_rm17u_42 : Room := { frames := 1, cells := 0, slots := 0, locals := 13 }
def Q17u_42 (Z : State) (a1 : Addr) (t1 : Addr) (f1 : Nat → Int32) (zc : Int32) (h0 : Heap) (n0 : Nat) (v : Option Value) (h : Heap) (L : List Loc) : Prop := v = some (.int (21 : Int32)) ∧ L = [] ∧ h = h0
theorem rm17u_42 (l : Launch) (Z : State) (a0 : Array Value) (hw : HWt Z a0) (ws : List Jvm.Cond) (a1 : Addr) (t1 : Addr) (f1 : Nat → Int32) (zc : Int32) (h0 : Heap) (n0 : Nat) (Z0 : n0 ≤ h0.size) (zab : Fld Z h0 a1 k_14 "value" "[B" (.ref t1)) (zaa : Fld Z h0 a1 k_14 "coder" "B" (.int (1 : Int32))) (V_t1 : Afn Z h0 t1 .byte (42 : Int32) (fun k => .int (f1 k))) (E_a1 : Exa Z h0 a1 k_14) (SC : SS0 Z zc) (hzc : ¬ zc = (0 : Int32)) (O : Old Z n0 h0) :
    Con l Z y_17 jdk_42_method_54_code 1 (some .int) ws r_rm17u_42 #[(.ref a1)] h0 (Q17u_42 Z a1 t1 f1 zc h0 n0) := by
  refine Con.of2 (plainFor_of_name pn_rm18) ?_
  intro p e s m below meth c s₁ hZ e0 X0 hx hby hml hown hnm hret hlk PP hPP
  have N0 := Fr.nil n0
  refine Go.cast (ef_rm18 m a1) ?_
  have Zn : n0 ≤ h0.size := Z0
  show Go p.tables e below PP (s₁.setTop (mkF m 0 #[.val (.ref a1)] []))
  refine Go.st (fun t k => XS.aloadN X0.here hx rfl (hb hby d17_0) rfl rfl k) ?_
  obtain ⟨T1, X1, e1, st1⟩ := getF X0 hx hZ hown (host := "") (Or.inl (wk hw 33 rfl)) Via.refl e0 zab (g := (mkF m 1 #[.val (.ref a1)] [(.ref a1)])) rfl rfl (hb hby d17_1)
  refine Go.st st1 ?_
  obtain ⟨cl2, Ar2, S2, Nn2, -⟩ := id V_t1
  refine Go.st (fun t k => X1.arraylength hx (by rw [e1]; exact Ar2.1) (State.isArrayOf_alike hZ.alike Ar2.2.1) (g := (mkF m 4 #[.val (.ref a1)] [(.ref t1)])) rfl rfl (hb hby d17_4) _ k) ?_
  rw [len_of S2 Nn2]
  refine Go.st (fun t k => XS.aloadN X1.here hx rfl (hb hby d17_5) rfl rfl k) ?_
  obtain ⟨v3, T3, L3, X3, hQ3, st3⟩ := callVi X1 hx hZ (C := k_14) (y := y_18) (z := y_18) (a := a1) (argsL := []) (rest := [(.int (42 : Int32))]) hown (wk hw 90 rfl) (wk hw 91 rfl) (notFace_of_selects (args := #[]) (mvT hZ (wk hw 93 rfl))) (wk hw 93 rfl) (wk hw 92 rfl) (wk hw 14 rfl) (wk hw 94 rfl) (by decide) rfl E_a1 (rm18u l Z a0 hw [] a1 zc h0 n0 Zn zaa SC hzc O) e1 1 (by decide) (by decide) (by decide) (by decide) (g := (mkF m 6 #[.val (.ref a1)] [(.ref a1), (.int (42 : Int32))])) rfl (by rw [hml]; rfl) (lenOf pd_0 rfl) rfl (Nat.le_of_eq rfl) (hb hby d17_6)
  obtain ⟨rfl, rfl, e3⟩ := hQ3
  rw [List.append_nil] at X3
  refine Go.st st3 ?_
  show Go p.tables e below PP (T3.setTop (mkF m 9 #[.val (.ref a1)] [(.int (1 : Int32)), (.int (42 : Int32))]))
  refine Go.st (fun t k => XS.ishr X3.here hx rfl (hb hby d17_9) rfl k) ?_
  show Go p.tables e below PP (T3.setTop (mkF m 10 #[.val (.ref a1)] [(.int ((42 : Int32) >>> ((1 : Int32) &&& 31)))]))
  rw [show ((42 : Int32) >>> ((1 : Int32) &&& 31)) = (21 : Int32) from by decide]
  show Go p.tables e below PP (T3.setTop (mkF m 10 #[.val (.ref a1)] [(.int (21 : Int32))]))
  rw [hPP]
  refine endI X3 hx hlk hret (hb hby d17_10) ?_ (by decide) (by decide)
  rw [e3]
  exact ⟨rfl, rfl, rfl⟩
abbrev b_77 : ByteArray := jdk_52_method_4_code
theorem d77_0 : dk b_77 0 (.getstatic 44) 3 := by decide +kernel
theorem d77_3 : dk b_77 3 (.ifCond .ne 25) 3 := by decide +kernel
theorem d77_28 : dk b_77 28 (.iload_n 1) 1 := by decide +kernel
theorem d77_29 : dk b_77 29 (.iconst 1) 1 := by decide +kernel
theorem d77_30 : dk b_77 30 (.ishl) 1 := by decide +kernel
theorem d77_31 : dk b_77 31 (.istore_n 1) 1 := by decide +kernel
theorem d77_32 : dk b_77 32 (.aload_n 0) 1 := by decide +kernel
theorem d77_33 : dk b_77 33 (.iload_n 1) 1 := by decide +kernel
theorem d77_34 : dk b_77 34 (.iinc 1 1) 3 := by decide +kernel
theorem d77_37 : dk b_77 37 (.iload_n 2) 1 := by decide +kernel
theorem d77_38 : dk b_77 38 (.getstatic 59) 3 := by decide +kernel
theorem d77_41 : dk b_77 41 (.ishr) 1 := by decide +kernel
theorem d77_42 : dk b_77 42 (.i2b) 1 := by decide +kernel
theorem d77_43 : dk b_77 43 (.bastore) 1 := by decide +kernel
theorem d77_44 : dk b_77 44 (.aload_n 0) 1 := by decide +kernel
theorem d77_45 : dk b_77 45 (.iload_n 1) 1 := by decide +kernel
theorem d77_46 : dk b_77 46 (.iload_n 2) 1 := by decide +kernel
theorem d77_47 : dk b_77 47 (.getstatic 63) 3 := by decide +kernel
theorem d77_50 : dk b_77 50 (.ishr) 1 := by decide +kernel
theorem d77_51 : dk b_77 51 (.i2b) 1 := by decide +kernel
theorem d77_52 : dk b_77 52 (.bastore) 1 := by decide +kernel
theorem d77_53 : dk b_77 53 (.return_) 1 := by decide +kernel
abbrev r_rm77 : Room := { frames := 0, cells := 0, slots := 0, locals := 0 }
theorem pn_rm77 : plainName "java/lang/StringUTF16" = true := by first | (simp [plainName, overriddenIn]; done) | decide +kernel
theorem ef_rm77 (m : MethodId) (a1 : Addr) (p2 : Int32) (p3 : Int32) : entryFrame m #[(.ref a1), (.int p2), (.int p3)] 3 = mkF m 0 #[.val (.ref a1), .val (.int p2), .val (.int p3)] [] := by first | (simp [entryFrame, mkF, argsToLocals, Value.category]; done) | rfl
def Q77 (Z : State) (a1 : Addr) (p2 : Int32) (p3 : Int32) (n1 : Int32) (f1 : Nat → Int32) (h0 : Heap) (n0 : Nat) (v : Option Value) (h : Heap) (L : List Loc) : Prop := v = none ∧ Fr n0 L ∧ Keep h0 h [a1] ∧ Afn Z h a1 .byte n1 (fun k => .int (pcF f1 p2 p3 k))
theorem rm77 (l : Launch) (Z : State) (a0 : Array Value) (hw : HWt Z a0) (ws : List Jvm.Cond) (a1 : Addr) (p2 : Int32) (p3 : Int32) (n1 : Int32) (f1 : Nat → Int32) (h0 : Heap) (n0 : Nat) (Z0 : n0 ≤ h0.size) (V_a1 : Afn Z h0 a1 .byte n1 (fun k => .int (f1 k))) (g_a1 : n0 ≤ a1) (hp : ¬ p2 < (0 : Int32) ∧ 2 * p2.toInt + 1 < n1.toInt) (SA : SS2 Z) (SHi : SS3 Z) (SLo : SS4 Z) (O : Old Z n0 h0) :
    Con l Z y_77 jdk_52_method_4_code 3 none ws r_rm77 #[(.ref a1), (.int p2), (.int p3)] h0 (Q77 Z a1 p2 p3 n1 f1 h0 n0) := by
  refine Con.of2 (plainFor_of_name pn_rm77) ?_
  intro p e s m below meth c s₁ hZ e0 X0 hx hby hml hown hnm hret hlk PP hPP
  have N0 := Fr.nil n0
  refine Go.cast (ef_rm77 m a1 p2 p3) ?_
  have K : Keep h0 h0 [a1] := Keep.refl h0 _
  have Zn : n0 ≤ h0.size := Z0
  obtain ⟨T1, X1, e1, st1⟩ := getS2 X0 hx hZ hown (host := "") (Or.inl (wk hw 414 rfl)) Via.refl e0 (SA.ext O.2) (g := (mkF m 0 #[.val (.ref a1), .val (.int p2), .val (.int p3)] [])) rfl (hb hby d77_0)
  refine Go.st st1 ?_
  refine Go.st (fun t k => XS.ifYes X1.here hx rfl (pc0 := 3) (pc' := 28) rfl (hb hby d77_3) rfl (XT.i0_ne_t (by decide)) (by decide) (by decide) (XS.iloadN X1.here hx rfl (hb hby d77_28) rfl (XS.iconst X1.here hx rfl (hb hby d77_29) (XS.ishl X1.here hx rfl (hb hby d77_30) rfl k)))) ?_
  show Go p.tables e below PP (T1.setTop (mkF m 31 #[.val (.ref a1), .val (.int p2), .val (.int p3)] [(.int (p2 <<< ((1 : Int32) &&& 31)))]))
  generalize hix : (p2 <<< ((1 : Int32) &&& 31)) = ix
  replace hix := own_sh1 hp hix
  show Go p.tables e below PP (T1.setTop (mkF m 31 #[.val (.ref a1), .val (.int p2), .val (.int p3)] [(.int ix)]))
  refine Go.st (fun t k => XS.istoreN X1.here hx rfl (hb hby d77_31) rfl (l' := #[.val (.ref a1), .val (.int ix), .val (.int p3)]) rfl (XS.aloadN X1.here hx rfl (hb hby d77_32) rfl rfl (XS.iloadN X1.here hx rfl (hb hby d77_33) rfl (XS.iinc X1.here hx rfl (hb hby d77_34) rfl (l' := #[.val (.ref a1), .val (.int (ix + (1 : Int32))), .val (.int p3)]) rfl (XS.iloadN X1.here hx rfl (hb hby d77_37) rfl k))))) ?_
  obtain ⟨T2, X2, e2, st2⟩ := getS2 X1 hx hZ hown (host := "") (Or.inl (wk hw 415 rfl)) Via.refl e1 (SHi.ext O.2) (g := (mkF m 38 #[.val (.ref a1), .val (.int (ix + (1 : Int32))), .val (.int p3)] [(.int p3), (.int ix), (.ref a1)])) rfl (hb hby d77_38)
  refine Go.st st2 ?_
  refine Go.st (fun t k => XS.ishr X2.here hx rfl (hb hby d77_41) rfl (XS.i2b X2.here hx rfl (hb hby d77_42) rfl k)) ?_
  obtain ⟨cl3, Ar3, S3, Nn3, H3⟩ := id V_a1
  have hin3 : ¬ (ix < 0 ∨ cl3.slots.size ≤ (ix).toNatClampNeg) := inb_of S3 hix.2.2.1
  obtain ⟨T3, h3, X3, e3, W3, st3⟩ := stB X2 hx hZ e2 Ar3 (j := ix) hin3 (g := (mkF m 43 #[.val (.ref a1), .val (.int (ix + (1 : Int32))), .val (.int p3)] [(.int ((p3 >>> ((0 : Int32) &&& 31)).toInt8.toInt32)), (.int ix), (.ref a1)])) rfl rfl (hb hby d77_43)
  refine Go.st st3 ?_
  have N3 := Fr.snoc X3 N0 g_a1
  replace O := O.wr W3 g_a1
  replace K := K.wr W3 (Or.inl (List.mem_of_getElem? (i := 0) rfl))
  replace Zn : n0 ≤ h3.size := by rw [W3.size]; exact Zn
  replace V_a1 := Afn.set Ar3 S3 Nn3 H3 (fits_nar_byte _) W3
  refine Go.st (fun t k => XS.aloadN X3.here hx rfl (hb hby d77_44) rfl rfl (XS.iloadN X3.here hx rfl (hb hby d77_45) rfl (XS.iloadN X3.here hx rfl (hb hby d77_46) rfl k))) ?_
  obtain ⟨T4, X4, e4, st4⟩ := getS2 X3 hx hZ hown (host := "") (Or.inl (wk hw 416 rfl)) Via.refl e3 (SLo.ext O.2) (g := (mkF m 47 #[.val (.ref a1), .val (.int (ix + (1 : Int32))), .val (.int p3)] [(.int p3), (.int (ix + (1 : Int32))), (.ref a1)])) rfl (hb hby d77_47)
  refine Go.st st4 ?_
  refine Go.st (fun t k => XS.ishr X4.here hx rfl (hb hby d77_50) rfl (XS.i2b X4.here hx rfl (hb hby d77_51) rfl k)) ?_
  obtain ⟨cl5, Ar5, S5, Nn5, H5⟩ := id V_a1
  have hin5 : ¬ ((ix + (1 : Int32)) < 0 ∨ cl5.slots.size ≤ ((ix + (1 : Int32))).toNatClampNeg) := inb_of S5 hix.2.2.2
  obtain ⟨T5, h5, X5, e5, W5, st5⟩ := stB X4 hx hZ e4 Ar5 (j := (ix + (1 : Int32))) hin5 (g := (mkF m 52 #[.val (.ref a1), .val (.int (ix + (1 : Int32))), .val (.int p3)] [(.int ((p3 >>> ((8 : Int32) &&& 31)).toInt8.toInt32)), (.int (ix + (1 : Int32))), (.ref a1)])) rfl rfl (hb hby d77_52)
  refine Go.st st5 ?_
  have N5 := Fr.snoc X5 N3 g_a1
  replace O := O.wr W5 g_a1
  replace K := K.wr W5 (Or.inl (List.mem_of_getElem? (i := 0) rfl))
  replace Zn : n0 ≤ h5.size := by rw [W5.size]; exact Zn
  replace V_a1 := Afn.set Ar5 S5 Nn5 H5 (fits_nar_byte _) W5
  show Go p.tables e below PP (T5.setTop (mkF m 53 #[.val (.ref a1), .val (.int (ix + (1 : Int32))), .val (.int p3)] []))
  rw [hPP]
  refine endV X5 hx hlk hret (hb hby d77_53) ?_ (by decide) (by decide)
  rw [e5]
  exact ⟨rfl, N5, K, V_a1.congr (fun k _ => own_pc f1 p3 hix.1 hix.2.1 k)⟩
abbrev b_88 : ByteArray := jdk_52_method_5_code
theorem d88_0 : dk b_88 0 (.getstatic 44) 3 := by decide +kernel
theorem d88_3 : dk b_88 3 (.ifCond .ne 25) 3 := by decide +kernel
theorem d88_28 : dk b_88 28 (.iload_n 1) 1 := by decide +kernel
theorem d88_29 : dk b_88 29 (.iconst 1) 1 := by decide +kernel
theorem d88_30 : dk b_88 30 (.ishl) 1 := by decide +kernel
theorem d88_31 : dk b_88 31 (.istore_n 1) 1 := by decide +kernel
theorem d88_32 : dk b_88 32 (.aload_n 0) 1 := by decide +kernel
theorem d88_33 : dk b_88 33 (.iload_n 1) 1 := by decide +kernel
theorem d88_34 : dk b_88 34 (.iinc 1 1) 3 := by decide +kernel
theorem d88_37 : dk b_88 37 (.baload) 1 := by decide +kernel
theorem d88_38 : dk b_88 38 (.sipush 255) 3 := by decide +kernel
theorem d88_41 : dk b_88 41 (.iand) 1 := by decide +kernel
theorem d88_42 : dk b_88 42 (.getstatic 59) 3 := by decide +kernel
theorem d88_45 : dk b_88 45 (.ishl) 1 := by decide +kernel
theorem d88_46 : dk b_88 46 (.aload_n 0) 1 := by decide +kernel
theorem d88_47 : dk b_88 47 (.iload_n 1) 1 := by decide +kernel
theorem d88_48 : dk b_88 48 (.baload) 1 := by decide +kernel
theorem d88_49 : dk b_88 49 (.sipush 255) 3 := by decide +kernel
theorem d88_52 : dk b_88 52 (.iand) 1 := by decide +kernel
theorem d88_53 : dk b_88 53 (.getstatic 63) 3 := by decide +kernel
theorem d88_56 : dk b_88 56 (.ishl) 1 := by decide +kernel
theorem d88_57 : dk b_88 57 (.ior) 1 := by decide +kernel
theorem d88_58 : dk b_88 58 (.i2c) 1 := by decide +kernel
theorem d88_59 : dk b_88 59 (.ireturn) 1 := by decide +kernel
abbrev r_rm88 : Room := { frames := 0, cells := 0, slots := 0, locals := 0 }
def Q88 (Z : State) (a1 : Addr) (p2 : Int32) (n1 : Int32) (f1 : Nat → Int32) (h0 : Heap) (n0 : Nat) (v : Option Value) (h : Heap) (L : List Loc) : Prop := v = some (.int (gcF (f1 (2 * p2.toNatClampNeg)) (f1 (2 * p2.toNatClampNeg + 1)))) ∧ L = [] ∧ h = h0
theorem rm88 (l : Launch) (Z : State) (a0 : Array Value) (hw : HWt Z a0) (ws : List Jvm.Cond) (a1 : Addr) (p2 : Int32) (n1 : Int32) (f1 : Nat → Int32) (h0 : Heap) (n0 : Nat) (Z0 : n0 ≤ h0.size) (V_a1 : Afn Z h0 a1 .byte n1 (fun k => .int (f1 k))) (hp : ¬ p2 < (0 : Int32) ∧ 2 * p2.toInt + 1 < n1.toInt) (SA : SS2 Z) (SHi : SS3 Z) (SLo : SS4 Z) (O : Old Z n0 h0) :
    Con l Z y_88 jdk_52_method_5_code 2 (some .char) ws r_rm88 #[(.ref a1), (.int p2)] h0 (Q88 Z a1 p2 n1 f1 h0 n0) := by
  refine Con.of2 (plainFor_of_name pn_rm77) ?_
  intro p e s m below meth c s₁ hZ e0 X0 hx hby hml hown hnm hret hlk PP hPP
  have N0 := Fr.nil n0
  refine Go.cast (ef_rm14 m a1 p2) ?_
  have Zn : n0 ≤ h0.size := Z0
  obtain ⟨T1, X1, e1, st1⟩ := getS2 X0 hx hZ hown (host := "") (Or.inl (wk hw 414 rfl)) Via.refl e0 (SA.ext O.2) (g := (mkF m 0 #[.val (.ref a1), .val (.int p2)] [])) rfl (hb hby d88_0)
  refine Go.st st1 ?_
  refine Go.st (fun t k => XS.ifYes X1.here hx rfl (pc0 := 3) (pc' := 28) rfl (hb hby d88_3) rfl (XT.i0_ne_t (by decide)) (by decide) (by decide) (XS.iloadN X1.here hx rfl (hb hby d88_28) rfl (XS.iconst X1.here hx rfl (hb hby d88_29) (XS.ishl X1.here hx rfl (hb hby d88_30) rfl k)))) ?_
  show Go p.tables e below PP (T1.setTop (mkF m 31 #[.val (.ref a1), .val (.int p2)] [(.int (p2 <<< ((1 : Int32) &&& 31)))]))
  generalize hix : (p2 <<< ((1 : Int32) &&& 31)) = ix
  replace hix := own_sh1 hp hix
  show Go p.tables e below PP (T1.setTop (mkF m 31 #[.val (.ref a1), .val (.int p2)] [(.int ix)]))
  refine Go.st (fun t k => XS.istoreN X1.here hx rfl (hb hby d88_31) rfl (l' := #[.val (.ref a1), .val (.int ix)]) rfl (XS.aloadN X1.here hx rfl (hb hby d88_32) rfl rfl (XS.iloadN X1.here hx rfl (hb hby d88_33) rfl (XS.iinc X1.here hx rfl (hb hby d88_34) rfl (l' := #[.val (.ref a1), .val (.int (ix + (1 : Int32)))]) rfl k)))) ?_
  obtain ⟨cl2, Ar2, S2, Nn2, H2⟩ := id V_a1
  have hin2 : ¬ (ix < 0 ∨ cl2.slots.size ≤ (ix).toNatClampNeg) := inb_of S2 hix.2.2.1
  refine Go.st (fun t k => X1.baloadBytes hx (j := ix) (v := (.int (f1 (2 * p2.toNatClampNeg)))) (by rw [e1]; exact Ar2.1) (State.isArrayOf_alike hZ.alike Ar2.2.1) Ar2.2.2 hin2 ((H2 _ (inbN hix.2.2.1)).1.trans (congrArg some (congrArg (fun z => Value.int (f1 z)) hix.1))) (g := (mkF m 37 #[.val (.ref a1), .val (.int (ix + (1 : Int32)))] [(.int ix), (.ref a1)])) rfl rfl (hb hby d88_37) _ (XS.sipush X1.here hx rfl (hb hby d88_38) (XS.iand X1.here hx rfl (hb hby d88_41) rfl k))) ?_
  obtain ⟨T3, X3, e3, st3⟩ := getS2 X1 hx hZ hown (host := "") (Or.inl (wk hw 415 rfl)) Via.refl e1 (SHi.ext O.2) (g := (mkF m 42 #[.val (.ref a1), .val (.int (ix + (1 : Int32)))] [(.int ((f1 (2 * p2.toNatClampNeg)) &&& (255 : Int32)))])) rfl (hb hby d88_42)
  refine Go.st st3 ?_
  refine Go.st (fun t k => XS.ishl X3.here hx rfl (hb hby d88_45) rfl (XS.aloadN X3.here hx rfl (hb hby d88_46) rfl rfl (XS.iloadN X3.here hx rfl (hb hby d88_47) rfl k))) ?_
  obtain ⟨cl4, Ar4, S4, Nn4, H4⟩ := id V_a1
  have hin4 : ¬ ((ix + (1 : Int32)) < 0 ∨ cl4.slots.size ≤ ((ix + (1 : Int32))).toNatClampNeg) := inb_of S4 hix.2.2.2
  refine Go.st (fun t k => X3.baloadBytes hx (j := (ix + (1 : Int32))) (v := (.int (f1 (2 * p2.toNatClampNeg + 1)))) (by rw [e3]; exact Ar4.1) (State.isArrayOf_alike hZ.alike Ar4.2.1) Ar4.2.2 hin4 ((H4 _ (inbN hix.2.2.2)).1.trans (congrArg some (congrArg (fun z => Value.int (f1 z)) hix.2.1))) (g := (mkF m 48 #[.val (.ref a1), .val (.int (ix + (1 : Int32)))] [(.int (ix + (1 : Int32))), (.ref a1), (.int (((f1 (2 * p2.toNatClampNeg)) &&& (255 : Int32)) <<< ((0 : Int32) &&& 31)))])) rfl rfl (hb hby d88_48) _ (XS.sipush X3.here hx rfl (hb hby d88_49) (XS.iand X3.here hx rfl (hb hby d88_52) rfl k))) ?_
  obtain ⟨T5, X5, e5, st5⟩ := getS2 X3 hx hZ hown (host := "") (Or.inl (wk hw 416 rfl)) Via.refl e3 (SLo.ext O.2) (g := (mkF m 53 #[.val (.ref a1), .val (.int (ix + (1 : Int32)))] [(.int ((f1 (2 * p2.toNatClampNeg + 1)) &&& (255 : Int32))), (.int (((f1 (2 * p2.toNatClampNeg)) &&& (255 : Int32)) <<< ((0 : Int32) &&& 31)))])) rfl (hb hby d88_53)
  refine Go.st st5 ?_
  refine Go.st (fun t k => XS.ishl X5.here hx rfl (hb hby d88_56) rfl (XS.ior X5.here hx rfl (hb hby d88_57) rfl (XS.i2c X5.here hx rfl (hb hby d88_58) rfl k))) ?_
  show Go p.tables e below PP (T5.setTop (mkF m 59 #[.val (.ref a1), .val (.int (ix + (1 : Int32)))] [(.int (((((f1 (2 * p2.toNatClampNeg)) &&& (255 : Int32)) <<< ((0 : Int32) &&& 31)) ||| (((f1 (2 * p2.toNatClampNeg + 1)) &&& (255 : Int32)) <<< ((8 : Int32) &&& 31))).toUInt32.toUInt16.toUInt32.toInt32))]))
  rw [hPP]
  refine endN X5 hx hlk (t := .char) hret (by simp) (hb hby d88_59) (w := (gcF (f1 (2 * p2.toNatClampNeg)) (f1 (2 * p2.toNatClampNeg + 1)))) (rfl) ?_ (by decide) (by decide)
  rw [e5]
  exact ⟨rfl, rfl, rfl⟩
abbrev b_76 : ByteArray := jdk_52_method_24_code
theorem d76_0 : dk b_76 0 (.iconst 2) 1 := by decide +kernel
theorem d76_1 : dk b_76 1 (.newarray .byte) 2 := by decide +kernel
theorem d76_3 : dk b_76 3 (.astore_n 1) 1 := by decide +kernel
theorem d76_4 : dk b_76 4 (.aload_n 1) 1 := by decide +kernel
theorem d76_5 : dk b_76 5 (.iconst 0) 1 := by decide +kernel
theorem d76_6 : dk b_76 6 (.iload_n 0) 1 := by decide +kernel
theorem d76_7 : dk b_76 7 (.invokestatic 111) 3 := by decide +kernel
theorem d76_10 : dk b_76 10 (.aload_n 1) 1 := by decide +kernel
theorem d76_11 : dk b_76 11 (.areturn) 1 := by decide +kernel
abbrev r_rm76 : Room := { frames := 1, cells := 1, slots := 2, locals := 14 }
theorem ef_rm76 (m : MethodId) (p1 : Int32) : entryFrame m #[(.int p1)] 2 = mkF m 0 #[.val (.int p1), .unset] [] := by first | (simp [entryFrame, mkF, argsToLocals, Value.category]; done) | rfl
def Q76 (Z : State) (p1 : Int32) (h0 : Heap) (n0 : Nat) (v : Option Value) (h : Heap) (L : List Loc) : Prop := ∃ (t : Addr) (f' : Nat → Int32), v = some (.ref t) ∧ Fr n0 L ∧ Keep h0 h [] ∧ h0.size ≤ t ∧ Afn Z h t .byte (2 : Int32) (fun k => .int (f' k))
theorem pd_13 : parseMethodDescriptor "([BII)V" = some ⟨[(.array .byte), .int, .int], none⟩ := by decide +kernel
theorem rm76 (l : Launch) (Z : State) (a0 : Array Value) (hw : HWt Z a0) (ws : List Jvm.Cond) (p1 : Int32) (h0 : Heap) (n0 : Nat) (Z0 : n0 ≤ h0.size) (SA : SS2 Z) (SHi : SS3 Z) (SLo : SS4 Z) (O : Old Z n0 h0) :
    Con l Z y_76 jdk_52_method_24_code 2 (some (.array .byte)) ws r_rm76 #[(.int p1)] h0 (Q76 Z p1 h0 n0) := by
  refine Con.of2 (plainFor_of_name pn_rm77) ?_
  intro p e s m below meth c s₁ hZ e0 X0 hx hby hml hown hnm hret hlk PP hPP
  have N0 := Fr.nil n0
  refine Go.cast (ef_rm76 m p1) ?_
  have K : Keep h0 h0 [] := Keep.refl h0 _
  have Zn : n0 ≤ h0.size := Z0
  show Go p.tables e below PP (s₁.setTop (mkF m 0 #[.val (.int p1), .unset] []))
  refine Go.st (fun t k => XS.iconst X0.here hx rfl (hb hby d76_0) k) ?_
  obtain ⟨T1, h1, k1, X1, e1, E1, A1, st1⟩ := newP X0 hx hZ (wk hw 4 rfl) e0 (g := (mkF m 1 #[.val (.int p1), .unset] [(.int (2 : Int32))])) rfl (hb hby d76_1) rfl (by decide) (cap := 2) (by decide) (by decide) (by decide) (by decide)
  obtain ⟨b1, gz1⟩ : ∃ z, z = h0.size := ⟨_, rfl⟩
  rw [← gz1] at A1 st1
  have g_b1 : n0 ≤ b1 := Nat.le_trans Zn (Nat.le_of_eq gz1.symm)
  have zas : h0.size ≤ b1 := Nat.le_trans K.1 (Nat.le_of_eq gz1.symm)
  refine Go.st st1 ?_
  replace O := O.ext E1
  replace K := K.ext E1
  replace Zn := Nat.le_trans Zn E1.1
  have V_b1 : Afn Z h1 b1 .byte (2 : Int32) (fun _ => (.int (0 : Int32))) := Afn.new A1 (by decide)
  refine Go.st (fun t k => XS.astoreN X1.here hx rfl (hb hby d76_3) rfl rfl (l' := #[.val (.int p1), .val (.ref b1)]) rfl (XS.aloadN X1.here hx rfl (hb hby d76_4) rfl rfl (XS.iconst X1.here hx rfl (hb hby d76_5) (XS.iloadN X1.here hx rfl (hb hby d76_6) rfl k)))) ?_
  obtain ⟨v2, T2, L2, X2, hQ2, st2⟩ := callSt X1 hx hZ (y := y_77) (argsL := [(.ref b1), (.int (0 : Int32)), (.int p1)]) (rest := []) hown (wk hw 411 rfl) (wk hw 412 rfl) (wk hw 409 rfl) (wk hw 413 rfl) (by decide) (rm77 l Z a0 hw [] b1 (0 : Int32) p1 (2 : Int32) (fun k => (0 : Int32)) h1 n0 Zn V_b1 g_b1 (by decide) SA SHi SLo O) e1 0 (by decide) (by decide) (by decide) (by decide) (g := (mkF m 7 #[.val (.int p1), .val (.ref b1)] [(.int p1), (.int (0 : Int32)), (.ref b1)])) rfl (by rw [hml]; rfl) (lenOf pd_13 rfl) rfl (Nat.le_of_eq rfl) (hb hby d76_7)
  obtain ⟨h2, e2⟩ : ∃ z, T2.heap = z := ⟨_, rfl⟩
  rw [e2] at hQ2
  obtain ⟨rfl, Nq2, Kq2, zaq⟩ := hQ2
  have N2 := Fr.app N0 Nq2
  replace O := O.keep Kq2 (allS g_b1 all0)
  replace K := K.trans Kq2 (allS (Or.inr zas) all0)
  replace Zn := Nat.le_trans Zn Kq2.1
  refine Go.st st2 ?_
  refine Go.st (fun t k => XS.aloadN X2.here hx rfl (hb hby d76_10) rfl rfl k) ?_
  show Go p.tables e below PP (T2.setTop (mkF m 11 #[.val (.int p1), .val (.ref b1)] [(.ref b1)]))
  rw [hPP]
  refine endR X2 hx hlk hret rfl rfl (hb hby d76_11) ?_ (by decide) (by decide)
  rw [e2]
  exact ⟨b1, (fun k => pcF (fun k => (0 : Int32)) (0 : Int32) p1 k), rfl, N2, K, zas, zaq⟩
abbrev r_rm6u : Room := { frames := 1, cells := 0, slots := 0, locals := 40 }
theorem ef_rm6u (m : MethodId) (a1 : Addr) (a2 : Addr) : entryFrame m #[(.ref a1), (.ref a2), (.int (1 : Int32))] 3 = mkF m 0 #[.val (.ref a1), .val (.ref a2), .val (.int (1 : Int32))] [] := by first | (simp [entryFrame, mkF, argsToLocals, Value.category]; done) | rfl
def Q6u (Z : State) (a1 : Addr) (a2 : Addr) (h0 : Heap) (n0 : Nat) (v : Option Value) (h : Heap) (L : List Loc) : Prop := v = none ∧ Fr n0 L ∧ Keep h0 h [a1] ∧ Fld Z h a1 k_14 "value" "[B" (.ref a2) ∧ Fld Z h a1 k_14 "coder" "B" (.int (1 : Int32))
theorem rm6u (l : Launch) (Z : State) (a0 : Array Value) (hw : HWt Z a0) (ws : List Jvm.Cond) (a1 : Addr) (a2 : Addr) (h0 : Heap) (n0 : Nat) (Z0 : n0 ≤ h0.size) (E_a1 : Exa Z h0 a1 k_14) (zab : Fld Z h0 a1 k_14 "value" "[B" .null) (zaa : Fld Z h0 a1 k_14 "coder" "B" (.int (0 : Int32))) (g_a1 : n0 ≤ a1) :
    Con l Z y_6 jdk_42_method_151_code 3 none ws r_rm6u #[(.ref a1), (.ref a2), (.int (1 : Int32))] h0 (Q6u Z a1 a2 h0 n0) := by
  refine Con.of2 (plainFor_of_name pn_rm18) ?_
  intro p e s m below meth c s₁ hZ e0 X0 hx hby hml hown hnm hret hlk PP hPP
  have N0 := Fr.nil n0
  refine Go.cast (ef_rm6u m a1 a2) ?_
  have K : Keep h0 h0 [a1] := Keep.refl h0 _
  have Zn : n0 ≤ h0.size := Z0
  show Go p.tables e below PP (s₁.setTop (mkF m 0 #[.val (.ref a1), .val (.ref a2), .val (.int (1 : Int32))] []))
  refine Go.st (fun t k => XS.aloadN X0.here hx rfl (hb hby d6_0) rfl rfl k) ?_
  obtain ⟨T1, X1, e1, st1⟩ := initO X0 hx hZ hown (wk hw 30 rfl) (wk hw 31 rfl) (wk hw 32 rfl) e0 (g := (mkF m 1 #[.val (.ref a1), .val (.ref a2), .val (.int (1 : Int32))] [(.ref a1)])) rfl (by rw [hml]; rfl) rfl (hb hby d6_1) (by decide) (W := 0) (by show 2 * 0 + _ ≤ _; exact Nat.le_of_eq rfl) (by decide)
  refine Go.st st1 ?_
  refine Go.st (fun t k => XS.aloadN X1.here hx rfl (hb hby d6_4) rfl rfl (XS.aloadN X1.here hx rfl (hb hby d6_5) rfl rfl k)) ?_
  obtain ⟨T2, h2, X2, e2, W2, st2⟩ := putF X1 hx hZ hown (host := "") (Or.inl (wk hw 33 rfl)) Via.refl e1 zab E_a1 (Or.inr ⟨(wk hw 34 rfl), rfl, hnm⟩) (wk hw 22 rfl) (ty := (.array .byte)) (by decide) rfl rfl (g := (mkF m 6 #[.val (.ref a1), .val (.ref a2), .val (.int (1 : Int32))] [(.ref a2), (.ref a1)])) rfl rfl (hb hby d6_6)
  refine Go.st st2 ?_
  have N2 := Fr.snoc X2 N0 g_a1
  replace E_a1 := E_a1.wr W2
  replace zaa := zaa.other W2 (Or.inr (slot_ne (a0 := a0) (Or.inr (wk hw 36 rfl)) (Or.inr (wk hw 34 rfl)) (by decide) (t := .byte) (t' := (.array .byte)) (by decide) (by decide)))
  replace K := K.wr W2 (Or.inl (List.mem_of_getElem? (i := 0) rfl))
  replace Zn : n0 ≤ h2.size := by rw [W2.size]; exact Zn
  replace zab := zab.same W2
  refine Go.st (fun t k => XS.aloadN X2.here hx rfl (hb hby d6_9) rfl rfl (XS.iloadN X2.here hx rfl (hb hby d6_10) rfl k)) ?_
  obtain ⟨T3, h3, X3, e3, W3, st3⟩ := putFN X2 hx hZ hown (wk hw 35 rfl) Via.refl e2 zaa E_a1 (Or.inr ⟨(wk hw 36 rfl), rfl, hnm⟩) (wk hw 22 rfl) (ty := .byte) (v' := (.int (1 : Int32))) (by decide) rfl (by decide) (g := (mkF m 11 #[.val (.ref a1), .val (.ref a2), .val (.int (1 : Int32))] [(.int (1 : Int32)), (.ref a1)])) rfl rfl (hb hby d6_11)
  refine Go.st st3 ?_
  have N3 := Fr.snoc X3 N2 g_a1
  replace zab := zab.other W3 (Or.inr (slot_ne (a0 := a0) (Or.inr (wk hw 34 rfl)) (Or.inr (wk hw 36 rfl)) (by decide) (t := (.array .byte)) (t' := .byte) (by decide) (by decide)))
  replace K := K.wr W3 (Or.inl (List.mem_of_getElem? (i := 0) rfl))
  replace Zn : n0 ≤ h3.size := by rw [W3.size]; exact Zn
  replace zaa := zaa.same W3
  show Go p.tables e below PP (T3.setTop (mkF m 14 #[.val (.ref a1), .val (.ref a2), .val (.int (1 : Int32))] []))
  rw [hPP]
  refine endV X3 hx hlk hret (hb hby d6_14) ?_ (by decide) (by decide)
  rw [e3]
  exact ⟨rfl, N3, K, zab, zaa⟩
abbrev r_rm3u : Room := { frames := 2, cells := 2, slots := 6, locals := 55 }
def Q3u (Z : State) (p1 : Int32) (zc : Int32) (h0 : Heap) (n0 : Nat) (v : Option Value) (h : Heap) (L : List Loc) : Prop := ∃ (r : Addr) (t : Addr) (f' : Nat → Int32), v = some (.ref r) ∧ Fr n0 L ∧ Keep h0 h [] ∧ h0.size ≤ r ∧ h0.size ≤ t ∧ Exa Z h r k_14 ∧ Fld Z h r k_14 "coder" "B" (.int (1 : Int32)) ∧ Fld Z h r k_14 "value" "[B" (.ref t) ∧ Afn Z h t .byte (2 : Int32) (fun k => .int (f' k))
theorem rm3u (l : Launch) (Z : State) (a0 : Array Value) (hw : HWt Z a0) (ws : List Jvm.Cond) (p1 : Int32) (zc : Int32) (h0 : Heap) (n0 : Nat) (Z0 : n0 ≤ h0.size) (SC : SS0 Z zc) (hzc : ¬ zc = (0 : Int32)) (O : Old Z n0 h0) (SA : SS2 Z) (SHi : SS3 Z) (SLo : SS4 Z) (hhi : (255 : Int32) < p1) :
    Con l Z y_3 jdk_42_method_139_code 1 (some (.object "java/lang/String")) ws r_rm3u #[(.int p1)] h0 (Q3u Z p1 zc h0 n0) := by
  refine Con.of2 (plainFor_of_name pn_rm18) ?_
  intro p e s m below meth c s₁ hZ e0 X0 hx hby hml hown hnm hret hlk PP hPP
  have N0 := Fr.nil n0
  refine Go.cast (ef_rm20 m p1) ?_
  have K : Keep h0 h0 [] := Keep.refl h0 _
  have Zn : n0 ≤ h0.size := Z0
  obtain ⟨T1, X1, e1, st1⟩ := getS2 X0 hx hZ hown (host := "") (Or.inl (wk hw 16 rfl)) Via.refl e0 (SC.ext O.2) (g := (mkF m 0 #[.val (.int p1)] [])) rfl (hb hby d3_0)
  refine Go.st st1 ?_
  refine Go.st (fun t k => XS.ifNo X1.here hx rfl (hb hby d3_3) rfl (XT.i0_eq_f hzc) (XS.iloadN X1.here hx rfl (hb hby d3_6) rfl k)) ?_
  obtain ⟨v2, T2, L2, X2, hQ2, st2⟩ := callSt X1 hx hZ (y := y_4) (argsL := [(.int p1)]) (rest := []) hown (wk hw 17 rfl) (wk hw 18 rfl) (wk hw 19 rfl) (wk hw 20 rfl) (by decide) (rm4 l Z a0 hw [] p1 h0 n0 Zn) e1 0 (by decide) (by decide) (by decide) (by decide) (g := (mkF m 7 #[.val (.int p1)] [(.int p1)])) rfl (by rw [hml]; rfl) (lenOf pd_6 rfl) rfl (Nat.le_of_eq rfl) (hb hby d3_7)
  obtain ⟨rfl, rfl, e2⟩ := hQ2
  rw [List.append_nil] at X2
  refine Go.st st2 ?_
  refine Go.st (fun t k => XS.ifYes X2.here hx rfl (pc0 := 10) (pc' := 26) rfl (hb hby d3_10) rfl (XT.i0_eq_t (bi_f (fun z => z hhi))) (by decide) (by decide) k) ?_
  obtain ⟨T3, h3, X3, e3, E3, A3, D3, U3, st3⟩ := newO X2 hx hZ hown (wk hw 21 rfl) (wk hw 22 rfl) (wk hw 14 rfl) e2 (g := (mkF m 26 #[.val (.int p1)] [])) rfl (hb hby d3_26) (by decide) (by decide)
  obtain ⟨b3, gz3⟩ : ∃ z, z = h0.size := ⟨_, rfl⟩
  rw [← gz3] at A3 D3 U3 st3
  have g_b3 : n0 ≤ b3 := Nat.le_trans Zn (Nat.le_of_eq gz3.symm)
  have zet : h0.size ≤ b3 := Nat.le_trans K.1 (Nat.le_of_eq gz3.symm)
  refine Go.st st3 ?_
  replace O := O.ext E3
  replace K := K.ext E3
  replace Zn := Nat.le_trans Zn E3.1
  have E_b3 := A3
  have zdy : Fld Z h3 b3 k_14 "value" "[B" .null := D3 (Or.inr (wk hw 34 rfl)) (ty := (.array .byte)) (by decide)
  have zdz : Fld Z h3 b3 k_14 "coder" "B" (.int (0 : Int32)) := D3 (Or.inr (wk hw 36 rfl)) (ty := .byte) (by decide)
  refine Go.st (fun t k => XS.dup X3.here hx rfl (hb hby d3_29) rfl rfl (XS.iloadN X3.here hx rfl (hb hby d3_30) rfl k)) ?_
  obtain ⟨v4, T4, L4, X4, hQ4, st4⟩ := callSt X3 hx hZ (y := y_76) (argsL := [(.int p1)]) (rest := [(.ref b3), (.ref b3)]) hown (wk hw 407 rfl) (wk hw 408 rfl) (wk hw 409 rfl) (wk hw 410 rfl) (by decide) (rm76 l Z a0 hw [] p1 h3 n0 Zn SA SHi SLo O) e3 2 (by decide) (by decide) (by decide) (by decide) (g := (mkF m 31 #[.val (.int p1)] [(.int p1), (.ref b3), (.ref b3)])) rfl (by rw [hml]; rfl) (lenOf pd_7 rfl) rfl (Nat.le_of_eq rfl) (hb hby d3_31)
  obtain ⟨h4, e4⟩ : ∃ z, T4.heap = z := ⟨_, rfl⟩
  rw [e4] at hQ4
  obtain ⟨t_4, fx_4, rfl, Nq4, Kq4, zea, zaw⟩ := hQ4
  have N4 := Fr.app N0 Nq4
  have zeo : b3 ≠ t_4 := Nat.ne_of_lt (Nat.lt_of_lt_of_le E_b3.lt zea)
  have zfu : h0.size ≤ t_4 := Nat.le_trans K.1 zea
  replace E_b3 := E_b3.keep Kq4
  replace zdy := zdy.keep Kq4 nin0
  replace zdz := zdz.keep Kq4 nin0
  replace O := O.keep Kq4 all0
  replace K := K.trans Kq4 all0
  replace Zn := Nat.le_trans Zn Kq4.1
  refine Go.st st4 ?_
  refine Go.st (fun t k => XS.iconst X4.here hx rfl (hb hby d3_34) k) ?_
  obtain ⟨v5, T5, L5, X5, hQ5, st5⟩ := callIn X4 hx hZ (y := y_6) (a := b3) (argsL := [(.ref t_4), (.int (1 : Int32))]) (rest := [(.ref b3)]) rfl hown (wk hw 26 rfl) (wk hw 27 rfl) (wk hw 14 rfl) (wk hw 29 rfl) (by decide) (rm6u l Z a0 hw [] b3 t_4 h4 n0 Zn E_b3 zdy zdz g_b3) e4 1 (by decide) (by decide) (by decide) (by decide) (g := (mkF m 35 #[.val (.int p1)] [(.int (1 : Int32)), (.ref t_4), (.ref b3), (.ref b3)])) rfl (by rw [hml]; rfl) (lenOf pd_8 rfl) rfl (Nat.le_of_eq rfl) (hb hby d3_35)
  obtain ⟨h5, e5⟩ : ∃ z, T5.heap = z := ⟨_, rfl⟩
  rw [e5] at hQ5
  obtain ⟨rfl, Nq5, Kq5, zan, zay⟩ := hQ5
  have N5 := Fr.app N4 Nq5
  replace E_b3 := E_b3.keep Kq5
  replace zaw := zaw.keep Kq5 (ninS (Ne.symm zeo) nin0)
  replace O := O.keep Kq5 (allS g_b3 all0)
  replace K := K.trans Kq5 (allS (Or.inr zet) all0)
  replace Zn := Nat.le_trans Zn Kq5.1
  refine Go.st st5 ?_
  show Go p.tables e below PP (T5.setTop (mkF m 38 #[.val (.int p1)] [(.ref b3)]))
  rw [hPP]
  refine endR X5 hx hlk hret rfl rfl (hb hby d3_38) ?_ (by decide) (by decide)
  rw [e5]
  exact ⟨b3, t_4, fx_4, rfl, N5, K, zet, zfu, E_b3, zay, zan, zaw⟩
abbrev b_84 : ByteArray := jdk_52_method_6_code
theorem d84_0 : dk b_84 0 (.aload_n 0) 1 := by decide +kernel
theorem d84_1 : dk b_84 1 (.arraylength) 1 := by decide +kernel
theorem d84_2 : dk b_84 2 (.iconst 1) 1 := by decide +kernel
theorem d84_3 : dk b_84 3 (.ishr) 1 := by decide +kernel
theorem d84_4 : dk b_84 4 (.ireturn) 1 := by decide +kernel
abbrev r_rm84_68 : Room := { frames := 0, cells := 0, slots := 0, locals := 0 }
def Q84_68 (Z : State) (a1 : Addr) (f1 : Nat → Int32) (h0 : Heap) (n0 : Nat) (v : Option Value) (h : Heap) (L : List Loc) : Prop := v = some (.int (34 : Int32)) ∧ L = [] ∧ h = h0
theorem rm84_68 (l : Launch) (Z : State) (a0 : Array Value) (hw : HWt Z a0) (ws : List Jvm.Cond) (a1 : Addr) (f1 : Nat → Int32) (h0 : Heap) (n0 : Nat) (Z0 : n0 ≤ h0.size) (V_a1 : Afn Z h0 a1 .byte (68 : Int32) (fun k => .int (f1 k))) :
    Con l Z y_84 jdk_52_method_6_code 1 (some .int) ws r_rm84_68 #[(.ref a1)] h0 (Q84_68 Z a1 f1 h0 n0) := by
  refine Con.of2 (plainFor_of_name pn_rm77) ?_
  intro p e s m below meth c s₁ hZ e0 X0 hx hby hml hown hnm hret hlk PP hPP
  have N0 := Fr.nil n0
  refine Go.cast (ef_rm18 m a1) ?_
  have Zn : n0 ≤ h0.size := Z0
  show Go p.tables e below PP (s₁.setTop (mkF m 0 #[.val (.ref a1)] []))
  refine Go.st (fun t k => XS.aloadN X0.here hx rfl (hb hby d84_0) rfl rfl k) ?_
  obtain ⟨cl1, Ar1, S1, Nn1, -⟩ := id V_a1
  refine Go.st (fun t k => X0.arraylength hx (by rw [e0]; exact Ar1.1) (State.isArrayOf_alike hZ.alike Ar1.2.1) (g := (mkF m 1 #[.val (.ref a1)] [(.ref a1)])) rfl rfl (hb hby d84_1) _ k) ?_
  rw [len_of S1 Nn1]
  refine Go.st (fun t k => XS.iconst X0.here hx rfl (hb hby d84_2) k) ?_
  show Go p.tables e below PP (s₁.setTop (mkF m 3 #[.val (.ref a1)] [(.int (1 : Int32)), (.int (68 : Int32))]))
  refine Go.st (fun t k => XS.ishr X0.here hx rfl (hb hby d84_3) rfl k) ?_
  show Go p.tables e below PP (s₁.setTop (mkF m 4 #[.val (.ref a1)] [(.int ((68 : Int32) >>> ((1 : Int32) &&& 31)))]))
  rw [show ((68 : Int32) >>> ((1 : Int32) &&& 31)) = (34 : Int32) from by decide]
  show Go p.tables e below PP (s₁.setTop (mkF m 4 #[.val (.ref a1)] [(.int (34 : Int32))]))
  rw [hPP]
  refine endI X0 hx hlk hret (hb hby d84_4) ?_ (by decide) (by decide)
  rw [e0]
  exact ⟨rfl, rfl, rfl⟩
abbrev r_rm84_2 : Room := { frames := 0, cells := 0, slots := 0, locals := 0 }
def Q84_2 (Z : State) (a1 : Addr) (f1 : Nat → Int32) (h0 : Heap) (n0 : Nat) (v : Option Value) (h : Heap) (L : List Loc) : Prop := v = some (.int (1 : Int32)) ∧ L = [] ∧ h = h0
theorem rm84_2 (l : Launch) (Z : State) (a0 : Array Value) (hw : HWt Z a0) (ws : List Jvm.Cond) (a1 : Addr) (f1 : Nat → Int32) (h0 : Heap) (n0 : Nat) (Z0 : n0 ≤ h0.size) (V_a1 : Afn Z h0 a1 .byte (2 : Int32) (fun k => .int (f1 k))) :
    Con l Z y_84 jdk_52_method_6_code 1 (some .int) ws r_rm84_2 #[(.ref a1)] h0 (Q84_2 Z a1 f1 h0 n0) := by
  refine Con.of2 (plainFor_of_name pn_rm77) ?_
  intro p e s m below meth c s₁ hZ e0 X0 hx hby hml hown hnm hret hlk PP hPP
  have N0 := Fr.nil n0
  refine Go.cast (ef_rm18 m a1) ?_
  have Zn : n0 ≤ h0.size := Z0
  show Go p.tables e below PP (s₁.setTop (mkF m 0 #[.val (.ref a1)] []))
  refine Go.st (fun t k => XS.aloadN X0.here hx rfl (hb hby d84_0) rfl rfl k) ?_
  obtain ⟨cl1, Ar1, S1, Nn1, -⟩ := id V_a1
  refine Go.st (fun t k => X0.arraylength hx (by rw [e0]; exact Ar1.1) (State.isArrayOf_alike hZ.alike Ar1.2.1) (g := (mkF m 1 #[.val (.ref a1)] [(.ref a1)])) rfl rfl (hb hby d84_1) _ k) ?_
  rw [len_of S1 Nn1]
  refine Go.st (fun t k => XS.iconst X0.here hx rfl (hb hby d84_2) k) ?_
  show Go p.tables e below PP (s₁.setTop (mkF m 3 #[.val (.ref a1)] [(.int (1 : Int32)), (.int (2 : Int32))]))
  refine Go.st (fun t k => XS.ishr X0.here hx rfl (hb hby d84_3) rfl k) ?_
  show Go p.tables e below PP (s₁.setTop (mkF m 4 #[.val (.ref a1)] [(.int ((2 : Int32) >>> ((1 : Int32) &&& 31)))]))
  rw [show ((2 : Int32) >>> ((1 : Int32) &&& 31)) = (1 : Int32) from by decide]
  show Go p.tables e below PP (s₁.setTop (mkF m 4 #[.val (.ref a1)] [(.int (1 : Int32))]))
  rw [hPP]
  refine endI X0 hx hlk hret (hb hby d84_4) ?_ (by decide) (by decide)
  rw [e0]
  exact ⟨rfl, rfl, rfl⟩
abbrev b_73 : ByteArray := jdk_41_method_13_code
theorem d73_0 : dk b_73 0 (.iload_n 2) 1 := by decide +kernel
theorem d73_1 : dk b_73 1 (.iload_n 0) 1 := by decide +kernel
theorem d73_2 : dk b_73 2 (.ior) 1 := by decide +kernel
theorem d73_3 : dk b_73 3 (.iload_n 1) 1 := by decide +kernel
theorem d73_4 : dk b_73 4 (.ior) 1 := by decide +kernel
theorem d73_5 : dk b_73 5 (.ifCond .lt 10) 3 := by decide +kernel
theorem d73_8 : dk b_73 8 (.iload_n 1) 1 := by decide +kernel
theorem d73_9 : dk b_73 9 (.iload_n 2) 1 := by decide +kernel
theorem d73_10 : dk b_73 10 (.iload_n 0) 1 := by decide +kernel
theorem d73_11 : dk b_73 11 (.isub) 1 := by decide +kernel
theorem d73_12 : dk b_73 12 (.if_icmp .le 11) 3 := by decide +kernel
theorem d73_23 : dk b_73 23 (.iload_n 0) 1 := by decide +kernel
theorem d73_24 : dk b_73 24 (.ireturn) 1 := by decide +kernel
abbrev r_rm73 : Room := { frames := 0, cells := 0, slots := 0, locals := 0 }
theorem ef_rm73 (m : MethodId) (sv : Value) (hr_sv : sv.isRef = true) : entryFrame m #[(.int (0 : Int32)), (.int (20 : Int32)), (.int (34 : Int32)), sv] 4 = mkF m 0 #[.val (.int (0 : Int32)), .val (.int (20 : Int32)), .val (.int (34 : Int32)), .val sv] [] := by cases sv <;> first | (simp [entryFrame, mkF, argsToLocals, Value.category]; done) | rfl | (simp [Value.isRef] at hr_sv; done)
def Q73 (Z : State) (sv : Value) (h0 : Heap) (n0 : Nat) (v : Option Value) (h : Heap) (L : List Loc) : Prop := v = some (.int (0 : Int32)) ∧ L = [] ∧ h = h0
theorem rm73 (l : Launch) (Z : State) (a0 : Array Value) (hw : HWt Z a0) (ws : List Jvm.Cond) (sv : Value) (h0 : Heap) (n0 : Nat) (Z0 : n0 ≤ h0.size) (hr_sv : sv.isRef = true) :
    Con l Z y_73 jdk_41_method_13_code 4 (some .int) ws r_rm73 #[(.int (0 : Int32)), (.int (20 : Int32)), (.int (34 : Int32)), sv] h0 (Q73 Z sv h0 n0) := by
  refine Con.of2 (plainFor_of_name pn_rm66) ?_
  intro p e s m below meth c s₁ hZ e0 X0 hx hby hml hown hnm hret hlk PP hPP
  have N0 := Fr.nil n0
  refine Go.cast (ef_rm73 m sv hr_sv) ?_
  have Zn : n0 ≤ h0.size := Z0
  show Go p.tables e below PP (s₁.setTop (mkF m 0 #[.val (.int (0 : Int32)), .val (.int (20 : Int32)), .val (.int (34 : Int32)), .val sv] []))
  refine Go.st (fun t k => XS.iloadN X0.here hx rfl (hb hby d73_0) rfl (XS.iloadN X0.here hx rfl (hb hby d73_1) rfl (XS.ior X0.here hx rfl (hb hby d73_2) rfl k))) ?_
  show Go p.tables e below PP (s₁.setTop (mkF m 3 #[.val (.int (0 : Int32)), .val (.int (20 : Int32)), .val (.int (34 : Int32)), .val sv] [(.int (34 : Int32))]))
  refine Go.st (fun t k => XS.iloadN X0.here hx rfl (hb hby d73_3) rfl (XS.ior X0.here hx rfl (hb hby d73_4) rfl k)) ?_
  show Go p.tables e below PP (s₁.setTop (mkF m 5 #[.val (.int (0 : Int32)), .val (.int (20 : Int32)), .val (.int (34 : Int32)), .val sv] [(.int (54 : Int32))]))
  refine Go.st (fun t k => XS.ifNo X0.here hx rfl (hb hby d73_5) rfl (XT.i0_lt_f (by decide)) (XS.iloadN X0.here hx rfl (hb hby d73_8) rfl (XS.iloadN X0.here hx rfl (hb hby d73_9) rfl (XS.iloadN X0.here hx rfl (hb hby d73_10) rfl (XS.isub X0.here hx rfl (hb hby d73_11) rfl k))))) ?_
  show Go p.tables e below PP (s₁.setTop (mkF m 12 #[.val (.int (0 : Int32)), .val (.int (20 : Int32)), .val (.int (34 : Int32)), .val sv] [(.int (34 : Int32)), (.int (20 : Int32))]))
  refine Go.st (fun t k => XS.icmpYes X0.here hx rfl (pc0 := 12) (pc' := 23) rfl (hb hby d73_12) rfl (XT.ii_le_t (by decide)) (by decide) (by decide) (XS.iloadN X0.here hx rfl (hb hby d73_23) rfl k)) ?_
  show Go p.tables e below PP (s₁.setTop (mkF m 24 #[.val (.int (0 : Int32)), .val (.int (20 : Int32)), .val (.int (34 : Int32)), .val sv] [(.int (0 : Int32))]))
  rw [hPP]
  refine endI X0 hx hlk hret (hb hby d73_24) ?_ (by decide) (by decide)
  rw [e0]
  exact ⟨rfl, rfl, rfl⟩
abbrev r_rm73n : Room := { frames := 0, cells := 0, slots := 0, locals := 0 }
theorem ef_rm73n (m : MethodId) (p2 : Int32) : entryFrame m #[(.int (0 : Int32)), (.int p2), (.int p2), .null] 4 = mkF m 0 #[.val (.int (0 : Int32)), .val (.int p2), .val (.int p2), .val .null] [] := by first | (simp [entryFrame, mkF, argsToLocals, Value.category]; done) | rfl
def Q73n (Z : State) (p2 : Int32) (h0 : Heap) (n0 : Nat) (v : Option Value) (h : Heap) (L : List Loc) : Prop := v = some (.int (0 : Int32)) ∧ L = [] ∧ h = h0
theorem rm73n (l : Launch) (Z : State) (a0 : Array Value) (hw : HWt Z a0) (ws : List Jvm.Cond) (p2 : Int32) (h0 : Heap) (n0 : Nat) (Z0 : n0 ≤ h0.size) (hn : N4 p2) :
    Con l Z y_73 jdk_41_method_13_code 4 (some .int) ws r_rm73n #[(.int (0 : Int32)), (.int p2), (.int p2), .null] h0 (Q73n Z p2 h0 n0) := by
  refine Con.of2 (plainFor_of_name pn_rm66) ?_
  intro p e s m below meth c s₁ hZ e0 X0 hx hby hml hown hnm hret hlk PP hPP
  have N0 := Fr.nil n0
  refine Go.cast (ef_rm73n m p2) ?_
  have Zn : n0 ≤ h0.size := Z0
  show Go p.tables e below PP (s₁.setTop (mkF m 0 #[.val (.int (0 : Int32)), .val (.int p2), .val (.int p2), .val .null] []))
  refine Go.st (fun t k => XS.iloadN X0.here hx rfl (hb hby d73_0) rfl (XS.iloadN X0.here hx rfl (hb hby d73_1) rfl (XS.ior X0.here hx rfl (hb hby d73_2) rfl (XS.iloadN X0.here hx rfl (hb hby d73_3) rfl (XS.ior X0.here hx rfl (hb hby d73_4) rfl (XS.ifNo X0.here hx rfl (hb hby d73_5) rfl (XT.i0_lt_f (own_n4c hn).1) (XS.iloadN X0.here hx rfl (hb hby d73_8) rfl (XS.iloadN X0.here hx rfl (hb hby d73_9) rfl (XS.iloadN X0.here hx rfl (hb hby d73_10) rfl (XS.isub X0.here hx rfl (hb hby d73_11) rfl k)))))))))) ?_
  show Go p.tables e below PP (s₁.setTop (mkF m 12 #[.val (.int (0 : Int32)), .val (.int p2), .val (.int p2), .val .null] [(.int (p2 - (0 : Int32))), (.int p2)]))
  refine Go.st (fun t k => XS.icmpYes X0.here hx rfl (pc0 := 12) (pc' := 23) rfl (hb hby d73_12) rfl (XT.ii_le_t (own_n4c hn).2) (by decide) (by decide) (XS.iloadN X0.here hx rfl (hb hby d73_23) rfl k)) ?_
  show Go p.tables e below PP (s₁.setTop (mkF m 24 #[.val (.int (0 : Int32)), .val (.int p2), .val (.int p2), .val .null] [(.int (0 : Int32))]))
  rw [hPP]
  refine endI X0 hx hlk hret (hb hby d73_24) ?_ (by decide) (by decide)
  rw [e0]
  exact ⟨rfl, rfl, rfl⟩
abbrev b_72 : ByteArray := jdk_31_method_19_code
theorem d72_0 : dk b_72 0 (.iload_n 0) 1 := by decide +kernel
theorem d72_1 : dk b_72 1 (.iload_n 1) 1 := by decide +kernel
theorem d72_2 : dk b_72 2 (.iload_n 2) 1 := by decide +kernel
theorem d72_3 : dk b_72 3 (.aconst_null) 1 := by decide +kernel
theorem d72_4 : dk b_72 4 (.invokestatic 115) 3 := by decide +kernel
theorem d72_7 : dk b_72 7 (.ireturn) 1 := by decide +kernel
abbrev r_rm72 : Room := { frames := 1, cells := 0, slots := 0, locals := 15 }
theorem ef_rm72 (m : MethodId) (p2 : Int32) : entryFrame m #[(.int (0 : Int32)), (.int p2), (.int p2)] 3 = mkF m 0 #[.val (.int (0 : Int32)), .val (.int p2), .val (.int p2)] [] := by first | (simp [entryFrame, mkF, argsToLocals, Value.category]; done) | rfl
def Q72 (Z : State) (p2 : Int32) (h0 : Heap) (n0 : Nat) (v : Option Value) (h : Heap) (L : List Loc) : Prop := v = some (.int (0 : Int32)) ∧ L = [] ∧ h = h0
theorem pd_14 : parseMethodDescriptor "(IIILjava/util/function/BiFunction;)I" = some ⟨[.int, .int, .int, (.object "java/util/function/BiFunction")], some .int⟩ := by decide +kernel
theorem rm72 (l : Launch) (Z : State) (a0 : Array Value) (hw : HWt Z a0) (ws : List Jvm.Cond) (p2 : Int32) (h0 : Heap) (n0 : Nat) (Z0 : n0 ≤ h0.size) (hn : N4 p2) :
    Con l Z y_72 jdk_31_method_19_code 3 (some .int) ws r_rm72 #[(.int (0 : Int32)), (.int p2), (.int p2)] h0 (Q72 Z p2 h0 n0) := by
  refine Con.of2 (plainFor_of_name pn_rm12) ?_
  intro p e s m below meth c s₁ hZ e0 X0 hx hby hml hown hnm hret hlk PP hPP
  have N0 := Fr.nil n0
  refine Go.cast (ef_rm72 m p2) ?_
  have Zn : n0 ≤ h0.size := Z0
  show Go p.tables e below PP (s₁.setTop (mkF m 0 #[.val (.int (0 : Int32)), .val (.int p2), .val (.int p2)] []))
  refine Go.st (fun t k => XS.iloadN X0.here hx rfl (hb hby d72_0) rfl (XS.iloadN X0.here hx rfl (hb hby d72_1) rfl (XS.iloadN X0.here hx rfl (hb hby d72_2) rfl (XS.aconstNull X0.here hx rfl (hb hby d72_3) k)))) ?_
  obtain ⟨v1, T1, L1, X1, hQ1, st1⟩ := callSt X0 hx hZ (y := y_73) (argsL := [(.int (0 : Int32)), (.int p2), (.int p2), .null]) (rest := []) hown (wk hw 392 rfl) (wk hw 393 rfl) (wk hw 248 rfl) (wk hw 394 rfl) (by decide) (rm73n l Z a0 hw [] p2 h0 n0 Zn hn) e0 0 (by decide) (by decide) (by decide) (by decide) (g := (mkF m 4 #[.val (.int (0 : Int32)), .val (.int p2), .val (.int p2)] [.null, (.int p2), (.int p2), (.int (0 : Int32))])) rfl (by rw [hml]; rfl) (lenOf pd_14 rfl) rfl (Nat.le_of_eq rfl) (hb hby d72_4)
  obtain ⟨rfl, rfl, e1⟩ := hQ1
  rw [List.append_nil] at X1
  refine Go.st st1 ?_
  show Go p.tables e below PP (T1.setTop (mkF m 7 #[.val (.int (0 : Int32)), .val (.int p2), .val (.int p2)] [(.int (0 : Int32))]))
  rw [hPP]
  refine endI X1 hx hlk hret (hb hby d72_7) ?_ (by decide) (by decide)
  rw [e1]
  exact ⟨rfl, rfl, rfl⟩
abbrev b_85 : ByteArray := jdk_42_method_157_code
theorem d85_0 : dk b_85 0 (.iload_n 0) 1 := by decide +kernel
theorem d85_1 : dk b_85 1 (.iload_n 1) 1 := by decide +kernel
theorem d85_2 : dk b_85 2 (.iload_n 2) 1 := by decide +kernel
theorem d85_3 : dk b_85 3 (.getstatic 1053) 3 := by decide +kernel
theorem d85_6 : dk b_85 6 (.invokestatic 1065) 3 := by decide +kernel
theorem d85_9 : dk b_85 9 (.ireturn) 1 := by decide +kernel
abbrev r_rm85 : Room := { frames := 1, cells := 0, slots := 0, locals := 15 }
theorem ef_rm85 (m : MethodId)  : entryFrame m #[(.int (0 : Int32)), (.int (20 : Int32)), (.int (34 : Int32))] 3 = mkF m 0 #[.val (.int (0 : Int32)), .val (.int (20 : Int32)), .val (.int (34 : Int32))] [] := by first | (simp [entryFrame, mkF, argsToLocals, Value.category]; done) | rfl
def Q85 (Z : State) (sv : Value) (h0 : Heap) (n0 : Nat) (v : Option Value) (h : Heap) (L : List Loc) : Prop := v = some (.int (0 : Int32)) ∧ L = [] ∧ h = h0
theorem rm85 (l : Launch) (Z : State) (a0 : Array Value) (hw : HWt Z a0) (ws : List Jvm.Cond) (sv : Value) (h0 : Heap) (n0 : Nat) (Z0 : n0 ≤ h0.size) (SV : SS1 Z sv) (hr_sv : sv.isRef = true) (O : Old Z n0 h0) :
    Con l Z y_85 jdk_42_method_157_code 3 (some .int) ws r_rm85 #[(.int (0 : Int32)), (.int (20 : Int32)), (.int (34 : Int32))] h0 (Q85 Z sv h0 n0) := by
  refine Con.of2 (plainFor_of_name pn_rm18) ?_
  intro p e s m below meth c s₁ hZ e0 X0 hx hby hml hown hnm hret hlk PP hPP
  have N0 := Fr.nil n0
  refine Go.cast (ef_rm85 m ) ?_
  have Zn : n0 ≤ h0.size := Z0
  show Go p.tables e below PP (s₁.setTop (mkF m 0 #[.val (.int (0 : Int32)), .val (.int (20 : Int32)), .val (.int (34 : Int32))] []))
  refine Go.st (fun t k => XS.iloadN X0.here hx rfl (hb hby d85_0) rfl (XS.iloadN X0.here hx rfl (hb hby d85_1) rfl (XS.iloadN X0.here hx rfl (hb hby d85_2) rfl k))) ?_
  obtain ⟨T1, X1, e1, st1⟩ := getS2 X0 hx hZ hown (host := "") (Or.inl (wk hw 360 rfl)) Via.refl e0 (SV.ext O.2) (g := (mkF m 3 #[.val (.int (0 : Int32)), .val (.int (20 : Int32)), .val (.int (34 : Int32))] [(.int (34 : Int32)), (.int (20 : Int32)), (.int (0 : Int32))])) rfl (hb hby d85_3)
  refine Go.st st1 ?_
  obtain ⟨v2, T2, L2, X2, hQ2, st2⟩ := callSt X1 hx hZ (y := y_73) (argsL := [(.int (0 : Int32)), (.int (20 : Int32)), (.int (34 : Int32)), sv]) (rest := []) hown (wk hw 445 rfl) (wk hw 393 rfl) (wk hw 248 rfl) (wk hw 394 rfl) (by decide) (rm73 l Z a0 hw [] sv h0 n0 Zn hr_sv) e1 0 (by decide) (by decide) (by decide) (by decide) (g := (mkF m 6 #[.val (.int (0 : Int32)), .val (.int (20 : Int32)), .val (.int (34 : Int32))] [sv, (.int (34 : Int32)), (.int (20 : Int32)), (.int (0 : Int32))])) rfl (by rw [hml]; rfl) (lenOf pd_14 rfl) rfl (Nat.le_of_eq rfl) (hb hby d85_6)
  obtain ⟨rfl, rfl, e2⟩ := hQ2
  rw [List.append_nil] at X2
  refine Go.st st2 ?_
  show Go p.tables e below PP (T2.setTop (mkF m 9 #[.val (.int (0 : Int32)), .val (.int (20 : Int32)), .val (.int (34 : Int32))] [(.int (0 : Int32))]))
  rw [hPP]
  refine endI X2 hx hlk hret (hb hby d85_9) ?_ (by decide) (by decide)
  rw [e2]
  exact ⟨rfl, rfl, rfl⟩
abbrev b_83 : ByteArray := jdk_52_method_94_code
theorem d83_0 : dk b_83 0 (.iload_n 0) 1 := by decide +kernel
theorem d83_1 : dk b_83 1 (.iload_n 1) 1 := by decide +kernel
theorem d83_2 : dk b_83 2 (.aload_n 2) 1 := by decide +kernel
theorem d83_3 : dk b_83 3 (.invokestatic 48) 3 := by decide +kernel
theorem d83_6 : dk b_83 6 (.invokestatic 419) 3 := by decide +kernel
theorem d83_9 : dk b_83 9 (.pop) 1 := by decide +kernel
theorem d83_10 : dk b_83 10 (.return_) 1 := by decide +kernel
abbrev r_rm83 : Room := { frames := 2, cells := 0, slots := 0, locals := 29 }
theorem ef_rm83 (m : MethodId) (a3 : Addr) : entryFrame m #[(.int (0 : Int32)), (.int (20 : Int32)), (.ref a3)] 3 = mkF m 0 #[.val (.int (0 : Int32)), .val (.int (20 : Int32)), .val (.ref a3)] [] := by first | (simp [entryFrame, mkF, argsToLocals, Value.category]; done) | rfl
def Q83 (Z : State) (a3 : Addr) (f3 : Nat → Int32) (sv : Value) (h0 : Heap) (n0 : Nat) (v : Option Value) (h : Heap) (L : List Loc) : Prop := v = none ∧ L = [] ∧ h = h0
theorem pd_15 : parseMethodDescriptor "([B)I" = some ⟨[(.array .byte)], some .int⟩ := by decide +kernel
theorem pd_16 : parseMethodDescriptor "(III)I" = some ⟨[.int, .int, .int], some .int⟩ := by decide +kernel
theorem rm83 (l : Launch) (Z : State) (a0 : Array Value) (hw : HWt Z a0) (ws : List Jvm.Cond) (a3 : Addr) (f3 : Nat → Int32) (sv : Value) (h0 : Heap) (n0 : Nat) (Z0 : n0 ≤ h0.size) (V_a3 : Afn Z h0 a3 .byte (68 : Int32) (fun k => .int (f3 k))) (SV : SS1 Z sv) (hr_sv : sv.isRef = true) (O : Old Z n0 h0) :
    Con l Z y_83 jdk_52_method_94_code 3 none ws r_rm83 #[(.int (0 : Int32)), (.int (20 : Int32)), (.ref a3)] h0 (Q83 Z a3 f3 sv h0 n0) := by
  refine Con.of2 (plainFor_of_name pn_rm77) ?_
  intro p e s m below meth c s₁ hZ e0 X0 hx hby hml hown hnm hret hlk PP hPP
  have N0 := Fr.nil n0
  refine Go.cast (ef_rm83 m a3) ?_
  have Zn : n0 ≤ h0.size := Z0
  show Go p.tables e below PP (s₁.setTop (mkF m 0 #[.val (.int (0 : Int32)), .val (.int (20 : Int32)), .val (.ref a3)] []))
  refine Go.st (fun t k => XS.iloadN X0.here hx rfl (hb hby d83_0) rfl (XS.iloadN X0.here hx rfl (hb hby d83_1) rfl (XS.aloadN X0.here hx rfl (hb hby d83_2) rfl rfl k))) ?_
  obtain ⟨v1, T1, L1, X1, hQ1, st1⟩ := callSt X0 hx hZ (y := y_84) (argsL := [(.ref a3)]) (rest := [(.int (20 : Int32)), (.int (0 : Int32))]) hown (wk hw 439 rfl) (wk hw 440 rfl) (wk hw 409 rfl) (wk hw 441 rfl) (by decide) (rm84_68 l Z a0 hw [] a3 f3 h0 n0 Zn V_a3) e0 2 (by decide) (by decide) (by decide) (by decide) (g := (mkF m 3 #[.val (.int (0 : Int32)), .val (.int (20 : Int32)), .val (.ref a3)] [(.ref a3), (.int (20 : Int32)), (.int (0 : Int32))])) rfl (by rw [hml]; rfl) (lenOf pd_15 rfl) rfl (Nat.le_of_eq rfl) (hb hby d83_3)
  obtain ⟨rfl, rfl, e1⟩ := hQ1
  rw [List.append_nil] at X1
  refine Go.st st1 ?_
  obtain ⟨v2, T2, L2, X2, hQ2, st2⟩ := callSt X1 hx hZ (y := y_85) (argsL := [(.int (0 : Int32)), (.int (20 : Int32)), (.int (34 : Int32))]) (rest := []) hown (wk hw 442 rfl) (wk hw 443 rfl) (wk hw 14 rfl) (wk hw 444 rfl) (by decide) (rm85 l Z a0 hw [] sv h0 n0 Zn SV hr_sv O) e1 0 (by decide) (by decide) (by decide) (by decide) (g := (mkF m 6 #[.val (.int (0 : Int32)), .val (.int (20 : Int32)), .val (.ref a3)] [(.int (34 : Int32)), (.int (20 : Int32)), (.int (0 : Int32))])) rfl (by rw [hml]; rfl) (lenOf pd_16 rfl) rfl (Nat.le_of_eq rfl) (hb hby d83_6)
  obtain ⟨rfl, rfl, e2⟩ := hQ2
  rw [List.append_nil] at X2
  refine Go.st st2 ?_
  refine Go.st (fun t k => XS.pop X2.here hx rfl (hb hby d83_9) rfl rfl k) ?_
  show Go p.tables e below PP (T2.setTop (mkF m 10 #[.val (.int (0 : Int32)), .val (.int (20 : Int32)), .val (.ref a3)] []))
  rw [hPP]
  refine endV X2 hx hlk hret (hb hby d83_10) ?_ (by decide) (by decide)
  rw [e2]
  exact ⟨rfl, rfl, rfl⟩
abbrev b_82 : ByteArray := jdk_52_method_86_code
theorem d82_0 : dk b_82 0 (.iload_n 3) 1 := by decide +kernel
theorem d82_1 : dk b_82 1 (.iload 4) 2 := by decide +kernel
theorem d82_3 : dk b_82 3 (.aload_n 2) 1 := by decide +kernel
theorem d82_4 : dk b_82 4 (.invokestatic 173) 3 := by decide +kernel
theorem d82_7 : dk b_82 7 (.iconst 0) 1 := by decide +kernel
theorem d82_8 : dk b_82 8 (.istore 5) 2 := by decide +kernel
theorem d82_10 : dk b_82 10 (.iload 5) 2 := by decide +kernel
theorem d82_12 : dk b_82 12 (.iload 4) 2 := by decide +kernel
theorem d82_14 : dk b_82 14 (.if_icmp .ge 27) 3 := by decide +kernel
theorem d82_17 : dk b_82 17 (.aload_n 2) 1 := by decide +kernel
theorem d82_18 : dk b_82 18 (.iload_n 3) 1 := by decide +kernel
theorem d82_19 : dk b_82 19 (.iinc 3 1) 3 := by decide +kernel
theorem d82_22 : dk b_82 22 (.aload_n 0) 1 := by decide +kernel
theorem d82_23 : dk b_82 23 (.iload_n 1) 1 := by decide +kernel
theorem d82_24 : dk b_82 24 (.iinc 1 1) 3 := by decide +kernel
theorem d82_27 : dk b_82 27 (.baload) 1 := by decide +kernel
theorem d82_28 : dk b_82 28 (.sipush 255) 3 := by decide +kernel
theorem d82_31 : dk b_82 31 (.iand) 1 := by decide +kernel
theorem d82_32 : dk b_82 32 (.invokestatic 111) 3 := by decide +kernel
theorem d82_35 : dk b_82 35 (.iinc 5 1) 3 := by decide +kernel
theorem d82_38 : dk b_82 38 (.goto (-28)) 3 := by decide +kernel
theorem d82_41 : dk b_82 41 (.return_) 1 := by decide +kernel
abbrev r_rm82 : Room := { frames := 3, cells := 0, slots := 0, locals := 43 }
theorem ef_rm82 (m : MethodId) (a1 : Addr) (a3 : Addr) : entryFrame m #[(.ref a1), (.int (0 : Int32)), (.ref a3), (.int (0 : Int32)), (.int (20 : Int32))] 6 = mkF m 0 #[.val (.ref a1), .val (.int (0 : Int32)), .val (.ref a3), .val (.int (0 : Int32)), .val (.int (20 : Int32)), .unset] [] := by first | (simp [entryFrame, mkF, argsToLocals, Value.category]; done) | rfl
def Q82 (Z : State) (a1 : Addr) (a3 : Addr) (f1 : Nat → Int32) (f3 : Nat → Int32) (sv : Value) (h0 : Heap) (n0 : Nat) (v : Option Value) (h : Heap) (L : List Loc) : Prop := ∃ (f' : Nat → Int32), v = none ∧ Fr n0 L ∧ Keep h0 h [a3] ∧ Afn Z h a3 .byte (68 : Int32) (fun k => .int (f' k)) ∧ ∀ j, j < 20 → f' (2 * j + 1) = (0 : Int32)
theorem pd_17 : parseMethodDescriptor "(II[B)V" = some ⟨[.int, .int, (.array .byte)], none⟩ := by decide +kernel
theorem rm82 (l : Launch) (Z : State) (a0 : Array Value) (hw : HWt Z a0) (ws : List Jvm.Cond) (a1 : Addr) (a3 : Addr) (f1 : Nat → Int32) (f3 : Nat → Int32) (sv : Value) (h0 : Heap) (n0 : Nat) (Z0 : n0 ≤ h0.size) (V_a1 : Afn Z h0 a1 .byte (34 : Int32) (fun k => .int (f1 k))) (V_a3 : Afn Z h0 a3 .byte (68 : Int32) (fun k => .int (f3 k))) (g_a3 : n0 ≤ a3) (zgj : a1 ≠ a3) (SA : SS2 Z) (SHi : SS3 Z) (SLo : SS4 Z) (O : Old Z n0 h0) (SV : SS1 Z sv) (hr_sv : sv.isRef = true) :
    Con l Z y_82 jdk_52_method_86_code 6 none ws r_rm82 #[(.ref a1), (.int (0 : Int32)), (.ref a3), (.int (0 : Int32)), (.int (20 : Int32))] h0 (Q82 Z a1 a3 f1 f3 sv h0 n0) := by
  refine Con.of2 (plainFor_of_name pn_rm77) ?_
  intro p e s m below meth c s₁ hZ e0 X0 hx hby hml hown hnm hret hlk PP hPP
  have N0 := Fr.nil n0
  refine Go.cast (ef_rm82 m a1 a3) ?_
  have K : Keep h0 h0 [a3] := Keep.refl h0 _
  have Zn : n0 ≤ h0.size := Z0
  show Go p.tables e below PP (s₁.setTop (mkF m 0 #[.val (.ref a1), .val (.int (0 : Int32)), .val (.ref a3), .val (.int (0 : Int32)), .val (.int (20 : Int32)), .unset] []))
  refine Go.st (fun t k => XS.iloadN X0.here hx rfl (hb hby d82_0) rfl (XS.iload X0.here hx rfl (hb hby d82_1) rfl (XS.aloadN X0.here hx rfl (hb hby d82_3) rfl rfl k))) ?_
  obtain ⟨v1, T1, L1, X1, hQ1, st1⟩ := callSt X0 hx hZ (y := y_83) (argsL := [(.int (0 : Int32)), (.int (20 : Int32)), (.ref a3)]) (rest := []) hown (wk hw 436 rfl) (wk hw 437 rfl) (wk hw 409 rfl) (wk hw 438 rfl) (by decide) (rm83 l Z a0 hw [] a3 f3 sv h0 n0 Zn V_a3 SV hr_sv O) e0 0 (by decide) (by decide) (by decide) (by decide) (g := (mkF m 4 #[.val (.ref a1), .val (.int (0 : Int32)), .val (.ref a3), .val (.int (0 : Int32)), .val (.int (20 : Int32)), .unset] [(.ref a3), (.int (20 : Int32)), (.int (0 : Int32))])) rfl (by rw [hml]; rfl) (lenOf pd_17 rfl) rfl (Nat.le_of_eq rfl) (hb hby d82_4)
  obtain ⟨rfl, rfl, e1⟩ := hQ1
  rw [List.append_nil] at X1
  refine Go.st st1 ?_
  refine Go.st (fun t k => XS.iconst X1.here hx rfl (hb hby d82_7) (XS.istore X1.here hx rfl (hb hby d82_8) rfl (l' := #[.val (.ref a1), .val (.int (0 : Int32)), .val (.ref a3), .val (.int (0 : Int32)), .val (.int (20 : Int32)), .val (.int (0 : Int32))]) rfl k)) ?_
  show Go p.tables e below PP (T1.setTop (mkF m 10 #[.val (.ref a1), .val (.int (0 : Int32)), .val (.ref a3), .val (.int (0 : Int32)), .val (.int (20 : Int32)), .val (.int (0 : Int32))] []))
  have J10 : ∀ (d2 : Nat) (T2 : State) (L2 : List Loc) (h2 : Heap) (i : Int32) (gg : Nat → Int32), Stand p l e r_rm82 s m #[(.ref a1), (.int (0 : Int32)), (.ref a3), (.int (0 : Int32)), (.int (20 : Int32))] below meth c T2 L2 0 0 → T2.heap = h2 → Fr n0 L2 → Afn Z h2 a1 .byte (34 : Int32) (fun k => .int (f1 k)) → Afn Z h2 a3 .byte (68 : Int32) (fun k => .int (gg k)) → Old Z n0 h2 → Keep h0 h2 [a3] → n0 ≤ h2.size → (¬ i < (0 : Int32) ∧ ¬ (20 : Int32) < i ∧ ∀ j, j < i.toNatClampNeg → gg (2 * j + 1) = (0 : Int32)) → 20 - i.toNatClampNeg = d2 → Go p.tables e below PP (T2.setTop (mkF m 10 #[.val (.ref a1), .val (.int i), .val (.ref a3), .val (.int i), .val (.int (20 : Int32)), .val (.int i)] [])) := by
    clear Zn O K
    intro d2
    induction d2 using Nat.strongRecOn with
    | _ d2 ih2 =>
      intro T2 L2 h2 i gg X2 e2 N2 V_a1 V_a3 O K Zn hJ10 hd2
      show Go p.tables e below PP (T2.setTop (mkF m 10 #[.val (.ref a1), .val (.int i), .val (.ref a3), .val (.int i), .val (.int (20 : Int32)), .val (.int i)] []))
      refine Go.st (fun t k => XS.iload X2.here hx rfl (hb hby d82_10) rfl (XS.iload X2.here hx rfl (hb hby d82_12) rfl k)) ?_
      show Go p.tables e below PP (T2.setTop (mkF m 14 #[.val (.ref a1), .val (.int i), .val (.ref a3), .val (.int i), .val (.int (20 : Int32)), .val (.int i)] [(.int (20 : Int32)), (.int i)]))
      by_cases hc14 : i < (20 : Int32)
      · --
        refine Go.st (fun t k => XS.icmpNo X2.here hx rfl (hb hby d82_14) rfl (XT.ii_ge_f hc14) (XS.aloadN X2.here hx rfl (hb hby d82_17) rfl rfl (XS.iloadN X2.here hx rfl (hb hby d82_18) rfl (XS.iinc X2.here hx rfl (hb hby d82_19) rfl (l' := #[.val (.ref a1), .val (.int i), .val (.ref a3), .val (.int (i + (1 : Int32))), .val (.int (20 : Int32)), .val (.int i)]) rfl (XS.aloadN X2.here hx rfl (hb hby d82_22) rfl rfl (XS.iloadN X2.here hx rfl (hb hby d82_23) rfl (XS.iinc X2.here hx rfl (hb hby d82_24) rfl (l' := #[.val (.ref a1), .val (.int (i + (1 : Int32))), .val (.ref a3), .val (.int (i + (1 : Int32))), .val (.int (20 : Int32)), .val (.int i)]) rfl k))))))) ?_
        obtain ⟨cl3, Ar3, S3, Nn3, H3⟩ := id V_a1
        have hin3 : ¬ (i < 0 ∨ cl3.slots.size ≤ (i).toNatClampNeg) := inb_of S3 (own_20 hJ10.1 hc14).1
        refine Go.st (fun t k => X2.baloadBytes hx (j := i) (v := (.int (f1 i.toNatClampNeg))) (by rw [e2]; exact Ar3.1) (State.isArrayOf_alike hZ.alike Ar3.2.1) Ar3.2.2 hin3 ((H3 _ (inbN (own_20 hJ10.1 hc14).1)).1.trans (congrArg some (rfl))) (g := (mkF m 27 #[.val (.ref a1), .val (.int (i + (1 : Int32))), .val (.ref a3), .val (.int (i + (1 : Int32))), .val (.int (20 : Int32)), .val (.int i)] [(.int i), (.ref a1), (.int i), (.ref a3)])) rfl rfl (hb hby d82_27) _ (XS.sipush X2.here hx rfl (hb hby d82_28) (XS.iand X2.here hx rfl (hb hby d82_31) rfl k))) ?_
        obtain ⟨v4, T4, L4, X4, hQ4, st4⟩ := callSt X2 hx hZ (y := y_77) (argsL := [(.ref a3), (.int i), (.int ((f1 i.toNatClampNeg) &&& (255 : Int32)))]) (rest := []) hown (wk hw 411 rfl) (wk hw 412 rfl) (wk hw 409 rfl) (wk hw 413 rfl) (by decide) (rm77 l Z a0 hw [] a3 i ((f1 i.toNatClampNeg) &&& (255 : Int32)) (68 : Int32) gg h2 n0 Zn V_a3 g_a3 (own_20 hJ10.1 hc14).2.1 SA SHi SLo O) e2 0 (by decide) (by decide) (by decide) (by decide) (g := (mkF m 32 #[.val (.ref a1), .val (.int (i + (1 : Int32))), .val (.ref a3), .val (.int (i + (1 : Int32))), .val (.int (20 : Int32)), .val (.int i)] [(.int ((f1 i.toNatClampNeg) &&& (255 : Int32))), (.int i), (.ref a3)])) rfl (by rw [hml]; rfl) (lenOf pd_13 rfl) rfl (Nat.le_of_eq rfl) (hb hby d82_32)
        obtain ⟨h4, e4⟩ : ∃ z, T4.heap = z := ⟨_, rfl⟩
        rw [e4] at hQ4
        obtain ⟨rfl, Nq4, Kq4, zaw⟩ := hQ4
        have N4 := Fr.app N2 Nq4
        replace V_a1 := V_a1.keep Kq4 (ninS zgj nin0)
        replace O := O.keep Kq4 (allS g_a3 all0)
        replace K := K.trans Kq4 (allS (Or.inl (List.mem_of_getElem? (i := 0) rfl)) all0)
        replace Zn := Nat.le_trans Zn Kq4.1
        refine Go.st st4 ?_
        refine Go.st (fun t k => XS.iinc X4.here hx rfl (hb hby d82_35) rfl (l' := #[.val (.ref a1), .val (.int (i + (1 : Int32))), .val (.ref a3), .val (.int (i + (1 : Int32))), .val (.int (20 : Int32)), .val (.int (i + (1 : Int32)))]) rfl (XS.goto X4.here hx rfl (pc0 := 38) (pc' := 10) rfl (hb hby d82_38) (by decide) (by decide) k)) ?_
        show Go p.tables e below PP (T4.setTop (mkF m 10 #[.val (.ref a1), .val (.int (i + (1 : Int32))), .val (.ref a3), .val (.int (i + (1 : Int32))), .val (.int (20 : Int32)), .val (.int (i + (1 : Int32)))] []))
        exact ih2 _ (by have q := own_inc _ _ hJ10.1 hc14; have e : (20 : Int32).toNatClampNeg = 20 := rfl; omega) _ _ _ _ _ X4 e4 N4 (V_a1) (zaw) O K Zn (⟨(own_inc _ _ hJ10.1 hc14).1, (own_inc _ _ hJ10.1 hc14).2.1, own_pcz hJ10.1 hc14 hJ10.2.2⟩) rfl
      · --
        refine Go.st (fun t k => XS.icmpYes X2.here hx rfl (pc0 := 14) (pc' := 41) rfl (hb hby d82_14) rfl (XT.ii_ge_t hc14) (by decide) (by decide) k) ?_
        show Go p.tables e below PP (T2.setTop (mkF m 41 #[.val (.ref a1), .val (.int i), .val (.ref a3), .val (.int i), .val (.int (20 : Int32)), .val (.int i)] []))
        rw [hPP]
        refine endV X2 hx hlk hret (hb hby d82_41) ?_ (by decide) (by decide)
        rw [e2]
        exact ⟨gg, rfl, N2, K, V_a3, (by have e : i = (20 : Int32) := own_e20 hJ10.2.1 hc14; subst e; exact hJ10.2.2)⟩
  show Go p.tables e below PP (T1.setTop (mkF m 10 #[.val (.ref a1), .val (.int (0 : Int32)), .val (.ref a3), .val (.int (0 : Int32)), .val (.int (20 : Int32)), .val (.int (0 : Int32))] []))
  exact J10 _ _ _ _ _ _ X1 e1 N0 (V_a1) (V_a3) O K Zn (⟨by decide, by decide, fun j hj => absurd hj (Nat.not_lt_zero j)⟩) rfl
abbrev b_81 : ByteArray := jdk_43_method_50_code
theorem d81_0 : dk b_81 0 (.aload_n 0) 1 := by decide +kernel
theorem d81_1 : dk b_81 1 (.iload_n 1) 1 := by decide +kernel
theorem d81_2 : dk b_81 2 (.aload_n 2) 1 := by decide +kernel
theorem d81_3 : dk b_81 3 (.iload_n 3) 1 := by decide +kernel
theorem d81_4 : dk b_81 4 (.iload 4) 2 := by decide +kernel
theorem d81_6 : dk b_81 6 (.invokestatic 240) 3 := by decide +kernel
theorem d81_9 : dk b_81 9 (.return_) 1 := by decide +kernel
abbrev r_rm81 : Room := { frames := 4, cells := 0, slots := 0, locals := 60 }
theorem ef_rm81 (m : MethodId) (a1 : Addr) (a3 : Addr) : entryFrame m #[(.ref a1), (.int (0 : Int32)), (.ref a3), (.int (0 : Int32)), (.int (20 : Int32))] 5 = mkF m 0 #[.val (.ref a1), .val (.int (0 : Int32)), .val (.ref a3), .val (.int (0 : Int32)), .val (.int (20 : Int32))] [] := by first | (simp [entryFrame, mkF, argsToLocals, Value.category]; done) | rfl
def Q81 (Z : State) (a1 : Addr) (a3 : Addr) (f1 : Nat → Int32) (f3 : Nat → Int32) (sv : Value) (h0 : Heap) (n0 : Nat) (v : Option Value) (h : Heap) (L : List Loc) : Prop := ∃ (f' : Nat → Int32), v = none ∧ Fr n0 L ∧ Keep h0 h [a3] ∧ Afn Z h a3 .byte (68 : Int32) (fun k => .int (f' k)) ∧ ∀ j, j < 20 → f' (2 * j + 1) = (0 : Int32)
theorem pd_18 : parseMethodDescriptor "([BI[BII)V" = some ⟨[(.array .byte), .int, (.array .byte), .int, .int], none⟩ := by decide +kernel
theorem rm81 (l : Launch) (Z : State) (a0 : Array Value) (hw : HWt Z a0) (ws : List Jvm.Cond) (a1 : Addr) (a3 : Addr) (f1 : Nat → Int32) (f3 : Nat → Int32) (sv : Value) (h0 : Heap) (n0 : Nat) (Z0 : n0 ≤ h0.size) (V_a1 : Afn Z h0 a1 .byte (34 : Int32) (fun k => .int (f1 k))) (V_a3 : Afn Z h0 a3 .byte (68 : Int32) (fun k => .int (f3 k))) (g_a3 : n0 ≤ a3) (zgj : a1 ≠ a3) (SA : SS2 Z) (SHi : SS3 Z) (SLo : SS4 Z) (O : Old Z n0 h0) (SV : SS1 Z sv) (hr_sv : sv.isRef = true) :
    Con l Z y_81 jdk_43_method_50_code 5 none ws r_rm81 #[(.ref a1), (.int (0 : Int32)), (.ref a3), (.int (0 : Int32)), (.int (20 : Int32))] h0 (Q81 Z a1 a3 f1 f3 sv h0 n0) := by
  refine Con.of2 (plainFor_of_name pn_rm20) ?_
  intro p e s m below meth c s₁ hZ e0 X0 hx hby hml hown hnm hret hlk PP hPP
  have N0 := Fr.nil n0
  refine Go.cast (ef_rm81 m a1 a3) ?_
  have K : Keep h0 h0 [a3] := Keep.refl h0 _
  have Zn : n0 ≤ h0.size := Z0
  show Go p.tables e below PP (s₁.setTop (mkF m 0 #[.val (.ref a1), .val (.int (0 : Int32)), .val (.ref a3), .val (.int (0 : Int32)), .val (.int (20 : Int32))] []))
  refine Go.st (fun t k => XS.aloadN X0.here hx rfl (hb hby d81_0) rfl rfl (XS.iloadN X0.here hx rfl (hb hby d81_1) rfl (XS.aloadN X0.here hx rfl (hb hby d81_2) rfl rfl (XS.iloadN X0.here hx rfl (hb hby d81_3) rfl (XS.iload X0.here hx rfl (hb hby d81_4) rfl k))))) ?_
  obtain ⟨v1, T1, L1, X1, hQ1, st1⟩ := callSt X0 hx hZ (y := y_82) (argsL := [(.ref a1), (.int (0 : Int32)), (.ref a3), (.int (0 : Int32)), (.int (20 : Int32))]) (rest := []) hown (wk hw 433 rfl) (wk hw 434 rfl) (wk hw 409 rfl) (wk hw 435 rfl) (by decide) (rm82 l Z a0 hw [] a1 a3 f1 f3 sv h0 n0 Zn V_a1 V_a3 g_a3 zgj SA SHi SLo O SV hr_sv) e0 0 (by decide) (by decide) (by decide) (by decide) (g := (mkF m 6 #[.val (.ref a1), .val (.int (0 : Int32)), .val (.ref a3), .val (.int (0 : Int32)), .val (.int (20 : Int32))] [(.int (20 : Int32)), (.int (0 : Int32)), (.ref a3), (.int (0 : Int32)), (.ref a1)])) rfl (by rw [hml]; rfl) (lenOf pd_18 rfl) rfl (Nat.le_of_eq rfl) (hb hby d81_6)
  obtain ⟨h1, e1⟩ : ∃ z, T1.heap = z := ⟨_, rfl⟩
  rw [e1] at hQ1
  obtain ⟨fx_1, rfl, Nq1, Kq1, zai, zeb⟩ := hQ1
  have N1 := Fr.app N0 Nq1
  replace O := O.keep Kq1 (allS g_a3 all0)
  replace K := K.trans Kq1 (allS (Or.inl (List.mem_of_getElem? (i := 0) rfl)) all0)
  replace Zn := Nat.le_trans Zn Kq1.1
  refine Go.st st1 ?_
  show Go p.tables e below PP (T1.setTop (mkF m 9 #[.val (.ref a1), .val (.int (0 : Int32)), .val (.ref a3), .val (.int (0 : Int32)), .val (.int (20 : Int32))] []))
  rw [hPP]
  refine endV X1 hx hlk hret (hb hby d81_9) ?_ (by decide) (by decide)
  rw [e1]
  exact ⟨fx_1, rfl, N1, K, zai, zeb⟩
abbrev b_80 : ByteArray := jdk_52_method_3_code
theorem d80_0 : dk b_80 0 (.iload_n 0) 1 := by decide +kernel
theorem d80_1 : dk b_80 1 (.ifCond .ge 11) 3 := by decide +kernel
theorem d80_12 : dk b_80 12 (.iload_n 0) 1 := by decide +kernel
theorem d80_13 : dk b_80 13 (.ldc 20) 2 := by decide +kernel
theorem d80_15 : dk b_80 15 (.if_icmp .lt 40) 3 := by decide +kernel
theorem d80_55 : dk b_80 55 (.iload_n 0) 1 := by decide +kernel
theorem d80_56 : dk b_80 56 (.iconst 1) 1 := by decide +kernel
theorem d80_57 : dk b_80 57 (.ishl) 1 := by decide +kernel
theorem d80_58 : dk b_80 58 (.ireturn) 1 := by decide +kernel
abbrev r_rm80 : Room := { frames := 0, cells := 0, slots := 0, locals := 0 }
theorem ef_rm80 (m : MethodId)  : entryFrame m #[(.int (34 : Int32))] 1 = mkF m 0 #[.val (.int (34 : Int32))] [] := by first | (simp [entryFrame, mkF, argsToLocals, Value.category]; done) | rfl
def Q80 (Z : State)  (h0 : Heap) (n0 : Nat) (v : Option Value) (h : Heap) (L : List Loc) : Prop := v = some (.int (68 : Int32)) ∧ L = [] ∧ h = h0
theorem rm80 (l : Launch) (Z : State) (a0 : Array Value) (hw : HWt Z a0) (ws : List Jvm.Cond)  (h0 : Heap) (n0 : Nat) (Z0 : n0 ≤ h0.size) :
    Con l Z y_80 jdk_52_method_3_code 1 (some .int) ws r_rm80 #[(.int (34 : Int32))] h0 (Q80 Z  h0 n0) := by
  refine Con.of2 (plainFor_of_name pn_rm77) ?_
  intro p e s m below meth c s₁ hZ e0 X0 hx hby hml hown hnm hret hlk PP hPP
  have N0 := Fr.nil n0
  refine Go.cast (ef_rm80 m ) ?_
  have Zn : n0 ≤ h0.size := Z0
  show Go p.tables e below PP (s₁.setTop (mkF m 0 #[.val (.int (34 : Int32))] []))
  refine Go.st (fun t k => XS.iloadN X0.here hx rfl (hb hby d80_0) rfl (XS.ifYes X0.here hx rfl (pc0 := 1) (pc' := 12) rfl (hb hby d80_1) rfl (XT.i0_ge_t (by decide)) (by decide) (by decide) (XS.iloadN X0.here hx rfl (hb hby d80_12) rfl k))) ?_
  show Go p.tables e below PP (s₁.setTop (mkF m 13 #[.val (.int (34 : Int32))] [(.int (34 : Int32))]))
  refine Go.st (fun t k => X0.ldcI hx hown (mvT hZ (wk hw 429 rfl)) (g := (mkF m 13 #[.val (.int (34 : Int32))] [(.int (34 : Int32))])) rfl (hb hby d80_13) (XS.icmpYes X0.here hx rfl (pc0 := 15) (pc' := 55) rfl (hb hby d80_15) rfl (XT.ii_lt_t (by decide)) (by decide) (by decide) (XS.iloadN X0.here hx rfl (hb hby d80_55) rfl (XS.iconst X0.here hx rfl (hb hby d80_56) k)))) ?_
  show Go p.tables e below PP (s₁.setTop (mkF m 57 #[.val (.int (34 : Int32))] [(.int (1 : Int32)), (.int (34 : Int32))]))
  refine Go.st (fun t k => XS.ishl X0.here hx rfl (hb hby d80_57) rfl k) ?_
  show Go p.tables e below PP (s₁.setTop (mkF m 58 #[.val (.int (34 : Int32))] [(.int ((34 : Int32) <<< ((1 : Int32) &&& 31)))]))
  rw [show ((34 : Int32) <<< ((1 : Int32) &&& 31)) = (68 : Int32) from by decide]
  show Go p.tables e below PP (s₁.setTop (mkF m 58 #[.val (.int (34 : Int32))] [(.int (68 : Int32))]))
  rw [hPP]
  refine endI X0 hx hlk hret (hb hby d80_58) ?_ (by decide) (by decide)
  rw [e0]
  exact ⟨rfl, rfl, rfl⟩
abbrev b_79 : ByteArray := jdk_52_method_2_code
theorem d79_0 : dk b_79 0 (.iload_n 0) 1 := by decide +kernel
theorem d79_1 : dk b_79 1 (.invokestatic 11) 3 := by decide +kernel
theorem d79_4 : dk b_79 4 (.newarray .byte) 2 := by decide +kernel
theorem d79_6 : dk b_79 6 (.areturn) 1 := by decide +kernel
abbrev r_rm79 : Room := { frames := 1, cells := 1, slots := 68, locals := 12 }
def Q79 (Z : State)  (h0 : Heap) (n0 : Nat) (v : Option Value) (h : Heap) (L : List Loc) : Prop := ∃ (t : Addr) (f' : Nat → Int32), v = some (.ref t) ∧ Fr n0 L ∧ Keep h0 h [] ∧ h0.size ≤ t ∧ Afn Z h t .byte (68 : Int32) (fun k => .int (f' k))
theorem pd_19 : parseMethodDescriptor "(I)I" = some ⟨[.int], some .int⟩ := by decide +kernel
theorem rm79 (l : Launch) (Z : State) (a0 : Array Value) (hw : HWt Z a0) (ws : List Jvm.Cond)  (h0 : Heap) (n0 : Nat) (Z0 : n0 ≤ h0.size) :
    Con l Z y_79 jdk_52_method_2_code 1 (some (.array .byte)) ws r_rm79 #[(.int (34 : Int32))] h0 (Q79 Z  h0 n0) := by
  refine Con.of2 (plainFor_of_name pn_rm77) ?_
  intro p e s m below meth c s₁ hZ e0 X0 hx hby hml hown hnm hret hlk PP hPP
  have N0 := Fr.nil n0
  refine Go.cast (ef_rm80 m ) ?_
  have K : Keep h0 h0 [] := Keep.refl h0 _
  have Zn : n0 ≤ h0.size := Z0
  show Go p.tables e below PP (s₁.setTop (mkF m 0 #[.val (.int (34 : Int32))] []))
  refine Go.st (fun t k => XS.iloadN X0.here hx rfl (hb hby d79_0) rfl k) ?_
  obtain ⟨v1, T1, L1, X1, hQ1, st1⟩ := callSt X0 hx hZ (y := y_80) (argsL := [(.int (34 : Int32))]) (rest := []) hown (wk hw 426 rfl) (wk hw 427 rfl) (wk hw 409 rfl) (wk hw 428 rfl) (by decide) (rm80 l Z a0 hw []  h0 n0 Zn) e0 0 (by decide) (by decide) (by decide) (by decide) (g := (mkF m 1 #[.val (.int (34 : Int32))] [(.int (34 : Int32))])) rfl (by rw [hml]; rfl) (lenOf pd_19 rfl) rfl (Nat.le_of_eq rfl) (hb hby d79_1)
  obtain ⟨rfl, rfl, e1⟩ := hQ1
  rw [List.append_nil] at X1
  refine Go.st st1 ?_
  obtain ⟨T2, h2, k2, X2, e2, E2, A2, st2⟩ := newP X1 hx hZ (wk hw 4 rfl) e1 (g := (mkF m 4 #[.val (.int (34 : Int32))] [(.int (68 : Int32))])) rfl (hb hby d79_4) rfl (by decide) (cap := 68) (by decide) (by decide) (by decide) (by decide)
  obtain ⟨b2, gz2⟩ : ∃ z, z = h0.size := ⟨_, rfl⟩
  rw [← gz2] at A2 st2
  have zbz : h0.size ≤ b2 := Nat.le_trans K.1 (Nat.le_of_eq gz2.symm)
  refine Go.st st2 ?_
  replace K := K.ext E2
  replace Zn := Nat.le_trans Zn E2.1
  have V_b2 : Afn Z h2 b2 .byte (68 : Int32) (fun _ => (.int (0 : Int32))) := Afn.new A2 (by decide)
  show Go p.tables e below PP (T2.setTop (mkF m 6 #[.val (.int (34 : Int32))] [(.ref b2)]))
  rw [hPP]
  refine endR X2 hx hlk hret rfl rfl (hb hby d79_6) ?_ (by decide) (by decide)
  rw [e2]
  exact ⟨b2, (fun k => (0 : Int32)), rfl, N0, K, zbz, V_b2⟩
abbrev b_42 : ByteArray := jdk_68_method_68_code
theorem d42_0 : dk b_42 0 (.getstatic 18) 3 := by decide +kernel
theorem d42_3 : dk b_42 3 (.ifCond .eq 14) 3 := by decide +kernel
theorem d42_6 : dk b_42 6 (.aload_n 0) 1 := by decide +kernel
theorem d42_7 : dk b_42 7 (.getfield 22) 3 := by decide +kernel
theorem d42_10 : dk b_42 10 (.ifCond .ne 7) 3 := by decide +kernel
theorem d42_13 : dk b_42 13 (.iconst 1) 1 := by decide +kernel
theorem d42_14 : dk b_42 14 (.goto 4) 3 := by decide +kernel
theorem d42_17 : dk b_42 17 (.iconst 0) 1 := by decide +kernel
theorem d42_18 : dk b_42 18 (.ireturn) 1 := by decide +kernel
abbrev r_rm42 : Room := { frames := 0, cells := 0, slots := 0, locals := 0 }
theorem pn_rm42 : plainName "java/lang/AbstractStringBuilder" = true := by first | (simp [plainName, overriddenIn]; done) | decide +kernel
def Q42 (Z : State) (a1 : Addr) (zc : Int32) (h0 : Heap) (n0 : Nat) (v : Option Value) (h : Heap) (L : List Loc) : Prop := v = some (.int (1 : Int32)) ∧ L = [] ∧ h = h0
theorem rm42 (l : Launch) (Z : State) (a0 : Array Value) (hw : HWt Z a0) (ws : List Jvm.Cond) (a1 : Addr) (zc : Int32) (h0 : Heap) (n0 : Nat) (Z0 : n0 ≤ h0.size) (zaa : Fld Z h0 a1 k_8 "coder" "B" (.int (0 : Int32))) (SC : SS0 Z zc) (hzc : ¬ zc = (0 : Int32)) (O : Old Z n0 h0) :
    Con l Z y_42 jdk_68_method_68_code 1 (some .boolean) ws r_rm42 #[(.ref a1)] h0 (Q42 Z a1 zc h0 n0) := by
  refine Con.of2 (plainFor_of_name pn_rm42) ?_
  intro p e s m below meth c s₁ hZ e0 X0 hx hby hml hown hnm hret hlk PP hPP
  have N0 := Fr.nil n0
  refine Go.cast (ef_rm18 m a1) ?_
  have Zn : n0 ≤ h0.size := Z0
  obtain ⟨T1, X1, e1, st1⟩ := getS2 X0 hx hZ hown (host := "") (Or.inl (wk hw 132 rfl)) Via.refl e0 (SC.ext O.2) (g := (mkF m 0 #[.val (.ref a1)] [])) rfl (hb hby d42_0)
  refine Go.st st1 ?_
  refine Go.st (fun t k => XS.ifNo X1.here hx rfl (hb hby d42_3) rfl (XT.i0_eq_f hzc) (XS.aloadN X1.here hx rfl (hb hby d42_6) rfl rfl k)) ?_
  obtain ⟨T2, X2, e2, st2⟩ := getF X1 hx hZ hown (host := "") (Or.inl (wk hw 135 rfl)) Via.refl e1 zaa (g := (mkF m 7 #[.val (.ref a1)] [(.ref a1)])) rfl rfl (hb hby d42_7)
  refine Go.st st2 ?_
  refine Go.st (fun t k => XS.ifNo X2.here hx rfl (hb hby d42_10) rfl (XT.i0_ne_f (by decide)) (XS.iconst X2.here hx rfl (hb hby d42_13) (XS.goto X2.here hx rfl (pc0 := 14) (pc' := 18) rfl (hb hby d42_14) (by decide) (by decide) k))) ?_
  show Go p.tables e below PP (T2.setTop (mkF m 18 #[.val (.ref a1)] [(.int (1 : Int32))]))
  rw [hPP]
  refine endN X2 hx hlk (t := .boolean) hret (by simp) (hb hby d42_18) (w := (1 : Int32)) (rfl) ?_ (by decide) (by decide)
  rw [e2]
  exact ⟨rfl, rfl, rfl⟩
abbrev r_rm42u : Room := { frames := 0, cells := 0, slots := 0, locals := 0 }
def Q42u (Z : State) (a1 : Addr) (zc : Int32) (h0 : Heap) (n0 : Nat) (v : Option Value) (h : Heap) (L : List Loc) : Prop := v = some (.int (0 : Int32)) ∧ L = [] ∧ h = h0
theorem rm42u (l : Launch) (Z : State) (a0 : Array Value) (hw : HWt Z a0) (ws : List Jvm.Cond) (a1 : Addr) (zc : Int32) (h0 : Heap) (n0 : Nat) (Z0 : n0 ≤ h0.size) (zaa : Fld Z h0 a1 k_8 "coder" "B" (.int (1 : Int32))) (SC : SS0 Z zc) (hzc : ¬ zc = (0 : Int32)) (O : Old Z n0 h0) :
    Con l Z y_42 jdk_68_method_68_code 1 (some .boolean) ws r_rm42u #[(.ref a1)] h0 (Q42u Z a1 zc h0 n0) := by
  refine Con.of2 (plainFor_of_name pn_rm42) ?_
  intro p e s m below meth c s₁ hZ e0 X0 hx hby hml hown hnm hret hlk PP hPP
  have N0 := Fr.nil n0
  refine Go.cast (ef_rm18 m a1) ?_
  have Zn : n0 ≤ h0.size := Z0
  obtain ⟨T1, X1, e1, st1⟩ := getS2 X0 hx hZ hown (host := "") (Or.inl (wk hw 132 rfl)) Via.refl e0 (SC.ext O.2) (g := (mkF m 0 #[.val (.ref a1)] [])) rfl (hb hby d42_0)
  refine Go.st st1 ?_
  refine Go.st (fun t k => XS.ifNo X1.here hx rfl (hb hby d42_3) rfl (XT.i0_eq_f hzc) (XS.aloadN X1.here hx rfl (hb hby d42_6) rfl rfl k)) ?_
  obtain ⟨T2, X2, e2, st2⟩ := getF X1 hx hZ hown (host := "") (Or.inl (wk hw 135 rfl)) Via.refl e1 zaa (g := (mkF m 7 #[.val (.ref a1)] [(.ref a1)])) rfl rfl (hb hby d42_7)
  refine Go.st st2 ?_
  refine Go.st (fun t k => XS.ifYes X2.here hx rfl (pc0 := 10) (pc' := 17) rfl (hb hby d42_10) rfl (XT.i0_ne_t (by decide)) (by decide) (by decide) (XS.iconst X2.here hx rfl (hb hby d42_17) k)) ?_
  show Go p.tables e below PP (T2.setTop (mkF m 18 #[.val (.ref a1)] [(.int (0 : Int32))]))
  rw [hPP]
  refine endN X2 hx hlk (t := .boolean) hret (by simp) (hb hby d42_18) (w := (0 : Int32)) (rfl) ?_ (by decide) (by decide)
  rw [e2]
  exact ⟨rfl, rfl, rfl⟩
abbrev b_78 : ByteArray := jdk_68_method_11_code
theorem d78_0 : dk b_78 0 (.aload_n 0) 1 := by decide +kernel
theorem d78_1 : dk b_78 1 (.invokevirtual 83) 3 := by decide +kernel
theorem d78_4 : dk b_78 4 (.ifCond .ne 4) 3 := by decide +kernel
theorem d78_8 : dk b_78 8 (.aload_n 0) 1 := by decide +kernel
theorem d78_9 : dk b_78 9 (.getfield 15) 3 := by decide +kernel
theorem d78_12 : dk b_78 12 (.arraylength) 1 := by decide +kernel
theorem d78_13 : dk b_78 13 (.invokestatic 26) 3 := by decide +kernel
theorem d78_16 : dk b_78 16 (.astore_n 1) 1 := by decide +kernel
theorem d78_17 : dk b_78 17 (.aload_n 0) 1 := by decide +kernel
theorem d78_18 : dk b_78 18 (.getfield 15) 3 := by decide +kernel
theorem d78_21 : dk b_78 21 (.iconst 0) 1 := by decide +kernel
theorem d78_22 : dk b_78 22 (.aload_n 1) 1 := by decide +kernel
theorem d78_23 : dk b_78 23 (.iconst 0) 1 := by decide +kernel
theorem d78_24 : dk b_78 24 (.aload_n 0) 1 := by decide +kernel
theorem d78_25 : dk b_78 25 (.getfield 79) 3 := by decide +kernel
theorem d78_28 : dk b_78 28 (.invokestatic 125) 3 := by decide +kernel
theorem d78_31 : dk b_78 31 (.aload_n 0) 1 := by decide +kernel
theorem d78_32 : dk b_78 32 (.aload_n 1) 1 := by decide +kernel
theorem d78_33 : dk b_78 33 (.putfield 15) 3 := by decide +kernel
theorem d78_36 : dk b_78 36 (.aload_n 0) 1 := by decide +kernel
theorem d78_37 : dk b_78 37 (.iconst 1) 1 := by decide +kernel
theorem d78_38 : dk b_78 38 (.putfield 22) 3 := by decide +kernel
theorem d78_41 : dk b_78 41 (.return_) 1 := by decide +kernel
abbrev r_rm78 : Room := { frames := 5, cells := 1, slots := 68, locals := 76 }
theorem ef_rm78 (m : MethodId) (a1 : Addr) : entryFrame m #[(.ref a1)] 2 = mkF m 0 #[.val (.ref a1), .unset] [] := by first | (simp [entryFrame, mkF, argsToLocals, Value.category]; done) | rfl
def Q78 (Z : State) (a1 : Addr) (tv : Addr) (fv : Nat → Int32) (zc : Int32) (sv : Value) (h0 : Heap) (n0 : Nat) (v : Option Value) (h : Heap) (L : List Loc) : Prop := ∃ (tv' : Addr) (f' : Nat → Int32), v = none ∧ Fr n0 L ∧ Keep h0 h [a1] ∧ h0.size ≤ tv' ∧ Fld Z h a1 k_8 "value" "[B" (.ref tv') ∧ Fld Z h a1 k_8 "count" "I" (.int (20 : Int32)) ∧ Fld Z h a1 k_8 "coder" "B" (.int (1 : Int32)) ∧ Fld Z h a1 k_8 "maybeLatin1" "Z" (.int (0 : Int32)) ∧ Afn Z h tv' .byte (68 : Int32) (fun k => .int (f' k)) ∧ ∀ j, j < 20 → f' (2 * j + 1) = (0 : Int32)
theorem pd_20 : parseMethodDescriptor "(I)[B" = some ⟨[.int], some (.array .byte)⟩ := by decide +kernel
theorem rm78 (l : Launch) (Z : State) (a0 : Array Value) (hw : HWt Z a0) (ws : List Jvm.Cond) (a1 : Addr) (tv : Addr) (fv : Nat → Int32) (zc : Int32) (sv : Value) (h0 : Heap) (n0 : Nat) (Z0 : n0 ≤ h0.size) (E_a1 : Exa Z h0 a1 k_15) (zab : Fld Z h0 a1 k_8 "value" "[B" (.ref tv)) (zac : Fld Z h0 a1 k_8 "count" "I" (.int (20 : Int32))) (zaa : Fld Z h0 a1 k_8 "coder" "B" (.int (0 : Int32))) (zak : Fld Z h0 a1 k_8 "maybeLatin1" "Z" (.int (0 : Int32))) (V_tv : Afn Z h0 tv .byte (34 : Int32) (fun k => .int (fv k))) (g_a1 : n0 ≤ a1) (g_tv : n0 ≤ tv) (zau : a1 ≠ tv) (SC : SS0 Z zc) (hzc : ¬ zc = (0 : Int32)) (O : Old Z n0 h0) (SA : SS2 Z) (SHi : SS3 Z) (SLo : SS4 Z) (SV : SS1 Z sv) (hr_sv : sv.isRef = true) :
    Con l Z y_78 jdk_68_method_11_code 2 none ws r_rm78 #[(.ref a1)] h0 (Q78 Z a1 tv fv zc sv h0 n0) := by
  refine Con.of2 (plainFor_of_name pn_rm42) ?_
  intro p e s m below meth c s₁ hZ e0 X0 hx hby hml hown hnm hret hlk PP hPP
  have N0 := Fr.nil n0
  refine Go.cast (ef_rm78 m a1) ?_
  have K : Keep h0 h0 [a1] := Keep.refl h0 _
  have Zn : n0 ≤ h0.size := Z0
  show Go p.tables e below PP (s₁.setTop (mkF m 0 #[.val (.ref a1), .unset] []))
  refine Go.st (fun t k => XS.aloadN X0.here hx rfl (hb hby d78_0) rfl rfl k) ?_
  obtain ⟨v1, T1, L1, X1, hQ1, st1⟩ := callVi X0 hx hZ (C := k_15) (y := y_42) (z := y_42) (a := a1) (argsL := []) (rest := []) hown (wk hw 422 rfl) (wk hw 224 rfl) (notFace_of_selects (args := #[]) (mvT hZ (wk hw 226 rfl))) (wk hw 226 rfl) (wk hw 225 rfl) (wk hw 129 rfl) (wk hw 227 rfl) (by decide) rfl E_a1 (rm42 l Z a0 hw [] a1 zc h0 n0 Zn zaa SC hzc O) e0 0 (by decide) (by decide) (by decide) (by decide) (g := (mkF m 1 #[.val (.ref a1), .unset] [(.ref a1)])) rfl (by rw [hml]; rfl) (lenOf pd_4 rfl) rfl (Nat.le_of_eq rfl) (hb hby d78_1)
  obtain ⟨rfl, rfl, e1⟩ := hQ1
  rw [List.append_nil] at X1
  refine Go.st st1 ?_
  refine Go.st (fun t k => XS.ifYes X1.here hx rfl (pc0 := 4) (pc' := 8) rfl (hb hby d78_4) rfl (XT.i0_ne_t (by decide)) (by decide) (by decide) (XS.aloadN X1.here hx rfl (hb hby d78_8) rfl rfl k)) ?_
  obtain ⟨T2, X2, e2, st2⟩ := getF X1 hx hZ hown (host := "") (Or.inl (wk hw 133 rfl)) Via.refl e1 zab (g := (mkF m 9 #[.val (.ref a1), .unset] [(.ref a1)])) rfl rfl (hb hby d78_9)
  refine Go.st st2 ?_
  obtain ⟨cl3, Ar3, S3, Nn3, -⟩ := id V_tv
  refine Go.st (fun t k => X2.arraylength hx (by rw [e2]; exact Ar3.1) (State.isArrayOf_alike hZ.alike Ar3.2.1) (g := (mkF m 12 #[.val (.ref a1), .unset] [(.ref tv)])) rfl rfl (hb hby d78_12) _ k) ?_
  rw [len_of S3 Nn3]
  obtain ⟨v4, T4, L4, X4, hQ4, st4⟩ := callSt X2 hx hZ (y := y_79) (argsL := [(.int (34 : Int32))]) (rest := []) hown (wk hw 423 rfl) (wk hw 424 rfl) (wk hw 409 rfl) (wk hw 425 rfl) (by decide) (rm79 l Z a0 hw []  h0 n0 Zn) e2 0 (by decide) (by decide) (by decide) (by decide) (g := (mkF m 13 #[.val (.ref a1), .unset] [(.int (34 : Int32))])) rfl (by rw [hml]; rfl) (lenOf pd_20 rfl) rfl (Nat.le_of_eq rfl) (hb hby d78_13)
  obtain ⟨h4, e4⟩ : ∃ z, T4.heap = z := ⟨_, rfl⟩
  rw [e4] at hQ4
  obtain ⟨t_4, fx_4, rfl, Nq4, Kq4, zea, zaw⟩ := hQ4
  have N4 := Fr.app N0 Nq4
  have zfv : a1 ≠ t_4 := Nat.ne_of_lt (Nat.lt_of_lt_of_le E_a1.lt zea)
  have zla : tv ≠ t_4 := Nat.ne_of_lt (Nat.lt_of_lt_of_le V_tv.lt zea)
  have zjs : n0 ≤ t_4 := Nat.le_trans Zn zea
  have zfu : h0.size ≤ t_4 := Nat.le_trans K.1 zea
  replace E_a1 := E_a1.keep Kq4
  replace zab := zab.keep Kq4 nin0
  replace zac := zac.keep Kq4 nin0
  replace zaa := zaa.keep Kq4 nin0
  replace zak := zak.keep Kq4 nin0
  replace V_tv := V_tv.keep Kq4 nin0
  replace O := O.keep Kq4 all0
  replace K := K.trans Kq4 all0
  replace Zn := Nat.le_trans Zn Kq4.1
  refine Go.st st4 ?_
  refine Go.st (fun t k => XS.astoreN X4.here hx rfl (hb hby d78_16) rfl rfl (l' := #[.val (.ref a1), .val (.ref t_4)]) rfl (XS.aloadN X4.here hx rfl (hb hby d78_17) rfl rfl k)) ?_
  obtain ⟨T5, X5, e5, st5⟩ := getF X4 hx hZ hown (host := "") (Or.inl (wk hw 133 rfl)) Via.refl e4 zab (g := (mkF m 18 #[.val (.ref a1), .val (.ref t_4)] [(.ref a1)])) rfl rfl (hb hby d78_18)
  refine Go.st st5 ?_
  refine Go.st (fun t k => XS.iconst X5.here hx rfl (hb hby d78_21) (XS.aloadN X5.here hx rfl (hb hby d78_22) rfl rfl (XS.iconst X5.here hx rfl (hb hby d78_23) (XS.aloadN X5.here hx rfl (hb hby d78_24) rfl rfl k)))) ?_
  obtain ⟨T6, X6, e6, st6⟩ := getF X5 hx hZ hown (host := "") (Or.inl (wk hw 150 rfl)) Via.refl e5 zac (g := (mkF m 25 #[.val (.ref a1), .val (.ref t_4)] [(.ref a1), (.int (0 : Int32)), (.ref t_4), (.int (0 : Int32)), (.ref tv)])) rfl rfl (hb hby d78_25)
  refine Go.st st6 ?_
  obtain ⟨v7, T7, L7, X7, hQ7, st7⟩ := callSt X6 hx hZ (y := y_81) (argsL := [(.ref tv), (.int (0 : Int32)), (.ref t_4), (.int (0 : Int32)), (.int (20 : Int32))]) (rest := []) hown (wk hw 430 rfl) (wk hw 431 rfl) (wk hw 19 rfl) (wk hw 432 rfl) (by decide) (rm81 l Z a0 hw [] tv t_4 fv fx_4 sv h4 n0 Zn V_tv zaw zjs zla SA SHi SLo O SV hr_sv) e6 0 (by decide) (by decide) (by decide) (by decide) (g := (mkF m 28 #[.val (.ref a1), .val (.ref t_4)] [(.int (20 : Int32)), (.int (0 : Int32)), (.ref t_4), (.int (0 : Int32)), (.ref tv)])) rfl (by rw [hml]; rfl) (lenOf pd_18 rfl) rfl (Nat.le_of_eq rfl) (hb hby d78_28)
  obtain ⟨h7, e7⟩ : ∃ z, T7.heap = z := ⟨_, rfl⟩
  rw [e7] at hQ7
  obtain ⟨fx_7, rfl, Nq7, Kq7, zca, zlb⟩ := hQ7
  have N7 := Fr.app N4 Nq7
  replace E_a1 := E_a1.keep Kq7
  replace zab := zab.keep Kq7 (ninS zfv nin0)
  replace zac := zac.keep Kq7 (ninS zfv nin0)
  replace zaa := zaa.keep Kq7 (ninS zfv nin0)
  replace zak := zak.keep Kq7 (ninS zfv nin0)
  replace O := O.keep Kq7 (allS zjs all0)
  replace K := K.trans Kq7 (allS (Or.inr zfu) all0)
  replace Zn := Nat.le_trans Zn Kq7.1
  refine Go.st st7 ?_
  refine Go.st (fun t k => XS.aloadN X7.here hx rfl (hb hby d78_31) rfl rfl (XS.aloadN X7.here hx rfl (hb hby d78_32) rfl rfl k)) ?_
  obtain ⟨T8, h8, X8, e8, W8, st8⟩ := putF X7 hx hZ hown (host := "") (Or.inl (wk hw 133 rfl)) Via.refl e7 zab E_a1 (Or.inl (wk hw 134 rfl)) (wk hw 120 rfl) (ty := (.array .byte)) (by decide) rfl rfl (g := (mkF m 33 #[.val (.ref a1), .val (.ref t_4)] [(.ref t_4), (.ref a1)])) rfl rfl (hb hby d78_33)
  refine Go.st st8 ?_
  have N8 := Fr.snoc X8 N7 g_a1
  replace E_a1 := E_a1.wr W8
  replace zac := zac.other W8 (Or.inr (slot_ne (a0 := a0) (Or.inl (wk hw 151 rfl)) (Or.inl (wk hw 134 rfl)) (by decide) (t := .int) (t' := (.array .byte)) (by decide) (by decide)))
  replace zaa := zaa.other W8 (Or.inr (slot_ne (a0 := a0) (Or.inl (wk hw 136 rfl)) (Or.inl (wk hw 134 rfl)) (by decide) (t := .byte) (t' := (.array .byte)) (by decide) (by decide)))
  replace zak := zak.other W8 (Or.inr (slot_ne (a0 := a0) (Or.inl (wk hw 447 rfl)) (Or.inl (wk hw 134 rfl)) (by decide) (t := .boolean) (t' := (.array .byte)) (by decide) (by decide)))
  replace zca := zca.other W8 (Ne.symm zfv)
  replace O := O.wr W8 g_a1
  replace K := K.wr W8 (Or.inl (List.mem_of_getElem? (i := 0) rfl))
  replace Zn : n0 ≤ h8.size := by rw [W8.size]; exact Zn
  replace zab := zab.same W8
  refine Go.st (fun t k => XS.aloadN X8.here hx rfl (hb hby d78_36) rfl rfl (XS.iconst X8.here hx rfl (hb hby d78_37) k)) ?_
  obtain ⟨T9, h9, X9, e9, W9, st9⟩ := putFN X8 hx hZ hown (wk hw 135 rfl) Via.refl e8 zaa E_a1 (Or.inl (wk hw 136 rfl)) (wk hw 120 rfl) (ty := .byte) (v' := (.int (1 : Int32))) (by decide) rfl (by decide) (g := (mkF m 38 #[.val (.ref a1), .val (.ref t_4)] [(.int (1 : Int32)), (.ref a1)])) rfl rfl (hb hby d78_38)
  refine Go.st st9 ?_
  have N9 := Fr.snoc X9 N8 g_a1
  replace zab := zab.other W9 (Or.inr (slot_ne (a0 := a0) (Or.inl (wk hw 134 rfl)) (Or.inl (wk hw 136 rfl)) (by decide) (t := (.array .byte)) (t' := .byte) (by decide) (by decide)))
  replace zac := zac.other W9 (Or.inr (slot_ne (a0 := a0) (Or.inl (wk hw 151 rfl)) (Or.inl (wk hw 136 rfl)) (by decide) (t := .int) (t' := .byte) (by decide) (by decide)))
  replace zak := zak.other W9 (Or.inr (slot_ne (a0 := a0) (Or.inl (wk hw 447 rfl)) (Or.inl (wk hw 136 rfl)) (by decide) (t := .boolean) (t' := .byte) (by decide) (by decide)))
  replace zca := zca.other W9 (Ne.symm zfv)
  replace O := O.wr W9 g_a1
  replace K := K.wr W9 (Or.inl (List.mem_of_getElem? (i := 0) rfl))
  replace Zn : n0 ≤ h9.size := by rw [W9.size]; exact Zn
  replace zaa := zaa.same W9
  show Go p.tables e below PP (T9.setTop (mkF m 41 #[.val (.ref a1), .val (.ref t_4)] []))
  rw [hPP]
  refine endV X9 hx hlk hret (hb hby d78_41) ?_ (by decide) (by decide)
  rw [e9]
  exact ⟨t_4, fx_7, rfl, N9, K, zfu, zab, zac, zaa, zak, zca, zlb⟩
abbrev b_31 : ByteArray := jdk_68_method_71_code
theorem d31_0 : dk b_31 0 (.getstatic 18) 3 := by decide +kernel
theorem d31_3 : dk b_31 3 (.ifCond .eq 18) 3 := by decide +kernel
theorem d31_6 : dk b_31 6 (.aload_n 0) 1 := by decide +kernel
theorem d31_7 : dk b_31 7 (.getfield 22) 3 := by decide +kernel
theorem d31_10 : dk b_31 10 (.aload_n 1) 1 := by decide +kernel
theorem d31_11 : dk b_31 11 (.invokevirtual 40) 3 := by decide +kernel
theorem d31_14 : dk b_31 14 (.if_icmp .eq 7) 3 := by decide +kernel
theorem d31_17 : dk b_31 17 (.aload_n 0) 1 := by decide +kernel
theorem d31_18 : dk b_31 18 (.invokevirtual 195) 3 := by decide +kernel
theorem d31_21 : dk b_31 21 (.return_) 1 := by decide +kernel
abbrev r_rm31 : Room := { frames := 1, cells := 0, slots := 0, locals := 13 }
def Q31 (Z : State) (a1 : Addr) (a2 : Addr) (zc : Int32) (h0 : Heap) (n0 : Nat) (v : Option Value) (h : Heap) (L : List Loc) : Prop := v = none ∧ L = [] ∧ h = h0
theorem rm31 (l : Launch) (Z : State) (a0 : Array Value) (hw : HWt Z a0) (ws : List Jvm.Cond) (a1 : Addr) (a2 : Addr) (zc : Int32) (h0 : Heap) (n0 : Nat) (Z0 : n0 ≤ h0.size) (zaa : Fld Z h0 a1 k_8 "coder" "B" (.int (0 : Int32))) (zae : Fld Z h0 a2 k_14 "coder" "B" (.int (0 : Int32))) (E_a2 : Exa Z h0 a2 k_14) (SC : SS0 Z zc) (hzc : ¬ zc = (0 : Int32)) (O : Old Z n0 h0) :
    Con l Z y_31 jdk_68_method_71_code 2 none ws r_rm31 #[(.ref a1), (.ref a2)] h0 (Q31 Z a1 a2 zc h0 n0) := by
  refine Con.of2 (plainFor_of_name pn_rm42) ?_
  intro p e s m below meth c s₁ hZ e0 X0 hx hby hml hown hnm hret hlk PP hPP
  have N0 := Fr.nil n0
  refine Go.cast (ef_rm12 m a1 a2) ?_
  have Zn : n0 ≤ h0.size := Z0
  obtain ⟨T1, X1, e1, st1⟩ := getS2 X0 hx hZ hown (host := "") (Or.inl (wk hw 132 rfl)) Via.refl e0 (SC.ext O.2) (g := (mkF m 0 #[.val (.ref a1), .val (.ref a2)] [])) rfl (hb hby d31_0)
  refine Go.st st1 ?_
  refine Go.st (fun t k => XS.ifNo X1.here hx rfl (hb hby d31_3) rfl (XT.i0_eq_f hzc) (XS.aloadN X1.here hx rfl (hb hby d31_6) rfl rfl k)) ?_
  obtain ⟨T2, X2, e2, st2⟩ := getF X1 hx hZ hown (host := "") (Or.inl (wk hw 135 rfl)) Via.refl e1 zaa (g := (mkF m 7 #[.val (.ref a1), .val (.ref a2)] [(.ref a1)])) rfl rfl (hb hby d31_7)
  refine Go.st st2 ?_
  refine Go.st (fun t k => XS.aloadN X2.here hx rfl (hb hby d31_10) rfl rfl k) ?_
  obtain ⟨v3, T3, L3, X3, hQ3, st3⟩ := callVi X2 hx hZ (C := k_14) (y := y_18) (z := y_18) (a := a2) (argsL := []) (rest := [(.int (0 : Int32))]) hown (wk hw 167 rfl) (wk hw 91 rfl) (notFace_of_selects (args := #[]) (mvT hZ (wk hw 93 rfl))) (wk hw 93 rfl) (wk hw 92 rfl) (wk hw 14 rfl) (wk hw 94 rfl) (by decide) rfl E_a2 (rm18 l Z a0 hw [] a2 zc h0 n0 Zn zae SC hzc O) e2 1 (by decide) (by decide) (by decide) (by decide) (g := (mkF m 11 #[.val (.ref a1), .val (.ref a2)] [(.ref a2), (.int (0 : Int32))])) rfl (by rw [hml]; rfl) (lenOf pd_0 rfl) rfl (Nat.le_of_eq rfl) (hb hby d31_11)
  obtain ⟨rfl, rfl, e3⟩ := hQ3
  rw [List.append_nil] at X3
  refine Go.st st3 ?_
  refine Go.st (fun t k => XS.icmpYes X3.here hx rfl (pc0 := 14) (pc' := 21) rfl (hb hby d31_14) rfl (XT.ii_eq_t (by decide)) (by decide) (by decide) k) ?_
  show Go p.tables e below PP (T3.setTop (mkF m 21 #[.val (.ref a1), .val (.ref a2)] []))
  rw [hPP]
  refine endV X3 hx hlk hret (hb hby d31_21) ?_ (by decide) (by decide)
  rw [e3]
  exact ⟨rfl, rfl, rfl⟩
abbrev r_rm31u : Room := { frames := 6, cells := 1, slots := 68, locals := 89 }
def Q31u (Z : State) (a1 : Addr) (a2 : Addr) (tv : Addr) (fv : Nat → Int32) (zc : Int32) (sv : Value) (h0 : Heap) (n0 : Nat) (v : Option Value) (h : Heap) (L : List Loc) : Prop := ∃ (tv' : Addr) (f' : Nat → Int32), v = none ∧ Fr n0 L ∧ Keep h0 h [a1] ∧ h0.size ≤ tv' ∧ Fld Z h a1 k_8 "value" "[B" (.ref tv') ∧ Fld Z h a1 k_8 "count" "I" (.int (20 : Int32)) ∧ Fld Z h a1 k_8 "coder" "B" (.int (1 : Int32)) ∧ Fld Z h a1 k_8 "maybeLatin1" "Z" (.int (0 : Int32)) ∧ Afn Z h tv' .byte (68 : Int32) (fun k => .int (f' k)) ∧ ∀ j, j < 20 → f' (2 * j + 1) = (0 : Int32)
theorem pd_21 : parseMethodDescriptor "()V" = some ⟨[], none⟩ := by decide +kernel
theorem rm31u (l : Launch) (Z : State) (a0 : Array Value) (hw : HWt Z a0) (ws : List Jvm.Cond) (a1 : Addr) (a2 : Addr) (tv : Addr) (fv : Nat → Int32) (zc : Int32) (sv : Value) (h0 : Heap) (n0 : Nat) (Z0 : n0 ≤ h0.size) (E_a1 : Exa Z h0 a1 k_15) (zab : Fld Z h0 a1 k_8 "value" "[B" (.ref tv)) (zac : Fld Z h0 a1 k_8 "count" "I" (.int (20 : Int32))) (zaa : Fld Z h0 a1 k_8 "coder" "B" (.int (0 : Int32))) (zak : Fld Z h0 a1 k_8 "maybeLatin1" "Z" (.int (0 : Int32))) (V_tv : Afn Z h0 tv .byte (34 : Int32) (fun k => .int (fv k))) (zae : Fld Z h0 a2 k_14 "coder" "B" (.int (1 : Int32))) (E_a2 : Exa Z h0 a2 k_14) (g_a1 : n0 ≤ a1) (g_tv : n0 ≤ tv) (zau : a1 ≠ tv) (SC : SS0 Z zc) (hzc : ¬ zc = (0 : Int32)) (O : Old Z n0 h0) (SA : SS2 Z) (SHi : SS3 Z) (SLo : SS4 Z) (SV : SS1 Z sv) (hr_sv : sv.isRef = true) (zcb : a2 ≠ a1) :
    Con l Z y_31 jdk_68_method_71_code 2 none ws r_rm31u #[(.ref a1), (.ref a2)] h0 (Q31u Z a1 a2 tv fv zc sv h0 n0) := by
  refine Con.of2 (plainFor_of_name pn_rm42) ?_
  intro p e s m below meth c s₁ hZ e0 X0 hx hby hml hown hnm hret hlk PP hPP
  have N0 := Fr.nil n0
  refine Go.cast (ef_rm12 m a1 a2) ?_
  have K : Keep h0 h0 [a1] := Keep.refl h0 _
  have Zn : n0 ≤ h0.size := Z0
  obtain ⟨T1, X1, e1, st1⟩ := getS2 X0 hx hZ hown (host := "") (Or.inl (wk hw 132 rfl)) Via.refl e0 (SC.ext O.2) (g := (mkF m 0 #[.val (.ref a1), .val (.ref a2)] [])) rfl (hb hby d31_0)
  refine Go.st st1 ?_
  refine Go.st (fun t k => XS.ifNo X1.here hx rfl (hb hby d31_3) rfl (XT.i0_eq_f hzc) (XS.aloadN X1.here hx rfl (hb hby d31_6) rfl rfl k)) ?_
  obtain ⟨T2, X2, e2, st2⟩ := getF X1 hx hZ hown (host := "") (Or.inl (wk hw 135 rfl)) Via.refl e1 zaa (g := (mkF m 7 #[.val (.ref a1), .val (.ref a2)] [(.ref a1)])) rfl rfl (hb hby d31_7)
  refine Go.st st2 ?_
  refine Go.st (fun t k => XS.aloadN X2.here hx rfl (hb hby d31_10) rfl rfl k) ?_
  obtain ⟨v3, T3, L3, X3, hQ3, st3⟩ := callVi X2 hx hZ (C := k_14) (y := y_18) (z := y_18) (a := a2) (argsL := []) (rest := [(.int (0 : Int32))]) hown (wk hw 167 rfl) (wk hw 91 rfl) (notFace_of_selects (args := #[]) (mvT hZ (wk hw 93 rfl))) (wk hw 93 rfl) (wk hw 92 rfl) (wk hw 14 rfl) (wk hw 94 rfl) (by decide) rfl E_a2 (rm18u l Z a0 hw [] a2 zc h0 n0 Zn zae SC hzc O) e2 1 (by decide) (by decide) (by decide) (by decide) (g := (mkF m 11 #[.val (.ref a1), .val (.ref a2)] [(.ref a2), (.int (0 : Int32))])) rfl (by rw [hml]; rfl) (lenOf pd_0 rfl) rfl (Nat.le_of_eq rfl) (hb hby d31_11)
  obtain ⟨rfl, rfl, e3⟩ := hQ3
  rw [List.append_nil] at X3
  refine Go.st st3 ?_
  refine Go.st (fun t k => XS.icmpNo X3.here hx rfl (hb hby d31_14) rfl (XT.ii_eq_f (by decide)) (XS.aloadN X3.here hx rfl (hb hby d31_17) rfl rfl k)) ?_
  obtain ⟨v4, T4, L4, X4, hQ4, st4⟩ := callPr X3 hx hZ (y := y_78) (a := a1) (argsL := []) (rest := []) hown (wk hw 417 rfl) (wk hw 418 rfl) (selPriv2 (y := y_78) (nf_of (wk hw 420 rfl) rfl) (wk hw 419 rfl) (wk hw 418 rfl) (by decide)) (wk hw 419 rfl) (wk hw 129 rfl) (wk hw 421 rfl) (by decide) E_a1 (rm78 l Z a0 hw [] a1 tv fv zc sv h0 n0 Zn E_a1 zab zac zaa zak V_tv g_a1 g_tv zau SC hzc O SA SHi SLo SV hr_sv) e3 0 (by decide) (by decide) (by decide) (by decide) (g := (mkF m 18 #[.val (.ref a1), .val (.ref a2)] [(.ref a1)])) rfl (by rw [hml]; rfl) (lenOf pd_21 rfl) rfl (Nat.le_of_eq rfl) (hb hby d31_18)
  obtain ⟨h4, e4⟩ : ∃ z, T4.heap = z := ⟨_, rfl⟩
  rw [e4] at hQ4
  obtain ⟨zjt, fx_4, rfl, Nq4, Kq4, zea, zaw, zbr, zck, zcl, zdc, zcx⟩ := hQ4
  have N4 := Fr.app N0 Nq4
  have zlc : h0.size ≤ zjt := Nat.le_trans K.1 zea
  replace O := O.keep Kq4 (allS g_a1 all0)
  replace K := K.trans Kq4 (allS (Or.inl (List.mem_of_getElem? (i := 0) rfl)) all0)
  replace Zn := Nat.le_trans Zn Kq4.1
  refine Go.st st4 ?_
  show Go p.tables e below PP (T4.setTop (mkF m 21 #[.val (.ref a1), .val (.ref a2)] []))
  rw [hPP]
  refine endV X4 hx hlk hret (hb hby d31_21) ?_ (by decide) (by decide)
  rw [e4]
  exact ⟨zjt, fx_4, rfl, N4, K, zlc, zaw, zbr, zck, zcl, zdc, zcx⟩
abbrev r_rm21_3 : Room := { frames := 0, cells := 0, slots := 0, locals := 0 }
theorem pn_rm21_3 : plainFor y_21 = true := Jvm.Free.JP.mathPlain rfl (by decide +kernel)
theorem ef_rm21_3 (m : MethodId)  : entryFrame m #[(.int (3 : Int32)), (.int (18 : Int32))] 2 = mkF m 0 #[.val (.int (3 : Int32)), .val (.int (18 : Int32))] [] := by first | (simp [entryFrame, mkF, argsToLocals, Value.category]; done) | rfl
def Q21_3 (Z : State)  (h0 : Heap) (n0 : Nat) (v : Option Value) (h : Heap) (L : List Loc) : Prop := v = some (.int (18 : Int32)) ∧ L = [] ∧ h = h0
theorem rm21_3 (l : Launch) (Z : State) (a0 : Array Value) (hw : HWt Z a0) (ws : List Jvm.Cond)  (h0 : Heap) (n0 : Nat) (Z0 : n0 ≤ h0.size) :
    Con l Z y_21 jdk_29_method_65_code 2 (some .int) ws r_rm21_3 #[(.int (3 : Int32)), (.int (18 : Int32))] h0 (Q21_3 Z  h0 n0) := by
  refine Con.of2 pn_rm21_3 ?_
  intro p e s m below meth c s₁ hZ e0 X0 hx hby hml hown hnm hret hlk PP hPP
  have N0 := Fr.nil n0
  refine Go.cast (ef_rm21_3 m ) ?_
  have Zn : n0 ≤ h0.size := Z0
  show Go p.tables e below PP (s₁.setTop (mkF m 0 #[.val (.int (3 : Int32)), .val (.int (18 : Int32))] []))
  refine Go.st (fun t k => XS.iloadN X0.here hx rfl (hb hby d21_0) rfl (XS.iloadN X0.here hx rfl (hb hby d21_1) rfl (XS.icmpYes X0.here hx rfl (pc0 := 2) (pc' := 9) rfl (hb hby d21_2) rfl (XT.ii_lt_t (by decide)) (by decide) (by decide) (XS.iloadN X0.here hx rfl (hb hby d21_9) rfl k)))) ?_
  show Go p.tables e below PP (s₁.setTop (mkF m 10 #[.val (.int (3 : Int32)), .val (.int (18 : Int32))] [(.int (18 : Int32))]))
  rw [hPP]
  refine endI X0 hx hlk hret (hb hby d21_10) ?_ (by decide) (by decide)
  rw [e0]
  exact ⟨rfl, rfl, rfl⟩
abbrev b_34 : ByteArray := jdk_48_method_27_code
theorem d34_0 : dk b_34 0 (.iload_n 0) 1 := by decide +kernel
theorem d34_1 : dk b_34 1 (.iload_n 1) 1 := by decide +kernel
theorem d34_2 : dk b_34 2 (.iload_n 2) 1 := by decide +kernel
theorem d34_3 : dk b_34 3 (.invokestatic 194) 3 := by decide +kernel
theorem d34_6 : dk b_34 6 (.iadd) 1 := by decide +kernel
theorem d34_7 : dk b_34 7 (.istore_n 3) 1 := by decide +kernel
theorem d34_8 : dk b_34 8 (.iconst 0) 1 := by decide +kernel
theorem d34_9 : dk b_34 9 (.iload_n 3) 1 := by decide +kernel
theorem d34_10 : dk b_34 10 (.if_icmp .ge 11) 3 := by decide +kernel
theorem d34_13 : dk b_34 13 (.iload_n 3) 1 := by decide +kernel
theorem d34_14 : dk b_34 14 (.ldc 200) 2 := by decide +kernel
theorem d34_16 : dk b_34 16 (.if_icmp .gt 5) 3 := by decide +kernel
theorem d34_19 : dk b_34 19 (.iload_n 3) 1 := by decide +kernel
theorem d34_20 : dk b_34 20 (.ireturn) 1 := by decide +kernel
abbrev r_rm34 : Room := { frames := 1, cells := 0, slots := 0, locals := 14 }
theorem pn_rm34 : plainName "jdk/internal/util/ArraysSupport" = true := by first | (simp [plainName, overriddenIn]; done) | decide +kernel
theorem ef_rm34 (m : MethodId)  : entryFrame m #[(.int (16 : Int32)), (.int (3 : Int32)), (.int (18 : Int32))] 4 = mkF m 0 #[.val (.int (16 : Int32)), .val (.int (3 : Int32)), .val (.int (18 : Int32)), .unset] [] := by first | (simp [entryFrame, mkF, argsToLocals, Value.category]; done) | rfl
def Q34 (Z : State)  (h0 : Heap) (n0 : Nat) (v : Option Value) (h : Heap) (L : List Loc) : Prop := v = some (.int (34 : Int32)) ∧ L = [] ∧ h = h0
theorem rm34 (l : Launch) (Z : State) (a0 : Array Value) (hw : HWt Z a0) (ws : List Jvm.Cond)  (h0 : Heap) (n0 : Nat) (Z0 : n0 ≤ h0.size) :
    Con l Z y_34 jdk_48_method_27_code 4 (some .int) ws r_rm34 #[(.int (16 : Int32)), (.int (3 : Int32)), (.int (18 : Int32))] h0 (Q34 Z  h0 n0) := by
  refine Con.of2 (plainFor_of_name pn_rm34) ?_
  intro p e s m below meth c s₁ hZ e0 X0 hx hby hml hown hnm hret hlk PP hPP
  have N0 := Fr.nil n0
  refine Go.cast (ef_rm34 m ) ?_
  have Zn : n0 ≤ h0.size := Z0
  show Go p.tables e below PP (s₁.setTop (mkF m 0 #[.val (.int (16 : Int32)), .val (.int (3 : Int32)), .val (.int (18 : Int32)), .unset] []))
  refine Go.st (fun t k => XS.iloadN X0.here hx rfl (hb hby d34_0) rfl (XS.iloadN X0.here hx rfl (hb hby d34_1) rfl (XS.iloadN X0.here hx rfl (hb hby d34_2) rfl k))) ?_
  obtain ⟨v1, T1, L1, X1, hQ1, st1⟩ := callSt X0 hx hZ (y := y_21) (argsL := [(.int (3 : Int32)), (.int (18 : Int32))]) (rest := [(.int (16 : Int32))]) hown (wk hw 189 rfl) (wk hw 102 rfl) (wk hw 103 rfl) (wk hw 104 rfl) (by decide) (rm21_3 l Z a0 hw []  h0 n0 Zn) e0 1 (by decide) (by decide) (by decide) (by decide) (g := (mkF m 3 #[.val (.int (16 : Int32)), .val (.int (3 : Int32)), .val (.int (18 : Int32)), .unset] [(.int (18 : Int32)), (.int (3 : Int32)), (.int (16 : Int32))])) rfl (by rw [hml]; rfl) (lenOf pd_2 rfl) rfl (Nat.le_of_eq rfl) (hb hby d34_3)
  obtain ⟨rfl, rfl, e1⟩ := hQ1
  rw [List.append_nil] at X1
  refine Go.st st1 ?_
  refine Go.st (fun t k => XS.iadd X1.here hx rfl (hb hby d34_6) rfl k) ?_
  show Go p.tables e below PP (T1.setTop (mkF m 7 #[.val (.int (16 : Int32)), .val (.int (3 : Int32)), .val (.int (18 : Int32)), .unset] [(.int (34 : Int32))]))
  refine Go.st (fun t k => XS.istoreN X1.here hx rfl (hb hby d34_7) rfl (l' := #[.val (.int (16 : Int32)), .val (.int (3 : Int32)), .val (.int (18 : Int32)), .val (.int (34 : Int32))]) rfl (XS.iconst X1.here hx rfl (hb hby d34_8) (XS.iloadN X1.here hx rfl (hb hby d34_9) rfl (XS.icmpNo X1.here hx rfl (hb hby d34_10) rfl (XT.ii_ge_f (by decide)) (XS.iloadN X1.here hx rfl (hb hby d34_13) rfl k))))) ?_
  show Go p.tables e below PP (T1.setTop (mkF m 14 #[.val (.int (16 : Int32)), .val (.int (3 : Int32)), .val (.int (18 : Int32)), .val (.int (34 : Int32))] [(.int (34 : Int32))]))
  refine Go.st (fun t k => X1.ldcI hx hown (mvT hZ (wk hw 190 rfl)) (g := (mkF m 14 #[.val (.int (16 : Int32)), .val (.int (3 : Int32)), .val (.int (18 : Int32)), .val (.int (34 : Int32))] [(.int (34 : Int32))])) rfl (hb hby d34_14) (XS.icmpNo X1.here hx rfl (hb hby d34_16) rfl (XT.ii_gt_f (by decide)) (XS.iloadN X1.here hx rfl (hb hby d34_19) rfl k))) ?_
  show Go p.tables e below PP (T1.setTop (mkF m 20 #[.val (.int (16 : Int32)), .val (.int (3 : Int32)), .val (.int (18 : Int32)), .val (.int (34 : Int32))] [(.int (34 : Int32))]))
  rw [hPP]
  refine endI X1 hx hlk hret (hb hby d34_20) ?_ (by decide) (by decide)
  rw [e1]
  exact ⟨rfl, rfl, rfl⟩
abbrev b_33 : ByteArray := jdk_68_method_10_code
theorem d33_0 : dk b_33 0 (.aload_n 0) 1 := by decide +kernel
theorem d33_1 : dk b_33 1 (.getfield 15) 3 := by decide +kernel
theorem d33_4 : dk b_33 4 (.arraylength) 1 := by decide +kernel
theorem d33_5 : dk b_33 5 (.istore_n 2) 1 := by decide +kernel
theorem d33_6 : dk b_33 6 (.iload_n 1) 1 := by decide +kernel
theorem d33_7 : dk b_33 7 (.aload_n 0) 1 := by decide +kernel
theorem d33_8 : dk b_33 8 (.getfield 22) 3 := by decide +kernel
theorem d33_11 : dk b_33 11 (.ishl) 1 := by decide +kernel
theorem d33_12 : dk b_33 12 (.istore_n 3) 1 := by decide +kernel
theorem d33_13 : dk b_33 13 (.iload_n 3) 1 := by decide +kernel
theorem d33_14 : dk b_33 14 (.iload_n 2) 1 := by decide +kernel
theorem d33_15 : dk b_33 15 (.isub) 1 := by decide +kernel
theorem d33_16 : dk b_33 16 (.istore 4) 2 := by decide +kernel
theorem d33_18 : dk b_33 18 (.iload_n 2) 1 := by decide +kernel
theorem d33_19 : dk b_33 19 (.iload 4) 2 := by decide +kernel
theorem d33_21 : dk b_33 21 (.iload_n 2) 1 := by decide +kernel
theorem d33_22 : dk b_33 22 (.iconst 2) 1 := by decide +kernel
theorem d33_23 : dk b_33 23 (.aload_n 0) 1 := by decide +kernel
theorem d33_24 : dk b_33 24 (.getfield 22) 3 := by decide +kernel
theorem d33_27 : dk b_33 27 (.ishl) 1 := by decide +kernel
theorem d33_28 : dk b_33 28 (.iadd) 1 := by decide +kernel
theorem d33_29 : dk b_33 29 (.invokestatic 114) 3 := by decide +kernel
theorem d33_32 : dk b_33 32 (.istore 5) 2 := by decide +kernel
theorem d33_34 : dk b_33 34 (.iload 5) 2 := by decide +kernel
theorem d33_36 : dk b_33 36 (.ldc 39) 2 := by decide +kernel
theorem d33_38 : dk b_33 38 (.if_icmp .ne 13) 3 := by decide +kernel
theorem d33_51 : dk b_33 51 (.iload 5) 2 := by decide +kernel
theorem d33_53 : dk b_33 53 (.aload_n 0) 1 := by decide +kernel
theorem d33_54 : dk b_33 54 (.getfield 22) 3 := by decide +kernel
theorem d33_57 : dk b_33 57 (.ishr) 1 := by decide +kernel
theorem d33_58 : dk b_33 58 (.ireturn) 1 := by decide +kernel
abbrev r_rm33 : Room := { frames := 2, cells := 0, slots := 0, locals := 29 }
theorem ef_rm33 (m : MethodId) (a1 : Addr) : entryFrame m #[(.ref a1), (.int (19 : Int32))] 6 = mkF m 0 #[.val (.ref a1), .val (.int (19 : Int32)), .unset, .unset, .unset, .unset] [] := by first | (simp [entryFrame, mkF, argsToLocals, Value.category]; done) | rfl
def Q33 (Z : State) (a1 : Addr) (tv : Addr) (fv : Nat → Int32) (h0 : Heap) (n0 : Nat) (v : Option Value) (h : Heap) (L : List Loc) : Prop := v = some (.int (34 : Int32)) ∧ L = [] ∧ h = h0
theorem rm33 (l : Launch) (Z : State) (a0 : Array Value) (hw : HWt Z a0) (ws : List Jvm.Cond) (a1 : Addr) (tv : Addr) (fv : Nat → Int32) (h0 : Heap) (n0 : Nat) (Z0 : n0 ≤ h0.size) (E_a1 : Exa Z h0 a1 k_15) (zab : Fld Z h0 a1 k_8 "value" "[B" (.ref tv)) (zac : Fld Z h0 a1 k_8 "count" "I" (.int (14 : Int32))) (zaa : Fld Z h0 a1 k_8 "coder" "B" (.int (0 : Int32))) (zak : Fld Z h0 a1 k_8 "maybeLatin1" "Z" (.int (0 : Int32))) (V_tv : Afn Z h0 tv .byte (16 : Int32) (fun k => .int (fv k))) :
    Con l Z y_33 jdk_68_method_10_code 6 (some .int) ws r_rm33 #[(.ref a1), (.int (19 : Int32))] h0 (Q33 Z a1 tv fv h0 n0) := by
  refine Con.of2 (plainFor_of_name pn_rm42) ?_
  intro p e s m below meth c s₁ hZ e0 X0 hx hby hml hown hnm hret hlk PP hPP
  have N0 := Fr.nil n0
  refine Go.cast (ef_rm33 m a1) ?_
  have Zn : n0 ≤ h0.size := Z0
  show Go p.tables e below PP (s₁.setTop (mkF m 0 #[.val (.ref a1), .val (.int (19 : Int32)), .unset, .unset, .unset, .unset] []))
  refine Go.st (fun t k => XS.aloadN X0.here hx rfl (hb hby d33_0) rfl rfl k) ?_
  obtain ⟨T1, X1, e1, st1⟩ := getF X0 hx hZ hown (host := "") (Or.inl (wk hw 133 rfl)) Via.refl e0 zab (g := (mkF m 1 #[.val (.ref a1), .val (.int (19 : Int32)), .unset, .unset, .unset, .unset] [(.ref a1)])) rfl rfl (hb hby d33_1)
  refine Go.st st1 ?_
  obtain ⟨cl2, Ar2, S2, Nn2, -⟩ := id V_tv
  refine Go.st (fun t k => X1.arraylength hx (by rw [e1]; exact Ar2.1) (State.isArrayOf_alike hZ.alike Ar2.2.1) (g := (mkF m 4 #[.val (.ref a1), .val (.int (19 : Int32)), .unset, .unset, .unset, .unset] [(.ref tv)])) rfl rfl (hb hby d33_4) _ k) ?_
  rw [len_of S2 Nn2]
  refine Go.st (fun t k => XS.istoreN X1.here hx rfl (hb hby d33_5) rfl (l' := #[.val (.ref a1), .val (.int (19 : Int32)), .val (.int (16 : Int32)), .unset, .unset, .unset]) rfl (XS.iloadN X1.here hx rfl (hb hby d33_6) rfl (XS.aloadN X1.here hx rfl (hb hby d33_7) rfl rfl k))) ?_
  obtain ⟨T3, X3, e3, st3⟩ := getF X1 hx hZ hown (host := "") (Or.inl (wk hw 135 rfl)) Via.refl e1 zaa (g := (mkF m 8 #[.val (.ref a1), .val (.int (19 : Int32)), .val (.int (16 : Int32)), .unset, .unset, .unset] [(.ref a1), (.int (19 : Int32))])) rfl rfl (hb hby d33_8)
  refine Go.st st3 ?_
  show Go p.tables e below PP (T3.setTop (mkF m 11 #[.val (.ref a1), .val (.int (19 : Int32)), .val (.int (16 : Int32)), .unset, .unset, .unset] [(.int (0 : Int32)), (.int (19 : Int32))]))
  refine Go.st (fun t k => XS.ishl X3.here hx rfl (hb hby d33_11) rfl k) ?_
  show Go p.tables e below PP (T3.setTop (mkF m 12 #[.val (.ref a1), .val (.int (19 : Int32)), .val (.int (16 : Int32)), .unset, .unset, .unset] [(.int ((19 : Int32) <<< ((0 : Int32) &&& 31)))]))
  rw [show ((19 : Int32) <<< ((0 : Int32) &&& 31)) = (19 : Int32) from by decide]
  show Go p.tables e below PP (T3.setTop (mkF m 12 #[.val (.ref a1), .val (.int (19 : Int32)), .val (.int (16 : Int32)), .unset, .unset, .unset] [(.int (19 : Int32))]))
  refine Go.st (fun t k => XS.istoreN X3.here hx rfl (hb hby d33_12) rfl (l' := #[.val (.ref a1), .val (.int (19 : Int32)), .val (.int (16 : Int32)), .val (.int (19 : Int32)), .unset, .unset]) rfl (XS.iloadN X3.here hx rfl (hb hby d33_13) rfl (XS.iloadN X3.here hx rfl (hb hby d33_14) rfl (XS.isub X3.here hx rfl (hb hby d33_15) rfl k)))) ?_
  show Go p.tables e below PP (T3.setTop (mkF m 16 #[.val (.ref a1), .val (.int (19 : Int32)), .val (.int (16 : Int32)), .val (.int (19 : Int32)), .unset, .unset] [(.int (3 : Int32))]))
  refine Go.st (fun t k => XS.istore X3.here hx rfl (hb hby d33_16) rfl (l' := #[.val (.ref a1), .val (.int (19 : Int32)), .val (.int (16 : Int32)), .val (.int (19 : Int32)), .val (.int (3 : Int32)), .unset]) rfl (XS.iloadN X3.here hx rfl (hb hby d33_18) rfl (XS.iload X3.here hx rfl (hb hby d33_19) rfl (XS.iloadN X3.here hx rfl (hb hby d33_21) rfl (XS.iconst X3.here hx rfl (hb hby d33_22) (XS.aloadN X3.here hx rfl (hb hby d33_23) rfl rfl k)))))) ?_
  obtain ⟨T4, X4, e4, st4⟩ := getF X3 hx hZ hown (host := "") (Or.inl (wk hw 135 rfl)) Via.refl e3 zaa (g := (mkF m 24 #[.val (.ref a1), .val (.int (19 : Int32)), .val (.int (16 : Int32)), .val (.int (19 : Int32)), .val (.int (3 : Int32)), .unset] [(.ref a1), (.int (2 : Int32)), (.int (16 : Int32)), (.int (3 : Int32)), (.int (16 : Int32))])) rfl rfl (hb hby d33_24)
  refine Go.st st4 ?_
  show Go p.tables e below PP (T4.setTop (mkF m 27 #[.val (.ref a1), .val (.int (19 : Int32)), .val (.int (16 : Int32)), .val (.int (19 : Int32)), .val (.int (3 : Int32)), .unset] [(.int (0 : Int32)), (.int (2 : Int32)), (.int (16 : Int32)), (.int (3 : Int32)), (.int (16 : Int32))]))
  refine Go.st (fun t k => XS.ishl X4.here hx rfl (hb hby d33_27) rfl k) ?_
  show Go p.tables e below PP (T4.setTop (mkF m 28 #[.val (.ref a1), .val (.int (19 : Int32)), .val (.int (16 : Int32)), .val (.int (19 : Int32)), .val (.int (3 : Int32)), .unset] [(.int ((2 : Int32) <<< ((0 : Int32) &&& 31))), (.int (16 : Int32)), (.int (3 : Int32)), (.int (16 : Int32))]))
  rw [show ((2 : Int32) <<< ((0 : Int32) &&& 31)) = (2 : Int32) from by decide]
  show Go p.tables e below PP (T4.setTop (mkF m 28 #[.val (.ref a1), .val (.int (19 : Int32)), .val (.int (16 : Int32)), .val (.int (19 : Int32)), .val (.int (3 : Int32)), .unset] [(.int (2 : Int32)), (.int (16 : Int32)), (.int (3 : Int32)), (.int (16 : Int32))]))
  refine Go.st (fun t k => XS.iadd X4.here hx rfl (hb hby d33_28) rfl k) ?_
  show Go p.tables e below PP (T4.setTop (mkF m 29 #[.val (.ref a1), .val (.int (19 : Int32)), .val (.int (16 : Int32)), .val (.int (19 : Int32)), .val (.int (3 : Int32)), .unset] [(.int (18 : Int32)), (.int (3 : Int32)), (.int (16 : Int32))]))
  obtain ⟨v5, T5, L5, X5, hQ5, st5⟩ := callSt X4 hx hZ (y := y_34) (argsL := [(.int (16 : Int32)), (.int (3 : Int32)), (.int (18 : Int32))]) (rest := []) hown (wk hw 185 rfl) (wk hw 186 rfl) (wk hw 187 rfl) (wk hw 188 rfl) (by decide) (rm34 l Z a0 hw []  h0 n0 Zn) e4 0 (by decide) (by decide) (by decide) (by decide) (g := (mkF m 29 #[.val (.ref a1), .val (.int (19 : Int32)), .val (.int (16 : Int32)), .val (.int (19 : Int32)), .val (.int (3 : Int32)), .unset] [(.int (18 : Int32)), (.int (3 : Int32)), (.int (16 : Int32))])) rfl (by rw [hml]; rfl) (lenOf pd_16 rfl) rfl (Nat.le_of_eq rfl) (hb hby d33_29)
  obtain ⟨rfl, rfl, e5⟩ := hQ5
  rw [List.append_nil] at X5
  refine Go.st st5 ?_
  refine Go.st (fun t k => XS.istore X5.here hx rfl (hb hby d33_32) rfl (l' := #[.val (.ref a1), .val (.int (19 : Int32)), .val (.int (16 : Int32)), .val (.int (19 : Int32)), .val (.int (3 : Int32)), .val (.int (34 : Int32))]) rfl (XS.iload X5.here hx rfl (hb hby d33_34) rfl k)) ?_
  show Go p.tables e below PP (T5.setTop (mkF m 36 #[.val (.ref a1), .val (.int (19 : Int32)), .val (.int (16 : Int32)), .val (.int (19 : Int32)), .val (.int (3 : Int32)), .val (.int (34 : Int32))] [(.int (34 : Int32))]))
  refine Go.st (fun t k => X5.ldcI hx hown (mvT hZ (wk hw 191 rfl)) (g := (mkF m 36 #[.val (.ref a1), .val (.int (19 : Int32)), .val (.int (16 : Int32)), .val (.int (19 : Int32)), .val (.int (3 : Int32)), .val (.int (34 : Int32))] [(.int (34 : Int32))])) rfl (hb hby d33_36) (XS.icmpYes X5.here hx rfl (pc0 := 38) (pc' := 51) rfl (hb hby d33_38) rfl (XT.ii_ne_t (by decide)) (by decide) (by decide) (XS.iload X5.here hx rfl (hb hby d33_51) rfl (XS.aloadN X5.here hx rfl (hb hby d33_53) rfl rfl k)))) ?_
  obtain ⟨T6, X6, e6, st6⟩ := getF X5 hx hZ hown (host := "") (Or.inl (wk hw 135 rfl)) Via.refl e5 zaa (g := (mkF m 54 #[.val (.ref a1), .val (.int (19 : Int32)), .val (.int (16 : Int32)), .val (.int (19 : Int32)), .val (.int (3 : Int32)), .val (.int (34 : Int32))] [(.ref a1), (.int (34 : Int32))])) rfl rfl (hb hby d33_54)
  refine Go.st st6 ?_
  show Go p.tables e below PP (T6.setTop (mkF m 57 #[.val (.ref a1), .val (.int (19 : Int32)), .val (.int (16 : Int32)), .val (.int (19 : Int32)), .val (.int (3 : Int32)), .val (.int (34 : Int32))] [(.int (0 : Int32)), (.int (34 : Int32))]))
  refine Go.st (fun t k => XS.ishr X6.here hx rfl (hb hby d33_57) rfl k) ?_
  show Go p.tables e below PP (T6.setTop (mkF m 58 #[.val (.ref a1), .val (.int (19 : Int32)), .val (.int (16 : Int32)), .val (.int (19 : Int32)), .val (.int (3 : Int32)), .val (.int (34 : Int32))] [(.int ((34 : Int32) >>> ((0 : Int32) &&& 31)))]))
  rw [show ((34 : Int32) >>> ((0 : Int32) &&& 31)) = (34 : Int32) from by decide]
  show Go p.tables e below PP (T6.setTop (mkF m 58 #[.val (.ref a1), .val (.int (19 : Int32)), .val (.int (16 : Int32)), .val (.int (19 : Int32)), .val (.int (3 : Int32)), .val (.int (34 : Int32))] [(.int (34 : Int32))]))
  rw [hPP]
  refine endI X6 hx hlk hret (hb hby d33_58) ?_ (by decide) (by decide)
  rw [e6]
  exact ⟨rfl, rfl, rfl⟩
abbrev b_35 : ByteArray := jdk_65_method_121_code
theorem d35_0 : dk b_35 0 (.iload_n 1) 1 := by decide +kernel
theorem d35_1 : dk b_35 1 (.aload_n 0) 1 := by decide +kernel
theorem d35_2 : dk b_35 2 (.arraylength) 1 := by decide +kernel
theorem d35_3 : dk b_35 3 (.if_icmp .ne 11) 3 := by decide +kernel
theorem d35_14 : dk b_35 14 (.iload_n 1) 1 := by decide +kernel
theorem d35_15 : dk b_35 15 (.newarray .byte) 2 := by decide +kernel
theorem d35_17 : dk b_35 17 (.astore_n 2) 1 := by decide +kernel
theorem d35_18 : dk b_35 18 (.aload_n 0) 1 := by decide +kernel
theorem d35_19 : dk b_35 19 (.iconst 0) 1 := by decide +kernel
theorem d35_20 : dk b_35 20 (.aload_n 2) 1 := by decide +kernel
theorem d35_21 : dk b_35 21 (.iconst 0) 1 := by decide +kernel
theorem d35_22 : dk b_35 22 (.aload_n 0) 1 := by decide +kernel
theorem d35_23 : dk b_35 23 (.arraylength) 1 := by decide +kernel
theorem d35_24 : dk b_35 24 (.iload_n 1) 1 := by decide +kernel
theorem d35_25 : dk b_35 25 (.invokestatic 304) 3 := by decide +kernel
theorem d35_28 : dk b_35 28 (.invokestatic 150) 3 := by decide +kernel
theorem d35_31 : dk b_35 31 (.aload_n 2) 1 := by decide +kernel
theorem d35_32 : dk b_35 32 (.areturn) 1 := by decide +kernel
abbrev r_rm35 : Room := { frames := 1, cells := 1, slots := 34, locals := 40 }
theorem ef_rm35 (m : MethodId) (a1 : Addr) (p2 : Int32) : entryFrame m #[(.ref a1), (.int p2)] 3 = mkF m 0 #[.val (.ref a1), .val (.int p2), .unset] [] := by first | (simp [entryFrame, mkF, argsToLocals, Value.category]; done) | rfl
def Q35 (Z : State) (a1 : Addr) (p2 : Int32) (n1 : Int32) (f1 : Nat → Int32) (h0 : Heap) (n0 : Nat) (v : Option Value) (h : Heap) (L : List Loc) : Prop := ∃ (t : Addr), v = some (.ref t) ∧ Fr n0 L ∧ Keep h0 h [] ∧ h0.size ≤ t ∧ Afn Z h t .byte p2 (fun k => .int (if k < n1.toNatClampNeg then f1 k else 0))
theorem rm35 (l : Launch) (Z : State) (a0 : Array Value) (hw : HWt Z a0) (ws : List Jvm.Cond) (a1 : Addr) (p2 : Int32) (n1 : Int32) (f1 : Nat → Int32) (h0 : Heap) (n0 : Nat) (Z0 : n0 ≤ h0.size) (V_a1 : Afn Z h0 a1 .byte n1 (fun k => .int (f1 k))) (hp : ¬ p2 < (0 : Int32) ∧ p2.toNatClampNeg ≤ 34 ∧ ¬ p2 = n1) :
    Con l Z y_35 jdk_65_method_121_code 3 (some (.array .byte)) ws r_rm35 #[(.ref a1), (.int p2)] h0 (Q35 Z a1 p2 n1 f1 h0 n0) := by
  refine Con.of2 (plainFor_of_name pn_rm45) ?_
  intro p e s m below meth c s₁ hZ e0 X0 hx hby hml hown hnm hret hlk PP hPP
  have N0 := Fr.nil n0
  refine Go.cast (ef_rm35 m a1 p2) ?_
  have K : Keep h0 h0 [] := Keep.refl h0 _
  have Zn : n0 ≤ h0.size := Z0
  show Go p.tables e below PP (s₁.setTop (mkF m 0 #[.val (.ref a1), .val (.int p2), .unset] []))
  refine Go.st (fun t k => XS.iloadN X0.here hx rfl (hb hby d35_0) rfl (XS.aloadN X0.here hx rfl (hb hby d35_1) rfl rfl k)) ?_
  obtain ⟨cl1, Ar1, S1, Nn1, -⟩ := id V_a1
  refine Go.st (fun t k => X0.arraylength hx (by rw [e0]; exact Ar1.1) (State.isArrayOf_alike hZ.alike Ar1.2.1) (g := (mkF m 2 #[.val (.ref a1), .val (.int p2), .unset] [(.ref a1), (.int p2)])) rfl rfl (hb hby d35_2) _ k) ?_
  rw [len_of S1 Nn1]
  refine Go.st (fun t k => XS.icmpYes X0.here hx rfl (pc0 := 3) (pc' := 14) rfl (hb hby d35_3) rfl (XT.ii_ne_t hp.2.2) (by decide) (by decide) (XS.iloadN X0.here hx rfl (hb hby d35_14) rfl k)) ?_
  obtain ⟨T2, h2, k2, X2, e2, E2, A2, st2⟩ := newP X0 hx hZ (wk hw 4 rfl) e0 (g := (mkF m 15 #[.val (.ref a1), .val (.int p2), .unset] [(.int p2)])) rfl (hb hby d35_15) rfl hp.1 (cap := 34) hp.2.1 (by decide) (by decide) (by decide)
  obtain ⟨b2, gz2⟩ : ∃ z, z = h0.size := ⟨_, rfl⟩
  rw [← gz2] at A2 st2
  have g_b2 : n0 ≤ b2 := Nat.le_trans Zn (Nat.le_of_eq gz2.symm)
  have zbz : h0.size ≤ b2 := Nat.le_trans K.1 (Nat.le_of_eq gz2.symm)
  refine Go.st st2 ?_
  replace V_a1 := V_a1.ext E2
  replace K := K.ext E2
  replace Zn := Nat.le_trans Zn E2.1
  have V_b2 : Afn Z h2 b2 .byte p2 (fun _ => (.int (0 : Int32))) := Afn.new A2 hp.1
  refine Go.st (fun t k => XS.astoreN X2.here hx rfl (hb hby d35_17) rfl rfl (l' := #[.val (.ref a1), .val (.int p2), .val (.ref b2)]) rfl (XS.aloadN X2.here hx rfl (hb hby d35_18) rfl rfl (XS.iconst X2.here hx rfl (hb hby d35_19) (XS.aloadN X2.here hx rfl (hb hby d35_20) rfl rfl (XS.iconst X2.here hx rfl (hb hby d35_21) (XS.aloadN X2.here hx rfl (hb hby d35_22) rfl rfl k)))))) ?_
  obtain ⟨cl3, Ar3, S3, Nn3, -⟩ := id V_a1
  refine Go.st (fun t k => X2.arraylength hx (by rw [e2]; exact Ar3.1) (State.isArrayOf_alike hZ.alike Ar3.2.1) (g := (mkF m 23 #[.val (.ref a1), .val (.int p2), .val (.ref b2)] [(.ref a1), (.int (0 : Int32)), (.ref b2), (.int (0 : Int32)), (.ref a1)])) rfl rfl (hb hby d35_23) _ k) ?_
  rw [len_of S3 Nn3]
  refine Go.st (fun t k => XS.iloadN X2.here hx rfl (hb hby d35_24) rfl k) ?_
  obtain ⟨v4, T4, L4, X4, hQ4, st4⟩ := callSt X2 hx hZ (y := y_22) (argsL := [(.int n1), (.int p2)]) (rest := [(.int (0 : Int32)), (.ref b2), (.int (0 : Int32)), (.ref a1)]) hown (wk hw 196 rfl) (wk hw 106 rfl) (wk hw 103 rfl) (wk hw 107 rfl) (by decide) (rm22 l Z a0 hw [] n1 p2 h2 n0 Zn) e2 4 (by decide) (by decide) (by decide) (by decide) (g := (mkF m 25 #[.val (.ref a1), .val (.int p2), .val (.ref b2)] [(.int p2), (.int n1), (.int (0 : Int32)), (.ref b2), (.int (0 : Int32)), (.ref a1)])) rfl (by rw [hml]; rfl) (lenOf pd_2 rfl) rfl (Nat.le_of_eq rfl) (hb hby d35_25)
  obtain ⟨rfl, rfl, e4⟩ := hQ4
  rw [List.append_nil] at X4
  refine Go.st st4 ?_
  generalize hmn : (if p2 < n1 then p2 else n1) = mn
  obtain ⟨T5, h5, L5, X5, e5, N5, Kq5, Vq5, st5⟩ := cpF X4 hx hZ hown (wk hw 197 rfl) (wk hw 176 rfl) (wk hw 174 rfl) (wk hw 175 rfl) e4 V_a1 V_b2 rfl (by decide) (by decide) ((own_mn hmn hp.1 V_a1.nn).1) (by have e : (0 : Int32).toNatClampNeg = 0 := rfl; have a := own_mn hmn hp.1 V_a1.nn; omega) (by have e : (0 : Int32).toNatClampNeg = 0 := rfl; have a := own_mn hmn hp.1 V_a1.nn; omega) N0 g_b2 (g := (mkF m 28 #[.val (.ref a1), .val (.int p2), .val (.ref b2)] [(.int mn), (.int (0 : Int32)), (.ref b2), (.int (0 : Int32)), (.ref a1)])) rfl (by rw [hml]; rfl) rfl (hb hby d35_28) (by decide) (W := 0) (by show 2 * 0 + _ ≤ _; exact Nat.le_of_eq rfl) (by decide)
  replace K := K.trans Kq5 (allS (Or.inr zbz) all0)
  replace Zn := Nat.le_trans Zn Kq5.1
  have V_b2 := Vq5
  refine Go.st st5 ?_
  refine Go.st (fun t k => XS.aloadN X5.here hx rfl (hb hby d35_31) rfl rfl k) ?_
  show Go p.tables e below PP (T5.setTop (mkF m 32 #[.val (.ref a1), .val (.int p2), .val (.ref b2)] [(.ref b2)]))
  rw [hPP]
  refine endR X5 hx hlk hret rfl rfl (hb hby d35_32) ?_ (by decide) (by decide)
  rw [e5]
  exact ⟨b2, rfl, N5, K, zbz, V_b2.congr (fun k hk => own_cpo f1 n1 p2 mn hmn k hk)⟩
abbrev b_29 : ByteArray := jdk_68_method_9_code
theorem d29_0 : dk b_29 0 (.aload_n 0) 1 := by decide +kernel
theorem d29_1 : dk b_29 1 (.getfield 15) 3 := by decide +kernel
theorem d29_4 : dk b_29 4 (.arraylength) 1 := by decide +kernel
theorem d29_5 : dk b_29 5 (.aload_n 0) 1 := by decide +kernel
theorem d29_6 : dk b_29 6 (.getfield 22) 3 := by decide +kernel
theorem d29_9 : dk b_29 9 (.ishr) 1 := by decide +kernel
theorem d29_10 : dk b_29 10 (.istore_n 2) 1 := by decide +kernel
theorem d29_11 : dk b_29 11 (.iload_n 1) 1 := by decide +kernel
theorem d29_12 : dk b_29 12 (.iload_n 2) 1 := by decide +kernel
theorem d29_13 : dk b_29 13 (.isub) 1 := by decide +kernel
theorem d29_14 : dk b_29 14 (.ifCond .le 24) 3 := by decide +kernel
theorem d29_17 : dk b_29 17 (.aload_n 0) 1 := by decide +kernel
theorem d29_18 : dk b_29 18 (.aload_n 0) 1 := by decide +kernel
theorem d29_19 : dk b_29 19 (.getfield 15) 3 := by decide +kernel
theorem d29_22 : dk b_29 22 (.aload_n 0) 1 := by decide +kernel
theorem d29_23 : dk b_29 23 (.iload_n 1) 1 := by decide +kernel
theorem d29_24 : dk b_29 24 (.invokevirtual 104) 3 := by decide +kernel
theorem d29_27 : dk b_29 27 (.aload_n 0) 1 := by decide +kernel
theorem d29_28 : dk b_29 28 (.getfield 22) 3 := by decide +kernel
theorem d29_31 : dk b_29 31 (.ishl) 1 := by decide +kernel
theorem d29_32 : dk b_29 32 (.invokestatic 108) 3 := by decide +kernel
theorem d29_35 : dk b_29 35 (.putfield 15) 3 := by decide +kernel
theorem d29_38 : dk b_29 38 (.return_) 1 := by decide +kernel
abbrev r_rm29g : Room := { frames := 3, cells := 1, slots := 34, locals := 55 }
theorem ef_rm29g (m : MethodId) (a1 : Addr) : entryFrame m #[(.ref a1), (.int (19 : Int32))] 3 = mkF m 0 #[.val (.ref a1), .val (.int (19 : Int32)), .unset] [] := by first | (simp [entryFrame, mkF, argsToLocals, Value.category]; done) | rfl
def Q29g (Z : State) (a1 : Addr) (tv : Addr) (fv : Nat → Int32) (h0 : Heap) (n0 : Nat) (v : Option Value) (h : Heap) (L : List Loc) : Prop := ∃ (tv' : Addr) (f' : Nat → Int32), v = none ∧ Fr n0 L ∧ Keep h0 h [a1] ∧ h0.size ≤ tv' ∧ Fld Z h a1 k_8 "value" "[B" (.ref tv') ∧ Fld Z h a1 k_8 "count" "I" (.int (14 : Int32)) ∧ Fld Z h a1 k_8 "coder" "B" (.int (0 : Int32)) ∧ Fld Z h a1 k_8 "maybeLatin1" "Z" (.int (0 : Int32)) ∧ Afn Z h tv' .byte (34 : Int32) (fun k => .int (f' k))
theorem pd_22 : parseMethodDescriptor "([BI)[B" = some ⟨[(.array .byte), .int], some (.array .byte)⟩ := by decide +kernel
theorem rm29g (l : Launch) (Z : State) (a0 : Array Value) (hw : HWt Z a0) (ws : List Jvm.Cond) (a1 : Addr) (tv : Addr) (fv : Nat → Int32) (h0 : Heap) (n0 : Nat) (Z0 : n0 ≤ h0.size) (E_a1 : Exa Z h0 a1 k_15) (zab : Fld Z h0 a1 k_8 "value" "[B" (.ref tv)) (zac : Fld Z h0 a1 k_8 "count" "I" (.int (14 : Int32))) (zaa : Fld Z h0 a1 k_8 "coder" "B" (.int (0 : Int32))) (zak : Fld Z h0 a1 k_8 "maybeLatin1" "Z" (.int (0 : Int32))) (V_tv : Afn Z h0 tv .byte (16 : Int32) (fun k => .int (fv k))) (g_a1 : n0 ≤ a1) (g_tv : n0 ≤ tv) (zau : a1 ≠ tv) :
    Con l Z y_29 jdk_68_method_9_code 3 none ws r_rm29g #[(.ref a1), (.int (19 : Int32))] h0 (Q29g Z a1 tv fv h0 n0) := by
  refine Con.of2 (plainFor_of_name pn_rm42) ?_
  intro p e s m below meth c s₁ hZ e0 X0 hx hby hml hown hnm hret hlk PP hPP
  have N0 := Fr.nil n0
  refine Go.cast (ef_rm29g m a1) ?_
  have K : Keep h0 h0 [a1] := Keep.refl h0 _
  have Zn : n0 ≤ h0.size := Z0
  show Go p.tables e below PP (s₁.setTop (mkF m 0 #[.val (.ref a1), .val (.int (19 : Int32)), .unset] []))
  refine Go.st (fun t k => XS.aloadN X0.here hx rfl (hb hby d29_0) rfl rfl k) ?_
  obtain ⟨T1, X1, e1, st1⟩ := getF X0 hx hZ hown (host := "") (Or.inl (wk hw 133 rfl)) Via.refl e0 zab (g := (mkF m 1 #[.val (.ref a1), .val (.int (19 : Int32)), .unset] [(.ref a1)])) rfl rfl (hb hby d29_1)
  refine Go.st st1 ?_
  obtain ⟨cl2, Ar2, S2, Nn2, -⟩ := id V_tv
  refine Go.st (fun t k => X1.arraylength hx (by rw [e1]; exact Ar2.1) (State.isArrayOf_alike hZ.alike Ar2.2.1) (g := (mkF m 4 #[.val (.ref a1), .val (.int (19 : Int32)), .unset] [(.ref tv)])) rfl rfl (hb hby d29_4) _ k) ?_
  rw [len_of S2 Nn2]
  refine Go.st (fun t k => XS.aloadN X1.here hx rfl (hb hby d29_5) rfl rfl k) ?_
  obtain ⟨T3, X3, e3, st3⟩ := getF X1 hx hZ hown (host := "") (Or.inl (wk hw 135 rfl)) Via.refl e1 zaa (g := (mkF m 6 #[.val (.ref a1), .val (.int (19 : Int32)), .unset] [(.ref a1), (.int (16 : Int32))])) rfl rfl (hb hby d29_6)
  refine Go.st st3 ?_
  show Go p.tables e below PP (T3.setTop (mkF m 9 #[.val (.ref a1), .val (.int (19 : Int32)), .unset] [(.int (0 : Int32)), (.int (16 : Int32))]))
  refine Go.st (fun t k => XS.ishr X3.here hx rfl (hb hby d29_9) rfl k) ?_
  show Go p.tables e below PP (T3.setTop (mkF m 10 #[.val (.ref a1), .val (.int (19 : Int32)), .unset] [(.int ((16 : Int32) >>> ((0 : Int32) &&& 31)))]))
  rw [show ((16 : Int32) >>> ((0 : Int32) &&& 31)) = (16 : Int32) from by decide]
  show Go p.tables e below PP (T3.setTop (mkF m 10 #[.val (.ref a1), .val (.int (19 : Int32)), .unset] [(.int (16 : Int32))]))
  refine Go.st (fun t k => XS.istoreN X3.here hx rfl (hb hby d29_10) rfl (l' := #[.val (.ref a1), .val (.int (19 : Int32)), .val (.int (16 : Int32))]) rfl (XS.iloadN X3.here hx rfl (hb hby d29_11) rfl (XS.iloadN X3.here hx rfl (hb hby d29_12) rfl (XS.isub X3.here hx rfl (hb hby d29_13) rfl k)))) ?_
  show Go p.tables e below PP (T3.setTop (mkF m 14 #[.val (.ref a1), .val (.int (19 : Int32)), .val (.int (16 : Int32))] [(.int (3 : Int32))]))
  refine Go.st (fun t k => XS.ifNo X3.here hx rfl (hb hby d29_14) rfl (XT.i0_le_f (by decide)) (XS.aloadN X3.here hx rfl (hb hby d29_17) rfl rfl (XS.aloadN X3.here hx rfl (hb hby d29_18) rfl rfl k))) ?_
  obtain ⟨T4, X4, e4, st4⟩ := getF X3 hx hZ hown (host := "") (Or.inl (wk hw 133 rfl)) Via.refl e3 zab (g := (mkF m 19 #[.val (.ref a1), .val (.int (19 : Int32)), .val (.int (16 : Int32))] [(.ref a1), (.ref a1)])) rfl rfl (hb hby d29_19)
  refine Go.st st4 ?_
  refine Go.st (fun t k => XS.aloadN X4.here hx rfl (hb hby d29_22) rfl rfl (XS.iloadN X4.here hx rfl (hb hby d29_23) rfl k)) ?_
  obtain ⟨v5, T5, L5, X5, hQ5, st5⟩ := callPr X4 hx hZ (y := y_33) (a := a1) (argsL := [(.int (19 : Int32))]) (rest := [(.ref tv), (.ref a1)]) hown (wk hw 180 rfl) (wk hw 181 rfl) (selPriv2 (y := y_33) (nf_of (wk hw 183 rfl) rfl) (wk hw 182 rfl) (wk hw 181 rfl) (by decide)) (wk hw 182 rfl) (wk hw 129 rfl) (wk hw 184 rfl) (by decide) E_a1 (rm33 l Z a0 hw [] a1 tv fv h0 n0 Zn E_a1 zab zac zaa zak V_tv) e4 2 (by decide) (by decide) (by decide) (by decide) (g := (mkF m 24 #[.val (.ref a1), .val (.int (19 : Int32)), .val (.int (16 : Int32))] [(.int (19 : Int32)), (.ref a1), (.ref tv), (.ref a1)])) rfl (by rw [hml]; rfl) (lenOf pd_19 rfl) rfl (Nat.le_of_eq rfl) (hb hby d29_24)
  obtain ⟨rfl, rfl, e5⟩ := hQ5
  rw [List.append_nil] at X5
  refine Go.st st5 ?_
  refine Go.st (fun t k => XS.aloadN X5.here hx rfl (hb hby d29_27) rfl rfl k) ?_
  obtain ⟨T6, X6, e6, st6⟩ := getF X5 hx hZ hown (host := "") (Or.inl (wk hw 135 rfl)) Via.refl e5 zaa (g := (mkF m 28 #[.val (.ref a1), .val (.int (19 : Int32)), .val (.int (16 : Int32))] [(.ref a1), (.int (34 : Int32)), (.ref tv), (.ref a1)])) rfl rfl (hb hby d29_28)
  refine Go.st st6 ?_
  show Go p.tables e below PP (T6.setTop (mkF m 31 #[.val (.ref a1), .val (.int (19 : Int32)), .val (.int (16 : Int32))] [(.int (0 : Int32)), (.int (34 : Int32)), (.ref tv), (.ref a1)]))
  refine Go.st (fun t k => XS.ishl X6.here hx rfl (hb hby d29_31) rfl k) ?_
  show Go p.tables e below PP (T6.setTop (mkF m 32 #[.val (.ref a1), .val (.int (19 : Int32)), .val (.int (16 : Int32))] [(.int ((34 : Int32) <<< ((0 : Int32) &&& 31))), (.ref tv), (.ref a1)]))
  rw [show ((34 : Int32) <<< ((0 : Int32) &&& 31)) = (34 : Int32) from by decide]
  obtain ⟨v7, T7, L7, X7, hQ7, st7⟩ := callSt X6 hx hZ (y := y_35) (argsL := [(.ref tv), (.int (34 : Int32))]) (rest := [(.ref a1)]) hown (wk hw 192 rfl) (wk hw 193 rfl) (wk hw 194 rfl) (wk hw 195 rfl) (by decide) (rm35 l Z a0 hw [] tv (34 : Int32) (16 : Int32) fv h0 n0 Zn V_tv (by decide)) e6 1 (by decide) (by decide) (by decide) (by decide) (g := (mkF m 32 #[.val (.ref a1), .val (.int (19 : Int32)), .val (.int (16 : Int32))] [(.int (34 : Int32)), (.ref tv), (.ref a1)])) rfl (by rw [hml]; rfl) (lenOf pd_22 rfl) rfl (Nat.le_of_eq rfl) (hb hby d29_32)
  obtain ⟨h7, e7⟩ : ∃ z, T7.heap = z := ⟨_, rfl⟩
  rw [e7] at hQ7
  obtain ⟨t_7, rfl, Nq7, Kq7, zju, zca⟩ := hQ7
  have N7 := Fr.app N0 Nq7
  have zld : a1 ≠ t_7 := Nat.ne_of_lt (Nat.lt_of_lt_of_le E_a1.lt zju)
  have zle : h0.size ≤ t_7 := Nat.le_trans K.1 zju
  replace E_a1 := E_a1.keep Kq7
  replace zab := zab.keep Kq7 nin0
  replace zac := zac.keep Kq7 nin0
  replace zaa := zaa.keep Kq7 nin0
  replace zak := zak.keep Kq7 nin0
  replace K := K.trans Kq7 all0
  replace Zn := Nat.le_trans Zn Kq7.1
  refine Go.st st7 ?_
  obtain ⟨T8, h8, X8, e8, W8, st8⟩ := putF X7 hx hZ hown (host := "") (Or.inl (wk hw 133 rfl)) Via.refl e7 zab E_a1 (Or.inl (wk hw 134 rfl)) (wk hw 120 rfl) (ty := (.array .byte)) (by decide) rfl rfl (g := (mkF m 35 #[.val (.ref a1), .val (.int (19 : Int32)), .val (.int (16 : Int32))] [(.ref t_7), (.ref a1)])) rfl rfl (hb hby d29_35)
  refine Go.st st8 ?_
  have N8 := Fr.snoc X8 N7 g_a1
  replace zac := zac.other W8 (Or.inr (slot_ne (a0 := a0) (Or.inl (wk hw 151 rfl)) (Or.inl (wk hw 134 rfl)) (by decide) (t := .int) (t' := (.array .byte)) (by decide) (by decide)))
  replace zaa := zaa.other W8 (Or.inr (slot_ne (a0 := a0) (Or.inl (wk hw 136 rfl)) (Or.inl (wk hw 134 rfl)) (by decide) (t := .byte) (t' := (.array .byte)) (by decide) (by decide)))
  replace zak := zak.other W8 (Or.inr (slot_ne (a0 := a0) (Or.inl (wk hw 447 rfl)) (Or.inl (wk hw 134 rfl)) (by decide) (t := .boolean) (t' := (.array .byte)) (by decide) (by decide)))
  replace zca := zca.other W8 (Ne.symm zld)
  replace K := K.wr W8 (Or.inl (List.mem_of_getElem? (i := 0) rfl))
  replace Zn : n0 ≤ h8.size := by rw [W8.size]; exact Zn
  replace zab := zab.same W8
  show Go p.tables e below PP (T8.setTop (mkF m 38 #[.val (.ref a1), .val (.int (19 : Int32)), .val (.int (16 : Int32))] []))
  rw [hPP]
  refine endV X8 hx hlk hret (hb hby d29_38) ?_ (by decide) (by decide)
  rw [e8]
  exact ⟨t_7, (fun k => if k < (16 : Int32).toNatClampNeg then fv k else 0), rfl, N8, K, zle, zab, zac, zaa, zak, zca⟩
abbrev AP (cap cnt n : Int32) : Prop := ¬ cnt < (0 : Int32) ∧ ¬ n < (0 : Int32) ∧ cnt.toInt + n.toInt ≤ cap.toInt ∧ cap.toInt ≤ 34
theorem own_ap {cap cnt n : Int32} (h : AP cap cnt n) : cnt.toNatClampNeg + n.toNatClampNeg ≤ cap.toNatClampNeg := by
  obtain ⟨h1, h2, h3, h4⟩ := h
  have e0 : (0 : Int32).toInt = 0 := rfl
  rw [Int32.lt_iff_toInt_lt] at h1 h2
  simp only [Int32.toNatClampNeg]; omega
theorem own_ap2 {cap cnt n : Int32} (h : AP cap cnt n) : ¬ (0 : Int32) < ((cnt + n) - cap) := by
  obtain ⟨h1, h2, h3, h4⟩ := h
  have e0 : (0 : Int32).toInt = 0 := rfl
  have q := c_iadd cnt n
  have r := rng32 (cnt + n)
  have q2 := c_isub (cnt + n) cap
  have r2 := rng32 (cnt + n - cap)
  simp only [Int32.lt_iff_toInt_lt] at *
  omega
theorem own_shl0 (n : Int32) : n <<< ((0 : Int32) &&& 31) = n := Int32.toInt_inj.mp (by have q := c_ishl n 0 0 (by decide); have r := rng32 n; have r2 := rng32 (n <<< ((0 : Int32) &&& 31)); omega)
abbrev r_rm29a : Room := { frames := 0, cells := 0, slots := 0, locals := 0 }
def Q29a (Z : State) (a1 : Addr) (p2 : Int32) (tv : Addr) (fv : Nat → Int32) (cap : Int32) (h0 : Heap) (n0 : Nat) (v : Option Value) (h : Heap) (L : List Loc) : Prop := v = none ∧ L = [] ∧ h = h0
theorem rm29a (l : Launch) (Z : State) (a0 : Array Value) (hw : HWt Z a0) (ws : List Jvm.Cond) (a1 : Addr) (p2 : Int32) (tv : Addr) (fv : Nat → Int32) (cap : Int32) (h0 : Heap) (n0 : Nat) (Z0 : n0 ≤ h0.size) (E_a1 : Exa Z h0 a1 k_15) (zab : Fld Z h0 a1 k_8 "value" "[B" (.ref tv)) (zaa : Fld Z h0 a1 k_8 "coder" "B" (.int (0 : Int32))) (V_tv : Afn Z h0 tv .byte cap (fun k => .int (fv k))) (hen : ¬ (0 : Int32) < (p2 - cap)) :
    Con l Z y_29 jdk_68_method_9_code 3 none ws r_rm29a #[(.ref a1), (.int p2)] h0 (Q29a Z a1 p2 tv fv cap h0 n0) := by
  refine Con.of2 (plainFor_of_name pn_rm42) ?_
  intro p e s m below meth c s₁ hZ e0 X0 hx hby hml hown hnm hret hlk PP hPP
  have N0 := Fr.nil n0
  refine Go.cast (ef_rm35 m a1 p2) ?_
  have Zn : n0 ≤ h0.size := Z0
  show Go p.tables e below PP (s₁.setTop (mkF m 0 #[.val (.ref a1), .val (.int p2), .unset] []))
  refine Go.st (fun t k => XS.aloadN X0.here hx rfl (hb hby d29_0) rfl rfl k) ?_
  obtain ⟨T1, X1, e1, st1⟩ := getF X0 hx hZ hown (host := "") (Or.inl (wk hw 133 rfl)) Via.refl e0 zab (g := (mkF m 1 #[.val (.ref a1), .val (.int p2), .unset] [(.ref a1)])) rfl rfl (hb hby d29_1)
  refine Go.st st1 ?_
  obtain ⟨cl2, Ar2, S2, Nn2, -⟩ := id V_tv
  refine Go.st (fun t k => X1.arraylength hx (by rw [e1]; exact Ar2.1) (State.isArrayOf_alike hZ.alike Ar2.2.1) (g := (mkF m 4 #[.val (.ref a1), .val (.int p2), .unset] [(.ref tv)])) rfl rfl (hb hby d29_4) _ k) ?_
  rw [len_of S2 Nn2]
  refine Go.st (fun t k => XS.aloadN X1.here hx rfl (hb hby d29_5) rfl rfl k) ?_
  obtain ⟨T3, X3, e3, st3⟩ := getF X1 hx hZ hown (host := "") (Or.inl (wk hw 135 rfl)) Via.refl e1 zaa (g := (mkF m 6 #[.val (.ref a1), .val (.int p2), .unset] [(.ref a1), (.int cap)])) rfl rfl (hb hby d29_6)
  refine Go.st st3 ?_
  refine Go.st (fun t k => XS.ishr X3.here hx rfl (hb hby d29_9) rfl k) ?_
  show Go p.tables e below PP (T3.setTop (mkF m 10 #[.val (.ref a1), .val (.int p2), .unset] [(.int (cap >>> ((0 : Int32) &&& 31)))]))
  show Go p.tables e below PP (T3.setTop (mkF m 10 #[.val (.ref a1), .val (.int p2), .unset] [(.int (cap >>> ((0 : Int32) &&& 31)))]))
  rw [own_shr0]
  show Go p.tables e below PP (T3.setTop (mkF m 10 #[.val (.ref a1), .val (.int p2), .unset] [(.int cap)]))
  refine Go.st (fun t k => XS.istoreN X3.here hx rfl (hb hby d29_10) rfl (l' := #[.val (.ref a1), .val (.int p2), .val (.int cap)]) rfl (XS.iloadN X3.here hx rfl (hb hby d29_11) rfl (XS.iloadN X3.here hx rfl (hb hby d29_12) rfl (XS.isub X3.here hx rfl (hb hby d29_13) rfl (XS.ifYes X3.here hx rfl (pc0 := 14) (pc' := 38) rfl (hb hby d29_14) rfl (XT.i0_le_t hen) (by decide) (by decide) k))))) ?_
  show Go p.tables e below PP (T3.setTop (mkF m 38 #[.val (.ref a1), .val (.int p2), .val (.int cap)] []))
  rw [hPP]
  refine endV X3 hx hlk hret (hb hby d29_38) ?_ (by decide) (by decide)
  rw [e3]
  exact ⟨rfl, rfl, rfl⟩
abbrev b_32 : ByteArray := jdk_42_method_147_code
theorem d32_0 : dk b_32 0 (.aload_n 0) 1 := by decide +kernel
theorem d32_1 : dk b_32 1 (.invokevirtual 335) 3 := by decide +kernel
theorem d32_4 : dk b_32 4 (.iload_n 3) 1 := by decide +kernel
theorem d32_5 : dk b_32 5 (.if_icmp .ne 23) 3 := by decide +kernel
theorem d32_8 : dk b_32 8 (.aload_n 0) 1 := by decide +kernel
theorem d32_9 : dk b_32 9 (.getfield 9) 3 := by decide +kernel
theorem d32_12 : dk b_32 12 (.iconst 0) 1 := by decide +kernel
theorem d32_13 : dk b_32 13 (.aload_n 1) 1 := by decide +kernel
theorem d32_14 : dk b_32 14 (.iload_n 2) 1 := by decide +kernel
theorem d32_15 : dk b_32 15 (.iload_n 3) 1 := by decide +kernel
theorem d32_16 : dk b_32 16 (.ishl) 1 := by decide +kernel
theorem d32_17 : dk b_32 17 (.aload_n 0) 1 := by decide +kernel
theorem d32_18 : dk b_32 18 (.getfield 9) 3 := by decide +kernel
theorem d32_21 : dk b_32 21 (.arraylength) 1 := by decide +kernel
theorem d32_22 : dk b_32 22 (.invokestatic 212) 3 := by decide +kernel
theorem d32_25 : dk b_32 25 (.goto 18) 3 := by decide +kernel
theorem d32_43 : dk b_32 43 (.return_) 1 := by decide +kernel
abbrev r_rm32a : Room := { frames := 1, cells := 0, slots := 0, locals := 40 }
theorem ef_rm32a (m : MethodId) (a1 : Addr) (a2 : Addr) (p3 : Int32) : entryFrame m #[(.ref a1), (.ref a2), (.int p3), (.int (0 : Int32))] 4 = mkF m 0 #[.val (.ref a1), .val (.ref a2), .val (.int p3), .val (.int (0 : Int32))] [] := by first | (simp [entryFrame, mkF, argsToLocals, Value.category]; done) | rfl
def Q32a (Z : State) (a1 : Addr) (a2 : Addr) (p3 : Int32) (t1 : Addr) (f1 : Nat → Int32) (n1 : Int32) (n2 : Int32) (f2 : Nat → Int32) (zc : Int32) (h0 : Heap) (n0 : Nat) (v : Option Value) (h : Heap) (L : List Loc) : Prop := ∃ (f' : Nat → Int32), v = none ∧ Fr n0 L ∧ Keep h0 h [a2] ∧ Afn Z h a2 .byte n2 (fun k => .int (f' k))
theorem rm32a (l : Launch) (Z : State) (a0 : Array Value) (hw : HWt Z a0) (ws : List Jvm.Cond) (a1 : Addr) (a2 : Addr) (p3 : Int32) (t1 : Addr) (f1 : Nat → Int32) (n1 : Int32) (n2 : Int32) (f2 : Nat → Int32) (zc : Int32) (h0 : Heap) (n0 : Nat) (Z0 : n0 ≤ h0.size) (zab : Fld Z h0 a1 k_14 "value" "[B" (.ref t1)) (zaa : Fld Z h0 a1 k_14 "coder" "B" (.int (0 : Int32))) (V_t1 : Afn Z h0 t1 .byte n1 (fun k => .int (f1 k))) (E_a1 : Exa Z h0 a1 k_14) (V_a2 : Afn Z h0 a2 .byte n2 (fun k => .int (f2 k))) (g_a2 : n0 ≤ a2) (zdd : a1 ≠ a2) (zjv : t1 ≠ a2) (hap : AP n2 p3 n1) (SC : SS0 Z zc) (hzc : ¬ zc = (0 : Int32)) (O : Old Z n0 h0) :
    Con l Z y_32 jdk_42_method_147_code 4 none ws r_rm32a #[(.ref a1), (.ref a2), (.int p3), (.int (0 : Int32))] h0 (Q32a Z a1 a2 p3 t1 f1 n1 n2 f2 zc h0 n0) := by
  refine Con.of2 (plainFor_of_name pn_rm18) ?_
  intro p e s m below meth c s₁ hZ e0 X0 hx hby hml hown hnm hret hlk PP hPP
  have N0 := Fr.nil n0
  refine Go.cast (ef_rm32a m a1 a2 p3) ?_
  have K : Keep h0 h0 [a2] := Keep.refl h0 _
  have Zn : n0 ≤ h0.size := Z0
  show Go p.tables e below PP (s₁.setTop (mkF m 0 #[.val (.ref a1), .val (.ref a2), .val (.int p3), .val (.int (0 : Int32))] []))
  refine Go.st (fun t k => XS.aloadN X0.here hx rfl (hb hby d32_0) rfl rfl k) ?_
  obtain ⟨v1, T1, L1, X1, hQ1, st1⟩ := callVi X0 hx hZ (C := k_14) (y := y_18) (z := y_18) (a := a1) (argsL := []) (rest := []) hown (wk hw 90 rfl) (wk hw 91 rfl) (notFace_of_selects (args := #[]) (mvT hZ (wk hw 93 rfl))) (wk hw 93 rfl) (wk hw 92 rfl) (wk hw 14 rfl) (wk hw 94 rfl) (by decide) rfl E_a1 (rm18 l Z a0 hw [] a1 zc h0 n0 Zn zaa SC hzc O) e0 0 (by decide) (by decide) (by decide) (by decide) (g := (mkF m 1 #[.val (.ref a1), .val (.ref a2), .val (.int p3), .val (.int (0 : Int32))] [(.ref a1)])) rfl (by rw [hml]; rfl) (lenOf pd_0 rfl) rfl (Nat.le_of_eq rfl) (hb hby d32_1)
  obtain ⟨rfl, rfl, e1⟩ := hQ1
  rw [List.append_nil] at X1
  refine Go.st st1 ?_
  refine Go.st (fun t k => XS.iloadN X1.here hx rfl (hb hby d32_4) rfl (XS.icmpNo X1.here hx rfl (hb hby d32_5) rfl (XT.ii_ne_f (by decide)) (XS.aloadN X1.here hx rfl (hb hby d32_8) rfl rfl k))) ?_
  obtain ⟨T2, X2, e2, st2⟩ := getF X1 hx hZ hown (host := "") (Or.inl (wk hw 33 rfl)) Via.refl e1 zab (g := (mkF m 9 #[.val (.ref a1), .val (.ref a2), .val (.int p3), .val (.int (0 : Int32))] [(.ref a1)])) rfl rfl (hb hby d32_9)
  refine Go.st st2 ?_
  refine Go.st (fun t k => XS.iconst X2.here hx rfl (hb hby d32_12) (XS.aloadN X2.here hx rfl (hb hby d32_13) rfl rfl (XS.iloadN X2.here hx rfl (hb hby d32_14) rfl (XS.iloadN X2.here hx rfl (hb hby d32_15) rfl (XS.ishl X2.here hx rfl (hb hby d32_16) rfl k))))) ?_
  show Go p.tables e below PP (T2.setTop (mkF m 17 #[.val (.ref a1), .val (.ref a2), .val (.int p3), .val (.int (0 : Int32))] [(.int (p3 <<< ((0 : Int32) &&& 31))), (.ref a2), (.int (0 : Int32)), (.ref t1)]))
  show Go p.tables e below PP (T2.setTop (mkF m 17 #[.val (.ref a1), .val (.ref a2), .val (.int p3), .val (.int (0 : Int32))] [(.int (p3 <<< ((0 : Int32) &&& 31))), (.ref a2), (.int (0 : Int32)), (.ref t1)]))
  rw [own_shl0]
  show Go p.tables e below PP (T2.setTop (mkF m 17 #[.val (.ref a1), .val (.ref a2), .val (.int p3), .val (.int (0 : Int32))] [(.int p3), (.ref a2), (.int (0 : Int32)), (.ref t1)]))
  refine Go.st (fun t k => XS.aloadN X2.here hx rfl (hb hby d32_17) rfl rfl k) ?_
  obtain ⟨T3, X3, e3, st3⟩ := getF X2 hx hZ hown (host := "") (Or.inl (wk hw 33 rfl)) Via.refl e2 zab (g := (mkF m 18 #[.val (.ref a1), .val (.ref a2), .val (.int p3), .val (.int (0 : Int32))] [(.ref a1), (.int p3), (.ref a2), (.int (0 : Int32)), (.ref t1)])) rfl rfl (hb hby d32_18)
  refine Go.st st3 ?_
  obtain ⟨cl4, Ar4, S4, Nn4, -⟩ := id V_t1
  refine Go.st (fun t k => X3.arraylength hx (by rw [e3]; exact Ar4.1) (State.isArrayOf_alike hZ.alike Ar4.2.1) (g := (mkF m 21 #[.val (.ref a1), .val (.ref a2), .val (.int p3), .val (.int (0 : Int32))] [(.ref t1), (.int p3), (.ref a2), (.int (0 : Int32)), (.ref t1)])) rfl rfl (hb hby d32_21) _ k) ?_
  rw [len_of S4 Nn4]
  obtain ⟨T5, h5, L5, X5, e5, N5, Kq5, Vq5, st5⟩ := cpF X3 hx hZ hown (wk hw 173 rfl) (wk hw 176 rfl) (wk hw 174 rfl) (wk hw 175 rfl) e3 V_t1 V_a2 rfl (by decide) (hap.1) (hap.2.1) (by have e : (0 : Int32).toNatClampNeg = 0 := rfl; omega) (own_ap hap) N0 g_a2 (g := (mkF m 22 #[.val (.ref a1), .val (.ref a2), .val (.int p3), .val (.int (0 : Int32))] [(.int n1), (.int p3), (.ref a2), (.int (0 : Int32)), (.ref t1)])) rfl (by rw [hml]; rfl) rfl (hb hby d32_22) (by decide) (W := 0) (by show 2 * 0 + _ ≤ _; exact Nat.le_of_eq rfl) (by decide)
  replace O := O.keep Kq5 (allS g_a2 all0)
  replace K := K.trans Kq5 (allS (Or.inl (List.mem_of_getElem? (i := 0) rfl)) all0)
  replace Zn := Nat.le_trans Zn Kq5.1
  have V_a2 := Vq5
  refine Go.st st5 ?_
  replace V_a2 := own_ints V_a2
  refine Go.st (fun t k => XS.goto X5.here hx rfl (pc0 := 25) (pc' := 43) rfl (hb hby d32_25) (by decide) (by decide) k) ?_
  show Go p.tables e below PP (T5.setTop (mkF m 43 #[.val (.ref a1), .val (.ref a2), .val (.int p3), .val (.int (0 : Int32))] []))
  rw [hPP]
  refine endV X5 hx hlk hret (hb hby d32_43) ?_ (by decide) (by decide)
  rw [e5]
  exact ⟨(fun k => intOf ((fun k => if p3.toNatClampNeg ≤ k ∧ k < p3.toNatClampNeg + n1.toNatClampNeg then (fun k => .int (f1 k)) ((0 : Int32).toNatClampNeg + (k - p3.toNatClampNeg)) else (fun k => .int (f2 k)) k) k)), rfl, N5, K, V_a2⟩
abbrev b_30 : ByteArray := jdk_68_method_73_code
theorem d30_0 : dk b_30 0 (.aload_n 0) 1 := by decide +kernel
theorem d30_1 : dk b_30 1 (.aload_n 2) 1 := by decide +kernel
theorem d30_2 : dk b_30 2 (.invokevirtual 397) 3 := by decide +kernel
theorem d30_5 : dk b_30 5 (.aload_n 2) 1 := by decide +kernel
theorem d30_6 : dk b_30 6 (.aload_n 0) 1 := by decide +kernel
theorem d30_7 : dk b_30 7 (.getfield 15) 3 := by decide +kernel
theorem d30_10 : dk b_30 10 (.iload_n 1) 1 := by decide +kernel
theorem d30_11 : dk b_30 11 (.aload_n 0) 1 := by decide +kernel
theorem d30_12 : dk b_30 12 (.getfield 22) 3 := by decide +kernel
theorem d30_15 : dk b_30 15 (.invokevirtual 399) 3 := by decide +kernel
theorem d30_18 : dk b_30 18 (.return_) 1 := by decide +kernel
abbrev r_rm30a : Room := { frames := 2, cells := 0, slots := 0, locals := 55 }
theorem ef_rm30a (m : MethodId) (a1 : Addr) (p2 : Int32) (a3 : Addr) : entryFrame m #[(.ref a1), (.int p2), (.ref a3)] 3 = mkF m 0 #[.val (.ref a1), .val (.int p2), .val (.ref a3)] [] := by first | (simp [entryFrame, mkF, argsToLocals, Value.category]; done) | rfl
def Q30a (Z : State) (a1 : Addr) (p2 : Int32) (a3 : Addr) (tv : Addr) (fv : Nat → Int32) (cap : Int32) (t3 : Addr) (n3 : Int32) (f3 : Nat → Int32) (zc : Int32) (h0 : Heap) (n0 : Nat) (v : Option Value) (h : Heap) (L : List Loc) : Prop := ∃ (f' : Nat → Int32), v = none ∧ Fr n0 L ∧ Keep h0 h [tv] ∧ Afn Z h tv .byte cap (fun k => .int (f' k))
theorem pd_23 : parseMethodDescriptor "(Ljava/lang/String;)V" = some ⟨[(.object "java/lang/String")], none⟩ := by decide +kernel
theorem pd_24 : parseMethodDescriptor "([BIB)V" = some ⟨[(.array .byte), .int, .byte], none⟩ := by decide +kernel
theorem rm30a (l : Launch) (Z : State) (a0 : Array Value) (hw : HWt Z a0) (ws : List Jvm.Cond) (a1 : Addr) (p2 : Int32) (a3 : Addr) (tv : Addr) (fv : Nat → Int32) (cap : Int32) (t3 : Addr) (n3 : Int32) (f3 : Nat → Int32) (zc : Int32) (h0 : Heap) (n0 : Nat) (Z0 : n0 ≤ h0.size) (E_a1 : Exa Z h0 a1 k_15) (zab : Fld Z h0 a1 k_8 "value" "[B" (.ref tv)) (zaa : Fld Z h0 a1 k_8 "coder" "B" (.int (0 : Int32))) (V_tv : Afn Z h0 tv .byte cap (fun k => .int (fv k))) (zaf : Fld Z h0 a3 k_14 "value" "[B" (.ref t3)) (zah : Fld Z h0 a3 k_14 "coder" "B" (.int (0 : Int32))) (V_t3 : Afn Z h0 t3 .byte n3 (fun k => .int (f3 k))) (E_a3 : Exa Z h0 a3 k_14) (g_a1 : n0 ≤ a1) (g_tv : n0 ≤ tv) (zau : a1 ≠ tv) (zgk : a3 ≠ a1) (zht : t3 ≠ a1) (zhh : a3 ≠ tv) (zhi : t3 ≠ tv) (hap : AP cap p2 n3) (SC : SS0 Z zc) (hzc : ¬ zc = (0 : Int32)) (O : Old Z n0 h0) :
    Con l Z y_30 jdk_68_method_73_code 3 none ws r_rm30a #[(.ref a1), (.int p2), (.ref a3)] h0 (Q30a Z a1 p2 a3 tv fv cap t3 n3 f3 zc h0 n0) := by
  refine Con.of2 (plainFor_of_name pn_rm42) ?_
  intro p e s m below meth c s₁ hZ e0 X0 hx hby hml hown hnm hret hlk PP hPP
  have N0 := Fr.nil n0
  refine Go.cast (ef_rm30a m a1 p2 a3) ?_
  have K : Keep h0 h0 [tv] := Keep.refl h0 _
  have Zn : n0 ≤ h0.size := Z0
  show Go p.tables e below PP (s₁.setTop (mkF m 0 #[.val (.ref a1), .val (.int p2), .val (.ref a3)] []))
  refine Go.st (fun t k => XS.aloadN X0.here hx rfl (hb hby d30_0) rfl rfl (XS.aloadN X0.here hx rfl (hb hby d30_1) rfl rfl k)) ?_
  obtain ⟨v1, T1, L1, X1, hQ1, st1⟩ := callPr X0 hx hZ (y := y_31) (a := a1) (argsL := [(.ref a3)]) (rest := []) hown (wk hw 162 rfl) (wk hw 163 rfl) (selPriv2 (y := y_31) (nf_of (wk hw 165 rfl) rfl) (wk hw 164 rfl) (wk hw 163 rfl) (by decide)) (wk hw 164 rfl) (wk hw 129 rfl) (wk hw 166 rfl) (by decide) E_a1 (rm31 l Z a0 hw [] a1 a3 zc h0 n0 Zn zaa zah E_a3 SC hzc O) e0 0 (by decide) (by decide) (by decide) (by decide) (g := (mkF m 2 #[.val (.ref a1), .val (.int p2), .val (.ref a3)] [(.ref a3), (.ref a1)])) rfl (by rw [hml]; rfl) (lenOf pd_23 rfl) rfl (Nat.le_of_eq rfl) (hb hby d30_2)
  obtain ⟨rfl, rfl, e1⟩ := hQ1
  rw [List.append_nil] at X1
  refine Go.st st1 ?_
  refine Go.st (fun t k => XS.aloadN X1.here hx rfl (hb hby d30_5) rfl rfl (XS.aloadN X1.here hx rfl (hb hby d30_6) rfl rfl k)) ?_
  obtain ⟨T2, X2, e2, st2⟩ := getF X1 hx hZ hown (host := "") (Or.inl (wk hw 133 rfl)) Via.refl e1 zab (g := (mkF m 7 #[.val (.ref a1), .val (.int p2), .val (.ref a3)] [(.ref a1), (.ref a3)])) rfl rfl (hb hby d30_7)
  refine Go.st st2 ?_
  refine Go.st (fun t k => XS.iloadN X2.here hx rfl (hb hby d30_10) rfl (XS.aloadN X2.here hx rfl (hb hby d30_11) rfl rfl k)) ?_
  obtain ⟨T3, X3, e3, st3⟩ := getF X2 hx hZ hown (host := "") (Or.inl (wk hw 135 rfl)) Via.refl e2 zaa (g := (mkF m 12 #[.val (.ref a1), .val (.int p2), .val (.ref a3)] [(.ref a1), (.int p2), (.ref tv), (.ref a3)])) rfl rfl (hb hby d30_12)
  refine Go.st st3 ?_
  obtain ⟨v4, T4, L4, X4, hQ4, st4⟩ := callVi X3 hx hZ (C := k_14) (y := y_32) (z := y_32) (a := a3) (argsL := [(.ref tv), (.int p2), (.int (0 : Int32))]) (rest := []) hown (wk hw 168 rfl) (wk hw 169 rfl) (notFace_of_selects (args := #[]) (mvT hZ (wk hw 171 rfl))) (wk hw 171 rfl) (wk hw 170 rfl) (wk hw 14 rfl) (wk hw 172 rfl) (by decide) rfl E_a3 (rm32a l Z a0 hw [] a3 tv p2 t3 f3 n3 cap fv zc h0 n0 Zn zaf zah V_t3 E_a3 V_tv g_tv zhh zhi hap SC hzc O) e3 0 (by decide) (by decide) (by decide) (by decide) (g := (mkF m 15 #[.val (.ref a1), .val (.int p2), .val (.ref a3)] [(.int (0 : Int32)), (.int p2), (.ref tv), (.ref a3)])) rfl (by rw [hml]; rfl) (lenOf pd_24 rfl) rfl (Nat.le_of_eq rfl) (hb hby d30_15)
  obtain ⟨h4, e4⟩ : ∃ z, T4.heap = z := ⟨_, rfl⟩
  rw [e4] at hQ4
  obtain ⟨fx_4, rfl, Nq4, Kq4, zaw⟩ := hQ4
  have N4 := Fr.app N0 Nq4
  replace O := O.keep Kq4 (allS g_tv all0)
  replace K := K.trans Kq4 (allS (Or.inl (List.mem_of_getElem? (i := 0) rfl)) all0)
  replace Zn := Nat.le_trans Zn Kq4.1
  refine Go.st st4 ?_
  show Go p.tables e below PP (T4.setTop (mkF m 18 #[.val (.ref a1), .val (.int p2), .val (.ref a3)] []))
  rw [hPP]
  refine endV X4 hx hlk hret (hb hby d30_18) ?_ (by decide) (by decide)
  rw [e4]
  exact ⟨fx_4, rfl, N4, K, zaw⟩
abbrev b_28 : ByteArray := jdk_68_method_22_code
theorem d28_0 : dk b_28 0 (.aload_n 1) 1 := by decide +kernel
theorem d28_1 : dk b_28 1 (.ifnonnull 8) 3 := by decide +kernel
theorem d28_9 : dk b_28 9 (.aload_n 1) 1 := by decide +kernel
theorem d28_10 : dk b_28 10 (.invokevirtual 32) 3 := by decide +kernel
theorem d28_13 : dk b_28 13 (.istore_n 2) 1 := by decide +kernel
theorem d28_14 : dk b_28 14 (.aload_n 0) 1 := by decide +kernel
theorem d28_15 : dk b_28 15 (.aload_n 0) 1 := by decide +kernel
theorem d28_16 : dk b_28 16 (.getfield 79) 3 := by decide +kernel
theorem d28_19 : dk b_28 19 (.iload_n 2) 1 := by decide +kernel
theorem d28_20 : dk b_28 20 (.iadd) 1 := by decide +kernel
theorem d28_21 : dk b_28 21 (.invokevirtual 100) 3 := by decide +kernel
theorem d28_24 : dk b_28 24 (.aload_n 0) 1 := by decide +kernel
theorem d28_25 : dk b_28 25 (.aload_n 0) 1 := by decide +kernel
theorem d28_26 : dk b_28 26 (.getfield 79) 3 := by decide +kernel
theorem d28_29 : dk b_28 29 (.aload_n 1) 1 := by decide +kernel
theorem d28_30 : dk b_28 30 (.invokevirtual 208) 3 := by decide +kernel
theorem d28_33 : dk b_28 33 (.aload_n 0) 1 := by decide +kernel
theorem d28_34 : dk b_28 34 (.dup) 1 := by decide +kernel
theorem d28_35 : dk b_28 35 (.getfield 79) 3 := by decide +kernel
theorem d28_38 : dk b_28 38 (.iload_n 2) 1 := by decide +kernel
theorem d28_39 : dk b_28 39 (.iadd) 1 := by decide +kernel
theorem d28_40 : dk b_28 40 (.putfield 79) 3 := by decide +kernel
theorem d28_43 : dk b_28 43 (.aload_n 0) 1 := by decide +kernel
theorem d28_44 : dk b_28 44 (.areturn) 1 := by decide +kernel
abbrev r_rm28a : Room := { frames := 3, cells := 0, slots := 0, locals := 69 }
theorem ef_rm28a (m : MethodId) (a1 : Addr) (a2 : Addr) : entryFrame m #[(.ref a1), (.ref a2)] 3 = mkF m 0 #[.val (.ref a1), .val (.ref a2), .unset] [] := by first | (simp [entryFrame, mkF, argsToLocals, Value.category]; done) | rfl
def Q28a (Z : State) (a1 : Addr) (a2 : Addr) (tv : Addr) (fv : Nat → Int32) (cap : Int32) (cnt : Int32) (t2 : Addr) (n2 : Int32) (f2 : Nat → Int32) (zc : Int32) (h0 : Heap) (n0 : Nat) (v : Option Value) (h : Heap) (L : List Loc) : Prop := ∃ (f' : Nat → Int32), v = some (.ref a1) ∧ Fr n0 L ∧ Keep h0 h [a1, tv] ∧ Fld Z h a1 k_8 "value" "[B" (.ref tv) ∧ Fld Z h a1 k_8 "count" "I" (.int (cnt + n2)) ∧ Fld Z h a1 k_8 "coder" "B" (.int (0 : Int32)) ∧ Fld Z h a1 k_8 "maybeLatin1" "Z" (.int (0 : Int32)) ∧ Afn Z h tv .byte cap (fun k => .int (f' k))
theorem pd_25 : parseMethodDescriptor "(I)V" = some ⟨[.int], none⟩ := by decide +kernel
theorem pd_26 : parseMethodDescriptor "(ILjava/lang/String;)V" = some ⟨[.int, (.object "java/lang/String")], none⟩ := by decide +kernel
theorem rm28a (l : Launch) (Z : State) (a0 : Array Value) (hw : HWt Z a0) (ws : List Jvm.Cond) (a1 : Addr) (a2 : Addr) (tv : Addr) (fv : Nat → Int32) (cap : Int32) (cnt : Int32) (t2 : Addr) (n2 : Int32) (f2 : Nat → Int32) (zc : Int32) (h0 : Heap) (n0 : Nat) (Z0 : n0 ≤ h0.size) (E_a1 : Exa Z h0 a1 k_15) (zab : Fld Z h0 a1 k_8 "value" "[B" (.ref tv)) (zac : Fld Z h0 a1 k_8 "count" "I" (.int cnt)) (zaa : Fld Z h0 a1 k_8 "coder" "B" (.int (0 : Int32))) (zak : Fld Z h0 a1 k_8 "maybeLatin1" "Z" (.int (0 : Int32))) (V_tv : Afn Z h0 tv .byte cap (fun k => .int (fv k))) (zad : Fld Z h0 a2 k_14 "value" "[B" (.ref t2)) (zae : Fld Z h0 a2 k_14 "coder" "B" (.int (0 : Int32))) (V_t2 : Afn Z h0 t2 .byte n2 (fun k => .int (f2 k))) (E_a2 : Exa Z h0 a2 k_14) (g_a1 : n0 ≤ a1) (g_tv : n0 ≤ tv) (zau : a1 ≠ tv) (zcb : a2 ≠ a1) (zcy : t2 ≠ a1) (zdr : a2 ≠ tv) (zds : t2 ≠ tv) (hap : AP cap cnt n2) (SC : SS0 Z zc) (hzc : ¬ zc = (0 : Int32)) (O : Old Z n0 h0) :
    Con l Z y_28 jdk_68_method_22_code 3 (some (.object "java/lang/AbstractStringBuilder")) ws r_rm28a #[(.ref a1), (.ref a2)] h0 (Q28a Z a1 a2 tv fv cap cnt t2 n2 f2 zc h0 n0) := by
  refine Con.of2 (plainFor_of_name pn_rm42) ?_
  intro p e s m below meth c s₁ hZ e0 X0 hx hby hml hown hnm hret hlk PP hPP
  have N0 := Fr.nil n0
  refine Go.cast (ef_rm28a m a1 a2) ?_
  have K : Keep h0 h0 [a1, tv] := Keep.refl h0 _
  have Zn : n0 ≤ h0.size := Z0
  show Go p.tables e below PP (s₁.setTop (mkF m 0 #[.val (.ref a1), .val (.ref a2), .unset] []))
  refine Go.st (fun t k => XS.aloadN X0.here hx rfl (hb hby d28_0) rfl rfl (XS.ifnonnullYes X0.here hx rfl (pc0 := 1) (pc' := 9) rfl (hb hby d28_1) rfl (by decide) (by decide) (XS.aloadN X0.here hx rfl (hb hby d28_9) rfl rfl k))) ?_
  obtain ⟨v1, T1, L1, X1, hQ1, st1⟩ := callVi X0 hx hZ (C := k_14) (y := y_17) (z := y_17) (a := a2) (argsL := []) (rest := []) hown (wk hw 149 rfl) (wk hw 86 rfl) (notFace_of_selects (args := #[]) (mvT hZ (wk hw 88 rfl))) (wk hw 88 rfl) (wk hw 87 rfl) (wk hw 14 rfl) (wk hw 89 rfl) (by decide) rfl E_a2 (rm17 l Z a0 hw [] a2 t2 n2 f2 zc h0 n0 Zn zad zae V_t2 E_a2 SC hzc O) e0 0 (by decide) (by decide) (by decide) (by decide) (g := (mkF m 10 #[.val (.ref a1), .val (.ref a2), .unset] [(.ref a2)])) rfl (by rw [hml]; rfl) (lenOf pd_5 rfl) rfl (Nat.le_of_eq rfl) (hb hby d28_10)
  obtain ⟨rfl, rfl, e1⟩ := hQ1
  rw [List.append_nil] at X1
  refine Go.st st1 ?_
  refine Go.st (fun t k => XS.istoreN X1.here hx rfl (hb hby d28_13) rfl (l' := #[.val (.ref a1), .val (.ref a2), .val (.int n2)]) rfl (XS.aloadN X1.here hx rfl (hb hby d28_14) rfl rfl (XS.aloadN X1.here hx rfl (hb hby d28_15) rfl rfl k))) ?_
  obtain ⟨T2, X2, e2, st2⟩ := getF X1 hx hZ hown (host := "") (Or.inl (wk hw 150 rfl)) Via.refl e1 zac (g := (mkF m 16 #[.val (.ref a1), .val (.ref a2), .val (.int n2)] [(.ref a1), (.ref a1)])) rfl rfl (hb hby d28_16)
  refine Go.st st2 ?_
  refine Go.st (fun t k => XS.iloadN X2.here hx rfl (hb hby d28_19) rfl (XS.iadd X2.here hx rfl (hb hby d28_20) rfl k)) ?_
  obtain ⟨v3, T3, L3, X3, hQ3, st3⟩ := callPr X2 hx hZ (y := y_29) (a := a1) (argsL := [(.int (cnt + n2))]) (rest := []) hown (wk hw 152 rfl) (wk hw 153 rfl) (selPriv2 (y := y_29) (nf_of (wk hw 155 rfl) rfl) (wk hw 154 rfl) (wk hw 153 rfl) (by decide)) (wk hw 154 rfl) (wk hw 129 rfl) (wk hw 156 rfl) (by decide) E_a1 (rm29a l Z a0 hw [] a1 (cnt + n2) tv fv cap h0 n0 Zn E_a1 zab zaa V_tv (own_ap2 hap)) e2 0 (by decide) (by decide) (by decide) (by decide) (g := (mkF m 21 #[.val (.ref a1), .val (.ref a2), .val (.int n2)] [(.int (cnt + n2)), (.ref a1)])) rfl (by rw [hml]; rfl) (lenOf pd_25 rfl) rfl (Nat.le_of_eq rfl) (hb hby d28_21)
  obtain ⟨rfl, rfl, e3⟩ := hQ3
  rw [List.append_nil] at X3
  refine Go.st st3 ?_
  refine Go.st (fun t k => XS.aloadN X3.here hx rfl (hb hby d28_24) rfl rfl (XS.aloadN X3.here hx rfl (hb hby d28_25) rfl rfl k)) ?_
  obtain ⟨T4, X4, e4, st4⟩ := getF X3 hx hZ hown (host := "") (Or.inl (wk hw 150 rfl)) Via.refl e3 zac (g := (mkF m 26 #[.val (.ref a1), .val (.ref a2), .val (.int n2)] [(.ref a1), (.ref a1)])) rfl rfl (hb hby d28_26)
  refine Go.st st4 ?_
  refine Go.st (fun t k => XS.aloadN X4.here hx rfl (hb hby d28_29) rfl rfl k) ?_
  obtain ⟨v5, T5, L5, X5, hQ5, st5⟩ := callPr X4 hx hZ (y := y_30) (a := a1) (argsL := [(.int cnt), (.ref a2)]) (rest := []) hown (wk hw 157 rfl) (wk hw 158 rfl) (selPriv2 (y := y_30) (nf_of (wk hw 160 rfl) rfl) (wk hw 159 rfl) (wk hw 158 rfl) (by decide)) (wk hw 159 rfl) (wk hw 129 rfl) (wk hw 161 rfl) (by decide) E_a1 (rm30a l Z a0 hw [] a1 cnt a2 tv fv cap t2 n2 f2 zc h0 n0 Zn E_a1 zab zaa V_tv zad zae V_t2 E_a2 g_a1 g_tv zau zcb zcy zdr zds hap SC hzc O) e4 0 (by decide) (by decide) (by decide) (by decide) (g := (mkF m 30 #[.val (.ref a1), .val (.ref a2), .val (.int n2)] [(.ref a2), (.int cnt), (.ref a1)])) rfl (by rw [hml]; rfl) (lenOf pd_26 rfl) rfl (Nat.le_of_eq rfl) (hb hby d28_30)
  obtain ⟨h5, e5⟩ : ∃ z, T5.heap = z := ⟨_, rfl⟩
  rw [e5] at hQ5
  obtain ⟨fx_5, rfl, Nq5, Kq5, zan⟩ := hQ5
  have N5 := Fr.app N0 Nq5
  replace E_a1 := E_a1.keep Kq5
  replace zab := zab.keep Kq5 (ninS zau nin0)
  replace zac := zac.keep Kq5 (ninS zau nin0)
  replace zaa := zaa.keep Kq5 (ninS zau nin0)
  replace zak := zak.keep Kq5 (ninS zau nin0)
  replace O := O.keep Kq5 (allS g_tv all0)
  replace K := K.trans Kq5 (allS (Or.inl (List.mem_of_getElem? (i := 1) rfl)) all0)
  replace Zn := Nat.le_trans Zn Kq5.1
  refine Go.st st5 ?_
  refine Go.st (fun t k => XS.aloadN X5.here hx rfl (hb hby d28_33) rfl rfl (XS.dup X5.here hx rfl (hb hby d28_34) rfl rfl k)) ?_
  obtain ⟨T6, X6, e6, st6⟩ := getF X5 hx hZ hown (host := "") (Or.inl (wk hw 150 rfl)) Via.refl e5 zac (g := (mkF m 35 #[.val (.ref a1), .val (.ref a2), .val (.int n2)] [(.ref a1), (.ref a1)])) rfl rfl (hb hby d28_35)
  refine Go.st st6 ?_
  refine Go.st (fun t k => XS.iloadN X6.here hx rfl (hb hby d28_38) rfl (XS.iadd X6.here hx rfl (hb hby d28_39) rfl k)) ?_
  obtain ⟨T7, h7, X7, e7, W7, st7⟩ := putF X6 hx hZ hown (host := "") (Or.inl (wk hw 150 rfl)) Via.refl e6 zac E_a1 (Or.inl (wk hw 151 rfl)) (wk hw 120 rfl) (ty := .int) (by decide) rfl rfl (g := (mkF m 40 #[.val (.ref a1), .val (.ref a2), .val (.int n2)] [(.int (cnt + n2)), (.ref a1)])) rfl rfl (hb hby d28_40)
  refine Go.st st7 ?_
  have N7 := Fr.snoc X7 N5 g_a1
  replace zab := zab.other W7 (Or.inr (slot_ne (a0 := a0) (Or.inl (wk hw 134 rfl)) (Or.inl (wk hw 151 rfl)) (by decide) (t := (.array .byte)) (t' := .int) (by decide) (by decide)))
  replace zaa := zaa.other W7 (Or.inr (slot_ne (a0 := a0) (Or.inl (wk hw 136 rfl)) (Or.inl (wk hw 151 rfl)) (by decide) (t := .byte) (t' := .int) (by decide) (by decide)))
  replace zak := zak.other W7 (Or.inr (slot_ne (a0 := a0) (Or.inl (wk hw 447 rfl)) (Or.inl (wk hw 151 rfl)) (by decide) (t := .boolean) (t' := .int) (by decide) (by decide)))
  replace zan := zan.other W7 (Ne.symm zau)
  replace O := O.wr W7 g_a1
  replace K := K.wr W7 (Or.inl (List.mem_of_getElem? (i := 0) rfl))
  replace Zn : n0 ≤ h7.size := by rw [W7.size]; exact Zn
  replace zac := zac.same W7
  refine Go.st (fun t k => XS.aloadN X7.here hx rfl (hb hby d28_43) rfl rfl k) ?_
  show Go p.tables e below PP (T7.setTop (mkF m 44 #[.val (.ref a1), .val (.ref a2), .val (.int n2)] [(.ref a1)]))
  rw [hPP]
  refine endR X7 hx hlk hret rfl rfl (hb hby d28_44) ?_ (by decide) (by decide)
  rw [e7]
  exact ⟨fx_5, rfl, N7, K, zab, zac, zaa, zak, zan⟩
abbrev b_27 : ByteArray := jdk_67_method_7_code
theorem d27_0 : dk b_27 0 (.aload_n 0) 1 := by decide +kernel
theorem d27_1 : dk b_27 1 (.aload_n 1) 1 := by decide +kernel
theorem d27_2 : dk b_27 2 (.invokespecial 29) 3 := by decide +kernel
theorem d27_5 : dk b_27 5 (.pop) 1 := by decide +kernel
theorem d27_6 : dk b_27 6 (.aload_n 0) 1 := by decide +kernel
theorem d27_7 : dk b_27 7 (.areturn) 1 := by decide +kernel
abbrev r_rm27a : Room := { frames := 4, cells := 0, slots := 0, locals := 83 }
theorem pn_rm27a : plainName "java/lang/StringBuilder" = true := by first | (simp [plainName, overriddenIn]; done) | decide +kernel
def Q27a (Z : State) (a1 : Addr) (a2 : Addr) (tv : Addr) (fv : Nat → Int32) (cap : Int32) (cnt : Int32) (t2 : Addr) (n2 : Int32) (f2 : Nat → Int32) (zc : Int32) (h0 : Heap) (n0 : Nat) (v : Option Value) (h : Heap) (L : List Loc) : Prop := ∃ (f' : Nat → Int32), v = some (.ref a1) ∧ Fr n0 L ∧ Keep h0 h [a1, tv] ∧ Fld Z h a1 k_8 "value" "[B" (.ref tv) ∧ Fld Z h a1 k_8 "count" "I" (.int (cnt + n2)) ∧ Fld Z h a1 k_8 "coder" "B" (.int (0 : Int32)) ∧ Fld Z h a1 k_8 "maybeLatin1" "Z" (.int (0 : Int32)) ∧ Afn Z h tv .byte cap (fun k => .int (f' k))
theorem pd_27 : parseMethodDescriptor "(Ljava/lang/String;)Ljava/lang/AbstractStringBuilder;" = some ⟨[(.object "java/lang/String")], some (.object "java/lang/AbstractStringBuilder")⟩ := by decide +kernel
theorem rm27a (l : Launch) (Z : State) (a0 : Array Value) (hw : HWt Z a0) (ws : List Jvm.Cond) (a1 : Addr) (a2 : Addr) (tv : Addr) (fv : Nat → Int32) (cap : Int32) (cnt : Int32) (t2 : Addr) (n2 : Int32) (f2 : Nat → Int32) (zc : Int32) (h0 : Heap) (n0 : Nat) (Z0 : n0 ≤ h0.size) (E_a1 : Exa Z h0 a1 k_15) (zab : Fld Z h0 a1 k_8 "value" "[B" (.ref tv)) (zac : Fld Z h0 a1 k_8 "count" "I" (.int cnt)) (zaa : Fld Z h0 a1 k_8 "coder" "B" (.int (0 : Int32))) (zak : Fld Z h0 a1 k_8 "maybeLatin1" "Z" (.int (0 : Int32))) (V_tv : Afn Z h0 tv .byte cap (fun k => .int (fv k))) (zad : Fld Z h0 a2 k_14 "value" "[B" (.ref t2)) (zae : Fld Z h0 a2 k_14 "coder" "B" (.int (0 : Int32))) (V_t2 : Afn Z h0 t2 .byte n2 (fun k => .int (f2 k))) (E_a2 : Exa Z h0 a2 k_14) (g_a1 : n0 ≤ a1) (g_tv : n0 ≤ tv) (zau : a1 ≠ tv) (zcb : a2 ≠ a1) (zcy : t2 ≠ a1) (zdr : a2 ≠ tv) (zds : t2 ≠ tv) (hap : AP cap cnt n2) (SC : SS0 Z zc) (hzc : ¬ zc = (0 : Int32)) (O : Old Z n0 h0) :
    Con l Z y_27 jdk_67_method_7_code 2 (some (.object "java/lang/StringBuilder")) ws r_rm27a #[(.ref a1), (.ref a2)] h0 (Q27a Z a1 a2 tv fv cap cnt t2 n2 f2 zc h0 n0) := by
  refine Con.of2 (plainFor_of_name pn_rm27a) ?_
  intro p e s m below meth c s₁ hZ e0 X0 hx hby hml hown hnm hret hlk PP hPP
  have N0 := Fr.nil n0
  refine Go.cast (ef_rm12 m a1 a2) ?_
  have K : Keep h0 h0 [a1, tv] := Keep.refl h0 _
  have Zn : n0 ≤ h0.size := Z0
  show Go p.tables e below PP (s₁.setTop (mkF m 0 #[.val (.ref a1), .val (.ref a2)] []))
  refine Go.st (fun t k => XS.aloadN X0.here hx rfl (hb hby d27_0) rfl rfl (XS.aloadN X0.here hx rfl (hb hby d27_1) rfl rfl k)) ?_
  obtain ⟨v1, T1, L1, X1, hQ1, st1⟩ := callSup X0 hx hZ (K := k_15) (y := y_28) (a := a1) (argsL := [(.ref a2)]) (rest := []) hown (wk hw 144 rfl) (sameSelf (y := y_28) (wk hw 145 rfl) (nf_of (wk hw 155 rfl) rfl) (by decide)) (wk hw 145 rfl) (wk hw 146 rfl) (wk hw 129 rfl) (wk hw 148 rfl) (by decide) E_a1 (rm28a l Z a0 hw [] a1 a2 tv fv cap cnt t2 n2 f2 zc h0 n0 Zn E_a1 zab zac zaa zak V_tv zad zae V_t2 E_a2 g_a1 g_tv zau zcb zcy zdr zds hap SC hzc O) e0 0 (by decide) (by decide) (by decide) (by decide) (g := (mkF m 2 #[.val (.ref a1), .val (.ref a2)] [(.ref a2), (.ref a1)])) rfl (by rw [hml]; rfl) (lenOf pd_27 rfl) rfl (Nat.le_of_eq rfl) (hb hby d27_2)
  obtain ⟨h1, e1⟩ : ∃ z, T1.heap = z := ⟨_, rfl⟩
  rw [e1] at hQ1
  obtain ⟨fx_1, rfl, Nq1, Kq1, zai, zbn, zbo, zcm, zec⟩ := hQ1
  have N1 := Fr.app N0 Nq1
  replace O := O.keep Kq1 (allS g_a1 (allS g_tv all0))
  replace K := K.trans Kq1 (allS (Or.inl (List.mem_of_getElem? (i := 0) rfl)) (allS (Or.inl (List.mem_of_getElem? (i := 1) rfl)) all0))
  replace Zn := Nat.le_trans Zn Kq1.1
  refine Go.st st1 ?_
  refine Go.st (fun t k => XS.pop X1.here hx rfl (hb hby d27_5) rfl rfl (XS.aloadN X1.here hx rfl (hb hby d27_6) rfl rfl k)) ?_
  show Go p.tables e below PP (T1.setTop (mkF m 7 #[.val (.ref a1), .val (.ref a2)] [(.ref a1)]))
  rw [hPP]
  refine endR X1 hx hlk hret rfl rfl (hb hby d27_7) ?_ (by decide) (by decide)
  rw [e1]
  exact ⟨fx_1, rfl, N1, K, zai, zbn, zbo, zcm, zec⟩
abbrev r_rm32_34_14_5 : Room := { frames := 1, cells := 0, slots := 0, locals := 40 }
theorem ef_rm32_34_14_5 (m : MethodId) (a1 : Addr) (a2 : Addr) : entryFrame m #[(.ref a1), (.ref a2), (.int (14 : Int32)), (.int (0 : Int32))] 4 = mkF m 0 #[.val (.ref a1), .val (.ref a2), .val (.int (14 : Int32)), .val (.int (0 : Int32))] [] := by first | (simp [entryFrame, mkF, argsToLocals, Value.category]; done) | rfl
def Q32_34_14_5 (Z : State) (a1 : Addr) (a2 : Addr) (t1 : Addr) (f1 : Nat → Int32) (f2 : Nat → Int32) (zc : Int32) (h0 : Heap) (n0 : Nat) (v : Option Value) (h : Heap) (L : List Loc) : Prop := ∃ (f' : Nat → Int32), v = none ∧ Fr n0 L ∧ Keep h0 h [a2] ∧ Afn Z h a2 .byte (34 : Int32) (fun k => .int (f' k))
theorem rm32_34_14_5 (l : Launch) (Z : State) (a0 : Array Value) (hw : HWt Z a0) (ws : List Jvm.Cond) (a1 : Addr) (a2 : Addr) (t1 : Addr) (f1 : Nat → Int32) (f2 : Nat → Int32) (zc : Int32) (h0 : Heap) (n0 : Nat) (Z0 : n0 ≤ h0.size) (zab : Fld Z h0 a1 k_14 "value" "[B" (.ref t1)) (zaa : Fld Z h0 a1 k_14 "coder" "B" (.int (0 : Int32))) (V_t1 : Afn Z h0 t1 .byte (5 : Int32) (fun k => .int (f1 k))) (E_a1 : Exa Z h0 a1 k_14) (V_a2 : Afn Z h0 a2 .byte (34 : Int32) (fun k => .int (f2 k))) (g_a2 : n0 ≤ a2) (zdd : a1 ≠ a2) (zjv : t1 ≠ a2) (SC : SS0 Z zc) (hzc : ¬ zc = (0 : Int32)) (O : Old Z n0 h0) :
    Con l Z y_32 jdk_42_method_147_code 4 none ws r_rm32_34_14_5 #[(.ref a1), (.ref a2), (.int (14 : Int32)), (.int (0 : Int32))] h0 (Q32_34_14_5 Z a1 a2 t1 f1 f2 zc h0 n0) := by
  refine Con.of2 (plainFor_of_name pn_rm18) ?_
  intro p e s m below meth c s₁ hZ e0 X0 hx hby hml hown hnm hret hlk PP hPP
  have N0 := Fr.nil n0
  refine Go.cast (ef_rm32_34_14_5 m a1 a2) ?_
  have K : Keep h0 h0 [a2] := Keep.refl h0 _
  have Zn : n0 ≤ h0.size := Z0
  show Go p.tables e below PP (s₁.setTop (mkF m 0 #[.val (.ref a1), .val (.ref a2), .val (.int (14 : Int32)), .val (.int (0 : Int32))] []))
  refine Go.st (fun t k => XS.aloadN X0.here hx rfl (hb hby d32_0) rfl rfl k) ?_
  obtain ⟨v1, T1, L1, X1, hQ1, st1⟩ := callVi X0 hx hZ (C := k_14) (y := y_18) (z := y_18) (a := a1) (argsL := []) (rest := []) hown (wk hw 90 rfl) (wk hw 91 rfl) (notFace_of_selects (args := #[]) (mvT hZ (wk hw 93 rfl))) (wk hw 93 rfl) (wk hw 92 rfl) (wk hw 14 rfl) (wk hw 94 rfl) (by decide) rfl E_a1 (rm18 l Z a0 hw [] a1 zc h0 n0 Zn zaa SC hzc O) e0 0 (by decide) (by decide) (by decide) (by decide) (g := (mkF m 1 #[.val (.ref a1), .val (.ref a2), .val (.int (14 : Int32)), .val (.int (0 : Int32))] [(.ref a1)])) rfl (by rw [hml]; rfl) (lenOf pd_0 rfl) rfl (Nat.le_of_eq rfl) (hb hby d32_1)
  obtain ⟨rfl, rfl, e1⟩ := hQ1
  rw [List.append_nil] at X1
  refine Go.st st1 ?_
  refine Go.st (fun t k => XS.iloadN X1.here hx rfl (hb hby d32_4) rfl (XS.icmpNo X1.here hx rfl (hb hby d32_5) rfl (XT.ii_ne_f (by decide)) (XS.aloadN X1.here hx rfl (hb hby d32_8) rfl rfl k))) ?_
  obtain ⟨T2, X2, e2, st2⟩ := getF X1 hx hZ hown (host := "") (Or.inl (wk hw 33 rfl)) Via.refl e1 zab (g := (mkF m 9 #[.val (.ref a1), .val (.ref a2), .val (.int (14 : Int32)), .val (.int (0 : Int32))] [(.ref a1)])) rfl rfl (hb hby d32_9)
  refine Go.st st2 ?_
  refine Go.st (fun t k => XS.iconst X2.here hx rfl (hb hby d32_12) (XS.aloadN X2.here hx rfl (hb hby d32_13) rfl rfl (XS.iloadN X2.here hx rfl (hb hby d32_14) rfl (XS.iloadN X2.here hx rfl (hb hby d32_15) rfl k)))) ?_
  show Go p.tables e below PP (T2.setTop (mkF m 16 #[.val (.ref a1), .val (.ref a2), .val (.int (14 : Int32)), .val (.int (0 : Int32))] [(.int (0 : Int32)), (.int (14 : Int32)), (.ref a2), (.int (0 : Int32)), (.ref t1)]))
  refine Go.st (fun t k => XS.ishl X2.here hx rfl (hb hby d32_16) rfl k) ?_
  show Go p.tables e below PP (T2.setTop (mkF m 17 #[.val (.ref a1), .val (.ref a2), .val (.int (14 : Int32)), .val (.int (0 : Int32))] [(.int ((14 : Int32) <<< ((0 : Int32) &&& 31))), (.ref a2), (.int (0 : Int32)), (.ref t1)]))
  rw [show ((14 : Int32) <<< ((0 : Int32) &&& 31)) = (14 : Int32) from by decide]
  show Go p.tables e below PP (T2.setTop (mkF m 17 #[.val (.ref a1), .val (.ref a2), .val (.int (14 : Int32)), .val (.int (0 : Int32))] [(.int (14 : Int32)), (.ref a2), (.int (0 : Int32)), (.ref t1)]))
  refine Go.st (fun t k => XS.aloadN X2.here hx rfl (hb hby d32_17) rfl rfl k) ?_
  obtain ⟨T3, X3, e3, st3⟩ := getF X2 hx hZ hown (host := "") (Or.inl (wk hw 33 rfl)) Via.refl e2 zab (g := (mkF m 18 #[.val (.ref a1), .val (.ref a2), .val (.int (14 : Int32)), .val (.int (0 : Int32))] [(.ref a1), (.int (14 : Int32)), (.ref a2), (.int (0 : Int32)), (.ref t1)])) rfl rfl (hb hby d32_18)
  refine Go.st st3 ?_
  obtain ⟨cl4, Ar4, S4, Nn4, -⟩ := id V_t1
  refine Go.st (fun t k => X3.arraylength hx (by rw [e3]; exact Ar4.1) (State.isArrayOf_alike hZ.alike Ar4.2.1) (g := (mkF m 21 #[.val (.ref a1), .val (.ref a2), .val (.int (14 : Int32)), .val (.int (0 : Int32))] [(.ref t1), (.int (14 : Int32)), (.ref a2), (.int (0 : Int32)), (.ref t1)])) rfl rfl (hb hby d32_21) _ k) ?_
  rw [len_of S4 Nn4]
  obtain ⟨T5, h5, L5, X5, e5, N5, Kq5, Vq5, st5⟩ := cpF X3 hx hZ hown (wk hw 173 rfl) (wk hw 176 rfl) (wk hw 174 rfl) (wk hw 175 rfl) e3 V_t1 V_a2 rfl (by decide) (by decide) (by decide) (by decide) (by decide) N0 g_a2 (g := (mkF m 22 #[.val (.ref a1), .val (.ref a2), .val (.int (14 : Int32)), .val (.int (0 : Int32))] [(.int (5 : Int32)), (.int (14 : Int32)), (.ref a2), (.int (0 : Int32)), (.ref t1)])) rfl (by rw [hml]; rfl) rfl (hb hby d32_22) (by decide) (W := 0) (by show 2 * 0 + _ ≤ _; exact Nat.le_of_eq rfl) (by decide)
  replace O := O.keep Kq5 (allS g_a2 all0)
  replace K := K.trans Kq5 (allS (Or.inl (List.mem_of_getElem? (i := 0) rfl)) all0)
  replace Zn := Nat.le_trans Zn Kq5.1
  have V_a2 := Vq5
  refine Go.st st5 ?_
  replace V_a2 := own_ints V_a2
  refine Go.st (fun t k => XS.goto X5.here hx rfl (pc0 := 25) (pc' := 43) rfl (hb hby d32_25) (by decide) (by decide) k) ?_
  show Go p.tables e below PP (T5.setTop (mkF m 43 #[.val (.ref a1), .val (.ref a2), .val (.int (14 : Int32)), .val (.int (0 : Int32))] []))
  rw [hPP]
  refine endV X5 hx hlk hret (hb hby d32_43) ?_ (by decide) (by decide)
  rw [e5]
  exact ⟨(fun k => intOf ((fun k => if (14 : Int32).toNatClampNeg ≤ k ∧ k < (14 : Int32).toNatClampNeg + (5 : Int32).toNatClampNeg then (fun k => .int (f1 k)) ((0 : Int32).toNatClampNeg + (k - (14 : Int32).toNatClampNeg)) else (fun k => .int (f2 k)) k) k)), rfl, N5, K, V_a2⟩
abbrev r_rm30_14_5_0 : Room := { frames := 2, cells := 0, slots := 0, locals := 55 }
theorem ef_rm30_14_5_0 (m : MethodId) (a1 : Addr) (a3 : Addr) : entryFrame m #[(.ref a1), (.int (14 : Int32)), (.ref a3)] 3 = mkF m 0 #[.val (.ref a1), .val (.int (14 : Int32)), .val (.ref a3)] [] := by first | (simp [entryFrame, mkF, argsToLocals, Value.category]; done) | rfl
def Q30_14_5_0 (Z : State) (a1 : Addr) (a3 : Addr) (tv : Addr) (fv : Nat → Int32) (t3 : Addr) (f3 : Nat → Int32) (zc : Int32) (h0 : Heap) (n0 : Nat) (v : Option Value) (h : Heap) (L : List Loc) : Prop := ∃ (f' : Nat → Int32), v = none ∧ Fr n0 L ∧ Keep h0 h [tv] ∧ Afn Z h tv .byte (34 : Int32) (fun k => .int (f' k))
theorem rm30_14_5_0 (l : Launch) (Z : State) (a0 : Array Value) (hw : HWt Z a0) (ws : List Jvm.Cond) (a1 : Addr) (a3 : Addr) (tv : Addr) (fv : Nat → Int32) (t3 : Addr) (f3 : Nat → Int32) (zc : Int32) (h0 : Heap) (n0 : Nat) (Z0 : n0 ≤ h0.size) (E_a1 : Exa Z h0 a1 k_15) (zab : Fld Z h0 a1 k_8 "value" "[B" (.ref tv)) (zac : Fld Z h0 a1 k_8 "count" "I" (.int (14 : Int32))) (zaa : Fld Z h0 a1 k_8 "coder" "B" (.int (0 : Int32))) (zak : Fld Z h0 a1 k_8 "maybeLatin1" "Z" (.int (0 : Int32))) (V_tv : Afn Z h0 tv .byte (34 : Int32) (fun k => .int (fv k))) (zaf : Fld Z h0 a3 k_14 "value" "[B" (.ref t3)) (zah : Fld Z h0 a3 k_14 "coder" "B" (.int (0 : Int32))) (V_t3 : Afn Z h0 t3 .byte (5 : Int32) (fun k => .int (f3 k))) (E_a3 : Exa Z h0 a3 k_14) (g_a1 : n0 ≤ a1) (g_tv : n0 ≤ tv) (zau : a1 ≠ tv) (zgk : a3 ≠ a1) (zht : t3 ≠ a1) (zhh : a3 ≠ tv) (zhi : t3 ≠ tv) (SC : SS0 Z zc) (hzc : ¬ zc = (0 : Int32)) (O : Old Z n0 h0) :
    Con l Z y_30 jdk_68_method_73_code 3 none ws r_rm30_14_5_0 #[(.ref a1), (.int (14 : Int32)), (.ref a3)] h0 (Q30_14_5_0 Z a1 a3 tv fv t3 f3 zc h0 n0) := by
  refine Con.of2 (plainFor_of_name pn_rm42) ?_
  intro p e s m below meth c s₁ hZ e0 X0 hx hby hml hown hnm hret hlk PP hPP
  have N0 := Fr.nil n0
  refine Go.cast (ef_rm30_14_5_0 m a1 a3) ?_
  have K : Keep h0 h0 [tv] := Keep.refl h0 _
  have Zn : n0 ≤ h0.size := Z0
  show Go p.tables e below PP (s₁.setTop (mkF m 0 #[.val (.ref a1), .val (.int (14 : Int32)), .val (.ref a3)] []))
  refine Go.st (fun t k => XS.aloadN X0.here hx rfl (hb hby d30_0) rfl rfl (XS.aloadN X0.here hx rfl (hb hby d30_1) rfl rfl k)) ?_
  obtain ⟨v1, T1, L1, X1, hQ1, st1⟩ := callPr X0 hx hZ (y := y_31) (a := a1) (argsL := [(.ref a3)]) (rest := []) hown (wk hw 162 rfl) (wk hw 163 rfl) (selPriv2 (y := y_31) (nf_of (wk hw 165 rfl) rfl) (wk hw 164 rfl) (wk hw 163 rfl) (by decide)) (wk hw 164 rfl) (wk hw 129 rfl) (wk hw 166 rfl) (by decide) E_a1 (rm31 l Z a0 hw [] a1 a3 zc h0 n0 Zn zaa zah E_a3 SC hzc O) e0 0 (by decide) (by decide) (by decide) (by decide) (g := (mkF m 2 #[.val (.ref a1), .val (.int (14 : Int32)), .val (.ref a3)] [(.ref a3), (.ref a1)])) rfl (by rw [hml]; rfl) (lenOf pd_23 rfl) rfl (Nat.le_of_eq rfl) (hb hby d30_2)
  obtain ⟨rfl, rfl, e1⟩ := hQ1
  rw [List.append_nil] at X1
  refine Go.st st1 ?_
  refine Go.st (fun t k => XS.aloadN X1.here hx rfl (hb hby d30_5) rfl rfl (XS.aloadN X1.here hx rfl (hb hby d30_6) rfl rfl k)) ?_
  obtain ⟨T2, X2, e2, st2⟩ := getF X1 hx hZ hown (host := "") (Or.inl (wk hw 133 rfl)) Via.refl e1 zab (g := (mkF m 7 #[.val (.ref a1), .val (.int (14 : Int32)), .val (.ref a3)] [(.ref a1), (.ref a3)])) rfl rfl (hb hby d30_7)
  refine Go.st st2 ?_
  refine Go.st (fun t k => XS.iloadN X2.here hx rfl (hb hby d30_10) rfl (XS.aloadN X2.here hx rfl (hb hby d30_11) rfl rfl k)) ?_
  obtain ⟨T3, X3, e3, st3⟩ := getF X2 hx hZ hown (host := "") (Or.inl (wk hw 135 rfl)) Via.refl e2 zaa (g := (mkF m 12 #[.val (.ref a1), .val (.int (14 : Int32)), .val (.ref a3)] [(.ref a1), (.int (14 : Int32)), (.ref tv), (.ref a3)])) rfl rfl (hb hby d30_12)
  refine Go.st st3 ?_
  obtain ⟨v4, T4, L4, X4, hQ4, st4⟩ := callVi X3 hx hZ (C := k_14) (y := y_32) (z := y_32) (a := a3) (argsL := [(.ref tv), (.int (14 : Int32)), (.int (0 : Int32))]) (rest := []) hown (wk hw 168 rfl) (wk hw 169 rfl) (notFace_of_selects (args := #[]) (mvT hZ (wk hw 171 rfl))) (wk hw 171 rfl) (wk hw 170 rfl) (wk hw 14 rfl) (wk hw 172 rfl) (by decide) rfl E_a3 (rm32_34_14_5 l Z a0 hw [] a3 tv t3 f3 fv zc h0 n0 Zn zaf zah V_t3 E_a3 V_tv g_tv zhh zhi SC hzc O) e3 0 (by decide) (by decide) (by decide) (by decide) (g := (mkF m 15 #[.val (.ref a1), .val (.int (14 : Int32)), .val (.ref a3)] [(.int (0 : Int32)), (.int (14 : Int32)), (.ref tv), (.ref a3)])) rfl (by rw [hml]; rfl) (lenOf pd_24 rfl) rfl (Nat.le_of_eq rfl) (hb hby d30_15)
  obtain ⟨h4, e4⟩ : ∃ z, T4.heap = z := ⟨_, rfl⟩
  rw [e4] at hQ4
  obtain ⟨fx_4, rfl, Nq4, Kq4, zaw⟩ := hQ4
  have N4 := Fr.app N0 Nq4
  replace O := O.keep Kq4 (allS g_tv all0)
  replace K := K.trans Kq4 (allS (Or.inl (List.mem_of_getElem? (i := 0) rfl)) all0)
  replace Zn := Nat.le_trans Zn Kq4.1
  refine Go.st st4 ?_
  show Go p.tables e below PP (T4.setTop (mkF m 18 #[.val (.ref a1), .val (.int (14 : Int32)), .val (.ref a3)] []))
  rw [hPP]
  refine endV X4 hx hlk hret (hb hby d30_18) ?_ (by decide) (by decide)
  rw [e4]
  exact ⟨fx_4, rfl, N4, K, zaw⟩
abbrev r_rm28_14_5_0 : Room := { frames := 4, cells := 1, slots := 34, locals := 69 }
def Q28_14_5_0 (Z : State) (a1 : Addr) (a2 : Addr) (tv : Addr) (fv : Nat → Int32) (t2 : Addr) (f2 : Nat → Int32) (zc : Int32) (h0 : Heap) (n0 : Nat) (v : Option Value) (h : Heap) (L : List Loc) : Prop := ∃ (tv' : Addr) (f' : Nat → Int32), v = some (.ref a1) ∧ Fr n0 L ∧ Keep h0 h [a1] ∧ h0.size ≤ tv' ∧ Fld Z h a1 k_8 "value" "[B" (.ref tv') ∧ Fld Z h a1 k_8 "count" "I" (.int (19 : Int32)) ∧ Fld Z h a1 k_8 "coder" "B" (.int (0 : Int32)) ∧ Fld Z h a1 k_8 "maybeLatin1" "Z" (.int (0 : Int32)) ∧ Afn Z h tv' .byte (34 : Int32) (fun k => .int (f' k))
theorem rm28_14_5_0 (l : Launch) (Z : State) (a0 : Array Value) (hw : HWt Z a0) (ws : List Jvm.Cond) (a1 : Addr) (a2 : Addr) (tv : Addr) (fv : Nat → Int32) (t2 : Addr) (f2 : Nat → Int32) (zc : Int32) (h0 : Heap) (n0 : Nat) (Z0 : n0 ≤ h0.size) (E_a1 : Exa Z h0 a1 k_15) (zab : Fld Z h0 a1 k_8 "value" "[B" (.ref tv)) (zac : Fld Z h0 a1 k_8 "count" "I" (.int (14 : Int32))) (zaa : Fld Z h0 a1 k_8 "coder" "B" (.int (0 : Int32))) (zak : Fld Z h0 a1 k_8 "maybeLatin1" "Z" (.int (0 : Int32))) (V_tv : Afn Z h0 tv .byte (16 : Int32) (fun k => .int (fv k))) (zad : Fld Z h0 a2 k_14 "value" "[B" (.ref t2)) (zae : Fld Z h0 a2 k_14 "coder" "B" (.int (0 : Int32))) (V_t2 : Afn Z h0 t2 .byte (5 : Int32) (fun k => .int (f2 k))) (E_a2 : Exa Z h0 a2 k_14) (g_a1 : n0 ≤ a1) (g_tv : n0 ≤ tv) (zau : a1 ≠ tv) (zcb : a2 ≠ a1) (zcy : t2 ≠ a1) (zdr : a2 ≠ tv) (zds : t2 ≠ tv) (SC : SS0 Z zc) (hzc : ¬ zc = (0 : Int32)) (O : Old Z n0 h0) :
    Con l Z y_28 jdk_68_method_22_code 3 (some (.object "java/lang/AbstractStringBuilder")) ws r_rm28_14_5_0 #[(.ref a1), (.ref a2)] h0 (Q28_14_5_0 Z a1 a2 tv fv t2 f2 zc h0 n0) := by
  refine Con.of2 (plainFor_of_name pn_rm42) ?_
  intro p e s m below meth c s₁ hZ e0 X0 hx hby hml hown hnm hret hlk PP hPP
  have N0 := Fr.nil n0
  refine Go.cast (ef_rm28a m a1 a2) ?_
  have K : Keep h0 h0 [a1] := Keep.refl h0 _
  have Zn : n0 ≤ h0.size := Z0
  show Go p.tables e below PP (s₁.setTop (mkF m 0 #[.val (.ref a1), .val (.ref a2), .unset] []))
  refine Go.st (fun t k => XS.aloadN X0.here hx rfl (hb hby d28_0) rfl rfl (XS.ifnonnullYes X0.here hx rfl (pc0 := 1) (pc' := 9) rfl (hb hby d28_1) rfl (by decide) (by decide) (XS.aloadN X0.here hx rfl (hb hby d28_9) rfl rfl k))) ?_
  obtain ⟨v1, T1, L1, X1, hQ1, st1⟩ := callVi X0 hx hZ (C := k_14) (y := y_17) (z := y_17) (a := a2) (argsL := []) (rest := []) hown (wk hw 149 rfl) (wk hw 86 rfl) (notFace_of_selects (args := #[]) (mvT hZ (wk hw 88 rfl))) (wk hw 88 rfl) (wk hw 87 rfl) (wk hw 14 rfl) (wk hw 89 rfl) (by decide) rfl E_a2 (rm17 l Z a0 hw [] a2 t2 (5 : Int32) f2 zc h0 n0 Zn zad zae V_t2 E_a2 SC hzc O) e0 0 (by decide) (by decide) (by decide) (by decide) (g := (mkF m 10 #[.val (.ref a1), .val (.ref a2), .unset] [(.ref a2)])) rfl (by rw [hml]; rfl) (lenOf pd_5 rfl) rfl (Nat.le_of_eq rfl) (hb hby d28_10)
  obtain ⟨rfl, rfl, e1⟩ := hQ1
  rw [List.append_nil] at X1
  refine Go.st st1 ?_
  refine Go.st (fun t k => XS.istoreN X1.here hx rfl (hb hby d28_13) rfl (l' := #[.val (.ref a1), .val (.ref a2), .val (.int (5 : Int32))]) rfl (XS.aloadN X1.here hx rfl (hb hby d28_14) rfl rfl (XS.aloadN X1.here hx rfl (hb hby d28_15) rfl rfl k))) ?_
  obtain ⟨T2, X2, e2, st2⟩ := getF X1 hx hZ hown (host := "") (Or.inl (wk hw 150 rfl)) Via.refl e1 zac (g := (mkF m 16 #[.val (.ref a1), .val (.ref a2), .val (.int (5 : Int32))] [(.ref a1), (.ref a1)])) rfl rfl (hb hby d28_16)
  refine Go.st st2 ?_
  refine Go.st (fun t k => XS.iloadN X2.here hx rfl (hb hby d28_19) rfl (XS.iadd X2.here hx rfl (hb hby d28_20) rfl k)) ?_
  show Go p.tables e below PP (T2.setTop (mkF m 21 #[.val (.ref a1), .val (.ref a2), .val (.int (5 : Int32))] [(.int (19 : Int32)), (.ref a1)]))
  obtain ⟨v3, T3, L3, X3, hQ3, st3⟩ := callPr X2 hx hZ (y := y_29) (a := a1) (argsL := [(.int (19 : Int32))]) (rest := []) hown (wk hw 152 rfl) (wk hw 153 rfl) (selPriv2 (y := y_29) (nf_of (wk hw 155 rfl) rfl) (wk hw 154 rfl) (wk hw 153 rfl) (by decide)) (wk hw 154 rfl) (wk hw 129 rfl) (wk hw 156 rfl) (by decide) E_a1 (rm29g l Z a0 hw [] a1 tv fv h0 n0 Zn E_a1 zab zac zaa zak V_tv g_a1 g_tv zau) e2 0 (by decide) (by decide) (by decide) (by decide) (g := (mkF m 21 #[.val (.ref a1), .val (.ref a2), .val (.int (5 : Int32))] [(.int (19 : Int32)), (.ref a1)])) rfl (by rw [hml]; rfl) (lenOf pd_25 rfl) rfl (Nat.le_of_eq rfl) (hb hby d28_21)
  obtain ⟨h3, e3⟩ : ∃ z, T3.heap = z := ⟨_, rfl⟩
  rw [e3] at hQ3
  obtain ⟨zev, fx_3, rfl, Nq3, Kq3, zde, zcj, zcc, zcr, zcs, zlf⟩ := hQ3
  have N3 := Fr.app N0 Nq3
  have zfw : a1 ≠ zev := Nat.ne_of_lt (Nat.lt_of_lt_of_le E_a1.lt zde)
  have zlg : a2 ≠ zev := Nat.ne_of_lt (Nat.lt_of_lt_of_le zad.lt zde)
  have zlh : t2 ≠ zev := Nat.ne_of_lt (Nat.lt_of_lt_of_le V_t2.lt zde)
  have zjw : n0 ≤ zev := Nat.le_trans Zn zde
  have zjx : h0.size ≤ zev := Nat.le_trans K.1 zde
  replace E_a1 := E_a1.keep Kq3
  replace zad := zad.keep Kq3 (ninS zcb nin0)
  replace zae := zae.keep Kq3 (ninS zcb nin0)
  replace V_t2 := V_t2.keep Kq3 (ninS zcy nin0)
  replace E_a2 := E_a2.keep Kq3
  replace O := O.keep Kq3 (allS g_a1 all0)
  replace K := K.trans Kq3 (allS (Or.inl (List.mem_of_getElem? (i := 0) rfl)) all0)
  replace Zn := Nat.le_trans Zn Kq3.1
  refine Go.st st3 ?_
  refine Go.st (fun t k => XS.aloadN X3.here hx rfl (hb hby d28_24) rfl rfl (XS.aloadN X3.here hx rfl (hb hby d28_25) rfl rfl k)) ?_
  obtain ⟨T4, X4, e4, st4⟩ := getF X3 hx hZ hown (host := "") (Or.inl (wk hw 150 rfl)) Via.refl e3 zcc (g := (mkF m 26 #[.val (.ref a1), .val (.ref a2), .val (.int (5 : Int32))] [(.ref a1), (.ref a1)])) rfl rfl (hb hby d28_26)
  refine Go.st st4 ?_
  refine Go.st (fun t k => XS.aloadN X4.here hx rfl (hb hby d28_29) rfl rfl k) ?_
  obtain ⟨v5, T5, L5, X5, hQ5, st5⟩ := callPr X4 hx hZ (y := y_30) (a := a1) (argsL := [(.int (14 : Int32)), (.ref a2)]) (rest := []) hown (wk hw 157 rfl) (wk hw 158 rfl) (selPriv2 (y := y_30) (nf_of (wk hw 160 rfl) rfl) (wk hw 159 rfl) (wk hw 158 rfl) (by decide)) (wk hw 159 rfl) (wk hw 129 rfl) (wk hw 161 rfl) (by decide) E_a1 (rm30_14_5_0 l Z a0 hw [] a1 a2 zev fx_3 t2 f2 zc h3 n0 Zn E_a1 zcj zcc zcr zcs zlf zad zae V_t2 E_a2 g_a1 zjw zfw zcb zcy zlg zlh SC hzc O) e4 0 (by decide) (by decide) (by decide) (by decide) (g := (mkF m 30 #[.val (.ref a1), .val (.ref a2), .val (.int (5 : Int32))] [(.ref a2), (.int (14 : Int32)), (.ref a1)])) rfl (by rw [hml]; rfl) (lenOf pd_26 rfl) rfl (Nat.le_of_eq rfl) (hb hby d28_30)
  obtain ⟨h5, e5⟩ : ∃ z, T5.heap = z := ⟨_, rfl⟩
  rw [e5] at hQ5
  obtain ⟨fx_5, rfl, Nq5, Kq5, zan⟩ := hQ5
  have N5 := Fr.app N3 Nq5
  replace E_a1 := E_a1.keep Kq5
  replace zcj := zcj.keep Kq5 (ninS zfw nin0)
  replace zcc := zcc.keep Kq5 (ninS zfw nin0)
  replace zcr := zcr.keep Kq5 (ninS zfw nin0)
  replace zcs := zcs.keep Kq5 (ninS zfw nin0)
  replace O := O.keep Kq5 (allS zjw all0)
  replace K := K.trans Kq5 (allS (Or.inr zjx) all0)
  replace Zn := Nat.le_trans Zn Kq5.1
  refine Go.st st5 ?_
  refine Go.st (fun t k => XS.aloadN X5.here hx rfl (hb hby d28_33) rfl rfl (XS.dup X5.here hx rfl (hb hby d28_34) rfl rfl k)) ?_
  obtain ⟨T6, X6, e6, st6⟩ := getF X5 hx hZ hown (host := "") (Or.inl (wk hw 150 rfl)) Via.refl e5 zcc (g := (mkF m 35 #[.val (.ref a1), .val (.ref a2), .val (.int (5 : Int32))] [(.ref a1), (.ref a1)])) rfl rfl (hb hby d28_35)
  refine Go.st st6 ?_
  refine Go.st (fun t k => XS.iloadN X6.here hx rfl (hb hby d28_38) rfl (XS.iadd X6.here hx rfl (hb hby d28_39) rfl k)) ?_
  show Go p.tables e below PP (T6.setTop (mkF m 40 #[.val (.ref a1), .val (.ref a2), .val (.int (5 : Int32))] [(.int (19 : Int32)), (.ref a1)]))
  obtain ⟨T7, h7, X7, e7, W7, st7⟩ := putF X6 hx hZ hown (host := "") (Or.inl (wk hw 150 rfl)) Via.refl e6 zcc E_a1 (Or.inl (wk hw 151 rfl)) (wk hw 120 rfl) (ty := .int) (by decide) rfl rfl (g := (mkF m 40 #[.val (.ref a1), .val (.ref a2), .val (.int (5 : Int32))] [(.int (19 : Int32)), (.ref a1)])) rfl rfl (hb hby d28_40)
  refine Go.st st7 ?_
  have N7 := Fr.snoc X7 N5 g_a1
  replace zcj := zcj.other W7 (Or.inr (slot_ne (a0 := a0) (Or.inl (wk hw 134 rfl)) (Or.inl (wk hw 151 rfl)) (by decide) (t := (.array .byte)) (t' := .int) (by decide) (by decide)))
  replace zcr := zcr.other W7 (Or.inr (slot_ne (a0 := a0) (Or.inl (wk hw 136 rfl)) (Or.inl (wk hw 151 rfl)) (by decide) (t := .byte) (t' := .int) (by decide) (by decide)))
  replace zcs := zcs.other W7 (Or.inr (slot_ne (a0 := a0) (Or.inl (wk hw 447 rfl)) (Or.inl (wk hw 151 rfl)) (by decide) (t := .boolean) (t' := .int) (by decide) (by decide)))
  replace zan := zan.other W7 (Ne.symm zfw)
  replace O := O.wr W7 g_a1
  replace K := K.wr W7 (Or.inl (List.mem_of_getElem? (i := 0) rfl))
  replace Zn : n0 ≤ h7.size := by rw [W7.size]; exact Zn
  replace zcc := zcc.same W7
  refine Go.st (fun t k => XS.aloadN X7.here hx rfl (hb hby d28_43) rfl rfl k) ?_
  show Go p.tables e below PP (T7.setTop (mkF m 44 #[.val (.ref a1), .val (.ref a2), .val (.int (5 : Int32))] [(.ref a1)]))
  rw [hPP]
  refine endR X7 hx hlk hret rfl rfl (hb hby d28_44) ?_ (by decide) (by decide)
  rw [e7]
  exact ⟨zev, fx_5, rfl, N7, K, zjx, zcj, zcc, zcr, zcs, zan⟩
abbrev r_rm27_14_5_0 : Room := { frames := 5, cells := 1, slots := 34, locals := 83 }
def Q27_14_5_0 (Z : State) (a1 : Addr) (a2 : Addr) (tv : Addr) (fv : Nat → Int32) (t2 : Addr) (f2 : Nat → Int32) (zc : Int32) (h0 : Heap) (n0 : Nat) (v : Option Value) (h : Heap) (L : List Loc) : Prop := ∃ (tv' : Addr) (f' : Nat → Int32), v = some (.ref a1) ∧ Fr n0 L ∧ Keep h0 h [a1] ∧ h0.size ≤ tv' ∧ Fld Z h a1 k_8 "value" "[B" (.ref tv') ∧ Fld Z h a1 k_8 "count" "I" (.int (19 : Int32)) ∧ Fld Z h a1 k_8 "coder" "B" (.int (0 : Int32)) ∧ Fld Z h a1 k_8 "maybeLatin1" "Z" (.int (0 : Int32)) ∧ Afn Z h tv' .byte (34 : Int32) (fun k => .int (f' k))
theorem rm27_14_5_0 (l : Launch) (Z : State) (a0 : Array Value) (hw : HWt Z a0) (ws : List Jvm.Cond) (a1 : Addr) (a2 : Addr) (tv : Addr) (fv : Nat → Int32) (t2 : Addr) (f2 : Nat → Int32) (zc : Int32) (h0 : Heap) (n0 : Nat) (Z0 : n0 ≤ h0.size) (E_a1 : Exa Z h0 a1 k_15) (zab : Fld Z h0 a1 k_8 "value" "[B" (.ref tv)) (zac : Fld Z h0 a1 k_8 "count" "I" (.int (14 : Int32))) (zaa : Fld Z h0 a1 k_8 "coder" "B" (.int (0 : Int32))) (zak : Fld Z h0 a1 k_8 "maybeLatin1" "Z" (.int (0 : Int32))) (V_tv : Afn Z h0 tv .byte (16 : Int32) (fun k => .int (fv k))) (zad : Fld Z h0 a2 k_14 "value" "[B" (.ref t2)) (zae : Fld Z h0 a2 k_14 "coder" "B" (.int (0 : Int32))) (V_t2 : Afn Z h0 t2 .byte (5 : Int32) (fun k => .int (f2 k))) (E_a2 : Exa Z h0 a2 k_14) (g_a1 : n0 ≤ a1) (g_tv : n0 ≤ tv) (zau : a1 ≠ tv) (zcb : a2 ≠ a1) (zcy : t2 ≠ a1) (zdr : a2 ≠ tv) (zds : t2 ≠ tv) (SC : SS0 Z zc) (hzc : ¬ zc = (0 : Int32)) (O : Old Z n0 h0) :
    Con l Z y_27 jdk_67_method_7_code 2 (some (.object "java/lang/StringBuilder")) ws r_rm27_14_5_0 #[(.ref a1), (.ref a2)] h0 (Q27_14_5_0 Z a1 a2 tv fv t2 f2 zc h0 n0) := by
  refine Con.of2 (plainFor_of_name pn_rm27a) ?_
  intro p e s m below meth c s₁ hZ e0 X0 hx hby hml hown hnm hret hlk PP hPP
  have N0 := Fr.nil n0
  refine Go.cast (ef_rm12 m a1 a2) ?_
  have K : Keep h0 h0 [a1] := Keep.refl h0 _
  have Zn : n0 ≤ h0.size := Z0
  show Go p.tables e below PP (s₁.setTop (mkF m 0 #[.val (.ref a1), .val (.ref a2)] []))
  refine Go.st (fun t k => XS.aloadN X0.here hx rfl (hb hby d27_0) rfl rfl (XS.aloadN X0.here hx rfl (hb hby d27_1) rfl rfl k)) ?_
  obtain ⟨v1, T1, L1, X1, hQ1, st1⟩ := callSup X0 hx hZ (K := k_15) (y := y_28) (a := a1) (argsL := [(.ref a2)]) (rest := []) hown (wk hw 144 rfl) (sameSelf (y := y_28) (wk hw 145 rfl) (nf_of (wk hw 155 rfl) rfl) (by decide)) (wk hw 145 rfl) (wk hw 146 rfl) (wk hw 129 rfl) (wk hw 148 rfl) (by decide) E_a1 (rm28_14_5_0 l Z a0 hw [] a1 a2 tv fv t2 f2 zc h0 n0 Zn E_a1 zab zac zaa zak V_tv zad zae V_t2 E_a2 g_a1 g_tv zau zcb zcy zdr zds SC hzc O) e0 0 (by decide) (by decide) (by decide) (by decide) (g := (mkF m 2 #[.val (.ref a1), .val (.ref a2)] [(.ref a2), (.ref a1)])) rfl (by rw [hml]; rfl) (lenOf pd_27 rfl) rfl (Nat.le_of_eq rfl) (hb hby d27_2)
  obtain ⟨h1, e1⟩ : ∃ z, T1.heap = z := ⟨_, rfl⟩
  rw [e1] at hQ1
  obtain ⟨zbs, fx_1, rfl, Nq1, Kq1, zbk, zai, zbn, zbo, zcm, zec⟩ := hQ1
  have N1 := Fr.app N0 Nq1
  have zep : h0.size ≤ zbs := Nat.le_trans K.1 zbk
  replace O := O.keep Kq1 (allS g_a1 all0)
  replace K := K.trans Kq1 (allS (Or.inl (List.mem_of_getElem? (i := 0) rfl)) all0)
  replace Zn := Nat.le_trans Zn Kq1.1
  refine Go.st st1 ?_
  refine Go.st (fun t k => XS.pop X1.here hx rfl (hb hby d27_5) rfl rfl (XS.aloadN X1.here hx rfl (hb hby d27_6) rfl rfl k)) ?_
  show Go p.tables e below PP (T1.setTop (mkF m 7 #[.val (.ref a1), .val (.ref a2)] [(.ref a1)]))
  rw [hPP]
  refine endR X1 hx hlk hret rfl rfl (hb hby d27_7) ?_ (by decide) (by decide)
  rw [e1]
  exact ⟨zbs, fx_1, rfl, N1, K, zep, zai, zbn, zbo, zcm, zec⟩
abbrev r_rm29_20_2_1 : Room := { frames := 0, cells := 0, slots := 0, locals := 0 }
theorem ef_rm29_20_2_1 (m : MethodId) (a1 : Addr) : entryFrame m #[(.ref a1), (.int (21 : Int32))] 3 = mkF m 0 #[.val (.ref a1), .val (.int (21 : Int32)), .unset] [] := by first | (simp [entryFrame, mkF, argsToLocals, Value.category]; done) | rfl
def Q29_20_2_1 (Z : State) (a1 : Addr) (tv : Addr) (fv : Nat → Int32) (h0 : Heap) (n0 : Nat) (v : Option Value) (h : Heap) (L : List Loc) : Prop := v = none ∧ L = [] ∧ h = h0
theorem rm29_20_2_1 (l : Launch) (Z : State) (a0 : Array Value) (hw : HWt Z a0) (ws : List Jvm.Cond) (a1 : Addr) (tv : Addr) (fv : Nat → Int32) (h0 : Heap) (n0 : Nat) (Z0 : n0 ≤ h0.size) (E_a1 : Exa Z h0 a1 k_15) (zab : Fld Z h0 a1 k_8 "value" "[B" (.ref tv)) (zac : Fld Z h0 a1 k_8 "count" "I" (.int (20 : Int32))) (zaa : Fld Z h0 a1 k_8 "coder" "B" (.int (0 : Int32))) (zak : Fld Z h0 a1 k_8 "maybeLatin1" "Z" (.int (0 : Int32))) (V_tv : Afn Z h0 tv .byte (34 : Int32) (fun k => .int (fv k))) :
    Con l Z y_29 jdk_68_method_9_code 3 none ws r_rm29_20_2_1 #[(.ref a1), (.int (21 : Int32))] h0 (Q29_20_2_1 Z a1 tv fv h0 n0) := by
  refine Con.of2 (plainFor_of_name pn_rm42) ?_
  intro p e s m below meth c s₁ hZ e0 X0 hx hby hml hown hnm hret hlk PP hPP
  have N0 := Fr.nil n0
  refine Go.cast (ef_rm29_20_2_1 m a1) ?_
  have Zn : n0 ≤ h0.size := Z0
  show Go p.tables e below PP (s₁.setTop (mkF m 0 #[.val (.ref a1), .val (.int (21 : Int32)), .unset] []))
  refine Go.st (fun t k => XS.aloadN X0.here hx rfl (hb hby d29_0) rfl rfl k) ?_
  obtain ⟨T1, X1, e1, st1⟩ := getF X0 hx hZ hown (host := "") (Or.inl (wk hw 133 rfl)) Via.refl e0 zab (g := (mkF m 1 #[.val (.ref a1), .val (.int (21 : Int32)), .unset] [(.ref a1)])) rfl rfl (hb hby d29_1)
  refine Go.st st1 ?_
  obtain ⟨cl2, Ar2, S2, Nn2, -⟩ := id V_tv
  refine Go.st (fun t k => X1.arraylength hx (by rw [e1]; exact Ar2.1) (State.isArrayOf_alike hZ.alike Ar2.2.1) (g := (mkF m 4 #[.val (.ref a1), .val (.int (21 : Int32)), .unset] [(.ref tv)])) rfl rfl (hb hby d29_4) _ k) ?_
  rw [len_of S2 Nn2]
  refine Go.st (fun t k => XS.aloadN X1.here hx rfl (hb hby d29_5) rfl rfl k) ?_
  obtain ⟨T3, X3, e3, st3⟩ := getF X1 hx hZ hown (host := "") (Or.inl (wk hw 135 rfl)) Via.refl e1 zaa (g := (mkF m 6 #[.val (.ref a1), .val (.int (21 : Int32)), .unset] [(.ref a1), (.int (34 : Int32))])) rfl rfl (hb hby d29_6)
  refine Go.st st3 ?_
  show Go p.tables e below PP (T3.setTop (mkF m 9 #[.val (.ref a1), .val (.int (21 : Int32)), .unset] [(.int (0 : Int32)), (.int (34 : Int32))]))
  refine Go.st (fun t k => XS.ishr X3.here hx rfl (hb hby d29_9) rfl k) ?_
  show Go p.tables e below PP (T3.setTop (mkF m 10 #[.val (.ref a1), .val (.int (21 : Int32)), .unset] [(.int ((34 : Int32) >>> ((0 : Int32) &&& 31)))]))
  rw [show ((34 : Int32) >>> ((0 : Int32) &&& 31)) = (34 : Int32) from by decide]
  show Go p.tables e below PP (T3.setTop (mkF m 10 #[.val (.ref a1), .val (.int (21 : Int32)), .unset] [(.int (34 : Int32))]))
  refine Go.st (fun t k => XS.istoreN X3.here hx rfl (hb hby d29_10) rfl (l' := #[.val (.ref a1), .val (.int (21 : Int32)), .val (.int (34 : Int32))]) rfl (XS.iloadN X3.here hx rfl (hb hby d29_11) rfl (XS.iloadN X3.here hx rfl (hb hby d29_12) rfl (XS.isub X3.here hx rfl (hb hby d29_13) rfl k)))) ?_
  show Go p.tables e below PP (T3.setTop (mkF m 14 #[.val (.ref a1), .val (.int (21 : Int32)), .val (.int (34 : Int32))] [(.int (-13 : Int32))]))
  refine Go.st (fun t k => XS.ifYes X3.here hx rfl (pc0 := 14) (pc' := 38) rfl (hb hby d29_14) rfl (XT.i0_le_t (by decide)) (by decide) (by decide) k) ?_
  show Go p.tables e below PP (T3.setTop (mkF m 38 #[.val (.ref a1), .val (.int (21 : Int32)), .val (.int (34 : Int32))] []))
  rw [hPP]
  refine endV X3 hx hlk hret (hb hby d29_38) ?_ (by decide) (by decide)
  rw [e3]
  exact ⟨rfl, rfl, rfl⟩
abbrev r_rm32_68_20_2 : Room := { frames := 1, cells := 0, slots := 0, locals := 40 }
theorem ef_rm32_68_20_2 (m : MethodId) (a1 : Addr) (a2 : Addr) : entryFrame m #[(.ref a1), (.ref a2), (.int (20 : Int32)), (.int (1 : Int32))] 4 = mkF m 0 #[.val (.ref a1), .val (.ref a2), .val (.int (20 : Int32)), .val (.int (1 : Int32))] [] := by first | (simp [entryFrame, mkF, argsToLocals, Value.category]; done) | rfl
def Q32_68_20_2 (Z : State) (a1 : Addr) (a2 : Addr) (t1 : Addr) (f1 : Nat → Int32) (f2 : Nat → Int32) (zc : Int32) (h0 : Heap) (n0 : Nat) (v : Option Value) (h : Heap) (L : List Loc) : Prop := ∃ (f' : Nat → Int32), v = none ∧ Fr n0 L ∧ Keep h0 h [a2] ∧ Afn Z h a2 .byte (68 : Int32) (fun k => .int (f' k)) ∧ ∀ j, j < 20 → f' (2 * j + 1) = (0 : Int32)
theorem rm32_68_20_2 (l : Launch) (Z : State) (a0 : Array Value) (hw : HWt Z a0) (ws : List Jvm.Cond) (a1 : Addr) (a2 : Addr) (t1 : Addr) (f1 : Nat → Int32) (f2 : Nat → Int32) (zc : Int32) (h0 : Heap) (n0 : Nat) (Z0 : n0 ≤ h0.size) (zab : Fld Z h0 a1 k_14 "value" "[B" (.ref t1)) (zaa : Fld Z h0 a1 k_14 "coder" "B" (.int (1 : Int32))) (V_t1 : Afn Z h0 t1 .byte (2 : Int32) (fun k => .int (f1 k))) (E_a1 : Exa Z h0 a1 k_14) (V_a2 : Afn Z h0 a2 .byte (68 : Int32) (fun k => .int (f2 k))) (g_a2 : n0 ≤ a2) (zdd : a1 ≠ a2) (zjv : t1 ≠ a2) (SC : SS0 Z zc) (hzc : ¬ zc = (0 : Int32)) (O : Old Z n0 h0) (hz : ∀ j, j < 20 → f2 (2 * j + 1) = (0 : Int32)) :
    Con l Z y_32 jdk_42_method_147_code 4 none ws r_rm32_68_20_2 #[(.ref a1), (.ref a2), (.int (20 : Int32)), (.int (1 : Int32))] h0 (Q32_68_20_2 Z a1 a2 t1 f1 f2 zc h0 n0) := by
  refine Con.of2 (plainFor_of_name pn_rm18) ?_
  intro p e s m below meth c s₁ hZ e0 X0 hx hby hml hown hnm hret hlk PP hPP
  have N0 := Fr.nil n0
  refine Go.cast (ef_rm32_68_20_2 m a1 a2) ?_
  have K : Keep h0 h0 [a2] := Keep.refl h0 _
  have Zn : n0 ≤ h0.size := Z0
  show Go p.tables e below PP (s₁.setTop (mkF m 0 #[.val (.ref a1), .val (.ref a2), .val (.int (20 : Int32)), .val (.int (1 : Int32))] []))
  refine Go.st (fun t k => XS.aloadN X0.here hx rfl (hb hby d32_0) rfl rfl k) ?_
  obtain ⟨v1, T1, L1, X1, hQ1, st1⟩ := callVi X0 hx hZ (C := k_14) (y := y_18) (z := y_18) (a := a1) (argsL := []) (rest := []) hown (wk hw 90 rfl) (wk hw 91 rfl) (notFace_of_selects (args := #[]) (mvT hZ (wk hw 93 rfl))) (wk hw 93 rfl) (wk hw 92 rfl) (wk hw 14 rfl) (wk hw 94 rfl) (by decide) rfl E_a1 (rm18u l Z a0 hw [] a1 zc h0 n0 Zn zaa SC hzc O) e0 0 (by decide) (by decide) (by decide) (by decide) (g := (mkF m 1 #[.val (.ref a1), .val (.ref a2), .val (.int (20 : Int32)), .val (.int (1 : Int32))] [(.ref a1)])) rfl (by rw [hml]; rfl) (lenOf pd_0 rfl) rfl (Nat.le_of_eq rfl) (hb hby d32_1)
  obtain ⟨rfl, rfl, e1⟩ := hQ1
  rw [List.append_nil] at X1
  refine Go.st st1 ?_
  refine Go.st (fun t k => XS.iloadN X1.here hx rfl (hb hby d32_4) rfl (XS.icmpNo X1.here hx rfl (hb hby d32_5) rfl (XT.ii_ne_f (by decide)) (XS.aloadN X1.here hx rfl (hb hby d32_8) rfl rfl k))) ?_
  obtain ⟨T2, X2, e2, st2⟩ := getF X1 hx hZ hown (host := "") (Or.inl (wk hw 33 rfl)) Via.refl e1 zab (g := (mkF m 9 #[.val (.ref a1), .val (.ref a2), .val (.int (20 : Int32)), .val (.int (1 : Int32))] [(.ref a1)])) rfl rfl (hb hby d32_9)
  refine Go.st st2 ?_
  refine Go.st (fun t k => XS.iconst X2.here hx rfl (hb hby d32_12) (XS.aloadN X2.here hx rfl (hb hby d32_13) rfl rfl (XS.iloadN X2.here hx rfl (hb hby d32_14) rfl (XS.iloadN X2.here hx rfl (hb hby d32_15) rfl k)))) ?_
  show Go p.tables e below PP (T2.setTop (mkF m 16 #[.val (.ref a1), .val (.ref a2), .val (.int (20 : Int32)), .val (.int (1 : Int32))] [(.int (1 : Int32)), (.int (20 : Int32)), (.ref a2), (.int (0 : Int32)), (.ref t1)]))
  refine Go.st (fun t k => XS.ishl X2.here hx rfl (hb hby d32_16) rfl k) ?_
  show Go p.tables e below PP (T2.setTop (mkF m 17 #[.val (.ref a1), .val (.ref a2), .val (.int (20 : Int32)), .val (.int (1 : Int32))] [(.int ((20 : Int32) <<< ((1 : Int32) &&& 31))), (.ref a2), (.int (0 : Int32)), (.ref t1)]))
  rw [show ((20 : Int32) <<< ((1 : Int32) &&& 31)) = (40 : Int32) from by decide]
  show Go p.tables e below PP (T2.setTop (mkF m 17 #[.val (.ref a1), .val (.ref a2), .val (.int (20 : Int32)), .val (.int (1 : Int32))] [(.int (40 : Int32)), (.ref a2), (.int (0 : Int32)), (.ref t1)]))
  refine Go.st (fun t k => XS.aloadN X2.here hx rfl (hb hby d32_17) rfl rfl k) ?_
  obtain ⟨T3, X3, e3, st3⟩ := getF X2 hx hZ hown (host := "") (Or.inl (wk hw 33 rfl)) Via.refl e2 zab (g := (mkF m 18 #[.val (.ref a1), .val (.ref a2), .val (.int (20 : Int32)), .val (.int (1 : Int32))] [(.ref a1), (.int (40 : Int32)), (.ref a2), (.int (0 : Int32)), (.ref t1)])) rfl rfl (hb hby d32_18)
  refine Go.st st3 ?_
  obtain ⟨cl4, Ar4, S4, Nn4, -⟩ := id V_t1
  refine Go.st (fun t k => X3.arraylength hx (by rw [e3]; exact Ar4.1) (State.isArrayOf_alike hZ.alike Ar4.2.1) (g := (mkF m 21 #[.val (.ref a1), .val (.ref a2), .val (.int (20 : Int32)), .val (.int (1 : Int32))] [(.ref t1), (.int (40 : Int32)), (.ref a2), (.int (0 : Int32)), (.ref t1)])) rfl rfl (hb hby d32_21) _ k) ?_
  rw [len_of S4 Nn4]
  obtain ⟨T5, h5, L5, X5, e5, N5, Kq5, Vq5, st5⟩ := cpF X3 hx hZ hown (wk hw 173 rfl) (wk hw 176 rfl) (wk hw 174 rfl) (wk hw 175 rfl) e3 V_t1 V_a2 rfl (by decide) (by decide) (by decide) (by decide) (by decide) N0 g_a2 (g := (mkF m 22 #[.val (.ref a1), .val (.ref a2), .val (.int (20 : Int32)), .val (.int (1 : Int32))] [(.int (2 : Int32)), (.int (40 : Int32)), (.ref a2), (.int (0 : Int32)), (.ref t1)])) rfl (by rw [hml]; rfl) rfl (hb hby d32_22) (by decide) (W := 0) (by show 2 * 0 + _ ≤ _; exact Nat.le_of_eq rfl) (by decide)
  replace O := O.keep Kq5 (allS g_a2 all0)
  replace K := K.trans Kq5 (allS (Or.inl (List.mem_of_getElem? (i := 0) rfl)) all0)
  replace Zn := Nat.le_trans Zn Kq5.1
  have V_a2 := Vq5
  refine Go.st st5 ?_
  replace V_a2 := own_ints V_a2
  refine Go.st (fun t k => XS.goto X5.here hx rfl (pc0 := 25) (pc' := 43) rfl (hb hby d32_25) (by decide) (by decide) k) ?_
  show Go p.tables e below PP (T5.setTop (mkF m 43 #[.val (.ref a1), .val (.ref a2), .val (.int (20 : Int32)), .val (.int (1 : Int32))] []))
  rw [hPP]
  refine endV X5 hx hlk hret (hb hby d32_43) ?_ (by decide) (by decide)
  rw [e5]
  exact ⟨(fun k => intOf ((fun k => if (40 : Int32).toNatClampNeg ≤ k ∧ k < (40 : Int32).toNatClampNeg + (2 : Int32).toNatClampNeg then (fun k => .int (f1 k)) ((0 : Int32).toNatClampNeg + (k - (40 : Int32).toNatClampNeg)) else (fun k => .int (f2 k)) k) k)), rfl, N5, K, V_a2, (fun j hj => own_gbz (f := fun k => f1 ((0 : Int32).toNatClampNeg + (k - (40 : Int32).toNatClampNeg))) hz j hj _ (fun k => rfl))⟩
abbrev r_rm30_20_2_1 : Room := { frames := 7, cells := 1, slots := 68, locals := 102 }
theorem ef_rm30_20_2_1 (m : MethodId) (a1 : Addr) (a3 : Addr) : entryFrame m #[(.ref a1), (.int (20 : Int32)), (.ref a3)] 3 = mkF m 0 #[.val (.ref a1), .val (.int (20 : Int32)), .val (.ref a3)] [] := by first | (simp [entryFrame, mkF, argsToLocals, Value.category]; done) | rfl
def Q30_20_2_1 (Z : State) (a1 : Addr) (a3 : Addr) (tv : Addr) (fv : Nat → Int32) (t3 : Addr) (f3 : Nat → Int32) (zc : Int32) (sv : Value) (h0 : Heap) (n0 : Nat) (v : Option Value) (h : Heap) (L : List Loc) : Prop := ∃ (tv' : Addr) (f' : Nat → Int32), v = none ∧ Fr n0 L ∧ Keep h0 h [a1] ∧ h0.size ≤ tv' ∧ Fld Z h a1 k_8 "value" "[B" (.ref tv') ∧ Fld Z h a1 k_8 "count" "I" (.int (20 : Int32)) ∧ Fld Z h a1 k_8 "coder" "B" (.int (1 : Int32)) ∧ Fld Z h a1 k_8 "maybeLatin1" "Z" (.int (0 : Int32)) ∧ Afn Z h tv' .byte (68 : Int32) (fun k => .int (f' k)) ∧ ∀ j, j < 20 → f' (2 * j + 1) = (0 : Int32)
theorem rm30_20_2_1 (l : Launch) (Z : State) (a0 : Array Value) (hw : HWt Z a0) (ws : List Jvm.Cond) (a1 : Addr) (a3 : Addr) (tv : Addr) (fv : Nat → Int32) (t3 : Addr) (f3 : Nat → Int32) (zc : Int32) (sv : Value) (h0 : Heap) (n0 : Nat) (Z0 : n0 ≤ h0.size) (E_a1 : Exa Z h0 a1 k_15) (zab : Fld Z h0 a1 k_8 "value" "[B" (.ref tv)) (zac : Fld Z h0 a1 k_8 "count" "I" (.int (20 : Int32))) (zaa : Fld Z h0 a1 k_8 "coder" "B" (.int (0 : Int32))) (zak : Fld Z h0 a1 k_8 "maybeLatin1" "Z" (.int (0 : Int32))) (V_tv : Afn Z h0 tv .byte (34 : Int32) (fun k => .int (fv k))) (zaf : Fld Z h0 a3 k_14 "value" "[B" (.ref t3)) (zah : Fld Z h0 a3 k_14 "coder" "B" (.int (1 : Int32))) (V_t3 : Afn Z h0 t3 .byte (2 : Int32) (fun k => .int (f3 k))) (E_a3 : Exa Z h0 a3 k_14) (g_a1 : n0 ≤ a1) (g_tv : n0 ≤ tv) (zau : a1 ≠ tv) (zgk : a3 ≠ a1) (zht : t3 ≠ a1) (zhh : a3 ≠ tv) (zhi : t3 ≠ tv) (SC : SS0 Z zc) (hzc : ¬ zc = (0 : Int32)) (O : Old Z n0 h0) (SA : SS2 Z) (SHi : SS3 Z) (SLo : SS4 Z) (SV : SS1 Z sv) (hr_sv : sv.isRef = true) :
    Con l Z y_30 jdk_68_method_73_code 3 none ws r_rm30_20_2_1 #[(.ref a1), (.int (20 : Int32)), (.ref a3)] h0 (Q30_20_2_1 Z a1 a3 tv fv t3 f3 zc sv h0 n0) := by
  refine Con.of2 (plainFor_of_name pn_rm42) ?_
  intro p e s m below meth c s₁ hZ e0 X0 hx hby hml hown hnm hret hlk PP hPP
  have N0 := Fr.nil n0
  refine Go.cast (ef_rm30_20_2_1 m a1 a3) ?_
  have K : Keep h0 h0 [a1] := Keep.refl h0 _
  have Zn : n0 ≤ h0.size := Z0
  show Go p.tables e below PP (s₁.setTop (mkF m 0 #[.val (.ref a1), .val (.int (20 : Int32)), .val (.ref a3)] []))
  refine Go.st (fun t k => XS.aloadN X0.here hx rfl (hb hby d30_0) rfl rfl (XS.aloadN X0.here hx rfl (hb hby d30_1) rfl rfl k)) ?_
  obtain ⟨v1, T1, L1, X1, hQ1, st1⟩ := callPr X0 hx hZ (y := y_31) (a := a1) (argsL := [(.ref a3)]) (rest := []) hown (wk hw 162 rfl) (wk hw 163 rfl) (selPriv2 (y := y_31) (nf_of (wk hw 165 rfl) rfl) (wk hw 164 rfl) (wk hw 163 rfl) (by decide)) (wk hw 164 rfl) (wk hw 129 rfl) (wk hw 166 rfl) (by decide) E_a1 (rm31u l Z a0 hw [] a1 a3 tv fv zc sv h0 n0 Zn E_a1 zab zac zaa zak V_tv zah E_a3 g_a1 g_tv zau SC hzc O SA SHi SLo SV hr_sv zgk) e0 0 (by decide) (by decide) (by decide) (by decide) (g := (mkF m 2 #[.val (.ref a1), .val (.int (20 : Int32)), .val (.ref a3)] [(.ref a3), (.ref a1)])) rfl (by rw [hml]; rfl) (lenOf pd_23 rfl) rfl (Nat.le_of_eq rfl) (hb hby d30_2)
  obtain ⟨h1, e1⟩ : ∃ z, T1.heap = z := ⟨_, rfl⟩
  rw [e1] at hQ1
  obtain ⟨zbs, fx_1, rfl, Nq1, Kq1, zbk, zai, zbn, zbo, zcm, zec, zeb⟩ := hQ1
  have N1 := Fr.app N0 Nq1
  have zhj : a1 ≠ zbs := Nat.ne_of_lt (Nat.lt_of_lt_of_le E_a1.lt zbk)
  have zli : a3 ≠ zbs := Nat.ne_of_lt (Nat.lt_of_lt_of_le zaf.lt zbk)
  have zlj : t3 ≠ zbs := Nat.ne_of_lt (Nat.lt_of_lt_of_le V_t3.lt zbk)
  have zjy : n0 ≤ zbs := Nat.le_trans Zn zbk
  have zep : h0.size ≤ zbs := Nat.le_trans K.1 zbk
  replace zaf := zaf.keep Kq1 (ninS zgk nin0)
  replace zah := zah.keep Kq1 (ninS zgk nin0)
  replace V_t3 := V_t3.keep Kq1 (ninS zht nin0)
  replace E_a3 := E_a3.keep Kq1
  replace O := O.keep Kq1 (allS g_a1 all0)
  replace K := K.trans Kq1 (allS (Or.inl (List.mem_of_getElem? (i := 0) rfl)) all0)
  replace Zn := Nat.le_trans Zn Kq1.1
  refine Go.st st1 ?_
  refine Go.st (fun t k => XS.aloadN X1.here hx rfl (hb hby d30_5) rfl rfl (XS.aloadN X1.here hx rfl (hb hby d30_6) rfl rfl k)) ?_
  obtain ⟨T2, X2, e2, st2⟩ := getF X1 hx hZ hown (host := "") (Or.inl (wk hw 133 rfl)) Via.refl e1 zai (g := (mkF m 7 #[.val (.ref a1), .val (.int (20 : Int32)), .val (.ref a3)] [(.ref a1), (.ref a3)])) rfl rfl (hb hby d30_7)
  refine Go.st st2 ?_
  refine Go.st (fun t k => XS.iloadN X2.here hx rfl (hb hby d30_10) rfl (XS.aloadN X2.here hx rfl (hb hby d30_11) rfl rfl k)) ?_
  obtain ⟨T3, X3, e3, st3⟩ := getF X2 hx hZ hown (host := "") (Or.inl (wk hw 135 rfl)) Via.refl e2 zbo (g := (mkF m 12 #[.val (.ref a1), .val (.int (20 : Int32)), .val (.ref a3)] [(.ref a1), (.int (20 : Int32)), (.ref zbs), (.ref a3)])) rfl rfl (hb hby d30_12)
  refine Go.st st3 ?_
  obtain ⟨v4, T4, L4, X4, hQ4, st4⟩ := callVi X3 hx hZ (C := k_14) (y := y_32) (z := y_32) (a := a3) (argsL := [(.ref zbs), (.int (20 : Int32)), (.int (1 : Int32))]) (rest := []) hown (wk hw 168 rfl) (wk hw 169 rfl) (notFace_of_selects (args := #[]) (mvT hZ (wk hw 171 rfl))) (wk hw 171 rfl) (wk hw 170 rfl) (wk hw 14 rfl) (wk hw 172 rfl) (by decide) rfl E_a3 (rm32_68_20_2 l Z a0 hw [] a3 zbs t3 f3 fx_1 zc h1 n0 Zn zaf zah V_t3 E_a3 zec zjy zli zlj SC hzc O zeb) e3 0 (by decide) (by decide) (by decide) (by decide) (g := (mkF m 15 #[.val (.ref a1), .val (.int (20 : Int32)), .val (.ref a3)] [(.int (1 : Int32)), (.int (20 : Int32)), (.ref zbs), (.ref a3)])) rfl (by rw [hml]; rfl) (lenOf pd_24 rfl) rfl (Nat.le_of_eq rfl) (hb hby d30_15)
  obtain ⟨h4, e4⟩ : ∃ z, T4.heap = z := ⟨_, rfl⟩
  rw [e4] at hQ4
  obtain ⟨fx_4, rfl, Nq4, Kq4, zaw, zcx⟩ := hQ4
  have N4 := Fr.app N1 Nq4
  replace zai := zai.keep Kq4 (ninS zhj nin0)
  replace zbn := zbn.keep Kq4 (ninS zhj nin0)
  replace zbo := zbo.keep Kq4 (ninS zhj nin0)
  replace zcm := zcm.keep Kq4 (ninS zhj nin0)
  replace O := O.keep Kq4 (allS zjy all0)
  replace K := K.trans Kq4 (allS (Or.inr zep) all0)
  replace Zn := Nat.le_trans Zn Kq4.1
  refine Go.st st4 ?_
  show Go p.tables e below PP (T4.setTop (mkF m 18 #[.val (.ref a1), .val (.int (20 : Int32)), .val (.ref a3)] []))
  rw [hPP]
  refine endV X4 hx hlk hret (hb hby d30_18) ?_ (by decide) (by decide)
  rw [e4]
  exact ⟨zbs, fx_4, rfl, N4, K, zep, zai, zbn, zbo, zcm, zaw, zcx⟩
abbrev r_rm28_20_2_1 : Room := { frames := 8, cells := 1, slots := 68, locals := 116 }
def Q28_20_2_1 (Z : State) (a1 : Addr) (a2 : Addr) (tv : Addr) (fv : Nat → Int32) (t2 : Addr) (f2 : Nat → Int32) (zc : Int32) (sv : Value) (h0 : Heap) (n0 : Nat) (v : Option Value) (h : Heap) (L : List Loc) : Prop := ∃ (tv' : Addr) (f' : Nat → Int32), v = some (.ref a1) ∧ Fr n0 L ∧ Keep h0 h [a1] ∧ h0.size ≤ tv' ∧ Fld Z h a1 k_8 "value" "[B" (.ref tv') ∧ Fld Z h a1 k_8 "count" "I" (.int (21 : Int32)) ∧ Fld Z h a1 k_8 "coder" "B" (.int (1 : Int32)) ∧ Fld Z h a1 k_8 "maybeLatin1" "Z" (.int (0 : Int32)) ∧ Afn Z h tv' .byte (68 : Int32) (fun k => .int (f' k)) ∧ ∀ j, j < 20 → f' (2 * j + 1) = (0 : Int32)
theorem rm28_20_2_1 (l : Launch) (Z : State) (a0 : Array Value) (hw : HWt Z a0) (ws : List Jvm.Cond) (a1 : Addr) (a2 : Addr) (tv : Addr) (fv : Nat → Int32) (t2 : Addr) (f2 : Nat → Int32) (zc : Int32) (sv : Value) (h0 : Heap) (n0 : Nat) (Z0 : n0 ≤ h0.size) (E_a1 : Exa Z h0 a1 k_15) (zab : Fld Z h0 a1 k_8 "value" "[B" (.ref tv)) (zac : Fld Z h0 a1 k_8 "count" "I" (.int (20 : Int32))) (zaa : Fld Z h0 a1 k_8 "coder" "B" (.int (0 : Int32))) (zak : Fld Z h0 a1 k_8 "maybeLatin1" "Z" (.int (0 : Int32))) (V_tv : Afn Z h0 tv .byte (34 : Int32) (fun k => .int (fv k))) (zad : Fld Z h0 a2 k_14 "value" "[B" (.ref t2)) (zae : Fld Z h0 a2 k_14 "coder" "B" (.int (1 : Int32))) (V_t2 : Afn Z h0 t2 .byte (2 : Int32) (fun k => .int (f2 k))) (E_a2 : Exa Z h0 a2 k_14) (g_a1 : n0 ≤ a1) (g_tv : n0 ≤ tv) (zau : a1 ≠ tv) (zcb : a2 ≠ a1) (zcy : t2 ≠ a1) (zdr : a2 ≠ tv) (zds : t2 ≠ tv) (SC : SS0 Z zc) (hzc : ¬ zc = (0 : Int32)) (O : Old Z n0 h0) (SA : SS2 Z) (SHi : SS3 Z) (SLo : SS4 Z) (SV : SS1 Z sv) (hr_sv : sv.isRef = true) :
    Con l Z y_28 jdk_68_method_22_code 3 (some (.object "java/lang/AbstractStringBuilder")) ws r_rm28_20_2_1 #[(.ref a1), (.ref a2)] h0 (Q28_20_2_1 Z a1 a2 tv fv t2 f2 zc sv h0 n0) := by
  refine Con.of2 (plainFor_of_name pn_rm42) ?_
  intro p e s m below meth c s₁ hZ e0 X0 hx hby hml hown hnm hret hlk PP hPP
  have N0 := Fr.nil n0
  refine Go.cast (ef_rm28a m a1 a2) ?_
  have K : Keep h0 h0 [a1] := Keep.refl h0 _
  have Zn : n0 ≤ h0.size := Z0
  show Go p.tables e below PP (s₁.setTop (mkF m 0 #[.val (.ref a1), .val (.ref a2), .unset] []))
  refine Go.st (fun t k => XS.aloadN X0.here hx rfl (hb hby d28_0) rfl rfl (XS.ifnonnullYes X0.here hx rfl (pc0 := 1) (pc' := 9) rfl (hb hby d28_1) rfl (by decide) (by decide) (XS.aloadN X0.here hx rfl (hb hby d28_9) rfl rfl k))) ?_
  obtain ⟨v1, T1, L1, X1, hQ1, st1⟩ := callVi X0 hx hZ (C := k_14) (y := y_17) (z := y_17) (a := a2) (argsL := []) (rest := []) hown (wk hw 149 rfl) (wk hw 86 rfl) (notFace_of_selects (args := #[]) (mvT hZ (wk hw 88 rfl))) (wk hw 88 rfl) (wk hw 87 rfl) (wk hw 14 rfl) (wk hw 89 rfl) (by decide) rfl E_a2 (rm17u_2 l Z a0 hw [] a2 t2 f2 zc h0 n0 Zn zad zae V_t2 E_a2 SC hzc O) e0 0 (by decide) (by decide) (by decide) (by decide) (g := (mkF m 10 #[.val (.ref a1), .val (.ref a2), .unset] [(.ref a2)])) rfl (by rw [hml]; rfl) (lenOf pd_5 rfl) rfl (Nat.le_of_eq rfl) (hb hby d28_10)
  obtain ⟨rfl, rfl, e1⟩ := hQ1
  rw [List.append_nil] at X1
  refine Go.st st1 ?_
  refine Go.st (fun t k => XS.istoreN X1.here hx rfl (hb hby d28_13) rfl (l' := #[.val (.ref a1), .val (.ref a2), .val (.int (1 : Int32))]) rfl (XS.aloadN X1.here hx rfl (hb hby d28_14) rfl rfl (XS.aloadN X1.here hx rfl (hb hby d28_15) rfl rfl k))) ?_
  obtain ⟨T2, X2, e2, st2⟩ := getF X1 hx hZ hown (host := "") (Or.inl (wk hw 150 rfl)) Via.refl e1 zac (g := (mkF m 16 #[.val (.ref a1), .val (.ref a2), .val (.int (1 : Int32))] [(.ref a1), (.ref a1)])) rfl rfl (hb hby d28_16)
  refine Go.st st2 ?_
  refine Go.st (fun t k => XS.iloadN X2.here hx rfl (hb hby d28_19) rfl (XS.iadd X2.here hx rfl (hb hby d28_20) rfl k)) ?_
  show Go p.tables e below PP (T2.setTop (mkF m 21 #[.val (.ref a1), .val (.ref a2), .val (.int (1 : Int32))] [(.int (21 : Int32)), (.ref a1)]))
  obtain ⟨v3, T3, L3, X3, hQ3, st3⟩ := callPr X2 hx hZ (y := y_29) (a := a1) (argsL := [(.int (21 : Int32))]) (rest := []) hown (wk hw 152 rfl) (wk hw 153 rfl) (selPriv2 (y := y_29) (nf_of (wk hw 155 rfl) rfl) (wk hw 154 rfl) (wk hw 153 rfl) (by decide)) (wk hw 154 rfl) (wk hw 129 rfl) (wk hw 156 rfl) (by decide) E_a1 (rm29_20_2_1 l Z a0 hw [] a1 tv fv h0 n0 Zn E_a1 zab zac zaa zak V_tv) e2 0 (by decide) (by decide) (by decide) (by decide) (g := (mkF m 21 #[.val (.ref a1), .val (.ref a2), .val (.int (1 : Int32))] [(.int (21 : Int32)), (.ref a1)])) rfl (by rw [hml]; rfl) (lenOf pd_25 rfl) rfl (Nat.le_of_eq rfl) (hb hby d28_21)
  obtain ⟨rfl, rfl, e3⟩ := hQ3
  rw [List.append_nil] at X3
  refine Go.st st3 ?_
  refine Go.st (fun t k => XS.aloadN X3.here hx rfl (hb hby d28_24) rfl rfl (XS.aloadN X3.here hx rfl (hb hby d28_25) rfl rfl k)) ?_
  obtain ⟨T4, X4, e4, st4⟩ := getF X3 hx hZ hown (host := "") (Or.inl (wk hw 150 rfl)) Via.refl e3 zac (g := (mkF m 26 #[.val (.ref a1), .val (.ref a2), .val (.int (1 : Int32))] [(.ref a1), (.ref a1)])) rfl rfl (hb hby d28_26)
  refine Go.st st4 ?_
  refine Go.st (fun t k => XS.aloadN X4.here hx rfl (hb hby d28_29) rfl rfl k) ?_
  obtain ⟨v5, T5, L5, X5, hQ5, st5⟩ := callPr X4 hx hZ (y := y_30) (a := a1) (argsL := [(.int (20 : Int32)), (.ref a2)]) (rest := []) hown (wk hw 157 rfl) (wk hw 158 rfl) (selPriv2 (y := y_30) (nf_of (wk hw 160 rfl) rfl) (wk hw 159 rfl) (wk hw 158 rfl) (by decide)) (wk hw 159 rfl) (wk hw 129 rfl) (wk hw 161 rfl) (by decide) E_a1 (rm30_20_2_1 l Z a0 hw [] a1 a2 tv fv t2 f2 zc sv h0 n0 Zn E_a1 zab zac zaa zak V_tv zad zae V_t2 E_a2 g_a1 g_tv zau zcb zcy zdr zds SC hzc O SA SHi SLo SV hr_sv) e4 0 (by decide) (by decide) (by decide) (by decide) (g := (mkF m 30 #[.val (.ref a1), .val (.ref a2), .val (.int (1 : Int32))] [(.ref a2), (.int (20 : Int32)), (.ref a1)])) rfl (by rw [hml]; rfl) (lenOf pd_26 rfl) rfl (Nat.le_of_eq rfl) (hb hby d28_30)
  obtain ⟨h5, e5⟩ : ∃ z, T5.heap = z := ⟨_, rfl⟩
  rw [e5] at hQ5
  obtain ⟨zhu, fx_5, rfl, Nq5, Kq5, zfx, zan, zay, zbj, zbg, zhv, zdt⟩ := hQ5
  have N5 := Fr.app N0 Nq5
  have zlk : a1 ≠ zhu := Nat.ne_of_lt (Nat.lt_of_lt_of_le E_a1.lt zfx)
  have zll : h0.size ≤ zhu := Nat.le_trans K.1 zfx
  replace E_a1 := E_a1.keep Kq5
  replace O := O.keep Kq5 (allS g_a1 all0)
  replace K := K.trans Kq5 (allS (Or.inl (List.mem_of_getElem? (i := 0) rfl)) all0)
  replace Zn := Nat.le_trans Zn Kq5.1
  refine Go.st st5 ?_
  refine Go.st (fun t k => XS.aloadN X5.here hx rfl (hb hby d28_33) rfl rfl (XS.dup X5.here hx rfl (hb hby d28_34) rfl rfl k)) ?_
  obtain ⟨T6, X6, e6, st6⟩ := getF X5 hx hZ hown (host := "") (Or.inl (wk hw 150 rfl)) Via.refl e5 zay (g := (mkF m 35 #[.val (.ref a1), .val (.ref a2), .val (.int (1 : Int32))] [(.ref a1), (.ref a1)])) rfl rfl (hb hby d28_35)
  refine Go.st st6 ?_
  refine Go.st (fun t k => XS.iloadN X6.here hx rfl (hb hby d28_38) rfl (XS.iadd X6.here hx rfl (hb hby d28_39) rfl k)) ?_
  show Go p.tables e below PP (T6.setTop (mkF m 40 #[.val (.ref a1), .val (.ref a2), .val (.int (1 : Int32))] [(.int (21 : Int32)), (.ref a1)]))
  obtain ⟨T7, h7, X7, e7, W7, st7⟩ := putF X6 hx hZ hown (host := "") (Or.inl (wk hw 150 rfl)) Via.refl e6 zay E_a1 (Or.inl (wk hw 151 rfl)) (wk hw 120 rfl) (ty := .int) (by decide) rfl rfl (g := (mkF m 40 #[.val (.ref a1), .val (.ref a2), .val (.int (1 : Int32))] [(.int (21 : Int32)), (.ref a1)])) rfl rfl (hb hby d28_40)
  refine Go.st st7 ?_
  have N7 := Fr.snoc X7 N5 g_a1
  replace zan := zan.other W7 (Or.inr (slot_ne (a0 := a0) (Or.inl (wk hw 134 rfl)) (Or.inl (wk hw 151 rfl)) (by decide) (t := (.array .byte)) (t' := .int) (by decide) (by decide)))
  replace zbj := zbj.other W7 (Or.inr (slot_ne (a0 := a0) (Or.inl (wk hw 136 rfl)) (Or.inl (wk hw 151 rfl)) (by decide) (t := .byte) (t' := .int) (by decide) (by decide)))
  replace zbg := zbg.other W7 (Or.inr (slot_ne (a0 := a0) (Or.inl (wk hw 447 rfl)) (Or.inl (wk hw 151 rfl)) (by decide) (t := .boolean) (t' := .int) (by decide) (by decide)))
  replace zhv := zhv.other W7 (Ne.symm zlk)
  replace O := O.wr W7 g_a1
  replace K := K.wr W7 (Or.inl (List.mem_of_getElem? (i := 0) rfl))
  replace Zn : n0 ≤ h7.size := by rw [W7.size]; exact Zn
  replace zay := zay.same W7
  refine Go.st (fun t k => XS.aloadN X7.here hx rfl (hb hby d28_43) rfl rfl k) ?_
  show Go p.tables e below PP (T7.setTop (mkF m 44 #[.val (.ref a1), .val (.ref a2), .val (.int (1 : Int32))] [(.ref a1)]))
  rw [hPP]
  refine endR X7 hx hlk hret rfl rfl (hb hby d28_44) ?_ (by decide) (by decide)
  rw [e7]
  exact ⟨zhu, fx_5, rfl, N7, K, zll, zan, zay, zbj, zbg, zhv, zdt⟩
abbrev r_rm27_20_2_1 : Room := { frames := 9, cells := 1, slots := 68, locals := 130 }
def Q27_20_2_1 (Z : State) (a1 : Addr) (a2 : Addr) (tv : Addr) (fv : Nat → Int32) (t2 : Addr) (f2 : Nat → Int32) (zc : Int32) (sv : Value) (h0 : Heap) (n0 : Nat) (v : Option Value) (h : Heap) (L : List Loc) : Prop := ∃ (tv' : Addr) (f' : Nat → Int32), v = some (.ref a1) ∧ Fr n0 L ∧ Keep h0 h [a1] ∧ h0.size ≤ tv' ∧ Fld Z h a1 k_8 "value" "[B" (.ref tv') ∧ Fld Z h a1 k_8 "count" "I" (.int (21 : Int32)) ∧ Fld Z h a1 k_8 "coder" "B" (.int (1 : Int32)) ∧ Fld Z h a1 k_8 "maybeLatin1" "Z" (.int (0 : Int32)) ∧ Afn Z h tv' .byte (68 : Int32) (fun k => .int (f' k)) ∧ ∀ j, j < 20 → f' (2 * j + 1) = (0 : Int32)
theorem rm27_20_2_1 (l : Launch) (Z : State) (a0 : Array Value) (hw : HWt Z a0) (ws : List Jvm.Cond) (a1 : Addr) (a2 : Addr) (tv : Addr) (fv : Nat → Int32) (t2 : Addr) (f2 : Nat → Int32) (zc : Int32) (sv : Value) (h0 : Heap) (n0 : Nat) (Z0 : n0 ≤ h0.size) (E_a1 : Exa Z h0 a1 k_15) (zab : Fld Z h0 a1 k_8 "value" "[B" (.ref tv)) (zac : Fld Z h0 a1 k_8 "count" "I" (.int (20 : Int32))) (zaa : Fld Z h0 a1 k_8 "coder" "B" (.int (0 : Int32))) (zak : Fld Z h0 a1 k_8 "maybeLatin1" "Z" (.int (0 : Int32))) (V_tv : Afn Z h0 tv .byte (34 : Int32) (fun k => .int (fv k))) (zad : Fld Z h0 a2 k_14 "value" "[B" (.ref t2)) (zae : Fld Z h0 a2 k_14 "coder" "B" (.int (1 : Int32))) (V_t2 : Afn Z h0 t2 .byte (2 : Int32) (fun k => .int (f2 k))) (E_a2 : Exa Z h0 a2 k_14) (g_a1 : n0 ≤ a1) (g_tv : n0 ≤ tv) (zau : a1 ≠ tv) (zcb : a2 ≠ a1) (zcy : t2 ≠ a1) (zdr : a2 ≠ tv) (zds : t2 ≠ tv) (SC : SS0 Z zc) (hzc : ¬ zc = (0 : Int32)) (O : Old Z n0 h0) (SA : SS2 Z) (SHi : SS3 Z) (SLo : SS4 Z) (SV : SS1 Z sv) (hr_sv : sv.isRef = true) :
    Con l Z y_27 jdk_67_method_7_code 2 (some (.object "java/lang/StringBuilder")) ws r_rm27_20_2_1 #[(.ref a1), (.ref a2)] h0 (Q27_20_2_1 Z a1 a2 tv fv t2 f2 zc sv h0 n0) := by
  refine Con.of2 (plainFor_of_name pn_rm27a) ?_
  intro p e s m below meth c s₁ hZ e0 X0 hx hby hml hown hnm hret hlk PP hPP
  have N0 := Fr.nil n0
  refine Go.cast (ef_rm12 m a1 a2) ?_
  have K : Keep h0 h0 [a1] := Keep.refl h0 _
  have Zn : n0 ≤ h0.size := Z0
  show Go p.tables e below PP (s₁.setTop (mkF m 0 #[.val (.ref a1), .val (.ref a2)] []))
  refine Go.st (fun t k => XS.aloadN X0.here hx rfl (hb hby d27_0) rfl rfl (XS.aloadN X0.here hx rfl (hb hby d27_1) rfl rfl k)) ?_
  obtain ⟨v1, T1, L1, X1, hQ1, st1⟩ := callSup X0 hx hZ (K := k_15) (y := y_28) (a := a1) (argsL := [(.ref a2)]) (rest := []) hown (wk hw 144 rfl) (sameSelf (y := y_28) (wk hw 145 rfl) (nf_of (wk hw 155 rfl) rfl) (by decide)) (wk hw 145 rfl) (wk hw 146 rfl) (wk hw 129 rfl) (wk hw 148 rfl) (by decide) E_a1 (rm28_20_2_1 l Z a0 hw [] a1 a2 tv fv t2 f2 zc sv h0 n0 Zn E_a1 zab zac zaa zak V_tv zad zae V_t2 E_a2 g_a1 g_tv zau zcb zcy zdr zds SC hzc O SA SHi SLo SV hr_sv) e0 0 (by decide) (by decide) (by decide) (by decide) (g := (mkF m 2 #[.val (.ref a1), .val (.ref a2)] [(.ref a2), (.ref a1)])) rfl (by rw [hml]; rfl) (lenOf pd_27 rfl) rfl (Nat.le_of_eq rfl) (hb hby d27_2)
  obtain ⟨h1, e1⟩ : ∃ z, T1.heap = z := ⟨_, rfl⟩
  rw [e1] at hQ1
  obtain ⟨zbs, fx_1, rfl, Nq1, Kq1, zbk, zai, zbn, zbo, zcm, zec, zeb⟩ := hQ1
  have N1 := Fr.app N0 Nq1
  have zep : h0.size ≤ zbs := Nat.le_trans K.1 zbk
  replace O := O.keep Kq1 (allS g_a1 all0)
  replace K := K.trans Kq1 (allS (Or.inl (List.mem_of_getElem? (i := 0) rfl)) all0)
  replace Zn := Nat.le_trans Zn Kq1.1
  refine Go.st st1 ?_
  refine Go.st (fun t k => XS.pop X1.here hx rfl (hb hby d27_5) rfl rfl (XS.aloadN X1.here hx rfl (hb hby d27_6) rfl rfl k)) ?_
  show Go p.tables e below PP (T1.setTop (mkF m 7 #[.val (.ref a1), .val (.ref a2)] [(.ref a1)]))
  rw [hPP]
  refine endR X1 hx hlk hret rfl rfl (hb hby d27_7) ?_ (by decide) (by decide)
  rw [e1]
  exact ⟨zbs, fx_1, rfl, N1, K, zep, zai, zbn, zbo, zcm, zec, zeb⟩
abbrev b_26 : ByteArray := jdk_68_method_2_code
theorem d26_0 : dk b_26 0 (.aload_n 0) 1 := by decide +kernel
theorem d26_1 : dk b_26 1 (.invokespecial 3) 3 := by decide +kernel
theorem d26_4 : dk b_26 4 (.getstatic 18) 3 := by decide +kernel
theorem d26_7 : dk b_26 7 (.ifCond .eq 18) 3 := by decide +kernel
theorem d26_10 : dk b_26 10 (.aload_n 0) 1 := by decide +kernel
theorem d26_11 : dk b_26 11 (.iload_n 1) 1 := by decide +kernel
theorem d26_12 : dk b_26 12 (.newarray .byte) 2 := by decide +kernel
theorem d26_14 : dk b_26 14 (.putfield 15) 3 := by decide +kernel
theorem d26_17 : dk b_26 17 (.aload_n 0) 1 := by decide +kernel
theorem d26_18 : dk b_26 18 (.iconst 0) 1 := by decide +kernel
theorem d26_19 : dk b_26 19 (.putfield 22) 3 := by decide +kernel
theorem d26_22 : dk b_26 22 (.goto 16) 3 := by decide +kernel
theorem d26_38 : dk b_26 38 (.return_) 1 := by decide +kernel
abbrev r_rm26 : Room := { frames := 1, cells := 1, slots := 16, locals := 40 }
theorem ef_rm26 (m : MethodId) (a1 : Addr) : entryFrame m #[(.ref a1), (.int (16 : Int32))] 2 = mkF m 0 #[.val (.ref a1), .val (.int (16 : Int32))] [] := by first | (simp [entryFrame, mkF, argsToLocals, Value.category]; done) | rfl
def Q26 (Z : State) (a1 : Addr) (zc : Int32) (h0 : Heap) (n0 : Nat) (v : Option Value) (h : Heap) (L : List Loc) : Prop := ∃ (tv' : Addr) (f' : Nat → Int32), v = none ∧ Fr n0 L ∧ Keep h0 h [a1] ∧ h0.size ≤ tv' ∧ Fld Z h a1 k_8 "value" "[B" (.ref tv') ∧ Fld Z h a1 k_8 "count" "I" (.int (0 : Int32)) ∧ Fld Z h a1 k_8 "coder" "B" (.int (0 : Int32)) ∧ Fld Z h a1 k_8 "maybeLatin1" "Z" (.int (0 : Int32)) ∧ Afn Z h tv' .byte (16 : Int32) (fun k => .int (f' k))
theorem rm26 (l : Launch) (Z : State) (a0 : Array Value) (hw : HWt Z a0) (ws : List Jvm.Cond) (a1 : Addr) (zc : Int32) (h0 : Heap) (n0 : Nat) (Z0 : n0 ≤ h0.size) (E_a1 : Exa Z h0 a1 k_15) (zab : Fld Z h0 a1 k_8 "value" "[B" .null) (zac : Fld Z h0 a1 k_8 "count" "I" (.int (0 : Int32))) (zaa : Fld Z h0 a1 k_8 "coder" "B" (.int (0 : Int32))) (zak : Fld Z h0 a1 k_8 "maybeLatin1" "Z" (.int (0 : Int32))) (g_a1 : n0 ≤ a1) (SC : SS0 Z zc) (hzc : ¬ zc = (0 : Int32)) (O : Old Z n0 h0) :
    Con l Z y_26 jdk_68_method_2_code 2 none ws r_rm26 #[(.ref a1), (.int (16 : Int32))] h0 (Q26 Z a1 zc h0 n0) := by
  refine Con.of2 (plainFor_of_name pn_rm42) ?_
  intro p e s m below meth c s₁ hZ e0 X0 hx hby hml hown hnm hret hlk PP hPP
  have N0 := Fr.nil n0
  refine Go.cast (ef_rm26 m a1) ?_
  have K : Keep h0 h0 [a1] := Keep.refl h0 _
  have Zn : n0 ≤ h0.size := Z0
  show Go p.tables e below PP (s₁.setTop (mkF m 0 #[.val (.ref a1), .val (.int (16 : Int32))] []))
  refine Go.st (fun t k => XS.aloadN X0.here hx rfl (hb hby d26_0) rfl rfl k) ?_
  obtain ⟨T1, X1, e1, st1⟩ := initO X0 hx hZ hown (wk hw 131 rfl) (wk hw 31 rfl) (wk hw 32 rfl) e0 (g := (mkF m 1 #[.val (.ref a1), .val (.int (16 : Int32))] [(.ref a1)])) rfl (by rw [hml]; rfl) rfl (hb hby d26_1) (by decide) (W := 0) (by show 2 * 0 + _ ≤ _; exact Nat.le_of_eq rfl) (by decide)
  refine Go.st st1 ?_
  obtain ⟨T2, X2, e2, st2⟩ := getS2 X1 hx hZ hown (host := "") (Or.inl (wk hw 132 rfl)) Via.refl e1 (SC.ext O.2) (g := (mkF m 4 #[.val (.ref a1), .val (.int (16 : Int32))] [])) rfl (hb hby d26_4)
  refine Go.st st2 ?_
  refine Go.st (fun t k => XS.ifNo X2.here hx rfl (hb hby d26_7) rfl (XT.i0_eq_f hzc) (XS.aloadN X2.here hx rfl (hb hby d26_10) rfl rfl (XS.iloadN X2.here hx rfl (hb hby d26_11) rfl k))) ?_
  obtain ⟨T3, h3, k3, X3, e3, E3, A3, st3⟩ := newP X2 hx hZ (wk hw 4 rfl) e2 (g := (mkF m 12 #[.val (.ref a1), .val (.int (16 : Int32))] [(.int (16 : Int32)), (.ref a1)])) rfl (hb hby d26_12) rfl (by decide) (cap := 16) (by decide) (by decide) (by decide) (by decide)
  obtain ⟨b3, gz3⟩ : ∃ z, z = h0.size := ⟨_, rfl⟩
  rw [← gz3] at A3 st3
  have zjz : a1 ≠ b3 := Nat.ne_of_lt (Nat.lt_of_lt_of_le E_a1.lt (Nat.le_of_eq gz3.symm))
  have zet : h0.size ≤ b3 := Nat.le_trans K.1 (Nat.le_of_eq gz3.symm)
  refine Go.st st3 ?_
  replace E_a1 := E_a1.ext E3
  replace zab := zab.ext E3
  replace zac := zac.ext E3
  replace zaa := zaa.ext E3
  replace zak := zak.ext E3
  replace O := O.ext E3
  replace K := K.ext E3
  replace Zn := Nat.le_trans Zn E3.1
  have V_b3 : Afn Z h3 b3 .byte (16 : Int32) (fun _ => (.int (0 : Int32))) := Afn.new A3 (by decide)
  obtain ⟨T4, h4, X4, e4, W4, st4⟩ := putF X3 hx hZ hown (host := "") (Or.inl (wk hw 133 rfl)) Via.refl e3 zab E_a1 (Or.inl (wk hw 134 rfl)) (wk hw 120 rfl) (ty := (.array .byte)) (by decide) rfl rfl (g := (mkF m 14 #[.val (.ref a1), .val (.int (16 : Int32))] [(.ref b3), (.ref a1)])) rfl rfl (hb hby d26_14)
  refine Go.st st4 ?_
  have N4 := Fr.snoc X4 N0 g_a1
  replace E_a1 := E_a1.wr W4
  replace zac := zac.other W4 (Or.inr (slot_ne (a0 := a0) (Or.inl (wk hw 151 rfl)) (Or.inl (wk hw 134 rfl)) (by decide) (t := .int) (t' := (.array .byte)) (by decide) (by decide)))
  replace zaa := zaa.other W4 (Or.inr (slot_ne (a0 := a0) (Or.inl (wk hw 136 rfl)) (Or.inl (wk hw 134 rfl)) (by decide) (t := .byte) (t' := (.array .byte)) (by decide) (by decide)))
  replace zak := zak.other W4 (Or.inr (slot_ne (a0 := a0) (Or.inl (wk hw 447 rfl)) (Or.inl (wk hw 134 rfl)) (by decide) (t := .boolean) (t' := (.array .byte)) (by decide) (by decide)))
  replace V_b3 := V_b3.other W4 (Ne.symm zjz)
  replace O := O.wr W4 g_a1
  replace K := K.wr W4 (Or.inl (List.mem_of_getElem? (i := 0) rfl))
  replace Zn : n0 ≤ h4.size := by rw [W4.size]; exact Zn
  replace zab := zab.same W4
  refine Go.st (fun t k => XS.aloadN X4.here hx rfl (hb hby d26_17) rfl rfl (XS.iconst X4.here hx rfl (hb hby d26_18) k)) ?_
  obtain ⟨T5, h5, X5, e5, W5, st5⟩ := putFN X4 hx hZ hown (wk hw 135 rfl) Via.refl e4 zaa E_a1 (Or.inl (wk hw 136 rfl)) (wk hw 120 rfl) (ty := .byte) (v' := (.int (0 : Int32))) (by decide) rfl (by decide) (g := (mkF m 19 #[.val (.ref a1), .val (.int (16 : Int32))] [(.int (0 : Int32)), (.ref a1)])) rfl rfl (hb hby d26_19)
  refine Go.st st5 ?_
  have N5 := Fr.snoc X5 N4 g_a1
  replace zab := zab.other W5 (Or.inr (slot_ne (a0 := a0) (Or.inl (wk hw 134 rfl)) (Or.inl (wk hw 136 rfl)) (by decide) (t := (.array .byte)) (t' := .byte) (by decide) (by decide)))
  replace zac := zac.other W5 (Or.inr (slot_ne (a0 := a0) (Or.inl (wk hw 151 rfl)) (Or.inl (wk hw 136 rfl)) (by decide) (t := .int) (t' := .byte) (by decide) (by decide)))
  replace zak := zak.other W5 (Or.inr (slot_ne (a0 := a0) (Or.inl (wk hw 447 rfl)) (Or.inl (wk hw 136 rfl)) (by decide) (t := .boolean) (t' := .byte) (by decide) (by decide)))
  replace V_b3 := V_b3.other W5 (Ne.symm zjz)
  replace O := O.wr W5 g_a1
  replace K := K.wr W5 (Or.inl (List.mem_of_getElem? (i := 0) rfl))
  replace Zn : n0 ≤ h5.size := by rw [W5.size]; exact Zn
  replace zaa := zaa.same W5
  refine Go.st (fun t k => XS.goto X5.here hx rfl (pc0 := 22) (pc' := 38) rfl (hb hby d26_22) (by decide) (by decide) k) ?_
  show Go p.tables e below PP (T5.setTop (mkF m 38 #[.val (.ref a1), .val (.int (16 : Int32))] []))
  rw [hPP]
  refine endV X5 hx hlk hret (hb hby d26_38) ?_ (by decide) (by decide)
  rw [e5]
  exact ⟨b3, (fun k => (0 : Int32)), rfl, N5, K, zet, zab, zac, zaa, zak, V_b3⟩
abbrev b_25 : ByteArray := jdk_67_method_1_code
theorem d25_0 : dk b_25 0 (.aload_n 0) 1 := by decide +kernel
theorem d25_1 : dk b_25 1 (.bipush 16) 2 := by decide +kernel
theorem d25_3 : dk b_25 3 (.invokespecial 1) 3 := by decide +kernel
theorem d25_6 : dk b_25 6 (.return_) 1 := by decide +kernel
abbrev r_rm25 : Room := { frames := 2, cells := 1, slots := 16, locals := 53 }
def Q25 (Z : State) (a1 : Addr) (zc : Int32) (h0 : Heap) (n0 : Nat) (v : Option Value) (h : Heap) (L : List Loc) : Prop := ∃ (tv' : Addr) (f' : Nat → Int32), v = none ∧ Fr n0 L ∧ Keep h0 h [a1] ∧ h0.size ≤ tv' ∧ Fld Z h a1 k_8 "value" "[B" (.ref tv') ∧ Fld Z h a1 k_8 "count" "I" (.int (0 : Int32)) ∧ Fld Z h a1 k_8 "coder" "B" (.int (0 : Int32)) ∧ Fld Z h a1 k_8 "maybeLatin1" "Z" (.int (0 : Int32)) ∧ Afn Z h tv' .byte (16 : Int32) (fun k => .int (f' k))
theorem rm25 (l : Launch) (Z : State) (a0 : Array Value) (hw : HWt Z a0) (ws : List Jvm.Cond) (a1 : Addr) (zc : Int32) (h0 : Heap) (n0 : Nat) (Z0 : n0 ≤ h0.size) (E_a1 : Exa Z h0 a1 k_15) (zab : Fld Z h0 a1 k_8 "value" "[B" .null) (zac : Fld Z h0 a1 k_8 "count" "I" (.int (0 : Int32))) (zaa : Fld Z h0 a1 k_8 "coder" "B" (.int (0 : Int32))) (zak : Fld Z h0 a1 k_8 "maybeLatin1" "Z" (.int (0 : Int32))) (g_a1 : n0 ≤ a1) (SC : SS0 Z zc) (hzc : ¬ zc = (0 : Int32)) (O : Old Z n0 h0) :
    Con l Z y_25 jdk_67_method_1_code 1 none ws r_rm25 #[(.ref a1)] h0 (Q25 Z a1 zc h0 n0) := by
  refine Con.of2 (plainFor_of_name pn_rm27a) ?_
  intro p e s m below meth c s₁ hZ e0 X0 hx hby hml hown hnm hret hlk PP hPP
  have N0 := Fr.nil n0
  refine Go.cast (ef_rm18 m a1) ?_
  have K : Keep h0 h0 [a1] := Keep.refl h0 _
  have Zn : n0 ≤ h0.size := Z0
  show Go p.tables e below PP (s₁.setTop (mkF m 0 #[.val (.ref a1)] []))
  refine Go.st (fun t k => XS.aloadN X0.here hx rfl (hb hby d25_0) rfl rfl (XS.bipush X0.here hx rfl (hb hby d25_1) k)) ?_
  obtain ⟨v1, T1, L1, X1, hQ1, st1⟩ := callIn X0 hx hZ (y := y_26) (a := a1) (argsL := [(.int (16 : Int32))]) (rest := []) rfl hown (wk hw 125 rfl) (wk hw 126 rfl) (wk hw 129 rfl) (wk hw 130 rfl) (by decide) (rm26 l Z a0 hw [] a1 zc h0 n0 Zn E_a1 zab zac zaa zak g_a1 SC hzc O) e0 0 (by decide) (by decide) (by decide) (by decide) (g := (mkF m 3 #[.val (.ref a1)] [(.int (16 : Int32)), (.ref a1)])) rfl (by rw [hml]; rfl) (lenOf pd_25 rfl) rfl (Nat.le_of_eq rfl) (hb hby d25_3)
  obtain ⟨h1, e1⟩ : ∃ z, T1.heap = z := ⟨_, rfl⟩
  rw [e1] at hQ1
  obtain ⟨zbs, fx_1, rfl, Nq1, Kq1, zbk, zai, zbn, zbo, zcm, zec⟩ := hQ1
  have N1 := Fr.app N0 Nq1
  have zep : h0.size ≤ zbs := Nat.le_trans K.1 zbk
  replace O := O.keep Kq1 (allS g_a1 all0)
  replace K := K.trans Kq1 (allS (Or.inl (List.mem_of_getElem? (i := 0) rfl)) all0)
  replace Zn := Nat.le_trans Zn Kq1.1
  refine Go.st st1 ?_
  show Go p.tables e below PP (T1.setTop (mkF m 6 #[.val (.ref a1)] []))
  rw [hPP]
  refine endV X1 hx hlk hret (hb hby d25_6) ?_ (by decide) (by decide)
  rw [e1]
  exact ⟨zbs, fx_1, rfl, N1, K, zep, zai, zbn, zbo, zcm, zec⟩
abbrev b_39 : ByteArray := jdk_68_method_64_code
theorem d39_0 : dk b_39 0 (.aload_n 0) 1 := by decide +kernel
theorem d39_1 : dk b_39 1 (.getfield 15) 3 := by decide +kernel
theorem d39_4 : dk b_39 4 (.areturn) 1 := by decide +kernel
abbrev r_rm39 : Room := { frames := 0, cells := 0, slots := 0, locals := 0 }
def Q39 (Z : State) (a1 : Addr) (tv : Addr) (h0 : Heap) (n0 : Nat) (v : Option Value) (h : Heap) (L : List Loc) : Prop := v = some (.ref tv) ∧ L = [] ∧ h = h0
theorem rm39 (l : Launch) (Z : State) (a0 : Array Value) (hw : HWt Z a0) (ws : List Jvm.Cond) (a1 : Addr) (tv : Addr) (h0 : Heap) (n0 : Nat) (Z0 : n0 ≤ h0.size) (zab : Fld Z h0 a1 k_8 "value" "[B" (.ref tv)) :
    Con l Z y_39 jdk_68_method_64_code 1 (some (.array .byte)) ws r_rm39 #[(.ref a1)] h0 (Q39 Z a1 tv h0 n0) := by
  refine Con.of2 (plainFor_of_name pn_rm42) ?_
  intro p e s m below meth c s₁ hZ e0 X0 hx hby hml hown hnm hret hlk PP hPP
  have N0 := Fr.nil n0
  refine Go.cast (ef_rm18 m a1) ?_
  have Zn : n0 ≤ h0.size := Z0
  show Go p.tables e below PP (s₁.setTop (mkF m 0 #[.val (.ref a1)] []))
  refine Go.st (fun t k => XS.aloadN X0.here hx rfl (hb hby d39_0) rfl rfl k) ?_
  obtain ⟨T1, X1, e1, st1⟩ := getF X0 hx hZ hown (host := "") (Or.inl (wk hw 133 rfl)) Via.refl e0 zab (g := (mkF m 1 #[.val (.ref a1)] [(.ref a1)])) rfl rfl (hb hby d39_1)
  refine Go.st st1 ?_
  show Go p.tables e below PP (T1.setTop (mkF m 4 #[.val (.ref a1)] [(.ref tv)]))
  rw [hPP]
  refine endR X1 hx hlk hret rfl rfl (hb hby d39_4) ?_ (by decide) (by decide)
  rw [e1]
  exact ⟨rfl, rfl, rfl⟩
abbrev b_41 : ByteArray := jdk_68_method_6_code
theorem d41_0 : dk b_41 0 (.aload_n 0) 1 := by decide +kernel
theorem d41_1 : dk b_41 1 (.getfield 79) 3 := by decide +kernel
theorem d41_4 : dk b_41 4 (.ireturn) 1 := by decide +kernel
abbrev r_rm41 : Room := { frames := 0, cells := 0, slots := 0, locals := 0 }
def Q41 (Z : State) (a1 : Addr) (h0 : Heap) (n0 : Nat) (v : Option Value) (h : Heap) (L : List Loc) : Prop := v = some (.int (21 : Int32)) ∧ L = [] ∧ h = h0
theorem rm41 (l : Launch) (Z : State) (a0 : Array Value) (hw : HWt Z a0) (ws : List Jvm.Cond) (a1 : Addr) (h0 : Heap) (n0 : Nat) (Z0 : n0 ≤ h0.size) (zac : Fld Z h0 a1 k_8 "count" "I" (.int (21 : Int32))) :
    Con l Z y_41 jdk_68_method_6_code 1 (some .int) ws r_rm41 #[(.ref a1)] h0 (Q41 Z a1 h0 n0) := by
  refine Con.of2 (plainFor_of_name pn_rm42) ?_
  intro p e s m below meth c s₁ hZ e0 X0 hx hby hml hown hnm hret hlk PP hPP
  have N0 := Fr.nil n0
  refine Go.cast (ef_rm18 m a1) ?_
  have Zn : n0 ≤ h0.size := Z0
  show Go p.tables e below PP (s₁.setTop (mkF m 0 #[.val (.ref a1)] []))
  refine Go.st (fun t k => XS.aloadN X0.here hx rfl (hb hby d41_0) rfl rfl k) ?_
  obtain ⟨T1, X1, e1, st1⟩ := getF X0 hx hZ hown (host := "") (Or.inl (wk hw 150 rfl)) Via.refl e0 zac (g := (mkF m 1 #[.val (.ref a1)] [(.ref a1)])) rfl rfl (hb hby d41_1)
  refine Go.st st1 ?_
  show Go p.tables e below PP (T1.setTop (mkF m 4 #[.val (.ref a1)] [(.int (21 : Int32))]))
  rw [hPP]
  refine endI X1 hx hlk hret (hb hby d41_4) ?_ (by decide) (by decide)
  rw [e1]
  exact ⟨rfl, rfl, rfl⟩
abbrev b_40 : ByteArray := jdk_67_method_93_code
theorem d40_0 : dk b_40 0 (.aload_n 0) 1 := by decide +kernel
theorem d40_1 : dk b_40 1 (.invokespecial 343) 3 := by decide +kernel
theorem d40_4 : dk b_40 4 (.ireturn) 1 := by decide +kernel
abbrev r_rm40 : Room := { frames := 1, cells := 0, slots := 0, locals := 12 }
def Q40 (Z : State) (a1 : Addr) (h0 : Heap) (n0 : Nat) (v : Option Value) (h : Heap) (L : List Loc) : Prop := v = some (.int (21 : Int32)) ∧ L = [] ∧ h = h0
theorem rm40 (l : Launch) (Z : State) (a0 : Array Value) (hw : HWt Z a0) (ws : List Jvm.Cond) (a1 : Addr) (h0 : Heap) (n0 : Nat) (Z0 : n0 ≤ h0.size) (zac : Fld Z h0 a1 k_8 "count" "I" (.int (21 : Int32))) (E_a1 : Exa Z h0 a1 k_15) :
    Con l Z y_40 jdk_67_method_93_code 1 (some .int) ws r_rm40 #[(.ref a1)] h0 (Q40 Z a1 h0 n0) := by
  refine Con.of2 (plainFor_of_name pn_rm27a) ?_
  intro p e s m below meth c s₁ hZ e0 X0 hx hby hml hown hnm hret hlk PP hPP
  have N0 := Fr.nil n0
  refine Go.cast (ef_rm18 m a1) ?_
  have Zn : n0 ≤ h0.size := Z0
  show Go p.tables e below PP (s₁.setTop (mkF m 0 #[.val (.ref a1)] []))
  refine Go.st (fun t k => XS.aloadN X0.here hx rfl (hb hby d40_0) rfl rfl k) ?_
  obtain ⟨v1, T1, L1, X1, hQ1, st1⟩ := callSup X0 hx hZ (K := k_15) (y := y_41) (a := a1) (argsL := []) (rest := []) hown (wk hw 221 rfl) (sameSelf (y := y_41) (wk hw 217 rfl) (nf_of (wk hw 155 rfl) rfl) (by decide)) (wk hw 217 rfl) (wk hw 146 rfl) (wk hw 129 rfl) (wk hw 222 rfl) (by decide) E_a1 (rm41 l Z a0 hw [] a1 h0 n0 Zn zac) e0 0 (by decide) (by decide) (by decide) (by decide) (g := (mkF m 1 #[.val (.ref a1)] [(.ref a1)])) rfl (by rw [hml]; rfl) (lenOf pd_5 rfl) rfl (Nat.le_of_eq rfl) (hb hby d40_1)
  obtain ⟨rfl, rfl, e1⟩ := hQ1
  rw [List.append_nil] at X1
  refine Go.st st1 ?_
  show Go p.tables e below PP (T1.setTop (mkF m 4 #[.val (.ref a1)] [(.int (21 : Int32))]))
  rw [hPP]
  refine endI X1 hx hlk hret (hb hby d40_4) ?_ (by decide) (by decide)
  rw [e1]
  exact ⟨rfl, rfl, rfl⟩
abbrev b_38 : ByteArray := jdk_42_method_150_code
theorem d38_0 : dk b_38 0 (.aload_n 0) 1 := by decide +kernel
theorem d38_1 : dk b_38 1 (.invokespecial 1) 3 := by decide +kernel
theorem d38_4 : dk b_38 4 (.aload_n 1) 1 := by decide +kernel
theorem d38_5 : dk b_38 5 (.invokevirtual 552) 3 := by decide +kernel
theorem d38_8 : dk b_38 8 (.astore_n 3) 1 := by decide +kernel
theorem d38_9 : dk b_38 9 (.aload_n 1) 1 := by decide +kernel
theorem d38_10 : dk b_38 10 (.invokevirtual 549) 3 := by decide +kernel
theorem d38_13 : dk b_38 13 (.istore 4) 2 := by decide +kernel
theorem d38_15 : dk b_38 15 (.aload_n 1) 1 := by decide +kernel
theorem d38_16 : dk b_38 16 (.invokevirtual 1047) 3 := by decide +kernel
theorem d38_19 : dk b_38 19 (.ifCond .eq 22) 3 := by decide +kernel
theorem d38_22 : dk b_38 22 (.aload_n 0) 1 := by decide +kernel
theorem d38_23 : dk b_38 23 (.iconst 0) 1 := by decide +kernel
theorem d38_24 : dk b_38 24 (.putfield 15) 3 := by decide +kernel
theorem d38_27 : dk b_38 27 (.aload_n 0) 1 := by decide +kernel
theorem d38_28 : dk b_38 28 (.aload_n 3) 1 := by decide +kernel
theorem d38_29 : dk b_38 29 (.iconst 0) 1 := by decide +kernel
theorem d38_30 : dk b_38 30 (.iload 4) 2 := by decide +kernel
theorem d38_32 : dk b_38 32 (.invokestatic 54) 3 := by decide +kernel
theorem d38_35 : dk b_38 35 (.putfield 9) 3 := by decide +kernel
theorem d38_38 : dk b_38 38 (.goto 59) 3 := by decide +kernel
theorem d38_41 : dk b_38 41 (.getstatic 38) 3 := by decide +kernel
theorem d38_44 : dk b_38 44 (.ifCond .eq 35) 3 := by decide +kernel
theorem d38_47 : dk b_38 47 (.aload_n 1) 1 := by decide +kernel
theorem d38_48 : dk b_38 48 (.getfield 1048) 3 := by decide +kernel
theorem d38_51 : dk b_38 51 (.ifCond .eq 28) 3 := by decide +kernel
theorem d38_79 : dk b_38 79 (.aload_n 0) 1 := by decide +kernel
theorem d38_80 : dk b_38 80 (.iconst 1) 1 := by decide +kernel
theorem d38_81 : dk b_38 81 (.putfield 15) 3 := by decide +kernel
theorem d38_84 : dk b_38 84 (.aload_n 0) 1 := by decide +kernel
theorem d38_85 : dk b_38 85 (.aload_n 3) 1 := by decide +kernel
theorem d38_86 : dk b_38 86 (.iconst 0) 1 := by decide +kernel
theorem d38_87 : dk b_38 87 (.iload 4) 2 := by decide +kernel
theorem d38_89 : dk b_38 89 (.iconst 1) 1 := by decide +kernel
theorem d38_90 : dk b_38 90 (.ishl) 1 := by decide +kernel
theorem d38_91 : dk b_38 91 (.invokestatic 54) 3 := by decide +kernel
theorem d38_94 : dk b_38 94 (.putfield 9) 3 := by decide +kernel
theorem d38_97 : dk b_38 97 (.return_) 1 := by decide +kernel
abbrev r_rm38 : Room := { frames := 3, cells := 1, slots := 42, locals := 71 }
theorem ef_rm38 (m : MethodId) (a1 : Addr) (a2 : Addr) : entryFrame m #[(.ref a1), (.ref a2), .null] 5 = mkF m 0 #[.val (.ref a1), .val (.ref a2), .val .null, .unset, .unset] [] := by first | (simp [entryFrame, mkF, argsToLocals, Value.category]; done) | rfl
def Q38 (Z : State) (a1 : Addr) (a2 : Addr) (tv : Addr) (fv : Nat → Int32) (zc : Int32) (h0 : Heap) (n0 : Nat) (v : Option Value) (h : Heap) (L : List Loc) : Prop := ∃ (t : Addr) (f' : Nat → Int32), v = none ∧ Fr n0 L ∧ Keep h0 h [a1] ∧ h0.size ≤ t ∧ Fld Z h a1 k_14 "coder" "B" (.int (0 : Int32)) ∧ Fld Z h a1 k_14 "value" "[B" (.ref t) ∧ Afn Z h t .byte (21 : Int32) (fun k => .int (f' k))
theorem pd_28 : parseMethodDescriptor "()[B" = some ⟨[], some (.array .byte)⟩ := by decide +kernel
theorem rm38 (l : Launch) (Z : State) (a0 : Array Value) (hw : HWt Z a0) (ws : List Jvm.Cond) (a1 : Addr) (a2 : Addr) (tv : Addr) (fv : Nat → Int32) (zc : Int32) (h0 : Heap) (n0 : Nat) (Z0 : n0 ≤ h0.size) (E_a1 : Exa Z h0 a1 k_14) (zab : Fld Z h0 a1 k_14 "value" "[B" .null) (zaa : Fld Z h0 a1 k_14 "coder" "B" (.int (0 : Int32))) (E_a2 : Exa Z h0 a2 k_15) (zad : Fld Z h0 a2 k_8 "value" "[B" (.ref tv)) (zew : Fld Z h0 a2 k_8 "count" "I" (.int (21 : Int32))) (zae : Fld Z h0 a2 k_8 "coder" "B" (.int (0 : Int32))) (zfy : Fld Z h0 a2 k_8 "maybeLatin1" "Z" (.int (0 : Int32))) (V_tv : Afn Z h0 tv .byte (34 : Int32) (fun k => .int (fv k))) (g_a1 : n0 ≤ a1) (zdd : a1 ≠ a2) (zau : a1 ≠ tv) (SC : SS0 Z zc) (hzc : ¬ zc = (0 : Int32)) (O : Old Z n0 h0) :
    Con l Z y_38 jdk_42_method_150_code 5 none ws r_rm38 #[(.ref a1), (.ref a2), .null] h0 (Q38 Z a1 a2 tv fv zc h0 n0) := by
  refine Con.of2 (plainFor_of_name pn_rm18) ?_
  intro p e s m below meth c s₁ hZ e0 X0 hx hby hml hown hnm hret hlk PP hPP
  have N0 := Fr.nil n0
  refine Go.cast (ef_rm38 m a1 a2) ?_
  have K : Keep h0 h0 [a1] := Keep.refl h0 _
  have Zn : n0 ≤ h0.size := Z0
  show Go p.tables e below PP (s₁.setTop (mkF m 0 #[.val (.ref a1), .val (.ref a2), .val .null, .unset, .unset] []))
  refine Go.st (fun t k => XS.aloadN X0.here hx rfl (hb hby d38_0) rfl rfl k) ?_
  obtain ⟨T1, X1, e1, st1⟩ := initO X0 hx hZ hown (wk hw 30 rfl) (wk hw 31 rfl) (wk hw 32 rfl) e0 (g := (mkF m 1 #[.val (.ref a1), .val (.ref a2), .val .null, .unset, .unset] [(.ref a1)])) rfl (by rw [hml]; rfl) rfl (hb hby d38_1) (by decide) (W := 0) (by show 2 * 0 + _ ≤ _; exact Nat.le_of_eq rfl) (by decide)
  refine Go.st st1 ?_
  refine Go.st (fun t k => XS.aloadN X1.here hx rfl (hb hby d38_4) rfl rfl k) ?_
  obtain ⟨v2, T2, L2, X2, hQ2, st2⟩ := callVi X1 hx hZ (C := k_15) (y := y_39) (z := y_39) (a := a2) (argsL := []) (rest := []) hown (wk hw 210 rfl) (wk hw 211 rfl) (notFace_of_selects (args := #[]) (mvT hZ (wk hw 213 rfl))) (wk hw 213 rfl) (wk hw 212 rfl) (wk hw 129 rfl) (wk hw 214 rfl) (by decide) rfl E_a2 (rm39 l Z a0 hw [] a2 tv h0 n0 Zn zad) e1 0 (by decide) (by decide) (by decide) (by decide) (g := (mkF m 5 #[.val (.ref a1), .val (.ref a2), .val .null, .unset, .unset] [(.ref a2)])) rfl (by rw [hml]; rfl) (lenOf pd_28 rfl) rfl (Nat.le_of_eq rfl) (hb hby d38_5)
  obtain ⟨rfl, rfl, e2⟩ := hQ2
  rw [List.append_nil] at X2
  refine Go.st st2 ?_
  refine Go.st (fun t k => XS.astoreN X2.here hx rfl (hb hby d38_8) rfl rfl (l' := #[.val (.ref a1), .val (.ref a2), .val .null, .val (.ref tv), .unset]) rfl (XS.aloadN X2.here hx rfl (hb hby d38_9) rfl rfl k)) ?_
  obtain ⟨v3, T3, L3, X3, hQ3, st3⟩ := callVi X2 hx hZ (C := k_15) (y := y_41) (z := y_40) (a := a2) (argsL := []) (rest := []) hown (wk hw 215 rfl) (wk hw 216 rfl) (nf_of (a0 := #[]) (mvT (args := #[]) hZ (wk hw 226 rfl)) rfl) (wk hw 218 rfl) (wk hw 219 rfl) (wk hw 121 rfl) (wk hw 220 rfl) (by decide) rfl E_a2 (rm40 l Z a0 hw [] a2 h0 n0 Zn zew E_a2) e2 0 (by decide) (by decide) (by decide) (by decide) (g := (mkF m 10 #[.val (.ref a1), .val (.ref a2), .val .null, .val (.ref tv), .unset] [(.ref a2)])) rfl (by rw [hml]; rfl) (lenOf pd_5 rfl) rfl (Nat.le_of_eq rfl) (hb hby d38_10)
  obtain ⟨rfl, rfl, e3⟩ := hQ3
  rw [List.append_nil] at X3
  refine Go.st st3 ?_
  refine Go.st (fun t k => XS.istore X3.here hx rfl (hb hby d38_13) rfl (l' := #[.val (.ref a1), .val (.ref a2), .val .null, .val (.ref tv), .val (.int (21 : Int32))]) rfl (XS.aloadN X3.here hx rfl (hb hby d38_15) rfl rfl k)) ?_
  obtain ⟨v4, T4, L4, X4, hQ4, st4⟩ := callVi X3 hx hZ (C := k_15) (y := y_42) (z := y_42) (a := a2) (argsL := []) (rest := []) hown (wk hw 223 rfl) (wk hw 224 rfl) (notFace_of_selects (args := #[]) (mvT hZ (wk hw 226 rfl))) (wk hw 226 rfl) (wk hw 225 rfl) (wk hw 129 rfl) (wk hw 227 rfl) (by decide) rfl E_a2 (rm42 l Z a0 hw [] a2 zc h0 n0 Zn zae SC hzc O) e3 0 (by decide) (by decide) (by decide) (by decide) (g := (mkF m 16 #[.val (.ref a1), .val (.ref a2), .val .null, .val (.ref tv), .val (.int (21 : Int32))] [(.ref a2)])) rfl (by rw [hml]; rfl) (lenOf pd_4 rfl) rfl (Nat.le_of_eq rfl) (hb hby d38_16)
  obtain ⟨rfl, rfl, e4⟩ := hQ4
  rw [List.append_nil] at X4
  refine Go.st st4 ?_
  refine Go.st (fun t k => XS.ifNo X4.here hx rfl (hb hby d38_19) rfl (XT.i0_eq_f (by decide)) (XS.aloadN X4.here hx rfl (hb hby d38_22) rfl rfl (XS.iconst X4.here hx rfl (hb hby d38_23) k))) ?_
  obtain ⟨T5, h5, X5, e5, W5, st5⟩ := putFN X4 hx hZ hown (wk hw 35 rfl) Via.refl e4 zaa E_a1 (Or.inr ⟨(wk hw 36 rfl), rfl, hnm⟩) (wk hw 22 rfl) (ty := .byte) (v' := (.int (0 : Int32))) (by decide) rfl (by decide) (g := (mkF m 24 #[.val (.ref a1), .val (.ref a2), .val .null, .val (.ref tv), .val (.int (21 : Int32))] [(.int (0 : Int32)), (.ref a1)])) rfl rfl (hb hby d38_24)
  refine Go.st st5 ?_
  have N5 := Fr.snoc X5 N0 g_a1
  replace E_a1 := E_a1.wr W5
  replace zab := zab.other W5 (Or.inr (slot_ne (a0 := a0) (Or.inr (wk hw 34 rfl)) (Or.inr (wk hw 36 rfl)) (by decide) (t := (.array .byte)) (t' := .byte) (by decide) (by decide)))
  replace V_tv := V_tv.other W5 (Ne.symm zau)
  replace O := O.wr W5 g_a1
  replace K := K.wr W5 (Or.inl (List.mem_of_getElem? (i := 0) rfl))
  replace Zn : n0 ≤ h5.size := by rw [W5.size]; exact Zn
  replace zaa := zaa.same W5
  refine Go.st (fun t k => XS.aloadN X5.here hx rfl (hb hby d38_27) rfl rfl (XS.aloadN X5.here hx rfl (hb hby d38_28) rfl rfl (XS.iconst X5.here hx rfl (hb hby d38_29) (XS.iload X5.here hx rfl (hb hby d38_30) rfl k)))) ?_
  obtain ⟨v6, T6, L6, X6, hQ6, st6⟩ := callSt X5 hx hZ (y := y_43) (argsL := [(.ref tv), (.int (0 : Int32)), (.int (21 : Int32))]) (rest := [(.ref a1)]) hown (wk hw 228 rfl) (wk hw 229 rfl) (wk hw 194 rfl) (wk hw 230 rfl) (by decide) (rm43 l Z a0 hw [] tv (21 : Int32) (34 : Int32) fv h5 n0 Zn V_tv (by decide) (by decide)) e5 1 (by decide) (by decide) (by decide) (by decide) (g := (mkF m 32 #[.val (.ref a1), .val (.ref a2), .val .null, .val (.ref tv), .val (.int (21 : Int32))] [(.int (21 : Int32)), (.int (0 : Int32)), (.ref tv), (.ref a1)])) rfl (by rw [hml]; rfl) (lenOf pd_12 rfl) rfl (Nat.le_of_eq rfl) (hb hby d38_32)
  obtain ⟨h6, e6⟩ : ∃ z, T6.heap = z := ⟨_, rfl⟩
  rw [e6] at hQ6
  obtain ⟨t_6, rfl, Nq6, Kq6, sq6_t, zcd⟩ := hQ6
  have N6 := Fr.app N5 Nq6
  have zlm : a1 ≠ t_6 := Nat.ne_of_lt (Nat.lt_of_lt_of_le E_a1.lt sq6_t)
  have zhw : h0.size ≤ t_6 := Nat.le_trans K.1 sq6_t
  replace E_a1 := E_a1.keep Kq6
  replace zab := zab.keep Kq6 nin0
  replace zaa := zaa.keep Kq6 nin0
  replace O := O.keep Kq6 all0
  replace K := K.trans Kq6 all0
  replace Zn := Nat.le_trans Zn Kq6.1
  have zhx := zcd
  refine Go.st st6 ?_
  obtain ⟨T7, h7, X7, e7, W7, st7⟩ := putF X6 hx hZ hown (host := "") (Or.inl (wk hw 33 rfl)) Via.refl e6 zab E_a1 (Or.inr ⟨(wk hw 34 rfl), rfl, hnm⟩) (wk hw 22 rfl) (ty := (.array .byte)) (by decide) rfl rfl (g := (mkF m 35 #[.val (.ref a1), .val (.ref a2), .val .null, .val (.ref tv), .val (.int (21 : Int32))] [(.ref t_6), (.ref a1)])) rfl rfl (hb hby d38_35)
  refine Go.st st7 ?_
  have N7 := Fr.snoc X7 N6 g_a1
  replace zaa := zaa.other W7 (Or.inr (slot_ne (a0 := a0) (Or.inr (wk hw 36 rfl)) (Or.inr (wk hw 34 rfl)) (by decide) (t := .byte) (t' := (.array .byte)) (by decide) (by decide)))
  replace zhx := zhx.other W7 (Ne.symm zlm)
  replace O := O.wr W7 g_a1
  replace K := K.wr W7 (Or.inl (List.mem_of_getElem? (i := 0) rfl))
  replace Zn : n0 ≤ h7.size := by rw [W7.size]; exact Zn
  replace zab := zab.same W7
  refine Go.st (fun t k => XS.goto X7.here hx rfl (pc0 := 38) (pc' := 97) rfl (hb hby d38_38) (by decide) (by decide) k) ?_
  show Go p.tables e below PP (T7.setTop (mkF m 97 #[.val (.ref a1), .val (.ref a2), .val .null, .val (.ref tv), .val (.int (21 : Int32))] []))
  rw [hPP]
  refine endV X7 hx hlk hret (hb hby d38_97) ?_ (by decide) (by decide)
  rw [e7]
  exact ⟨t_6, fv, rfl, N7, K, zhw, zaa, zab, zhx⟩
abbrev b_37 : ByteArray := jdk_42_method_53_code
theorem d37_0 : dk b_37 0 (.aload_n 0) 1 := by decide +kernel
theorem d37_1 : dk b_37 1 (.aload_n 1) 1 := by decide +kernel
theorem d37_2 : dk b_37 2 (.aconst_null) 1 := by decide +kernel
theorem d37_3 : dk b_37 3 (.invokespecial 489) 3 := by decide +kernel
theorem d37_6 : dk b_37 6 (.return_) 1 := by decide +kernel
abbrev r_rm37 : Room := { frames := 4, cells := 1, slots := 42, locals := 87 }
def Q37 (Z : State) (a1 : Addr) (a2 : Addr) (tv : Addr) (fv : Nat → Int32) (zc : Int32) (h0 : Heap) (n0 : Nat) (v : Option Value) (h : Heap) (L : List Loc) : Prop := ∃ (t : Addr) (f' : Nat → Int32), v = none ∧ Fr n0 L ∧ Keep h0 h [a1] ∧ h0.size ≤ t ∧ Fld Z h a1 k_14 "coder" "B" (.int (0 : Int32)) ∧ Fld Z h a1 k_14 "value" "[B" (.ref t) ∧ Afn Z h t .byte (21 : Int32) (fun k => .int (f' k))
theorem pd_29 : parseMethodDescriptor "(Ljava/lang/AbstractStringBuilder;Ljava/lang/Void;)V" = some ⟨[(.object "java/lang/AbstractStringBuilder"), (.object "java/lang/Void")], none⟩ := by decide +kernel
theorem rm37 (l : Launch) (Z : State) (a0 : Array Value) (hw : HWt Z a0) (ws : List Jvm.Cond) (a1 : Addr) (a2 : Addr) (tv : Addr) (fv : Nat → Int32) (zc : Int32) (h0 : Heap) (n0 : Nat) (Z0 : n0 ≤ h0.size) (E_a1 : Exa Z h0 a1 k_14) (zab : Fld Z h0 a1 k_14 "value" "[B" .null) (zaa : Fld Z h0 a1 k_14 "coder" "B" (.int (0 : Int32))) (E_a2 : Exa Z h0 a2 k_15) (zad : Fld Z h0 a2 k_8 "value" "[B" (.ref tv)) (zew : Fld Z h0 a2 k_8 "count" "I" (.int (21 : Int32))) (zae : Fld Z h0 a2 k_8 "coder" "B" (.int (0 : Int32))) (zfy : Fld Z h0 a2 k_8 "maybeLatin1" "Z" (.int (0 : Int32))) (V_tv : Afn Z h0 tv .byte (34 : Int32) (fun k => .int (fv k))) (g_a1 : n0 ≤ a1) (zdd : a1 ≠ a2) (zau : a1 ≠ tv) (SC : SS0 Z zc) (hzc : ¬ zc = (0 : Int32)) (O : Old Z n0 h0) :
    Con l Z y_37 jdk_42_method_53_code 2 none ws r_rm37 #[(.ref a1), (.ref a2)] h0 (Q37 Z a1 a2 tv fv zc h0 n0) := by
  refine Con.of2 (plainFor_of_name pn_rm18) ?_
  intro p e s m below meth c s₁ hZ e0 X0 hx hby hml hown hnm hret hlk PP hPP
  have N0 := Fr.nil n0
  refine Go.cast (ef_rm12 m a1 a2) ?_
  have K : Keep h0 h0 [a1] := Keep.refl h0 _
  have Zn : n0 ≤ h0.size := Z0
  show Go p.tables e below PP (s₁.setTop (mkF m 0 #[.val (.ref a1), .val (.ref a2)] []))
  refine Go.st (fun t k => XS.aloadN X0.here hx rfl (hb hby d37_0) rfl rfl (XS.aloadN X0.here hx rfl (hb hby d37_1) rfl rfl (XS.aconstNull X0.here hx rfl (hb hby d37_2) k))) ?_
  obtain ⟨v1, T1, L1, X1, hQ1, st1⟩ := callIn X0 hx hZ (y := y_38) (a := a1) (argsL := [(.ref a2), .null]) (rest := []) rfl hown (wk hw 207 rfl) (wk hw 208 rfl) (wk hw 14 rfl) (wk hw 209 rfl) (by decide) (rm38 l Z a0 hw [] a1 a2 tv fv zc h0 n0 Zn E_a1 zab zaa E_a2 zad zew zae zfy V_tv g_a1 zdd zau SC hzc O) e0 0 (by decide) (by decide) (by decide) (by decide) (g := (mkF m 3 #[.val (.ref a1), .val (.ref a2)] [.null, (.ref a2), (.ref a1)])) rfl (by rw [hml]; rfl) (lenOf pd_29 rfl) rfl (Nat.le_of_eq rfl) (hb hby d37_3)
  obtain ⟨h1, e1⟩ : ∃ z, T1.heap = z := ⟨_, rfl⟩
  rw [e1] at hQ1
  obtain ⟨t_1, fx_1, rfl, Nq1, Kq1, zbk, zai, zbn, zbo⟩ := hQ1
  have N1 := Fr.app N0 Nq1
  have zgl : h0.size ≤ t_1 := Nat.le_trans K.1 zbk
  replace O := O.keep Kq1 (allS g_a1 all0)
  replace K := K.trans Kq1 (allS (Or.inl (List.mem_of_getElem? (i := 0) rfl)) all0)
  replace Zn := Nat.le_trans Zn Kq1.1
  refine Go.st st1 ?_
  show Go p.tables e below PP (T1.setTop (mkF m 6 #[.val (.ref a1), .val (.ref a2)] []))
  rw [hPP]
  refine endV X1 hx hlk hret (hb hby d37_6) ?_ (by decide) (by decide)
  rw [e1]
  exact ⟨t_1, fx_1, rfl, N1, K, zgl, zai, zbn, zbo⟩
abbrev b_36 : ByteArray := jdk_67_method_42_code
theorem d36_0 : dk b_36 0 (.new 18) 3 := by decide +kernel
theorem d36_3 : dk b_36 3 (.dup) 1 := by decide +kernel
theorem d36_4 : dk b_36 4 (.aload_n 0) 1 := by decide +kernel
theorem d36_5 : dk b_36 5 (.invokespecial 137) 3 := by decide +kernel
theorem d36_8 : dk b_36 8 (.areturn) 1 := by decide +kernel
abbrev r_rm36 : Room := { frames := 5, cells := 2, slots := 46, locals := 101 }
def Q36 (Z : State) (a1 : Addr) (tv : Addr) (fv : Nat → Int32) (zc : Int32) (h0 : Heap) (n0 : Nat) (v : Option Value) (h : Heap) (L : List Loc) : Prop := ∃ (r : Addr) (t : Addr) (f' : Nat → Int32), v = some (.ref r) ∧ Fr n0 L ∧ Keep h0 h [] ∧ h0.size ≤ r ∧ h0.size ≤ t ∧ Exa Z h r k_14 ∧ Fld Z h r k_14 "coder" "B" (.int (0 : Int32)) ∧ Fld Z h r k_14 "value" "[B" (.ref t) ∧ Afn Z h t .byte (21 : Int32) (fun k => .int (f' k))
theorem pd_30 : parseMethodDescriptor "(Ljava/lang/StringBuilder;)V" = some ⟨[(.object "java/lang/StringBuilder")], none⟩ := by decide +kernel
theorem rm36 (l : Launch) (Z : State) (a0 : Array Value) (hw : HWt Z a0) (ws : List Jvm.Cond) (a1 : Addr) (tv : Addr) (fv : Nat → Int32) (zc : Int32) (h0 : Heap) (n0 : Nat) (Z0 : n0 ≤ h0.size) (E_a1 : Exa Z h0 a1 k_15) (zab : Fld Z h0 a1 k_8 "value" "[B" (.ref tv)) (zac : Fld Z h0 a1 k_8 "count" "I" (.int (21 : Int32))) (zaa : Fld Z h0 a1 k_8 "coder" "B" (.int (0 : Int32))) (zak : Fld Z h0 a1 k_8 "maybeLatin1" "Z" (.int (0 : Int32))) (V_tv : Afn Z h0 tv .byte (34 : Int32) (fun k => .int (fv k))) (SC : SS0 Z zc) (hzc : ¬ zc = (0 : Int32)) (O : Old Z n0 h0) :
    Con l Z y_36 jdk_67_method_42_code 1 (some (.object "java/lang/String")) ws r_rm36 #[(.ref a1)] h0 (Q36 Z a1 tv fv zc h0 n0) := by
  refine Con.of2 (plainFor_of_name pn_rm27a) ?_
  intro p e s m below meth c s₁ hZ e0 X0 hx hby hml hown hnm hret hlk PP hPP
  have N0 := Fr.nil n0
  refine Go.cast (ef_rm18 m a1) ?_
  have K : Keep h0 h0 [] := Keep.refl h0 _
  have Zn : n0 ≤ h0.size := Z0
  obtain ⟨T1, h1, X1, e1, E1, A1, D1, U1, st1⟩ := newO X0 hx hZ hown (wk hw 203 rfl) (wk hw 22 rfl) (wk hw 14 rfl) e0 (g := (mkF m 0 #[.val (.ref a1)] [])) rfl (hb hby d36_0) (by decide) (by decide)
  obtain ⟨b1, gz1⟩ : ∃ z, z = h0.size := ⟨_, rfl⟩
  rw [← gz1] at A1 D1 U1 st1
  have zfz : a1 ≠ b1 := Nat.ne_of_lt (Nat.lt_of_lt_of_le E_a1.lt (Nat.le_of_eq gz1.symm))
  have zhy : tv ≠ b1 := Nat.ne_of_lt (Nat.lt_of_lt_of_le V_tv.lt (Nat.le_of_eq gz1.symm))
  have g_b1 : n0 ≤ b1 := Nat.le_trans Zn (Nat.le_of_eq gz1.symm)
  have zas : h0.size ≤ b1 := Nat.le_trans K.1 (Nat.le_of_eq gz1.symm)
  refine Go.st st1 ?_
  replace E_a1 := E_a1.ext E1
  replace zab := zab.ext E1
  replace zac := zac.ext E1
  replace zaa := zaa.ext E1
  replace zak := zak.ext E1
  replace V_tv := V_tv.ext E1
  replace O := O.ext E1
  replace K := K.ext E1
  replace Zn := Nat.le_trans Zn E1.1
  have E_b1 := A1
  have zex : Fld Z h1 b1 k_14 "value" "[B" .null := D1 (Or.inr (wk hw 34 rfl)) (ty := (.array .byte)) (by decide)
  have zey : Fld Z h1 b1 k_14 "coder" "B" (.int (0 : Int32)) := D1 (Or.inr (wk hw 36 rfl)) (ty := .byte) (by decide)
  refine Go.st (fun t k => XS.dup X1.here hx rfl (hb hby d36_3) rfl rfl (XS.aloadN X1.here hx rfl (hb hby d36_4) rfl rfl k)) ?_
  obtain ⟨v2, T2, L2, X2, hQ2, st2⟩ := callIn X1 hx hZ (y := y_37) (a := b1) (argsL := [(.ref a1)]) (rest := [(.ref b1)]) rfl hown (wk hw 204 rfl) (wk hw 205 rfl) (wk hw 14 rfl) (wk hw 206 rfl) (by decide) (rm37 l Z a0 hw [] b1 a1 tv fv zc h1 n0 Zn E_b1 zex zey E_a1 zab zac zaa zak V_tv g_b1 (Ne.symm zfz) (Ne.symm zhy) SC hzc O) e1 1 (by decide) (by decide) (by decide) (by decide) (g := (mkF m 5 #[.val (.ref a1)] [(.ref a1), (.ref b1), (.ref b1)])) rfl (by rw [hml]; rfl) (lenOf pd_30 rfl) rfl (Nat.le_of_eq rfl) (hb hby d36_5)
  obtain ⟨h2, e2⟩ : ∃ z, T2.heap = z := ⟨_, rfl⟩
  rw [e2] at hQ2
  obtain ⟨t_2, fx_2, rfl, Nq2, Kq2, zam, zaq, zaz, zbl⟩ := hQ2
  have N2 := Fr.app N0 Nq2
  have zdb : h0.size ≤ t_2 := Nat.le_trans K.1 zam
  replace E_b1 := E_b1.keep Kq2
  replace O := O.keep Kq2 (allS g_b1 all0)
  replace K := K.trans Kq2 (allS (Or.inr zas) all0)
  replace Zn := Nat.le_trans Zn Kq2.1
  refine Go.st st2 ?_
  show Go p.tables e below PP (T2.setTop (mkF m 8 #[.val (.ref a1)] [(.ref b1)]))
  rw [hPP]
  refine endR X2 hx hlk hret rfl rfl (hb hby d36_8) ?_ (by decide) (by decide)
  rw [e2]
  exact ⟨b1, t_2, fx_2, rfl, N2, K, zas, zdb, E_b1, zaq, zaz, zbl⟩
abbrev r_rm38u : Room := { frames := 3, cells := 1, slots := 42, locals := 71 }
def Q38u (Z : State) (a1 : Addr) (a2 : Addr) (tv : Addr) (fv : Nat → Int32) (zc : Int32) (h0 : Heap) (n0 : Nat) (v : Option Value) (h : Heap) (L : List Loc) : Prop := ∃ (t : Addr) (f' : Nat → Int32), v = none ∧ Fr n0 L ∧ Keep h0 h [a1] ∧ h0.size ≤ t ∧ Fld Z h a1 k_14 "coder" "B" (.int (1 : Int32)) ∧ Fld Z h a1 k_14 "value" "[B" (.ref t) ∧ Afn Z h t .byte (42 : Int32) (fun k => .int (f' k)) ∧ ∀ j, j < 20 → f' (2 * j + 1) = (0 : Int32)
theorem rm38u (l : Launch) (Z : State) (a0 : Array Value) (hw : HWt Z a0) (ws : List Jvm.Cond) (a1 : Addr) (a2 : Addr) (tv : Addr) (fv : Nat → Int32) (zc : Int32) (h0 : Heap) (n0 : Nat) (Z0 : n0 ≤ h0.size) (E_a1 : Exa Z h0 a1 k_14) (zab : Fld Z h0 a1 k_14 "value" "[B" .null) (zaa : Fld Z h0 a1 k_14 "coder" "B" (.int (0 : Int32))) (E_a2 : Exa Z h0 a2 k_15) (zad : Fld Z h0 a2 k_8 "value" "[B" (.ref tv)) (zew : Fld Z h0 a2 k_8 "count" "I" (.int (21 : Int32))) (zae : Fld Z h0 a2 k_8 "coder" "B" (.int (1 : Int32))) (zfy : Fld Z h0 a2 k_8 "maybeLatin1" "Z" (.int (0 : Int32))) (V_tv : Afn Z h0 tv .byte (68 : Int32) (fun k => .int (fv k))) (g_a1 : n0 ≤ a1) (zdd : a1 ≠ a2) (zau : a1 ≠ tv) (SC : SS0 Z zc) (hzc : ¬ zc = (0 : Int32)) (O : Old Z n0 h0) (hz : ∀ j, j < 20 → fv (2 * j + 1) = (0 : Int32)) :
    Con l Z y_38 jdk_42_method_150_code 5 none ws r_rm38u #[(.ref a1), (.ref a2), .null] h0 (Q38u Z a1 a2 tv fv zc h0 n0) := by
  refine Con.of2 (plainFor_of_name pn_rm18) ?_
  intro p e s m below meth c s₁ hZ e0 X0 hx hby hml hown hnm hret hlk PP hPP
  have N0 := Fr.nil n0
  refine Go.cast (ef_rm38 m a1 a2) ?_
  have K : Keep h0 h0 [a1] := Keep.refl h0 _
  have Zn : n0 ≤ h0.size := Z0
  show Go p.tables e below PP (s₁.setTop (mkF m 0 #[.val (.ref a1), .val (.ref a2), .val .null, .unset, .unset] []))
  refine Go.st (fun t k => XS.aloadN X0.here hx rfl (hb hby d38_0) rfl rfl k) ?_
  obtain ⟨T1, X1, e1, st1⟩ := initO X0 hx hZ hown (wk hw 30 rfl) (wk hw 31 rfl) (wk hw 32 rfl) e0 (g := (mkF m 1 #[.val (.ref a1), .val (.ref a2), .val .null, .unset, .unset] [(.ref a1)])) rfl (by rw [hml]; rfl) rfl (hb hby d38_1) (by decide) (W := 0) (by show 2 * 0 + _ ≤ _; exact Nat.le_of_eq rfl) (by decide)
  refine Go.st st1 ?_
  refine Go.st (fun t k => XS.aloadN X1.here hx rfl (hb hby d38_4) rfl rfl k) ?_
  obtain ⟨v2, T2, L2, X2, hQ2, st2⟩ := callVi X1 hx hZ (C := k_15) (y := y_39) (z := y_39) (a := a2) (argsL := []) (rest := []) hown (wk hw 210 rfl) (wk hw 211 rfl) (notFace_of_selects (args := #[]) (mvT hZ (wk hw 213 rfl))) (wk hw 213 rfl) (wk hw 212 rfl) (wk hw 129 rfl) (wk hw 214 rfl) (by decide) rfl E_a2 (rm39 l Z a0 hw [] a2 tv h0 n0 Zn zad) e1 0 (by decide) (by decide) (by decide) (by decide) (g := (mkF m 5 #[.val (.ref a1), .val (.ref a2), .val .null, .unset, .unset] [(.ref a2)])) rfl (by rw [hml]; rfl) (lenOf pd_28 rfl) rfl (Nat.le_of_eq rfl) (hb hby d38_5)
  obtain ⟨rfl, rfl, e2⟩ := hQ2
  rw [List.append_nil] at X2
  refine Go.st st2 ?_
  refine Go.st (fun t k => XS.astoreN X2.here hx rfl (hb hby d38_8) rfl rfl (l' := #[.val (.ref a1), .val (.ref a2), .val .null, .val (.ref tv), .unset]) rfl (XS.aloadN X2.here hx rfl (hb hby d38_9) rfl rfl k)) ?_
  obtain ⟨v3, T3, L3, X3, hQ3, st3⟩ := callVi X2 hx hZ (C := k_15) (y := y_41) (z := y_40) (a := a2) (argsL := []) (rest := []) hown (wk hw 215 rfl) (wk hw 216 rfl) (nf_of (a0 := #[]) (mvT (args := #[]) hZ (wk hw 226 rfl)) rfl) (wk hw 218 rfl) (wk hw 219 rfl) (wk hw 121 rfl) (wk hw 220 rfl) (by decide) rfl E_a2 (rm40 l Z a0 hw [] a2 h0 n0 Zn zew E_a2) e2 0 (by decide) (by decide) (by decide) (by decide) (g := (mkF m 10 #[.val (.ref a1), .val (.ref a2), .val .null, .val (.ref tv), .unset] [(.ref a2)])) rfl (by rw [hml]; rfl) (lenOf pd_5 rfl) rfl (Nat.le_of_eq rfl) (hb hby d38_10)
  obtain ⟨rfl, rfl, e3⟩ := hQ3
  rw [List.append_nil] at X3
  refine Go.st st3 ?_
  refine Go.st (fun t k => XS.istore X3.here hx rfl (hb hby d38_13) rfl (l' := #[.val (.ref a1), .val (.ref a2), .val .null, .val (.ref tv), .val (.int (21 : Int32))]) rfl (XS.aloadN X3.here hx rfl (hb hby d38_15) rfl rfl k)) ?_
  obtain ⟨v4, T4, L4, X4, hQ4, st4⟩ := callVi X3 hx hZ (C := k_15) (y := y_42) (z := y_42) (a := a2) (argsL := []) (rest := []) hown (wk hw 223 rfl) (wk hw 224 rfl) (notFace_of_selects (args := #[]) (mvT hZ (wk hw 226 rfl))) (wk hw 226 rfl) (wk hw 225 rfl) (wk hw 129 rfl) (wk hw 227 rfl) (by decide) rfl E_a2 (rm42u l Z a0 hw [] a2 zc h0 n0 Zn zae SC hzc O) e3 0 (by decide) (by decide) (by decide) (by decide) (g := (mkF m 16 #[.val (.ref a1), .val (.ref a2), .val .null, .val (.ref tv), .val (.int (21 : Int32))] [(.ref a2)])) rfl (by rw [hml]; rfl) (lenOf pd_4 rfl) rfl (Nat.le_of_eq rfl) (hb hby d38_16)
  obtain ⟨rfl, rfl, e4⟩ := hQ4
  rw [List.append_nil] at X4
  refine Go.st st4 ?_
  refine Go.st (fun t k => XS.ifYes X4.here hx rfl (pc0 := 19) (pc' := 41) rfl (hb hby d38_19) rfl (XT.i0_eq_t (by decide)) (by decide) (by decide) k) ?_
  obtain ⟨T5, X5, e5, st5⟩ := getS2 X4 hx hZ hown (host := "") (Or.inl (wk hw 16 rfl)) Via.refl e4 (SC.ext O.2) (g := (mkF m 41 #[.val (.ref a1), .val (.ref a2), .val .null, .val (.ref tv), .val (.int (21 : Int32))] [])) rfl (hb hby d38_41)
  refine Go.st st5 ?_
  refine Go.st (fun t k => XS.ifNo X5.here hx rfl (hb hby d38_44) rfl (XT.i0_eq_f hzc) (XS.aloadN X5.here hx rfl (hb hby d38_47) rfl rfl k)) ?_
  obtain ⟨T6, X6, e6, st6⟩ := getF X5 hx hZ hown (host := "") (Or.inl (wk hw 446 rfl)) Via.refl e5 zfy (g := (mkF m 48 #[.val (.ref a1), .val (.ref a2), .val .null, .val (.ref tv), .val (.int (21 : Int32))] [(.ref a2)])) rfl rfl (hb hby d38_48)
  refine Go.st st6 ?_
  refine Go.st (fun t k => XS.ifYes X6.here hx rfl (pc0 := 51) (pc' := 79) rfl (hb hby d38_51) rfl (XT.i0_eq_t (by decide)) (by decide) (by decide) (XS.aloadN X6.here hx rfl (hb hby d38_79) rfl rfl (XS.iconst X6.here hx rfl (hb hby d38_80) k))) ?_
  obtain ⟨T7, h7, X7, e7, W7, st7⟩ := putFN X6 hx hZ hown (wk hw 35 rfl) Via.refl e6 zaa E_a1 (Or.inr ⟨(wk hw 36 rfl), rfl, hnm⟩) (wk hw 22 rfl) (ty := .byte) (v' := (.int (1 : Int32))) (by decide) rfl (by decide) (g := (mkF m 81 #[.val (.ref a1), .val (.ref a2), .val .null, .val (.ref tv), .val (.int (21 : Int32))] [(.int (1 : Int32)), (.ref a1)])) rfl rfl (hb hby d38_81)
  refine Go.st st7 ?_
  have N7 := Fr.snoc X7 N0 g_a1
  replace E_a1 := E_a1.wr W7
  replace zab := zab.other W7 (Or.inr (slot_ne (a0 := a0) (Or.inr (wk hw 34 rfl)) (Or.inr (wk hw 36 rfl)) (by decide) (t := (.array .byte)) (t' := .byte) (by decide) (by decide)))
  replace V_tv := V_tv.other W7 (Ne.symm zau)
  replace O := O.wr W7 g_a1
  replace K := K.wr W7 (Or.inl (List.mem_of_getElem? (i := 0) rfl))
  replace Zn : n0 ≤ h7.size := by rw [W7.size]; exact Zn
  replace zaa := zaa.same W7
  refine Go.st (fun t k => XS.aloadN X7.here hx rfl (hb hby d38_84) rfl rfl (XS.aloadN X7.here hx rfl (hb hby d38_85) rfl rfl (XS.iconst X7.here hx rfl (hb hby d38_86) (XS.iload X7.here hx rfl (hb hby d38_87) rfl (XS.iconst X7.here hx rfl (hb hby d38_89) k))))) ?_
  show Go p.tables e below PP (T7.setTop (mkF m 90 #[.val (.ref a1), .val (.ref a2), .val .null, .val (.ref tv), .val (.int (21 : Int32))] [(.int (1 : Int32)), (.int (21 : Int32)), (.int (0 : Int32)), (.ref tv), (.ref a1)]))
  refine Go.st (fun t k => XS.ishl X7.here hx rfl (hb hby d38_90) rfl k) ?_
  show Go p.tables e below PP (T7.setTop (mkF m 91 #[.val (.ref a1), .val (.ref a2), .val .null, .val (.ref tv), .val (.int (21 : Int32))] [(.int ((21 : Int32) <<< ((1 : Int32) &&& 31))), (.int (0 : Int32)), (.ref tv), (.ref a1)]))
  rw [show ((21 : Int32) <<< ((1 : Int32) &&& 31)) = (42 : Int32) from by decide]
  obtain ⟨v8, T8, L8, X8, hQ8, st8⟩ := callSt X7 hx hZ (y := y_43) (argsL := [(.ref tv), (.int (0 : Int32)), (.int (42 : Int32))]) (rest := [(.ref a1)]) hown (wk hw 228 rfl) (wk hw 229 rfl) (wk hw 194 rfl) (wk hw 230 rfl) (by decide) (rm43 l Z a0 hw [] tv (42 : Int32) (68 : Int32) fv h7 n0 Zn V_tv (by decide) (by decide)) e7 1 (by decide) (by decide) (by decide) (by decide) (g := (mkF m 91 #[.val (.ref a1), .val (.ref a2), .val .null, .val (.ref tv), .val (.int (21 : Int32))] [(.int (42 : Int32)), (.int (0 : Int32)), (.ref tv), (.ref a1)])) rfl (by rw [hml]; rfl) (lenOf pd_12 rfl) rfl (Nat.le_of_eq rfl) (hb hby d38_91)
  obtain ⟨h8, e8⟩ : ∃ z, T8.heap = z := ⟨_, rfl⟩
  rw [e8] at hQ8
  obtain ⟨t_8, rfl, Nq8, Kq8, sq8_t, zhz⟩ := hQ8
  have N8 := Fr.app N7 Nq8
  have zln : a1 ≠ t_8 := Nat.ne_of_lt (Nat.lt_of_lt_of_le E_a1.lt sq8_t)
  have zlo : h0.size ≤ t_8 := Nat.le_trans K.1 sq8_t
  replace E_a1 := E_a1.keep Kq8
  replace zab := zab.keep Kq8 nin0
  replace zaa := zaa.keep Kq8 nin0
  replace O := O.keep Kq8 all0
  replace K := K.trans Kq8 all0
  replace Zn := Nat.le_trans Zn Kq8.1
  have zia := zhz
  refine Go.st st8 ?_
  obtain ⟨T9, h9, X9, e9, W9, st9⟩ := putF X8 hx hZ hown (host := "") (Or.inl (wk hw 33 rfl)) Via.refl e8 zab E_a1 (Or.inr ⟨(wk hw 34 rfl), rfl, hnm⟩) (wk hw 22 rfl) (ty := (.array .byte)) (by decide) rfl rfl (g := (mkF m 94 #[.val (.ref a1), .val (.ref a2), .val .null, .val (.ref tv), .val (.int (21 : Int32))] [(.ref t_8), (.ref a1)])) rfl rfl (hb hby d38_94)
  refine Go.st st9 ?_
  have N9 := Fr.snoc X9 N8 g_a1
  replace zaa := zaa.other W9 (Or.inr (slot_ne (a0 := a0) (Or.inr (wk hw 36 rfl)) (Or.inr (wk hw 34 rfl)) (by decide) (t := .byte) (t' := (.array .byte)) (by decide) (by decide)))
  replace zia := zia.other W9 (Ne.symm zln)
  replace O := O.wr W9 g_a1
  replace K := K.wr W9 (Or.inl (List.mem_of_getElem? (i := 0) rfl))
  replace Zn : n0 ≤ h9.size := by rw [W9.size]; exact Zn
  replace zab := zab.same W9
  show Go p.tables e below PP (T9.setTop (mkF m 97 #[.val (.ref a1), .val (.ref a2), .val .null, .val (.ref tv), .val (.int (21 : Int32))] []))
  rw [hPP]
  refine endV X9 hx hlk hret (hb hby d38_97) ?_ (by decide) (by decide)
  rw [e9]
  exact ⟨t_8, fv, rfl, N9, K, zlo, zaa, zab, zia, hz⟩
abbrev r_rm37u : Room := { frames := 4, cells := 1, slots := 42, locals := 87 }
def Q37u (Z : State) (a1 : Addr) (a2 : Addr) (tv : Addr) (fv : Nat → Int32) (zc : Int32) (h0 : Heap) (n0 : Nat) (v : Option Value) (h : Heap) (L : List Loc) : Prop := ∃ (t : Addr) (f' : Nat → Int32), v = none ∧ Fr n0 L ∧ Keep h0 h [a1] ∧ h0.size ≤ t ∧ Fld Z h a1 k_14 "coder" "B" (.int (1 : Int32)) ∧ Fld Z h a1 k_14 "value" "[B" (.ref t) ∧ Afn Z h t .byte (42 : Int32) (fun k => .int (f' k)) ∧ ∀ j, j < 20 → f' (2 * j + 1) = (0 : Int32)
theorem rm37u (l : Launch) (Z : State) (a0 : Array Value) (hw : HWt Z a0) (ws : List Jvm.Cond) (a1 : Addr) (a2 : Addr) (tv : Addr) (fv : Nat → Int32) (zc : Int32) (h0 : Heap) (n0 : Nat) (Z0 : n0 ≤ h0.size) (E_a1 : Exa Z h0 a1 k_14) (zab : Fld Z h0 a1 k_14 "value" "[B" .null) (zaa : Fld Z h0 a1 k_14 "coder" "B" (.int (0 : Int32))) (E_a2 : Exa Z h0 a2 k_15) (zad : Fld Z h0 a2 k_8 "value" "[B" (.ref tv)) (zew : Fld Z h0 a2 k_8 "count" "I" (.int (21 : Int32))) (zae : Fld Z h0 a2 k_8 "coder" "B" (.int (1 : Int32))) (zfy : Fld Z h0 a2 k_8 "maybeLatin1" "Z" (.int (0 : Int32))) (V_tv : Afn Z h0 tv .byte (68 : Int32) (fun k => .int (fv k))) (g_a1 : n0 ≤ a1) (zdd : a1 ≠ a2) (zau : a1 ≠ tv) (SC : SS0 Z zc) (hzc : ¬ zc = (0 : Int32)) (O : Old Z n0 h0) (hz : ∀ j, j < 20 → fv (2 * j + 1) = (0 : Int32)) :
    Con l Z y_37 jdk_42_method_53_code 2 none ws r_rm37u #[(.ref a1), (.ref a2)] h0 (Q37u Z a1 a2 tv fv zc h0 n0) := by
  refine Con.of2 (plainFor_of_name pn_rm18) ?_
  intro p e s m below meth c s₁ hZ e0 X0 hx hby hml hown hnm hret hlk PP hPP
  have N0 := Fr.nil n0
  refine Go.cast (ef_rm12 m a1 a2) ?_
  have K : Keep h0 h0 [a1] := Keep.refl h0 _
  have Zn : n0 ≤ h0.size := Z0
  show Go p.tables e below PP (s₁.setTop (mkF m 0 #[.val (.ref a1), .val (.ref a2)] []))
  refine Go.st (fun t k => XS.aloadN X0.here hx rfl (hb hby d37_0) rfl rfl (XS.aloadN X0.here hx rfl (hb hby d37_1) rfl rfl (XS.aconstNull X0.here hx rfl (hb hby d37_2) k))) ?_
  obtain ⟨v1, T1, L1, X1, hQ1, st1⟩ := callIn X0 hx hZ (y := y_38) (a := a1) (argsL := [(.ref a2), .null]) (rest := []) rfl hown (wk hw 207 rfl) (wk hw 208 rfl) (wk hw 14 rfl) (wk hw 209 rfl) (by decide) (rm38u l Z a0 hw [] a1 a2 tv fv zc h0 n0 Zn E_a1 zab zaa E_a2 zad zew zae zfy V_tv g_a1 zdd zau SC hzc O hz) e0 0 (by decide) (by decide) (by decide) (by decide) (g := (mkF m 3 #[.val (.ref a1), .val (.ref a2)] [.null, (.ref a2), (.ref a1)])) rfl (by rw [hml]; rfl) (lenOf pd_29 rfl) rfl (Nat.le_of_eq rfl) (hb hby d37_3)
  obtain ⟨h1, e1⟩ : ∃ z, T1.heap = z := ⟨_, rfl⟩
  rw [e1] at hQ1
  obtain ⟨t_1, fx_1, rfl, Nq1, Kq1, zbk, zai, zbn, zbo, zeb⟩ := hQ1
  have N1 := Fr.app N0 Nq1
  have zgl : h0.size ≤ t_1 := Nat.le_trans K.1 zbk
  replace O := O.keep Kq1 (allS g_a1 all0)
  replace K := K.trans Kq1 (allS (Or.inl (List.mem_of_getElem? (i := 0) rfl)) all0)
  replace Zn := Nat.le_trans Zn Kq1.1
  refine Go.st st1 ?_
  show Go p.tables e below PP (T1.setTop (mkF m 6 #[.val (.ref a1), .val (.ref a2)] []))
  rw [hPP]
  refine endV X1 hx hlk hret (hb hby d37_6) ?_ (by decide) (by decide)
  rw [e1]
  exact ⟨t_1, fx_1, rfl, N1, K, zgl, zai, zbn, zbo, zeb⟩
abbrev r_rm36u : Room := { frames := 5, cells := 2, slots := 46, locals := 101 }
def Q36u (Z : State) (a1 : Addr) (tv : Addr) (fv : Nat → Int32) (zc : Int32) (h0 : Heap) (n0 : Nat) (v : Option Value) (h : Heap) (L : List Loc) : Prop := ∃ (r : Addr) (t : Addr) (f' : Nat → Int32), v = some (.ref r) ∧ Fr n0 L ∧ Keep h0 h [] ∧ h0.size ≤ r ∧ h0.size ≤ t ∧ Exa Z h r k_14 ∧ Fld Z h r k_14 "coder" "B" (.int (1 : Int32)) ∧ Fld Z h r k_14 "value" "[B" (.ref t) ∧ Afn Z h t .byte (42 : Int32) (fun k => .int (f' k)) ∧ ∀ j, j < 20 → f' (2 * j + 1) = (0 : Int32)
theorem rm36u (l : Launch) (Z : State) (a0 : Array Value) (hw : HWt Z a0) (ws : List Jvm.Cond) (a1 : Addr) (tv : Addr) (fv : Nat → Int32) (zc : Int32) (h0 : Heap) (n0 : Nat) (Z0 : n0 ≤ h0.size) (E_a1 : Exa Z h0 a1 k_15) (zab : Fld Z h0 a1 k_8 "value" "[B" (.ref tv)) (zac : Fld Z h0 a1 k_8 "count" "I" (.int (21 : Int32))) (zaa : Fld Z h0 a1 k_8 "coder" "B" (.int (1 : Int32))) (zak : Fld Z h0 a1 k_8 "maybeLatin1" "Z" (.int (0 : Int32))) (V_tv : Afn Z h0 tv .byte (68 : Int32) (fun k => .int (fv k))) (SC : SS0 Z zc) (hzc : ¬ zc = (0 : Int32)) (O : Old Z n0 h0) (hz : ∀ j, j < 20 → fv (2 * j + 1) = (0 : Int32)) :
    Con l Z y_36 jdk_67_method_42_code 1 (some (.object "java/lang/String")) ws r_rm36u #[(.ref a1)] h0 (Q36u Z a1 tv fv zc h0 n0) := by
  refine Con.of2 (plainFor_of_name pn_rm27a) ?_
  intro p e s m below meth c s₁ hZ e0 X0 hx hby hml hown hnm hret hlk PP hPP
  have N0 := Fr.nil n0
  refine Go.cast (ef_rm18 m a1) ?_
  have K : Keep h0 h0 [] := Keep.refl h0 _
  have Zn : n0 ≤ h0.size := Z0
  obtain ⟨T1, h1, X1, e1, E1, A1, D1, U1, st1⟩ := newO X0 hx hZ hown (wk hw 203 rfl) (wk hw 22 rfl) (wk hw 14 rfl) e0 (g := (mkF m 0 #[.val (.ref a1)] [])) rfl (hb hby d36_0) (by decide) (by decide)
  obtain ⟨b1, gz1⟩ : ∃ z, z = h0.size := ⟨_, rfl⟩
  rw [← gz1] at A1 D1 U1 st1
  have zfz : a1 ≠ b1 := Nat.ne_of_lt (Nat.lt_of_lt_of_le E_a1.lt (Nat.le_of_eq gz1.symm))
  have zhy : tv ≠ b1 := Nat.ne_of_lt (Nat.lt_of_lt_of_le V_tv.lt (Nat.le_of_eq gz1.symm))
  have g_b1 : n0 ≤ b1 := Nat.le_trans Zn (Nat.le_of_eq gz1.symm)
  have zas : h0.size ≤ b1 := Nat.le_trans K.1 (Nat.le_of_eq gz1.symm)
  refine Go.st st1 ?_
  replace E_a1 := E_a1.ext E1
  replace zab := zab.ext E1
  replace zac := zac.ext E1
  replace zaa := zaa.ext E1
  replace zak := zak.ext E1
  replace V_tv := V_tv.ext E1
  replace O := O.ext E1
  replace K := K.ext E1
  replace Zn := Nat.le_trans Zn E1.1
  have E_b1 := A1
  have zex : Fld Z h1 b1 k_14 "value" "[B" .null := D1 (Or.inr (wk hw 34 rfl)) (ty := (.array .byte)) (by decide)
  have zey : Fld Z h1 b1 k_14 "coder" "B" (.int (0 : Int32)) := D1 (Or.inr (wk hw 36 rfl)) (ty := .byte) (by decide)
  refine Go.st (fun t k => XS.dup X1.here hx rfl (hb hby d36_3) rfl rfl (XS.aloadN X1.here hx rfl (hb hby d36_4) rfl rfl k)) ?_
  obtain ⟨v2, T2, L2, X2, hQ2, st2⟩ := callIn X1 hx hZ (y := y_37) (a := b1) (argsL := [(.ref a1)]) (rest := [(.ref b1)]) rfl hown (wk hw 204 rfl) (wk hw 205 rfl) (wk hw 14 rfl) (wk hw 206 rfl) (by decide) (rm37u l Z a0 hw [] b1 a1 tv fv zc h1 n0 Zn E_b1 zex zey E_a1 zab zac zaa zak V_tv g_b1 (Ne.symm zfz) (Ne.symm zhy) SC hzc O hz) e1 1 (by decide) (by decide) (by decide) (by decide) (g := (mkF m 5 #[.val (.ref a1)] [(.ref a1), (.ref b1), (.ref b1)])) rfl (by rw [hml]; rfl) (lenOf pd_30 rfl) rfl (Nat.le_of_eq rfl) (hb hby d36_5)
  obtain ⟨h2, e2⟩ : ∃ z, T2.heap = z := ⟨_, rfl⟩
  rw [e2] at hQ2
  obtain ⟨t_2, fx_2, rfl, Nq2, Kq2, zam, zaq, zaz, zbl, zbw⟩ := hQ2
  have N2 := Fr.app N0 Nq2
  have zdb : h0.size ≤ t_2 := Nat.le_trans K.1 zam
  replace E_b1 := E_b1.keep Kq2
  replace O := O.keep Kq2 (allS g_b1 all0)
  replace K := K.trans Kq2 (allS (Or.inr zas) all0)
  replace Zn := Nat.le_trans Zn Kq2.1
  refine Go.st st2 ?_
  show Go p.tables e below PP (T2.setTop (mkF m 8 #[.val (.ref a1)] [(.ref b1)]))
  rw [hPP]
  refine endR X2 hx hlk hret rfl rfl (hb hby d36_8) ?_ (by decide) (by decide)
  rw [e2]
  exact ⟨b1, t_2, fx_2, rfl, N2, K, zas, zdb, E_b1, zaq, zaz, zbl, zbw⟩
abbrev b_48 : ByteArray := jdk_41_method_12_code
theorem d48_0 : dk b_48 0 (.iload_n 0) 1 := by decide +kernel
theorem d48_1 : dk b_48 1 (.ifCond .lt 13) 3 := by decide +kernel
theorem d48_4 : dk b_48 4 (.iload_n 0) 1 := by decide +kernel
theorem d48_5 : dk b_48 5 (.iload_n 1) 1 := by decide +kernel
theorem d48_6 : dk b_48 6 (.if_icmp .gt 8) 3 := by decide +kernel
theorem d48_9 : dk b_48 9 (.iload_n 1) 1 := by decide +kernel
theorem d48_10 : dk b_48 10 (.iload_n 2) 1 := by decide +kernel
theorem d48_11 : dk b_48 11 (.if_icmp .le 11) 3 := by decide +kernel
theorem d48_22 : dk b_48 22 (.iload_n 0) 1 := by decide +kernel
theorem d48_23 : dk b_48 23 (.ireturn) 1 := by decide +kernel
abbrev r_rm48 : Room := { frames := 0, cells := 0, slots := 0, locals := 0 }
theorem ef_rm48 (m : MethodId)  : entryFrame m #[(.int (0 : Int32)), (.int (21 : Int32)), (.int (21 : Int32)), .null] 4 = mkF m 0 #[.val (.int (0 : Int32)), .val (.int (21 : Int32)), .val (.int (21 : Int32)), .val .null] [] := by first | (simp [entryFrame, mkF, argsToLocals, Value.category]; done) | rfl
def Q48 (Z : State)  (h0 : Heap) (n0 : Nat) (v : Option Value) (h : Heap) (L : List Loc) : Prop := v = some (.int (0 : Int32)) ∧ L = [] ∧ h = h0
theorem rm48 (l : Launch) (Z : State) (a0 : Array Value) (hw : HWt Z a0) (ws : List Jvm.Cond)  (h0 : Heap) (n0 : Nat) (Z0 : n0 ≤ h0.size) :
    Con l Z y_48 jdk_41_method_12_code 4 (some .int) ws r_rm48 #[(.int (0 : Int32)), (.int (21 : Int32)), (.int (21 : Int32)), .null] h0 (Q48 Z  h0 n0) := by
  refine Con.of2 (plainFor_of_name pn_rm66) ?_
  intro p e s m below meth c s₁ hZ e0 X0 hx hby hml hown hnm hret hlk PP hPP
  have N0 := Fr.nil n0
  refine Go.cast (ef_rm48 m ) ?_
  have Zn : n0 ≤ h0.size := Z0
  show Go p.tables e below PP (s₁.setTop (mkF m 0 #[.val (.int (0 : Int32)), .val (.int (21 : Int32)), .val (.int (21 : Int32)), .val .null] []))
  refine Go.st (fun t k => XS.iloadN X0.here hx rfl (hb hby d48_0) rfl (XS.ifNo X0.here hx rfl (hb hby d48_1) rfl (XT.i0_lt_f (by decide)) (XS.iloadN X0.here hx rfl (hb hby d48_4) rfl (XS.iloadN X0.here hx rfl (hb hby d48_5) rfl (XS.icmpNo X0.here hx rfl (hb hby d48_6) rfl (XT.ii_gt_f (by decide)) (XS.iloadN X0.here hx rfl (hb hby d48_9) rfl (XS.iloadN X0.here hx rfl (hb hby d48_10) rfl (XS.icmpYes X0.here hx rfl (pc0 := 11) (pc' := 22) rfl (hb hby d48_11) rfl (XT.ii_le_t (by decide)) (by decide) (by decide) (XS.iloadN X0.here hx rfl (hb hby d48_22) rfl k))))))))) ?_
  show Go p.tables e below PP (s₁.setTop (mkF m 23 #[.val (.int (0 : Int32)), .val (.int (21 : Int32)), .val (.int (21 : Int32)), .val .null] [(.int (0 : Int32))]))
  rw [hPP]
  refine endI X0 hx hlk hret (hb hby d48_23) ?_ (by decide) (by decide)
  rw [e0]
  exact ⟨rfl, rfl, rfl⟩
abbrev b_47 : ByteArray := jdk_31_method_18_code
theorem d47_0 : dk b_47 0 (.iload_n 0) 1 := by decide +kernel
theorem d47_1 : dk b_47 1 (.iload_n 1) 1 := by decide +kernel
theorem d47_2 : dk b_47 2 (.iload_n 2) 1 := by decide +kernel
theorem d47_3 : dk b_47 3 (.aconst_null) 1 := by decide +kernel
theorem d47_4 : dk b_47 4 (.invokestatic 111) 3 := by decide +kernel
theorem d47_7 : dk b_47 7 (.ireturn) 1 := by decide +kernel
abbrev r_rm47 : Room := { frames := 1, cells := 0, slots := 0, locals := 15 }
theorem ef_rm47 (m : MethodId)  : entryFrame m #[(.int (0 : Int32)), (.int (21 : Int32)), (.int (21 : Int32))] 3 = mkF m 0 #[.val (.int (0 : Int32)), .val (.int (21 : Int32)), .val (.int (21 : Int32))] [] := by first | (simp [entryFrame, mkF, argsToLocals, Value.category]; done) | rfl
def Q47 (Z : State)  (h0 : Heap) (n0 : Nat) (v : Option Value) (h : Heap) (L : List Loc) : Prop := v = some (.int (0 : Int32)) ∧ L = [] ∧ h = h0
theorem rm47 (l : Launch) (Z : State) (a0 : Array Value) (hw : HWt Z a0) (ws : List Jvm.Cond)  (h0 : Heap) (n0 : Nat) (Z0 : n0 ≤ h0.size) :
    Con l Z y_47 jdk_31_method_18_code 3 (some .int) ws r_rm47 #[(.int (0 : Int32)), (.int (21 : Int32)), (.int (21 : Int32))] h0 (Q47 Z  h0 n0) := by
  refine Con.of2 (plainFor_of_name pn_rm12) ?_
  intro p e s m below meth c s₁ hZ e0 X0 hx hby hml hown hnm hret hlk PP hPP
  have N0 := Fr.nil n0
  refine Go.cast (ef_rm47 m ) ?_
  have Zn : n0 ≤ h0.size := Z0
  show Go p.tables e below PP (s₁.setTop (mkF m 0 #[.val (.int (0 : Int32)), .val (.int (21 : Int32)), .val (.int (21 : Int32))] []))
  refine Go.st (fun t k => XS.iloadN X0.here hx rfl (hb hby d47_0) rfl (XS.iloadN X0.here hx rfl (hb hby d47_1) rfl (XS.iloadN X0.here hx rfl (hb hby d47_2) rfl (XS.aconstNull X0.here hx rfl (hb hby d47_3) k)))) ?_
  obtain ⟨v1, T1, L1, X1, hQ1, st1⟩ := callSt X0 hx hZ (y := y_48) (argsL := [(.int (0 : Int32)), (.int (21 : Int32)), (.int (21 : Int32)), .null]) (rest := []) hown (wk hw 246 rfl) (wk hw 247 rfl) (wk hw 248 rfl) (wk hw 249 rfl) (by decide) (rm48 l Z a0 hw []  h0 n0 Zn) e0 0 (by decide) (by decide) (by decide) (by decide) (g := (mkF m 4 #[.val (.int (0 : Int32)), .val (.int (21 : Int32)), .val (.int (21 : Int32))] [.null, (.int (21 : Int32)), (.int (21 : Int32)), (.int (0 : Int32))])) rfl (by rw [hml]; rfl) (lenOf pd_14 rfl) rfl (Nat.le_of_eq rfl) (hb hby d47_4)
  obtain ⟨rfl, rfl, e1⟩ := hQ1
  rw [List.append_nil] at X1
  refine Go.st st1 ?_
  show Go p.tables e below PP (T1.setTop (mkF m 7 #[.val (.int (0 : Int32)), .val (.int (21 : Int32)), .val (.int (21 : Int32))] [(.int (0 : Int32))]))
  rw [hPP]
  refine endI X1 hx hlk hret (hb hby d47_7) ?_ (by decide) (by decide)
  rw [e1]
  exact ⟨rfl, rfl, rfl⟩
abbrev b_89 : ByteArray := jdk_89_method_14_code
theorem d89_0 : dk b_89 0 (.iload_n 0) 1 := by decide +kernel
theorem d89_1 : dk b_89 1 (.ldc 75) 2 := by decide +kernel
theorem d89_3 : dk b_89 3 (.if_icmp .lt 13) 3 := by decide +kernel
theorem d89_16 : dk b_89 16 (.iconst 0) 1 := by decide +kernel
theorem d89_17 : dk b_89 17 (.ireturn) 1 := by decide +kernel
abbrev r_rm89 : Room := { frames := 0, cells := 0, slots := 0, locals := 0 }
theorem pn_rm89 : plainName "java/lang/Character" = true := by first | (simp [plainName, overriddenIn]; done) | decide +kernel
def Q89 (Z : State) (p1 : Int32) (h0 : Heap) (n0 : Nat) (v : Option Value) (h : Heap) (L : List Loc) : Prop := v = some (.int (0 : Int32)) ∧ L = [] ∧ h = h0
theorem rm89 (l : Launch) (Z : State) (a0 : Array Value) (hw : HWt Z a0) (ws : List Jvm.Cond) (p1 : Int32) (h0 : Heap) (n0 : Nat) (Z0 : n0 ≤ h0.size) (hlt : p1 < (55296 : Int32)) :
    Con l Z y_89 jdk_89_method_14_code 1 (some .boolean) ws r_rm89 #[(.int p1)] h0 (Q89 Z p1 h0 n0) := by
  refine Con.of2 (plainFor_of_name pn_rm89) ?_
  intro p e s m below meth c s₁ hZ e0 X0 hx hby hml hown hnm hret hlk PP hPP
  have N0 := Fr.nil n0
  refine Go.cast (ef_rm20 m p1) ?_
  have Zn : n0 ≤ h0.size := Z0
  show Go p.tables e below PP (s₁.setTop (mkF m 0 #[.val (.int p1)] []))
  refine Go.st (fun t k => XS.iloadN X0.here hx rfl (hb hby d89_0) rfl k) ?_
  show Go p.tables e below PP (s₁.setTop (mkF m 1 #[.val (.int p1)] [(.int p1)]))
  refine Go.st (fun t k => X0.ldcI hx hown (mvT hZ (wk hw 461 rfl)) (g := (mkF m 1 #[.val (.int p1)] [(.int p1)])) rfl (hb hby d89_1) (XS.icmpYes X0.here hx rfl (pc0 := 3) (pc' := 16) rfl (hb hby d89_3) rfl (XT.ii_lt_t hlt) (by decide) (by decide) (XS.iconst X0.here hx rfl (hb hby d89_16) k))) ?_
  show Go p.tables e below PP (s₁.setTop (mkF m 17 #[.val (.int p1)] [(.int (0 : Int32))]))
  rw [hPP]
  refine endN X0 hx hlk (t := .boolean) hret (by simp) (hb hby d89_17) (w := (0 : Int32)) (rfl) ?_ (by decide) (by decide)
  rw [e0]
  exact ⟨rfl, rfl, rfl⟩
abbrev b_87 : ByteArray := jdk_52_method_11_code
theorem d87_0 : dk b_87 0 (.getstatic 44) 3 := by decide +kernel
theorem d87_3 : dk b_87 3 (.ifCond .ne 16) 3 := by decide +kernel
theorem d87_19 : dk b_87 19 (.iload_n 2) 1 := by decide +kernel
theorem d87_20 : dk b_87 20 (.iload_n 1) 1 := by decide +kernel
theorem d87_21 : dk b_87 21 (.isub) 1 := by decide +kernel
theorem d87_22 : dk b_87 22 (.istore 4) 2 := by decide +kernel
theorem d87_24 : dk b_87 24 (.iload_n 1) 1 := by decide +kernel
theorem d87_25 : dk b_87 25 (.istore 5) 2 := by decide +kernel
theorem d87_27 : dk b_87 27 (.iload_n 3) 1 := by decide +kernel
theorem d87_28 : dk b_87 28 (.ifCond .eq 16) 3 := by decide +kernel
theorem d87_44 : dk b_87 44 (.iload 5) 2 := by decide +kernel
theorem d87_46 : dk b_87 46 (.iload_n 2) 1 := by decide +kernel
theorem d87_47 : dk b_87 47 (.iconst 1) 1 := by decide +kernel
theorem d87_48 : dk b_87 48 (.isub) 1 := by decide +kernel
theorem d87_49 : dk b_87 49 (.if_icmp .ge 39) 3 := by decide +kernel
theorem d87_52 : dk b_87 52 (.aload_n 0) 1 := by decide +kernel
theorem d87_53 : dk b_87 53 (.iload 5) 2 := by decide +kernel
theorem d87_55 : dk b_87 55 (.iinc 5 1) 3 := by decide +kernel
theorem d87_58 : dk b_87 58 (.invokestatic 71) 3 := by decide +kernel
theorem d87_61 : dk b_87 61 (.invokestatic 75) 3 := by decide +kernel
theorem d87_64 : dk b_87 64 (.ifCond .eq (-20)) 3 := by decide +kernel
theorem d87_88 : dk b_87 88 (.iload 4) 2 := by decide +kernel
theorem d87_90 : dk b_87 90 (.ireturn) 1 := by decide +kernel
abbrev r_rm87 : Room := { frames := 1, cells := 0, slots := 0, locals := 13 }
theorem ef_rm87 (m : MethodId) (a1 : Addr) : entryFrame m #[(.ref a1), (.int (0 : Int32)), (.int (21 : Int32)), (.int (0 : Int32))] 6 = mkF m 0 #[.val (.ref a1), .val (.int (0 : Int32)), .val (.int (21 : Int32)), .val (.int (0 : Int32)), .unset, .unset] [] := by first | (simp [entryFrame, mkF, argsToLocals, Value.category]; done) | rfl
def Q87 (Z : State) (a1 : Addr) (f1 : Nat → Int32) (h0 : Heap) (n0 : Nat) (v : Option Value) (h : Heap) (L : List Loc) : Prop := v = some (.int (21 : Int32)) ∧ L = [] ∧ h = h0
theorem rm87 (l : Launch) (Z : State) (a0 : Array Value) (hw : HWt Z a0) (ws : List Jvm.Cond) (a1 : Addr) (f1 : Nat → Int32) (h0 : Heap) (n0 : Nat) (Z0 : n0 ≤ h0.size) (V_a1 : Afn Z h0 a1 .byte (42 : Int32) (fun k => .int (f1 k))) (hz : ∀ j, j < 20 → f1 (2 * j + 1) = (0 : Int32)) (SA : SS2 Z) (SHi : SS3 Z) (SLo : SS4 Z) (O : Old Z n0 h0) :
    Con l Z y_87 jdk_52_method_11_code 6 (some .int) ws r_rm87 #[(.ref a1), (.int (0 : Int32)), (.int (21 : Int32)), (.int (0 : Int32))] h0 (Q87 Z a1 f1 h0 n0) := by
  refine Con.of2 (plainFor_of_name pn_rm77) ?_
  intro p e s m below meth c s₁ hZ e0 X0 hx hby hml hown hnm hret hlk PP hPP
  have N0 := Fr.nil n0
  refine Go.cast (ef_rm87 m a1) ?_
  have Zn : n0 ≤ h0.size := Z0
  obtain ⟨T1, X1, e1, st1⟩ := getS2 X0 hx hZ hown (host := "") (Or.inl (wk hw 414 rfl)) Via.refl e0 (SA.ext O.2) (g := (mkF m 0 #[.val (.ref a1), .val (.int (0 : Int32)), .val (.int (21 : Int32)), .val (.int (0 : Int32)), .unset, .unset] [])) rfl (hb hby d87_0)
  refine Go.st st1 ?_
  refine Go.st (fun t k => XS.ifYes X1.here hx rfl (pc0 := 3) (pc' := 19) rfl (hb hby d87_3) rfl (XT.i0_ne_t (by decide)) (by decide) (by decide) (XS.iloadN X1.here hx rfl (hb hby d87_19) rfl (XS.iloadN X1.here hx rfl (hb hby d87_20) rfl (XS.isub X1.here hx rfl (hb hby d87_21) rfl k)))) ?_
  show Go p.tables e below PP (T1.setTop (mkF m 22 #[.val (.ref a1), .val (.int (0 : Int32)), .val (.int (21 : Int32)), .val (.int (0 : Int32)), .unset, .unset] [(.int (21 : Int32))]))
  refine Go.st (fun t k => XS.istore X1.here hx rfl (hb hby d87_22) rfl (l' := #[.val (.ref a1), .val (.int (0 : Int32)), .val (.int (21 : Int32)), .val (.int (0 : Int32)), .val (.int (21 : Int32)), .unset]) rfl (XS.iloadN X1.here hx rfl (hb hby d87_24) rfl (XS.istore X1.here hx rfl (hb hby d87_25) rfl (l' := #[.val (.ref a1), .val (.int (0 : Int32)), .val (.int (21 : Int32)), .val (.int (0 : Int32)), .val (.int (21 : Int32)), .val (.int (0 : Int32))]) rfl (XS.iloadN X1.here hx rfl (hb hby d87_27) rfl (XS.ifYes X1.here hx rfl (pc0 := 28) (pc' := 44) rfl (hb hby d87_28) rfl (XT.i0_eq_t (by decide)) (by decide) (by decide) k))))) ?_
  show Go p.tables e below PP (T1.setTop (mkF m 44 #[.val (.ref a1), .val (.int (0 : Int32)), .val (.int (21 : Int32)), .val (.int (0 : Int32)), .val (.int (21 : Int32)), .val (.int (0 : Int32))] []))
  have J44 : ∀ (d2 : Nat) (T2 : State) (i : Int32), Stand p l e r_rm87 s m #[(.ref a1), (.int (0 : Int32)), (.int (21 : Int32)), (.int (0 : Int32))] below meth c T2 [] 0 0 → T2.heap = h0 → (¬ i < (0 : Int32) ∧ ¬ (20 : Int32) < i) → 20 - i.toNatClampNeg = d2 → Go p.tables e below PP (T2.setTop (mkF m 44 #[.val (.ref a1), .val (.int (0 : Int32)), .val (.int (21 : Int32)), .val (.int (0 : Int32)), .val (.int (21 : Int32)), .val (.int i)] [])) := by
    intro d2
    induction d2 using Nat.strongRecOn with
    | _ d2 ih2 =>
      intro T2 i X2 e2 hJ44 hd2
      show Go p.tables e below PP (T2.setTop (mkF m 44 #[.val (.ref a1), .val (.int (0 : Int32)), .val (.int (21 : Int32)), .val (.int (0 : Int32)), .val (.int (21 : Int32)), .val (.int i)] []))
      refine Go.st (fun t k => XS.iload X2.here hx rfl (hb hby d87_44) rfl (XS.iloadN X2.here hx rfl (hb hby d87_46) rfl (XS.iconst X2.here hx rfl (hb hby d87_47) (XS.isub X2.here hx rfl (hb hby d87_48) rfl k)))) ?_
      show Go p.tables e below PP (T2.setTop (mkF m 49 #[.val (.ref a1), .val (.int (0 : Int32)), .val (.int (21 : Int32)), .val (.int (0 : Int32)), .val (.int (21 : Int32)), .val (.int i)] [(.int (20 : Int32)), (.int i)]))
      by_cases hc49 : i < (20 : Int32)
      · --
        refine Go.st (fun t k => XS.icmpNo X2.here hx rfl (hb hby d87_49) rfl (XT.ii_ge_f hc49) (XS.aloadN X2.here hx rfl (hb hby d87_52) rfl rfl (XS.iload X2.here hx rfl (hb hby d87_53) rfl (XS.iinc X2.here hx rfl (hb hby d87_55) rfl (l' := #[.val (.ref a1), .val (.int (0 : Int32)), .val (.int (21 : Int32)), .val (.int (0 : Int32)), .val (.int (21 : Int32)), .val (.int (i + (1 : Int32)))]) rfl k)))) ?_
        obtain ⟨v3, T3, L3, X3, hQ3, st3⟩ := callSt X2 hx hZ (y := y_88) (argsL := [(.ref a1), (.int i)]) (rest := []) hown (wk hw 454 rfl) (wk hw 455 rfl) (wk hw 409 rfl) (wk hw 456 rfl) (by decide) (rm88 l Z a0 hw [] a1 i (42 : Int32) f1 h0 n0 Zn V_a1 (own_20 hJ44.1 hc49).2.2 SA SHi SLo O) e2 0 (by decide) (by decide) (by decide) (by decide) (g := (mkF m 58 #[.val (.ref a1), .val (.int (0 : Int32)), .val (.int (21 : Int32)), .val (.int (0 : Int32)), .val (.int (21 : Int32)), .val (.int (i + (1 : Int32)))] [(.int i), (.ref a1)])) rfl (by rw [hml]; rfl) (lenOf pd_11 rfl) rfl (Nat.le_of_eq rfl) (hb hby d87_58)
        obtain ⟨rfl, rfl, e3⟩ := hQ3
        rw [List.append_nil] at X3
        refine Go.st st3 ?_
        obtain ⟨v4, T4, L4, X4, hQ4, st4⟩ := callSt X3 hx hZ (y := y_89) (argsL := [(.int (gcF (f1 (2 * i.toNatClampNeg)) (f1 (2 * i.toNatClampNeg + 1))))]) (rest := []) hown (wk hw 457 rfl) (wk hw 458 rfl) (wk hw 459 rfl) (wk hw 460 rfl) (by decide) (rm89 l Z a0 hw [] (gcF (f1 (2 * i.toNatClampNeg)) (f1 (2 * i.toNatClampNeg + 1))) h0 n0 Zn (own_gc0 _ _ (hz _ (by have q := (own_inc _ _ hJ44.1 hc49).2.2.2; have e : (20 : Int32).toNatClampNeg = 20 := rfl; omega)))) e3 0 (by decide) (by decide) (by decide) (by decide) (g := (mkF m 61 #[.val (.ref a1), .val (.int (0 : Int32)), .val (.int (21 : Int32)), .val (.int (0 : Int32)), .val (.int (21 : Int32)), .val (.int (i + (1 : Int32)))] [(.int (gcF (f1 (2 * i.toNatClampNeg)) (f1 (2 * i.toNatClampNeg + 1))))])) rfl (by rw [hml]; rfl) (lenOf pd_6 rfl) rfl (Nat.le_of_eq rfl) (hb hby d87_61)
        obtain ⟨rfl, rfl, e4⟩ := hQ4
        rw [List.append_nil] at X4
        refine Go.st st4 ?_
        refine Go.st (fun t k => XS.ifYes X4.here hx rfl (pc0 := 64) (pc' := 44) rfl (hb hby d87_64) rfl (XT.i0_eq_t (by decide)) (by decide) (by decide) k) ?_
        show Go p.tables e below PP (T4.setTop (mkF m 44 #[.val (.ref a1), .val (.int (0 : Int32)), .val (.int (21 : Int32)), .val (.int (0 : Int32)), .val (.int (21 : Int32)), .val (.int (i + (1 : Int32)))] []))
        exact ih2 _ (by have q := own_inc _ _ hJ44.1 hc49; have e : (20 : Int32).toNatClampNeg = 20 := rfl; omega) _ _ X4 e4 (⟨(own_inc _ _ hJ44.1 hc49).1, (own_inc _ _ hJ44.1 hc49).2.1⟩) rfl
      · --
        refine Go.st (fun t k => XS.icmpYes X2.here hx rfl (pc0 := 49) (pc' := 88) rfl (hb hby d87_49) rfl (XT.ii_ge_t hc49) (by decide) (by decide) (XS.iload X2.here hx rfl (hb hby d87_88) rfl k)) ?_
        show Go p.tables e below PP (T2.setTop (mkF m 90 #[.val (.ref a1), .val (.int (0 : Int32)), .val (.int (21 : Int32)), .val (.int (0 : Int32)), .val (.int (21 : Int32)), .val (.int i)] [(.int (21 : Int32))]))
        rw [hPP]
        refine endI X2 hx hlk hret (hb hby d87_90) ?_ (by decide) (by decide)
        rw [e2]
        exact ⟨rfl, rfl, rfl⟩
  show Go p.tables e below PP (T1.setTop (mkF m 44 #[.val (.ref a1), .val (.int (0 : Int32)), .val (.int (21 : Int32)), .val (.int (0 : Int32)), .val (.int (21 : Int32)), .val (.int (0 : Int32))] []))
  exact J44 _ _ _ X1 e1 (⟨by decide, by decide⟩) rfl
abbrev b_86 : ByteArray := jdk_52_method_12_code
theorem d86_0 : dk b_86 0 (.aload_n 0) 1 := by decide +kernel
theorem d86_1 : dk b_86 1 (.iload_n 1) 1 := by decide +kernel
theorem d86_2 : dk b_86 2 (.iload_n 2) 1 := by decide +kernel
theorem d86_3 : dk b_86 3 (.iconst 0) 1 := by decide +kernel
theorem d86_4 : dk b_86 4 (.invokestatic 100) 3 := by decide +kernel
theorem d86_7 : dk b_86 7 (.ireturn) 1 := by decide +kernel
abbrev r_rm86 : Room := { frames := 2, cells := 0, slots := 0, locals := 30 }
theorem ef_rm86 (m : MethodId) (a1 : Addr) : entryFrame m #[(.ref a1), (.int (0 : Int32)), (.int (21 : Int32))] 3 = mkF m 0 #[.val (.ref a1), .val (.int (0 : Int32)), .val (.int (21 : Int32))] [] := by first | (simp [entryFrame, mkF, argsToLocals, Value.category]; done) | rfl
def Q86 (Z : State) (a1 : Addr) (f1 : Nat → Int32) (h0 : Heap) (n0 : Nat) (v : Option Value) (h : Heap) (L : List Loc) : Prop := v = some (.int (21 : Int32)) ∧ L = [] ∧ h = h0
theorem pd_31 : parseMethodDescriptor "([BIIZ)I" = some ⟨[(.array .byte), .int, .int, .boolean], some .int⟩ := by decide +kernel
theorem rm86 (l : Launch) (Z : State) (a0 : Array Value) (hw : HWt Z a0) (ws : List Jvm.Cond) (a1 : Addr) (f1 : Nat → Int32) (h0 : Heap) (n0 : Nat) (Z0 : n0 ≤ h0.size) (V_a1 : Afn Z h0 a1 .byte (42 : Int32) (fun k => .int (f1 k))) (hz : ∀ j, j < 20 → f1 (2 * j + 1) = (0 : Int32)) (SA : SS2 Z) (SHi : SS3 Z) (SLo : SS4 Z) (O : Old Z n0 h0) :
    Con l Z y_86 jdk_52_method_12_code 3 (some .int) ws r_rm86 #[(.ref a1), (.int (0 : Int32)), (.int (21 : Int32))] h0 (Q86 Z a1 f1 h0 n0) := by
  refine Con.of2 (plainFor_of_name pn_rm77) ?_
  intro p e s m below meth c s₁ hZ e0 X0 hx hby hml hown hnm hret hlk PP hPP
  have N0 := Fr.nil n0
  refine Go.cast (ef_rm86 m a1) ?_
  have Zn : n0 ≤ h0.size := Z0
  show Go p.tables e below PP (s₁.setTop (mkF m 0 #[.val (.ref a1), .val (.int (0 : Int32)), .val (.int (21 : Int32))] []))
  refine Go.st (fun t k => XS.aloadN X0.here hx rfl (hb hby d86_0) rfl rfl (XS.iloadN X0.here hx rfl (hb hby d86_1) rfl (XS.iloadN X0.here hx rfl (hb hby d86_2) rfl (XS.iconst X0.here hx rfl (hb hby d86_3) k)))) ?_
  obtain ⟨v1, T1, L1, X1, hQ1, st1⟩ := callSt X0 hx hZ (y := y_87) (argsL := [(.ref a1), (.int (0 : Int32)), (.int (21 : Int32)), (.int (0 : Int32))]) (rest := []) hown (wk hw 451 rfl) (wk hw 452 rfl) (wk hw 409 rfl) (wk hw 453 rfl) (by decide) (rm87 l Z a0 hw [] a1 f1 h0 n0 Zn V_a1 hz SA SHi SLo O) e0 0 (by decide) (by decide) (by decide) (by decide) (g := (mkF m 4 #[.val (.ref a1), .val (.int (0 : Int32)), .val (.int (21 : Int32))] [(.int (0 : Int32)), (.int (21 : Int32)), (.int (0 : Int32)), (.ref a1)])) rfl (by rw [hml]; rfl) (lenOf pd_31 rfl) rfl (Nat.le_of_eq rfl) (hb hby d86_4)
  obtain ⟨rfl, rfl, e1⟩ := hQ1
  rw [List.append_nil] at X1
  refine Go.st st1 ?_
  show Go p.tables e below PP (T1.setTop (mkF m 7 #[.val (.ref a1), .val (.int (0 : Int32)), .val (.int (21 : Int32))] [(.int (21 : Int32))]))
  rw [hPP]
  refine endI X1 hx hlk hret (hb hby d86_7) ?_ (by decide) (by decide)
  rw [e1]
  exact ⟨rfl, rfl, rfl⟩
abbrev b_46 : ByteArray := jdk_42_method_59_code
theorem d46_0 : dk b_46 0 (.iload_n 1) 1 := by decide +kernel
theorem d46_1 : dk b_46 1 (.iload_n 2) 1 := by decide +kernel
theorem d46_2 : dk b_46 2 (.aload_n 0) 1 := by decide +kernel
theorem d46_3 : dk b_46 3 (.invokevirtual 505) 3 := by decide +kernel
theorem d46_6 : dk b_46 6 (.invokestatic 511) 3 := by decide +kernel
theorem d46_9 : dk b_46 9 (.pop) 1 := by decide +kernel
theorem d46_10 : dk b_46 10 (.aload_n 0) 1 := by decide +kernel
theorem d46_11 : dk b_46 11 (.invokevirtual 492) 3 := by decide +kernel
theorem d46_14 : dk b_46 14 (.ifCond .eq 7) 3 := by decide +kernel
theorem d46_17 : dk b_46 17 (.iload_n 2) 1 := by decide +kernel
theorem d46_18 : dk b_46 18 (.iload_n 1) 1 := by decide +kernel
theorem d46_19 : dk b_46 19 (.isub) 1 := by decide +kernel
theorem d46_20 : dk b_46 20 (.ireturn) 1 := by decide +kernel
theorem d46_21 : dk b_46 21 (.aload_n 0) 1 := by decide +kernel
theorem d46_22 : dk b_46 22 (.getfield 9) 3 := by decide +kernel
theorem d46_25 : dk b_46 25 (.iload_n 1) 1 := by decide +kernel
theorem d46_26 : dk b_46 26 (.iload_n 2) 1 := by decide +kernel
theorem d46_27 : dk b_46 27 (.invokestatic 514) 3 := by decide +kernel
theorem d46_30 : dk b_46 30 (.ireturn) 1 := by decide +kernel
abbrev r_rm46 : Room := { frames := 2, cells := 0, slots := 0, locals := 29 }
def Q46 (Z : State) (a1 : Addr) (t1 : Addr) (f1 : Nat → Int32) (zc : Int32) (h0 : Heap) (n0 : Nat) (v : Option Value) (h : Heap) (L : List Loc) : Prop := v = some (.int (21 : Int32)) ∧ L = [] ∧ h = h0
theorem rm46 (l : Launch) (Z : State) (a0 : Array Value) (hw : HWt Z a0) (ws : List Jvm.Cond) (a1 : Addr) (t1 : Addr) (f1 : Nat → Int32) (zc : Int32) (h0 : Heap) (n0 : Nat) (Z0 : n0 ≤ h0.size) (zab : Fld Z h0 a1 k_14 "value" "[B" (.ref t1)) (zaa : Fld Z h0 a1 k_14 "coder" "B" (.int (0 : Int32))) (V_t1 : Afn Z h0 t1 .byte (21 : Int32) (fun k => .int (f1 k))) (E_a1 : Exa Z h0 a1 k_14) (SC : SS0 Z zc) (hzc : ¬ zc = (0 : Int32)) (O : Old Z n0 h0) :
    Con l Z y_46 jdk_42_method_59_code 3 (some .int) ws r_rm46 #[(.ref a1), (.int (0 : Int32)), (.int (21 : Int32))] h0 (Q46 Z a1 t1 f1 zc h0 n0) := by
  refine Con.of2 (plainFor_of_name pn_rm18) ?_
  intro p e s m below meth c s₁ hZ e0 X0 hx hby hml hown hnm hret hlk PP hPP
  have N0 := Fr.nil n0
  refine Go.cast (ef_rm86 m a1) ?_
  have Zn : n0 ≤ h0.size := Z0
  show Go p.tables e below PP (s₁.setTop (mkF m 0 #[.val (.ref a1), .val (.int (0 : Int32)), .val (.int (21 : Int32))] []))
  refine Go.st (fun t k => XS.iloadN X0.here hx rfl (hb hby d46_0) rfl (XS.iloadN X0.here hx rfl (hb hby d46_1) rfl (XS.aloadN X0.here hx rfl (hb hby d46_2) rfl rfl k))) ?_
  obtain ⟨v1, T1, L1, X1, hQ1, st1⟩ := callVi X0 hx hZ (C := k_14) (y := y_17) (z := y_17) (a := a1) (argsL := []) (rest := [(.int (21 : Int32)), (.int (0 : Int32))]) hown (wk hw 85 rfl) (wk hw 86 rfl) (notFace_of_selects (args := #[]) (mvT hZ (wk hw 88 rfl))) (wk hw 88 rfl) (wk hw 87 rfl) (wk hw 14 rfl) (wk hw 89 rfl) (by decide) rfl E_a1 (rm17 l Z a0 hw [] a1 t1 (21 : Int32) f1 zc h0 n0 Zn zab zaa V_t1 E_a1 SC hzc O) e0 2 (by decide) (by decide) (by decide) (by decide) (g := (mkF m 3 #[.val (.ref a1), .val (.int (0 : Int32)), .val (.int (21 : Int32))] [(.ref a1), (.int (21 : Int32)), (.int (0 : Int32))])) rfl (by rw [hml]; rfl) (lenOf pd_5 rfl) rfl (Nat.le_of_eq rfl) (hb hby d46_3)
  obtain ⟨rfl, rfl, e1⟩ := hQ1
  rw [List.append_nil] at X1
  refine Go.st st1 ?_
  obtain ⟨v2, T2, L2, X2, hQ2, st2⟩ := callSt X1 hx hZ (y := y_47) (argsL := [(.int (0 : Int32)), (.int (21 : Int32)), (.int (21 : Int32))]) (rest := []) hown (wk hw 243 rfl) (wk hw 244 rfl) (wk hw 63 rfl) (wk hw 245 rfl) (by decide) (rm47 l Z a0 hw []  h0 n0 Zn) e1 0 (by decide) (by decide) (by decide) (by decide) (g := (mkF m 6 #[.val (.ref a1), .val (.int (0 : Int32)), .val (.int (21 : Int32))] [(.int (21 : Int32)), (.int (21 : Int32)), (.int (0 : Int32))])) rfl (by rw [hml]; rfl) (lenOf pd_16 rfl) rfl (Nat.le_of_eq rfl) (hb hby d46_6)
  obtain ⟨rfl, rfl, e2⟩ := hQ2
  rw [List.append_nil] at X2
  refine Go.st st2 ?_
  refine Go.st (fun t k => XS.pop X2.here hx rfl (hb hby d46_9) rfl rfl (XS.aloadN X2.here hx rfl (hb hby d46_10) rfl rfl k)) ?_
  obtain ⟨v3, T3, L3, X3, hQ3, st3⟩ := callVi X2 hx hZ (C := k_14) (y := y_16) (z := y_16) (a := a1) (argsL := []) (rest := []) hown (wk hw 80 rfl) (wk hw 81 rfl) (notFace_of_selects (args := #[]) (mvT hZ (wk hw 83 rfl))) (wk hw 83 rfl) (wk hw 82 rfl) (wk hw 14 rfl) (wk hw 84 rfl) (by decide) rfl E_a1 (rm16 l Z a0 hw [] a1 zc h0 n0 Zn zaa SC hzc O) e2 0 (by decide) (by decide) (by decide) (by decide) (g := (mkF m 11 #[.val (.ref a1), .val (.int (0 : Int32)), .val (.int (21 : Int32))] [(.ref a1)])) rfl (by rw [hml]; rfl) (lenOf pd_4 rfl) rfl (Nat.le_of_eq rfl) (hb hby d46_11)
  obtain ⟨rfl, rfl, e3⟩ := hQ3
  rw [List.append_nil] at X3
  refine Go.st st3 ?_
  refine Go.st (fun t k => XS.ifNo X3.here hx rfl (hb hby d46_14) rfl (XT.i0_eq_f (by decide)) (XS.iloadN X3.here hx rfl (hb hby d46_17) rfl (XS.iloadN X3.here hx rfl (hb hby d46_18) rfl (XS.isub X3.here hx rfl (hb hby d46_19) rfl k)))) ?_
  show Go p.tables e below PP (T3.setTop (mkF m 20 #[.val (.ref a1), .val (.int (0 : Int32)), .val (.int (21 : Int32))] [(.int (21 : Int32))]))
  rw [hPP]
  refine endI X3 hx hlk hret (hb hby d46_20) ?_ (by decide) (by decide)
  rw [e3]
  exact ⟨rfl, rfl, rfl⟩
abbrev r_rm46u : Room := { frames := 3, cells := 0, slots := 0, locals := 44 }
def Q46u (Z : State) (a1 : Addr) (t1 : Addr) (f1 : Nat → Int32) (zc : Int32) (h0 : Heap) (n0 : Nat) (v : Option Value) (h : Heap) (L : List Loc) : Prop := v = some (.int (21 : Int32)) ∧ L = [] ∧ h = h0
theorem pd_32 : parseMethodDescriptor "([BII)I" = some ⟨[(.array .byte), .int, .int], some .int⟩ := by decide +kernel
theorem rm46u (l : Launch) (Z : State) (a0 : Array Value) (hw : HWt Z a0) (ws : List Jvm.Cond) (a1 : Addr) (t1 : Addr) (f1 : Nat → Int32) (zc : Int32) (h0 : Heap) (n0 : Nat) (Z0 : n0 ≤ h0.size) (zab : Fld Z h0 a1 k_14 "value" "[B" (.ref t1)) (zaa : Fld Z h0 a1 k_14 "coder" "B" (.int (1 : Int32))) (V_t1 : Afn Z h0 t1 .byte (42 : Int32) (fun k => .int (f1 k))) (E_a1 : Exa Z h0 a1 k_14) (SC : SS0 Z zc) (hzc : ¬ zc = (0 : Int32)) (O : Old Z n0 h0) (SA : SS2 Z) (SHi : SS3 Z) (SLo : SS4 Z) (hz : ∀ j, j < 20 → f1 (2 * j + 1) = (0 : Int32)) :
    Con l Z y_46 jdk_42_method_59_code 3 (some .int) ws r_rm46u #[(.ref a1), (.int (0 : Int32)), (.int (21 : Int32))] h0 (Q46u Z a1 t1 f1 zc h0 n0) := by
  refine Con.of2 (plainFor_of_name pn_rm18) ?_
  intro p e s m below meth c s₁ hZ e0 X0 hx hby hml hown hnm hret hlk PP hPP
  have N0 := Fr.nil n0
  refine Go.cast (ef_rm86 m a1) ?_
  have Zn : n0 ≤ h0.size := Z0
  show Go p.tables e below PP (s₁.setTop (mkF m 0 #[.val (.ref a1), .val (.int (0 : Int32)), .val (.int (21 : Int32))] []))
  refine Go.st (fun t k => XS.iloadN X0.here hx rfl (hb hby d46_0) rfl (XS.iloadN X0.here hx rfl (hb hby d46_1) rfl (XS.aloadN X0.here hx rfl (hb hby d46_2) rfl rfl k))) ?_
  obtain ⟨v1, T1, L1, X1, hQ1, st1⟩ := callVi X0 hx hZ (C := k_14) (y := y_17) (z := y_17) (a := a1) (argsL := []) (rest := [(.int (21 : Int32)), (.int (0 : Int32))]) hown (wk hw 85 rfl) (wk hw 86 rfl) (notFace_of_selects (args := #[]) (mvT hZ (wk hw 88 rfl))) (wk hw 88 rfl) (wk hw 87 rfl) (wk hw 14 rfl) (wk hw 89 rfl) (by decide) rfl E_a1 (rm17u_42 l Z a0 hw [] a1 t1 f1 zc h0 n0 Zn zab zaa V_t1 E_a1 SC hzc O) e0 2 (by decide) (by decide) (by decide) (by decide) (g := (mkF m 3 #[.val (.ref a1), .val (.int (0 : Int32)), .val (.int (21 : Int32))] [(.ref a1), (.int (21 : Int32)), (.int (0 : Int32))])) rfl (by rw [hml]; rfl) (lenOf pd_5 rfl) rfl (Nat.le_of_eq rfl) (hb hby d46_3)
  obtain ⟨rfl, rfl, e1⟩ := hQ1
  rw [List.append_nil] at X1
  refine Go.st st1 ?_
  obtain ⟨v2, T2, L2, X2, hQ2, st2⟩ := callSt X1 hx hZ (y := y_47) (argsL := [(.int (0 : Int32)), (.int (21 : Int32)), (.int (21 : Int32))]) (rest := []) hown (wk hw 243 rfl) (wk hw 244 rfl) (wk hw 63 rfl) (wk hw 245 rfl) (by decide) (rm47 l Z a0 hw []  h0 n0 Zn) e1 0 (by decide) (by decide) (by decide) (by decide) (g := (mkF m 6 #[.val (.ref a1), .val (.int (0 : Int32)), .val (.int (21 : Int32))] [(.int (21 : Int32)), (.int (21 : Int32)), (.int (0 : Int32))])) rfl (by rw [hml]; rfl) (lenOf pd_16 rfl) rfl (Nat.le_of_eq rfl) (hb hby d46_6)
  obtain ⟨rfl, rfl, e2⟩ := hQ2
  rw [List.append_nil] at X2
  refine Go.st st2 ?_
  refine Go.st (fun t k => XS.pop X2.here hx rfl (hb hby d46_9) rfl rfl (XS.aloadN X2.here hx rfl (hb hby d46_10) rfl rfl k)) ?_
  obtain ⟨v3, T3, L3, X3, hQ3, st3⟩ := callVi X2 hx hZ (C := k_14) (y := y_16) (z := y_16) (a := a1) (argsL := []) (rest := []) hown (wk hw 80 rfl) (wk hw 81 rfl) (notFace_of_selects (args := #[]) (mvT hZ (wk hw 83 rfl))) (wk hw 83 rfl) (wk hw 82 rfl) (wk hw 14 rfl) (wk hw 84 rfl) (by decide) rfl E_a1 (rm16u l Z a0 hw [] a1 zc h0 n0 Zn zaa SC hzc O) e2 0 (by decide) (by decide) (by decide) (by decide) (g := (mkF m 11 #[.val (.ref a1), .val (.int (0 : Int32)), .val (.int (21 : Int32))] [(.ref a1)])) rfl (by rw [hml]; rfl) (lenOf pd_4 rfl) rfl (Nat.le_of_eq rfl) (hb hby d46_11)
  obtain ⟨rfl, rfl, e3⟩ := hQ3
  rw [List.append_nil] at X3
  refine Go.st st3 ?_
  refine Go.st (fun t k => XS.ifYes X3.here hx rfl (pc0 := 14) (pc' := 21) rfl (hb hby d46_14) rfl (XT.i0_eq_t (by decide)) (by decide) (by decide) (XS.aloadN X3.here hx rfl (hb hby d46_21) rfl rfl k)) ?_
  obtain ⟨T4, X4, e4, st4⟩ := getF X3 hx hZ hown (host := "") (Or.inl (wk hw 33 rfl)) Via.refl e3 zab (g := (mkF m 22 #[.val (.ref a1), .val (.int (0 : Int32)), .val (.int (21 : Int32))] [(.ref a1)])) rfl rfl (hb hby d46_22)
  refine Go.st st4 ?_
  refine Go.st (fun t k => XS.iloadN X4.here hx rfl (hb hby d46_25) rfl (XS.iloadN X4.here hx rfl (hb hby d46_26) rfl k)) ?_
  obtain ⟨v5, T5, L5, X5, hQ5, st5⟩ := callSt X4 hx hZ (y := y_86) (argsL := [(.ref t1), (.int (0 : Int32)), (.int (21 : Int32))]) (rest := []) hown (wk hw 448 rfl) (wk hw 449 rfl) (wk hw 409 rfl) (wk hw 450 rfl) (by decide) (rm86 l Z a0 hw [] t1 f1 h0 n0 Zn V_t1 hz SA SHi SLo O) e4 0 (by decide) (by decide) (by decide) (by decide) (g := (mkF m 27 #[.val (.ref a1), .val (.int (0 : Int32)), .val (.int (21 : Int32))] [(.int (21 : Int32)), (.int (0 : Int32)), (.ref t1)])) rfl (by rw [hml]; rfl) (lenOf pd_32 rfl) rfl (Nat.le_of_eq rfl) (hb hby d46_27)
  obtain ⟨rfl, rfl, e5⟩ := hQ5
  rw [List.append_nil] at X5
  refine Go.st st5 ?_
  show Go p.tables e below PP (T5.setTop (mkF m 30 #[.val (.ref a1), .val (.int (0 : Int32)), .val (.int (21 : Int32))] [(.int (21 : Int32))]))
  rw [hPP]
  refine endI X5 hx hlk hret (hb hby d46_30) ?_ (by decide) (by decide)
  rw [e5]
  exact ⟨rfl, rfl, rfl⟩
abbrev b_11 : ByteArray := prog_27_method_3_code
theorem d11_0 : dk b_11 0 (.aload_n 1) 1 := by decide +kernel
theorem d11_1 : dk b_11 1 (.aload_n 0) 1 := by decide +kernel
theorem d11_2 : dk b_11 2 (.getfield 13) 3 := by decide +kernel
theorem d11_5 : dk b_11 5 (.invokestatic 25) 3 := by decide +kernel
theorem d11_8 : dk b_11 8 (.pop) 1 := by decide +kernel
theorem d11_9 : dk b_11 9 (.aload_n 1) 1 := by decide +kernel
theorem d11_10 : dk b_11 10 (.invokevirtual 31) 3 := by decide +kernel
theorem d11_13 : dk b_11 13 (.ifCond .ne 12) 3 := by decide +kernel
theorem d11_16 : dk b_11 16 (.aload_n 1) 1 := by decide +kernel
theorem d11_17 : dk b_11 17 (.bipush 47) 2 := by decide +kernel
theorem d11_19 : dk b_11 19 (.invokevirtual 43) 3 := by decide +kernel
theorem d11_22 : dk b_11 22 (.ifCond .lt 37) 3 := by decide +kernel
theorem d11_59 : dk b_11 59 (.return_) 1 := by decide +kernel
abbrev r_rm11 : Room := { frames := 4, cells := 0, slots := 0, locals := 59 }
theorem pn_rm11 : plainName "com/example/crossname/crossname/access/ResourceNameForm" = true := by first | (simp [plainName, overriddenIn]; done) | decide +kernel
theorem ef_rm11 (m : MethodId) (fm : Addr) (a2 : Addr) : entryFrame m #[(.ref fm), (.ref a2)] 2 = mkF m 0 #[.val (.ref fm), .val (.ref a2)] [] := by first | (simp [entryFrame, mkF, argsToLocals, Value.category]; done) | rfl
def Q11 (Z : State) (fm : Addr) (a2 : Addr) (pl : Addr) (t2 : Addr) (f2 : Nat → Int32) (zc : Int32) (h0 : Heap) (n0 : Nat) (v : Option Value) (h : Heap) (L : List Loc) : Prop := v = none ∧ L = [] ∧ h = h0
theorem pd_33 : parseMethodDescriptor "(Ljava/lang/Object;Ljava/lang/String;)Ljava/lang/Object;" = some ⟨[(.object "java/lang/Object"), (.object "java/lang/String")], some (.object "java/lang/Object")⟩ := by decide +kernel
theorem rm11 (l : Launch) (Z : State) (a0 : Array Value) (hw : HWt Z a0) (ws : List Jvm.Cond) (fm : Addr) (a2 : Addr) (pl : Addr) (t2 : Addr) (f2 : Nat → Int32) (zc : Int32) (h0 : Heap) (n0 : Nat) (Z0 : n0 ≤ h0.size) (FL : Fld Z h0 fm k_1 "parentLabel" "Ljava/lang/String;" (.ref pl)) (zad : Fld Z h0 a2 k_14 "value" "[B" (.ref t2)) (zae : Fld Z h0 a2 k_14 "coder" "B" (.int (0 : Int32))) (V_t2 : Afn Z h0 t2 .byte (1 : Int32) (fun k => .int (f2 k))) (E_a2 : Exa Z h0 a2 k_14) (hds : ¬ f2 0 = (47 : Int32)) (SC : SS0 Z zc) (hzc : ¬ zc = (0 : Int32)) (O : Old Z n0 h0) :
    Con l Z y_11 prog_27_method_3_code 2 none ws r_rm11 #[(.ref fm), (.ref a2)] h0 (Q11 Z fm a2 pl t2 f2 zc h0 n0) := by
  refine Con.of2 (plainFor_of_name pn_rm11) ?_
  intro p e s m below meth c s₁ hZ e0 X0 hx hby hml hown hnm hret hlk PP hPP
  have N0 := Fr.nil n0
  refine Go.cast (ef_rm11 m fm a2) ?_
  have Zn : n0 ≤ h0.size := Z0
  show Go p.tables e below PP (s₁.setTop (mkF m 0 #[.val (.ref fm), .val (.ref a2)] []))
  refine Go.st (fun t k => XS.aloadN X0.here hx rfl (hb hby d11_0) rfl rfl (XS.aloadN X0.here hx rfl (hb hby d11_1) rfl rfl k)) ?_
  obtain ⟨T1, X1, e1, st1⟩ := getF X0 hx hZ hown (host := "") (Or.inl (wk hw 59 rfl)) Via.refl e0 FL (g := (mkF m 2 #[.val (.ref fm), .val (.ref a2)] [(.ref fm), (.ref a2)])) rfl rfl (hb hby d11_2)
  refine Go.st st1 ?_
  obtain ⟨v2, T2, L2, X2, hQ2, st2⟩ := callSt X1 hx hZ (y := y_12) (argsL := [(.ref a2), (.ref pl)]) (rest := []) hown (wk hw 61 rfl) (wk hw 62 rfl) (wk hw 63 rfl) (wk hw 64 rfl) (by decide) (rm12 l Z a0 hw [] a2 pl h0 n0 Zn) e1 0 (by decide) (by decide) (by decide) (by decide) (g := (mkF m 5 #[.val (.ref fm), .val (.ref a2)] [(.ref pl), (.ref a2)])) rfl (by rw [hml]; rfl) (lenOf pd_33 rfl) rfl (Nat.le_of_eq rfl) (hb hby d11_5)
  obtain ⟨rfl, rfl, e2⟩ := hQ2
  rw [List.append_nil] at X2
  refine Go.st st2 ?_
  refine Go.st (fun t k => XS.pop X2.here hx rfl (hb hby d11_8) rfl rfl (XS.aloadN X2.here hx rfl (hb hby d11_9) rfl rfl k)) ?_
  obtain ⟨v3, T3, L3, X3, hQ3, st3⟩ := callVi X2 hx hZ (C := k_14) (y := y_13) (z := y_13) (a := a2) (argsL := []) (rest := []) hown (wk hw 65 rfl) (wk hw 66 rfl) (notFace_of_selects (args := #[]) (mvT hZ (wk hw 68 rfl))) (wk hw 68 rfl) (wk hw 67 rfl) (wk hw 14 rfl) (wk hw 69 rfl) (by decide) rfl E_a2 (rm13_1 l Z a0 hw [] a2 t2 f2 h0 n0 Zn zad V_t2) e2 0 (by decide) (by decide) (by decide) (by decide) (g := (mkF m 10 #[.val (.ref fm), .val (.ref a2)] [(.ref a2)])) rfl (by rw [hml]; rfl) (lenOf pd_4 rfl) rfl (Nat.le_of_eq rfl) (hb hby d11_10)
  obtain ⟨rfl, rfl, e3⟩ := hQ3
  rw [List.append_nil] at X3
  refine Go.st st3 ?_
  refine Go.st (fun t k => XS.ifNo X3.here hx rfl (hb hby d11_13) rfl (XT.i0_ne_f (by decide)) (XS.aloadN X3.here hx rfl (hb hby d11_16) rfl rfl (XS.bipush X3.here hx rfl (hb hby d11_17) k))) ?_
  obtain ⟨v4, T4, L4, X4, hQ4, st4⟩ := callVi X3 hx hZ (C := k_14) (y := y_14) (z := y_14) (a := a2) (argsL := [(.int (47 : Int32))]) (rest := []) hown (wk hw 70 rfl) (wk hw 71 rfl) (notFace_of_selects (args := #[]) (mvT hZ (wk hw 73 rfl))) (wk hw 73 rfl) (wk hw 72 rfl) (wk hw 14 rfl) (wk hw 74 rfl) (by decide) rfl E_a2 (rm14 l Z a0 hw [] a2 (47 : Int32) t2 (1 : Int32) f2 zc h0 n0 Zn zad zae V_t2 E_a2 SC hzc O (by decide)) e3 0 (by decide) (by decide) (by decide) (by decide) (g := (mkF m 19 #[.val (.ref fm), .val (.ref a2)] [(.int (47 : Int32)), (.ref a2)])) rfl (by rw [hml]; rfl) (lenOf pd_19 rfl) rfl (Nat.le_of_eq rfl) (hb hby d11_19)
  obtain ⟨rfl, rfl, e4⟩ := hQ4
  rw [List.append_nil] at X4
  refine Go.st st4 ?_
  refine Go.st (fun t k => XS.ifYes X4.here hx rfl (pc0 := 22) (pc' := 59) rfl (hb hby d11_22) rfl (XT.i0_lt_t (own_ds hds)) (by decide) (by decide) k) ?_
  show Go p.tables e below PP (T4.setTop (mkF m 59 #[.val (.ref fm), .val (.ref a2)] []))
  rw [hPP]
  refine endV X4 hx hlk hret (hb hby d11_59) ?_ (by decide) (by decide)
  rw [e4]
  exact ⟨rfl, rfl, rfl⟩
abbrev b_10 : ByteArray := prog_27_method_2_code
theorem d10_0 : dk b_10 0 (.aload_n 0) 1 := by decide +kernel
theorem d10_1 : dk b_10 1 (.aload_n 1) 1 := by decide +kernel
theorem d10_2 : dk b_10 2 (.invokevirtual 19) 3 := by decide +kernel
theorem d10_5 : dk b_10 5 (.aload_n 2) 1 := by decide +kernel
theorem d10_6 : dk b_10 6 (.ldc 23) 2 := by decide +kernel
theorem d10_8 : dk b_10 8 (.invokestatic 25) 3 := by decide +kernel
theorem d10_11 : dk b_10 11 (.pop) 1 := by decide +kernel
theorem d10_12 : dk b_10 12 (.aload_n 2) 1 := by decide +kernel
theorem d10_13 : dk b_10 13 (.invokevirtual 31) 3 := by decide +kernel
theorem d10_16 : dk b_10 16 (.ifCond .eq 13) 3 := by decide +kernel
theorem d10_29 : dk b_10 29 (.return_) 1 := by decide +kernel
abbrev r_rm10 : Room := { frames := 5, cells := 2, slots := 12, locals := 72 }
theorem ef_rm10 (m : MethodId) (fm : Addr) (a2 : Addr) (a3 : Addr) : entryFrame m #[(.ref fm), (.ref a2), (.ref a3)] 3 = mkF m 0 #[.val (.ref fm), .val (.ref a2), .val (.ref a3)] [] := by first | (simp [entryFrame, mkF, argsToLocals, Value.category]; done) | rfl
def Q10 (Z : State) (fm : Addr) (a2 : Addr) (a3 : Addr) (pl : Addr) (t2 : Addr) (f2 : Nat → Int32) (t3 : Addr) (f3 : Nat → Int32) (zc : Int32) (h0 : Heap) (n0 : Nat) (v : Option Value) (h : Heap) (L : List Loc) : Prop := v = none ∧ Fr n0 L ∧ Keep h0 h []
theorem rm10 (l : Launch) (Z : State) (a0 : Array Value) (hw : HWt Z a0) (ws : List Jvm.Cond) (fm : Addr) (a2 : Addr) (a3 : Addr) (pl : Addr) (t2 : Addr) (f2 : Nat → Int32) (t3 : Addr) (f3 : Nat → Int32) (zc : Int32) (h0 : Heap) (n0 : Nat) (Z0 : n0 ≤ h0.size) (hEL : EW Z a0 consts_1) (FE : Exa Z h0 fm k_1) (FL : Fld Z h0 fm k_1 "parentLabel" "Ljava/lang/String;" (.ref pl)) (zad : Fld Z h0 a2 k_14 "value" "[B" (.ref t2)) (zae : Fld Z h0 a2 k_14 "coder" "B" (.int (0 : Int32))) (V_t2 : Afn Z h0 t2 .byte (1 : Int32) (fun k => .int (f2 k))) (E_a2 : Exa Z h0 a2 k_14) (zaf : Fld Z h0 a3 k_14 "value" "[B" (.ref t3)) (zah : Fld Z h0 a3 k_14 "coder" "B" (.int (0 : Int32))) (V_t3 : Afn Z h0 t3 .byte (1 : Int32) (fun k => .int (f3 k))) (E_a3 : Exa Z h0 a3 k_14) (hds : ¬ f2 0 = (47 : Int32)) (SC : SS0 Z zc) (hzc : ¬ zc = (0 : Int32)) (O : Old Z n0 h0) :
    ConH l Z consts_1 y_10 prog_27_method_2_code 3 none ws r_rm10 #[(.ref fm), (.ref a2), (.ref a3)] h0 (Q10 Z fm a2 a3 pl t2 f2 t3 f3 zc h0 n0) := by
  refine ConH.of (plainFor_of_name pn_rm11) ?_
  intro p e s m below meth c s₁ vm0 k0 hZ e0 X0 hx hby hml hown hnm hret hlk hS hk CH CR
  have N0 : Fr n0 [] := Fr.nil n0
  obtain ⟨PP, hPP⟩ : ∃ P, P = FineW Z consts_1 s below (Q10 Z fm a2 a3 pl t2 f2 t3 f3 zc h0 n0) r_rm10.cells r_rm10.slots := ⟨_, rfl⟩
  rw [← hPP]
  refine Go.cast (ef_rm10 m fm a2 a3) ?_
  have K : Keep h0 h0 [] := Keep.refl h0 _
  have Zn : n0 ≤ h0.size := Z0
  show Go p.tables e below PP (s₁.setTop (mkF m 0 #[.val (.ref fm), .val (.ref a2), .val (.ref a3)] []))
  refine Go.st (fun t k => XS.aloadN X0.here hx rfl (hb hby d10_0) rfl rfl (XS.aloadN X0.here hx rfl (hb hby d10_1) rfl rfl k)) ?_
  obtain ⟨v1, T1, L1, X1, hQ1, st1⟩ := callVi X0 hx hZ (C := k_1) (y := y_11) (z := y_11) (a := fm) (argsL := [(.ref a2)]) (rest := []) hown (wk hw 54 rfl) (wk hw 55 rfl) (notFace_of_selects (args := #[]) (mvT (s := (s.setVm vm0)) hZ (wk hw 57 rfl))) (wk hw 57 rfl) (wk hw 56 rfl) (wk hw 52 rfl) (wk hw 58 rfl) (by decide) rfl FE (rm11 l Z a0 hw [] fm a2 pl t2 f2 zc h0 n0 Zn FL zad zae V_t2 E_a2 hds SC hzc O) e0 0 (by decide) (by decide) (by decide) (by decide) (g := (mkF m 2 #[.val (.ref fm), .val (.ref a2), .val (.ref a3)] [(.ref a2), (.ref fm)])) rfl (by rw [hml]; rfl) (lenOf pd_23 rfl) rfl (Nat.le_of_eq rfl) (hb hby d10_2)
  obtain ⟨rfl, rfl, e1⟩ := hQ1
  rw [List.append_nil] at X1
  refine Go.st st1 ?_
  refine Go.st (fun t k => XS.aloadN X1.here hx rfl (hb hby d10_5) rfl rfl k) ?_
  show Go p.tables e below PP (T1.setTop (mkF m 6 #[.val (.ref fm), .val (.ref a2), .val (.ref a3)] [(.ref a3)]))
  obtain ⟨sa2, T2, h2, kk2, sb2, kc2, X2, e2, E2, hS2, hk2, hZ2, hown2, Es2, Fc2, Fv2, As2, -, -, hC2, -, nS2, st2⟩ := ldcCH X1 hx hZ hown (wk hw 111 rfl) (strA hw) e1 hS hk hEL (List.mem_of_getElem? (i := 0) rfl) CH (vs := [(.int (105 : Int32)), (.int (100 : Int32))]) (z := (2 : Int32)) (by decide) (by decide) (by decide) (g := (mkF m 6 #[.val (.ref fm), .val (.ref a2), .val (.ref a3)] [(.ref a3)])) rfl (hb hby d10_6) (n := 8) (by decide) (by decide) (by decide) (by decide)
  replace FE := FE.ext E2
  replace FL := FL.ext E2
  replace zaf := zaf.ext E2
  replace V_t3 := V_t3.ext E2
  replace E_a3 := E_a3.ext E2
  replace O := O.ext E2
  replace K := K.ext E2
  replace Zn := Nat.le_trans Zn E2.1
  replace CR := CR.trans hC2
  replace CH := hC2.1
  replace hS := hS2
  replace hk := hk2
  replace hZ := hZ2
  replace hown := hown2
  refine Go.st st2 ?_
  replace As2 := Afn.of_arv As2
  obtain ⟨v3, T3, L3, X3, hQ3, st3⟩ := callSt X2 hx hZ (y := y_12) (argsL := [(.ref a3), (.ref sa2)]) (rest := []) hown (wk hw 61 rfl) (wk hw 62 rfl) (wk hw 63 rfl) (wk hw 64 rfl) (by decide) (rm12 l Z a0 hw [] a3 sa2 h2 n0 Zn) e2 0 (by decide) (by decide) (by decide) (by decide) (g := (mkF m 8 #[.val (.ref fm), .val (.ref a2), .val (.ref a3)] [(.ref sa2), (.ref a3)])) rfl (by rw [hml]; rfl) (lenOf pd_33 rfl) rfl (Nat.le_of_eq rfl) (hb hby d10_8)
  obtain ⟨rfl, rfl, e3⟩ := hQ3
  rw [List.append_nil] at X3
  refine Go.st st3 ?_
  refine Go.st (fun t k => XS.pop X3.here hx rfl (hb hby d10_11) rfl rfl (XS.aloadN X3.here hx rfl (hb hby d10_12) rfl rfl k)) ?_
  obtain ⟨v4, T4, L4, X4, hQ4, st4⟩ := callVi X3 hx hZ (C := k_14) (y := y_13) (z := y_13) (a := a3) (argsL := []) (rest := []) hown (wk hw 65 rfl) (wk hw 66 rfl) (notFace_of_selects (args := #[]) (mvT (s := (s.setVm T2.vm)) hZ (wk hw 68 rfl))) (wk hw 68 rfl) (wk hw 67 rfl) (wk hw 14 rfl) (wk hw 69 rfl) (by decide) rfl E_a3 (rm13_1 l Z a0 hw [] a3 t3 f3 h2 n0 Zn zaf V_t3) e3 0 (by decide) (by decide) (by decide) (by decide) (g := (mkF m 13 #[.val (.ref fm), .val (.ref a2), .val (.ref a3)] [(.ref a3)])) rfl (by rw [hml]; rfl) (lenOf pd_4 rfl) rfl (Nat.le_of_eq rfl) (hb hby d10_13)
  obtain ⟨rfl, rfl, e4⟩ := hQ4
  rw [List.append_nil] at X4
  refine Go.st st4 ?_
  refine Go.st (fun t k => XS.ifYes X4.here hx rfl (pc0 := 16) (pc' := 29) rfl (hb hby d10_16) rfl (XT.i0_eq_t (by decide)) (by decide) (by decide) k) ?_
  show Go p.tables e below PP (T4.setTop (mkF m 29 #[.val (.ref fm), .val (.ref a2), .val (.ref a3)] []))
  rw [hPP]
  refine endVW X4 hx hlk hZ hS e4 hk hEL CH CR hret (hb hby d10_29) ?_ (by decide) (by decide)
  show Q10 Z fm a2 a3 pl t2 f2 t3 f3 zc h0 n0 none T4.heap _
  rw [e4]
  exact ⟨rfl, N0, K⟩
abbrev b_24 : ByteArray := prog_27_method_5_code
theorem d24_0 : dk b_24 0 (.new 47) 3 := by decide +kernel
theorem d24_3 : dk b_24 3 (.dup) 1 := by decide +kernel
theorem d24_4 : dk b_24 4 (.invokespecial 49) 3 := by decide +kernel
theorem d24_7 : dk b_24 7 (.aload_n 0) 1 := by decide +kernel
theorem d24_8 : dk b_24 8 (.getfield 7) 3 := by decide +kernel
theorem d24_11 : dk b_24 11 (.invokevirtual 50) 3 := by decide +kernel
theorem d24_14 : dk b_24 14 (.ldc 62) 2 := by decide +kernel
theorem d24_16 : dk b_24 16 (.invokevirtual 50) 3 := by decide +kernel
theorem d24_19 : dk b_24 19 (.aload_n 1) 1 := by decide +kernel
theorem d24_20 : dk b_24 20 (.invokevirtual 50) 3 := by decide +kernel
theorem d24_23 : dk b_24 23 (.ldc 62) 2 := by decide +kernel
theorem d24_25 : dk b_24 25 (.invokevirtual 50) 3 := by decide +kernel
theorem d24_28 : dk b_24 28 (.aload_n 0) 1 := by decide +kernel
theorem d24_29 : dk b_24 29 (.getfield 16) 3 := by decide +kernel
theorem d24_32 : dk b_24 32 (.invokevirtual 50) 3 := by decide +kernel
theorem d24_35 : dk b_24 35 (.ldc 62) 2 := by decide +kernel
theorem d24_37 : dk b_24 37 (.invokevirtual 50) 3 := by decide +kernel
theorem d24_40 : dk b_24 40 (.aload_n 2) 1 := by decide +kernel
theorem d24_41 : dk b_24 41 (.invokevirtual 50) 3 := by decide +kernel
theorem d24_44 : dk b_24 44 (.invokevirtual 56) 3 := by decide +kernel
theorem d24_47 : dk b_24 47 (.areturn) 1 := by decide +kernel
abbrev r_rm24 : Room := { frames := 6, cells := 11, slots := 124, locals := 113 }
def Q24 (Z : State) (fm : Addr) (a2 : Addr) (a3 : Addr) (pl : Addr) (pa : Addr) (pv : Addr) (fp : Nat → Int32) (co : Addr) (cv : Addr) (fc : Nat → Int32) (t2 : Addr) (f2 : Nat → Int32) (t3 : Addr) (f3 : Nat → Int32) (zc : Int32) (h0 : Heap) (n0 : Nat) (v : Option Value) (h : Heap) (L : List Loc) : Prop := ∃ (r : Addr) (t : Addr) (f' : Nat → Int32), v = some (.ref r) ∧ Fr n0 L ∧ Keep h0 h [] ∧ h0.size ≤ r ∧ h0.size ≤ t ∧ Exa Z h r k_14 ∧ Fld Z h r k_14 "coder" "B" (.int (0 : Int32)) ∧ Fld Z h r k_14 "value" "[B" (.ref t) ∧ Afn Z h t .byte (21 : Int32) (fun k => .int (f' k))
theorem pd_34 : parseMethodDescriptor "(Ljava/lang/String;)Ljava/lang/StringBuilder;" = some ⟨[(.object "java/lang/String")], some (.object "java/lang/StringBuilder")⟩ := by decide +kernel
theorem pd_35 : parseMethodDescriptor "()Ljava/lang/String;" = some ⟨[], some (.object "java/lang/String")⟩ := by decide +kernel
theorem rm24 (l : Launch) (Z : State) (a0 : Array Value) (hw : HWt Z a0) (ws : List Jvm.Cond) (fm : Addr) (a2 : Addr) (a3 : Addr) (pl : Addr) (pa : Addr) (pv : Addr) (fp : Nat → Int32) (co : Addr) (cv : Addr) (fc : Nat → Int32) (t2 : Addr) (f2 : Nat → Int32) (t3 : Addr) (f3 : Nat → Int32) (zc : Int32) (h0 : Heap) (n0 : Nat) (Z0 : n0 ≤ h0.size) (hEL : EW Z a0 consts_1) (FE : Exa Z h0 fm k_1) (FL : Fld Z h0 fm k_1 "parentLabel" "Ljava/lang/String;" (.ref pl)) (FP : Fld Z h0 fm k_1 "parents" "Ljava/lang/String;" (.ref pa)) (FPe : Exa Z h0 pa k_14) (FPv : Fld Z h0 pa k_14 "value" "[B" (.ref pv)) (FPc : Fld Z h0 pa k_14 "coder" "B" (.int (0 : Int32))) (FPa : Afn Z h0 pv .byte (11 : Int32) (fun k => .int (fp k))) (FC : Fld Z h0 fm k_1 "collection" "Ljava/lang/String;" (.ref co)) (FCe : Exa Z h0 co k_14) (FCv : Fld Z h0 co k_14 "value" "[B" (.ref cv)) (FCc : Fld Z h0 co k_14 "coder" "B" (.int (0 : Int32))) (FCa : Afn Z h0 cv .byte (5 : Int32) (fun k => .int (fc k))) (zad : Fld Z h0 a2 k_14 "value" "[B" (.ref t2)) (zae : Fld Z h0 a2 k_14 "coder" "B" (.int (0 : Int32))) (V_t2 : Afn Z h0 t2 .byte (1 : Int32) (fun k => .int (f2 k))) (E_a2 : Exa Z h0 a2 k_14) (zaf : Fld Z h0 a3 k_14 "value" "[B" (.ref t3)) (zah : Fld Z h0 a3 k_14 "coder" "B" (.int (0 : Int32))) (V_t3 : Afn Z h0 t3 .byte (1 : Int32) (fun k => .int (f3 k))) (E_a3 : Exa Z h0 a3 k_14) (SC : SS0 Z zc) (hzc : ¬ zc = (0 : Int32)) (O : Old Z n0 h0) :
    ConH l Z consts_1 y_24 prog_27_method_5_code 3 (some (.object "java/lang/String")) ws r_rm24 #[(.ref fm), (.ref a2), (.ref a3)] h0 (Q24 Z fm a2 a3 pl pa pv fp co cv fc t2 f2 t3 f3 zc h0 n0) := by
  refine ConH.of (plainFor_of_name pn_rm11) ?_
  intro p e s m below meth c s₁ vm0 k0 hZ e0 X0 hx hby hml hown hnm hret hlk hS hk CH CR
  have N0 : Fr n0 [] := Fr.nil n0
  obtain ⟨PP, hPP⟩ : ∃ P, P = FineW Z consts_1 s below (Q24 Z fm a2 a3 pl pa pv fp co cv fc t2 f2 t3 f3 zc h0 n0) r_rm24.cells r_rm24.slots := ⟨_, rfl⟩
  rw [← hPP]
  refine Go.cast (ef_rm10 m fm a2 a3) ?_
  have K : Keep h0 h0 [] := Keep.refl h0 _
  have Zn : n0 ≤ h0.size := Z0
  obtain ⟨T1, h1, X1, e1, E1, A1, D1, U1, st1⟩ := newO X0 hx hZ hown (wk hw 119 rfl) (wk hw 120 rfl) (wk hw 121 rfl) e0 (g := (mkF m 0 #[.val (.ref fm), .val (.ref a2), .val (.ref a3)] [])) rfl (hb hby d24_0) (by decide) (by decide)
  obtain ⟨b1, gz1⟩ : ∃ z, z = h0.size := ⟨_, rfl⟩
  rw [← gz1] at A1 D1 U1 st1
  have zap : fm ≠ b1 := Nat.ne_of_lt (Nat.lt_of_lt_of_le FE.lt (Nat.le_of_eq gz1.symm))
  have zdf : pa ≠ b1 := Nat.ne_of_lt (Nat.lt_of_lt_of_le FPe.lt (Nat.le_of_eq gz1.symm))
  have zez : pv ≠ b1 := Nat.ne_of_lt (Nat.lt_of_lt_of_le FPa.lt (Nat.le_of_eq gz1.symm))
  have zbd : co ≠ b1 := Nat.ne_of_lt (Nat.lt_of_lt_of_le FCe.lt (Nat.le_of_eq gz1.symm))
  have zcn : cv ≠ b1 := Nat.ne_of_lt (Nat.lt_of_lt_of_le FCa.lt (Nat.le_of_eq gz1.symm))
  have zce : a2 ≠ b1 := Nat.ne_of_lt (Nat.lt_of_lt_of_le zad.lt (Nat.le_of_eq gz1.symm))
  have zed : t2 ≠ b1 := Nat.ne_of_lt (Nat.lt_of_lt_of_le V_t2.lt (Nat.le_of_eq gz1.symm))
  have zax : a3 ≠ b1 := Nat.ne_of_lt (Nat.lt_of_lt_of_le zaf.lt (Nat.le_of_eq gz1.symm))
  have zcf : t3 ≠ b1 := Nat.ne_of_lt (Nat.lt_of_lt_of_le V_t3.lt (Nat.le_of_eq gz1.symm))
  have g_b1 : n0 ≤ b1 := Nat.le_trans Zn (Nat.le_of_eq gz1.symm)
  have zas : h0.size ≤ b1 := Nat.le_trans K.1 (Nat.le_of_eq gz1.symm)
  have zag : Safe Z consts_1 vm0 h0 b1 := Safe.new (Nat.le_of_eq gz1.symm)
  refine Go.st st1 ?_
  replace FE := FE.ext E1
  replace FL := FL.ext E1
  replace FP := FP.ext E1
  replace FPe := FPe.ext E1
  replace FPv := FPv.ext E1
  replace FPc := FPc.ext E1
  replace FPa := FPa.ext E1
  replace FC := FC.ext E1
  replace FCe := FCe.ext E1
  replace FCv := FCv.ext E1
  replace FCc := FCc.ext E1
  replace FCa := FCa.ext E1
  replace zad := zad.ext E1
  replace zae := zae.ext E1
  replace V_t2 := V_t2.ext E1
  replace E_a2 := E_a2.ext E1
  replace zaf := zaf.ext E1
  replace zah := zah.ext E1
  replace V_t3 := V_t3.ext E1
  replace E_a3 := E_a3.ext E1
  replace zag := Safe.ext E1 CH zag
  replace CR := CR.trans (CHr.ext E1 CH)
  replace CH := CH.ext E1
  replace hk := Nat.le_trans hk E1.1
  replace O := O.ext E1
  replace K := K.ext E1
  replace Zn := Nat.le_trans Zn E1.1
  have E_b1 := A1
  have zex : Fld Z h1 b1 k_8 "value" "[B" .null := D1 (Or.inl (wk hw 134 rfl)) (ty := (.array .byte)) (by decide)
  have zey : Fld Z h1 b1 k_8 "coder" "B" (.int (0 : Int32)) := D1 (Or.inl (wk hw 136 rfl)) (ty := .byte) (by decide)
  have zib : Fld Z h1 b1 k_8 "count" "I" (.int (0 : Int32)) := D1 (Or.inl (wk hw 151 rfl)) (ty := .int) (by decide)
  have zic : Fld Z h1 b1 k_8 "maybeLatin1" "Z" (.int (0 : Int32)) := D1 (Or.inl (wk hw 447 rfl)) (ty := .boolean) (by decide)
  refine Go.st (fun t k => XS.dup X1.here hx rfl (hb hby d24_3) rfl rfl k) ?_
  obtain ⟨v2, T2, L2, X2, hQ2, st2⟩ := callIn X1 hx hZ (y := y_25) (a := b1) (argsL := []) (rest := [(.ref b1)]) rfl hown (wk hw 122 rfl) (wk hw 123 rfl) (wk hw 121 rfl) (wk hw 124 rfl) (by decide) (rm25 l Z a0 hw [] b1 zc h1 n0 Zn E_b1 zex zib zey zic g_b1 SC hzc O) e1 1 (by decide) (by decide) (by decide) (by decide) (g := (mkF m 4 #[.val (.ref fm), .val (.ref a2), .val (.ref a3)] [(.ref b1), (.ref b1)])) rfl (by rw [hml]; rfl) (lenOf pd_21 rfl) rfl (Nat.le_of_eq rfl) (hb hby d24_4)
  obtain ⟨h2, e2⟩ : ∃ z, T2.heap = z := ⟨_, rfl⟩
  rw [e2] at hQ2
  obtain ⟨zal, fx_2, rfl, Nq2, Kq2, zam, zaq, zaz, zbl, zdg, zgm⟩ := hQ2
  have N2 := Fr.app N0 Nq2
  have zbh : fm ≠ zal := Nat.ne_of_lt (Nat.lt_of_lt_of_le FE.lt zam)
  have zfa : pa ≠ zal := Nat.ne_of_lt (Nat.lt_of_lt_of_le FPe.lt zam)
  have zgn : pv ≠ zal := Nat.ne_of_lt (Nat.lt_of_lt_of_le FPa.lt zam)
  have zbt : co ≠ zal := Nat.ne_of_lt (Nat.lt_of_lt_of_le FCe.lt zam)
  have zdh : cv ≠ zal := Nat.ne_of_lt (Nat.lt_of_lt_of_le FCa.lt zam)
  have zdi : a2 ≠ zal := Nat.ne_of_lt (Nat.lt_of_lt_of_le zad.lt zam)
  have zfb : t2 ≠ zal := Nat.ne_of_lt (Nat.lt_of_lt_of_le V_t2.lt zam)
  have zcg : a3 ≠ zal := Nat.ne_of_lt (Nat.lt_of_lt_of_le zaf.lt zam)
  have zee : t3 ≠ zal := Nat.ne_of_lt (Nat.lt_of_lt_of_le V_t3.lt zam)
  have zcv : b1 ≠ zal := Nat.ne_of_lt (Nat.lt_of_lt_of_le E_b1.lt zam)
  have zbu : n0 ≤ zal := Nat.le_trans Zn zam
  have zef : h0.size ≤ zal := Nat.le_trans K.1 zam
  have zao : Safe Z consts_1 vm0 h1 zal := Safe.new zam
  have hsf : ∀ x ∈ [b1], Safe Z consts_1 _ _ x := (sfS zag sf0)
  replace zag := Safe.keep Kq2 hsf CH zag
  replace zao := Safe.keep Kq2 hsf CH zao
  replace CR := CR.trans (CHr.keep Kq2 hsf CH)
  replace CH := CH.keep Kq2 hsf
  replace hk := Nat.le_trans hk Kq2.1
  clear hsf
  replace FE := FE.keep Kq2
  replace FL := FL.keep Kq2 (ninS zap nin0)
  replace FP := FP.keep Kq2 (ninS zap nin0)
  replace FPe := FPe.keep Kq2
  replace FPv := FPv.keep Kq2 (ninS zdf nin0)
  replace FPc := FPc.keep Kq2 (ninS zdf nin0)
  replace FPa := FPa.keep Kq2 (ninS zez nin0)
  replace FC := FC.keep Kq2 (ninS zap nin0)
  replace FCe := FCe.keep Kq2
  replace FCv := FCv.keep Kq2 (ninS zbd nin0)
  replace FCc := FCc.keep Kq2 (ninS zbd nin0)
  replace FCa := FCa.keep Kq2 (ninS zcn nin0)
  replace zad := zad.keep Kq2 (ninS zce nin0)
  replace zae := zae.keep Kq2 (ninS zce nin0)
  replace V_t2 := V_t2.keep Kq2 (ninS zed nin0)
  replace E_a2 := E_a2.keep Kq2
  replace zaf := zaf.keep Kq2 (ninS zax nin0)
  replace zah := zah.keep Kq2 (ninS zax nin0)
  replace V_t3 := V_t3.keep Kq2 (ninS zcf nin0)
  replace E_a3 := E_a3.keep Kq2
  replace E_b1 := E_b1.keep Kq2
  replace O := O.keep Kq2 (allS g_b1 all0)
  replace K := K.trans Kq2 (allS (Or.inr zas) all0)
  replace Zn := Nat.le_trans Zn Kq2.1
  refine Go.st st2 ?_
  refine Go.st (fun t k => XS.aloadN X2.here hx rfl (hb hby d24_7) rfl rfl k) ?_
  obtain ⟨T3, X3, e3, st3⟩ := getF X2 hx hZ hown (host := "") (Or.inl (wk hw 137 rfl)) Via.refl e2 FP (g := (mkF m 8 #[.val (.ref fm), .val (.ref a2), .val (.ref a3)] [(.ref fm), (.ref b1)])) rfl rfl (hb hby d24_8)
  refine Go.st st3 ?_
  obtain ⟨v4, T4, L4, X4, hQ4, st4⟩ := callVi X3 hx hZ (C := k_15) (y := y_27) (z := y_27) (a := b1) (argsL := [(.ref pa)]) (rest := []) hown (wk hw 139 rfl) (wk hw 140 rfl) (notFace_of_selects (args := #[]) (mvT (s := (s.setVm vm0)) hZ (wk hw 142 rfl))) (wk hw 142 rfl) (wk hw 141 rfl) (wk hw 121 rfl) (wk hw 143 rfl) (by decide) rfl E_b1 (rm27a l Z a0 hw [] b1 pa zal fx_2 (16 : Int32) (0 : Int32) pv (11 : Int32) fp zc h2 n0 Zn E_b1 zaq zaz zbl zdg zgm FPv FPc FPa FPe g_b1 zbu zcv zdf zez zfa zgn (by decide) SC hzc O) e3 0 (by decide) (by decide) (by decide) (by decide) (g := (mkF m 11 #[.val (.ref fm), .val (.ref a2), .val (.ref a3)] [(.ref pa), (.ref b1)])) rfl (by rw [hml]; rfl) (lenOf pd_34 rfl) rfl (Nat.le_of_eq rfl) (hb hby d24_11)
  obtain ⟨h4, e4⟩ : ∃ z, T4.heap = z := ⟨_, rfl⟩
  rw [e4] at hQ4
  obtain ⟨fx_4, rfl, Nq4, Kq4, zaw, zbr, zck, zcl, zdc⟩ := hQ4
  have N4 := Fr.app N2 Nq4
  have hsf : ∀ x ∈ [b1, zal], Safe Z consts_1 _ _ x := (sfS zag (sfS zao sf0))
  replace zag := Safe.keep Kq4 hsf CH zag
  replace zao := Safe.keep Kq4 hsf CH zao
  replace CR := CR.trans (CHr.keep Kq4 hsf CH)
  replace CH := CH.keep Kq4 hsf
  replace hk := Nat.le_trans hk Kq4.1
  clear hsf
  replace FE := FE.keep Kq4
  replace FL := FL.keep Kq4 (ninS zap (ninS zbh nin0))
  replace FP := FP.keep Kq4 (ninS zap (ninS zbh nin0))
  replace FPe := FPe.keep Kq4
  replace FPv := FPv.keep Kq4 (ninS zdf (ninS zfa nin0))
  replace FPc := FPc.keep Kq4 (ninS zdf (ninS zfa nin0))
  replace FPa := FPa.keep Kq4 (ninS zez (ninS zgn nin0))
  replace FC := FC.keep Kq4 (ninS zap (ninS zbh nin0))
  replace FCe := FCe.keep Kq4
  replace FCv := FCv.keep Kq4 (ninS zbd (ninS zbt nin0))
  replace FCc := FCc.keep Kq4 (ninS zbd (ninS zbt nin0))
  replace FCa := FCa.keep Kq4 (ninS zcn (ninS zdh nin0))
  replace zad := zad.keep Kq4 (ninS zce (ninS zdi nin0))
  replace zae := zae.keep Kq4 (ninS zce (ninS zdi nin0))
  replace V_t2 := V_t2.keep Kq4 (ninS zed (ninS zfb nin0))
  replace E_a2 := E_a2.keep Kq4
  replace zaf := zaf.keep Kq4 (ninS zax (ninS zcg nin0))
  replace zah := zah.keep Kq4 (ninS zax (ninS zcg nin0))
  replace V_t3 := V_t3.keep Kq4 (ninS zcf (ninS zee nin0))
  replace E_a3 := E_a3.keep Kq4
  replace E_b1 := E_b1.keep Kq4
  replace O := O.keep Kq4 (allS g_b1 (allS zbu all0))
  replace K := K.trans Kq4 (allS (Or.inr zas) (allS (Or.inr zef) all0))
  replace Zn := Nat.le_trans Zn Kq4.1
  replace zbr : Fld Z h4 b1 k_8 "count" "I" (.int (11 : Int32)) := zbr
  refine Go.st st4 ?_
  show Go p.tables e below PP (T4.setTop (mkF m 14 #[.val (.ref fm), .val (.ref a2), .val (.ref a3)] [(.ref b1)]))
  obtain ⟨sa5, T5, h5, kk5, sb5, kc5, X5, e5, E5, hS5, hk5, hZ5, hown5, Es5, Fc5, Fv5, As5, -, -, hC5, -, nS5, st5⟩ := ldcCH X4 hx hZ hown (wk hw 177 rfl) (strA hw) e4 hS hk hEL (List.mem_of_getElem? (i := 1) rfl) CH (vs := [(.int (47 : Int32))]) (z := (1 : Int32)) (by decide) (by decide) (by decide) (g := (mkF m 14 #[.val (.ref fm), .val (.ref a2), .val (.ref a3)] [(.ref b1)])) rfl (hb hby d24_14) (n := 4) (by decide) (by decide) (by decide) (by decide)
  have lt_b1 := E_b1.lt
  have lt_tvx_2 := zdc.lt
  replace FE := FE.ext E5
  replace FL := FL.ext E5
  replace FP := FP.ext E5
  replace FC := FC.ext E5
  replace FCe := FCe.ext E5
  replace FCv := FCv.ext E5
  replace FCc := FCc.ext E5
  replace FCa := FCa.ext E5
  replace zad := zad.ext E5
  replace zae := zae.ext E5
  replace V_t2 := V_t2.ext E5
  replace E_a2 := E_a2.ext E5
  replace zaf := zaf.ext E5
  replace zah := zah.ext E5
  replace V_t3 := V_t3.ext E5
  replace E_a3 := E_a3.ext E5
  replace E_b1 := E_b1.ext E5
  replace zaw := zaw.ext E5
  replace zbr := zbr.ext E5
  replace zck := zck.ext E5
  replace zcl := zcl.ext E5
  replace zdc := zdc.ext E5
  replace O := O.ext E5
  replace K := K.ext E5
  replace zag := hC5.safe lt_b1 zag
  replace zao := hC5.safe lt_tvx_2 zao
  have zfc : b1 ≠ sa5 := (nS5 _ zag).1
  have zgo : b1 ≠ sb5 := (nS5 _ zag).2
  have zfd : zal ≠ sa5 := (nS5 _ zao).1
  have zgp : zal ≠ sb5 := (nS5 _ zao).2
  replace Zn := Nat.le_trans Zn E5.1
  replace CR := CR.trans hC5
  replace CH := hC5.1
  replace hS := hS5
  replace hk := hk5
  replace hZ := hZ5
  replace hown := hown5
  refine Go.st st5 ?_
  replace As5 := Afn.of_arv As5
  obtain ⟨fs5, hfs5⟩ : ∃ f : Nat → Int32, Afn Z h5 sb5 .byte (1 : Int32) (fun k => .int (f k)) := ⟨_, own_ints As5⟩
  replace As5 := hfs5
  obtain ⟨v6, T6, L6, X6, hQ6, st6⟩ := callVi X5 hx hZ (C := k_15) (y := y_27) (z := y_27) (a := b1) (argsL := [(.ref sa5)]) (rest := []) hown (wk hw 139 rfl) (wk hw 140 rfl) (notFace_of_selects (args := #[]) (mvT (s := (s.setVm T5.vm)) hZ (wk hw 142 rfl))) (wk hw 142 rfl) (wk hw 141 rfl) (wk hw 121 rfl) (wk hw 143 rfl) (by decide) rfl E_b1 (rm27a l Z a0 hw [] b1 sa5 zal fx_4 (16 : Int32) (11 : Int32) sb5 (1 : Int32) fs5 zc h5 n0 Zn E_b1 zaw zbr zck zcl zdc Fv5 Fc5 As5 Es5 g_b1 zbu zcv (Ne.symm zfc) (Ne.symm zgo) (Ne.symm zfd) (Ne.symm zgp) (by decide) SC hzc O) e5 0 (by decide) (by decide) (by decide) (by decide) (g := (mkF m 16 #[.val (.ref fm), .val (.ref a2), .val (.ref a3)] [(.ref sa5), (.ref b1)])) rfl (by rw [hml]; rfl) (lenOf pd_34 rfl) rfl (Nat.le_of_eq rfl) (hb hby d24_16)
  obtain ⟨h6, e6⟩ : ∃ z, T6.heap = z := ⟨_, rfl⟩
  rw [e6] at hQ6
  obtain ⟨fx_6, rfl, Nq6, Kq6, zcd, zch, zgq, zid, zie⟩ := hQ6
  have N6 := Fr.app N4 Nq6
  have hsf : ∀ x ∈ [b1, zal], Safe Z consts_1 _ _ x := (sfS zag (sfS zao sf0))
  replace zag := Safe.keep Kq6 hsf CH zag
  replace zao := Safe.keep Kq6 hsf CH zao
  replace CR := CR.trans (CHr.keep Kq6 hsf CH)
  replace CH := CH.keep Kq6 hsf
  replace hk := Nat.le_trans hk Kq6.1
  clear hsf
  replace FE := FE.keep Kq6
  replace FL := FL.keep Kq6 (ninS zap (ninS zbh nin0))
  replace FP := FP.keep Kq6 (ninS zap (ninS zbh nin0))
  replace FC := FC.keep Kq6 (ninS zap (ninS zbh nin0))
  replace FCe := FCe.keep Kq6
  replace FCv := FCv.keep Kq6 (ninS zbd (ninS zbt nin0))
  replace FCc := FCc.keep Kq6 (ninS zbd (ninS zbt nin0))
  replace FCa := FCa.keep Kq6 (ninS zcn (ninS zdh nin0))
  replace zad := zad.keep Kq6 (ninS zce (ninS zdi nin0))
  replace zae := zae.keep Kq6 (ninS zce (ninS zdi nin0))
  replace V_t2 := V_t2.keep Kq6 (ninS zed (ninS zfb nin0))
  replace E_a2 := E_a2.keep Kq6
  replace zaf := zaf.keep Kq6 (ninS zax (ninS zcg nin0))
  replace zah := zah.keep Kq6 (ninS zax (ninS zcg nin0))
  replace V_t3 := V_t3.keep Kq6 (ninS zcf (ninS zee nin0))
  replace E_a3 := E_a3.keep Kq6
  replace E_b1 := E_b1.keep Kq6
  replace Es5 := Es5.keep Kq6
  replace Fc5 := Fc5.keep Kq6 (ninS (Ne.symm zfc) (ninS (Ne.symm zfd) nin0))
  replace Fv5 := Fv5.keep Kq6 (ninS (Ne.symm zfc) (ninS (Ne.symm zfd) nin0))
  replace As5 := As5.keep Kq6 (ninS (Ne.symm zgo) (ninS (Ne.symm zgp) nin0))
  replace O := O.keep Kq6 (allS g_b1 (allS zbu all0))
  replace K := K.trans Kq6 (allS (Or.inr zas) (allS (Or.inr zef) all0))
  replace Zn := Nat.le_trans Zn Kq6.1
  replace zch : Fld Z h6 b1 k_8 "count" "I" (.int (12 : Int32)) := zch
  refine Go.st st6 ?_
  refine Go.st (fun t k => XS.aloadN X6.here hx rfl (hb hby d24_19) rfl rfl k) ?_
  obtain ⟨v7, T7, L7, X7, hQ7, st7⟩ := callVi X6 hx hZ (C := k_15) (y := y_27) (z := y_27) (a := b1) (argsL := [(.ref a2)]) (rest := []) hown (wk hw 139 rfl) (wk hw 140 rfl) (notFace_of_selects (args := #[]) (mvT (s := (s.setVm T5.vm)) hZ (wk hw 142 rfl))) (wk hw 142 rfl) (wk hw 141 rfl) (wk hw 121 rfl) (wk hw 143 rfl) (by decide) rfl E_b1 (rm27a l Z a0 hw [] b1 a2 zal fx_6 (16 : Int32) (12 : Int32) t2 (1 : Int32) f2 zc h6 n0 Zn E_b1 zcd zch zgq zid zie zad zae V_t2 E_a2 g_b1 zbu zcv zce zed zdi zfb (by decide) SC hzc O) e6 0 (by decide) (by decide) (by decide) (by decide) (g := (mkF m 20 #[.val (.ref fm), .val (.ref a2), .val (.ref a3)] [(.ref a2), (.ref b1)])) rfl (by rw [hml]; rfl) (lenOf pd_34 rfl) rfl (Nat.le_of_eq rfl) (hb hby d24_20)
  obtain ⟨h7, e7⟩ : ∃ z, T7.heap = z := ⟨_, rfl⟩
  rw [e7] at hQ7
  obtain ⟨fx_7, rfl, Nq7, Kq7, zca, zdj, zfe, zff, zeg⟩ := hQ7
  have N7 := Fr.app N6 Nq7
  have hsf : ∀ x ∈ [b1, zal], Safe Z consts_1 _ _ x := (sfS zag (sfS zao sf0))
  replace zag := Safe.keep Kq7 hsf CH zag
  replace zao := Safe.keep Kq7 hsf CH zao
  replace CR := CR.trans (CHr.keep Kq7 hsf CH)
  replace CH := CH.keep Kq7 hsf
  replace hk := Nat.le_trans hk Kq7.1
  clear hsf
  replace FE := FE.keep Kq7
  replace FL := FL.keep Kq7 (ninS zap (ninS zbh nin0))
  replace FP := FP.keep Kq7 (ninS zap (ninS zbh nin0))
  replace FC := FC.keep Kq7 (ninS zap (ninS zbh nin0))
  replace FCe := FCe.keep Kq7
  replace FCv := FCv.keep Kq7 (ninS zbd (ninS zbt nin0))
  replace FCc := FCc.keep Kq7 (ninS zbd (ninS zbt nin0))
  replace FCa := FCa.keep Kq7 (ninS zcn (ninS zdh nin0))
  replace zaf := zaf.keep Kq7 (ninS zax (ninS zcg nin0))
  replace zah := zah.keep Kq7 (ninS zax (ninS zcg nin0))
  replace V_t3 := V_t3.keep Kq7 (ninS zcf (ninS zee nin0))
  replace E_a3 := E_a3.keep Kq7
  replace E_b1 := E_b1.keep Kq7
  replace O := O.keep Kq7 (allS g_b1 (allS zbu all0))
  replace K := K.trans Kq7 (allS (Or.inr zas) (allS (Or.inr zef) all0))
  replace Zn := Nat.le_trans Zn Kq7.1
  replace zdj : Fld Z h7 b1 k_8 "count" "I" (.int (13 : Int32)) := zdj
  refine Go.st st7 ?_
  show Go p.tables e below PP (T7.setTop (mkF m 23 #[.val (.ref fm), .val (.ref a2), .val (.ref a3)] [(.ref b1)]))
  obtain ⟨sa8, T8, h8, kk8, sb8, kc8, X8, e8, E8, hS8, hk8, hZ8, hown8, Es8, Fc8, Fv8, As8, -, -, hC8, -, nS8, st8⟩ := ldcCH X7 hx hZ hown (wk hw 177 rfl) (strA hw) e7 hS hk hEL (List.mem_of_getElem? (i := 1) rfl) CH (vs := [(.int (47 : Int32))]) (z := (1 : Int32)) (by decide) (by decide) (by decide) (g := (mkF m 23 #[.val (.ref fm), .val (.ref a2), .val (.ref a3)] [(.ref b1)])) rfl (hb hby d24_23) (n := 4) (by decide) (by decide) (by decide) (by decide)
  have lt_b1 := E_b1.lt
  have lt_tvx_2 := zeg.lt
  replace FE := FE.ext E8
  replace FL := FL.ext E8
  replace FP := FP.ext E8
  replace FC := FC.ext E8
  replace FCe := FCe.ext E8
  replace FCv := FCv.ext E8
  replace FCc := FCc.ext E8
  replace FCa := FCa.ext E8
  replace zaf := zaf.ext E8
  replace zah := zah.ext E8
  replace V_t3 := V_t3.ext E8
  replace E_a3 := E_a3.ext E8
  replace E_b1 := E_b1.ext E8
  replace zca := zca.ext E8
  replace zdj := zdj.ext E8
  replace zfe := zfe.ext E8
  replace zff := zff.ext E8
  replace zeg := zeg.ext E8
  replace O := O.ext E8
  replace K := K.ext E8
  replace zag := hC8.safe lt_b1 zag
  replace zao := hC8.safe lt_tvx_2 zao
  have zfg : b1 ≠ sa8 := (nS8 _ zag).1
  have zgr : b1 ≠ sb8 := (nS8 _ zag).2
  have zfh : zal ≠ sa8 := (nS8 _ zao).1
  have zgs : zal ≠ sb8 := (nS8 _ zao).2
  replace Zn := Nat.le_trans Zn E8.1
  replace CR := CR.trans hC8
  replace CH := hC8.1
  replace hS := hS8
  replace hk := hk8
  replace hZ := hZ8
  replace hown := hown8
  refine Go.st st8 ?_
  replace As8 := Afn.of_arv As8
  obtain ⟨fs8, hfs8⟩ : ∃ f : Nat → Int32, Afn Z h8 sb8 .byte (1 : Int32) (fun k => .int (f k)) := ⟨_, own_ints As8⟩
  replace As8 := hfs8
  obtain ⟨v9, T9, L9, X9, hQ9, st9⟩ := callVi X8 hx hZ (C := k_15) (y := y_27) (z := y_27) (a := b1) (argsL := [(.ref sa8)]) (rest := []) hown (wk hw 139 rfl) (wk hw 140 rfl) (notFace_of_selects (args := #[]) (mvT (s := (s.setVm T8.vm)) hZ (wk hw 142 rfl))) (wk hw 142 rfl) (wk hw 141 rfl) (wk hw 121 rfl) (wk hw 143 rfl) (by decide) rfl E_b1 (rm27a l Z a0 hw [] b1 sa8 zal fx_7 (16 : Int32) (13 : Int32) sb8 (1 : Int32) fs8 zc h8 n0 Zn E_b1 zca zdj zfe zff zeg Fv8 Fc8 As8 Es8 g_b1 zbu zcv (Ne.symm zfg) (Ne.symm zgr) (Ne.symm zfh) (Ne.symm zgs) (by decide) SC hzc O) e8 0 (by decide) (by decide) (by decide) (by decide) (g := (mkF m 25 #[.val (.ref fm), .val (.ref a2), .val (.ref a3)] [(.ref sa8), (.ref b1)])) rfl (by rw [hml]; rfl) (lenOf pd_34 rfl) rfl (Nat.le_of_eq rfl) (hb hby d24_25)
  obtain ⟨h9, e9⟩ : ∃ z, T9.heap = z := ⟨_, rfl⟩
  rw [e9] at hQ9
  obtain ⟨fx_9, rfl, Nq9, Kq9, zfi, zdk, zfj, zif, zeh⟩ := hQ9
  have N9 := Fr.app N7 Nq9
  have hsf : ∀ x ∈ [b1, zal], Safe Z consts_1 _ _ x := (sfS zag (sfS zao sf0))
  replace zag := Safe.keep Kq9 hsf CH zag
  replace CR := CR.trans (CHr.keep Kq9 hsf CH)
  replace CH := CH.keep Kq9 hsf
  replace hk := Nat.le_trans hk Kq9.1
  clear hsf
  replace FE := FE.keep Kq9
  replace FL := FL.keep Kq9 (ninS zap (ninS zbh nin0))
  replace FP := FP.keep Kq9 (ninS zap (ninS zbh nin0))
  replace FC := FC.keep Kq9 (ninS zap (ninS zbh nin0))
  replace FCe := FCe.keep Kq9
  replace FCv := FCv.keep Kq9 (ninS zbd (ninS zbt nin0))
  replace FCc := FCc.keep Kq9 (ninS zbd (ninS zbt nin0))
  replace FCa := FCa.keep Kq9 (ninS zcn (ninS zdh nin0))
  replace zaf := zaf.keep Kq9 (ninS zax (ninS zcg nin0))
  replace zah := zah.keep Kq9 (ninS zax (ninS zcg nin0))
  replace V_t3 := V_t3.keep Kq9 (ninS zcf (ninS zee nin0))
  replace E_a3 := E_a3.keep Kq9
  replace E_b1 := E_b1.keep Kq9
  replace Es8 := Es8.keep Kq9
  replace Fc8 := Fc8.keep Kq9 (ninS (Ne.symm zfg) (ninS (Ne.symm zfh) nin0))
  replace Fv8 := Fv8.keep Kq9 (ninS (Ne.symm zfg) (ninS (Ne.symm zfh) nin0))
  replace As8 := As8.keep Kq9 (ninS (Ne.symm zgr) (ninS (Ne.symm zgs) nin0))
  replace O := O.keep Kq9 (allS g_b1 (allS zbu all0))
  replace K := K.trans Kq9 (allS (Or.inr zas) (allS (Or.inr zef) all0))
  replace Zn := Nat.le_trans Zn Kq9.1
  replace zdk : Fld Z h9 b1 k_8 "count" "I" (.int (14 : Int32)) := zdk
  refine Go.st st9 ?_
  refine Go.st (fun t k => XS.aloadN X9.here hx rfl (hb hby d24_28) rfl rfl k) ?_
  obtain ⟨T10, X10, e10, st10⟩ := getF X9 hx hZ hown (host := "") (Or.inl (wk hw 178 rfl)) Via.refl e9 FC (g := (mkF m 29 #[.val (.ref fm), .val (.ref a2), .val (.ref a3)] [(.ref fm), (.ref b1)])) rfl rfl (hb hby d24_29)
  refine Go.st st10 ?_
  obtain ⟨v11, T11, L11, X11, hQ11, st11⟩ := callVi X10 hx hZ (C := k_15) (y := y_27) (z := y_27) (a := b1) (argsL := [(.ref co)]) (rest := []) hown (wk hw 139 rfl) (wk hw 140 rfl) (notFace_of_selects (args := #[]) (mvT (s := (s.setVm T8.vm)) hZ (wk hw 142 rfl))) (wk hw 142 rfl) (wk hw 141 rfl) (wk hw 121 rfl) (wk hw 143 rfl) (by decide) rfl E_b1 (rm27_14_5_0 l Z a0 hw [] b1 co zal fx_9 cv fc zc h9 n0 Zn E_b1 zfi zdk zfj zif zeh FCv FCc FCa FCe g_b1 zbu zcv zbd zcn zbt zdh SC hzc O) e10 0 (by decide) (by decide) (by decide) (by decide) (g := (mkF m 32 #[.val (.ref fm), .val (.ref a2), .val (.ref a3)] [(.ref co), (.ref b1)])) rfl (by rw [hml]; rfl) (lenOf pd_34 rfl) rfl (Nat.le_of_eq rfl) (hb hby d24_32)
  obtain ⟨h11, e11⟩ : ∃ z, T11.heap = z := ⟨_, rfl⟩
  rw [e11] at hQ11
  obtain ⟨zbi, zga, rfl, Nq11, Kq11, zcw, zei, zej, zek, zfk, zel⟩ := hQ11
  have N11 := Fr.app N9 Nq11
  have zfl : a3 ≠ zbi := Nat.ne_of_lt (Nat.lt_of_lt_of_le zaf.lt zcw)
  have zgt : t3 ≠ zbi := Nat.ne_of_lt (Nat.lt_of_lt_of_le V_t3.lt zcw)
  have zgu : b1 ≠ zbi := Nat.ne_of_lt (Nat.lt_of_lt_of_le E_b1.lt zcw)
  have zeq : n0 ≤ zbi := Nat.le_trans Zn zcw
  have zhk : h0.size ≤ zbi := Nat.le_trans K.1 zcw
  have zbx : Safe Z consts_1 T8.vm h9 zbi := Safe.new zcw
  have hsf : ∀ x ∈ [b1], Safe Z consts_1 _ _ x := (sfS zag sf0)
  replace zag := Safe.keep Kq11 hsf CH zag
  replace zbx := Safe.keep Kq11 hsf CH zbx
  replace CR := CR.trans (CHr.keep Kq11 hsf CH)
  replace CH := CH.keep Kq11 hsf
  replace hk := Nat.le_trans hk Kq11.1
  clear hsf
  replace FE := FE.keep Kq11
  replace FL := FL.keep Kq11 (ninS zap nin0)
  replace FP := FP.keep Kq11 (ninS zap nin0)
  replace FC := FC.keep Kq11 (ninS zap nin0)
  replace FCe := FCe.keep Kq11
  replace FCv := FCv.keep Kq11 (ninS zbd nin0)
  replace FCc := FCc.keep Kq11 (ninS zbd nin0)
  replace FCa := FCa.keep Kq11 (ninS zcn nin0)
  replace zaf := zaf.keep Kq11 (ninS zax nin0)
  replace zah := zah.keep Kq11 (ninS zax nin0)
  replace V_t3 := V_t3.keep Kq11 (ninS zcf nin0)
  replace E_a3 := E_a3.keep Kq11
  replace E_b1 := E_b1.keep Kq11
  replace zeh := zeh.keep Kq11 (ninS (Ne.symm zcv) nin0)
  replace O := O.keep Kq11 (allS g_b1 all0)
  replace K := K.trans Kq11 (allS (Or.inr zas) all0)
  replace Zn := Nat.le_trans Zn Kq11.1
  refine Go.st st11 ?_
  show Go p.tables e below PP (T11.setTop (mkF m 35 #[.val (.ref fm), .val (.ref a2), .val (.ref a3)] [(.ref b1)]))
  obtain ⟨sa12, T12, h12, kk12, sb12, kc12, X12, e12, E12, hS12, hk12, hZ12, hown12, Es12, Fc12, Fv12, As12, -, -, hC12, -, nS12, st12⟩ := ldcCH X11 hx hZ hown (wk hw 177 rfl) (strA hw) e11 hS hk hEL (List.mem_of_getElem? (i := 1) rfl) CH (vs := [(.int (47 : Int32))]) (z := (1 : Int32)) (by decide) (by decide) (by decide) (g := (mkF m 35 #[.val (.ref fm), .val (.ref a2), .val (.ref a3)] [(.ref b1)])) rfl (hb hby d24_35) (n := 4) (by decide) (by decide) (by decide) (by decide)
  have lt_b1 := E_b1.lt
  have lt_tvx_2 := zeh.lt
  have lt_tvx_11 := zel.lt
  replace zaf := zaf.ext E12
  replace zah := zah.ext E12
  replace V_t3 := V_t3.ext E12
  replace E_a3 := E_a3.ext E12
  replace E_b1 := E_b1.ext E12
  replace zei := zei.ext E12
  replace zej := zej.ext E12
  replace zek := zek.ext E12
  replace zfk := zfk.ext E12
  replace zel := zel.ext E12
  replace O := O.ext E12
  replace K := K.ext E12
  replace zag := hC12.safe lt_b1 zag
  replace zbx := hC12.safe lt_tvx_11 zbx
  have zfm : b1 ≠ sa12 := (nS12 _ zag).1
  have zgv : b1 ≠ sb12 := (nS12 _ zag).2
  have zfn : zbi ≠ sa12 := (nS12 _ zbx).1
  have zgw : zbi ≠ sb12 := (nS12 _ zbx).2
  replace Zn := Nat.le_trans Zn E12.1
  replace CR := CR.trans hC12
  replace CH := hC12.1
  replace hS := hS12
  replace hk := hk12
  replace hZ := hZ12
  replace hown := hown12
  refine Go.st st12 ?_
  replace As12 := Afn.of_arv As12
  obtain ⟨fs12, hfs12⟩ : ∃ f : Nat → Int32, Afn Z h12 sb12 .byte (1 : Int32) (fun k => .int (f k)) := ⟨_, own_ints As12⟩
  replace As12 := hfs12
  obtain ⟨v13, T13, L13, X13, hQ13, st13⟩ := callVi X12 hx hZ (C := k_15) (y := y_27) (z := y_27) (a := b1) (argsL := [(.ref sa12)]) (rest := []) hown (wk hw 139 rfl) (wk hw 140 rfl) (notFace_of_selects (args := #[]) (mvT (s := (s.setVm T12.vm)) hZ (wk hw 142 rfl))) (wk hw 142 rfl) (wk hw 141 rfl) (wk hw 121 rfl) (wk hw 143 rfl) (by decide) rfl E_b1 (rm27a l Z a0 hw [] b1 sa12 zbi zga (34 : Int32) (19 : Int32) sb12 (1 : Int32) fs12 zc h12 n0 Zn E_b1 zei zej zek zfk zel Fv12 Fc12 As12 Es12 g_b1 zeq zgu (Ne.symm zfm) (Ne.symm zgv) (Ne.symm zfn) (Ne.symm zgw) (by decide) SC hzc O) e12 0 (by decide) (by decide) (by decide) (by decide) (g := (mkF m 37 #[.val (.ref fm), .val (.ref a2), .val (.ref a3)] [(.ref sa12), (.ref b1)])) rfl (by rw [hml]; rfl) (lenOf pd_34 rfl) rfl (Nat.le_of_eq rfl) (hb hby d24_37)
  obtain ⟨h13, e13⟩ : ∃ z, T13.heap = z := ⟨_, rfl⟩
  rw [e13] at hQ13
  obtain ⟨zig, rfl, Nq13, Kq13, zdl, zco, zih, zii, zij⟩ := hQ13
  have N13 := Fr.app N11 Nq13
  have hsf : ∀ x ∈ [b1, zbi], Safe Z consts_1 _ _ x := (sfS zag (sfS zbx sf0))
  replace zag := Safe.keep Kq13 hsf CH zag
  replace zbx := Safe.keep Kq13 hsf CH zbx
  replace CR := CR.trans (CHr.keep Kq13 hsf CH)
  replace CH := CH.keep Kq13 hsf
  replace hk := Nat.le_trans hk Kq13.1
  clear hsf
  replace zaf := zaf.keep Kq13 (ninS zax (ninS zfl nin0))
  replace zah := zah.keep Kq13 (ninS zax (ninS zfl nin0))
  replace V_t3 := V_t3.keep Kq13 (ninS zcf (ninS zgt nin0))
  replace E_a3 := E_a3.keep Kq13
  replace E_b1 := E_b1.keep Kq13
  replace Es12 := Es12.keep Kq13
  replace Fc12 := Fc12.keep Kq13 (ninS (Ne.symm zfm) (ninS (Ne.symm zfn) nin0))
  replace Fv12 := Fv12.keep Kq13 (ninS (Ne.symm zfm) (ninS (Ne.symm zfn) nin0))
  replace As12 := As12.keep Kq13 (ninS (Ne.symm zgv) (ninS (Ne.symm zgw) nin0))
  replace O := O.keep Kq13 (allS g_b1 (allS zeq all0))
  replace K := K.trans Kq13 (allS (Or.inr zas) (allS (Or.inr zhk) all0))
  replace Zn := Nat.le_trans Zn Kq13.1
  replace zco : Fld Z h13 b1 k_8 "count" "I" (.int (20 : Int32)) := zco
  refine Go.st st13 ?_
  refine Go.st (fun t k => XS.aloadN X13.here hx rfl (hb hby d24_40) rfl rfl k) ?_
  obtain ⟨v14, T14, L14, X14, hQ14, st14⟩ := callVi X13 hx hZ (C := k_15) (y := y_27) (z := y_27) (a := b1) (argsL := [(.ref a3)]) (rest := []) hown (wk hw 139 rfl) (wk hw 140 rfl) (notFace_of_selects (args := #[]) (mvT (s := (s.setVm T12.vm)) hZ (wk hw 142 rfl))) (wk hw 142 rfl) (wk hw 141 rfl) (wk hw 121 rfl) (wk hw 143 rfl) (by decide) rfl E_b1 (rm27a l Z a0 hw [] b1 a3 zbi zig (34 : Int32) (20 : Int32) t3 (1 : Int32) f3 zc h13 n0 Zn E_b1 zdl zco zih zii zij zaf zah V_t3 E_a3 g_b1 zeq zgu zax zcf zfl zgt (by decide) SC hzc O) e13 0 (by decide) (by decide) (by decide) (by decide) (g := (mkF m 41 #[.val (.ref fm), .val (.ref a2), .val (.ref a3)] [(.ref a3), (.ref b1)])) rfl (by rw [hml]; rfl) (lenOf pd_34 rfl) rfl (Nat.le_of_eq rfl) (hb hby d24_41)
  obtain ⟨h14, e14⟩ : ∃ z, T14.heap = z := ⟨_, rfl⟩
  rw [e14] at hQ14
  obtain ⟨zgb, rfl, Nq14, Kq14, zgx, zfo, zgy, zik, zil⟩ := hQ14
  have N14 := Fr.app N13 Nq14
  have hsf : ∀ x ∈ [b1, zbi], Safe Z consts_1 _ _ x := (sfS zag (sfS zbx sf0))
  replace CR := CR.trans (CHr.keep Kq14 hsf CH)
  replace CH := CH.keep Kq14 hsf
  replace hk := Nat.le_trans hk Kq14.1
  clear hsf
  replace E_b1 := E_b1.keep Kq14
  replace O := O.keep Kq14 (allS g_b1 (allS zeq all0))
  replace K := K.trans Kq14 (allS (Or.inr zas) (allS (Or.inr zhk) all0))
  replace Zn := Nat.le_trans Zn Kq14.1
  replace zfo : Fld Z h14 b1 k_8 "count" "I" (.int (21 : Int32)) := zfo
  refine Go.st st14 ?_
  obtain ⟨v15, T15, L15, X15, hQ15, st15⟩ := callVi X14 hx hZ (C := k_15) (y := y_36) (z := y_36) (a := b1) (argsL := []) (rest := []) hown (wk hw 198 rfl) (wk hw 199 rfl) (notFace_of_selects (args := #[]) (mvT (s := (s.setVm T12.vm)) hZ (wk hw 201 rfl))) (wk hw 201 rfl) (wk hw 200 rfl) (wk hw 121 rfl) (wk hw 202 rfl) (by decide) rfl E_b1 (rm36 l Z a0 hw [] b1 zbi zgb zc h14 n0 Zn E_b1 zgx zfo zgy zik zil SC hzc O) e14 0 (by decide) (by decide) (by decide) (by decide) (g := (mkF m 44 #[.val (.ref fm), .val (.ref a2), .val (.ref a3)] [(.ref b1)])) rfl (by rw [hml]; rfl) (lenOf pd_35 rfl) rfl (Nat.le_of_eq rfl) (hb hby d24_44)
  obtain ⟨h15, e15⟩ : ∃ z, T15.heap = z := ⟨_, rfl⟩
  rw [e15] at hQ15
  obtain ⟨r_15, t_15, zim, rfl, Nq15, Kq15, zgz, zin, zha, zhb, zio, zip⟩ := hQ15
  have N15 := Fr.app N14 Nq15
  have ziq : h0.size ≤ r_15 := Nat.le_trans K.1 zgz
  have zir : h0.size ≤ t_15 := Nat.le_trans K.1 zin
  have hsf : ∀ x ∈ ([] : List Addr), Safe Z consts_1 T12.vm h14 x := sf0
  replace CR := CR.trans (CHr.keep Kq15 hsf CH)
  replace CH := CH.keep Kq15 hsf
  replace hk := Nat.le_trans hk Kq15.1
  clear hsf
  replace O := O.keep Kq15 all0
  replace K := K.trans Kq15 all0
  replace Zn := Nat.le_trans Zn Kq15.1
  refine Go.st st15 ?_
  show Go p.tables e below PP (T15.setTop (mkF m 47 #[.val (.ref fm), .val (.ref a2), .val (.ref a3)] [(.ref r_15)]))
  rw [hPP]
  refine endRW X15 hx hlk hZ hS e15 hk hEL CH CR hret rfl rfl (hb hby d24_47) ?_ (by decide) (by decide)
  show Q24 Z fm a2 a3 pl pa pv fp co cv fc t2 f2 t3 f3 zc h0 n0 (some (.ref r_15)) T15.heap _
  rw [e15]
  exact ⟨r_15, t_15, zim, rfl, N15, K, ziq, zir, zha, zhb, zio, zip⟩
abbrev r_rm10u : Room := { frames := 5, cells := 2, slots := 12, locals := 72 }
def Q10u (Z : State) (fm : Addr) (a2 : Addr) (a3 : Addr) (pl : Addr) (t2 : Addr) (f2 : Nat → Int32) (t3 : Addr) (f3 : Nat → Int32) (zc : Int32) (h0 : Heap) (n0 : Nat) (v : Option Value) (h : Heap) (L : List Loc) : Prop := v = none ∧ Fr n0 L ∧ Keep h0 h []
theorem rm10u (l : Launch) (Z : State) (a0 : Array Value) (hw : HWt Z a0) (ws : List Jvm.Cond) (fm : Addr) (a2 : Addr) (a3 : Addr) (pl : Addr) (t2 : Addr) (f2 : Nat → Int32) (t3 : Addr) (f3 : Nat → Int32) (zc : Int32) (h0 : Heap) (n0 : Nat) (Z0 : n0 ≤ h0.size) (hEL : EW Z a0 consts_1) (FE : Exa Z h0 fm k_1) (FL : Fld Z h0 fm k_1 "parentLabel" "Ljava/lang/String;" (.ref pl)) (zad : Fld Z h0 a2 k_14 "value" "[B" (.ref t2)) (zae : Fld Z h0 a2 k_14 "coder" "B" (.int (0 : Int32))) (V_t2 : Afn Z h0 t2 .byte (1 : Int32) (fun k => .int (f2 k))) (E_a2 : Exa Z h0 a2 k_14) (zaf : Fld Z h0 a3 k_14 "value" "[B" (.ref t3)) (zah : Fld Z h0 a3 k_14 "coder" "B" (.int (1 : Int32))) (V_t3 : Afn Z h0 t3 .byte (2 : Int32) (fun k => .int (f3 k))) (E_a3 : Exa Z h0 a3 k_14) (hds : ¬ f2 0 = (47 : Int32)) (SC : SS0 Z zc) (hzc : ¬ zc = (0 : Int32)) (O : Old Z n0 h0) :
    ConH l Z consts_1 y_10 prog_27_method_2_code 3 none ws r_rm10u #[(.ref fm), (.ref a2), (.ref a3)] h0 (Q10u Z fm a2 a3 pl t2 f2 t3 f3 zc h0 n0) := by
  refine ConH.of (plainFor_of_name pn_rm11) ?_
  intro p e s m below meth c s₁ vm0 k0 hZ e0 X0 hx hby hml hown hnm hret hlk hS hk CH CR
  have N0 : Fr n0 [] := Fr.nil n0
  obtain ⟨PP, hPP⟩ : ∃ P, P = FineW Z consts_1 s below (Q10u Z fm a2 a3 pl t2 f2 t3 f3 zc h0 n0) r_rm10u.cells r_rm10u.slots := ⟨_, rfl⟩
  rw [← hPP]
  refine Go.cast (ef_rm10 m fm a2 a3) ?_
  have K : Keep h0 h0 [] := Keep.refl h0 _
  have Zn : n0 ≤ h0.size := Z0
  show Go p.tables e below PP (s₁.setTop (mkF m 0 #[.val (.ref fm), .val (.ref a2), .val (.ref a3)] []))
  refine Go.st (fun t k => XS.aloadN X0.here hx rfl (hb hby d10_0) rfl rfl (XS.aloadN X0.here hx rfl (hb hby d10_1) rfl rfl k)) ?_
  obtain ⟨v1, T1, L1, X1, hQ1, st1⟩ := callVi X0 hx hZ (C := k_1) (y := y_11) (z := y_11) (a := fm) (argsL := [(.ref a2)]) (rest := []) hown (wk hw 54 rfl) (wk hw 55 rfl) (notFace_of_selects (args := #[]) (mvT (s := (s.setVm vm0)) hZ (wk hw 57 rfl))) (wk hw 57 rfl) (wk hw 56 rfl) (wk hw 52 rfl) (wk hw 58 rfl) (by decide) rfl FE (rm11 l Z a0 hw [] fm a2 pl t2 f2 zc h0 n0 Zn FL zad zae V_t2 E_a2 hds SC hzc O) e0 0 (by decide) (by decide) (by decide) (by decide) (g := (mkF m 2 #[.val (.ref fm), .val (.ref a2), .val (.ref a3)] [(.ref a2), (.ref fm)])) rfl (by rw [hml]; rfl) (lenOf pd_23 rfl) rfl (Nat.le_of_eq rfl) (hb hby d10_2)
  obtain ⟨rfl, rfl, e1⟩ := hQ1
  rw [List.append_nil] at X1
  refine Go.st st1 ?_
  refine Go.st (fun t k => XS.aloadN X1.here hx rfl (hb hby d10_5) rfl rfl k) ?_
  show Go p.tables e below PP (T1.setTop (mkF m 6 #[.val (.ref fm), .val (.ref a2), .val (.ref a3)] [(.ref a3)]))
  obtain ⟨sa2, T2, h2, kk2, sb2, kc2, X2, e2, E2, hS2, hk2, hZ2, hown2, Es2, Fc2, Fv2, As2, -, -, hC2, -, nS2, st2⟩ := ldcCH X1 hx hZ hown (wk hw 111 rfl) (strA hw) e1 hS hk hEL (List.mem_of_getElem? (i := 0) rfl) CH (vs := [(.int (105 : Int32)), (.int (100 : Int32))]) (z := (2 : Int32)) (by decide) (by decide) (by decide) (g := (mkF m 6 #[.val (.ref fm), .val (.ref a2), .val (.ref a3)] [(.ref a3)])) rfl (hb hby d10_6) (n := 8) (by decide) (by decide) (by decide) (by decide)
  replace FE := FE.ext E2
  replace FL := FL.ext E2
  replace zaf := zaf.ext E2
  replace V_t3 := V_t3.ext E2
  replace E_a3 := E_a3.ext E2
  replace O := O.ext E2
  replace K := K.ext E2
  replace Zn := Nat.le_trans Zn E2.1
  replace CR := CR.trans hC2
  replace CH := hC2.1
  replace hS := hS2
  replace hk := hk2
  replace hZ := hZ2
  replace hown := hown2
  refine Go.st st2 ?_
  replace As2 := Afn.of_arv As2
  obtain ⟨v3, T3, L3, X3, hQ3, st3⟩ := callSt X2 hx hZ (y := y_12) (argsL := [(.ref a3), (.ref sa2)]) (rest := []) hown (wk hw 61 rfl) (wk hw 62 rfl) (wk hw 63 rfl) (wk hw 64 rfl) (by decide) (rm12 l Z a0 hw [] a3 sa2 h2 n0 Zn) e2 0 (by decide) (by decide) (by decide) (by decide) (g := (mkF m 8 #[.val (.ref fm), .val (.ref a2), .val (.ref a3)] [(.ref sa2), (.ref a3)])) rfl (by rw [hml]; rfl) (lenOf pd_33 rfl) rfl (Nat.le_of_eq rfl) (hb hby d10_8)
  obtain ⟨rfl, rfl, e3⟩ := hQ3
  rw [List.append_nil] at X3
  refine Go.st st3 ?_
  refine Go.st (fun t k => XS.pop X3.here hx rfl (hb hby d10_11) rfl rfl (XS.aloadN X3.here hx rfl (hb hby d10_12) rfl rfl k)) ?_
  obtain ⟨v4, T4, L4, X4, hQ4, st4⟩ := callVi X3 hx hZ (C := k_14) (y := y_13) (z := y_13) (a := a3) (argsL := []) (rest := []) hown (wk hw 65 rfl) (wk hw 66 rfl) (notFace_of_selects (args := #[]) (mvT (s := (s.setVm T2.vm)) hZ (wk hw 68 rfl))) (wk hw 68 rfl) (wk hw 67 rfl) (wk hw 14 rfl) (wk hw 69 rfl) (by decide) rfl E_a3 (rm13_2 l Z a0 hw [] a3 t3 f3 h2 n0 Zn zaf V_t3) e3 0 (by decide) (by decide) (by decide) (by decide) (g := (mkF m 13 #[.val (.ref fm), .val (.ref a2), .val (.ref a3)] [(.ref a3)])) rfl (by rw [hml]; rfl) (lenOf pd_4 rfl) rfl (Nat.le_of_eq rfl) (hb hby d10_13)
  obtain ⟨rfl, rfl, e4⟩ := hQ4
  rw [List.append_nil] at X4
  refine Go.st st4 ?_
  refine Go.st (fun t k => XS.ifYes X4.here hx rfl (pc0 := 16) (pc' := 29) rfl (hb hby d10_16) rfl (XT.i0_eq_t (by decide)) (by decide) (by decide) k) ?_
  show Go p.tables e below PP (T4.setTop (mkF m 29 #[.val (.ref fm), .val (.ref a2), .val (.ref a3)] []))
  rw [hPP]
  refine endVW X4 hx hlk hZ hS e4 hk hEL CH CR hret (hb hby d10_29) ?_ (by decide) (by decide)
  show Q10u Z fm a2 a3 pl t2 f2 t3 f3 zc h0 n0 none T4.heap _
  rw [e4]
  exact ⟨rfl, N0, K⟩
abbrev r_rm24u : Room := { frames := 10, cells := 12, slots := 192, locals := 143 }
def Q24u (Z : State) (fm : Addr) (a2 : Addr) (a3 : Addr) (pl : Addr) (pa : Addr) (pv : Addr) (fp : Nat → Int32) (co : Addr) (cv : Addr) (fc : Nat → Int32) (t2 : Addr) (f2 : Nat → Int32) (t3 : Addr) (f3 : Nat → Int32) (zc : Int32) (sv : Value) (h0 : Heap) (n0 : Nat) (v : Option Value) (h : Heap) (L : List Loc) : Prop := ∃ (r : Addr) (t : Addr) (f' : Nat → Int32), v = some (.ref r) ∧ Fr n0 L ∧ Keep h0 h [] ∧ h0.size ≤ r ∧ h0.size ≤ t ∧ Exa Z h r k_14 ∧ Fld Z h r k_14 "coder" "B" (.int (1 : Int32)) ∧ Fld Z h r k_14 "value" "[B" (.ref t) ∧ Afn Z h t .byte (42 : Int32) (fun k => .int (f' k)) ∧ ∀ j, j < 20 → f' (2 * j + 1) = (0 : Int32)
theorem rm24u (l : Launch) (Z : State) (a0 : Array Value) (hw : HWt Z a0) (ws : List Jvm.Cond) (fm : Addr) (a2 : Addr) (a3 : Addr) (pl : Addr) (pa : Addr) (pv : Addr) (fp : Nat → Int32) (co : Addr) (cv : Addr) (fc : Nat → Int32) (t2 : Addr) (f2 : Nat → Int32) (t3 : Addr) (f3 : Nat → Int32) (zc : Int32) (sv : Value) (h0 : Heap) (n0 : Nat) (Z0 : n0 ≤ h0.size) (hEL : EW Z a0 consts_1) (FE : Exa Z h0 fm k_1) (FL : Fld Z h0 fm k_1 "parentLabel" "Ljava/lang/String;" (.ref pl)) (FP : Fld Z h0 fm k_1 "parents" "Ljava/lang/String;" (.ref pa)) (FPe : Exa Z h0 pa k_14) (FPv : Fld Z h0 pa k_14 "value" "[B" (.ref pv)) (FPc : Fld Z h0 pa k_14 "coder" "B" (.int (0 : Int32))) (FPa : Afn Z h0 pv .byte (11 : Int32) (fun k => .int (fp k))) (FC : Fld Z h0 fm k_1 "collection" "Ljava/lang/String;" (.ref co)) (FCe : Exa Z h0 co k_14) (FCv : Fld Z h0 co k_14 "value" "[B" (.ref cv)) (FCc : Fld Z h0 co k_14 "coder" "B" (.int (0 : Int32))) (FCa : Afn Z h0 cv .byte (5 : Int32) (fun k => .int (fc k))) (zad : Fld Z h0 a2 k_14 "value" "[B" (.ref t2)) (zae : Fld Z h0 a2 k_14 "coder" "B" (.int (0 : Int32))) (V_t2 : Afn Z h0 t2 .byte (1 : Int32) (fun k => .int (f2 k))) (E_a2 : Exa Z h0 a2 k_14) (zaf : Fld Z h0 a3 k_14 "value" "[B" (.ref t3)) (zah : Fld Z h0 a3 k_14 "coder" "B" (.int (1 : Int32))) (V_t3 : Afn Z h0 t3 .byte (2 : Int32) (fun k => .int (f3 k))) (E_a3 : Exa Z h0 a3 k_14) (SC : SS0 Z zc) (hzc : ¬ zc = (0 : Int32)) (O : Old Z n0 h0) (SA : SS2 Z) (SHi : SS3 Z) (SLo : SS4 Z) (SV : SS1 Z sv) (hr_sv : sv.isRef = true) :
    ConH l Z consts_1 y_24 prog_27_method_5_code 3 (some (.object "java/lang/String")) ws r_rm24u #[(.ref fm), (.ref a2), (.ref a3)] h0 (Q24u Z fm a2 a3 pl pa pv fp co cv fc t2 f2 t3 f3 zc sv h0 n0) := by
  refine ConH.of (plainFor_of_name pn_rm11) ?_
  intro p e s m below meth c s₁ vm0 k0 hZ e0 X0 hx hby hml hown hnm hret hlk hS hk CH CR
  have N0 : Fr n0 [] := Fr.nil n0
  obtain ⟨PP, hPP⟩ : ∃ P, P = FineW Z consts_1 s below (Q24u Z fm a2 a3 pl pa pv fp co cv fc t2 f2 t3 f3 zc sv h0 n0) r_rm24u.cells r_rm24u.slots := ⟨_, rfl⟩
  rw [← hPP]
  refine Go.cast (ef_rm10 m fm a2 a3) ?_
  have K : Keep h0 h0 [] := Keep.refl h0 _
  have Zn : n0 ≤ h0.size := Z0
  obtain ⟨T1, h1, X1, e1, E1, A1, D1, U1, st1⟩ := newO X0 hx hZ hown (wk hw 119 rfl) (wk hw 120 rfl) (wk hw 121 rfl) e0 (g := (mkF m 0 #[.val (.ref fm), .val (.ref a2), .val (.ref a3)] [])) rfl (hb hby d24_0) (by decide) (by decide)
  obtain ⟨b1, gz1⟩ : ∃ z, z = h0.size := ⟨_, rfl⟩
  rw [← gz1] at A1 D1 U1 st1
  have zap : fm ≠ b1 := Nat.ne_of_lt (Nat.lt_of_lt_of_le FE.lt (Nat.le_of_eq gz1.symm))
  have zdf : pa ≠ b1 := Nat.ne_of_lt (Nat.lt_of_lt_of_le FPe.lt (Nat.le_of_eq gz1.symm))
  have zez : pv ≠ b1 := Nat.ne_of_lt (Nat.lt_of_lt_of_le FPa.lt (Nat.le_of_eq gz1.symm))
  have zbd : co ≠ b1 := Nat.ne_of_lt (Nat.lt_of_lt_of_le FCe.lt (Nat.le_of_eq gz1.symm))
  have zcn : cv ≠ b1 := Nat.ne_of_lt (Nat.lt_of_lt_of_le FCa.lt (Nat.le_of_eq gz1.symm))
  have zce : a2 ≠ b1 := Nat.ne_of_lt (Nat.lt_of_lt_of_le zad.lt (Nat.le_of_eq gz1.symm))
  have zed : t2 ≠ b1 := Nat.ne_of_lt (Nat.lt_of_lt_of_le V_t2.lt (Nat.le_of_eq gz1.symm))
  have zax : a3 ≠ b1 := Nat.ne_of_lt (Nat.lt_of_lt_of_le zaf.lt (Nat.le_of_eq gz1.symm))
  have zcf : t3 ≠ b1 := Nat.ne_of_lt (Nat.lt_of_lt_of_le V_t3.lt (Nat.le_of_eq gz1.symm))
  have g_b1 : n0 ≤ b1 := Nat.le_trans Zn (Nat.le_of_eq gz1.symm)
  have zas : h0.size ≤ b1 := Nat.le_trans K.1 (Nat.le_of_eq gz1.symm)
  have zag : Safe Z consts_1 vm0 h0 b1 := Safe.new (Nat.le_of_eq gz1.symm)
  refine Go.st st1 ?_
  replace FE := FE.ext E1
  replace FL := FL.ext E1
  replace FP := FP.ext E1
  replace FPe := FPe.ext E1
  replace FPv := FPv.ext E1
  replace FPc := FPc.ext E1
  replace FPa := FPa.ext E1
  replace FC := FC.ext E1
  replace FCe := FCe.ext E1
  replace FCv := FCv.ext E1
  replace FCc := FCc.ext E1
  replace FCa := FCa.ext E1
  replace zad := zad.ext E1
  replace zae := zae.ext E1
  replace V_t2 := V_t2.ext E1
  replace E_a2 := E_a2.ext E1
  replace zaf := zaf.ext E1
  replace zah := zah.ext E1
  replace V_t3 := V_t3.ext E1
  replace E_a3 := E_a3.ext E1
  replace zag := Safe.ext E1 CH zag
  replace CR := CR.trans (CHr.ext E1 CH)
  replace CH := CH.ext E1
  replace hk := Nat.le_trans hk E1.1
  replace O := O.ext E1
  replace K := K.ext E1
  replace Zn := Nat.le_trans Zn E1.1
  have E_b1 := A1
  have zex : Fld Z h1 b1 k_8 "value" "[B" .null := D1 (Or.inl (wk hw 134 rfl)) (ty := (.array .byte)) (by decide)
  have zey : Fld Z h1 b1 k_8 "coder" "B" (.int (0 : Int32)) := D1 (Or.inl (wk hw 136 rfl)) (ty := .byte) (by decide)
  have zib : Fld Z h1 b1 k_8 "count" "I" (.int (0 : Int32)) := D1 (Or.inl (wk hw 151 rfl)) (ty := .int) (by decide)
  have zic : Fld Z h1 b1 k_8 "maybeLatin1" "Z" (.int (0 : Int32)) := D1 (Or.inl (wk hw 447 rfl)) (ty := .boolean) (by decide)
  refine Go.st (fun t k => XS.dup X1.here hx rfl (hb hby d24_3) rfl rfl k) ?_
  obtain ⟨v2, T2, L2, X2, hQ2, st2⟩ := callIn X1 hx hZ (y := y_25) (a := b1) (argsL := []) (rest := [(.ref b1)]) rfl hown (wk hw 122 rfl) (wk hw 123 rfl) (wk hw 121 rfl) (wk hw 124 rfl) (by decide) (rm25 l Z a0 hw [] b1 zc h1 n0 Zn E_b1 zex zib zey zic g_b1 SC hzc O) e1 1 (by decide) (by decide) (by decide) (by decide) (g := (mkF m 4 #[.val (.ref fm), .val (.ref a2), .val (.ref a3)] [(.ref b1), (.ref b1)])) rfl (by rw [hml]; rfl) (lenOf pd_21 rfl) rfl (Nat.le_of_eq rfl) (hb hby d24_4)
  obtain ⟨h2, e2⟩ : ∃ z, T2.heap = z := ⟨_, rfl⟩
  rw [e2] at hQ2
  obtain ⟨zal, fx_2, rfl, Nq2, Kq2, zam, zaq, zaz, zbl, zdg, zgm⟩ := hQ2
  have N2 := Fr.app N0 Nq2
  have zbh : fm ≠ zal := Nat.ne_of_lt (Nat.lt_of_lt_of_le FE.lt zam)
  have zfa : pa ≠ zal := Nat.ne_of_lt (Nat.lt_of_lt_of_le FPe.lt zam)
  have zgn : pv ≠ zal := Nat.ne_of_lt (Nat.lt_of_lt_of_le FPa.lt zam)
  have zbt : co ≠ zal := Nat.ne_of_lt (Nat.lt_of_lt_of_le FCe.lt zam)
  have zdh : cv ≠ zal := Nat.ne_of_lt (Nat.lt_of_lt_of_le FCa.lt zam)
  have zdi : a2 ≠ zal := Nat.ne_of_lt (Nat.lt_of_lt_of_le zad.lt zam)
  have zfb : t2 ≠ zal := Nat.ne_of_lt (Nat.lt_of_lt_of_le V_t2.lt zam)
  have zcg : a3 ≠ zal := Nat.ne_of_lt (Nat.lt_of_lt_of_le zaf.lt zam)
  have zee : t3 ≠ zal := Nat.ne_of_lt (Nat.lt_of_lt_of_le V_t3.lt zam)
  have zcv : b1 ≠ zal := Nat.ne_of_lt (Nat.lt_of_lt_of_le E_b1.lt zam)
  have zbu : n0 ≤ zal := Nat.le_trans Zn zam
  have zef : h0.size ≤ zal := Nat.le_trans K.1 zam
  have zao : Safe Z consts_1 vm0 h1 zal := Safe.new zam
  have hsf : ∀ x ∈ [b1], Safe Z consts_1 _ _ x := (sfS zag sf0)
  replace zag := Safe.keep Kq2 hsf CH zag
  replace zao := Safe.keep Kq2 hsf CH zao
  replace CR := CR.trans (CHr.keep Kq2 hsf CH)
  replace CH := CH.keep Kq2 hsf
  replace hk := Nat.le_trans hk Kq2.1
  clear hsf
  replace FE := FE.keep Kq2
  replace FL := FL.keep Kq2 (ninS zap nin0)
  replace FP := FP.keep Kq2 (ninS zap nin0)
  replace FPe := FPe.keep Kq2
  replace FPv := FPv.keep Kq2 (ninS zdf nin0)
  replace FPc := FPc.keep Kq2 (ninS zdf nin0)
  replace FPa := FPa.keep Kq2 (ninS zez nin0)
  replace FC := FC.keep Kq2 (ninS zap nin0)
  replace FCe := FCe.keep Kq2
  replace FCv := FCv.keep Kq2 (ninS zbd nin0)
  replace FCc := FCc.keep Kq2 (ninS zbd nin0)
  replace FCa := FCa.keep Kq2 (ninS zcn nin0)
  replace zad := zad.keep Kq2 (ninS zce nin0)
  replace zae := zae.keep Kq2 (ninS zce nin0)
  replace V_t2 := V_t2.keep Kq2 (ninS zed nin0)
  replace E_a2 := E_a2.keep Kq2
  replace zaf := zaf.keep Kq2 (ninS zax nin0)
  replace zah := zah.keep Kq2 (ninS zax nin0)
  replace V_t3 := V_t3.keep Kq2 (ninS zcf nin0)
  replace E_a3 := E_a3.keep Kq2
  replace E_b1 := E_b1.keep Kq2
  replace O := O.keep Kq2 (allS g_b1 all0)
  replace K := K.trans Kq2 (allS (Or.inr zas) all0)
  replace Zn := Nat.le_trans Zn Kq2.1
  refine Go.st st2 ?_
  refine Go.st (fun t k => XS.aloadN X2.here hx rfl (hb hby d24_7) rfl rfl k) ?_
  obtain ⟨T3, X3, e3, st3⟩ := getF X2 hx hZ hown (host := "") (Or.inl (wk hw 137 rfl)) Via.refl e2 FP (g := (mkF m 8 #[.val (.ref fm), .val (.ref a2), .val (.ref a3)] [(.ref fm), (.ref b1)])) rfl rfl (hb hby d24_8)
  refine Go.st st3 ?_
  obtain ⟨v4, T4, L4, X4, hQ4, st4⟩ := callVi X3 hx hZ (C := k_15) (y := y_27) (z := y_27) (a := b1) (argsL := [(.ref pa)]) (rest := []) hown (wk hw 139 rfl) (wk hw 140 rfl) (notFace_of_selects (args := #[]) (mvT (s := (s.setVm vm0)) hZ (wk hw 142 rfl))) (wk hw 142 rfl) (wk hw 141 rfl) (wk hw 121 rfl) (wk hw 143 rfl) (by decide) rfl E_b1 (rm27a l Z a0 hw [] b1 pa zal fx_2 (16 : Int32) (0 : Int32) pv (11 : Int32) fp zc h2 n0 Zn E_b1 zaq zaz zbl zdg zgm FPv FPc FPa FPe g_b1 zbu zcv zdf zez zfa zgn (by decide) SC hzc O) e3 0 (by decide) (by decide) (by decide) (by decide) (g := (mkF m 11 #[.val (.ref fm), .val (.ref a2), .val (.ref a3)] [(.ref pa), (.ref b1)])) rfl (by rw [hml]; rfl) (lenOf pd_34 rfl) rfl (Nat.le_of_eq rfl) (hb hby d24_11)
  obtain ⟨h4, e4⟩ : ∃ z, T4.heap = z := ⟨_, rfl⟩
  rw [e4] at hQ4
  obtain ⟨fx_4, rfl, Nq4, Kq4, zaw, zbr, zck, zcl, zdc⟩ := hQ4
  have N4 := Fr.app N2 Nq4
  have hsf : ∀ x ∈ [b1, zal], Safe Z consts_1 _ _ x := (sfS zag (sfS zao sf0))
  replace zag := Safe.keep Kq4 hsf CH zag
  replace zao := Safe.keep Kq4 hsf CH zao
  replace CR := CR.trans (CHr.keep Kq4 hsf CH)
  replace CH := CH.keep Kq4 hsf
  replace hk := Nat.le_trans hk Kq4.1
  clear hsf
  replace FE := FE.keep Kq4
  replace FL := FL.keep Kq4 (ninS zap (ninS zbh nin0))
  replace FP := FP.keep Kq4 (ninS zap (ninS zbh nin0))
  replace FPe := FPe.keep Kq4
  replace FPv := FPv.keep Kq4 (ninS zdf (ninS zfa nin0))
  replace FPc := FPc.keep Kq4 (ninS zdf (ninS zfa nin0))
  replace FPa := FPa.keep Kq4 (ninS zez (ninS zgn nin0))
  replace FC := FC.keep Kq4 (ninS zap (ninS zbh nin0))
  replace FCe := FCe.keep Kq4
  replace FCv := FCv.keep Kq4 (ninS zbd (ninS zbt nin0))
  replace FCc := FCc.keep Kq4 (ninS zbd (ninS zbt nin0))
  replace FCa := FCa.keep Kq4 (ninS zcn (ninS zdh nin0))
  replace zad := zad.keep Kq4 (ninS zce (ninS zdi nin0))
  replace zae := zae.keep Kq4 (ninS zce (ninS zdi nin0))
  replace V_t2 := V_t2.keep Kq4 (ninS zed (ninS zfb nin0))
  replace E_a2 := E_a2.keep Kq4
  replace zaf := zaf.keep Kq4 (ninS zax (ninS zcg nin0))
  replace zah := zah.keep Kq4 (ninS zax (ninS zcg nin0))
  replace V_t3 := V_t3.keep Kq4 (ninS zcf (ninS zee nin0))
  replace E_a3 := E_a3.keep Kq4
  replace E_b1 := E_b1.keep Kq4
  replace O := O.keep Kq4 (allS g_b1 (allS zbu all0))
  replace K := K.trans Kq4 (allS (Or.inr zas) (allS (Or.inr zef) all0))
  replace Zn := Nat.le_trans Zn Kq4.1
  replace zbr : Fld Z h4 b1 k_8 "count" "I" (.int (11 : Int32)) := zbr
  refine Go.st st4 ?_
  show Go p.tables e below PP (T4.setTop (mkF m 14 #[.val (.ref fm), .val (.ref a2), .val (.ref a3)] [(.ref b1)]))
  obtain ⟨sa5, T5, h5, kk5, sb5, kc5, X5, e5, E5, hS5, hk5, hZ5, hown5, Es5, Fc5, Fv5, As5, -, -, hC5, -, nS5, st5⟩ := ldcCH X4 hx hZ hown (wk hw 177 rfl) (strA hw) e4 hS hk hEL (List.mem_of_getElem? (i := 1) rfl) CH (vs := [(.int (47 : Int32))]) (z := (1 : Int32)) (by decide) (by decide) (by decide) (g := (mkF m 14 #[.val (.ref fm), .val (.ref a2), .val (.ref a3)] [(.ref b1)])) rfl (hb hby d24_14) (n := 4) (by decide) (by decide) (by decide) (by decide)
  have lt_b1 := E_b1.lt
  have lt_tvx_2 := zdc.lt
  replace FE := FE.ext E5
  replace FL := FL.ext E5
  replace FP := FP.ext E5
  replace FC := FC.ext E5
  replace FCe := FCe.ext E5
  replace FCv := FCv.ext E5
  replace FCc := FCc.ext E5
  replace FCa := FCa.ext E5
  replace zad := zad.ext E5
  replace zae := zae.ext E5
  replace V_t2 := V_t2.ext E5
  replace E_a2 := E_a2.ext E5
  replace zaf := zaf.ext E5
  replace zah := zah.ext E5
  replace V_t3 := V_t3.ext E5
  replace E_a3 := E_a3.ext E5
  replace E_b1 := E_b1.ext E5
  replace zaw := zaw.ext E5
  replace zbr := zbr.ext E5
  replace zck := zck.ext E5
  replace zcl := zcl.ext E5
  replace zdc := zdc.ext E5
  replace O := O.ext E5
  replace K := K.ext E5
  replace zag := hC5.safe lt_b1 zag
  replace zao := hC5.safe lt_tvx_2 zao
  have zfc : b1 ≠ sa5 := (nS5 _ zag).1
  have zgo : b1 ≠ sb5 := (nS5 _ zag).2
  have zfd : zal ≠ sa5 := (nS5 _ zao).1
  have zgp : zal ≠ sb5 := (nS5 _ zao).2
  replace Zn := Nat.le_trans Zn E5.1
  replace CR := CR.trans hC5
  replace CH := hC5.1
  replace hS := hS5
  replace hk := hk5
  replace hZ := hZ5
  replace hown := hown5
  refine Go.st st5 ?_
  replace As5 := Afn.of_arv As5
  obtain ⟨fs5, hfs5⟩ : ∃ f : Nat → Int32, Afn Z h5 sb5 .byte (1 : Int32) (fun k => .int (f k)) := ⟨_, own_ints As5⟩
  replace As5 := hfs5
  obtain ⟨v6, T6, L6, X6, hQ6, st6⟩ := callVi X5 hx hZ (C := k_15) (y := y_27) (z := y_27) (a := b1) (argsL := [(.ref sa5)]) (rest := []) hown (wk hw 139 rfl) (wk hw 140 rfl) (notFace_of_selects (args := #[]) (mvT (s := (s.setVm T5.vm)) hZ (wk hw 142 rfl))) (wk hw 142 rfl) (wk hw 141 rfl) (wk hw 121 rfl) (wk hw 143 rfl) (by decide) rfl E_b1 (rm27a l Z a0 hw [] b1 sa5 zal fx_4 (16 : Int32) (11 : Int32) sb5 (1 : Int32) fs5 zc h5 n0 Zn E_b1 zaw zbr zck zcl zdc Fv5 Fc5 As5 Es5 g_b1 zbu zcv (Ne.symm zfc) (Ne.symm zgo) (Ne.symm zfd) (Ne.symm zgp) (by decide) SC hzc O) e5 0 (by decide) (by decide) (by decide) (by decide) (g := (mkF m 16 #[.val (.ref fm), .val (.ref a2), .val (.ref a3)] [(.ref sa5), (.ref b1)])) rfl (by rw [hml]; rfl) (lenOf pd_34 rfl) rfl (Nat.le_of_eq rfl) (hb hby d24_16)
  obtain ⟨h6, e6⟩ : ∃ z, T6.heap = z := ⟨_, rfl⟩
  rw [e6] at hQ6
  obtain ⟨fx_6, rfl, Nq6, Kq6, zcd, zch, zgq, zid, zie⟩ := hQ6
  have N6 := Fr.app N4 Nq6
  have hsf : ∀ x ∈ [b1, zal], Safe Z consts_1 _ _ x := (sfS zag (sfS zao sf0))
  replace zag := Safe.keep Kq6 hsf CH zag
  replace zao := Safe.keep Kq6 hsf CH zao
  replace CR := CR.trans (CHr.keep Kq6 hsf CH)
  replace CH := CH.keep Kq6 hsf
  replace hk := Nat.le_trans hk Kq6.1
  clear hsf
  replace FE := FE.keep Kq6
  replace FL := FL.keep Kq6 (ninS zap (ninS zbh nin0))
  replace FP := FP.keep Kq6 (ninS zap (ninS zbh nin0))
  replace FC := FC.keep Kq6 (ninS zap (ninS zbh nin0))
  replace FCe := FCe.keep Kq6
  replace FCv := FCv.keep Kq6 (ninS zbd (ninS zbt nin0))
  replace FCc := FCc.keep Kq6 (ninS zbd (ninS zbt nin0))
  replace FCa := FCa.keep Kq6 (ninS zcn (ninS zdh nin0))
  replace zad := zad.keep Kq6 (ninS zce (ninS zdi nin0))
  replace zae := zae.keep Kq6 (ninS zce (ninS zdi nin0))
  replace V_t2 := V_t2.keep Kq6 (ninS zed (ninS zfb nin0))
  replace E_a2 := E_a2.keep Kq6
  replace zaf := zaf.keep Kq6 (ninS zax (ninS zcg nin0))
  replace zah := zah.keep Kq6 (ninS zax (ninS zcg nin0))
  replace V_t3 := V_t3.keep Kq6 (ninS zcf (ninS zee nin0))
  replace E_a3 := E_a3.keep Kq6
  replace E_b1 := E_b1.keep Kq6
  replace Es5 := Es5.keep Kq6
  replace Fc5 := Fc5.keep Kq6 (ninS (Ne.symm zfc) (ninS (Ne.symm zfd) nin0))
  replace Fv5 := Fv5.keep Kq6 (ninS (Ne.symm zfc) (ninS (Ne.symm zfd) nin0))
  replace As5 := As5.keep Kq6 (ninS (Ne.symm zgo) (ninS (Ne.symm zgp) nin0))
  replace O := O.keep Kq6 (allS g_b1 (allS zbu all0))
  replace K := K.trans Kq6 (allS (Or.inr zas) (allS (Or.inr zef) all0))
  replace Zn := Nat.le_trans Zn Kq6.1
  replace zch : Fld Z h6 b1 k_8 "count" "I" (.int (12 : Int32)) := zch
  refine Go.st st6 ?_
  refine Go.st (fun t k => XS.aloadN X6.here hx rfl (hb hby d24_19) rfl rfl k) ?_
  obtain ⟨v7, T7, L7, X7, hQ7, st7⟩ := callVi X6 hx hZ (C := k_15) (y := y_27) (z := y_27) (a := b1) (argsL := [(.ref a2)]) (rest := []) hown (wk hw 139 rfl) (wk hw 140 rfl) (notFace_of_selects (args := #[]) (mvT (s := (s.setVm T5.vm)) hZ (wk hw 142 rfl))) (wk hw 142 rfl) (wk hw 141 rfl) (wk hw 121 rfl) (wk hw 143 rfl) (by decide) rfl E_b1 (rm27a l Z a0 hw [] b1 a2 zal fx_6 (16 : Int32) (12 : Int32) t2 (1 : Int32) f2 zc h6 n0 Zn E_b1 zcd zch zgq zid zie zad zae V_t2 E_a2 g_b1 zbu zcv zce zed zdi zfb (by decide) SC hzc O) e6 0 (by decide) (by decide) (by decide) (by decide) (g := (mkF m 20 #[.val (.ref fm), .val (.ref a2), .val (.ref a3)] [(.ref a2), (.ref b1)])) rfl (by rw [hml]; rfl) (lenOf pd_34 rfl) rfl (Nat.le_of_eq rfl) (hb hby d24_20)
  obtain ⟨h7, e7⟩ : ∃ z, T7.heap = z := ⟨_, rfl⟩
  rw [e7] at hQ7
  obtain ⟨fx_7, rfl, Nq7, Kq7, zca, zdj, zfe, zff, zeg⟩ := hQ7
  have N7 := Fr.app N6 Nq7
  have hsf : ∀ x ∈ [b1, zal], Safe Z consts_1 _ _ x := (sfS zag (sfS zao sf0))
  replace zag := Safe.keep Kq7 hsf CH zag
  replace zao := Safe.keep Kq7 hsf CH zao
  replace CR := CR.trans (CHr.keep Kq7 hsf CH)
  replace CH := CH.keep Kq7 hsf
  replace hk := Nat.le_trans hk Kq7.1
  clear hsf
  replace FE := FE.keep Kq7
  replace FL := FL.keep Kq7 (ninS zap (ninS zbh nin0))
  replace FP := FP.keep Kq7 (ninS zap (ninS zbh nin0))
  replace FC := FC.keep Kq7 (ninS zap (ninS zbh nin0))
  replace FCe := FCe.keep Kq7
  replace FCv := FCv.keep Kq7 (ninS zbd (ninS zbt nin0))
  replace FCc := FCc.keep Kq7 (ninS zbd (ninS zbt nin0))
  replace FCa := FCa.keep Kq7 (ninS zcn (ninS zdh nin0))
  replace zaf := zaf.keep Kq7 (ninS zax (ninS zcg nin0))
  replace zah := zah.keep Kq7 (ninS zax (ninS zcg nin0))
  replace V_t3 := V_t3.keep Kq7 (ninS zcf (ninS zee nin0))
  replace E_a3 := E_a3.keep Kq7
  replace E_b1 := E_b1.keep Kq7
  replace O := O.keep Kq7 (allS g_b1 (allS zbu all0))
  replace K := K.trans Kq7 (allS (Or.inr zas) (allS (Or.inr zef) all0))
  replace Zn := Nat.le_trans Zn Kq7.1
  replace zdj : Fld Z h7 b1 k_8 "count" "I" (.int (13 : Int32)) := zdj
  refine Go.st st7 ?_
  show Go p.tables e below PP (T7.setTop (mkF m 23 #[.val (.ref fm), .val (.ref a2), .val (.ref a3)] [(.ref b1)]))
  obtain ⟨sa8, T8, h8, kk8, sb8, kc8, X8, e8, E8, hS8, hk8, hZ8, hown8, Es8, Fc8, Fv8, As8, -, -, hC8, -, nS8, st8⟩ := ldcCH X7 hx hZ hown (wk hw 177 rfl) (strA hw) e7 hS hk hEL (List.mem_of_getElem? (i := 1) rfl) CH (vs := [(.int (47 : Int32))]) (z := (1 : Int32)) (by decide) (by decide) (by decide) (g := (mkF m 23 #[.val (.ref fm), .val (.ref a2), .val (.ref a3)] [(.ref b1)])) rfl (hb hby d24_23) (n := 4) (by decide) (by decide) (by decide) (by decide)
  have lt_b1 := E_b1.lt
  have lt_tvx_2 := zeg.lt
  replace FE := FE.ext E8
  replace FL := FL.ext E8
  replace FP := FP.ext E8
  replace FC := FC.ext E8
  replace FCe := FCe.ext E8
  replace FCv := FCv.ext E8
  replace FCc := FCc.ext E8
  replace FCa := FCa.ext E8
  replace zaf := zaf.ext E8
  replace zah := zah.ext E8
  replace V_t3 := V_t3.ext E8
  replace E_a3 := E_a3.ext E8
  replace E_b1 := E_b1.ext E8
  replace zca := zca.ext E8
  replace zdj := zdj.ext E8
  replace zfe := zfe.ext E8
  replace zff := zff.ext E8
  replace zeg := zeg.ext E8
  replace O := O.ext E8
  replace K := K.ext E8
  replace zag := hC8.safe lt_b1 zag
  replace zao := hC8.safe lt_tvx_2 zao
  have zfg : b1 ≠ sa8 := (nS8 _ zag).1
  have zgr : b1 ≠ sb8 := (nS8 _ zag).2
  have zfh : zal ≠ sa8 := (nS8 _ zao).1
  have zgs : zal ≠ sb8 := (nS8 _ zao).2
  replace Zn := Nat.le_trans Zn E8.1
  replace CR := CR.trans hC8
  replace CH := hC8.1
  replace hS := hS8
  replace hk := hk8
  replace hZ := hZ8
  replace hown := hown8
  refine Go.st st8 ?_
  replace As8 := Afn.of_arv As8
  obtain ⟨fs8, hfs8⟩ : ∃ f : Nat → Int32, Afn Z h8 sb8 .byte (1 : Int32) (fun k => .int (f k)) := ⟨_, own_ints As8⟩
  replace As8 := hfs8
  obtain ⟨v9, T9, L9, X9, hQ9, st9⟩ := callVi X8 hx hZ (C := k_15) (y := y_27) (z := y_27) (a := b1) (argsL := [(.ref sa8)]) (rest := []) hown (wk hw 139 rfl) (wk hw 140 rfl) (notFace_of_selects (args := #[]) (mvT (s := (s.setVm T8.vm)) hZ (wk hw 142 rfl))) (wk hw 142 rfl) (wk hw 141 rfl) (wk hw 121 rfl) (wk hw 143 rfl) (by decide) rfl E_b1 (rm27a l Z a0 hw [] b1 sa8 zal fx_7 (16 : Int32) (13 : Int32) sb8 (1 : Int32) fs8 zc h8 n0 Zn E_b1 zca zdj zfe zff zeg Fv8 Fc8 As8 Es8 g_b1 zbu zcv (Ne.symm zfg) (Ne.symm zgr) (Ne.symm zfh) (Ne.symm zgs) (by decide) SC hzc O) e8 0 (by decide) (by decide) (by decide) (by decide) (g := (mkF m 25 #[.val (.ref fm), .val (.ref a2), .val (.ref a3)] [(.ref sa8), (.ref b1)])) rfl (by rw [hml]; rfl) (lenOf pd_34 rfl) rfl (Nat.le_of_eq rfl) (hb hby d24_25)
  obtain ⟨h9, e9⟩ : ∃ z, T9.heap = z := ⟨_, rfl⟩
  rw [e9] at hQ9
  obtain ⟨fx_9, rfl, Nq9, Kq9, zfi, zdk, zfj, zif, zeh⟩ := hQ9
  have N9 := Fr.app N7 Nq9
  have hsf : ∀ x ∈ [b1, zal], Safe Z consts_1 _ _ x := (sfS zag (sfS zao sf0))
  replace zag := Safe.keep Kq9 hsf CH zag
  replace CR := CR.trans (CHr.keep Kq9 hsf CH)
  replace CH := CH.keep Kq9 hsf
  replace hk := Nat.le_trans hk Kq9.1
  clear hsf
  replace FE := FE.keep Kq9
  replace FL := FL.keep Kq9 (ninS zap (ninS zbh nin0))
  replace FP := FP.keep Kq9 (ninS zap (ninS zbh nin0))
  replace FC := FC.keep Kq9 (ninS zap (ninS zbh nin0))
  replace FCe := FCe.keep Kq9
  replace FCv := FCv.keep Kq9 (ninS zbd (ninS zbt nin0))
  replace FCc := FCc.keep Kq9 (ninS zbd (ninS zbt nin0))
  replace FCa := FCa.keep Kq9 (ninS zcn (ninS zdh nin0))
  replace zaf := zaf.keep Kq9 (ninS zax (ninS zcg nin0))
  replace zah := zah.keep Kq9 (ninS zax (ninS zcg nin0))
  replace V_t3 := V_t3.keep Kq9 (ninS zcf (ninS zee nin0))
  replace E_a3 := E_a3.keep Kq9
  replace E_b1 := E_b1.keep Kq9
  replace Es8 := Es8.keep Kq9
  replace Fc8 := Fc8.keep Kq9 (ninS (Ne.symm zfg) (ninS (Ne.symm zfh) nin0))
  replace Fv8 := Fv8.keep Kq9 (ninS (Ne.symm zfg) (ninS (Ne.symm zfh) nin0))
  replace As8 := As8.keep Kq9 (ninS (Ne.symm zgr) (ninS (Ne.symm zgs) nin0))
  replace O := O.keep Kq9 (allS g_b1 (allS zbu all0))
  replace K := K.trans Kq9 (allS (Or.inr zas) (allS (Or.inr zef) all0))
  replace Zn := Nat.le_trans Zn Kq9.1
  replace zdk : Fld Z h9 b1 k_8 "count" "I" (.int (14 : Int32)) := zdk
  refine Go.st st9 ?_
  refine Go.st (fun t k => XS.aloadN X9.here hx rfl (hb hby d24_28) rfl rfl k) ?_
  obtain ⟨T10, X10, e10, st10⟩ := getF X9 hx hZ hown (host := "") (Or.inl (wk hw 178 rfl)) Via.refl e9 FC (g := (mkF m 29 #[.val (.ref fm), .val (.ref a2), .val (.ref a3)] [(.ref fm), (.ref b1)])) rfl rfl (hb hby d24_29)
  refine Go.st st10 ?_
  obtain ⟨v11, T11, L11, X11, hQ11, st11⟩ := callVi X10 hx hZ (C := k_15) (y := y_27) (z := y_27) (a := b1) (argsL := [(.ref co)]) (rest := []) hown (wk hw 139 rfl) (wk hw 140 rfl) (notFace_of_selects (args := #[]) (mvT (s := (s.setVm T8.vm)) hZ (wk hw 142 rfl))) (wk hw 142 rfl) (wk hw 141 rfl) (wk hw 121 rfl) (wk hw 143 rfl) (by decide) rfl E_b1 (rm27_14_5_0 l Z a0 hw [] b1 co zal fx_9 cv fc zc h9 n0 Zn E_b1 zfi zdk zfj zif zeh FCv FCc FCa FCe g_b1 zbu zcv zbd zcn zbt zdh SC hzc O) e10 0 (by decide) (by decide) (by decide) (by decide) (g := (mkF m 32 #[.val (.ref fm), .val (.ref a2), .val (.ref a3)] [(.ref co), (.ref b1)])) rfl (by rw [hml]; rfl) (lenOf pd_34 rfl) rfl (Nat.le_of_eq rfl) (hb hby d24_32)
  obtain ⟨h11, e11⟩ : ∃ z, T11.heap = z := ⟨_, rfl⟩
  rw [e11] at hQ11
  obtain ⟨zbi, zga, rfl, Nq11, Kq11, zcw, zei, zej, zek, zfk, zel⟩ := hQ11
  have N11 := Fr.app N9 Nq11
  have zfl : a3 ≠ zbi := Nat.ne_of_lt (Nat.lt_of_lt_of_le zaf.lt zcw)
  have zgt : t3 ≠ zbi := Nat.ne_of_lt (Nat.lt_of_lt_of_le V_t3.lt zcw)
  have zgu : b1 ≠ zbi := Nat.ne_of_lt (Nat.lt_of_lt_of_le E_b1.lt zcw)
  have zeq : n0 ≤ zbi := Nat.le_trans Zn zcw
  have zhk : h0.size ≤ zbi := Nat.le_trans K.1 zcw
  have zbx : Safe Z consts_1 T8.vm h9 zbi := Safe.new zcw
  have hsf : ∀ x ∈ [b1], Safe Z consts_1 _ _ x := (sfS zag sf0)
  replace zag := Safe.keep Kq11 hsf CH zag
  replace zbx := Safe.keep Kq11 hsf CH zbx
  replace CR := CR.trans (CHr.keep Kq11 hsf CH)
  replace CH := CH.keep Kq11 hsf
  replace hk := Nat.le_trans hk Kq11.1
  clear hsf
  replace FE := FE.keep Kq11
  replace FL := FL.keep Kq11 (ninS zap nin0)
  replace FP := FP.keep Kq11 (ninS zap nin0)
  replace FC := FC.keep Kq11 (ninS zap nin0)
  replace FCe := FCe.keep Kq11
  replace FCv := FCv.keep Kq11 (ninS zbd nin0)
  replace FCc := FCc.keep Kq11 (ninS zbd nin0)
  replace FCa := FCa.keep Kq11 (ninS zcn nin0)
  replace zaf := zaf.keep Kq11 (ninS zax nin0)
  replace zah := zah.keep Kq11 (ninS zax nin0)
  replace V_t3 := V_t3.keep Kq11 (ninS zcf nin0)
  replace E_a3 := E_a3.keep Kq11
  replace E_b1 := E_b1.keep Kq11
  replace zeh := zeh.keep Kq11 (ninS (Ne.symm zcv) nin0)
  replace O := O.keep Kq11 (allS g_b1 all0)
  replace K := K.trans Kq11 (allS (Or.inr zas) all0)
  replace Zn := Nat.le_trans Zn Kq11.1
  refine Go.st st11 ?_
  show Go p.tables e below PP (T11.setTop (mkF m 35 #[.val (.ref fm), .val (.ref a2), .val (.ref a3)] [(.ref b1)]))
  obtain ⟨sa12, T12, h12, kk12, sb12, kc12, X12, e12, E12, hS12, hk12, hZ12, hown12, Es12, Fc12, Fv12, As12, -, -, hC12, -, nS12, st12⟩ := ldcCH X11 hx hZ hown (wk hw 177 rfl) (strA hw) e11 hS hk hEL (List.mem_of_getElem? (i := 1) rfl) CH (vs := [(.int (47 : Int32))]) (z := (1 : Int32)) (by decide) (by decide) (by decide) (g := (mkF m 35 #[.val (.ref fm), .val (.ref a2), .val (.ref a3)] [(.ref b1)])) rfl (hb hby d24_35) (n := 4) (by decide) (by decide) (by decide) (by decide)
  have lt_b1 := E_b1.lt
  have lt_tvx_2 := zeh.lt
  have lt_tvx_11 := zel.lt
  replace zaf := zaf.ext E12
  replace zah := zah.ext E12
  replace V_t3 := V_t3.ext E12
  replace E_a3 := E_a3.ext E12
  replace E_b1 := E_b1.ext E12
  replace zei := zei.ext E12
  replace zej := zej.ext E12
  replace zek := zek.ext E12
  replace zfk := zfk.ext E12
  replace zel := zel.ext E12
  replace O := O.ext E12
  replace K := K.ext E12
  replace zag := hC12.safe lt_b1 zag
  replace zbx := hC12.safe lt_tvx_11 zbx
  have zfm : b1 ≠ sa12 := (nS12 _ zag).1
  have zgv : b1 ≠ sb12 := (nS12 _ zag).2
  have zfn : zbi ≠ sa12 := (nS12 _ zbx).1
  have zgw : zbi ≠ sb12 := (nS12 _ zbx).2
  replace Zn := Nat.le_trans Zn E12.1
  replace CR := CR.trans hC12
  replace CH := hC12.1
  replace hS := hS12
  replace hk := hk12
  replace hZ := hZ12
  replace hown := hown12
  refine Go.st st12 ?_
  replace As12 := Afn.of_arv As12
  obtain ⟨fs12, hfs12⟩ : ∃ f : Nat → Int32, Afn Z h12 sb12 .byte (1 : Int32) (fun k => .int (f k)) := ⟨_, own_ints As12⟩
  replace As12 := hfs12
  obtain ⟨v13, T13, L13, X13, hQ13, st13⟩ := callVi X12 hx hZ (C := k_15) (y := y_27) (z := y_27) (a := b1) (argsL := [(.ref sa12)]) (rest := []) hown (wk hw 139 rfl) (wk hw 140 rfl) (notFace_of_selects (args := #[]) (mvT (s := (s.setVm T12.vm)) hZ (wk hw 142 rfl))) (wk hw 142 rfl) (wk hw 141 rfl) (wk hw 121 rfl) (wk hw 143 rfl) (by decide) rfl E_b1 (rm27a l Z a0 hw [] b1 sa12 zbi zga (34 : Int32) (19 : Int32) sb12 (1 : Int32) fs12 zc h12 n0 Zn E_b1 zei zej zek zfk zel Fv12 Fc12 As12 Es12 g_b1 zeq zgu (Ne.symm zfm) (Ne.symm zgv) (Ne.symm zfn) (Ne.symm zgw) (by decide) SC hzc O) e12 0 (by decide) (by decide) (by decide) (by decide) (g := (mkF m 37 #[.val (.ref fm), .val (.ref a2), .val (.ref a3)] [(.ref sa12), (.ref b1)])) rfl (by rw [hml]; rfl) (lenOf pd_34 rfl) rfl (Nat.le_of_eq rfl) (hb hby d24_37)
  obtain ⟨h13, e13⟩ : ∃ z, T13.heap = z := ⟨_, rfl⟩
  rw [e13] at hQ13
  obtain ⟨zig, rfl, Nq13, Kq13, zdl, zco, zih, zii, zij⟩ := hQ13
  have N13 := Fr.app N11 Nq13
  have hsf : ∀ x ∈ [b1, zbi], Safe Z consts_1 _ _ x := (sfS zag (sfS zbx sf0))
  replace zag := Safe.keep Kq13 hsf CH zag
  replace CR := CR.trans (CHr.keep Kq13 hsf CH)
  replace CH := CH.keep Kq13 hsf
  replace hk := Nat.le_trans hk Kq13.1
  clear hsf
  replace zaf := zaf.keep Kq13 (ninS zax (ninS zfl nin0))
  replace zah := zah.keep Kq13 (ninS zax (ninS zfl nin0))
  replace V_t3 := V_t3.keep Kq13 (ninS zcf (ninS zgt nin0))
  replace E_a3 := E_a3.keep Kq13
  replace E_b1 := E_b1.keep Kq13
  replace Es12 := Es12.keep Kq13
  replace Fc12 := Fc12.keep Kq13 (ninS (Ne.symm zfm) (ninS (Ne.symm zfn) nin0))
  replace Fv12 := Fv12.keep Kq13 (ninS (Ne.symm zfm) (ninS (Ne.symm zfn) nin0))
  replace As12 := As12.keep Kq13 (ninS (Ne.symm zgv) (ninS (Ne.symm zgw) nin0))
  replace O := O.keep Kq13 (allS g_b1 (allS zeq all0))
  replace K := K.trans Kq13 (allS (Or.inr zas) (allS (Or.inr zhk) all0))
  replace Zn := Nat.le_trans Zn Kq13.1
  replace zco : Fld Z h13 b1 k_8 "count" "I" (.int (20 : Int32)) := zco
  refine Go.st st13 ?_
  refine Go.st (fun t k => XS.aloadN X13.here hx rfl (hb hby d24_40) rfl rfl k) ?_
  obtain ⟨v14, T14, L14, X14, hQ14, st14⟩ := callVi X13 hx hZ (C := k_15) (y := y_27) (z := y_27) (a := b1) (argsL := [(.ref a3)]) (rest := []) hown (wk hw 139 rfl) (wk hw 140 rfl) (notFace_of_selects (args := #[]) (mvT (s := (s.setVm T12.vm)) hZ (wk hw 142 rfl))) (wk hw 142 rfl) (wk hw 141 rfl) (wk hw 121 rfl) (wk hw 143 rfl) (by decide) rfl E_b1 (rm27_20_2_1 l Z a0 hw [] b1 a3 zbi zig t3 f3 zc sv h13 n0 Zn E_b1 zdl zco zih zii zij zaf zah V_t3 E_a3 g_b1 zeq zgu zax zcf zfl zgt SC hzc O SA SHi SLo SV hr_sv) e13 0 (by decide) (by decide) (by decide) (by decide) (g := (mkF m 41 #[.val (.ref fm), .val (.ref a2), .val (.ref a3)] [(.ref a3), (.ref b1)])) rfl (by rw [hml]; rfl) (lenOf pd_34 rfl) rfl (Nat.le_of_eq rfl) (hb hby d24_41)
  obtain ⟨h14, e14⟩ : ∃ z, T14.heap = z := ⟨_, rfl⟩
  rw [e14] at hQ14
  obtain ⟨zlp, zgb, rfl, Nq14, Kq14, znp, zgx, zfo, zgy, zik, zil, zis⟩ := hQ14
  have N14 := Fr.app N13 Nq14
  have hsf : ∀ x ∈ [b1], Safe Z consts_1 _ _ x := (sfS zag sf0)
  replace CR := CR.trans (CHr.keep Kq14 hsf CH)
  replace CH := CH.keep Kq14 hsf
  replace hk := Nat.le_trans hk Kq14.1
  clear hsf
  replace E_b1 := E_b1.keep Kq14
  replace O := O.keep Kq14 (allS g_b1 all0)
  replace K := K.trans Kq14 (allS (Or.inr zas) all0)
  replace Zn := Nat.le_trans Zn Kq14.1
  refine Go.st st14 ?_
  obtain ⟨v15, T15, L15, X15, hQ15, st15⟩ := callVi X14 hx hZ (C := k_15) (y := y_36) (z := y_36) (a := b1) (argsL := []) (rest := []) hown (wk hw 198 rfl) (wk hw 199 rfl) (notFace_of_selects (args := #[]) (mvT (s := (s.setVm T12.vm)) hZ (wk hw 201 rfl))) (wk hw 201 rfl) (wk hw 200 rfl) (wk hw 121 rfl) (wk hw 202 rfl) (by decide) rfl E_b1 (rm36u l Z a0 hw [] b1 zlp zgb zc h14 n0 Zn E_b1 zgx zfo zgy zik zil SC hzc O zis) e14 0 (by decide) (by decide) (by decide) (by decide) (g := (mkF m 44 #[.val (.ref fm), .val (.ref a2), .val (.ref a3)] [(.ref b1)])) rfl (by rw [hml]; rfl) (lenOf pd_35 rfl) rfl (Nat.le_of_eq rfl) (hb hby d24_44)
  obtain ⟨h15, e15⟩ : ∃ z, T15.heap = z := ⟨_, rfl⟩
  rw [e15] at hQ15
  obtain ⟨r_15, t_15, zim, rfl, Nq15, Kq15, zgz, zin, zha, zhb, zio, zip, zlq⟩ := hQ15
  have N15 := Fr.app N14 Nq15
  have ziq : h0.size ≤ r_15 := Nat.le_trans K.1 zgz
  have zir : h0.size ≤ t_15 := Nat.le_trans K.1 zin
  have hsf : ∀ x ∈ ([] : List Addr), Safe Z consts_1 T12.vm h14 x := sf0
  replace CR := CR.trans (CHr.keep Kq15 hsf CH)
  replace CH := CH.keep Kq15 hsf
  replace hk := Nat.le_trans hk Kq15.1
  clear hsf
  replace O := O.keep Kq15 all0
  replace K := K.trans Kq15 all0
  replace Zn := Nat.le_trans Zn Kq15.1
  refine Go.st st15 ?_
  show Go p.tables e below PP (T15.setTop (mkF m 47 #[.val (.ref fm), .val (.ref a2), .val (.ref a3)] [(.ref r_15)]))
  rw [hPP]
  refine endRW X15 hx hlk hZ hS e15 hk hEL CH CR hret rfl rfl (hb hby d24_47) ?_ (by decide) (by decide)
  show Q24u Z fm a2 a3 pl pa pv fp co cv fc t2 f2 t3 f3 zc sv h0 n0 (some (.ref r_15)) T15.heap _
  rw [e15]
  exact ⟨r_15, t_15, zim, rfl, N15, K, ziq, zir, zha, zhb, zio, zip, zlq⟩
theorem safe_cls {Z : State} {EL : List (String × Nat)} {vm : Vm} {h : Heap} {a : Addr} {K : String} (hal : Z.vm.Alike vm) (E : Exa Z h a K) (n1 : K ≠ "java/lang/String") (n2 : K ≠ "[B") : Safe Z EL vm h a := by
  rintro ⟨p, hp, u, a', hb, q, hq, B, hy⟩
  obtain ⟨cE, kE, e1, e2, e3, e4, e5⟩ := E
  rcases hy with rfl | rfl
  · have ha' : h[q.sa]? = some q.sC := B.ha
    obtain ⟨cS, ⟨-, h6, h7⟩, -⟩ := B
    cases e1.symm.trans ha'
    have h5 : vm.findClass "java/lang/String" = some cS := h6
    rw [hal.findClass] at h5
    exact ids_ne e2 h5 n1 h7
  · have hd' : h[q.sd]? = some q.SA := B.hd
    obtain ⟨cS, -, -, h4, -⟩ := B
    cases e1.symm.trans hd'
    have h5 : vm.findClass "[B" = some q.SA.cls := h4
    rw [hal.findClass] at h5
    exact ids_ne e2 h5 n2 rfl
abbrev b_9 : ByteArray := jdk_30_method_1_code
theorem d9_0 : dk b_9 0 (.aload_n 0) 1 := by decide +kernel
theorem d9_1 : dk b_9 1 (.invokespecial 1) 3 := by decide +kernel
theorem d9_4 : dk b_9 4 (.return_) 1 := by decide +kernel
abbrev r_rm9 : Room := { frames := 1, cells := 0, slots := 0, locals := 40 }
theorem pn_rm9 : plainName "java/lang/Record" = true := by first | (simp [plainName, overriddenIn]; done) | decide +kernel
def Q9 (Z : State) (a1 : Addr) (h0 : Heap) (n0 : Nat) (v : Option Value) (h : Heap) (L : List Loc) : Prop := v = none ∧ L = [] ∧ h = h0
theorem rm9 (l : Launch) (Z : State) (a0 : Array Value) (hw : HWt Z a0) (ws : List Jvm.Cond) (a1 : Addr) (h0 : Heap) (n0 : Nat) (Z0 : n0 ≤ h0.size) :
    Con l Z y_9 jdk_30_method_1_code 1 none ws r_rm9 #[(.ref a1)] h0 (Q9 Z a1 h0 n0) := by
  refine Con.of2 (plainFor_of_name pn_rm9) ?_
  intro p e s m below meth c s₁ hZ e0 X0 hx hby hml hown hnm hret hlk PP hPP
  have N0 := Fr.nil n0
  refine Go.cast (ef_rm18 m a1) ?_
  have Zn : n0 ≤ h0.size := Z0
  show Go p.tables e below PP (s₁.setTop (mkF m 0 #[.val (.ref a1)] []))
  refine Go.st (fun t k => XS.aloadN X0.here hx rfl (hb hby d9_0) rfl rfl k) ?_
  obtain ⟨T1, X1, e1, st1⟩ := initO X0 hx hZ hown (wk hw 45 rfl) (wk hw 31 rfl) (wk hw 32 rfl) e0 (g := (mkF m 1 #[.val (.ref a1)] [(.ref a1)])) rfl (by rw [hml]; rfl) rfl (hb hby d9_1) (by decide) (W := 0) (by show 2 * 0 + _ ≤ _; exact Nat.le_of_eq rfl) (by decide)
  refine Go.st st1 ?_
  show Go p.tables e below PP (T1.setTop (mkF m 4 #[.val (.ref a1)] []))
  rw [hPP]
  refine endV X1 hx hlk hret (hb hby d9_4) ?_ (by decide) (by decide)
  rw [e1]
  exact ⟨rfl, rfl, rfl⟩
abbrev b_8 : ByteArray := prog_16_method_1_code
theorem d8_0 : dk b_8 0 (.aload_n 0) 1 := by decide +kernel
theorem d8_1 : dk b_8 1 (.invokespecial 1) 3 := by decide +kernel
theorem d8_4 : dk b_8 4 (.getstatic 7) 3 := by decide +kernel
theorem d8_7 : dk b_8 7 (.aload_n 1) 1 := by decide +kernel
theorem d8_8 : dk b_8 8 (.aload_n 2) 1 := by decide +kernel
theorem d8_9 : dk b_8 9 (.invokevirtual 13) 3 := by decide +kernel
theorem d8_12 : dk b_8 12 (.getstatic 7) 3 := by decide +kernel
theorem d8_15 : dk b_8 15 (.aload_n 1) 1 := by decide +kernel
theorem d8_16 : dk b_8 16 (.aload_n 2) 1 := by decide +kernel
theorem d8_17 : dk b_8 17 (.invokevirtual 19) 3 := by decide +kernel
theorem d8_20 : dk b_8 20 (.astore_n 3) 1 := by decide +kernel
theorem d8_21 : dk b_8 21 (.aload_n 3) 1 := by decide +kernel
theorem d8_22 : dk b_8 22 (.iconst 0) 1 := by decide +kernel
theorem d8_23 : dk b_8 23 (.aload_n 3) 1 := by decide +kernel
theorem d8_24 : dk b_8 24 (.invokevirtual 23) 3 := by decide +kernel
theorem d8_27 : dk b_8 27 (.invokevirtual 29) 3 := by decide +kernel
theorem d8_30 : dk b_8 30 (.istore 4) 2 := by decide +kernel
theorem d8_32 : dk b_8 32 (.iload 4) 2 := by decide +kernel
theorem d8_34 : dk b_8 34 (.sipush 1536) 3 := by decide +kernel
theorem d8_37 : dk b_8 37 (.if_icmp .le 31) 3 := by decide +kernel
theorem d8_68 : dk b_8 68 (.aload_n 0) 1 := by decide +kernel
theorem d8_69 : dk b_8 69 (.aload_n 1) 1 := by decide +kernel
theorem d8_70 : dk b_8 70 (.putfield 54) 3 := by decide +kernel
theorem d8_73 : dk b_8 73 (.aload_n 0) 1 := by decide +kernel
theorem d8_74 : dk b_8 74 (.aload_n 2) 1 := by decide +kernel
theorem d8_75 : dk b_8 75 (.putfield 58) 3 := by decide +kernel
theorem d8_78 : dk b_8 78 (.return_) 1 := by decide +kernel
abbrev r_rm8 : Room := { frames := 7, cells := 13, slots := 136, locals := 127 }
theorem pn_rm8 : plainName "com/example/crossname/crossname/access/ItemName" = true := by first | (simp [plainName, overriddenIn]; done) | decide +kernel
theorem ef_rm8 (m : MethodId) (a1 : Addr) (a2 : Addr) (a3 : Addr) : entryFrame m #[(.ref a1), (.ref a2), (.ref a3)] 5 = mkF m 0 #[.val (.ref a1), .val (.ref a2), .val (.ref a3), .unset, .unset] [] := by first | (simp [entryFrame, mkF, argsToLocals, Value.category]; done) | rfl
def Q8 (Z : State) (a1 : Addr) (a2 : Addr) (a3 : Addr) (fm : Addr) (pl : Addr) (pa : Addr) (pv : Addr) (fp : Nat → Int32) (co : Addr) (cv : Addr) (fc : Nat → Int32) (t2 : Addr) (f2 : Nat → Int32) (t3 : Addr) (f3 : Nat → Int32) (zc : Int32) (h0 : Heap) (n0 : Nat) (v : Option Value) (h : Heap) (L : List Loc) : Prop := v = none ∧ Fr n0 L ∧ Keep h0 h [a1] ∧ Fld Z h a1 k_0 "dataSource" "Ljava/lang/String;" (.ref a2) ∧ Fld Z h a1 k_0 "id" "Ljava/lang/String;" (.ref a3)
theorem pd_36 : parseMethodDescriptor "(Ljava/lang/String;Ljava/lang/String;)V" = some ⟨[(.object "java/lang/String"), (.object "java/lang/String")], none⟩ := by decide +kernel
theorem pd_37 : parseMethodDescriptor "(Ljava/lang/String;Ljava/lang/String;)Ljava/lang/String;" = some ⟨[(.object "java/lang/String"), (.object "java/lang/String")], some (.object "java/lang/String")⟩ := by decide +kernel
theorem rm8 (l : Launch) (Z : State) (a0 : Array Value) (hw : HWt Z a0) (ws : List Jvm.Cond) (a1 : Addr) (a2 : Addr) (a3 : Addr) (fm : Addr) (pl : Addr) (pa : Addr) (pv : Addr) (fp : Nat → Int32) (co : Addr) (cv : Addr) (fc : Nat → Int32) (t2 : Addr) (f2 : Nat → Int32) (t3 : Addr) (f3 : Nat → Int32) (zc : Int32) (h0 : Heap) (n0 : Nat) (Z0 : n0 ≤ h0.size) (hEL : EW Z a0 consts_1) (E_a1 : Exa Z h0 a1 k_0) (zbm : Fld Z h0 a1 k_0 "dataSource" "Ljava/lang/String;" .null) (zba : Fld Z h0 a1 k_0 "id" "Ljava/lang/String;" .null) (zad : Fld Z h0 a2 k_14 "value" "[B" (.ref t2)) (zae : Fld Z h0 a2 k_14 "coder" "B" (.int (0 : Int32))) (V_t2 : Afn Z h0 t2 .byte (1 : Int32) (fun k => .int (f2 k))) (E_a2 : Exa Z h0 a2 k_14) (zaf : Fld Z h0 a3 k_14 "value" "[B" (.ref t3)) (zah : Fld Z h0 a3 k_14 "coder" "B" (.int (0 : Int32))) (V_t3 : Afn Z h0 t3 .byte (1 : Int32) (fun k => .int (f3 k))) (E_a3 : Exa Z h0 a3 k_14) (g_a1 : n0 ≤ a1) (zdd : a1 ≠ a2) (zgj : a1 ≠ a3) (zlr : a1 ≠ t2) (zls : a1 ≠ t3) (hds : ¬ f2 0 = (47 : Int32)) (FE : Exa Z Z.heap fm k_1) (FL : Fld Z Z.heap fm k_1 "parentLabel" "Ljava/lang/String;" (.ref pl)) (FP : Fld Z Z.heap fm k_1 "parents" "Ljava/lang/String;" (.ref pa)) (FPe : Exa Z Z.heap pa k_14) (FPv : Fld Z Z.heap pa k_14 "value" "[B" (.ref pv)) (FPc : Fld Z Z.heap pa k_14 "coder" "B" (.int (0 : Int32))) (FPa : Afn Z Z.heap pv .byte (11 : Int32) (fun k => .int (fp k))) (FC : Fld Z Z.heap fm k_1 "collection" "Ljava/lang/String;" (.ref co)) (FCe : Exa Z Z.heap co k_14) (FCv : Fld Z Z.heap co k_14 "value" "[B" (.ref cv)) (FCc : Fld Z Z.heap co k_14 "coder" "B" (.int (0 : Int32))) (FCa : Afn Z Z.heap cv .byte (5 : Int32) (fun k => .int (fc k))) (SFm : Sta Z Z.heap "com/example/crossname/crossname/access/ItemName" "FORM" "Lcom/example/crossname/crossname/access/ResourceNameForm;" (.ref fm)) (SC : SS0 Z zc) (hzc : ¬ zc = (0 : Int32)) (O : Old Z n0 h0) :
    ConH l Z consts_1 y_8 prog_16_method_1_code 5 none ws r_rm8 #[(.ref a1), (.ref a2), (.ref a3)] h0 (Q8 Z a1 a2 a3 fm pl pa pv fp co cv fc t2 f2 t3 f3 zc h0 n0) := by
  refine ConH.of (plainFor_of_name pn_rm8) ?_
  intro p e s m below meth c s₁ vm0 k0 hZ e0 X0 hx hby hml hown hnm hret hlk hS hk CH CR
  have N0 : Fr n0 [] := Fr.nil n0
  obtain ⟨PP, hPP⟩ : ∃ P, P = FineW Z consts_1 s below (Q8 Z a1 a2 a3 fm pl pa pv fp co cv fc t2 f2 t3 f3 zc h0 n0) r_rm8.cells r_rm8.slots := ⟨_, rfl⟩
  rw [← hPP]
  refine Go.cast (ef_rm8 m a1 a2 a3) ?_
  have K : Keep h0 h0 [a1] := Keep.refl h0 _
  have Zn : n0 ≤ h0.size := Z0
  have zav : Safe Z consts_1 vm0 h0 a1 := safe_cls hZ.alike E_a1 (by decide) (by decide)
  show Go p.tables e below PP (s₁.setTop (mkF m 0 #[.val (.ref a1), .val (.ref a2), .val (.ref a3), .unset, .unset] []))
  refine Go.st (fun t k => XS.aloadN X0.here hx rfl (hb hby d8_0) rfl rfl k) ?_
  obtain ⟨v1, T1, L1, X1, hQ1, st1⟩ := callIn X0 hx hZ (y := y_9) (a := a1) (argsL := []) (rest := []) rfl hown (wk hw 40 rfl) (wk hw 41 rfl) (wk hw 43 rfl) (wk hw 44 rfl) (by decide) (rm9 l Z a0 hw [] a1 h0 n0 Zn) e0 0 (by decide) (by decide) (by decide) (by decide) (g := (mkF m 1 #[.val (.ref a1), .val (.ref a2), .val (.ref a3), .unset, .unset] [(.ref a1)])) rfl (by rw [hml]; rfl) (lenOf pd_21 rfl) rfl (Nat.le_of_eq rfl) (hb hby d8_1)
  obtain ⟨rfl, rfl, e1⟩ := hQ1
  rw [List.append_nil] at X1
  refine Go.st st1 ?_
  obtain ⟨T2, X2, e2, st2⟩ := getS2 X1 hx hZ hown (host := "") (Or.inl (wk hw 46 rfl)) Via.refl e1 (SFm.ext O.2) (g := (mkF m 4 #[.val (.ref a1), .val (.ref a2), .val (.ref a3), .unset, .unset] [])) rfl (hb hby d8_4)
  refine Go.st st2 ?_
  have E_fm := FE.ext O.2
  refine Go.st (fun t k => XS.aloadN X2.here hx rfl (hb hby d8_7) rfl rfl (XS.aloadN X2.here hx rfl (hb hby d8_8) rfl rfl k)) ?_
  have hZ0 := hZ
  have hown0 := hown
  clear hZ hown
  obtain ⟨v3, T3, L3, X3, hQ3, hC3, hSn3, hZ, hown, st3⟩ := callViW X2 hx hZ0 (C := k_1) (y := y_10) (z := y_10) (a := fm) (argsL := [(.ref a2), (.ref a3)]) (rest := []) hown0 (wk hw 48 rfl) (wk hw 49 rfl) (notFace_of_selects (args := #[]) (mvT (s := (s.setVm vm0)) hZ0 (wk hw 51 rfl))) (wk hw 51 rfl) (wk hw 50 rfl) (wk hw 52 rfl) (wk hw 53 rfl) (by decide) rfl E_fm (rm10 l Z a0 hw [] fm a2 a3 pl t2 f2 t3 f3 zc h0 n0 Zn hEL (FE.ext O.2) (FL.ext O.2) zad zae V_t2 E_a2 zaf zah V_t3 E_a3 hds SC hzc O) e2 hEL CH hS hk 0 (by decide) (by decide) (by decide) (by decide) (g := (mkF m 9 #[.val (.ref a1), .val (.ref a2), .val (.ref a3), .unset, .unset] [(.ref a3), (.ref a2), (.ref fm)])) rfl (by rw [hml]; rfl) (lenOf pd_36 rfl) rfl (Nat.le_of_eq rfl) (hb hby d8_9)
  clear hZ0 hown0
  replace hS := hSn3
  obtain ⟨h3, e3⟩ : ∃ z, T3.heap = z := ⟨_, rfl⟩
  rw [e3] at hQ3 hC3
  replace zav := hC3.safe E_a1.lt zav
  replace CR := CR.trans hC3
  replace CH := hC3.1
  replace hk : T3.heap.size ≤ h3.size := by rw [e3]; exact Nat.le_refl _
  obtain ⟨rfl, Nq3, Kq3⟩ := hQ3
  have N3 := Fr.app N0 Nq3
  replace E_a1 := E_a1.keep Kq3
  replace zbm := zbm.keep Kq3 nin0
  replace zba := zba.keep Kq3 nin0
  replace zad := zad.keep Kq3 nin0
  replace zae := zae.keep Kq3 nin0
  replace V_t2 := V_t2.keep Kq3 nin0
  replace E_a2 := E_a2.keep Kq3
  replace zaf := zaf.keep Kq3 nin0
  replace zah := zah.keep Kq3 nin0
  replace V_t3 := V_t3.keep Kq3 nin0
  replace E_a3 := E_a3.keep Kq3
  replace E_fm := E_fm.keep Kq3
  replace O := O.keep Kq3 all0
  replace K := K.trans Kq3 all0
  replace Zn := Nat.le_trans Zn Kq3.1
  refine Go.st st3 ?_
  obtain ⟨T4, X4, e4, st4⟩ := getS2 X3 hx hZ hown (host := "") (Or.inl (wk hw 46 rfl)) Via.refl e3 (SFm.ext O.2) (g := (mkF m 12 #[.val (.ref a1), .val (.ref a2), .val (.ref a3), .unset, .unset] [])) rfl (hb hby d8_12)
  refine Go.st st4 ?_
  refine Go.st (fun t k => XS.aloadN X4.here hx rfl (hb hby d8_15) rfl rfl (XS.aloadN X4.here hx rfl (hb hby d8_16) rfl rfl k)) ?_
  have hZ0 := hZ
  have hown0 := hown
  clear hZ hown
  obtain ⟨v5, T5, L5, X5, hQ5, hC5, hSn5, hZ, hown, st5⟩ := callViW X4 hx hZ0 (C := k_1) (y := y_24) (z := y_24) (a := fm) (argsL := [(.ref a2), (.ref a3)]) (rest := []) hown0 (wk hw 114 rfl) (wk hw 115 rfl) (notFace_of_selects (args := #[]) (mvT (s := (s.setVm T3.vm)) hZ0 (wk hw 117 rfl))) (wk hw 117 rfl) (wk hw 116 rfl) (wk hw 52 rfl) (wk hw 118 rfl) (by decide) rfl E_fm (rm24 l Z a0 hw [] fm a2 a3 pl pa pv fp co cv fc t2 f2 t3 f3 zc h3 n0 Zn hEL (FE.ext O.2) (FL.ext O.2) (FP.ext O.2) (FPe.ext O.2) (FPv.ext O.2) (FPc.ext O.2) (FPa.ext O.2) (FC.ext O.2) (FCe.ext O.2) (FCv.ext O.2) (FCc.ext O.2) (FCa.ext O.2) zad zae V_t2 E_a2 zaf zah V_t3 E_a3 SC hzc O) e4 hEL CH hS hk 0 (by decide) (by decide) (by decide) (by decide) (g := (mkF m 17 #[.val (.ref a1), .val (.ref a2), .val (.ref a3), .unset, .unset] [(.ref a3), (.ref a2), (.ref fm)])) rfl (by rw [hml]; rfl) (lenOf pd_37 rfl) rfl (Nat.le_of_eq rfl) (hb hby d8_17)
  clear hZ0 hown0
  replace hS := hSn5
  obtain ⟨h5, e5⟩ : ∃ z, T5.heap = z := ⟨_, rfl⟩
  rw [e5] at hQ5 hC5
  replace zav := hC5.safe E_a1.lt zav
  replace CR := CR.trans hC5
  replace CH := hC5.1
  replace hk : T5.heap.size ≤ h5.size := by rw [e5]; exact Nat.le_refl _
  obtain ⟨r_5, t_5, fx_5, rfl, Nq5, Kq5, zfx, zit, zan, zay, zbj, zbg⟩ := hQ5
  have N5 := Fr.app N3 Nq5
  replace E_a1 := E_a1.keep Kq5
  replace zbm := zbm.keep Kq5 nin0
  replace zba := zba.keep Kq5 nin0
  replace O := O.keep Kq5 all0
  replace K := K.trans Kq5 all0
  replace Zn := Nat.le_trans Zn Kq5.1
  refine Go.st st5 ?_
  refine Go.st (fun t k => XS.astoreN X5.here hx rfl (hb hby d8_20) rfl rfl (l' := #[.val (.ref a1), .val (.ref a2), .val (.ref a3), .val (.ref r_5), .unset]) rfl (XS.aloadN X5.here hx rfl (hb hby d8_21) rfl rfl (XS.iconst X5.here hx rfl (hb hby d8_22) (XS.aloadN X5.here hx rfl (hb hby d8_23) rfl rfl k)))) ?_
  obtain ⟨v6, T6, L6, X6, hQ6, st6⟩ := callVi X5 hx hZ (C := k_14) (y := y_17) (z := y_17) (a := r_5) (argsL := []) (rest := [(.int (0 : Int32)), (.ref r_5)]) hown (wk hw 237 rfl) (wk hw 86 rfl) (notFace_of_selects (args := #[]) (mvT (s := (s.setVm T5.vm)) hZ (wk hw 88 rfl))) (wk hw 88 rfl) (wk hw 87 rfl) (wk hw 14 rfl) (wk hw 89 rfl) (by decide) rfl zan (rm17 l Z a0 hw [] r_5 t_5 (21 : Int32) fx_5 zc h5 n0 Zn zbj zay zbg zan SC hzc O) e5 2 (by decide) (by decide) (by decide) (by decide) (g := (mkF m 24 #[.val (.ref a1), .val (.ref a2), .val (.ref a3), .val (.ref r_5), .unset] [(.ref r_5), (.int (0 : Int32)), (.ref r_5)])) rfl (by rw [hml]; rfl) (lenOf pd_5 rfl) rfl (Nat.le_of_eq rfl) (hb hby d8_24)
  obtain ⟨rfl, rfl, e6⟩ := hQ6
  rw [List.append_nil] at X6
  refine Go.st st6 ?_
  obtain ⟨v7, T7, L7, X7, hQ7, st7⟩ := callVi X6 hx hZ (C := k_14) (y := y_46) (z := y_46) (a := r_5) (argsL := [(.int (0 : Int32)), (.int (21 : Int32))]) (rest := []) hown (wk hw 238 rfl) (wk hw 239 rfl) (notFace_of_selects (args := #[]) (mvT (s := (s.setVm T5.vm)) hZ (wk hw 241 rfl))) (wk hw 241 rfl) (wk hw 240 rfl) (wk hw 14 rfl) (wk hw 242 rfl) (by decide) rfl zan (rm46 l Z a0 hw [] r_5 t_5 fx_5 zc h5 n0 Zn zbj zay zbg zan SC hzc O) e6 0 (by decide) (by decide) (by decide) (by decide) (g := (mkF m 27 #[.val (.ref a1), .val (.ref a2), .val (.ref a3), .val (.ref r_5), .unset] [(.int (21 : Int32)), (.int (0 : Int32)), (.ref r_5)])) rfl (by rw [hml]; rfl) (lenOf pd_2 rfl) rfl (Nat.le_of_eq rfl) (hb hby d8_27)
  obtain ⟨rfl, rfl, e7⟩ := hQ7
  rw [List.append_nil] at X7
  refine Go.st st7 ?_
  refine Go.st (fun t k => XS.istore X7.here hx rfl (hb hby d8_30) rfl (l' := #[.val (.ref a1), .val (.ref a2), .val (.ref a3), .val (.ref r_5), .val (.int (21 : Int32))]) rfl (XS.iload X7.here hx rfl (hb hby d8_32) rfl (XS.sipush X7.here hx rfl (hb hby d8_34) (XS.icmpYes X7.here hx rfl (pc0 := 37) (pc' := 68) rfl (hb hby d8_37) rfl (XT.ii_le_t (by decide)) (by decide) (by decide) (XS.aloadN X7.here hx rfl (hb hby d8_68) rfl rfl (XS.aloadN X7.here hx rfl (hb hby d8_69) rfl rfl k)))))) ?_
  obtain ⟨T8, h8, X8, e8, W8, st8⟩ := putF X7 hx hZ hown (host := "") (Or.inl (wk hw 250 rfl)) Via.refl e7 zbm E_a1 (Or.inr ⟨(wk hw 251 rfl), rfl, hnm⟩) (wk hw 10 rfl) (ty := (.object "java/lang/String")) (by decide) rfl rfl (g := (mkF m 70 #[.val (.ref a1), .val (.ref a2), .val (.ref a3), .val (.ref r_5), .val (.int (21 : Int32))] [(.ref a2), (.ref a1)])) rfl rfl (hb hby d8_70)
  refine Go.st st8 ?_
  have N8 := Fr.snoc X8 N5 g_a1
  replace E_a1 := E_a1.wr W8
  replace zba := zba.other W8 (Or.inr (slot_ne (a0 := a0) (Or.inr (wk hw 253 rfl)) (Or.inr (wk hw 251 rfl)) (by decide) (t := (.object "java/lang/String")) (t' := (.object "java/lang/String")) (by decide) (by decide)))
  replace CR := CR.trans (CHr.wr W8 zav CH)
  have CH' := CH.wr W8 zav
  replace zav := Safe.wr W8 zav CH zav
  replace CH := CH'
  clear CH'
  replace hk : T5.heap.size ≤ h8.size := by rw [W8.size]; exact hk
  replace O := O.wr W8 g_a1
  replace K := K.wr W8 (Or.inl (List.mem_of_getElem? (i := 0) rfl))
  replace Zn : n0 ≤ h8.size := by rw [W8.size]; exact Zn
  replace zbm := zbm.same W8
  refine Go.st (fun t k => XS.aloadN X8.here hx rfl (hb hby d8_73) rfl rfl (XS.aloadN X8.here hx rfl (hb hby d8_74) rfl rfl k)) ?_
  obtain ⟨T9, h9, X9, e9, W9, st9⟩ := putF X8 hx hZ hown (host := "") (Or.inl (wk hw 252 rfl)) Via.refl e8 zba E_a1 (Or.inr ⟨(wk hw 253 rfl), rfl, hnm⟩) (wk hw 10 rfl) (ty := (.object "java/lang/String")) (by decide) rfl rfl (g := (mkF m 75 #[.val (.ref a1), .val (.ref a2), .val (.ref a3), .val (.ref r_5), .val (.int (21 : Int32))] [(.ref a3), (.ref a1)])) rfl rfl (hb hby d8_75)
  refine Go.st st9 ?_
  have N9 := Fr.snoc X9 N8 g_a1
  replace zbm := zbm.other W9 (Or.inr (slot_ne (a0 := a0) (Or.inr (wk hw 251 rfl)) (Or.inr (wk hw 253 rfl)) (by decide) (t := (.object "java/lang/String")) (t' := (.object "java/lang/String")) (by decide) (by decide)))
  replace CR := CR.trans (CHr.wr W9 zav CH)
  have CH' := CH.wr W9 zav
  replace CH := CH'
  clear CH'
  replace hk : T5.heap.size ≤ h9.size := by rw [W9.size]; exact hk
  replace O := O.wr W9 g_a1
  replace K := K.wr W9 (Or.inl (List.mem_of_getElem? (i := 0) rfl))
  replace Zn : n0 ≤ h9.size := by rw [W9.size]; exact Zn
  replace zba := zba.same W9
  show Go p.tables e below PP (T9.setTop (mkF m 78 #[.val (.ref a1), .val (.ref a2), .val (.ref a3), .val (.ref r_5), .val (.int (21 : Int32))] []))
  rw [hPP]
  refine endVW X9 hx hlk hZ hS e9 hk hEL CH CR hret (hb hby d8_78) ?_ (by decide) (by decide)
  show Q8 Z a1 a2 a3 fm pl pa pv fp co cv fc t2 f2 t3 f3 zc h0 n0 none T9.heap _
  rw [e9]
  exact ⟨rfl, N9, K, zbm, zba⟩
abbrev r_rm8u : Room := { frames := 11, cells := 14, slots := 204, locals := 157 }
def Q8u (Z : State) (a1 : Addr) (a2 : Addr) (a3 : Addr) (fm : Addr) (pl : Addr) (pa : Addr) (pv : Addr) (fp : Nat → Int32) (co : Addr) (cv : Addr) (fc : Nat → Int32) (t2 : Addr) (f2 : Nat → Int32) (t3 : Addr) (f3 : Nat → Int32) (zc : Int32) (sv : Value) (h0 : Heap) (n0 : Nat) (v : Option Value) (h : Heap) (L : List Loc) : Prop := v = none ∧ Fr n0 L ∧ Keep h0 h [a1] ∧ Fld Z h a1 k_0 "dataSource" "Ljava/lang/String;" (.ref a2) ∧ Fld Z h a1 k_0 "id" "Ljava/lang/String;" (.ref a3)
theorem rm8u (l : Launch) (Z : State) (a0 : Array Value) (hw : HWt Z a0) (ws : List Jvm.Cond) (a1 : Addr) (a2 : Addr) (a3 : Addr) (fm : Addr) (pl : Addr) (pa : Addr) (pv : Addr) (fp : Nat → Int32) (co : Addr) (cv : Addr) (fc : Nat → Int32) (t2 : Addr) (f2 : Nat → Int32) (t3 : Addr) (f3 : Nat → Int32) (zc : Int32) (sv : Value) (h0 : Heap) (n0 : Nat) (Z0 : n0 ≤ h0.size) (hEL : EW Z a0 consts_1) (E_a1 : Exa Z h0 a1 k_0) (zbm : Fld Z h0 a1 k_0 "dataSource" "Ljava/lang/String;" .null) (zba : Fld Z h0 a1 k_0 "id" "Ljava/lang/String;" .null) (zad : Fld Z h0 a2 k_14 "value" "[B" (.ref t2)) (zae : Fld Z h0 a2 k_14 "coder" "B" (.int (0 : Int32))) (V_t2 : Afn Z h0 t2 .byte (1 : Int32) (fun k => .int (f2 k))) (E_a2 : Exa Z h0 a2 k_14) (zaf : Fld Z h0 a3 k_14 "value" "[B" (.ref t3)) (zah : Fld Z h0 a3 k_14 "coder" "B" (.int (1 : Int32))) (V_t3 : Afn Z h0 t3 .byte (2 : Int32) (fun k => .int (f3 k))) (E_a3 : Exa Z h0 a3 k_14) (g_a1 : n0 ≤ a1) (zdd : a1 ≠ a2) (zgj : a1 ≠ a3) (zlr : a1 ≠ t2) (zls : a1 ≠ t3) (hds : ¬ f2 0 = (47 : Int32)) (FE : Exa Z Z.heap fm k_1) (FL : Fld Z Z.heap fm k_1 "parentLabel" "Ljava/lang/String;" (.ref pl)) (FP : Fld Z Z.heap fm k_1 "parents" "Ljava/lang/String;" (.ref pa)) (FPe : Exa Z Z.heap pa k_14) (FPv : Fld Z Z.heap pa k_14 "value" "[B" (.ref pv)) (FPc : Fld Z Z.heap pa k_14 "coder" "B" (.int (0 : Int32))) (FPa : Afn Z Z.heap pv .byte (11 : Int32) (fun k => .int (fp k))) (FC : Fld Z Z.heap fm k_1 "collection" "Ljava/lang/String;" (.ref co)) (FCe : Exa Z Z.heap co k_14) (FCv : Fld Z Z.heap co k_14 "value" "[B" (.ref cv)) (FCc : Fld Z Z.heap co k_14 "coder" "B" (.int (0 : Int32))) (FCa : Afn Z Z.heap cv .byte (5 : Int32) (fun k => .int (fc k))) (SFm : Sta Z Z.heap "com/example/crossname/crossname/access/ItemName" "FORM" "Lcom/example/crossname/crossname/access/ResourceNameForm;" (.ref fm)) (SC : SS0 Z zc) (hzc : ¬ zc = (0 : Int32)) (O : Old Z n0 h0) (SA : SS2 Z) (SHi : SS3 Z) (SLo : SS4 Z) (SV : SS1 Z sv) (hr_sv : sv.isRef = true) :
    ConH l Z consts_1 y_8 prog_16_method_1_code 5 none ws r_rm8u #[(.ref a1), (.ref a2), (.ref a3)] h0 (Q8u Z a1 a2 a3 fm pl pa pv fp co cv fc t2 f2 t3 f3 zc sv h0 n0) := by
  refine ConH.of (plainFor_of_name pn_rm8) ?_
  intro p e s m below meth c s₁ vm0 k0 hZ e0 X0 hx hby hml hown hnm hret hlk hS hk CH CR
  have N0 : Fr n0 [] := Fr.nil n0
  obtain ⟨PP, hPP⟩ : ∃ P, P = FineW Z consts_1 s below (Q8u Z a1 a2 a3 fm pl pa pv fp co cv fc t2 f2 t3 f3 zc sv h0 n0) r_rm8u.cells r_rm8u.slots := ⟨_, rfl⟩
  rw [← hPP]
  refine Go.cast (ef_rm8 m a1 a2 a3) ?_
  have K : Keep h0 h0 [a1] := Keep.refl h0 _
  have Zn : n0 ≤ h0.size := Z0
  have zav : Safe Z consts_1 vm0 h0 a1 := safe_cls hZ.alike E_a1 (by decide) (by decide)
  show Go p.tables e below PP (s₁.setTop (mkF m 0 #[.val (.ref a1), .val (.ref a2), .val (.ref a3), .unset, .unset] []))
  refine Go.st (fun t k => XS.aloadN X0.here hx rfl (hb hby d8_0) rfl rfl k) ?_
  obtain ⟨v1, T1, L1, X1, hQ1, st1⟩ := callIn X0 hx hZ (y := y_9) (a := a1) (argsL := []) (rest := []) rfl hown (wk hw 40 rfl) (wk hw 41 rfl) (wk hw 43 rfl) (wk hw 44 rfl) (by decide) (rm9 l Z a0 hw [] a1 h0 n0 Zn) e0 0 (by decide) (by decide) (by decide) (by decide) (g := (mkF m 1 #[.val (.ref a1), .val (.ref a2), .val (.ref a3), .unset, .unset] [(.ref a1)])) rfl (by rw [hml]; rfl) (lenOf pd_21 rfl) rfl (Nat.le_of_eq rfl) (hb hby d8_1)
  obtain ⟨rfl, rfl, e1⟩ := hQ1
  rw [List.append_nil] at X1
  refine Go.st st1 ?_
  obtain ⟨T2, X2, e2, st2⟩ := getS2 X1 hx hZ hown (host := "") (Or.inl (wk hw 46 rfl)) Via.refl e1 (SFm.ext O.2) (g := (mkF m 4 #[.val (.ref a1), .val (.ref a2), .val (.ref a3), .unset, .unset] [])) rfl (hb hby d8_4)
  refine Go.st st2 ?_
  have E_fm := FE.ext O.2
  refine Go.st (fun t k => XS.aloadN X2.here hx rfl (hb hby d8_7) rfl rfl (XS.aloadN X2.here hx rfl (hb hby d8_8) rfl rfl k)) ?_
  have hZ0 := hZ
  have hown0 := hown
  clear hZ hown
  obtain ⟨v3, T3, L3, X3, hQ3, hC3, hSn3, hZ, hown, st3⟩ := callViW X2 hx hZ0 (C := k_1) (y := y_10) (z := y_10) (a := fm) (argsL := [(.ref a2), (.ref a3)]) (rest := []) hown0 (wk hw 48 rfl) (wk hw 49 rfl) (notFace_of_selects (args := #[]) (mvT (s := (s.setVm vm0)) hZ0 (wk hw 51 rfl))) (wk hw 51 rfl) (wk hw 50 rfl) (wk hw 52 rfl) (wk hw 53 rfl) (by decide) rfl E_fm (rm10u l Z a0 hw [] fm a2 a3 pl t2 f2 t3 f3 zc h0 n0 Zn hEL (FE.ext O.2) (FL.ext O.2) zad zae V_t2 E_a2 zaf zah V_t3 E_a3 hds SC hzc O) e2 hEL CH hS hk 0 (by decide) (by decide) (by decide) (by decide) (g := (mkF m 9 #[.val (.ref a1), .val (.ref a2), .val (.ref a3), .unset, .unset] [(.ref a3), (.ref a2), (.ref fm)])) rfl (by rw [hml]; rfl) (lenOf pd_36 rfl) rfl (Nat.le_of_eq rfl) (hb hby d8_9)
  clear hZ0 hown0
  replace hS := hSn3
  obtain ⟨h3, e3⟩ : ∃ z, T3.heap = z := ⟨_, rfl⟩
  rw [e3] at hQ3 hC3
  replace zav := hC3.safe E_a1.lt zav
  replace CR := CR.trans hC3
  replace CH := hC3.1
  replace hk : T3.heap.size ≤ h3.size := by rw [e3]; exact Nat.le_refl _
  obtain ⟨rfl, Nq3, Kq3⟩ := hQ3
  have N3 := Fr.app N0 Nq3
  replace E_a1 := E_a1.keep Kq3
  replace zbm := zbm.keep Kq3 nin0
  replace zba := zba.keep Kq3 nin0
  replace zad := zad.keep Kq3 nin0
  replace zae := zae.keep Kq3 nin0
  replace V_t2 := V_t2.keep Kq3 nin0
  replace E_a2 := E_a2.keep Kq3
  replace zaf := zaf.keep Kq3 nin0
  replace zah := zah.keep Kq3 nin0
  replace V_t3 := V_t3.keep Kq3 nin0
  replace E_a3 := E_a3.keep Kq3
  replace E_fm := E_fm.keep Kq3
  replace O := O.keep Kq3 all0
  replace K := K.trans Kq3 all0
  replace Zn := Nat.le_trans Zn Kq3.1
  refine Go.st st3 ?_
  obtain ⟨T4, X4, e4, st4⟩ := getS2 X3 hx hZ hown (host := "") (Or.inl (wk hw 46 rfl)) Via.refl e3 (SFm.ext O.2) (g := (mkF m 12 #[.val (.ref a1), .val (.ref a2), .val (.ref a3), .unset, .unset] [])) rfl (hb hby d8_12)
  refine Go.st st4 ?_
  refine Go.st (fun t k => XS.aloadN X4.here hx rfl (hb hby d8_15) rfl rfl (XS.aloadN X4.here hx rfl (hb hby d8_16) rfl rfl k)) ?_
  have hZ0 := hZ
  have hown0 := hown
  clear hZ hown
  obtain ⟨v5, T5, L5, X5, hQ5, hC5, hSn5, hZ, hown, st5⟩ := callViW X4 hx hZ0 (C := k_1) (y := y_24) (z := y_24) (a := fm) (argsL := [(.ref a2), (.ref a3)]) (rest := []) hown0 (wk hw 114 rfl) (wk hw 115 rfl) (notFace_of_selects (args := #[]) (mvT (s := (s.setVm T3.vm)) hZ0 (wk hw 117 rfl))) (wk hw 117 rfl) (wk hw 116 rfl) (wk hw 52 rfl) (wk hw 118 rfl) (by decide) rfl E_fm (rm24u l Z a0 hw [] fm a2 a3 pl pa pv fp co cv fc t2 f2 t3 f3 zc sv h3 n0 Zn hEL (FE.ext O.2) (FL.ext O.2) (FP.ext O.2) (FPe.ext O.2) (FPv.ext O.2) (FPc.ext O.2) (FPa.ext O.2) (FC.ext O.2) (FCe.ext O.2) (FCv.ext O.2) (FCc.ext O.2) (FCa.ext O.2) zad zae V_t2 E_a2 zaf zah V_t3 E_a3 SC hzc O SA SHi SLo SV hr_sv) e4 hEL CH hS hk 0 (by decide) (by decide) (by decide) (by decide) (g := (mkF m 17 #[.val (.ref a1), .val (.ref a2), .val (.ref a3), .unset, .unset] [(.ref a3), (.ref a2), (.ref fm)])) rfl (by rw [hml]; rfl) (lenOf pd_37 rfl) rfl (Nat.le_of_eq rfl) (hb hby d8_17)
  clear hZ0 hown0
  replace hS := hSn5
  obtain ⟨h5, e5⟩ : ∃ z, T5.heap = z := ⟨_, rfl⟩
  rw [e5] at hQ5 hC5
  replace zav := hC5.safe E_a1.lt zav
  replace CR := CR.trans hC5
  replace CH := hC5.1
  replace hk : T5.heap.size ≤ h5.size := by rw [e5]; exact Nat.le_refl _
  obtain ⟨r_5, t_5, fx_5, rfl, Nq5, Kq5, zfx, zit, zan, zay, zbj, zbg, zdt⟩ := hQ5
  have N5 := Fr.app N3 Nq5
  replace E_a1 := E_a1.keep Kq5
  replace zbm := zbm.keep Kq5 nin0
  replace zba := zba.keep Kq5 nin0
  replace O := O.keep Kq5 all0
  replace K := K.trans Kq5 all0
  replace Zn := Nat.le_trans Zn Kq5.1
  refine Go.st st5 ?_
  refine Go.st (fun t k => XS.astoreN X5.here hx rfl (hb hby d8_20) rfl rfl (l' := #[.val (.ref a1), .val (.ref a2), .val (.ref a3), .val (.ref r_5), .unset]) rfl (XS.aloadN X5.here hx rfl (hb hby d8_21) rfl rfl (XS.iconst X5.here hx rfl (hb hby d8_22) (XS.aloadN X5.here hx rfl (hb hby d8_23) rfl rfl k)))) ?_
  obtain ⟨v6, T6, L6, X6, hQ6, st6⟩ := callVi X5 hx hZ (C := k_14) (y := y_17) (z := y_17) (a := r_5) (argsL := []) (rest := [(.int (0 : Int32)), (.ref r_5)]) hown (wk hw 237 rfl) (wk hw 86 rfl) (notFace_of_selects (args := #[]) (mvT (s := (s.setVm T5.vm)) hZ (wk hw 88 rfl))) (wk hw 88 rfl) (wk hw 87 rfl) (wk hw 14 rfl) (wk hw 89 rfl) (by decide) rfl zan (rm17u_42 l Z a0 hw [] r_5 t_5 fx_5 zc h5 n0 Zn zbj zay zbg zan SC hzc O) e5 2 (by decide) (by decide) (by decide) (by decide) (g := (mkF m 24 #[.val (.ref a1), .val (.ref a2), .val (.ref a3), .val (.ref r_5), .unset] [(.ref r_5), (.int (0 : Int32)), (.ref r_5)])) rfl (by rw [hml]; rfl) (lenOf pd_5 rfl) rfl (Nat.le_of_eq rfl) (hb hby d8_24)
  obtain ⟨rfl, rfl, e6⟩ := hQ6
  rw [List.append_nil] at X6
  refine Go.st st6 ?_
  obtain ⟨v7, T7, L7, X7, hQ7, st7⟩ := callVi X6 hx hZ (C := k_14) (y := y_46) (z := y_46) (a := r_5) (argsL := [(.int (0 : Int32)), (.int (21 : Int32))]) (rest := []) hown (wk hw 238 rfl) (wk hw 239 rfl) (notFace_of_selects (args := #[]) (mvT (s := (s.setVm T5.vm)) hZ (wk hw 241 rfl))) (wk hw 241 rfl) (wk hw 240 rfl) (wk hw 14 rfl) (wk hw 242 rfl) (by decide) rfl zan (rm46u l Z a0 hw [] r_5 t_5 fx_5 zc h5 n0 Zn zbj zay zbg zan SC hzc O SA SHi SLo zdt) e6 0 (by decide) (by decide) (by decide) (by decide) (g := (mkF m 27 #[.val (.ref a1), .val (.ref a2), .val (.ref a3), .val (.ref r_5), .unset] [(.int (21 : Int32)), (.int (0 : Int32)), (.ref r_5)])) rfl (by rw [hml]; rfl) (lenOf pd_2 rfl) rfl (Nat.le_of_eq rfl) (hb hby d8_27)
  obtain ⟨rfl, rfl, e7⟩ := hQ7
  rw [List.append_nil] at X7
  refine Go.st st7 ?_
  refine Go.st (fun t k => XS.istore X7.here hx rfl (hb hby d8_30) rfl (l' := #[.val (.ref a1), .val (.ref a2), .val (.ref a3), .val (.ref r_5), .val (.int (21 : Int32))]) rfl (XS.iload X7.here hx rfl (hb hby d8_32) rfl (XS.sipush X7.here hx rfl (hb hby d8_34) (XS.icmpYes X7.here hx rfl (pc0 := 37) (pc' := 68) rfl (hb hby d8_37) rfl (XT.ii_le_t (by decide)) (by decide) (by decide) (XS.aloadN X7.here hx rfl (hb hby d8_68) rfl rfl (XS.aloadN X7.here hx rfl (hb hby d8_69) rfl rfl k)))))) ?_
  obtain ⟨T8, h8, X8, e8, W8, st8⟩ := putF X7 hx hZ hown (host := "") (Or.inl (wk hw 250 rfl)) Via.refl e7 zbm E_a1 (Or.inr ⟨(wk hw 251 rfl), rfl, hnm⟩) (wk hw 10 rfl) (ty := (.object "java/lang/String")) (by decide) rfl rfl (g := (mkF m 70 #[.val (.ref a1), .val (.ref a2), .val (.ref a3), .val (.ref r_5), .val (.int (21 : Int32))] [(.ref a2), (.ref a1)])) rfl rfl (hb hby d8_70)
  refine Go.st st8 ?_
  have N8 := Fr.snoc X8 N5 g_a1
  replace E_a1 := E_a1.wr W8
  replace zba := zba.other W8 (Or.inr (slot_ne (a0 := a0) (Or.inr (wk hw 253 rfl)) (Or.inr (wk hw 251 rfl)) (by decide) (t := (.object "java/lang/String")) (t' := (.object "java/lang/String")) (by decide) (by decide)))
  replace CR := CR.trans (CHr.wr W8 zav CH)
  have CH' := CH.wr W8 zav
  replace zav := Safe.wr W8 zav CH zav
  replace CH := CH'
  clear CH'
  replace hk : T5.heap.size ≤ h8.size := by rw [W8.size]; exact hk
  replace O := O.wr W8 g_a1
  replace K := K.wr W8 (Or.inl (List.mem_of_getElem? (i := 0) rfl))
  replace Zn : n0 ≤ h8.size := by rw [W8.size]; exact Zn
  replace zbm := zbm.same W8
  refine Go.st (fun t k => XS.aloadN X8.here hx rfl (hb hby d8_73) rfl rfl (XS.aloadN X8.here hx rfl (hb hby d8_74) rfl rfl k)) ?_
  obtain ⟨T9, h9, X9, e9, W9, st9⟩ := putF X8 hx hZ hown (host := "") (Or.inl (wk hw 252 rfl)) Via.refl e8 zba E_a1 (Or.inr ⟨(wk hw 253 rfl), rfl, hnm⟩) (wk hw 10 rfl) (ty := (.object "java/lang/String")) (by decide) rfl rfl (g := (mkF m 75 #[.val (.ref a1), .val (.ref a2), .val (.ref a3), .val (.ref r_5), .val (.int (21 : Int32))] [(.ref a3), (.ref a1)])) rfl rfl (hb hby d8_75)
  refine Go.st st9 ?_
  have N9 := Fr.snoc X9 N8 g_a1
  replace zbm := zbm.other W9 (Or.inr (slot_ne (a0 := a0) (Or.inr (wk hw 251 rfl)) (Or.inr (wk hw 253 rfl)) (by decide) (t := (.object "java/lang/String")) (t' := (.object "java/lang/String")) (by decide) (by decide)))
  replace CR := CR.trans (CHr.wr W9 zav CH)
  have CH' := CH.wr W9 zav
  replace CH := CH'
  clear CH'
  replace hk : T5.heap.size ≤ h9.size := by rw [W9.size]; exact hk
  replace O := O.wr W9 g_a1
  replace K := K.wr W9 (Or.inl (List.mem_of_getElem? (i := 0) rfl))
  replace Zn : n0 ≤ h9.size := by rw [W9.size]; exact Zn
  replace zba := zba.same W9
  show Go p.tables e below PP (T9.setTop (mkF m 78 #[.val (.ref a1), .val (.ref a2), .val (.ref a3), .val (.ref r_5), .val (.int (21 : Int32))] []))
  rw [hPP]
  refine endVW X9 hx hlk hZ hS e9 hk hEL CH CR hret (hb hby d8_78) ?_ (by decide) (by decide)
  show Q8u Z a1 a2 a3 fm pl pa pv fp co cv fc t2 f2 t3 f3 zc sv h0 n0 none T9.heap _
  rw [e9]
  exact ⟨rfl, N9, K, zbm, zba⟩
abbrev b_1 : ByteArray := method_3_code
theorem d1_0 : dk b_1 0 (.iload_n 0) 1 := by decide +kernel
theorem d1_1 : dk b_1 1 (.ifCond .ne 7) 3 := by decide +kernel
theorem d1_4 : dk b_1 4 (.iconst 0) 1 := by decide +kernel
theorem d1_5 : dk b_1 5 (.newarray .byte) 2 := by decide +kernel
theorem d1_7 : dk b_1 7 (.areturn) 1 := by decide +kernel
theorem d1_8 : dk b_1 8 (.iload_n 0) 1 := by decide +kernel
theorem d1_9 : dk b_1 9 (.iconst 1) 1 := by decide +kernel
theorem d1_10 : dk b_1 10 (.if_icmp .ne 12) 3 := by decide +kernel
theorem d1_13 : dk b_1 13 (.iconst 1) 1 := by decide +kernel
theorem d1_14 : dk b_1 14 (.newarray .byte) 2 := by decide +kernel
theorem d1_16 : dk b_1 16 (.dup) 1 := by decide +kernel
theorem d1_17 : dk b_1 17 (.iconst 0) 1 := by decide +kernel
theorem d1_18 : dk b_1 18 (.iload_n 1) 1 := by decide +kernel
theorem d1_19 : dk b_1 19 (.i2b) 1 := by decide +kernel
theorem d1_20 : dk b_1 20 (.bastore) 1 := by decide +kernel
theorem d1_21 : dk b_1 21 (.areturn) 1 := by decide +kernel
theorem d1_22 : dk b_1 22 (.iload_n 0) 1 := by decide +kernel
theorem d1_23 : dk b_1 23 (.iconst 2) 1 := by decide +kernel
theorem d1_24 : dk b_1 24 (.if_icmp .ne 20) 3 := by decide +kernel
theorem d1_27 : dk b_1 27 (.iconst 2) 1 := by decide +kernel
theorem d1_28 : dk b_1 28 (.newarray .byte) 2 := by decide +kernel
theorem d1_30 : dk b_1 30 (.dup) 1 := by decide +kernel
theorem d1_31 : dk b_1 31 (.iconst 0) 1 := by decide +kernel
theorem d1_32 : dk b_1 32 (.iload_n 1) 1 := by decide +kernel
theorem d1_33 : dk b_1 33 (.i2b) 1 := by decide +kernel
theorem d1_34 : dk b_1 34 (.bastore) 1 := by decide +kernel
theorem d1_35 : dk b_1 35 (.dup) 1 := by decide +kernel
theorem d1_36 : dk b_1 36 (.iconst 1) 1 := by decide +kernel
theorem d1_37 : dk b_1 37 (.iload_n 1) 1 := by decide +kernel
theorem d1_38 : dk b_1 38 (.bipush 8) 2 := by decide +kernel
theorem d1_40 : dk b_1 40 (.iushr) 1 := by decide +kernel
theorem d1_41 : dk b_1 41 (.i2b) 1 := by decide +kernel
theorem d1_42 : dk b_1 42 (.bastore) 1 := by decide +kernel
theorem d1_43 : dk b_1 43 (.areturn) 1 := by decide +kernel
theorem d1_44 : dk b_1 44 (.iconst 3) 1 := by decide +kernel
theorem d1_45 : dk b_1 45 (.newarray .byte) 2 := by decide +kernel
theorem d1_47 : dk b_1 47 (.dup) 1 := by decide +kernel
theorem d1_48 : dk b_1 48 (.iconst 0) 1 := by decide +kernel
theorem d1_49 : dk b_1 49 (.iload_n 1) 1 := by decide +kernel
theorem d1_50 : dk b_1 50 (.i2b) 1 := by decide +kernel
theorem d1_51 : dk b_1 51 (.bastore) 1 := by decide +kernel
theorem d1_52 : dk b_1 52 (.dup) 1 := by decide +kernel
theorem d1_53 : dk b_1 53 (.iconst 1) 1 := by decide +kernel
theorem d1_54 : dk b_1 54 (.iload_n 1) 1 := by decide +kernel
theorem d1_55 : dk b_1 55 (.bipush 8) 2 := by decide +kernel
theorem d1_57 : dk b_1 57 (.iushr) 1 := by decide +kernel
theorem d1_58 : dk b_1 58 (.i2b) 1 := by decide +kernel
theorem d1_59 : dk b_1 59 (.bastore) 1 := by decide +kernel
theorem d1_60 : dk b_1 60 (.dup) 1 := by decide +kernel
theorem d1_61 : dk b_1 61 (.iconst 2) 1 := by decide +kernel
theorem d1_62 : dk b_1 62 (.iload_n 1) 1 := by decide +kernel
theorem d1_63 : dk b_1 63 (.bipush 16) 2 := by decide +kernel
theorem d1_65 : dk b_1 65 (.iushr) 1 := by decide +kernel
theorem d1_66 : dk b_1 66 (.i2b) 1 := by decide +kernel
theorem d1_67 : dk b_1 67 (.bastore) 1 := by decide +kernel
theorem d1_68 : dk b_1 68 (.areturn) 1 := by decide +kernel
abbrev r_rm1 : Room := { frames := 0, cells := 1, slots := 3, locals := 0 }
theorem pn_rm1 : plainName "com/example/crossname/crossname/store/RecordsIsDeletedItemPinLaw" = true := by first | (simp [plainName, overriddenIn]; done) | decide +kernel
def Q1 (Z : State) (p1 : Int32) (p2 : Int32) (h0 : Heap) (n0 : Nat) (v : Option Value) (h : Heap) (L : List Loc) : Prop := ∃ (t : Addr), v = some (.ref t) ∧ Fr n0 L ∧ Keep h0 h [] ∧ h0.size ≤ t ∧ Afn Z h t .byte p1 (fun k => .int (by3 p2 k)) ∧ Exa Z h t "[B"
theorem rm1 (l : Launch) (Z : State) (a0 : Array Value) (hw : HWt Z a0) (ws : List Jvm.Cond) (p1 : Int32) (p2 : Int32) (h0 : Heap) (n0 : Nat) (Z0 : n0 ≤ h0.size) (hn : N4 p1) :
    Con l Z y_1 method_3_code 2 (some (.array .byte)) ws r_rm1 #[(.int p1), (.int p2)] h0 (Q1 Z p1 p2 h0 n0) := by
  refine Con.of2 (plainFor_of_name pn_rm1) ?_
  intro p e s m below meth c s₁ hZ e0 X0 hx hby hml hown hnm hret hlk PP hPP
  have N0 := Fr.nil n0
  refine Go.cast (ef_rm22 m p1 p2) ?_
  have K : Keep h0 h0 [] := Keep.refl h0 _
  have Zn : n0 ≤ h0.size := Z0
  show Go p.tables e below PP (s₁.setTop (mkF m 0 #[.val (.int p1), .val (.int p2)] []))
  refine Go.st (fun t k => XS.iloadN X0.here hx rfl (hb hby d1_0) rfl k) ?_
  show Go p.tables e below PP (s₁.setTop (mkF m 1 #[.val (.int p1), .val (.int p2)] [(.int p1)]))
  by_cases hc1 : p1 = (0 : Int32)
  · --
    refine Go.st (fun t k => XS.ifNo X0.here hx rfl (hb hby d1_1) rfl (XT.i0_ne_f hc1) (XS.iconst X0.here hx rfl (hb hby d1_4) k)) ?_
    obtain ⟨T1, h1, k1, X1, e1, E1, A1, Ex1, st1⟩ := newPE X0 hx hZ (wk hw 4 rfl) e0 (g := (mkF m 5 #[.val (.int p1), .val (.int p2)] [(.int (0 : Int32))])) rfl (hb hby d1_5) rfl (by decide) (cap := 0) (by decide) (by decide) (by decide) (by decide) (ad := "[B") (by decide)
    obtain ⟨b1, gz1⟩ : ∃ z, z = h0.size := ⟨_, rfl⟩
    rw [← gz1] at A1 Ex1 st1
    have zas : h0.size ≤ b1 := Nat.le_trans K.1 (Nat.le_of_eq gz1.symm)
    refine Go.st st1 ?_
    replace K := K.ext E1
    replace Zn := Nat.le_trans Zn E1.1
    have V_b1 : Afn Z h1 b1 .byte (0 : Int32) (fun _ => (.int (0 : Int32))) := Afn.new A1 (by decide)
    show Go p.tables e below PP (T1.setTop (mkF m 7 #[.val (.int p1), .val (.int p2)] [(.ref b1)]))
    rw [hPP]
    refine endR X1 hx hlk hret rfl rfl (hb hby d1_7) ?_ (by decide) (by decide)
    rw [e1]
    exact ⟨b1, rfl, N0, K, zas, (by rw [hc1]; exact V_b1.congr (fun k hk => absurd hk (Nat.not_lt_zero k))), Ex1⟩
  · --
    refine Go.st (fun t k => XS.ifYes X0.here hx rfl (pc0 := 1) (pc' := 8) rfl (hb hby d1_1) rfl (XT.i0_ne_t hc1) (by decide) (by decide) (XS.iloadN X0.here hx rfl (hb hby d1_8) rfl (XS.iconst X0.here hx rfl (hb hby d1_9) k))) ?_
    show Go p.tables e below PP (s₁.setTop (mkF m 10 #[.val (.int p1), .val (.int p2)] [(.int (1 : Int32)), (.int p1)]))
    by_cases hc10 : p1 = (1 : Int32)
    · --
      refine Go.st (fun t k => XS.icmpNo X0.here hx rfl (hb hby d1_10) rfl (XT.ii_ne_f hc10) (XS.iconst X0.here hx rfl (hb hby d1_13) k)) ?_
      obtain ⟨T2, h2, k2, X2, e2, E2, A2, Ex2, st2⟩ := newPE X0 hx hZ (wk hw 4 rfl) e0 (g := (mkF m 14 #[.val (.int p1), .val (.int p2)] [(.int (1 : Int32))])) rfl (hb hby d1_14) rfl (by decide) (cap := 1) (by decide) (by decide) (by decide) (by decide) (ad := "[B") (by decide)
      obtain ⟨b2, gz2⟩ : ∃ z, z = h0.size := ⟨_, rfl⟩
      rw [← gz2] at A2 Ex2 st2
      have g_b2 : n0 ≤ b2 := Nat.le_trans Zn (Nat.le_of_eq gz2.symm)
      have zbz : h0.size ≤ b2 := Nat.le_trans K.1 (Nat.le_of_eq gz2.symm)
      refine Go.st st2 ?_
      replace K := K.ext E2
      replace Zn := Nat.le_trans Zn E2.1
      have V_b2 : Afn Z h2 b2 .byte (1 : Int32) (fun _ => (.int (0 : Int32))) := Afn.new A2 (by decide)
      refine Go.st (fun t k => XS.dup X2.here hx rfl (hb hby d1_16) rfl rfl (XS.iconst X2.here hx rfl (hb hby d1_17) (XS.iloadN X2.here hx rfl (hb hby d1_18) rfl (XS.i2b X2.here hx rfl (hb hby d1_19) rfl k)))) ?_
      obtain ⟨cl3, Ar3, S3, Nn3, H3⟩ := id V_b2
      have hin3 : ¬ ((0 : Int32) < 0 ∨ cl3.slots.size ≤ ((0 : Int32)).toNatClampNeg) := inb_of S3 ⟨by decide, by decide⟩
      obtain ⟨T3, h3, X3, e3, W3, st3⟩ := stB X2 hx hZ e2 Ar3 (j := (0 : Int32)) hin3 (g := (mkF m 20 #[.val (.int p1), .val (.int p2)] [(.int (p2.toInt8.toInt32)), (.int (0 : Int32)), (.ref b2), (.ref b2)])) rfl rfl (hb hby d1_20)
      refine Go.st st3 ?_
      have N3 := Fr.snoc X3 N0 g_b2
      replace Ex2 := Ex2.wr W3
      replace K := K.wr W3 (Or.inr zbz)
      replace Zn : n0 ≤ h3.size := by rw [W3.size]; exact Zn
      replace V_b2 := Afn.set Ar3 S3 Nn3 H3 (fits_nar_byte _) W3
      show Go p.tables e below PP (T3.setTop (mkF m 21 #[.val (.int p1), .val (.int p2)] [(.ref b2)]))
      rw [hPP]
      refine endR X3 hx hlk hret rfl rfl (hb hby d1_21) ?_ (by decide) (by decide)
      rw [e3]
      exact ⟨b2, rfl, N3, K, zbz, (by rw [hc10]; exact V_b2.congr (fun k hk => own_by1 p2 k hk)), Ex2⟩
    · --
      refine Go.st (fun t k => XS.icmpYes X0.here hx rfl (pc0 := 10) (pc' := 22) rfl (hb hby d1_10) rfl (XT.ii_ne_t hc10) (by decide) (by decide) (XS.iloadN X0.here hx rfl (hb hby d1_22) rfl (XS.iconst X0.here hx rfl (hb hby d1_23) k))) ?_
      show Go p.tables e below PP (s₁.setTop (mkF m 24 #[.val (.int p1), .val (.int p2)] [(.int (2 : Int32)), (.int p1)]))
      by_cases hc24 : p1 = (2 : Int32)
      · --
        refine Go.st (fun t k => XS.icmpNo X0.here hx rfl (hb hby d1_24) rfl (XT.ii_ne_f hc24) (XS.iconst X0.here hx rfl (hb hby d1_27) k)) ?_
        obtain ⟨T4, h4, k4, X4, e4, E4, A4, Ex4, st4⟩ := newPE X0 hx hZ (wk hw 4 rfl) e0 (g := (mkF m 28 #[.val (.int p1), .val (.int p2)] [(.int (2 : Int32))])) rfl (hb hby d1_28) rfl (by decide) (cap := 2) (by decide) (by decide) (by decide) (by decide) (ad := "[B") (by decide)
        obtain ⟨b4, gz4⟩ : ∃ z, z = h0.size := ⟨_, rfl⟩
        rw [← gz4] at A4 Ex4 st4
        have g_b4 : n0 ≤ b4 := Nat.le_trans Zn (Nat.le_of_eq gz4.symm)
        have ziu : h0.size ≤ b4 := Nat.le_trans K.1 (Nat.le_of_eq gz4.symm)
        refine Go.st st4 ?_
        replace K := K.ext E4
        replace Zn := Nat.le_trans Zn E4.1
        have V_b4 : Afn Z h4 b4 .byte (2 : Int32) (fun _ => (.int (0 : Int32))) := Afn.new A4 (by decide)
        refine Go.st (fun t k => XS.dup X4.here hx rfl (hb hby d1_30) rfl rfl (XS.iconst X4.here hx rfl (hb hby d1_31) (XS.iloadN X4.here hx rfl (hb hby d1_32) rfl (XS.i2b X4.here hx rfl (hb hby d1_33) rfl k)))) ?_
        obtain ⟨cl5, Ar5, S5, Nn5, H5⟩ := id V_b4
        have hin5 : ¬ ((0 : Int32) < 0 ∨ cl5.slots.size ≤ ((0 : Int32)).toNatClampNeg) := inb_of S5 ⟨by decide, by decide⟩
        obtain ⟨T5, h5, X5, e5, W5, st5⟩ := stB X4 hx hZ e4 Ar5 (j := (0 : Int32)) hin5 (g := (mkF m 34 #[.val (.int p1), .val (.int p2)] [(.int (p2.toInt8.toInt32)), (.int (0 : Int32)), (.ref b4), (.ref b4)])) rfl rfl (hb hby d1_34)
        refine Go.st st5 ?_
        have N5 := Fr.snoc X5 N0 g_b4
        replace Ex4 := Ex4.wr W5
        replace K := K.wr W5 (Or.inr ziu)
        replace Zn : n0 ≤ h5.size := by rw [W5.size]; exact Zn
        replace V_b4 := Afn.set Ar5 S5 Nn5 H5 (fits_nar_byte _) W5
        refine Go.st (fun t k => XS.dup X5.here hx rfl (hb hby d1_35) rfl rfl (XS.iconst X5.here hx rfl (hb hby d1_36) (XS.iloadN X5.here hx rfl (hb hby d1_37) rfl (XS.bipush X5.here hx rfl (hb hby d1_38) (XS.iushr X5.here hx rfl (hb hby d1_40) rfl (XS.i2b X5.here hx rfl (hb hby d1_41) rfl k)))))) ?_
        obtain ⟨cl6, Ar6, S6, Nn6, H6⟩ := id V_b4
        have hin6 : ¬ ((1 : Int32) < 0 ∨ cl6.slots.size ≤ ((1 : Int32)).toNatClampNeg) := inb_of S6 ⟨by decide, by decide⟩
        obtain ⟨T6, h6, X6, e6, W6, st6⟩ := stB X5 hx hZ e5 Ar6 (j := (1 : Int32)) hin6 (g := (mkF m 42 #[.val (.int p1), .val (.int p2)] [(.int (((p2.toUInt32 >>> ((8 : Int32) &&& 31).toUInt32).toInt32).toInt8.toInt32)), (.int (1 : Int32)), (.ref b4), (.ref b4)])) rfl rfl (hb hby d1_42)
        refine Go.st st6 ?_
        have N6 := Fr.snoc X6 N5 g_b4
        replace Ex4 := Ex4.wr W6
        replace K := K.wr W6 (Or.inr ziu)
        replace Zn : n0 ≤ h6.size := by rw [W6.size]; exact Zn
        replace V_b4 := Afn.set Ar6 S6 Nn6 H6 (fits_nar_byte _) W6
        show Go p.tables e below PP (T6.setTop (mkF m 43 #[.val (.int p1), .val (.int p2)] [(.ref b4)]))
        rw [hPP]
        refine endR X6 hx hlk hret rfl rfl (hb hby d1_43) ?_ (by decide) (by decide)
        rw [e6]
        exact ⟨b4, rfl, N6, K, ziu, (by rw [hc24]; exact V_b4.congr (fun k hk => own_by2 p2 k hk)), Ex4⟩
      · --
        refine Go.st (fun t k => XS.icmpYes X0.here hx rfl (pc0 := 24) (pc' := 44) rfl (hb hby d1_24) rfl (XT.ii_ne_t hc24) (by decide) (by decide) (XS.iconst X0.here hx rfl (hb hby d1_44) k)) ?_
        obtain ⟨T7, h7, k7, X7, e7, E7, A7, Ex7, st7⟩ := newPE X0 hx hZ (wk hw 4 rfl) e0 (g := (mkF m 45 #[.val (.int p1), .val (.int p2)] [(.int (3 : Int32))])) rfl (hb hby d1_45) rfl (by decide) (cap := 3) (by decide) (by decide) (by decide) (by decide) (ad := "[B") (by decide)
        obtain ⟨b7, gz7⟩ : ∃ z, z = h0.size := ⟨_, rfl⟩
        rw [← gz7] at A7 Ex7 st7
        have g_b7 : n0 ≤ b7 := Nat.le_trans Zn (Nat.le_of_eq gz7.symm)
        have zhl : h0.size ≤ b7 := Nat.le_trans K.1 (Nat.le_of_eq gz7.symm)
        refine Go.st st7 ?_
        replace K := K.ext E7
        replace Zn := Nat.le_trans Zn E7.1
        have V_b7 : Afn Z h7 b7 .byte (3 : Int32) (fun _ => (.int (0 : Int32))) := Afn.new A7 (by decide)
        refine Go.st (fun t k => XS.dup X7.here hx rfl (hb hby d1_47) rfl rfl (XS.iconst X7.here hx rfl (hb hby d1_48) (XS.iloadN X7.here hx rfl (hb hby d1_49) rfl (XS.i2b X7.here hx rfl (hb hby d1_50) rfl k)))) ?_
        obtain ⟨cl8, Ar8, S8, Nn8, H8⟩ := id V_b7
        have hin8 : ¬ ((0 : Int32) < 0 ∨ cl8.slots.size ≤ ((0 : Int32)).toNatClampNeg) := inb_of S8 ⟨by decide, by decide⟩
        obtain ⟨T8, h8, X8, e8, W8, st8⟩ := stB X7 hx hZ e7 Ar8 (j := (0 : Int32)) hin8 (g := (mkF m 51 #[.val (.int p1), .val (.int p2)] [(.int (p2.toInt8.toInt32)), (.int (0 : Int32)), (.ref b7), (.ref b7)])) rfl rfl (hb hby d1_51)
        refine Go.st st8 ?_
        have N8 := Fr.snoc X8 N0 g_b7
        replace Ex7 := Ex7.wr W8
        replace K := K.wr W8 (Or.inr zhl)
        replace Zn : n0 ≤ h8.size := by rw [W8.size]; exact Zn
        replace V_b7 := Afn.set Ar8 S8 Nn8 H8 (fits_nar_byte _) W8
        refine Go.st (fun t k => XS.dup X8.here hx rfl (hb hby d1_52) rfl rfl (XS.iconst X8.here hx rfl (hb hby d1_53) (XS.iloadN X8.here hx rfl (hb hby d1_54) rfl (XS.bipush X8.here hx rfl (hb hby d1_55) (XS.iushr X8.here hx rfl (hb hby d1_57) rfl (XS.i2b X8.here hx rfl (hb hby d1_58) rfl k)))))) ?_
        obtain ⟨cl9, Ar9, S9, Nn9, H9⟩ := id V_b7
        have hin9 : ¬ ((1 : Int32) < 0 ∨ cl9.slots.size ≤ ((1 : Int32)).toNatClampNeg) := inb_of S9 ⟨by decide, by decide⟩
        obtain ⟨T9, h9, X9, e9, W9, st9⟩ := stB X8 hx hZ e8 Ar9 (j := (1 : Int32)) hin9 (g := (mkF m 59 #[.val (.int p1), .val (.int p2)] [(.int (((p2.toUInt32 >>> ((8 : Int32) &&& 31).toUInt32).toInt32).toInt8.toInt32)), (.int (1 : Int32)), (.ref b7), (.ref b7)])) rfl rfl (hb hby d1_59)
        refine Go.st st9 ?_
        have N9 := Fr.snoc X9 N8 g_b7
        replace Ex7 := Ex7.wr W9
        replace K := K.wr W9 (Or.inr zhl)
        replace Zn : n0 ≤ h9.size := by rw [W9.size]; exact Zn
        replace V_b7 := Afn.set Ar9 S9 Nn9 H9 (fits_nar_byte _) W9
        refine Go.st (fun t k => XS.dup X9.here hx rfl (hb hby d1_60) rfl rfl (XS.iconst X9.here hx rfl (hb hby d1_61) (XS.iloadN X9.here hx rfl (hb hby d1_62) rfl (XS.bipush X9.here hx rfl (hb hby d1_63) (XS.iushr X9.here hx rfl (hb hby d1_65) rfl (XS.i2b X9.here hx rfl (hb hby d1_66) rfl k)))))) ?_
        obtain ⟨cl10, Ar10, S10, Nn10, H10⟩ := id V_b7
        have hin10 : ¬ ((2 : Int32) < 0 ∨ cl10.slots.size ≤ ((2 : Int32)).toNatClampNeg) := inb_of S10 ⟨by decide, by decide⟩
        obtain ⟨T10, h10, X10, e10, W10, st10⟩ := stB X9 hx hZ e9 Ar10 (j := (2 : Int32)) hin10 (g := (mkF m 67 #[.val (.int p1), .val (.int p2)] [(.int (((p2.toUInt32 >>> ((16 : Int32) &&& 31).toUInt32).toInt32).toInt8.toInt32)), (.int (2 : Int32)), (.ref b7), (.ref b7)])) rfl rfl (hb hby d1_67)
        refine Go.st st10 ?_
        have N10 := Fr.snoc X10 N9 g_b7
        replace Ex7 := Ex7.wr W10
        replace K := K.wr W10 (Or.inr zhl)
        replace Zn : n0 ≤ h10.size := by rw [W10.size]; exact Zn
        replace V_b7 := Afn.set Ar10 S10 Nn10 H10 (fits_nar_byte _) W10
        show Go p.tables e below PP (T10.setTop (mkF m 68 #[.val (.int p1), .val (.int p2)] [(.ref b7)]))
        rw [hPP]
        refine endR X10 hx hlk hret rfl rfl (hb hby d1_68) ?_ (by decide) (by decide)
        rw [e10]
        exact ⟨b7, rfl, N10, K, zhl, (by rw [own_4 hn hc1 hc10 hc24]; exact V_b7.congr (fun k hk => own_by3 p2 k hk)), Ex7⟩
abbrev b_2 : ByteArray := prog_51_method_12_code
theorem d2_0 : dk b_2 0 (.aload_n 0) 1 := by decide +kernel
theorem d2_1 : dk b_2 1 (.arraylength) 1 := by decide +kernel
theorem d2_2 : dk b_2 2 (.ifCond .le 14) 3 := by decide +kernel
theorem d2_5 : dk b_2 5 (.aload_n 0) 1 := by decide +kernel
theorem d2_6 : dk b_2 6 (.iconst 0) 1 := by decide +kernel
theorem d2_7 : dk b_2 7 (.baload) 1 := by decide +kernel
theorem d2_8 : dk b_2 8 (.iconst 1) 1 := by decide +kernel
theorem d2_9 : dk b_2 9 (.if_icmp .ne 7) 3 := by decide +kernel
theorem d2_12 : dk b_2 12 (.iconst 1) 1 := by decide +kernel
theorem d2_13 : dk b_2 13 (.goto 4) 3 := by decide +kernel
theorem d2_16 : dk b_2 16 (.iconst 0) 1 := by decide +kernel
theorem d2_17 : dk b_2 17 (.ireturn) 1 := by decide +kernel
abbrev r_rm2 : Room := { frames := 0, cells := 0, slots := 0, locals := 0 }
theorem pn_rm2 : plainName "com/example/crossname/crossname/store/Records" = true := by first | (simp [plainName, overriddenIn]; done) | decide +kernel
def Q2 (Z : State) (a1 : Addr) (n1 : Int32) (f1 : Nat → Int32) (h0 : Heap) (n0 : Nat) (v : Option Value) (h : Heap) (L : List Loc) : Prop := v = some (.int (bi ((0 : Int32) < n1 ∧ f1 (0 : Int32).toNatClampNeg = (1 : Int32)))) ∧ L = [] ∧ h = h0
theorem rm2 (l : Launch) (Z : State) (a0 : Array Value) (hw : HWt Z a0) (ws : List Jvm.Cond) (a1 : Addr) (n1 : Int32) (f1 : Nat → Int32) (h0 : Heap) (n0 : Nat) (Z0 : n0 ≤ h0.size) (V_a1 : Afn Z h0 a1 .byte n1 (fun k => .int (f1 k))) :
    Con l Z y_2 prog_51_method_12_code 1 (some .boolean) ws r_rm2 #[(.ref a1)] h0 (Q2 Z a1 n1 f1 h0 n0) := by
  refine Con.of2 (plainFor_of_name pn_rm2) ?_
  intro p e s m below meth c s₁ hZ e0 X0 hx hby hml hown hnm hret hlk PP hPP
  have N0 := Fr.nil n0
  refine Go.cast (ef_rm18 m a1) ?_
  have Zn : n0 ≤ h0.size := Z0
  show Go p.tables e below PP (s₁.setTop (mkF m 0 #[.val (.ref a1)] []))
  refine Go.st (fun t k => XS.aloadN X0.here hx rfl (hb hby d2_0) rfl rfl k) ?_
  obtain ⟨cl1, Ar1, S1, Nn1, -⟩ := id V_a1
  refine Go.st (fun t k => X0.arraylength hx (by rw [e0]; exact Ar1.1) (State.isArrayOf_alike hZ.alike Ar1.2.1) (g := (mkF m 1 #[.val (.ref a1)] [(.ref a1)])) rfl rfl (hb hby d2_1) _ k) ?_
  rw [len_of S1 Nn1]
  show Go p.tables e below PP (s₁.setTop (mkF m 2 #[.val (.ref a1)] [(.int n1)]))
  by_cases hc2 : (0 : Int32) < n1
  · --
    refine Go.st (fun t k => XS.ifNo X0.here hx rfl (hb hby d2_2) rfl (XT.i0_le_f hc2) (XS.aloadN X0.here hx rfl (hb hby d2_5) rfl rfl (XS.iconst X0.here hx rfl (hb hby d2_6) k))) ?_
    obtain ⟨cl2, Ar2, S2, Nn2, H2⟩ := id V_a1
    have hin2 : ¬ ((0 : Int32) < 0 ∨ cl2.slots.size ≤ ((0 : Int32)).toNatClampNeg) := inb_of S2 ⟨by decide, hc2⟩
    refine Go.st (fun t k => X0.baloadBytes hx (j := (0 : Int32)) (v := (.int (f1 (0 : Int32).toNatClampNeg))) (by rw [e0]; exact Ar2.1) (State.isArrayOf_alike hZ.alike Ar2.2.1) Ar2.2.2 hin2 ((H2 _ (inbN ⟨by decide, hc2⟩)).1.trans (congrArg some (rfl))) (g := (mkF m 7 #[.val (.ref a1)] [(.int (0 : Int32)), (.ref a1)])) rfl rfl (hb hby d2_7) _ (XS.iconst X0.here hx rfl (hb hby d2_8) k)) ?_
    show Go p.tables e below PP (s₁.setTop (mkF m 9 #[.val (.ref a1)] [(.int (1 : Int32)), (.int (f1 (0 : Int32).toNatClampNeg))]))
    by_cases hc9 : (f1 (0 : Int32).toNatClampNeg) = (1 : Int32)
    · --
      refine Go.st (fun t k => XS.icmpNo X0.here hx rfl (hb hby d2_9) rfl (XT.ii_ne_f hc9) (XS.iconst X0.here hx rfl (hb hby d2_12) (XS.goto X0.here hx rfl (pc0 := 13) (pc' := 17) rfl (hb hby d2_13) (by decide) (by decide) k))) ?_
      show Go p.tables e below PP (s₁.setTop (mkF m 17 #[.val (.ref a1)] [(.int (1 : Int32))]))
      rw [hPP]
      refine endN X0 hx hlk (t := .boolean) hret (by simp) (hb hby d2_17) (w := (1 : Int32)) (rfl) ?_ (by decide) (by decide)
      rw [e0]
      exact ⟨by rw [bi_t ⟨hc2, hc9⟩], rfl, rfl⟩
    · --
      refine Go.st (fun t k => XS.icmpYes X0.here hx rfl (pc0 := 9) (pc' := 16) rfl (hb hby d2_9) rfl (XT.ii_ne_t hc9) (by decide) (by decide) (XS.iconst X0.here hx rfl (hb hby d2_16) k)) ?_
      show Go p.tables e below PP (s₁.setTop (mkF m 17 #[.val (.ref a1)] [(.int (0 : Int32))]))
      rw [hPP]
      refine endN X0 hx hlk (t := .boolean) hret (by simp) (hb hby d2_17) (w := (0 : Int32)) (rfl) ?_ (by decide) (by decide)
      rw [e0]
      exact ⟨by rw [bi_f (fun z => hc9 z.2)], rfl, rfl⟩
  · --
    refine Go.st (fun t k => XS.ifYes X0.here hx rfl (pc0 := 2) (pc' := 16) rfl (hb hby d2_2) rfl (XT.i0_le_t hc2) (by decide) (by decide) (XS.iconst X0.here hx rfl (hb hby d2_16) k)) ?_
    show Go p.tables e below PP (s₁.setTop (mkF m 17 #[.val (.ref a1)] [(.int (0 : Int32))]))
    rw [hPP]
    refine endN X0 hx hlk (t := .boolean) hret (by simp) (hb hby d2_17) (w := (0 : Int32)) (rfl) ?_ (by decide) (by decide)
    rw [e0]
    exact ⟨by rw [bi_f (fun z => hc2 z.1)], rfl, rfl⟩
abbrev b_49 : ByteArray := prog_31_method_1_code
theorem d49_0 : dk b_49 0 (.aload_n 0) 1 := by decide +kernel
theorem d49_1 : dk b_49 1 (.invokespecial 1) 3 := by decide +kernel
theorem d49_4 : dk b_49 4 (.aload_n 1) 1 := by decide +kernel
theorem d49_5 : dk b_49 5 (.ldc 7) 2 := by decide +kernel
theorem d49_7 : dk b_49 7 (.invokestatic 9) 3 := by decide +kernel
theorem d49_10 : dk b_49 10 (.checkcast 15) 3 := by decide +kernel
theorem d49_13 : dk b_49 13 (.invokevirtual 17) 3 := by decide +kernel
theorem d49_16 : dk b_49 16 (.checkcast 15) 3 := by decide +kernel
theorem d49_19 : dk b_49 19 (.astore_n 1) 1 := by decide +kernel
theorem d49_20 : dk b_49 20 (.aload_n 1) 1 := by decide +kernel
theorem d49_21 : dk b_49 21 (.arraylength) 1 := by decide +kernel
theorem d49_22 : dk b_49 22 (.sipush 1024) 3 := by decide +kernel
theorem d49_25 : dk b_49 25 (.if_icmp .le 31) 3 := by decide +kernel
theorem d49_56 : dk b_49 56 (.aload_n 0) 1 := by decide +kernel
theorem d49_57 : dk b_49 57 (.aload_n 1) 1 := by decide +kernel
theorem d49_58 : dk b_49 58 (.putfield 44) 3 := by decide +kernel
theorem d49_61 : dk b_49 61 (.return_) 1 := by decide +kernel
abbrev r_rm49 : Room := { frames := 2, cells := 3, slots := 27, locals := 52 }
theorem pn_rm49 : plainName "com/example/crossname/crossname/access/Version" = true := by first | (simp [plainName, overriddenIn]; done) | decide +kernel
def Q49 (Z : State) (a1 : Addr) (a2 : Addr) (n2 : Int32) (f2 : Nat → Int32) (h0 : Heap) (n0 : Nat) (v : Option Value) (h : Heap) (L : List Loc) : Prop := ∃ (t : Addr), v = none ∧ Fr n0 L ∧ Keep h0 h [a1] ∧ h0.size ≤ t ∧ Fld Z h a1 k_2 "bytes" "[B" (.ref t) ∧ Afn Z h t .byte n2 (fun k => .int (f2 k)) ∧ Exa Z h t "[B"
theorem rm49 (l : Launch) (Z : State) (a0 : Array Value) (hw : HWt Z a0) (ws : List Jvm.Cond) (a1 : Addr) (a2 : Addr) (n2 : Int32) (f2 : Nat → Int32) (h0 : Heap) (n0 : Nat) (Z0 : n0 ≤ h0.size) (hEL : EW Z a0 consts_1) (E_a1 : Exa Z h0 a1 k_2) (zaj : Fld Z h0 a1 k_2 "bytes" "[B" .null) (V_a2 : Afn Z h0 a2 .byte n2 (fun k => .int (f2 k))) (X_a2 : Exa Z h0 a2 "[B") (g_a1 : n0 ≤ a1) (zdd : a1 ≠ a2) (hn : N4 n2) (O : Old Z n0 h0) :
    ConH l Z consts_1 y_49 prog_31_method_1_code 2 none ws r_rm49 #[(.ref a1), (.ref a2)] h0 (Q49 Z a1 a2 n2 f2 h0 n0) := by
  refine ConH.of (plainFor_of_name pn_rm49) ?_
  intro p e s m below meth c s₁ vm0 k0 hZ e0 X0 hx hby hml hown hnm hret hlk hS hk CH CR
  have N0 : Fr n0 [] := Fr.nil n0
  obtain ⟨PP, hPP⟩ : ∃ P, P = FineW Z consts_1 s below (Q49 Z a1 a2 n2 f2 h0 n0) r_rm49.cells r_rm49.slots := ⟨_, rfl⟩
  rw [← hPP]
  refine Go.cast (ef_rm12 m a1 a2) ?_
  have K : Keep h0 h0 [a1] := Keep.refl h0 _
  have Zn : n0 ≤ h0.size := Z0
  have zav : Safe Z consts_1 vm0 h0 a1 := safe_cls hZ.alike E_a1 (by decide) (by decide)
  show Go p.tables e below PP (s₁.setTop (mkF m 0 #[.val (.ref a1), .val (.ref a2)] []))
  refine Go.st (fun t k => XS.aloadN X0.here hx rfl (hb hby d49_0) rfl rfl k) ?_
  obtain ⟨v1, T1, L1, X1, hQ1, st1⟩ := callIn X0 hx hZ (y := y_9) (a := a1) (argsL := []) (rest := []) rfl hown (wk hw 260 rfl) (wk hw 41 rfl) (wk hw 43 rfl) (wk hw 44 rfl) (by decide) (rm9 l Z a0 hw [] a1 h0 n0 Zn) e0 0 (by decide) (by decide) (by decide) (by decide) (g := (mkF m 1 #[.val (.ref a1), .val (.ref a2)] [(.ref a1)])) rfl (by rw [hml]; rfl) (lenOf pd_21 rfl) rfl (Nat.le_of_eq rfl) (hb hby d49_1)
  obtain ⟨rfl, rfl, e1⟩ := hQ1
  rw [List.append_nil] at X1
  refine Go.st st1 ?_
  refine Go.st (fun t k => XS.aloadN X1.here hx rfl (hb hby d49_4) rfl rfl k) ?_
  show Go p.tables e below PP (T1.setTop (mkF m 5 #[.val (.ref a1), .val (.ref a2)] [(.ref a2)]))
  obtain ⟨sa2, T2, h2, kk2, sb2, kc2, X2, e2, E2, hS2, hk2, hZ2, hown2, Es2, Fc2, Fv2, As2, -, -, hC2, -, nS2, st2⟩ := ldcCH X1 hx hZ hown (wk hw 261 rfl) (strA hw) e1 hS hk hEL (List.mem_of_getElem? (i := 2) rfl) CH (vs := [(.int (98 : Int32)), (.int (121 : Int32)), (.int (116 : Int32)), (.int (101 : Int32)), (.int (115 : Int32))]) (z := (5 : Int32)) (by decide) (by decide) (by decide) (g := (mkF m 5 #[.val (.ref a1), .val (.ref a2)] [(.ref a2)])) rfl (hb hby d49_5) (n := 20) (by decide) (by decide) (by decide) (by decide)
  have lt_a1 := E_a1.lt
  replace E_a1 := E_a1.ext E2
  replace zaj := zaj.ext E2
  replace V_a2 := V_a2.ext E2
  replace X_a2 := X_a2.ext E2
  replace O := O.ext E2
  replace K := K.ext E2
  replace zav := hC2.safe lt_a1 zav
  have zka : a1 ≠ sa2 := (nS2 _ zav).1
  have zlt : a1 ≠ sb2 := (nS2 _ zav).2
  replace Zn := Nat.le_trans Zn E2.1
  replace CR := CR.trans hC2
  replace CH := hC2.1
  replace hS := hS2
  replace hk := hk2
  replace hZ := hZ2
  replace hown := hown2
  refine Go.st st2 ?_
  replace As2 := Afn.of_arv As2
  obtain ⟨v3, T3, L3, X3, hQ3, st3⟩ := callSt X2 hx hZ (y := y_12) (argsL := [(.ref a2), (.ref sa2)]) (rest := []) hown (wk hw 262 rfl) (wk hw 62 rfl) (wk hw 63 rfl) (wk hw 64 rfl) (by decide) (rm12 l Z a0 hw [] a2 sa2 h2 n0 Zn) e2 0 (by decide) (by decide) (by decide) (by decide) (g := (mkF m 7 #[.val (.ref a1), .val (.ref a2)] [(.ref sa2), (.ref a2)])) rfl (by rw [hml]; rfl) (lenOf pd_33 rfl) rfl (Nat.le_of_eq rfl) (hb hby d49_7)
  obtain ⟨rfl, rfl, e3⟩ := hQ3
  rw [List.append_nil] at X3
  refine Go.st st3 ?_
  obtain ⟨T4, X4, e4, st4⟩ := castY X3 hx hZ hown (wk hw 263 rfl) e3 (Ins.self X_a2) (g := (mkF m 10 #[.val (.ref a1), .val (.ref a2)] [(.ref a2)])) rfl rfl (hb hby d49_10)
  refine Go.st st4 ?_
  obtain ⟨T5, h5, X5, e5, E5, A5, Ex5, st5⟩ := cloneF X4 hx hZ hown (wk hw 265 rfl) (wk hw 266 rfl) (wk hw 270 rfl) (wk hw 268 rfl) (wk hw 269 rfl) (wk hw 271 rfl) e4 V_a2 X_a2 (g := (mkF m 13 #[.val (.ref a1), .val (.ref a2)] [(.ref a2)])) rfl (by rw [hml]; rfl) rfl (hb hby d49_13) (by decide) (W := 0) (by show 2 * 0 + _ ≤ _; exact Nat.le_of_eq rfl) (by decide) (cap := 3) (own_n4x hn).2.1 (by decide) (by decide)
  obtain ⟨b5, gz5⟩ : ∃ z, z = h2.size := ⟨_, rfl⟩
  rw [← gz5] at A5 Ex5 st5
  have zlu : a1 ≠ b5 := Nat.ne_of_lt (Nat.lt_of_lt_of_le E_a1.lt (Nat.le_of_eq gz5.symm))
  have zlv : h0.size ≤ b5 := Nat.le_trans K.1 (Nat.le_of_eq gz5.symm)
  refine Go.st st5 ?_
  replace E_a1 := E_a1.ext E5
  replace zaj := zaj.ext E5
  replace Es2 := Es2.ext E5
  replace Fc2 := Fc2.ext E5
  replace Fv2 := Fv2.ext E5
  replace As2 := As2.ext E5
  replace zav := Safe.ext E5 CH zav
  replace CR := CR.trans (CHr.ext E5 CH)
  replace CH := CH.ext E5
  replace hk := Nat.le_trans hk E5.1
  replace O := O.ext E5
  replace K := K.ext E5
  replace Zn := Nat.le_trans Zn E5.1
  obtain ⟨T6, X6, e6, st6⟩ := castY X5 hx hZ hown (wk hw 263 rfl) e5 (Ins.self Ex5) (g := (mkF m 16 #[.val (.ref a1), .val (.ref a2)] [(.ref b5)])) rfl rfl (hb hby d49_16)
  refine Go.st st6 ?_
  refine Go.st (fun t k => XS.astoreN X6.here hx rfl (hb hby d49_19) rfl rfl (l' := #[.val (.ref a1), .val (.ref b5)]) rfl (XS.aloadN X6.here hx rfl (hb hby d49_20) rfl rfl k)) ?_
  obtain ⟨cl7, Ar7, S7, Nn7, -⟩ := id A5
  refine Go.st (fun t k => X6.arraylength hx (by rw [e6]; exact Ar7.1) (State.isArrayOf_alike hZ.alike Ar7.2.1) (g := (mkF m 21 #[.val (.ref a1), .val (.ref b5)] [(.ref b5)])) rfl rfl (hb hby d49_21) _ k) ?_
  rw [len_of S7 Nn7]
  refine Go.st (fun t k => XS.sipush X6.here hx rfl (hb hby d49_22) (XS.icmpYes X6.here hx rfl (pc0 := 25) (pc' := 56) rfl (hb hby d49_25) rfl (XT.ii_le_t (own_n4x hn).2.2.1) (by decide) (by decide) (XS.aloadN X6.here hx rfl (hb hby d49_56) rfl rfl (XS.aloadN X6.here hx rfl (hb hby d49_57) rfl rfl k)))) ?_
  obtain ⟨T8, h8, X8, e8, W8, st8⟩ := putF X6 hx hZ hown (host := "") (Or.inl (wk hw 272 rfl)) Via.refl e6 zaj E_a1 (Or.inr ⟨(wk hw 273 rfl), rfl, hnm⟩) (wk hw 255 rfl) (ty := (.array .byte)) (by decide) rfl rfl (g := (mkF m 58 #[.val (.ref a1), .val (.ref b5)] [(.ref b5), (.ref a1)])) rfl rfl (hb hby d49_58)
  refine Go.st st8 ?_
  have N8 := Fr.snoc X8 N0 g_a1
  replace Es2 := Es2.wr W8
  replace Fc2 := Fc2.other W8 (Or.inl (Ne.symm zka))
  replace Fv2 := Fv2.other W8 (Or.inl (Ne.symm zka))
  replace As2 := As2.other W8 (Ne.symm zlt)
  replace A5 := A5.other W8 (Ne.symm zlu)
  replace Ex5 := Ex5.wr W8
  replace CR := CR.trans (CHr.wr W8 zav CH)
  have CH' := CH.wr W8 zav
  replace CH := CH'
  clear CH'
  replace hk : kk2 ≤ h8.size := by rw [W8.size]; exact hk
  replace O := O.wr W8 g_a1
  replace K := K.wr W8 (Or.inl (List.mem_of_getElem? (i := 0) rfl))
  replace Zn : n0 ≤ h8.size := by rw [W8.size]; exact Zn
  replace zaj := zaj.same W8
  show Go p.tables e below PP (T8.setTop (mkF m 61 #[.val (.ref a1), .val (.ref b5)] []))
  rw [hPP]
  refine endVW X8 hx hlk hZ hS e8 hk hEL CH CR hret (hb hby d49_61) ?_ (by decide) (by decide)
  show Q49 Z a1 a2 n2 f2 h0 n0 none T8.heap _
  rw [e8]
  exact ⟨b5, rfl, N8, K, zlv, zaj, A5, Ex5⟩
abbrev b_69 : ByteArray := prog_31_method_2_code
theorem d69_0 : dk b_69 0 (.aload_n 0) 1 := by decide +kernel
theorem d69_1 : dk b_69 1 (.getfield 44) 3 := by decide +kernel
theorem d69_4 : dk b_69 4 (.invokevirtual 17) 3 := by decide +kernel
theorem d69_7 : dk b_69 7 (.checkcast 15) 3 := by decide +kernel
theorem d69_10 : dk b_69 10 (.areturn) 1 := by decide +kernel
abbrev r_rm69 : Room := { frames := 1, cells := 1, slots := 3, locals := 40 }
def Q69 (Z : State) (a1 : Addr) (tb : Addr) (nb : Int32) (fw : Nat → Int32) (h0 : Heap) (n0 : Nat) (v : Option Value) (h : Heap) (L : List Loc) : Prop := ∃ (t : Addr), v = some (.ref t) ∧ Fr n0 L ∧ Keep h0 h [] ∧ h0.size ≤ t ∧ Afn Z h t .byte nb (fun k => .int (fw k))
theorem rm69 (l : Launch) (Z : State) (a0 : Array Value) (hw : HWt Z a0) (ws : List Jvm.Cond) (a1 : Addr) (tb : Addr) (nb : Int32) (fw : Nat → Int32) (h0 : Heap) (n0 : Nat) (Z0 : n0 ≤ h0.size) (zaj : Fld Z h0 a1 k_2 "bytes" "[B" (.ref tb)) (V_tb : Afn Z h0 tb .byte nb (fun k => .int (fw k))) (X_tb : Exa Z h0 tb "[B") (hn : N4 nb) :
    Con l Z y_69 prog_31_method_2_code 1 (some (.array .byte)) ws r_rm69 #[(.ref a1)] h0 (Q69 Z a1 tb nb fw h0 n0) := by
  refine Con.of2 (plainFor_of_name pn_rm49) ?_
  intro p e s m below meth c s₁ hZ e0 X0 hx hby hml hown hnm hret hlk PP hPP
  have N0 := Fr.nil n0
  refine Go.cast (ef_rm18 m a1) ?_
  have K : Keep h0 h0 [] := Keep.refl h0 _
  have Zn : n0 ≤ h0.size := Z0
  show Go p.tables e below PP (s₁.setTop (mkF m 0 #[.val (.ref a1)] []))
  refine Go.st (fun t k => XS.aloadN X0.here hx rfl (hb hby d69_0) rfl rfl k) ?_
  obtain ⟨T1, X1, e1, st1⟩ := getF X0 hx hZ hown (host := "") (Or.inl (wk hw 272 rfl)) Via.refl e0 zaj (g := (mkF m 1 #[.val (.ref a1)] [(.ref a1)])) rfl rfl (hb hby d69_1)
  refine Go.st st1 ?_
  obtain ⟨T2, h2, X2, e2, E2, A2, Ex2, st2⟩ := cloneF X1 hx hZ hown (wk hw 265 rfl) (wk hw 266 rfl) (wk hw 270 rfl) (wk hw 268 rfl) (wk hw 269 rfl) (wk hw 271 rfl) e1 V_tb X_tb (g := (mkF m 4 #[.val (.ref a1)] [(.ref tb)])) rfl (by rw [hml]; rfl) rfl (hb hby d69_4) (by decide) (W := 0) (by show 2 * 0 + _ ≤ _; exact Nat.le_of_eq rfl) (by decide) (cap := 3) (own_n4x hn).2.1 (by decide) (by decide)
  obtain ⟨b2, gz2⟩ : ∃ z, z = h0.size := ⟨_, rfl⟩
  rw [← gz2] at A2 Ex2 st2
  have zbz : h0.size ≤ b2 := Nat.le_trans K.1 (Nat.le_of_eq gz2.symm)
  refine Go.st st2 ?_
  replace K := K.ext E2
  replace Zn := Nat.le_trans Zn E2.1
  obtain ⟨T3, X3, e3, st3⟩ := castY X2 hx hZ hown (wk hw 263 rfl) e2 (Ins.self Ex2) (g := (mkF m 7 #[.val (.ref a1)] [(.ref b2)])) rfl rfl (hb hby d69_7)
  refine Go.st st3 ?_
  show Go p.tables e below PP (T3.setTop (mkF m 10 #[.val (.ref a1)] [(.ref b2)]))
  rw [hPP]
  refine endR X3 hx hlk hret rfl rfl (hb hby d69_10) ?_ (by decide) (by decide)
  rw [e3]
  exact ⟨b2, rfl, N0, K, zbz, A2⟩
abbrev b_54 : ByteArray := jdk_2038_method_1_code
theorem d54_0 : dk b_54 0 (.aload_n 0) 1 := by decide +kernel
theorem d54_1 : dk b_54 1 (.invokespecial 1) 3 := by decide +kernel
theorem d54_4 : dk b_54 4 (.return_) 1 := by decide +kernel
abbrev r_rm54 : Room := { frames := 1, cells := 0, slots := 0, locals := 40 }
theorem pn_rm54 : plainName "java/io/OutputStream" = true := by first | (simp [plainName, overriddenIn]; done) | decide +kernel
def Q54 (Z : State) (a1 : Addr) (h0 : Heap) (n0 : Nat) (v : Option Value) (h : Heap) (L : List Loc) : Prop := v = none ∧ L = [] ∧ h = h0
theorem rm54 (l : Launch) (Z : State) (a0 : Array Value) (hw : HWt Z a0) (ws : List Jvm.Cond) (a1 : Addr) (h0 : Heap) (n0 : Nat) (Z0 : n0 ≤ h0.size) :
    Con l Z y_54 jdk_2038_method_1_code 1 none ws r_rm54 #[(.ref a1)] h0 (Q54 Z a1 h0 n0) := by
  refine Con.of2 (plainFor_of_name pn_rm54) ?_
  intro p e s m below meth c s₁ hZ e0 X0 hx hby hml hown hnm hret hlk PP hPP
  have N0 := Fr.nil n0
  refine Go.cast (ef_rm18 m a1) ?_
  have Zn : n0 ≤ h0.size := Z0
  show Go p.tables e below PP (s₁.setTop (mkF m 0 #[.val (.ref a1)] []))
  refine Go.st (fun t k => XS.aloadN X0.here hx rfl (hb hby d54_0) rfl rfl k) ?_
  obtain ⟨T1, X1, e1, st1⟩ := initO X0 hx hZ hown (wk hw 300 rfl) (wk hw 31 rfl) (wk hw 32 rfl) e0 (g := (mkF m 1 #[.val (.ref a1)] [(.ref a1)])) rfl (by rw [hml]; rfl) rfl (hb hby d54_1) (by decide) (W := 0) (by show 2 * 0 + _ ≤ _; exact Nat.le_of_eq rfl) (by decide)
  refine Go.st st1 ?_
  show Go p.tables e below PP (T1.setTop (mkF m 4 #[.val (.ref a1)] []))
  rw [hPP]
  refine endV X1 hx hlk hret (hb hby d54_4) ?_ (by decide) (by decide)
  rw [e1]
  exact ⟨rfl, rfl, rfl⟩
abbrev b_53 : ByteArray := jdk_2005_method_2_code
theorem d53_0 : dk b_53 0 (.aload_n 0) 1 := by decide +kernel
theorem d53_1 : dk b_53 1 (.invokespecial 7) 3 := by decide +kernel
theorem d53_4 : dk b_53 4 (.iload_n 1) 1 := by decide +kernel
theorem d53_5 : dk b_53 5 (.ifCond .ge 30) 3 := by decide +kernel
theorem d53_35 : dk b_53 35 (.aload_n 0) 1 := by decide +kernel
theorem d53_36 : dk b_53 36 (.iload_n 1) 1 := by decide +kernel
theorem d53_37 : dk b_53 37 (.newarray .byte) 2 := by decide +kernel
theorem d53_39 : dk b_53 39 (.putfield 33) 3 := by decide +kernel
theorem d53_42 : dk b_53 42 (.return_) 1 := by decide +kernel
abbrev r_rm53 : Room := { frames := 2, cells := 1, slots := 32, locals := 52 }
theorem pn_rm53 : plainName "java/io/ByteArrayOutputStream" = true := by first | (simp [plainName, overriddenIn]; done) | decide +kernel
theorem ef_rm53 (m : MethodId) (a1 : Addr) : entryFrame m #[(.ref a1), (.int (32 : Int32))] 2 = mkF m 0 #[.val (.ref a1), .val (.int (32 : Int32))] [] := by first | (simp [entryFrame, mkF, argsToLocals, Value.category]; done) | rfl
def Q53 (Z : State) (a1 : Addr) (h0 : Heap) (n0 : Nat) (v : Option Value) (h : Heap) (L : List Loc) : Prop := ∃ (t : Addr) (f' : Nat → Int32), v = none ∧ Fr n0 L ∧ Keep h0 h [a1] ∧ h0.size ≤ t ∧ Fld Z h a1 k_6 "buf" "[B" (.ref t) ∧ Fld Z h a1 k_6 "count" "I" (.int (0 : Int32)) ∧ Afn Z h t .byte (32 : Int32) (fun k => .int (f' k)) ∧ Unt h a1
theorem rm53 (l : Launch) (Z : State) (a0 : Array Value) (hw : HWt Z a0) (ws : List Jvm.Cond) (a1 : Addr) (h0 : Heap) (n0 : Nat) (Z0 : n0 ≤ h0.size) (E_a1 : Exa Z h0 a1 k_6) (zar : Fld Z h0 a1 k_6 "buf" "[B" .null) (zac : Fld Z h0 a1 k_6 "count" "I" (.int (0 : Int32))) (U_a1 : Unt h0 a1) (g_a1 : n0 ≤ a1) :
    Con l Z y_53 jdk_2005_method_2_code 2 none ws r_rm53 #[(.ref a1), (.int (32 : Int32))] h0 (Q53 Z a1 h0 n0) := by
  refine Con.of2 (plainFor_of_name pn_rm53) ?_
  intro p e s m below meth c s₁ hZ e0 X0 hx hby hml hown hnm hret hlk PP hPP
  have N0 := Fr.nil n0
  refine Go.cast (ef_rm53 m a1) ?_
  have K : Keep h0 h0 [a1] := Keep.refl h0 _
  have Zn : n0 ≤ h0.size := Z0
  show Go p.tables e below PP (s₁.setTop (mkF m 0 #[.val (.ref a1), .val (.int (32 : Int32))] []))
  refine Go.st (fun t k => XS.aloadN X0.here hx rfl (hb hby d53_0) rfl rfl k) ?_
  obtain ⟨v1, T1, L1, X1, hQ1, st1⟩ := callIn X0 hx hZ (y := y_54) (a := a1) (argsL := []) (rest := []) rfl hown (wk hw 294 rfl) (wk hw 295 rfl) (wk hw 298 rfl) (wk hw 299 rfl) (by decide) (rm54 l Z a0 hw [] a1 h0 n0 Zn) e0 0 (by decide) (by decide) (by decide) (by decide) (g := (mkF m 1 #[.val (.ref a1), .val (.int (32 : Int32))] [(.ref a1)])) rfl (by rw [hml]; rfl) (lenOf pd_21 rfl) rfl (Nat.le_of_eq rfl) (hb hby d53_1)
  obtain ⟨rfl, rfl, e1⟩ := hQ1
  rw [List.append_nil] at X1
  refine Go.st st1 ?_
  refine Go.st (fun t k => XS.iloadN X1.here hx rfl (hb hby d53_4) rfl (XS.ifYes X1.here hx rfl (pc0 := 5) (pc' := 35) rfl (hb hby d53_5) rfl (XT.i0_ge_t (by decide)) (by decide) (by decide) (XS.aloadN X1.here hx rfl (hb hby d53_35) rfl rfl (XS.iloadN X1.here hx rfl (hb hby d53_36) rfl k)))) ?_
  obtain ⟨T2, h2, k2, X2, e2, E2, A2, st2⟩ := newP X1 hx hZ (wk hw 4 rfl) e1 (g := (mkF m 37 #[.val (.ref a1), .val (.int (32 : Int32))] [(.int (32 : Int32)), (.ref a1)])) rfl (hb hby d53_37) rfl (by decide) (cap := 32) (by decide) (by decide) (by decide) (by decide)
  obtain ⟨b2, gz2⟩ : ∃ z, z = h0.size := ⟨_, rfl⟩
  rw [← gz2] at A2 st2
  have zeu : a1 ≠ b2 := Nat.ne_of_lt (Nat.lt_of_lt_of_le E_a1.lt (Nat.le_of_eq gz2.symm))
  have zbz : h0.size ≤ b2 := Nat.le_trans K.1 (Nat.le_of_eq gz2.symm)
  refine Go.st st2 ?_
  replace E_a1 := E_a1.ext E2
  replace zar := zar.ext E2
  replace zac := zac.ext E2
  replace U_a1 := U_a1.ext E2
  replace K := K.ext E2
  replace Zn := Nat.le_trans Zn E2.1
  have V_b2 : Afn Z h2 b2 .byte (32 : Int32) (fun _ => (.int (0 : Int32))) := Afn.new A2 (by decide)
  obtain ⟨T3, h3, X3, e3, W3, st3⟩ := putF X2 hx hZ hown (host := "") (Or.inl (wk hw 301 rfl)) Via.refl e2 zar E_a1 (Or.inl (wk hw 302 rfl)) (wk hw 285 rfl) (ty := (.array .byte)) (by decide) rfl rfl (g := (mkF m 39 #[.val (.ref a1), .val (.int (32 : Int32))] [(.ref b2), (.ref a1)])) rfl rfl (hb hby d53_39)
  refine Go.st st3 ?_
  have N3 := Fr.snoc X3 N0 g_a1
  replace zac := zac.other W3 (Or.inr (slot_ne (a0 := a0) (Or.inl (wk hw 316 rfl)) (Or.inl (wk hw 302 rfl)) (by decide) (t := .int) (t' := (.array .byte)) (by decide) (by decide)))
  replace U_a1 := unt_wr U_a1 W3
  replace V_b2 := V_b2.other W3 (Ne.symm zeu)
  replace K := K.wr W3 (Or.inl (List.mem_of_getElem? (i := 0) rfl))
  replace Zn : n0 ≤ h3.size := by rw [W3.size]; exact Zn
  replace zar := zar.same W3
  show Go p.tables e below PP (T3.setTop (mkF m 42 #[.val (.ref a1), .val (.int (32 : Int32))] []))
  rw [hPP]
  refine endV X3 hx hlk hret (hb hby d53_42) ?_ (by decide) (by decide)
  rw [e3]
  exact ⟨b2, (fun k => (0 : Int32)), rfl, N3, K, zbz, zar, zac, V_b2, U_a1⟩
abbrev b_52 : ByteArray := jdk_2005_method_1_code
theorem d52_0 : dk b_52 0 (.aload_n 0) 1 := by decide +kernel
theorem d52_1 : dk b_52 1 (.bipush 32) 2 := by decide +kernel
theorem d52_3 : dk b_52 3 (.invokespecial 1) 3 := by decide +kernel
theorem d52_6 : dk b_52 6 (.return_) 1 := by decide +kernel
abbrev r_rm52 : Room := { frames := 3, cells := 1, slots := 32, locals := 65 }
def Q52 (Z : State) (a1 : Addr) (h0 : Heap) (n0 : Nat) (v : Option Value) (h : Heap) (L : List Loc) : Prop := ∃ (t : Addr) (f' : Nat → Int32), v = none ∧ Fr n0 L ∧ Keep h0 h [a1] ∧ h0.size ≤ t ∧ Fld Z h a1 k_6 "buf" "[B" (.ref t) ∧ Fld Z h a1 k_6 "count" "I" (.int (0 : Int32)) ∧ Afn Z h t .byte (32 : Int32) (fun k => .int (f' k)) ∧ Unt h a1
theorem rm52 (l : Launch) (Z : State) (a0 : Array Value) (hw : HWt Z a0) (ws : List Jvm.Cond) (a1 : Addr) (h0 : Heap) (n0 : Nat) (Z0 : n0 ≤ h0.size) (E_a1 : Exa Z h0 a1 k_6) (zar : Fld Z h0 a1 k_6 "buf" "[B" .null) (zac : Fld Z h0 a1 k_6 "count" "I" (.int (0 : Int32))) (U_a1 : Unt h0 a1) (g_a1 : n0 ≤ a1) :
    Con l Z y_52 jdk_2005_method_1_code 1 none ws r_rm52 #[(.ref a1)] h0 (Q52 Z a1 h0 n0) := by
  refine Con.of2 (plainFor_of_name pn_rm53) ?_
  intro p e s m below meth c s₁ hZ e0 X0 hx hby hml hown hnm hret hlk PP hPP
  have N0 := Fr.nil n0
  refine Go.cast (ef_rm18 m a1) ?_
  have K : Keep h0 h0 [a1] := Keep.refl h0 _
  have Zn : n0 ≤ h0.size := Z0
  show Go p.tables e below PP (s₁.setTop (mkF m 0 #[.val (.ref a1)] []))
  refine Go.st (fun t k => XS.aloadN X0.here hx rfl (hb hby d52_0) rfl rfl (XS.bipush X0.here hx rfl (hb hby d52_1) k)) ?_
  obtain ⟨v1, T1, L1, X1, hQ1, st1⟩ := callIn X0 hx hZ (y := y_53) (a := a1) (argsL := [(.int (32 : Int32))]) (rest := []) rfl hown (wk hw 290 rfl) (wk hw 291 rfl) (wk hw 286 rfl) (wk hw 293 rfl) (by decide) (rm53 l Z a0 hw [] a1 h0 n0 Zn E_a1 zar zac U_a1 g_a1) e0 0 (by decide) (by decide) (by decide) (by decide) (g := (mkF m 3 #[.val (.ref a1)] [(.int (32 : Int32)), (.ref a1)])) rfl (by rw [hml]; rfl) (lenOf pd_25 rfl) rfl (Nat.le_of_eq rfl) (hb hby d52_3)
  obtain ⟨h1, e1⟩ : ∃ z, T1.heap = z := ⟨_, rfl⟩
  rw [e1] at hQ1
  obtain ⟨t_1, fx_1, rfl, Nq1, Kq1, zbk, zai, zbn, zbo, zcm⟩ := hQ1
  have N1 := Fr.app N0 Nq1
  have zgl : h0.size ≤ t_1 := Nat.le_trans K.1 zbk
  replace K := K.trans Kq1 (allS (Or.inl (List.mem_of_getElem? (i := 0) rfl)) all0)
  replace Zn := Nat.le_trans Zn Kq1.1
  refine Go.st st1 ?_
  show Go p.tables e below PP (T1.setTop (mkF m 6 #[.val (.ref a1)] []))
  rw [hPP]
  refine endV X1 hx hlk hret (hb hby d52_6) ?_ (by decide) (by decide)
  rw [e1]
  exact ⟨t_1, fx_1, rfl, N1, K, zgl, zai, zbn, zbo, zcm⟩
abbrev b_57 : ByteArray := jdk_2005_method_3_code
theorem d57_0 : dk b_57 0 (.aload_n 0) 1 := by decide +kernel
theorem d57_1 : dk b_57 1 (.getfield 33) 3 := by decide +kernel
theorem d57_4 : dk b_57 4 (.arraylength) 1 := by decide +kernel
theorem d57_5 : dk b_57 5 (.istore_n 2) 1 := by decide +kernel
theorem d57_6 : dk b_57 6 (.iload_n 1) 1 := by decide +kernel
theorem d57_7 : dk b_57 7 (.iload_n 2) 1 := by decide +kernel
theorem d57_8 : dk b_57 8 (.isub) 1 := by decide +kernel
theorem d57_9 : dk b_57 9 (.istore_n 3) 1 := by decide +kernel
theorem d57_10 : dk b_57 10 (.iload_n 3) 1 := by decide +kernel
theorem d57_11 : dk b_57 11 (.ifCond .le 20) 3 := by decide +kernel
theorem d57_31 : dk b_57 31 (.return_) 1 := by decide +kernel
abbrev r_rm57 : Room := { frames := 0, cells := 0, slots := 0, locals := 0 }
theorem ef_rm57 (m : MethodId) (a1 : Addr) (p2 : Int32) : entryFrame m #[(.ref a1), (.int p2)] 4 = mkF m 0 #[.val (.ref a1), .val (.int p2), .unset, .unset] [] := by first | (simp [entryFrame, mkF, argsToLocals, Value.category]; done) | rfl
def Q57 (Z : State) (a1 : Addr) (p2 : Int32) (bf : Addr) (fb : Nat → Int32) (h0 : Heap) (n0 : Nat) (v : Option Value) (h : Heap) (L : List Loc) : Prop := v = none ∧ L = [] ∧ h = h0
theorem rm57 (l : Launch) (Z : State) (a0 : Array Value) (hw : HWt Z a0) (ws : List Jvm.Cond) (a1 : Addr) (p2 : Int32) (bf : Addr) (fb : Nat → Int32) (h0 : Heap) (n0 : Nat) (Z0 : n0 ≤ h0.size) (zar : Fld Z h0 a1 k_6 "buf" "[B" (.ref bf)) (V_bf : Afn Z h0 bf .byte (32 : Int32) (fun k => .int (fb k))) (hen : ¬ (0 : Int32) < (p2 - (32 : Int32))) :
    Con l Z y_57 jdk_2005_method_3_code 4 none ws r_rm57 #[(.ref a1), (.int p2)] h0 (Q57 Z a1 p2 bf fb h0 n0) := by
  refine Con.of2 (plainFor_of_name pn_rm53) ?_
  intro p e s m below meth c s₁ hZ e0 X0 hx hby hml hown hnm hret hlk PP hPP
  have N0 := Fr.nil n0
  refine Go.cast (ef_rm57 m a1 p2) ?_
  have Zn : n0 ≤ h0.size := Z0
  show Go p.tables e below PP (s₁.setTop (mkF m 0 #[.val (.ref a1), .val (.int p2), .unset, .unset] []))
  refine Go.st (fun t k => XS.aloadN X0.here hx rfl (hb hby d57_0) rfl rfl k) ?_
  obtain ⟨T1, X1, e1, st1⟩ := getF X0 hx hZ hown (host := "") (Or.inl (wk hw 301 rfl)) Via.refl e0 zar (g := (mkF m 1 #[.val (.ref a1), .val (.int p2), .unset, .unset] [(.ref a1)])) rfl rfl (hb hby d57_1)
  refine Go.st st1 ?_
  obtain ⟨cl2, Ar2, S2, Nn2, -⟩ := id V_bf
  refine Go.st (fun t k => X1.arraylength hx (by rw [e1]; exact Ar2.1) (State.isArrayOf_alike hZ.alike Ar2.2.1) (g := (mkF m 4 #[.val (.ref a1), .val (.int p2), .unset, .unset] [(.ref bf)])) rfl rfl (hb hby d57_4) _ k) ?_
  rw [len_of S2 Nn2]
  refine Go.st (fun t k => XS.istoreN X1.here hx rfl (hb hby d57_5) rfl (l' := #[.val (.ref a1), .val (.int p2), .val (.int (32 : Int32)), .unset]) rfl (XS.iloadN X1.here hx rfl (hb hby d57_6) rfl (XS.iloadN X1.here hx rfl (hb hby d57_7) rfl (XS.isub X1.here hx rfl (hb hby d57_8) rfl (XS.istoreN X1.here hx rfl (hb hby d57_9) rfl (l' := #[.val (.ref a1), .val (.int p2), .val (.int (32 : Int32)), .val (.int (p2 - (32 : Int32)))]) rfl (XS.iloadN X1.here hx rfl (hb hby d57_10) rfl (XS.ifYes X1.here hx rfl (pc0 := 11) (pc' := 31) rfl (hb hby d57_11) rfl (XT.i0_le_t hen) (by decide) (by decide) k))))))) ?_
  show Go p.tables e below PP (T1.setTop (mkF m 31 #[.val (.ref a1), .val (.int p2), .val (.int (32 : Int32)), .val (.int (p2 - (32 : Int32)))] []))
  rw [hPP]
  refine endV X1 hx hlk hret (hb hby d57_31) ?_ (by decide) (by decide)
  rw [e1]
  exact ⟨rfl, rfl, rfl⟩
abbrev b_56 : ByteArray := jdk_2005_method_4_code
theorem d56_0 : dk b_56 0 (.aload_n 0) 1 := by decide +kernel
theorem d56_1 : dk b_56 1 (.aload_n 0) 1 := by decide +kernel
theorem d56_2 : dk b_56 2 (.getfield 49) 3 := by decide +kernel
theorem d56_5 : dk b_56 5 (.iconst 1) 1 := by decide +kernel
theorem d56_6 : dk b_56 6 (.iadd) 1 := by decide +kernel
theorem d56_7 : dk b_56 7 (.invokevirtual 53) 3 := by decide +kernel
theorem d56_10 : dk b_56 10 (.aload_n 0) 1 := by decide +kernel
theorem d56_11 : dk b_56 11 (.getfield 33) 3 := by decide +kernel
theorem d56_14 : dk b_56 14 (.aload_n 0) 1 := by decide +kernel
theorem d56_15 : dk b_56 15 (.getfield 49) 3 := by decide +kernel
theorem d56_18 : dk b_56 18 (.iload_n 1) 1 := by decide +kernel
theorem d56_19 : dk b_56 19 (.i2b) 1 := by decide +kernel
theorem d56_20 : dk b_56 20 (.bastore) 1 := by decide +kernel
theorem d56_21 : dk b_56 21 (.aload_n 0) 1 := by decide +kernel
theorem d56_22 : dk b_56 22 (.dup) 1 := by decide +kernel
theorem d56_23 : dk b_56 23 (.getfield 49) 3 := by decide +kernel
theorem d56_26 : dk b_56 26 (.iconst 1) 1 := by decide +kernel
theorem d56_27 : dk b_56 27 (.iadd) 1 := by decide +kernel
theorem d56_28 : dk b_56 28 (.putfield 49) 3 := by decide +kernel
theorem d56_31 : dk b_56 31 (.return_) 1 := by decide +kernel
abbrev r_rm56 : Room := { frames := 1, cells := 0, slots := 0, locals := 17 }
theorem ef_rm56 (m : MethodId) (a1 : Addr) (p2 : Int32) : entryFrameSync m #[(.ref a1), (.int p2)] 2 a1 = mkL a1 m 0 #[.val (.ref a1), .val (.int p2)] [] := by first | (simp [entryFrameSync, mkL, argsToLocals, Value.category]; done) | rfl
def QI56 (Z : State) (a1 : Addr) (p2 : Int32) (bf : Addr) (cn : Int32) (fb : Nat → Int32) (h0 : Heap) (n0 : Nat) (v : Option Value) (h : Heap) (L : List Loc) : Prop := ∃ (cn' : Int32) (f' : Nat → Int32), v = none ∧ Fr n0 L ∧ Keep h0 h [a1, bf] ∧ Fld Z h a1 k_6 "buf" "[B" (.ref bf) ∧ Fld Z h a1 k_6 "count" "I" (.int cn') ∧ Afn Z h bf .byte (32 : Int32) (fun k => .int (f' k)) ∧ (cn'.toInt = cn.toInt + 1 ∧ ¬ cn' < (0 : Int32)) ∧ ((0 < cn.toInt → f' 0 = fb 0) ∧ (cn.toInt = 0 → f' 0 = p2.toInt8.toInt32))
def Q56 (Z : State) (a1 : Addr) (p2 : Int32) (bf : Addr) (cn : Int32) (fb : Nat → Int32) (h0 : Heap) (n0 : Nat) (v : Option Value) (h : Heap) (L : List Loc) : Prop := QI56 Z a1 p2 bf cn fb h0 n0 v h L ∧ Unt h a1
theorem cv_rm56 {Z : State} {a1 : Addr} {p2 : Int32} {bf : Addr} {cn : Int32} {fb : Nat → Int32} {h0 h1 hT h' : Heap} {n0 : Nat} {v : Option Value} {L : List Loc} (M0 : Mon h0 h1) (hQ : QI56 Z a1 p2 bf cn fb h1 n0 v hT L) (M1 : Mon hT h') (B : MonB h0 h') (N : Unt h0 a1) : Q56 Z a1 p2 bf cn fb h0 n0 v h' L := by
  obtain ⟨cn', f', rfl, N1, K1, F0, F1, F2, p0, p1⟩ := hQ
  have K' := keep_mon M0 K1 M1 B
  exact ⟨⟨cn', f', rfl, N1, K', F0.mon M1, F1.mon M1, F2.mon M1, p0, p1⟩, unt_back N K' B⟩
theorem rm56 (l : Launch) (Z : State) (a0 : Array Value) (hw : HWt Z a0) (ws : List Jvm.Cond) (a1 : Addr) (p2 : Int32) (bf : Addr) (cn : Int32) (fb : Nat → Int32) (h0 : Heap) (n0 : Nat) (Z0 : n0 ≤ h0.size) (E_a1 : Exa Z h0 a1 k_6) (zar : Fld Z h0 a1 k_6 "buf" "[B" (.ref bf)) (zac : Fld Z h0 a1 k_6 "count" "I" (.int cn)) (V_bf : Afn Z h0 bf .byte (32 : Int32) (fun k => .int (fb k))) (N_a1 : Unt h0 a1) (g_a1 : n0 ≤ a1) (g_bf : n0 ≤ bf) (zbb : a1 ≠ bf) (hcn : ¬ cn < (0 : Int32) ∧ cn.toInt < 32) :
    ConS l Z y_56 jdk_2005_method_4_code 2 none r_rm56 #[(.ref a1), (.int p2)] h0 (Q56 Z a1 p2 bf cn fb h0 n0) := by
  refine ConS.of (fun h1 => QI56 Z a1 p2 bf cn fb h1 n0) (plainFor_of_name pn_rm53) rfl N_a1 ?_ (fun h1 v hT L h' M0 hQ M1 B => cv_rm56 M0 hQ M1 B N_a1)
  intro p e ss s m below meth c s₁ h0 M0 hZ e0 X0 LV hx hby hml hown hnm hret
  clear N_a1
  replace Z0 : n0 ≤ h0.size := by rw [M0.size]; exact Z0
  replace E_a1 := E_a1.mon M0
  replace zar := zar.mon M0
  replace zac := zac.mon M0
  replace V_bf := V_bf.mon M0
  have N0 : Fr n0 [] := Fr.nil n0
  obtain ⟨PP, hPP⟩ : ∃ P, P = FineS ss below (QI56 Z a1 p2 bf cn fb h0 n0) r_rm56.cells r_rm56.slots := ⟨_, rfl⟩
  show Go p.tables e below (FineS ss below (QI56 Z a1 p2 bf cn fb h0 n0) r_rm56.cells r_rm56.slots) _
  rw [← hPP]
  refine Go.cast (ef_rm56 m a1 p2) ?_
  have K : Keep h0 h0 [a1, bf] := Keep.refl h0 _
  have Zn : n0 ≤ h0.size := Z0
  show Go p.tables e below PP (s₁.setTop (mkL a1 m 0 #[.val (.ref a1), .val (.int p2)] []))
  refine Go.st (fun t k => XS.aloadN X0.here hx rfl (hb hby d56_0) rfl rfl (XS.aloadN X0.here hx rfl (hb hby d56_1) rfl rfl k)) ?_
  obtain ⟨T1, X1, e1, st1⟩ := getF X0 hx hZ hown (host := "") (Or.inl (wk hw 315 rfl)) Via.refl e0 zac (g := (mkL a1 m 2 #[.val (.ref a1), .val (.int p2)] [(.ref a1), (.ref a1)])) rfl rfl (hb hby d56_2)
  refine Go.st st1 ?_
  refine Go.st (fun t k => XS.iconst X1.here hx rfl (hb hby d56_5) (XS.iadd X1.here hx rfl (hb hby d56_6) rfl k)) ?_
  obtain ⟨v2, T2, L2, X2, hQ2, st2⟩ := callPr X1 hx hZ (y := y_57) (a := a1) (argsL := [(.int (cn + (1 : Int32)))]) (rest := []) hown (wk hw 317 rfl) (wk hw 318 rfl) (wk hw 320 rfl) (wk hw 319 rfl) (wk hw 286 rfl) (wk hw 321 rfl) (by decide) E_a1 (rm57 l Z a0 hw [] a1 (cn + (1 : Int32)) bf fb h0 n0 Zn zar V_bf (own_wr hcn).2.1) e1 2 (by decide) (by decide) (by decide) (by decide) (g := (mkL a1 m 7 #[.val (.ref a1), .val (.int p2)] [(.int (cn + (1 : Int32))), (.ref a1)])) rfl (by rw [hml]; rfl) (lenOf pd_25 rfl) rfl (Nat.le_of_eq rfl) (hb hby d56_7)
  obtain ⟨rfl, rfl, e2⟩ := hQ2
  rw [List.append_nil] at X2
  refine Go.st st2 ?_
  refine Go.st (fun t k => XS.aloadN X2.here hx rfl (hb hby d56_10) rfl rfl k) ?_
  obtain ⟨T3, X3, e3, st3⟩ := getF X2 hx hZ hown (host := "") (Or.inl (wk hw 301 rfl)) Via.refl e2 zar (g := (mkL a1 m 11 #[.val (.ref a1), .val (.int p2)] [(.ref a1)])) rfl rfl (hb hby d56_11)
  refine Go.st st3 ?_
  refine Go.st (fun t k => XS.aloadN X3.here hx rfl (hb hby d56_14) rfl rfl k) ?_
  obtain ⟨T4, X4, e4, st4⟩ := getF X3 hx hZ hown (host := "") (Or.inl (wk hw 315 rfl)) Via.refl e3 zac (g := (mkL a1 m 15 #[.val (.ref a1), .val (.int p2)] [(.ref a1), (.ref bf)])) rfl rfl (hb hby d56_15)
  refine Go.st st4 ?_
  refine Go.st (fun t k => XS.iloadN X4.here hx rfl (hb hby d56_18) rfl (XS.i2b X4.here hx rfl (hb hby d56_19) rfl k)) ?_
  obtain ⟨cl5, Ar5, S5, Nn5, H5⟩ := id V_bf
  have hin5 : ¬ (cn < 0 ∨ cl5.slots.size ≤ (cn).toNatClampNeg) := inb_of S5 (own_wr hcn).1
  obtain ⟨T5, h5, X5, e5, W5, st5⟩ := stB X4 hx hZ e4 Ar5 (j := cn) hin5 (g := (mkL a1 m 20 #[.val (.ref a1), .val (.int p2)] [(.int (p2.toInt8.toInt32)), (.int cn), (.ref bf)])) rfl rfl (hb hby d56_20)
  refine Go.st st5 ?_
  have N5 := Fr.snoc X5 N0 g_bf
  replace E_a1 := E_a1.wr W5
  replace zar := zar.other W5 (Or.inl zbb)
  replace zac := zac.other W5 (Or.inl zbb)
  replace K := K.wr W5 (Or.inl (List.mem_of_getElem? (i := 1) rfl))
  replace Zn : n0 ≤ h5.size := by rw [W5.size]; exact Zn
  replace V_bf := Afn.set Ar5 S5 Nn5 H5 (fits_nar_byte _) W5
  replace V_bf := V_bf.congr (g := fun k => .int (upd fb cn (p2.toInt8.toInt32) k)) (fun k _ => by rw [own_b8]; exact own_ups _ _ _ k)
  refine Go.st (fun t k => XS.aloadN X5.here hx rfl (hb hby d56_21) rfl rfl (XS.dup X5.here hx rfl (hb hby d56_22) rfl rfl k)) ?_
  obtain ⟨T6, X6, e6, st6⟩ := getF X5 hx hZ hown (host := "") (Or.inl (wk hw 315 rfl)) Via.refl e5 zac (g := (mkL a1 m 23 #[.val (.ref a1), .val (.int p2)] [(.ref a1), (.ref a1)])) rfl rfl (hb hby d56_23)
  refine Go.st st6 ?_
  refine Go.st (fun t k => XS.iconst X6.here hx rfl (hb hby d56_26) (XS.iadd X6.here hx rfl (hb hby d56_27) rfl k)) ?_
  obtain ⟨T7, h7, X7, e7, W7, st7⟩ := putF X6 hx hZ hown (host := "") (Or.inl (wk hw 315 rfl)) Via.refl e6 zac E_a1 (Or.inl (wk hw 316 rfl)) (wk hw 285 rfl) (ty := .int) (by decide) rfl rfl (g := (mkL a1 m 28 #[.val (.ref a1), .val (.int p2)] [(.int (cn + (1 : Int32))), (.ref a1)])) rfl rfl (hb hby d56_28)
  refine Go.st st7 ?_
  have N7 := Fr.snoc X7 N5 g_a1
  replace zar := zar.other W7 (Or.inr (slot_ne (a0 := a0) (Or.inl (wk hw 302 rfl)) (Or.inl (wk hw 316 rfl)) (by decide) (t := (.array .byte)) (t' := .int) (by decide) (by decide)))
  replace V_bf := V_bf.other W7 (Ne.symm zbb)
  replace K := K.wr W7 (Or.inl (List.mem_of_getElem? (i := 0) rfl))
  replace Zn : n0 ≤ h7.size := by rw [W7.size]; exact Zn
  replace zac := zac.same W7
  show Go p.tables e below PP (T7.setTop (mkL a1 m 31 #[.val (.ref a1), .val (.int p2)] []))
  rw [hPP]
  refine endVS X7 hx LV hret (hb hby d56_31) ?_ (by decide) (by decide)
  rw [e7]
  exact ⟨(cn + (1 : Int32)), (fun k => upd fb cn (p2.toInt8.toInt32) k), rfl, N7, K, zar, zac, V_bf, ⟨(own_wr hcn).2.2.1, (own_wr hcn).2.2.2⟩, (own_w0 hcn.1)⟩
abbrev b_71 : ByteArray := jdk_2005_method_5_code
theorem d71_0 : dk b_71 0 (.iload_n 2) 1 := by decide +kernel
theorem d71_1 : dk b_71 1 (.iload_n 3) 1 := by decide +kernel
theorem d71_2 : dk b_71 2 (.aload_n 1) 1 := by decide +kernel
theorem d71_3 : dk b_71 3 (.arraylength) 1 := by decide +kernel
theorem d71_4 : dk b_71 4 (.invokestatic 56) 3 := by decide +kernel
theorem d71_7 : dk b_71 7 (.pop) 1 := by decide +kernel
theorem d71_8 : dk b_71 8 (.aload_n 0) 1 := by decide +kernel
theorem d71_9 : dk b_71 9 (.aload_n 0) 1 := by decide +kernel
theorem d71_10 : dk b_71 10 (.getfield 49) 3 := by decide +kernel
theorem d71_13 : dk b_71 13 (.iload_n 3) 1 := by decide +kernel
theorem d71_14 : dk b_71 14 (.iadd) 1 := by decide +kernel
theorem d71_15 : dk b_71 15 (.invokevirtual 53) 3 := by decide +kernel
theorem d71_18 : dk b_71 18 (.aload_n 1) 1 := by decide +kernel
theorem d71_19 : dk b_71 19 (.iload_n 2) 1 := by decide +kernel
theorem d71_20 : dk b_71 20 (.aload_n 0) 1 := by decide +kernel
theorem d71_21 : dk b_71 21 (.getfield 33) 3 := by decide +kernel
theorem d71_24 : dk b_71 24 (.aload_n 0) 1 := by decide +kernel
theorem d71_25 : dk b_71 25 (.getfield 49) 3 := by decide +kernel
theorem d71_28 : dk b_71 28 (.iload_n 3) 1 := by decide +kernel
theorem d71_29 : dk b_71 29 (.invokestatic 61) 3 := by decide +kernel
theorem d71_32 : dk b_71 32 (.aload_n 0) 1 := by decide +kernel
theorem d71_33 : dk b_71 33 (.dup) 1 := by decide +kernel
theorem d71_34 : dk b_71 34 (.getfield 49) 3 := by decide +kernel
theorem d71_37 : dk b_71 37 (.iload_n 3) 1 := by decide +kernel
theorem d71_38 : dk b_71 38 (.iadd) 1 := by decide +kernel
theorem d71_39 : dk b_71 39 (.putfield 49) 3 := by decide +kernel
theorem d71_42 : dk b_71 42 (.return_) 1 := by decide +kernel
abbrev r_rm71 : Room := { frames := 2, cells := 0, slots := 0, locals := 42 }
theorem ef_rm71 (m : MethodId) (a1 : Addr) (a2 : Addr) (p4 : Int32) : entryFrameSync m #[(.ref a1), (.ref a2), (.int (0 : Int32)), (.int p4)] 4 a1 = mkL a1 m 0 #[.val (.ref a1), .val (.ref a2), .val (.int (0 : Int32)), .val (.int p4)] [] := by first | (simp [entryFrameSync, mkL, argsToLocals, Value.category]; done) | rfl
def QI71 (Z : State) (a1 : Addr) (a2 : Addr) (p4 : Int32) (bf : Addr) (cn : Int32) (fb : Nat → Int32) (f2 : Nat → Int32) (h0 : Heap) (n0 : Nat) (v : Option Value) (h : Heap) (L : List Loc) : Prop := ∃ (cn' : Int32) (f' : Nat → Int32), v = none ∧ Fr n0 L ∧ Keep h0 h [a1, bf] ∧ Fld Z h a1 k_6 "buf" "[B" (.ref bf) ∧ Fld Z h a1 k_6 "count" "I" (.int cn') ∧ Afn Z h bf .byte (32 : Int32) (fun k => .int (f' k)) ∧ (cn'.toInt = cn.toInt + p4.toInt ∧ ¬ cn' < (0 : Int32)) ∧ (0 < cn.toInt → f' 0 = fb 0)
def Q71 (Z : State) (a1 : Addr) (a2 : Addr) (p4 : Int32) (bf : Addr) (cn : Int32) (fb : Nat → Int32) (f2 : Nat → Int32) (h0 : Heap) (n0 : Nat) (v : Option Value) (h : Heap) (L : List Loc) : Prop := QI71 Z a1 a2 p4 bf cn fb f2 h0 n0 v h L ∧ Unt h a1
theorem cv_rm71 {Z : State} {a1 : Addr} {a2 : Addr} {p4 : Int32} {bf : Addr} {cn : Int32} {fb : Nat → Int32} {f2 : Nat → Int32} {h0 h1 hT h' : Heap} {n0 : Nat} {v : Option Value} {L : List Loc} (M0 : Mon h0 h1) (hQ : QI71 Z a1 a2 p4 bf cn fb f2 h1 n0 v hT L) (M1 : Mon hT h') (B : MonB h0 h') (N : Unt h0 a1) : Q71 Z a1 a2 p4 bf cn fb f2 h0 n0 v h' L := by
  obtain ⟨cn', f', rfl, N1, K1, F0, F1, F2, p0, p1⟩ := hQ
  have K' := keep_mon M0 K1 M1 B
  exact ⟨⟨cn', f', rfl, N1, K', F0.mon M1, F1.mon M1, F2.mon M1, p0, p1⟩, unt_back N K' B⟩
theorem rm71 (l : Launch) (Z : State) (a0 : Array Value) (hw : HWt Z a0) (ws : List Jvm.Cond) (a1 : Addr) (a2 : Addr) (p4 : Int32) (bf : Addr) (cn : Int32) (fb : Nat → Int32) (f2 : Nat → Int32) (h0 : Heap) (n0 : Nat) (Z0 : n0 ≤ h0.size) (E_a1 : Exa Z h0 a1 k_6) (zar : Fld Z h0 a1 k_6 "buf" "[B" (.ref bf)) (zac : Fld Z h0 a1 k_6 "count" "I" (.int cn)) (V_bf : Afn Z h0 bf .byte (32 : Int32) (fun k => .int (fb k))) (V_a2 : Afn Z h0 a2 .byte p4 (fun k => .int (f2 k))) (N_a1 : Unt h0 a1) (g_a1 : n0 ≤ a1) (g_bf : n0 ≤ bf) (zbb : a1 ≠ bf) (zcb : a2 ≠ a1) (zbp : a2 ≠ bf) (hcn : ¬ cn < (0 : Int32) ∧ cn.toInt < 28) (hn : N4 p4) :
    ConS l Z y_71 jdk_2005_method_5_code 4 none r_rm71 #[(.ref a1), (.ref a2), (.int (0 : Int32)), (.int p4)] h0 (Q71 Z a1 a2 p4 bf cn fb f2 h0 n0) := by
  refine ConS.of (fun h1 => QI71 Z a1 a2 p4 bf cn fb f2 h1 n0) (plainFor_of_name pn_rm53) rfl N_a1 ?_ (fun h1 v hT L h' M0 hQ M1 B => cv_rm71 M0 hQ M1 B N_a1)
  intro p e ss s m below meth c s₁ h0 M0 hZ e0 X0 LV hx hby hml hown hnm hret
  clear N_a1
  replace Z0 : n0 ≤ h0.size := by rw [M0.size]; exact Z0
  replace E_a1 := E_a1.mon M0
  replace zar := zar.mon M0
  replace zac := zac.mon M0
  replace V_bf := V_bf.mon M0
  replace V_a2 := V_a2.mon M0
  have N0 : Fr n0 [] := Fr.nil n0
  obtain ⟨PP, hPP⟩ : ∃ P, P = FineS ss below (QI71 Z a1 a2 p4 bf cn fb f2 h0 n0) r_rm71.cells r_rm71.slots := ⟨_, rfl⟩
  show Go p.tables e below (FineS ss below (QI71 Z a1 a2 p4 bf cn fb f2 h0 n0) r_rm71.cells r_rm71.slots) _
  rw [← hPP]
  refine Go.cast (ef_rm71 m a1 a2 p4) ?_
  have K : Keep h0 h0 [a1, bf] := Keep.refl h0 _
  have Zn : n0 ≤ h0.size := Z0
  show Go p.tables e below PP (s₁.setTop (mkL a1 m 0 #[.val (.ref a1), .val (.ref a2), .val (.int (0 : Int32)), .val (.int p4)] []))
  refine Go.st (fun t k => XS.iloadN X0.here hx rfl (hb hby d71_0) rfl (XS.iloadN X0.here hx rfl (hb hby d71_1) rfl (XS.aloadN X0.here hx rfl (hb hby d71_2) rfl rfl k))) ?_
  obtain ⟨cl1, Ar1, S1, Nn1, -⟩ := id V_a2
  refine Go.st (fun t k => X0.arraylength hx (by rw [e0]; exact Ar1.1) (State.isArrayOf_alike hZ.alike Ar1.2.1) (g := (mkL a1 m 3 #[.val (.ref a1), .val (.ref a2), .val (.int (0 : Int32)), .val (.int p4)] [(.ref a2), (.int p4), (.int (0 : Int32))])) rfl rfl (hb hby d71_3) _ k) ?_
  rw [len_of S1 Nn1]
  obtain ⟨v2, T2, L2, X2, hQ2, st2⟩ := callSt X0 hx hZ (y := y_72) (argsL := [(.int (0 : Int32)), (.int p4), (.int p4)]) (rest := []) hown (wk hw 389 rfl) (wk hw 390 rfl) (wk hw 63 rfl) (wk hw 391 rfl) (by decide) (rm72 l Z a0 hw [] p4 h0 n0 Zn hn) e0 2 (by decide) (by decide) (by decide) (by decide) (g := (mkL a1 m 4 #[.val (.ref a1), .val (.ref a2), .val (.int (0 : Int32)), .val (.int p4)] [(.int p4), (.int p4), (.int (0 : Int32))])) rfl (by rw [hml]; rfl) (lenOf pd_16 rfl) rfl (Nat.le_of_eq rfl) (hb hby d71_4)
  obtain ⟨rfl, rfl, e2⟩ := hQ2
  rw [List.append_nil] at X2
  refine Go.st st2 ?_
  refine Go.st (fun t k => XS.pop X2.here hx rfl (hb hby d71_7) rfl rfl (XS.aloadN X2.here hx rfl (hb hby d71_8) rfl rfl (XS.aloadN X2.here hx rfl (hb hby d71_9) rfl rfl k))) ?_
  obtain ⟨T3, X3, e3, st3⟩ := getF X2 hx hZ hown (host := "") (Or.inl (wk hw 315 rfl)) Via.refl e2 zac (g := (mkL a1 m 10 #[.val (.ref a1), .val (.ref a2), .val (.int (0 : Int32)), .val (.int p4)] [(.ref a1), (.ref a1)])) rfl rfl (hb hby d71_10)
  refine Go.st st3 ?_
  refine Go.st (fun t k => XS.iloadN X3.here hx rfl (hb hby d71_13) rfl (XS.iadd X3.here hx rfl (hb hby d71_14) rfl k)) ?_
  obtain ⟨v4, T4, L4, X4, hQ4, st4⟩ := callPr X3 hx hZ (y := y_57) (a := a1) (argsL := [(.int (cn + p4))]) (rest := []) hown (wk hw 317 rfl) (wk hw 318 rfl) (wk hw 320 rfl) (wk hw 319 rfl) (wk hw 286 rfl) (wk hw 321 rfl) (by decide) E_a1 (rm57 l Z a0 hw [] a1 (cn + p4) bf fb h0 n0 Zn zar V_bf (own_wn hcn hn).1) e3 2 (by decide) (by decide) (by decide) (by decide) (g := (mkL a1 m 15 #[.val (.ref a1), .val (.ref a2), .val (.int (0 : Int32)), .val (.int p4)] [(.int (cn + p4)), (.ref a1)])) rfl (by rw [hml]; rfl) (lenOf pd_25 rfl) rfl (Nat.le_of_eq rfl) (hb hby d71_15)
  obtain ⟨rfl, rfl, e4⟩ := hQ4
  rw [List.append_nil] at X4
  refine Go.st st4 ?_
  refine Go.st (fun t k => XS.aloadN X4.here hx rfl (hb hby d71_18) rfl rfl (XS.iloadN X4.here hx rfl (hb hby d71_19) rfl (XS.aloadN X4.here hx rfl (hb hby d71_20) rfl rfl k))) ?_
  obtain ⟨T5, X5, e5, st5⟩ := getF X4 hx hZ hown (host := "") (Or.inl (wk hw 301 rfl)) Via.refl e4 zar (g := (mkL a1 m 21 #[.val (.ref a1), .val (.ref a2), .val (.int (0 : Int32)), .val (.int p4)] [(.ref a1), (.int (0 : Int32)), (.ref a2)])) rfl rfl (hb hby d71_21)
  refine Go.st st5 ?_
  refine Go.st (fun t k => XS.aloadN X5.here hx rfl (hb hby d71_24) rfl rfl k) ?_
  obtain ⟨T6, X6, e6, st6⟩ := getF X5 hx hZ hown (host := "") (Or.inl (wk hw 315 rfl)) Via.refl e5 zac (g := (mkL a1 m 25 #[.val (.ref a1), .val (.ref a2), .val (.int (0 : Int32)), .val (.int p4)] [(.ref a1), (.ref bf), (.int (0 : Int32)), (.ref a2)])) rfl rfl (hb hby d71_25)
  refine Go.st st6 ?_
  refine Go.st (fun t k => XS.iloadN X6.here hx rfl (hb hby d71_28) rfl k) ?_
  obtain ⟨T7, h7, L7, X7, e7, N7, Kq7, Vq7, st7⟩ := cpF X6 hx hZ hown (wk hw 395 rfl) (wk hw 176 rfl) (wk hw 174 rfl) (wk hw 175 rfl) e6 V_a2 V_bf rfl (by decide) (hcn.1) ((own_n4x hn).1) (by have e : (0 : Int32).toNatClampNeg = 0 := rfl; omega) ((own_wn hcn hn).2.2.2) N0 g_bf (g := (mkL a1 m 29 #[.val (.ref a1), .val (.ref a2), .val (.int (0 : Int32)), .val (.int p4)] [(.int p4), (.int cn), (.ref bf), (.int (0 : Int32)), (.ref a2)])) rfl (by rw [hml]; rfl) rfl (hb hby d71_29) (by decide) (W := 2) (by show 2 * 1 + _ ≤ _; exact Nat.le_of_eq rfl) (by decide)
  replace E_a1 := E_a1.keep Kq7
  replace zar := zar.keep Kq7 (ninS zbb nin0)
  replace zac := zac.keep Kq7 (ninS zbb nin0)
  replace K := K.trans Kq7 (allS (Or.inl (List.mem_of_getElem? (i := 1) rfl)) all0)
  replace Zn := Nat.le_trans Zn Kq7.1
  have V_bf := Vq7
  refine Go.st st7 ?_
  replace V_bf := own_ints V_bf
  refine Go.st (fun t k => XS.aloadN X7.here hx rfl (hb hby d71_32) rfl rfl (XS.dup X7.here hx rfl (hb hby d71_33) rfl rfl k)) ?_
  obtain ⟨T8, X8, e8, st8⟩ := getF X7 hx hZ hown (host := "") (Or.inl (wk hw 315 rfl)) Via.refl e7 zac (g := (mkL a1 m 34 #[.val (.ref a1), .val (.ref a2), .val (.int (0 : Int32)), .val (.int p4)] [(.ref a1), (.ref a1)])) rfl rfl (hb hby d71_34)
  refine Go.st st8 ?_
  refine Go.st (fun t k => XS.iloadN X8.here hx rfl (hb hby d71_37) rfl (XS.iadd X8.here hx rfl (hb hby d71_38) rfl k)) ?_
  obtain ⟨T9, h9, X9, e9, W9, st9⟩ := putF X8 hx hZ hown (host := "") (Or.inl (wk hw 315 rfl)) Via.refl e8 zac E_a1 (Or.inl (wk hw 316 rfl)) (wk hw 285 rfl) (ty := .int) (by decide) rfl rfl (g := (mkL a1 m 39 #[.val (.ref a1), .val (.ref a2), .val (.int (0 : Int32)), .val (.int p4)] [(.int (cn + p4)), (.ref a1)])) rfl rfl (hb hby d71_39)
  refine Go.st st9 ?_
  have N9 := Fr.snoc X9 N7 g_a1
  replace zar := zar.other W9 (Or.inr (slot_ne (a0 := a0) (Or.inl (wk hw 302 rfl)) (Or.inl (wk hw 316 rfl)) (by decide) (t := (.array .byte)) (t' := .int) (by decide) (by decide)))
  replace V_bf := V_bf.other W9 (Ne.symm zbb)
  replace K := K.wr W9 (Or.inl (List.mem_of_getElem? (i := 0) rfl))
  replace Zn : n0 ≤ h9.size := by rw [W9.size]; exact Zn
  replace zac := zac.same W9
  show Go p.tables e below PP (T9.setTop (mkL a1 m 42 #[.val (.ref a1), .val (.ref a2), .val (.int (0 : Int32)), .val (.int p4)] []))
  rw [hPP]
  refine endVS X9 hx LV hret (hb hby d71_42) ?_ (by decide) (by decide)
  rw [e9]
  exact ⟨(cn + p4), (fun k => intOf ((fun k => if cn.toNatClampNeg ≤ k ∧ k < cn.toNatClampNeg + p4.toNatClampNeg then (fun k => .int (f2 k)) ((0 : Int32).toNatClampNeg + (k - cn.toNatClampNeg)) else (fun k => .int (fb k)) k) k)), rfl, N9, K, zar, zac, V_bf, ⟨(own_wn hcn hn).2.1, (own_wn hcn hn).2.2.1⟩, (own_wz (f := fun k => f2 ((0 : Int32).toNatClampNeg + (k - cn.toNatClampNeg))) (n := p4) hcn.1 _ (fun k => rfl))⟩
abbrev b_70 : ByteArray := jdk_2005_method_6_code
theorem d70_0 : dk b_70 0 (.aload_n 0) 1 := by decide +kernel
theorem d70_1 : dk b_70 1 (.aload_n 1) 1 := by decide +kernel
theorem d70_2 : dk b_70 2 (.iconst 0) 1 := by decide +kernel
theorem d70_3 : dk b_70 3 (.aload_n 1) 1 := by decide +kernel
theorem d70_4 : dk b_70 4 (.arraylength) 1 := by decide +kernel
theorem d70_5 : dk b_70 5 (.invokevirtual 67) 3 := by decide +kernel
theorem d70_8 : dk b_70 8 (.return_) 1 := by decide +kernel
abbrev r_rm70 : Room := { frames := 3, cells := 0, slots := 0, locals := 57 }
def Q70 (Z : State) (a1 : Addr) (a2 : Addr) (bf : Addr) (cn : Int32) (fb : Nat → Int32) (n2 : Int32) (f2 : Nat → Int32) (h0 : Heap) (n0 : Nat) (v : Option Value) (h : Heap) (L : List Loc) : Prop := ∃ (cn' : Int32) (f' : Nat → Int32), v = none ∧ Fr n0 L ∧ Keep h0 h [a1, bf] ∧ Fld Z h a1 k_6 "buf" "[B" (.ref bf) ∧ Fld Z h a1 k_6 "count" "I" (.int cn') ∧ Afn Z h bf .byte (32 : Int32) (fun k => .int (f' k)) ∧ Unt h a1 ∧ (cn'.toInt = cn.toInt + n2.toInt ∧ ¬ cn' < (0 : Int32)) ∧ (0 < cn.toInt → f' 0 = fb 0)
theorem rm70 (l : Launch) (Z : State) (a0 : Array Value) (hw : HWt Z a0) (ws : List Jvm.Cond) (a1 : Addr) (a2 : Addr) (bf : Addr) (cn : Int32) (fb : Nat → Int32) (n2 : Int32) (f2 : Nat → Int32) (h0 : Heap) (n0 : Nat) (Z0 : n0 ≤ h0.size) (E_a1 : Exa Z h0 a1 k_6) (zar : Fld Z h0 a1 k_6 "buf" "[B" (.ref bf)) (zac : Fld Z h0 a1 k_6 "count" "I" (.int cn)) (V_bf : Afn Z h0 bf .byte (32 : Int32) (fun k => .int (fb k))) (V_a2 : Afn Z h0 a2 .byte n2 (fun k => .int (f2 k))) (U_a1 : Unt h0 a1) (g_a1 : n0 ≤ a1) (g_bf : n0 ≤ bf) (zbb : a1 ≠ bf) (zcb : a2 ≠ a1) (zbp : a2 ≠ bf) (hcn : ¬ cn < (0 : Int32) ∧ cn.toInt < 28) (hn : N4 n2) :
    Con l Z y_70 jdk_2005_method_6_code 2 none ws r_rm70 #[(.ref a1), (.ref a2)] h0 (Q70 Z a1 a2 bf cn fb n2 f2 h0 n0) := by
  refine Con.of2 (plainFor_of_name pn_rm53) ?_
  intro p e s m below meth c s₁ hZ e0 X0 hx hby hml hown hnm hret hlk PP hPP
  have N0 := Fr.nil n0
  refine Go.cast (ef_rm12 m a1 a2) ?_
  have K : Keep h0 h0 [a1, bf] := Keep.refl h0 _
  have Zn : n0 ≤ h0.size := Z0
  show Go p.tables e below PP (s₁.setTop (mkF m 0 #[.val (.ref a1), .val (.ref a2)] []))
  refine Go.st (fun t k => XS.aloadN X0.here hx rfl (hb hby d70_0) rfl rfl (XS.aloadN X0.here hx rfl (hb hby d70_1) rfl rfl (XS.iconst X0.here hx rfl (hb hby d70_2) (XS.aloadN X0.here hx rfl (hb hby d70_3) rfl rfl k)))) ?_
  obtain ⟨cl1, Ar1, S1, Nn1, -⟩ := id V_a2
  refine Go.st (fun t k => X0.arraylength hx (by rw [e0]; exact Ar1.1) (State.isArrayOf_alike hZ.alike Ar1.2.1) (g := (mkF m 4 #[.val (.ref a1), .val (.ref a2)] [(.ref a2), (.int (0 : Int32)), (.ref a2), (.ref a1)])) rfl rfl (hb hby d70_4) _ k) ?_
  rw [len_of S1 Nn1]
  obtain ⟨v2, T2, L2, X2, hQ2, st2⟩ := callViS X0 hx hZ (C := k_6) (y := y_71) (z := y_71) (a := a1) (argsL := [(.ref a2), (.int (0 : Int32)), (.int n2)]) (rest := []) hown (wk hw 384 rfl) (wk hw 385 rfl) (notFace_of_selects (args := #[]) (mvT hZ (wk hw 387 rfl))) (wk hw 387 rfl) (wk hw 386 rfl) (wk hw 286 rfl) (wk hw 388 rfl) (by decide) rfl E_a1 (rm71 l Z a0 hw [] a1 a2 n2 bf cn fb f2 h0 n0 Zn E_a1 zar zac V_bf V_a2 U_a1 g_a1 g_bf zbb zcb zbp hcn hn) e0 0 (by decide) (by decide) (by decide) (by decide) (g := (mkF m 5 #[.val (.ref a1), .val (.ref a2)] [(.int n2), (.int (0 : Int32)), (.ref a2), (.ref a1)])) rfl (by rw [hml]; rfl) (lenOf pd_13 rfl) rfl (Nat.le_of_eq rfl) (hb hby d70_5)
  obtain ⟨h2, e2⟩ : ∃ z, T2.heap = z := ⟨_, rfl⟩
  rw [e2] at hQ2
  obtain ⟨⟨zbq, fx_2, rfl, Nq2, Kq2, zaq, zaz, zbl, zbw, zhc⟩, Uq2⟩ := hQ2
  have N2 := Fr.app N0 Nq2
  replace K := K.trans Kq2 (allS (Or.inl (List.mem_of_getElem? (i := 0) rfl)) (allS (Or.inl (List.mem_of_getElem? (i := 1) rfl)) all0))
  replace Zn := Nat.le_trans Zn Kq2.1
  refine Go.st st2 ?_
  show Go p.tables e below PP (T2.setTop (mkF m 8 #[.val (.ref a1), .val (.ref a2)] []))
  rw [hPP]
  refine endV X2 hx hlk hret (hb hby d70_8) ?_ (by decide) (by decide)
  rw [e2]
  exact ⟨zbq, fx_2, rfl, N2, K, zaq, zaz, zbl, Uq2, zbw, zhc⟩
abbrev b_75 : ByteArray := jdk_2005_method_9_code
theorem d75_0 : dk b_75 0 (.aload_n 0) 1 := by decide +kernel
theorem d75_1 : dk b_75 1 (.getfield 33) 3 := by decide +kernel
theorem d75_4 : dk b_75 4 (.aload_n 0) 1 := by decide +kernel
theorem d75_5 : dk b_75 5 (.getfield 49) 3 := by decide +kernel
theorem d75_8 : dk b_75 8 (.invokestatic 43) 3 := by decide +kernel
theorem d75_11 : dk b_75 11 (.areturn) 1 := by decide +kernel
abbrev r_rm75 : Room := { frames := 2, cells := 1, slots := 34, locals := 56 }
theorem ef_rm75 (m : MethodId) (a1 : Addr) : entryFrameSync m #[(.ref a1)] 1 a1 = mkL a1 m 0 #[.val (.ref a1)] [] := by first | (simp [entryFrameSync, mkL, argsToLocals, Value.category]; done) | rfl
def QI75 (Z : State) (a1 : Addr) (bf : Addr) (cn : Int32) (fb : Nat → Int32) (h0 : Heap) (n0 : Nat) (v : Option Value) (h : Heap) (L : List Loc) : Prop := ∃ (t : Addr) (f' : Nat → Int32), v = some (.ref t) ∧ Fr n0 L ∧ Keep h0 h [] ∧ h0.size ≤ t ∧ Afn Z h t .byte cn (fun k => .int (f' k)) ∧ f' 0 = fb 0
def Q75 (Z : State) (a1 : Addr) (bf : Addr) (cn : Int32) (fb : Nat → Int32) (h0 : Heap) (n0 : Nat) (v : Option Value) (h : Heap) (L : List Loc) : Prop := QI75 Z a1 bf cn fb h0 n0 v h L ∧ Unt h a1
theorem cv_rm75 {Z : State} {a1 : Addr} {bf : Addr} {cn : Int32} {fb : Nat → Int32} {h0 h1 hT h' : Heap} {n0 : Nat} {v : Option Value} {L : List Loc} (M0 : Mon h0 h1) (hQ : QI75 Z a1 bf cn fb h1 n0 v hT L) (M1 : Mon hT h') (B : MonB h0 h') (N : Unt h0 a1) : Q75 Z a1 bf cn fb h0 n0 v h' L := by
  obtain ⟨t, f', rfl, N1, K1, s0, F0, p0⟩ := hQ
  have K' := keep_mon M0 K1 M1 B
  exact ⟨⟨t, f', rfl, N1, K', M0.size ▸ s0, F0.mon M1, p0⟩, unt_back N K' B⟩
theorem rm75 (l : Launch) (Z : State) (a0 : Array Value) (hw : HWt Z a0) (ws : List Jvm.Cond) (a1 : Addr) (bf : Addr) (cn : Int32) (fb : Nat → Int32) (h0 : Heap) (n0 : Nat) (Z0 : n0 ≤ h0.size) (E_a1 : Exa Z h0 a1 k_6) (zar : Fld Z h0 a1 k_6 "buf" "[B" (.ref bf)) (zac : Fld Z h0 a1 k_6 "count" "I" (.int cn)) (V_bf : Afn Z h0 bf .byte (32 : Int32) (fun k => .int (fb k))) (N_a1 : Unt h0 a1) (hcn : ¬ cn < (0 : Int32) ∧ cn.toInt < 32) :
    ConS l Z y_75 jdk_2005_method_9_code 1 (some (.array .byte)) r_rm75 #[(.ref a1)] h0 (Q75 Z a1 bf cn fb h0 n0) := by
  refine ConS.of (fun h1 => QI75 Z a1 bf cn fb h1 n0) (plainFor_of_name pn_rm53) rfl N_a1 ?_ (fun h1 v hT L h' M0 hQ M1 B => cv_rm75 M0 hQ M1 B N_a1)
  intro p e ss s m below meth c s₁ h0 M0 hZ e0 X0 LV hx hby hml hown hnm hret
  clear N_a1
  replace Z0 : n0 ≤ h0.size := by rw [M0.size]; exact Z0
  replace zar := zar.mon M0
  replace zac := zac.mon M0
  replace V_bf := V_bf.mon M0
  have N0 : Fr n0 [] := Fr.nil n0
  obtain ⟨PP, hPP⟩ : ∃ P, P = FineS ss below (QI75 Z a1 bf cn fb h0 n0) r_rm75.cells r_rm75.slots := ⟨_, rfl⟩
  show Go p.tables e below (FineS ss below (QI75 Z a1 bf cn fb h0 n0) r_rm75.cells r_rm75.slots) _
  rw [← hPP]
  refine Go.cast (ef_rm75 m a1) ?_
  have K : Keep h0 h0 [] := Keep.refl h0 _
  have Zn : n0 ≤ h0.size := Z0
  show Go p.tables e below PP (s₁.setTop (mkL a1 m 0 #[.val (.ref a1)] []))
  refine Go.st (fun t k => XS.aloadN X0.here hx rfl (hb hby d75_0) rfl rfl k) ?_
  obtain ⟨T1, X1, e1, st1⟩ := getF X0 hx hZ hown (host := "") (Or.inl (wk hw 301 rfl)) Via.refl e0 zar (g := (mkL a1 m 1 #[.val (.ref a1)] [(.ref a1)])) rfl rfl (hb hby d75_1)
  refine Go.st st1 ?_
  refine Go.st (fun t k => XS.aloadN X1.here hx rfl (hb hby d75_4) rfl rfl k) ?_
  obtain ⟨T2, X2, e2, st2⟩ := getF X1 hx hZ hown (host := "") (Or.inl (wk hw 315 rfl)) Via.refl e1 zac (g := (mkL a1 m 5 #[.val (.ref a1)] [(.ref a1), (.ref bf)])) rfl rfl (hb hby d75_5)
  refine Go.st st2 ?_
  obtain ⟨v3, T3, L3, X3, hQ3, st3⟩ := callSt X2 hx hZ (y := y_35) (argsL := [(.ref bf), (.int cn)]) (rest := []) hown (wk hw 406 rfl) (wk hw 193 rfl) (wk hw 194 rfl) (wk hw 195 rfl) (by decide) (rm35 l Z a0 hw [] bf cn (32 : Int32) fb h0 n0 Zn V_bf (own_tb32 hcn)) e2 2 (by decide) (by decide) (by decide) (by decide) (g := (mkL a1 m 8 #[.val (.ref a1)] [(.int cn), (.ref bf)])) rfl (by rw [hml]; rfl) (lenOf pd_22 rfl) rfl (Nat.le_of_eq rfl) (hb hby d75_8)
  obtain ⟨h3, e3⟩ : ∃ z, T3.heap = z := ⟨_, rfl⟩
  rw [e3] at hQ3
  obtain ⟨t_3, rfl, Nq3, Kq3, zde, zcj⟩ := hQ3
  have N3 := Fr.app N0 Nq3
  have ziv : h0.size ≤ t_3 := Nat.le_trans K.1 zde
  replace K := K.trans Kq3 all0
  replace Zn := Nat.le_trans Zn Kq3.1
  refine Go.st st3 ?_
  show Go p.tables e below PP (T3.setTop (mkL a1 m 11 #[.val (.ref a1)] [(.ref t_3)]))
  rw [hPP]
  refine endRS X3 hx LV hret rfl rfl (hb hby d75_11) ?_ (by decide) (by decide)
  rw [e3]
  exact ⟨t_3, (fun k => if k < (32 : Int32).toNatClampNeg then fb k else 0), rfl, N3, K, ziv, zcj, (by rfl)⟩
abbrev b_51 : ByteArray := prog_53_method_1_code
theorem d51_0 : dk b_51 0 (.aload_n 0) 1 := by decide +kernel
theorem d51_1 : dk b_51 1 (.invokespecial 3) 3 := by decide +kernel
theorem d51_4 : dk b_51 4 (.aload_n 0) 1 := by decide +kernel
theorem d51_5 : dk b_51 5 (.new 9) 3 := by decide +kernel
theorem d51_8 : dk b_51 8 (.dup) 1 := by decide +kernel
theorem d51_9 : dk b_51 9 (.invokespecial 11) 3 := by decide +kernel
theorem d51_12 : dk b_51 12 (.putfield 12) 3 := by decide +kernel
theorem d51_15 : dk b_51 15 (.return_) 1 := by decide +kernel
abbrev r_rm51 : Room := { frames := 4, cells := 2, slots := 34, locals := 79 }
theorem pn_rm51 : plainName "com/example/crossname/crossname/store/Records$Output" = true := by first | (simp [plainName, overriddenIn]; done) | decide +kernel
def Q51 (Z : State) (a1 : Addr) (h0 : Heap) (n0 : Nat) (v : Option Value) (h : Heap) (L : List Loc) : Prop := ∃ (b : Addr) (t : Addr) (f' : Nat → Int32), v = none ∧ Fr n0 L ∧ Keep h0 h [a1] ∧ h0.size ≤ b ∧ h0.size ≤ t ∧ Fld Z h a1 k_4 "bytes" "Ljava/io/ByteArrayOutputStream;" (.ref b) ∧ Exa Z h b k_6 ∧ Fld Z h b k_6 "buf" "[B" (.ref t) ∧ Fld Z h b k_6 "count" "I" (.int (0 : Int32)) ∧ Afn Z h t .byte (32 : Int32) (fun k => .int (f' k)) ∧ Unt h b ∧ b ≠ t
theorem rm51 (l : Launch) (Z : State) (a0 : Array Value) (hw : HWt Z a0) (ws : List Jvm.Cond) (a1 : Addr) (h0 : Heap) (n0 : Nat) (Z0 : n0 ≤ h0.size) (E_a1 : Exa Z h0 a1 k_4) (zaj : Fld Z h0 a1 k_4 "bytes" "Ljava/io/ByteArrayOutputStream;" .null) (g_a1 : n0 ≤ a1) :
    Con l Z y_51 prog_53_method_1_code 1 none ws r_rm51 #[(.ref a1)] h0 (Q51 Z a1 h0 n0) := by
  refine Con.of2 (plainFor_of_name pn_rm51) ?_
  intro p e s m below meth c s₁ hZ e0 X0 hx hby hml hown hnm hret hlk PP hPP
  have N0 := Fr.nil n0
  refine Go.cast (ef_rm18 m a1) ?_
  have K : Keep h0 h0 [a1] := Keep.refl h0 _
  have Zn : n0 ≤ h0.size := Z0
  show Go p.tables e below PP (s₁.setTop (mkF m 0 #[.val (.ref a1)] []))
  refine Go.st (fun t k => XS.aloadN X0.here hx rfl (hb hby d51_0) rfl rfl k) ?_
  obtain ⟨T1, X1, e1, st1⟩ := initO X0 hx hZ hown (wk hw 283 rfl) (wk hw 31 rfl) (wk hw 32 rfl) e0 (g := (mkF m 1 #[.val (.ref a1)] [(.ref a1)])) rfl (by rw [hml]; rfl) rfl (hb hby d51_1) (by decide) (W := 0) (by show 2 * 0 + _ ≤ _; exact Nat.le_of_eq rfl) (by decide)
  refine Go.st st1 ?_
  refine Go.st (fun t k => XS.aloadN X1.here hx rfl (hb hby d51_4) rfl rfl k) ?_
  obtain ⟨T2, h2, X2, e2, E2, A2, D2, U2, st2⟩ := newO X1 hx hZ hown (wk hw 284 rfl) (wk hw 285 rfl) (wk hw 286 rfl) e1 (g := (mkF m 5 #[.val (.ref a1)] [(.ref a1)])) rfl (hb hby d51_5) (by decide) (by decide)
  obtain ⟨b2, gz2⟩ : ∃ z, z = h0.size := ⟨_, rfl⟩
  rw [← gz2] at A2 D2 U2 st2
  have zeu : a1 ≠ b2 := Nat.ne_of_lt (Nat.lt_of_lt_of_le E_a1.lt (Nat.le_of_eq gz2.symm))
  have g_b2 : n0 ≤ b2 := Nat.le_trans Zn (Nat.le_of_eq gz2.symm)
  have zbz : h0.size ≤ b2 := Nat.le_trans K.1 (Nat.le_of_eq gz2.symm)
  refine Go.st st2 ?_
  replace E_a1 := E_a1.ext E2
  replace zaj := zaj.ext E2
  replace K := K.ext E2
  replace Zn := Nat.le_trans Zn E2.1
  have E_b2 := A2
  have U_b2 : Unt h2 b2 := U2
  have zlw : Fld Z h2 b2 k_6 "buf" "[B" .null := D2 (Or.inl (wk hw 302 rfl)) (ty := (.array .byte)) (by decide)
  have zlx : Fld Z h2 b2 k_6 "count" "I" (.int (0 : Int32)) := D2 (Or.inl (wk hw 316 rfl)) (ty := .int) (by decide)
  refine Go.st (fun t k => XS.dup X2.here hx rfl (hb hby d51_8) rfl rfl k) ?_
  obtain ⟨v3, T3, L3, X3, hQ3, st3⟩ := callIn X2 hx hZ (y := y_52) (a := b2) (argsL := []) (rest := [(.ref b2), (.ref a1)]) rfl hown (wk hw 287 rfl) (wk hw 288 rfl) (wk hw 286 rfl) (wk hw 289 rfl) (by decide) (rm52 l Z a0 hw [] b2 h2 n0 Zn E_b2 zlw zlx U_b2 g_b2) e2 2 (by decide) (by decide) (by decide) (by decide) (g := (mkF m 9 #[.val (.ref a1)] [(.ref b2), (.ref b2), (.ref a1)])) rfl (by rw [hml]; rfl) (lenOf pd_21 rfl) rfl (Nat.le_of_eq rfl) (hb hby d51_9)
  obtain ⟨h3, e3⟩ : ∃ z, T3.heap = z := ⟨_, rfl⟩
  rw [e3] at hQ3
  obtain ⟨t_3, fx_3, rfl, Nq3, Kq3, zde, zcj, zcc, zcr, zcs⟩ := hQ3
  have N3 := Fr.app N0 Nq3
  have zly : a1 ≠ t_3 := Nat.ne_of_lt (Nat.lt_of_lt_of_le E_a1.lt zde)
  have zlz : b2 ≠ t_3 := Nat.ne_of_lt (Nat.lt_of_lt_of_le E_b2.lt zde)
  have ziv : h0.size ≤ t_3 := Nat.le_trans K.1 zde
  replace E_a1 := E_a1.keep Kq3
  replace zaj := zaj.keep Kq3 (ninS zeu nin0)
  replace E_b2 := E_b2.keep Kq3
  replace K := K.trans Kq3 (allS (Or.inr zbz) all0)
  replace Zn := Nat.le_trans Zn Kq3.1
  refine Go.st st3 ?_
  obtain ⟨T4, h4, X4, e4, W4, st4⟩ := putF X3 hx hZ hown (host := "") (Or.inl (wk hw 303 rfl)) Via.refl e3 zaj E_a1 (Or.inr ⟨(wk hw 304 rfl), rfl, hnm⟩) (wk hw 278 rfl) (ty := (.object "java/io/ByteArrayOutputStream")) (by decide) rfl rfl (g := (mkF m 12 #[.val (.ref a1)] [(.ref b2), (.ref a1)])) rfl rfl (hb hby d51_12)
  refine Go.st st4 ?_
  have N4 := Fr.snoc X4 N3 g_a1
  replace E_b2 := E_b2.wr W4
  replace zcj := zcj.other W4 (Or.inl (Ne.symm zeu))
  replace zcc := zcc.other W4 (Or.inl (Ne.symm zeu))
  replace zcr := zcr.other W4 (Ne.symm zly)
  replace zcs := unt_wr zcs W4
  replace K := K.wr W4 (Or.inl (List.mem_of_getElem? (i := 0) rfl))
  replace Zn : n0 ≤ h4.size := by rw [W4.size]; exact Zn
  replace zaj := zaj.same W4
  show Go p.tables e below PP (T4.setTop (mkF m 15 #[.val (.ref a1)] []))
  rw [hPP]
  refine endV X4 hx hlk hret (hb hby d51_15) ?_ (by decide) (by decide)
  rw [e4]
  exact ⟨b2, t_3, fx_3, rfl, N4, K, zbz, ziv, zaj, E_b2, zcj, zcc, zcr, zcs, zlz⟩
abbrev b_62 : ByteArray := prog_53_method_4_code
theorem d62_0 : dk b_62 0 (.lload_n 1) 1 := by decide +kernel
theorem d62_1 : dk b_62 1 (.lstore_n 3) 1 := by decide +kernel
theorem d62_2 : dk b_62 2 (.lload_n 3) 1 := by decide +kernel
theorem d62_3 : dk b_62 3 (.ldc2_w 26) 3 := by decide +kernel
theorem d62_6 : dk b_62 6 (.land) 1 := by decide +kernel
theorem d62_7 : dk b_62 7 (.lconst 0) 1 := by decide +kernel
theorem d62_8 : dk b_62 8 (.lcmp) 1 := by decide +kernel
theorem d62_9 : dk b_62 9 (.ifCond .eq 28) 3 := by decide +kernel
theorem d62_37 : dk b_62 37 (.aload_n 0) 1 := by decide +kernel
theorem d62_38 : dk b_62 38 (.getfield 12) 3 := by decide +kernel
theorem d62_41 : dk b_62 41 (.lload_n 3) 1 := by decide +kernel
theorem d62_42 : dk b_62 42 (.l2i) 1 := by decide +kernel
theorem d62_43 : dk b_62 43 (.invokevirtual 22) 3 := by decide +kernel
theorem d62_46 : dk b_62 46 (.return_) 1 := by decide +kernel
abbrev r_rm62 : Room := { frames := 2, cells := 0, slots := 0, locals := 30 }
theorem ef_rm62 (m : MethodId) (a1 : Addr) (q2 : Int64) : entryFrame m #[(.ref a1), (.long q2)] 5 = mkF m 0 #[.val (.ref a1), .val (.long q2), .second, .unset, .unset] [] := by first | (simp [entryFrame, mkF, argsToLocals, Value.category]; done) | rfl
def Q62 (Z : State) (a1 : Addr) (q2 : Int64) (bo : Addr) (bf : Addr) (cn : Int32) (fb : Nat → Int32) (h0 : Heap) (n0 : Nat) (v : Option Value) (h : Heap) (L : List Loc) : Prop := ∃ (cn' : Int32) (f' : Nat → Int32), v = none ∧ Fr n0 L ∧ Keep h0 h [bo, bf] ∧ Fld Z h bo k_6 "buf" "[B" (.ref bf) ∧ Fld Z h bo k_6 "count" "I" (.int cn') ∧ Afn Z h bf .byte (32 : Int32) (fun k => .int (f' k)) ∧ Unt h bo ∧ (cn.toInt ≤ cn'.toInt ∧ cn'.toInt ≤ cn.toInt + 1 ∧ ¬ cn' < (0 : Int32) ∧ f' 0 = fb 0)
theorem rm62 (l : Launch) (Z : State) (a0 : Array Value) (hw : HWt Z a0) (ws : List Jvm.Cond) (a1 : Addr) (q2 : Int64) (bo : Addr) (bf : Addr) (cn : Int32) (fb : Nat → Int32) (h0 : Heap) (n0 : Nat) (Z0 : n0 ≤ h0.size) (E_a1 : Exa Z h0 a1 k_4) (zaj : Fld Z h0 a1 k_4 "bytes" "Ljava/io/ByteArrayOutputStream;" (.ref bo)) (E_bo : Exa Z h0 bo k_6) (zcp : Fld Z h0 bo k_6 "buf" "[B" (.ref bf)) (zcq : Fld Z h0 bo k_6 "count" "I" (.int cn)) (V_bf : Afn Z h0 bf .byte (32 : Int32) (fun k => .int (fb k))) (U_bo : Unt h0 bo) (g_bo : n0 ≤ bo) (g_bf : n0 ≤ bf) (zbv : bo ≠ bf) (zby : a1 ≠ bo) (zbb : a1 ≠ bf) (hcn : ¬ cn < (0 : Int32) ∧ 0 < cn.toInt ∧ cn.toInt ≤ 27) (hq : (q2 &&& (-128 : Int64)) = (0 : Int64)) :
    Con l Z y_62 prog_53_method_4_code 5 none ws r_rm62 #[(.ref a1), (.long q2)] h0 (Q62 Z a1 q2 bo bf cn fb h0 n0) := by
  refine Con.of2 (plainFor_of_name pn_rm51) ?_
  intro p e s m below meth c s₁ hZ e0 X0 hx hby hml hown hnm hret hlk PP hPP
  have N0 := Fr.nil n0
  refine Go.cast (ef_rm62 m a1 q2) ?_
  have K : Keep h0 h0 [bo, bf] := Keep.refl h0 _
  have Zn : n0 ≤ h0.size := Z0
  have iv0 : cn.toInt ≤ cn.toInt ∧ cn.toInt ≤ cn.toInt + 0 ∧ ¬ cn < (0 : Int32) ∧ fb 0 = fb 0 := ⟨by omega, by omega, hcn.1, rfl⟩
  show Go p.tables e below PP (s₁.setTop (mkF m 0 #[.val (.ref a1), .val (.long q2), .second, .unset, .unset] []))
  refine Go.st (fun t k => XS.lloadN X0.here hx rfl (hb hby d62_0) rfl (XS.lstoreN X0.here hx rfl (hb hby d62_1) rfl (l' := #[.val (.ref a1), .val (.long q2), .second, .val (.long q2), .second]) rfl (XS.lloadN X0.here hx rfl (hb hby d62_2) rfl k))) ?_
  show Go p.tables e below PP (s₁.setTop (mkF m 3 #[.val (.ref a1), .val (.long q2), .second, .val (.long q2), .second] [(.long q2)]))
  refine Go.st (fun t k => X0.ldc2J hx hown (mvT hZ (wk hw 348 rfl)) (g := (mkF m 3 #[.val (.ref a1), .val (.long q2), .second, .val (.long q2), .second] [(.long q2)])) rfl (hb hby d62_3) (XS.land X0.here hx rfl (hb hby d62_6) rfl (XS.lconst X0.here hx rfl (hb hby d62_7) (XS.lcmp X0.here hx rfl (hb hby d62_8) rfl (XS.ifYes X0.here hx rfl (pc0 := 9) (pc' := 37) rfl (hb hby d62_9) rfl (XT.ll_eq_t hq) (by decide) (by decide) (XS.aloadN X0.here hx rfl (hb hby d62_37) rfl rfl k)))))) ?_
  obtain ⟨T1, X1, e1, st1⟩ := getF X0 hx hZ hown (host := "") (Or.inl (wk hw 303 rfl)) Via.refl e0 zaj (g := (mkF m 38 #[.val (.ref a1), .val (.long q2), .second, .val (.long q2), .second] [(.ref a1)])) rfl rfl (hb hby d62_38)
  refine Go.st st1 ?_
  refine Go.st (fun t k => XS.lloadN X1.here hx rfl (hb hby d62_41) rfl (XS.l2i X1.here hx rfl (hb hby d62_42) rfl k)) ?_
  obtain ⟨v2, T2, L2, X2, hQ2, st2⟩ := callViS X1 hx hZ (C := k_6) (y := y_56) (z := y_56) (a := bo) (argsL := [(.int (q2.toInt32))]) (rest := []) hown (wk hw 310 rfl) (wk hw 311 rfl) (notFace_of_selects (args := #[]) (mvT hZ (wk hw 313 rfl))) (wk hw 313 rfl) (wk hw 312 rfl) (wk hw 286 rfl) (wk hw 314 rfl) (by decide) rfl E_bo (rm56 l Z a0 hw [] bo (q2.toInt32) bf cn fb h0 n0 Zn E_bo zcp zcq V_bf U_bo g_bo g_bf zbv ⟨iv0.2.2.1, by have a := iv0; have b := hcn; omega⟩) e1 0 (by decide) (by decide) (by decide) (by decide) (g := (mkF m 43 #[.val (.ref a1), .val (.long q2), .second, .val (.long q2), .second] [(.int (q2.toInt32)), (.ref bo)])) rfl (by rw [hml]; rfl) (lenOf pd_25 rfl) rfl (Nat.le_of_eq rfl) (hb hby d62_43)
  obtain ⟨h2, e2⟩ : ∃ z, T2.heap = z := ⟨_, rfl⟩
  rw [e2] at hQ2
  obtain ⟨⟨zbq, fx_2, rfl, Nq2, Kq2, zaq, zaz, zbl, zbw, zhc⟩, Uq2⟩ := hQ2
  have N2 := Fr.app N0 Nq2
  replace K := K.trans Kq2 (allS (Or.inl (List.mem_of_getElem? (i := 0) rfl)) (allS (Or.inl (List.mem_of_getElem? (i := 1) rfl)) all0))
  replace Zn := Nat.le_trans Zn Kq2.1
  have iv2 : cn.toInt ≤ zbq.toInt ∧ zbq.toInt ≤ cn.toInt + 1 ∧ ¬ zbq < (0 : Int32) ∧ fx_2 0 = fb 0 := by have a := iv0; have b := zbw; have c_ := hcn; exact ⟨by omega, by omega, b.2, (zhc.1 (by omega)).trans a.2.2.2⟩
  refine Go.st st2 ?_
  show Go p.tables e below PP (T2.setTop (mkF m 46 #[.val (.ref a1), .val (.long q2), .second, .val (.long q2), .second] []))
  rw [hPP]
  refine endV X2 hx hlk hret (hb hby d62_46) ?_ (by decide) (by decide)
  rw [e2]
  exact ⟨zbq, fx_2, rfl, N2, K, zaq, zaz, zbl, Uq2, ⟨iv2.1, by have a := iv2.2.1; omega, iv2.2.2.1, iv2.2.2.2⟩⟩
abbrev b_61 : ByteArray := prog_53_method_5_code
theorem d61_0 : dk b_61 0 (.aload_n 0) 1 := by decide +kernel
theorem d61_1 : dk b_61 1 (.iload_n 1) 1 := by decide +kernel
theorem d61_2 : dk b_61 2 (.i2l) 1 := by decide +kernel
theorem d61_3 : dk b_61 3 (.invokevirtual 30) 3 := by decide +kernel
theorem d61_6 : dk b_61 6 (.return_) 1 := by decide +kernel
abbrev r_rm61 : Room := { frames := 3, cells := 0, slots := 0, locals := 46 }
def Q61 (Z : State) (a1 : Addr) (p2 : Int32) (bo : Addr) (bf : Addr) (cn : Int32) (fb : Nat → Int32) (h0 : Heap) (n0 : Nat) (v : Option Value) (h : Heap) (L : List Loc) : Prop := ∃ (cn' : Int32) (f' : Nat → Int32), v = none ∧ Fr n0 L ∧ Keep h0 h [bo, bf] ∧ Fld Z h bo k_6 "buf" "[B" (.ref bf) ∧ Fld Z h bo k_6 "count" "I" (.int cn') ∧ Afn Z h bf .byte (32 : Int32) (fun k => .int (f' k)) ∧ Unt h bo ∧ (cn.toInt ≤ cn'.toInt ∧ cn'.toInt ≤ cn.toInt + 1 ∧ ¬ cn' < (0 : Int32) ∧ f' 0 = fb 0)
theorem pd_38 : parseMethodDescriptor "(J)V" = some ⟨[.long], none⟩ := by decide +kernel
theorem rm61 (l : Launch) (Z : State) (a0 : Array Value) (hw : HWt Z a0) (ws : List Jvm.Cond) (a1 : Addr) (p2 : Int32) (bo : Addr) (bf : Addr) (cn : Int32) (fb : Nat → Int32) (h0 : Heap) (n0 : Nat) (Z0 : n0 ≤ h0.size) (E_a1 : Exa Z h0 a1 k_4) (zaj : Fld Z h0 a1 k_4 "bytes" "Ljava/io/ByteArrayOutputStream;" (.ref bo)) (E_bo : Exa Z h0 bo k_6) (zcp : Fld Z h0 bo k_6 "buf" "[B" (.ref bf)) (zcq : Fld Z h0 bo k_6 "count" "I" (.int cn)) (V_bf : Afn Z h0 bf .byte (32 : Int32) (fun k => .int (fb k))) (U_bo : Unt h0 bo) (g_bo : n0 ≤ bo) (g_bf : n0 ≤ bf) (zbv : bo ≠ bf) (zby : a1 ≠ bo) (zbb : a1 ≠ bf) (hcn : ¬ cn < (0 : Int32) ∧ 0 < cn.toInt ∧ cn.toInt ≤ 27) (hq : (p2.toInt64 &&& (-128 : Int64)) = (0 : Int64)) :
    Con l Z y_61 prog_53_method_5_code 2 none ws r_rm61 #[(.ref a1), (.int p2)] h0 (Q61 Z a1 p2 bo bf cn fb h0 n0) := by
  refine Con.of2 (plainFor_of_name pn_rm51) ?_
  intro p e s m below meth c s₁ hZ e0 X0 hx hby hml hown hnm hret hlk PP hPP
  have N0 := Fr.nil n0
  refine Go.cast (ef_rm14 m a1 p2) ?_
  have K : Keep h0 h0 [bo, bf] := Keep.refl h0 _
  have Zn : n0 ≤ h0.size := Z0
  have iv0 : cn.toInt ≤ cn.toInt ∧ cn.toInt ≤ cn.toInt + 0 ∧ ¬ cn < (0 : Int32) ∧ fb 0 = fb 0 := ⟨by omega, by omega, hcn.1, rfl⟩
  show Go p.tables e below PP (s₁.setTop (mkF m 0 #[.val (.ref a1), .val (.int p2)] []))
  refine Go.st (fun t k => XS.aloadN X0.here hx rfl (hb hby d61_0) rfl rfl (XS.iloadN X0.here hx rfl (hb hby d61_1) rfl (XS.i2l X0.here hx rfl (hb hby d61_2) rfl k))) ?_
  obtain ⟨v1, T1, L1, X1, hQ1, st1⟩ := callVi X0 hx hZ (C := k_4) (y := y_62) (z := y_62) (a := a1) (argsL := [(.long (p2.toInt64))]) (rest := []) hown (wk hw 343 rfl) (wk hw 344 rfl) (notFace_of_selects (args := #[]) (mvT hZ (wk hw 346 rfl))) (wk hw 346 rfl) (wk hw 345 rfl) (wk hw 279 rfl) (wk hw 347 rfl) (by decide) rfl E_a1 (rm62 l Z a0 hw [] a1 (p2.toInt64) bo bf cn fb h0 n0 Zn E_a1 zaj E_bo zcp zcq V_bf U_bo g_bo g_bf zbv zby zbb ⟨iv0.2.2.1, by have a := iv0; have b := hcn; omega, by have a := iv0; have b := hcn; omega⟩ hq) e0 0 (by decide) (by decide) (by decide) (by decide) (g := (mkF m 3 #[.val (.ref a1), .val (.int p2)] [(.long (p2.toInt64)), (.ref a1)])) rfl (by rw [hml]; rfl) (lenOf pd_38 rfl) rfl (Nat.le_of_eq rfl) (hb hby d61_3)
  obtain ⟨h1, e1⟩ : ∃ z, T1.heap = z := ⟨_, rfl⟩
  rw [e1] at hQ1
  obtain ⟨zhm, fx_1, rfl, Nq1, Kq1, zai, zbn, zbo, zcm, zeb⟩ := hQ1
  have N1 := Fr.app N0 Nq1
  replace K := K.trans Kq1 (allS (Or.inl (List.mem_of_getElem? (i := 0) rfl)) (allS (Or.inl (List.mem_of_getElem? (i := 1) rfl)) all0))
  replace Zn := Nat.le_trans Zn Kq1.1
  have iv1 : cn.toInt ≤ zhm.toInt ∧ zhm.toInt ≤ cn.toInt + 1 ∧ ¬ zhm < (0 : Int32) ∧ fx_1 0 = fb 0 := by have a := iv0; have b := zeb; exact ⟨by omega, by omega, b.2.2.1, b.2.2.2.trans a.2.2.2⟩
  refine Go.st st1 ?_
  show Go p.tables e below PP (T1.setTop (mkF m 6 #[.val (.ref a1), .val (.int p2)] []))
  rw [hPP]
  refine endV X1 hx hlk hret (hb hby d61_6) ?_ (by decide) (by decide)
  rw [e1]
  exact ⟨zhm, fx_1, rfl, N1, K, zai, zbn, zbo, zcm, ⟨iv1.1, by have a := iv1.2.1; omega, iv1.2.2.1, iv1.2.2.2⟩⟩
abbrev b_55 : ByteArray := prog_53_method_3_code
theorem d55_0 : dk b_55 0 (.aload_n 0) 1 := by decide +kernel
theorem d55_1 : dk b_55 1 (.getfield 12) 3 := by decide +kernel
theorem d55_4 : dk b_55 4 (.iload_n 1) 1 := by decide +kernel
theorem d55_5 : dk b_55 5 (.invokevirtual 22) 3 := by decide +kernel
theorem d55_8 : dk b_55 8 (.return_) 1 := by decide +kernel
abbrev r_rm55 : Room := { frames := 2, cells := 0, slots := 0, locals := 30 }
theorem ef_rm55 (m : MethodId) (a1 : Addr) : entryFrame m #[(.ref a1), (.int (1 : Int32))] 2 = mkF m 0 #[.val (.ref a1), .val (.int (1 : Int32))] [] := by first | (simp [entryFrame, mkF, argsToLocals, Value.category]; done) | rfl
def Q55 (Z : State) (a1 : Addr) (bo : Addr) (bf : Addr) (fb : Nat → Int32) (h0 : Heap) (n0 : Nat) (v : Option Value) (h : Heap) (L : List Loc) : Prop := ∃ (cn' : Int32) (f' : Nat → Int32), v = none ∧ Fr n0 L ∧ Keep h0 h [bo, bf] ∧ Fld Z h bo k_6 "buf" "[B" (.ref bf) ∧ Fld Z h bo k_6 "count" "I" (.int cn') ∧ Afn Z h bf .byte (32 : Int32) (fun k => .int (f' k)) ∧ Unt h bo ∧ (cn'.toInt = 1 ∧ ¬ cn' < (0 : Int32) ∧ f' 0 = (1 : Int32))
theorem rm55 (l : Launch) (Z : State) (a0 : Array Value) (hw : HWt Z a0) (ws : List Jvm.Cond) (a1 : Addr) (bo : Addr) (bf : Addr) (fb : Nat → Int32) (h0 : Heap) (n0 : Nat) (Z0 : n0 ≤ h0.size) (E_a1 : Exa Z h0 a1 k_4) (zaj : Fld Z h0 a1 k_4 "bytes" "Ljava/io/ByteArrayOutputStream;" (.ref bo)) (E_bo : Exa Z h0 bo k_6) (zcp : Fld Z h0 bo k_6 "buf" "[B" (.ref bf)) (zcq : Fld Z h0 bo k_6 "count" "I" (.int (0 : Int32))) (V_bf : Afn Z h0 bf .byte (32 : Int32) (fun k => .int (fb k))) (U_bo : Unt h0 bo) (g_bo : n0 ≤ bo) (g_bf : n0 ≤ bf) (zbv : bo ≠ bf) (zby : a1 ≠ bo) (zbb : a1 ≠ bf) :
    Con l Z y_55 prog_53_method_3_code 2 none ws r_rm55 #[(.ref a1), (.int (1 : Int32))] h0 (Q55 Z a1 bo bf fb h0 n0) := by
  refine Con.of2 (plainFor_of_name pn_rm51) ?_
  intro p e s m below meth c s₁ hZ e0 X0 hx hby hml hown hnm hret hlk PP hPP
  have N0 := Fr.nil n0
  refine Go.cast (ef_rm55 m a1) ?_
  have K : Keep h0 h0 [bo, bf] := Keep.refl h0 _
  have Zn : n0 ≤ h0.size := Z0
  show Go p.tables e below PP (s₁.setTop (mkF m 0 #[.val (.ref a1), .val (.int (1 : Int32))] []))
  refine Go.st (fun t k => XS.aloadN X0.here hx rfl (hb hby d55_0) rfl rfl k) ?_
  obtain ⟨T1, X1, e1, st1⟩ := getF X0 hx hZ hown (host := "") (Or.inl (wk hw 303 rfl)) Via.refl e0 zaj (g := (mkF m 1 #[.val (.ref a1), .val (.int (1 : Int32))] [(.ref a1)])) rfl rfl (hb hby d55_1)
  refine Go.st st1 ?_
  refine Go.st (fun t k => XS.iloadN X1.here hx rfl (hb hby d55_4) rfl k) ?_
  obtain ⟨v2, T2, L2, X2, hQ2, st2⟩ := callViS X1 hx hZ (C := k_6) (y := y_56) (z := y_56) (a := bo) (argsL := [(.int (1 : Int32))]) (rest := []) hown (wk hw 310 rfl) (wk hw 311 rfl) (notFace_of_selects (args := #[]) (mvT hZ (wk hw 313 rfl))) (wk hw 313 rfl) (wk hw 312 rfl) (wk hw 286 rfl) (wk hw 314 rfl) (by decide) rfl E_bo (rm56 l Z a0 hw [] bo (1 : Int32) bf (0 : Int32) fb h0 n0 Zn E_bo zcp zcq V_bf U_bo g_bo g_bf zbv (by decide)) e1 0 (by decide) (by decide) (by decide) (by decide) (g := (mkF m 5 #[.val (.ref a1), .val (.int (1 : Int32))] [(.int (1 : Int32)), (.ref bo)])) rfl (by rw [hml]; rfl) (lenOf pd_25 rfl) rfl (Nat.le_of_eq rfl) (hb hby d55_5)
  obtain ⟨h2, e2⟩ : ∃ z, T2.heap = z := ⟨_, rfl⟩
  rw [e2] at hQ2
  obtain ⟨⟨zbq, fx_2, rfl, Nq2, Kq2, zaq, zaz, zbl, zbw, zhc⟩, Uq2⟩ := hQ2
  have N2 := Fr.app N0 Nq2
  replace K := K.trans Kq2 (allS (Or.inl (List.mem_of_getElem? (i := 0) rfl)) (allS (Or.inl (List.mem_of_getElem? (i := 1) rfl)) all0))
  replace Zn := Nat.le_trans Zn Kq2.1
  refine Go.st st2 ?_
  show Go p.tables e below PP (T2.setTop (mkF m 8 #[.val (.ref a1), .val (.int (1 : Int32))] []))
  rw [hPP]
  refine endV X2 hx hlk hret (hb hby d55_8) ?_ (by decide) (by decide)
  rw [e2]
  exact ⟨zbq, fx_2, rfl, N2, K, zaq, zaz, zbl, Uq2, ⟨by have a := zbw.1; have e : (0 : Int32).toInt = 0 := rfl; omega, zbw.2, (zhc.2 rfl).trans (by decide)⟩⟩
abbrev b_91 : ByteArray := jdk_52_method_91_code
theorem d91_0 : dk b_91 0 (.iload_n 0) 1 := by decide +kernel
theorem d91_1 : dk b_91 1 (.aload_n 1) 1 := by decide +kernel
theorem d91_2 : dk b_91 2 (.invokestatic 48) 3 := by decide +kernel
theorem d91_5 : dk b_91 5 (.invokestatic 414) 3 := by decide +kernel
theorem d91_8 : dk b_91 8 (.return_) 1 := by decide +kernel
abbrev r_rm91 : Room := { frames := 2, cells := 0, slots := 0, locals := 27 }
theorem ef_rm91 (m : MethodId) (a2 : Addr) : entryFrame m #[(.int (0 : Int32)), (.ref a2)] 2 = mkF m 0 #[.val (.int (0 : Int32)), .val (.ref a2)] [] := by first | (simp [entryFrame, mkF, argsToLocals, Value.category]; done) | rfl
def Q91 (Z : State) (a2 : Addr) (f2 : Nat → Int32) (sv : Value) (h0 : Heap) (n0 : Nat) (v : Option Value) (h : Heap) (L : List Loc) : Prop := v = none ∧ L = [] ∧ h = h0
theorem rm91 (l : Launch) (Z : State) (a0 : Array Value) (hw : HWt Z a0) (ws : List Jvm.Cond) (a2 : Addr) (f2 : Nat → Int32) (sv : Value) (h0 : Heap) (n0 : Nat) (Z0 : n0 ≤ h0.size) (V_a2 : Afn Z h0 a2 .byte (2 : Int32) (fun k => .int (f2 k))) (SV : SS1 Z sv) (hr_sv : sv.isRef = true) (O : Old Z n0 h0) :
    Con l Z y_91 jdk_52_method_91_code 2 none ws r_rm91 #[(.int (0 : Int32)), (.ref a2)] h0 (Q91 Z a2 f2 sv h0 n0) := by
  refine Con.of2 (plainFor_of_name pn_rm77) ?_
  intro p e s m below meth c s₁ hZ e0 X0 hx hby hml hown hnm hret hlk PP hPP
  have N0 := Fr.nil n0
  refine Go.cast (ef_rm91 m a2) ?_
  have Zn : n0 ≤ h0.size := Z0
  show Go p.tables e below PP (s₁.setTop (mkF m 0 #[.val (.int (0 : Int32)), .val (.ref a2)] []))
  refine Go.st (fun t k => XS.iloadN X0.here hx rfl (hb hby d91_0) rfl (XS.aloadN X0.here hx rfl (hb hby d91_1) rfl rfl k)) ?_
  obtain ⟨v1, T1, L1, X1, hQ1, st1⟩ := callSt X0 hx hZ (y := y_84) (argsL := [(.ref a2)]) (rest := [(.int (0 : Int32))]) hown (wk hw 439 rfl) (wk hw 440 rfl) (wk hw 409 rfl) (wk hw 441 rfl) (by decide) (rm84_2 l Z a0 hw [] a2 f2 h0 n0 Zn V_a2) e0 1 (by decide) (by decide) (by decide) (by decide) (g := (mkF m 2 #[.val (.int (0 : Int32)), .val (.ref a2)] [(.ref a2), (.int (0 : Int32))])) rfl (by rw [hml]; rfl) (lenOf pd_15 rfl) rfl (Nat.le_of_eq rfl) (hb hby d91_2)
  obtain ⟨rfl, rfl, e1⟩ := hQ1
  rw [List.append_nil] at X1
  refine Go.st st1 ?_
  obtain ⟨v2, T2, L2, X2, hQ2, st2⟩ := callSt X1 hx hZ (y := y_65) (argsL := [(.int (0 : Int32)), (.int (1 : Int32))]) (rest := []) hown (wk hw 468 rfl) (wk hw 358 rfl) (wk hw 14 rfl) (wk hw 359 rfl) (by decide) (rm65 l Z a0 hw [] (0 : Int32) (1 : Int32) sv h0 n0 Zn SV hr_sv O (by decide)) e1 0 (by decide) (by decide) (by decide) (by decide) (g := (mkF m 5 #[.val (.int (0 : Int32)), .val (.ref a2)] [(.int (1 : Int32)), (.int (0 : Int32))])) rfl (by rw [hml]; rfl) (lenOf pd_10 rfl) rfl (Nat.le_of_eq rfl) (hb hby d91_5)
  obtain ⟨rfl, rfl, e2⟩ := hQ2
  rw [List.append_nil] at X2
  refine Go.st st2 ?_
  show Go p.tables e below PP (T2.setTop (mkF m 8 #[.val (.int (0 : Int32)), .val (.ref a2)] []))
  rw [hPP]
  refine endV X2 hx hlk hret (hb hby d91_8) ?_ (by decide) (by decide)
  rw [e2]
  exact ⟨rfl, rfl, rfl⟩
def chU (x y : Int32) : Int32 := nar .char (gcF x y)
def chV (x y : Int32) : Int32 := nar .char (chU x y)
abbrev b_90 : ByteArray := jdk_52_method_83_code
theorem d90_0 : dk b_90 0 (.iload_n 1) 1 := by decide +kernel
theorem d90_1 : dk b_90 1 (.aload_n 0) 1 := by decide +kernel
theorem d90_2 : dk b_90 2 (.invokestatic 67) 3 := by decide +kernel
theorem d90_5 : dk b_90 5 (.aload_n 0) 1 := by decide +kernel
theorem d90_6 : dk b_90 6 (.iload_n 1) 1 := by decide +kernel
theorem d90_7 : dk b_90 7 (.invokestatic 71) 3 := by decide +kernel
theorem d90_10 : dk b_90 10 (.ireturn) 1 := by decide +kernel
abbrev r_rm90 : Room := { frames := 3, cells := 0, slots := 0, locals := 40 }
theorem ef_rm90 (m : MethodId) (a1 : Addr) : entryFrame m #[(.ref a1), (.int (0 : Int32))] 2 = mkF m 0 #[.val (.ref a1), .val (.int (0 : Int32))] [] := by first | (simp [entryFrame, mkF, argsToLocals, Value.category]; done) | rfl
def Q90 (Z : State) (a1 : Addr) (f1 : Nat → Int32) (sv : Value) (h0 : Heap) (n0 : Nat) (v : Option Value) (h : Heap) (L : List Loc) : Prop := v = some (.int (chU (f1 (2 * (0 : Int32).toNatClampNeg)) (f1 (2 * (0 : Int32).toNatClampNeg + 1)))) ∧ L = [] ∧ h = h0
theorem pd_39 : parseMethodDescriptor "(I[B)V" = some ⟨[.int, (.array .byte)], none⟩ := by decide +kernel
theorem rm90 (l : Launch) (Z : State) (a0 : Array Value) (hw : HWt Z a0) (ws : List Jvm.Cond) (a1 : Addr) (f1 : Nat → Int32) (sv : Value) (h0 : Heap) (n0 : Nat) (Z0 : n0 ≤ h0.size) (V_a1 : Afn Z h0 a1 .byte (2 : Int32) (fun k => .int (f1 k))) (SA : SS2 Z) (SHi : SS3 Z) (SLo : SS4 Z) (O : Old Z n0 h0) (SV : SS1 Z sv) (hr_sv : sv.isRef = true) :
    Con l Z y_90 jdk_52_method_83_code 2 (some .char) ws r_rm90 #[(.ref a1), (.int (0 : Int32))] h0 (Q90 Z a1 f1 sv h0 n0) := by
  refine Con.of2 (plainFor_of_name pn_rm77) ?_
  intro p e s m below meth c s₁ hZ e0 X0 hx hby hml hown hnm hret hlk PP hPP
  have N0 := Fr.nil n0
  refine Go.cast (ef_rm90 m a1) ?_
  have Zn : n0 ≤ h0.size := Z0
  show Go p.tables e below PP (s₁.setTop (mkF m 0 #[.val (.ref a1), .val (.int (0 : Int32))] []))
  refine Go.st (fun t k => XS.iloadN X0.here hx rfl (hb hby d90_0) rfl (XS.aloadN X0.here hx rfl (hb hby d90_1) rfl rfl k)) ?_
  obtain ⟨v1, T1, L1, X1, hQ1, st1⟩ := callSt X0 hx hZ (y := y_91) (argsL := [(.int (0 : Int32)), (.ref a1)]) (rest := []) hown (wk hw 465 rfl) (wk hw 466 rfl) (wk hw 409 rfl) (wk hw 467 rfl) (by decide) (rm91 l Z a0 hw [] a1 f1 sv h0 n0 Zn V_a1 SV hr_sv O) e0 0 (by decide) (by decide) (by decide) (by decide) (g := (mkF m 2 #[.val (.ref a1), .val (.int (0 : Int32))] [(.ref a1), (.int (0 : Int32))])) rfl (by rw [hml]; rfl) (lenOf pd_39 rfl) rfl (Nat.le_of_eq rfl) (hb hby d90_2)
  obtain ⟨rfl, rfl, e1⟩ := hQ1
  rw [List.append_nil] at X1
  refine Go.st st1 ?_
  refine Go.st (fun t k => XS.aloadN X1.here hx rfl (hb hby d90_5) rfl rfl (XS.iloadN X1.here hx rfl (hb hby d90_6) rfl k)) ?_
  obtain ⟨v2, T2, L2, X2, hQ2, st2⟩ := callSt X1 hx hZ (y := y_88) (argsL := [(.ref a1), (.int (0 : Int32))]) (rest := []) hown (wk hw 454 rfl) (wk hw 455 rfl) (wk hw 409 rfl) (wk hw 456 rfl) (by decide) (rm88 l Z a0 hw [] a1 (0 : Int32) (2 : Int32) f1 h0 n0 Zn V_a1 (by decide) SA SHi SLo O) e1 0 (by decide) (by decide) (by decide) (by decide) (g := (mkF m 7 #[.val (.ref a1), .val (.int (0 : Int32))] [(.int (0 : Int32)), (.ref a1)])) rfl (by rw [hml]; rfl) (lenOf pd_11 rfl) rfl (Nat.le_of_eq rfl) (hb hby d90_7)
  obtain ⟨rfl, rfl, e2⟩ := hQ2
  rw [List.append_nil] at X2
  refine Go.st st2 ?_
  show Go p.tables e below PP (T2.setTop (mkF m 10 #[.val (.ref a1), .val (.int (0 : Int32))] [(.int (gcF (f1 (2 * (0 : Int32).toNatClampNeg)) (f1 (2 * (0 : Int32).toNatClampNeg + 1))))]))
  rw [hPP]
  refine endN X2 hx hlk (t := .char) hret (by simp) (hb hby d90_10) (w := (chU (f1 (2 * (0 : Int32).toNatClampNeg)) (f1 (2 * (0 : Int32).toNatClampNeg + 1)))) (rfl) ?_ (by decide) (by decide)
  rw [e2]
  exact ⟨rfl, rfl, rfl⟩
abbrev r_rm63u : Room := { frames := 4, cells := 0, slots := 0, locals := 53 }
def Q63u (Z : State) (a1 : Addr) (t1 : Addr) (f1 : Nat → Int32) (zc : Int32) (sv : Value) (h0 : Heap) (n0 : Nat) (v : Option Value) (h : Heap) (L : List Loc) : Prop := v = some (.int (chV (f1 (2 * (0 : Int32).toNatClampNeg)) (f1 (2 * (0 : Int32).toNatClampNeg + 1)))) ∧ L = [] ∧ h = h0
theorem rm63u (l : Launch) (Z : State) (a0 : Array Value) (hw : HWt Z a0) (ws : List Jvm.Cond) (a1 : Addr) (t1 : Addr) (f1 : Nat → Int32) (zc : Int32) (sv : Value) (h0 : Heap) (n0 : Nat) (Z0 : n0 ≤ h0.size) (zab : Fld Z h0 a1 k_14 "value" "[B" (.ref t1)) (zaa : Fld Z h0 a1 k_14 "coder" "B" (.int (1 : Int32))) (V_t1 : Afn Z h0 t1 .byte (2 : Int32) (fun k => .int (f1 k))) (E_a1 : Exa Z h0 a1 k_14) (SC : SS0 Z zc) (hzc : ¬ zc = (0 : Int32)) (O : Old Z n0 h0) (SA : SS2 Z) (SHi : SS3 Z) (SLo : SS4 Z) (SV : SS1 Z sv) (hr_sv : sv.isRef = true) :
    Con l Z y_63 jdk_42_method_56_code 2 (some .char) ws r_rm63u #[(.ref a1), (.int (0 : Int32))] h0 (Q63u Z a1 t1 f1 zc sv h0 n0) := by
  refine Con.of2 (plainFor_of_name pn_rm18) ?_
  intro p e s m below meth c s₁ hZ e0 X0 hx hby hml hown hnm hret hlk PP hPP
  have N0 := Fr.nil n0
  refine Go.cast (ef_rm90 m a1) ?_
  have Zn : n0 ≤ h0.size := Z0
  show Go p.tables e below PP (s₁.setTop (mkF m 0 #[.val (.ref a1), .val (.int (0 : Int32))] []))
  refine Go.st (fun t k => XS.aloadN X0.here hx rfl (hb hby d63_0) rfl rfl k) ?_
  obtain ⟨v1, T1, L1, X1, hQ1, st1⟩ := callVi X0 hx hZ (C := k_14) (y := y_16) (z := y_16) (a := a1) (argsL := []) (rest := []) hown (wk hw 80 rfl) (wk hw 81 rfl) (notFace_of_selects (args := #[]) (mvT hZ (wk hw 83 rfl))) (wk hw 83 rfl) (wk hw 82 rfl) (wk hw 14 rfl) (wk hw 84 rfl) (by decide) rfl E_a1 (rm16u l Z a0 hw [] a1 zc h0 n0 Zn zaa SC hzc O) e0 0 (by decide) (by decide) (by decide) (by decide) (g := (mkF m 1 #[.val (.ref a1), .val (.int (0 : Int32))] [(.ref a1)])) rfl (by rw [hml]; rfl) (lenOf pd_4 rfl) rfl (Nat.le_of_eq rfl) (hb hby d63_1)
  obtain ⟨rfl, rfl, e1⟩ := hQ1
  rw [List.append_nil] at X1
  refine Go.st st1 ?_
  refine Go.st (fun t k => XS.ifYes X1.here hx rfl (pc0 := 4) (pc' := 16) rfl (hb hby d63_4) rfl (XT.i0_eq_t (by decide)) (by decide) (by decide) (XS.aloadN X1.here hx rfl (hb hby d63_16) rfl rfl k)) ?_
  obtain ⟨T2, X2, e2, st2⟩ := getF X1 hx hZ hown (host := "") (Or.inl (wk hw 33 rfl)) Via.refl e1 zab (g := (mkF m 17 #[.val (.ref a1), .val (.int (0 : Int32))] [(.ref a1)])) rfl rfl (hb hby d63_17)
  refine Go.st st2 ?_
  refine Go.st (fun t k => XS.iloadN X2.here hx rfl (hb hby d63_20) rfl k) ?_
  obtain ⟨v3, T3, L3, X3, hQ3, st3⟩ := callSt X2 hx hZ (y := y_90) (argsL := [(.ref t1), (.int (0 : Int32))]) (rest := []) hown (wk hw 462 rfl) (wk hw 463 rfl) (wk hw 409 rfl) (wk hw 464 rfl) (by decide) (rm90 l Z a0 hw [] t1 f1 sv h0 n0 Zn V_t1 SA SHi SLo O SV hr_sv) e2 0 (by decide) (by decide) (by decide) (by decide) (g := (mkF m 21 #[.val (.ref a1), .val (.int (0 : Int32))] [(.int (0 : Int32)), (.ref t1)])) rfl (by rw [hml]; rfl) (lenOf pd_11 rfl) rfl (Nat.le_of_eq rfl) (hb hby d63_21)
  obtain ⟨rfl, rfl, e3⟩ := hQ3
  rw [List.append_nil] at X3
  refine Go.st st3 ?_
  show Go p.tables e below PP (T3.setTop (mkF m 24 #[.val (.ref a1), .val (.int (0 : Int32))] [(.int (chU (f1 (2 * (0 : Int32).toNatClampNeg)) (f1 (2 * (0 : Int32).toNatClampNeg + 1))))]))
  rw [hPP]
  refine endN X3 hx hlk (t := .char) hret (by simp) (hb hby d63_24) (w := (chV (f1 (2 * (0 : Int32).toNatClampNeg)) (f1 (2 * (0 : Int32).toNatClampNeg + 1)))) (rfl) ?_ (by decide) (by decide)
  rw [e3]
  exact ⟨rfl, rfl, rfl⟩
abbrev CD (cd n : Int32) : Prop := (cd = (0 : Int32) ∧ n = (1 : Int32)) ∨ (cd = (1 : Int32) ∧ n = (2 : Int32))
theorem conMono {l : Launch} {Z : State} {y : MethodName} {bytes : ByteArray} {maxL : Nat} {ret : Option FieldType} {ws : List Jvm.Cond} {rm : Room} {as : Array Value} {h0 : Heap} {Q Q' : Option Value → Heap → List Loc → Prop} (h : Con l Z y bytes maxL ret ws rm as h0 Q) (q : ∀ v h L, Q v h L → Q' v h L) : Con l Z y bytes maxL ret ws rm as h0 Q' := by
  intro p e ha hc hk s m args below hf happ hP hK
  obtain ⟨n, o, h1, h2, h3, v, L, h4, h5, h6⟩ := h p e ha hc hk s m args below hf happ hP hK
  exact ⟨n, o, h1, h2, h3, v, L, h4, q _ _ _ h5, h6⟩
def Q17i (Z : State) (a1 : Addr) (t1 : Addr) (n1 : Int32) (f1 : Nat → Int32) (cd1 : Int32) (zc : Int32) (h0 : Heap) (n0 : Nat) (v : Option Value) (h : Heap) (L : List Loc) : Prop := v = some (.int (1 : Int32)) ∧ L = [] ∧ h = h0
theorem rm17i (l : Launch) (Z : State) (a0 : Array Value) (hw : HWt Z a0) (ws : List Jvm.Cond) (a1 : Addr) (t1 : Addr) (n1 : Int32) (f1 : Nat → Int32) (cd1 : Int32) (zc : Int32) (h0 : Heap) (n0 : Nat) (Z0 : n0 ≤ h0.size) (zab : Fld Z h0 a1 k_14 "value" "[B" (.ref t1)) (zaa : Fld Z h0 a1 k_14 "coder" "B" (.int cd1)) (V_t1 : Afn Z h0 t1 .byte n1 (fun k => .int (f1 k))) (E_a1 : Exa Z h0 a1 k_14) (hcd : CD cd1 n1) (SC : SS0 Z zc) (hzc : ¬ zc = (0 : Int32)) (O : Old Z n0 h0) :
    Con l Z y_17 jdk_42_method_54_code 1 (some .int) ws r_rm17 #[(.ref a1)] h0 (Q17i Z a1 t1 n1 f1 cd1 zc h0 n0) := by
  rcases hcd with ⟨rfl, rfl⟩ | ⟨rfl, rfl⟩
  · exact rm17 l Z a0 hw ws a1 t1 _ f1 zc h0 n0 Z0 zab zaa V_t1 E_a1 SC hzc O
  · exact rm17u_2 l Z a0 hw ws a1 t1 f1 zc h0 n0 Z0 zab zaa V_t1 E_a1 SC hzc O
def Q63i (Z : State) (a1 : Addr) (t1 : Addr) (n1 : Int32) (f1 : Nat → Int32) (cd1 : Int32) (zc : Int32) (sv : Value) (h0 : Heap) (n0 : Nat) (v : Option Value) (h : Heap) (L : List Loc) : Prop := ∃ ch : Int32, v = some (.int ch) ∧ L = [] ∧ h = h0
theorem rm63i (l : Launch) (Z : State) (a0 : Array Value) (hw : HWt Z a0) (ws : List Jvm.Cond) (a1 : Addr) (t1 : Addr) (n1 : Int32) (f1 : Nat → Int32) (cd1 : Int32) (zc : Int32) (sv : Value) (h0 : Heap) (n0 : Nat) (Z0 : n0 ≤ h0.size) (zab : Fld Z h0 a1 k_14 "value" "[B" (.ref t1)) (zaa : Fld Z h0 a1 k_14 "coder" "B" (.int cd1)) (V_t1 : Afn Z h0 t1 .byte n1 (fun k => .int (f1 k))) (E_a1 : Exa Z h0 a1 k_14) (hcd : CD cd1 n1) (SC : SS0 Z zc) (hzc : ¬ zc = (0 : Int32)) (O : Old Z n0 h0) (SV : SS1 Z sv) (hr_sv : sv.isRef = true) (SA : SS2 Z) (SHi : SS3 Z) (SLo : SS4 Z) :
    Con l Z y_63 jdk_42_method_56_code 2 (some .char) ws r_rm63 #[(.ref a1), (.int (0 : Int32))] h0 (Q63i Z a1 t1 n1 f1 cd1 zc sv h0 n0) := by
  rcases hcd with ⟨rfl, rfl⟩ | ⟨rfl, rfl⟩
  · exact conMono (rm63 l Z a0 hw ws a1 (0 : Int32) t1 _ f1 zc sv h0 n0 Z0 zab zaa V_t1 E_a1 SC hzc O SV hr_sv (by decide)) (fun v h L q => ⟨_, q⟩)
  · exact conMono (rm63u l Z a0 hw ws a1 t1 f1 zc sv h0 n0 Z0 zab zaa V_t1 E_a1 SC hzc O SA SHi SLo SV hr_sv) (fun v h L q => ⟨_, q⟩)
abbrev b_60 : ByteArray := prog_53_method_6_code
theorem d60_0 : dk b_60 0 (.aload_n 0) 1 := by decide +kernel
theorem d60_1 : dk b_60 1 (.aload_n 1) 1 := by decide +kernel
theorem d60_2 : dk b_60 2 (.invokevirtual 34) 3 := by decide +kernel
theorem d60_5 : dk b_60 5 (.invokevirtual 40) 3 := by decide +kernel
theorem d60_8 : dk b_60 8 (.iconst 0) 1 := by decide +kernel
theorem d60_9 : dk b_60 9 (.istore_n 2) 1 := by decide +kernel
theorem d60_10 : dk b_60 10 (.iload_n 2) 1 := by decide +kernel
theorem d60_11 : dk b_60 11 (.aload_n 1) 1 := by decide +kernel
theorem d60_12 : dk b_60 12 (.invokevirtual 34) 3 := by decide +kernel
theorem d60_15 : dk b_60 15 (.if_icmp .ge 121) 3 := by decide +kernel
theorem d60_18 : dk b_60 18 (.aload_n 1) 1 := by decide +kernel
theorem d60_19 : dk b_60 19 (.iload_n 2) 1 := by decide +kernel
theorem d60_20 : dk b_60 20 (.invokevirtual 43) 3 := by decide +kernel
theorem d60_23 : dk b_60 23 (.istore_n 3) 1 := by decide +kernel
theorem d60_24 : dk b_60 24 (.iload_n 3) 1 := by decide +kernel
theorem d60_25 : dk b_60 25 (.sipush 128) 3 := by decide +kernel
theorem d60_28 : dk b_60 28 (.if_icmp .ge 14) 3 := by decide +kernel
theorem d60_31 : dk b_60 31 (.aload_n 0) 1 := by decide +kernel
theorem d60_32 : dk b_60 32 (.getfield 12) 3 := by decide +kernel
theorem d60_35 : dk b_60 35 (.iload_n 3) 1 := by decide +kernel
theorem d60_36 : dk b_60 36 (.invokevirtual 22) 3 := by decide +kernel
theorem d60_39 : dk b_60 39 (.goto 91) 3 := by decide +kernel
theorem d60_42 : dk b_60 42 (.iload_n 3) 1 := by decide +kernel
theorem d60_43 : dk b_60 43 (.sipush 2048) 3 := by decide +kernel
theorem d60_46 : dk b_60 46 (.if_icmp .ge 36) 3 := by decide +kernel
theorem d60_49 : dk b_60 49 (.aload_n 0) 1 := by decide +kernel
theorem d60_50 : dk b_60 50 (.getfield 12) 3 := by decide +kernel
theorem d60_53 : dk b_60 53 (.sipush 192) 3 := by decide +kernel
theorem d60_56 : dk b_60 56 (.iload_n 3) 1 := by decide +kernel
theorem d60_57 : dk b_60 57 (.bipush 6) 2 := by decide +kernel
theorem d60_59 : dk b_60 59 (.ishr) 1 := by decide +kernel
theorem d60_60 : dk b_60 60 (.ior) 1 := by decide +kernel
theorem d60_61 : dk b_60 61 (.invokevirtual 22) 3 := by decide +kernel
theorem d60_64 : dk b_60 64 (.aload_n 0) 1 := by decide +kernel
theorem d60_65 : dk b_60 65 (.getfield 12) 3 := by decide +kernel
theorem d60_68 : dk b_60 68 (.sipush 128) 3 := by decide +kernel
theorem d60_71 : dk b_60 71 (.iload_n 3) 1 := by decide +kernel
theorem d60_72 : dk b_60 72 (.bipush 63) 2 := by decide +kernel
theorem d60_74 : dk b_60 74 (.iand) 1 := by decide +kernel
theorem d60_75 : dk b_60 75 (.ior) 1 := by decide +kernel
theorem d60_76 : dk b_60 76 (.invokevirtual 22) 3 := by decide +kernel
theorem d60_79 : dk b_60 79 (.goto 51) 3 := by decide +kernel
theorem d60_82 : dk b_60 82 (.aload_n 0) 1 := by decide +kernel
theorem d60_83 : dk b_60 83 (.getfield 12) 3 := by decide +kernel
theorem d60_86 : dk b_60 86 (.sipush 224) 3 := by decide +kernel
theorem d60_89 : dk b_60 89 (.iload_n 3) 1 := by decide +kernel
theorem d60_90 : dk b_60 90 (.bipush 12) 2 := by decide +kernel
theorem d60_92 : dk b_60 92 (.ishr) 1 := by decide +kernel
theorem d60_93 : dk b_60 93 (.ior) 1 := by decide +kernel
theorem d60_94 : dk b_60 94 (.invokevirtual 22) 3 := by decide +kernel
theorem d60_97 : dk b_60 97 (.aload_n 0) 1 := by decide +kernel
theorem d60_98 : dk b_60 98 (.getfield 12) 3 := by decide +kernel
theorem d60_101 : dk b_60 101 (.sipush 128) 3 := by decide +kernel
theorem d60_104 : dk b_60 104 (.iload_n 3) 1 := by decide +kernel
theorem d60_105 : dk b_60 105 (.bipush 6) 2 := by decide +kernel
theorem d60_107 : dk b_60 107 (.ishr) 1 := by decide +kernel
theorem d60_108 : dk b_60 108 (.bipush 63) 2 := by decide +kernel
theorem d60_110 : dk b_60 110 (.iand) 1 := by decide +kernel
theorem d60_111 : dk b_60 111 (.ior) 1 := by decide +kernel
theorem d60_112 : dk b_60 112 (.invokevirtual 22) 3 := by decide +kernel
theorem d60_115 : dk b_60 115 (.aload_n 0) 1 := by decide +kernel
theorem d60_116 : dk b_60 116 (.getfield 12) 3 := by decide +kernel
theorem d60_119 : dk b_60 119 (.sipush 128) 3 := by decide +kernel
theorem d60_122 : dk b_60 122 (.iload_n 3) 1 := by decide +kernel
theorem d60_123 : dk b_60 123 (.bipush 63) 2 := by decide +kernel
theorem d60_125 : dk b_60 125 (.iand) 1 := by decide +kernel
theorem d60_126 : dk b_60 126 (.ior) 1 := by decide +kernel
theorem d60_127 : dk b_60 127 (.invokevirtual 22) 3 := by decide +kernel
theorem d60_130 : dk b_60 130 (.iinc 2 1) 3 := by decide +kernel
theorem d60_133 : dk b_60 133 (.goto (-123)) 3 := by decide +kernel
theorem d60_136 : dk b_60 136 (.return_) 1 := by decide +kernel
abbrev r_rm60 : Room := { frames := 5, cells := 0, slots := 0, locals := 66 }
theorem ef_rm60 (m : MethodId) (a1 : Addr) (a2 : Addr) : entryFrame m #[(.ref a1), (.ref a2)] 4 = mkF m 0 #[.val (.ref a1), .val (.ref a2), .unset, .unset] [] := by first | (simp [entryFrame, mkF, argsToLocals, Value.category]; done) | rfl
def Q60 (Z : State) (a1 : Addr) (a2 : Addr) (bo : Addr) (bf : Addr) (cn : Int32) (fb : Nat → Int32) (t2 : Addr) (n2 : Int32) (f2 : Nat → Int32) (cd2 : Int32) (zc : Int32) (sv : Value) (h0 : Heap) (n0 : Nat) (v : Option Value) (h : Heap) (L : List Loc) : Prop := ∃ (cn' : Int32) (f' : Nat → Int32), v = none ∧ Fr n0 L ∧ Keep h0 h [bo, bf] ∧ Fld Z h bo k_6 "buf" "[B" (.ref bf) ∧ Fld Z h bo k_6 "count" "I" (.int cn') ∧ Afn Z h bf .byte (32 : Int32) (fun k => .int (f' k)) ∧ Unt h bo ∧ (cn.toInt ≤ cn'.toInt ∧ cn'.toInt ≤ cn.toInt + 4 ∧ ¬ cn' < (0 : Int32) ∧ f' 0 = fb 0)
theorem pd_40 : parseMethodDescriptor "(I)C" = some ⟨[.int], some .char⟩ := by decide +kernel
theorem rm60 (l : Launch) (Z : State) (a0 : Array Value) (hw : HWt Z a0) (ws : List Jvm.Cond) (a1 : Addr) (a2 : Addr) (bo : Addr) (bf : Addr) (cn : Int32) (fb : Nat → Int32) (t2 : Addr) (n2 : Int32) (f2 : Nat → Int32) (cd2 : Int32) (zc : Int32) (sv : Value) (h0 : Heap) (n0 : Nat) (Z0 : n0 ≤ h0.size) (E_a1 : Exa Z h0 a1 k_4) (zaj : Fld Z h0 a1 k_4 "bytes" "Ljava/io/ByteArrayOutputStream;" (.ref bo)) (E_bo : Exa Z h0 bo k_6) (zcp : Fld Z h0 bo k_6 "buf" "[B" (.ref bf)) (zcq : Fld Z h0 bo k_6 "count" "I" (.int cn)) (V_bf : Afn Z h0 bf .byte (32 : Int32) (fun k => .int (fb k))) (U_bo : Unt h0 bo) (g_bo : n0 ≤ bo) (g_bf : n0 ≤ bf) (zbv : bo ≠ bf) (zby : a1 ≠ bo) (zbb : a1 ≠ bf) (hcn : ¬ cn < (0 : Int32) ∧ 0 < cn.toInt ∧ cn.toInt ≤ 20) (zad : Fld Z h0 a2 k_14 "value" "[B" (.ref t2)) (zae : Fld Z h0 a2 k_14 "coder" "B" (.int cd2)) (V_t2 : Afn Z h0 t2 .byte n2 (fun k => .int (f2 k))) (E_a2 : Exa Z h0 a2 k_14) (zci : a2 ≠ bo) (zbp : a2 ≠ bf) (zfp : t2 ≠ bo) (zfq : t2 ≠ bf) (hcd : CD cd2 n2) (SC : SS0 Z zc) (hzc : ¬ zc = (0 : Int32)) (O : Old Z n0 h0) (SV : SS1 Z sv) (hr_sv : sv.isRef = true) (SA : SS2 Z) (SHi : SS3 Z) (SLo : SS4 Z) :
    Con l Z y_60 prog_53_method_6_code 4 none ws r_rm60 #[(.ref a1), (.ref a2)] h0 (Q60 Z a1 a2 bo bf cn fb t2 n2 f2 cd2 zc sv h0 n0) := by
  refine Con.of2 (plainFor_of_name pn_rm51) ?_
  intro p e s m below meth c s₁ hZ e0 X0 hx hby hml hown hnm hret hlk PP hPP
  have N0 := Fr.nil n0
  refine Go.cast (ef_rm60 m a1 a2) ?_
  have K : Keep h0 h0 [bo, bf] := Keep.refl h0 _
  have Zn : n0 ≤ h0.size := Z0
  have iv0 : cn.toInt ≤ cn.toInt ∧ cn.toInt ≤ cn.toInt + 0 ∧ ¬ cn < (0 : Int32) ∧ fb 0 = fb 0 := ⟨by omega, by omega, hcn.1, rfl⟩
  show Go p.tables e below PP (s₁.setTop (mkF m 0 #[.val (.ref a1), .val (.ref a2), .unset, .unset] []))
  refine Go.st (fun t k => XS.aloadN X0.here hx rfl (hb hby d60_0) rfl rfl (XS.aloadN X0.here hx rfl (hb hby d60_1) rfl rfl k)) ?_
  obtain ⟨v1, T1, L1, X1, hQ1, st1⟩ := callVi X0 hx hZ (C := k_14) (y := y_17) (z := y_17) (a := a2) (argsL := []) (rest := [(.ref a1)]) hown (wk hw 337 rfl) (wk hw 86 rfl) (notFace_of_selects (args := #[]) (mvT hZ (wk hw 88 rfl))) (wk hw 88 rfl) (wk hw 87 rfl) (wk hw 14 rfl) (wk hw 89 rfl) (by decide) rfl E_a2 (rm17i l Z a0 hw [] a2 t2 n2 f2 cd2 zc h0 n0 Zn zad zae V_t2 E_a2 hcd SC hzc O) e0 1 (by decide) (by decide) (by decide) (by decide) (g := (mkF m 2 #[.val (.ref a1), .val (.ref a2), .unset, .unset] [(.ref a2), (.ref a1)])) rfl (by rw [hml]; rfl) (lenOf pd_5 rfl) rfl (Nat.le_of_eq rfl) (hb hby d60_2)
  obtain ⟨rfl, rfl, e1⟩ := hQ1
  rw [List.append_nil] at X1
  refine Go.st st1 ?_
  obtain ⟨v2, T2, L2, X2, hQ2, st2⟩ := callVi X1 hx hZ (C := k_4) (y := y_61) (z := y_61) (a := a1) (argsL := [(.int (1 : Int32))]) (rest := []) hown (wk hw 338 rfl) (wk hw 339 rfl) (notFace_of_selects (args := #[]) (mvT hZ (wk hw 341 rfl))) (wk hw 341 rfl) (wk hw 340 rfl) (wk hw 279 rfl) (wk hw 342 rfl) (by decide) rfl E_a1 (rm61 l Z a0 hw [] a1 (1 : Int32) bo bf cn fb h0 n0 Zn E_a1 zaj E_bo zcp zcq V_bf U_bo g_bo g_bf zbv zby zbb ⟨iv0.2.2.1, by have a := iv0; have b := hcn; omega, by have a := iv0; have b := hcn; omega⟩ (by decide)) e1 0 (by decide) (by decide) (by decide) (by decide) (g := (mkF m 5 #[.val (.ref a1), .val (.ref a2), .unset, .unset] [(.int (1 : Int32)), (.ref a1)])) rfl (by rw [hml]; rfl) (lenOf pd_25 rfl) rfl (Nat.le_of_eq rfl) (hb hby d60_5)
  obtain ⟨h2, e2⟩ : ∃ z, T2.heap = z := ⟨_, rfl⟩
  rw [e2] at hQ2
  obtain ⟨zbq, fx_2, rfl, Nq2, Kq2, zaq, zaz, zbl, zdg, zbw⟩ := hQ2
  have N2 := Fr.app N0 Nq2
  replace zaj := zaj.keep Kq2 (ninS zby (ninS zbb nin0))
  replace E_bo := E_bo.keep Kq2
  replace zad := zad.keep Kq2 (ninS zci (ninS zbp nin0))
  replace zae := zae.keep Kq2 (ninS zci (ninS zbp nin0))
  replace V_t2 := V_t2.keep Kq2 (ninS zfp (ninS zfq nin0))
  replace E_a2 := E_a2.keep Kq2
  replace O := O.keep Kq2 (allS g_bo (allS g_bf all0))
  replace K := K.trans Kq2 (allS (Or.inl (List.mem_of_getElem? (i := 0) rfl)) (allS (Or.inl (List.mem_of_getElem? (i := 1) rfl)) all0))
  replace Zn := Nat.le_trans Zn Kq2.1
  have iv2 : cn.toInt ≤ zbq.toInt ∧ zbq.toInt ≤ cn.toInt + 1 ∧ ¬ zbq < (0 : Int32) ∧ fx_2 0 = fb 0 := by have a := iv0; have b := zbw; exact ⟨by omega, by omega, b.2.2.1, b.2.2.2.trans a.2.2.2⟩
  refine Go.st st2 ?_
  refine Go.st (fun t k => XS.iconst X2.here hx rfl (hb hby d60_8) (XS.istoreN X2.here hx rfl (hb hby d60_9) rfl (l' := #[.val (.ref a1), .val (.ref a2), .val (.int (0 : Int32)), .unset]) rfl (XS.iloadN X2.here hx rfl (hb hby d60_10) rfl (XS.aloadN X2.here hx rfl (hb hby d60_11) rfl rfl k)))) ?_
  obtain ⟨v3, T3, L3, X3, hQ3, st3⟩ := callVi X2 hx hZ (C := k_14) (y := y_17) (z := y_17) (a := a2) (argsL := []) (rest := [(.int (0 : Int32))]) hown (wk hw 337 rfl) (wk hw 86 rfl) (notFace_of_selects (args := #[]) (mvT hZ (wk hw 88 rfl))) (wk hw 88 rfl) (wk hw 87 rfl) (wk hw 14 rfl) (wk hw 89 rfl) (by decide) rfl E_a2 (rm17i l Z a0 hw [] a2 t2 n2 f2 cd2 zc h2 n0 Zn zad zae V_t2 E_a2 hcd SC hzc O) e2 1 (by decide) (by decide) (by decide) (by decide) (g := (mkF m 12 #[.val (.ref a1), .val (.ref a2), .val (.int (0 : Int32)), .unset] [(.ref a2), (.int (0 : Int32))])) rfl (by rw [hml]; rfl) (lenOf pd_5 rfl) rfl (Nat.le_of_eq rfl) (hb hby d60_12)
  obtain ⟨rfl, rfl, e3⟩ := hQ3
  rw [List.append_nil] at X3
  refine Go.st st3 ?_
  refine Go.st (fun t k => XS.icmpNo X3.here hx rfl (hb hby d60_15) rfl (XT.ii_ge_f (by decide)) (XS.aloadN X3.here hx rfl (hb hby d60_18) rfl rfl (XS.iloadN X3.here hx rfl (hb hby d60_19) rfl k))) ?_
  obtain ⟨v4, T4, L4, X4, hQ4, st4⟩ := callVi X3 hx hZ (C := k_14) (y := y_63) (z := y_63) (a := a2) (argsL := [(.int (0 : Int32))]) (rest := []) hown (wk hw 349 rfl) (wk hw 350 rfl) (notFace_of_selects (args := #[]) (mvT hZ (wk hw 352 rfl))) (wk hw 352 rfl) (wk hw 351 rfl) (wk hw 14 rfl) (wk hw 353 rfl) (by decide) rfl E_a2 (rm63i l Z a0 hw [] a2 t2 n2 f2 cd2 zc sv h2 n0 Zn zad zae V_t2 E_a2 hcd SC hzc O SV hr_sv SA SHi SLo) e3 0 (by decide) (by decide) (by decide) (by decide) (g := (mkF m 20 #[.val (.ref a1), .val (.ref a2), .val (.int (0 : Int32)), .unset] [(.int (0 : Int32)), (.ref a2)])) rfl (by rw [hml]; rfl) (lenOf pd_40 rfl) rfl (Nat.le_of_eq rfl) (hb hby d60_20)
  obtain ⟨ch4, rfl, rfl, e4⟩ := hQ4
  rw [List.append_nil] at X4
  refine Go.st st4 ?_
  refine Go.st (fun t k => XS.istoreN X4.here hx rfl (hb hby d60_23) rfl (l' := #[.val (.ref a1), .val (.ref a2), .val (.int (0 : Int32)), .val (.int ch4)]) rfl (XS.iloadN X4.here hx rfl (hb hby d60_24) rfl (XS.sipush X4.here hx rfl (hb hby d60_25) k))) ?_
  show Go p.tables e below PP (T4.setTop (mkF m 28 #[.val (.ref a1), .val (.ref a2), .val (.int (0 : Int32)), .val (.int ch4)] [(.int (128 : Int32)), (.int ch4)]))
  by_cases hc28 : ch4 < (128 : Int32)
  · --
    refine Go.st (fun t k => XS.icmpNo X4.here hx rfl (hb hby d60_28) rfl (XT.ii_ge_f hc28) (XS.aloadN X4.here hx rfl (hb hby d60_31) rfl rfl k)) ?_
    obtain ⟨T5, X5, e5, st5⟩ := getF X4 hx hZ hown (host := "") (Or.inl (wk hw 303 rfl)) Via.refl e4 zaj (g := (mkF m 32 #[.val (.ref a1), .val (.ref a2), .val (.int (0 : Int32)), .val (.int ch4)] [(.ref a1)])) rfl rfl (hb hby d60_32)
    refine Go.st st5 ?_
    refine Go.st (fun t k => XS.iloadN X5.here hx rfl (hb hby d60_35) rfl k) ?_
    obtain ⟨v6, T6, L6, X6, hQ6, st6⟩ := callViS X5 hx hZ (C := k_6) (y := y_56) (z := y_56) (a := bo) (argsL := [(.int ch4)]) (rest := []) hown (wk hw 310 rfl) (wk hw 311 rfl) (notFace_of_selects (args := #[]) (mvT hZ (wk hw 313 rfl))) (wk hw 313 rfl) (wk hw 312 rfl) (wk hw 286 rfl) (wk hw 314 rfl) (by decide) rfl E_bo (rm56 l Z a0 hw [] bo ch4 bf zbq fx_2 h2 n0 Zn E_bo zaq zaz zbl zdg g_bo g_bf zbv ⟨iv2.2.2.1, by have a := iv2; have b := hcn; omega⟩) e5 0 (by decide) (by decide) (by decide) (by decide) (g := (mkF m 36 #[.val (.ref a1), .val (.ref a2), .val (.int (0 : Int32)), .val (.int ch4)] [(.int ch4), (.ref bo)])) rfl (by rw [hml]; rfl) (lenOf pd_25 rfl) rfl (Nat.le_of_eq rfl) (hb hby d60_36)
    obtain ⟨h6, e6⟩ : ∃ z, T6.heap = z := ⟨_, rfl⟩
    rw [e6] at hQ6
    obtain ⟨⟨zhn, fx_6, rfl, Nq6, Kq6, zcd, zch, zgq, ziw, zma⟩, Uq6⟩ := hQ6
    have N6 := Fr.app N2 Nq6
    replace zaj := zaj.keep Kq6 (ninS zby (ninS zbb nin0))
    replace E_bo := E_bo.keep Kq6
    replace zad := zad.keep Kq6 (ninS zci (ninS zbp nin0))
    replace zae := zae.keep Kq6 (ninS zci (ninS zbp nin0))
    replace V_t2 := V_t2.keep Kq6 (ninS zfp (ninS zfq nin0))
    replace E_a2 := E_a2.keep Kq6
    replace O := O.keep Kq6 (allS g_bo (allS g_bf all0))
    replace K := K.trans Kq6 (allS (Or.inl (List.mem_of_getElem? (i := 0) rfl)) (allS (Or.inl (List.mem_of_getElem? (i := 1) rfl)) all0))
    replace Zn := Nat.le_trans Zn Kq6.1
    have iv6 : cn.toInt ≤ zhn.toInt ∧ zhn.toInt ≤ cn.toInt + 2 ∧ ¬ zhn < (0 : Int32) ∧ fx_6 0 = fb 0 := by have a := iv2; have b := ziw; have c_ := hcn; exact ⟨by omega, by omega, b.2, (zma.1 (by omega)).trans a.2.2.2⟩
    refine Go.st st6 ?_
    refine Go.st (fun t k => XS.goto X6.here hx rfl (pc0 := 39) (pc' := 130) rfl (hb hby d60_39) (by decide) (by decide) (XS.iinc X6.here hx rfl (hb hby d60_130) rfl (l' := #[.val (.ref a1), .val (.ref a2), .val (.int (1 : Int32)), .val (.int ch4)]) rfl k)) ?_
    show Go p.tables e below PP (T6.setTop (mkF m 133 #[.val (.ref a1), .val (.ref a2), .val (.int (1 : Int32)), .val (.int ch4)] []))
    refine Go.st (fun t k => XS.goto X6.here hx rfl (pc0 := 133) (pc' := 10) rfl (hb hby d60_133) (by decide) (by decide) (XS.iloadN X6.here hx rfl (hb hby d60_10) rfl (XS.aloadN X6.here hx rfl (hb hby d60_11) rfl rfl k))) ?_
    obtain ⟨v7, T7, L7, X7, hQ7, st7⟩ := callVi X6 hx hZ (C := k_14) (y := y_17) (z := y_17) (a := a2) (argsL := []) (rest := [(.int (1 : Int32))]) hown (wk hw 337 rfl) (wk hw 86 rfl) (notFace_of_selects (args := #[]) (mvT hZ (wk hw 88 rfl))) (wk hw 88 rfl) (wk hw 87 rfl) (wk hw 14 rfl) (wk hw 89 rfl) (by decide) rfl E_a2 (rm17i l Z a0 hw [] a2 t2 n2 f2 cd2 zc h6 n0 Zn zad zae V_t2 E_a2 hcd SC hzc O) e6 1 (by decide) (by decide) (by decide) (by decide) (g := (mkF m 12 #[.val (.ref a1), .val (.ref a2), .val (.int (1 : Int32)), .val (.int ch4)] [(.ref a2), (.int (1 : Int32))])) rfl (by rw [hml]; rfl) (lenOf pd_5 rfl) rfl (Nat.le_of_eq rfl) (hb hby d60_12)
    obtain ⟨rfl, rfl, e7⟩ := hQ7
    rw [List.append_nil] at X7
    refine Go.st st7 ?_
    refine Go.st (fun t k => XS.icmpYes X7.here hx rfl (pc0 := 15) (pc' := 136) rfl (hb hby d60_15) rfl (XT.ii_ge_t (by decide)) (by decide) (by decide) k) ?_
    show Go p.tables e below PP (T7.setTop (mkF m 136 #[.val (.ref a1), .val (.ref a2), .val (.int (1 : Int32)), .val (.int ch4)] []))
    rw [hPP]
    refine endV X7 hx hlk hret (hb hby d60_136) ?_ (by decide) (by decide)
    rw [e7]
    exact ⟨zhn, fx_6, rfl, N6, K, zcd, zch, zgq, Uq6, ⟨iv6.1, by have a := iv6.2.1; omega, iv6.2.2.1, iv6.2.2.2⟩⟩
  · --
    refine Go.st (fun t k => XS.icmpYes X4.here hx rfl (pc0 := 28) (pc' := 42) rfl (hb hby d60_28) rfl (XT.ii_ge_t hc28) (by decide) (by decide) (XS.iloadN X4.here hx rfl (hb hby d60_42) rfl (XS.sipush X4.here hx rfl (hb hby d60_43) k))) ?_
    show Go p.tables e below PP (T4.setTop (mkF m 46 #[.val (.ref a1), .val (.ref a2), .val (.int (0 : Int32)), .val (.int ch4)] [(.int (2048 : Int32)), (.int ch4)]))
    by_cases hc46 : ch4 < (2048 : Int32)
    · --
      refine Go.st (fun t k => XS.icmpNo X4.here hx rfl (hb hby d60_46) rfl (XT.ii_ge_f hc46) (XS.aloadN X4.here hx rfl (hb hby d60_49) rfl rfl k)) ?_
      obtain ⟨T8, X8, e8, st8⟩ := getF X4 hx hZ hown (host := "") (Or.inl (wk hw 303 rfl)) Via.refl e4 zaj (g := (mkF m 50 #[.val (.ref a1), .val (.ref a2), .val (.int (0 : Int32)), .val (.int ch4)] [(.ref a1)])) rfl rfl (hb hby d60_50)
      refine Go.st st8 ?_
      refine Go.st (fun t k => XS.sipush X8.here hx rfl (hb hby d60_53) (XS.iloadN X8.here hx rfl (hb hby d60_56) rfl (XS.bipush X8.here hx rfl (hb hby d60_57) (XS.ishr X8.here hx rfl (hb hby d60_59) rfl (XS.ior X8.here hx rfl (hb hby d60_60) rfl k))))) ?_
      obtain ⟨v9, T9, L9, X9, hQ9, st9⟩ := callViS X8 hx hZ (C := k_6) (y := y_56) (z := y_56) (a := bo) (argsL := [(.int ((192 : Int32) ||| (ch4 >>> ((6 : Int32) &&& 31))))]) (rest := []) hown (wk hw 310 rfl) (wk hw 311 rfl) (notFace_of_selects (args := #[]) (mvT hZ (wk hw 313 rfl))) (wk hw 313 rfl) (wk hw 312 rfl) (wk hw 286 rfl) (wk hw 314 rfl) (by decide) rfl E_bo (rm56 l Z a0 hw [] bo ((192 : Int32) ||| (ch4 >>> ((6 : Int32) &&& 31))) bf zbq fx_2 h2 n0 Zn E_bo zaq zaz zbl zdg g_bo g_bf zbv ⟨iv2.2.2.1, by have a := iv2; have b := hcn; omega⟩) e8 0 (by decide) (by decide) (by decide) (by decide) (g := (mkF m 61 #[.val (.ref a1), .val (.ref a2), .val (.int (0 : Int32)), .val (.int ch4)] [(.int ((192 : Int32) ||| (ch4 >>> ((6 : Int32) &&& 31)))), (.ref bo)])) rfl (by rw [hml]; rfl) (lenOf pd_25 rfl) rfl (Nat.le_of_eq rfl) (hb hby d60_61)
      obtain ⟨h9, e9⟩ : ∃ z, T9.heap = z := ⟨_, rfl⟩
      rw [e9] at hQ9
      obtain ⟨⟨zho, fx_9, rfl, Nq9, Kq9, zfi, zdk, zfj, zmb, zmc⟩, Uq9⟩ := hQ9
      have N9 := Fr.app N2 Nq9
      replace zaj := zaj.keep Kq9 (ninS zby (ninS zbb nin0))
      replace E_bo := E_bo.keep Kq9
      replace zad := zad.keep Kq9 (ninS zci (ninS zbp nin0))
      replace zae := zae.keep Kq9 (ninS zci (ninS zbp nin0))
      replace V_t2 := V_t2.keep Kq9 (ninS zfp (ninS zfq nin0))
      replace E_a2 := E_a2.keep Kq9
      replace O := O.keep Kq9 (allS g_bo (allS g_bf all0))
      replace K := K.trans Kq9 (allS (Or.inl (List.mem_of_getElem? (i := 0) rfl)) (allS (Or.inl (List.mem_of_getElem? (i := 1) rfl)) all0))
      replace Zn := Nat.le_trans Zn Kq9.1
      have iv9 : cn.toInt ≤ zho.toInt ∧ zho.toInt ≤ cn.toInt + 2 ∧ ¬ zho < (0 : Int32) ∧ fx_9 0 = fb 0 := by have a := iv2; have b := zmb; have c_ := hcn; exact ⟨by omega, by omega, b.2, (zmc.1 (by omega)).trans a.2.2.2⟩
      refine Go.st st9 ?_
      refine Go.st (fun t k => XS.aloadN X9.here hx rfl (hb hby d60_64) rfl rfl k) ?_
      obtain ⟨T10, X10, e10, st10⟩ := getF X9 hx hZ hown (host := "") (Or.inl (wk hw 303 rfl)) Via.refl e9 zaj (g := (mkF m 65 #[.val (.ref a1), .val (.ref a2), .val (.int (0 : Int32)), .val (.int ch4)] [(.ref a1)])) rfl rfl (hb hby d60_65)
      refine Go.st st10 ?_
      refine Go.st (fun t k => XS.sipush X10.here hx rfl (hb hby d60_68) (XS.iloadN X10.here hx rfl (hb hby d60_71) rfl (XS.bipush X10.here hx rfl (hb hby d60_72) (XS.iand X10.here hx rfl (hb hby d60_74) rfl (XS.ior X10.here hx rfl (hb hby d60_75) rfl k))))) ?_
      obtain ⟨v11, T11, L11, X11, hQ11, st11⟩ := callViS X10 hx hZ (C := k_6) (y := y_56) (z := y_56) (a := bo) (argsL := [(.int ((128 : Int32) ||| (ch4 &&& (63 : Int32))))]) (rest := []) hown (wk hw 310 rfl) (wk hw 311 rfl) (notFace_of_selects (args := #[]) (mvT hZ (wk hw 313 rfl))) (wk hw 313 rfl) (wk hw 312 rfl) (wk hw 286 rfl) (wk hw 314 rfl) (by decide) rfl E_bo (rm56 l Z a0 hw [] bo ((128 : Int32) ||| (ch4 &&& (63 : Int32))) bf zho fx_9 h9 n0 Zn E_bo zfi zdk zfj Uq9 g_bo g_bf zbv ⟨iv9.2.2.1, by have a := iv9; have b := hcn; omega⟩) e10 0 (by decide) (by decide) (by decide) (by decide) (g := (mkF m 76 #[.val (.ref a1), .val (.ref a2), .val (.int (0 : Int32)), .val (.int ch4)] [(.int ((128 : Int32) ||| (ch4 &&& (63 : Int32)))), (.ref bo)])) rfl (by rw [hml]; rfl) (lenOf pd_25 rfl) rfl (Nat.le_of_eq rfl) (hb hby d60_76)
      obtain ⟨h11, e11⟩ : ∃ z, T11.heap = z := ⟨_, rfl⟩
      rw [e11] at hQ11
      obtain ⟨⟨zhp, zga, rfl, Nq11, Kq11, zei, zej, zek, zmd, zme⟩, Uq11⟩ := hQ11
      have N11 := Fr.app N9 Nq11
      replace zaj := zaj.keep Kq11 (ninS zby (ninS zbb nin0))
      replace E_bo := E_bo.keep Kq11
      replace zad := zad.keep Kq11 (ninS zci (ninS zbp nin0))
      replace zae := zae.keep Kq11 (ninS zci (ninS zbp nin0))
      replace V_t2 := V_t2.keep Kq11 (ninS zfp (ninS zfq nin0))
      replace E_a2 := E_a2.keep Kq11
      clear Uq9
      replace O := O.keep Kq11 (allS g_bo (allS g_bf all0))
      replace K := K.trans Kq11 (allS (Or.inl (List.mem_of_getElem? (i := 0) rfl)) (allS (Or.inl (List.mem_of_getElem? (i := 1) rfl)) all0))
      replace Zn := Nat.le_trans Zn Kq11.1
      have iv11 : cn.toInt ≤ zhp.toInt ∧ zhp.toInt ≤ cn.toInt + 3 ∧ ¬ zhp < (0 : Int32) ∧ zga 0 = fb 0 := by have a := iv9; have b := zmd; have c_ := hcn; exact ⟨by omega, by omega, b.2, (zme.1 (by omega)).trans a.2.2.2⟩
      refine Go.st st11 ?_
      refine Go.st (fun t k => XS.goto X11.here hx rfl (pc0 := 79) (pc' := 130) rfl (hb hby d60_79) (by decide) (by decide) (XS.iinc X11.here hx rfl (hb hby d60_130) rfl (l' := #[.val (.ref a1), .val (.ref a2), .val (.int (1 : Int32)), .val (.int ch4)]) rfl k)) ?_
      show Go p.tables e below PP (T11.setTop (mkF m 133 #[.val (.ref a1), .val (.ref a2), .val (.int (1 : Int32)), .val (.int ch4)] []))
      refine Go.st (fun t k => XS.goto X11.here hx rfl (pc0 := 133) (pc' := 10) rfl (hb hby d60_133) (by decide) (by decide) (XS.iloadN X11.here hx rfl (hb hby d60_10) rfl (XS.aloadN X11.here hx rfl (hb hby d60_11) rfl rfl k))) ?_
      obtain ⟨v12, T12, L12, X12, hQ12, st12⟩ := callVi X11 hx hZ (C := k_14) (y := y_17) (z := y_17) (a := a2) (argsL := []) (rest := [(.int (1 : Int32))]) hown (wk hw 337 rfl) (wk hw 86 rfl) (notFace_of_selects (args := #[]) (mvT hZ (wk hw 88 rfl))) (wk hw 88 rfl) (wk hw 87 rfl) (wk hw 14 rfl) (wk hw 89 rfl) (by decide) rfl E_a2 (rm17i l Z a0 hw [] a2 t2 n2 f2 cd2 zc h11 n0 Zn zad zae V_t2 E_a2 hcd SC hzc O) e11 1 (by decide) (by decide) (by decide) (by decide) (g := (mkF m 12 #[.val (.ref a1), .val (.ref a2), .val (.int (1 : Int32)), .val (.int ch4)] [(.ref a2), (.int (1 : Int32))])) rfl (by rw [hml]; rfl) (lenOf pd_5 rfl) rfl (Nat.le_of_eq rfl) (hb hby d60_12)
      obtain ⟨rfl, rfl, e12⟩ := hQ12
      rw [List.append_nil] at X12
      refine Go.st st12 ?_
      refine Go.st (fun t k => XS.icmpYes X12.here hx rfl (pc0 := 15) (pc' := 136) rfl (hb hby d60_15) rfl (XT.ii_ge_t (by decide)) (by decide) (by decide) k) ?_
      show Go p.tables e below PP (T12.setTop (mkF m 136 #[.val (.ref a1), .val (.ref a2), .val (.int (1 : Int32)), .val (.int ch4)] []))
      rw [hPP]
      refine endV X12 hx hlk hret (hb hby d60_136) ?_ (by decide) (by decide)
      rw [e12]
      exact ⟨zhp, zga, rfl, N11, K, zei, zej, zek, Uq11, ⟨iv11.1, by have a := iv11.2.1; omega, iv11.2.2.1, iv11.2.2.2⟩⟩
    · --
      refine Go.st (fun t k => XS.icmpYes X4.here hx rfl (pc0 := 46) (pc' := 82) rfl (hb hby d60_46) rfl (XT.ii_ge_t hc46) (by decide) (by decide) (XS.aloadN X4.here hx rfl (hb hby d60_82) rfl rfl k)) ?_
      obtain ⟨T13, X13, e13, st13⟩ := getF X4 hx hZ hown (host := "") (Or.inl (wk hw 303 rfl)) Via.refl e4 zaj (g := (mkF m 83 #[.val (.ref a1), .val (.ref a2), .val (.int (0 : Int32)), .val (.int ch4)] [(.ref a1)])) rfl rfl (hb hby d60_83)
      refine Go.st st13 ?_
      refine Go.st (fun t k => XS.sipush X13.here hx rfl (hb hby d60_86) (XS.iloadN X13.here hx rfl (hb hby d60_89) rfl (XS.bipush X13.here hx rfl (hb hby d60_90) (XS.ishr X13.here hx rfl (hb hby d60_92) rfl (XS.ior X13.here hx rfl (hb hby d60_93) rfl k))))) ?_
      obtain ⟨v14, T14, L14, X14, hQ14, st14⟩ := callViS X13 hx hZ (C := k_6) (y := y_56) (z := y_56) (a := bo) (argsL := [(.int ((224 : Int32) ||| (ch4 >>> ((12 : Int32) &&& 31))))]) (rest := []) hown (wk hw 310 rfl) (wk hw 311 rfl) (notFace_of_selects (args := #[]) (mvT hZ (wk hw 313 rfl))) (wk hw 313 rfl) (wk hw 312 rfl) (wk hw 286 rfl) (wk hw 314 rfl) (by decide) rfl E_bo (rm56 l Z a0 hw [] bo ((224 : Int32) ||| (ch4 >>> ((12 : Int32) &&& 31))) bf zbq fx_2 h2 n0 Zn E_bo zaq zaz zbl zdg g_bo g_bf zbv ⟨iv2.2.2.1, by have a := iv2; have b := hcn; omega⟩) e13 0 (by decide) (by decide) (by decide) (by decide) (g := (mkF m 94 #[.val (.ref a1), .val (.ref a2), .val (.int (0 : Int32)), .val (.int ch4)] [(.int ((224 : Int32) ||| (ch4 >>> ((12 : Int32) &&& 31)))), (.ref bo)])) rfl (by rw [hml]; rfl) (lenOf pd_25 rfl) rfl (Nat.le_of_eq rfl) (hb hby d60_94)
      obtain ⟨h14, e14⟩ : ∃ z, T14.heap = z := ⟨_, rfl⟩
      rw [e14] at hQ14
      obtain ⟨⟨zhq, zgb, rfl, Nq14, Kq14, zgx, zfo, zgy, zis, zmf⟩, Uq14⟩ := hQ14
      have N14 := Fr.app N2 Nq14
      replace zaj := zaj.keep Kq14 (ninS zby (ninS zbb nin0))
      replace E_bo := E_bo.keep Kq14
      replace zad := zad.keep Kq14 (ninS zci (ninS zbp nin0))
      replace zae := zae.keep Kq14 (ninS zci (ninS zbp nin0))
      replace V_t2 := V_t2.keep Kq14 (ninS zfp (ninS zfq nin0))
      replace E_a2 := E_a2.keep Kq14
      replace O := O.keep Kq14 (allS g_bo (allS g_bf all0))
      replace K := K.trans Kq14 (allS (Or.inl (List.mem_of_getElem? (i := 0) rfl)) (allS (Or.inl (List.mem_of_getElem? (i := 1) rfl)) all0))
      replace Zn := Nat.le_trans Zn Kq14.1
      have iv14 : cn.toInt ≤ zhq.toInt ∧ zhq.toInt ≤ cn.toInt + 2 ∧ ¬ zhq < (0 : Int32) ∧ zgb 0 = fb 0 := by have a := iv2; have b := zis; have c_ := hcn; exact ⟨by omega, by omega, b.2, (zmf.1 (by omega)).trans a.2.2.2⟩
      refine Go.st st14 ?_
      refine Go.st (fun t k => XS.aloadN X14.here hx rfl (hb hby d60_97) rfl rfl k) ?_
      obtain ⟨T15, X15, e15, st15⟩ := getF X14 hx hZ hown (host := "") (Or.inl (wk hw 303 rfl)) Via.refl e14 zaj (g := (mkF m 98 #[.val (.ref a1), .val (.ref a2), .val (.int (0 : Int32)), .val (.int ch4)] [(.ref a1)])) rfl rfl (hb hby d60_98)
      refine Go.st st15 ?_
      refine Go.st (fun t k => XS.sipush X15.here hx rfl (hb hby d60_101) (XS.iloadN X15.here hx rfl (hb hby d60_104) rfl (XS.bipush X15.here hx rfl (hb hby d60_105) (XS.ishr X15.here hx rfl (hb hby d60_107) rfl (XS.bipush X15.here hx rfl (hb hby d60_108) (XS.iand X15.here hx rfl (hb hby d60_110) rfl (XS.ior X15.here hx rfl (hb hby d60_111) rfl k))))))) ?_
      obtain ⟨v16, T16, L16, X16, hQ16, st16⟩ := callViS X15 hx hZ (C := k_6) (y := y_56) (z := y_56) (a := bo) (argsL := [(.int ((128 : Int32) ||| ((ch4 >>> ((6 : Int32) &&& 31)) &&& (63 : Int32))))]) (rest := []) hown (wk hw 310 rfl) (wk hw 311 rfl) (notFace_of_selects (args := #[]) (mvT hZ (wk hw 313 rfl))) (wk hw 313 rfl) (wk hw 312 rfl) (wk hw 286 rfl) (wk hw 314 rfl) (by decide) rfl E_bo (rm56 l Z a0 hw [] bo ((128 : Int32) ||| ((ch4 >>> ((6 : Int32) &&& 31)) &&& (63 : Int32))) bf zhq zgb h14 n0 Zn E_bo zgx zfo zgy Uq14 g_bo g_bf zbv ⟨iv14.2.2.1, by have a := iv14; have b := hcn; omega⟩) e15 0 (by decide) (by decide) (by decide) (by decide) (g := (mkF m 112 #[.val (.ref a1), .val (.ref a2), .val (.int (0 : Int32)), .val (.int ch4)] [(.int ((128 : Int32) ||| ((ch4 >>> ((6 : Int32) &&& 31)) &&& (63 : Int32)))), (.ref bo)])) rfl (by rw [hml]; rfl) (lenOf pd_25 rfl) rfl (Nat.le_of_eq rfl) (hb hby d60_112)
      obtain ⟨h16, e16⟩ : ∃ z, T16.heap = z := ⟨_, rfl⟩
      rw [e16] at hQ16
      obtain ⟨⟨zhr, zkb, rfl, Nq16, Kq16, zix, ziy, ziz, zmg, zmh⟩, Uq16⟩ := hQ16
      have N16 := Fr.app N14 Nq16
      replace zaj := zaj.keep Kq16 (ninS zby (ninS zbb nin0))
      replace E_bo := E_bo.keep Kq16
      replace zad := zad.keep Kq16 (ninS zci (ninS zbp nin0))
      replace zae := zae.keep Kq16 (ninS zci (ninS zbp nin0))
      replace V_t2 := V_t2.keep Kq16 (ninS zfp (ninS zfq nin0))
      replace E_a2 := E_a2.keep Kq16
      clear Uq14
      replace O := O.keep Kq16 (allS g_bo (allS g_bf all0))
      replace K := K.trans Kq16 (allS (Or.inl (List.mem_of_getElem? (i := 0) rfl)) (allS (Or.inl (List.mem_of_getElem? (i := 1) rfl)) all0))
      replace Zn := Nat.le_trans Zn Kq16.1
      have iv16 : cn.toInt ≤ zhr.toInt ∧ zhr.toInt ≤ cn.toInt + 3 ∧ ¬ zhr < (0 : Int32) ∧ zkb 0 = fb 0 := by have a := iv14; have b := zmg; have c_ := hcn; exact ⟨by omega, by omega, b.2, (zmh.1 (by omega)).trans a.2.2.2⟩
      refine Go.st st16 ?_
      refine Go.st (fun t k => XS.aloadN X16.here hx rfl (hb hby d60_115) rfl rfl k) ?_
      obtain ⟨T17, X17, e17, st17⟩ := getF X16 hx hZ hown (host := "") (Or.inl (wk hw 303 rfl)) Via.refl e16 zaj (g := (mkF m 116 #[.val (.ref a1), .val (.ref a2), .val (.int (0 : Int32)), .val (.int ch4)] [(.ref a1)])) rfl rfl (hb hby d60_116)
      refine Go.st st17 ?_
      refine Go.st (fun t k => XS.sipush X17.here hx rfl (hb hby d60_119) (XS.iloadN X17.here hx rfl (hb hby d60_122) rfl (XS.bipush X17.here hx rfl (hb hby d60_123) (XS.iand X17.here hx rfl (hb hby d60_125) rfl (XS.ior X17.here hx rfl (hb hby d60_126) rfl k))))) ?_
      obtain ⟨v18, T18, L18, X18, hQ18, st18⟩ := callViS X17 hx hZ (C := k_6) (y := y_56) (z := y_56) (a := bo) (argsL := [(.int ((128 : Int32) ||| (ch4 &&& (63 : Int32))))]) (rest := []) hown (wk hw 310 rfl) (wk hw 311 rfl) (notFace_of_selects (args := #[]) (mvT hZ (wk hw 313 rfl))) (wk hw 313 rfl) (wk hw 312 rfl) (wk hw 286 rfl) (wk hw 314 rfl) (by decide) rfl E_bo (rm56 l Z a0 hw [] bo ((128 : Int32) ||| (ch4 &&& (63 : Int32))) bf zhr zkb h16 n0 Zn E_bo zix ziy ziz Uq16 g_bo g_bf zbv ⟨iv16.2.2.1, by have a := iv16; have b := hcn; omega⟩) e17 0 (by decide) (by decide) (by decide) (by decide) (g := (mkF m 127 #[.val (.ref a1), .val (.ref a2), .val (.int (0 : Int32)), .val (.int ch4)] [(.int ((128 : Int32) ||| (ch4 &&& (63 : Int32)))), (.ref bo)])) rfl (by rw [hml]; rfl) (lenOf pd_25 rfl) rfl (Nat.le_of_eq rfl) (hb hby d60_127)
      obtain ⟨h18, e18⟩ : ∃ z, T18.heap = z := ⟨_, rfl⟩
      rw [e18] at hQ18
      obtain ⟨⟨zhs, zkc, rfl, Nq18, Kq18, zmi, zmj, zmk, zml, zmm⟩, Uq18⟩ := hQ18
      have N18 := Fr.app N16 Nq18
      replace zad := zad.keep Kq18 (ninS zci (ninS zbp nin0))
      replace zae := zae.keep Kq18 (ninS zci (ninS zbp nin0))
      replace V_t2 := V_t2.keep Kq18 (ninS zfp (ninS zfq nin0))
      replace E_a2 := E_a2.keep Kq18
      clear Uq16
      replace O := O.keep Kq18 (allS g_bo (allS g_bf all0))
      replace K := K.trans Kq18 (allS (Or.inl (List.mem_of_getElem? (i := 0) rfl)) (allS (Or.inl (List.mem_of_getElem? (i := 1) rfl)) all0))
      replace Zn := Nat.le_trans Zn Kq18.1
      have iv18 : cn.toInt ≤ zhs.toInt ∧ zhs.toInt ≤ cn.toInt + 4 ∧ ¬ zhs < (0 : Int32) ∧ zkc 0 = fb 0 := by have a := iv16; have b := zml; have c_ := hcn; exact ⟨by omega, by omega, b.2, (zmm.1 (by omega)).trans a.2.2.2⟩
      refine Go.st st18 ?_
      refine Go.st (fun t k => XS.iinc X18.here hx rfl (hb hby d60_130) rfl (l' := #[.val (.ref a1), .val (.ref a2), .val (.int (1 : Int32)), .val (.int ch4)]) rfl k) ?_
      show Go p.tables e below PP (T18.setTop (mkF m 133 #[.val (.ref a1), .val (.ref a2), .val (.int (1 : Int32)), .val (.int ch4)] []))
      refine Go.st (fun t k => XS.goto X18.here hx rfl (pc0 := 133) (pc' := 10) rfl (hb hby d60_133) (by decide) (by decide) (XS.iloadN X18.here hx rfl (hb hby d60_10) rfl (XS.aloadN X18.here hx rfl (hb hby d60_11) rfl rfl k))) ?_
      obtain ⟨v19, T19, L19, X19, hQ19, st19⟩ := callVi X18 hx hZ (C := k_14) (y := y_17) (z := y_17) (a := a2) (argsL := []) (rest := [(.int (1 : Int32))]) hown (wk hw 337 rfl) (wk hw 86 rfl) (notFace_of_selects (args := #[]) (mvT hZ (wk hw 88 rfl))) (wk hw 88 rfl) (wk hw 87 rfl) (wk hw 14 rfl) (wk hw 89 rfl) (by decide) rfl E_a2 (rm17i l Z a0 hw [] a2 t2 n2 f2 cd2 zc h18 n0 Zn zad zae V_t2 E_a2 hcd SC hzc O) e18 1 (by decide) (by decide) (by decide) (by decide) (g := (mkF m 12 #[.val (.ref a1), .val (.ref a2), .val (.int (1 : Int32)), .val (.int ch4)] [(.ref a2), (.int (1 : Int32))])) rfl (by rw [hml]; rfl) (lenOf pd_5 rfl) rfl (Nat.le_of_eq rfl) (hb hby d60_12)
      obtain ⟨rfl, rfl, e19⟩ := hQ19
      rw [List.append_nil] at X19
      refine Go.st st19 ?_
      refine Go.st (fun t k => XS.icmpYes X19.here hx rfl (pc0 := 15) (pc' := 136) rfl (hb hby d60_15) rfl (XT.ii_ge_t (by decide)) (by decide) (by decide) k) ?_
      show Go p.tables e below PP (T19.setTop (mkF m 136 #[.val (.ref a1), .val (.ref a2), .val (.int (1 : Int32)), .val (.int ch4)] []))
      rw [hPP]
      refine endV X19 hx hlk hret (hb hby d60_136) ?_ (by decide) (by decide)
      rw [e19]
      exact ⟨zhs, zkc, rfl, N18, K, zmi, zmj, zmk, Uq18, ⟨iv18.1, by have a := iv18.2.1; omega, iv18.2.2.1, iv18.2.2.2⟩⟩
abbrev b_59 : ByteArray := prog_16_method_8_code
theorem d59_0 : dk b_59 0 (.aload_n 0) 1 := by decide +kernel
theorem d59_1 : dk b_59 1 (.getfield 54) 3 := by decide +kernel
theorem d59_4 : dk b_59 4 (.areturn) 1 := by decide +kernel
abbrev r_rm59 : Room := { frames := 0, cells := 0, slots := 0, locals := 0 }
def Q59 (Z : State) (a1 : Addr) (x : Addr) (h0 : Heap) (n0 : Nat) (v : Option Value) (h : Heap) (L : List Loc) : Prop := v = some (.ref x) ∧ L = [] ∧ h = h0
theorem rm59 (l : Launch) (Z : State) (a0 : Array Value) (hw : HWt Z a0) (ws : List Jvm.Cond) (a1 : Addr) (x : Addr) (h0 : Heap) (n0 : Nat) (Z0 : n0 ≤ h0.size) (Fx : Fld Z h0 a1 k_0 "dataSource" "Ljava/lang/String;" (.ref x)) :
    Con l Z y_59 prog_16_method_8_code 1 (some (.object "java/lang/String")) ws r_rm59 #[(.ref a1)] h0 (Q59 Z a1 x h0 n0) := by
  refine Con.of2 (plainFor_of_name pn_rm8) ?_
  intro p e s m below meth c s₁ hZ e0 X0 hx hby hml hown hnm hret hlk PP hPP
  have N0 := Fr.nil n0
  refine Go.cast (ef_rm18 m a1) ?_
  have Zn : n0 ≤ h0.size := Z0
  show Go p.tables e below PP (s₁.setTop (mkF m 0 #[.val (.ref a1)] []))
  refine Go.st (fun t k => XS.aloadN X0.here hx rfl (hb hby d59_0) rfl rfl k) ?_
  obtain ⟨T1, X1, e1, st1⟩ := getF X0 hx hZ hown (host := "") (Or.inl (wk hw 250 rfl)) Via.refl e0 Fx (g := (mkF m 1 #[.val (.ref a1)] [(.ref a1)])) rfl rfl (hb hby d59_1)
  refine Go.st st1 ?_
  show Go p.tables e below PP (T1.setTop (mkF m 4 #[.val (.ref a1)] [(.ref x)]))
  rw [hPP]
  refine endR X1 hx hlk hret rfl rfl (hb hby d59_4) ?_ (by decide) (by decide)
  rw [e1]
  exact ⟨rfl, rfl, rfl⟩
abbrev b_67 : ByteArray := prog_16_method_9_code
theorem d67_0 : dk b_67 0 (.aload_n 0) 1 := by decide +kernel
theorem d67_1 : dk b_67 1 (.getfield 58) 3 := by decide +kernel
theorem d67_4 : dk b_67 4 (.areturn) 1 := by decide +kernel
abbrev r_rm67 : Room := { frames := 0, cells := 0, slots := 0, locals := 0 }
def Q67 (Z : State) (a1 : Addr) (x : Addr) (h0 : Heap) (n0 : Nat) (v : Option Value) (h : Heap) (L : List Loc) : Prop := v = some (.ref x) ∧ L = [] ∧ h = h0
theorem rm67 (l : Launch) (Z : State) (a0 : Array Value) (hw : HWt Z a0) (ws : List Jvm.Cond) (a1 : Addr) (x : Addr) (h0 : Heap) (n0 : Nat) (Z0 : n0 ≤ h0.size) (Fx : Fld Z h0 a1 k_0 "id" "Ljava/lang/String;" (.ref x)) :
    Con l Z y_67 prog_16_method_9_code 1 (some (.object "java/lang/String")) ws r_rm67 #[(.ref a1)] h0 (Q67 Z a1 x h0 n0) := by
  refine Con.of2 (plainFor_of_name pn_rm8) ?_
  intro p e s m below meth c s₁ hZ e0 X0 hx hby hml hown hnm hret hlk PP hPP
  have N0 := Fr.nil n0
  refine Go.cast (ef_rm18 m a1) ?_
  have Zn : n0 ≤ h0.size := Z0
  show Go p.tables e below PP (s₁.setTop (mkF m 0 #[.val (.ref a1)] []))
  refine Go.st (fun t k => XS.aloadN X0.here hx rfl (hb hby d67_0) rfl rfl k) ?_
  obtain ⟨T1, X1, e1, st1⟩ := getF X0 hx hZ hown (host := "") (Or.inl (wk hw 252 rfl)) Via.refl e0 Fx (g := (mkF m 1 #[.val (.ref a1)] [(.ref a1)])) rfl rfl (hb hby d67_1)
  refine Go.st st1 ?_
  show Go p.tables e below PP (T1.setTop (mkF m 4 #[.val (.ref a1)] [(.ref x)]))
  rw [hPP]
  refine endR X1 hx hlk hret rfl rfl (hb hby d67_4) ?_ (by decide) (by decide)
  rw [e1]
  exact ⟨rfl, rfl, rfl⟩
abbrev b_58 : ByteArray := prog_53_method_9_code
theorem d58_0 : dk b_58 0 (.aload_n 0) 1 := by decide +kernel
theorem d58_1 : dk b_58 1 (.aload_n 1) 1 := by decide +kernel
theorem d58_2 : dk b_58 2 (.invokevirtual 95) 3 := by decide +kernel
theorem d58_5 : dk b_58 5 (.invokevirtual 77) 3 := by decide +kernel
theorem d58_8 : dk b_58 8 (.aload_n 0) 1 := by decide +kernel
theorem d58_9 : dk b_58 9 (.aload_n 1) 1 := by decide +kernel
theorem d58_10 : dk b_58 10 (.invokevirtual 100) 3 := by decide +kernel
theorem d58_13 : dk b_58 13 (.invokevirtual 77) 3 := by decide +kernel
theorem d58_16 : dk b_58 16 (.return_) 1 := by decide +kernel
abbrev r_rm58 : Room := { frames := 6, cells := 0, slots := 0, locals := 81 }
def Q58 (Z : State) (a1 : Addr) (a2 : Addr) (bo : Addr) (bf : Addr) (cn : Int32) (fb : Nat → Int32) (dsa : Addr) (dst : Addr) (dsf : Nat → Int32) (iia : Addr) (iit : Addr) (iin : Int32) (iif : Nat → Int32) (iic : Int32) (zc : Int32) (sv : Value) (h0 : Heap) (n0 : Nat) (v : Option Value) (h : Heap) (L : List Loc) : Prop := ∃ (cn' : Int32) (f' : Nat → Int32), v = none ∧ Fr n0 L ∧ Keep h0 h [bo, bf] ∧ Fld Z h bo k_6 "buf" "[B" (.ref bf) ∧ Fld Z h bo k_6 "count" "I" (.int cn') ∧ Afn Z h bf .byte (32 : Int32) (fun k => .int (f' k)) ∧ Unt h bo ∧ (cn.toInt ≤ cn'.toInt ∧ cn'.toInt ≤ cn.toInt + 8 ∧ ¬ cn' < (0 : Int32) ∧ f' 0 = fb 0)
theorem rm58 (l : Launch) (Z : State) (a0 : Array Value) (hw : HWt Z a0) (ws : List Jvm.Cond) (a1 : Addr) (a2 : Addr) (bo : Addr) (bf : Addr) (cn : Int32) (fb : Nat → Int32) (dsa : Addr) (dst : Addr) (dsf : Nat → Int32) (iia : Addr) (iit : Addr) (iin : Int32) (iif : Nat → Int32) (iic : Int32) (zc : Int32) (sv : Value) (h0 : Heap) (n0 : Nat) (Z0 : n0 ≤ h0.size) (E_a1 : Exa Z h0 a1 k_4) (zaj : Fld Z h0 a1 k_4 "bytes" "Ljava/io/ByteArrayOutputStream;" (.ref bo)) (E_bo : Exa Z h0 bo k_6) (zcp : Fld Z h0 bo k_6 "buf" "[B" (.ref bf)) (zcq : Fld Z h0 bo k_6 "count" "I" (.int cn)) (V_bf : Afn Z h0 bf .byte (32 : Int32) (fun k => .int (fb k))) (U_bo : Unt h0 bo) (g_bo : n0 ≤ bo) (g_bf : n0 ≤ bf) (zbv : bo ≠ bf) (zby : a1 ≠ bo) (zbb : a1 ≠ bf) (hcn : ¬ cn < (0 : Int32) ∧ 0 < cn.toInt ∧ cn.toInt ≤ 8) (E_a2 : Exa Z h0 a2 k_0) (zmn : Fld Z h0 a2 k_0 "dataSource" "Ljava/lang/String;" (.ref dsa)) (zja : Fld Z h0 a2 k_0 "id" "Ljava/lang/String;" (.ref iia)) (zcz : Fld Z h0 dsa k_14 "value" "[B" (.ref dst)) (zem : Fld Z h0 dsa k_14 "coder" "B" (.int (0 : Int32))) (zda : Afn Z h0 dst .byte (1 : Int32) (fun k => .int (dsf k))) (zen : Exa Z h0 dsa k_14) (zct : Fld Z h0 iia k_14 "value" "[B" (.ref iit)) (zdm : Fld Z h0 iia k_14 "coder" "B" (.int iic)) (zcu : Afn Z h0 iit .byte iin (fun k => .int (iif k))) (zdn : Exa Z h0 iia k_14) (zci : a2 ≠ bo) (zbp : a2 ≠ bf) (zmo : dsa ≠ bo) (zmp : dsa ≠ bf) (zmq : dst ≠ bo) (zmr : dst ≠ bf) (zjb : iia ≠ bo) (zjc : iia ≠ bf) (zkd : iit ≠ bo) (zke : iit ≠ bf) (hcd : CD iic iin) (SC : SS0 Z zc) (hzc : ¬ zc = (0 : Int32)) (O : Old Z n0 h0) (SV : SS1 Z sv) (hr_sv : sv.isRef = true) (SA : SS2 Z) (SHi : SS3 Z) (SLo : SS4 Z) :
    Con l Z y_58 prog_53_method_9_code 2 none ws r_rm58 #[(.ref a1), (.ref a2)] h0 (Q58 Z a1 a2 bo bf cn fb dsa dst dsf iia iit iin iif iic zc sv h0 n0) := by
  refine Con.of2 (plainFor_of_name pn_rm51) ?_
  intro p e s m below meth c s₁ hZ e0 X0 hx hby hml hown hnm hret hlk PP hPP
  have N0 := Fr.nil n0
  refine Go.cast (ef_rm12 m a1 a2) ?_
  have K : Keep h0 h0 [bo, bf] := Keep.refl h0 _
  have Zn : n0 ≤ h0.size := Z0
  have iv0 : cn.toInt ≤ cn.toInt ∧ cn.toInt ≤ cn.toInt + 0 ∧ ¬ cn < (0 : Int32) ∧ fb 0 = fb 0 := ⟨by omega, by omega, hcn.1, rfl⟩
  show Go p.tables e below PP (s₁.setTop (mkF m 0 #[.val (.ref a1), .val (.ref a2)] []))
  refine Go.st (fun t k => XS.aloadN X0.here hx rfl (hb hby d58_0) rfl rfl (XS.aloadN X0.here hx rfl (hb hby d58_1) rfl rfl k)) ?_
  obtain ⟨v1, T1, L1, X1, hQ1, st1⟩ := callVi X0 hx hZ (C := k_0) (y := y_59) (z := y_59) (a := a2) (argsL := []) (rest := [(.ref a1)]) hown (wk hw 327 rfl) (wk hw 328 rfl) (notFace_of_selects (args := #[]) (mvT hZ (wk hw 330 rfl))) (wk hw 330 rfl) (wk hw 329 rfl) (wk hw 11 rfl) (wk hw 331 rfl) (by decide) rfl E_a2 (rm59 l Z a0 hw [] a2 dsa h0 n0 Zn zmn) e0 1 (by decide) (by decide) (by decide) (by decide) (g := (mkF m 2 #[.val (.ref a1), .val (.ref a2)] [(.ref a2), (.ref a1)])) rfl (by rw [hml]; rfl) (lenOf pd_35 rfl) rfl (Nat.le_of_eq rfl) (hb hby d58_2)
  obtain ⟨rfl, rfl, e1⟩ := hQ1
  rw [List.append_nil] at X1
  refine Go.st st1 ?_
  obtain ⟨v2, T2, L2, X2, hQ2, st2⟩ := callVi X1 hx hZ (C := k_4) (y := y_60) (z := y_60) (a := a1) (argsL := [(.ref dsa)]) (rest := []) hown (wk hw 332 rfl) (wk hw 333 rfl) (notFace_of_selects (args := #[]) (mvT hZ (wk hw 335 rfl))) (wk hw 335 rfl) (wk hw 334 rfl) (wk hw 279 rfl) (wk hw 336 rfl) (by decide) rfl E_a1 (rm60 l Z a0 hw [] a1 dsa bo bf cn fb dst (1 : Int32) dsf (0 : Int32) zc sv h0 n0 Zn E_a1 zaj E_bo zcp zcq V_bf U_bo g_bo g_bf zbv zby zbb ⟨iv0.2.2.1, by have a := iv0; have b := hcn; omega, by have a := iv0; have b := hcn; omega⟩ zcz zem zda zen zmo zmp zmq zmr (Or.inl ⟨rfl, rfl⟩) SC hzc O SV hr_sv SA SHi SLo) e1 0 (by decide) (by decide) (by decide) (by decide) (g := (mkF m 5 #[.val (.ref a1), .val (.ref a2)] [(.ref dsa), (.ref a1)])) rfl (by rw [hml]; rfl) (lenOf pd_23 rfl) rfl (Nat.le_of_eq rfl) (hb hby d58_5)
  obtain ⟨h2, e2⟩ : ∃ z, T2.heap = z := ⟨_, rfl⟩
  rw [e2] at hQ2
  obtain ⟨zbq, fx_2, rfl, Nq2, Kq2, zaq, zaz, zbl, zdg, zbw⟩ := hQ2
  have N2 := Fr.app N0 Nq2
  replace E_a1 := E_a1.keep Kq2
  replace zaj := zaj.keep Kq2 (ninS zby (ninS zbb nin0))
  replace E_bo := E_bo.keep Kq2
  replace E_a2 := E_a2.keep Kq2
  replace zja := zja.keep Kq2 (ninS zci (ninS zbp nin0))
  replace zct := zct.keep Kq2 (ninS zjb (ninS zjc nin0))
  replace zdm := zdm.keep Kq2 (ninS zjb (ninS zjc nin0))
  replace zcu := zcu.keep Kq2 (ninS zkd (ninS zke nin0))
  replace zdn := zdn.keep Kq2
  replace O := O.keep Kq2 (allS g_bo (allS g_bf all0))
  replace K := K.trans Kq2 (allS (Or.inl (List.mem_of_getElem? (i := 0) rfl)) (allS (Or.inl (List.mem_of_getElem? (i := 1) rfl)) all0))
  replace Zn := Nat.le_trans Zn Kq2.1
  have iv2 : cn.toInt ≤ zbq.toInt ∧ zbq.toInt ≤ cn.toInt + 4 ∧ ¬ zbq < (0 : Int32) ∧ fx_2 0 = fb 0 := by have a := iv0; have b := zbw; exact ⟨by omega, by omega, b.2.2.1, b.2.2.2.trans a.2.2.2⟩
  refine Go.st st2 ?_
  refine Go.st (fun t k => XS.aloadN X2.here hx rfl (hb hby d58_8) rfl rfl (XS.aloadN X2.here hx rfl (hb hby d58_9) rfl rfl k)) ?_
  obtain ⟨v3, T3, L3, X3, hQ3, st3⟩ := callVi X2 hx hZ (C := k_0) (y := y_67) (z := y_67) (a := a2) (argsL := []) (rest := [(.ref a1)]) hown (wk hw 364 rfl) (wk hw 365 rfl) (notFace_of_selects (args := #[]) (mvT hZ (wk hw 367 rfl))) (wk hw 367 rfl) (wk hw 366 rfl) (wk hw 11 rfl) (wk hw 368 rfl) (by decide) rfl E_a2 (rm67 l Z a0 hw [] a2 iia h2 n0 Zn zja) e2 1 (by decide) (by decide) (by decide) (by decide) (g := (mkF m 10 #[.val (.ref a1), .val (.ref a2)] [(.ref a2), (.ref a1)])) rfl (by rw [hml]; rfl) (lenOf pd_35 rfl) rfl (Nat.le_of_eq rfl) (hb hby d58_10)
  obtain ⟨rfl, rfl, e3⟩ := hQ3
  rw [List.append_nil] at X3
  refine Go.st st3 ?_
  obtain ⟨v4, T4, L4, X4, hQ4, st4⟩ := callVi X3 hx hZ (C := k_4) (y := y_60) (z := y_60) (a := a1) (argsL := [(.ref iia)]) (rest := []) hown (wk hw 332 rfl) (wk hw 333 rfl) (notFace_of_selects (args := #[]) (mvT hZ (wk hw 335 rfl))) (wk hw 335 rfl) (wk hw 334 rfl) (wk hw 279 rfl) (wk hw 336 rfl) (by decide) rfl E_a1 (rm60 l Z a0 hw [] a1 iia bo bf zbq fx_2 iit iin iif iic zc sv h2 n0 Zn E_a1 zaj E_bo zaq zaz zbl zdg g_bo g_bf zbv zby zbb ⟨iv2.2.2.1, by have a := iv2; have b := hcn; omega, by have a := iv2; have b := hcn; omega⟩ zct zdm zcu zdn zjb zjc zkd zke hcd SC hzc O SV hr_sv SA SHi SLo) e3 0 (by decide) (by decide) (by decide) (by decide) (g := (mkF m 13 #[.val (.ref a1), .val (.ref a2)] [(.ref iia), (.ref a1)])) rfl (by rw [hml]; rfl) (lenOf pd_23 rfl) rfl (Nat.le_of_eq rfl) (hb hby d58_13)
  obtain ⟨h4, e4⟩ : ∃ z, T4.heap = z := ⟨_, rfl⟩
  rw [e4] at hQ4
  obtain ⟨zgc, fx_4, rfl, Nq4, Kq4, zaw, zbr, zck, zcl, zcx⟩ := hQ4
  have N4 := Fr.app N2 Nq4
  replace O := O.keep Kq4 (allS g_bo (allS g_bf all0))
  replace K := K.trans Kq4 (allS (Or.inl (List.mem_of_getElem? (i := 0) rfl)) (allS (Or.inl (List.mem_of_getElem? (i := 1) rfl)) all0))
  replace Zn := Nat.le_trans Zn Kq4.1
  have iv4 : cn.toInt ≤ zgc.toInt ∧ zgc.toInt ≤ cn.toInt + 8 ∧ ¬ zgc < (0 : Int32) ∧ fx_4 0 = fb 0 := by have a := iv2; have b := zcx; exact ⟨by omega, by omega, b.2.2.1, b.2.2.2.trans a.2.2.2⟩
  refine Go.st st4 ?_
  show Go p.tables e below PP (T4.setTop (mkF m 16 #[.val (.ref a1), .val (.ref a2)] []))
  rw [hPP]
  refine endV X4 hx hlk hret (hb hby d58_16) ?_ (by decide) (by decide)
  rw [e4]
  exact ⟨zgc, fx_4, rfl, N4, K, zaw, zbr, zck, zcl, ⟨iv4.1, by have a := iv4.2.1; omega, iv4.2.2.1, iv4.2.2.2⟩⟩
abbrev b_68 : ByteArray := prog_53_method_10_code
theorem d68_0 : dk b_68 0 (.aload_n 1) 1 := by decide +kernel
theorem d68_1 : dk b_68 1 (.invokevirtual 101) 3 := by decide +kernel
theorem d68_4 : dk b_68 4 (.astore_n 2) 1 := by decide +kernel
theorem d68_5 : dk b_68 5 (.aload_n 0) 1 := by decide +kernel
theorem d68_6 : dk b_68 6 (.aload_n 2) 1 := by decide +kernel
theorem d68_7 : dk b_68 7 (.arraylength) 1 := by decide +kernel
theorem d68_8 : dk b_68 8 (.invokevirtual 40) 3 := by decide +kernel
theorem d68_11 : dk b_68 11 (.aload_n 0) 1 := by decide +kernel
theorem d68_12 : dk b_68 12 (.getfield 12) 3 := by decide +kernel
theorem d68_15 : dk b_68 15 (.aload_n 2) 1 := by decide +kernel
theorem d68_16 : dk b_68 16 (.invokevirtual 105) 3 := by decide +kernel
theorem d68_19 : dk b_68 19 (.return_) 1 := by decide +kernel
abbrev r_rm68 : Room := { frames := 4, cells := 1, slots := 3, locals := 70 }
def Q68 (Z : State) (a1 : Addr) (a2 : Addr) (bo : Addr) (bf : Addr) (cn : Int32) (fb : Nat → Int32) (tb : Addr) (nb : Int32) (fw : Nat → Int32) (h0 : Heap) (n0 : Nat) (v : Option Value) (h : Heap) (L : List Loc) : Prop := ∃ (cn' : Int32) (f' : Nat → Int32), v = none ∧ Fr n0 L ∧ Keep h0 h [bo, bf] ∧ Fld Z h bo k_6 "buf" "[B" (.ref bf) ∧ Fld Z h bo k_6 "count" "I" (.int cn') ∧ Afn Z h bf .byte (32 : Int32) (fun k => .int (f' k)) ∧ Unt h bo ∧ (cn.toInt ≤ cn'.toInt ∧ cn'.toInt ≤ cn.toInt + 4 ∧ ¬ cn' < (0 : Int32) ∧ f' 0 = fb 0)
theorem pd_41 : parseMethodDescriptor "([B)V" = some ⟨[(.array .byte)], none⟩ := by decide +kernel
theorem rm68 (l : Launch) (Z : State) (a0 : Array Value) (hw : HWt Z a0) (ws : List Jvm.Cond) (a1 : Addr) (a2 : Addr) (bo : Addr) (bf : Addr) (cn : Int32) (fb : Nat → Int32) (tb : Addr) (nb : Int32) (fw : Nat → Int32) (h0 : Heap) (n0 : Nat) (Z0 : n0 ≤ h0.size) (E_a1 : Exa Z h0 a1 k_4) (zaj : Fld Z h0 a1 k_4 "bytes" "Ljava/io/ByteArrayOutputStream;" (.ref bo)) (E_bo : Exa Z h0 bo k_6) (zcp : Fld Z h0 bo k_6 "buf" "[B" (.ref bf)) (zcq : Fld Z h0 bo k_6 "count" "I" (.int cn)) (V_bf : Afn Z h0 bf .byte (32 : Int32) (fun k => .int (fb k))) (U_bo : Unt h0 bo) (g_bo : n0 ≤ bo) (g_bf : n0 ≤ bf) (zbv : bo ≠ bf) (zby : a1 ≠ bo) (zbb : a1 ≠ bf) (hcn : ¬ cn < (0 : Int32) ∧ 0 < cn.toInt ∧ cn.toInt ≤ 20) (E_a2 : Exa Z h0 a2 k_2) (zdo : Fld Z h0 a2 k_2 "bytes" "[B" (.ref tb)) (V_tb : Afn Z h0 tb .byte nb (fun k => .int (fw k))) (X_tb : Exa Z h0 tb "[B") (zci : a2 ≠ bo) (zbp : a2 ≠ bf) (znq : tb ≠ bo) (znr : tb ≠ bf) (hn : N4 nb) :
    Con l Z y_68 prog_53_method_10_code 3 none ws r_rm68 #[(.ref a1), (.ref a2)] h0 (Q68 Z a1 a2 bo bf cn fb tb nb fw h0 n0) := by
  refine Con.of2 (plainFor_of_name pn_rm51) ?_
  intro p e s m below meth c s₁ hZ e0 X0 hx hby hml hown hnm hret hlk PP hPP
  have N0 := Fr.nil n0
  refine Go.cast (ef_rm28a m a1 a2) ?_
  have K : Keep h0 h0 [bo, bf] := Keep.refl h0 _
  have Zn : n0 ≤ h0.size := Z0
  have iv0 : cn.toInt ≤ cn.toInt ∧ cn.toInt ≤ cn.toInt + 0 ∧ ¬ cn < (0 : Int32) ∧ fb 0 = fb 0 := ⟨by omega, by omega, hcn.1, rfl⟩
  show Go p.tables e below PP (s₁.setTop (mkF m 0 #[.val (.ref a1), .val (.ref a2), .unset] []))
  refine Go.st (fun t k => XS.aloadN X0.here hx rfl (hb hby d68_0) rfl rfl k) ?_
  obtain ⟨v1, T1, L1, X1, hQ1, st1⟩ := callVi X0 hx hZ (C := k_2) (y := y_69) (z := y_69) (a := a2) (argsL := []) (rest := []) hown (wk hw 374 rfl) (wk hw 375 rfl) (notFace_of_selects (args := #[]) (mvT hZ (wk hw 377 rfl))) (wk hw 377 rfl) (wk hw 376 rfl) (wk hw 256 rfl) (wk hw 378 rfl) (by decide) rfl E_a2 (rm69 l Z a0 hw [] a2 tb nb fw h0 n0 Zn zdo V_tb X_tb hn) e0 0 (by decide) (by decide) (by decide) (by decide) (g := (mkF m 1 #[.val (.ref a1), .val (.ref a2), .unset] [(.ref a2)])) rfl (by rw [hml]; rfl) (lenOf pd_28 rfl) rfl (Nat.le_of_eq rfl) (hb hby d68_1)
  obtain ⟨h1, e1⟩ : ∃ z, T1.heap = z := ⟨_, rfl⟩
  rw [e1] at hQ1
  obtain ⟨t_1, rfl, Nq1, Kq1, zbk, zai⟩ := hQ1
  have N1 := Fr.app N0 Nq1
  have zkf : bo ≠ t_1 := Nat.ne_of_lt (Nat.lt_of_lt_of_le E_bo.lt zbk)
  have zkg : bf ≠ t_1 := Nat.ne_of_lt (Nat.lt_of_lt_of_le V_bf.lt zbk)
  replace E_a1 := E_a1.keep Kq1
  replace zaj := zaj.keep Kq1 nin0
  replace E_bo := E_bo.keep Kq1
  replace zcp := zcp.keep Kq1 nin0
  replace zcq := zcq.keep Kq1 nin0
  replace V_bf := V_bf.keep Kq1 nin0
  replace U_bo := unt_keep U_bo Kq1 nin0
  replace K := K.trans Kq1 all0
  replace Zn := Nat.le_trans Zn Kq1.1
  refine Go.st st1 ?_
  refine Go.st (fun t k => XS.astoreN X1.here hx rfl (hb hby d68_4) rfl rfl (l' := #[.val (.ref a1), .val (.ref a2), .val (.ref t_1)]) rfl (XS.aloadN X1.here hx rfl (hb hby d68_5) rfl rfl (XS.aloadN X1.here hx rfl (hb hby d68_6) rfl rfl k))) ?_
  obtain ⟨cl2, Ar2, S2, Nn2, -⟩ := id zai
  refine Go.st (fun t k => X1.arraylength hx (by rw [e1]; exact Ar2.1) (State.isArrayOf_alike hZ.alike Ar2.2.1) (g := (mkF m 7 #[.val (.ref a1), .val (.ref a2), .val (.ref t_1)] [(.ref t_1), (.ref a1)])) rfl rfl (hb hby d68_7) _ k) ?_
  rw [len_of S2 Nn2]
  obtain ⟨v3, T3, L3, X3, hQ3, st3⟩ := callVi X1 hx hZ (C := k_4) (y := y_61) (z := y_61) (a := a1) (argsL := [(.int nb)]) (rest := []) hown (wk hw 338 rfl) (wk hw 339 rfl) (notFace_of_selects (args := #[]) (mvT hZ (wk hw 341 rfl))) (wk hw 341 rfl) (wk hw 340 rfl) (wk hw 279 rfl) (wk hw 342 rfl) (by decide) rfl E_a1 (rm61 l Z a0 hw [] a1 nb bo bf cn fb h1 n0 Zn E_a1 zaj E_bo zcp zcq V_bf U_bo g_bo g_bf zbv zby zbb ⟨iv0.2.2.1, by have a := iv0; have b := hcn; omega, by have a := iv0; have b := hcn; omega⟩ (own_n4l hn)) e1 0 (by decide) (by decide) (by decide) (by decide) (g := (mkF m 8 #[.val (.ref a1), .val (.ref a2), .val (.ref t_1)] [(.int nb), (.ref a1)])) rfl (by rw [hml]; rfl) (lenOf pd_25 rfl) rfl (Nat.le_of_eq rfl) (hb hby d68_8)
  obtain ⟨h3, e3⟩ : ∃ z, T3.heap = z := ⟨_, rfl⟩
  rw [e3] at hQ3
  obtain ⟨zgd, fx_3, rfl, Nq3, Kq3, zcj, zcc, zcr, zcs, zdu⟩ := hQ3
  have N3 := Fr.app N1 Nq3
  replace zaj := zaj.keep Kq3 (ninS zby (ninS zbb nin0))
  replace E_bo := E_bo.keep Kq3
  replace zai := zai.keep Kq3 (ninS (Ne.symm zkf) (ninS (Ne.symm zkg) nin0))
  replace K := K.trans Kq3 (allS (Or.inl (List.mem_of_getElem? (i := 0) rfl)) (allS (Or.inl (List.mem_of_getElem? (i := 1) rfl)) all0))
  replace Zn := Nat.le_trans Zn Kq3.1
  have iv3 : cn.toInt ≤ zgd.toInt ∧ zgd.toInt ≤ cn.toInt + 1 ∧ ¬ zgd < (0 : Int32) ∧ fx_3 0 = fb 0 := by have a := iv0; have b := zdu; exact ⟨by omega, by omega, b.2.2.1, b.2.2.2.trans a.2.2.2⟩
  refine Go.st st3 ?_
  refine Go.st (fun t k => XS.aloadN X3.here hx rfl (hb hby d68_11) rfl rfl k) ?_
  obtain ⟨T4, X4, e4, st4⟩ := getF X3 hx hZ hown (host := "") (Or.inl (wk hw 303 rfl)) Via.refl e3 zaj (g := (mkF m 12 #[.val (.ref a1), .val (.ref a2), .val (.ref t_1)] [(.ref a1)])) rfl rfl (hb hby d68_12)
  refine Go.st st4 ?_
  refine Go.st (fun t k => XS.aloadN X4.here hx rfl (hb hby d68_15) rfl rfl k) ?_
  obtain ⟨v5, T5, L5, X5, hQ5, st5⟩ := callVi X4 hx hZ (C := k_6) (y := y_70) (z := y_70) (a := bo) (argsL := [(.ref t_1)]) (rest := []) hown (wk hw 379 rfl) (wk hw 380 rfl) (notFace_of_selects (args := #[]) (mvT hZ (wk hw 382 rfl))) (wk hw 382 rfl) (wk hw 381 rfl) (wk hw 286 rfl) (wk hw 383 rfl) (by decide) rfl E_bo (rm70 l Z a0 hw [] bo t_1 bf zgd fx_3 nb fw h3 n0 Zn E_bo zcj zcc zcr zai zcs g_bo g_bf zbv (Ne.symm zkf) (Ne.symm zkg) ⟨iv3.2.2.1, by have a := iv3; have b := hcn; omega⟩ hn) e4 0 (by decide) (by decide) (by decide) (by decide) (g := (mkF m 16 #[.val (.ref a1), .val (.ref a2), .val (.ref t_1)] [(.ref t_1), (.ref bo)])) rfl (by rw [hml]; rfl) (lenOf pd_41 rfl) rfl (Nat.le_of_eq rfl) (hb hby d68_16)
  obtain ⟨h5, e5⟩ : ∃ z, T5.heap = z := ⟨_, rfl⟩
  rw [e5] at hQ5
  obtain ⟨zfr, fx_5, rfl, Nq5, Kq5, zan, zay, zbj, zbg, zdt, zms⟩ := hQ5
  have N5 := Fr.app N3 Nq5
  replace K := K.trans Kq5 (allS (Or.inl (List.mem_of_getElem? (i := 0) rfl)) (allS (Or.inl (List.mem_of_getElem? (i := 1) rfl)) all0))
  replace Zn := Nat.le_trans Zn Kq5.1
  have iv5 : cn.toInt ≤ zfr.toInt ∧ zfr.toInt ≤ cn.toInt + 4 ∧ ¬ zfr < (0 : Int32) ∧ fx_5 0 = fb 0 := by have a := iv3; have b := zdt; have c_ := hcn; have d_ := own_n4x hn; exact ⟨by omega, by omega, b.2, (zms (by omega)).trans a.2.2.2⟩
  refine Go.st st5 ?_
  show Go p.tables e below PP (T5.setTop (mkF m 19 #[.val (.ref a1), .val (.ref a2), .val (.ref t_1)] []))
  rw [hPP]
  refine endV X5 hx hlk hret (hb hby d68_19) ?_ (by decide) (by decide)
  rw [e5]
  exact ⟨zfr, fx_5, rfl, N5, K, zan, zay, zbj, zbg, ⟨iv5.1, by have a := iv5.2.1; omega, iv5.2.2.1, iv5.2.2.2⟩⟩
abbrev b_74 : ByteArray := prog_53_method_2_code
theorem d74_0 : dk b_74 0 (.aload_n 0) 1 := by decide +kernel
theorem d74_1 : dk b_74 1 (.getfield 12) 3 := by decide +kernel
theorem d74_4 : dk b_74 4 (.invokevirtual 18) 3 := by decide +kernel
theorem d74_7 : dk b_74 7 (.areturn) 1 := by decide +kernel
abbrev r_rm74 : Room := { frames := 3, cells := 1, slots := 34, locals := 68 }
def Q74 (Z : State) (a1 : Addr) (bo : Addr) (bf : Addr) (cn : Int32) (fb : Nat → Int32) (h0 : Heap) (n0 : Nat) (v : Option Value) (h : Heap) (L : List Loc) : Prop := ∃ (t : Addr) (f' : Nat → Int32), v = some (.ref t) ∧ Fr n0 L ∧ Keep h0 h [] ∧ h0.size ≤ t ∧ Afn Z h t .byte cn (fun k => .int (f' k)) ∧ f' 0 = fb 0
theorem rm74 (l : Launch) (Z : State) (a0 : Array Value) (hw : HWt Z a0) (ws : List Jvm.Cond) (a1 : Addr) (bo : Addr) (bf : Addr) (cn : Int32) (fb : Nat → Int32) (h0 : Heap) (n0 : Nat) (Z0 : n0 ≤ h0.size) (E_a1 : Exa Z h0 a1 k_4) (zaj : Fld Z h0 a1 k_4 "bytes" "Ljava/io/ByteArrayOutputStream;" (.ref bo)) (E_bo : Exa Z h0 bo k_6) (zcp : Fld Z h0 bo k_6 "buf" "[B" (.ref bf)) (zcq : Fld Z h0 bo k_6 "count" "I" (.int cn)) (V_bf : Afn Z h0 bf .byte (32 : Int32) (fun k => .int (fb k))) (U_bo : Unt h0 bo) (hcn : ¬ cn < (0 : Int32) ∧ cn.toInt < 32) :
    Con l Z y_74 prog_53_method_2_code 1 (some (.array .byte)) ws r_rm74 #[(.ref a1)] h0 (Q74 Z a1 bo bf cn fb h0 n0) := by
  refine Con.of2 (plainFor_of_name pn_rm51) ?_
  intro p e s m below meth c s₁ hZ e0 X0 hx hby hml hown hnm hret hlk PP hPP
  have N0 := Fr.nil n0
  refine Go.cast (ef_rm18 m a1) ?_
  have K : Keep h0 h0 [] := Keep.refl h0 _
  have Zn : n0 ≤ h0.size := Z0
  show Go p.tables e below PP (s₁.setTop (mkF m 0 #[.val (.ref a1)] []))
  refine Go.st (fun t k => XS.aloadN X0.here hx rfl (hb hby d74_0) rfl rfl k) ?_
  obtain ⟨T1, X1, e1, st1⟩ := getF X0 hx hZ hown (host := "") (Or.inl (wk hw 303 rfl)) Via.refl e0 zaj (g := (mkF m 1 #[.val (.ref a1)] [(.ref a1)])) rfl rfl (hb hby d74_1)
  refine Go.st st1 ?_
  obtain ⟨v2, T2, L2, X2, hQ2, st2⟩ := callViS X1 hx hZ (C := k_6) (y := y_75) (z := y_75) (a := bo) (argsL := []) (rest := []) hown (wk hw 401 rfl) (wk hw 402 rfl) (notFace_of_selects (args := #[]) (mvT hZ (wk hw 404 rfl))) (wk hw 404 rfl) (wk hw 403 rfl) (wk hw 286 rfl) (wk hw 405 rfl) (by decide) rfl E_bo (rm75 l Z a0 hw [] bo bf cn fb h0 n0 Zn E_bo zcp zcq V_bf U_bo hcn) e1 0 (by decide) (by decide) (by decide) (by decide) (g := (mkF m 4 #[.val (.ref a1)] [(.ref bo)])) rfl (by rw [hml]; rfl) (lenOf pd_28 rfl) rfl (Nat.le_of_eq rfl) (hb hby d74_4)
  obtain ⟨h2, e2⟩ : ∃ z, T2.heap = z := ⟨_, rfl⟩
  rw [e2] at hQ2
  obtain ⟨⟨t_2, fx_2, rfl, Nq2, Kq2, zam, zaq, zbw⟩, Uq2⟩ := hQ2
  have N2 := Fr.app N0 Nq2
  have zdb : h0.size ≤ t_2 := Nat.le_trans K.1 zam
  replace K := K.trans Kq2 all0
  replace Zn := Nat.le_trans Zn Kq2.1
  refine Go.st st2 ?_
  show Go p.tables e below PP (T2.setTop (mkF m 7 #[.val (.ref a1)] [(.ref t_2)]))
  rw [hPP]
  refine endR X2 hx hlk hret rfl rfl (hb hby d74_7) ?_ (by decide) (by decide)
  rw [e2]
  exact ⟨t_2, fx_2, rfl, N2, K, zdb, zaq, zbw⟩
abbrev b_50 : ByteArray := prog_51_method_11_code
theorem d50_0 : dk b_50 0 (.new 7) 3 := by decide +kernel
theorem d50_3 : dk b_50 3 (.dup) 1 := by decide +kernel
theorem d50_4 : dk b_50 4 (.invokespecial 9) 3 := by decide +kernel
theorem d50_7 : dk b_50 7 (.astore_n 2) 1 := by decide +kernel
theorem d50_8 : dk b_50 8 (.aload_n 2) 1 := by decide +kernel
theorem d50_9 : dk b_50 9 (.iconst 1) 1 := by decide +kernel
theorem d50_10 : dk b_50 10 (.invokevirtual 161) 3 := by decide +kernel
theorem d50_13 : dk b_50 13 (.aload_n 2) 1 := by decide +kernel
theorem d50_14 : dk b_50 14 (.aload_n 0) 1 := by decide +kernel
theorem d50_15 : dk b_50 15 (.invokevirtual 167) 3 := by decide +kernel
theorem d50_18 : dk b_50 18 (.aload_n 2) 1 := by decide +kernel
theorem d50_19 : dk b_50 19 (.aload_n 1) 1 := by decide +kernel
theorem d50_20 : dk b_50 20 (.invokevirtual 175) 3 := by decide +kernel
theorem d50_23 : dk b_50 23 (.aload_n 2) 1 := by decide +kernel
theorem d50_24 : dk b_50 24 (.invokevirtual 23) 3 := by decide +kernel
theorem d50_27 : dk b_50 27 (.areturn) 1 := by decide +kernel
abbrev r_rm50 : Room := { frames := 7, cells := 5, slots := 72, locals := 94 }
def Q50 (Z : State) (a1 : Addr) (a2 : Addr) (dsa : Addr) (dst : Addr) (dsf : Nat → Int32) (iia : Addr) (iit : Addr) (iin : Int32) (iif : Nat → Int32) (iic : Int32) (tb : Addr) (nb : Int32) (fw : Nat → Int32) (zc : Int32) (sv : Value) (h0 : Heap) (n0 : Nat) (v : Option Value) (h : Heap) (L : List Loc) : Prop := ∃ (t : Addr) (n' : Int32) (f' : Nat → Int32), v = some (.ref t) ∧ Fr n0 L ∧ Keep h0 h [] ∧ h0.size ≤ t ∧ Afn Z h t .byte n' (fun k => .int (f' k)) ∧ ((0 : Int32) < n' ∧ f' 0 = (1 : Int32))
theorem pd_42 : parseMethodDescriptor "(B)V" = some ⟨[.byte], none⟩ := by decide +kernel
theorem pd_43 : parseMethodDescriptor "(Lcom/example/crossname/crossname/access/ItemName;)V" = some ⟨[(.object "com/example/crossname/crossname/access/ItemName")], none⟩ := by decide +kernel
theorem pd_44 : parseMethodDescriptor "(Lcom/example/crossname/crossname/access/Version;)V" = some ⟨[(.object "com/example/crossname/crossname/access/Version")], none⟩ := by decide +kernel
theorem rm50 (l : Launch) (Z : State) (a0 : Array Value) (hw : HWt Z a0) (ws : List Jvm.Cond) (a1 : Addr) (a2 : Addr) (dsa : Addr) (dst : Addr) (dsf : Nat → Int32) (iia : Addr) (iit : Addr) (iin : Int32) (iif : Nat → Int32) (iic : Int32) (tb : Addr) (nb : Int32) (fw : Nat → Int32) (zc : Int32) (sv : Value) (h0 : Heap) (n0 : Nat) (Z0 : n0 ≤ h0.size) (E_a1 : Exa Z h0 a1 k_0) (zfs : Fld Z h0 a1 k_0 "dataSource" "Ljava/lang/String;" (.ref dsa)) (zba : Fld Z h0 a1 k_0 "id" "Ljava/lang/String;" (.ref iia)) (zcz : Fld Z h0 dsa k_14 "value" "[B" (.ref dst)) (zem : Fld Z h0 dsa k_14 "coder" "B" (.int (0 : Int32))) (zda : Afn Z h0 dst .byte (1 : Int32) (fun k => .int (dsf k))) (zen : Exa Z h0 dsa k_14) (zct : Fld Z h0 iia k_14 "value" "[B" (.ref iit)) (zdm : Fld Z h0 iia k_14 "coder" "B" (.int iic)) (zcu : Afn Z h0 iit .byte iin (fun k => .int (iif k))) (zdn : Exa Z h0 iia k_14) (E_a2 : Exa Z h0 a2 k_2) (zdo : Fld Z h0 a2 k_2 "bytes" "[B" (.ref tb)) (V_tb : Afn Z h0 tb .byte nb (fun k => .int (fw k))) (X_tb : Exa Z h0 tb "[B") (hn : N4 nb) (hcd : CD iic iin) (SC : SS0 Z zc) (hzc : ¬ zc = (0 : Int32)) (O : Old Z n0 h0) (SV : SS1 Z sv) (hr_sv : sv.isRef = true) (SA : SS2 Z) (SHi : SS3 Z) (SLo : SS4 Z) :
    Con l Z y_50 prog_51_method_11_code 3 (some (.array .byte)) ws r_rm50 #[(.ref a1), (.ref a2)] h0 (Q50 Z a1 a2 dsa dst dsf iia iit iin iif iic tb nb fw zc sv h0 n0) := by
  refine Con.of2 (plainFor_of_name pn_rm2) ?_
  intro p e s m below meth c s₁ hZ e0 X0 hx hby hml hown hnm hret hlk PP hPP
  have N0 := Fr.nil n0
  refine Go.cast (ef_rm28a m a1 a2) ?_
  have K : Keep h0 h0 [] := Keep.refl h0 _
  have Zn : n0 ≤ h0.size := Z0
  obtain ⟨T1, h1, X1, e1, E1, A1, D1, U1, st1⟩ := newO X0 hx hZ hown (wk hw 277 rfl) (wk hw 278 rfl) (wk hw 279 rfl) e0 (g := (mkF m 0 #[.val (.ref a1), .val (.ref a2), .unset] [])) rfl (hb hby d50_0) (by decide) (by decide)
  obtain ⟨b1, gz1⟩ : ∃ z, z = h0.size := ⟨_, rfl⟩
  rw [← gz1] at A1 D1 U1 st1
  have zfz : a1 ≠ b1 := Nat.ne_of_lt (Nat.lt_of_lt_of_le E_a1.lt (Nat.le_of_eq gz1.symm))
  have zkh : dsa ≠ b1 := Nat.ne_of_lt (Nat.lt_of_lt_of_le zcz.lt (Nat.le_of_eq gz1.symm))
  have zmt : dst ≠ b1 := Nat.ne_of_lt (Nat.lt_of_lt_of_le zda.lt (Nat.le_of_eq gz1.symm))
  have zki : iia ≠ b1 := Nat.ne_of_lt (Nat.lt_of_lt_of_le zct.lt (Nat.le_of_eq gz1.symm))
  have zmu : iit ≠ b1 := Nat.ne_of_lt (Nat.lt_of_lt_of_le zcu.lt (Nat.le_of_eq gz1.symm))
  have zce : a2 ≠ b1 := Nat.ne_of_lt (Nat.lt_of_lt_of_le E_a2.lt (Nat.le_of_eq gz1.symm))
  have zmv : tb ≠ b1 := Nat.ne_of_lt (Nat.lt_of_lt_of_le V_tb.lt (Nat.le_of_eq gz1.symm))
  have g_b1 : n0 ≤ b1 := Nat.le_trans Zn (Nat.le_of_eq gz1.symm)
  have zas : h0.size ≤ b1 := Nat.le_trans K.1 (Nat.le_of_eq gz1.symm)
  refine Go.st st1 ?_
  replace E_a1 := E_a1.ext E1
  replace zfs := zfs.ext E1
  replace zba := zba.ext E1
  replace zcz := zcz.ext E1
  replace zem := zem.ext E1
  replace zda := zda.ext E1
  replace zen := zen.ext E1
  replace zct := zct.ext E1
  replace zdm := zdm.ext E1
  replace zcu := zcu.ext E1
  replace zdn := zdn.ext E1
  replace E_a2 := E_a2.ext E1
  replace zdo := zdo.ext E1
  replace V_tb := V_tb.ext E1
  replace X_tb := X_tb.ext E1
  replace O := O.ext E1
  replace K := K.ext E1
  replace Zn := Nat.le_trans Zn E1.1
  have E_b1 := A1
  have zmw : Fld Z h1 b1 k_4 "bytes" "Ljava/io/ByteArrayOutputStream;" .null := D1 (Or.inr (wk hw 304 rfl)) (ty := (.object "java/io/ByteArrayOutputStream")) (by decide)
  refine Go.st (fun t k => XS.dup X1.here hx rfl (hb hby d50_3) rfl rfl k) ?_
  obtain ⟨v2, T2, L2, X2, hQ2, st2⟩ := callInR X1 hx hZ (y := y_51) (a := b1) (argsL := []) (rest := [(.ref b1)]) rfl hown (wk hw 280 rfl) (wk hw 281 rfl) (wk hw 279 rfl) (wk hw 282 rfl) (by decide) (rm51 l Z a0 hw [] b1 h1 n0 Zn E_b1 zmw g_b1) e1 1 (by decide) (by decide) (by decide) (by decide) (g := (mkF m 4 #[.val (.ref a1), .val (.ref a2), .unset] [(.ref b1), (.ref b1)])) rfl (by rw [hml]; rfl) (lenOf pd_21 rfl) rfl (Nat.le_of_eq rfl) (hb hby d50_4)
  obtain ⟨h2, e2⟩ : ∃ z, T2.heap = z := ⟨_, rfl⟩
  rw [e2] at hQ2
  obtain ⟨b_2, t_2, fx_2, rfl, Nq2, Kq2, zam, zdv, zaq, zaz, zbl, zdg, zgm, zmx, zbw⟩ := hQ2
  have N2 := Fr.app N0 Nq2
  have zjd : a1 ≠ b_2 := Nat.ne_of_lt (Nat.lt_of_lt_of_le E_a1.lt zam)
  have zje : dsa ≠ b_2 := Nat.ne_of_lt (Nat.lt_of_lt_of_le zcz.lt zam)
  have zkj : dst ≠ b_2 := Nat.ne_of_lt (Nat.lt_of_lt_of_le zda.lt zam)
  have zjf : iia ≠ b_2 := Nat.ne_of_lt (Nat.lt_of_lt_of_le zct.lt zam)
  have zkk : iit ≠ b_2 := Nat.ne_of_lt (Nat.lt_of_lt_of_le zcu.lt zam)
  have zjg : a2 ≠ b_2 := Nat.ne_of_lt (Nat.lt_of_lt_of_le E_a2.lt zam)
  have zjh : tb ≠ b_2 := Nat.ne_of_lt (Nat.lt_of_lt_of_le V_tb.lt zam)
  have zge : b1 ≠ b_2 := Nat.ne_of_lt (Nat.lt_of_lt_of_le E_b1.lt zam)
  have zgf : n0 ≤ b_2 := Nat.le_trans Zn zam
  have zji : h0.size ≤ b_2 := Nat.le_trans K.1 zam
  have zjj : a1 ≠ t_2 := Nat.ne_of_lt (Nat.lt_of_lt_of_le E_a1.lt zdv)
  have zjk : dsa ≠ t_2 := Nat.ne_of_lt (Nat.lt_of_lt_of_le zcz.lt zdv)
  have zkl : dst ≠ t_2 := Nat.ne_of_lt (Nat.lt_of_lt_of_le zda.lt zdv)
  have zjl : iia ≠ t_2 := Nat.ne_of_lt (Nat.lt_of_lt_of_le zct.lt zdv)
  have zkm : iit ≠ t_2 := Nat.ne_of_lt (Nat.lt_of_lt_of_le zcu.lt zdv)
  have zjm : a2 ≠ t_2 := Nat.ne_of_lt (Nat.lt_of_lt_of_le E_a2.lt zdv)
  have zjn : tb ≠ t_2 := Nat.ne_of_lt (Nat.lt_of_lt_of_le V_tb.lt zdv)
  have zgg : b1 ≠ t_2 := Nat.ne_of_lt (Nat.lt_of_lt_of_le E_b1.lt zdv)
  have zgh : n0 ≤ t_2 := Nat.le_trans Zn zdv
  have zdb : h0.size ≤ t_2 := Nat.le_trans K.1 zdv
  replace E_a1 := E_a1.keep Kq2
  replace zfs := zfs.keep Kq2 (ninS zfz nin0)
  replace zba := zba.keep Kq2 (ninS zfz nin0)
  replace zcz := zcz.keep Kq2 (ninS zkh nin0)
  replace zem := zem.keep Kq2 (ninS zkh nin0)
  replace zda := zda.keep Kq2 (ninS zmt nin0)
  replace zen := zen.keep Kq2
  replace zct := zct.keep Kq2 (ninS zki nin0)
  replace zdm := zdm.keep Kq2 (ninS zki nin0)
  replace zcu := zcu.keep Kq2 (ninS zmu nin0)
  replace zdn := zdn.keep Kq2
  replace E_a2 := E_a2.keep Kq2
  replace zdo := zdo.keep Kq2 (ninS zce nin0)
  replace V_tb := V_tb.keep Kq2 (ninS zmv nin0)
  replace X_tb := X_tb.keep Kq2
  replace E_b1 := E_b1.keep Kq2
  replace O := O.keep Kq2 (allS g_b1 all0)
  replace K := K.trans Kq2 (allS (Or.inr zas) all0)
  replace Zn := Nat.le_trans Zn Kq2.1
  refine Go.st st2 ?_
  refine Go.st (fun t k => XS.astoreN X2.here hx rfl (hb hby d50_7) rfl rfl (l' := #[.val (.ref a1), .val (.ref a2), .val (.ref b1)]) rfl (XS.aloadN X2.here hx rfl (hb hby d50_8) rfl rfl (XS.iconst X2.here hx rfl (hb hby d50_9) k))) ?_
  obtain ⟨v3, T3, L3, X3, hQ3, st3⟩ := callVi X2 hx hZ (C := k_4) (y := y_55) (z := y_55) (a := b1) (argsL := [(.int (1 : Int32))]) (rest := []) hown (wk hw 305 rfl) (wk hw 306 rfl) (notFace_of_selects (args := #[]) (mvT hZ (wk hw 308 rfl))) (wk hw 308 rfl) (wk hw 307 rfl) (wk hw 279 rfl) (wk hw 309 rfl) (by decide) rfl E_b1 (rm55 l Z a0 hw [] b1 b_2 t_2 fx_2 h2 n0 Zn E_b1 zaq zaz zbl zdg zgm zmx zgf zgh zbw zge zgg) e2 0 (by decide) (by decide) (by decide) (by decide) (g := (mkF m 10 #[.val (.ref a1), .val (.ref a2), .val (.ref b1)] [(.int (1 : Int32)), (.ref b1)])) rfl (by rw [hml]; rfl) (lenOf pd_42 rfl) rfl (Nat.le_of_eq rfl) (hb hby d50_10)
  obtain ⟨h3, e3⟩ : ∃ z, T3.heap = z := ⟨_, rfl⟩
  rw [e3] at hQ3
  obtain ⟨zgd, fx_3, rfl, Nq3, Kq3, zcj, zcc, zcr, zcs, zdu⟩ := hQ3
  have N3 := Fr.app N2 Nq3
  replace E_a1 := E_a1.keep Kq3
  replace zfs := zfs.keep Kq3 (ninS zjd (ninS zjj nin0))
  replace zba := zba.keep Kq3 (ninS zjd (ninS zjj nin0))
  replace zcz := zcz.keep Kq3 (ninS zje (ninS zjk nin0))
  replace zem := zem.keep Kq3 (ninS zje (ninS zjk nin0))
  replace zda := zda.keep Kq3 (ninS zkj (ninS zkl nin0))
  replace zen := zen.keep Kq3
  replace zct := zct.keep Kq3 (ninS zjf (ninS zjl nin0))
  replace zdm := zdm.keep Kq3 (ninS zjf (ninS zjl nin0))
  replace zcu := zcu.keep Kq3 (ninS zkk (ninS zkm nin0))
  replace zdn := zdn.keep Kq3
  replace E_a2 := E_a2.keep Kq3
  replace zdo := zdo.keep Kq3 (ninS zjg (ninS zjm nin0))
  replace V_tb := V_tb.keep Kq3 (ninS zjh (ninS zjn nin0))
  replace X_tb := X_tb.keep Kq3
  replace E_b1 := E_b1.keep Kq3
  replace zaq := zaq.keep Kq3 (ninS zge (ninS zgg nin0))
  replace zaz := zaz.keep Kq3
  replace O := O.keep Kq3 (allS zgf (allS zgh all0))
  replace K := K.trans Kq3 (allS (Or.inr zji) (allS (Or.inr zdb) all0))
  replace Zn := Nat.le_trans Zn Kq3.1
  refine Go.st st3 ?_
  refine Go.st (fun t k => XS.aloadN X3.here hx rfl (hb hby d50_13) rfl rfl (XS.aloadN X3.here hx rfl (hb hby d50_14) rfl rfl k)) ?_
  obtain ⟨v4, T4, L4, X4, hQ4, st4⟩ := callVi X3 hx hZ (C := k_4) (y := y_58) (z := y_58) (a := b1) (argsL := [(.ref a1)]) (rest := []) hown (wk hw 322 rfl) (wk hw 323 rfl) (notFace_of_selects (args := #[]) (mvT hZ (wk hw 325 rfl))) (wk hw 325 rfl) (wk hw 324 rfl) (wk hw 279 rfl) (wk hw 326 rfl) (by decide) rfl E_b1 (rm58 l Z a0 hw [] b1 a1 b_2 t_2 zgd fx_3 dsa dst dsf iia iit iin iif iic zc sv h3 n0 Zn E_b1 zaq zaz zcj zcc zcr zcs zgf zgh zbw zge zgg ⟨zdu.2.1, by have a0 := zdu; omega, by have a0 := zdu; omega⟩ E_a1 zfs zba zcz zem zda zen zct zdm zcu zdn zjd zjj zje zjk zkj zkl zjf zjl zkk zkm hcd SC hzc O SV hr_sv SA SHi SLo) e3 0 (by decide) (by decide) (by decide) (by decide) (g := (mkF m 15 #[.val (.ref a1), .val (.ref a2), .val (.ref b1)] [(.ref a1), (.ref b1)])) rfl (by rw [hml]; rfl) (lenOf pd_43 rfl) rfl (Nat.le_of_eq rfl) (hb hby d50_15)
  obtain ⟨h4, e4⟩ : ∃ z, T4.heap = z := ⟨_, rfl⟩
  rw [e4] at hQ4
  obtain ⟨zgc, fx_4, rfl, Nq4, Kq4, zaw, zbr, zck, zcl, zcx⟩ := hQ4
  have N4 := Fr.app N3 Nq4
  replace E_a2 := E_a2.keep Kq4
  replace zdo := zdo.keep Kq4 (ninS zjg (ninS zjm nin0))
  replace V_tb := V_tb.keep Kq4 (ninS zjh (ninS zjn nin0))
  replace X_tb := X_tb.keep Kq4
  replace E_b1 := E_b1.keep Kq4
  replace zaq := zaq.keep Kq4 (ninS zge (ninS zgg nin0))
  replace zaz := zaz.keep Kq4
  replace O := O.keep Kq4 (allS zgf (allS zgh all0))
  replace K := K.trans Kq4 (allS (Or.inr zji) (allS (Or.inr zdb) all0))
  replace Zn := Nat.le_trans Zn Kq4.1
  refine Go.st st4 ?_
  refine Go.st (fun t k => XS.aloadN X4.here hx rfl (hb hby d50_18) rfl rfl (XS.aloadN X4.here hx rfl (hb hby d50_19) rfl rfl k)) ?_
  obtain ⟨v5, T5, L5, X5, hQ5, st5⟩ := callVi X4 hx hZ (C := k_4) (y := y_68) (z := y_68) (a := b1) (argsL := [(.ref a2)]) (rest := []) hown (wk hw 369 rfl) (wk hw 370 rfl) (notFace_of_selects (args := #[]) (mvT hZ (wk hw 372 rfl))) (wk hw 372 rfl) (wk hw 371 rfl) (wk hw 279 rfl) (wk hw 373 rfl) (by decide) rfl E_b1 (rm68 l Z a0 hw [] b1 a2 b_2 t_2 zgc fx_4 tb nb fw h4 n0 Zn E_b1 zaq zaz zaw zbr zck zcl zgf zgh zbw zge zgg ⟨zcx.2.2.1, by have a0 := zdu; have a1 := zcx; omega, by have a0 := zdu; have a1 := zcx; omega⟩ E_a2 zdo V_tb X_tb zjg zjm zjh zjn hn) e4 0 (by decide) (by decide) (by decide) (by decide) (g := (mkF m 20 #[.val (.ref a1), .val (.ref a2), .val (.ref b1)] [(.ref a2), (.ref b1)])) rfl (by rw [hml]; rfl) (lenOf pd_44 rfl) rfl (Nat.le_of_eq rfl) (hb hby d50_20)
  obtain ⟨h5, e5⟩ : ∃ z, T5.heap = z := ⟨_, rfl⟩
  rw [e5] at hQ5
  obtain ⟨zfr, fx_5, rfl, Nq5, Kq5, zan, zay, zbj, zbg, zdt⟩ := hQ5
  have N5 := Fr.app N4 Nq5
  replace E_b1 := E_b1.keep Kq5
  replace zaq := zaq.keep Kq5 (ninS zge (ninS zgg nin0))
  replace zaz := zaz.keep Kq5
  replace O := O.keep Kq5 (allS zgf (allS zgh all0))
  replace K := K.trans Kq5 (allS (Or.inr zji) (allS (Or.inr zdb) all0))
  replace Zn := Nat.le_trans Zn Kq5.1
  refine Go.st st5 ?_
  refine Go.st (fun t k => XS.aloadN X5.here hx rfl (hb hby d50_23) rfl rfl k) ?_
  obtain ⟨v6, T6, L6, X6, hQ6, st6⟩ := callVi X5 hx hZ (C := k_4) (y := y_74) (z := y_74) (a := b1) (argsL := []) (rest := []) hown (wk hw 396 rfl) (wk hw 397 rfl) (notFace_of_selects (args := #[]) (mvT hZ (wk hw 399 rfl))) (wk hw 399 rfl) (wk hw 398 rfl) (wk hw 279 rfl) (wk hw 400 rfl) (by decide) rfl E_b1 (rm74 l Z a0 hw [] b1 b_2 t_2 zfr fx_5 h5 n0 Zn E_b1 zaq zaz zan zay zbj zbg ⟨zdt.2.2.1, by have a0 := zdu; have a1 := zcx; have a2 := zdt; omega⟩) e5 0 (by decide) (by decide) (by decide) (by decide) (g := (mkF m 24 #[.val (.ref a1), .val (.ref a2), .val (.ref b1)] [(.ref b1)])) rfl (by rw [hml]; rfl) (lenOf pd_28 rfl) rfl (Nat.le_of_eq rfl) (hb hby d50_24)
  obtain ⟨h6, e6⟩ : ∃ z, T6.heap = z := ⟨_, rfl⟩
  rw [e6] at hQ6
  obtain ⟨t_6, fx_6, rfl, Nq6, Kq6, zmy, zcd, ziw⟩ := hQ6
  have N6 := Fr.app N5 Nq6
  have zhw : h0.size ≤ t_6 := Nat.le_trans K.1 zmy
  replace O := O.keep Kq6 all0
  replace K := K.trans Kq6 all0
  replace Zn := Nat.le_trans Zn Kq6.1
  refine Go.st st6 ?_
  show Go p.tables e below PP (T6.setTop (mkF m 27 #[.val (.ref a1), .val (.ref a2), .val (.ref b1)] [(.ref t_6)]))
  rw [hPP]
  refine endR X6 hx hlk hret rfl rfl (hb hby d50_27) ?_ (by decide) (by decide)
  rw [e6]
  exact ⟨t_6, zfr, fx_6, rfl, N6, K, zhw, zcd, ⟨by rw [Int32.lt_iff_toInt_lt]; have e : (0 : Int32).toInt = 0 := rfl; have a := zdu; have b := zcx; have c_ := zdt; omega, (ziw.trans (zdt.2.2.2.trans (zcx.2.2.2.trans zdu.2.2)))⟩⟩
theorem ef_rm0 (m : MethodId) (p1 : Int32) (p2 : Int32) (p3 : Int32) (p4 : Int32) : entryFrame m #[(.int p1), (.int p2), (.int p3), (.int p4)] maxLocals = mkF m 0 #[.val (.int p1), .val (.int p2), .val (.int p3), .val (.int p4), .unset, .unset, .unset, .unset, .unset, .unset, .unset, .unset, .unset, .unset] [] := by first | (simp [entryFrame, mkF, argsToLocals, Value.category, maxLocals]; done) | rfl
def Q0 (Z : State) (p1 : Int32) (p2 : Int32) (p3 : Int32) (p4 : Int32) (fm : Addr) (pl : Addr) (pa : Addr) (pv : Addr) (fp : Nat → Int32) (co : Addr) (cv : Addr) (fc : Nat → Int32) (zc : Int32) (sv : Value) (h0 : Heap) (n0 : Nat) (v : Option Value) (h : Heap) (L : List Loc) : Prop := v = some (.int 1) ∧ Fr n0 L
theorem pd_45 : parseMethodDescriptor "(II)[B" = some ⟨[.int, .int], some (.array .byte)⟩ := by decide +kernel
theorem pd_46 : parseMethodDescriptor "(C)Ljava/lang/String;" = some ⟨[.char], some (.object "java/lang/String")⟩ := by decide +kernel
theorem pd_47 : parseMethodDescriptor "(Lcom/example/crossname/crossname/access/ItemName;Lcom/example/crossname/crossname/access/Version;)[B" = some ⟨[(.object "com/example/crossname/crossname/access/ItemName"), (.object "com/example/crossname/crossname/access/Version")], some (.array .byte)⟩ := by decide +kernel
theorem pd_48 : parseMethodDescriptor "([B)Z" = some ⟨[(.array .byte)], some .boolean⟩ := by decide +kernel
theorem rm0 (l : Launch) (Z : State) (a0 : Array Value) (hw : HWt Z a0) (ws : List Jvm.Cond) (p1 : Int32) (p2 : Int32) (p3 : Int32) (p4 : Int32) (fm : Addr) (pl : Addr) (pa : Addr) (pv : Addr) (fp : Nat → Int32) (co : Addr) (cv : Addr) (fc : Nat → Int32) (zc : Int32) (sv : Value) (h0 : Heap) (n0 : Nat) (Z0 : n0 ≤ h0.size) (hEL : EW Z a0 consts_1) (FE : Exa Z Z.heap fm k_1) (FL : Fld Z Z.heap fm k_1 "parentLabel" "Ljava/lang/String;" (.ref pl)) (FP : Fld Z Z.heap fm k_1 "parents" "Ljava/lang/String;" (.ref pa)) (FPe : Exa Z Z.heap pa k_14) (FPv : Fld Z Z.heap pa k_14 "value" "[B" (.ref pv)) (FPc : Fld Z Z.heap pa k_14 "coder" "B" (.int (0 : Int32))) (FPa : Afn Z Z.heap pv .byte (11 : Int32) (fun k => .int (fp k))) (FC : Fld Z Z.heap fm k_1 "collection" "Ljava/lang/String;" (.ref co)) (FCe : Exa Z Z.heap co k_14) (FCv : Fld Z Z.heap co k_14 "value" "[B" (.ref cv)) (FCc : Fld Z Z.heap co k_14 "coder" "B" (.int (0 : Int32))) (FCa : Afn Z Z.heap cv .byte (5 : Int32) (fun k => .int (fc k))) (SFm : Sta Z Z.heap "com/example/crossname/crossname/access/ItemName" "FORM" "Lcom/example/crossname/crossname/access/ResourceNameForm;" (.ref fm)) (SC : SS0 Z zc) (hzc : ¬ zc = (0 : Int32)) (O : Old Z n0 h0) (SA : SS2 Z) (SHi : SS3 Z) (SLo : SS4 Z) (SV : SS1 Z sv) (hr_sv : sv.isRef = true) :
    ConH l Z consts_1 x code maxLocals ret ws room_1 #[(.int p1), (.int p2), (.int p3), (.int p4)] h0 (Q0 Z p1 p2 p3 p4 fm pl pa pv fp co cv fc zc sv h0 n0) := by
  refine ConH.of (plainFor_of_name pn_rm1) ?_
  intro p e s m below meth c s₁ vm0 k0 hZ e0 X0 hx hby hml hown hnm hret hlk hS hk CH CR
  replace hml : c.maxLocals = 14 := hml
  have hown : vm0.findClass k_5 = some m.cls := hown
  have N0 : Fr n0 [] := Fr.nil n0
  obtain ⟨PP, hPP⟩ : ∃ P, P = FineW Z consts_1 s below (Q0 Z p1 p2 p3 p4 fm pl pa pv fp co cv fc zc sv h0 n0) room_1.cells room_1.slots := ⟨_, rfl⟩
  rw [← hPP]
  refine Go.cast (ef_rm0 m p1 p2 p3 p4) ?_
  have Zn : n0 ≤ h0.size := Z0
  show Go p.tables e below PP (s₁.setTop (mkF m 0 #[.val (.int p1), .val (.int p2), .val (.int p3), .val (.int p4), .unset, .unset, .unset, .unset, .unset, .unset, .unset, .unset, .unset, .unset] []))
  refine Go.st (fun t k => XS.iloadN X0.here hx rfl (hb hby at_0) rfl (XS.iconst X0.here hx rfl (hb hby at_1) (XS.iand X0.here hx rfl (hb hby at_2) rfl k))) ?_
  show Go p.tables e below PP (s₁.setTop (mkF m 3 #[.val (.int p1), .val (.int p2), .val (.int p3), .val (.int p4), .unset, .unset, .unset, .unset, .unset, .unset, .unset, .unset, .unset, .unset] [(.int (p1 &&& (3 : Int32)))]))
  generalize hn1 : (p1 &&& (3 : Int32)) = nn1
  replace hn1 := own_n4 _ _ hn1
  show Go p.tables e below PP (s₁.setTop (mkF m 3 #[.val (.int p1), .val (.int p2), .val (.int p3), .val (.int p4), .unset, .unset, .unset, .unset, .unset, .unset, .unset, .unset, .unset, .unset] [(.int nn1)]))
  refine Go.st (fun t k => XS.istore X0.here hx rfl (hb hby at_3) rfl (l' := #[.val (.int p1), .val (.int p2), .val (.int p3), .val (.int p4), .val (.int nn1), .unset, .unset, .unset, .unset, .unset, .unset, .unset, .unset, .unset]) rfl (XS.iload X0.here hx rfl (hb hby at_5) rfl (XS.iloadN X0.here hx rfl (hb hby at_7) rfl k))) ?_
  obtain ⟨v1, T1, L1, X1, hQ1, st1⟩ := callSt X0 hx hZ (y := y_1) (argsL := [(.int nn1), (.int p2)]) (rest := []) hown (wk hw 0 rfl) (wk hw 1 rfl) (wk hw 2 rfl) (wk hw 3 rfl) (by decide) (rm1 l Z a0 hw [] nn1 p2 h0 n0 Zn hn1) e0 0 (by decide) (by decide) (by decide) (by decide) (g := (mkF m 8 #[.val (.int p1), .val (.int p2), .val (.int p3), .val (.int p4), .val (.int nn1), .unset, .unset, .unset, .unset, .unset, .unset, .unset, .unset, .unset] [(.int p2), (.int nn1)])) rfl (by rw [hml]; rfl) (lenOf pd_45 rfl) rfl (Nat.le_of_eq rfl) (hb hby at_8)
  obtain ⟨h1, e1⟩ : ∃ z, T1.heap = z := ⟨_, rfl⟩
  rw [e1] at hQ1
  obtain ⟨t_1, rfl, Nq1, Kq1, zbk, zai, zbn⟩ := hQ1
  have N1 := Fr.app N0 Nq1
  have hsf : ∀ x ∈ ([] : List Addr), Safe Z consts_1 vm0 h0 x := sf0
  replace CR := CR.trans (CHr.keep Kq1 hsf CH)
  replace CH := CH.keep Kq1 hsf
  replace hk := Nat.le_trans hk Kq1.1
  clear hsf
  replace O := O.keep Kq1 all0
  replace Zn := Nat.le_trans Zn Kq1.1
  refine Go.st st1 ?_
  refine Go.st (fun t k => XS.astore X1.here hx rfl (hb hby at_11) rfl rfl (l' := #[.val (.int p1), .val (.int p2), .val (.int p3), .val (.int p4), .val (.int nn1), .val (.ref t_1), .unset, .unset, .unset, .unset, .unset, .unset, .unset, .unset]) rfl k) ?_
  show Go p.tables e below PP (T1.setTop (mkF m 13 #[.val (.int p1), .val (.int p2), .val (.int p3), .val (.int p4), .val (.int nn1), .val (.ref t_1), .unset, .unset, .unset, .unset, .unset, .unset, .unset, .unset] []))
  have J49 : ∀ (T2 : State) (L2 : List Loc) (ex : Int32), Stand p l e room_1 (s.setVm vm0) m #[(.int p1), (.int p2), (.int p3), (.int p4)] below meth c T2 L2 1 3 → T2.heap = h1 → Fr n0 L2 → True → Go p.tables e below PP (T2.setTop (mkF m 49 #[.val (.int p1), .val (.int p2), .val (.int p3), .val (.int p4), .val (.int nn1), .val (.ref t_1), .val (.int ex), .unset, .unset, .unset, .unset, .unset, .unset, .unset] [(.int (1 : Int32))])) := by
    intro T2 L2 ex X2 e2 N2 hJ49
    show Go p.tables e below PP (T2.setTop (mkF m 49 #[.val (.int p1), .val (.int p2), .val (.int p3), .val (.int p4), .val (.int nn1), .val (.ref t_1), .val (.int ex), .unset, .unset, .unset, .unset, .unset, .unset, .unset] [(.int (1 : Int32))]))
    refine Go.st (fun t k => XS.istore X2.here hx rfl (hb hby at_49) rfl (l' := #[.val (.int p1), .val (.int p2), .val (.int p3), .val (.int p4), .val (.int nn1), .val (.ref t_1), .val (.int ex), .val (.int (1 : Int32)), .unset, .unset, .unset, .unset, .unset, .unset]) rfl (XS.bipush X2.here hx rfl (hb hby at_51) (XS.iloadN X2.here hx rfl (hb hby at_53) rfl (XS.bipush X2.here hx rfl (hb hby at_54) (XS.iand X2.here hx rfl (hb hby at_56) rfl (XS.iadd X2.here hx rfl (hb hby at_57) rfl (XS.i2c X2.here hx rfl (hb hby at_58) rfl k))))))) ?_
    show Go p.tables e below PP (T2.setTop (mkF m 59 #[.val (.int p1), .val (.int p2), .val (.int p3), .val (.int p4), .val (.int nn1), .val (.ref t_1), .val (.int ex), .val (.int (1 : Int32)), .unset, .unset, .unset, .unset, .unset, .unset] [(.int (((97 : Int32) + (p3 &&& (15 : Int32))).toUInt32.toUInt16.toUInt32.toInt32))]))
    generalize hds1 : (((97 : Int32) + (p3 &&& (15 : Int32))).toUInt32.toUInt16.toUInt32.toInt32) = cds
    replace hds1 := own_ds1 _ _ hds1
    show Go p.tables e below PP (T2.setTop (mkF m 59 #[.val (.int p1), .val (.int p2), .val (.int p3), .val (.int p4), .val (.int nn1), .val (.ref t_1), .val (.int ex), .val (.int (1 : Int32)), .unset, .unset, .unset, .unset, .unset, .unset] [(.int cds)]))
    refine Go.st (fun t k => XS.istore X2.here hx rfl (hb hby at_59) rfl (l' := #[.val (.int p1), .val (.int p2), .val (.int p3), .val (.int p4), .val (.int nn1), .val (.ref t_1), .val (.int ex), .val (.int (1 : Int32)), .val (.int cds), .unset, .unset, .unset, .unset, .unset]) rfl (XS.iloadN X2.here hx rfl (hb hby at_61) rfl (XS.bipush X2.here hx rfl (hb hby at_62) (XS.iushr X2.here hx rfl (hb hby at_64) rfl (XS.i2c X2.here hx rfl (hb hby at_65) rfl k))))) ?_
    show Go p.tables e below PP (T2.setTop (mkF m 66 #[.val (.int p1), .val (.int p2), .val (.int p3), .val (.int p4), .val (.int nn1), .val (.ref t_1), .val (.int ex), .val (.int (1 : Int32)), .val (.int cds), .unset, .unset, .unset, .unset, .unset] [(.int (((p3.toUInt32 >>> ((16 : Int32) &&& 31).toUInt32).toInt32).toUInt32.toUInt16.toUInt32.toInt32))]))
    generalize hcid : (((p3.toUInt32 >>> ((16 : Int32) &&& 31).toUInt32).toInt32).toUInt32.toUInt16.toUInt32.toInt32) = cid
    show Go p.tables e below PP (T2.setTop (mkF m 66 #[.val (.int p1), .val (.int p2), .val (.int p3), .val (.int p4), .val (.int nn1), .val (.ref t_1), .val (.int ex), .val (.int (1 : Int32)), .val (.int cds), .unset, .unset, .unset, .unset, .unset] [(.int cid)]))
    refine Go.st (fun t k => XS.istore X2.here hx rfl (hb hby at_66) rfl (l' := #[.val (.int p1), .val (.int p2), .val (.int p3), .val (.int p4), .val (.int nn1), .val (.ref t_1), .val (.int ex), .val (.int (1 : Int32)), .val (.int cds), .val (.int cid), .unset, .unset, .unset, .unset]) rfl k) ?_
    obtain ⟨T3, h3, X3, e3, E3, A3, D3, U3, st3⟩ := newO X2 hx hZ hown (wk hw 9 rfl) (wk hw 10 rfl) (wk hw 11 rfl) e2 (g := (mkF m 68 #[.val (.int p1), .val (.int p2), .val (.int p3), .val (.int p4), .val (.int nn1), .val (.ref t_1), .val (.int ex), .val (.int (1 : Int32)), .val (.int cds), .val (.int cid), .unset, .unset, .unset, .unset] [])) rfl (hb hby at_68) (by decide) (by decide)
    obtain ⟨b3, gz3⟩ : ∃ z, z = h1.size := ⟨_, rfl⟩
    rw [← gz3] at A3 D3 U3 st3
    have zkn : t_1 ≠ b3 := Nat.ne_of_lt (Nat.lt_of_lt_of_le zai.lt (Nat.le_of_eq gz3.symm))
    have g_b3 : n0 ≤ b3 := Nat.le_trans Zn (Nat.le_of_eq gz3.symm)
    refine Go.st st3 ?_
    replace zai := zai.ext E3
    replace CR := CR.trans (CHr.ext E3 CH)
    replace CH := CH.ext E3
    replace hk := Nat.le_trans hk E3.1
    replace O := O.ext E3
    replace Zn := Nat.le_trans Zn E3.1
    have E_b3 := A3
    have zer : Fld Z h3 b3 k_0 "dataSource" "Ljava/lang/String;" .null := D3 (Or.inr (wk hw 251 rfl)) (ty := (.object "java/lang/String")) (by decide)
    have zes : Fld Z h3 b3 k_0 "id" "Ljava/lang/String;" .null := D3 (Or.inr (wk hw 253 rfl)) (ty := (.object "java/lang/String")) (by decide)
    refine Go.st (fun t k => XS.dup X3.here hx rfl (hb hby at_71) rfl rfl (XS.iload X3.here hx rfl (hb hby at_72) rfl k)) ?_
    obtain ⟨v4, T4, L4, X4, hQ4, st4⟩ := callSt X3 hx hZ (y := y_3) (argsL := [(.int cds)]) (rest := [(.ref b3), (.ref b3)]) hown (wk hw 12 rfl) (wk hw 13 rfl) (wk hw 14 rfl) (wk hw 15 rfl) (by decide) (rm3 l Z a0 hw [] cds zc h3 n0 Zn SC hzc O hds1.1) e3 2 (by decide) (by decide) (by decide) (by decide) (g := (mkF m 74 #[.val (.int p1), .val (.int p2), .val (.int p3), .val (.int p4), .val (.int nn1), .val (.ref t_1), .val (.int ex), .val (.int (1 : Int32)), .val (.int cds), .val (.int cid), .unset, .unset, .unset, .unset] [(.int cds), (.ref b3), (.ref b3)])) rfl (by rw [hml]; rfl) (lenOf pd_46 rfl) rfl (Nat.le_of_eq rfl) (hb hby at_74)
    obtain ⟨h4, e4⟩ : ∃ z, T4.heap = z := ⟨_, rfl⟩
    rw [e4] at hQ4
    obtain ⟨r_4, t_4, rfl, Nq4, Kq4, sq4_r, sq4_t, zaw, zbr, zck, zcl⟩ := hQ4
    have N4 := Fr.app N2 Nq4
    have zgi : b3 ≠ r_4 := Nat.ne_of_lt (Nat.lt_of_lt_of_le E_b3.lt sq4_r)
    have zeo : b3 ≠ t_4 := Nat.ne_of_lt (Nat.lt_of_lt_of_le E_b3.lt sq4_t)
    have hsf : ∀ x ∈ ([] : List Addr), Safe Z consts_1 vm0 h3 x := sf0
    replace CR := CR.trans (CHr.keep Kq4 hsf CH)
    replace CH := CH.keep Kq4 hsf
    replace hk := Nat.le_trans hk Kq4.1
    clear hsf
    replace zai := zai.keep Kq4 nin0
    replace E_b3 := E_b3.keep Kq4
    replace zer := zer.keep Kq4 nin0
    replace zes := zes.keep Kq4 nin0
    replace O := O.keep Kq4 all0
    replace Zn := Nat.le_trans Zn Kq4.1
    have zbc := zaw
    have zbe := zbr
    have zbf := zck
    have zat := zcl
    refine Go.st st4 ?_
    refine Go.st (fun t k => XS.iload X4.here hx rfl (hb hby at_77) rfl k) ?_
    show Go p.tables e below PP (T4.setTop (mkF m 79 #[.val (.int p1), .val (.int p2), .val (.int p3), .val (.int p4), .val (.int nn1), .val (.ref t_1), .val (.int ex), .val (.int (1 : Int32)), .val (.int cds), .val (.int cid), .unset, .unset, .unset, .unset] [(.int cid), (.ref r_4), (.ref b3), (.ref b3)]))
    by_cases hid : (255 : Int32) < cid
    · --
      show Go p.tables e below PP (T4.setTop (mkF m 79 #[.val (.int p1), .val (.int p2), .val (.int p3), .val (.int p4), .val (.int nn1), .val (.ref t_1), .val (.int ex), .val (.int (1 : Int32)), .val (.int cds), .val (.int cid), .unset, .unset, .unset, .unset] [(.int cid), (.ref r_4), (.ref b3), (.ref b3)]))
      obtain ⟨v5, T5, L5, X5, hQ5, st5⟩ := callSt X4 hx hZ (y := y_3) (argsL := [(.int cid)]) (rest := [(.ref r_4), (.ref b3), (.ref b3)]) hown (wk hw 12 rfl) (wk hw 13 rfl) (wk hw 14 rfl) (wk hw 15 rfl) (by decide) (rm3u l Z a0 hw [] cid zc h4 n0 Zn SC hzc O SA SHi SLo hid) e4 3 (by decide) (by decide) (by decide) (by decide) (g := (mkF m 79 #[.val (.int p1), .val (.int p2), .val (.int p3), .val (.int p4), .val (.int nn1), .val (.ref t_1), .val (.int ex), .val (.int (1 : Int32)), .val (.int cds), .val (.int cid), .unset, .unset, .unset, .unset] [(.int cid), (.ref r_4), (.ref b3), (.ref b3)])) rfl (by rw [hml]; rfl) (lenOf pd_46 rfl) rfl (Nat.le_of_eq rfl) (hb hby at_79)
      obtain ⟨h5, e5⟩ : ∃ z, T5.heap = z := ⟨_, rfl⟩
      rw [e5] at hQ5
      obtain ⟨r_5, t_5, fx_5, rfl, Nq5, Kq5, zfx, zit, zan, zay, zbj, zbg⟩ := hQ5
      have N5 := Fr.app N4 Nq5
      have zjo : b3 ≠ r_5 := Nat.ne_of_lt (Nat.lt_of_lt_of_le E_b3.lt zfx)
      have zko : b3 ≠ t_5 := Nat.ne_of_lt (Nat.lt_of_lt_of_le E_b3.lt zit)
      have hsf : ∀ x ∈ ([] : List Addr), Safe Z consts_1 vm0 h4 x := sf0
      replace CR := CR.trans (CHr.keep Kq5 hsf CH)
      replace CH := CH.keep Kq5 hsf
      replace hk := Nat.le_trans hk Kq5.1
      clear hsf
      replace zai := zai.keep Kq5 nin0
      replace E_b3 := E_b3.keep Kq5
      replace zer := zer.keep Kq5 nin0
      replace zes := zes.keep Kq5 nin0
      replace zbc := zbc.keep Kq5
      replace zbe := zbe.keep Kq5 nin0
      replace zbf := zbf.keep Kq5 nin0
      replace zat := zat.keep Kq5 nin0
      replace O := O.keep Kq5 all0
      replace Zn := Nat.le_trans Zn Kq5.1
      refine Go.st st5 ?_
      have hZ0 := hZ
      have hown0 := hown
      clear hZ hown
      obtain ⟨v6, T6, L6, X6, hQ6, hC6, hSn6, hZ, hown, st6⟩ := callInW X5 hx hZ0 (y := y_8) (a := b3) (argsL := [(.ref r_4), (.ref r_5)]) (rest := [(.ref b3)]) rfl hown0 (wk hw 37 rfl) (wk hw 38 rfl) (wk hw 11 rfl) (wk hw 39 rfl) (by decide) (rm8u l Z a0 hw [] b3 r_4 r_5 fm pl pa pv fp co cv fc t_4 (fun k => (csL [cds] k).toInt8.toInt32) t_5 fx_5 zc sv h5 n0 Zn hEL E_b3 zer zes zbf zbe zat zbc zbj zay zbg zan g_b3 zgi zjo zeo zko hds1.2 FE FL FP FPe FPv FPc FPa FC FCe FCv FCc FCa SFm SC hzc O SA SHi SLo SV hr_sv) e5 hEL CH hS hk 1 (by decide) (by decide) (by decide) (by decide) (g := (mkF m 82 #[.val (.int p1), .val (.int p2), .val (.int p3), .val (.int p4), .val (.int nn1), .val (.ref t_1), .val (.int ex), .val (.int (1 : Int32)), .val (.int cds), .val (.int cid), .unset, .unset, .unset, .unset] [(.ref r_5), (.ref r_4), (.ref b3), (.ref b3)])) rfl (by rw [hml]; rfl) (lenOf pd_36 rfl) rfl (Nat.le_of_eq rfl) (hb hby at_82)
      clear hZ0 hown0
      replace hS := hSn6
      obtain ⟨h6, e6⟩ : ∃ z, T6.heap = z := ⟨_, rfl⟩
      rw [e6] at hQ6 hC6
      replace CR := CR.trans hC6
      replace CH := hC6.1
      replace hk : T6.heap.size ≤ h6.size := by rw [e6]; exact Nat.le_refl _
      obtain ⟨rfl, Nq6, Kq6, zcd, zch⟩ := hQ6
      have N6 := Fr.app N5 Nq6
      replace zai := zai.keep Kq6 (ninS zkn nin0)
      replace E_b3 := E_b3.keep Kq6
      replace zbc := zbc.keep Kq6
      replace zbe := zbe.keep Kq6 (ninS (Ne.symm zgi) nin0)
      replace zbf := zbf.keep Kq6 (ninS (Ne.symm zgi) nin0)
      replace zat := zat.keep Kq6 (ninS (Ne.symm zeo) nin0)
      replace zan := zan.keep Kq6
      replace zay := zay.keep Kq6 (ninS (Ne.symm zjo) nin0)
      replace zbj := zbj.keep Kq6 (ninS (Ne.symm zjo) nin0)
      replace zbg := zbg.keep Kq6 (ninS (Ne.symm zko) nin0)
      replace O := O.keep Kq6 (allS g_b3 all0)
      replace Zn := Nat.le_trans Zn Kq6.1
      refine Go.st st6 ?_
      refine Go.st (fun t k => XS.astore X6.here hx rfl (hb hby at_85) rfl rfl (l' := #[.val (.int p1), .val (.int p2), .val (.int p3), .val (.int p4), .val (.int nn1), .val (.ref t_1), .val (.int ex), .val (.int (1 : Int32)), .val (.int cds), .val (.int cid), .val (.ref b3), .unset, .unset, .unset]) rfl k) ?_
      obtain ⟨T7, h7, X7, e7, E7, A7, D7, U7, st7⟩ := newO X6 hx hZ hown (wk hw 254 rfl) (wk hw 255 rfl) (wk hw 256 rfl) e6 (g := (mkF m 87 #[.val (.int p1), .val (.int p2), .val (.int p3), .val (.int p4), .val (.int nn1), .val (.ref t_1), .val (.int ex), .val (.int (1 : Int32)), .val (.int cds), .val (.int cid), .val (.ref b3), .unset, .unset, .unset] [])) rfl (hb hby at_87) (by decide) (by decide)
      obtain ⟨b7, gz7⟩ : ∃ z, z = h6.size := ⟨_, rfl⟩
      rw [← gz7] at A7 D7 U7 st7
      have zmz : t_1 ≠ b7 := Nat.ne_of_lt (Nat.lt_of_lt_of_le zai.lt (Nat.le_of_eq gz7.symm))
      have zkp : b3 ≠ b7 := Nat.ne_of_lt (Nat.lt_of_lt_of_le E_b3.lt (Nat.le_of_eq gz7.symm))
      have zkq : r_4 ≠ b7 := Nat.ne_of_lt (Nat.lt_of_lt_of_le zbc.lt (Nat.le_of_eq gz7.symm))
      have zna : t_4 ≠ b7 := Nat.ne_of_lt (Nat.lt_of_lt_of_le zat.lt (Nat.le_of_eq gz7.symm))
      have zkr : r_5 ≠ b7 := Nat.ne_of_lt (Nat.lt_of_lt_of_le zan.lt (Nat.le_of_eq gz7.symm))
      have znb : t_5 ≠ b7 := Nat.ne_of_lt (Nat.lt_of_lt_of_le zbg.lt (Nat.le_of_eq gz7.symm))
      have g_b7 : n0 ≤ b7 := Nat.le_trans Zn (Nat.le_of_eq gz7.symm)
      refine Go.st st7 ?_
      replace zai := zai.ext E7
      replace E_b3 := E_b3.ext E7
      replace zbc := zbc.ext E7
      replace zbe := zbe.ext E7
      replace zbf := zbf.ext E7
      replace zat := zat.ext E7
      replace zan := zan.ext E7
      replace zay := zay.ext E7
      replace zbj := zbj.ext E7
      replace zbg := zbg.ext E7
      replace zcd := zcd.ext E7
      replace zch := zch.ext E7
      replace CR := CR.trans (CHr.ext E7 CH)
      replace CH := CH.ext E7
      replace hk := Nat.le_trans hk E7.1
      replace O := O.ext E7
      replace Zn := Nat.le_trans Zn E7.1
      have E_b7 := A7
      have zjp : Fld Z h7 b7 k_2 "bytes" "[B" .null := D7 (Or.inr (wk hw 273 rfl)) (ty := (.array .byte)) (by decide)
      refine Go.st (fun t k => XS.dup X7.here hx rfl (hb hby at_90) rfl rfl (XS.iloadN X7.here hx rfl (hb hby at_91) rfl (XS.iconst X7.here hx rfl (hb hby at_92) (XS.iushr X7.here hx rfl (hb hby at_93) rfl (XS.iconst X7.here hx rfl (hb hby at_94) (XS.iand X7.here hx rfl (hb hby at_95) rfl k)))))) ?_
      show Go p.tables e below PP (T7.setTop (mkF m 96 #[.val (.int p1), .val (.int p2), .val (.int p3), .val (.int p4), .val (.int nn1), .val (.ref t_1), .val (.int ex), .val (.int (1 : Int32)), .val (.int cds), .val (.int cid), .val (.ref b3), .unset, .unset, .unset] [(.int (((p3.toUInt32 >>> ((4 : Int32) &&& 31).toUInt32).toInt32) &&& (3 : Int32))), (.ref b7), (.ref b7)]))
      generalize hn2 : (((p3.toUInt32 >>> ((4 : Int32) &&& 31).toUInt32).toInt32) &&& (3 : Int32)) = nn2
      replace hn2 := own_n4 _ _ hn2
      show Go p.tables e below PP (T7.setTop (mkF m 96 #[.val (.int p1), .val (.int p2), .val (.int p3), .val (.int p4), .val (.int nn1), .val (.ref t_1), .val (.int ex), .val (.int (1 : Int32)), .val (.int cds), .val (.int cid), .val (.ref b3), .unset, .unset, .unset] [(.int nn2), (.ref b7), (.ref b7)]))
      refine Go.st (fun t k => XS.iloadN X7.here hx rfl (hb hby at_96) rfl k) ?_
      obtain ⟨v8, T8, L8, X8, hQ8, st8⟩ := callSt X7 hx hZ (y := y_1) (argsL := [(.int nn2), (.int p4)]) (rest := [(.ref b7), (.ref b7)]) hown (wk hw 0 rfl) (wk hw 1 rfl) (wk hw 2 rfl) (wk hw 3 rfl) (by decide) (rm1 l Z a0 hw [] nn2 p4 h7 n0 Zn hn2) e7 2 (by decide) (by decide) (by decide) (by decide) (g := (mkF m 97 #[.val (.int p1), .val (.int p2), .val (.int p3), .val (.int p4), .val (.int nn1), .val (.ref t_1), .val (.int ex), .val (.int (1 : Int32)), .val (.int cds), .val (.int cid), .val (.ref b3), .unset, .unset, .unset] [(.int p4), (.int nn2), (.ref b7), (.ref b7)])) rfl (by rw [hml]; rfl) (lenOf pd_45 rfl) rfl (Nat.le_of_eq rfl) (hb hby at_97)
      obtain ⟨h8, e8⟩ : ∃ z, T8.heap = z := ⟨_, rfl⟩
      rw [e8] at hQ8
      obtain ⟨t_8, rfl, Nq8, Kq8, znc, zhz, znd⟩ := hQ8
      have N8 := Fr.app N6 Nq8
      have zne : b7 ≠ t_8 := Nat.ne_of_lt (Nat.lt_of_lt_of_le E_b7.lt znc)
      have hsf : ∀ x ∈ ([] : List Addr), Safe Z consts_1 T6.vm h7 x := sf0
      replace CR := CR.trans (CHr.keep Kq8 hsf CH)
      replace CH := CH.keep Kq8 hsf
      replace hk := Nat.le_trans hk Kq8.1
      clear hsf
      replace zai := zai.keep Kq8 nin0
      replace E_b3 := E_b3.keep Kq8
      replace zbc := zbc.keep Kq8
      replace zbe := zbe.keep Kq8 nin0
      replace zbf := zbf.keep Kq8 nin0
      replace zat := zat.keep Kq8 nin0
      replace zan := zan.keep Kq8
      replace zay := zay.keep Kq8 nin0
      replace zbj := zbj.keep Kq8 nin0
      replace zbg := zbg.keep Kq8 nin0
      replace zcd := zcd.keep Kq8 nin0
      replace zch := zch.keep Kq8 nin0
      replace E_b7 := E_b7.keep Kq8
      replace zjp := zjp.keep Kq8 nin0
      replace O := O.keep Kq8 all0
      replace Zn := Nat.le_trans Zn Kq8.1
      refine Go.st st8 ?_
      have hZ0 := hZ
      have hown0 := hown
      clear hZ hown
      obtain ⟨v9, T9, L9, X9, hQ9, hC9, hSn9, hZ, hown, st9⟩ := callInW X8 hx hZ0 (y := y_49) (a := b7) (argsL := [(.ref t_8)]) (rest := [(.ref b7)]) rfl hown0 (wk hw 257 rfl) (wk hw 258 rfl) (wk hw 256 rfl) (wk hw 259 rfl) (by decide) (rm49 l Z a0 hw [] b7 t_8 nn2 (fun k => by3 p4 k) h8 n0 Zn hEL E_b7 zjp zhz znd g_b7 zne hn2 O) e8 hEL CH hS hk 1 (by decide) (by decide) (by decide) (by decide) (g := (mkF m 100 #[.val (.int p1), .val (.int p2), .val (.int p3), .val (.int p4), .val (.int nn1), .val (.ref t_1), .val (.int ex), .val (.int (1 : Int32)), .val (.int cds), .val (.int cid), .val (.ref b3), .unset, .unset, .unset] [(.ref t_8), (.ref b7), (.ref b7)])) rfl (by rw [hml]; rfl) (lenOf pd_41 rfl) rfl (Nat.le_of_eq rfl) (hb hby at_100)
      clear hZ0 hown0
      replace hS := hSn9
      obtain ⟨h9, e9⟩ : ∃ z, T9.heap = z := ⟨_, rfl⟩
      rw [e9] at hQ9 hC9
      replace CR := CR.trans hC9
      replace CH := hC9.1
      replace hk : T9.heap.size ≤ h9.size := by rw [e9]; exact Nat.le_refl _
      obtain ⟨t_9, rfl, Nq9, Kq9, zns, zfi, zdk, zfj⟩ := hQ9
      have N9 := Fr.app N8 Nq9
      replace zai := zai.keep Kq9 (ninS zmz nin0)
      replace E_b3 := E_b3.keep Kq9
      replace zbc := zbc.keep Kq9
      replace zbe := zbe.keep Kq9 (ninS zkq nin0)
      replace zbf := zbf.keep Kq9 (ninS zkq nin0)
      replace zat := zat.keep Kq9 (ninS zna nin0)
      replace zan := zan.keep Kq9
      replace zay := zay.keep Kq9 (ninS zkr nin0)
      replace zbj := zbj.keep Kq9 (ninS zkr nin0)
      replace zbg := zbg.keep Kq9 (ninS znb nin0)
      replace zcd := zcd.keep Kq9 (ninS zkp nin0)
      replace zch := zch.keep Kq9 (ninS zkp nin0)
      replace E_b7 := E_b7.keep Kq9
      replace O := O.keep Kq9 (allS g_b7 all0)
      replace Zn := Nat.le_trans Zn Kq9.1
      refine Go.st st9 ?_
      refine Go.st (fun t k => XS.astore X9.here hx rfl (hb hby at_103) rfl rfl (l' := #[.val (.int p1), .val (.int p2), .val (.int p3), .val (.int p4), .val (.int nn1), .val (.ref t_1), .val (.int ex), .val (.int (1 : Int32)), .val (.int cds), .val (.int cid), .val (.ref b3), .val (.ref b7), .unset, .unset]) rfl (XS.aload X9.here hx rfl (hb hby at_105) rfl rfl (XS.aload X9.here hx rfl (hb hby at_107) rfl rfl k))) ?_
      obtain ⟨v10, T10, L10, X10, hQ10, st10⟩ := callSt X9 hx hZ (y := y_50) (argsL := [(.ref b3), (.ref b7)]) (rest := []) hown (wk hw 274 rfl) (wk hw 275 rfl) (wk hw 7 rfl) (wk hw 276 rfl) (by decide) (rm50 l Z a0 hw [] b3 b7 r_4 t_4 (fun k => (csL [cds] k).toInt8.toInt32) r_5 t_5 (2 : Int32) fx_5 (1 : Int32) t_9 nn2 (fun k => (fun k => by3 p4 k) k) zc sv h9 n0 Zn E_b3 zcd zch zbf zbe zat zbc zbj zay zbg zan E_b7 zfi zdk zfj hn2 (Or.inr ⟨rfl, rfl⟩) SC hzc O SV hr_sv SA SHi SLo) e9 0 (by decide) (by decide) (by decide) (by decide) (g := (mkF m 109 #[.val (.int p1), .val (.int p2), .val (.int p3), .val (.int p4), .val (.int nn1), .val (.ref t_1), .val (.int ex), .val (.int (1 : Int32)), .val (.int cds), .val (.int cid), .val (.ref b3), .val (.ref b7), .unset, .unset] [(.ref b7), (.ref b3)])) rfl (by rw [hml]; rfl) (lenOf pd_47 rfl) rfl (Nat.le_of_eq rfl) (hb hby at_109)
      obtain ⟨h10, e10⟩ : ∃ z, T10.heap = z := ⟨_, rfl⟩
      rw [e10] at hQ10
      obtain ⟨t_10, zhd, zhe, rfl, Nq10, Kq10, znt, znf, zks⟩ := hQ10
      have N10 := Fr.app N9 Nq10
      have hsf : ∀ x ∈ ([] : List Addr), Safe Z consts_1 T9.vm h9 x := sf0
      replace CR := CR.trans (CHr.keep Kq10 hsf CH)
      replace CH := CH.keep Kq10 hsf
      replace hk := Nat.le_trans hk Kq10.1
      clear hsf
      replace zai := zai.keep Kq10 nin0
      replace E_b3 := E_b3.keep Kq10
      replace zbc := zbc.keep Kq10
      replace zbe := zbe.keep Kq10 nin0
      replace zbf := zbf.keep Kq10 nin0
      replace zat := zat.keep Kq10 nin0
      replace O := O.keep Kq10 all0
      replace Zn := Nat.le_trans Zn Kq10.1
      refine Go.st st10 ?_
      refine Go.st (fun t k => XS.astore X10.here hx rfl (hb hby at_112) rfl rfl (l' := #[.val (.int p1), .val (.int p2), .val (.int p3), .val (.int p4), .val (.int nn1), .val (.ref t_1), .val (.int ex), .val (.int (1 : Int32)), .val (.int cds), .val (.int cid), .val (.ref b3), .val (.ref b7), .val (.ref t_10), .unset]) rfl (XS.aload X10.here hx rfl (hb hby at_114) rfl rfl k)) ?_
      obtain ⟨v11, T11, L11, X11, hQ11, st11⟩ := callSt X10 hx hZ (y := y_2) (argsL := [(.ref t_10)]) (rest := []) hown (wk hw 5 rfl) (wk hw 6 rfl) (wk hw 7 rfl) (wk hw 8 rfl) (by decide) (rm2 l Z a0 hw [] t_10 zhd zhe h10 n0 Zn znf) e10 0 (by decide) (by decide) (by decide) (by decide) (g := (mkF m 116 #[.val (.int p1), .val (.int p2), .val (.int p3), .val (.int p4), .val (.int nn1), .val (.ref t_1), .val (.int ex), .val (.int (1 : Int32)), .val (.int cds), .val (.int cid), .val (.ref b3), .val (.ref b7), .val (.ref t_10), .unset] [(.ref t_10)])) rfl (by rw [hml]; rfl) (lenOf pd_48 rfl) rfl (Nat.le_of_eq rfl) (hb hby at_116)
      obtain ⟨rfl, rfl, e11⟩ := hQ11
      rw [List.append_nil] at X11
      refine Go.st st11 ?_
      refine Go.st (fun t k => XS.istore X11.here hx rfl (hb hby at_119) rfl (l' := #[.val (.int p1), .val (.int p2), .val (.int p3), .val (.int p4), .val (.int nn1), .val (.ref t_1), .val (.int ex), .val (.int (1 : Int32)), .val (.int cds), .val (.int cid), .val (.ref b3), .val (.ref b7), .val (.ref t_10), .val (.int (bi ((0 : Int32) < zhd ∧ zhe (0 : Int32).toNatClampNeg = (1 : Int32))))]) rfl (XS.iload X11.here hx rfl (hb hby at_121) rfl (XS.ifNo X11.here hx rfl (hb hby at_123) rfl (XT.i0_eq_f (by decide)) (XS.iload X11.here hx rfl (hb hby at_126) rfl k)))) ?_
      show Go p.tables e below PP (T11.setTop (mkF m 128 #[.val (.int p1), .val (.int p2), .val (.int p3), .val (.int p4), .val (.int nn1), .val (.ref t_1), .val (.int ex), .val (.int (1 : Int32)), .val (.int cds), .val (.int cid), .val (.ref b3), .val (.ref b7), .val (.ref t_10), .val (.int (bi ((0 : Int32) < zhd ∧ zhe (0 : Int32).toNatClampNeg = (1 : Int32))))] [(.int (bi ((0 : Int32) < zhd ∧ zhe (0 : Int32).toNatClampNeg = (1 : Int32))))]))
      refine Go.st (fun t k => XS.ifNo X11.here hx rfl (hb hby at_128) rfl (XT.i0_eq_f (by rw [bi_t ⟨zks.1, zks.2⟩]; decide)) (XS.iconst X11.here hx rfl (hb hby at_131) (XS.goto X11.here hx rfl (pc0 := 132) (pc' := 136) rfl (hb hby at_132) (by decide) (by decide) k))) ?_
      show Go p.tables e below PP (T11.setTop (mkF m 136 #[.val (.int p1), .val (.int p2), .val (.int p3), .val (.int p4), .val (.int nn1), .val (.ref t_1), .val (.int ex), .val (.int (1 : Int32)), .val (.int cds), .val (.int cid), .val (.ref b3), .val (.ref b7), .val (.ref t_10), .val (.int (bi ((0 : Int32) < zhd ∧ zhe (0 : Int32).toNatClampNeg = (1 : Int32))))] [(.int (1 : Int32))]))
      rw [hPP]
      refine endNW X11 hx hlk hZ hS e11 hk hEL CH CR (t := .boolean) hret (by simp) (hb hby at_136) (w := (1 : Int32)) (rfl) ?_ (by decide) (by decide)
      show Q0 Z p1 p2 p3 p4 fm pl pa pv fp co cv fc zc sv h0 n0 (some (.int (1 : Int32))) T11.heap _
      rw [e11]
      exact ⟨rfl, N10⟩
    · --
      show Go p.tables e below PP (T4.setTop (mkF m 79 #[.val (.int p1), .val (.int p2), .val (.int p3), .val (.int p4), .val (.int nn1), .val (.ref t_1), .val (.int ex), .val (.int (1 : Int32)), .val (.int cds), .val (.int cid), .unset, .unset, .unset, .unset] [(.int cid), (.ref r_4), (.ref b3), (.ref b3)]))
      obtain ⟨v12, T12, L12, X12, hQ12, st12⟩ := callSt X4 hx hZ (y := y_3) (argsL := [(.int cid)]) (rest := [(.ref r_4), (.ref b3), (.ref b3)]) hown (wk hw 12 rfl) (wk hw 13 rfl) (wk hw 14 rfl) (wk hw 15 rfl) (by decide) (rm3 l Z a0 hw [] cid zc h4 n0 Zn SC hzc O hid) e4 3 (by decide) (by decide) (by decide) (by decide) (g := (mkF m 79 #[.val (.int p1), .val (.int p2), .val (.int p3), .val (.int p4), .val (.int nn1), .val (.ref t_1), .val (.int ex), .val (.int (1 : Int32)), .val (.int cds), .val (.int cid), .unset, .unset, .unset, .unset] [(.int cid), (.ref r_4), (.ref b3), (.ref b3)])) rfl (by rw [hml]; rfl) (lenOf pd_46 rfl) rfl (Nat.le_of_eq rfl) (hb hby at_79)
      obtain ⟨h12, e12⟩ : ∃ z, T12.heap = z := ⟨_, rfl⟩
      rw [e12] at hQ12
      obtain ⟨r_12, t_12, rfl, Nq12, Kq12, sq12_r, sq12_t, zng, znh, zni, znj⟩ := hQ12
      have N12 := Fr.app N4 Nq12
      have zjq : b3 ≠ r_12 := Nat.ne_of_lt (Nat.lt_of_lt_of_le E_b3.lt sq12_r)
      have zkt : b3 ≠ t_12 := Nat.ne_of_lt (Nat.lt_of_lt_of_le E_b3.lt sq12_t)
      have hsf : ∀ x ∈ ([] : List Addr), Safe Z consts_1 vm0 h4 x := sf0
      replace CR := CR.trans (CHr.keep Kq12 hsf CH)
      replace CH := CH.keep Kq12 hsf
      replace hk := Nat.le_trans hk Kq12.1
      clear hsf
      replace zai := zai.keep Kq12 nin0
      replace E_b3 := E_b3.keep Kq12
      replace zer := zer.keep Kq12 nin0
      replace zes := zes.keep Kq12 nin0
      replace zbc := zbc.keep Kq12
      replace zbe := zbe.keep Kq12 nin0
      replace zbf := zbf.keep Kq12 nin0
      replace zat := zat.keep Kq12 nin0
      replace O := O.keep Kq12 all0
      replace Zn := Nat.le_trans Zn Kq12.1
      have zdp := zng
      have zdw := znh
      have zdx := zni
      have zdq := znj
      refine Go.st st12 ?_
      have hZ0 := hZ
      have hown0 := hown
      clear hZ hown
      obtain ⟨v13, T13, L13, X13, hQ13, hC13, hSn13, hZ, hown, st13⟩ := callInW X12 hx hZ0 (y := y_8) (a := b3) (argsL := [(.ref r_4), (.ref r_12)]) (rest := [(.ref b3)]) rfl hown0 (wk hw 37 rfl) (wk hw 38 rfl) (wk hw 11 rfl) (wk hw 39 rfl) (by decide) (rm8 l Z a0 hw [] b3 r_4 r_12 fm pl pa pv fp co cv fc t_4 (fun k => (csL [cds] k).toInt8.toInt32) t_12 (fun k => (csL [cid] k).toInt8.toInt32) zc h12 n0 Zn hEL E_b3 zer zes zbf zbe zat zbc zdx zdw zdq zdp g_b3 zgi zjq zeo zkt hds1.2 FE FL FP FPe FPv FPc FPa FC FCe FCv FCc FCa SFm SC hzc O) e12 hEL CH hS hk 1 (by decide) (by decide) (by decide) (by decide) (g := (mkF m 82 #[.val (.int p1), .val (.int p2), .val (.int p3), .val (.int p4), .val (.int nn1), .val (.ref t_1), .val (.int ex), .val (.int (1 : Int32)), .val (.int cds), .val (.int cid), .unset, .unset, .unset, .unset] [(.ref r_12), (.ref r_4), (.ref b3), (.ref b3)])) rfl (by rw [hml]; rfl) (lenOf pd_36 rfl) rfl (Nat.le_of_eq rfl) (hb hby at_82)
      clear hZ0 hown0
      replace hS := hSn13
      obtain ⟨h13, e13⟩ : ∃ z, T13.heap = z := ⟨_, rfl⟩
      rw [e13] at hQ13 hC13
      replace CR := CR.trans hC13
      replace CH := hC13.1
      replace hk : T13.heap.size ≤ h13.size := by rw [e13]; exact Nat.le_refl _
      obtain ⟨rfl, Nq13, Kq13, zdl, zco⟩ := hQ13
      have N13 := Fr.app N12 Nq13
      replace zai := zai.keep Kq13 (ninS zkn nin0)
      replace E_b3 := E_b3.keep Kq13
      replace zbc := zbc.keep Kq13
      replace zbe := zbe.keep Kq13 (ninS (Ne.symm zgi) nin0)
      replace zbf := zbf.keep Kq13 (ninS (Ne.symm zgi) nin0)
      replace zat := zat.keep Kq13 (ninS (Ne.symm zeo) nin0)
      replace zdp := zdp.keep Kq13
      replace zdw := zdw.keep Kq13 (ninS (Ne.symm zjq) nin0)
      replace zdx := zdx.keep Kq13 (ninS (Ne.symm zjq) nin0)
      replace zdq := zdq.keep Kq13 (ninS (Ne.symm zkt) nin0)
      replace O := O.keep Kq13 (allS g_b3 all0)
      replace Zn := Nat.le_trans Zn Kq13.1
      refine Go.st st13 ?_
      refine Go.st (fun t k => XS.astore X13.here hx rfl (hb hby at_85) rfl rfl (l' := #[.val (.int p1), .val (.int p2), .val (.int p3), .val (.int p4), .val (.int nn1), .val (.ref t_1), .val (.int ex), .val (.int (1 : Int32)), .val (.int cds), .val (.int cid), .val (.ref b3), .unset, .unset, .unset]) rfl k) ?_
      obtain ⟨T14, h14, X14, e14, E14, A14, D14, U14, st14⟩ := newO X13 hx hZ hown (wk hw 254 rfl) (wk hw 255 rfl) (wk hw 256 rfl) e13 (g := (mkF m 87 #[.val (.int p1), .val (.int p2), .val (.int p3), .val (.int p4), .val (.int nn1), .val (.ref t_1), .val (.int ex), .val (.int (1 : Int32)), .val (.int cds), .val (.int cid), .val (.ref b3), .unset, .unset, .unset] [])) rfl (hb hby at_87) (by decide) (by decide)
      obtain ⟨b14, gz14⟩ : ∃ z, z = h13.size := ⟨_, rfl⟩
      rw [← gz14] at A14 D14 U14 st14
      have znk : t_1 ≠ b14 := Nat.ne_of_lt (Nat.lt_of_lt_of_le zai.lt (Nat.le_of_eq gz14.symm))
      have zku : b3 ≠ b14 := Nat.ne_of_lt (Nat.lt_of_lt_of_le E_b3.lt (Nat.le_of_eq gz14.symm))
      have zkv : r_4 ≠ b14 := Nat.ne_of_lt (Nat.lt_of_lt_of_le zbc.lt (Nat.le_of_eq gz14.symm))
      have znl : t_4 ≠ b14 := Nat.ne_of_lt (Nat.lt_of_lt_of_le zat.lt (Nat.le_of_eq gz14.symm))
      have zkw : r_12 ≠ b14 := Nat.ne_of_lt (Nat.lt_of_lt_of_le zdp.lt (Nat.le_of_eq gz14.symm))
      have znm : t_12 ≠ b14 := Nat.ne_of_lt (Nat.lt_of_lt_of_le zdq.lt (Nat.le_of_eq gz14.symm))
      have zkx : n0 ≤ b14 := Nat.le_trans Zn (Nat.le_of_eq gz14.symm)
      refine Go.st st14 ?_
      replace zai := zai.ext E14
      replace E_b3 := E_b3.ext E14
      replace zbc := zbc.ext E14
      replace zbe := zbe.ext E14
      replace zbf := zbf.ext E14
      replace zat := zat.ext E14
      replace zdp := zdp.ext E14
      replace zdw := zdw.ext E14
      replace zdx := zdx.ext E14
      replace zdq := zdq.ext E14
      replace zdl := zdl.ext E14
      replace zco := zco.ext E14
      replace CR := CR.trans (CHr.ext E14 CH)
      replace CH := CH.ext E14
      replace hk := Nat.le_trans hk E14.1
      replace O := O.ext E14
      replace Zn := Nat.le_trans Zn E14.1
      have zft := A14
      have zjr : Fld Z h14 b14 k_2 "bytes" "[B" .null := D14 (Or.inr (wk hw 273 rfl)) (ty := (.array .byte)) (by decide)
      refine Go.st (fun t k => XS.dup X14.here hx rfl (hb hby at_90) rfl rfl (XS.iloadN X14.here hx rfl (hb hby at_91) rfl (XS.iconst X14.here hx rfl (hb hby at_92) (XS.iushr X14.here hx rfl (hb hby at_93) rfl (XS.iconst X14.here hx rfl (hb hby at_94) (XS.iand X14.here hx rfl (hb hby at_95) rfl k)))))) ?_
      show Go p.tables e below PP (T14.setTop (mkF m 96 #[.val (.int p1), .val (.int p2), .val (.int p3), .val (.int p4), .val (.int nn1), .val (.ref t_1), .val (.int ex), .val (.int (1 : Int32)), .val (.int cds), .val (.int cid), .val (.ref b3), .unset, .unset, .unset] [(.int (((p3.toUInt32 >>> ((4 : Int32) &&& 31).toUInt32).toInt32) &&& (3 : Int32))), (.ref b14), (.ref b14)]))
      generalize hn2 : (((p3.toUInt32 >>> ((4 : Int32) &&& 31).toUInt32).toInt32) &&& (3 : Int32)) = nn2
      replace hn2 := own_n4 _ _ hn2
      show Go p.tables e below PP (T14.setTop (mkF m 96 #[.val (.int p1), .val (.int p2), .val (.int p3), .val (.int p4), .val (.int nn1), .val (.ref t_1), .val (.int ex), .val (.int (1 : Int32)), .val (.int cds), .val (.int cid), .val (.ref b3), .unset, .unset, .unset] [(.int nn2), (.ref b14), (.ref b14)]))
      refine Go.st (fun t k => XS.iloadN X14.here hx rfl (hb hby at_96) rfl k) ?_
      obtain ⟨v15, T15, L15, X15, hQ15, st15⟩ := callSt X14 hx hZ (y := y_1) (argsL := [(.int nn2), (.int p4)]) (rest := [(.ref b14), (.ref b14)]) hown (wk hw 0 rfl) (wk hw 1 rfl) (wk hw 2 rfl) (wk hw 3 rfl) (by decide) (rm1 l Z a0 hw [] nn2 p4 h14 n0 Zn hn2) e14 2 (by decide) (by decide) (by decide) (by decide) (g := (mkF m 97 #[.val (.int p1), .val (.int p2), .val (.int p3), .val (.int p4), .val (.int nn1), .val (.ref t_1), .val (.int ex), .val (.int (1 : Int32)), .val (.int cds), .val (.int cid), .val (.ref b3), .unset, .unset, .unset] [(.int p4), (.int nn2), (.ref b14), (.ref b14)])) rfl (by rw [hml]; rfl) (lenOf pd_45 rfl) rfl (Nat.le_of_eq rfl) (hb hby at_97)
      obtain ⟨h15, e15⟩ : ∃ z, T15.heap = z := ⟨_, rfl⟩
      rw [e15] at hQ15
      obtain ⟨t_15, rfl, Nq15, Kq15, zgz, zha, zhb⟩ := hQ15
      have N15 := Fr.app N13 Nq15
      have znn : b14 ≠ t_15 := Nat.ne_of_lt (Nat.lt_of_lt_of_le zft.lt zgz)
      have hsf : ∀ x ∈ ([] : List Addr), Safe Z consts_1 T13.vm h14 x := sf0
      replace CR := CR.trans (CHr.keep Kq15 hsf CH)
      replace CH := CH.keep Kq15 hsf
      replace hk := Nat.le_trans hk Kq15.1
      clear hsf
      replace zai := zai.keep Kq15 nin0
      replace E_b3 := E_b3.keep Kq15
      replace zbc := zbc.keep Kq15
      replace zbe := zbe.keep Kq15 nin0
      replace zbf := zbf.keep Kq15 nin0
      replace zat := zat.keep Kq15 nin0
      replace zdp := zdp.keep Kq15
      replace zdw := zdw.keep Kq15 nin0
      replace zdx := zdx.keep Kq15 nin0
      replace zdq := zdq.keep Kq15 nin0
      replace zdl := zdl.keep Kq15 nin0
      replace zco := zco.keep Kq15 nin0
      replace zft := zft.keep Kq15
      replace zjr := zjr.keep Kq15 nin0
      replace O := O.keep Kq15 all0
      replace Zn := Nat.le_trans Zn Kq15.1
      refine Go.st st15 ?_
      have hZ0 := hZ
      have hown0 := hown
      clear hZ hown
      obtain ⟨v16, T16, L16, X16, hQ16, hC16, hSn16, hZ, hown, st16⟩ := callInW X15 hx hZ0 (y := y_49) (a := b14) (argsL := [(.ref t_15)]) (rest := [(.ref b14)]) rfl hown0 (wk hw 257 rfl) (wk hw 258 rfl) (wk hw 256 rfl) (wk hw 259 rfl) (by decide) (rm49 l Z a0 hw [] b14 t_15 nn2 (fun k => by3 p4 k) h15 n0 Zn hEL zft zjr zha zhb zkx znn hn2 O) e15 hEL CH hS hk 1 (by decide) (by decide) (by decide) (by decide) (g := (mkF m 100 #[.val (.int p1), .val (.int p2), .val (.int p3), .val (.int p4), .val (.int nn1), .val (.ref t_1), .val (.int ex), .val (.int (1 : Int32)), .val (.int cds), .val (.int cid), .val (.ref b3), .unset, .unset, .unset] [(.ref t_15), (.ref b14), (.ref b14)])) rfl (by rw [hml]; rfl) (lenOf pd_41 rfl) rfl (Nat.le_of_eq rfl) (hb hby at_100)
      clear hZ0 hown0
      replace hS := hSn16
      obtain ⟨h16, e16⟩ : ∃ z, T16.heap = z := ⟨_, rfl⟩
      rw [e16] at hQ16 hC16
      replace CR := CR.trans hC16
      replace CH := hC16.1
      replace hk : T16.heap.size ≤ h16.size := by rw [e16]; exact Nat.le_refl _
      obtain ⟨t_16, rfl, Nq16, Kq16, znu, zix, ziy, ziz⟩ := hQ16
      have N16 := Fr.app N15 Nq16
      replace zai := zai.keep Kq16 (ninS znk nin0)
      replace E_b3 := E_b3.keep Kq16
      replace zbc := zbc.keep Kq16
      replace zbe := zbe.keep Kq16 (ninS zkv nin0)
      replace zbf := zbf.keep Kq16 (ninS zkv nin0)
      replace zat := zat.keep Kq16 (ninS znl nin0)
      replace zdp := zdp.keep Kq16
      replace zdw := zdw.keep Kq16 (ninS zkw nin0)
      replace zdx := zdx.keep Kq16 (ninS zkw nin0)
      replace zdq := zdq.keep Kq16 (ninS znm nin0)
      replace zdl := zdl.keep Kq16 (ninS zku nin0)
      replace zco := zco.keep Kq16 (ninS zku nin0)
      replace zft := zft.keep Kq16
      replace O := O.keep Kq16 (allS zkx all0)
      replace Zn := Nat.le_trans Zn Kq16.1
      refine Go.st st16 ?_
      refine Go.st (fun t k => XS.astore X16.here hx rfl (hb hby at_103) rfl rfl (l' := #[.val (.int p1), .val (.int p2), .val (.int p3), .val (.int p4), .val (.int nn1), .val (.ref t_1), .val (.int ex), .val (.int (1 : Int32)), .val (.int cds), .val (.int cid), .val (.ref b3), .val (.ref b14), .unset, .unset]) rfl (XS.aload X16.here hx rfl (hb hby at_105) rfl rfl (XS.aload X16.here hx rfl (hb hby at_107) rfl rfl k))) ?_
      obtain ⟨v17, T17, L17, X17, hQ17, st17⟩ := callSt X16 hx hZ (y := y_50) (argsL := [(.ref b3), (.ref b14)]) (rest := []) hown (wk hw 274 rfl) (wk hw 275 rfl) (wk hw 7 rfl) (wk hw 276 rfl) (by decide) (rm50 l Z a0 hw [] b3 b14 r_4 t_4 (fun k => (csL [cds] k).toInt8.toInt32) r_12 t_12 (1 : Int32) (fun k => (csL [cid] k).toInt8.toInt32) (0 : Int32) t_16 nn2 (fun k => (fun k => by3 p4 k) k) zc sv h16 n0 Zn E_b3 zdl zco zbf zbe zat zbc zdx zdw zdq zdp zft zix ziy ziz hn2 (Or.inl ⟨rfl, rfl⟩) SC hzc O SV hr_sv SA SHi SLo) e16 0 (by decide) (by decide) (by decide) (by decide) (g := (mkF m 109 #[.val (.int p1), .val (.int p2), .val (.int p3), .val (.int p4), .val (.int nn1), .val (.ref t_1), .val (.int ex), .val (.int (1 : Int32)), .val (.int cds), .val (.int cid), .val (.ref b3), .val (.ref b14), .unset, .unset] [(.ref b14), (.ref b3)])) rfl (by rw [hml]; rfl) (lenOf pd_47 rfl) rfl (Nat.le_of_eq rfl) (hb hby at_109)
      obtain ⟨h17, e17⟩ : ∃ z, T17.heap = z := ⟨_, rfl⟩
      rw [e17] at hQ17
      obtain ⟨t_17, zhf, zhg, rfl, Nq17, Kq17, znv, zno, zky⟩ := hQ17
      have N17 := Fr.app N16 Nq17
      have hsf : ∀ x ∈ ([] : List Addr), Safe Z consts_1 T16.vm h16 x := sf0
      replace CR := CR.trans (CHr.keep Kq17 hsf CH)
      replace CH := CH.keep Kq17 hsf
      replace hk := Nat.le_trans hk Kq17.1
      clear hsf
      replace zai := zai.keep Kq17 nin0
      replace O := O.keep Kq17 all0
      replace Zn := Nat.le_trans Zn Kq17.1
      refine Go.st st17 ?_
      refine Go.st (fun t k => XS.astore X17.here hx rfl (hb hby at_112) rfl rfl (l' := #[.val (.int p1), .val (.int p2), .val (.int p3), .val (.int p4), .val (.int nn1), .val (.ref t_1), .val (.int ex), .val (.int (1 : Int32)), .val (.int cds), .val (.int cid), .val (.ref b3), .val (.ref b14), .val (.ref t_17), .unset]) rfl (XS.aload X17.here hx rfl (hb hby at_114) rfl rfl k)) ?_
      obtain ⟨v18, T18, L18, X18, hQ18, st18⟩ := callSt X17 hx hZ (y := y_2) (argsL := [(.ref t_17)]) (rest := []) hown (wk hw 5 rfl) (wk hw 6 rfl) (wk hw 7 rfl) (wk hw 8 rfl) (by decide) (rm2 l Z a0 hw [] t_17 zhf zhg h17 n0 Zn zno) e17 0 (by decide) (by decide) (by decide) (by decide) (g := (mkF m 116 #[.val (.int p1), .val (.int p2), .val (.int p3), .val (.int p4), .val (.int nn1), .val (.ref t_1), .val (.int ex), .val (.int (1 : Int32)), .val (.int cds), .val (.int cid), .val (.ref b3), .val (.ref b14), .val (.ref t_17), .unset] [(.ref t_17)])) rfl (by rw [hml]; rfl) (lenOf pd_48 rfl) rfl (Nat.le_of_eq rfl) (hb hby at_116)
      obtain ⟨rfl, rfl, e18⟩ := hQ18
      rw [List.append_nil] at X18
      refine Go.st st18 ?_
      refine Go.st (fun t k => XS.istore X18.here hx rfl (hb hby at_119) rfl (l' := #[.val (.int p1), .val (.int p2), .val (.int p3), .val (.int p4), .val (.int nn1), .val (.ref t_1), .val (.int ex), .val (.int (1 : Int32)), .val (.int cds), .val (.int cid), .val (.ref b3), .val (.ref b14), .val (.ref t_17), .val (.int (bi ((0 : Int32) < zhf ∧ zhg (0 : Int32).toNatClampNeg = (1 : Int32))))]) rfl (XS.iload X18.here hx rfl (hb hby at_121) rfl (XS.ifNo X18.here hx rfl (hb hby at_123) rfl (XT.i0_eq_f (by decide)) (XS.iload X18.here hx rfl (hb hby at_126) rfl k)))) ?_
      show Go p.tables e below PP (T18.setTop (mkF m 128 #[.val (.int p1), .val (.int p2), .val (.int p3), .val (.int p4), .val (.int nn1), .val (.ref t_1), .val (.int ex), .val (.int (1 : Int32)), .val (.int cds), .val (.int cid), .val (.ref b3), .val (.ref b14), .val (.ref t_17), .val (.int (bi ((0 : Int32) < zhf ∧ zhg (0 : Int32).toNatClampNeg = (1 : Int32))))] [(.int (bi ((0 : Int32) < zhf ∧ zhg (0 : Int32).toNatClampNeg = (1 : Int32))))]))
      refine Go.st (fun t k => XS.ifNo X18.here hx rfl (hb hby at_128) rfl (XT.i0_eq_f (by rw [bi_t ⟨zky.1, zky.2⟩]; decide)) (XS.iconst X18.here hx rfl (hb hby at_131) (XS.goto X18.here hx rfl (pc0 := 132) (pc' := 136) rfl (hb hby at_132) (by decide) (by decide) k))) ?_
      show Go p.tables e below PP (T18.setTop (mkF m 136 #[.val (.int p1), .val (.int p2), .val (.int p3), .val (.int p4), .val (.int nn1), .val (.ref t_1), .val (.int ex), .val (.int (1 : Int32)), .val (.int cds), .val (.int cid), .val (.ref b3), .val (.ref b14), .val (.ref t_17), .val (.int (bi ((0 : Int32) < zhf ∧ zhg (0 : Int32).toNatClampNeg = (1 : Int32))))] [(.int (1 : Int32))]))
      rw [hPP]
      refine endNW X18 hx hlk hZ hS e18 hk hEL CH CR (t := .boolean) hret (by simp) (hb hby at_136) (w := (1 : Int32)) (rfl) ?_ (by decide) (by decide)
      show Q0 Z p1 p2 p3 p4 fm pl pa pv fp co cv fc zc sv h0 n0 (some (.int (1 : Int32))) T18.heap _
      rw [e18]
      exact ⟨rfl, N17⟩
  show Go p.tables e below PP (T1.setTop (mkF m 13 #[.val (.int p1), .val (.int p2), .val (.int p3), .val (.int p4), .val (.int nn1), .val (.ref t_1), .unset, .unset, .unset, .unset, .unset, .unset, .unset, .unset] []))
  refine Go.st (fun t k => XS.iload X1.here hx rfl (hb hby at_13) rfl k) ?_
  show Go p.tables e below PP (T1.setTop (mkF m 15 #[.val (.int p1), .val (.int p2), .val (.int p3), .val (.int p4), .val (.int nn1), .val (.ref t_1), .unset, .unset, .unset, .unset, .unset, .unset, .unset, .unset] [(.int nn1)]))
  by_cases hc15 : nn1 = (0 : Int32)
  · --
    refine Go.st (fun t k => XS.ifYes X1.here hx rfl (pc0 := 15) (pc' := 31) rfl (hb hby at_15) rfl (XT.i0_eq_t hc15) (by decide) (by decide) (XS.iconst X1.here hx rfl (hb hby at_31) (XS.istore X1.here hx rfl (hb hby at_32) rfl (l' := #[.val (.int p1), .val (.int p2), .val (.int p3), .val (.int p4), .val (.int nn1), .val (.ref t_1), .val (.int (0 : Int32)), .unset, .unset, .unset, .unset, .unset, .unset, .unset]) rfl (XS.aload X1.here hx rfl (hb hby at_34) rfl rfl k)))) ?_
    obtain ⟨v19, T19, L19, X19, hQ19, st19⟩ := callSt X1 hx hZ (y := y_2) (argsL := [(.ref t_1)]) (rest := []) hown (wk hw 5 rfl) (wk hw 6 rfl) (wk hw 7 rfl) (wk hw 8 rfl) (by decide) (rm2 l Z a0 hw [] t_1 nn1 (fun k => by3 p2 k) h1 n0 Zn zai) e1 0 (by decide) (by decide) (by decide) (by decide) (g := (mkF m 36 #[.val (.int p1), .val (.int p2), .val (.int p3), .val (.int p4), .val (.int nn1), .val (.ref t_1), .val (.int (0 : Int32)), .unset, .unset, .unset, .unset, .unset, .unset, .unset] [(.ref t_1)])) rfl (by rw [hml]; rfl) (lenOf pd_48 rfl) rfl (Nat.le_of_eq rfl) (hb hby at_36)
    obtain ⟨rfl, rfl, e19⟩ := hQ19
    rw [List.append_nil] at X19
    refine Go.st st19 ?_
    refine Go.st (fun t k => XS.iload X19.here hx rfl (hb hby at_39) rfl k) ?_
    show Go p.tables e below PP (T19.setTop (mkF m 41 #[.val (.int p1), .val (.int p2), .val (.int p3), .val (.int p4), .val (.int nn1), .val (.ref t_1), .val (.int (0 : Int32)), .unset, .unset, .unset, .unset, .unset, .unset, .unset] [(.int (0 : Int32)), (.int (bi ((0 : Int32) < nn1 ∧ (fun k => by3 p2 k) (0 : Int32).toNatClampNeg = (1 : Int32))))]))
    refine Go.st (fun t k => XS.icmpNo X19.here hx rfl (hb hby at_41) rfl (XT.ii_ne_f (by rw [own_raw p2 hn1]; exact bi_f (fun z => z.1 hc15))) (XS.iconst X19.here hx rfl (hb hby at_44) (XS.goto X19.here hx rfl (pc0 := 45) (pc' := 49) rfl (hb hby at_45) (by decide) (by decide) k))) ?_
    show Go p.tables e below PP (T19.setTop (mkF m 49 #[.val (.int p1), .val (.int p2), .val (.int p3), .val (.int p4), .val (.int nn1), .val (.ref t_1), .val (.int (0 : Int32)), .unset, .unset, .unset, .unset, .unset, .unset, .unset] [(.int (1 : Int32))]))
    exact J49 _ _ _ X19 e19 N1 (trivial)
  · --
    refine Go.st (fun t k => XS.ifNo X1.here hx rfl (hb hby at_15) rfl (XT.i0_eq_f hc15) (XS.iloadN X1.here hx rfl (hb hby at_18) rfl (XS.sipush X1.here hx rfl (hb hby at_19) (XS.iand X1.here hx rfl (hb hby at_22) rfl (XS.iconst X1.here hx rfl (hb hby at_23) k))))) ?_
    show Go p.tables e below PP (T1.setTop (mkF m 24 #[.val (.int p1), .val (.int p2), .val (.int p3), .val (.int p4), .val (.int nn1), .val (.ref t_1), .unset, .unset, .unset, .unset, .unset, .unset, .unset, .unset] [(.int (1 : Int32)), (.int (p2 &&& (255 : Int32)))]))
    by_cases hc24 : (p2 &&& (255 : Int32)) = (1 : Int32)
    · --
      refine Go.st (fun t k => XS.icmpNo X1.here hx rfl (hb hby at_24) rfl (XT.ii_ne_f hc24) (XS.iconst X1.here hx rfl (hb hby at_27) (XS.goto X1.here hx rfl (pc0 := 28) (pc' := 32) rfl (hb hby at_28) (by decide) (by decide) (XS.istore X1.here hx rfl (hb hby at_32) rfl (l' := #[.val (.int p1), .val (.int p2), .val (.int p3), .val (.int p4), .val (.int nn1), .val (.ref t_1), .val (.int (1 : Int32)), .unset, .unset, .unset, .unset, .unset, .unset, .unset]) rfl (XS.aload X1.here hx rfl (hb hby at_34) rfl rfl k))))) ?_
      obtain ⟨v20, T20, L20, X20, hQ20, st20⟩ := callSt X1 hx hZ (y := y_2) (argsL := [(.ref t_1)]) (rest := []) hown (wk hw 5 rfl) (wk hw 6 rfl) (wk hw 7 rfl) (wk hw 8 rfl) (by decide) (rm2 l Z a0 hw [] t_1 nn1 (fun k => by3 p2 k) h1 n0 Zn zai) e1 0 (by decide) (by decide) (by decide) (by decide) (g := (mkF m 36 #[.val (.int p1), .val (.int p2), .val (.int p3), .val (.int p4), .val (.int nn1), .val (.ref t_1), .val (.int (1 : Int32)), .unset, .unset, .unset, .unset, .unset, .unset, .unset] [(.ref t_1)])) rfl (by rw [hml]; rfl) (lenOf pd_48 rfl) rfl (Nat.le_of_eq rfl) (hb hby at_36)
      obtain ⟨rfl, rfl, e20⟩ := hQ20
      rw [List.append_nil] at X20
      refine Go.st st20 ?_
      refine Go.st (fun t k => XS.iload X20.here hx rfl (hb hby at_39) rfl k) ?_
      show Go p.tables e below PP (T20.setTop (mkF m 41 #[.val (.int p1), .val (.int p2), .val (.int p3), .val (.int p4), .val (.int nn1), .val (.ref t_1), .val (.int (1 : Int32)), .unset, .unset, .unset, .unset, .unset, .unset, .unset] [(.int (1 : Int32)), (.int (bi ((0 : Int32) < nn1 ∧ (fun k => by3 p2 k) (0 : Int32).toNatClampNeg = (1 : Int32))))]))
      refine Go.st (fun t k => XS.icmpNo X20.here hx rfl (hb hby at_41) rfl (XT.ii_ne_f (by rw [own_raw p2 hn1]; exact bi_t ⟨hc15, hc24⟩)) (XS.iconst X20.here hx rfl (hb hby at_44) (XS.goto X20.here hx rfl (pc0 := 45) (pc' := 49) rfl (hb hby at_45) (by decide) (by decide) k))) ?_
      show Go p.tables e below PP (T20.setTop (mkF m 49 #[.val (.int p1), .val (.int p2), .val (.int p3), .val (.int p4), .val (.int nn1), .val (.ref t_1), .val (.int (1 : Int32)), .unset, .unset, .unset, .unset, .unset, .unset, .unset] [(.int (1 : Int32))]))
      exact J49 _ _ _ X20 e20 N1 (trivial)
    · --
      refine Go.st (fun t k => XS.icmpYes X1.here hx rfl (pc0 := 24) (pc' := 31) rfl (hb hby at_24) rfl (XT.ii_ne_t hc24) (by decide) (by decide) (XS.iconst X1.here hx rfl (hb hby at_31) (XS.istore X1.here hx rfl (hb hby at_32) rfl (l' := #[.val (.int p1), .val (.int p2), .val (.int p3), .val (.int p4), .val (.int nn1), .val (.ref t_1), .val (.int (0 : Int32)), .unset, .unset, .unset, .unset, .unset, .unset, .unset]) rfl (XS.aload X1.here hx rfl (hb hby at_34) rfl rfl k)))) ?_
      obtain ⟨v21, T21, L21, X21, hQ21, st21⟩ := callSt X1 hx hZ (y := y_2) (argsL := [(.ref t_1)]) (rest := []) hown (wk hw 5 rfl) (wk hw 6 rfl) (wk hw 7 rfl) (wk hw 8 rfl) (by decide) (rm2 l Z a0 hw [] t_1 nn1 (fun k => by3 p2 k) h1 n0 Zn zai) e1 0 (by decide) (by decide) (by decide) (by decide) (g := (mkF m 36 #[.val (.int p1), .val (.int p2), .val (.int p3), .val (.int p4), .val (.int nn1), .val (.ref t_1), .val (.int (0 : Int32)), .unset, .unset, .unset, .unset, .unset, .unset, .unset] [(.ref t_1)])) rfl (by rw [hml]; rfl) (lenOf pd_48 rfl) rfl (Nat.le_of_eq rfl) (hb hby at_36)
      obtain ⟨rfl, rfl, e21⟩ := hQ21
      rw [List.append_nil] at X21
      refine Go.st st21 ?_
      refine Go.st (fun t k => XS.iload X21.here hx rfl (hb hby at_39) rfl k) ?_
      show Go p.tables e below PP (T21.setTop (mkF m 41 #[.val (.int p1), .val (.int p2), .val (.int p3), .val (.int p4), .val (.int nn1), .val (.ref t_1), .val (.int (0 : Int32)), .unset, .unset, .unset, .unset, .unset, .unset, .unset] [(.int (0 : Int32)), (.int (bi ((0 : Int32) < nn1 ∧ (fun k => by3 p2 k) (0 : Int32).toNatClampNeg = (1 : Int32))))]))
      refine Go.st (fun t k => XS.icmpNo X21.here hx rfl (hb hby at_41) rfl (XT.ii_ne_f (by rw [own_raw p2 hn1]; exact bi_f (fun z => hc24 z.2))) (XS.iconst X21.here hx rfl (hb hby at_44) (XS.goto X21.here hx rfl (pc0 := 45) (pc' := 49) rfl (hb hby at_45) (by decide) (by decide) k))) ?_
      show Go p.tables e below PP (T21.setTop (mkF m 49 #[.val (.int p1), .val (.int p2), .val (.int p3), .val (.int p4), .val (.int nn1), .val (.ref t_1), .val (.int (0 : Int32)), .unset, .unset, .unset, .unset, .unset, .unset, .unset] [(.int (1 : Int32))]))
      exact J49 _ _ _ X21 e21 N1 (trivial)
theorem own_afn {Z : State} {a : Addr} {c : Cell} {n : Int32} (hf : Fit Z) (A : Arr Z Z.heap a c .byte) (hs : c.slots.size = n.toNatClampNeg) (hn : ¬ n < 0) : ∃ f : Nat → Int32, Afn Z Z.heap a .byte n (fun k => .int (f k)) := by
  have F : Afn Z Z.heap a .byte n (fun k => (c.slots[k]?).getD .null) := by
    refine ⟨c, A, hs, hn, fun k hk => ?_⟩
    have r := rng32 n
    have hk2 : k < 2147483648 := by simp only [Int32.toNatClampNeg] at hk; omega
    have e : (Int32.ofNat k).toNatClampNeg = k := by simp only [Int32.toNatClampNeg]; rw [Int32.toInt_ofNat_of_lt (by omega)]; rfl
    have hj : ¬ ((Int32.ofNat k) < 0 ∨ c.slots.size ≤ (Int32.ofNat k).toNatClampNeg) := by
      rintro (z | z)
      · rw [Int32.lt_iff_toInt_lt, Int32.toInt_ofNat_of_lt (by omega)] at z
        have e0 : (0 : Int32).toInt = 0 := rfl
        omega
      · rw [e] at z; omega
    obtain ⟨v, h1, h2⟩ := elem_fit hf A hj
    rw [e] at h1
    show c.slots[k]? = some ((c.slots[k]?).getD .null) ∧ fits .byte ((c.slots[k]?).getD .null) = true
    rw [h1]
    exact ⟨rfl, h2⟩
  exact ⟨_, own_ints F⟩
set_option maxRecDepth 65536 in
set_option maxHeartbeats 40000000 in
theorem comes_1 {Post : Tables → Env → Array Value → State → Outcome → State → Prop} (hpost : ∀ tb e args s v u, (limb_1_1.after args s (.returned v) u = true ∧ limb_1_2.after args s (.returned v) u = true ∧ True) → ReturnedEndW s (.returned v) u (Jvm.fieldLocs frame_1_writes args s ++ Jvm.arrayLocs frame_1_arrays args s ++ Jvm.staticLocs frame_1_statics s) 56 3648 → Post tb e args s (.returned v) u) :
    ArmFor flags0 classFile x code maxLocals ret World_1 tables_1 room_1 Calls_1 rest_1 Pre_1 Post := by
  intro l hfl _ _ p e ha hc hk s m args below hf hA hF happ hP
  obtain ⟨hcalls, hrest, hpre⟩ := hP
  obtain ⟨-, -, -, hnamed, -, -, -, hat⟩ := (Spec.applies_iff hf).mp happ
  obtain ⟨hg, hn⟩ := and_e (Cond.before_iff.mp (show (Jvm.Cond.and given_1 narrow_1).before args s = true from hpre))
  obtain ⟨g1, g2⟩ := and_e hg
  obtain ⟨g3, g4⟩ := and_e g2
  obtain ⟨g5, g6⟩ := and_e g4
  obtain ⟨g7, g8⟩ := and_e g6
  obtain ⟨w0, w1, w2, w3, rfl⟩ : ∃ w0 w1 w2 w3 : Value, args = #[w0, w1, w2, w3] := by
    have hs : args.size = 4 := by simpa [Cond.value, given_1] using g1
    obtain ⟨L⟩ := args
    match L, hs with
    | [w0, w1, w2, w3], _ => exact ⟨w0, w1, w2, w3, rfl⟩
  have hw := fun d (hd : d ∈ tables_1) => atoms_spec (ws := Jvm.Cond.code x code maxLocals ret :: tables_1) hat d (List.mem_cons_of_mem _ hd)
  have hfit : Fit s := fun {y c} hc i hi => by
    obtain ⟨ha, rfl⟩ := Array.getElem?_eq_some_iff.mp hc
    have q := List.all_eq_true.mp ((Array.all_eq_true_iff_forall_mem.mp hF) _ (Array.getElem_mem ha)) i (List.mem_range.mpr hi)
    simpa [Array.getElem?_eq_getElem hi] using q
  obtain ⟨hsets, hown0⟩ := atoms_of _ (rest_1_c_eq ▸ (show rest_1_c.before _ s = true from hrest))
  have hr0 := Cond.before_iff.mp hown0
  obtain ⟨i0, ei0⟩ := is_v g3
  obtain rfl : w0 = (.int i0) := Option.some.inj ei0
  obtain ⟨i1, ei1⟩ := is_v g5
  obtain rfl : w1 = (.int i1) := Option.some.inj ei1
  obtain ⟨i2, ei2⟩ := is_v g7
  obtain rfl : w2 = (.int i2) := Option.some.inj ei2
  obtain ⟨i3, ei3⟩ := is_v g8
  obtain rfl : w3 = (.int i3) := Option.some.inj ei3
  have hEL : EW s _ consts_1 := (EW.cons (wk hw 111 rfl) (by decide) (EW.cons (wk hw 177 rfl) (by decide) (EW.cons (wk hw 261 rfl) (by decide) EW.nil)))
  have CH : CHv s consts_1 s.vm s.heap := CHv.start hEL (fun p hp => hcalls.1 p hp) (hsets _ (List.mem_of_getElem? (i := 2) rfl)) (wk hw 4 rfl) (wk hw 22 rfl)
  obtain ⟨zc, evC⟩ := is_v (Cond.before_iff.mp (hsets _ (List.mem_of_getElem? (i := 1) rfl)))
  have SC := Sta.start evC (Or.inl (hsets _ (List.mem_of_getElem? (i := 0) rfl)))
  have hzc : ¬ zc = (0 : Int32) := gotF (Cond.eq_ints evC rfl) (not_v (Cond.before_iff.mp (hsets _ (List.mem_of_getElem? (i := 2) rfl))))
  have O := Old.start s
  obtain ⟨m0, hn_0⟩ := and_e hn
  obtain ⟨m1, hn_1⟩ := and_e hn_0
  obtain ⟨m2, hn_2⟩ := and_e hn_1
  obtain ⟨m3, hn_3⟩ := and_e hn_2
  obtain ⟨m4, hn_4⟩ := and_e hn_3
  obtain ⟨m5, hn_5⟩ := and_e hn_4
  obtain ⟨m6, hn_6⟩ := and_e hn_5
  obtain ⟨m7, hn_7⟩ := and_e hn_6
  obtain ⟨m8, hn_8⟩ := and_e hn_7
  obtain ⟨m9, hn_9⟩ := and_e hn_8
  obtain ⟨m10, hn_10⟩ := and_e hn_9
  obtain ⟨m11, hn_11⟩ := and_e hn_10
  obtain ⟨fm, evF⟩ := exa_v m0
  have FE := Exa.start evF m0
  have SFm := Sta.start evF (Or.inr ⟨(wk hw 11 rfl), (wk hw 47 rfl)⟩)
  obtain ⟨pl, evL⟩ := exa_v m1
  have FL := Fld.start ((fld_at evF).symm.trans evL)
  obtain ⟨pa, evFP⟩ := exa_v m2
  have FP := Fld.start ((fld_at evF).symm.trans evFP)
  have FPe := Exa.start evFP m2
  obtain ⟨pv, evFPv⟩ := arr_v m3
  have FPv := Fld.start ((fld_at evFP).symm.trans evFPv)
  have FPc := Fld.start ((fld_at evFP).symm.trans (eqI_v m6))
  obtain ⟨cFP, AFP⟩ := Arr.start evFPv m3
  obtain ⟨l1FP, l2FP⟩ := Jvm.Free.IntBox.length_fwd (Cond.before_iff.mpr m5) evFPv AFP.1 AFP.2.1 AFP.2.2
  obtain ⟨fp, FPa⟩ := own_afn (n := (11 : Int32)) hfit AFP (by rw [← l2FP]; simp only [Int32.toNatClampNeg, len_toInt l1FP]; rfl) (by decide)
  obtain ⟨co, evFC⟩ := exa_v m7
  have FC := Fld.start ((fld_at evF).symm.trans evFC)
  have FCe := Exa.start evFC m7
  obtain ⟨cv, evFCv⟩ := arr_v m8
  have FCv := Fld.start ((fld_at evFC).symm.trans evFCv)
  have FCc := Fld.start ((fld_at evFC).symm.trans (eqI_v m11))
  obtain ⟨cFC, AFC⟩ := Arr.start evFCv m8
  obtain ⟨l1FC, l2FC⟩ := Jvm.Free.IntBox.length_fwd (Cond.before_iff.mpr m10) evFCv AFC.1 AFC.2.1 AFC.2.2
  obtain ⟨fc, FCa⟩ := own_afn (n := (5 : Int32)) hfit AFC (by rw [← l2FC]; simp only [Int32.toNatClampNeg, len_toInt l1FC]; rfl) (by decide)
  have SA := Sta.start (eqI_v (Cond.before_iff.mp (hsets _ (List.mem_of_getElem? (i := 12) rfl)))) (Or.inl (hsets _ (List.mem_of_getElem? (i := 11) rfl)))
  have SHi := Sta.start (eqI_v (Cond.before_iff.mp (hsets _ (List.mem_of_getElem? (i := 15) rfl)))) (Or.inl (hsets _ (List.mem_of_getElem? (i := 14) rfl)))
  have SLo := Sta.start (eqI_v (Cond.before_iff.mp (hsets _ (List.mem_of_getElem? (i := 18) rfl)))) (Or.inl (hsets _ (List.mem_of_getElem? (i := 17) rfl)))
  obtain ⟨sv, evV, hr_sv⟩ := isR_v (Cond.before_iff.mp (hsets _ (List.mem_of_getElem? (i := 8) rfl)))
  have SV := Sta.start evV (Or.inl (hsets _ (List.mem_of_getElem? (i := 7) rfl)))
  obtain ⟨n, o, h1, h2, h3, _, L, rfl, ⟨rfl, N⟩, hCR, hq⟩ := rm0 l s _ hw tables_1 i0 i1 i2 i3 fm pl pa pv fp co cv fc zc sv s.heap s.heap.size (Nat.le_refl _) hEL FE FL FP FPe FPv FPc FPa FC FCe FCv FCc FCa SFm SC hzc O SA SHi SLo SV hr_sv p e ha hc hk s m _ below hf ((Spec.applies_iff_loose hf).mp happ).1 ⟨rfl, State.Warmed39.refl s, rfl, CH⟩ trivial
  refine ⟨n, _, h1, h2, h3, hpost _ _ _ _ _ _ ⟨Cond.after_iff.mpr rfl, Cond.after_iff.mpr (eq_i res_at (Term.int_eval (1)) rfl), trivial⟩ ⟨hq.1, hq.2.1, hq.2.2.1, (hq.2.2.2.sift fun y hy => Or.inr (N y hy)).mono (by decide) (by decide)⟩⟩
theorem main_1_1 : Claimed_1_1 := comes_1 fun _ _ _ _ _ _ h hF => ⟨h.1, hF⟩
theorem main_1_2 : Claimed_1_2 := comes_1 fun _ _ _ _ _ _ h hF => ⟨h.2.1, hF⟩
end Jvm.Pilot.@@N@@
namespace Jvm.Pilot.@@N@@
open Jvm Jvm.ClassFile Sem Op Lib Jvm.Free Jvm.Stand Jvm.Pilot.@@N@@.Jvm.D
set_option maxRecDepth 65536
/-! MADE BY PROGRAM (witnessworld.py) out of the Statement's table words and the real class files: 36 classes; the members and pool entries that the words name. The judged class is class 1, her method 1. -/
namespace start1
open Jvm.ClassFile
def u (s : String) : CpInfo := .utf8 (stringToUtf16 s)
/-- a pool by its gaps: so many unusable entries, then the entry; so many at the end -/
def gap : Nat → List CpInfo → List CpInfo
  | 0, r => r
  | n + 1, r => .unusable :: gap n r
def poolList (es : List (Nat × CpInfo)) (last : Nat) : List CpInfo := es.foldr (fun e r => gap e.1 (e.2 :: r)) (gap last [])
def pool (es : List (Nat × CpInfo)) (last : Nat) : Array CpInfo := ⟨poolList es last⟩
def fileOf (pool : Array CpInfo) (this : Nat) (attrs : Array Attribute := #[]) (ms : Array MethodInfo := #[]) (fl : Nat := 33) (sup : Nat := 0) (ifs : Array Nat := #[]) (fds : Array FieldInfo := #[]) : ClassFile where
  minorVersion := 0
  majorVersion := 65
  constantPool := pool
  accessFlags := fl
  thisClass := this
  superClass := sup
  interfaces := ifs
  fields := fds
  methods := ms
  attributes := attrs
def plain (name : String) (sup : Option ClassId) : Class where
  name := name
  kind := .ordinary
  loader := none
  accessFlags := 33
  super := sup
  interfaces := #[]
  cf := none
  fields := #[]
  methods := #[]
  instanceTypes := #[]
  staticTypes := #[]
  resolved := #[]
  callSites := []
  init := .initialized
  statics := none
  mirror := none

def pool0 : Array CpInfo := pool [(5, u "<init>"), (0, u "()V"), (1, .class_ 10), (1, u "java/lang/Object"), (85, u "clone"), (0, u "()Ljava/lang/Object;")] 26

def k0c0 : Code := ⟨0, 1, object_method_1_code, #[], #[]⟩
def k0m0 : Method := ⟨"<init>", "()V", ⟨[], none⟩, 1, some k0c0⟩
def k0m1 : Method := ⟨"clone", "()Ljava/lang/Object;", ⟨[], some (.object "java/lang/Object")⟩, 260, none⟩
/-- java/lang/Object -/
def k0 : Class := { plain "java/lang/Object" none with
  accessFlags := 33
  interfaces := #[]
  cf := some (fileOf pool0 8 #[] #[⟨1, 5, 6, #[]⟩, ⟨260, 96, 97, #[]⟩] 33 0 #[] #[])
  fields := #[]
  methods := #[k0m0, k0m1]
  instanceTypes := #[]
  staticTypes := #[]
  resolved := Array.replicate 124 none
  statics := none }

def pool1 : Array CpInfo := pool [(2, .class_ 4), (1, u "java/lang/Object"), (0, u "<init>"), (0, u "()V"), (0, .methodref 8 9), (0, .class_ 10), (0, .nameAndType 11 12), (0, u "com/example/crossname/crossname/store/RecordsIsDeletedItemPinLaw"), (0, u "bytesOf"), (0, u "(II)[B"), (0, .methodref 14 15), (0, .class_ 16), (0, .nameAndType 17 18), (0, u "com/example/crossname/crossname/store/Records"), (0, u "isDeletedItem"), (0, u "([B)Z"), (0, .class_ 20), (0, u "com/example/crossname/crossname/access/ItemName"), (0, .methodref 22 23), (0, .class_ 24), (0, .nameAndType 25 26), (0, u "java/lang/String"), (0, u "valueOf"), (0, u "(C)Ljava/lang/String;"), (0, .methodref 19 28), (0, .nameAndType 5 29), (0, u "(Ljava/lang/String;Ljava/lang/String;)V"), (0, .class_ 31), (0, u "com/example/crossname/crossname/access/Version"), (0, .methodref 30 33), (0, .nameAndType 5 34), (0, u "([B)V"), (0, .methodref 14 36), (0, .nameAndType 37 38), (0, u "deletedItem"), (0, u "(Lcom/example/crossname/crossname/access/ItemName;Lcom/example/crossname/crossname/access/Version;)[B"), (2, u "law"), (0, u "(IIII)Z")] 5

def k1m0 : Method := ⟨"<init>", "()V", ⟨[], none⟩, 2, none⟩
def k1c1 : Code := ⟨4, 14, code, #[], #[]⟩
def k1m1 : Method := ⟨"law", "(IIII)Z", ⟨[.int, .int, .int, .int], some .boolean⟩, 9, some k1c1⟩
def k1c2 : Code := ⟨5, 2, method_3_code, #[], #[]⟩
def k1m2 : Method := ⟨"bytesOf", "(II)[B", ⟨[.int, .int], some (.array .byte)⟩, 10, some k1c2⟩
/-- com/example/crossname/crossname/store/RecordsIsDeletedItemPinLaw -/
def k1 : Class := { plain "com/example/crossname/crossname/store/RecordsIsDeletedItemPinLaw" (some 0) with
  accessFlags := 49
  interfaces := #[]
  cf := some (fileOf pool1 8 #[] #[⟨2, 5, 6, #[]⟩, ⟨9, 41, 42, #[]⟩, ⟨10, 11, 12, #[]⟩] 49 2 #[] #[])
  fields := #[]
  methods := #[k1m0, k1m1, k1m2]
  instanceTypes := #[]
  staticTypes := #[]
  resolved := Array.replicate 48 none
  statics := none }

def pool2 : Array CpInfo := pool [(2, .class_ 4), (0, .nameAndType 5 6), (0, u "java/lang/Object"), (0, u "<init>"), (0, u "()V"), (0, .class_ 8), (0, u "com/example/crossname/crossname/store/Records$Output"), (0, .methodref 7 3), (13, .methodref 7 24), (0, .nameAndType 25 26), (0, u "bytes"), (0, u "()[B"), (0, .class_ 28), (0, u "com/example/crossname/crossname/store/Records$Input"), (130, .class_ 160), (0, u "com/example/crossname/crossname/store/Records"), (0, .methodref 7 162), (0, .nameAndType 163 164), (0, u "tag"), (0, u "(B)V"), (2, .methodref 7 168), (0, .nameAndType 169 170), (0, u "itemName"), (0, u "(Lcom/example/crossname/crossname/access/ItemName;)V"), (2, u "version"), (1, .methodref 7 176), (0, .nameAndType 173 177), (0, u "(Lcom/example/crossname/crossname/access/Version;)V"), (75, u "STORED_ITEM"), (0, u "B"), (2, u "DELETED_ITEM"), (1, u "INHERITING_ITEM"), (1, u "USER_NAME"), (0, u "GROUP_NAME"), (0, u "USER_EMAIL"), (0, u "GROUP_EMAIL"), (1, u "ORGANISATION"), (28, u "deletedItem"), (0, u "(Lcom/example/crossname/crossname/access/ItemName;Lcom/example/crossname/crossname/access/Version;)[B"), (0, u "isDeletedItem"), (0, u "([B)Z")] 19

def k2m0 : Method := ⟨"<init>", "()V", ⟨[], none⟩, 2, none⟩
def k2c1 : Code := ⟨2, 3, prog_51_method_11_code, #[], #[]⟩
def k2m1 : Method := ⟨"deletedItem", "(Lcom/example/crossname/crossname/access/ItemName;Lcom/example/crossname/crossname/access/Version;)[B", ⟨[(.object "com/example/crossname/crossname/access/ItemName"), (.object "com/example/crossname/crossname/access/Version")], some (.array .byte)⟩, 8, some k2c1⟩
def k2c2 : Code := ⟨2, 1, prog_51_method_12_code, #[], #[]⟩
def k2m2 : Method := ⟨"isDeletedItem", "([B)Z", ⟨[(.array .byte)], some .boolean⟩, 8, some k2c2⟩
/-- com/example/crossname/crossname/store/Records -/
def k2 : Class := { plain "com/example/crossname/crossname/store/Records" (some 0) with
  accessFlags := 32
  interfaces := #[]
  cf := some (fileOf pool2 159 #[.nestMembers #[27, 7]] #[⟨2, 5, 6, #[]⟩, ⟨8, 295, 296, #[]⟩, ⟨8, 297, 298, #[]⟩] 32 2 #[] #[⟨26, 253, 254, #[]⟩, ⟨26, 257, 254, #[]⟩, ⟨26, 259, 254, #[]⟩, ⟨26, 261, 254, #[]⟩, ⟨26, 262, 254, #[]⟩, ⟨26, 263, 254, #[]⟩, ⟨26, 264, 254, #[]⟩, ⟨26, 266, 254, #[]⟩])
  fields := #[⟨"STORED_ITEM", .byte, 26, 0, 0⟩, ⟨"DELETED_ITEM", .byte, 26, 1, 0⟩, ⟨"INHERITING_ITEM", .byte, 26, 2, 0⟩, ⟨"USER_NAME", .byte, 26, 3, 0⟩, ⟨"GROUP_NAME", .byte, 26, 4, 0⟩, ⟨"USER_EMAIL", .byte, 26, 5, 0⟩, ⟨"GROUP_EMAIL", .byte, 26, 6, 0⟩, ⟨"ORGANISATION", .byte, 26, 7, 0⟩]
  methods := #[k2m0, k2m1, k2m2]
  instanceTypes := #[]
  staticTypes := #[.byte, .byte, .byte, .byte, .byte, .byte, .byte, .byte]
  resolved := ((Array.replicate 318 none).setIfInBounds 7 (some (.cls 24))).setIfInBounds 9 (some (.method ⟨24, 0⟩))
  statics := none }

def pool3 : Array CpInfo := pool [(1, .methodref 2 3), (0, .class_ 4), (0, .nameAndType 5 6), (0, u "java/lang/Object"), (0, u "<init>"), (0, u "()V"), (0, .class_ 8), (0, u "java/lang/Record")] 13

def k3c0 : Code := ⟨1, 1, jdk_30_method_1_code, #[], #[]⟩
def k3m0 : Method := ⟨"<init>", "()V", ⟨[], none⟩, 4, some k3c0⟩
/-- java/lang/Record -/
def k3 : Class := { plain "java/lang/Record" (some 0) with
  accessFlags := 1057
  interfaces := #[]
  cf := some (fileOf pool3 7 #[] #[⟨4, 5, 6, #[]⟩] 1057 2 #[] #[])
  fields := #[]
  methods := #[k3m0]
  instanceTypes := #[]
  staticTypes := #[]
  resolved := Array.replicate 22 none
  statics := none }

def pool4 : Array CpInfo := pool [(1, .methodref 2 3), (0, .class_ 4), (0, .nameAndType 5 6), (0, u "java/lang/Record"), (0, u "<init>"), (0, u "()V"), (0, .fieldref 8 9), (0, .class_ 10), (0, .nameAndType 11 12), (0, u "com/example/crossname/crossname/access/ItemName"), (0, u "FORM"), (0, u "Lcom/example/crossname/crossname/access/ResourceNameForm;"), (0, .methodref 14 15), (0, .class_ 16), (0, .nameAndType 17 18), (0, u "com/example/crossname/crossname/access/ResourceNameForm"), (0, u "check"), (0, u "(Ljava/lang/String;Ljava/lang/String;)V"), (0, .methodref 14 20), (0, .nameAndType 21 22), (0, u "format"), (0, u "(Ljava/lang/String;Ljava/lang/String;)Ljava/lang/String;"), (0, .methodref 24 25), (0, .class_ 26), (0, .nameAndType 27 28), (0, u "java/lang/String"), (0, u "length"), (0, u "()I"), (0, .methodref 24 30), (0, .nameAndType 31 32), (0, u "codePointCount"), (0, u "(II)I"), (17, u "()Ljava/lang/String;"), (3, .fieldref 8 55), (0, .nameAndType 56 57), (0, u "dataSource"), (0, u "Ljava/lang/String;"), (0, .fieldref 8 59), (0, .nameAndType 60 57), (0, u "id"), (36, u "MAX_LENGTH"), (0, u "I")] 33

def k4c0 : Code := ⟨4, 5, prog_16_method_1_code, #[], #[]⟩
def k4m0 : Method := ⟨"<init>", "(Ljava/lang/String;Ljava/lang/String;)V", ⟨[(.object "java/lang/String"), (.object "java/lang/String")], none⟩, 1, some k4c0⟩
def k4c1 : Code := ⟨1, 1, prog_16_method_8_code, #[], #[]⟩
def k4m1 : Method := ⟨"dataSource", "()Ljava/lang/String;", ⟨[], some (.object "java/lang/String")⟩, 1, some k4c1⟩
def k4c2 : Code := ⟨1, 1, prog_16_method_9_code, #[], #[]⟩
def k4m2 : Method := ⟨"id", "()Ljava/lang/String;", ⟨[], some (.object "java/lang/String")⟩, 1, some k4c2⟩
/-- com/example/crossname/crossname/access/ItemName -/
def k4 : Class := { plain "com/example/crossname/crossname/access/ItemName" (some 3) with
  accessFlags := 49
  interfaces := #[]
  cf := some (fileOf pool4 8 #[] #[⟨1, 5, 18, #[]⟩, ⟨1, 56, 50, #[]⟩, ⟨1, 60, 50, #[]⟩] 49 2 #[] #[⟨18, 56, 57, #[]⟩, ⟨18, 60, 57, #[]⟩, ⟨26, 11, 12, #[]⟩, ⟨26, 97, 98, #[]⟩])
  fields := #[⟨"dataSource", (.object "java/lang/String"), 18, 0, 0⟩, ⟨"id", (.object "java/lang/String"), 18, 1, 0⟩, ⟨"FORM", (.object "com/example/crossname/crossname/access/ResourceNameForm"), 26, 0, 0⟩, ⟨"MAX_LENGTH", .int, 26, 1, 0⟩]
  methods := #[k4m0, k4m1, k4m2]
  instanceTypes := #[(.object "java/lang/String"), (.object "java/lang/String")]
  staticTypes := #[(.object "com/example/crossname/crossname/access/ResourceNameForm"), .int]
  resolved := Array.replicate 132 none
  statics := some 0 }

def pool5 : Array CpInfo := pool [(1, .class_ 2), (0, u "java/io/Serializable"), (0, .class_ 4), (0, u "java/lang/Object")] 2

/-- java/io/Serializable -/
def k5 : Class := { plain "java/io/Serializable" (some 0) with
  accessFlags := 1537
  interfaces := #[]
  cf := some (fileOf pool5 1 #[] #[] 1537 3 #[] #[])
  fields := #[]
  methods := #[]
  instanceTypes := #[]
  staticTypes := #[]
  resolved := Array.replicate 7 none
  statics := none }

def pool6 : Array CpInfo := pool [(1, .class_ 2), (0, u "java/lang/Comparable"), (0, .class_ 4), (0, u "java/lang/Object")] 7

/-- java/lang/Comparable -/
def k6 : Class := { plain "java/lang/Comparable" (some 0) with
  accessFlags := 1537
  interfaces := #[]
  cf := some (fileOf pool6 1 #[] #[] 1537 3 #[] #[])
  fields := #[]
  methods := #[]
  instanceTypes := #[]
  staticTypes := #[]
  resolved := Array.replicate 12 none
  statics := none }

def pool7 : Array CpInfo := pool [(2, .class_ 4), (1, u "java/lang/CharSequence"), (42, .class_ 48), (0, u "java/lang/CharSequence$1CodePointIterator"), (10, .class_ 60), (0, u "java/lang/CharSequence$1CharIterator"), (5, .class_ 67), (0, u "java/lang/Object")] 63

/-- java/lang/CharSequence -/
def k7 : Class := { plain "java/lang/CharSequence" (some 0) with
  accessFlags := 1537
  interfaces := #[]
  cf := some (fileOf pool7 2 #[.nestMembers #[47, 59]] #[] 1537 66 #[] #[])
  fields := #[]
  methods := #[]
  instanceTypes := #[]
  staticTypes := #[]
  resolved := Array.replicate 131 none
  statics := none }

def pool8 : Array CpInfo := pool [(1, .class_ 2), (0, u "java/lang/constant/Constable"), (0, .class_ 4), (0, u "java/lang/Object")] 6

/-- java/lang/constant/Constable -/
def k8 : Class := { plain "java/lang/constant/Constable" (some 0) with
  accessFlags := 1537
  interfaces := #[]
  cf := some (fileOf pool8 1 #[] #[] 1537 3 #[] #[])
  fields := #[]
  methods := #[]
  instanceTypes := #[]
  staticTypes := #[]
  resolved := Array.replicate 11 none
  statics := none }

def pool9 : Array CpInfo := pool [(1, .class_ 2), (0, u "java/lang/constant/ConstantDesc"), (0, .class_ 4), (0, u "java/lang/Object")] 32

/-- java/lang/constant/ConstantDesc -/
def k9 : Class := { plain "java/lang/constant/ConstantDesc" (some 0) with
  accessFlags := 1537
  interfaces := #[]
  cf := some (fileOf pool9 1 #[] #[] 1537 3 #[] #[])
  fields := #[]
  methods := #[]
  instanceTypes := #[]
  staticTypes := #[]
  resolved := Array.replicate 37 none
  statics := none }

def pool10 : Array CpInfo := pool [(1, .methodref 2 3), (0, .class_ 4), (0, .nameAndType 5 6), (0, u "java/lang/Object"), (0, u "<init>"), (0, u "()V"), (2, .fieldref 10 11), (0, .class_ 12), (0, .nameAndType 13 14), (0, u "java/lang/String"), (0, u "value"), (0, u "[B"), (0, .fieldref 10 16), (0, .nameAndType 17 18), (0, u "coder"), (0, u "B"), (2, u "hash"), (0, u "I"), (2, u "hashIsZero"), (0, u "Z"), (9, u "checkBoundsOffCount"), (0, u "(III)I"), (0, .fieldref 10 39), (0, .nameAndType 40 26), (0, u "COMPACT_STRINGS"), (1, .class_ 44), (1, u "java/lang/StringUTF16"), (8, u "toBytes"), (0, .methodref 55 56), (0, .class_ 57), (0, .nameAndType 58 59), (0, u "java/util/Arrays"), (0, u "copyOfRange"), (0, u "([BII)[B"), (19, .class_ 81), (1, u "java/util/Objects"), (15, u "([BII)I"), (9, .class_ 109), (1, u "java/lang/StringLatin1"), (32, u "()Z"), (50, .class_ 195), (1, u "java/lang/System"), (13, .methodref 10 210), (0, .nameAndType 5 211), (0, u "([BB)V"), (0, .methodref 193 213), (0, .nameAndType 214 215), (0, u "arraycopy"), (0, u "(Ljava/lang/Object;ILjava/lang/Object;II)V"), (118, u "()I"), (0, .methodref 10 336), (0, .nameAndType 17 337), (0, u "()B"), (2, u "()[B"), (22, u "([BI)C"), (5, u "(C)Z"), (21, u "(II)V"), (35, u "(I)C"), (61, .methodref 10 490), (0, .nameAndType 5 491), (0, u "(Ljava/lang/AbstractStringBuilder;Ljava/lang/Void;)V"), (0, .methodref 10 493), (0, .nameAndType 494 142), (0, u "isLatin1"), (0, .methodref 107 496), (0, .nameAndType 497 363), (0, u "charAt"), (0, .methodref 42 496), (2, u "checkIndex"), (3, .methodref 10 506), (0, .nameAndType 507 334), (0, u "length"), (3, .methodref 79 512), (0, .nameAndType 513 37), (0, u "checkFromToIndex"), (0, .methodref 42 515), (0, .nameAndType 516 97), (0, u "codePointCount"), (15, u "getBytes"), (16, .methodref 550 506), (0, .class_ 551), (0, u "java/lang/AbstractStringBuilder"), (0, .methodref 550 553), (0, .nameAndType 554 340), (0, u "getValue"), (20, .class_ 576), (0, u "java/lang/CharSequence"), (22, u "CASE_INSENSITIVE_ORDER"), (0, u "Ljava/util/Comparator;"), (32, .methodref 10 634), (0, .nameAndType 635 636), (0, u "indexOf"), (0, u "(II)I"), (0, .methodref 107 638), (0, .nameAndType 635 639), (0, u "([BIII)I"), (52, u "isEmpty"), (72, u "(I)I"), (16, u "valueOf"), (0, u "(C)Ljava/lang/String;"), (37, u "([BIB)V"), (193, .methodref 107 1016), (0, .nameAndType 1017 369), (0, u "canEncode"), (0, .methodref 107 1019), (0, .nameAndType 53 1020), (0, u "(C)[B"), (0, .methodref 42 1019), (25, .methodref 550 493), (0, .fieldref 550 1049), (0, .nameAndType 1050 26), (0, u "maybeLatin1"), (2, .fieldref 1054 1055), (0, .class_ 1056), (0, .nameAndType 1057 1058), (0, u "jdk/internal/util/Preconditions"), (0, u "SIOOBE_FORMATTER"), (0, u "Ljava/util/function/BiFunction;"), (0, .methodref 1054 1060), (0, .nameAndType 501 1061), (0, u "(IILjava/util/function/BiFunction;)I"), (2, u "(IIILjava/util/function/BiFunction;)I"), (0, .methodref 1054 1066), (0, .nameAndType 1067 1064), (0, u "checkFromIndexSize"), (33, u "serialPersistentFields"), (0, u "[Ljava/io/ObjectStreamField;"), (0, .class_ 1104), (0, u "java/lang/String$CaseInsensitiveComparator"), (1, .class_ 1107), (0, u "java/io/Serializable"), (0, .class_ 1109), (0, u "java/lang/Comparable"), (0, .class_ 1111), (0, u "java/lang/constant/Constable"), (0, .class_ 1113), (0, u "java/lang/constant/ConstantDesc"), (2, u "serialVersionUID"), (0, u "J"), (3, u "REPL"), (0, u "C"), (2, u "LATIN1"), (1, u "UTF16"), (105, u "(Ljava/lang/StringBuilder;)V")] 217

def k10m0 : Method := ⟨"<init>", "()V", ⟨[], none⟩, 1, none⟩
def k10c1 : Code := ⟨3, 2, jdk_42_method_53_code, #[], #[]⟩
def k10m1 : Method := ⟨"<init>", "(Ljava/lang/StringBuilder;)V", ⟨[(.object "java/lang/StringBuilder")], none⟩, 1, some k10c1⟩
def k10c2 : Code := ⟨2, 1, jdk_42_method_54_code, #[], #[]⟩
def k10m2 : Method := ⟨"length", "()I", ⟨[], some .int⟩, 1, some k10c2⟩
def k10c3 : Code := ⟨1, 1, jdk_42_method_55_code, #[], #[]⟩
def k10m3 : Method := ⟨"isEmpty", "()Z", ⟨[], some .boolean⟩, 1, some k10c3⟩
def k10c4 : Code := ⟨2, 2, jdk_42_method_56_code, #[], #[]⟩
def k10m4 : Method := ⟨"charAt", "(I)C", ⟨[.int], some .char⟩, 1, some k10c4⟩
def k10c5 : Code := ⟨3, 3, jdk_42_method_59_code, #[], #[]⟩
def k10m5 : Method := ⟨"codePointCount", "(II)I", ⟨[.int, .int], some .int⟩, 1, some k10c5⟩
def k10c6 : Code := ⟨3, 2, jdk_42_method_79_code, #[], #[]⟩
def k10m6 : Method := ⟨"indexOf", "(I)I", ⟨[.int], some .int⟩, 1, some k10c6⟩
def k10c7 : Code := ⟨4, 3, jdk_42_method_80_code, #[], #[]⟩
def k10m7 : Method := ⟨"indexOf", "(II)I", ⟨[.int, .int], some .int⟩, 1, some k10c7⟩
def k10c8 : Code := ⟨4, 1, jdk_42_method_139_code, #[], #[]⟩
def k10m8 : Method := ⟨"valueOf", "(C)Ljava/lang/String;", ⟨[.char], some (.object "java/lang/String")⟩, 9, some k10c8⟩
def k10c9 : Code := ⟨5, 4, jdk_42_method_147_code, #[], #[]⟩
def k10m9 : Method := ⟨"getBytes", "([BIB)V", ⟨[(.array .byte), .int, .byte], none⟩, 0, some k10c9⟩
def k10c10 : Code := ⟨5, 5, jdk_42_method_150_code, #[], #[]⟩
def k10m10 : Method := ⟨"<init>", "(Ljava/lang/AbstractStringBuilder;Ljava/lang/Void;)V", ⟨[(.object "java/lang/AbstractStringBuilder"), (.object "java/lang/Void")], none⟩, 0, some k10c10⟩
def k10c11 : Code := ⟨2, 3, jdk_42_method_151_code, #[], #[]⟩
def k10m11 : Method := ⟨"<init>", "([BB)V", ⟨[(.array .byte), .byte], none⟩, 0, some k10c11⟩
def k10c12 : Code := ⟨1, 1, jdk_42_method_152_code, #[], #[]⟩
def k10m12 : Method := ⟨"coder", "()B", ⟨[], some .byte⟩, 0, some k10c12⟩
def k10c13 : Code := ⟨1, 1, jdk_42_method_154_code, #[], #[]⟩
def k10m13 : Method := ⟨"isLatin1", "()Z", ⟨[], some .boolean⟩, 0, some k10c13⟩
def k10c14 : Code := ⟨3, 2, jdk_42_method_155_code, #[], #[]⟩
def k10m14 : Method := ⟨"checkIndex", "(II)V", ⟨[.int, .int], none⟩, 8, some k10c14⟩
def k10c15 : Code := ⟨4, 3, jdk_42_method_157_code, #[], #[]⟩
def k10m15 : Method := ⟨"checkBoundsOffCount", "(III)I", ⟨[.int, .int, .int], some .int⟩, 8, some k10c15⟩
/-- java/lang/String -/
def k10 : Class := { plain "java/lang/String" (some 0) with
  accessFlags := 49
  interfaces := #[5, 6, 7, 8, 9]
  cf := some (fileOf pool10 10 #[.nestMembers #[1103]] #[⟨1, 5, 6, #[]⟩, ⟨1, 5, 1233, #[]⟩, ⟨1, 507, 334, #[]⟩, ⟨1, 692, 142, #[]⟩, ⟨1, 497, 427, #[]⟩, ⟨1, 516, 636, #[]⟩, ⟨1, 635, 765, #[]⟩, ⟨1, 635, 636, #[]⟩, ⟨9, 782, 783, #[]⟩, ⟨0, 532, 821, #[]⟩, ⟨0, 5, 491, #[]⟩, ⟨0, 5, 211, #[]⟩, ⟨0, 17, 337, #[]⟩, ⟨0, 494, 142, #[]⟩, ⟨8, 501, 391, #[]⟩, ⟨8, 36, 37, #[]⟩] 49 2 #[1106, 1108, 575, 1110, 1112] #[⟨18, 13, 14, #[]⟩, ⟨18, 17, 18, #[]⟩, ⟨2, 21, 22, #[]⟩, ⟨2, 25, 26, #[]⟩, ⟨26, 1116, 1117, #[]⟩, ⟨24, 40, 26, #[]⟩, ⟨26, 1101, 1102, #[]⟩, ⟨26, 1121, 1122, #[]⟩, ⟨25, 599, 600, #[]⟩, ⟨24, 1125, 18, #[]⟩, ⟨24, 1127, 18, #[]⟩])
  fields := #[⟨"value", (.array .byte), 18, 0, 0⟩, ⟨"coder", .byte, 18, 1, 0⟩, ⟨"hash", .int, 2, 2, 0⟩, ⟨"hashIsZero", .boolean, 2, 3, 0⟩, ⟨"serialVersionUID", .long, 26, 0, 0⟩, ⟨"COMPACT_STRINGS", .boolean, 24, 1, 0⟩, ⟨"serialPersistentFields", (.array (.object "java/io/ObjectStreamField")), 26, 2, 0⟩, ⟨"REPL", .char, 26, 3, 0⟩, ⟨"CASE_INSENSITIVE_ORDER", (.object "java/util/Comparator"), 25, 4, 0⟩, ⟨"LATIN1", .byte, 24, 5, 0⟩, ⟨"UTF16", .byte, 24, 6, 0⟩]
  methods := #[k10m0, k10m1, k10m2, k10m3, k10m4, k10m5, k10m6, k10m7, k10m8, k10m9, k10m10, k10m11, k10m12, k10m13, k10m14, k10m15]
  instanceTypes := #[(.array .byte), .byte, .int, .boolean]
  staticTypes := #[.long, .boolean, (.array (.object "java/io/ObjectStreamField")), .char, (.object "java/util/Comparator"), .byte, .byte]
  resolved := Array.replicate 1451 none
  statics := some 1 }

def pool11 : Array CpInfo := pool [(1, .class_ 2), (0, u "java/lang/String"), (1, .class_ 6), (1, u "java/lang/Object"), (0, u "<init>"), (0, u "()V"), (0, .methodref 1 10), (0, .nameAndType 11 12), (0, u "checkIndex"), (0, u "(II)V"), (1, .class_ 16), (1, u "java/lang/StringLatin1"), (0, u "inflate"), (2, .class_ 22), (1, u "java/lang/StringUTF16"), (3, .nameAndType 17 27), (0, u "([BI[BII)V"), (10, .methodref 39 40), (0, .class_ 41), (0, .nameAndType 42 43), (0, u "java/lang/Math"), (0, u "min"), (0, u "(II)I"), (9, u "([BI)C"), (34, .methodref 14 89), (0, .nameAndType 90 91), (0, u "canEncode"), (0, u "(I)Z"), (0, .methodref 39 93), (0, .nameAndType 94 43), (0, u "max"), (0, .methodref 14 96), (0, .nameAndType 97 98), (0, u "indexOfChar"), (0, u "([BIII)I"), (2, u "indexOf"), (3, u "(C)Z"), (15, u "$assertionsDisabled"), (0, u "Z"), (98, .class_ 223), (1, u "java/lang/StringLatin1$LinesSpliterator"), (16, .methodref 20 26), (11, u "charAt"), (127, u "toBytes"), (1, u "(C)[B"), (7, .class_ 391), (0, u "java/lang/StringLatin1$CharsSpliterator")] 3

def k11m0 : Method := ⟨"<init>", "()V", ⟨[], none⟩, 0, none⟩
def k11c1 : Code := ⟨2, 2, jdk_43_method_2_code, #[], #[]⟩
def k11m1 : Method := ⟨"charAt", "([BI)C", ⟨[(.array .byte), .int], some .char⟩, 9, some k11c1⟩
def k11c2 : Code := ⟨2, 1, jdk_43_method_3_code, #[], #[]⟩
def k11m2 : Method := ⟨"canEncode", "(C)Z", ⟨[.char], some .boolean⟩, 9, some k11c2⟩
def k11c3 : Code := ⟨2, 1, jdk_43_method_4_code, #[], #[]⟩
def k11m3 : Method := ⟨"canEncode", "(I)Z", ⟨[.int], some .boolean⟩, 9, some k11c3⟩
def k11c4 : Code := ⟨4, 4, jdk_43_method_22_code, #[], #[]⟩
def k11m4 : Method := ⟨"indexOf", "([BIII)I", ⟨[(.array .byte), .int, .int, .int], some .int⟩, 9, some k11c4⟩
def k11c5 : Code := ⟨2, 6, jdk_43_method_23_code, #[], #[]⟩
def k11m5 : Method := ⟨"indexOfChar", "([BIII)I", ⟨[(.array .byte), .int, .int, .int], some .int⟩, 10, some k11c5⟩
def k11c6 : Code := ⟨4, 1, jdk_43_method_46_code, #[], #[]⟩
def k11m6 : Method := ⟨"toBytes", "(C)[B", ⟨[.char], some (.array .byte)⟩, 9, some k11c6⟩
def k11c7 : Code := ⟨5, 5, jdk_43_method_50_code, #[], #[]⟩
def k11m7 : Method := ⟨"inflate", "([BI[BII)V", ⟨[(.array .byte), .int, (.array .byte), .int, .int], none⟩, 9, some k11c7⟩
/-- java/lang/StringLatin1 -/
def k11 : Class := { plain "java/lang/StringLatin1" (some 0) with
  accessFlags := 48
  interfaces := #[]
  cf := some (fileOf pool11 14 #[.nestMembers #[390, 221]] #[⟨0, 7, 8, #[]⟩, ⟨9, 252, 53, #[]⟩, ⟨9, 90, 105, #[]⟩, ⟨9, 90, 91, #[]⟩, ⟨9, 101, 98, #[]⟩, ⟨10, 97, 98, #[]⟩, ⟨9, 380, 382, #[]⟩, ⟨9, 17, 27, #[]⟩] 48 4 #[] #[⟨4120, 121, 122, #[]⟩])
  fields := #[⟨"$assertionsDisabled", .boolean, 4120, 0, 0⟩]
  methods := #[k11m0, k11m1, k11m2, k11m3, k11m4, k11m5, k11m6, k11m7]
  instanceTypes := #[]
  staticTypes := #[.boolean]
  resolved := Array.replicate 395 none
  statics := none }

def pool12 : Array CpInfo := pool [(2, .class_ 4), (0, .nameAndType 5 6), (0, u "java/lang/Record"), (0, u "<init>"), (0, u "()V"), (0, .fieldref 8 9), (0, .class_ 10), (0, .nameAndType 11 12), (0, u "com/example/crossname/crossname/access/ResourceNameForm"), (0, u "parents"), (0, u "Ljava/lang/String;"), (0, .fieldref 8 14), (0, .nameAndType 15 12), (0, u "parentLabel"), (0, .fieldref 8 17), (0, .nameAndType 18 12), (0, u "collection"), (0, .methodref 8 20), (0, .nameAndType 21 22), (0, u "checkParentId"), (0, u "(Ljava/lang/String;)V"), (0, .string 24), (0, u "id"), (0, .methodref 26 27), (0, .class_ 28), (0, .nameAndType 29 30), (0, u "java/util/Objects"), (0, u "requireNonNull"), (0, u "(Ljava/lang/Object;Ljava/lang/String;)Ljava/lang/Object;"), (0, .methodref 32 33), (0, .class_ 34), (0, .nameAndType 35 36), (0, u "java/lang/String"), (0, u "isEmpty"), (0, u "()Z"), (6, .methodref 32 44), (0, .nameAndType 45 46), (0, u "indexOf"), (0, u "(I)I"), (0, .class_ 48), (0, u "java/lang/StringBuilder"), (0, .methodref 47 3), (0, .methodref 47 51), (0, .nameAndType 52 53), (0, u "append"), (0, u "(Ljava/lang/String;)Ljava/lang/StringBuilder;"), (2, .methodref 47 57), (0, .nameAndType 58 59), (0, u "toString"), (0, u "()Ljava/lang/String;"), (2, .string 63), (0, u "/"), (20, u "format"), (1, .class_ 87), (0, u "com/example/crossname/crossname/access/ResourceNameForm$Ids"), (9, u "(Ljava/lang/String;Ljava/lang/String;)V"), (15, u "check"), (3, u "(Ljava/lang/String;Ljava/lang/String;)Ljava/lang/String;")] 25

def k12c0 : Code := ⟨3, 3, prog_27_method_2_code, #[], #[]⟩
def k12m0 : Method := ⟨"check", "(Ljava/lang/String;Ljava/lang/String;)V", ⟨[(.object "java/lang/String"), (.object "java/lang/String")], none⟩, 0, some k12c0⟩
def k12c1 : Code := ⟨4, 2, prog_27_method_3_code, #[], #[]⟩
def k12m1 : Method := ⟨"checkParentId", "(Ljava/lang/String;)V", ⟨[(.object "java/lang/String")], none⟩, 0, some k12c1⟩
def k12c2 : Code := ⟨2, 3, prog_27_method_5_code, #[], #[]⟩
def k12m2 : Method := ⟨"format", "(Ljava/lang/String;Ljava/lang/String;)Ljava/lang/String;", ⟨[(.object "java/lang/String"), (.object "java/lang/String")], some (.object "java/lang/String")⟩, 0, some k12c2⟩
/-- com/example/crossname/crossname/access/ResourceNameForm -/
def k12 : Class := { plain "com/example/crossname/crossname/access/ResourceNameForm" (some 3) with
  accessFlags := 48
  interfaces := #[]
  cf := some (fileOf pool12 8 #[.nestMembers #[86]] #[⟨0, 113, 97, #[]⟩, ⟨0, 21, 22, #[]⟩, ⟨0, 84, 117, #[]⟩] 48 2 #[] #[⟨18, 11, 12, #[]⟩, ⟨18, 15, 12, #[]⟩, ⟨18, 18, 12, #[]⟩])
  fields := #[⟨"parents", (.object "java/lang/String"), 18, 0, 0⟩, ⟨"parentLabel", (.object "java/lang/String"), 18, 1, 0⟩, ⟨"collection", (.object "java/lang/String"), 18, 2, 0⟩]
  methods := #[k12m0, k12m1, k12m2]
  instanceTypes := #[(.object "java/lang/String"), (.object "java/lang/String"), (.object "java/lang/String")]
  staticTypes := #[]
  resolved := Array.replicate 143 none
  statics := none }

def pool13 : Array CpInfo := pool [(2, .class_ 4), (1, u "java/lang/Object"), (0, u "<init>"), (0, u "()V"), (35, .class_ 44), (1, u "java/util/Objects"), (0, u "requireNonNull"), (48, u "(Ljava/lang/Object;Ljava/lang/String;)Ljava/lang/Object;"), (11, .class_ 108), (1, u "jdk/internal/util/Preconditions"), (2, .methodref 106 112), (0, .nameAndType 113 114), (0, u "checkFromToIndex"), (0, u "(IIILjava/util/function/BiFunction;)I"), (0, .methodref 106 116), (0, .nameAndType 117 114), (0, u "checkFromIndexSize"), (57, u "(III)I")] 8

def k13m0 : Method := ⟨"<init>", "()V", ⟨[], none⟩, 2, none⟩
def k13c1 : Code := ⟨3, 2, jdk_31_method_11_code, #[], #[]⟩
def k13m1 : Method := ⟨"requireNonNull", "(Ljava/lang/Object;Ljava/lang/String;)Ljava/lang/Object;", ⟨[(.object "java/lang/Object"), (.object "java/lang/String")], some (.object "java/lang/Object")⟩, 9, some k13c1⟩
def k13c2 : Code := ⟨4, 3, jdk_31_method_18_code, #[], #[]⟩
def k13m2 : Method := ⟨"checkFromToIndex", "(III)I", ⟨[.int, .int, .int], some .int⟩, 9, some k13c2⟩
def k13c3 : Code := ⟨4, 3, jdk_31_method_19_code, #[], #[]⟩
def k13m3 : Method := ⟨"checkFromIndexSize", "(III)I", ⟨[.int, .int, .int], some .int⟩, 9, some k13c3⟩
/-- java/util/Objects -/
def k13 : Class := { plain "java/util/Objects" (some 0) with
  accessFlags := 49
  interfaces := #[]
  cf := some (fileOf pool13 42 #[] #[⟨2, 5, 6, #[]⟩, ⟨9, 45, 94, #[]⟩, ⟨9, 113, 175, #[]⟩, ⟨9, 117, 175, #[]⟩] 49 2 #[] #[])
  fields := #[]
  methods := #[k13m0, k13m1, k13m2, k13m3]
  instanceTypes := #[]
  staticTypes := #[]
  resolved := Array.replicate 184 none
  statics := none }

def pool14 : Array CpInfo := pool [(1, .class_ 2), (0, u "java/lang/Math"), (1, .class_ 6), (1, u "java/lang/Object"), (0, u "<init>"), (0, u "()V"), (89, .class_ 100), (1, u "java/lang/Math$RandomNumberGeneratorHolder"), (71, u "negativeZeroFloatBits"), (0, u "J"), (2, u "negativeZeroDoubleBits"), (21, u "max"), (2, u "min"), (43, u "$assertionsDisabled"), (0, u "Z"), (88, u "(II)I"), (2, u "twoToTheDoubleScaleDown"), (0, u "D"), (4, u "twoToTheDoubleScaleUp"), (9, u "E"), (3, u "PI"), (2, u "TAU"), (2, u "DEGREES_TO_RADIANS"), (0, u "RADIANS_TO_DEGREES")] 94

def k14m0 : Method := ⟨"<init>", "()V", ⟨[], none⟩, 2, none⟩
def k14c1 : Code := ⟨2, 2, jdk_29_method_65_code, #[], #[]⟩
def k14m1 : Method := ⟨"max", "(II)I", ⟨[.int, .int], some .int⟩, 9, some k14c1⟩
def k14c2 : Code := ⟨2, 2, jdk_29_method_69_code, #[], #[]⟩
def k14m2 : Method := ⟨"min", "(II)I", ⟨[.int, .int], some .int⟩, 9, some k14c2⟩
/-- java/lang/Math -/
def k14 : Class := { plain "java/lang/Math" (some 0) with
  accessFlags := 49
  interfaces := #[]
  cf := some (fileOf pool14 1 #[.nestMembers #[98]] #[⟨2, 7, 8, #[]⟩, ⟨9, 198, 335, #[]⟩, ⟨9, 201, 335, #[]⟩] 49 4 #[] #[⟨25, 354, 339, #[]⟩, ⟨25, 358, 339, #[]⟩, ⟨25, 361, 339, #[]⟩, ⟨26, 364, 339, #[]⟩, ⟨26, 365, 339, #[]⟩, ⟨26, 172, 173, #[]⟩, ⟨26, 176, 173, #[]⟩, ⟨8, 344, 339, #[]⟩, ⟨8, 338, 339, #[]⟩, ⟨4120, 245, 246, #[]⟩])
  fields := #[⟨"E", .double, 25, 0, 0⟩, ⟨"PI", .double, 25, 1, 0⟩, ⟨"TAU", .double, 25, 2, 0⟩, ⟨"DEGREES_TO_RADIANS", .double, 26, 3, 0⟩, ⟨"RADIANS_TO_DEGREES", .double, 26, 4, 0⟩, ⟨"negativeZeroFloatBits", .long, 26, 5, 0⟩, ⟨"negativeZeroDoubleBits", .long, 26, 6, 0⟩, ⟨"twoToTheDoubleScaleUp", .double, 8, 7, 0⟩, ⟨"twoToTheDoubleScaleDown", .double, 8, 8, 0⟩, ⟨"$assertionsDisabled", .boolean, 4120, 9, 0⟩]
  methods := #[k14m0, k14m1, k14m2]
  instanceTypes := #[]
  staticTypes := #[.double, .double, .double, .double, .double, .long, .long, .double, .double, .boolean]
  resolved := Array.replicate 460 none
  statics := none }

def pool15 : Array CpInfo := pool [(1, .class_ 2), (0, u "java/lang/Appendable"), (0, .class_ 4), (0, u "java/lang/Object")] 9

/-- java/lang/Appendable -/
def k15 : Class := { plain "java/lang/Appendable" (some 0) with
  accessFlags := 1537
  interfaces := #[]
  cf := some (fileOf pool15 1 #[] #[] 1537 3 #[] #[])
  fields := #[]
  methods := #[]
  instanceTypes := #[]
  staticTypes := #[]
  resolved := Array.replicate 14 none
  statics := none }

def pool16 : Array CpInfo := pool [(1, .class_ 2), (0, u "java/lang/String"), (0, .methodref 4 5), (0, .class_ 6), (0, .nameAndType 7 8), (0, u "java/lang/Object"), (0, u "<init>"), (0, u "()V"), (1, .class_ 12), (1, u "java/lang/AbstractStringBuilder"), (0, u "EMPTYVALUE"), (0, u "[B"), (0, .fieldref 10 16), (0, .nameAndType 17 14), (0, u "value"), (0, .fieldref 1 19), (0, .nameAndType 20 21), (0, u "COMPACT_STRINGS"), (0, u "Z"), (0, .fieldref 10 23), (0, .nameAndType 24 25), (0, u "coder"), (0, u "B"), (0, .methodref 27 28), (0, .class_ 29), (0, .nameAndType 30 31), (0, u "java/lang/StringUTF16"), (0, u "newBytesFor"), (0, u "(I)[B"), (0, .methodref 1 33), (0, .nameAndType 34 35), (0, u "length"), (0, u "()I"), (3, .integer 2147483647), (0, .methodref 1 41), (0, .nameAndType 24 42), (0, u "()B"), (2, u "append"), (0, u "(Ljava/lang/String;)Ljava/lang/AbstractStringBuilder;"), (1, .class_ 49), (0, u "java/lang/CharSequence"), (19, u "(Ljava/lang/String;)V"), (5, u "maybeLatin1"), (3, .fieldref 10 80), (0, .nameAndType 81 82), (0, u "count"), (0, u "I"), (0, .methodref 10 84), (0, .nameAndType 85 86), (0, u "isLatin1"), (0, u "()Z"), (1, .class_ 90), (1, u "java/lang/StringLatin1"), (9, .methodref 10 101), (0, .nameAndType 102 103), (0, u "ensureCapacityInternal"), (0, u "(I)V"), (0, .methodref 10 105), (0, .nameAndType 106 107), (0, u "newCapacity"), (0, u "(I)I"), (0, .methodref 109 110), (0, .class_ 111), (0, .nameAndType 112 113), (0, u "java/util/Arrays"), (0, u "copyOf"), (0, u "([BI)[B"), (0, .methodref 115 116), (0, .class_ 117), (0, .nameAndType 118 119), (0, u "jdk/internal/util/ArraysSupport"), (0, u "newLength"), (0, u "(III)I"), (5, .methodref 88 126), (0, .nameAndType 127 128), (0, u "inflate"), (0, u "([BI[BII)V"), (66, .methodref 10 196), (0, .nameAndType 127 8), (11, .methodref 10 209), (0, .nameAndType 210 211), (0, u "putStringAt"), (0, u "(ILjava/lang/String;)V"), (5, u "inflateIfNeededFor"), (2, .nameAndType 221 222), (0, u "getBytes"), (0, u "([BIB)V"), (174, .methodref 10 398), (0, .nameAndType 217 69), (0, .methodref 1 220), (3, u "()[B"), (40, .class_ 445), (0, u "java/lang/Appendable"), (106, u "getValue")] 56

def k16m0 : Method := ⟨"<init>", "()V", ⟨[], none⟩, 0, none⟩
def k16c1 : Code := ⟨2, 2, jdk_68_method_2_code, #[], #[]⟩
def k16m1 : Method := ⟨"<init>", "(I)V", ⟨[.int], none⟩, 0, some k16c1⟩
def k16c2 : Code := ⟨1, 1, jdk_68_method_6_code, #[], #[]⟩
def k16m2 : Method := ⟨"length", "()I", ⟨[], some .int⟩, 1, some k16c2⟩
def k16c3 : Code := ⟨4, 3, jdk_68_method_9_code, #[], #[]⟩
def k16m3 : Method := ⟨"ensureCapacityInternal", "(I)V", ⟨[.int], none⟩, 2, some k16c3⟩
def k16c4 : Code := ⟨5, 6, jdk_68_method_10_code, #[], #[]⟩
def k16m4 : Method := ⟨"newCapacity", "(I)I", ⟨[.int], some .int⟩, 2, some k16c4⟩
def k16c5 : Code := ⟨5, 2, jdk_68_method_11_code, #[], #[]⟩
def k16m5 : Method := ⟨"inflate", "()V", ⟨[], none⟩, 2, some k16c5⟩
def k16c6 : Code := ⟨3, 3, jdk_68_method_22_code, #[], #[]⟩
def k16m6 : Method := ⟨"append", "(Ljava/lang/String;)Ljava/lang/AbstractStringBuilder;", ⟨[(.object "java/lang/String")], some (.object "java/lang/AbstractStringBuilder")⟩, 1, some k16c6⟩
def k16c7 : Code := ⟨1, 1, jdk_68_method_64_code, #[], #[]⟩
def k16m7 : Method := ⟨"getValue", "()[B", ⟨[], some (.array .byte)⟩, 16, some k16c7⟩
def k16c8 : Code := ⟨1, 1, jdk_68_method_68_code, #[], #[]⟩
def k16m8 : Method := ⟨"isLatin1", "()Z", ⟨[], some .boolean⟩, 16, some k16c8⟩
def k16c9 : Code := ⟨2, 2, jdk_68_method_71_code, #[], #[]⟩
def k16m9 : Method := ⟨"inflateIfNeededFor", "(Ljava/lang/String;)V", ⟨[(.object "java/lang/String")], none⟩, 2, some k16c9⟩
def k16c10 : Code := ⟨4, 3, jdk_68_method_73_code, #[], #[]⟩
def k16m10 : Method := ⟨"putStringAt", "(ILjava/lang/String;)V", ⟨[.int, (.object "java/lang/String")], none⟩, 2, some k16c10⟩
/-- java/lang/AbstractStringBuilder -/
def k16 : Class := { plain "java/lang/AbstractStringBuilder" (some 0) with
  accessFlags := 1056
  interfaces := #[15, 7]
  cf := some (fileOf pool16 10 #[] #[⟨0, 7, 8, #[]⟩, ⟨0, 7, 103, #[]⟩, ⟨1, 34, 35, #[]⟩, ⟨2, 102, 103, #[]⟩, ⟨2, 106, 107, #[]⟩, ⟨2, 127, 8, #[]⟩, ⟨1, 45, 46, #[]⟩, ⟨16, 552, 403, #[]⟩, ⟨16, 85, 86, #[]⟩, ⟨2, 217, 69, #[]⟩, ⟨2, 210, 211, #[]⟩] 1056 4 #[444, 48] #[⟨0, 17, 14, #[]⟩, ⟨0, 24, 25, #[]⟩, ⟨0, 75, 21, #[]⟩, ⟨0, 81, 82, #[]⟩, ⟨26, 13, 14, #[]⟩])
  fields := #[⟨"value", (.array .byte), 0, 0, 0⟩, ⟨"coder", .byte, 0, 1, 0⟩, ⟨"maybeLatin1", .boolean, 0, 2, 0⟩, ⟨"count", .int, 0, 3, 0⟩, ⟨"EMPTYVALUE", (.array .byte), 26, 0, 0⟩]
  methods := #[k16m0, k16m1, k16m2, k16m3, k16m4, k16m5, k16m6, k16m7, k16m8, k16m9, k16m10]
  instanceTypes := #[(.array .byte), .byte, .boolean, .int]
  staticTypes := #[(.array .byte)]
  resolved := Array.replicate 609 none
  statics := none }

def pool17 : Array CpInfo := pool [(1, .methodref 2 3), (0, .class_ 4), (0, .nameAndType 5 6), (0, u "java/lang/AbstractStringBuilder"), (0, u "<init>"), (0, u "(I)V"), (11, .class_ 20), (1, u "java/lang/String"), (3, .class_ 26), (1, u "java/lang/StringBuilder"), (0, u "append"), (0, u "(Ljava/lang/String;)Ljava/lang/StringBuilder;"), (0, .methodref 2 30), (0, .nameAndType 27 31), (0, u "(Ljava/lang/String;)Ljava/lang/AbstractStringBuilder;"), (105, .methodref 18 138), (0, .nameAndType 5 139), (0, u "(Ljava/lang/StringBuilder;)V"), (5, u "()V"), (10, u "()I"), (186, .methodref 2 344), (0, .nameAndType 345 156), (0, u "length"), (3, .class_ 350), (0, u "java/lang/Appendable"), (0, .class_ 352), (0, u "java/io/Serializable"), (0, .class_ 354), (0, u "java/lang/Comparable"), (0, .class_ 356), (0, u "java/lang/CharSequence"), (0, u "serialVersionUID"), (0, u "J"), (40, u "toString"), (0, u "()Ljava/lang/String;")] 21

def k17c0 : Code := ⟨2, 1, jdk_67_method_1_code, #[], #[]⟩
def k17m0 : Method := ⟨"<init>", "()V", ⟨[], none⟩, 1, some k17c0⟩
def k17c1 : Code := ⟨2, 2, jdk_67_method_7_code, #[], #[]⟩
def k17m1 : Method := ⟨"append", "(Ljava/lang/String;)Ljava/lang/StringBuilder;", ⟨[(.object "java/lang/String")], some (.object "java/lang/StringBuilder")⟩, 1, some k17c1⟩
def k17c2 : Code := ⟨3, 1, jdk_67_method_42_code, #[], #[]⟩
def k17m2 : Method := ⟨"toString", "()Ljava/lang/String;", ⟨[], some (.object "java/lang/String")⟩, 1, some k17c2⟩
def k17c3 : Code := ⟨1, 1, jdk_67_method_93_code, #[], #[]⟩
def k17m3 : Method := ⟨"length", "()I", ⟨[], some .int⟩, 4161, some k17c3⟩
/-- java/lang/StringBuilder -/
def k17 : Class := { plain "java/lang/StringBuilder" (some 16) with
  accessFlags := 49
  interfaces := #[15, 5, 6, 7]
  cf := some (fileOf pool17 24 #[] #[⟨1, 5, 145, #[]⟩, ⟨1, 27, 28, #[]⟩, ⟨1, 399, 400, #[]⟩, ⟨4161, 345, 156, #[]⟩] 49 2 #[349, 351, 353, 355] #[⟨24, 357, 358, #[]⟩])
  fields := #[⟨"serialVersionUID", .long, 24, 0, 0⟩]
  methods := #[k17m0, k17m1, k17m2, k17m3]
  instanceTypes := #[(.array .byte), .byte, .boolean, .int]
  staticTypes := #[.long]
  resolved := Array.replicate 422 none
  statics := none }

def pool18 : Array CpInfo := pool [(2, .class_ 4), (1, u "java/lang/Object"), (0, u "<init>"), (0, u "()V"), (1, .class_ 10), (1, u "java/lang/System"), (0, u "allowSecurityManager"), (0, u "I"), (16, u "cons"), (0, u "Ljava/io/Console;"), (77, .class_ 110), (1, u "java/lang/System$CallersHolder"), (43, u "initialErrStream"), (0, u "Ljava/io/PrintStream;"), (19, u "security"), (0, u "Ljava/lang/SecurityManager;"), (31, .class_ 209), (0, u "java/lang/System$1"), (7, u "props"), (0, u "Ljava/util/Properties;"), (2, u "lineSeparator"), (0, u "Ljava/lang/String;"), (96, .class_ 321), (1, u "java/lang/System$LoggerFinder"), (5, .class_ 328), (0, u "java/lang/System$Logger"), (67, u "err"), (2, u "out"), (91, u "notSupportedJnuEncoding"), (15, u "in"), (17, u "initialIn"), (0, u "Ljava/io/InputStream;"), (35, u "bootLayer"), (0, u "Ljava/lang/ModuleLayer;"), (99, .class_ 664), (0, u "java/lang/System$2"), (9, u "NEVER"), (2, u "MAYBE"), (49, u "arraycopy"), (0, u "(Ljava/lang/Object;ILjava/lang/Object;II)V"), (72, .class_ 802), (0, u "java/lang/System$Logger$Level")] 31

def k18m0 : Method := ⟨"<init>", "()V", ⟨[], none⟩, 2, none⟩
def k18m1 : Method := ⟨"arraycopy", "(Ljava/lang/Object;ILjava/lang/Object;II)V", ⟨[(.object "java/lang/Object"), .int, (.object "java/lang/Object"), .int, .int], none⟩, 265, none⟩
/-- java/lang/System -/
def k18 : Class := { plain "java/lang/System" (some 0) with
  accessFlags := 49
  interfaces := #[]
  cf := some (fileOf pool18 8 #[.nestMembers #[319, 327, 801, 108, 663, 208]] #[⟨2, 5, 6, #[]⟩, ⟨265, 727, 728, #[]⟩] 49 2 #[] #[⟨25, 507, 526, #[]⟩, ⟨25, 399, 155, #[]⟩, ⟨25, 396, 155, #[]⟩, ⟨10, 525, 526, #[]⟩, ⟨26, 674, 12, #[]⟩, ⟨26, 677, 12, #[]⟩, ⟨10, 11, 12, #[]⟩, ⟨74, 175, 176, #[]⟩, ⟨10, 491, 222, #[]⟩, ⟨74, 29, 30, #[]⟩, ⟨74, 154, 155, #[]⟩, ⟨10, 217, 218, #[]⟩, ⟨10, 221, 222, #[]⟩, ⟨8, 562, 563, #[]⟩])
  fields := #[⟨"in", (.object "java/io/InputStream"), 25, 0, 0⟩, ⟨"out", (.object "java/io/PrintStream"), 25, 1, 0⟩, ⟨"err", (.object "java/io/PrintStream"), 25, 2, 0⟩, ⟨"initialIn", (.object "java/io/InputStream"), 10, 3, 0⟩, ⟨"NEVER", .int, 26, 4, 0⟩, ⟨"MAYBE", .int, 26, 5, 0⟩, ⟨"allowSecurityManager", .int, 10, 6, 0⟩, ⟨"security", (.object "java/lang/SecurityManager"), 74, 7, 0⟩, ⟨"notSupportedJnuEncoding", (.object "java/lang/String"), 10, 8, 0⟩, ⟨"cons", (.object "java/io/Console"), 74, 9, 0⟩, ⟨"initialErrStream", (.object "java/io/PrintStream"), 74, 10, 0⟩, ⟨"props", (.object "java/util/Properties"), 10, 11, 0⟩, ⟨"lineSeparator", (.object "java/lang/String"), 10, 12, 0⟩, ⟨"bootLayer", (.object "java/lang/ModuleLayer"), 8, 13, 0⟩]
  methods := #[k18m0, k18m1]
  instanceTypes := #[]
  staticTypes := #[(.object "java/io/InputStream"), (.object "java/io/PrintStream"), (.object "java/io/PrintStream"), (.object "java/io/InputStream"), .int, .int, .int, (.object "java/lang/SecurityManager"), (.object "java/lang/String"), (.object "java/io/Console"), (.object "java/io/PrintStream"), (.object "java/util/Properties"), (.object "java/lang/String"), (.object "java/lang/ModuleLayer")]
  resolved := Array.replicate 834 none
  statics := none }

def pool19 : Array CpInfo := pool [(9, u "<init>"), (6, .class_ 18), (1, u "java/lang/Object"), (0, u "()V"), (1, .class_ 23), (1, u "jdk/internal/util/ArraysSupport"), (0, u "LOG2_ARRAY_LONG_INDEX_SCALE"), (0, u "I"), (2, u "U"), (0, u "Ljdk/internal/misc/Unsafe;"), (8, u "BIG_ENDIAN"), (0, u "Z"), (8, u "LOG2_BYTE_BIT_SIZE"), (4, u "LOG2_ARRAY_INT_INDEX_SCALE"), (54, u "JLA"), (0, u "Ljdk/internal/access/JavaLangAccess;"), (11, u "LOG2_ARRAY_BOOLEAN_INDEX_SCALE"), (9, u "LOG2_ARRAY_BYTE_INDEX_SCALE"), (5, u "LOG2_ARRAY_CHAR_INDEX_SCALE"), (5, u "LOG2_ARRAY_SHORT_INDEX_SCALE"), (18, u "LOG2_ARRAY_FLOAT_INDEX_SCALE"), (24, u "LOG2_ARRAY_DOUBLE_INDEX_SCALE"), (6, .methodref 195 196), (0, .class_ 197), (0, .nameAndType 198 199), (0, u "java/lang/Math"), (0, u "max"), (0, u "(II)I"), (0, .integer 2147483639), (76, u "T_BOOLEAN"), (2, u "T_CHAR"), (1, u "T_FLOAT"), (1, u "T_DOUBLE"), (1, u "T_BYTE"), (1, u "T_SHORT"), (1, u "T_INT"), (1, u "T_LONG"), (1, u "SOFT_MAX_ARRAY_LENGTH"), (56, u "newLength"), (0, u "(III)I")] 25

def k19m0 : Method := ⟨"<init>", "()V", ⟨[], none⟩, 2, none⟩
def k19c1 : Code := ⟨3, 4, jdk_48_method_27_code, #[], #[]⟩
def k19m1 : Method := ⟨"newLength", "(III)I", ⟨[.int, .int, .int], some .int⟩, 9, some k19c1⟩
/-- jdk/internal/util/ArraysSupport -/
def k19 : Class := { plain "jdk/internal/util/ArraysSupport" (some 0) with
  accessFlags := 33
  interfaces := #[]
  cf := some (fileOf pool19 21 #[] #[⟨2, 9, 19, #[]⟩, ⟨9, 351, 352, #[]⟩] 33 16 #[] #[⟨24, 28, 29, #[]⟩, ⟨26, 38, 39, #[]⟩, ⟨25, 121, 25, #[]⟩, ⟨25, 131, 25, #[]⟩, ⟨25, 137, 25, #[]⟩, ⟨25, 143, 25, #[]⟩, ⟨25, 53, 25, #[]⟩, ⟨25, 24, 25, #[]⟩, ⟨25, 162, 25, #[]⟩, ⟨25, 187, 25, #[]⟩, ⟨26, 48, 25, #[]⟩, ⟨25, 277, 25, #[]⟩, ⟨25, 280, 25, #[]⟩, ⟨25, 282, 25, #[]⟩, ⟨25, 284, 25, #[]⟩, ⟨25, 286, 25, #[]⟩, ⟨25, 288, 25, #[]⟩, ⟨25, 290, 25, #[]⟩, ⟨25, 292, 25, #[]⟩, ⟨26, 108, 109, #[]⟩, ⟨25, 294, 25, #[]⟩])
  fields := #[⟨"U", (.object "jdk/internal/misc/Unsafe"), 24, 0, 0⟩, ⟨"BIG_ENDIAN", .boolean, 26, 1, 0⟩, ⟨"LOG2_ARRAY_BOOLEAN_INDEX_SCALE", .int, 25, 2, 0⟩, ⟨"LOG2_ARRAY_BYTE_INDEX_SCALE", .int, 25, 3, 0⟩, ⟨"LOG2_ARRAY_CHAR_INDEX_SCALE", .int, 25, 4, 0⟩, ⟨"LOG2_ARRAY_SHORT_INDEX_SCALE", .int, 25, 5, 0⟩, ⟨"LOG2_ARRAY_INT_INDEX_SCALE", .int, 25, 6, 0⟩, ⟨"LOG2_ARRAY_LONG_INDEX_SCALE", .int, 25, 7, 0⟩, ⟨"LOG2_ARRAY_FLOAT_INDEX_SCALE", .int, 25, 8, 0⟩, ⟨"LOG2_ARRAY_DOUBLE_INDEX_SCALE", .int, 25, 9, 0⟩, ⟨"LOG2_BYTE_BIT_SIZE", .int, 26, 10, 0⟩, ⟨"T_BOOLEAN", .int, 25, 11, 0⟩, ⟨"T_CHAR", .int, 25, 12, 0⟩, ⟨"T_FLOAT", .int, 25, 13, 0⟩, ⟨"T_DOUBLE", .int, 25, 14, 0⟩, ⟨"T_BYTE", .int, 25, 15, 0⟩, ⟨"T_SHORT", .int, 25, 16, 0⟩, ⟨"T_INT", .int, 25, 17, 0⟩, ⟨"T_LONG", .int, 25, 18, 0⟩, ⟨"JLA", (.object "jdk/internal/access/JavaLangAccess"), 26, 19, 0⟩, ⟨"SOFT_MAX_ARRAY_LENGTH", .int, 25, 20, 0⟩]
  methods := #[k19m0, k19m1]
  instanceTypes := #[]
  staticTypes := #[(.object "jdk/internal/misc/Unsafe"), .boolean, .int, .int, .int, .int, .int, .int, .int, .int, .int, .int, .int, .int, .int, .int, .int, .int, .int, (.object "jdk/internal/access/JavaLangAccess"), .int]
  resolved := Array.replicate 378 none
  statics := none }

def pool20 : Array CpInfo := pool [(2, .class_ 4), (1, u "java/lang/Object"), (0, u "<init>"), (0, u "()V"), (7, .class_ 16), (1, u "java/util/Arrays"), (57, .class_ 76), (1, u "java/util/Arrays$NaturalOrder"), (36, .class_ 115), (1, u "java/util/Arrays$LegacyMergeSort"), (1, u "Z"), (21, u "copyOfRange"), (10, .methodref 151 152), (0, .class_ 153), (0, .nameAndType 154 155), (0, u "java/lang/System"), (0, u "arraycopy"), (0, u "(Ljava/lang/Object;ILjava/lang/Object;II)V"), (146, u "copyOf"), (1, .methodref 305 306), (0, .class_ 307), (0, .nameAndType 308 309), (0, u "java/lang/Math"), (0, u "min"), (0, u "(II)I"), (29, .methodref 14 340), (0, .nameAndType 341 342), (0, u "copyOfRangeByte"), (0, u "([BII)[B"), (0, .methodref 14 344), (0, .nameAndType 345 346), (0, u "checkLength"), (0, u "(II)V"), (28, .class_ 376), (0, u "java/util/Arrays$ArrayList"), (68, u "$assertionsDisabled"), (269, u "MIN_ARRAY_SORT_GRAN"), (0, u "I"), (2, u "INSERTIONSORT_THRESHOLD"), (149, u "([BI)[B"), (105, .class_ 976), (0, u "java/util/Arrays$ArrayItr")] 52

def k20m0 : Method := ⟨"<init>", "()V", ⟨[], none⟩, 2, none⟩
def k20c1 : Code := ⟨6, 3, jdk_65_method_121_code, #[], #[]⟩
def k20m1 : Method := ⟨"copyOf", "([BI)[B", ⟨[(.array .byte), .int], some (.array .byte)⟩, 9, some k20c1⟩
def k20c2 : Code := ⟨4, 2, jdk_65_method_131_code, #[], #[]⟩
def k20m2 : Method := ⟨"checkLength", "(II)V", ⟨[.int, .int], none⟩, 10, some k20c2⟩
def k20c3 : Code := ⟨3, 3, jdk_65_method_132_code, #[], #[]⟩
def k20m3 : Method := ⟨"copyOfRange", "([BII)[B", ⟨[(.array .byte), .int, .int], some (.array .byte)⟩, 9, some k20c3⟩
def k20c4 : Code := ⟨6, 5, jdk_65_method_133_code, #[], #[]⟩
def k20m4 : Method := ⟨"copyOfRangeByte", "([BII)[B", ⟨[(.array .byte), .int, .int], some (.array .byte)⟩, 10, some k20c4⟩
/-- java/util/Arrays -/
def k20 : Class := { plain "java/util/Arrays" (some 0) with
  accessFlags := 49
  interfaces := #[]
  cf := some (fileOf pool20 14 #[.nestMembers #[975, 375, 113, 74]] #[⟨2, 5, 6, #[]⟩, ⟨9, 302, 869, #[]⟩, ⟨10, 345, 346, #[]⟩, ⟨9, 139, 342, #[]⟩, ⟨10, 341, 342, #[]⟩] 49 2 #[] #[⟨26, 715, 716, #[]⟩, ⟨26, 719, 716, #[]⟩, ⟨4120, 445, 117, #[]⟩])
  fields := #[⟨"MIN_ARRAY_SORT_GRAN", .int, 26, 0, 0⟩, ⟨"INSERTIONSORT_THRESHOLD", .int, 26, 1, 0⟩, ⟨"$assertionsDisabled", .boolean, 4120, 2, 0⟩]
  methods := #[k20m0, k20m1, k20m2, k20m3, k20m4]
  instanceTypes := #[]
  staticTypes := #[.int, .int, .boolean]
  resolved := Array.replicate 1029 none
  statics := none }

def pool21 : Array CpInfo := pool [(2, .class_ 4), (1, u "java/lang/Object"), (0, u "<init>"), (0, u "()V"), (17, .class_ 26), (1, u "jdk/internal/util/Preconditions"), (6, u "checkIndex"), (13, u "checkFromToIndex"), (1, u "checkFromIndexSize"), (5, .class_ 56), (0, u "jdk/internal/util/Preconditions$4"), (57, .class_ 115), (0, u "jdk/internal/util/Preconditions$1"), (7, u "SIOOBE_FORMATTER"), (0, u "Ljava/util/function/BiFunction;"), (0, .class_ 126), (0, u "jdk/internal/util/Preconditions$2"), (3, u "AIOOBE_FORMATTER"), (0, .class_ 132), (0, u "jdk/internal/util/Preconditions$3"), (3, u "IOOBE_FORMATTER"), (41, u "(IILjava/util/function/BiFunction;)I"), (4, u "(IIILjava/util/function/BiFunction;)I")] 10

def k21m0 : Method := ⟨"<init>", "()V", ⟨[], none⟩, 1, none⟩
def k21c1 : Code := ⟨3, 3, jdk_41_method_11_code, #[], #[]⟩
def k21m1 : Method := ⟨"checkIndex", "(IILjava/util/function/BiFunction;)I", ⟨[.int, .int, (.object "java/util/function/BiFunction")], some .int⟩, 9, some k21c1⟩
def k21c2 : Code := ⟨4, 4, jdk_41_method_12_code, #[], #[]⟩
def k21m2 : Method := ⟨"checkFromToIndex", "(IIILjava/util/function/BiFunction;)I", ⟨[.int, .int, .int, (.object "java/util/function/BiFunction")], some .int⟩, 9, some k21c2⟩
def k21c3 : Code := ⟨4, 4, jdk_41_method_13_code, #[], #[]⟩
def k21m3 : Method := ⟨"checkFromIndexSize", "(IIILjava/util/function/BiFunction;)I", ⟨[.int, .int, .int, (.object "java/util/function/BiFunction")], some .int⟩, 9, some k21c3⟩
/-- jdk/internal/util/Preconditions -/
def k21 : Class := { plain "jdk/internal/util/Preconditions" (some 0) with
  accessFlags := 33
  interfaces := #[]
  cf := some (fileOf pool21 24 #[.nestMembers #[55, 131, 125, 114]] #[⟨1, 5, 6, #[]⟩, ⟨9, 33, 178, #[]⟩, ⟨9, 47, 183, #[]⟩, ⟨9, 49, 183, #[]⟩] 33 2 #[] #[⟨25, 123, 124, #[]⟩, ⟨25, 130, 124, #[]⟩, ⟨25, 136, 124, #[]⟩])
  fields := #[⟨"SIOOBE_FORMATTER", (.object "java/util/function/BiFunction"), 25, 0, 0⟩, ⟨"AIOOBE_FORMATTER", (.object "java/util/function/BiFunction"), 25, 1, 0⟩, ⟨"IOOBE_FORMATTER", (.object "java/util/function/BiFunction"), 25, 2, 0⟩]
  methods := #[k21m0, k21m1, k21m2, k21m3]
  instanceTypes := #[]
  staticTypes := #[(.object "java/util/function/BiFunction"), (.object "java/util/function/BiFunction"), (.object "java/util/function/BiFunction")]
  resolved := Array.replicate 194 none
  statics := some 2 }

def pool22 : Array CpInfo := pool [(1, .methodref 2 3), (0, .class_ 4), (0, .nameAndType 5 6), (0, u "java/lang/Record"), (0, u "<init>"), (0, u "()V"), (0, .string 8), (0, u "bytes"), (0, .methodref 10 11), (0, .class_ 12), (0, .nameAndType 13 14), (0, u "java/util/Objects"), (0, u "requireNonNull"), (0, u "(Ljava/lang/Object;Ljava/lang/String;)Ljava/lang/Object;"), (0, .class_ 16), (0, u "[B"), (0, .methodref 15 18), (0, .nameAndType 19 20), (0, u "clone"), (0, u "()Ljava/lang/Object;"), (0, .class_ 22), (0, u "com/example/crossname/crossname/access/Version"), (21, .fieldref 21 45), (0, .nameAndType 8 16), (14, u "([B)V"), (33, .class_ 95), (0, u "java/lang/Comparable"), (0, u "MAX_BYTES"), (0, u "I"), (6, u "()[B")] 10

def k22c0 : Code := ⟨4, 2, prog_31_method_1_code, #[], #[]⟩
def k22m0 : Method := ⟨"<init>", "([B)V", ⟨[(.array .byte)], none⟩, 1, some k22c0⟩
def k22c1 : Code := ⟨1, 1, prog_31_method_2_code, #[], #[]⟩
def k22m1 : Method := ⟨"bytes", "()[B", ⟨[], some (.array .byte)⟩, 1, some k22c1⟩
/-- com/example/crossname/crossname/access/Version -/
def k22 : Class := { plain "com/example/crossname/crossname/access/Version" (some 3) with
  accessFlags := 49
  interfaces := #[6]
  cf := some (fileOf pool22 21 #[] #[⟨1, 5, 60, #[]⟩, ⟨1, 8, 104, #[]⟩] 49 2 #[94] #[⟨18, 8, 16, #[]⟩, ⟨26, 96, 97, #[]⟩])
  fields := #[⟨"bytes", (.array .byte), 18, 0, 0⟩, ⟨"MAX_BYTES", .int, 26, 0, 0⟩]
  methods := #[k22m0, k22m1]
  instanceTypes := #[(.array .byte)]
  staticTypes := #[.int]
  resolved := Array.replicate 115 none
  statics := none }

def pool23 : Array CpInfo := pool [(1, .class_ 2), (0, u "java/lang/Cloneable"), (0, .class_ 4), (0, u "java/lang/Object")] 2

/-- java/lang/Cloneable -/
def k23 : Class := { plain "java/lang/Cloneable" (some 0) with
  accessFlags := 1537
  interfaces := #[]
  cf := some (fileOf pool23 1 #[] #[] 1537 3 #[] #[])
  fields := #[]
  methods := #[]
  instanceTypes := #[]
  staticTypes := #[]
  resolved := Array.replicate 7 none
  statics := none }

def pool24 : Array CpInfo := pool [(1, .class_ 2), (0, u "com/example/crossname/crossname/store/Records"), (0, .methodref 4 5), (0, .class_ 6), (0, .nameAndType 7 8), (0, u "java/lang/Object"), (0, u "<init>"), (0, u "()V"), (0, .class_ 10), (0, u "java/io/ByteArrayOutputStream"), (0, .methodref 9 5), (0, .fieldref 13 14), (0, .class_ 15), (0, .nameAndType 16 17), (0, u "com/example/crossname/crossname/store/Records$Output"), (0, u "bytes"), (0, u "Ljava/io/ByteArrayOutputStream;"), (0, .methodref 9 19), (0, .nameAndType 20 21), (0, u "toByteArray"), (0, u "()[B"), (0, .methodref 9 23), (0, .nameAndType 24 25), (0, u "write"), (0, u "(I)V"), (0, .long 18446744073709551488), (1, .long 127), (1, .methodref 13 31), (0, .nameAndType 32 33), (0, u "number"), (0, u "(J)V"), (0, .methodref 35 36), (0, .class_ 37), (0, .nameAndType 38 39), (0, u "java/lang/String"), (0, u "length"), (0, u "()I"), (0, .methodref 13 41), (0, .nameAndType 42 25), (0, u "count"), (0, .methodref 35 44), (0, .nameAndType 45 46), (0, u "charAt"), (0, u "(I)C"), (30, .methodref 13 78), (0, .nameAndType 79 80), (0, u "string"), (0, u "(Ljava/lang/String;)V"), (8, u "()Ljava/lang/String;"), (3, .nameAndType 94 89), (0, u "id"), (0, .methodref 96 97), (0, .class_ 98), (0, .nameAndType 99 89), (0, u "com/example/crossname/crossname/access/ItemName"), (0, u "dataSource"), (0, .methodref 96 93), (0, .methodref 102 103), (0, .class_ 104), (0, .nameAndType 16 21), (0, u "com/example/crossname/crossname/access/Version"), (0, .methodref 9 106), (0, .nameAndType 107 108), (0, u "writeBytes"), (0, u "([B)V"), (24, u "tag"), (0, u "(B)V"), (19, u "itemName"), (0, u "(Lcom/example/crossname/crossname/access/ItemName;)V"), (0, u "version"), (0, u "(Lcom/example/crossname/crossname/access/Version;)V")] 12

def k24c0 : Code := ⟨3, 1, prog_53_method_1_code, #[], #[]⟩
def k24m0 : Method := ⟨"<init>", "()V", ⟨[], none⟩, 2, some k24c0⟩
def k24c1 : Code := ⟨1, 1, prog_53_method_2_code, #[], #[]⟩
def k24m1 : Method := ⟨"bytes", "()[B", ⟨[], some (.array .byte)⟩, 0, some k24c1⟩
def k24c2 : Code := ⟨2, 2, prog_53_method_3_code, #[], #[]⟩
def k24m2 : Method := ⟨"tag", "(B)V", ⟨[.byte], none⟩, 0, some k24c2⟩
def k24c3 : Code := ⟨5, 5, prog_53_method_4_code, #[], #[]⟩
def k24m3 : Method := ⟨"number", "(J)V", ⟨[.long], none⟩, 0, some k24c3⟩
def k24c4 : Code := ⟨3, 2, prog_53_method_5_code, #[], #[]⟩
def k24m4 : Method := ⟨"count", "(I)V", ⟨[.int], none⟩, 0, some k24c4⟩
def k24c5 : Code := ⟨4, 4, prog_53_method_6_code, #[], #[]⟩
def k24m5 : Method := ⟨"string", "(Ljava/lang/String;)V", ⟨[(.object "java/lang/String")], none⟩, 0, some k24c5⟩
def k24c6 : Code := ⟨2, 2, prog_53_method_9_code, #[], #[]⟩
def k24m6 : Method := ⟨"itemName", "(Lcom/example/crossname/crossname/access/ItemName;)V", ⟨[(.object "com/example/crossname/crossname/access/ItemName")], none⟩, 0, some k24c6⟩
def k24c7 : Code := ⟨2, 3, prog_53_method_10_code, #[], #[]⟩
def k24m7 : Method := ⟨"version", "(Lcom/example/crossname/crossname/access/Version;)V", ⟨[(.object "com/example/crossname/crossname/access/Version")], none⟩, 0, some k24c7⟩
/-- com/example/crossname/crossname/store/Records$Output -/
def k24 : Class := { plain "com/example/crossname/crossname/store/Records$Output" (some 0) with
  accessFlags := 32
  interfaces := #[]
  cf := some (fileOf pool24 13 #[.nestHost 1] #[⟨2, 7, 8, #[]⟩, ⟨0, 16, 21, #[]⟩, ⟨0, 133, 134, #[]⟩, ⟨0, 32, 33, #[]⟩, ⟨0, 42, 25, #[]⟩, ⟨0, 79, 80, #[]⟩, ⟨0, 154, 155, #[]⟩, ⟨0, 156, 157, #[]⟩] 32 4 #[] #[⟨18, 16, 17, #[]⟩])
  fields := #[⟨"bytes", (.object "java/io/ByteArrayOutputStream"), 18, 0, 0⟩]
  methods := #[k24m0, k24m1, k24m2, k24m3, k24m4, k24m5, k24m6, k24m7]
  instanceTypes := #[(.object "java/io/ByteArrayOutputStream")]
  staticTypes := #[]
  resolved := Array.replicate 170 none
  statics := none }

def pool25 : Array CpInfo := pool [(1, .class_ 2), (0, u "java/lang/AutoCloseable"), (0, .class_ 4), (0, u "java/lang/Object")] 7

/-- java/lang/AutoCloseable -/
def k25 : Class := { plain "java/lang/AutoCloseable" (some 0) with
  accessFlags := 1537
  interfaces := #[]
  cf := some (fileOf pool25 1 #[] #[] 1537 3 #[] #[])
  fields := #[]
  methods := #[]
  instanceTypes := #[]
  staticTypes := #[]
  resolved := Array.replicate 12 none
  statics := none }

def pool26 : Array CpInfo := pool [(1, .class_ 2), (0, u "java/io/Closeable"), (0, .class_ 4), (0, u "java/lang/Object"), (0, .class_ 6), (0, u "java/lang/AutoCloseable")] 7

/-- java/io/Closeable -/
def k26 : Class := { plain "java/io/Closeable" (some 0) with
  accessFlags := 1537
  interfaces := #[25]
  cf := some (fileOf pool26 1 #[] #[] 1537 3 #[5] #[])
  fields := #[]
  methods := #[]
  instanceTypes := #[]
  staticTypes := #[]
  resolved := Array.replicate 14 none
  statics := none }

def pool27 : Array CpInfo := pool [(1, .class_ 2), (0, u "java/io/Flushable"), (0, .class_ 4), (0, u "java/lang/Object")] 7

/-- java/io/Flushable -/
def k27 : Class := { plain "java/io/Flushable" (some 0) with
  accessFlags := 1537
  interfaces := #[]
  cf := some (fileOf pool27 1 #[] #[] 1537 3 #[] #[])
  fields := #[]
  methods := #[]
  instanceTypes := #[]
  staticTypes := #[]
  resolved := Array.replicate 12 none
  statics := none }

def pool28 : Array CpInfo := pool [(1, .methodref 2 3), (0, .class_ 4), (0, .nameAndType 5 6), (0, u "java/lang/Object"), (0, u "<init>"), (0, u "()V"), (0, .class_ 8), (0, u "java/io/OutputStream$1"), (2, .class_ 13), (1, u "java/io/OutputStream"), (11, .class_ 26), (0, u "java/io/Closeable"), (0, .class_ 28), (0, u "java/io/Flushable")] 24

def k28c0 : Code := ⟨1, 1, jdk_2038_method_1_code, #[], #[]⟩
def k28m0 : Method := ⟨"<init>", "()V", ⟨[], none⟩, 1, some k28c0⟩
/-- java/io/OutputStream -/
def k28 : Class := { plain "java/io/OutputStream" (some 0) with
  accessFlags := 1057
  interfaces := #[26, 27]
  cf := some (fileOf pool28 11 #[.nestMembers #[7]] #[⟨1, 5, 6, #[]⟩] 1057 2 #[25, 27] #[])
  fields := #[]
  methods := #[k28m0]
  instanceTypes := #[]
  staticTypes := #[]
  resolved := Array.replicate 53 none
  statics := none }

def pool29 : Array CpInfo := pool [(1, .methodref 2 3), (0, .class_ 4), (0, .nameAndType 5 6), (0, u "java/io/ByteArrayOutputStream"), (0, u "<init>"), (0, u "(I)V"), (0, .methodref 8 9), (0, .class_ 10), (0, .nameAndType 5 11), (0, u "java/io/OutputStream"), (0, u "()V"), (21, .fieldref 2 34), (0, .nameAndType 35 36), (0, u "buf"), (0, u "[B"), (5, u "(III)I"), (0, .methodref 44 45), (0, .class_ 46), (0, .nameAndType 47 48), (0, u "java/util/Arrays"), (0, u "copyOf"), (0, u "([BI)[B"), (0, .fieldref 2 50), (0, .nameAndType 51 52), (0, u "count"), (0, u "I"), (0, .methodref 2 54), (0, .nameAndType 55 6), (0, u "ensureCapacity"), (0, .methodref 57 58), (0, .class_ 59), (0, .nameAndType 60 42), (0, u "java/util/Objects"), (0, u "checkFromIndexSize"), (0, .methodref 62 63), (0, .class_ 64), (0, .nameAndType 65 66), (0, u "java/lang/System"), (0, u "arraycopy"), (0, u "(Ljava/lang/Object;ILjava/lang/Object;II)V"), (0, .methodref 2 68), (0, .nameAndType 69 70), (0, u "write"), (0, u "([BII)V"), (12, u "([B)V"), (27, u "writeBytes"), (14, u "toByteArray"), (0, u "()[B")] 17

def k29c0 : Code := ⟨2, 1, jdk_2005_method_1_code, #[], #[]⟩
def k29m0 : Method := ⟨"<init>", "()V", ⟨[], none⟩, 1, some k29c0⟩
def k29c1 : Code := ⟨4, 2, jdk_2005_method_2_code, #[], #[]⟩
def k29m1 : Method := ⟨"<init>", "(I)V", ⟨[.int], none⟩, 1, some k29c1⟩
def k29c2 : Code := ⟨5, 4, jdk_2005_method_3_code, #[], #[]⟩
def k29m2 : Method := ⟨"ensureCapacity", "(I)V", ⟨[.int], none⟩, 2, some k29c2⟩
def k29c3 : Code := { maxStack := 3, maxLocals := 2, code := ⟨#[0x2a, 0x2a, 0xb4, 0x00, 0x31, 0x04, 0x60, 0xb6, 0x00, 0x35, 0x2a, 0xb4, 0x00, 0x21, 0x2a, 0xb4, 0x00, 0x31, 0x1b, 0x91, 0x54, 0x2a, 0x59, 0xb4, 0x00, 0x31, 0x04, 0x60, 0xb5, 0x00, 0x31, 0xb1]⟩, exceptionTable := #[], attributes := #[] }
def k29m3 : Method := ⟨"write", "(I)V", ⟨[.int], none⟩, 33, some k29c3⟩
def k29c4 : Code := { maxStack := 5, maxLocals := 4, code := ⟨#[0x1c, 0x1d, 0x2b, 0xbe, 0xb8, 0x00, 0x38, 0x57, 0x2a, 0x2a, 0xb4, 0x00, 0x31, 0x1d, 0x60, 0xb6, 0x00, 0x35, 0x2b, 0x1c, 0x2a, 0xb4, 0x00, 0x21, 0x2a, 0xb4, 0x00, 0x31, 0x1d, 0xb8, 0x00, 0x3d, 0x2a, 0x59, 0xb4, 0x00, 0x31, 0x1d, 0x60, 0xb5, 0x00, 0x31, 0xb1]⟩, exceptionTable := #[], attributes := #[] }
def k29m4 : Method := ⟨"write", "([BII)V", ⟨[(.array .byte), .int, .int], none⟩, 33, some k29c4⟩
def k29c5 : Code := ⟨4, 2, jdk_2005_method_6_code, #[], #[]⟩
def k29m5 : Method := ⟨"writeBytes", "([B)V", ⟨[(.array .byte)], none⟩, 1, some k29c5⟩
def k29c6 : Code := { maxStack := 2, maxLocals := 1, code := ⟨#[0x2a, 0xb4, 0x00, 0x21, 0x2a, 0xb4, 0x00, 0x31, 0xb8, 0x00, 0x2b, 0xb0]⟩, exceptionTable := #[], attributes := #[] }
def k29m6 : Method := ⟨"toByteArray", "()[B", ⟨[], some (.array .byte)⟩, 33, some k29c6⟩
/-- java/io/ByteArrayOutputStream -/
def k29 : Class := { plain "java/io/ByteArrayOutputStream" (some 28) with
  accessFlags := 33
  interfaces := #[]
  cf := some (fileOf pool29 2 #[] #[⟨1, 5, 11, #[]⟩, ⟨1, 5, 6, #[]⟩, ⟨2, 55, 6, #[]⟩, ⟨33, 69, 6, #[]⟩, ⟨33, 69, 70, #[]⟩, ⟨1, 111, 83, #[]⟩, ⟨33, 126, 127, #[]⟩] 33 8 #[] #[⟨4, 35, 36, #[]⟩, ⟨4, 51, 52, #[]⟩])
  fields := #[⟨"buf", (.array .byte), 4, 0, 0⟩, ⟨"count", .int, 4, 1, 0⟩]
  methods := #[k29m0, k29m1, k29m2, k29m3, k29m4, k29m5, k29m6]
  instanceTypes := #[(.array .byte), .int]
  staticTypes := #[]
  resolved := Array.replicate 145 none
  statics := none }

def pool30 : Array CpInfo := pool [(3, .class_ 4), (0, u "java/lang/String"), (1, .class_ 8), (1, u "java/lang/Object"), (0, u "<init>"), (0, u "()V"), (0, .methodref 12 13), (0, .class_ 14), (0, .nameAndType 15 16), (0, u "java/lang/StringUTF16"), (0, u "newBytesLength"), (0, u "(I)I"), (3, .integer 1073741823), (23, .fieldref 12 45), (0, .nameAndType 46 47), (0, u "$assertionsDisabled"), (0, u "Z"), (0, .methodref 12 49), (0, .nameAndType 50 51), (0, u "length"), (0, u "([B)I"), (7, .fieldref 12 60), (0, .nameAndType 61 62), (0, u "HI_BYTE_SHIFT"), (0, u "I"), (0, .fieldref 12 64), (0, .nameAndType 65 62), (0, u "LO_BYTE_SHIFT"), (1, .methodref 12 68), (0, .nameAndType 69 70), (0, u "checkIndex"), (0, u "(I[B)V"), (0, .methodref 12 72), (0, .nameAndType 73 74), (0, u "getChar"), (0, u "([BI)C"), (0, .methodref 76 77), (0, .class_ 78), (0, .nameAndType 79 80), (0, u "java/lang/Character"), (0, u "isHighSurrogate"), (0, u "(C)Z"), (10, u "([BIIZ)I"), (7, u "(II[B)V"), (0, .methodref 12 101), (0, .nameAndType 102 91), (0, u "codePointCount"), (6, u "newBytesFor"), (0, u "(I)[B"), (0, .methodref 12 112), (0, .nameAndType 113 114), (0, u "putChar"), (0, u "([BII)V"), (6, u "toBytes"), (18, u "inflate"), (0, u "([BI[BII)V"), (31, .methodref 12 174), (0, .nameAndType 175 99), (0, u "checkBoundsOffCount"), (74, u "([BII)I"), (30, u "(III)I"), (87, .class_ 371), (1, u "java/lang/StringUTF16$LinesSpliterator"), (20, u "charAt"), (21, .methodref 3 415), (0, .nameAndType 69 416), (0, u "(II)V"), (2, .methodref 3 420), (0, .nameAndType 175 281), (9, u "MAX_LENGTH"), (44, u "(C)[B"), (151, .class_ 628), (0, u "java/lang/StringUTF16$CodePointsSpliterator"), (0, .class_ 630), (0, u "java/lang/StringUTF16$CharsSpliterator")] 4

def k30m0 : Method := ⟨"<init>", "()V", ⟨[], none⟩, 0, none⟩
def k30c1 : Code := ⟨1, 1, jdk_52_method_2_code, #[], #[]⟩
def k30m1 : Method := ⟨"newBytesFor", "(I)[B", ⟨[.int], some (.array .byte)⟩, 9, some k30c1⟩
def k30c2 : Code := ⟨4, 1, jdk_52_method_3_code, #[], #[]⟩
def k30m2 : Method := ⟨"newBytesLength", "(I)I", ⟨[.int], some .int⟩, 9, some k30c2⟩
def k30c3 : Code := ⟨4, 3, jdk_52_method_4_code, #[], #[]⟩
def k30m3 : Method := ⟨"putChar", "([BII)V", ⟨[(.array .byte), .int, .int], none⟩, 8, some k30c3⟩
def k30c4 : Code := ⟨3, 2, jdk_52_method_5_code, #[], #[]⟩
def k30m4 : Method := ⟨"getChar", "([BI)C", ⟨[(.array .byte), .int], some .char⟩, 8, some k30c4⟩
def k30c5 : Code := ⟨2, 1, jdk_52_method_6_code, #[], #[]⟩
def k30m5 : Method := ⟨"length", "([B)I", ⟨[(.array .byte)], some .int⟩, 9, some k30c5⟩
def k30c6 : Code := ⟨3, 6, jdk_52_method_11_code, #[], #[]⟩
def k30m6 : Method := ⟨"codePointCount", "([BIIZ)I", ⟨[(.array .byte), .int, .int, .boolean], some .int⟩, 10, some k30c6⟩
def k30c7 : Code := ⟨4, 3, jdk_52_method_12_code, #[], #[]⟩
def k30m7 : Method := ⟨"codePointCount", "([BII)I", ⟨[(.array .byte), .int, .int], some .int⟩, 9, some k30c7⟩
def k30c8 : Code := ⟨3, 2, jdk_52_method_24_code, #[], #[]⟩
def k30m8 : Method := ⟨"toBytes", "(C)[B", ⟨[.char], some (.array .byte)⟩, 9, some k30c8⟩
def k30c9 : Code := ⟨2, 2, jdk_52_method_83_code, #[], #[]⟩
def k30m9 : Method := ⟨"charAt", "([BI)C", ⟨[(.array .byte), .int], some .char⟩, 9, some k30c9⟩
def k30c10 : Code := ⟨4, 6, jdk_52_method_86_code, #[], #[]⟩
def k30m10 : Method := ⟨"inflate", "([BI[BII)V", ⟨[(.array .byte), .int, (.array .byte), .int, .int], none⟩, 9, some k30c10⟩
def k30c11 : Code := ⟨2, 2, jdk_52_method_91_code, #[], #[]⟩
def k30m11 : Method := ⟨"checkIndex", "(I[B)V", ⟨[.int, (.array .byte)], none⟩, 9, some k30c11⟩
def k30c12 : Code := ⟨3, 3, jdk_52_method_94_code, #[], #[]⟩
def k30m12 : Method := ⟨"checkBoundsOffCount", "(II[B)V", ⟨[.int, .int, (.array .byte)], none⟩, 9, some k30c12⟩
/-- java/lang/StringUTF16 -/
def k30 : Class := { plain "java/lang/StringUTF16" (some 0) with
  accessFlags := 48
  interfaces := #[]
  cf := some (fileOf pool30 12 #[.nestMembers #[627, 629, 369]] #[⟨0, 9, 10, #[]⟩, ⟨9, 109, 110, #[]⟩, ⟨9, 15, 16, #[]⟩, ⟨8, 113, 114, #[]⟩, ⟨8, 73, 74, #[]⟩, ⟨9, 50, 51, #[]⟩, ⟨10, 102, 91, #[]⟩, ⟨9, 102, 250, #[]⟩, ⟨9, 121, 475, #[]⟩, ⟨9, 392, 74, #[]⟩, ⟨9, 140, 141, #[]⟩, ⟨9, 69, 70, #[]⟩, ⟨9, 175, 99, #[]⟩] 48 6 #[] #[⟨26, 61, 62, #[]⟩, ⟨26, 65, 62, #[]⟩, ⟨24, 430, 62, #[]⟩, ⟨4120, 46, 47, #[]⟩])
  fields := #[⟨"HI_BYTE_SHIFT", .int, 26, 0, 0⟩, ⟨"LO_BYTE_SHIFT", .int, 26, 1, 0⟩, ⟨"MAX_LENGTH", .int, 24, 2, 0⟩, ⟨"$assertionsDisabled", .boolean, 4120, 3, 0⟩]
  methods := #[k30m0, k30m1, k30m2, k30m3, k30m4, k30m5, k30m6, k30m7, k30m8, k30m9, k30m10, k30m11, k30m12]
  instanceTypes := #[]
  staticTypes := #[.int, .int, .int, .boolean]
  resolved := Array.replicate 635 none
  statics := some 3 }

def pool31 : Array CpInfo := pool [(1, .class_ 2), (0, u "java/lang/Character"), (18, u "value"), (0, u "C"), (19, .class_ 44), (1, u "java/lang/Object"), (3, .class_ 50), (1, u "java/lang/Character$CharacterCache"), (24, .integer 55296), (4, u "isHighSurrogate"), (0, u "(C)Z"), (202, u "$assertionsDisabled"), (0, u "Z"), (21, .class_ 309), (1, u "java/lang/Character$UnicodeBlock"), (73, u "TYPE"), (0, u "Ljava/lang/Class;"), (0, .class_ 386), (0, u "java/io/Serializable"), (0, .class_ 388), (0, u "java/lang/Comparable"), (0, .class_ 390), (0, u "java/lang/constant/Constable"), (0, u "MIN_RADIX"), (0, u "I"), (2, u "MAX_RADIX"), (1, u "MIN_VALUE"), (1, u "MAX_VALUE"), (3, u "UNASSIGNED"), (0, u "B"), (0, u "UPPERCASE_LETTER"), (1, u "LOWERCASE_LETTER"), (0, u "TITLECASE_LETTER"), (1, u "MODIFIER_LETTER"), (1, u "OTHER_LETTER"), (1, u "NON_SPACING_MARK"), (1, u "ENCLOSING_MARK"), (1, u "COMBINING_SPACING_MARK"), (1, u "DECIMAL_DIGIT_NUMBER"), (1, u "LETTER_NUMBER"), (1, u "OTHER_NUMBER"), (1, u "SPACE_SEPARATOR"), (1, u "LINE_SEPARATOR"), (1, u "PARAGRAPH_SEPARATOR"), (1, u "CONTROL"), (1, u "FORMAT"), (1, u "PRIVATE_USE"), (1, u "SURROGATE"), (1, u "DASH_PUNCTUATION"), (1, u "START_PUNCTUATION"), (1, u "END_PUNCTUATION"), (1, u "CONNECTOR_PUNCTUATION"), (1, u "OTHER_PUNCTUATION"), (1, u "MATH_SYMBOL"), (1, u "CURRENCY_SYMBOL"), (1, u "MODIFIER_SYMBOL"), (1, u "OTHER_SYMBOL"), (1, u "INITIAL_QUOTE_PUNCTUATION"), (1, u "FINAL_QUOTE_PUNCTUATION"), (1, u "ERROR"), (1, u "DIRECTIONALITY_UNDEFINED"), (0, u "DIRECTIONALITY_LEFT_TO_RIGHT"), (0, u "DIRECTIONALITY_RIGHT_TO_LEFT"), (0, u "DIRECTIONALITY_RIGHT_TO_LEFT_ARABIC"), (0, u "DIRECTIONALITY_EUROPEAN_NUMBER"), (0, u "DIRECTIONALITY_EUROPEAN_NUMBER_SEPARATOR"), (0, u "DIRECTIONALITY_EUROPEAN_NUMBER_TERMINATOR"), (0, u "DIRECTIONALITY_ARABIC_NUMBER"), (0, u "DIRECTIONALITY_COMMON_NUMBER_SEPARATOR"), (0, u "DIRECTIONALITY_NONSPACING_MARK"), (0, u "DIRECTIONALITY_BOUNDARY_NEUTRAL"), (0, u "DIRECTIONALITY_PARAGRAPH_SEPARATOR"), (0, u "DIRECTIONALITY_SEGMENT_SEPARATOR"), (0, u "DIRECTIONALITY_WHITESPACE"), (0, u "DIRECTIONALITY_OTHER_NEUTRALS"), (0, u "DIRECTIONALITY_LEFT_TO_RIGHT_EMBEDDING"), (0, u "DIRECTIONALITY_LEFT_TO_RIGHT_OVERRIDE"), (0, u "DIRECTIONALITY_RIGHT_TO_LEFT_EMBEDDING"), (0, u "DIRECTIONALITY_RIGHT_TO_LEFT_OVERRIDE"), (1, u "DIRECTIONALITY_POP_DIRECTIONAL_FORMAT"), (0, u "DIRECTIONALITY_LEFT_TO_RIGHT_ISOLATE"), (0, u "DIRECTIONALITY_RIGHT_TO_LEFT_ISOLATE"), (0, u "DIRECTIONALITY_FIRST_STRONG_ISOLATE"), (0, u "DIRECTIONALITY_POP_DIRECTIONAL_ISOLATE"), (0, u "MIN_HIGH_SURROGATE"), (0, u "MAX_HIGH_SURROGATE"), (1, u "MIN_LOW_SURROGATE"), (0, u "MAX_LOW_SURROGATE"), (1, u "MIN_SURROGATE"), (0, u "MAX_SURROGATE"), (0, u "MIN_SUPPLEMENTARY_CODE_POINT"), (0, u "MIN_CODE_POINT"), (0, u "MAX_CODE_POINT"), (1, u "serialVersionUID"), (0, u "J"), (2, u "SIZE"), (0, u "BYTES"), (88, .class_ 596), (0, u "java/lang/Character$UnicodeScript"), (0, .class_ 598), (0, u "java/lang/Character$Subset")] 5

def k31c0 : Code := ⟨2, 1, jdk_89_method_14_code, #[], #[]⟩
def k31m0 : Method := ⟨"isHighSurrogate", "(C)Z", ⟨[.char], some .boolean⟩, 9, some k31c0⟩
/-- java/lang/Character -/
def k31 : Class := { plain "java/lang/Character" (some 0) with
  accessFlags := 49
  interfaces := #[5, 6, 8]
  cf := some (fileOf pool31 1 #[.nestMembers #[48, 595, 307, 597]] #[⟨9, 80, 81, #[]⟩] 49 42 #[385, 387, 389] #[⟨25, 391, 392, #[]⟩, ⟨25, 395, 392, #[]⟩, ⟨25, 397, 22, #[]⟩, ⟨25, 399, 22, #[]⟩, ⟨25, 383, 384, #[]⟩, ⟨25, 403, 404, #[]⟩, ⟨25, 405, 404, #[]⟩, ⟨25, 407, 404, #[]⟩, ⟨25, 408, 404, #[]⟩, ⟨25, 410, 404, #[]⟩, ⟨25, 412, 404, #[]⟩, ⟨25, 414, 404, #[]⟩, ⟨25, 416, 404, #[]⟩, ⟨25, 418, 404, #[]⟩, ⟨25, 420, 404, #[]⟩, ⟨25, 422, 404, #[]⟩, ⟨25, 424, 404, #[]⟩, ⟨25, 426, 404, #[]⟩, ⟨25, 428, 404, #[]⟩, ⟨25, 430, 404, #[]⟩, ⟨25, 432, 404, #[]⟩, ⟨25, 434, 404, #[]⟩, ⟨25, 436, 404, #[]⟩, ⟨25, 438, 404, #[]⟩, ⟨25, 440, 404, #[]⟩, ⟨25, 442, 404, #[]⟩, ⟨25, 444, 404, #[]⟩, ⟨25, 446, 404, #[]⟩, ⟨25, 448, 404, #[]⟩, ⟨25, 450, 404, #[]⟩, ⟨25, 452, 404, #[]⟩, ⟨25, 454, 404, #[]⟩, ⟨25, 456, 404, #[]⟩, ⟨25, 458, 404, #[]⟩, ⟨25, 460, 404, #[]⟩, ⟨24, 462, 392, #[]⟩, ⟨25, 464, 404, #[]⟩, ⟨25, 465, 404, #[]⟩, ⟨25, 466, 404, #[]⟩, ⟨25, 467, 404, #[]⟩, ⟨25, 468, 404, #[]⟩, ⟨25, 469, 404, #[]⟩, ⟨25, 470, 404, #[]⟩, ⟨25, 471, 404, #[]⟩, ⟨25, 472, 404, #[]⟩, ⟨25, 473, 404, #[]⟩, ⟨25, 474, 404, #[]⟩, ⟨25, 475, 404, #[]⟩, ⟨25, 476, 404, #[]⟩, ⟨25, 477, 404, #[]⟩, ⟨25, 478, 404, #[]⟩, ⟨25, 479, 404, #[]⟩, ⟨25, 480, 404, #[]⟩, ⟨25, 481, 404, #[]⟩, ⟨25, 482, 404, #[]⟩, ⟨25, 484, 404, #[]⟩, ⟨25, 485, 404, #[]⟩, ⟨25, 486, 404, #[]⟩, ⟨25, 487, 404, #[]⟩, ⟨25, 488, 404, #[]⟩, ⟨25, 489, 22, #[]⟩, ⟨25, 490, 22, #[]⟩, ⟨25, 492, 22, #[]⟩, ⟨25, 493, 22, #[]⟩, ⟨25, 495, 22, #[]⟩, ⟨25, 496, 22, #[]⟩, ⟨25, 497, 392, #[]⟩, ⟨25, 498, 392, #[]⟩, ⟨25, 499, 392, #[]⟩, ⟨18, 21, 22, #[]⟩, ⟨26, 501, 502, #[]⟩, ⟨25, 505, 392, #[]⟩, ⟨25, 506, 392, #[]⟩, ⟨4120, 284, 285, #[]⟩])
  fields := #[⟨"MIN_RADIX", .int, 25, 0, 0⟩, ⟨"MAX_RADIX", .int, 25, 1, 0⟩, ⟨"MIN_VALUE", .char, 25, 2, 0⟩, ⟨"MAX_VALUE", .char, 25, 3, 0⟩, ⟨"TYPE", (.object "java/lang/Class"), 25, 4, 0⟩, ⟨"UNASSIGNED", .byte, 25, 5, 0⟩, ⟨"UPPERCASE_LETTER", .byte, 25, 6, 0⟩, ⟨"LOWERCASE_LETTER", .byte, 25, 7, 0⟩, ⟨"TITLECASE_LETTER", .byte, 25, 8, 0⟩, ⟨"MODIFIER_LETTER", .byte, 25, 9, 0⟩, ⟨"OTHER_LETTER", .byte, 25, 10, 0⟩, ⟨"NON_SPACING_MARK", .byte, 25, 11, 0⟩, ⟨"ENCLOSING_MARK", .byte, 25, 12, 0⟩, ⟨"COMBINING_SPACING_MARK", .byte, 25, 13, 0⟩, ⟨"DECIMAL_DIGIT_NUMBER", .byte, 25, 14, 0⟩, ⟨"LETTER_NUMBER", .byte, 25, 15, 0⟩, ⟨"OTHER_NUMBER", .byte, 25, 16, 0⟩, ⟨"SPACE_SEPARATOR", .byte, 25, 17, 0⟩, ⟨"LINE_SEPARATOR", .byte, 25, 18, 0⟩, ⟨"PARAGRAPH_SEPARATOR", .byte, 25, 19, 0⟩, ⟨"CONTROL", .byte, 25, 20, 0⟩, ⟨"FORMAT", .byte, 25, 21, 0⟩, ⟨"PRIVATE_USE", .byte, 25, 22, 0⟩, ⟨"SURROGATE", .byte, 25, 23, 0⟩, ⟨"DASH_PUNCTUATION", .byte, 25, 24, 0⟩, ⟨"START_PUNCTUATION", .byte, 25, 25, 0⟩, ⟨"END_PUNCTUATION", .byte, 25, 26, 0⟩, ⟨"CONNECTOR_PUNCTUATION", .byte, 25, 27, 0⟩, ⟨"OTHER_PUNCTUATION", .byte, 25, 28, 0⟩, ⟨"MATH_SYMBOL", .byte, 25, 29, 0⟩, ⟨"CURRENCY_SYMBOL", .byte, 25, 30, 0⟩, ⟨"MODIFIER_SYMBOL", .byte, 25, 31, 0⟩, ⟨"OTHER_SYMBOL", .byte, 25, 32, 0⟩, ⟨"INITIAL_QUOTE_PUNCTUATION", .byte, 25, 33, 0⟩, ⟨"FINAL_QUOTE_PUNCTUATION", .byte, 25, 34, 0⟩, ⟨"ERROR", .int, 24, 35, 0⟩, ⟨"DIRECTIONALITY_UNDEFINED", .byte, 25, 36, 0⟩, ⟨"DIRECTIONALITY_LEFT_TO_RIGHT", .byte, 25, 37, 0⟩, ⟨"DIRECTIONALITY_RIGHT_TO_LEFT", .byte, 25, 38, 0⟩, ⟨"DIRECTIONALITY_RIGHT_TO_LEFT_ARABIC", .byte, 25, 39, 0⟩, ⟨"DIRECTIONALITY_EUROPEAN_NUMBER", .byte, 25, 40, 0⟩, ⟨"DIRECTIONALITY_EUROPEAN_NUMBER_SEPARATOR", .byte, 25, 41, 0⟩, ⟨"DIRECTIONALITY_EUROPEAN_NUMBER_TERMINATOR", .byte, 25, 42, 0⟩, ⟨"DIRECTIONALITY_ARABIC_NUMBER", .byte, 25, 43, 0⟩, ⟨"DIRECTIONALITY_COMMON_NUMBER_SEPARATOR", .byte, 25, 44, 0⟩, ⟨"DIRECTIONALITY_NONSPACING_MARK", .byte, 25, 45, 0⟩, ⟨"DIRECTIONALITY_BOUNDARY_NEUTRAL", .byte, 25, 46, 0⟩, ⟨"DIRECTIONALITY_PARAGRAPH_SEPARATOR", .byte, 25, 47, 0⟩, ⟨"DIRECTIONALITY_SEGMENT_SEPARATOR", .byte, 25, 48, 0⟩, ⟨"DIRECTIONALITY_WHITESPACE", .byte, 25, 49, 0⟩, ⟨"DIRECTIONALITY_OTHER_NEUTRALS", .byte, 25, 50, 0⟩, ⟨"DIRECTIONALITY_LEFT_TO_RIGHT_EMBEDDING", .byte, 25, 51, 0⟩, ⟨"DIRECTIONALITY_LEFT_TO_RIGHT_OVERRIDE", .byte, 25, 52, 0⟩, ⟨"DIRECTIONALITY_RIGHT_TO_LEFT_EMBEDDING", .byte, 25, 53, 0⟩, ⟨"DIRECTIONALITY_RIGHT_TO_LEFT_OVERRIDE", .byte, 25, 54, 0⟩, ⟨"DIRECTIONALITY_POP_DIRECTIONAL_FORMAT", .byte, 25, 55, 0⟩, ⟨"DIRECTIONALITY_LEFT_TO_RIGHT_ISOLATE", .byte, 25, 56, 0⟩, ⟨"DIRECTIONALITY_RIGHT_TO_LEFT_ISOLATE", .byte, 25, 57, 0⟩, ⟨"DIRECTIONALITY_FIRST_STRONG_ISOLATE", .byte, 25, 58, 0⟩, ⟨"DIRECTIONALITY_POP_DIRECTIONAL_ISOLATE", .byte, 25, 59, 0⟩, ⟨"MIN_HIGH_SURROGATE", .char, 25, 60, 0⟩, ⟨"MAX_HIGH_SURROGATE", .char, 25, 61, 0⟩, ⟨"MIN_LOW_SURROGATE", .char, 25, 62, 0⟩, ⟨"MAX_LOW_SURROGATE", .char, 25, 63, 0⟩, ⟨"MIN_SURROGATE", .char, 25, 64, 0⟩, ⟨"MAX_SURROGATE", .char, 25, 65, 0⟩, ⟨"MIN_SUPPLEMENTARY_CODE_POINT", .int, 25, 66, 0⟩, ⟨"MIN_CODE_POINT", .int, 25, 67, 0⟩, ⟨"MAX_CODE_POINT", .int, 25, 68, 0⟩, ⟨"value", .char, 18, 0, 0⟩, ⟨"serialVersionUID", .long, 26, 69, 0⟩, ⟨"SIZE", .int, 25, 70, 0⟩, ⟨"BYTES", .int, 25, 71, 0⟩, ⟨"$assertionsDisabled", .boolean, 4120, 72, 0⟩]
  methods := #[k31m0]
  instanceTypes := #[.char]
  staticTypes := #[.int, .int, .char, .char, (.object "java/lang/Class"), .byte, .byte, .byte, .byte, .byte, .byte, .byte, .byte, .byte, .byte, .byte, .byte, .byte, .byte, .byte, .byte, .byte, .byte, .byte, .byte, .byte, .byte, .byte, .byte, .byte, .byte, .byte, .byte, .byte, .byte, .int, .byte, .byte, .byte, .byte, .byte, .byte, .byte, .byte, .byte, .byte, .byte, .byte, .byte, .byte, .byte, .byte, .byte, .byte, .byte, .byte, .byte, .byte, .byte, .byte, .char, .char, .char, .char, .char, .char, .int, .int, .int, .long, .int, .int, .boolean]
  resolved := Array.replicate 604 none
  statics := none }

/-- the primitive byte -/
def k32 : Class := { plain "byte" none with kind := .primitive 'B', accessFlags := 0x411 }
/-- [B -/
def k33 : Class := { plain "[B" (some 0) with kind := .array 32 .byte, interfaces := #[23, 5], accessFlags := 1041 }

/-- the primitive int -/
def k34 : Class := { plain "int" none with kind := .primitive 'I', accessFlags := 0x411 }
/-- [I -/
def k35 : Class := { plain "[I" (some 0) with kind := .array 34 .int, interfaces := #[23, 5], accessFlags := 1041 }

def heap : Heap := #[{ cls := 4, slots := #[.ref 4, .int 0], vm := .statics 4 },
  { cls := 10, slots := #[.long 0, .int 1, .null, .int 0, .null, .int 0, .int 0], vm := .statics 10 },
  { cls := 21, slots := #[.null, .null, .null], vm := .statics 21 },
  { cls := 30, slots := #[.int 0, .int 8, .int 0, .int 1], vm := .statics 30 },
  { cls := 12, slots := #[.ref 5, .ref 6, .ref 7], vm := .none },
  { cls := 10, slots := #[.ref 8, .int 0, .int 0, .int 0], vm := .none },
  { cls := 10, slots := #[.ref 9, .int 0, .int 0, .int 0], vm := .none },
  { cls := 10, slots := #[.ref 10, .int 0, .int 0, .int 0], vm := .none },
  { cls := 33, slots := #[.int 100, .int 97, .int 116, .int 97, .int 115, .int 111, .int 117, .int 114, .int 99, .int 101, .int 115], vm := .none },
  { cls := 33, slots := #[.int 100, .int 97, .int 116, .int 97, .int 32, .int 115, .int 111, .int 117, .int 114, .int 99, .int 101], vm := .none },
  { cls := 33, slots := #[.int 105, .int 116, .int 101, .int 109, .int 115], vm := .none }]
def classes : Array Class := #[k0, k1, k2, k3, k4, k5, k6, k7, k8, k9, k10, k11, k12, k13, k14, k15, k16, k17, k18, k19, k20, k21, k22, k23, k24, k25, k26, k27, k28, k29, k30, k31, k32, k33, k34, k35]
def interned : List (Array UInt16 × Addr) := []
def slotsUsed : Nat := 58
def theMethod : MethodId := ⟨1, 1⟩
def args0 : Array Value := #[.int 1, .int 2, .int 3, .int 4]
def aboutOver (below : List Frame) : State where
  vm := { classes := classes, interned := interned.toArray }
  heap := heap
  slotsUsed := slotsUsed
  threads := #[{ frames := .invoking theMethod args0 :: below }]
def below0 : List Frame := [.native { method := ⟨0, 0⟩, args := #[] }]
def about1 : State := aboutOver below0
def p0 : Program := .bare "" "" ""
def e0 : Env := launch0.env 0 0 0
theorem w_frames : about1.frames = Frame.invoking theMethod args0 :: below0 := rfl
theorem w_args : argsFit about1.vm theMethod args0 = true := by decide +kernel
theorem w_heap : heapFits about1 = true := by decide +kernel
theorem w_runnable : about1.curStatus? = some .runnable := by decide +kernel
theorem w_alone : about1.alone = true := by decide +kernel
theorem w_named : about1.methodNamed? x = some theMethod := by decide +kernel
theorem w_hears : about1.hears theMethod below0 = true := by decide +kernel
theorem w_ripe : about1.ripe theMethod args0 below0 = true := by decide +kernel
theorem w_running : about1.status = .running := rfl
theorem w_room : about1.hasRoom e0.platform room_1 = true :=
  launch0.hasRoom_least _ room_1 (by decide +kernel) (by decide +kernel) (by decide +kernel) (by decide +kernel) (by decide +kernel) (by decide +kernel)
theorem allAtoms_all (ts : List Jvm.Cond) (a : Array Jvm.Value) (st : Jvm.State) : (allAtoms ts).before a st = ts.all (fun c => c.before a st) := by
  induction ts with
  | nil => rfl
  | cons c t ih =>
    show (Jvm.Cond.and c (allAtoms t)).before a st = _
    rw [Jvm.Cond.before_and, ih, List.all_cons]
def words1 : List Jvm.Cond := Jvm.Cond.code x code maxLocals ret :: tables_1
/-- a 'code' word, met by the world's own term for the bytes: nothing is compared byte by byte -/
theorem code_word {y : MethodName} {bytes : ByteArray} {mx : Nat} {rt : Option FieldType} {a : Array Value} {s : State} {m : MethodId} {meth : Method} {c : Code} (h1 : s.methodNamed? y = some m) (h2 : s.vm.method? m = some meth) (h3 : meth.code = some c) (h4 : c.code = bytes)
    (h5 : (c.maxLocals == mx && c.exceptionTable.isEmpty && decide (c.maxStack ≤ mostOperands) && decide (meth.sig.returnType = rt) && !meth.locks && decide (parseMethodDescriptor y.desc = some meth.sig)) = true) : (Jvm.Cond.code y bytes mx rt).before a s = true := by
  simp only [Bool.and_eq_true, beq_iff_eq, Bool.not_eq_true', decide_eq_true_eq] at h5
  obtain ⟨⟨⟨⟨⟨g1, g2⟩, g3⟩, g4⟩, g5⟩, g6⟩ := h5
  simp [Cond.before, Cond.holds, Cond.value, h1, h2, h3, h4, g1, g2, g3, g4, g5, g6]
def isCode : Jvm.Cond → Bool
  | .code _ _ _ _ => true
  | _ => false
theorem all_split {L : List Jvm.Cond} {P : Jvm.Cond → Bool} (h1 : L.all (fun c => isCode c || P c) = true) (h2 : ∀ c ∈ L.filter isCode, P c = true) : L.all P = true := by
  refine List.all_eq_true.mpr fun c hc => ?_
  have h := List.all_eq_true.mp h1 c hc
  rcases Bool.eq_false_or_eq_true (isCode c) with hi | hi
  · exact h2 c (List.mem_filter.mpr ⟨hc, hi⟩)
  · simpa [hi] using h
theorem w_c0 : (Jvm.Cond.code x code maxLocals ret).before args0 about1 = true := code_word (m := ⟨1, 1⟩) (meth := k1m1) (c := k1c1) (by decide +kernel) rfl rfl rfl (by decide +kernel)
theorem w_c1 : (Jvm.Cond.code y_1 method_3_code (2 : Nat) (Option.some (Jvm.ClassFile.FieldType.array Jvm.ClassFile.FieldType.byte))).before args0 about1 = true := code_word (m := ⟨1, 2⟩) (meth := k1m2) (c := k1c2) (by decide +kernel) rfl rfl rfl (by decide +kernel)
theorem w_c2 : (Jvm.Cond.code y_2 prog_51_method_12_code (1 : Nat) (Option.some Jvm.ClassFile.FieldType.boolean)).before args0 about1 = true := code_word (m := ⟨2, 2⟩) (meth := k2m2) (c := k2c2) (by decide +kernel) rfl rfl rfl (by decide +kernel)
theorem w_c3 : (Jvm.Cond.code y_3 jdk_42_method_139_code (1 : Nat) (Option.some (Jvm.ClassFile.FieldType.object "java/lang/String"))).before args0 about1 = true := code_word (m := ⟨10, 8⟩) (meth := k10m8) (c := k10c8) (by decide +kernel) rfl rfl rfl (by decide +kernel)
theorem w_c4 : (Jvm.Cond.code y_4 jdk_43_method_3_code (1 : Nat) (Option.some Jvm.ClassFile.FieldType.boolean)).before args0 about1 = true := code_word (m := ⟨11, 2⟩) (meth := k11m2) (c := k11c2) (by decide +kernel) rfl rfl rfl (by decide +kernel)
theorem w_c5 : (Jvm.Cond.code y_5 jdk_43_method_46_code (1 : Nat) (Option.some (Jvm.ClassFile.FieldType.array Jvm.ClassFile.FieldType.byte))).before args0 about1 = true := code_word (m := ⟨11, 6⟩) (meth := k11m6) (c := k11c6) (by decide +kernel) rfl rfl rfl (by decide +kernel)
theorem w_c6 : (Jvm.Cond.code y_6 jdk_42_method_151_code (3 : Nat) (Option.none : Option Jvm.ClassFile.FieldType)).before args0 about1 = true := code_word (m := ⟨10, 11⟩) (meth := k10m11) (c := k10c11) (by decide +kernel) rfl rfl rfl (by decide +kernel)
theorem w_c7 : (Jvm.Cond.code ({ cls := "java/lang/Object", name := "<init>", desc := "()V" } : Jvm.MethodName) object_method_1_code (1 : Nat) (Option.none : Option Jvm.ClassFile.FieldType)).before args0 about1 = true := code_word (m := ⟨0, 0⟩) (meth := k0m0) (c := k0c0) (by decide +kernel) rfl rfl rfl (by decide +kernel)
theorem w_c8 : (Jvm.Cond.code y_8 prog_16_method_1_code (5 : Nat) (Option.none : Option Jvm.ClassFile.FieldType)).before args0 about1 = true := code_word (m := ⟨4, 0⟩) (meth := k4m0) (c := k4c0) (by decide +kernel) rfl rfl rfl (by decide +kernel)
theorem w_c9 : (Jvm.Cond.code y_9 jdk_30_method_1_code (1 : Nat) (Option.none : Option Jvm.ClassFile.FieldType)).before args0 about1 = true := code_word (m := ⟨3, 0⟩) (meth := k3m0) (c := k3c0) (by decide +kernel) rfl rfl rfl (by decide +kernel)
theorem w_c10 : (Jvm.Cond.code y_10 prog_27_method_2_code (3 : Nat) (Option.none : Option Jvm.ClassFile.FieldType)).before args0 about1 = true := code_word (m := ⟨12, 0⟩) (meth := k12m0) (c := k12c0) (by decide +kernel) rfl rfl rfl (by decide +kernel)
theorem w_c11 : (Jvm.Cond.code y_11 prog_27_method_3_code (2 : Nat) (Option.none : Option Jvm.ClassFile.FieldType)).before args0 about1 = true := code_word (m := ⟨12, 1⟩) (meth := k12m1) (c := k12c1) (by decide +kernel) rfl rfl rfl (by decide +kernel)
theorem w_c12 : (Jvm.Cond.code y_12 jdk_31_method_11_code (2 : Nat) (Option.some (Jvm.ClassFile.FieldType.object "java/lang/Object"))).before args0 about1 = true := code_word (m := ⟨13, 1⟩) (meth := k13m1) (c := k13c1) (by decide +kernel) rfl rfl rfl (by decide +kernel)
theorem w_c13 : (Jvm.Cond.code y_13 jdk_42_method_55_code (1 : Nat) (Option.some Jvm.ClassFile.FieldType.boolean)).before args0 about1 = true := code_word (m := ⟨10, 3⟩) (meth := k10m3) (c := k10c3) (by decide +kernel) rfl rfl rfl (by decide +kernel)
theorem w_c14 : (Jvm.Cond.code y_14 jdk_42_method_79_code (2 : Nat) (Option.some Jvm.ClassFile.FieldType.int)).before args0 about1 = true := code_word (m := ⟨10, 6⟩) (meth := k10m6) (c := k10c6) (by decide +kernel) rfl rfl rfl (by decide +kernel)
theorem w_c15 : (Jvm.Cond.code y_15 jdk_42_method_80_code (3 : Nat) (Option.some Jvm.ClassFile.FieldType.int)).before args0 about1 = true := code_word (m := ⟨10, 7⟩) (meth := k10m7) (c := k10c7) (by decide +kernel) rfl rfl rfl (by decide +kernel)
theorem w_c16 : (Jvm.Cond.code y_16 jdk_42_method_154_code (1 : Nat) (Option.some Jvm.ClassFile.FieldType.boolean)).before args0 about1 = true := code_word (m := ⟨10, 13⟩) (meth := k10m13) (c := k10c13) (by decide +kernel) rfl rfl rfl (by decide +kernel)
theorem w_c17 : (Jvm.Cond.code y_17 jdk_42_method_54_code (1 : Nat) (Option.some Jvm.ClassFile.FieldType.int)).before args0 about1 = true := code_word (m := ⟨10, 2⟩) (meth := k10m2) (c := k10c2) (by decide +kernel) rfl rfl rfl (by decide +kernel)
theorem w_c18 : (Jvm.Cond.code y_18 jdk_42_method_152_code (1 : Nat) (Option.some Jvm.ClassFile.FieldType.byte)).before args0 about1 = true := code_word (m := ⟨10, 12⟩) (meth := k10m12) (c := k10c12) (by decide +kernel) rfl rfl rfl (by decide +kernel)
theorem w_c19 : (Jvm.Cond.code y_19 jdk_43_method_22_code (4 : Nat) (Option.some Jvm.ClassFile.FieldType.int)).before args0 about1 = true := code_word (m := ⟨11, 4⟩) (meth := k11m4) (c := k11c4) (by decide +kernel) rfl rfl rfl (by decide +kernel)
theorem w_c20 : (Jvm.Cond.code y_20 jdk_43_method_4_code (1 : Nat) (Option.some Jvm.ClassFile.FieldType.boolean)).before args0 about1 = true := code_word (m := ⟨11, 3⟩) (meth := k11m3) (c := k11c3) (by decide +kernel) rfl rfl rfl (by decide +kernel)
theorem w_c21 : (Jvm.Cond.code y_21 jdk_29_method_65_code (2 : Nat) (Option.some Jvm.ClassFile.FieldType.int)).before args0 about1 = true := code_word (m := ⟨14, 1⟩) (meth := k14m1) (c := k14c1) (by decide +kernel) rfl rfl rfl (by decide +kernel)
theorem w_c22 : (Jvm.Cond.code y_22 jdk_29_method_69_code (2 : Nat) (Option.some Jvm.ClassFile.FieldType.int)).before args0 about1 = true := code_word (m := ⟨14, 2⟩) (meth := k14m2) (c := k14c2) (by decide +kernel) rfl rfl rfl (by decide +kernel)
theorem w_c23 : (Jvm.Cond.code y_23 jdk_43_method_23_code (6 : Nat) (Option.some Jvm.ClassFile.FieldType.int)).before args0 about1 = true := code_word (m := ⟨11, 5⟩) (meth := k11m5) (c := k11c5) (by decide +kernel) rfl rfl rfl (by decide +kernel)
theorem w_c24 : (Jvm.Cond.code y_24 prog_27_method_5_code (3 : Nat) (Option.some (Jvm.ClassFile.FieldType.object "java/lang/String"))).before args0 about1 = true := code_word (m := ⟨12, 2⟩) (meth := k12m2) (c := k12c2) (by decide +kernel) rfl rfl rfl (by decide +kernel)
theorem w_c25 : (Jvm.Cond.code y_25 jdk_67_method_1_code (1 : Nat) (Option.none : Option Jvm.ClassFile.FieldType)).before args0 about1 = true := code_word (m := ⟨17, 0⟩) (meth := k17m0) (c := k17c0) (by decide +kernel) rfl rfl rfl (by decide +kernel)
theorem w_c26 : (Jvm.Cond.code y_26 jdk_68_method_2_code (2 : Nat) (Option.none : Option Jvm.ClassFile.FieldType)).before args0 about1 = true := code_word (m := ⟨16, 1⟩) (meth := k16m1) (c := k16c1) (by decide +kernel) rfl rfl rfl (by decide +kernel)
theorem w_c27 : (Jvm.Cond.code y_27 jdk_67_method_7_code (2 : Nat) (Option.some (Jvm.ClassFile.FieldType.object "java/lang/StringBuilder"))).before args0 about1 = true := code_word (m := ⟨17, 1⟩) (meth := k17m1) (c := k17c1) (by decide +kernel) rfl rfl rfl (by decide +kernel)
theorem w_c28 : (Jvm.Cond.code y_28 jdk_68_method_22_code (3 : Nat) (Option.some (Jvm.ClassFile.FieldType.object "java/lang/AbstractStringBuilder"))).before args0 about1 = true := code_word (m := ⟨16, 6⟩) (meth := k16m6) (c := k16c6) (by decide +kernel) rfl rfl rfl (by decide +kernel)
theorem w_c29 : (Jvm.Cond.code y_29 jdk_68_method_9_code (3 : Nat) (Option.none : Option Jvm.ClassFile.FieldType)).before args0 about1 = true := code_word (m := ⟨16, 3⟩) (meth := k16m3) (c := k16c3) (by decide +kernel) rfl rfl rfl (by decide +kernel)
theorem w_c30 : (Jvm.Cond.code y_30 jdk_68_method_73_code (3 : Nat) (Option.none : Option Jvm.ClassFile.FieldType)).before args0 about1 = true := code_word (m := ⟨16, 10⟩) (meth := k16m10) (c := k16c10) (by decide +kernel) rfl rfl rfl (by decide +kernel)
theorem w_c31 : (Jvm.Cond.code y_31 jdk_68_method_71_code (2 : Nat) (Option.none : Option Jvm.ClassFile.FieldType)).before args0 about1 = true := code_word (m := ⟨16, 9⟩) (meth := k16m9) (c := k16c9) (by decide +kernel) rfl rfl rfl (by decide +kernel)
theorem w_c32 : (Jvm.Cond.code y_32 jdk_42_method_147_code (4 : Nat) (Option.none : Option Jvm.ClassFile.FieldType)).before args0 about1 = true := code_word (m := ⟨10, 9⟩) (meth := k10m9) (c := k10c9) (by decide +kernel) rfl rfl rfl (by decide +kernel)
theorem w_c33 : (Jvm.Cond.code y_33 jdk_68_method_10_code (6 : Nat) (Option.some Jvm.ClassFile.FieldType.int)).before args0 about1 = true := code_word (m := ⟨16, 4⟩) (meth := k16m4) (c := k16c4) (by decide +kernel) rfl rfl rfl (by decide +kernel)
theorem w_c34 : (Jvm.Cond.code y_34 jdk_48_method_27_code (4 : Nat) (Option.some Jvm.ClassFile.FieldType.int)).before args0 about1 = true := code_word (m := ⟨19, 1⟩) (meth := k19m1) (c := k19c1) (by decide +kernel) rfl rfl rfl (by decide +kernel)
theorem w_c35 : (Jvm.Cond.code y_35 jdk_65_method_121_code (3 : Nat) (Option.some (Jvm.ClassFile.FieldType.array Jvm.ClassFile.FieldType.byte))).before args0 about1 = true := code_word (m := ⟨20, 1⟩) (meth := k20m1) (c := k20c1) (by decide +kernel) rfl rfl rfl (by decide +kernel)
theorem w_c36 : (Jvm.Cond.code y_36 jdk_67_method_42_code (1 : Nat) (Option.some (Jvm.ClassFile.FieldType.object "java/lang/String"))).before args0 about1 = true := code_word (m := ⟨17, 2⟩) (meth := k17m2) (c := k17c2) (by decide +kernel) rfl rfl rfl (by decide +kernel)
theorem w_c37 : (Jvm.Cond.code y_37 jdk_42_method_53_code (2 : Nat) (Option.none : Option Jvm.ClassFile.FieldType)).before args0 about1 = true := code_word (m := ⟨10, 1⟩) (meth := k10m1) (c := k10c1) (by decide +kernel) rfl rfl rfl (by decide +kernel)
theorem w_c38 : (Jvm.Cond.code y_38 jdk_42_method_150_code (5 : Nat) (Option.none : Option Jvm.ClassFile.FieldType)).before args0 about1 = true := code_word (m := ⟨10, 10⟩) (meth := k10m10) (c := k10c10) (by decide +kernel) rfl rfl rfl (by decide +kernel)
theorem w_c39 : (Jvm.Cond.code y_39 jdk_68_method_64_code (1 : Nat) (Option.some (Jvm.ClassFile.FieldType.array Jvm.ClassFile.FieldType.byte))).before args0 about1 = true := code_word (m := ⟨16, 7⟩) (meth := k16m7) (c := k16c7) (by decide +kernel) rfl rfl rfl (by decide +kernel)
theorem w_c40 : (Jvm.Cond.code y_40 jdk_67_method_93_code (1 : Nat) (Option.some Jvm.ClassFile.FieldType.int)).before args0 about1 = true := code_word (m := ⟨17, 3⟩) (meth := k17m3) (c := k17c3) (by decide +kernel) rfl rfl rfl (by decide +kernel)
theorem w_c41 : (Jvm.Cond.code y_41 jdk_68_method_6_code (1 : Nat) (Option.some Jvm.ClassFile.FieldType.int)).before args0 about1 = true := code_word (m := ⟨16, 2⟩) (meth := k16m2) (c := k16c2) (by decide +kernel) rfl rfl rfl (by decide +kernel)
theorem w_c42 : (Jvm.Cond.code y_42 jdk_68_method_68_code (1 : Nat) (Option.some Jvm.ClassFile.FieldType.boolean)).before args0 about1 = true := code_word (m := ⟨16, 8⟩) (meth := k16m8) (c := k16c8) (by decide +kernel) rfl rfl rfl (by decide +kernel)
theorem w_c43 : (Jvm.Cond.code y_43 jdk_65_method_132_code (3 : Nat) (Option.some (Jvm.ClassFile.FieldType.array Jvm.ClassFile.FieldType.byte))).before args0 about1 = true := code_word (m := ⟨20, 3⟩) (meth := k20m3) (c := k20c3) (by decide +kernel) rfl rfl rfl (by decide +kernel)
theorem w_c44 : (Jvm.Cond.code y_44 jdk_65_method_133_code (5 : Nat) (Option.some (Jvm.ClassFile.FieldType.array Jvm.ClassFile.FieldType.byte))).before args0 about1 = true := code_word (m := ⟨20, 4⟩) (meth := k20m4) (c := k20c4) (by decide +kernel) rfl rfl rfl (by decide +kernel)
theorem w_c45 : (Jvm.Cond.code y_45 jdk_65_method_131_code (2 : Nat) (Option.none : Option Jvm.ClassFile.FieldType)).before args0 about1 = true := code_word (m := ⟨20, 2⟩) (meth := k20m2) (c := k20c2) (by decide +kernel) rfl rfl rfl (by decide +kernel)
theorem w_c46 : (Jvm.Cond.code y_46 jdk_42_method_59_code (3 : Nat) (Option.some Jvm.ClassFile.FieldType.int)).before args0 about1 = true := code_word (m := ⟨10, 5⟩) (meth := k10m5) (c := k10c5) (by decide +kernel) rfl rfl rfl (by decide +kernel)
theorem w_c47 : (Jvm.Cond.code y_47 jdk_31_method_18_code (3 : Nat) (Option.some Jvm.ClassFile.FieldType.int)).before args0 about1 = true := code_word (m := ⟨13, 2⟩) (meth := k13m2) (c := k13c2) (by decide +kernel) rfl rfl rfl (by decide +kernel)
theorem w_c48 : (Jvm.Cond.code y_48 jdk_41_method_12_code (4 : Nat) (Option.some Jvm.ClassFile.FieldType.int)).before args0 about1 = true := code_word (m := ⟨21, 2⟩) (meth := k21m2) (c := k21c2) (by decide +kernel) rfl rfl rfl (by decide +kernel)
theorem w_c49 : (Jvm.Cond.code y_49 prog_31_method_1_code (2 : Nat) (Option.none : Option Jvm.ClassFile.FieldType)).before args0 about1 = true := code_word (m := ⟨22, 0⟩) (meth := k22m0) (c := k22c0) (by decide +kernel) rfl rfl rfl (by decide +kernel)
theorem w_c50 : (Jvm.Cond.code y_50 prog_51_method_11_code (3 : Nat) (Option.some (Jvm.ClassFile.FieldType.array Jvm.ClassFile.FieldType.byte))).before args0 about1 = true := code_word (m := ⟨2, 1⟩) (meth := k2m1) (c := k2c1) (by decide +kernel) rfl rfl rfl (by decide +kernel)
theorem w_c51 : (Jvm.Cond.code y_51 prog_53_method_1_code (1 : Nat) (Option.none : Option Jvm.ClassFile.FieldType)).before args0 about1 = true := code_word (m := ⟨24, 0⟩) (meth := k24m0) (c := k24c0) (by decide +kernel) rfl rfl rfl (by decide +kernel)
theorem w_c52 : (Jvm.Cond.code y_52 jdk_2005_method_1_code (1 : Nat) (Option.none : Option Jvm.ClassFile.FieldType)).before args0 about1 = true := code_word (m := ⟨29, 0⟩) (meth := k29m0) (c := k29c0) (by decide +kernel) rfl rfl rfl (by decide +kernel)
theorem w_c53 : (Jvm.Cond.code y_53 jdk_2005_method_2_code (2 : Nat) (Option.none : Option Jvm.ClassFile.FieldType)).before args0 about1 = true := code_word (m := ⟨29, 1⟩) (meth := k29m1) (c := k29c1) (by decide +kernel) rfl rfl rfl (by decide +kernel)
theorem w_c54 : (Jvm.Cond.code y_54 jdk_2038_method_1_code (1 : Nat) (Option.none : Option Jvm.ClassFile.FieldType)).before args0 about1 = true := code_word (m := ⟨28, 0⟩) (meth := k28m0) (c := k28c0) (by decide +kernel) rfl rfl rfl (by decide +kernel)
theorem w_c55 : (Jvm.Cond.code y_55 prog_53_method_3_code (2 : Nat) (Option.none : Option Jvm.ClassFile.FieldType)).before args0 about1 = true := code_word (m := ⟨24, 2⟩) (meth := k24m2) (c := k24c2) (by decide +kernel) rfl rfl rfl (by decide +kernel)
theorem w_c56 : (Jvm.Cond.code y_57 jdk_2005_method_3_code (4 : Nat) (Option.none : Option Jvm.ClassFile.FieldType)).before args0 about1 = true := code_word (m := ⟨29, 2⟩) (meth := k29m2) (c := k29c2) (by decide +kernel) rfl rfl rfl (by decide +kernel)
theorem w_c57 : (Jvm.Cond.code y_58 prog_53_method_9_code (2 : Nat) (Option.none : Option Jvm.ClassFile.FieldType)).before args0 about1 = true := code_word (m := ⟨24, 6⟩) (meth := k24m6) (c := k24c6) (by decide +kernel) rfl rfl rfl (by decide +kernel)
theorem w_c58 : (Jvm.Cond.code y_59 prog_16_method_8_code (1 : Nat) (Option.some (Jvm.ClassFile.FieldType.object "java/lang/String"))).before args0 about1 = true := code_word (m := ⟨4, 1⟩) (meth := k4m1) (c := k4c1) (by decide +kernel) rfl rfl rfl (by decide +kernel)
theorem w_c59 : (Jvm.Cond.code y_60 prog_53_method_6_code (4 : Nat) (Option.none : Option Jvm.ClassFile.FieldType)).before args0 about1 = true := code_word (m := ⟨24, 5⟩) (meth := k24m5) (c := k24c5) (by decide +kernel) rfl rfl rfl (by decide +kernel)
theorem w_c60 : (Jvm.Cond.code y_61 prog_53_method_5_code (2 : Nat) (Option.none : Option Jvm.ClassFile.FieldType)).before args0 about1 = true := code_word (m := ⟨24, 4⟩) (meth := k24m4) (c := k24c4) (by decide +kernel) rfl rfl rfl (by decide +kernel)
theorem w_c61 : (Jvm.Cond.code y_62 prog_53_method_4_code (5 : Nat) (Option.none : Option Jvm.ClassFile.FieldType)).before args0 about1 = true := code_word (m := ⟨24, 3⟩) (meth := k24m3) (c := k24c3) (by decide +kernel) rfl rfl rfl (by decide +kernel)
theorem w_c62 : (Jvm.Cond.code y_63 jdk_42_method_56_code (2 : Nat) (Option.some Jvm.ClassFile.FieldType.char)).before args0 about1 = true := code_word (m := ⟨10, 4⟩) (meth := k10m4) (c := k10c4) (by decide +kernel) rfl rfl rfl (by decide +kernel)
theorem w_c63 : (Jvm.Cond.code y_64 jdk_43_method_2_code (2 : Nat) (Option.some Jvm.ClassFile.FieldType.char)).before args0 about1 = true := code_word (m := ⟨11, 1⟩) (meth := k11m1) (c := k11c1) (by decide +kernel) rfl rfl rfl (by decide +kernel)
theorem w_c64 : (Jvm.Cond.code y_65 jdk_42_method_155_code (2 : Nat) (Option.none : Option Jvm.ClassFile.FieldType)).before args0 about1 = true := code_word (m := ⟨10, 14⟩) (meth := k10m14) (c := k10c14) (by decide +kernel) rfl rfl rfl (by decide +kernel)
theorem w_c65 : (Jvm.Cond.code y_66 jdk_41_method_11_code (3 : Nat) (Option.some Jvm.ClassFile.FieldType.int)).before args0 about1 = true := code_word (m := ⟨21, 1⟩) (meth := k21m1) (c := k21c1) (by decide +kernel) rfl rfl rfl (by decide +kernel)
theorem w_c66 : (Jvm.Cond.code y_67 prog_16_method_9_code (1 : Nat) (Option.some (Jvm.ClassFile.FieldType.object "java/lang/String"))).before args0 about1 = true := code_word (m := ⟨4, 2⟩) (meth := k4m2) (c := k4c2) (by decide +kernel) rfl rfl rfl (by decide +kernel)
theorem w_c67 : (Jvm.Cond.code y_68 prog_53_method_10_code (3 : Nat) (Option.none : Option Jvm.ClassFile.FieldType)).before args0 about1 = true := code_word (m := ⟨24, 7⟩) (meth := k24m7) (c := k24c7) (by decide +kernel) rfl rfl rfl (by decide +kernel)
theorem w_c68 : (Jvm.Cond.code y_69 prog_31_method_2_code (1 : Nat) (Option.some (Jvm.ClassFile.FieldType.array Jvm.ClassFile.FieldType.byte))).before args0 about1 = true := code_word (m := ⟨22, 1⟩) (meth := k22m1) (c := k22c1) (by decide +kernel) rfl rfl rfl (by decide +kernel)
theorem w_c69 : (Jvm.Cond.code y_70 jdk_2005_method_6_code (2 : Nat) (Option.none : Option Jvm.ClassFile.FieldType)).before args0 about1 = true := code_word (m := ⟨29, 5⟩) (meth := k29m5) (c := k29c5) (by decide +kernel) rfl rfl rfl (by decide +kernel)
theorem w_c70 : (Jvm.Cond.code y_72 jdk_31_method_19_code (3 : Nat) (Option.some Jvm.ClassFile.FieldType.int)).before args0 about1 = true := code_word (m := ⟨13, 3⟩) (meth := k13m3) (c := k13c3) (by decide +kernel) rfl rfl rfl (by decide +kernel)
theorem w_c71 : (Jvm.Cond.code y_73 jdk_41_method_13_code (4 : Nat) (Option.some Jvm.ClassFile.FieldType.int)).before args0 about1 = true := code_word (m := ⟨21, 3⟩) (meth := k21m3) (c := k21c3) (by decide +kernel) rfl rfl rfl (by decide +kernel)
theorem w_c72 : (Jvm.Cond.code y_74 prog_53_method_2_code (1 : Nat) (Option.some (Jvm.ClassFile.FieldType.array Jvm.ClassFile.FieldType.byte))).before args0 about1 = true := code_word (m := ⟨24, 1⟩) (meth := k24m1) (c := k24c1) (by decide +kernel) rfl rfl rfl (by decide +kernel)
theorem w_c73 : (Jvm.Cond.code y_76 jdk_52_method_24_code (2 : Nat) (Option.some (Jvm.ClassFile.FieldType.array Jvm.ClassFile.FieldType.byte))).before args0 about1 = true := code_word (m := ⟨30, 8⟩) (meth := k30m8) (c := k30c8) (by decide +kernel) rfl rfl rfl (by decide +kernel)
theorem w_c74 : (Jvm.Cond.code y_77 jdk_52_method_4_code (3 : Nat) (Option.none : Option Jvm.ClassFile.FieldType)).before args0 about1 = true := code_word (m := ⟨30, 3⟩) (meth := k30m3) (c := k30c3) (by decide +kernel) rfl rfl rfl (by decide +kernel)
theorem w_c75 : (Jvm.Cond.code y_78 jdk_68_method_11_code (2 : Nat) (Option.none : Option Jvm.ClassFile.FieldType)).before args0 about1 = true := code_word (m := ⟨16, 5⟩) (meth := k16m5) (c := k16c5) (by decide +kernel) rfl rfl rfl (by decide +kernel)
theorem w_c76 : (Jvm.Cond.code y_79 jdk_52_method_2_code (1 : Nat) (Option.some (Jvm.ClassFile.FieldType.array Jvm.ClassFile.FieldType.byte))).before args0 about1 = true := code_word (m := ⟨30, 1⟩) (meth := k30m1) (c := k30c1) (by decide +kernel) rfl rfl rfl (by decide +kernel)
theorem w_c77 : (Jvm.Cond.code y_80 jdk_52_method_3_code (1 : Nat) (Option.some Jvm.ClassFile.FieldType.int)).before args0 about1 = true := code_word (m := ⟨30, 2⟩) (meth := k30m2) (c := k30c2) (by decide +kernel) rfl rfl rfl (by decide +kernel)
theorem w_c78 : (Jvm.Cond.code y_81 jdk_43_method_50_code (5 : Nat) (Option.none : Option Jvm.ClassFile.FieldType)).before args0 about1 = true := code_word (m := ⟨11, 7⟩) (meth := k11m7) (c := k11c7) (by decide +kernel) rfl rfl rfl (by decide +kernel)
theorem w_c79 : (Jvm.Cond.code y_82 jdk_52_method_86_code (6 : Nat) (Option.none : Option Jvm.ClassFile.FieldType)).before args0 about1 = true := code_word (m := ⟨30, 10⟩) (meth := k30m10) (c := k30c10) (by decide +kernel) rfl rfl rfl (by decide +kernel)
theorem w_c80 : (Jvm.Cond.code y_83 jdk_52_method_94_code (3 : Nat) (Option.none : Option Jvm.ClassFile.FieldType)).before args0 about1 = true := code_word (m := ⟨30, 12⟩) (meth := k30m12) (c := k30c12) (by decide +kernel) rfl rfl rfl (by decide +kernel)
theorem w_c81 : (Jvm.Cond.code y_84 jdk_52_method_6_code (1 : Nat) (Option.some Jvm.ClassFile.FieldType.int)).before args0 about1 = true := code_word (m := ⟨30, 5⟩) (meth := k30m5) (c := k30c5) (by decide +kernel) rfl rfl rfl (by decide +kernel)
theorem w_c82 : (Jvm.Cond.code y_85 jdk_42_method_157_code (3 : Nat) (Option.some Jvm.ClassFile.FieldType.int)).before args0 about1 = true := code_word (m := ⟨10, 15⟩) (meth := k10m15) (c := k10c15) (by decide +kernel) rfl rfl rfl (by decide +kernel)
theorem w_c83 : (Jvm.Cond.code y_86 jdk_52_method_12_code (3 : Nat) (Option.some Jvm.ClassFile.FieldType.int)).before args0 about1 = true := code_word (m := ⟨30, 7⟩) (meth := k30m7) (c := k30c7) (by decide +kernel) rfl rfl rfl (by decide +kernel)
theorem w_c84 : (Jvm.Cond.code y_87 jdk_52_method_11_code (6 : Nat) (Option.some Jvm.ClassFile.FieldType.int)).before args0 about1 = true := code_word (m := ⟨30, 6⟩) (meth := k30m6) (c := k30c6) (by decide +kernel) rfl rfl rfl (by decide +kernel)
theorem w_c85 : (Jvm.Cond.code y_88 jdk_52_method_5_code (2 : Nat) (Option.some Jvm.ClassFile.FieldType.char)).before args0 about1 = true := code_word (m := ⟨30, 4⟩) (meth := k30m4) (c := k30c4) (by decide +kernel) rfl rfl rfl (by decide +kernel)
theorem w_c86 : (Jvm.Cond.code y_89 jdk_89_method_14_code (1 : Nat) (Option.some Jvm.ClassFile.FieldType.boolean)).before args0 about1 = true := code_word (m := ⟨31, 0⟩) (meth := k31m0) (c := k31c0) (by decide +kernel) rfl rfl rfl (by decide +kernel)
theorem w_c87 : (Jvm.Cond.code y_90 jdk_52_method_83_code (2 : Nat) (Option.some Jvm.ClassFile.FieldType.char)).before args0 about1 = true := code_word (m := ⟨30, 9⟩) (meth := k30m9) (c := k30c9) (by decide +kernel) rfl rfl rfl (by decide +kernel)
theorem w_c88 : (Jvm.Cond.code y_91 jdk_52_method_91_code (2 : Nat) (Option.none : Option Jvm.ClassFile.FieldType)).before args0 about1 = true := code_word (m := ⟨30, 11⟩) (meth := k30m11) (c := k30c11) (by decide +kernel) rfl rfl rfl (by decide +kernel)
def codes1 : List Jvm.Cond := [Jvm.Cond.code x code maxLocals ret, Jvm.Cond.code y_1 method_3_code (2 : Nat) (Option.some (Jvm.ClassFile.FieldType.array Jvm.ClassFile.FieldType.byte)), Jvm.Cond.code y_2 prog_51_method_12_code (1 : Nat) (Option.some Jvm.ClassFile.FieldType.boolean), Jvm.Cond.code y_3 jdk_42_method_139_code (1 : Nat) (Option.some (Jvm.ClassFile.FieldType.object "java/lang/String")), Jvm.Cond.code y_4 jdk_43_method_3_code (1 : Nat) (Option.some Jvm.ClassFile.FieldType.boolean), Jvm.Cond.code y_5 jdk_43_method_46_code (1 : Nat) (Option.some (Jvm.ClassFile.FieldType.array Jvm.ClassFile.FieldType.byte)), Jvm.Cond.code y_6 jdk_42_method_151_code (3 : Nat) (Option.none : Option Jvm.ClassFile.FieldType), Jvm.Cond.code ({ cls := "java/lang/Object", name := "<init>", desc := "()V" } : Jvm.MethodName) object_method_1_code (1 : Nat) (Option.none : Option Jvm.ClassFile.FieldType), Jvm.Cond.code y_8 prog_16_method_1_code (5 : Nat) (Option.none : Option Jvm.ClassFile.FieldType), Jvm.Cond.code y_9 jdk_30_method_1_code (1 : Nat) (Option.none : Option Jvm.ClassFile.FieldType), Jvm.Cond.code y_10 prog_27_method_2_code (3 : Nat) (Option.none : Option Jvm.ClassFile.FieldType), Jvm.Cond.code y_11 prog_27_method_3_code (2 : Nat) (Option.none : Option Jvm.ClassFile.FieldType), Jvm.Cond.code y_12 jdk_31_method_11_code (2 : Nat) (Option.some (Jvm.ClassFile.FieldType.object "java/lang/Object")), Jvm.Cond.code y_13 jdk_42_method_55_code (1 : Nat) (Option.some Jvm.ClassFile.FieldType.boolean), Jvm.Cond.code y_14 jdk_42_method_79_code (2 : Nat) (Option.some Jvm.ClassFile.FieldType.int), Jvm.Cond.code y_15 jdk_42_method_80_code (3 : Nat) (Option.some Jvm.ClassFile.FieldType.int), Jvm.Cond.code y_16 jdk_42_method_154_code (1 : Nat) (Option.some Jvm.ClassFile.FieldType.boolean), Jvm.Cond.code y_17 jdk_42_method_54_code (1 : Nat) (Option.some Jvm.ClassFile.FieldType.int), Jvm.Cond.code y_18 jdk_42_method_152_code (1 : Nat) (Option.some Jvm.ClassFile.FieldType.byte), Jvm.Cond.code y_19 jdk_43_method_22_code (4 : Nat) (Option.some Jvm.ClassFile.FieldType.int), Jvm.Cond.code y_20 jdk_43_method_4_code (1 : Nat) (Option.some Jvm.ClassFile.FieldType.boolean), Jvm.Cond.code y_21 jdk_29_method_65_code (2 : Nat) (Option.some Jvm.ClassFile.FieldType.int), Jvm.Cond.code y_22 jdk_29_method_69_code (2 : Nat) (Option.some Jvm.ClassFile.FieldType.int), Jvm.Cond.code y_23 jdk_43_method_23_code (6 : Nat) (Option.some Jvm.ClassFile.FieldType.int), Jvm.Cond.code y_24 prog_27_method_5_code (3 : Nat) (Option.some (Jvm.ClassFile.FieldType.object "java/lang/String")), Jvm.Cond.code y_25 jdk_67_method_1_code (1 : Nat) (Option.none : Option Jvm.ClassFile.FieldType), Jvm.Cond.code y_26 jdk_68_method_2_code (2 : Nat) (Option.none : Option Jvm.ClassFile.FieldType), Jvm.Cond.code y_27 jdk_67_method_7_code (2 : Nat) (Option.some (Jvm.ClassFile.FieldType.object "java/lang/StringBuilder")), Jvm.Cond.code y_28 jdk_68_method_22_code (3 : Nat) (Option.some (Jvm.ClassFile.FieldType.object "java/lang/AbstractStringBuilder")), Jvm.Cond.code y_29 jdk_68_method_9_code (3 : Nat) (Option.none : Option Jvm.ClassFile.FieldType), Jvm.Cond.code y_30 jdk_68_method_73_code (3 : Nat) (Option.none : Option Jvm.ClassFile.FieldType), Jvm.Cond.code y_31 jdk_68_method_71_code (2 : Nat) (Option.none : Option Jvm.ClassFile.FieldType), Jvm.Cond.code y_32 jdk_42_method_147_code (4 : Nat) (Option.none : Option Jvm.ClassFile.FieldType), Jvm.Cond.code y_33 jdk_68_method_10_code (6 : Nat) (Option.some Jvm.ClassFile.FieldType.int), Jvm.Cond.code y_34 jdk_48_method_27_code (4 : Nat) (Option.some Jvm.ClassFile.FieldType.int), Jvm.Cond.code y_35 jdk_65_method_121_code (3 : Nat) (Option.some (Jvm.ClassFile.FieldType.array Jvm.ClassFile.FieldType.byte)), Jvm.Cond.code y_36 jdk_67_method_42_code (1 : Nat) (Option.some (Jvm.ClassFile.FieldType.object "java/lang/String")), Jvm.Cond.code y_37 jdk_42_method_53_code (2 : Nat) (Option.none : Option Jvm.ClassFile.FieldType), Jvm.Cond.code y_38 jdk_42_method_150_code (5 : Nat) (Option.none : Option Jvm.ClassFile.FieldType), Jvm.Cond.code y_39 jdk_68_method_64_code (1 : Nat) (Option.some (Jvm.ClassFile.FieldType.array Jvm.ClassFile.FieldType.byte)), Jvm.Cond.code y_40 jdk_67_method_93_code (1 : Nat) (Option.some Jvm.ClassFile.FieldType.int), Jvm.Cond.code y_41 jdk_68_method_6_code (1 : Nat) (Option.some Jvm.ClassFile.FieldType.int), Jvm.Cond.code y_42 jdk_68_method_68_code (1 : Nat) (Option.some Jvm.ClassFile.FieldType.boolean), Jvm.Cond.code y_43 jdk_65_method_132_code (3 : Nat) (Option.some (Jvm.ClassFile.FieldType.array Jvm.ClassFile.FieldType.byte)), Jvm.Cond.code y_44 jdk_65_method_133_code (5 : Nat) (Option.some (Jvm.ClassFile.FieldType.array Jvm.ClassFile.FieldType.byte)), Jvm.Cond.code y_45 jdk_65_method_131_code (2 : Nat) (Option.none : Option Jvm.ClassFile.FieldType), Jvm.Cond.code y_46 jdk_42_method_59_code (3 : Nat) (Option.some Jvm.ClassFile.FieldType.int), Jvm.Cond.code y_47 jdk_31_method_18_code (3 : Nat) (Option.some Jvm.ClassFile.FieldType.int), Jvm.Cond.code y_48 jdk_41_method_12_code (4 : Nat) (Option.some Jvm.ClassFile.FieldType.int), Jvm.Cond.code y_49 prog_31_method_1_code (2 : Nat) (Option.none : Option Jvm.ClassFile.FieldType), Jvm.Cond.code y_50 prog_51_method_11_code (3 : Nat) (Option.some (Jvm.ClassFile.FieldType.array Jvm.ClassFile.FieldType.byte)), Jvm.Cond.code y_51 prog_53_method_1_code (1 : Nat) (Option.none : Option Jvm.ClassFile.FieldType), Jvm.Cond.code y_52 jdk_2005_method_1_code (1 : Nat) (Option.none : Option Jvm.ClassFile.FieldType), Jvm.Cond.code y_53 jdk_2005_method_2_code (2 : Nat) (Option.none : Option Jvm.ClassFile.FieldType), Jvm.Cond.code y_54 jdk_2038_method_1_code (1 : Nat) (Option.none : Option Jvm.ClassFile.FieldType), Jvm.Cond.code y_55 prog_53_method_3_code (2 : Nat) (Option.none : Option Jvm.ClassFile.FieldType), Jvm.Cond.code y_57 jdk_2005_method_3_code (4 : Nat) (Option.none : Option Jvm.ClassFile.FieldType), Jvm.Cond.code y_58 prog_53_method_9_code (2 : Nat) (Option.none : Option Jvm.ClassFile.FieldType), Jvm.Cond.code y_59 prog_16_method_8_code (1 : Nat) (Option.some (Jvm.ClassFile.FieldType.object "java/lang/String")), Jvm.Cond.code y_60 prog_53_method_6_code (4 : Nat) (Option.none : Option Jvm.ClassFile.FieldType), Jvm.Cond.code y_61 prog_53_method_5_code (2 : Nat) (Option.none : Option Jvm.ClassFile.FieldType), Jvm.Cond.code y_62 prog_53_method_4_code (5 : Nat) (Option.none : Option Jvm.ClassFile.FieldType), Jvm.Cond.code y_63 jdk_42_method_56_code (2 : Nat) (Option.some Jvm.ClassFile.FieldType.char), Jvm.Cond.code y_64 jdk_43_method_2_code (2 : Nat) (Option.some Jvm.ClassFile.FieldType.char), Jvm.Cond.code y_65 jdk_42_method_155_code (2 : Nat) (Option.none : Option Jvm.ClassFile.FieldType), Jvm.Cond.code y_66 jdk_41_method_11_code (3 : Nat) (Option.some Jvm.ClassFile.FieldType.int), Jvm.Cond.code y_67 prog_16_method_9_code (1 : Nat) (Option.some (Jvm.ClassFile.FieldType.object "java/lang/String")), Jvm.Cond.code y_68 prog_53_method_10_code (3 : Nat) (Option.none : Option Jvm.ClassFile.FieldType), Jvm.Cond.code y_69 prog_31_method_2_code (1 : Nat) (Option.some (Jvm.ClassFile.FieldType.array Jvm.ClassFile.FieldType.byte)), Jvm.Cond.code y_70 jdk_2005_method_6_code (2 : Nat) (Option.none : Option Jvm.ClassFile.FieldType), Jvm.Cond.code y_72 jdk_31_method_19_code (3 : Nat) (Option.some Jvm.ClassFile.FieldType.int), Jvm.Cond.code y_73 jdk_41_method_13_code (4 : Nat) (Option.some Jvm.ClassFile.FieldType.int), Jvm.Cond.code y_74 prog_53_method_2_code (1 : Nat) (Option.some (Jvm.ClassFile.FieldType.array Jvm.ClassFile.FieldType.byte)), Jvm.Cond.code y_76 jdk_52_method_24_code (2 : Nat) (Option.some (Jvm.ClassFile.FieldType.array Jvm.ClassFile.FieldType.byte)), Jvm.Cond.code y_77 jdk_52_method_4_code (3 : Nat) (Option.none : Option Jvm.ClassFile.FieldType), Jvm.Cond.code y_78 jdk_68_method_11_code (2 : Nat) (Option.none : Option Jvm.ClassFile.FieldType), Jvm.Cond.code y_79 jdk_52_method_2_code (1 : Nat) (Option.some (Jvm.ClassFile.FieldType.array Jvm.ClassFile.FieldType.byte)), Jvm.Cond.code y_80 jdk_52_method_3_code (1 : Nat) (Option.some Jvm.ClassFile.FieldType.int), Jvm.Cond.code y_81 jdk_43_method_50_code (5 : Nat) (Option.none : Option Jvm.ClassFile.FieldType), Jvm.Cond.code y_82 jdk_52_method_86_code (6 : Nat) (Option.none : Option Jvm.ClassFile.FieldType), Jvm.Cond.code y_83 jdk_52_method_94_code (3 : Nat) (Option.none : Option Jvm.ClassFile.FieldType), Jvm.Cond.code y_84 jdk_52_method_6_code (1 : Nat) (Option.some Jvm.ClassFile.FieldType.int), Jvm.Cond.code y_85 jdk_42_method_157_code (3 : Nat) (Option.some Jvm.ClassFile.FieldType.int), Jvm.Cond.code y_86 jdk_52_method_12_code (3 : Nat) (Option.some Jvm.ClassFile.FieldType.int), Jvm.Cond.code y_87 jdk_52_method_11_code (6 : Nat) (Option.some Jvm.ClassFile.FieldType.int), Jvm.Cond.code y_88 jdk_52_method_5_code (2 : Nat) (Option.some Jvm.ClassFile.FieldType.char), Jvm.Cond.code y_89 jdk_89_method_14_code (1 : Nat) (Option.some Jvm.ClassFile.FieldType.boolean), Jvm.Cond.code y_90 jdk_52_method_83_code (2 : Nat) (Option.some Jvm.ClassFile.FieldType.char), Jvm.Cond.code y_91 jdk_52_method_91_code (2 : Nat) (Option.none : Option Jvm.ClassFile.FieldType)]
theorem codes_eq : words1.filter isCode = codes1 := rfl
theorem w_codes : ∀ c ∈ words1.filter isCode, c.before args0 about1 = true := by
  rw [codes_eq]
  intro c hc
  simp only [codes1, List.mem_cons, List.not_mem_nil, or_false] at hc
  rcases hc with rfl | rfl | rfl | rfl | rfl | rfl | rfl | rfl | rfl | rfl | rfl | rfl | rfl | rfl | rfl | rfl | rfl | rfl | rfl | rfl | rfl | rfl | rfl | rfl | rfl | rfl | rfl | rfl | rfl | rfl | rfl | rfl | rfl | rfl | rfl | rfl | rfl | rfl | rfl | rfl | rfl | rfl | rfl | rfl | rfl | rfl | rfl | rfl | rfl | rfl | rfl | rfl | rfl | rfl | rfl | rfl | rfl | rfl | rfl | rfl | rfl | rfl | rfl | rfl | rfl | rfl | rfl | rfl | rfl | rfl | rfl | rfl | rfl | rfl | rfl | rfl | rfl | rfl | rfl | rfl | rfl | rfl | rfl | rfl | rfl | rfl | rfl | rfl | rfl
  · exact w_c0
  · exact w_c1
  · exact w_c2
  · exact w_c3
  · exact w_c4
  · exact w_c5
  · exact w_c6
  · exact w_c7
  · exact w_c8
  · exact w_c9
  · exact w_c10
  · exact w_c11
  · exact w_c12
  · exact w_c13
  · exact w_c14
  · exact w_c15
  · exact w_c16
  · exact w_c17
  · exact w_c18
  · exact w_c19
  · exact w_c20
  · exact w_c21
  · exact w_c22
  · exact w_c23
  · exact w_c24
  · exact w_c25
  · exact w_c26
  · exact w_c27
  · exact w_c28
  · exact w_c29
  · exact w_c30
  · exact w_c31
  · exact w_c32
  · exact w_c33
  · exact w_c34
  · exact w_c35
  · exact w_c36
  · exact w_c37
  · exact w_c38
  · exact w_c39
  · exact w_c40
  · exact w_c41
  · exact w_c42
  · exact w_c43
  · exact w_c44
  · exact w_c45
  · exact w_c46
  · exact w_c47
  · exact w_c48
  · exact w_c49
  · exact w_c50
  · exact w_c51
  · exact w_c52
  · exact w_c53
  · exact w_c54
  · exact w_c55
  · exact w_c56
  · exact w_c57
  · exact w_c58
  · exact w_c59
  · exact w_c60
  · exact w_c61
  · exact w_c62
  · exact w_c63
  · exact w_c64
  · exact w_c65
  · exact w_c66
  · exact w_c67
  · exact w_c68
  · exact w_c69
  · exact w_c70
  · exact w_c71
  · exact w_c72
  · exact w_c73
  · exact w_c74
  · exact w_c75
  · exact w_c76
  · exact w_c77
  · exact w_c78
  · exact w_c79
  · exact w_c80
  · exact w_c81
  · exact w_c82
  · exact w_c83
  · exact w_c84
  · exact w_c85
  · exact w_c86
  · exact w_c87
  · exact w_c88
theorem w_t1 : (words1.take 24).all (fun c => isCode c || c.before args0 about1) = true := by decide +kernel
theorem w_t2 : ((words1.drop 24).take 24).all (fun c => isCode c || c.before args0 about1) = true := by decide +kernel
theorem w_t3 : (((words1.drop 24).drop 24).take 24).all (fun c => isCode c || c.before args0 about1) = true := by decide +kernel
theorem w_t4 : ((((words1.drop 24).drop 24).drop 24).take 24).all (fun c => isCode c || c.before args0 about1) = true := by decide +kernel
theorem w_t5 : (((((words1.drop 24).drop 24).drop 24).drop 24).take 24).all (fun c => isCode c || c.before args0 about1) = true := by decide +kernel
theorem w_t6 : ((((((words1.drop 24).drop 24).drop 24).drop 24).drop 24).take 24).all (fun c => isCode c || c.before args0 about1) = true := by decide +kernel
theorem w_t7 : (((((((words1.drop 24).drop 24).drop 24).drop 24).drop 24).drop 24).take 24).all (fun c => isCode c || c.before args0 about1) = true := by decide +kernel
theorem w_t8 : ((((((((words1.drop 24).drop 24).drop 24).drop 24).drop 24).drop 24).drop 24).take 24).all (fun c => isCode c || c.before args0 about1) = true := by decide +kernel
theorem w_t9 : (((((((((words1.drop 24).drop 24).drop 24).drop 24).drop 24).drop 24).drop 24).drop 24).take 24).all (fun c => isCode c || c.before args0 about1) = true := by decide +kernel
theorem w_t10 : ((((((((((words1.drop 24).drop 24).drop 24).drop 24).drop 24).drop 24).drop 24).drop 24).drop 24).take 24).all (fun c => isCode c || c.before args0 about1) = true := by decide +kernel
theorem w_t11 : (((((((((((words1.drop 24).drop 24).drop 24).drop 24).drop 24).drop 24).drop 24).drop 24).drop 24).drop 24).take 24).all (fun c => isCode c || c.before args0 about1) = true := by decide +kernel
theorem w_t12 : ((((((((((((words1.drop 24).drop 24).drop 24).drop 24).drop 24).drop 24).drop 24).drop 24).drop 24).drop 24).drop 24).take 24).all (fun c => isCode c || c.before args0 about1) = true := by decide +kernel
theorem w_t13 : (((((((((((((words1.drop 24).drop 24).drop 24).drop 24).drop 24).drop 24).drop 24).drop 24).drop 24).drop 24).drop 24).drop 24).take 24).all (fun c => isCode c || c.before args0 about1) = true := by decide +kernel
theorem w_t14 : ((((((((((((((words1.drop 24).drop 24).drop 24).drop 24).drop 24).drop 24).drop 24).drop 24).drop 24).drop 24).drop 24).drop 24).drop 24).take 24).all (fun c => isCode c || c.before args0 about1) = true := by decide +kernel
theorem w_t15 : (((((((((((((((words1.drop 24).drop 24).drop 24).drop 24).drop 24).drop 24).drop 24).drop 24).drop 24).drop 24).drop 24).drop 24).drop 24).drop 24).take 24).all (fun c => isCode c || c.before args0 about1) = true := by decide +kernel
theorem w_t16 : ((((((((((((((((words1.drop 24).drop 24).drop 24).drop 24).drop 24).drop 24).drop 24).drop 24).drop 24).drop 24).drop 24).drop 24).drop 24).drop 24).drop 24).take 24).all (fun c => isCode c || c.before args0 about1) = true := by decide +kernel
theorem w_t17 : (((((((((((((((((words1.drop 24).drop 24).drop 24).drop 24).drop 24).drop 24).drop 24).drop 24).drop 24).drop 24).drop 24).drop 24).drop 24).drop 24).drop 24).drop 24).take 24).all (fun c => isCode c || c.before args0 about1) = true := by decide +kernel
theorem w_t18 : ((((((((((((((((((words1.drop 24).drop 24).drop 24).drop 24).drop 24).drop 24).drop 24).drop 24).drop 24).drop 24).drop 24).drop 24).drop 24).drop 24).drop 24).drop 24).drop 24).take 24).all (fun c => isCode c || c.before args0 about1) = true := by decide +kernel
theorem w_t19 : (((((((((((((((((((words1.drop 24).drop 24).drop 24).drop 24).drop 24).drop 24).drop 24).drop 24).drop 24).drop 24).drop 24).drop 24).drop 24).drop 24).drop 24).drop 24).drop 24).drop 24).take 24).all (fun c => isCode c || c.before args0 about1) = true := by decide +kernel
theorem w_t20 : (((((((((((((((((((words1.drop 24).drop 24).drop 24).drop 24).drop 24).drop 24).drop 24).drop 24).drop 24).drop 24).drop 24).drop 24).drop 24).drop 24).drop 24).drop 24).drop 24).drop 24).drop 24).all (fun c => isCode c || c.before args0 about1) = true := by decide +kernel
theorem w_tables : (allAtoms (Jvm.Cond.code x code maxLocals ret :: tables_1)).before args0 about1 = true := by
  rw [allAtoms_all]
  show words1.all (fun c => c.before args0 about1) = true
  refine all_split ?_ w_codes
  rw [← List.take_append_drop 24 words1, List.all_append, w_t1, ← List.take_append_drop 24 (words1.drop 24), List.all_append, w_t2, ← List.take_append_drop 24 ((words1.drop 24).drop 24), List.all_append, w_t3, ← List.take_append_drop 24 (((words1.drop 24).drop 24).drop 24), List.all_append, w_t4, ← List.take_append_drop 24 ((((words1.drop 24).drop 24).drop 24).drop 24), List.all_append, w_t5, ← List.take_append_drop 24 (((((words1.drop 24).drop 24).drop 24).drop 24).drop 24), List.all_append, w_t6, ← List.take_append_drop 24 ((((((words1.drop 24).drop 24).drop 24).drop 24).drop 24).drop 24), List.all_append, w_t7, ← List.take_append_drop 24 (((((((words1.drop 24).drop 24).drop 24).drop 24).drop 24).drop 24).drop 24), List.all_append, w_t8, ← List.take_append_drop 24 ((((((((words1.drop 24).drop 24).drop 24).drop 24).drop 24).drop 24).drop 24).drop 24), List.all_append, w_t9, ← List.take_append_drop 24 (((((((((words1.drop 24).drop 24).drop 24).drop 24).drop 24).drop 24).drop 24).drop 24).drop 24), List.all_append, w_t10, ← List.take_append_drop 24 ((((((((((words1.drop 24).drop 24).drop 24).drop 24).drop 24).drop 24).drop 24).drop 24).drop 24).drop 24), List.all_append, w_t11, ← List.take_append_drop 24 (((((((((((words1.drop 24).drop 24).drop 24).drop 24).drop 24).drop 24).drop 24).drop 24).drop 24).drop 24).drop 24), List.all_append, w_t12, ← List.take_append_drop 24 ((((((((((((words1.drop 24).drop 24).drop 24).drop 24).drop 24).drop 24).drop 24).drop 24).drop 24).drop 24).drop 24).drop 24), List.all_append, w_t13, ← List.take_append_drop 24 (((((((((((((words1.drop 24).drop 24).drop 24).drop 24).drop 24).drop 24).drop 24).drop 24).drop 24).drop 24).drop 24).drop 24).drop 24), List.all_append, w_t14, ← List.take_append_drop 24 ((((((((((((((words1.drop 24).drop 24).drop 24).drop 24).drop 24).drop 24).drop 24).drop 24).drop 24).drop 24).drop 24).drop 24).drop 24).drop 24), List.all_append, w_t15, ← List.take_append_drop 24 (((((((((((((((words1.drop 24).drop 24).drop 24).drop 24).drop 24).drop 24).drop 24).drop 24).drop 24).drop 24).drop 24).drop 24).drop 24).drop 24).drop 24), List.all_append, w_t16, ← List.take_append_drop 24 ((((((((((((((((words1.drop 24).drop 24).drop 24).drop 24).drop 24).drop 24).drop 24).drop 24).drop 24).drop 24).drop 24).drop 24).drop 24).drop 24).drop 24).drop 24), List.all_append, w_t17, ← List.take_append_drop 24 (((((((((((((((((words1.drop 24).drop 24).drop 24).drop 24).drop 24).drop 24).drop 24).drop 24).drop 24).drop 24).drop 24).drop 24).drop 24).drop 24).drop 24).drop 24).drop 24), List.all_append, w_t18, ← List.take_append_drop 24 ((((((((((((((((((words1.drop 24).drop 24).drop 24).drop 24).drop 24).drop 24).drop 24).drop 24).drop 24).drop 24).drop 24).drop 24).drop 24).drop 24).drop 24).drop 24).drop 24).drop 24), List.all_append, w_t19, w_t20]
  rfl
theorem w_rest : rest_1_c.before args0 about1 = true := by decide +kernel
theorem w_case : (Jvm.Cond.and given_1 narrow_1).before args0 about1 = true := by decide +kernel
theorem w_consts : constsHeld consts_1 about1 := Jvm.Lit.constsHeldB_iff.mp (by decide +kernel)
theorem w_applies : (headSpec (Jvm.Cond.code x code maxLocals ret :: tables_1) room_1).applies x e0.platform about1 = true :=
  (Spec.applies_iff w_frames).mpr ⟨w_running, w_runnable, w_alone, w_named, w_hears, w_ripe, w_room, w_tables⟩
theorem atStart : AtStart classFile x code maxLocals ret World_1 tables_1 room_1 Calls_1 rest_1 Pre_1 launch0 p0 e0 about1 theMethod args0 below0 :=
  ⟨lists_1, trivial, launch0.admits_env _ _ _, launch0.least_env, fairChoices_fair.cas, fairChoices_fair.clock, w_frames, w_args, w_heap, w_applies, ⟨w_consts, trivial⟩, w_rest, w_case⟩
end start1
theorem witness_1 : WitnessClaimed_1 := ⟨start1.p0, start1.e0, start1.about1, start1.theMethod, start1.args0, start1.below0, start1.atStart⟩
end Jvm.Pilot.@@N@@
