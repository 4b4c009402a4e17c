import JvmDerived
import JvmDerived.Pilot.@@N@@Statement
import JvmDerived.Pilot.@@N@@Code
set_option linter.unusedVariables false
set_option linter.unusedSimpArgs false
namespace Jvm.OwnKit
open Sem ClassFile Op Lib Jvm.Stand Jvm.Free Jvm.LawKit Jvm.RoadKit
/-- from S the run comes to a state of which P holds -/
def Go (tb : Tables) (e : Env) (below : List Frame) (P : State → Prop) (S : State) : Prop := ∃ t, Steps tb e below S t ∧ P t
theorem Go.st {tb : Tables} {e : Env} {below : List Frame} {P : State → Prop} {S S' : State} (h : ∀ t, Steps tb e below S' t → Steps tb e below S t) (g : Go tb e below P S') : Go tb e below P S := by
  obtain ⟨t, h1, h2⟩ := g
  exact ⟨t, h t h1, h2⟩
theorem Go.cast {tb : Tables} {e : Env} {below : List Frame} {P : State → Prop} {T : State} {g g' : JFrame} (q : g = g') (k : Go tb e below P (T.setTop g')) : Go tb e below P (T.setTop g) := q ▸ k
/-- the invocation of s has returned, and Q says what -/
def Fine (s : State) (below : List Frame) (Q : Option Value → Heap → List Loc → Prop) (kc ks : Nat) (t : State) : Prop := ∃ o, t.status = .running ∧ Ended t below o ∧ ∃ v L, o = .returned v ∧ Q v t.heap L ∧ FrameEnd s o t L kc ks
/-- a method's contract, over the tables of the start Z: called with 'as' at the heap h0 it returns, and Q says what -/
def Con (l : Launch) (Z : State) (y : MethodName) (bytes : ByteArray) (maxL : Nat) (ret : Option FieldType) (ws : List Jvm.Cond) (rm : Room) (as : Array Value) (h0 : Heap) (Q : Option Value → Heap → List Loc → Prop) : Prop :=
  MetFree l y (head1 (Jvm.Cond.code y bytes maxL ret :: ws) rm) (fun a U => a = as ∧ Z.Warmed39 U.vm ∧ U.heap = h0) (fun _ _ _ _ _ => True) (fun _ U o U' => ∃ v L, o = .returned v ∧ Q v U'.heap L ∧ FrameEnd U o U' L rm.cells rm.slots)
theorem Con.of {l : Launch} {Z : State} {y : MethodName} {bytes : ByteArray} {maxL : Nat} {ret : Option FieldType} {ws : List Jvm.Cond} {rm : Room} {as : Array Value} {h0 : Heap} {Q : Option Value → Heap → List Loc → Prop} (hpl : plainFor y = true)
    (body : ∀ (p : Program) (e : Env) (s : State) (m : MethodId) (below : List Frame) (meth : Method) (c : Code) (s₁ : State), Z.Warmed39 s.vm → s₁.heap = h0 → Stand p l e rm s m as below meth c s₁ [] 0 0 → p.tables.exec = Jvm.exec → c.code = bytes → c.maxLocals = maxL → s.vm.findClass y.cls = some m.cls → meth.name = y.name → meth.sig.returnType = ret → meth.locks = false →
      Go p.tables e below (Fine s below Q rm.cells rm.slots) (s₁.setTop (entryFrame m as maxL))) : Con l Z y bytes maxL ret ws rm as h0 Q := by
  refine MetFree.of_bodySF hpl hisR ?_
  intro p e s m args below meth c s₁ Bd hml hP hK
  obtain ⟨rfl, hZ, hh⟩ := hP
  have e0 : s₁.heap = h0 := by rw [← hh, Bd.state]; rfl
  obtain ⟨t, h1, o, h2, h3, h4⟩ := body p e s m below meth c s₁ hZ e0 (Stand.of_body Bd) Bd.exec Bd.bytes hml (findClass_of_methodNamed Bd.named) (name_of_methodNamed Bd.named Bd.method).1 Bd.returns Bd.notSynchronized
  exact ⟨t, o, h1, h2, h3, h4⟩
def bi (P : Prop) [Decidable P] : Int32 := if P then 1 else 0
theorem bi_t {P : Prop} [Decidable P] (h : P) : bi P = 1 := if_pos h
theorem bi_f {P : Prop} [Decidable P] (h : ¬ P) : bi P = 0 := if_neg h
theorem eqL_v {args : Array Value} {first s : State} {o : Option Outcome} {idx : List Nat} {t : Term} {k : Int64} (h : (Cond.eq t (.long k)).value args first o s idx = some true) : t.eval args first o idx s = some (.long k) := by
  obtain ⟨x, y, ev, ey, -, hk⟩ := cmp_v (Or.inl h)
  obtain rfl : Value.long k = y := Option.some.inj ey
  obtain ⟨z, rfl⟩ := hk
  obtain rfl : z = k := gotT (eq_L ev ey) h
  exact ev
theorem eqI_v {args : Array Value} {first s : State} {o : Option Outcome} {idx : List Nat} {t : Term} {k : Int32} (h : (Cond.eq t (.int k)).value args first o s idx = some true) : t.eval args first o idx s = some (.int k) := by
  obtain ⟨x, y, ev, ey, -, hk⟩ := cmp_v (Or.inl h)
  obtain rfl : Value.int k = y := Option.some.inj ey
  obtain ⟨z, rfl⟩ := hk
  have q : (Cond.eq t (.int k)).value args first o s idx = some (decide (z = k)) := by simp [Cond.value, ev, ey]
  obtain rfl : z = k := gotT q h
  exact ev
section
variable {p : Program} {l : Launch} {e : Env} {R : Room} {s : State} {m : MethodId} {args : Array Value} {below : List Frame} {meth : Method} {c : Code} {T : State} {locs : List Loc} {cells slots : Nat} {Z : State} {a0 : Array Value} {h : Heap}
theorem fin {Q : Option Value → Heap → List Loc → Prop} {kc ks : Nat} {v : Option Value} {S : State} (X : Stand p l e R s m args below meth c T locs cells slots) (hv : meth.sig.returnType = none → v = none) (hlk : meth.locks = false) (hq : Q v T.heap locs) (hc : cells ≤ kc) (hs : slots ≤ ks)
    (st : ∀ fs, (∀ (f : JFrame) (acts : List Action), f.method = m → f.locked = none → f.entered = [] → (doReturn e (T.setTop f) acts v).1 = T.setFrames fs) → Steps p.tables e below S (T.setFrames fs)) : Go p.tables e below (Fine s below Q kc ks) S := by
  obtain ⟨fs, hr, hrun, hended, hW, hsame⟩ := X.leave (v := v) hv hlk
  exact ⟨_, st fs hr, _, hrun, hended, v, locs, rfl, hq, ⟨_, rfl⟩, hW, hsame.mono hc hs⟩
/-- return of an int, a long, a reference (no narrowing) -/
theorem endW {Q : Option Value → Heap → List Loc → Prop} {kc ks : Nat} (X : Stand p l e R s m args below meth c T locs cells slots) (hx : p.tables.exec = Jvm.exec) (hlk : meth.locks = false) {pc : Nat} {Ls : Array Slot} {w : Value} {t : FieldType} {i : Instr} {rest : List Value} (hret : meth.sig.returnType = some t) (hn : narrow t w = w)
    (hi : (i = .ireturn ∧ (t = .int ∨ t = .boolean ∨ t = .byte ∨ t = .char ∨ t = .short) ∧ ∃ z, w = .int z) ∨ (i = .lreturn ∧ t = .long ∧ ∃ z, w = .long z) ∨ (i = .dreturn ∧ t = .double ∧ ∃ z, w = .double z) ∨ (i = .freturn ∧ t = .float ∧ ∃ z, w = .float z) ∨ (i = .areturn ∧ t.isReference = true ∧ w.isRef = true))
    (hd : decode c.code pc = .ok (i, 1)) (hq : Q (some w) T.heap locs) (hc : cells ≤ kc) (hs : slots ≤ ks) : Go p.tables e below (Fine s below Q kc ks) (T.setTop (mkF m pc Ls (w :: rest))) :=
  fin X (fun h => by rw [hret] at h; cases h) hlk hq hc hs fun fs hr => retOut X hx hret hn hi hd hr
theorem endI {Q : Option Value → Heap → List Loc → Prop} {kc ks : Nat} (X : Stand p l e R s m args below meth c T locs cells slots) (hx : p.tables.exec = Jvm.exec) (hlk : meth.locks = false) {pc : Nat} {Ls : Array Slot} {z : Int32} {rest : List Value} (hret : meth.sig.returnType = some .int)
    (hd : decode c.code pc = .ok (.ireturn, 1)) (hq : Q (some (.int z)) T.heap locs) (hc : cells ≤ kc) (hs : slots ≤ ks) : Go p.tables e below (Fine s below Q kc ks) (T.setTop (mkF m pc Ls (.int z :: rest))) :=
  endW X hx hlk hret rfl (Or.inl ⟨rfl, Or.inl rfl, z, rfl⟩) hd hq hc hs
theorem endJ {Q : Option Value → Heap → List Loc → Prop} {kc ks : Nat} (X : Stand p l e R s m args below meth c T locs cells slots) (hx : p.tables.exec = Jvm.exec) (hlk : meth.locks = false) {pc : Nat} {Ls : Array Slot} {z : Int64} {rest : List Value} (hret : meth.sig.returnType = some .long)
    (hd : decode c.code pc = .ok (.lreturn, 1)) (hq : Q (some (.long z)) T.heap locs) (hc : cells ≤ kc) (hs : slots ≤ ks) : Go p.tables e below (Fine s below Q kc ks) (T.setTop (mkF m pc Ls (.long z :: rest))) :=
  endW X hx hlk hret rfl (Or.inr (Or.inl ⟨rfl, rfl, z, rfl⟩)) hd hq hc hs
theorem endD {Q : Option Value → Heap → List Loc → Prop} {kc ks : Nat} (X : Stand p l e R s m args below meth c T locs cells slots) (hx : p.tables.exec = Jvm.exec) (hlk : meth.locks = false) {pc : Nat} {Ls : Array Slot} {z : UInt64} {rest : List Value} (hret : meth.sig.returnType = some .double)
    (hd : decode c.code pc = .ok (.dreturn, 1)) (hq : Q (some (.double z)) T.heap locs) (hc : cells ≤ kc) (hs : slots ≤ ks) : Go p.tables e below (Fine s below Q kc ks) (T.setTop (mkF m pc Ls (.double z :: rest))) :=
  endW X hx hlk hret rfl (Or.inr (Or.inr (Or.inl ⟨rfl, rfl, z, rfl⟩))) hd hq hc hs
theorem endR {Q : Option Value → Heap → List Loc → Prop} {kc ks : Nat} (X : Stand p l e R s m args below meth c T locs cells slots) (hx : p.tables.exec = Jvm.exec) (hlk : meth.locks = false) {pc : Nat} {Ls : Array Slot} {w : Value} {t : FieldType} {rest : List Value} (hret : meth.sig.returnType = some t) (ht : t.isReference = true) (hw : w.isRef = true)
    (hd : decode c.code pc = .ok (.areturn, 1)) (hq : Q (some w) T.heap locs) (hc : cells ≤ kc) (hs : slots ≤ ks) : Go p.tables e below (Fine s below Q kc ks) (T.setTop (mkF m pc Ls (w :: rest))) :=
  endW X hx hlk hret (by cases w <;> first | rfl | (cases t <;> first | rfl | cases ht) | cases hw) (Or.inr (Or.inr (Or.inr (Or.inr ⟨rfl, ht, hw⟩)))) hd hq hc hs
/-- return of a boolean, byte, char or short: narrowed -/
theorem endN {Q : Option Value → Heap → List Loc → Prop} {kc ks : Nat} (X : Stand p l e R s m args below meth c T locs cells slots) (hx : p.tables.exec = Jvm.exec) (hlk : meth.locks = false) {pc : Nat} {Ls : Array Slot} {z w : Int32} {t : FieldType} {rest : List Value} (hret : meth.sig.returnType = some t) (ht : t = .boolean ∨ t = .byte ∨ t = .char ∨ t = .short)
    (hd : decode c.code pc = .ok (.ireturn, 1)) (hz : nar t z = w) (hq : Q (some (.int w)) T.heap locs) (hc : cells ≤ kc) (hs : slots ≤ ks) : Go p.tables e below (Fine s below Q kc ks) (T.setTop (mkF m pc Ls (.int z :: rest))) := by
  subst hz
  exact fin X (fun h => by rw [hret] at h; cases h) hlk hq hc hs fun fs hr => retN X hx hret ht hd hr
theorem endV {Q : Option Value → Heap → List Loc → Prop} {kc ks : Nat} (X : Stand p l e R s m args below meth c T locs cells slots) (hx : p.tables.exec = Jvm.exec) (hlk : meth.locks = false) {pc : Nat} {Ls : Array Slot} (hret : meth.sig.returnType = none)
    (hd : decode c.code pc = .ok (.return_, 1)) (hq : Q none T.heap locs) (hc : cells ≤ kc) (hs : slots ≤ ks) : Go p.tables e below (Fine s below Q kc ks) (T.setTop (mkF m pc Ls [])) :=
  fin X (fun _ => rfl) hlk hq hc hs fun fs hr => X.returnOut hx hret hd hr
theorem lremM {g : JFrame} {target : State} (X : Stand p l e R s m args below meth c T locs cells slots) (hx : p.tables.exec = Jvm.exec) (hg : g.method = m) {x y : Int64} {rest : List Value} (hd : decode c.code g.pc = .ok (.lrem, 1)) (hs : g.stack = .long y :: .long x :: rest) (hy : y ≠ 0)
    (hr : Steps p.tables e below (T.setTop { g with pc := g.pc + 1, stack := .long (x % y) :: rest }) target) : Steps p.tables e below (T.setTop g) target := by
  have q : x - x / y * y = x % y := lrem_mod x y
  exact XS.lrem X.here hx hg hd hs hy (by rw [q]; exact hr)
/-- a static call by its contract -/
theorem callSt (X : Stand p l e R s m args below meth c T locs cells slots) (hx : p.tables.exec = Jvm.exec) (hZ : Z.Warmed39 s.vm) {own : String} {index : Nat} {y : MethodName} {bytes : ByteArray} {maxL : Nat} {ret : Option FieldType} {rm : Room} {Q : Option Value → Heap → List Loc → Prop} {argsL rest : List Value}
    (hown : s.vm.findClass own = some m.cls) (w1 : (Cond.methodLink own index y).before a0 Z = true) (w2 : (Cond.static y).before a0 Z = true) (w3 : (Cond.initialized y.cls).before a0 Z = true) (w4 : (Cond.code y bytes maxL ret).before a0 Z = true) (hy : y.cls ≠ "java/lang/invoke/MethodHandle" ∧ y.cls ≠ "java/lang/invoke/VarHandle")
    (hM : Con l Z y bytes maxL ret [] rm argsL.toArray h Q) (eT : T.heap = h) (W : Nat) (hf : rm.frames + 1 ≤ R.frames) (hl : W + (maxL + 11) + rm.locals ≤ R.locals) (hcc : cells + rm.cells ≤ R.cells) (hss : slots + rm.slots ≤ R.slots)
    {g : JFrame} (hg : g.method = m) (hsize : g.locals.size = c.maxLocals) (hlen : ∀ sig, parseMethodDescriptor y.desc = some sig → argsL.length = sig.parameters.length)
    (hstack : g.stack = argsL.reverse ++ rest) (hW : 2 * g.monitorRoom + (rest.map fun v => v.category).sum ≤ W) (hd : decode c.code g.pc = .ok (.invokestatic index, 3)) :
    ∃ v T' L, Stand p l e R s m args below meth c T' (locs ++ L) (cells + rm.cells) (slots + rm.slots) ∧ Q v T'.heap L ∧ ∀ target, Steps p.tables e below (T'.setTop { g with pc := g.pc + 3, stack := v.toList ++ rest }) target → Steps p.tables e below (T.setTop g) target := by
  obtain ⟨v, vm1, ⟨T', L', k', n'⟩, -, X', ⟨L, hQ, l1, l2, l3⟩, st⟩ := Jvm.LawKit.callS X hx hown (mvT hZ w1) (mvT hZ w2) (mvT hZ w3) (mvT hZ w4) hy (backOf (Q := Q) (W := W) hM hZ w4 w3 hf hl) hg hsize hlen hstack hW hd (fun _ _ => ⟨rfl, eT, hcc, hss⟩)
  (try dsimp only at X' l1 l2 l3 st hQ)
  subst l1 l2 l3
  exact ⟨v, T', L, X', hQ, st⟩
/-- a constructor by its contract -/
theorem callIn (X : Stand p l e R s m args below meth c T locs cells slots) (hx : p.tables.exec = Jvm.exec) (hZ : Z.Warmed39 s.vm) {own : String} {index : Nat} {y : MethodName} {bytes : ByteArray} {maxL : Nat} {rm : Room} {Q : Option Value → Heap → List Loc → Prop} {a : Addr} {argsL rest : List Value} (hy1 : y.name = "<init>")
    (hown : s.vm.findClass own = some m.cls) (w1 : (Cond.methodLink own index y).before a0 Z = true) (w2 : (Cond.instanceMethod y).before a0 Z = true) (w3 : (Cond.initialized y.cls).before a0 Z = true) (w4 : (Cond.code y bytes maxL none).before a0 Z = true) (hy : y.cls ≠ "java/lang/invoke/MethodHandle" ∧ y.cls ≠ "java/lang/invoke/VarHandle")
    (hM : Con l Z y bytes maxL none [] rm (.ref a :: argsL).toArray h Q) (eT : T.heap = h) (W : Nat) (hf : rm.frames + 1 ≤ R.frames) (hl : W + (maxL + 11) + rm.locals ≤ R.locals) (hcc : cells + rm.cells ≤ R.cells) (hss : slots + rm.slots ≤ R.slots)
    {g : JFrame} (hg : g.method = m) (hsize : g.locals.size = c.maxLocals) (hlen : ∀ sig, parseMethodDescriptor y.desc = some sig → argsL.length = sig.parameters.length)
    (hstack : g.stack = argsL.reverse ++ .ref a :: rest) (hW : 2 * g.monitorRoom + (rest.map fun v => v.category).sum ≤ W) (hd : decode c.code g.pc = .ok (.invokespecial index, 3)) :
    ∃ v T' L, Stand p l e R s m args below meth c T' (locs ++ L) (cells + rm.cells) (slots + rm.slots) ∧ Q v T'.heap L ∧ ∀ target, Steps p.tables e below (T'.setTop { g with pc := g.pc + 3, stack := v.toList ++ rest }) target → Steps p.tables e below (T.setTop g) target := by
  obtain ⟨v, vm1, ⟨T', L', k', n'⟩, -, X', ⟨L, hQ, l1, l2, l3⟩, st⟩ := X.specialBack hx hy1 hown (mvT hZ w1) (mvT hZ w2) (mvT hZ w4) hy (backOf (Q := Q) (W := W) hM hZ w4 w3 hf hl) hg hsize (Steps.refl _) hlen hstack hW hd (fun _ _ => ⟨rfl, eT, hcc, hss⟩)
  (try dsimp only at X' l1 l2 l3 st hQ)
  subst l1 l2 l3
  exact ⟨v, T', L, X', hQ, fun target k => st.trans k⟩
theorem mvM {s : State} {a0 args : Array Value} {own host : String} {y : MethodName} {index : Nat} (hZ : Z.Warmed39 s.vm) (w : (Cond.methodLinkNest own index y host).before a0 Z = true) : (Cond.methodLinkNest own index y host).before args s = true := (Cond.methodLinkNest_wide hZ w :)
/-- a nest mate's constructor by its contract -/
theorem callInN (X : Stand p l e R s m args below meth c T locs cells slots) (hx : p.tables.exec = Jvm.exec) (hZ : Z.Warmed39 s.vm) {own host : String} {index : Nat} {y : MethodName} {bytes : ByteArray} {maxL : Nat} {rm : Room} {Q : Option Value → Heap → List Loc → Prop} {a : Addr} {argsL rest : List Value} (hy1 : y.name = "<init>")
    (hown : s.vm.findClass own = some m.cls) (w1 : (Cond.methodLinkNest own index y host).before a0 Z = true) (w2 : (Cond.instanceMethod y).before a0 Z = true) (w3 : (Cond.initialized y.cls).before a0 Z = true) (w4 : (Cond.code y bytes maxL none).before a0 Z = true) (hy : y.cls ≠ "java/lang/invoke/MethodHandle" ∧ y.cls ≠ "java/lang/invoke/VarHandle")
    (hM : Con l Z y bytes maxL none [] rm (.ref a :: argsL).toArray h Q) (eT : T.heap = h) (W : Nat) (hf : rm.frames + 1 ≤ R.frames) (hl : W + (maxL + 11) + rm.locals ≤ R.locals) (hcc : cells + rm.cells ≤ R.cells) (hss : slots + rm.slots ≤ R.slots)
    {g : JFrame} (hg : g.method = m) (hsize : g.locals.size = c.maxLocals) (hlen : ∀ sig, parseMethodDescriptor y.desc = some sig → argsL.length = sig.parameters.length)
    (hstack : g.stack = argsL.reverse ++ .ref a :: rest) (hW : 2 * g.monitorRoom + (rest.map fun v => v.category).sum ≤ W) (hd : decode c.code g.pc = .ok (.invokespecial index, 3)) :
    ∃ v T' L, Stand p l e R s m args below meth c T' (locs ++ L) (cells + rm.cells) (slots + rm.slots) ∧ Q v T'.heap L ∧ ∀ target, Steps p.tables e below (T'.setTop { g with pc := g.pc + 3, stack := v.toList ++ rest }) target → Steps p.tables e below (T.setTop g) target := by
  obtain ⟨v, vm1, ⟨T', L', k', n'⟩, -, X', ⟨L, hQ, l1, l2, l3⟩, st⟩ := X.specialBackNest hx hy1 hown (mvM hZ w1) (mvT hZ w2) (mvT hZ w4) hy (backOf (Q := Q) (W := W) hM hZ w4 w3 hf hl) hg hsize (Steps.refl _) hlen hstack hW hd (fun _ _ => ⟨rfl, eT, hcc, hss⟩)
  (try dsimp only at X' l1 l2 l3 st hQ)
  subst l1 l2 l3
  exact ⟨v, T', L, X', hQ, fun target k => st.trans k⟩
/-- an instance method by the contract of the body that the receiver's class selects -/
theorem callVi (X : Stand p l e R s m args below meth c T locs cells slots) (hx : p.tables.exec = Jvm.exec) (hZ : Z.Warmed39 s.vm) {own C : String} {index : Nat} {y z : MethodName} {bytes : ByteArray} {maxL : Nat} {ret : Option FieldType} {rm : Room} {Q : Option Value → Heap → List Loc → Prop} {a : Addr} {argsL rest : List Value}
    (hown : s.vm.findClass own = some m.cls) (w1 : (Cond.methodLink own index y).before a0 Z = true) (w2 : (Cond.declares y).before a0 Z = true) (nf : NotFace s y) (w3 : (Cond.selects C y z).before a0 Z = true) (w4 : (Cond.instanceMethod z).before a0 Z = true) (w5 : (Cond.initialized z.cls).before a0 Z = true) (w6 : (Cond.code z bytes maxL ret).before a0 Z = true) (hy : y.cls ≠ "java/lang/invoke/MethodHandle" ∧ y.cls ≠ "java/lang/invoke/VarHandle")
    (hyz : z.desc = y.desc) (E : Exa Z h a C) (hM : Con l Z z bytes maxL ret [] rm (.ref a :: argsL).toArray h Q) (eT : T.heap = h) (W : Nat) (hf : rm.frames + 1 ≤ R.frames) (hl : W + (maxL + 11) + rm.locals ≤ R.locals) (hcc : cells + rm.cells ≤ R.cells) (hss : slots + rm.slots ≤ R.slots)
    {g : JFrame} (hg : g.method = m) (hsize : g.locals.size = c.maxLocals) (hlen : ∀ sig, parseMethodDescriptor y.desc = some sig → argsL.length = sig.parameters.length)
    (hstack : g.stack = argsL.reverse ++ .ref a :: rest) (hW : 2 * g.monitorRoom + (rest.map fun v => v.category).sum ≤ W) (hd : decode c.code g.pc = .ok (.invokevirtual index, 3)) :
    ∃ v T' L, Stand p l e R s m args below meth c T' (locs ++ L) (cells + rm.cells) (slots + rm.slots) ∧ Q v T'.heap L ∧ ∀ target, Steps p.tables e below (T'.setTop { g with pc := g.pc + 3, stack := v.toList ++ rest }) target → Steps p.tables e below (T.setTop g) target := by
  obtain ⟨cq, kq, qa, qb, qc⟩ := isOf hZ eT E
  obtain ⟨v, vm1, ⟨T', L', k', n'⟩, -, X', ⟨L, hQ, l1, l2, l3⟩, st⟩ := X.virtualBack hx (y := y) (z := z) hown (mvT hZ w1) (mvT hZ w2) nf (mvT hZ w3) (mvT hZ w4) hy (backOf (Q := Q) (W := W) hM hZ w6 w5 hf hl) qa qc hg hsize (Steps.refl _) hlen hstack hW hd (fun _ _ => ⟨rfl, eT, hcc, hss⟩)
  (try dsimp only at X' l1 l2 l3 st hQ)
  subst l1 l2 l3
  exact ⟨v, T', L, X', hQ, fun target k => st.trans k⟩
/-- an array whose k-th element is f k -/
def Afn (Z : State) (h : Heap) (a : Addr) (ty : FieldType) (n : Int32) (f : Nat → Value) : Prop := ∃ c : Cell, Arr Z h a c ty ∧ c.slots.size = n.toNatClampNeg ∧ ¬ n < 0 ∧ ∀ k, k < n.toNatClampNeg → c.slots[k]? = some (f k) ∧ fits ty (f k) = true
theorem Afn.lt {h : Heap} {a : Addr} {ty : FieldType} {n : Int32} {f : Nat → Value} (F : Afn Z h a ty n f) : a < h.size := by obtain ⟨c, A, -⟩ := F; exact A.lt
theorem Afn.nn {h : Heap} {a : Addr} {ty : FieldType} {n : Int32} {f : Nat → Value} (F : Afn Z h a ty n f) : ¬ n < 0 := by obtain ⟨c, -, -, q, -⟩ := F; exact q
theorem Afn.ext {h h' : Heap} {a : Addr} {ty : FieldType} {n : Int32} {f : Nat → Value} (F : Afn Z h a ty n f) (E : Ext h h') : Afn Z h' a ty n f := by obtain ⟨c, A, r⟩ := F; exact ⟨c, A.ext E, r⟩
theorem Afn.other {h h' : Heap} {a b : Addr} {ty : FieldType} {n : Int32} {f : Nat → Value} {sl : Nat} {v : Value} (F : Afn Z h b ty n f) (W : Wr h h' a sl v) (q : b ≠ a) : Afn Z h' b ty n f := by obtain ⟨c, A, r⟩ := F; exact ⟨c, A.other W q, r⟩
theorem Afn.keep {h h' : Heap} {a : Addr} {ty : FieldType} {n : Int32} {f : Nat → Value} {ws : List Addr} (F : Afn Z h a ty n f) (K : Keep h h' ws) (q : a ∉ ws) : Afn Z h' a ty n f := by obtain ⟨c, A, r⟩ := F; exact ⟨c, ⟨K.2.1 a c A.1 q, A.2⟩, r⟩
theorem Afn.congr {h : Heap} {a : Addr} {ty : FieldType} {n : Int32} {f g : Nat → Value} (F : Afn Z h a ty n f) (q : ∀ k, k < n.toNatClampNeg → f k = g k) : Afn Z h a ty n g := by
  obtain ⟨c, A, s, m, r⟩ := F
  exact ⟨c, A, s, m, fun k hk => by rw [← q k hk]; exact r k hk⟩
theorem Afn.new {h : Heap} {a : Addr} {ty : FieldType} {n : Int32} {k : ClassId} (A : Arr Z h a (newA k ty n) ty) (q : ¬ n < 0) : Afn Z h a ty n (fun _ => defaultValue ty) := by
  obtain ⟨c, B, -, s, m, H, G⟩ := Arv.new A q
  exact ⟨c, B, s, m, fun j hj => ⟨by simpa using H j (by rw [s]; exact hj), by simpa using G j (by rw [s]; exact hj)⟩⟩
theorem Afn.set {h h' : Heap} {a : Addr} {ty : FieldType} {n : Int32} {f : Nat → Value} {c : Cell} {j : Int32} {v : Value} (A : Arr Z h a c ty) (s : c.slots.size = n.toNatClampNeg) (m : ¬ n < 0) (r : ∀ k, k < n.toNatClampNeg → c.slots[k]? = some (f k) ∧ fits ty (f k) = true) (hv : fits ty v = true) (W : Wr h h' a j.toNatClampNeg v) :
    Afn Z h' a ty n (fun k => if k = j.toNatClampNeg then v else f k) := by
  refine ⟨c.setSlot j.toNatClampNeg v, A.same W, by rw [sz_set]; exact s, m, fun k hk => ?_⟩
  dsimp only
  by_cases q : k = j.toNatClampNeg
  · rw [if_pos q]
    refine ⟨?_, hv⟩
    subst q
    simp [Cell.setSlot, s, hk]
  · rw [if_neg q]
    refine ⟨?_, (r k hk).2⟩
    show (c.slots.setIfInBounds _ _)[k]? = _
    rw [Array.getElem?_setIfInBounds_ne (Ne.symm q)]
    exact (r k hk).1
theorem inbN {n j : Int32} (q : ¬ j < 0 ∧ j < n) : j.toNatClampNeg < n.toNatClampNeg := by
  obtain ⟨h1, h2⟩ := q
  rw [Int32.lt_iff_toInt_lt] at h1 h2
  have e : (0 : Int32).toInt = 0 := rfl
  simp only [Int32.toNatClampNeg]
  omega
theorem Afn.of_arv {h : Heap} {a : Addr} {k : ClassId} {ty : FieldType} {n : Int32} {vs : List Value} {d : Value} (F : Arv Z h a k ty n vs d) : Afn Z h a ty n (fun i => vs.getD i d) := by
  obtain ⟨c, A, -, s, m, H, G⟩ := F
  exact ⟨c, A, s, m, fun i hi => ⟨H i (by rw [s]; exact hi), G i (by rw [s]; exact hi)⟩⟩
theorem ns_root {O K : String} {n : Nat} (w : (Cond.noSuperclass O).before a0 Z = true) (wk : (Cond.instantiable K n).before a0 Z = true) (hn : O ≠ K) : NS Z O K := by
  obtain ⟨c, k, h1, h2, h3, -, -⟩ := Cond.noSuperclass_spec w
  obtain ⟨t, kt, g1, -⟩ := Cond.instantiable_spec wk
  have ne := ids_ne h1 g1 hn
  refine ⟨c, t, h1, g1, fun fuel => ?_⟩
  cases fuel with
  | zero => rfl
  | succ f => simp [Vm.isSubclassAux, ne, h2, h3]
theorem ns_no {C S K : String} {n : Nat} (w : (Cond.superclass C S).before a0 Z = true) (wk : (Cond.instantiable K n).before a0 Z = true) (q : NS Z C K) (hn : C ≠ K) : ∃ c t, Z.vm.findClass C = some c ∧ Z.vm.findClass K = some t ∧ Z.vm.assignable c t = false := by
  obtain ⟨c, t, h0, g0, n3⟩ := q
  obtain ⟨p, k, kp, h1, h2, h3, h4, h5, -, h7⟩ := Cond.superclass_spec h0 w
  obtain ⟨t', kt, g1, g2, g3, g4, -⟩ := Cond.instantiable_spec wk
  cases g0.symm.trans g1
  have g5 : kt.isInterface = false := (Bool.or_eq_false_iff.mp g4).1
  have ne := ids_ne h0 g0 hn
  refine ⟨c, t, h0, g0, ?_⟩
  show Z.vm.assignableAux (255 + 1) c t = false
  simp [Vm.assignableAux, ne, h2, g2, h5, g3, g5, Vm.isSubclass, n3]
end
end Jvm.OwnKit
namespace Jvm.Pilot.@@N@@
open Jvm Jvm.ClassFile Sem Op Lib Jvm.Free Jvm.Stand Jvm.LawKit Jvm.RoadKit Jvm.OwnKit Bundle Jvm.Pilot.@@N@@.Jvm.D
def bitOf (f : Nat → Int64) (i : Nat) : Bool := (f (i / 64)).toBitVec.getLsbD (i % 64)
theorem shl_bv (x : Int64) (q : Int32) (k : Nat) (hk : q.toBitVec.toNat % 64 = k) : (x <<< (q &&& 0x3f).toInt64).toBitVec = x.toBitVec <<< k := by
  show (x.toBitVec <<< ((q &&& 0x3f).toInt64.toBitVec.smod 64)) = _
  rw [BitVec.shiftLeft_eq', (sm64 q k hk).1, smod64 k (sm64 q k hk).2]
theorem ushr_bv (x : Int64) (q : Int32) (k : Nat) (hk : q.toBitVec.toNat % 64 = k) : ((x.toUInt64 >>> (q &&& 0x3f).toInt64.toUInt64).toInt64).toBitVec = x.toBitVec >>> k := by
  show x.toBitVec >>> ((q &&& 0x3f).toInt64.toBitVec % 64) = _
  have h5 := (sm64 q k hk).2
  rw [BitVec.ushiftRight_eq', BitVec.toNat_umod, (sm64 q k hk).1, BitVec.toNat_ofNat]
  congr 1
  show k % 2 ^ 64 % 64 = k
  omega
theorem ones (j : Nat) (hj : j < 64) : (-1 : Int64).toBitVec.getLsbD j = true := by
  have : ∀ j : Fin 64, (-1 : Int64).toBitVec.getLsbD j.val = true := by decide
  exact this ⟨j, hj⟩
theorem m1_bit (q : Int32) (k j : Nat) (hk : q.toBitVec.toNat % 64 = k) (hj : j < 64) : ((-1 : Int64) <<< (q &&& 0x3f).toInt64).toBitVec.getLsbD j = decide (k ≤ j) := by
  rw [shl_bv _ q k hk, BitVec.getLsbD_shiftLeft]
  by_cases h : k ≤ j
  · rw [ones (j - k) (by omega)]
    simp [hj, h, Nat.not_lt.mpr h]
  · simp [h, Nat.lt_of_not_le h]
theorem m2_bit (q : Int32) (k j : Nat) (hk : q.toBitVec.toNat % 64 = k) : (((-1 : Int64).toUInt64 >>> (q &&& 0x3f).toInt64.toUInt64).toInt64).toBitVec.getLsbD j = decide (j + k < 64) := by
  rw [ushr_bv _ q k hk, BitVec.getLsbD_ushiftRight]
  by_cases h : j + k < 64
  · rw [ones _ (by omega)]; simp [h]
  · rw [BitVec.getLsbD_of_ge _ _ (by omega)]; simp [h]
theorem bvn (x : Int32) (h : 0 ≤ x.toInt) : x.toBitVec.toNat = x.toInt.toNat := by
  have q : x.toInt = x.toBitVec.toInt := rfl
  have l := x.toBitVec.isLt
  rw [q, BitVec.toInt_eq_toNat_cond] at h ⊢
  split at h <;> rename_i z
  · rw [if_pos z]; omega
  · exfalso; omega
/-- the word and the place of a position -/
theorem own_word (a : Int64) (h0 : 0 ≤ a.toInt) (h1 : a.toInt < 512) : (((a.toUInt64 >>> ((6 : Int32) &&& 0x3f).toInt64.toUInt64).toInt64).toInt32).toInt = a.toInt / 64 ∧ a.toInt32.toBitVec.toNat % 64 = a.toInt.toNat % 64 := by
  have q := c_lushr a 6 6 (by decide) (by decide)
  have r := c_l2i ((a.toUInt64 >>> ((6 : Int32) &&& 0x3f).toInt64.toUInt64).toInt64)
  have r1 := rng32 (((a.toUInt64 >>> ((6 : Int32) &&& 0x3f).toInt64.toUInt64).toInt64).toInt32)
  have s := c_l2i a
  have s1 := rng32 a.toInt32
  have b := bvn a.toInt32 (by omega)
  refine ⟨by omega, ?_⟩
  rw [b]
  omega
theorem own_last (b : Int64) (h0 : 0 ≤ b.toInt) (h1 : b.toInt < 512) : (((63 : Int64) - (b &&& (63 : Int64))).toInt32).toBitVec.toNat % 64 = 63 - b.toInt.toNat % 64 := by
  have q := c_maskL b 63 6 (by decide) (by decide)
  have r := c_lsub 63 (b &&& 63)
  have r1 := rng64 ((63 : Int64) - (b &&& 63))
  have e : (63 : Int64).toInt = 63 := rfl
  have s := c_l2i ((63 : Int64) - (b &&& 63))
  have s1 := rng32 ((63 : Int64) - (b &&& 63)).toInt32
  have t := bvn ((63 : Int64) - (b &&& 63)).toInt32 (by omega)
  rw [t]
  omega
theorem or_bit (x y : Int64) (j : Nat) : (x ||| y).toBitVec.getLsbD j = (x.toBitVec.getLsbD j || y.toBitVec.getLsbD j) := by
  rw [Int64.toBitVec_or, BitVec.getLsbD_or]
theorem and_bit (x y : Int64) (j : Nat) : (x &&& y).toBitVec.getLsbD j = (x.toBitVec.getLsbD j && y.toBitVec.getLsbD j) := by
  rw [Int64.toBitVec_and, BitVec.getLsbD_and]
theorem not_bit (x : Int64) (j : Nat) (hj : j < 64) : (x ^^^ (-1 : Int64)).toBitVec.getLsbD j = !x.toBitVec.getLsbD j := by
  rw [Int64.toBitVec_xor, BitVec.getLsbD_xor, ones j hj]
  simp
/-- one word alone -/
theorem add_one (f : Nat → Int64) (a b : Int64) (w : Nat) (ha : 0 ≤ a.toInt) (hab : a.toInt ≤ b.toInt) (hb : b.toInt < 512) (wa : a.toInt.toNat / 64 = w) (wb : b.toInt.toNat / 64 = w) (i : Nat) :
    bitOf (fun k => if k = w then f k ||| (((-1 : Int64) <<< (a.toInt32 &&& 0x3f).toInt64) &&& (((-1 : Int64).toUInt64 >>> (((63 : Int64) - (b &&& (63 : Int64))).toInt32 &&& 0x3f).toInt64.toUInt64).toInt64)) else f k) i = (bitOf f i || decide (a.toInt.toNat ≤ i ∧ i ≤ b.toInt.toNat)) := by
  have h1 := (own_word a ha (by omega)).2
  have h2 := own_last b (by omega) hb
  unfold bitOf
  dsimp only
  by_cases h : i / 64 = w
  · rw [if_pos h, or_bit, and_bit, m1_bit _ _ _ h1 (by omega), m2_bit _ _ _ h2]
    congr 1
    rw [Bool.eq_iff_iff]
    simp only [Bool.and_eq_true, decide_eq_true_eq]
    omega
  · rw [if_neg h]
    have : decide (a.toInt.toNat ≤ i ∧ i ≤ b.toInt.toNat) = false := by
      rw [decide_eq_false_iff_not]
      omega
    rw [this, Bool.or_false]
/-- more words than one -/
theorem add_more (f : Nat → Int64) (a b : Int64) (u w : Nat) (ha : 0 ≤ a.toInt) (hab : a.toInt ≤ b.toInt) (hb : b.toInt < 512) (wa : a.toInt.toNat / 64 = u) (wb : b.toInt.toNat / 64 = w) (huw : u < w) (i : Nat) :
    bitOf (fun k => if k = w then f k ||| (((-1 : Int64).toUInt64 >>> (((63 : Int64) - (b &&& (63 : Int64))).toInt32 &&& 0x3f).toInt64.toUInt64).toInt64) else if u < k ∧ k < w then (-1 : Int64) else if k = u then f k ||| ((-1 : Int64) <<< (a.toInt32 &&& 0x3f).toInt64) else f k) i = (bitOf f i || decide (a.toInt.toNat ≤ i ∧ i ≤ b.toInt.toNat)) := by
  have h1 := (own_word a ha (by omega)).2
  have h2 := own_last b (by omega) hb
  unfold bitOf
  dsimp only
  by_cases hw : i / 64 = w
  · rw [if_pos hw, or_bit, m2_bit _ _ _ h2]
    congr 1
    rw [Bool.eq_iff_iff]
    simp only [decide_eq_true_eq]
    omega
  · rw [if_neg hw]
    by_cases hm : u < i / 64 ∧ i / 64 < w
    · rw [if_pos hm, ones _ (by omega)]
      have : decide (a.toInt.toNat ≤ i ∧ i ≤ b.toInt.toNat) = true := by
        rw [decide_eq_true_eq]
        omega
      rw [this, Bool.or_true]
    · rw [if_neg hm]
      by_cases hu : i / 64 = u
      · rw [if_pos hu, or_bit, m1_bit _ _ _ h1 (by omega)]
        congr 1
        rw [Bool.eq_iff_iff]
        simp only [decide_eq_true_eq]
        omega
      · rw [if_neg hu]
        have : decide (a.toInt.toNat ≤ i ∧ i ≤ b.toInt.toNat) = false := by
          rw [decide_eq_false_iff_not]
          omega
        rw [this, Bool.or_false]
theorem odd_part (X : Nat) (h : 0 < X) : ∃ t m, X = 2 ^ t * (2 * m + 1) := by
  induction X using Nat.strongRecOn with
  | _ X ih =>
    by_cases e : X % 2 = 1
    · exact ⟨0, X / 2, by omega⟩
    · obtain ⟨t, m, q⟩ := ih (X / 2) (by omega) (by omega)
      refine ⟨t + 1, m, ?_⟩
      rw [Nat.pow_succ, Nat.mul_comm (2 ^ t) 2, Nat.mul_assoc, ← q]
      omega
theorem low_bits (x : BitVec 32) (h : x ≠ 0#32) : ∃ t, t < 32 ∧ x.getLsbD t = true ∧ (∀ j, j < t → x.getLsbD j = false) ∧ (x ^^^ (-1)) &&& (x - 1) = BitVec.ofNat 32 (2 ^ t - 1) := by
  have hp : 0 < x.toNat := Nat.pos_of_ne_zero fun z => h (BitVec.eq_of_toNat_eq (by simpa using z))
  obtain ⟨t, m, q⟩ := odd_part x.toNat hp
  have hlt := x.isLt
  have h1 : 2 ^ t ≤ x.toNat := by rw [q]; exact Nat.le_mul_of_pos_right _ (by omega)
  have ht : t < 32 := by
    refine Nat.lt_of_not_le fun z => ?_
    have := Nat.pow_le_pow_right (show 0 < 2 by decide) z
    omega
  have hb : ∀ j, x.getLsbD j = (decide (t ≤ j) && (2 * m + 1).testBit (j - t)) := fun j => by
    show x.toNat.testBit j = _
    rw [q, Nat.testBit_two_pow_mul]
  have hs : (x - 1).toNat = 2 ^ t * (2 * m) + (2 ^ t - 1) := by
    have e : (x - 1).toNat = x.toNat - 1 := by
      rw [BitVec.toNat_sub]
      show (2 ^ 32 - 1 + x.toNat) % 2 ^ 32 = _
      omega
    rw [e, q, Nat.mul_add, Nat.mul_one]
    have : 0 < 2 ^ t := Nat.pow_pos (by decide)
    omega
  have hd : ∀ j, (x - 1).getLsbD j = if j < t then true else (2 * m).testBit (j - t) := fun j => by
    show (x - 1).toNat.testBit j = _
    rw [hs, Nat.testBit_two_pow_mul_add _ (by have : 0 < 2 ^ t := Nat.pow_pos (by decide); omega)]
    by_cases z : j < t
    · rw [if_pos z, if_pos z, Nat.testBit_two_pow_sub_one]; simpa using z
    · rw [if_neg z, if_neg z]
  refine ⟨t, ht, by rw [hb]; simp, fun j hj => by rw [hb]; simp; omega, ?_⟩
  apply BitVec.eq_of_getLsbD_eq
  intro i hi
  have h1s : (-1 : BitVec 32).getLsbD i = true := by
    have : ∀ i : Fin 32, (-1 : BitVec 32).getLsbD i.val = true := by decide
    exact this ⟨i, hi⟩
  rw [BitVec.getLsbD_and, BitVec.getLsbD_xor, h1s, hb, hd, BitVec.getLsbD_ofNat, Nat.testBit_two_pow_sub_one]
  by_cases z : i < t
  · have : ¬ t ≤ i := by omega
    simp [z, this, hi]
  · have z' : t ≤ i := by omega
    by_cases e : i = t
    · subst e; simp
    · obtain ⟨s, hs⟩ : ∃ s, i - t = s + 1 := ⟨i - t - 1, by omega⟩
      rw [hs, Nat.testBit_succ, Nat.testBit_succ]
      have e1 : (2 * m + 1) / 2 = m := by omega
      have e2 : 2 * m / 2 = m := by omega
      rw [e1, e2]
      simp [z, z']
def nz4_31 (y : Int32) : Int32 := (31 : Int32) + ((y.toUInt32 >>> ((1 : Int32) &&& 31).toUInt32).toInt32)
def nz4_29 (y : Int32) : Int32 := (29 : Int32) + ((y.toUInt32 >>> ((1 : Int32) &&& 31).toUInt32).toInt32)
def nz3_29 (y : Int32) : Int32 := if (4 : Int32) < y then nz4_31 ((y.toUInt32 >>> ((2 : Int32) &&& 31).toUInt32).toInt32) else nz4_29 y
def nz4_27 (y : Int32) : Int32 := (27 : Int32) + ((y.toUInt32 >>> ((1 : Int32) &&& 31).toUInt32).toInt32)
def nz4_25 (y : Int32) : Int32 := (25 : Int32) + ((y.toUInt32 >>> ((1 : Int32) &&& 31).toUInt32).toInt32)
def nz3_25 (y : Int32) : Int32 := if (4 : Int32) < y then nz4_27 ((y.toUInt32 >>> ((2 : Int32) &&& 31).toUInt32).toInt32) else nz4_25 y
def nz2_25 (y : Int32) : Int32 := if (16 : Int32) < y then nz3_29 ((y.toUInt32 >>> ((4 : Int32) &&& 31).toUInt32).toInt32) else nz3_25 y
def nz4_23 (y : Int32) : Int32 := (23 : Int32) + ((y.toUInt32 >>> ((1 : Int32) &&& 31).toUInt32).toInt32)
def nz4_21 (y : Int32) : Int32 := (21 : Int32) + ((y.toUInt32 >>> ((1 : Int32) &&& 31).toUInt32).toInt32)
def nz3_21 (y : Int32) : Int32 := if (4 : Int32) < y then nz4_23 ((y.toUInt32 >>> ((2 : Int32) &&& 31).toUInt32).toInt32) else nz4_21 y
def nz4_19 (y : Int32) : Int32 := (19 : Int32) + ((y.toUInt32 >>> ((1 : Int32) &&& 31).toUInt32).toInt32)
def nz4_17 (y : Int32) : Int32 := (17 : Int32) + ((y.toUInt32 >>> ((1 : Int32) &&& 31).toUInt32).toInt32)
def nz3_17 (y : Int32) : Int32 := if (4 : Int32) < y then nz4_19 ((y.toUInt32 >>> ((2 : Int32) &&& 31).toUInt32).toInt32) else nz4_17 y
def nz2_17 (y : Int32) : Int32 := if (16 : Int32) < y then nz3_21 ((y.toUInt32 >>> ((4 : Int32) &&& 31).toUInt32).toInt32) else nz3_17 y
def nz1_17 (y : Int32) : Int32 := if (256 : Int32) < y then nz2_25 ((y.toUInt32 >>> ((8 : Int32) &&& 31).toUInt32).toInt32) else nz2_17 y
def nz4_15 (y : Int32) : Int32 := (15 : Int32) + ((y.toUInt32 >>> ((1 : Int32) &&& 31).toUInt32).toInt32)
def nz4_13 (y : Int32) : Int32 := (13 : Int32) + ((y.toUInt32 >>> ((1 : Int32) &&& 31).toUInt32).toInt32)
def nz3_13 (y : Int32) : Int32 := if (4 : Int32) < y then nz4_15 ((y.toUInt32 >>> ((2 : Int32) &&& 31).toUInt32).toInt32) else nz4_13 y
def nz4_11 (y : Int32) : Int32 := (11 : Int32) + ((y.toUInt32 >>> ((1 : Int32) &&& 31).toUInt32).toInt32)
def nz4_9 (y : Int32) : Int32 := (9 : Int32) + ((y.toUInt32 >>> ((1 : Int32) &&& 31).toUInt32).toInt32)
def nz3_9 (y : Int32) : Int32 := if (4 : Int32) < y then nz4_11 ((y.toUInt32 >>> ((2 : Int32) &&& 31).toUInt32).toInt32) else nz4_9 y
def nz2_9 (y : Int32) : Int32 := if (16 : Int32) < y then nz3_13 ((y.toUInt32 >>> ((4 : Int32) &&& 31).toUInt32).toInt32) else nz3_9 y
def nz4_7 (y : Int32) : Int32 := (7 : Int32) + ((y.toUInt32 >>> ((1 : Int32) &&& 31).toUInt32).toInt32)
def nz4_5 (y : Int32) : Int32 := (5 : Int32) + ((y.toUInt32 >>> ((1 : Int32) &&& 31).toUInt32).toInt32)
def nz3_5 (y : Int32) : Int32 := if (4 : Int32) < y then nz4_7 ((y.toUInt32 >>> ((2 : Int32) &&& 31).toUInt32).toInt32) else nz4_5 y
def nz4_3 (y : Int32) : Int32 := (3 : Int32) + ((y.toUInt32 >>> ((1 : Int32) &&& 31).toUInt32).toInt32)
def nz4_1 (y : Int32) : Int32 := (1 : Int32) + ((y.toUInt32 >>> ((1 : Int32) &&& 31).toUInt32).toInt32)
def nz3_1 (y : Int32) : Int32 := if (4 : Int32) < y then nz4_3 ((y.toUInt32 >>> ((2 : Int32) &&& 31).toUInt32).toInt32) else nz4_1 y
def nz2_1 (y : Int32) : Int32 := if (16 : Int32) < y then nz3_5 ((y.toUInt32 >>> ((4 : Int32) &&& 31).toUInt32).toInt32) else nz3_1 y
def nz1_1 (y : Int32) : Int32 := if (256 : Int32) < y then nz2_9 ((y.toUInt32 >>> ((8 : Int32) &&& 31).toUInt32).toInt32) else nz2_1 y
def nz0_1 (y : Int32) : Int32 := if (65536 : Int32) < y then nz1_17 ((y.toUInt32 >>> ((16 : Int32) &&& 31).toUInt32).toInt32) else nz1_1 y
def nzG (y : Int32) : Int32 := if (0 : Int32) < y then nz0_1 y else y &&& (32 : Int32)
def ntzI (x : Int32) : Int32 := nzG ((x ^^^ (-1 : Int32)) &&& (x - (1 : Int32)))
def ntzJ (x : Int64) : Int32 := if x.toInt32 = (0 : Int32) then (32 : Int32) + ntzI (((x.toUInt64 >>> ((32 : Int32) &&& 0x3f).toInt64.toUInt64).toInt64).toInt32) else ntzI x.toInt32
theorem nzG_pow : ∀ t : Fin 32, nzG (Int32.ofBitVec (BitVec.ofNat 32 (2 ^ t.val - 1))) = Int32.ofNat t.val := by decide
theorem ntzI_spec (x : Int32) (h : ¬ x = 0) : ∃ t, t < 32 ∧ ntzI x = Int32.ofNat t ∧ x.toBitVec.getLsbD t = true ∧ ∀ j, j < t → x.toBitVec.getLsbD j = false := by
  obtain ⟨t, h1, h2, h3, h4⟩ := low_bits x.toBitVec (fun z => h (Int32.toBitVec_inj.mp z))
  refine ⟨t, h1, ?_, h2, h3⟩
  have e : ((x ^^^ (-1 : Int32)) &&& (x - (1 : Int32))) = Int32.ofBitVec (BitVec.ofNat 32 (2 ^ t - 1)) := Int32.toBitVec_inj.mp h4
  unfold ntzI
  rw [e]
  exact nzG_pow ⟨t, h1⟩
theorem lo_bit (x : Int64) (j : Nat) (hj : j < 32) : x.toInt32.toBitVec.getLsbD j = x.toBitVec.getLsbD j := by
  show (x.toBitVec.signExtend 32).getLsbD j = _
  rw [BitVec.getLsbD_signExtend, if_pos (by omega)]
  simp [hj]
theorem hi_bit (x : Int64) (j : Nat) (hj : j < 32) : ((((x.toUInt64 >>> ((32 : Int32) &&& 0x3f).toInt64.toUInt64).toInt64).toInt32)).toBitVec.getLsbD j = x.toBitVec.getLsbD (32 + j) := by
  rw [lo_bit _ _ hj, ushr_bv x 32 32 (by decide), BitVec.getLsbD_ushiftRight]
theorem bv32_ne {x : Int32} {j : Nat} (h : x.toBitVec.getLsbD j = true) : ¬ x = 0 := by
  rintro rfl
  simp at h
theorem ntzJ_spec (x : Int64) (h : ¬ x = 0) : ∃ t, t < 64 ∧ ntzJ x = Int32.ofNat t ∧ x.toBitVec.getLsbD t = true ∧ ∀ j, j < t → x.toBitVec.getLsbD j = false := by
  unfold ntzJ
  by_cases z : x.toInt32 = (0 : Int32)
  · rw [if_pos z]
    have lo : ∀ j, j < 32 → x.toBitVec.getLsbD j = false := fun j hj => by rw [← lo_bit x j hj, z]; simp
    have nh : ¬ ((((x.toUInt64 >>> ((32 : Int32) &&& 0x3f).toInt64.toUInt64).toInt64).toInt32)) = (0 : Int32) := by
      intro w
      apply h
      apply Int64.toBitVec_inj.mp
      apply BitVec.eq_of_getLsbD_eq
      intro i hi
      have : x.toBitVec.getLsbD i = false := by
        by_cases q : i < 32
        · exact lo i q
        · have := hi_bit x (i - 32) (by omega)
          rw [w] at this
          rw [show i = 32 + (i - 32) by omega, ← this]
          simp
      rw [this]
      simp
    obtain ⟨t, h1, h2, h3, h4⟩ := ntzI_spec _ nh
    refine ⟨32 + t, by omega, ?_, by rw [← hi_bit x t h1]; exact h3, fun j hj => ?_⟩
    · rw [h2, Int32.ofNat_add]; rfl
    · by_cases q : j < 32
      · exact lo j q
      · rw [show j = 32 + (j - 32) by omega, ← hi_bit x _ (by omega)]
        exact h4 _ (by omega)
  · rw [if_neg z]
    obtain ⟨t, h1, h2, h3, h4⟩ := ntzI_spec _ z
    exact ⟨t, by omega, h2, by rw [← lo_bit x t h1]; exact h3, fun j hj => by rw [← lo_bit x j (by omega)]; exact h4 j hj⟩
def Runs (f : Nat → Int64) (nw : Int32) (n : Int64) (N : Int32) (sI eI : Nat → Int64) : Prop :=
  (N = 1 ∨ N = 2) ∧ 1 ≤ nw.toInt ∧ nw.toInt ≤ 8 ∧ n.toInt ≤ 64 * nw.toInt ∧ (∀ j, j < N.toNatClampNeg → 0 ≤ (sI j).toInt ∧ (sI j).toInt ≤ (eI j).toInt ∧ (eI j).toInt < n.toInt) ∧ (N = 2 → (eI 0).toInt + 1 < (sI 1).toInt) ∧
  ∀ i : Nat, (i : Int) < 64 * nw.toInt → (bitOf f i = true ↔ ∃ j, j < N.toNatClampNeg ∧ (sI j).toInt ≤ i ∧ (i : Int) ≤ (eI j).toInt)
def bnd (sI eI : Nat → Int64) (z k : Nat) : Int64 := if k < 2 * z then (if k % 2 = 0 then sI (k / 2) else eI (k / 2)) else 0
/-- ahead of a run: the word holds the bits from pos on -/
def OutI (f : Nat → Int64) (nw : Int32) (N : Int32) (sI eI : Nat → Int64) (wi : Int32) (word : Int64) (sz : Int32) (pos : Nat) : Prop :=
  0 ≤ wi.toInt ∧ wi.toInt < nw.toInt ∧ 64 * wi.toInt ≤ pos ∧ (pos : Int) < 64 * wi.toInt + 64 ∧ 0 ≤ sz.toInt ∧ sz.toInt ≤ N.toInt ∧ (∀ j, j < 64 → word.toBitVec.getLsbD j = (decide (pos ≤ 64 * wi.toNatClampNeg + j) && bitOf f (64 * wi.toNatClampNeg + j))) ∧ (∀ j, sz.toNatClampNeg ≤ j → j < N.toNatClampNeg → (pos : Int) ≤ (sI j).toInt) ∧ ∀ j, j < sz.toNatClampNeg → (eI j).toInt < pos
/-- in a run: the gap holds the empty places from its start on -/
def InI (f : Nat → Int64) (nw : Int32) (N : Int32) (sI eI : Nat → Int64) (wi : Int32) (gap : Int64) (sz : Int32) : Prop :=
  0 ≤ wi.toInt ∧ wi.toInt < nw.toInt ∧ 0 ≤ sz.toInt ∧ sz.toInt < N.toInt ∧ 64 * wi.toInt ≤ (eI sz.toNatClampNeg).toInt + 1 ∧ (sI sz.toNatClampNeg).toInt < 64 * wi.toInt + 64 ∧ ∀ j, j < 64 → gap.toBitVec.getLsbD j = (decide ((sI sz.toNatClampNeg).toInt ≤ 64 * wi.toInt + j) && !bitOf f (64 * wi.toNatClampNeg + j))
theorem runN {f : Nat → Int64} {nw : Int32} {n : Int64} {N : Int32} {sI eI : Nat → Int64} (R : Runs f nw n N sI eI) : N.toInt = 1 ∧ N.toNatClampNeg = 1 ∨ N.toInt = 2 ∧ N.toNatClampNeg = 2 := by
  rcases R.1 with rfl | rfl
  · exact Or.inl ⟨rfl, rfl⟩
  · exact Or.inr ⟨rfl, rfl⟩
theorem run2 {f : Nat → Int64} {nw : Int32} {n : Int64} {N : Int32} {sI eI : Nat → Int64} (R : Runs f nw n N sI eI) (h : 2 ≤ N.toNatClampNeg) : N = 2 := by
  rcases R.1 with rfl | rfl
  · exact absurd h (by decide)
  · rfl
theorem bitOf_word (f : Nat → Int64) (w j : Nat) (hj : j < 64) : bitOf f (64 * w + j) = (f w).toBitVec.getLsbD j := by
  unfold bitOf
  rw [show (64 * w + j) / 64 = w by omega, show (64 * w + j) % 64 = j by omega]
theorem i64_zero {x : Int64} : x = 0 ↔ ∀ j, j < 64 → x.toBitVec.getLsbD j = false := by
  constructor
  · rintro rfl j hj; simp
  · intro h
    apply Int64.toBitVec_inj.mp
    apply BitVec.eq_of_getLsbD_eq
    intro i hi
    rw [h i hi]; simp
theorem ofN {t : Nat} (h : t < 1000) : (Int32.ofNat t).toInt = t := Int32.toInt_ofNat_of_lt (by omega)
theorem own_w1 {wi nw : Int32} (h0 : 0 ≤ wi.toInt) (h1 : wi.toInt < nw.toInt) (h8 : nw.toInt ≤ 8) : (wi + (1 : Int32)).toInt = wi.toInt + 1 ∧ (wi + (1 : Int32)).toNatClampNeg = wi.toNatClampNeg + 1 ∧ (wi.toNatClampNeg : Int) = wi.toInt := by
  have q := c_iadd wi 1
  have r := rng32 (wi + 1)
  have e : (1 : Int32).toInt = 1 := rfl
  simp only [Int32.toNatClampNeg]
  omega
theorem own_at {wi : Int32} {t : Nat} (h0 : 0 ≤ wi.toInt) (h1 : wi.toInt < 8) (ht : t < 64) : ((wi.toInt64 <<< ((6 : Int32) &&& 0x3f).toInt64) + (Int32.ofNat t).toInt64).toInt = 64 * wi.toInt + t := by
  have a1 := c_lshl wi.toInt64 6 6 (by decide)
  have a2 := c_i2l wi
  have a3 := c_i2l (Int32.ofNat t)
  have a4 := ofN (t := t) (by omega)
  have a5 := c_ladd (wi.toInt64 <<< ((6 : Int32) &&& 0x3f).toInt64) (Int32.ofNat t).toInt64
  have r1 := rng64 (wi.toInt64 <<< ((6 : Int32) &&& 0x3f).toInt64)
  have r2 := rng64 ((wi.toInt64 <<< ((6 : Int32) &&& 0x3f).toInt64) + (Int32.ofNat t).toInt64)
  omega
/-- the next word -/
theorem out_next {f : Nat → Int64} {nw : Int32} {n : Int64} {N : Int32} {sI eI : Nat → Int64} {wi : Int32} {word : Int64} {sz : Int32} {pos : Nat} (R : Runs f nw n N sI eI) (O : OutI f nw N sI eI wi word sz pos) (h : word = (0 : Int64)) (hn : ¬ (wi + (1 : Int32)) = nw) :
    OutI f nw N sI eI (wi + (1 : Int32)) (f (wi + (1 : Int32)).toNatClampNeg) sz (64 * (wi + (1 : Int32)).toNatClampNeg) ∧ (¬ (wi + (1 : Int32)) < (0 : Int32) ∧ (wi + (1 : Int32)) < nw) ∧ 64 * nw.toNatClampNeg - 64 * (wi + (1 : Int32)).toNatClampNeg < 64 * nw.toNatClampNeg - pos := by
  obtain ⟨o1, o2, o3, o4, o5, o6, o7, o8, o9⟩ := O
  obtain ⟨r1, r2, r3, r4, r5, r6, r7⟩ := id R
  obtain ⟨w1, w2, w3⟩ := own_w1 o1 o2 r3
  have hn' : wi.toInt + 1 ≠ nw.toInt := fun q => hn (Int32.toInt_inj.mp (by omega))
  have nwn : (nw.toNatClampNeg : Int) = nw.toInt := by simp only [Int32.toNatClampNeg]; omega
  have e0 : (0 : Int32).toInt = 0 := rfl
  have hz := i64_zero.mp h
  refine ⟨⟨by omega, by omega, by omega, by omega, o5, o6, fun j hj => ?_, fun j h1 h2 => ?_, fun j h1 => by have := o9 j h1; omega⟩, ⟨?_, ?_⟩, by omega⟩
  · rw [bitOf_word _ _ _ hj]; simp
  · have := o8 j h1 h2
    refine Int.not_lt.mp fun q => ?_
    have p1 := r5 j h2
    obtain ⟨i, hi⟩ : ∃ i : Nat, (i : Int) = (sI j).toInt := ⟨(sI j).toInt.toNat, by omega⟩
    have b := hz (i - 64 * wi.toNatClampNeg) (by omega)
    rw [o7 _ (by omega), show 64 * wi.toNatClampNeg + (i - 64 * wi.toNatClampNeg) = i by omega] at b
    have c := (r7 i (by omega)).mpr ⟨j, h2, by omega, by omega⟩
    rw [c] at b
    simp at b
    omega
  · rw [Int32.lt_iff_toInt_lt]; omega
  · rw [Int32.lt_iff_toInt_lt]; omega
/-- no word is left -/
theorem out_end {f : Nat → Int64} {nw : Int32} {n : Int64} {N : Int32} {sI eI : Nat → Int64} {wi : Int32} {word : Int64} {sz : Int32} {pos : Nat} (R : Runs f nw n N sI eI) (O : OutI f nw N sI eI wi word sz pos) (h : word = (0 : Int64)) (hn : (wi + (1 : Int32)) = nw) : sz = N := by
  obtain ⟨o1, o2, o3, o4, o5, o6, o7, o8, o9⟩ := O
  obtain ⟨r1, r2, r3, r4, r5, r6, r7⟩ := id R
  obtain ⟨w1, w2, w3⟩ := own_w1 o1 o2 r3
  rw [hn] at w1
  have hN := runN R
  have hz := i64_zero.mp h
  refine Int32.toInt_inj.mp (Int.le_antisymm o6 (Int.not_lt.mp fun q => ?_))
  have zz : (sz.toNatClampNeg : Int) = sz.toInt := by simp only [Int32.toNatClampNeg]; omega
  have h2 : sz.toNatClampNeg < N.toNatClampNeg := by omega
  have := o8 _ (Nat.le_refl _) h2
  have p1 := r5 _ h2
  obtain ⟨i, hi⟩ : ∃ i : Nat, (i : Int) = (sI sz.toNatClampNeg).toInt := ⟨(sI sz.toNatClampNeg).toInt.toNat, by omega⟩
  have b := hz (i - 64 * wi.toNatClampNeg) (by omega)
  rw [o7 _ (by omega), show 64 * wi.toNatClampNeg + (i - 64 * wi.toNatClampNeg) = i by omega] at b
  have c := (r7 i (by omega)).mpr ⟨_, h2, by omega, by omega⟩
  rw [c] at b
  simp at b
  omega
/-- a run begins -/
theorem out_run {f : Nat → Int64} {nw : Int32} {n : Int64} {N : Int32} {sI eI : Nat → Int64} {wi : Int32} {word : Int64} {sz : Int32} {pos : Nat} (R : Runs f nw n N sI eI) (O : OutI f nw N sI eI wi word sz pos) (h : ¬ word = (0 : Int64)) :
    ((wi.toInt64 <<< ((6 : Int32) &&& 0x3f).toInt64) + (ntzJ word).toInt64) = sI sz.toNatClampNeg ∧ InI f nw N sI eI wi ((word ^^^ (-1 : Int64)) &&& ((-1 : Int64) <<< (ntzJ word &&& 0x3f).toInt64)) sz ∧ (pos : Int) ≤ (sI sz.toNatClampNeg).toInt := by
  obtain ⟨t, t1, t2, t3, t4⟩ := ntzJ_spec word h
  obtain ⟨o1, o2, o3, o4, o5, o6, o7, o8, o9⟩ := O
  obtain ⟨r1, r2, r3, r4, r5, r6, r7⟩ := id R
  have hN := runN R
  have w3 : (wi.toNatClampNeg : Int) = wi.toInt := by simp only [Int32.toNatClampNeg]; omega
  have zz : (sz.toNatClampNeg : Int) = sz.toInt := by simp only [Int32.toNatClampNeg]; omega
  rw [t2]
  have b := t3
  rw [o7 t t1, Bool.and_eq_true, decide_eq_true_eq] at b
  obtain ⟨b1, b2⟩ := b
  obtain ⟨j, j1, j2, j3⟩ := (r7 _ (by omega)).mp b2
  have zj : sz.toNatClampNeg ≤ j := Nat.le_of_not_lt fun q => by have := o9 j q; omega
  have zN : sz.toNatClampNeg < N.toNatClampNeg := by omega
  have p0 := o8 _ (Nat.le_refl _) zN
  have p1 := r5 _ zN
  have le : (sI sz.toNatClampNeg).toInt ≤ (sI j).toInt := by
    by_cases q : sz.toNatClampNeg = j
    · rw [q]; exact Int.le_refl _
    · have z0 : sz.toNatClampNeg = 0 := by omega
      have j0 : j = 1 := by omega
      have := r6 (run2 R (by omega))
      rw [z0] at p1 ⊢
      rw [j0]
      omega
  have st : (sI sz.toNatClampNeg).toInt = 64 * wi.toInt + t := by
    refine Int.le_antisymm (by omega) (Int.not_lt.mp fun q => ?_)
    obtain ⟨i, hi⟩ : ∃ i : Nat, (i : Int) = (sI sz.toNatClampNeg).toInt := ⟨(sI sz.toNatClampNeg).toInt.toNat, by omega⟩
    have b := t4 (i - 64 * wi.toNatClampNeg) (by omega)
    rw [o7 _ (by omega), show 64 * wi.toNatClampNeg + (i - 64 * wi.toNatClampNeg) = i by omega] at b
    have c := (r7 i (by omega)).mpr ⟨_, zN, by omega, by omega⟩
    rw [c] at b
    simp at b
    omega
  refine ⟨Int64.toInt_inj.mp (by rw [own_at o1 (by omega) t1]; exact st.symm), ⟨o1, o2, o5, by omega, by omega, by omega, fun i hi => ?_⟩, p0⟩
  rw [and_bit, not_bit _ _ hi, m1_bit _ t _ (by rw [bvn _ (by rw [ofN (by omega)]; omega), ofN (by omega)]; omega) hi, o7 i hi]
  by_cases q : t ≤ i
  · have q1 : pos ≤ 64 * wi.toNatClampNeg + i := by omega
    have q2 : (sI sz.toNatClampNeg).toInt ≤ 64 * wi.toInt + i := by omega
    simp [q, q1, q2]
  · have q2 : ¬ (sI sz.toNatClampNeg).toInt ≤ 64 * wi.toInt + i := by omega
    simp [q, q2]
/-- a run goes on to the end -/
theorem in_end {f : Nat → Int64} {nw : Int32} {n : Int64} {N : Int32} {sI eI : Nat → Int64} {wi : Int32} {gap : Int64} {sz : Int32} (R : Runs f nw n N sI eI) (I : InI f nw N sI eI wi gap sz) (h : gap = (0 : Int64)) : 64 * wi.toInt + 64 ≤ (eI sz.toNatClampNeg).toInt + 1 := by
  obtain ⟨i1, i2, i3, i4, i5, i6, i7⟩ := I
  obtain ⟨r1, r2, r3, r4, r5, r6, r7⟩ := id R
  have hN := runN R
  have w3 : (wi.toNatClampNeg : Int) = wi.toInt := by simp only [Int32.toNatClampNeg]; omega
  have zz : (sz.toNatClampNeg : Int) = sz.toInt := by simp only [Int32.toNatClampNeg]; omega
  have zN : sz.toNatClampNeg < N.toNatClampNeg := by omega
  have p1 := r5 _ zN
  have hz := i64_zero.mp h
  refine Int.not_lt.mp fun q => ?_
  obtain ⟨i, hi⟩ : ∃ i : Nat, (i : Int) = (eI sz.toNatClampNeg).toInt + 1 := ⟨((eI sz.toNatClampNeg).toInt + 1).toNat, by omega⟩
  have b := hz (i - 64 * wi.toNatClampNeg) (by omega)
  have q2 : (sI sz.toNatClampNeg).toInt ≤ 64 * wi.toInt + ((i - 64 * wi.toNatClampNeg : Nat) : Int) := by omega
  rw [i7 _ (by omega), show 64 * wi.toNatClampNeg + (i - 64 * wi.toNatClampNeg) = i by omega, decide_eq_true q2, Bool.true_and, Bool.not_eq_false'] at b
  obtain ⟨j, j1, j2, j3⟩ := (r7 i (by omega)).mp b
  have : sz.toNatClampNeg = 0 ∧ j = 1 ∨ sz.toNatClampNeg = 1 ∧ j = 0 ∨ sz.toNatClampNeg = j := by omega
  rcases this with ⟨k1, k2⟩ | ⟨k1, k2⟩ | k1
  · have := r6 (run2 R (by omega))
    rw [k1] at hi; rw [k2] at j2; omega
  · have := r6 (run2 R (by omega))
    rw [k1] at hi p1; rw [k2] at j3; omega
  · rw [← k1] at j3; omega
theorem in_last {f : Nat → Int64} {nw : Int32} {n : Int64} {N : Int32} {sI eI : Nat → Int64} {wi : Int32} {gap : Int64} {sz : Int32} (R : Runs f nw n N sI eI) (I : InI f nw N sI eI wi gap sz) (h : gap = (0 : Int64)) (hn : (wi + (1 : Int32)) = nw) : (n - (1 : Int64)) = eI sz.toNatClampNeg ∧ (sz + (1 : Int32)) = N := by
  have k := in_end R I h
  obtain ⟨i1, i2, i3, i4, i5, i6, i7⟩ := I
  obtain ⟨r1, r2, r3, r4, r5, r6, r7⟩ := id R
  have hN := runN R
  obtain ⟨w1, w2, w3⟩ := own_w1 i1 i2 r3
  rw [hn] at w1
  have zz : (sz.toNatClampNeg : Int) = sz.toInt := by simp only [Int32.toNatClampNeg]; omega
  have zN : sz.toNatClampNeg < N.toNatClampNeg := by omega
  have p1 := r5 _ zN
  have q := c_lsub n 1
  have q2 := rng64 (n - 1)
  have e1 : (1 : Int64).toInt = 1 := rfl
  have e1' : (1 : Int32).toInt = 1 := rfl
  have q3 := c_iadd sz 1
  have q4 := rng32 (sz + 1)
  refine ⟨Int64.toInt_inj.mp (by omega), Int32.toInt_inj.mp ?_⟩
  have : ¬ (sz.toNatClampNeg = 0 ∧ N.toNatClampNeg = 2) := fun ⟨z1, z2⟩ => by
    have a := r6 (run2 R (by omega))
    have b := r5 1 (by omega)
    rw [z1] at k p1
    omega
  omega
theorem in_next {f : Nat → Int64} {nw : Int32} {n : Int64} {N : Int32} {sI eI : Nat → Int64} {wi : Int32} {gap : Int64} {sz : Int32} (R : Runs f nw n N sI eI) (I : InI f nw N sI eI wi gap sz) (h : gap = (0 : Int64)) (hn : ¬ (wi + (1 : Int32)) = nw) :
    InI f nw N sI eI (wi + (1 : Int32)) ((f (wi + (1 : Int32)).toNatClampNeg) ^^^ (-1 : Int64)) sz ∧ (¬ (wi + (1 : Int32)) < (0 : Int32) ∧ (wi + (1 : Int32)) < nw) ∧ nw.toNatClampNeg - (wi + (1 : Int32)).toNatClampNeg < nw.toNatClampNeg - wi.toNatClampNeg := by
  have k := in_end R I h
  obtain ⟨i1, i2, i3, i4, i5, i6, i7⟩ := I
  obtain ⟨r1, r2, r3, r4, r5, r6, r7⟩ := id R
  obtain ⟨w1, w2, w3⟩ := own_w1 i1 i2 r3
  have hn' : wi.toInt + 1 ≠ nw.toInt := fun q => hn (Int32.toInt_inj.mp (by omega))
  have nwn : (nw.toNatClampNeg : Int) = nw.toInt := by simp only [Int32.toNatClampNeg]; omega
  have e0 : (0 : Int32).toInt = 0 := rfl
  refine ⟨⟨by omega, by omega, i3, i4, by omega, by omega, fun j hj => ?_⟩, ⟨?_, ?_⟩, by omega⟩
  · rw [not_bit _ _ hj, bitOf_word _ _ _ hj]
    have q2 : (sI sz.toNatClampNeg).toInt ≤ 64 * (wi + 1).toInt + j := by omega
    rw [decide_eq_true q2, Bool.true_and]
  · rw [Int32.lt_iff_toInt_lt]; omega
  · rw [Int32.lt_iff_toInt_lt]; omega
/-- a run ends -/
theorem in_stop {f : Nat → Int64} {nw : Int32} {n : Int64} {N : Int32} {sI eI : Nat → Int64} {wi : Int32} {gap : Int64} {sz : Int32} {pos : Nat} (R : Runs f nw n N sI eI) (I : InI f nw N sI eI wi gap sz) (h : ¬ gap = (0 : Int64)) (hp : (pos : Int) ≤ (sI sz.toNatClampNeg).toInt) (h9 : ∀ j, j < sz.toNatClampNeg → (eI j).toInt < pos) :
    (((wi.toInt64 <<< ((6 : Int32) &&& 0x3f).toInt64) + (ntzJ gap).toInt64) - (1 : Int64)) = eI sz.toNatClampNeg ∧ OutI f nw N sI eI wi ((f wi.toNatClampNeg) &&& ((-1 : Int64) <<< (ntzJ gap &&& 0x3f).toInt64)) (sz + (1 : Int32)) (64 * wi.toNatClampNeg + (ntzJ gap).toNatClampNeg) ∧ 64 * nw.toNatClampNeg - (64 * wi.toNatClampNeg + (ntzJ gap).toNatClampNeg) < 64 * nw.toNatClampNeg - pos := by
  obtain ⟨t, t1, t2, t3, t4⟩ := ntzJ_spec gap h
  obtain ⟨i1, i2, i3, i4, i5, i6, i7⟩ := I
  obtain ⟨r1, r2, r3, r4, r5, r6, r7⟩ := id R
  have hN := runN R
  have w3 : (wi.toNatClampNeg : Int) = wi.toInt := by simp only [Int32.toNatClampNeg]; omega
  have nwn : (nw.toNatClampNeg : Int) = nw.toInt := by simp only [Int32.toNatClampNeg]; omega
  have zz : (sz.toNatClampNeg : Int) = sz.toInt := by simp only [Int32.toNatClampNeg]; omega
  have zN : sz.toNatClampNeg < N.toNatClampNeg := by omega
  have p1 := r5 _ zN
  have q3 := c_iadd sz 1
  have q4 := rng32 (sz + 1)
  have e1' : (1 : Int32).toInt = 1 := rfl
  have z1 : ((sz + 1).toNatClampNeg : Int) = sz.toInt + 1 := by simp only [Int32.toNatClampNeg]; omega
  rw [t2]
  have tN : (Int32.ofNat t).toNatClampNeg = t := by have := ofN (t := t) (by omega); simp only [Int32.toNatClampNeg]; omega
  rw [tN]
  have b := t3
  rw [i7 t t1, Bool.and_eq_true, decide_eq_true_eq, Bool.not_eq_true'] at b
  obtain ⟨b1, b2⟩ := b
  have lo : (eI sz.toNatClampNeg).toInt + 1 ≤ 64 * wi.toInt + t := by
    refine Int.not_lt.mp fun q => ?_
    have c := (r7 (64 * wi.toNatClampNeg + t) (by omega)).mpr ⟨_, zN, by omega, by omega⟩
    rw [c] at b2
    cases b2
  have hi : 64 * wi.toInt + t ≤ (eI sz.toNatClampNeg).toInt + 1 := by
    refine Int.not_lt.mp fun q => ?_
    obtain ⟨i, hi⟩ : ∃ i : Nat, (i : Int) = (eI sz.toNatClampNeg).toInt + 1 := ⟨((eI sz.toNatClampNeg).toInt + 1).toNat, by omega⟩
    have b := t4 (i - 64 * wi.toNatClampNeg) (by omega)
    have q2 : (sI sz.toNatClampNeg).toInt ≤ 64 * wi.toInt + ((i - 64 * wi.toNatClampNeg : Nat) : Int) := by omega
    rw [i7 _ (by omega), show 64 * wi.toNatClampNeg + (i - 64 * wi.toNatClampNeg) = i by omega, decide_eq_true q2, Bool.true_and, Bool.not_eq_false'] at b
    obtain ⟨j, j1, j2, j3⟩ := (r7 i (by omega)).mp b
    have : sz.toNatClampNeg = 0 ∧ j = 1 ∨ sz.toNatClampNeg = 1 ∧ j = 0 ∨ sz.toNatClampNeg = j := by omega
    rcases this with ⟨k1, k2⟩ | ⟨k1, k2⟩ | k1
    · have := r6 (run2 R (by omega))
      rw [k1] at hi; rw [k2] at j2; omega
    · have := r6 (run2 R (by omega))
      rw [k1] at hi p1; rw [k2] at j3; omega
    · rw [← k1] at j3; omega
  have c1 := own_at (t := t) i1 (by omega) t1
  have c2 := c_lsub ((wi.toInt64 <<< ((6 : Int32) &&& 0x3f).toInt64) + (Int32.ofNat t).toInt64) 1
  have c3 := rng64 (((wi.toInt64 <<< ((6 : Int32) &&& 0x3f).toInt64) + (Int32.ofNat t).toInt64) - 1)
  have c4 : (1 : Int64).toInt = 1 := rfl
  refine ⟨Int64.toInt_inj.mp (by omega), ⟨i1, i2, by omega, by omega, by omega, by omega, fun i hi => ?_, fun j h1 h2 => ?_, fun j h1 => ?_⟩, by omega⟩
  · rw [and_bit, m1_bit _ t _ (by rw [bvn _ (by rw [ofN (by omega)]; omega), ofN (by omega)]; omega) hi, bitOf_word _ _ _ hi, Bool.and_comm]
    congr 1
    rw [Bool.eq_iff_iff, decide_eq_true_eq, decide_eq_true_eq]
    omega
  · have j1 : j = 1 ∧ sz.toNatClampNeg = 0 := by omega
    have a := r6 (run2 R (by omega))
    rw [j1.2] at lo hi
    rw [j1.1]
    omega
  · by_cases q : j = sz.toNatClampNeg
    · rw [q]; omega
    · have := h9 j (by omega); omega
def nwI (n : Int64) : Int32 := ((((n + (63 : Int64)).toUInt64 >>> ((6 : Int32) &&& 0x3f).toInt64.toUInt64).toInt64).toInt32)
theorem own_nw (n : Int64) (h : 1 ≤ n.toInt ∧ n.toInt ≤ 512) : 1 ≤ (nwI n).toInt ∧ (nwI n).toInt ≤ 8 ∧ n.toInt ≤ 64 * (nwI n).toInt ∧ 64 * (nwI n).toInt < n.toInt + 64 ∧ ¬ (2147483639 : Int64) < ((n + (63 : Int64)).toUInt64 >>> ((6 : Int32) &&& 0x3f).toInt64.toUInt64).toInt64 ∧ ¬ nwI n < (0 : Int32) ∧ (nwI n).toNatClampNeg ≤ 8 ∧ ¬ n < (0 : Int64) := by
  have q := c_ladd n 63
  have r := rng64 (n + 63)
  have e : (63 : Int64).toInt = 63 := rfl
  have e1 : (2147483639 : Int64).toInt = 2147483639 := rfl
  have e2 : (0 : Int32).toInt = 0 := rfl
  have e3 : (0 : Int64).toInt = 0 := rfl
  have s := c_lushr (n + 63) 6 6 (by decide) (by decide)
  have t := c_l2i ((n + (63 : Int64)).toUInt64 >>> ((6 : Int32) &&& 0x3f).toInt64.toUInt64).toInt64
  have u := rng32 (nwI n)
  have v : (nwI n).toInt = (((((n + (63 : Int64)).toUInt64 >>> ((6 : Int32) &&& 0x3f).toInt64.toUInt64).toInt64).toInt32)).toInt := rfl
  simp only [Int32.lt_iff_toInt_lt, Int64.lt_iff_toInt_lt, Int32.toNatClampNeg]
  omega
def addF (f : Nat → Int64) (a b : Int64) (k : Nat) : Int64 :=
  if a.toInt.toNat / 64 = b.toInt.toNat / 64 then (if k = a.toInt.toNat / 64 then f k ||| (((-1 : Int64) <<< (a.toInt32 &&& 0x3f).toInt64) &&& (((-1 : Int64).toUInt64 >>> (((63 : Int64) - (b &&& (63 : Int64))).toInt32 &&& 0x3f).toInt64.toUInt64).toInt64)) else f k)
  else if k = b.toInt.toNat / 64 then f k ||| (((-1 : Int64).toUInt64 >>> (((63 : Int64) - (b &&& (63 : Int64))).toInt32 &&& 0x3f).toInt64.toUInt64).toInt64) else if a.toInt.toNat / 64 < k ∧ k < b.toInt.toNat / 64 then (-1 : Int64) else if k = a.toInt.toNat / 64 then f k ||| ((-1 : Int64) <<< (a.toInt32 &&& 0x3f).toInt64) else f k
theorem addF_bit (f : Nat → Int64) (a b : Int64) (ha : 0 ≤ a.toInt) (hab : a.toInt ≤ b.toInt) (hb : b.toInt < 512) (i : Nat) : bitOf (addF f a b) i = (bitOf f i || decide (a.toInt.toNat ≤ i ∧ i ≤ b.toInt.toNat)) := by
  by_cases h : a.toInt.toNat / 64 = b.toInt.toNat / 64
  · rw [← add_one f a b _ ha hab hb rfl h.symm i]
    unfold bitOf addF
    rw [if_pos h]
  · rw [← add_more f a b _ _ ha hab hb rfl rfl (by omega) i]
    unfold bitOf addF
    rw [if_neg h]
theorem add_a (fw : Nat → Int64) (a b : Int64) (ui : Int32) (h0 : 0 ≤ a.toInt) (hu : ui.toInt = a.toInt / 64) (he : a.toInt / 64 = b.toInt / 64) (hab : a.toInt ≤ b.toInt) (k : Nat) :
    (if k = ui.toNatClampNeg then Value.long (fw ui.toNatClampNeg ||| (((-1 : Int64) <<< (a.toInt32 &&& 0x3f).toInt64) &&& (((-1 : Int64).toUInt64 >>> (((63 : Int64) - (b &&& (63 : Int64))).toInt32 &&& 0x3f).toInt64.toUInt64).toInt64))) else Value.long (fw k)) = Value.long (addF fw a b k) := by
  have e : ui.toNatClampNeg = a.toInt.toNat / 64 := by simp only [Int32.toNatClampNeg]; omega
  have he' : a.toInt.toNat / 64 = b.toInt.toNat / 64 := by omega
  unfold addF
  rw [if_pos he', e]
  by_cases z : k = a.toInt.toNat / 64
  · rw [if_pos z, if_pos z, z]
  · rw [if_neg z, if_neg z]
theorem add_b (fw : Nat → Int64) (a b : Int64) (ui wi : Int32) (h0 : 0 ≤ a.toInt) (hu : ui.toInt = a.toInt / 64) (hw : wi.toInt = b.toInt / 64) (hn : ¬ ui = wi) (hab : a.toInt ≤ b.toInt) (k : Nat) :
    (if k = wi.toNatClampNeg then Value.long (fw wi.toNatClampNeg ||| (((-1 : Int64).toUInt64 >>> (((63 : Int64) - (b &&& (63 : Int64))).toInt32 &&& 0x3f).toInt64.toUInt64).toInt64)) else Value.long (if ui.toNatClampNeg < k ∧ k < wi.toNatClampNeg then (-1 : Int64) else if k = ui.toNatClampNeg then fw k ||| ((-1 : Int64) <<< (a.toInt32 &&& 0x3f).toInt64) else fw k)) = Value.long (addF fw a b k) := by
  have hn' : ui.toInt ≠ wi.toInt := fun q => hn (Int32.toInt_inj.mp q)
  have e : ui.toNatClampNeg = a.toInt.toNat / 64 := by simp only [Int32.toNatClampNeg]; omega
  have e' : wi.toNatClampNeg = b.toInt.toNat / 64 := by simp only [Int32.toNatClampNeg]; omega
  have he' : ¬ a.toInt.toNat / 64 = b.toInt.toNat / 64 := by omega
  unfold addF
  rw [if_neg he', e, e']
  by_cases z : k = b.toInt.toNat / 64
  · rw [if_pos z, if_pos z, z]
  · rw [if_neg z, if_neg z]
theorem own_nn (x n : Int64) (h : ((1 : Int64) + (x &&& (511 : Int64))) = n) : 1 ≤ n.toInt ∧ n.toInt ≤ 512 := by
  have q := c_maskL x 511 9 (by decide) (by decide)
  have r := c_ladd 1 (x &&& 511)
  rw [h] at r
  have e : (1 : Int64).toInt = 1 := rfl
  have s := rng64 n
  omega
theorem own_md (x n y : Int64) (hn : 1 ≤ n.toInt ∧ n.toInt ≤ 512) (h : ((x &&& (9223372036854775807 : Int64)) % n) = y) : 0 ≤ y.toInt ∧ y.toInt < n.toInt := by
  have q := c_maskL x 9223372036854775807 63 (by decide) (by decide)
  have r := (c_lrem (x &&& (9223372036854775807 : Int64)) n n.toInt rfl).1 (by omega)
  rw [lrem_mod, h] at r
  have a := Int.emod_lt_of_pos (x &&& (9223372036854775807 : Int64)).toInt (b := n.toInt) (by omega)
  have b := Int.emod_nonneg (x &&& (9223372036854775807 : Int64)).toInt (b := n.toInt) (by omega)
  omega
theorem own_mm (p q n a b : Int64) (hp : 0 ≤ p.toInt ∧ p.toInt < n.toInt) (hq : 0 ≤ q.toInt ∧ q.toInt < n.toInt) (ha : (if q < p then q else p) = a) (hb : (if p < q then q else p) = b) : 0 ≤ a.toInt ∧ a.toInt ≤ b.toInt ∧ b.toInt < n.toInt := by
  by_cases z : q < p
  · have z' : ¬ p < q := fun w => Int64.lt_irrefl (Int64.lt_trans w z)
    rw [if_pos z] at ha
    rw [if_neg z'] at hb
    subst ha hb
    rw [Int64.lt_iff_toInt_lt] at z
    omega
  · rw [if_neg z] at ha
    rw [Int64.lt_iff_toInt_lt] at z
    by_cases z' : p < q
    · rw [if_pos z'] at hb
      subst ha hb
      omega
    · rw [if_neg z'] at hb
      subst ha hb
      omega
theorem zero_bit (i : Nat) : bitOf (fun _ => 0) i = false := by unfold bitOf; simp
theorem runs_two (n a1 b1 a2 b2 : Int64) (F : Nat → Int64) (hn : 1 ≤ n.toInt ∧ n.toInt ≤ 512) (h1 : 0 ≤ a1.toInt ∧ a1.toInt ≤ b1.toInt ∧ b1.toInt < n.toInt) (h2 : 0 ≤ a2.toInt ∧ a2.toInt ≤ b2.toInt ∧ b2.toInt < n.toInt)
    (hF : ∀ i : Nat, bitOf F i = true ↔ (a1.toInt ≤ i ∧ (i : Int) ≤ b1.toInt) ∨ (a2.toInt ≤ i ∧ (i : Int) ≤ b2.toInt)) (hg : b1.toInt + 1 < a2.toInt) :
    Runs F (nwI n) n 2 (fun j => if j = 0 then a1 else a2) (fun j => if j = 0 then b1 else b2) := by
  have w := own_nw n hn
  refine ⟨Or.inr rfl, w.1, w.2.1, w.2.2.1, fun j hj => ?_, fun _ => by simpa using hg, fun i hi => ?_⟩
  · dsimp only
    by_cases z : j = 0
    · rw [if_pos z, if_pos z]; exact h1
    · rw [if_neg z, if_neg z]; exact h2
  · rw [hF]
    constructor
    · rintro (q | q)
      · exact ⟨0, by decide, by simpa using q⟩
      · exact ⟨1, by decide, by simpa using q⟩
    · rintro ⟨j, j1, j2⟩
      by_cases z : j = 0
      · simp only [z, if_true] at j2; exact Or.inl j2
      · simp only [z, if_false] at j2; exact Or.inr j2
theorem runs_one (n lo hi : Int64) (F : Nat → Int64) (hn : 1 ≤ n.toInt ∧ n.toInt ≤ 512) (h1 : 0 ≤ lo.toInt ∧ lo.toInt ≤ hi.toInt ∧ hi.toInt < n.toInt) (hF : ∀ i : Nat, bitOf F i = true ↔ (lo.toInt ≤ i ∧ (i : Int) ≤ hi.toInt)) :
    Runs F (nwI n) n 1 (fun _ => lo) (fun _ => hi) := by
  have w := own_nw n hn
  refine ⟨Or.inl rfl, w.1, w.2.1, w.2.2.1, fun j hj => h1, fun q => absurd q (by decide), fun i hi => ?_⟩
  rw [hF]
  exact ⟨fun q => ⟨0, by decide, q⟩, fun ⟨_, _, q⟩ => q⟩
theorem F_bit (n a1 b1 a2 b2 : Int64) (hn : 1 ≤ n.toInt ∧ n.toInt ≤ 512) (h1 : 0 ≤ a1.toInt ∧ a1.toInt ≤ b1.toInt ∧ b1.toInt < n.toInt) (h2 : 0 ≤ a2.toInt ∧ a2.toInt ≤ b2.toInt ∧ b2.toInt < n.toInt) (i : Nat) :
    bitOf (addF (addF (fun _ => 0) a1 b1) a2 b2) i = true ↔ (a1.toInt ≤ i ∧ (i : Int) ≤ b1.toInt) ∨ (a2.toInt ≤ i ∧ (i : Int) ≤ b2.toInt) := by
  rw [addF_bit _ _ _ h2.1 h2.2.1 (by omega), addF_bit _ _ _ h1.1 h1.2.1 (by omega), zero_bit]
  simp only [Bool.or_eq_true, Bool.false_or, decide_eq_true_eq]
  omega
theorem runs_law (n a1 b1 a2 b2 : Int64) (hn : 1 ≤ n.toInt ∧ n.toInt ≤ 512) (h1 : 0 ≤ a1.toInt ∧ a1.toInt ≤ b1.toInt ∧ b1.toInt < n.toInt) (h2 : 0 ≤ a2.toInt ∧ a2.toInt ≤ b2.toInt ∧ b2.toInt < n.toInt) :
    (¬ ((if b2 < b1 then b2 else b1) + (1 : Int64)) < (if a1 < a2 then a2 else a1) → Runs (addF (addF (fun _ => 0) a1 b1) a2 b2) (nwI n) n 1 (fun _ => (if a2 < a1 then a2 else a1)) (fun _ => (if b1 < b2 then b2 else b1))) ∧
    (((if b2 < b1 then b2 else b1) + (1 : Int64)) < (if a1 < a2 then a2 else a1) → (a1 < a2 → Runs (addF (addF (fun _ => 0) a1 b1) a2 b2) (nwI n) n 2 (fun j => if j = 0 then a1 else a2) (fun j => if j = 0 then b1 else b2)) ∧ (¬ a1 < a2 → Runs (addF (addF (fun _ => 0) a1 b1) a2 b2) (nwI n) n 2 (fun j => if j = 0 then a2 else a1) (fun j => if j = 0 then b2 else b1))) := by
  have hF := F_bit n a1 b1 a2 b2 hn h1 h2
  have e1 : (1 : Int64).toInt = 1 := rfl
  obtain ⟨bm, hbm, kbm⟩ : ∃ z : Int64, (if b2 < b1 then b2 else b1) = z ∧ (z.toInt = b2.toInt ∧ b2.toInt < b1.toInt ∨ z.toInt = b1.toInt ∧ b1.toInt ≤ b2.toInt) := ⟨_, rfl, by
    by_cases z : b2 < b1
    · rw [if_pos z]; rw [Int64.lt_iff_toInt_lt] at z; exact Or.inl ⟨rfl, z⟩
    · rw [if_neg z]; rw [Int64.lt_iff_toInt_lt] at z; exact Or.inr ⟨rfl, by omega⟩⟩
  obtain ⟨am, ham, kam⟩ : ∃ z : Int64, (if a1 < a2 then a2 else a1) = z ∧ (z.toInt = a2.toInt ∧ a1.toInt < a2.toInt ∨ z.toInt = a1.toInt ∧ a2.toInt ≤ a1.toInt) := ⟨_, rfl, by
    by_cases z : a1 < a2
    · rw [if_pos z]; rw [Int64.lt_iff_toInt_lt] at z; exact Or.inl ⟨rfl, z⟩
    · rw [if_neg z]; rw [Int64.lt_iff_toInt_lt] at z; exact Or.inr ⟨rfl, by omega⟩⟩
  obtain ⟨lo, hlo, klo⟩ : ∃ z : Int64, (if a2 < a1 then a2 else a1) = z ∧ (z.toInt = a2.toInt ∧ a2.toInt < a1.toInt ∨ z.toInt = a1.toInt ∧ a1.toInt ≤ a2.toInt) := ⟨_, rfl, by
    by_cases z : a2 < a1
    · rw [if_pos z]; rw [Int64.lt_iff_toInt_lt] at z; exact Or.inl ⟨rfl, z⟩
    · rw [if_neg z]; rw [Int64.lt_iff_toInt_lt] at z; exact Or.inr ⟨rfl, by omega⟩⟩
  obtain ⟨hi, hhi, khi⟩ : ∃ z : Int64, (if b1 < b2 then b2 else b1) = z ∧ (z.toInt = b2.toInt ∧ b1.toInt < b2.toInt ∨ z.toInt = b1.toInt ∧ b2.toInt ≤ b1.toInt) := ⟨_, rfl, by
    by_cases z : b1 < b2
    · rw [if_pos z]; rw [Int64.lt_iff_toInt_lt] at z; exact Or.inl ⟨rfl, z⟩
    · rw [if_neg z]; rw [Int64.lt_iff_toInt_lt] at z; exact Or.inr ⟨rfl, by omega⟩⟩
  rw [hbm, ham, hlo, hhi, Int64.lt_iff_toInt_lt]
  have q := c_ladd bm 1
  have r := rng64 (bm + 1)
  refine ⟨fun g => runs_one n lo hi _ hn (by omega) fun i => ?_, fun g => ⟨fun z => ?_, fun z => ?_⟩⟩
  · rw [hF]; omega
  · rw [Int64.lt_iff_toInt_lt] at z
    exact runs_two n a1 b1 a2 b2 _ hn h1 h2 hF (by omega)
  · rw [Int64.lt_iff_toInt_lt] at z
    exact runs_two n a2 b2 a1 b1 _ hn h2 h1 (fun i => by rw [hF]; exact or_comm) (by omega)
theorem own_ib (x nw : Int32) (h0 : 0 ≤ x.toInt) (h1 : x.toInt < nw.toInt) : ¬ x < (0 : Int32) ∧ x < nw := by
  have e : (0 : Int32).toInt = 0 := rfl
  rw [Int32.lt_iff_toInt_lt, Int32.lt_iff_toInt_lt]
  omega
theorem own_v1 (vi wi : Int32) (h0 : 0 ≤ vi.toInt) (h : vi < wi) : (vi + (1 : Int32)).toInt = vi.toInt + 1 ∧ (vi + (1 : Int32)).toNatClampNeg = vi.toNatClampNeg + 1 ∧ (vi.toNatClampNeg : Int) = vi.toInt ∧ (wi.toNatClampNeg : Int) = wi.toInt ∧ vi.toInt < wi.toInt := by
  rw [Int32.lt_iff_toInt_lt] at h
  have q := c_iadd vi 1
  have r := rng32 (vi + 1)
  have r2 := rng32 wi
  have e : (1 : Int32).toInt = 1 := rfl
  simp only [Int32.toNatClampNeg]
  omega
theorem own_lw (fw : Nat → Int64) (ui wi : Int32) (m1 : Int64) (h0 : 0 ≤ ui.toInt) (h : ui.toInt < wi.toInt) : Value.long (if ui.toNatClampNeg < wi.toNatClampNeg ∧ wi.toNatClampNeg < wi.toNatClampNeg then (-1 : Int64) else if wi.toNatClampNeg = ui.toNatClampNeg then fw wi.toNatClampNeg ||| m1 else fw wi.toNatClampNeg) = Value.long (fw wi.toNatClampNeg) := by
  have z : ¬ wi.toNatClampNeg = ui.toNatClampNeg := by simp only [Int32.toNatClampNeg]; omega
  rw [if_neg (fun w => Nat.lt_irrefl _ w.2), if_neg z]
theorem own_l0 (fw : Nat → Int64) (ui : Int32) (m1 : Int64) (k : Nat) (e : (ui + (1 : Int32)).toNatClampNeg = ui.toNatClampNeg + 1) : (if k = ui.toNatClampNeg then Value.long (fw ui.toNatClampNeg ||| m1) else Value.long (fw k)) = Value.long (if ui.toNatClampNeg < k ∧ k < (ui + (1 : Int32)).toNatClampNeg then (-1 : Int64) else if k = ui.toNatClampNeg then fw k ||| m1 else fw k) := by
  rw [e, if_neg (show ¬ (ui.toNatClampNeg < k ∧ k < ui.toNatClampNeg + 1) by omega)]
  by_cases z : k = ui.toNatClampNeg
  · rw [if_pos z, if_pos z, z]
  · rw [if_neg z, if_neg z]
theorem own_l1 (fw : Nat → Int64) (ui vi : Int32) (m1 : Int64) (k : Nat) (e : (vi + (1 : Int32)).toNatClampNeg = vi.toNatClampNeg + 1) (hl : ui.toNatClampNeg < vi.toNatClampNeg) : (if k = vi.toNatClampNeg then Value.long (-1 : Int64) else Value.long (if ui.toNatClampNeg < k ∧ k < vi.toNatClampNeg then (-1 : Int64) else if k = ui.toNatClampNeg then fw k ||| m1 else fw k)) = Value.long (if ui.toNatClampNeg < k ∧ k < (vi + (1 : Int32)).toNatClampNeg then (-1 : Int64) else if k = ui.toNatClampNeg then fw k ||| m1 else fw k) := by
  rw [e]
  by_cases z : k = vi.toNatClampNeg
  · rw [if_pos z, if_pos (by omega)]
  · rw [if_neg z]
    have q : (ui.toNatClampNeg < k ∧ k < vi.toNatClampNeg + 1) ↔ (ui.toNatClampNeg < k ∧ k < vi.toNatClampNeg) := by omega
    simp only [q]
theorem bnd_add (sI eI : Nat → Int64) (z k : Nat) : (if k = 2 * z + 1 then Value.long (eI z) else if k = 2 * z then Value.long (sI z) else Value.long (bnd sI eI z k)) = Value.long (bnd sI eI (z + 1) k) := by
  unfold bnd
  by_cases h1 : k = 2 * z + 1
  · rw [if_pos h1, if_pos (show k < 2 * (z + 1) by omega), if_neg (show ¬ k % 2 = 0 by omega), show k / 2 = z by omega]
  · rw [if_neg h1]
    by_cases h2 : k = 2 * z
    · rw [if_pos h2, if_pos (show k < 2 * (z + 1) by omega), if_pos (show k % 2 = 0 by omega), show k / 2 = z by omega]
    · rw [if_neg h2]
      have q : (k < 2 * (z + 1)) ↔ (k < 2 * z) := by omega
      simp only [q]
theorem bnd_0 (sI eI : Nat → Int64) (k : Nat) : bnd sI eI (0 : Int32).toNatClampNeg k = 0 := if_neg (Nat.not_lt_zero k)
theorem bnd_11 (sI eI : Nat → Int64) : bnd sI eI (1 : Int32).toNatClampNeg (1 : Int32).toNatClampNeg = eI 0 := rfl
theorem bnd_s0 (sI eI : Nat → Int64) : bnd sI eI (1 : Int32).toNatClampNeg ((2 : Int32) * (0 : Int32)).toNatClampNeg = sI 0 ∧ bnd sI eI (1 : Int32).toNatClampNeg (((2 : Int32) * (0 : Int32)) + (1 : Int32)).toNatClampNeg = eI 0 ∧ bnd sI eI (2 : Int32).toNatClampNeg ((2 : Int32) * (0 : Int32)).toNatClampNeg = sI 0 ∧ bnd sI eI (2 : Int32).toNatClampNeg (((2 : Int32) * (0 : Int32)) + (1 : Int32)).toNatClampNeg = eI 0 ∧ bnd sI eI (2 : Int32).toNatClampNeg ((2 : Int32) * (1 : Int32)).toNatClampNeg = sI 1 ∧ bnd sI eI (2 : Int32).toNatClampNeg (((2 : Int32) * (1 : Int32)) + (1 : Int32)).toNatClampNeg = eI 1 := ⟨rfl, rfl, rfl, rfl, rfl, rfl⟩
def SL (s5 s6 s7 s8 s9 s10 : Slot) : Prop := (s5 = .unset ∧ s6 = .unset ∧ s7 = .unset ∧ s8 = .unset ∧ s9 = .unset ∧ s10 = .unset) ∨ ∃ z5 z6 z8 z10, s5 = .val (.int z5) ∧ s6 = .val (.long z6) ∧ s7 = .second ∧ s8 = .val (.long z8) ∧ s9 = .second ∧ s10 = .val (.int z10)
theorem own_n0 {f : Nat → Int64} {nw : Int32} {n : Int64} {N : Int32} {sI eI : Nat → Int64} (R : Runs f nw n N sI eI) : ¬ N = (0 : Int32) := by
  rcases R.1 with rfl | rfl <;> decide
theorem own_nw0 {f : Nat → Int64} {nw : Int32} {n : Int64} {N : Int32} {sI eI : Nat → Int64} (R : Runs f nw n N sI eI) : ¬ nw = (0 : Int32) ∧ ¬ (0 : Int32) < (0 : Int32) ∧ (0 : Int32) < nw := by
  have q := R.2.1
  refine ⟨fun z => ?_, by decide, ?_⟩
  · subst z; exact absurd q (by decide)
  · rw [Int32.lt_iff_toInt_lt]; have e : (0 : Int32).toInt = 0 := rfl; omega
theorem out_start {f : Nat → Int64} {nw : Int32} {n : Int64} {N : Int32} {sI eI : Nat → Int64} (R : Runs f nw n N sI eI) : OutI f nw N sI eI (0 : Int32) (f (0 : Int32).toNatClampNeg) (0 : Int32) 0 := by
  have hN := runN R
  obtain ⟨r1, r2, r3, r4, r5, r6, r7⟩ := id R
  have e : (0 : Int32).toInt = 0 := rfl
  have e' : (0 : Int32).toNatClampNeg = 0 := rfl
  refine ⟨by omega, by omega, by omega, by omega, by omega, by omega, fun j hj => ?_, fun j h1 h2 => (r5 j h2).1, fun j h1 => absurd h1 (by omega)⟩
  rw [bitOf_word _ _ _ hj]
  simp
theorem own_hS {f : Nat → Int64} {nw : Int32} {n : Int64} {N : Int32} {sI eI : Nat → Int64} {wi : Int32} {gap : Int64} {sz : Int32} (R : Runs f nw n N sI eI) (I : InI f nw N sI eI wi gap sz) : sz = (0 : Int32) ∨ (sz = (1 : Int32) ∧ ((eI 0) + (1 : Int64)) < sI 1) := by
  have hN := runN R
  obtain ⟨i1, i2, i3, i4, i5, i6, i7⟩ := I
  obtain ⟨r1, r2, r3, r4, r5, r6, r7⟩ := id R
  by_cases z : sz.toInt = 0
  · exact Or.inl (Int32.toInt_inj.mp z)
  · right
    have N2 := run2 R (by omega)
    have a := r6 N2
    have b := r5 0 (by omega)
    have q := c_ladd (eI 0) 1
    have r := rng64 (eI 0 + 1)
    have e : (1 : Int64).toInt = 1 := rfl
    refine ⟨Int32.toInt_inj.mp (show sz.toInt = 1 by omega), ?_⟩
    rw [Int64.lt_iff_toInt_lt]
    omega
theorem own_hA (n a b : Int64) (hn : 1 ≤ n.toInt ∧ n.toInt ≤ 512) (h : 0 ≤ a.toInt ∧ a.toInt ≤ b.toInt ∧ b.toInt < n.toInt) : 0 ≤ a.toInt ∧ a.toInt ≤ b.toInt ∧ b.toInt < 512 ∧ b.toInt < 64 * (nwI n).toInt := by
  have q := own_nw n hn
  omega
theorem own_n64 (n : Int64) (hn : 1 ≤ n.toInt ∧ n.toInt ≤ 512) : n ≠ 0 := by
  rintro rfl
  exact absurd hn.1 (by decide)
theorem d1_0 : decode jdk_29_method_70_code 0 = .ok (.lload_n 0, 1) := by decide +kernel
theorem d1_1 : decode jdk_29_method_70_code 1 = .ok (.lload_n 2, 1) := by decide +kernel
theorem d1_2 : decode jdk_29_method_70_code 2 = .ok (.lcmp, 1) := by decide +kernel
theorem d1_3 : decode jdk_29_method_70_code 3 = .ok (.ifCond .gt 7, 3) := by decide +kernel
theorem d1_6 : decode jdk_29_method_70_code 6 = .ok (.lload_n 0, 1) := by decide +kernel
theorem d1_7 : decode jdk_29_method_70_code 7 = .ok (.goto 4, 3) := by decide +kernel
theorem d1_10 : decode jdk_29_method_70_code 10 = .ok (.lload_n 2, 1) := by decide +kernel
theorem d1_11 : decode jdk_29_method_70_code 11 = .ok (.lreturn, 1) := by decide +kernel
theorem pn_rm1 : plainFor (⟨"java/lang/Math", "min", "(JJ)J"⟩ : MethodName) = true := Jvm.Free.JP.mathPlain rfl (by decide +kernel)
theorem ef_rm1 (m : MethodId) (q1 : Int64) (q2 : Int64) : entryFrame m #[(.long q1), (.long q2)] 4 = mkF m 0 #[.val (.long q1), .second, .val (.long q2), .second] [] := by first | (simp [entryFrame, mkF, argsToLocals, Value.category]; done) | rfl
def Q1 (Z : State) (q1 : Int64) (q2 : Int64) (h0 : Heap) (n0 : Nat) (v : Option Value) (h : Heap) (L : List Loc) : Prop := v = some (.long (if q2 < q1 then q2 else q1)) ∧ L = [] ∧ h = h0
set_option maxRecDepth 65536 in
set_option maxHeartbeats 40000000 in
theorem rm1 (l : Launch) (Z : State) (a0 : Array Value) (hw : ∀ d ∈ tables_1, d.before a0 Z = true) (ws : List Jvm.Cond) (q1 : Int64) (q2 : Int64) (h0 : Heap) (n0 : Nat) (Z0 : n0 ≤ h0.size) :
    Con l Z (⟨"java/lang/Math", "min", "(JJ)J"⟩ : MethodName) jdk_29_method_70_code 4 (some .long) ws ({ frames := 0, cells := 0, slots := 0, locals := 0 } : Room) #[(.long q1), (.long q2)] h0 (Q1 Z q1 q2 h0 n0) := by
  refine Con.of pn_rm1 ?_
  intro p e s m below meth c s₁ hZ e0 X0 hx hby hml hown hnm hret hlk
  replace hml : c.maxLocals = 4 := hml
  have hown : s.vm.findClass "java/lang/Math" = some m.cls := hown
  have N0 : Fr n0 [] := Fr.nil n0
  obtain ⟨PP, hPP⟩ : ∃ P, P = Fine s below (Q1 Z q1 q2 h0 n0) ({ frames := 0, cells := 0, slots := 0, locals := 0 } : Room).cells ({ frames := 0, cells := 0, slots := 0, locals := 0 } : Room).slots := ⟨_, rfl⟩
  rw [← hPP]
  refine Go.cast (ef_rm1 m q1 q2) ?_
  have Zn : n0 ≤ h0.size := Z0
  show Go p.tables e below PP (s₁.setTop (mkF m 0 #[.val (.long q1), .second, .val (.long q2), .second] []))
  refine Go.st (fun t k => XS.lloadN X0.here hx rfl (hb hby d1_0) rfl k) ?_
  show Go p.tables e below PP (s₁.setTop (mkF m 1 #[.val (.long q1), .second, .val (.long q2), .second] [(.long q1)]))
  refine Go.st (fun t k => XS.lloadN X0.here hx rfl (hb hby d1_1) rfl k) ?_
  show Go p.tables e below PP (s₁.setTop (mkF m 2 #[.val (.long q1), .second, .val (.long q2), .second] [(.long q2), (.long q1)]))
  refine Go.st (fun t k => XS.lcmp X0.here hx rfl (hb hby d1_2) rfl k) ?_
  show Go p.tables e below PP (s₁.setTop (mkF m 3 #[.val (.long q1), .second, .val (.long q2), .second] [(.int (XT.cmpL q1 q2))]))
  by_cases hc3 : q2 < q1
  · --
    refine Go.st (fun t k => XS.ifYes X0.here hx rfl (pc0 := 3) (pc' := 10) rfl (hb hby d1_3) rfl (XT.ll_gt_t hc3) (by decide) (by decide) k) ?_
    show Go p.tables e below PP (s₁.setTop (mkF m 10 #[.val (.long q1), .second, .val (.long q2), .second] []))
    refine Go.st (fun t k => XS.lloadN X0.here hx rfl (hb hby d1_10) rfl k) ?_
    show Go p.tables e below PP (s₁.setTop (mkF m 11 #[.val (.long q1), .second, .val (.long q2), .second] [(.long q2)]))
    rw [hPP]
    refine endJ X0 hx hlk hret (hb hby d1_11) ?_ (by decide) (by decide)
    show Q1 Z q1 q2 h0 n0 (some (.long q2)) s₁.heap _
    rw [e0]
    exact ⟨by simp [hc3], rfl, rfl⟩
  · --
    refine Go.st (fun t k => XS.ifNo X0.here hx rfl (hb hby d1_3) rfl (XT.ll_gt_f hc3) k) ?_
    show Go p.tables e below PP (s₁.setTop (mkF m 6 #[.val (.long q1), .second, .val (.long q2), .second] []))
    refine Go.st (fun t k => XS.lloadN X0.here hx rfl (hb hby d1_6) rfl k) ?_
    show Go p.tables e below PP (s₁.setTop (mkF m 7 #[.val (.long q1), .second, .val (.long q2), .second] [(.long q1)]))
    refine Go.st (fun t k => XS.goto X0.here hx rfl (pc0 := 7) (pc' := 11) rfl (hb hby d1_7) (by decide) (by decide) k) ?_
    show Go p.tables e below PP (s₁.setTop (mkF m 11 #[.val (.long q1), .second, .val (.long q2), .second] [(.long q1)]))
    rw [hPP]
    refine endJ X0 hx hlk hret (hb hby d1_11) ?_ (by decide) (by decide)
    show Q1 Z q1 q2 h0 n0 (some (.long q1)) s₁.heap _
    rw [e0]
    exact ⟨by simp [hc3], rfl, rfl⟩
theorem d2_0 : decode jdk_29_method_66_code 0 = .ok (.lload_n 0, 1) := by decide +kernel
theorem d2_1 : decode jdk_29_method_66_code 1 = .ok (.lload_n 2, 1) := by decide +kernel
theorem d2_2 : decode jdk_29_method_66_code 2 = .ok (.lcmp, 1) := by decide +kernel
theorem d2_3 : decode jdk_29_method_66_code 3 = .ok (.ifCond .lt 7, 3) := by decide +kernel
theorem d2_6 : decode jdk_29_method_66_code 6 = .ok (.lload_n 0, 1) := by decide +kernel
theorem d2_7 : decode jdk_29_method_66_code 7 = .ok (.goto 4, 3) := by decide +kernel
theorem d2_10 : decode jdk_29_method_66_code 10 = .ok (.lload_n 2, 1) := by decide +kernel
theorem d2_11 : decode jdk_29_method_66_code 11 = .ok (.lreturn, 1) := by decide +kernel
theorem pn_rm2 : plainFor (⟨"java/lang/Math", "max", "(JJ)J"⟩ : MethodName) = true := Jvm.Free.JP.mathPlain rfl (by decide +kernel)
theorem ef_rm2 (m : MethodId) (q1 : Int64) (q2 : Int64) : entryFrame m #[(.long q1), (.long q2)] 4 = mkF m 0 #[.val (.long q1), .second, .val (.long q2), .second] [] := by first | (simp [entryFrame, mkF, argsToLocals, Value.category]; done) | rfl
def Q2 (Z : State) (q1 : Int64) (q2 : Int64) (h0 : Heap) (n0 : Nat) (v : Option Value) (h : Heap) (L : List Loc) : Prop := v = some (.long (if q1 < q2 then q2 else q1)) ∧ L = [] ∧ h = h0
set_option maxRecDepth 65536 in
set_option maxHeartbeats 40000000 in
theorem rm2 (l : Launch) (Z : State) (a0 : Array Value) (hw : ∀ d ∈ tables_1, d.before a0 Z = true) (ws : List Jvm.Cond) (q1 : Int64) (q2 : Int64) (h0 : Heap) (n0 : Nat) (Z0 : n0 ≤ h0.size) :
    Con l Z (⟨"java/lang/Math", "max", "(JJ)J"⟩ : MethodName) jdk_29_method_66_code 4 (some .long) ws ({ frames := 0, cells := 0, slots := 0, locals := 0 } : Room) #[(.long q1), (.long q2)] h0 (Q2 Z q1 q2 h0 n0) := by
  refine Con.of pn_rm2 ?_
  intro p e s m below meth c s₁ hZ e0 X0 hx hby hml hown hnm hret hlk
  replace hml : c.maxLocals = 4 := hml
  have hown : s.vm.findClass "java/lang/Math" = some m.cls := hown
  have N0 : Fr n0 [] := Fr.nil n0
  obtain ⟨PP, hPP⟩ : ∃ P, P = Fine s below (Q2 Z q1 q2 h0 n0) ({ frames := 0, cells := 0, slots := 0, locals := 0 } : Room).cells ({ frames := 0, cells := 0, slots := 0, locals := 0 } : Room).slots := ⟨_, rfl⟩
  rw [← hPP]
  refine Go.cast (ef_rm2 m q1 q2) ?_
  have Zn : n0 ≤ h0.size := Z0
  show Go p.tables e below PP (s₁.setTop (mkF m 0 #[.val (.long q1), .second, .val (.long q2), .second] []))
  refine Go.st (fun t k => XS.lloadN X0.here hx rfl (hb hby d2_0) rfl k) ?_
  show Go p.tables e below PP (s₁.setTop (mkF m 1 #[.val (.long q1), .second, .val (.long q2), .second] [(.long q1)]))
  refine Go.st (fun t k => XS.lloadN X0.here hx rfl (hb hby d2_1) rfl k) ?_
  show Go p.tables e below PP (s₁.setTop (mkF m 2 #[.val (.long q1), .second, .val (.long q2), .second] [(.long q2), (.long q1)]))
  refine Go.st (fun t k => XS.lcmp X0.here hx rfl (hb hby d2_2) rfl k) ?_
  show Go p.tables e below PP (s₁.setTop (mkF m 3 #[.val (.long q1), .second, .val (.long q2), .second] [(.int (XT.cmpL q1 q2))]))
  by_cases hc3 : q1 < q2
  · --
    refine Go.st (fun t k => XS.ifYes X0.here hx rfl (pc0 := 3) (pc' := 10) rfl (hb hby d2_3) rfl (XT.ll_lt_t hc3) (by decide) (by decide) k) ?_
    show Go p.tables e below PP (s₁.setTop (mkF m 10 #[.val (.long q1), .second, .val (.long q2), .second] []))
    refine Go.st (fun t k => XS.lloadN X0.here hx rfl (hb hby d2_10) rfl k) ?_
    show Go p.tables e below PP (s₁.setTop (mkF m 11 #[.val (.long q1), .second, .val (.long q2), .second] [(.long q2)]))
    rw [hPP]
    refine endJ X0 hx hlk hret (hb hby d2_11) ?_ (by decide) (by decide)
    show Q2 Z q1 q2 h0 n0 (some (.long q2)) s₁.heap _
    rw [e0]
    exact ⟨by simp [hc3], rfl, rfl⟩
  · --
    refine Go.st (fun t k => XS.ifNo X0.here hx rfl (hb hby d2_3) rfl (XT.ll_lt_f hc3) k) ?_
    show Go p.tables e below PP (s₁.setTop (mkF m 6 #[.val (.long q1), .second, .val (.long q2), .second] []))
    refine Go.st (fun t k => XS.lloadN X0.here hx rfl (hb hby d2_6) rfl k) ?_
    show Go p.tables e below PP (s₁.setTop (mkF m 7 #[.val (.long q1), .second, .val (.long q2), .second] [(.long q1)]))
    refine Go.st (fun t k => XS.goto X0.here hx rfl (pc0 := 7) (pc' := 11) rfl (hb hby d2_7) (by decide) (by decide) k) ?_
    show Go p.tables e below PP (s₁.setTop (mkF m 11 #[.val (.long q1), .second, .val (.long q2), .second] [(.long q1)]))
    rw [hPP]
    refine endJ X0 hx hlk hret (hb hby d2_11) ?_ (by decide) (by decide)
    show Q2 Z q1 q2 h0 n0 (some (.long q1)) s₁.heap _
    rw [e0]
    exact ⟨by simp [hc3], rfl, rfl⟩
theorem d8_0 : decode jdk_29_method_65_code 0 = .ok (.iload_n 0, 1) := by decide +kernel
theorem d8_1 : decode jdk_29_method_65_code 1 = .ok (.iload_n 1, 1) := by decide +kernel
theorem d8_2 : decode jdk_29_method_65_code 2 = .ok (.if_icmp .lt 7, 3) := by decide +kernel
theorem d8_5 : decode jdk_29_method_65_code 5 = .ok (.iload_n 0, 1) := by decide +kernel
theorem d8_6 : decode jdk_29_method_65_code 6 = .ok (.goto 4, 3) := by decide +kernel
theorem d8_9 : decode jdk_29_method_65_code 9 = .ok (.iload_n 1, 1) := by decide +kernel
theorem d8_10 : decode jdk_29_method_65_code 10 = .ok (.ireturn, 1) := by decide +kernel
theorem pn_rm8 : plainFor (⟨"java/lang/Math", "max", "(II)I"⟩ : MethodName) = true := Jvm.Free.JP.mathPlain rfl (by decide +kernel)
theorem ef_rm8 (m : MethodId) (p1 : Int32) (p2 : Int32) : entryFrame m #[(.int p1), (.int p2)] 2 = mkF m 0 #[.val (.int p1), .val (.int p2)] [] := by first | (simp [entryFrame, mkF, argsToLocals, Value.category]; done) | rfl
def Q8 (Z : State) (p1 : Int32) (p2 : Int32) (h0 : Heap) (n0 : Nat) (v : Option Value) (h : Heap) (L : List Loc) : Prop := v = some (.int (if p1 < p2 then p2 else p1)) ∧ L = [] ∧ h = h0
set_option maxRecDepth 65536 in
set_option maxHeartbeats 40000000 in
theorem rm8 (l : Launch) (Z : State) (a0 : Array Value) (hw : ∀ d ∈ tables_1, d.before a0 Z = true) (ws : List Jvm.Cond) (p1 : Int32) (p2 : Int32) (h0 : Heap) (n0 : Nat) (Z0 : n0 ≤ h0.size) :
    Con l Z (⟨"java/lang/Math", "max", "(II)I"⟩ : MethodName) jdk_29_method_65_code 2 (some .int) ws ({ frames := 0, cells := 0, slots := 0, locals := 0 } : Room) #[(.int p1), (.int p2)] h0 (Q8 Z p1 p2 h0 n0) := by
  refine Con.of pn_rm8 ?_
  intro p e s m below meth c s₁ hZ e0 X0 hx hby hml hown hnm hret hlk
  replace hml : c.maxLocals = 2 := hml
  have hown : s.vm.findClass "java/lang/Math" = some m.cls := hown
  have N0 : Fr n0 [] := Fr.nil n0
  obtain ⟨PP, hPP⟩ : ∃ P, P = Fine s below (Q8 Z p1 p2 h0 n0) ({ frames := 0, cells := 0, slots := 0, locals := 0 } : Room).cells ({ frames := 0, cells := 0, slots := 0, locals := 0 } : Room).slots := ⟨_, rfl⟩
  rw [← hPP]
  refine Go.cast (ef_rm8 m p1 p2) ?_
  have Zn : n0 ≤ h0.size := Z0
  show Go p.tables e below PP (s₁.setTop (mkF m 0 #[.val (.int p1), .val (.int p2)] []))
  refine Go.st (fun t k => XS.iloadN X0.here hx rfl (hb hby d8_0) rfl k) ?_
  show Go p.tables e below PP (s₁.setTop (mkF m 1 #[.val (.int p1), .val (.int p2)] [(.int p1)]))
  refine Go.st (fun t k => XS.iloadN X0.here hx rfl (hb hby d8_1) rfl k) ?_
  show Go p.tables e below PP (s₁.setTop (mkF m 2 #[.val (.int p1), .val (.int p2)] [(.int p2), (.int p1)]))
  by_cases hc2 : p1 < p2
  · --
    refine Go.st (fun t k => XS.icmpYes X0.here hx rfl (pc0 := 2) (pc' := 9) rfl (hb hby d8_2) rfl (XT.ii_lt_t hc2) (by decide) (by decide) k) ?_
    show Go p.tables e below PP (s₁.setTop (mkF m 9 #[.val (.int p1), .val (.int p2)] []))
    refine Go.st (fun t k => XS.iloadN X0.here hx rfl (hb hby d8_9) rfl k) ?_
    show Go p.tables e below PP (s₁.setTop (mkF m 10 #[.val (.int p1), .val (.int p2)] [(.int p2)]))
    rw [hPP]
    refine endI X0 hx hlk hret (hb hby d8_10) ?_ (by decide) (by decide)
    show Q8 Z p1 p2 h0 n0 (some (.int p2)) s₁.heap _
    rw [e0]
    exact ⟨by simp [hc2], rfl, rfl⟩
  · --
    refine Go.st (fun t k => XS.icmpNo X0.here hx rfl (hb hby d8_2) rfl (XT.ii_lt_f hc2) k) ?_
    show Go p.tables e below PP (s₁.setTop (mkF m 5 #[.val (.int p1), .val (.int p2)] []))
    refine Go.st (fun t k => XS.iloadN X0.here hx rfl (hb hby d8_5) rfl k) ?_
    show Go p.tables e below PP (s₁.setTop (mkF m 6 #[.val (.int p1), .val (.int p2)] [(.int p1)]))
    refine Go.st (fun t k => XS.goto X0.here hx rfl (pc0 := 6) (pc' := 10) rfl (hb hby d8_6) (by decide) (by decide) k) ?_
    show Go p.tables e below PP (s₁.setTop (mkF m 10 #[.val (.int p1), .val (.int p2)] [(.int p1)]))
    rw [hPP]
    refine endI X0 hx hlk hret (hb hby d8_10) ?_ (by decide) (by decide)
    show Q8 Z p1 p2 h0 n0 (some (.int p1)) s₁.heap _
    rw [e0]
    exact ⟨by simp [hc2], rfl, rfl⟩
theorem d10_0 : decode jdk_33_method_48_code 0 = .ok (.iload_n 0, 1) := by decide +kernel
theorem d10_1 : decode jdk_33_method_48_code 1 = .ok (.iconst (-1), 1) := by decide +kernel
theorem d10_2 : decode jdk_33_method_48_code 2 = .ok (.ixor, 1) := by decide +kernel
theorem d10_3 : decode jdk_33_method_48_code 3 = .ok (.iload_n 0, 1) := by decide +kernel
theorem d10_4 : decode jdk_33_method_48_code 4 = .ok (.iconst 1, 1) := by decide +kernel
theorem d10_5 : decode jdk_33_method_48_code 5 = .ok (.isub, 1) := by decide +kernel
theorem d10_6 : decode jdk_33_method_48_code 6 = .ok (.iand, 1) := by decide +kernel
theorem d10_7 : decode jdk_33_method_48_code 7 = .ok (.istore_n 0, 1) := by decide +kernel
theorem d10_8 : decode jdk_33_method_48_code 8 = .ok (.iload_n 0, 1) := by decide +kernel
theorem d10_9 : decode jdk_33_method_48_code 9 = .ok (.ifCond .gt 8, 3) := by decide +kernel
theorem d10_12 : decode jdk_33_method_48_code 12 = .ok (.iload_n 0, 1) := by decide +kernel
theorem d10_13 : decode jdk_33_method_48_code 13 = .ok (.bipush 32, 2) := by decide +kernel
theorem d10_15 : decode jdk_33_method_48_code 15 = .ok (.iand, 1) := by decide +kernel
theorem d10_16 : decode jdk_33_method_48_code 16 = .ok (.ireturn, 1) := by decide +kernel
theorem d10_17 : decode jdk_33_method_48_code 17 = .ok (.iconst 1, 1) := by decide +kernel
theorem d10_18 : decode jdk_33_method_48_code 18 = .ok (.istore_n 1, 1) := by decide +kernel
theorem d10_19 : decode jdk_33_method_48_code 19 = .ok (.iload_n 0, 1) := by decide +kernel
theorem d10_20 : decode jdk_33_method_48_code 20 = .ok (.ldc_w 264, 3) := by decide +kernel
theorem d10_23 : decode jdk_33_method_48_code 23 = .ok (.if_icmp .le 11, 3) := by decide +kernel
theorem d10_26 : decode jdk_33_method_48_code 26 = .ok (.iinc 1 16, 3) := by decide +kernel
theorem d10_29 : decode jdk_33_method_48_code 29 = .ok (.iload_n 0, 1) := by decide +kernel
theorem d10_30 : decode jdk_33_method_48_code 30 = .ok (.bipush 16, 2) := by decide +kernel
theorem d10_32 : decode jdk_33_method_48_code 32 = .ok (.iushr, 1) := by decide +kernel
theorem d10_33 : decode jdk_33_method_48_code 33 = .ok (.istore_n 0, 1) := by decide +kernel
theorem d10_34 : decode jdk_33_method_48_code 34 = .ok (.iload_n 0, 1) := by decide +kernel
theorem d10_35 : decode jdk_33_method_48_code 35 = .ok (.sipush 256, 3) := by decide +kernel
theorem d10_38 : decode jdk_33_method_48_code 38 = .ok (.if_icmp .le 11, 3) := by decide +kernel
theorem d10_41 : decode jdk_33_method_48_code 41 = .ok (.iinc 1 8, 3) := by decide +kernel
theorem d10_44 : decode jdk_33_method_48_code 44 = .ok (.iload_n 0, 1) := by decide +kernel
theorem d10_45 : decode jdk_33_method_48_code 45 = .ok (.bipush 8, 2) := by decide +kernel
theorem d10_47 : decode jdk_33_method_48_code 47 = .ok (.iushr, 1) := by decide +kernel
theorem d10_48 : decode jdk_33_method_48_code 48 = .ok (.istore_n 0, 1) := by decide +kernel
theorem d10_49 : decode jdk_33_method_48_code 49 = .ok (.iload_n 0, 1) := by decide +kernel
theorem d10_50 : decode jdk_33_method_48_code 50 = .ok (.bipush 16, 2) := by decide +kernel
theorem d10_52 : decode jdk_33_method_48_code 52 = .ok (.if_icmp .le 10, 3) := by decide +kernel
theorem d10_55 : decode jdk_33_method_48_code 55 = .ok (.iinc 1 4, 3) := by decide +kernel
theorem d10_58 : decode jdk_33_method_48_code 58 = .ok (.iload_n 0, 1) := by decide +kernel
theorem d10_59 : decode jdk_33_method_48_code 59 = .ok (.iconst 4, 1) := by decide +kernel
theorem d10_60 : decode jdk_33_method_48_code 60 = .ok (.iushr, 1) := by decide +kernel
theorem d10_61 : decode jdk_33_method_48_code 61 = .ok (.istore_n 0, 1) := by decide +kernel
theorem d10_62 : decode jdk_33_method_48_code 62 = .ok (.iload_n 0, 1) := by decide +kernel
theorem d10_63 : decode jdk_33_method_48_code 63 = .ok (.iconst 4, 1) := by decide +kernel
theorem d10_64 : decode jdk_33_method_48_code 64 = .ok (.if_icmp .le 10, 3) := by decide +kernel
theorem d10_67 : decode jdk_33_method_48_code 67 = .ok (.iinc 1 2, 3) := by decide +kernel
theorem d10_70 : decode jdk_33_method_48_code 70 = .ok (.iload_n 0, 1) := by decide +kernel
theorem d10_71 : decode jdk_33_method_48_code 71 = .ok (.iconst 2, 1) := by decide +kernel
theorem d10_72 : decode jdk_33_method_48_code 72 = .ok (.iushr, 1) := by decide +kernel
theorem d10_73 : decode jdk_33_method_48_code 73 = .ok (.istore_n 0, 1) := by decide +kernel
theorem d10_74 : decode jdk_33_method_48_code 74 = .ok (.iload_n 1, 1) := by decide +kernel
theorem d10_75 : decode jdk_33_method_48_code 75 = .ok (.iload_n 0, 1) := by decide +kernel
theorem d10_76 : decode jdk_33_method_48_code 76 = .ok (.iconst 1, 1) := by decide +kernel
theorem d10_77 : decode jdk_33_method_48_code 77 = .ok (.iushr, 1) := by decide +kernel
theorem d10_78 : decode jdk_33_method_48_code 78 = .ok (.iadd, 1) := by decide +kernel
theorem d10_79 : decode jdk_33_method_48_code 79 = .ok (.ireturn, 1) := by decide +kernel
theorem pn_rm10 : plainName "java/lang/Integer" = true := by first | (simp [plainName, overriddenIn]; done) | decide +kernel
theorem ef_rm10 (m : MethodId) (p1 : Int32) : entryFrame m #[(.int p1)] 2 = mkF m 0 #[.val (.int p1), .unset] [] := by first | (simp [entryFrame, mkF, argsToLocals, Value.category]; done) | rfl
def Q10 (Z : State) (p1 : Int32) (h0 : Heap) (n0 : Nat) (v : Option Value) (h : Heap) (L : List Loc) : Prop := v = some (.int (ntzI p1)) ∧ L = [] ∧ h = h0
set_option maxRecDepth 65536 in
set_option maxHeartbeats 40000000 in
theorem rm10 (l : Launch) (Z : State) (a0 : Array Value) (hw : ∀ d ∈ tables_1, d.before a0 Z = true) (ws : List Jvm.Cond) (p1 : Int32) (h0 : Heap) (n0 : Nat) (Z0 : n0 ≤ h0.size) :
    Con l Z (⟨"java/lang/Integer", "numberOfTrailingZeros", "(I)I"⟩ : MethodName) jdk_33_method_48_code 2 (some .int) ws ({ frames := 0, cells := 0, slots := 0, locals := 0 } : Room) #[(.int p1)] h0 (Q10 Z p1 h0 n0) := by
  refine Con.of (plainFor_of_name pn_rm10) ?_
  intro p e s m below meth c s₁ hZ e0 X0 hx hby hml hown hnm hret hlk
  replace hml : c.maxLocals = 2 := hml
  have hown : s.vm.findClass "java/lang/Integer" = some m.cls := hown
  have N0 : Fr n0 [] := Fr.nil n0
  obtain ⟨PP, hPP⟩ : ∃ P, P = Fine s below (Q10 Z p1 h0 n0) ({ frames := 0, cells := 0, slots := 0, locals := 0 } : Room).cells ({ frames := 0, cells := 0, slots := 0, locals := 0 } : Room).slots := ⟨_, rfl⟩
  rw [← hPP]
  refine Go.cast (ef_rm10 m p1) ?_
  have Zn : n0 ≤ h0.size := Z0
  show Go p.tables e below PP (s₁.setTop (mkF m 0 #[.val (.int p1), .unset] []))
  refine Go.st (fun t k => XS.iloadN X0.here hx rfl (hb hby d10_0) rfl k) ?_
  show Go p.tables e below PP (s₁.setTop (mkF m 1 #[.val (.int p1), .unset] [(.int p1)]))
  refine Go.st (fun t k => XS.iconst X0.here hx rfl (hb hby d10_1) k) ?_
  show Go p.tables e below PP (s₁.setTop (mkF m 2 #[.val (.int p1), .unset] [(.int (-1 : Int32)), (.int p1)]))
  refine Go.st (fun t k => XS.ixor X0.here hx rfl (hb hby d10_2) rfl k) ?_
  show Go p.tables e below PP (s₁.setTop (mkF m 3 #[.val (.int p1), .unset] [(.int (p1 ^^^ (-1 : Int32)))]))
  refine Go.st (fun t k => XS.iloadN X0.here hx rfl (hb hby d10_3) rfl k) ?_
  show Go p.tables e below PP (s₁.setTop (mkF m 4 #[.val (.int p1), .unset] [(.int p1), (.int (p1 ^^^ (-1 : Int32)))]))
  refine Go.st (fun t k => XS.iconst X0.here hx rfl (hb hby d10_4) k) ?_
  show Go p.tables e below PP (s₁.setTop (mkF m 5 #[.val (.int p1), .unset] [(.int (1 : Int32)), (.int p1), (.int (p1 ^^^ (-1 : Int32)))]))
  refine Go.st (fun t k => XS.isub X0.here hx rfl (hb hby d10_5) rfl k) ?_
  show Go p.tables e below PP (s₁.setTop (mkF m 6 #[.val (.int p1), .unset] [(.int (p1 - (1 : Int32))), (.int (p1 ^^^ (-1 : Int32)))]))
  refine Go.st (fun t k => XS.iand X0.here hx rfl (hb hby d10_6) rfl k) ?_
  show Go p.tables e below PP (s₁.setTop (mkF m 7 #[.val (.int p1), .unset] [(.int ((p1 ^^^ (-1 : Int32)) &&& (p1 - (1 : Int32))))]))
  refine Go.st (fun t k => XS.istoreN X0.here hx rfl (hb hby d10_7) rfl (l' := #[.val (.int ((p1 ^^^ (-1 : Int32)) &&& (p1 - (1 : Int32)))), .unset]) rfl k) ?_
  show Go p.tables e below PP (s₁.setTop (mkF m 8 #[.val (.int ((p1 ^^^ (-1 : Int32)) &&& (p1 - (1 : Int32)))), .unset] []))
  refine Go.st (fun t k => XS.iloadN X0.here hx rfl (hb hby d10_8) rfl k) ?_
  show Go p.tables e below PP (s₁.setTop (mkF m 9 #[.val (.int ((p1 ^^^ (-1 : Int32)) &&& (p1 - (1 : Int32)))), .unset] [(.int ((p1 ^^^ (-1 : Int32)) &&& (p1 - (1 : Int32))))]))
  by_cases hc9 : (0 : Int32) < ((p1 ^^^ (-1 : Int32)) &&& (p1 - (1 : Int32)))
  · --
    refine Go.st (fun t k => XS.ifYes X0.here hx rfl (pc0 := 9) (pc' := 17) rfl (hb hby d10_9) rfl (XT.i0_gt_t hc9) (by decide) (by decide) k) ?_
    show Go p.tables e below PP (s₁.setTop (mkF m 17 #[.val (.int ((p1 ^^^ (-1 : Int32)) &&& (p1 - (1 : Int32)))), .unset] []))
    refine Go.st (fun t k => XS.iconst X0.here hx rfl (hb hby d10_17) k) ?_
    show Go p.tables e below PP (s₁.setTop (mkF m 18 #[.val (.int ((p1 ^^^ (-1 : Int32)) &&& (p1 - (1 : Int32)))), .unset] [(.int (1 : Int32))]))
    refine Go.st (fun t k => XS.istoreN X0.here hx rfl (hb hby d10_18) rfl (l' := #[.val (.int ((p1 ^^^ (-1 : Int32)) &&& (p1 - (1 : Int32)))), .val (.int (1 : Int32))]) rfl k) ?_
    show Go p.tables e below PP (s₁.setTop (mkF m 19 #[.val (.int ((p1 ^^^ (-1 : Int32)) &&& (p1 - (1 : Int32)))), .val (.int (1 : Int32))] []))
    refine Go.st (fun t k => XS.iloadN X0.here hx rfl (hb hby d10_19) rfl k) ?_
    show Go p.tables e below PP (s₁.setTop (mkF m 20 #[.val (.int ((p1 ^^^ (-1 : Int32)) &&& (p1 - (1 : Int32)))), .val (.int (1 : Int32))] [(.int ((p1 ^^^ (-1 : Int32)) &&& (p1 - (1 : Int32))))]))
    refine Go.st (fun t k => X0.ldcWI hx hown (mvT hZ (hw _ (List.mem_of_getElem? (i := 56) rfl))) (g := (mkF m 20 #[.val (.int ((p1 ^^^ (-1 : Int32)) &&& (p1 - (1 : Int32)))), .val (.int (1 : Int32))] [(.int ((p1 ^^^ (-1 : Int32)) &&& (p1 - (1 : Int32))))])) rfl (hb hby d10_20) k) ?_
    show Go p.tables e below PP (s₁.setTop (mkF m 23 #[.val (.int ((p1 ^^^ (-1 : Int32)) &&& (p1 - (1 : Int32)))), .val (.int (1 : Int32))] [(.int (65536 : Int32)), (.int ((p1 ^^^ (-1 : Int32)) &&& (p1 - (1 : Int32))))]))
    by_cases hc23 : (65536 : Int32) < ((p1 ^^^ (-1 : Int32)) &&& (p1 - (1 : Int32)))
    · --
      refine Go.st (fun t k => XS.icmpNo X0.here hx rfl (hb hby d10_23) rfl (XT.ii_le_f hc23) k) ?_
      show Go p.tables e below PP (s₁.setTop (mkF m 26 #[.val (.int ((p1 ^^^ (-1 : Int32)) &&& (p1 - (1 : Int32)))), .val (.int (1 : Int32))] []))
      refine Go.st (fun t k => XS.iinc X0.here hx rfl (hb hby d10_26) rfl (l' := #[.val (.int ((p1 ^^^ (-1 : Int32)) &&& (p1 - (1 : Int32)))), .val (.int (17 : Int32))]) rfl k) ?_
      show Go p.tables e below PP (s₁.setTop (mkF m 29 #[.val (.int ((p1 ^^^ (-1 : Int32)) &&& (p1 - (1 : Int32)))), .val (.int (17 : Int32))] []))
      refine Go.st (fun t k => XS.iloadN X0.here hx rfl (hb hby d10_29) rfl k) ?_
      show Go p.tables e below PP (s₁.setTop (mkF m 30 #[.val (.int ((p1 ^^^ (-1 : Int32)) &&& (p1 - (1 : Int32)))), .val (.int (17 : Int32))] [(.int ((p1 ^^^ (-1 : Int32)) &&& (p1 - (1 : Int32))))]))
      refine Go.st (fun t k => XS.bipush X0.here hx rfl (hb hby d10_30) k) ?_
      show Go p.tables e below PP (s₁.setTop (mkF m 32 #[.val (.int ((p1 ^^^ (-1 : Int32)) &&& (p1 - (1 : Int32)))), .val (.int (17 : Int32))] [(.int (16 : Int32)), (.int ((p1 ^^^ (-1 : Int32)) &&& (p1 - (1 : Int32))))]))
      refine Go.st (fun t k => XS.iushr X0.here hx rfl (hb hby d10_32) rfl k) ?_
      show Go p.tables e below PP (s₁.setTop (mkF m 33 #[.val (.int ((p1 ^^^ (-1 : Int32)) &&& (p1 - (1 : Int32)))), .val (.int (17 : Int32))] [(.int ((((p1 ^^^ (-1 : Int32)) &&& (p1 - (1 : Int32))).toUInt32 >>> ((16 : Int32) &&& 31).toUInt32).toInt32))]))
      refine Go.st (fun t k => XS.istoreN X0.here hx rfl (hb hby d10_33) rfl (l' := #[.val (.int ((((p1 ^^^ (-1 : Int32)) &&& (p1 - (1 : Int32))).toUInt32 >>> ((16 : Int32) &&& 31).toUInt32).toInt32)), .val (.int (17 : Int32))]) rfl k) ?_
      show Go p.tables e below PP (s₁.setTop (mkF m 34 #[.val (.int ((((p1 ^^^ (-1 : Int32)) &&& (p1 - (1 : Int32))).toUInt32 >>> ((16 : Int32) &&& 31).toUInt32).toInt32)), .val (.int (17 : Int32))] []))
      refine Go.st (fun t k => XS.iloadN X0.here hx rfl (hb hby d10_34) rfl k) ?_
      show Go p.tables e below PP (s₁.setTop (mkF m 35 #[.val (.int ((((p1 ^^^ (-1 : Int32)) &&& (p1 - (1 : Int32))).toUInt32 >>> ((16 : Int32) &&& 31).toUInt32).toInt32)), .val (.int (17 : Int32))] [(.int ((((p1 ^^^ (-1 : Int32)) &&& (p1 - (1 : Int32))).toUInt32 >>> ((16 : Int32) &&& 31).toUInt32).toInt32))]))
      refine Go.st (fun t k => XS.sipush X0.here hx rfl (hb hby d10_35) k) ?_
      show Go p.tables e below PP (s₁.setTop (mkF m 38 #[.val (.int ((((p1 ^^^ (-1 : Int32)) &&& (p1 - (1 : Int32))).toUInt32 >>> ((16 : Int32) &&& 31).toUInt32).toInt32)), .val (.int (17 : Int32))] [(.int (256 : Int32)), (.int ((((p1 ^^^ (-1 : Int32)) &&& (p1 - (1 : Int32))).toUInt32 >>> ((16 : Int32) &&& 31).toUInt32).toInt32))]))
      by_cases hc38 : (256 : Int32) < ((((p1 ^^^ (-1 : Int32)) &&& (p1 - (1 : Int32))).toUInt32 >>> ((16 : Int32) &&& 31).toUInt32).toInt32)
      · --
        refine Go.st (fun t k => XS.icmpNo X0.here hx rfl (hb hby d10_38) rfl (XT.ii_le_f hc38) k) ?_
        show Go p.tables e below PP (s₁.setTop (mkF m 41 #[.val (.int ((((p1 ^^^ (-1 : Int32)) &&& (p1 - (1 : Int32))).toUInt32 >>> ((16 : Int32) &&& 31).toUInt32).toInt32)), .val (.int (17 : Int32))] []))
        refine Go.st (fun t k => XS.iinc X0.here hx rfl (hb hby d10_41) rfl (l' := #[.val (.int ((((p1 ^^^ (-1 : Int32)) &&& (p1 - (1 : Int32))).toUInt32 >>> ((16 : Int32) &&& 31).toUInt32).toInt32)), .val (.int (25 : Int32))]) rfl k) ?_
        show Go p.tables e below PP (s₁.setTop (mkF m 44 #[.val (.int ((((p1 ^^^ (-1 : Int32)) &&& (p1 - (1 : Int32))).toUInt32 >>> ((16 : Int32) &&& 31).toUInt32).toInt32)), .val (.int (25 : Int32))] []))
        refine Go.st (fun t k => XS.iloadN X0.here hx rfl (hb hby d10_44) rfl k) ?_
        show Go p.tables e below PP (s₁.setTop (mkF m 45 #[.val (.int ((((p1 ^^^ (-1 : Int32)) &&& (p1 - (1 : Int32))).toUInt32 >>> ((16 : Int32) &&& 31).toUInt32).toInt32)), .val (.int (25 : Int32))] [(.int ((((p1 ^^^ (-1 : Int32)) &&& (p1 - (1 : Int32))).toUInt32 >>> ((16 : Int32) &&& 31).toUInt32).toInt32))]))
        refine Go.st (fun t k => XS.bipush X0.here hx rfl (hb hby d10_45) k) ?_
        show Go p.tables e below PP (s₁.setTop (mkF m 47 #[.val (.int ((((p1 ^^^ (-1 : Int32)) &&& (p1 - (1 : Int32))).toUInt32 >>> ((16 : Int32) &&& 31).toUInt32).toInt32)), .val (.int (25 : Int32))] [(.int (8 : Int32)), (.int ((((p1 ^^^ (-1 : Int32)) &&& (p1 - (1 : Int32))).toUInt32 >>> ((16 : Int32) &&& 31).toUInt32).toInt32))]))
        refine Go.st (fun t k => XS.iushr X0.here hx rfl (hb hby d10_47) rfl k) ?_
        show Go p.tables e below PP (s₁.setTop (mkF m 48 #[.val (.int ((((p1 ^^^ (-1 : Int32)) &&& (p1 - (1 : Int32))).toUInt32 >>> ((16 : Int32) &&& 31).toUInt32).toInt32)), .val (.int (25 : Int32))] [(.int ((((((p1 ^^^ (-1 : Int32)) &&& (p1 - (1 : Int32))).toUInt32 >>> ((16 : Int32) &&& 31).toUInt32).toInt32).toUInt32 >>> ((8 : Int32) &&& 31).toUInt32).toInt32))]))
        refine Go.st (fun t k => XS.istoreN X0.here hx rfl (hb hby d10_48) rfl (l' := #[.val (.int ((((((p1 ^^^ (-1 : Int32)) &&& (p1 - (1 : Int32))).toUInt32 >>> ((16 : Int32) &&& 31).toUInt32).toInt32).toUInt32 >>> ((8 : Int32) &&& 31).toUInt32).toInt32)), .val (.int (25 : Int32))]) rfl k) ?_
        show Go p.tables e below PP (s₁.setTop (mkF m 49 #[.val (.int ((((((p1 ^^^ (-1 : Int32)) &&& (p1 - (1 : Int32))).toUInt32 >>> ((16 : Int32) &&& 31).toUInt32).toInt32).toUInt32 >>> ((8 : Int32) &&& 31).toUInt32).toInt32)), .val (.int (25 : Int32))] []))
        refine Go.st (fun t k => XS.iloadN X0.here hx rfl (hb hby d10_49) rfl k) ?_
        show Go p.tables e below PP (s₁.setTop (mkF m 50 #[.val (.int ((((((p1 ^^^ (-1 : Int32)) &&& (p1 - (1 : Int32))).toUInt32 >>> ((16 : Int32) &&& 31).toUInt32).toInt32).toUInt32 >>> ((8 : Int32) &&& 31).toUInt32).toInt32)), .val (.int (25 : Int32))] [(.int ((((((p1 ^^^ (-1 : Int32)) &&& (p1 - (1 : Int32))).toUInt32 >>> ((16 : Int32) &&& 31).toUInt32).toInt32).toUInt32 >>> ((8 : Int32) &&& 31).toUInt32).toInt32))]))
        refine Go.st (fun t k => XS.bipush X0.here hx rfl (hb hby d10_50) k) ?_
        show Go p.tables e below PP (s₁.setTop (mkF m 52 #[.val (.int ((((((p1 ^^^ (-1 : Int32)) &&& (p1 - (1 : Int32))).toUInt32 >>> ((16 : Int32) &&& 31).toUInt32).toInt32).toUInt32 >>> ((8 : Int32) &&& 31).toUInt32).toInt32)), .val (.int (25 : Int32))] [(.int (16 : Int32)), (.int ((((((p1 ^^^ (-1 : Int32)) &&& (p1 - (1 : Int32))).toUInt32 >>> ((16 : Int32) &&& 31).toUInt32).toInt32).toUInt32 >>> ((8 : Int32) &&& 31).toUInt32).toInt32))]))
        by_cases hc52 : (16 : Int32) < ((((((p1 ^^^ (-1 : Int32)) &&& (p1 - (1 : Int32))).toUInt32 >>> ((16 : Int32) &&& 31).toUInt32).toInt32).toUInt32 >>> ((8 : Int32) &&& 31).toUInt32).toInt32)
        · --
          refine Go.st (fun t k => XS.icmpNo X0.here hx rfl (hb hby d10_52) rfl (XT.ii_le_f hc52) k) ?_
          show Go p.tables e below PP (s₁.setTop (mkF m 55 #[.val (.int ((((((p1 ^^^ (-1 : Int32)) &&& (p1 - (1 : Int32))).toUInt32 >>> ((16 : Int32) &&& 31).toUInt32).toInt32).toUInt32 >>> ((8 : Int32) &&& 31).toUInt32).toInt32)), .val (.int (25 : Int32))] []))
          refine Go.st (fun t k => XS.iinc X0.here hx rfl (hb hby d10_55) rfl (l' := #[.val (.int ((((((p1 ^^^ (-1 : Int32)) &&& (p1 - (1 : Int32))).toUInt32 >>> ((16 : Int32) &&& 31).toUInt32).toInt32).toUInt32 >>> ((8 : Int32) &&& 31).toUInt32).toInt32)), .val (.int (29 : Int32))]) rfl k) ?_
          show Go p.tables e below PP (s₁.setTop (mkF m 58 #[.val (.int ((((((p1 ^^^ (-1 : Int32)) &&& (p1 - (1 : Int32))).toUInt32 >>> ((16 : Int32) &&& 31).toUInt32).toInt32).toUInt32 >>> ((8 : Int32) &&& 31).toUInt32).toInt32)), .val (.int (29 : Int32))] []))
          refine Go.st (fun t k => XS.iloadN X0.here hx rfl (hb hby d10_58) rfl k) ?_
          show Go p.tables e below PP (s₁.setTop (mkF m 59 #[.val (.int ((((((p1 ^^^ (-1 : Int32)) &&& (p1 - (1 : Int32))).toUInt32 >>> ((16 : Int32) &&& 31).toUInt32).toInt32).toUInt32 >>> ((8 : Int32) &&& 31).toUInt32).toInt32)), .val (.int (29 : Int32))] [(.int ((((((p1 ^^^ (-1 : Int32)) &&& (p1 - (1 : Int32))).toUInt32 >>> ((16 : Int32) &&& 31).toUInt32).toInt32).toUInt32 >>> ((8 : Int32) &&& 31).toUInt32).toInt32))]))
          refine Go.st (fun t k => XS.iconst X0.here hx rfl (hb hby d10_59) k) ?_
          show Go p.tables e below PP (s₁.setTop (mkF m 60 #[.val (.int ((((((p1 ^^^ (-1 : Int32)) &&& (p1 - (1 : Int32))).toUInt32 >>> ((16 : Int32) &&& 31).toUInt32).toInt32).toUInt32 >>> ((8 : Int32) &&& 31).toUInt32).toInt32)), .val (.int (29 : Int32))] [(.int (4 : Int32)), (.int ((((((p1 ^^^ (-1 : Int32)) &&& (p1 - (1 : Int32))).toUInt32 >>> ((16 : Int32) &&& 31).toUInt32).toInt32).toUInt32 >>> ((8 : Int32) &&& 31).toUInt32).toInt32))]))
          refine Go.st (fun t k => XS.iushr X0.here hx rfl (hb hby d10_60) rfl k) ?_
          show Go p.tables e below PP (s₁.setTop (mkF m 61 #[.val (.int ((((((p1 ^^^ (-1 : Int32)) &&& (p1 - (1 : Int32))).toUInt32 >>> ((16 : Int32) &&& 31).toUInt32).toInt32).toUInt32 >>> ((8 : Int32) &&& 31).toUInt32).toInt32)), .val (.int (29 : Int32))] [(.int ((((((((p1 ^^^ (-1 : Int32)) &&& (p1 - (1 : Int32))).toUInt32 >>> ((16 : Int32) &&& 31).toUInt32).toInt32).toUInt32 >>> ((8 : Int32) &&& 31).toUInt32).toInt32).toUInt32 >>> ((4 : Int32) &&& 31).toUInt32).toInt32))]))
          refine Go.st (fun t k => XS.istoreN X0.here hx rfl (hb hby d10_61) rfl (l' := #[.val (.int ((((((((p1 ^^^ (-1 : Int32)) &&& (p1 - (1 : Int32))).toUInt32 >>> ((16 : Int32) &&& 31).toUInt32).toInt32).toUInt32 >>> ((8 : Int32) &&& 31).toUInt32).toInt32).toUInt32 >>> ((4 : Int32) &&& 31).toUInt32).toInt32)), .val (.int (29 : Int32))]) rfl k) ?_
          show Go p.tables e below PP (s₁.setTop (mkF m 62 #[.val (.int ((((((((p1 ^^^ (-1 : Int32)) &&& (p1 - (1 : Int32))).toUInt32 >>> ((16 : Int32) &&& 31).toUInt32).toInt32).toUInt32 >>> ((8 : Int32) &&& 31).toUInt32).toInt32).toUInt32 >>> ((4 : Int32) &&& 31).toUInt32).toInt32)), .val (.int (29 : Int32))] []))
          refine Go.st (fun t k => XS.iloadN X0.here hx rfl (hb hby d10_62) rfl k) ?_
          show Go p.tables e below PP (s₁.setTop (mkF m 63 #[.val (.int ((((((((p1 ^^^ (-1 : Int32)) &&& (p1 - (1 : Int32))).toUInt32 >>> ((16 : Int32) &&& 31).toUInt32).toInt32).toUInt32 >>> ((8 : Int32) &&& 31).toUInt32).toInt32).toUInt32 >>> ((4 : Int32) &&& 31).toUInt32).toInt32)), .val (.int (29 : Int32))] [(.int ((((((((p1 ^^^ (-1 : Int32)) &&& (p1 - (1 : Int32))).toUInt32 >>> ((16 : Int32) &&& 31).toUInt32).toInt32).toUInt32 >>> ((8 : Int32) &&& 31).toUInt32).toInt32).toUInt32 >>> ((4 : Int32) &&& 31).toUInt32).toInt32))]))
          refine Go.st (fun t k => XS.iconst X0.here hx rfl (hb hby d10_63) k) ?_
          show Go p.tables e below PP (s₁.setTop (mkF m 64 #[.val (.int ((((((((p1 ^^^ (-1 : Int32)) &&& (p1 - (1 : Int32))).toUInt32 >>> ((16 : Int32) &&& 31).toUInt32).toInt32).toUInt32 >>> ((8 : Int32) &&& 31).toUInt32).toInt32).toUInt32 >>> ((4 : Int32) &&& 31).toUInt32).toInt32)), .val (.int (29 : Int32))] [(.int (4 : Int32)), (.int ((((((((p1 ^^^ (-1 : Int32)) &&& (p1 - (1 : Int32))).toUInt32 >>> ((16 : Int32) &&& 31).toUInt32).toInt32).toUInt32 >>> ((8 : Int32) &&& 31).toUInt32).toInt32).toUInt32 >>> ((4 : Int32) &&& 31).toUInt32).toInt32))]))
          by_cases hc64 : (4 : Int32) < ((((((((p1 ^^^ (-1 : Int32)) &&& (p1 - (1 : Int32))).toUInt32 >>> ((16 : Int32) &&& 31).toUInt32).toInt32).toUInt32 >>> ((8 : Int32) &&& 31).toUInt32).toInt32).toUInt32 >>> ((4 : Int32) &&& 31).toUInt32).toInt32)
          · --
            refine Go.st (fun t k => XS.icmpNo X0.here hx rfl (hb hby d10_64) rfl (XT.ii_le_f hc64) k) ?_
            show Go p.tables e below PP (s₁.setTop (mkF m 67 #[.val (.int ((((((((p1 ^^^ (-1 : Int32)) &&& (p1 - (1 : Int32))).toUInt32 >>> ((16 : Int32) &&& 31).toUInt32).toInt32).toUInt32 >>> ((8 : Int32) &&& 31).toUInt32).toInt32).toUInt32 >>> ((4 : Int32) &&& 31).toUInt32).toInt32)), .val (.int (29 : Int32))] []))
            refine Go.st (fun t k => XS.iinc X0.here hx rfl (hb hby d10_67) rfl (l' := #[.val (.int ((((((((p1 ^^^ (-1 : Int32)) &&& (p1 - (1 : Int32))).toUInt32 >>> ((16 : Int32) &&& 31).toUInt32).toInt32).toUInt32 >>> ((8 : Int32) &&& 31).toUInt32).toInt32).toUInt32 >>> ((4 : Int32) &&& 31).toUInt32).toInt32)), .val (.int (31 : Int32))]) rfl k) ?_
            show Go p.tables e below PP (s₁.setTop (mkF m 70 #[.val (.int ((((((((p1 ^^^ (-1 : Int32)) &&& (p1 - (1 : Int32))).toUInt32 >>> ((16 : Int32) &&& 31).toUInt32).toInt32).toUInt32 >>> ((8 : Int32) &&& 31).toUInt32).toInt32).toUInt32 >>> ((4 : Int32) &&& 31).toUInt32).toInt32)), .val (.int (31 : Int32))] []))
            refine Go.st (fun t k => XS.iloadN X0.here hx rfl (hb hby d10_70) rfl k) ?_
            show Go p.tables e below PP (s₁.setTop (mkF m 71 #[.val (.int ((((((((p1 ^^^ (-1 : Int32)) &&& (p1 - (1 : Int32))).toUInt32 >>> ((16 : Int32) &&& 31).toUInt32).toInt32).toUInt32 >>> ((8 : Int32) &&& 31).toUInt32).toInt32).toUInt32 >>> ((4 : Int32) &&& 31).toUInt32).toInt32)), .val (.int (31 : Int32))] [(.int ((((((((p1 ^^^ (-1 : Int32)) &&& (p1 - (1 : Int32))).toUInt32 >>> ((16 : Int32) &&& 31).toUInt32).toInt32).toUInt32 >>> ((8 : Int32) &&& 31).toUInt32).toInt32).toUInt32 >>> ((4 : Int32) &&& 31).toUInt32).toInt32))]))
            refine Go.st (fun t k => XS.iconst X0.here hx rfl (hb hby d10_71) k) ?_
            show Go p.tables e below PP (s₁.setTop (mkF m 72 #[.val (.int ((((((((p1 ^^^ (-1 : Int32)) &&& (p1 - (1 : Int32))).toUInt32 >>> ((16 : Int32) &&& 31).toUInt32).toInt32).toUInt32 >>> ((8 : Int32) &&& 31).toUInt32).toInt32).toUInt32 >>> ((4 : Int32) &&& 31).toUInt32).toInt32)), .val (.int (31 : Int32))] [(.int (2 : Int32)), (.int ((((((((p1 ^^^ (-1 : Int32)) &&& (p1 - (1 : Int32))).toUInt32 >>> ((16 : Int32) &&& 31).toUInt32).toInt32).toUInt32 >>> ((8 : Int32) &&& 31).toUInt32).toInt32).toUInt32 >>> ((4 : Int32) &&& 31).toUInt32).toInt32))]))
            refine Go.st (fun t k => XS.iushr X0.here hx rfl (hb hby d10_72) rfl k) ?_
            show Go p.tables e below PP (s₁.setTop (mkF m 73 #[.val (.int ((((((((p1 ^^^ (-1 : Int32)) &&& (p1 - (1 : Int32))).toUInt32 >>> ((16 : Int32) &&& 31).toUInt32).toInt32).toUInt32 >>> ((8 : Int32) &&& 31).toUInt32).toInt32).toUInt32 >>> ((4 : Int32) &&& 31).toUInt32).toInt32)), .val (.int (31 : Int32))] [(.int ((((((((((p1 ^^^ (-1 : Int32)) &&& (p1 - (1 : Int32))).toUInt32 >>> ((16 : Int32) &&& 31).toUInt32).toInt32).toUInt32 >>> ((8 : Int32) &&& 31).toUInt32).toInt32).toUInt32 >>> ((4 : Int32) &&& 31).toUInt32).toInt32).toUInt32 >>> ((2 : Int32) &&& 31).toUInt32).toInt32))]))
            refine Go.st (fun t k => XS.istoreN X0.here hx rfl (hb hby d10_73) rfl (l' := #[.val (.int ((((((((((p1 ^^^ (-1 : Int32)) &&& (p1 - (1 : Int32))).toUInt32 >>> ((16 : Int32) &&& 31).toUInt32).toInt32).toUInt32 >>> ((8 : Int32) &&& 31).toUInt32).toInt32).toUInt32 >>> ((4 : Int32) &&& 31).toUInt32).toInt32).toUInt32 >>> ((2 : Int32) &&& 31).toUInt32).toInt32)), .val (.int (31 : Int32))]) rfl k) ?_
            show Go p.tables e below PP (s₁.setTop (mkF m 74 #[.val (.int ((((((((((p1 ^^^ (-1 : Int32)) &&& (p1 - (1 : Int32))).toUInt32 >>> ((16 : Int32) &&& 31).toUInt32).toInt32).toUInt32 >>> ((8 : Int32) &&& 31).toUInt32).toInt32).toUInt32 >>> ((4 : Int32) &&& 31).toUInt32).toInt32).toUInt32 >>> ((2 : Int32) &&& 31).toUInt32).toInt32)), .val (.int (31 : Int32))] []))
            refine Go.st (fun t k => XS.iloadN X0.here hx rfl (hb hby d10_74) rfl k) ?_
            show Go p.tables e below PP (s₁.setTop (mkF m 75 #[.val (.int ((((((((((p1 ^^^ (-1 : Int32)) &&& (p1 - (1 : Int32))).toUInt32 >>> ((16 : Int32) &&& 31).toUInt32).toInt32).toUInt32 >>> ((8 : Int32) &&& 31).toUInt32).toInt32).toUInt32 >>> ((4 : Int32) &&& 31).toUInt32).toInt32).toUInt32 >>> ((2 : Int32) &&& 31).toUInt32).toInt32)), .val (.int (31 : Int32))] [(.int (31 : Int32))]))
            refine Go.st (fun t k => XS.iloadN X0.here hx rfl (hb hby d10_75) rfl k) ?_
            show Go p.tables e below PP (s₁.setTop (mkF m 76 #[.val (.int ((((((((((p1 ^^^ (-1 : Int32)) &&& (p1 - (1 : Int32))).toUInt32 >>> ((16 : Int32) &&& 31).toUInt32).toInt32).toUInt32 >>> ((8 : Int32) &&& 31).toUInt32).toInt32).toUInt32 >>> ((4 : Int32) &&& 31).toUInt32).toInt32).toUInt32 >>> ((2 : Int32) &&& 31).toUInt32).toInt32)), .val (.int (31 : Int32))] [(.int ((((((((((p1 ^^^ (-1 : Int32)) &&& (p1 - (1 : Int32))).toUInt32 >>> ((16 : Int32) &&& 31).toUInt32).toInt32).toUInt32 >>> ((8 : Int32) &&& 31).toUInt32).toInt32).toUInt32 >>> ((4 : Int32) &&& 31).toUInt32).toInt32).toUInt32 >>> ((2 : Int32) &&& 31).toUInt32).toInt32)), (.int (31 : Int32))]))
            refine Go.st (fun t k => XS.iconst X0.here hx rfl (hb hby d10_76) k) ?_
            show Go p.tables e below PP (s₁.setTop (mkF m 77 #[.val (.int ((((((((((p1 ^^^ (-1 : Int32)) &&& (p1 - (1 : Int32))).toUInt32 >>> ((16 : Int32) &&& 31).toUInt32).toInt32).toUInt32 >>> ((8 : Int32) &&& 31).toUInt32).toInt32).toUInt32 >>> ((4 : Int32) &&& 31).toUInt32).toInt32).toUInt32 >>> ((2 : Int32) &&& 31).toUInt32).toInt32)), .val (.int (31 : Int32))] [(.int (1 : Int32)), (.int ((((((((((p1 ^^^ (-1 : Int32)) &&& (p1 - (1 : Int32))).toUInt32 >>> ((16 : Int32) &&& 31).toUInt32).toInt32).toUInt32 >>> ((8 : Int32) &&& 31).toUInt32).toInt32).toUInt32 >>> ((4 : Int32) &&& 31).toUInt32).toInt32).toUInt32 >>> ((2 : Int32) &&& 31).toUInt32).toInt32)), (.int (31 : Int32))]))
            refine Go.st (fun t k => XS.iushr X0.here hx rfl (hb hby d10_77) rfl k) ?_
            show Go p.tables e below PP (s₁.setTop (mkF m 78 #[.val (.int ((((((((((p1 ^^^ (-1 : Int32)) &&& (p1 - (1 : Int32))).toUInt32 >>> ((16 : Int32) &&& 31).toUInt32).toInt32).toUInt32 >>> ((8 : Int32) &&& 31).toUInt32).toInt32).toUInt32 >>> ((4 : Int32) &&& 31).toUInt32).toInt32).toUInt32 >>> ((2 : Int32) &&& 31).toUInt32).toInt32)), .val (.int (31 : Int32))] [(.int ((((((((((((p1 ^^^ (-1 : Int32)) &&& (p1 - (1 : Int32))).toUInt32 >>> ((16 : Int32) &&& 31).toUInt32).toInt32).toUInt32 >>> ((8 : Int32) &&& 31).toUInt32).toInt32).toUInt32 >>> ((4 : Int32) &&& 31).toUInt32).toInt32).toUInt32 >>> ((2 : Int32) &&& 31).toUInt32).toInt32).toUInt32 >>> ((1 : Int32) &&& 31).toUInt32).toInt32)), (.int (31 : Int32))]))
            refine Go.st (fun t k => XS.iadd X0.here hx rfl (hb hby d10_78) rfl k) ?_
            show Go p.tables e below PP (s₁.setTop (mkF m 79 #[.val (.int ((((((((((p1 ^^^ (-1 : Int32)) &&& (p1 - (1 : Int32))).toUInt32 >>> ((16 : Int32) &&& 31).toUInt32).toInt32).toUInt32 >>> ((8 : Int32) &&& 31).toUInt32).toInt32).toUInt32 >>> ((4 : Int32) &&& 31).toUInt32).toInt32).toUInt32 >>> ((2 : Int32) &&& 31).toUInt32).toInt32)), .val (.int (31 : Int32))] [(.int ((31 : Int32) + ((((((((((((p1 ^^^ (-1 : Int32)) &&& (p1 - (1 : Int32))).toUInt32 >>> ((16 : Int32) &&& 31).toUInt32).toInt32).toUInt32 >>> ((8 : Int32) &&& 31).toUInt32).toInt32).toUInt32 >>> ((4 : Int32) &&& 31).toUInt32).toInt32).toUInt32 >>> ((2 : Int32) &&& 31).toUInt32).toInt32).toUInt32 >>> ((1 : Int32) &&& 31).toUInt32).toInt32)))]))
            rw [hPP]
            refine endI X0 hx hlk hret (hb hby d10_79) ?_ (by decide) (by decide)
            show Q10 Z p1 h0 n0 (some (.int ((31 : Int32) + ((((((((((((p1 ^^^ (-1 : Int32)) &&& (p1 - (1 : Int32))).toUInt32 >>> ((16 : Int32) &&& 31).toUInt32).toInt32).toUInt32 >>> ((8 : Int32) &&& 31).toUInt32).toInt32).toUInt32 >>> ((4 : Int32) &&& 31).toUInt32).toInt32).toUInt32 >>> ((2 : Int32) &&& 31).toUInt32).toInt32).toUInt32 >>> ((1 : Int32) &&& 31).toUInt32).toInt32)))) s₁.heap _
            rw [e0]
            exact ⟨by simp only [ntzI, nzG, nz0_1, nz1_17, nz2_25, nz3_29, nz4_31, hc9, hc23, hc38, hc52, hc64, if_true, if_false], rfl, rfl⟩
          · --
            refine Go.st (fun t k => XS.icmpYes X0.here hx rfl (pc0 := 64) (pc' := 74) rfl (hb hby d10_64) rfl (XT.ii_le_t hc64) (by decide) (by decide) k) ?_
            show Go p.tables e below PP (s₁.setTop (mkF m 74 #[.val (.int ((((((((p1 ^^^ (-1 : Int32)) &&& (p1 - (1 : Int32))).toUInt32 >>> ((16 : Int32) &&& 31).toUInt32).toInt32).toUInt32 >>> ((8 : Int32) &&& 31).toUInt32).toInt32).toUInt32 >>> ((4 : Int32) &&& 31).toUInt32).toInt32)), .val (.int (29 : Int32))] []))
            refine Go.st (fun t k => XS.iloadN X0.here hx rfl (hb hby d10_74) rfl k) ?_
            show Go p.tables e below PP (s₁.setTop (mkF m 75 #[.val (.int ((((((((p1 ^^^ (-1 : Int32)) &&& (p1 - (1 : Int32))).toUInt32 >>> ((16 : Int32) &&& 31).toUInt32).toInt32).toUInt32 >>> ((8 : Int32) &&& 31).toUInt32).toInt32).toUInt32 >>> ((4 : Int32) &&& 31).toUInt32).toInt32)), .val (.int (29 : Int32))] [(.int (29 : Int32))]))
            refine Go.st (fun t k => XS.iloadN X0.here hx rfl (hb hby d10_75) rfl k) ?_
            show Go p.tables e below PP (s₁.setTop (mkF m 76 #[.val (.int ((((((((p1 ^^^ (-1 : Int32)) &&& (p1 - (1 : Int32))).toUInt32 >>> ((16 : Int32) &&& 31).toUInt32).toInt32).toUInt32 >>> ((8 : Int32) &&& 31).toUInt32).toInt32).toUInt32 >>> ((4 : Int32) &&& 31).toUInt32).toInt32)), .val (.int (29 : Int32))] [(.int ((((((((p1 ^^^ (-1 : Int32)) &&& (p1 - (1 : Int32))).toUInt32 >>> ((16 : Int32) &&& 31).toUInt32).toInt32).toUInt32 >>> ((8 : Int32) &&& 31).toUInt32).toInt32).toUInt32 >>> ((4 : Int32) &&& 31).toUInt32).toInt32)), (.int (29 : Int32))]))
            refine Go.st (fun t k => XS.iconst X0.here hx rfl (hb hby d10_76) k) ?_
            show Go p.tables e below PP (s₁.setTop (mkF m 77 #[.val (.int ((((((((p1 ^^^ (-1 : Int32)) &&& (p1 - (1 : Int32))).toUInt32 >>> ((16 : Int32) &&& 31).toUInt32).toInt32).toUInt32 >>> ((8 : Int32) &&& 31).toUInt32).toInt32).toUInt32 >>> ((4 : Int32) &&& 31).toUInt32).toInt32)), .val (.int (29 : Int32))] [(.int (1 : Int32)), (.int ((((((((p1 ^^^ (-1 : Int32)) &&& (p1 - (1 : Int32))).toUInt32 >>> ((16 : Int32) &&& 31).toUInt32).toInt32).toUInt32 >>> ((8 : Int32) &&& 31).toUInt32).toInt32).toUInt32 >>> ((4 : Int32) &&& 31).toUInt32).toInt32)), (.int (29 : Int32))]))
            refine Go.st (fun t k => XS.iushr X0.here hx rfl (hb hby d10_77) rfl k) ?_
            show Go p.tables e below PP (s₁.setTop (mkF m 78 #[.val (.int ((((((((p1 ^^^ (-1 : Int32)) &&& (p1 - (1 : Int32))).toUInt32 >>> ((16 : Int32) &&& 31).toUInt32).toInt32).toUInt32 >>> ((8 : Int32) &&& 31).toUInt32).toInt32).toUInt32 >>> ((4 : Int32) &&& 31).toUInt32).toInt32)), .val (.int (29 : Int32))] [(.int ((((((((((p1 ^^^ (-1 : Int32)) &&& (p1 - (1 : Int32))).toUInt32 >>> ((16 : Int32) &&& 31).toUInt32).toInt32).toUInt32 >>> ((8 : Int32) &&& 31).toUInt32).toInt32).toUInt32 >>> ((4 : Int32) &&& 31).toUInt32).toInt32).toUInt32 >>> ((1 : Int32) &&& 31).toUInt32).toInt32)), (.int (29 : Int32))]))
            refine Go.st (fun t k => XS.iadd X0.here hx rfl (hb hby d10_78) rfl k) ?_
            show Go p.tables e below PP (s₁.setTop (mkF m 79 #[.val (.int ((((((((p1 ^^^ (-1 : Int32)) &&& (p1 - (1 : Int32))).toUInt32 >>> ((16 : Int32) &&& 31).toUInt32).toInt32).toUInt32 >>> ((8 : Int32) &&& 31).toUInt32).toInt32).toUInt32 >>> ((4 : Int32) &&& 31).toUInt32).toInt32)), .val (.int (29 : Int32))] [(.int ((29 : Int32) + ((((((((((p1 ^^^ (-1 : Int32)) &&& (p1 - (1 : Int32))).toUInt32 >>> ((16 : Int32) &&& 31).toUInt32).toInt32).toUInt32 >>> ((8 : Int32) &&& 31).toUInt32).toInt32).toUInt32 >>> ((4 : Int32) &&& 31).toUInt32).toInt32).toUInt32 >>> ((1 : Int32) &&& 31).toUInt32).toInt32)))]))
            rw [hPP]
            refine endI X0 hx hlk hret (hb hby d10_79) ?_ (by decide) (by decide)
            show Q10 Z p1 h0 n0 (some (.int ((29 : Int32) + ((((((((((p1 ^^^ (-1 : Int32)) &&& (p1 - (1 : Int32))).toUInt32 >>> ((16 : Int32) &&& 31).toUInt32).toInt32).toUInt32 >>> ((8 : Int32) &&& 31).toUInt32).toInt32).toUInt32 >>> ((4 : Int32) &&& 31).toUInt32).toInt32).toUInt32 >>> ((1 : Int32) &&& 31).toUInt32).toInt32)))) s₁.heap _
            rw [e0]
            exact ⟨by simp only [ntzI, nzG, nz0_1, nz1_17, nz2_25, nz3_29, nz4_29, hc9, hc23, hc38, hc52, hc64, if_true, if_false], rfl, rfl⟩
        · --
          refine Go.st (fun t k => XS.icmpYes X0.here hx rfl (pc0 := 52) (pc' := 62) rfl (hb hby d10_52) rfl (XT.ii_le_t hc52) (by decide) (by decide) k) ?_
          show Go p.tables e below PP (s₁.setTop (mkF m 62 #[.val (.int ((((((p1 ^^^ (-1 : Int32)) &&& (p1 - (1 : Int32))).toUInt32 >>> ((16 : Int32) &&& 31).toUInt32).toInt32).toUInt32 >>> ((8 : Int32) &&& 31).toUInt32).toInt32)), .val (.int (25 : Int32))] []))
          refine Go.st (fun t k => XS.iloadN X0.here hx rfl (hb hby d10_62) rfl k) ?_
          show Go p.tables e below PP (s₁.setTop (mkF m 63 #[.val (.int ((((((p1 ^^^ (-1 : Int32)) &&& (p1 - (1 : Int32))).toUInt32 >>> ((16 : Int32) &&& 31).toUInt32).toInt32).toUInt32 >>> ((8 : Int32) &&& 31).toUInt32).toInt32)), .val (.int (25 : Int32))] [(.int ((((((p1 ^^^ (-1 : Int32)) &&& (p1 - (1 : Int32))).toUInt32 >>> ((16 : Int32) &&& 31).toUInt32).toInt32).toUInt32 >>> ((8 : Int32) &&& 31).toUInt32).toInt32))]))
          refine Go.st (fun t k => XS.iconst X0.here hx rfl (hb hby d10_63) k) ?_
          show Go p.tables e below PP (s₁.setTop (mkF m 64 #[.val (.int ((((((p1 ^^^ (-1 : Int32)) &&& (p1 - (1 : Int32))).toUInt32 >>> ((16 : Int32) &&& 31).toUInt32).toInt32).toUInt32 >>> ((8 : Int32) &&& 31).toUInt32).toInt32)), .val (.int (25 : Int32))] [(.int (4 : Int32)), (.int ((((((p1 ^^^ (-1 : Int32)) &&& (p1 - (1 : Int32))).toUInt32 >>> ((16 : Int32) &&& 31).toUInt32).toInt32).toUInt32 >>> ((8 : Int32) &&& 31).toUInt32).toInt32))]))
          by_cases hc64 : (4 : Int32) < ((((((p1 ^^^ (-1 : Int32)) &&& (p1 - (1 : Int32))).toUInt32 >>> ((16 : Int32) &&& 31).toUInt32).toInt32).toUInt32 >>> ((8 : Int32) &&& 31).toUInt32).toInt32)
          · --
            refine Go.st (fun t k => XS.icmpNo X0.here hx rfl (hb hby d10_64) rfl (XT.ii_le_f hc64) k) ?_
            show Go p.tables e below PP (s₁.setTop (mkF m 67 #[.val (.int ((((((p1 ^^^ (-1 : Int32)) &&& (p1 - (1 : Int32))).toUInt32 >>> ((16 : Int32) &&& 31).toUInt32).toInt32).toUInt32 >>> ((8 : Int32) &&& 31).toUInt32).toInt32)), .val (.int (25 : Int32))] []))
            refine Go.st (fun t k => XS.iinc X0.here hx rfl (hb hby d10_67) rfl (l' := #[.val (.int ((((((p1 ^^^ (-1 : Int32)) &&& (p1 - (1 : Int32))).toUInt32 >>> ((16 : Int32) &&& 31).toUInt32).toInt32).toUInt32 >>> ((8 : Int32) &&& 31).toUInt32).toInt32)), .val (.int (27 : Int32))]) rfl k) ?_
            show Go p.tables e below PP (s₁.setTop (mkF m 70 #[.val (.int ((((((p1 ^^^ (-1 : Int32)) &&& (p1 - (1 : Int32))).toUInt32 >>> ((16 : Int32) &&& 31).toUInt32).toInt32).toUInt32 >>> ((8 : Int32) &&& 31).toUInt32).toInt32)), .val (.int (27 : Int32))] []))
            refine Go.st (fun t k => XS.iloadN X0.here hx rfl (hb hby d10_70) rfl k) ?_
            show Go p.tables e below PP (s₁.setTop (mkF m 71 #[.val (.int ((((((p1 ^^^ (-1 : Int32)) &&& (p1 - (1 : Int32))).toUInt32 >>> ((16 : Int32) &&& 31).toUInt32).toInt32).toUInt32 >>> ((8 : Int32) &&& 31).toUInt32).toInt32)), .val (.int (27 : Int32))] [(.int ((((((p1 ^^^ (-1 : Int32)) &&& (p1 - (1 : Int32))).toUInt32 >>> ((16 : Int32) &&& 31).toUInt32).toInt32).toUInt32 >>> ((8 : Int32) &&& 31).toUInt32).toInt32))]))
            refine Go.st (fun t k => XS.iconst X0.here hx rfl (hb hby d10_71) k) ?_
            show Go p.tables e below PP (s₁.setTop (mkF m 72 #[.val (.int ((((((p1 ^^^ (-1 : Int32)) &&& (p1 - (1 : Int32))).toUInt32 >>> ((16 : Int32) &&& 31).toUInt32).toInt32).toUInt32 >>> ((8 : Int32) &&& 31).toUInt32).toInt32)), .val (.int (27 : Int32))] [(.int (2 : Int32)), (.int ((((((p1 ^^^ (-1 : Int32)) &&& (p1 - (1 : Int32))).toUInt32 >>> ((16 : Int32) &&& 31).toUInt32).toInt32).toUInt32 >>> ((8 : Int32) &&& 31).toUInt32).toInt32))]))
            refine Go.st (fun t k => XS.iushr X0.here hx rfl (hb hby d10_72) rfl k) ?_
            show Go p.tables e below PP (s₁.setTop (mkF m 73 #[.val (.int ((((((p1 ^^^ (-1 : Int32)) &&& (p1 - (1 : Int32))).toUInt32 >>> ((16 : Int32) &&& 31).toUInt32).toInt32).toUInt32 >>> ((8 : Int32) &&& 31).toUInt32).toInt32)), .val (.int (27 : Int32))] [(.int ((((((((p1 ^^^ (-1 : Int32)) &&& (p1 - (1 : Int32))).toUInt32 >>> ((16 : Int32) &&& 31).toUInt32).toInt32).toUInt32 >>> ((8 : Int32) &&& 31).toUInt32).toInt32).toUInt32 >>> ((2 : Int32) &&& 31).toUInt32).toInt32))]))
            refine Go.st (fun t k => XS.istoreN X0.here hx rfl (hb hby d10_73) rfl (l' := #[.val (.int ((((((((p1 ^^^ (-1 : Int32)) &&& (p1 - (1 : Int32))).toUInt32 >>> ((16 : Int32) &&& 31).toUInt32).toInt32).toUInt32 >>> ((8 : Int32) &&& 31).toUInt32).toInt32).toUInt32 >>> ((2 : Int32) &&& 31).toUInt32).toInt32)), .val (.int (27 : Int32))]) rfl k) ?_
            show Go p.tables e below PP (s₁.setTop (mkF m 74 #[.val (.int ((((((((p1 ^^^ (-1 : Int32)) &&& (p1 - (1 : Int32))).toUInt32 >>> ((16 : Int32) &&& 31).toUInt32).toInt32).toUInt32 >>> ((8 : Int32) &&& 31).toUInt32).toInt32).toUInt32 >>> ((2 : Int32) &&& 31).toUInt32).toInt32)), .val (.int (27 : Int32))] []))
            refine Go.st (fun t k => XS.iloadN X0.here hx rfl (hb hby d10_74) rfl k) ?_
            show Go p.tables e below PP (s₁.setTop (mkF m 75 #[.val (.int ((((((((p1 ^^^ (-1 : Int32)) &&& (p1 - (1 : Int32))).toUInt32 >>> ((16 : Int32) &&& 31).toUInt32).toInt32).toUInt32 >>> ((8 : Int32) &&& 31).toUInt32).toInt32).toUInt32 >>> ((2 : Int32) &&& 31).toUInt32).toInt32)), .val (.int (27 : Int32))] [(.int (27 : Int32))]))
            refine Go.st (fun t k => XS.iloadN X0.here hx rfl (hb hby d10_75) rfl k) ?_
            show Go p.tables e below PP (s₁.setTop (mkF m 76 #[.val (.int ((((((((p1 ^^^ (-1 : Int32)) &&& (p1 - (1 : Int32))).toUInt32 >>> ((16 : Int32) &&& 31).toUInt32).toInt32).toUInt32 >>> ((8 : Int32) &&& 31).toUInt32).toInt32).toUInt32 >>> ((2 : Int32) &&& 31).toUInt32).toInt32)), .val (.int (27 : Int32))] [(.int ((((((((p1 ^^^ (-1 : Int32)) &&& (p1 - (1 : Int32))).toUInt32 >>> ((16 : Int32) &&& 31).toUInt32).toInt32).toUInt32 >>> ((8 : Int32) &&& 31).toUInt32).toInt32).toUInt32 >>> ((2 : Int32) &&& 31).toUInt32).toInt32)), (.int (27 : Int32))]))
            refine Go.st (fun t k => XS.iconst X0.here hx rfl (hb hby d10_76) k) ?_
            show Go p.tables e below PP (s₁.setTop (mkF m 77 #[.val (.int ((((((((p1 ^^^ (-1 : Int32)) &&& (p1 - (1 : Int32))).toUInt32 >>> ((16 : Int32) &&& 31).toUInt32).toInt32).toUInt32 >>> ((8 : Int32) &&& 31).toUInt32).toInt32).toUInt32 >>> ((2 : Int32) &&& 31).toUInt32).toInt32)), .val (.int (27 : Int32))] [(.int (1 : Int32)), (.int ((((((((p1 ^^^ (-1 : Int32)) &&& (p1 - (1 : Int32))).toUInt32 >>> ((16 : Int32) &&& 31).toUInt32).toInt32).toUInt32 >>> ((8 : Int32) &&& 31).toUInt32).toInt32).toUInt32 >>> ((2 : Int32) &&& 31).toUInt32).toInt32)), (.int (27 : Int32))]))
            refine Go.st (fun t k => XS.iushr X0.here hx rfl (hb hby d10_77) rfl k) ?_
            show Go p.tables e below PP (s₁.setTop (mkF m 78 #[.val (.int ((((((((p1 ^^^ (-1 : Int32)) &&& (p1 - (1 : Int32))).toUInt32 >>> ((16 : Int32) &&& 31).toUInt32).toInt32).toUInt32 >>> ((8 : Int32) &&& 31).toUInt32).toInt32).toUInt32 >>> ((2 : Int32) &&& 31).toUInt32).toInt32)), .val (.int (27 : Int32))] [(.int ((((((((((p1 ^^^ (-1 : Int32)) &&& (p1 - (1 : Int32))).toUInt32 >>> ((16 : Int32) &&& 31).toUInt32).toInt32).toUInt32 >>> ((8 : Int32) &&& 31).toUInt32).toInt32).toUInt32 >>> ((2 : Int32) &&& 31).toUInt32).toInt32).toUInt32 >>> ((1 : Int32) &&& 31).toUInt32).toInt32)), (.int (27 : Int32))]))
            refine Go.st (fun t k => XS.iadd X0.here hx rfl (hb hby d10_78) rfl k) ?_
            show Go p.tables e below PP (s₁.setTop (mkF m 79 #[.val (.int ((((((((p1 ^^^ (-1 : Int32)) &&& (p1 - (1 : Int32))).toUInt32 >>> ((16 : Int32) &&& 31).toUInt32).toInt32).toUInt32 >>> ((8 : Int32) &&& 31).toUInt32).toInt32).toUInt32 >>> ((2 : Int32) &&& 31).toUInt32).toInt32)), .val (.int (27 : Int32))] [(.int ((27 : Int32) + ((((((((((p1 ^^^ (-1 : Int32)) &&& (p1 - (1 : Int32))).toUInt32 >>> ((16 : Int32) &&& 31).toUInt32).toInt32).toUInt32 >>> ((8 : Int32) &&& 31).toUInt32).toInt32).toUInt32 >>> ((2 : Int32) &&& 31).toUInt32).toInt32).toUInt32 >>> ((1 : Int32) &&& 31).toUInt32).toInt32)))]))
            rw [hPP]
            refine endI X0 hx hlk hret (hb hby d10_79) ?_ (by decide) (by decide)
            show Q10 Z p1 h0 n0 (some (.int ((27 : Int32) + ((((((((((p1 ^^^ (-1 : Int32)) &&& (p1 - (1 : Int32))).toUInt32 >>> ((16 : Int32) &&& 31).toUInt32).toInt32).toUInt32 >>> ((8 : Int32) &&& 31).toUInt32).toInt32).toUInt32 >>> ((2 : Int32) &&& 31).toUInt32).toInt32).toUInt32 >>> ((1 : Int32) &&& 31).toUInt32).toInt32)))) s₁.heap _
            rw [e0]
            exact ⟨by simp only [ntzI, nzG, nz0_1, nz1_17, nz2_25, nz3_25, nz4_27, hc9, hc23, hc38, hc52, hc64, if_true, if_false], rfl, rfl⟩
          · --
            refine Go.st (fun t k => XS.icmpYes X0.here hx rfl (pc0 := 64) (pc' := 74) rfl (hb hby d10_64) rfl (XT.ii_le_t hc64) (by decide) (by decide) k) ?_
            show Go p.tables e below PP (s₁.setTop (mkF m 74 #[.val (.int ((((((p1 ^^^ (-1 : Int32)) &&& (p1 - (1 : Int32))).toUInt32 >>> ((16 : Int32) &&& 31).toUInt32).toInt32).toUInt32 >>> ((8 : Int32) &&& 31).toUInt32).toInt32)), .val (.int (25 : Int32))] []))
            refine Go.st (fun t k => XS.iloadN X0.here hx rfl (hb hby d10_74) rfl k) ?_
            show Go p.tables e below PP (s₁.setTop (mkF m 75 #[.val (.int ((((((p1 ^^^ (-1 : Int32)) &&& (p1 - (1 : Int32))).toUInt32 >>> ((16 : Int32) &&& 31).toUInt32).toInt32).toUInt32 >>> ((8 : Int32) &&& 31).toUInt32).toInt32)), .val (.int (25 : Int32))] [(.int (25 : Int32))]))
            refine Go.st (fun t k => XS.iloadN X0.here hx rfl (hb hby d10_75) rfl k) ?_
            show Go p.tables e below PP (s₁.setTop (mkF m 76 #[.val (.int ((((((p1 ^^^ (-1 : Int32)) &&& (p1 - (1 : Int32))).toUInt32 >>> ((16 : Int32) &&& 31).toUInt32).toInt32).toUInt32 >>> ((8 : Int32) &&& 31).toUInt32).toInt32)), .val (.int (25 : Int32))] [(.int ((((((p1 ^^^ (-1 : Int32)) &&& (p1 - (1 : Int32))).toUInt32 >>> ((16 : Int32) &&& 31).toUInt32).toInt32).toUInt32 >>> ((8 : Int32) &&& 31).toUInt32).toInt32)), (.int (25 : Int32))]))
            refine Go.st (fun t k => XS.iconst X0.here hx rfl (hb hby d10_76) k) ?_
            show Go p.tables e below PP (s₁.setTop (mkF m 77 #[.val (.int ((((((p1 ^^^ (-1 : Int32)) &&& (p1 - (1 : Int32))).toUInt32 >>> ((16 : Int32) &&& 31).toUInt32).toInt32).toUInt32 >>> ((8 : Int32) &&& 31).toUInt32).toInt32)), .val (.int (25 : Int32))] [(.int (1 : Int32)), (.int ((((((p1 ^^^ (-1 : Int32)) &&& (p1 - (1 : Int32))).toUInt32 >>> ((16 : Int32) &&& 31).toUInt32).toInt32).toUInt32 >>> ((8 : Int32) &&& 31).toUInt32).toInt32)), (.int (25 : Int32))]))
            refine Go.st (fun t k => XS.iushr X0.here hx rfl (hb hby d10_77) rfl k) ?_
            show Go p.tables e below PP (s₁.setTop (mkF m 78 #[.val (.int ((((((p1 ^^^ (-1 : Int32)) &&& (p1 - (1 : Int32))).toUInt32 >>> ((16 : Int32) &&& 31).toUInt32).toInt32).toUInt32 >>> ((8 : Int32) &&& 31).toUInt32).toInt32)), .val (.int (25 : Int32))] [(.int ((((((((p1 ^^^ (-1 : Int32)) &&& (p1 - (1 : Int32))).toUInt32 >>> ((16 : Int32) &&& 31).toUInt32).toInt32).toUInt32 >>> ((8 : Int32) &&& 31).toUInt32).toInt32).toUInt32 >>> ((1 : Int32) &&& 31).toUInt32).toInt32)), (.int (25 : Int32))]))
            refine Go.st (fun t k => XS.iadd X0.here hx rfl (hb hby d10_78) rfl k) ?_
            show Go p.tables e below PP (s₁.setTop (mkF m 79 #[.val (.int ((((((p1 ^^^ (-1 : Int32)) &&& (p1 - (1 : Int32))).toUInt32 >>> ((16 : Int32) &&& 31).toUInt32).toInt32).toUInt32 >>> ((8 : Int32) &&& 31).toUInt32).toInt32)), .val (.int (25 : Int32))] [(.int ((25 : Int32) + ((((((((p1 ^^^ (-1 : Int32)) &&& (p1 - (1 : Int32))).toUInt32 >>> ((16 : Int32) &&& 31).toUInt32).toInt32).toUInt32 >>> ((8 : Int32) &&& 31).toUInt32).toInt32).toUInt32 >>> ((1 : Int32) &&& 31).toUInt32).toInt32)))]))
            rw [hPP]
            refine endI X0 hx hlk hret (hb hby d10_79) ?_ (by decide) (by decide)
            show Q10 Z p1 h0 n0 (some (.int ((25 : Int32) + ((((((((p1 ^^^ (-1 : Int32)) &&& (p1 - (1 : Int32))).toUInt32 >>> ((16 : Int32) &&& 31).toUInt32).toInt32).toUInt32 >>> ((8 : Int32) &&& 31).toUInt32).toInt32).toUInt32 >>> ((1 : Int32) &&& 31).toUInt32).toInt32)))) s₁.heap _
            rw [e0]
            exact ⟨by simp only [ntzI, nzG, nz0_1, nz1_17, nz2_25, nz3_25, nz4_25, hc9, hc23, hc38, hc52, hc64, if_true, if_false], rfl, rfl⟩
      · --
        refine Go.st (fun t k => XS.icmpYes X0.here hx rfl (pc0 := 38) (pc' := 49) rfl (hb hby d10_38) rfl (XT.ii_le_t hc38) (by decide) (by decide) k) ?_
        show Go p.tables e below PP (s₁.setTop (mkF m 49 #[.val (.int ((((p1 ^^^ (-1 : Int32)) &&& (p1 - (1 : Int32))).toUInt32 >>> ((16 : Int32) &&& 31).toUInt32).toInt32)), .val (.int (17 : Int32))] []))
        refine Go.st (fun t k => XS.iloadN X0.here hx rfl (hb hby d10_49) rfl k) ?_
        show Go p.tables e below PP (s₁.setTop (mkF m 50 #[.val (.int ((((p1 ^^^ (-1 : Int32)) &&& (p1 - (1 : Int32))).toUInt32 >>> ((16 : Int32) &&& 31).toUInt32).toInt32)), .val (.int (17 : Int32))] [(.int ((((p1 ^^^ (-1 : Int32)) &&& (p1 - (1 : Int32))).toUInt32 >>> ((16 : Int32) &&& 31).toUInt32).toInt32))]))
        refine Go.st (fun t k => XS.bipush X0.here hx rfl (hb hby d10_50) k) ?_
        show Go p.tables e below PP (s₁.setTop (mkF m 52 #[.val (.int ((((p1 ^^^ (-1 : Int32)) &&& (p1 - (1 : Int32))).toUInt32 >>> ((16 : Int32) &&& 31).toUInt32).toInt32)), .val (.int (17 : Int32))] [(.int (16 : Int32)), (.int ((((p1 ^^^ (-1 : Int32)) &&& (p1 - (1 : Int32))).toUInt32 >>> ((16 : Int32) &&& 31).toUInt32).toInt32))]))
        by_cases hc52 : (16 : Int32) < ((((p1 ^^^ (-1 : Int32)) &&& (p1 - (1 : Int32))).toUInt32 >>> ((16 : Int32) &&& 31).toUInt32).toInt32)
        · --
          refine Go.st (fun t k => XS.icmpNo X0.here hx rfl (hb hby d10_52) rfl (XT.ii_le_f hc52) k) ?_
          show Go p.tables e below PP (s₁.setTop (mkF m 55 #[.val (.int ((((p1 ^^^ (-1 : Int32)) &&& (p1 - (1 : Int32))).toUInt32 >>> ((16 : Int32) &&& 31).toUInt32).toInt32)), .val (.int (17 : Int32))] []))
          refine Go.st (fun t k => XS.iinc X0.here hx rfl (hb hby d10_55) rfl (l' := #[.val (.int ((((p1 ^^^ (-1 : Int32)) &&& (p1 - (1 : Int32))).toUInt32 >>> ((16 : Int32) &&& 31).toUInt32).toInt32)), .val (.int (21 : Int32))]) rfl k) ?_
          show Go p.tables e below PP (s₁.setTop (mkF m 58 #[.val (.int ((((p1 ^^^ (-1 : Int32)) &&& (p1 - (1 : Int32))).toUInt32 >>> ((16 : Int32) &&& 31).toUInt32).toInt32)), .val (.int (21 : Int32))] []))
          refine Go.st (fun t k => XS.iloadN X0.here hx rfl (hb hby d10_58) rfl k) ?_
          show Go p.tables e below PP (s₁.setTop (mkF m 59 #[.val (.int ((((p1 ^^^ (-1 : Int32)) &&& (p1 - (1 : Int32))).toUInt32 >>> ((16 : Int32) &&& 31).toUInt32).toInt32)), .val (.int (21 : Int32))] [(.int ((((p1 ^^^ (-1 : Int32)) &&& (p1 - (1 : Int32))).toUInt32 >>> ((16 : Int32) &&& 31).toUInt32).toInt32))]))
          refine Go.st (fun t k => XS.iconst X0.here hx rfl (hb hby d10_59) k) ?_
          show Go p.tables e below PP (s₁.setTop (mkF m 60 #[.val (.int ((((p1 ^^^ (-1 : Int32)) &&& (p1 - (1 : Int32))).toUInt32 >>> ((16 : Int32) &&& 31).toUInt32).toInt32)), .val (.int (21 : Int32))] [(.int (4 : Int32)), (.int ((((p1 ^^^ (-1 : Int32)) &&& (p1 - (1 : Int32))).toUInt32 >>> ((16 : Int32) &&& 31).toUInt32).toInt32))]))
          refine Go.st (fun t k => XS.iushr X0.here hx rfl (hb hby d10_60) rfl k) ?_
          show Go p.tables e below PP (s₁.setTop (mkF m 61 #[.val (.int ((((p1 ^^^ (-1 : Int32)) &&& (p1 - (1 : Int32))).toUInt32 >>> ((16 : Int32) &&& 31).toUInt32).toInt32)), .val (.int (21 : Int32))] [(.int ((((((p1 ^^^ (-1 : Int32)) &&& (p1 - (1 : Int32))).toUInt32 >>> ((16 : Int32) &&& 31).toUInt32).toInt32).toUInt32 >>> ((4 : Int32) &&& 31).toUInt32).toInt32))]))
          refine Go.st (fun t k => XS.istoreN X0.here hx rfl (hb hby d10_61) rfl (l' := #[.val (.int ((((((p1 ^^^ (-1 : Int32)) &&& (p1 - (1 : Int32))).toUInt32 >>> ((16 : Int32) &&& 31).toUInt32).toInt32).toUInt32 >>> ((4 : Int32) &&& 31).toUInt32).toInt32)), .val (.int (21 : Int32))]) rfl k) ?_
          show Go p.tables e below PP (s₁.setTop (mkF m 62 #[.val (.int ((((((p1 ^^^ (-1 : Int32)) &&& (p1 - (1 : Int32))).toUInt32 >>> ((16 : Int32) &&& 31).toUInt32).toInt32).toUInt32 >>> ((4 : Int32) &&& 31).toUInt32).toInt32)), .val (.int (21 : Int32))] []))
          refine Go.st (fun t k => XS.iloadN X0.here hx rfl (hb hby d10_62) rfl k) ?_
          show Go p.tables e below PP (s₁.setTop (mkF m 63 #[.val (.int ((((((p1 ^^^ (-1 : Int32)) &&& (p1 - (1 : Int32))).toUInt32 >>> ((16 : Int32) &&& 31).toUInt32).toInt32).toUInt32 >>> ((4 : Int32) &&& 31).toUInt32).toInt32)), .val (.int (21 : Int32))] [(.int ((((((p1 ^^^ (-1 : Int32)) &&& (p1 - (1 : Int32))).toUInt32 >>> ((16 : Int32) &&& 31).toUInt32).toInt32).toUInt32 >>> ((4 : Int32) &&& 31).toUInt32).toInt32))]))
          refine Go.st (fun t k => XS.iconst X0.here hx rfl (hb hby d10_63) k) ?_
          show Go p.tables e below PP (s₁.setTop (mkF m 64 #[.val (.int ((((((p1 ^^^ (-1 : Int32)) &&& (p1 - (1 : Int32))).toUInt32 >>> ((16 : Int32) &&& 31).toUInt32).toInt32).toUInt32 >>> ((4 : Int32) &&& 31).toUInt32).toInt32)), .val (.int (21 : Int32))] [(.int (4 : Int32)), (.int ((((((p1 ^^^ (-1 : Int32)) &&& (p1 - (1 : Int32))).toUInt32 >>> ((16 : Int32) &&& 31).toUInt32).toInt32).toUInt32 >>> ((4 : Int32) &&& 31).toUInt32).toInt32))]))
          by_cases hc64 : (4 : Int32) < ((((((p1 ^^^ (-1 : Int32)) &&& (p1 - (1 : Int32))).toUInt32 >>> ((16 : Int32) &&& 31).toUInt32).toInt32).toUInt32 >>> ((4 : Int32) &&& 31).toUInt32).toInt32)
          · --
            refine Go.st (fun t k => XS.icmpNo X0.here hx rfl (hb hby d10_64) rfl (XT.ii_le_f hc64) k) ?_
            show Go p.tables e below PP (s₁.setTop (mkF m 67 #[.val (.int ((((((p1 ^^^ (-1 : Int32)) &&& (p1 - (1 : Int32))).toUInt32 >>> ((16 : Int32) &&& 31).toUInt32).toInt32).toUInt32 >>> ((4 : Int32) &&& 31).toUInt32).toInt32)), .val (.int (21 : Int32))] []))
            refine Go.st (fun t k => XS.iinc X0.here hx rfl (hb hby d10_67) rfl (l' := #[.val (.int ((((((p1 ^^^ (-1 : Int32)) &&& (p1 - (1 : Int32))).toUInt32 >>> ((16 : Int32) &&& 31).toUInt32).toInt32).toUInt32 >>> ((4 : Int32) &&& 31).toUInt32).toInt32)), .val (.int (23 : Int32))]) rfl k) ?_
            show Go p.tables e below PP (s₁.setTop (mkF m 70 #[.val (.int ((((((p1 ^^^ (-1 : Int32)) &&& (p1 - (1 : Int32))).toUInt32 >>> ((16 : Int32) &&& 31).toUInt32).toInt32).toUInt32 >>> ((4 : Int32) &&& 31).toUInt32).toInt32)), .val (.int (23 : Int32))] []))
            refine Go.st (fun t k => XS.iloadN X0.here hx rfl (hb hby d10_70) rfl k) ?_
            show Go p.tables e below PP (s₁.setTop (mkF m 71 #[.val (.int ((((((p1 ^^^ (-1 : Int32)) &&& (p1 - (1 : Int32))).toUInt32 >>> ((16 : Int32) &&& 31).toUInt32).toInt32).toUInt32 >>> ((4 : Int32) &&& 31).toUInt32).toInt32)), .val (.int (23 : Int32))] [(.int ((((((p1 ^^^ (-1 : Int32)) &&& (p1 - (1 : Int32))).toUInt32 >>> ((16 : Int32) &&& 31).toUInt32).toInt32).toUInt32 >>> ((4 : Int32) &&& 31).toUInt32).toInt32))]))
            refine Go.st (fun t k => XS.iconst X0.here hx rfl (hb hby d10_71) k) ?_
            show Go p.tables e below PP (s₁.setTop (mkF m 72 #[.val (.int ((((((p1 ^^^ (-1 : Int32)) &&& (p1 - (1 : Int32))).toUInt32 >>> ((16 : Int32) &&& 31).toUInt32).toInt32).toUInt32 >>> ((4 : Int32) &&& 31).toUInt32).toInt32)), .val (.int (23 : Int32))] [(.int (2 : Int32)), (.int ((((((p1 ^^^ (-1 : Int32)) &&& (p1 - (1 : Int32))).toUInt32 >>> ((16 : Int32) &&& 31).toUInt32).toInt32).toUInt32 >>> ((4 : Int32) &&& 31).toUInt32).toInt32))]))
            refine Go.st (fun t k => XS.iushr X0.here hx rfl (hb hby d10_72) rfl k) ?_
            show Go p.tables e below PP (s₁.setTop (mkF m 73 #[.val (.int ((((((p1 ^^^ (-1 : Int32)) &&& (p1 - (1 : Int32))).toUInt32 >>> ((16 : Int32) &&& 31).toUInt32).toInt32).toUInt32 >>> ((4 : Int32) &&& 31).toUInt32).toInt32)), .val (.int (23 : Int32))] [(.int ((((((((p1 ^^^ (-1 : Int32)) &&& (p1 - (1 : Int32))).toUInt32 >>> ((16 : Int32) &&& 31).toUInt32).toInt32).toUInt32 >>> ((4 : Int32) &&& 31).toUInt32).toInt32).toUInt32 >>> ((2 : Int32) &&& 31).toUInt32).toInt32))]))
            refine Go.st (fun t k => XS.istoreN X0.here hx rfl (hb hby d10_73) rfl (l' := #[.val (.int ((((((((p1 ^^^ (-1 : Int32)) &&& (p1 - (1 : Int32))).toUInt32 >>> ((16 : Int32) &&& 31).toUInt32).toInt32).toUInt32 >>> ((4 : Int32) &&& 31).toUInt32).toInt32).toUInt32 >>> ((2 : Int32) &&& 31).toUInt32).toInt32)), .val (.int (23 : Int32))]) rfl k) ?_
            show Go p.tables e below PP (s₁.setTop (mkF m 74 #[.val (.int ((((((((p1 ^^^ (-1 : Int32)) &&& (p1 - (1 : Int32))).toUInt32 >>> ((16 : Int32) &&& 31).toUInt32).toInt32).toUInt32 >>> ((4 : Int32) &&& 31).toUInt32).toInt32).toUInt32 >>> ((2 : Int32) &&& 31).toUInt32).toInt32)), .val (.int (23 : Int32))] []))
            refine Go.st (fun t k => XS.iloadN X0.here hx rfl (hb hby d10_74) rfl k) ?_
            show Go p.tables e below PP (s₁.setTop (mkF m 75 #[.val (.int ((((((((p1 ^^^ (-1 : Int32)) &&& (p1 - (1 : Int32))).toUInt32 >>> ((16 : Int32) &&& 31).toUInt32).toInt32).toUInt32 >>> ((4 : Int32) &&& 31).toUInt32).toInt32).toUInt32 >>> ((2 : Int32) &&& 31).toUInt32).toInt32)), .val (.int (23 : Int32))] [(.int (23 : Int32))]))
            refine Go.st (fun t k => XS.iloadN X0.here hx rfl (hb hby d10_75) rfl k) ?_
            show Go p.tables e below PP (s₁.setTop (mkF m 76 #[.val (.int ((((((((p1 ^^^ (-1 : Int32)) &&& (p1 - (1 : Int32))).toUInt32 >>> ((16 : Int32) &&& 31).toUInt32).toInt32).toUInt32 >>> ((4 : Int32) &&& 31).toUInt32).toInt32).toUInt32 >>> ((2 : Int32) &&& 31).toUInt32).toInt32)), .val (.int (23 : Int32))] [(.int ((((((((p1 ^^^ (-1 : Int32)) &&& (p1 - (1 : Int32))).toUInt32 >>> ((16 : Int32) &&& 31).toUInt32).toInt32).toUInt32 >>> ((4 : Int32) &&& 31).toUInt32).toInt32).toUInt32 >>> ((2 : Int32) &&& 31).toUInt32).toInt32)), (.int (23 : Int32))]))
            refine Go.st (fun t k => XS.iconst X0.here hx rfl (hb hby d10_76) k) ?_
            show Go p.tables e below PP (s₁.setTop (mkF m 77 #[.val (.int ((((((((p1 ^^^ (-1 : Int32)) &&& (p1 - (1 : Int32))).toUInt32 >>> ((16 : Int32) &&& 31).toUInt32).toInt32).toUInt32 >>> ((4 : Int32) &&& 31).toUInt32).toInt32).toUInt32 >>> ((2 : Int32) &&& 31).toUInt32).toInt32)), .val (.int (23 : Int32))] [(.int (1 : Int32)), (.int ((((((((p1 ^^^ (-1 : Int32)) &&& (p1 - (1 : Int32))).toUInt32 >>> ((16 : Int32) &&& 31).toUInt32).toInt32).toUInt32 >>> ((4 : Int32) &&& 31).toUInt32).toInt32).toUInt32 >>> ((2 : Int32) &&& 31).toUInt32).toInt32)), (.int (23 : Int32))]))
            refine Go.st (fun t k => XS.iushr X0.here hx rfl (hb hby d10_77) rfl k) ?_
            show Go p.tables e below PP (s₁.setTop (mkF m 78 #[.val (.int ((((((((p1 ^^^ (-1 : Int32)) &&& (p1 - (1 : Int32))).toUInt32 >>> ((16 : Int32) &&& 31).toUInt32).toInt32).toUInt32 >>> ((4 : Int32) &&& 31).toUInt32).toInt32).toUInt32 >>> ((2 : Int32) &&& 31).toUInt32).toInt32)), .val (.int (23 : Int32))] [(.int ((((((((((p1 ^^^ (-1 : Int32)) &&& (p1 - (1 : Int32))).toUInt32 >>> ((16 : Int32) &&& 31).toUInt32).toInt32).toUInt32 >>> ((4 : Int32) &&& 31).toUInt32).toInt32).toUInt32 >>> ((2 : Int32) &&& 31).toUInt32).toInt32).toUInt32 >>> ((1 : Int32) &&& 31).toUInt32).toInt32)), (.int (23 : Int32))]))
            refine Go.st (fun t k => XS.iadd X0.here hx rfl (hb hby d10_78) rfl k) ?_
            show Go p.tables e below PP (s₁.setTop (mkF m 79 #[.val (.int ((((((((p1 ^^^ (-1 : Int32)) &&& (p1 - (1 : Int32))).toUInt32 >>> ((16 : Int32) &&& 31).toUInt32).toInt32).toUInt32 >>> ((4 : Int32) &&& 31).toUInt32).toInt32).toUInt32 >>> ((2 : Int32) &&& 31).toUInt32).toInt32)), .val (.int (23 : Int32))] [(.int ((23 : Int32) + ((((((((((p1 ^^^ (-1 : Int32)) &&& (p1 - (1 : Int32))).toUInt32 >>> ((16 : Int32) &&& 31).toUInt32).toInt32).toUInt32 >>> ((4 : Int32) &&& 31).toUInt32).toInt32).toUInt32 >>> ((2 : Int32) &&& 31).toUInt32).toInt32).toUInt32 >>> ((1 : Int32) &&& 31).toUInt32).toInt32)))]))
            rw [hPP]
            refine endI X0 hx hlk hret (hb hby d10_79) ?_ (by decide) (by decide)
            show Q10 Z p1 h0 n0 (some (.int ((23 : Int32) + ((((((((((p1 ^^^ (-1 : Int32)) &&& (p1 - (1 : Int32))).toUInt32 >>> ((16 : Int32) &&& 31).toUInt32).toInt32).toUInt32 >>> ((4 : Int32) &&& 31).toUInt32).toInt32).toUInt32 >>> ((2 : Int32) &&& 31).toUInt32).toInt32).toUInt32 >>> ((1 : Int32) &&& 31).toUInt32).toInt32)))) s₁.heap _
            rw [e0]
            exact ⟨by simp only [ntzI, nzG, nz0_1, nz1_17, nz2_17, nz3_21, nz4_23, hc9, hc23, hc38, hc52, hc64, if_true, if_false], rfl, rfl⟩
          · --
            refine Go.st (fun t k => XS.icmpYes X0.here hx rfl (pc0 := 64) (pc' := 74) rfl (hb hby d10_64) rfl (XT.ii_le_t hc64) (by decide) (by decide) k) ?_
            show Go p.tables e below PP (s₁.setTop (mkF m 74 #[.val (.int ((((((p1 ^^^ (-1 : Int32)) &&& (p1 - (1 : Int32))).toUInt32 >>> ((16 : Int32) &&& 31).toUInt32).toInt32).toUInt32 >>> ((4 : Int32) &&& 31).toUInt32).toInt32)), .val (.int (21 : Int32))] []))
            refine Go.st (fun t k => XS.iloadN X0.here hx rfl (hb hby d10_74) rfl k) ?_
            show Go p.tables e below PP (s₁.setTop (mkF m 75 #[.val (.int ((((((p1 ^^^ (-1 : Int32)) &&& (p1 - (1 : Int32))).toUInt32 >>> ((16 : Int32) &&& 31).toUInt32).toInt32).toUInt32 >>> ((4 : Int32) &&& 31).toUInt32).toInt32)), .val (.int (21 : Int32))] [(.int (21 : Int32))]))
            refine Go.st (fun t k => XS.iloadN X0.here hx rfl (hb hby d10_75) rfl k) ?_
            show Go p.tables e below PP (s₁.setTop (mkF m 76 #[.val (.int ((((((p1 ^^^ (-1 : Int32)) &&& (p1 - (1 : Int32))).toUInt32 >>> ((16 : Int32) &&& 31).toUInt32).toInt32).toUInt32 >>> ((4 : Int32) &&& 31).toUInt32).toInt32)), .val (.int (21 : Int32))] [(.int ((((((p1 ^^^ (-1 : Int32)) &&& (p1 - (1 : Int32))).toUInt32 >>> ((16 : Int32) &&& 31).toUInt32).toInt32).toUInt32 >>> ((4 : Int32) &&& 31).toUInt32).toInt32)), (.int (21 : Int32))]))
            refine Go.st (fun t k => XS.iconst X0.here hx rfl (hb hby d10_76) k) ?_
            show Go p.tables e below PP (s₁.setTop (mkF m 77 #[.val (.int ((((((p1 ^^^ (-1 : Int32)) &&& (p1 - (1 : Int32))).toUInt32 >>> ((16 : Int32) &&& 31).toUInt32).toInt32).toUInt32 >>> ((4 : Int32) &&& 31).toUInt32).toInt32)), .val (.int (21 : Int32))] [(.int (1 : Int32)), (.int ((((((p1 ^^^ (-1 : Int32)) &&& (p1 - (1 : Int32))).toUInt32 >>> ((16 : Int32) &&& 31).toUInt32).toInt32).toUInt32 >>> ((4 : Int32) &&& 31).toUInt32).toInt32)), (.int (21 : Int32))]))
            refine Go.st (fun t k => XS.iushr X0.here hx rfl (hb hby d10_77) rfl k) ?_
            show Go p.tables e below PP (s₁.setTop (mkF m 78 #[.val (.int ((((((p1 ^^^ (-1 : Int32)) &&& (p1 - (1 : Int32))).toUInt32 >>> ((16 : Int32) &&& 31).toUInt32).toInt32).toUInt32 >>> ((4 : Int32) &&& 31).toUInt32).toInt32)), .val (.int (21 : Int32))] [(.int ((((((((p1 ^^^ (-1 : Int32)) &&& (p1 - (1 : Int32))).toUInt32 >>> ((16 : Int32) &&& 31).toUInt32).toInt32).toUInt32 >>> ((4 : Int32) &&& 31).toUInt32).toInt32).toUInt32 >>> ((1 : Int32) &&& 31).toUInt32).toInt32)), (.int (21 : Int32))]))
            refine Go.st (fun t k => XS.iadd X0.here hx rfl (hb hby d10_78) rfl k) ?_
            show Go p.tables e below PP (s₁.setTop (mkF m 79 #[.val (.int ((((((p1 ^^^ (-1 : Int32)) &&& (p1 - (1 : Int32))).toUInt32 >>> ((16 : Int32) &&& 31).toUInt32).toInt32).toUInt32 >>> ((4 : Int32) &&& 31).toUInt32).toInt32)), .val (.int (21 : Int32))] [(.int ((21 : Int32) + ((((((((p1 ^^^ (-1 : Int32)) &&& (p1 - (1 : Int32))).toUInt32 >>> ((16 : Int32) &&& 31).toUInt32).toInt32).toUInt32 >>> ((4 : Int32) &&& 31).toUInt32).toInt32).toUInt32 >>> ((1 : Int32) &&& 31).toUInt32).toInt32)))]))
            rw [hPP]
            refine endI X0 hx hlk hret (hb hby d10_79) ?_ (by decide) (by decide)
            show Q10 Z p1 h0 n0 (some (.int ((21 : Int32) + ((((((((p1 ^^^ (-1 : Int32)) &&& (p1 - (1 : Int32))).toUInt32 >>> ((16 : Int32) &&& 31).toUInt32).toInt32).toUInt32 >>> ((4 : Int32) &&& 31).toUInt32).toInt32).toUInt32 >>> ((1 : Int32) &&& 31).toUInt32).toInt32)))) s₁.heap _
            rw [e0]
            exact ⟨by simp only [ntzI, nzG, nz0_1, nz1_17, nz2_17, nz3_21, nz4_21, hc9, hc23, hc38, hc52, hc64, if_true, if_false], rfl, rfl⟩
        · --
          refine Go.st (fun t k => XS.icmpYes X0.here hx rfl (pc0 := 52) (pc' := 62) rfl (hb hby d10_52) rfl (XT.ii_le_t hc52) (by decide) (by decide) k) ?_
          show Go p.tables e below PP (s₁.setTop (mkF m 62 #[.val (.int ((((p1 ^^^ (-1 : Int32)) &&& (p1 - (1 : Int32))).toUInt32 >>> ((16 : Int32) &&& 31).toUInt32).toInt32)), .val (.int (17 : Int32))] []))
          refine Go.st (fun t k => XS.iloadN X0.here hx rfl (hb hby d10_62) rfl k) ?_
          show Go p.tables e below PP (s₁.setTop (mkF m 63 #[.val (.int ((((p1 ^^^ (-1 : Int32)) &&& (p1 - (1 : Int32))).toUInt32 >>> ((16 : Int32) &&& 31).toUInt32).toInt32)), .val (.int (17 : Int32))] [(.int ((((p1 ^^^ (-1 : Int32)) &&& (p1 - (1 : Int32))).toUInt32 >>> ((16 : Int32) &&& 31).toUInt32).toInt32))]))
          refine Go.st (fun t k => XS.iconst X0.here hx rfl (hb hby d10_63) k) ?_
          show Go p.tables e below PP (s₁.setTop (mkF m 64 #[.val (.int ((((p1 ^^^ (-1 : Int32)) &&& (p1 - (1 : Int32))).toUInt32 >>> ((16 : Int32) &&& 31).toUInt32).toInt32)), .val (.int (17 : Int32))] [(.int (4 : Int32)), (.int ((((p1 ^^^ (-1 : Int32)) &&& (p1 - (1 : Int32))).toUInt32 >>> ((16 : Int32) &&& 31).toUInt32).toInt32))]))
          by_cases hc64 : (4 : Int32) < ((((p1 ^^^ (-1 : Int32)) &&& (p1 - (1 : Int32))).toUInt32 >>> ((16 : Int32) &&& 31).toUInt32).toInt32)
          · --
            refine Go.st (fun t k => XS.icmpNo X0.here hx rfl (hb hby d10_64) rfl (XT.ii_le_f hc64) k) ?_
            show Go p.tables e below PP (s₁.setTop (mkF m 67 #[.val (.int ((((p1 ^^^ (-1 : Int32)) &&& (p1 - (1 : Int32))).toUInt32 >>> ((16 : Int32) &&& 31).toUInt32).toInt32)), .val (.int (17 : Int32))] []))
            refine Go.st (fun t k => XS.iinc X0.here hx rfl (hb hby d10_67) rfl (l' := #[.val (.int ((((p1 ^^^ (-1 : Int32)) &&& (p1 - (1 : Int32))).toUInt32 >>> ((16 : Int32) &&& 31).toUInt32).toInt32)), .val (.int (19 : Int32))]) rfl k) ?_
            show Go p.tables e below PP (s₁.setTop (mkF m 70 #[.val (.int ((((p1 ^^^ (-1 : Int32)) &&& (p1 - (1 : Int32))).toUInt32 >>> ((16 : Int32) &&& 31).toUInt32).toInt32)), .val (.int (19 : Int32))] []))
            refine Go.st (fun t k => XS.iloadN X0.here hx rfl (hb hby d10_70) rfl k) ?_
            show Go p.tables e below PP (s₁.setTop (mkF m 71 #[.val (.int ((((p1 ^^^ (-1 : Int32)) &&& (p1 - (1 : Int32))).toUInt32 >>> ((16 : Int32) &&& 31).toUInt32).toInt32)), .val (.int (19 : Int32))] [(.int ((((p1 ^^^ (-1 : Int32)) &&& (p1 - (1 : Int32))).toUInt32 >>> ((16 : Int32) &&& 31).toUInt32).toInt32))]))
            refine Go.st (fun t k => XS.iconst X0.here hx rfl (hb hby d10_71) k) ?_
            show Go p.tables e below PP (s₁.setTop (mkF m 72 #[.val (.int ((((p1 ^^^ (-1 : Int32)) &&& (p1 - (1 : Int32))).toUInt32 >>> ((16 : Int32) &&& 31).toUInt32).toInt32)), .val (.int (19 : Int32))] [(.int (2 : Int32)), (.int ((((p1 ^^^ (-1 : Int32)) &&& (p1 - (1 : Int32))).toUInt32 >>> ((16 : Int32) &&& 31).toUInt32).toInt32))]))
            refine Go.st (fun t k => XS.iushr X0.here hx rfl (hb hby d10_72) rfl k) ?_
            show Go p.tables e below PP (s₁.setTop (mkF m 73 #[.val (.int ((((p1 ^^^ (-1 : Int32)) &&& (p1 - (1 : Int32))).toUInt32 >>> ((16 : Int32) &&& 31).toUInt32).toInt32)), .val (.int (19 : Int32))] [(.int ((((((p1 ^^^ (-1 : Int32)) &&& (p1 - (1 : Int32))).toUInt32 >>> ((16 : Int32) &&& 31).toUInt32).toInt32).toUInt32 >>> ((2 : Int32) &&& 31).toUInt32).toInt32))]))
            refine Go.st (fun t k => XS.istoreN X0.here hx rfl (hb hby d10_73) rfl (l' := #[.val (.int ((((((p1 ^^^ (-1 : Int32)) &&& (p1 - (1 : Int32))).toUInt32 >>> ((16 : Int32) &&& 31).toUInt32).toInt32).toUInt32 >>> ((2 : Int32) &&& 31).toUInt32).toInt32)), .val (.int (19 : Int32))]) rfl k) ?_
            show Go p.tables e below PP (s₁.setTop (mkF m 74 #[.val (.int ((((((p1 ^^^ (-1 : Int32)) &&& (p1 - (1 : Int32))).toUInt32 >>> ((16 : Int32) &&& 31).toUInt32).toInt32).toUInt32 >>> ((2 : Int32) &&& 31).toUInt32).toInt32)), .val (.int (19 : Int32))] []))
            refine Go.st (fun t k => XS.iloadN X0.here hx rfl (hb hby d10_74) rfl k) ?_
            show Go p.tables e below PP (s₁.setTop (mkF m 75 #[.val (.int ((((((p1 ^^^ (-1 : Int32)) &&& (p1 - (1 : Int32))).toUInt32 >>> ((16 : Int32) &&& 31).toUInt32).toInt32).toUInt32 >>> ((2 : Int32) &&& 31).toUInt32).toInt32)), .val (.int (19 : Int32))] [(.int (19 : Int32))]))
            refine Go.st (fun t k => XS.iloadN X0.here hx rfl (hb hby d10_75) rfl k) ?_
            show Go p.tables e below PP (s₁.setTop (mkF m 76 #[.val (.int ((((((p1 ^^^ (-1 : Int32)) &&& (p1 - (1 : Int32))).toUInt32 >>> ((16 : Int32) &&& 31).toUInt32).toInt32).toUInt32 >>> ((2 : Int32) &&& 31).toUInt32).toInt32)), .val (.int (19 : Int32))] [(.int ((((((p1 ^^^ (-1 : Int32)) &&& (p1 - (1 : Int32))).toUInt32 >>> ((16 : Int32) &&& 31).toUInt32).toInt32).toUInt32 >>> ((2 : Int32) &&& 31).toUInt32).toInt32)), (.int (19 : Int32))]))
            refine Go.st (fun t k => XS.iconst X0.here hx rfl (hb hby d10_76) k) ?_
            show Go p.tables e below PP (s₁.setTop (mkF m 77 #[.val (.int ((((((p1 ^^^ (-1 : Int32)) &&& (p1 - (1 : Int32))).toUInt32 >>> ((16 : Int32) &&& 31).toUInt32).toInt32).toUInt32 >>> ((2 : Int32) &&& 31).toUInt32).toInt32)), .val (.int (19 : Int32))] [(.int (1 : Int32)), (.int ((((((p1 ^^^ (-1 : Int32)) &&& (p1 - (1 : Int32))).toUInt32 >>> ((16 : Int32) &&& 31).toUInt32).toInt32).toUInt32 >>> ((2 : Int32) &&& 31).toUInt32).toInt32)), (.int (19 : Int32))]))
            refine Go.st (fun t k => XS.iushr X0.here hx rfl (hb hby d10_77) rfl k) ?_
            show Go p.tables e below PP (s₁.setTop (mkF m 78 #[.val (.int ((((((p1 ^^^ (-1 : Int32)) &&& (p1 - (1 : Int32))).toUInt32 >>> ((16 : Int32) &&& 31).toUInt32).toInt32).toUInt32 >>> ((2 : Int32) &&& 31).toUInt32).toInt32)), .val (.int (19 : Int32))] [(.int ((((((((p1 ^^^ (-1 : Int32)) &&& (p1 - (1 : Int32))).toUInt32 >>> ((16 : Int32) &&& 31).toUInt32).toInt32).toUInt32 >>> ((2 : Int32) &&& 31).toUInt32).toInt32).toUInt32 >>> ((1 : Int32) &&& 31).toUInt32).toInt32)), (.int (19 : Int32))]))
            refine Go.st (fun t k => XS.iadd X0.here hx rfl (hb hby d10_78) rfl k) ?_
            show Go p.tables e below PP (s₁.setTop (mkF m 79 #[.val (.int ((((((p1 ^^^ (-1 : Int32)) &&& (p1 - (1 : Int32))).toUInt32 >>> ((16 : Int32) &&& 31).toUInt32).toInt32).toUInt32 >>> ((2 : Int32) &&& 31).toUInt32).toInt32)), .val (.int (19 : Int32))] [(.int ((19 : Int32) + ((((((((p1 ^^^ (-1 : Int32)) &&& (p1 - (1 : Int32))).toUInt32 >>> ((16 : Int32) &&& 31).toUInt32).toInt32).toUInt32 >>> ((2 : Int32) &&& 31).toUInt32).toInt32).toUInt32 >>> ((1 : Int32) &&& 31).toUInt32).toInt32)))]))
            rw [hPP]
            refine endI X0 hx hlk hret (hb hby d10_79) ?_ (by decide) (by decide)
            show Q10 Z p1 h0 n0 (some (.int ((19 : Int32) + ((((((((p1 ^^^ (-1 : Int32)) &&& (p1 - (1 : Int32))).toUInt32 >>> ((16 : Int32) &&& 31).toUInt32).toInt32).toUInt32 >>> ((2 : Int32) &&& 31).toUInt32).toInt32).toUInt32 >>> ((1 : Int32) &&& 31).toUInt32).toInt32)))) s₁.heap _
            rw [e0]
            exact ⟨by simp only [ntzI, nzG, nz0_1, nz1_17, nz2_17, nz3_17, nz4_19, hc9, hc23, hc38, hc52, hc64, if_true, if_false], rfl, rfl⟩
          · --
            refine Go.st (fun t k => XS.icmpYes X0.here hx rfl (pc0 := 64) (pc' := 74) rfl (hb hby d10_64) rfl (XT.ii_le_t hc64) (by decide) (by decide) k) ?_
            show Go p.tables e below PP (s₁.setTop (mkF m 74 #[.val (.int ((((p1 ^^^ (-1 : Int32)) &&& (p1 - (1 : Int32))).toUInt32 >>> ((16 : Int32) &&& 31).toUInt32).toInt32)), .val (.int (17 : Int32))] []))
            refine Go.st (fun t k => XS.iloadN X0.here hx rfl (hb hby d10_74) rfl k) ?_
            show Go p.tables e below PP (s₁.setTop (mkF m 75 #[.val (.int ((((p1 ^^^ (-1 : Int32)) &&& (p1 - (1 : Int32))).toUInt32 >>> ((16 : Int32) &&& 31).toUInt32).toInt32)), .val (.int (17 : Int32))] [(.int (17 : Int32))]))
            refine Go.st (fun t k => XS.iloadN X0.here hx rfl (hb hby d10_75) rfl k) ?_
            show Go p.tables e below PP (s₁.setTop (mkF m 76 #[.val (.int ((((p1 ^^^ (-1 : Int32)) &&& (p1 - (1 : Int32))).toUInt32 >>> ((16 : Int32) &&& 31).toUInt32).toInt32)), .val (.int (17 : Int32))] [(.int ((((p1 ^^^ (-1 : Int32)) &&& (p1 - (1 : Int32))).toUInt32 >>> ((16 : Int32) &&& 31).toUInt32).toInt32)), (.int (17 : Int32))]))
            refine Go.st (fun t k => XS.iconst X0.here hx rfl (hb hby d10_76) k) ?_
            show Go p.tables e below PP (s₁.setTop (mkF m 77 #[.val (.int ((((p1 ^^^ (-1 : Int32)) &&& (p1 - (1 : Int32))).toUInt32 >>> ((16 : Int32) &&& 31).toUInt32).toInt32)), .val (.int (17 : Int32))] [(.int (1 : Int32)), (.int ((((p1 ^^^ (-1 : Int32)) &&& (p1 - (1 : Int32))).toUInt32 >>> ((16 : Int32) &&& 31).toUInt32).toInt32)), (.int (17 : Int32))]))
            refine Go.st (fun t k => XS.iushr X0.here hx rfl (hb hby d10_77) rfl k) ?_
            show Go p.tables e below PP (s₁.setTop (mkF m 78 #[.val (.int ((((p1 ^^^ (-1 : Int32)) &&& (p1 - (1 : Int32))).toUInt32 >>> ((16 : Int32) &&& 31).toUInt32).toInt32)), .val (.int (17 : Int32))] [(.int ((((((p1 ^^^ (-1 : Int32)) &&& (p1 - (1 : Int32))).toUInt32 >>> ((16 : Int32) &&& 31).toUInt32).toInt32).toUInt32 >>> ((1 : Int32) &&& 31).toUInt32).toInt32)), (.int (17 : Int32))]))
            refine Go.st (fun t k => XS.iadd X0.here hx rfl (hb hby d10_78) rfl k) ?_
            show Go p.tables e below PP (s₁.setTop (mkF m 79 #[.val (.int ((((p1 ^^^ (-1 : Int32)) &&& (p1 - (1 : Int32))).toUInt32 >>> ((16 : Int32) &&& 31).toUInt32).toInt32)), .val (.int (17 : Int32))] [(.int ((17 : Int32) + ((((((p1 ^^^ (-1 : Int32)) &&& (p1 - (1 : Int32))).toUInt32 >>> ((16 : Int32) &&& 31).toUInt32).toInt32).toUInt32 >>> ((1 : Int32) &&& 31).toUInt32).toInt32)))]))
            rw [hPP]
            refine endI X0 hx hlk hret (hb hby d10_79) ?_ (by decide) (by decide)
            show Q10 Z p1 h0 n0 (some (.int ((17 : Int32) + ((((((p1 ^^^ (-1 : Int32)) &&& (p1 - (1 : Int32))).toUInt32 >>> ((16 : Int32) &&& 31).toUInt32).toInt32).toUInt32 >>> ((1 : Int32) &&& 31).toUInt32).toInt32)))) s₁.heap _
            rw [e0]
            exact ⟨by simp only [ntzI, nzG, nz0_1, nz1_17, nz2_17, nz3_17, nz4_17, hc9, hc23, hc38, hc52, hc64, if_true, if_false], rfl, rfl⟩
    · --
      refine Go.st (fun t k => XS.icmpYes X0.here hx rfl (pc0 := 23) (pc' := 34) rfl (hb hby d10_23) rfl (XT.ii_le_t hc23) (by decide) (by decide) k) ?_
      show Go p.tables e below PP (s₁.setTop (mkF m 34 #[.val (.int ((p1 ^^^ (-1 : Int32)) &&& (p1 - (1 : Int32)))), .val (.int (1 : Int32))] []))
      refine Go.st (fun t k => XS.iloadN X0.here hx rfl (hb hby d10_34) rfl k) ?_
      show Go p.tables e below PP (s₁.setTop (mkF m 35 #[.val (.int ((p1 ^^^ (-1 : Int32)) &&& (p1 - (1 : Int32)))), .val (.int (1 : Int32))] [(.int ((p1 ^^^ (-1 : Int32)) &&& (p1 - (1 : Int32))))]))
      refine Go.st (fun t k => XS.sipush X0.here hx rfl (hb hby d10_35) k) ?_
      show Go p.tables e below PP (s₁.setTop (mkF m 38 #[.val (.int ((p1 ^^^ (-1 : Int32)) &&& (p1 - (1 : Int32)))), .val (.int (1 : Int32))] [(.int (256 : Int32)), (.int ((p1 ^^^ (-1 : Int32)) &&& (p1 - (1 : Int32))))]))
      by_cases hc38 : (256 : Int32) < ((p1 ^^^ (-1 : Int32)) &&& (p1 - (1 : Int32)))
      · --
        refine Go.st (fun t k => XS.icmpNo X0.here hx rfl (hb hby d10_38) rfl (XT.ii_le_f hc38) k) ?_
        show Go p.tables e below PP (s₁.setTop (mkF m 41 #[.val (.int ((p1 ^^^ (-1 : Int32)) &&& (p1 - (1 : Int32)))), .val (.int (1 : Int32))] []))
        refine Go.st (fun t k => XS.iinc X0.here hx rfl (hb hby d10_41) rfl (l' := #[.val (.int ((p1 ^^^ (-1 : Int32)) &&& (p1 - (1 : Int32)))), .val (.int (9 : Int32))]) rfl k) ?_
        show Go p.tables e below PP (s₁.setTop (mkF m 44 #[.val (.int ((p1 ^^^ (-1 : Int32)) &&& (p1 - (1 : Int32)))), .val (.int (9 : Int32))] []))
        refine Go.st (fun t k => XS.iloadN X0.here hx rfl (hb hby d10_44) rfl k) ?_
        show Go p.tables e below PP (s₁.setTop (mkF m 45 #[.val (.int ((p1 ^^^ (-1 : Int32)) &&& (p1 - (1 : Int32)))), .val (.int (9 : Int32))] [(.int ((p1 ^^^ (-1 : Int32)) &&& (p1 - (1 : Int32))))]))
        refine Go.st (fun t k => XS.bipush X0.here hx rfl (hb hby d10_45) k) ?_
        show Go p.tables e below PP (s₁.setTop (mkF m 47 #[.val (.int ((p1 ^^^ (-1 : Int32)) &&& (p1 - (1 : Int32)))), .val (.int (9 : Int32))] [(.int (8 : Int32)), (.int ((p1 ^^^ (-1 : Int32)) &&& (p1 - (1 : Int32))))]))
        refine Go.st (fun t k => XS.iushr X0.here hx rfl (hb hby d10_47) rfl k) ?_
        show Go p.tables e below PP (s₁.setTop (mkF m 48 #[.val (.int ((p1 ^^^ (-1 : Int32)) &&& (p1 - (1 : Int32)))), .val (.int (9 : Int32))] [(.int ((((p1 ^^^ (-1 : Int32)) &&& (p1 - (1 : Int32))).toUInt32 >>> ((8 : Int32) &&& 31).toUInt32).toInt32))]))
        refine Go.st (fun t k => XS.istoreN X0.here hx rfl (hb hby d10_48) rfl (l' := #[.val (.int ((((p1 ^^^ (-1 : Int32)) &&& (p1 - (1 : Int32))).toUInt32 >>> ((8 : Int32) &&& 31).toUInt32).toInt32)), .val (.int (9 : Int32))]) rfl k) ?_
        show Go p.tables e below PP (s₁.setTop (mkF m 49 #[.val (.int ((((p1 ^^^ (-1 : Int32)) &&& (p1 - (1 : Int32))).toUInt32 >>> ((8 : Int32) &&& 31).toUInt32).toInt32)), .val (.int (9 : Int32))] []))
        refine Go.st (fun t k => XS.iloadN X0.here hx rfl (hb hby d10_49) rfl k) ?_
        show Go p.tables e below PP (s₁.setTop (mkF m 50 #[.val (.int ((((p1 ^^^ (-1 : Int32)) &&& (p1 - (1 : Int32))).toUInt32 >>> ((8 : Int32) &&& 31).toUInt32).toInt32)), .val (.int (9 : Int32))] [(.int ((((p1 ^^^ (-1 : Int32)) &&& (p1 - (1 : Int32))).toUInt32 >>> ((8 : Int32) &&& 31).toUInt32).toInt32))]))
        refine Go.st (fun t k => XS.bipush X0.here hx rfl (hb hby d10_50) k) ?_
        show Go p.tables e below PP (s₁.setTop (mkF m 52 #[.val (.int ((((p1 ^^^ (-1 : Int32)) &&& (p1 - (1 : Int32))).toUInt32 >>> ((8 : Int32) &&& 31).toUInt32).toInt32)), .val (.int (9 : Int32))] [(.int (16 : Int32)), (.int ((((p1 ^^^ (-1 : Int32)) &&& (p1 - (1 : Int32))).toUInt32 >>> ((8 : Int32) &&& 31).toUInt32).toInt32))]))
        by_cases hc52 : (16 : Int32) < ((((p1 ^^^ (-1 : Int32)) &&& (p1 - (1 : Int32))).toUInt32 >>> ((8 : Int32) &&& 31).toUInt32).toInt32)
        · --
          refine Go.st (fun t k => XS.icmpNo X0.here hx rfl (hb hby d10_52) rfl (XT.ii_le_f hc52) k) ?_
          show Go p.tables e below PP (s₁.setTop (mkF m 55 #[.val (.int ((((p1 ^^^ (-1 : Int32)) &&& (p1 - (1 : Int32))).toUInt32 >>> ((8 : Int32) &&& 31).toUInt32).toInt32)), .val (.int (9 : Int32))] []))
          refine Go.st (fun t k => XS.iinc X0.here hx rfl (hb hby d10_55) rfl (l' := #[.val (.int ((((p1 ^^^ (-1 : Int32)) &&& (p1 - (1 : Int32))).toUInt32 >>> ((8 : Int32) &&& 31).toUInt32).toInt32)), .val (.int (13 : Int32))]) rfl k) ?_
          show Go p.tables e below PP (s₁.setTop (mkF m 58 #[.val (.int ((((p1 ^^^ (-1 : Int32)) &&& (p1 - (1 : Int32))).toUInt32 >>> ((8 : Int32) &&& 31).toUInt32).toInt32)), .val (.int (13 : Int32))] []))
          refine Go.st (fun t k => XS.iloadN X0.here hx rfl (hb hby d10_58) rfl k) ?_
          show Go p.tables e below PP (s₁.setTop (mkF m 59 #[.val (.int ((((p1 ^^^ (-1 : Int32)) &&& (p1 - (1 : Int32))).toUInt32 >>> ((8 : Int32) &&& 31).toUInt32).toInt32)), .val (.int (13 : Int32))] [(.int ((((p1 ^^^ (-1 : Int32)) &&& (p1 - (1 : Int32))).toUInt32 >>> ((8 : Int32) &&& 31).toUInt32).toInt32))]))
          refine Go.st (fun t k => XS.iconst X0.here hx rfl (hb hby d10_59) k) ?_
          show Go p.tables e below PP (s₁.setTop (mkF m 60 #[.val (.int ((((p1 ^^^ (-1 : Int32)) &&& (p1 - (1 : Int32))).toUInt32 >>> ((8 : Int32) &&& 31).toUInt32).toInt32)), .val (.int (13 : Int32))] [(.int (4 : Int32)), (.int ((((p1 ^^^ (-1 : Int32)) &&& (p1 - (1 : Int32))).toUInt32 >>> ((8 : Int32) &&& 31).toUInt32).toInt32))]))
          refine Go.st (fun t k => XS.iushr X0.here hx rfl (hb hby d10_60) rfl k) ?_
          show Go p.tables e below PP (s₁.setTop (mkF m 61 #[.val (.int ((((p1 ^^^ (-1 : Int32)) &&& (p1 - (1 : Int32))).toUInt32 >>> ((8 : Int32) &&& 31).toUInt32).toInt32)), .val (.int (13 : Int32))] [(.int ((((((p1 ^^^ (-1 : Int32)) &&& (p1 - (1 : Int32))).toUInt32 >>> ((8 : Int32) &&& 31).toUInt32).toInt32).toUInt32 >>> ((4 : Int32) &&& 31).toUInt32).toInt32))]))
          refine Go.st (fun t k => XS.istoreN X0.here hx rfl (hb hby d10_61) rfl (l' := #[.val (.int ((((((p1 ^^^ (-1 : Int32)) &&& (p1 - (1 : Int32))).toUInt32 >>> ((8 : Int32) &&& 31).toUInt32).toInt32).toUInt32 >>> ((4 : Int32) &&& 31).toUInt32).toInt32)), .val (.int (13 : Int32))]) rfl k) ?_
          show Go p.tables e below PP (s₁.setTop (mkF m 62 #[.val (.int ((((((p1 ^^^ (-1 : Int32)) &&& (p1 - (1 : Int32))).toUInt32 >>> ((8 : Int32) &&& 31).toUInt32).toInt32).toUInt32 >>> ((4 : Int32) &&& 31).toUInt32).toInt32)), .val (.int (13 : Int32))] []))
          refine Go.st (fun t k => XS.iloadN X0.here hx rfl (hb hby d10_62) rfl k) ?_
          show Go p.tables e below PP (s₁.setTop (mkF m 63 #[.val (.int ((((((p1 ^^^ (-1 : Int32)) &&& (p1 - (1 : Int32))).toUInt32 >>> ((8 : Int32) &&& 31).toUInt32).toInt32).toUInt32 >>> ((4 : Int32) &&& 31).toUInt32).toInt32)), .val (.int (13 : Int32))] [(.int ((((((p1 ^^^ (-1 : Int32)) &&& (p1 - (1 : Int32))).toUInt32 >>> ((8 : Int32) &&& 31).toUInt32).toInt32).toUInt32 >>> ((4 : Int32) &&& 31).toUInt32).toInt32))]))
          refine Go.st (fun t k => XS.iconst X0.here hx rfl (hb hby d10_63) k) ?_
          show Go p.tables e below PP (s₁.setTop (mkF m 64 #[.val (.int ((((((p1 ^^^ (-1 : Int32)) &&& (p1 - (1 : Int32))).toUInt32 >>> ((8 : Int32) &&& 31).toUInt32).toInt32).toUInt32 >>> ((4 : Int32) &&& 31).toUInt32).toInt32)), .val (.int (13 : Int32))] [(.int (4 : Int32)), (.int ((((((p1 ^^^ (-1 : Int32)) &&& (p1 - (1 : Int32))).toUInt32 >>> ((8 : Int32) &&& 31).toUInt32).toInt32).toUInt32 >>> ((4 : Int32) &&& 31).toUInt32).toInt32))]))
          by_cases hc64 : (4 : Int32) < ((((((p1 ^^^ (-1 : Int32)) &&& (p1 - (1 : Int32))).toUInt32 >>> ((8 : Int32) &&& 31).toUInt32).toInt32).toUInt32 >>> ((4 : Int32) &&& 31).toUInt32).toInt32)
          · --
            refine Go.st (fun t k => XS.icmpNo X0.here hx rfl (hb hby d10_64) rfl (XT.ii_le_f hc64) k) ?_
            show Go p.tables e below PP (s₁.setTop (mkF m 67 #[.val (.int ((((((p1 ^^^ (-1 : Int32)) &&& (p1 - (1 : Int32))).toUInt32 >>> ((8 : Int32) &&& 31).toUInt32).toInt32).toUInt32 >>> ((4 : Int32) &&& 31).toUInt32).toInt32)), .val (.int (13 : Int32))] []))
            refine Go.st (fun t k => XS.iinc X0.here hx rfl (hb hby d10_67) rfl (l' := #[.val (.int ((((((p1 ^^^ (-1 : Int32)) &&& (p1 - (1 : Int32))).toUInt32 >>> ((8 : Int32) &&& 31).toUInt32).toInt32).toUInt32 >>> ((4 : Int32) &&& 31).toUInt32).toInt32)), .val (.int (15 : Int32))]) rfl k) ?_
            show Go p.tables e below PP (s₁.setTop (mkF m 70 #[.val (.int ((((((p1 ^^^ (-1 : Int32)) &&& (p1 - (1 : Int32))).toUInt32 >>> ((8 : Int32) &&& 31).toUInt32).toInt32).toUInt32 >>> ((4 : Int32) &&& 31).toUInt32).toInt32)), .val (.int (15 : Int32))] []))
            refine Go.st (fun t k => XS.iloadN X0.here hx rfl (hb hby d10_70) rfl k) ?_
            show Go p.tables e below PP (s₁.setTop (mkF m 71 #[.val (.int ((((((p1 ^^^ (-1 : Int32)) &&& (p1 - (1 : Int32))).toUInt32 >>> ((8 : Int32) &&& 31).toUInt32).toInt32).toUInt32 >>> ((4 : Int32) &&& 31).toUInt32).toInt32)), .val (.int (15 : Int32))] [(.int ((((((p1 ^^^ (-1 : Int32)) &&& (p1 - (1 : Int32))).toUInt32 >>> ((8 : Int32) &&& 31).toUInt32).toInt32).toUInt32 >>> ((4 : Int32) &&& 31).toUInt32).toInt32))]))
            refine Go.st (fun t k => XS.iconst X0.here hx rfl (hb hby d10_71) k) ?_
            show Go p.tables e below PP (s₁.setTop (mkF m 72 #[.val (.int ((((((p1 ^^^ (-1 : Int32)) &&& (p1 - (1 : Int32))).toUInt32 >>> ((8 : Int32) &&& 31).toUInt32).toInt32).toUInt32 >>> ((4 : Int32) &&& 31).toUInt32).toInt32)), .val (.int (15 : Int32))] [(.int (2 : Int32)), (.int ((((((p1 ^^^ (-1 : Int32)) &&& (p1 - (1 : Int32))).toUInt32 >>> ((8 : Int32) &&& 31).toUInt32).toInt32).toUInt32 >>> ((4 : Int32) &&& 31).toUInt32).toInt32))]))
            refine Go.st (fun t k => XS.iushr X0.here hx rfl (hb hby d10_72) rfl k) ?_
            show Go p.tables e below PP (s₁.setTop (mkF m 73 #[.val (.int ((((((p1 ^^^ (-1 : Int32)) &&& (p1 - (1 : Int32))).toUInt32 >>> ((8 : Int32) &&& 31).toUInt32).toInt32).toUInt32 >>> ((4 : Int32) &&& 31).toUInt32).toInt32)), .val (.int (15 : Int32))] [(.int ((((((((p1 ^^^ (-1 : Int32)) &&& (p1 - (1 : Int32))).toUInt32 >>> ((8 : Int32) &&& 31).toUInt32).toInt32).toUInt32 >>> ((4 : Int32) &&& 31).toUInt32).toInt32).toUInt32 >>> ((2 : Int32) &&& 31).toUInt32).toInt32))]))
            refine Go.st (fun t k => XS.istoreN X0.here hx rfl (hb hby d10_73) rfl (l' := #[.val (.int ((((((((p1 ^^^ (-1 : Int32)) &&& (p1 - (1 : Int32))).toUInt32 >>> ((8 : Int32) &&& 31).toUInt32).toInt32).toUInt32 >>> ((4 : Int32) &&& 31).toUInt32).toInt32).toUInt32 >>> ((2 : Int32) &&& 31).toUInt32).toInt32)), .val (.int (15 : Int32))]) rfl k) ?_
            show Go p.tables e below PP (s₁.setTop (mkF m 74 #[.val (.int ((((((((p1 ^^^ (-1 : Int32)) &&& (p1 - (1 : Int32))).toUInt32 >>> ((8 : Int32) &&& 31).toUInt32).toInt32).toUInt32 >>> ((4 : Int32) &&& 31).toUInt32).toInt32).toUInt32 >>> ((2 : Int32) &&& 31).toUInt32).toInt32)), .val (.int (15 : Int32))] []))
            refine Go.st (fun t k => XS.iloadN X0.here hx rfl (hb hby d10_74) rfl k) ?_
            show Go p.tables e below PP (s₁.setTop (mkF m 75 #[.val (.int ((((((((p1 ^^^ (-1 : Int32)) &&& (p1 - (1 : Int32))).toUInt32 >>> ((8 : Int32) &&& 31).toUInt32).toInt32).toUInt32 >>> ((4 : Int32) &&& 31).toUInt32).toInt32).toUInt32 >>> ((2 : Int32) &&& 31).toUInt32).toInt32)), .val (.int (15 : Int32))] [(.int (15 : Int32))]))
            refine Go.st (fun t k => XS.iloadN X0.here hx rfl (hb hby d10_75) rfl k) ?_
            show Go p.tables e below PP (s₁.setTop (mkF m 76 #[.val (.int ((((((((p1 ^^^ (-1 : Int32)) &&& (p1 - (1 : Int32))).toUInt32 >>> ((8 : Int32) &&& 31).toUInt32).toInt32).toUInt32 >>> ((4 : Int32) &&& 31).toUInt32).toInt32).toUInt32 >>> ((2 : Int32) &&& 31).toUInt32).toInt32)), .val (.int (15 : Int32))] [(.int ((((((((p1 ^^^ (-1 : Int32)) &&& (p1 - (1 : Int32))).toUInt32 >>> ((8 : Int32) &&& 31).toUInt32).toInt32).toUInt32 >>> ((4 : Int32) &&& 31).toUInt32).toInt32).toUInt32 >>> ((2 : Int32) &&& 31).toUInt32).toInt32)), (.int (15 : Int32))]))
            refine Go.st (fun t k => XS.iconst X0.here hx rfl (hb hby d10_76) k) ?_
            show Go p.tables e below PP (s₁.setTop (mkF m 77 #[.val (.int ((((((((p1 ^^^ (-1 : Int32)) &&& (p1 - (1 : Int32))).toUInt32 >>> ((8 : Int32) &&& 31).toUInt32).toInt32).toUInt32 >>> ((4 : Int32) &&& 31).toUInt32).toInt32).toUInt32 >>> ((2 : Int32) &&& 31).toUInt32).toInt32)), .val (.int (15 : Int32))] [(.int (1 : Int32)), (.int ((((((((p1 ^^^ (-1 : Int32)) &&& (p1 - (1 : Int32))).toUInt32 >>> ((8 : Int32) &&& 31).toUInt32).toInt32).toUInt32 >>> ((4 : Int32) &&& 31).toUInt32).toInt32).toUInt32 >>> ((2 : Int32) &&& 31).toUInt32).toInt32)), (.int (15 : Int32))]))
            refine Go.st (fun t k => XS.iushr X0.here hx rfl (hb hby d10_77) rfl k) ?_
            show Go p.tables e below PP (s₁.setTop (mkF m 78 #[.val (.int ((((((((p1 ^^^ (-1 : Int32)) &&& (p1 - (1 : Int32))).toUInt32 >>> ((8 : Int32) &&& 31).toUInt32).toInt32).toUInt32 >>> ((4 : Int32) &&& 31).toUInt32).toInt32).toUInt32 >>> ((2 : Int32) &&& 31).toUInt32).toInt32)), .val (.int (15 : Int32))] [(.int ((((((((((p1 ^^^ (-1 : Int32)) &&& (p1 - (1 : Int32))).toUInt32 >>> ((8 : Int32) &&& 31).toUInt32).toInt32).toUInt32 >>> ((4 : Int32) &&& 31).toUInt32).toInt32).toUInt32 >>> ((2 : Int32) &&& 31).toUInt32).toInt32).toUInt32 >>> ((1 : Int32) &&& 31).toUInt32).toInt32)), (.int (15 : Int32))]))
            refine Go.st (fun t k => XS.iadd X0.here hx rfl (hb hby d10_78) rfl k) ?_
            show Go p.tables e below PP (s₁.setTop (mkF m 79 #[.val (.int ((((((((p1 ^^^ (-1 : Int32)) &&& (p1 - (1 : Int32))).toUInt32 >>> ((8 : Int32) &&& 31).toUInt32).toInt32).toUInt32 >>> ((4 : Int32) &&& 31).toUInt32).toInt32).toUInt32 >>> ((2 : Int32) &&& 31).toUInt32).toInt32)), .val (.int (15 : Int32))] [(.int ((15 : Int32) + ((((((((((p1 ^^^ (-1 : Int32)) &&& (p1 - (1 : Int32))).toUInt32 >>> ((8 : Int32) &&& 31).toUInt32).toInt32).toUInt32 >>> ((4 : Int32) &&& 31).toUInt32).toInt32).toUInt32 >>> ((2 : Int32) &&& 31).toUInt32).toInt32).toUInt32 >>> ((1 : Int32) &&& 31).toUInt32).toInt32)))]))
            rw [hPP]
            refine endI X0 hx hlk hret (hb hby d10_79) ?_ (by decide) (by decide)
            show Q10 Z p1 h0 n0 (some (.int ((15 : Int32) + ((((((((((p1 ^^^ (-1 : Int32)) &&& (p1 - (1 : Int32))).toUInt32 >>> ((8 : Int32) &&& 31).toUInt32).toInt32).toUInt32 >>> ((4 : Int32) &&& 31).toUInt32).toInt32).toUInt32 >>> ((2 : Int32) &&& 31).toUInt32).toInt32).toUInt32 >>> ((1 : Int32) &&& 31).toUInt32).toInt32)))) s₁.heap _
            rw [e0]
            exact ⟨by simp only [ntzI, nzG, nz0_1, nz1_1, nz2_9, nz3_13, nz4_15, hc9, hc23, hc38, hc52, hc64, if_true, if_false], rfl, rfl⟩
          · --
            refine Go.st (fun t k => XS.icmpYes X0.here hx rfl (pc0 := 64) (pc' := 74) rfl (hb hby d10_64) rfl (XT.ii_le_t hc64) (by decide) (by decide) k) ?_
            show Go p.tables e below PP (s₁.setTop (mkF m 74 #[.val (.int ((((((p1 ^^^ (-1 : Int32)) &&& (p1 - (1 : Int32))).toUInt32 >>> ((8 : Int32) &&& 31).toUInt32).toInt32).toUInt32 >>> ((4 : Int32) &&& 31).toUInt32).toInt32)), .val (.int (13 : Int32))] []))
            refine Go.st (fun t k => XS.iloadN X0.here hx rfl (hb hby d10_74) rfl k) ?_
            show Go p.tables e below PP (s₁.setTop (mkF m 75 #[.val (.int ((((((p1 ^^^ (-1 : Int32)) &&& (p1 - (1 : Int32))).toUInt32 >>> ((8 : Int32) &&& 31).toUInt32).toInt32).toUInt32 >>> ((4 : Int32) &&& 31).toUInt32).toInt32)), .val (.int (13 : Int32))] [(.int (13 : Int32))]))
            refine Go.st (fun t k => XS.iloadN X0.here hx rfl (hb hby d10_75) rfl k) ?_
            show Go p.tables e below PP (s₁.setTop (mkF m 76 #[.val (.int ((((((p1 ^^^ (-1 : Int32)) &&& (p1 - (1 : Int32))).toUInt32 >>> ((8 : Int32) &&& 31).toUInt32).toInt32).toUInt32 >>> ((4 : Int32) &&& 31).toUInt32).toInt32)), .val (.int (13 : Int32))] [(.int ((((((p1 ^^^ (-1 : Int32)) &&& (p1 - (1 : Int32))).toUInt32 >>> ((8 : Int32) &&& 31).toUInt32).toInt32).toUInt32 >>> ((4 : Int32) &&& 31).toUInt32).toInt32)), (.int (13 : Int32))]))
            refine Go.st (fun t k => XS.iconst X0.here hx rfl (hb hby d10_76) k) ?_
            show Go p.tables e below PP (s₁.setTop (mkF m 77 #[.val (.int ((((((p1 ^^^ (-1 : Int32)) &&& (p1 - (1 : Int32))).toUInt32 >>> ((8 : Int32) &&& 31).toUInt32).toInt32).toUInt32 >>> ((4 : Int32) &&& 31).toUInt32).toInt32)), .val (.int (13 : Int32))] [(.int (1 : Int32)), (.int ((((((p1 ^^^ (-1 : Int32)) &&& (p1 - (1 : Int32))).toUInt32 >>> ((8 : Int32) &&& 31).toUInt32).toInt32).toUInt32 >>> ((4 : Int32) &&& 31).toUInt32).toInt32)), (.int (13 : Int32))]))
            refine Go.st (fun t k => XS.iushr X0.here hx rfl (hb hby d10_77) rfl k) ?_
            show Go p.tables e below PP (s₁.setTop (mkF m 78 #[.val (.int ((((((p1 ^^^ (-1 : Int32)) &&& (p1 - (1 : Int32))).toUInt32 >>> ((8 : Int32) &&& 31).toUInt32).toInt32).toUInt32 >>> ((4 : Int32) &&& 31).toUInt32).toInt32)), .val (.int (13 : Int32))] [(.int ((((((((p1 ^^^ (-1 : Int32)) &&& (p1 - (1 : Int32))).toUInt32 >>> ((8 : Int32) &&& 31).toUInt32).toInt32).toUInt32 >>> ((4 : Int32) &&& 31).toUInt32).toInt32).toUInt32 >>> ((1 : Int32) &&& 31).toUInt32).toInt32)), (.int (13 : Int32))]))
            refine Go.st (fun t k => XS.iadd X0.here hx rfl (hb hby d10_78) rfl k) ?_
            show Go p.tables e below PP (s₁.setTop (mkF m 79 #[.val (.int ((((((p1 ^^^ (-1 : Int32)) &&& (p1 - (1 : Int32))).toUInt32 >>> ((8 : Int32) &&& 31).toUInt32).toInt32).toUInt32 >>> ((4 : Int32) &&& 31).toUInt32).toInt32)), .val (.int (13 : Int32))] [(.int ((13 : Int32) + ((((((((p1 ^^^ (-1 : Int32)) &&& (p1 - (1 : Int32))).toUInt32 >>> ((8 : Int32) &&& 31).toUInt32).toInt32).toUInt32 >>> ((4 : Int32) &&& 31).toUInt32).toInt32).toUInt32 >>> ((1 : Int32) &&& 31).toUInt32).toInt32)))]))
            rw [hPP]
            refine endI X0 hx hlk hret (hb hby d10_79) ?_ (by decide) (by decide)
            show Q10 Z p1 h0 n0 (some (.int ((13 : Int32) + ((((((((p1 ^^^ (-1 : Int32)) &&& (p1 - (1 : Int32))).toUInt32 >>> ((8 : Int32) &&& 31).toUInt32).toInt32).toUInt32 >>> ((4 : Int32) &&& 31).toUInt32).toInt32).toUInt32 >>> ((1 : Int32) &&& 31).toUInt32).toInt32)))) s₁.heap _
            rw [e0]
            exact ⟨by simp only [ntzI, nzG, nz0_1, nz1_1, nz2_9, nz3_13, nz4_13, hc9, hc23, hc38, hc52, hc64, if_true, if_false], rfl, rfl⟩
        · --
          refine Go.st (fun t k => XS.icmpYes X0.here hx rfl (pc0 := 52) (pc' := 62) rfl (hb hby d10_52) rfl (XT.ii_le_t hc52) (by decide) (by decide) k) ?_
          show Go p.tables e below PP (s₁.setTop (mkF m 62 #[.val (.int ((((p1 ^^^ (-1 : Int32)) &&& (p1 - (1 : Int32))).toUInt32 >>> ((8 : Int32) &&& 31).toUInt32).toInt32)), .val (.int (9 : Int32))] []))
          refine Go.st (fun t k => XS.iloadN X0.here hx rfl (hb hby d10_62) rfl k) ?_
          show Go p.tables e below PP (s₁.setTop (mkF m 63 #[.val (.int ((((p1 ^^^ (-1 : Int32)) &&& (p1 - (1 : Int32))).toUInt32 >>> ((8 : Int32) &&& 31).toUInt32).toInt32)), .val (.int (9 : Int32))] [(.int ((((p1 ^^^ (-1 : Int32)) &&& (p1 - (1 : Int32))).toUInt32 >>> ((8 : Int32) &&& 31).toUInt32).toInt32))]))
          refine Go.st (fun t k => XS.iconst X0.here hx rfl (hb hby d10_63) k) ?_
          show Go p.tables e below PP (s₁.setTop (mkF m 64 #[.val (.int ((((p1 ^^^ (-1 : Int32)) &&& (p1 - (1 : Int32))).toUInt32 >>> ((8 : Int32) &&& 31).toUInt32).toInt32)), .val (.int (9 : Int32))] [(.int (4 : Int32)), (.int ((((p1 ^^^ (-1 : Int32)) &&& (p1 - (1 : Int32))).toUInt32 >>> ((8 : Int32) &&& 31).toUInt32).toInt32))]))
          by_cases hc64 : (4 : Int32) < ((((p1 ^^^ (-1 : Int32)) &&& (p1 - (1 : Int32))).toUInt32 >>> ((8 : Int32) &&& 31).toUInt32).toInt32)
          · --
            refine Go.st (fun t k => XS.icmpNo X0.here hx rfl (hb hby d10_64) rfl (XT.ii_le_f hc64) k) ?_
            show Go p.tables e below PP (s₁.setTop (mkF m 67 #[.val (.int ((((p1 ^^^ (-1 : Int32)) &&& (p1 - (1 : Int32))).toUInt32 >>> ((8 : Int32) &&& 31).toUInt32).toInt32)), .val (.int (9 : Int32))] []))
            refine Go.st (fun t k => XS.iinc X0.here hx rfl (hb hby d10_67) rfl (l' := #[.val (.int ((((p1 ^^^ (-1 : Int32)) &&& (p1 - (1 : Int32))).toUInt32 >>> ((8 : Int32) &&& 31).toUInt32).toInt32)), .val (.int (11 : Int32))]) rfl k) ?_
            show Go p.tables e below PP (s₁.setTop (mkF m 70 #[.val (.int ((((p1 ^^^ (-1 : Int32)) &&& (p1 - (1 : Int32))).toUInt32 >>> ((8 : Int32) &&& 31).toUInt32).toInt32)), .val (.int (11 : Int32))] []))
            refine Go.st (fun t k => XS.iloadN X0.here hx rfl (hb hby d10_70) rfl k) ?_
            show Go p.tables e below PP (s₁.setTop (mkF m 71 #[.val (.int ((((p1 ^^^ (-1 : Int32)) &&& (p1 - (1 : Int32))).toUInt32 >>> ((8 : Int32) &&& 31).toUInt32).toInt32)), .val (.int (11 : Int32))] [(.int ((((p1 ^^^ (-1 : Int32)) &&& (p1 - (1 : Int32))).toUInt32 >>> ((8 : Int32) &&& 31).toUInt32).toInt32))]))
            refine Go.st (fun t k => XS.iconst X0.here hx rfl (hb hby d10_71) k) ?_
            show Go p.tables e below PP (s₁.setTop (mkF m 72 #[.val (.int ((((p1 ^^^ (-1 : Int32)) &&& (p1 - (1 : Int32))).toUInt32 >>> ((8 : Int32) &&& 31).toUInt32).toInt32)), .val (.int (11 : Int32))] [(.int (2 : Int32)), (.int ((((p1 ^^^ (-1 : Int32)) &&& (p1 - (1 : Int32))).toUInt32 >>> ((8 : Int32) &&& 31).toUInt32).toInt32))]))
            refine Go.st (fun t k => XS.iushr X0.here hx rfl (hb hby d10_72) rfl k) ?_
            show Go p.tables e below PP (s₁.setTop (mkF m 73 #[.val (.int ((((p1 ^^^ (-1 : Int32)) &&& (p1 - (1 : Int32))).toUInt32 >>> ((8 : Int32) &&& 31).toUInt32).toInt32)), .val (.int (11 : Int32))] [(.int ((((((p1 ^^^ (-1 : Int32)) &&& (p1 - (1 : Int32))).toUInt32 >>> ((8 : Int32) &&& 31).toUInt32).toInt32).toUInt32 >>> ((2 : Int32) &&& 31).toUInt32).toInt32))]))
            refine Go.st (fun t k => XS.istoreN X0.here hx rfl (hb hby d10_73) rfl (l' := #[.val (.int ((((((p1 ^^^ (-1 : Int32)) &&& (p1 - (1 : Int32))).toUInt32 >>> ((8 : Int32) &&& 31).toUInt32).toInt32).toUInt32 >>> ((2 : Int32) &&& 31).toUInt32).toInt32)), .val (.int (11 : Int32))]) rfl k) ?_
            show Go p.tables e below PP (s₁.setTop (mkF m 74 #[.val (.int ((((((p1 ^^^ (-1 : Int32)) &&& (p1 - (1 : Int32))).toUInt32 >>> ((8 : Int32) &&& 31).toUInt32).toInt32).toUInt32 >>> ((2 : Int32) &&& 31).toUInt32).toInt32)), .val (.int (11 : Int32))] []))
            refine Go.st (fun t k => XS.iloadN X0.here hx rfl (hb hby d10_74) rfl k) ?_
            show Go p.tables e below PP (s₁.setTop (mkF m 75 #[.val (.int ((((((p1 ^^^ (-1 : Int32)) &&& (p1 - (1 : Int32))).toUInt32 >>> ((8 : Int32) &&& 31).toUInt32).toInt32).toUInt32 >>> ((2 : Int32) &&& 31).toUInt32).toInt32)), .val (.int (11 : Int32))] [(.int (11 : Int32))]))
            refine Go.st (fun t k => XS.iloadN X0.here hx rfl (hb hby d10_75) rfl k) ?_
            show Go p.tables e below PP (s₁.setTop (mkF m 76 #[.val (.int ((((((p1 ^^^ (-1 : Int32)) &&& (p1 - (1 : Int32))).toUInt32 >>> ((8 : Int32) &&& 31).toUInt32).toInt32).toUInt32 >>> ((2 : Int32) &&& 31).toUInt32).toInt32)), .val (.int (11 : Int32))] [(.int ((((((p1 ^^^ (-1 : Int32)) &&& (p1 - (1 : Int32))).toUInt32 >>> ((8 : Int32) &&& 31).toUInt32).toInt32).toUInt32 >>> ((2 : Int32) &&& 31).toUInt32).toInt32)), (.int (11 : Int32))]))
            refine Go.st (fun t k => XS.iconst X0.here hx rfl (hb hby d10_76) k) ?_
            show Go p.tables e below PP (s₁.setTop (mkF m 77 #[.val (.int ((((((p1 ^^^ (-1 : Int32)) &&& (p1 - (1 : Int32))).toUInt32 >>> ((8 : Int32) &&& 31).toUInt32).toInt32).toUInt32 >>> ((2 : Int32) &&& 31).toUInt32).toInt32)), .val (.int (11 : Int32))] [(.int (1 : Int32)), (.int ((((((p1 ^^^ (-1 : Int32)) &&& (p1 - (1 : Int32))).toUInt32 >>> ((8 : Int32) &&& 31).toUInt32).toInt32).toUInt32 >>> ((2 : Int32) &&& 31).toUInt32).toInt32)), (.int (11 : Int32))]))
            refine Go.st (fun t k => XS.iushr X0.here hx rfl (hb hby d10_77) rfl k) ?_
            show Go p.tables e below PP (s₁.setTop (mkF m 78 #[.val (.int ((((((p1 ^^^ (-1 : Int32)) &&& (p1 - (1 : Int32))).toUInt32 >>> ((8 : Int32) &&& 31).toUInt32).toInt32).toUInt32 >>> ((2 : Int32) &&& 31).toUInt32).toInt32)), .val (.int (11 : Int32))] [(.int ((((((((p1 ^^^ (-1 : Int32)) &&& (p1 - (1 : Int32))).toUInt32 >>> ((8 : Int32) &&& 31).toUInt32).toInt32).toUInt32 >>> ((2 : Int32) &&& 31).toUInt32).toInt32).toUInt32 >>> ((1 : Int32) &&& 31).toUInt32).toInt32)), (.int (11 : Int32))]))
            refine Go.st (fun t k => XS.iadd X0.here hx rfl (hb hby d10_78) rfl k) ?_
            show Go p.tables e below PP (s₁.setTop (mkF m 79 #[.val (.int ((((((p1 ^^^ (-1 : Int32)) &&& (p1 - (1 : Int32))).toUInt32 >>> ((8 : Int32) &&& 31).toUInt32).toInt32).toUInt32 >>> ((2 : Int32) &&& 31).toUInt32).toInt32)), .val (.int (11 : Int32))] [(.int ((11 : Int32) + ((((((((p1 ^^^ (-1 : Int32)) &&& (p1 - (1 : Int32))).toUInt32 >>> ((8 : Int32) &&& 31).toUInt32).toInt32).toUInt32 >>> ((2 : Int32) &&& 31).toUInt32).toInt32).toUInt32 >>> ((1 : Int32) &&& 31).toUInt32).toInt32)))]))
            rw [hPP]
            refine endI X0 hx hlk hret (hb hby d10_79) ?_ (by decide) (by decide)
            show Q10 Z p1 h0 n0 (some (.int ((11 : Int32) + ((((((((p1 ^^^ (-1 : Int32)) &&& (p1 - (1 : Int32))).toUInt32 >>> ((8 : Int32) &&& 31).toUInt32).toInt32).toUInt32 >>> ((2 : Int32) &&& 31).toUInt32).toInt32).toUInt32 >>> ((1 : Int32) &&& 31).toUInt32).toInt32)))) s₁.heap _
            rw [e0]
            exact ⟨by simp only [ntzI, nzG, nz0_1, nz1_1, nz2_9, nz3_9, nz4_11, hc9, hc23, hc38, hc52, hc64, if_true, if_false], rfl, rfl⟩
          · --
            refine Go.st (fun t k => XS.icmpYes X0.here hx rfl (pc0 := 64) (pc' := 74) rfl (hb hby d10_64) rfl (XT.ii_le_t hc64) (by decide) (by decide) k) ?_
            show Go p.tables e below PP (s₁.setTop (mkF m 74 #[.val (.int ((((p1 ^^^ (-1 : Int32)) &&& (p1 - (1 : Int32))).toUInt32 >>> ((8 : Int32) &&& 31).toUInt32).toInt32)), .val (.int (9 : Int32))] []))
            refine Go.st (fun t k => XS.iloadN X0.here hx rfl (hb hby d10_74) rfl k) ?_
            show Go p.tables e below PP (s₁.setTop (mkF m 75 #[.val (.int ((((p1 ^^^ (-1 : Int32)) &&& (p1 - (1 : Int32))).toUInt32 >>> ((8 : Int32) &&& 31).toUInt32).toInt32)), .val (.int (9 : Int32))] [(.int (9 : Int32))]))
            refine Go.st (fun t k => XS.iloadN X0.here hx rfl (hb hby d10_75) rfl k) ?_
            show Go p.tables e below PP (s₁.setTop (mkF m 76 #[.val (.int ((((p1 ^^^ (-1 : Int32)) &&& (p1 - (1 : Int32))).toUInt32 >>> ((8 : Int32) &&& 31).toUInt32).toInt32)), .val (.int (9 : Int32))] [(.int ((((p1 ^^^ (-1 : Int32)) &&& (p1 - (1 : Int32))).toUInt32 >>> ((8 : Int32) &&& 31).toUInt32).toInt32)), (.int (9 : Int32))]))
            refine Go.st (fun t k => XS.iconst X0.here hx rfl (hb hby d10_76) k) ?_
            show Go p.tables e below PP (s₁.setTop (mkF m 77 #[.val (.int ((((p1 ^^^ (-1 : Int32)) &&& (p1 - (1 : Int32))).toUInt32 >>> ((8 : Int32) &&& 31).toUInt32).toInt32)), .val (.int (9 : Int32))] [(.int (1 : Int32)), (.int ((((p1 ^^^ (-1 : Int32)) &&& (p1 - (1 : Int32))).toUInt32 >>> ((8 : Int32) &&& 31).toUInt32).toInt32)), (.int (9 : Int32))]))
            refine Go.st (fun t k => XS.iushr X0.here hx rfl (hb hby d10_77) rfl k) ?_
            show Go p.tables e below PP (s₁.setTop (mkF m 78 #[.val (.int ((((p1 ^^^ (-1 : Int32)) &&& (p1 - (1 : Int32))).toUInt32 >>> ((8 : Int32) &&& 31).toUInt32).toInt32)), .val (.int (9 : Int32))] [(.int ((((((p1 ^^^ (-1 : Int32)) &&& (p1 - (1 : Int32))).toUInt32 >>> ((8 : Int32) &&& 31).toUInt32).toInt32).toUInt32 >>> ((1 : Int32) &&& 31).toUInt32).toInt32)), (.int (9 : Int32))]))
            refine Go.st (fun t k => XS.iadd X0.here hx rfl (hb hby d10_78) rfl k) ?_
            show Go p.tables e below PP (s₁.setTop (mkF m 79 #[.val (.int ((((p1 ^^^ (-1 : Int32)) &&& (p1 - (1 : Int32))).toUInt32 >>> ((8 : Int32) &&& 31).toUInt32).toInt32)), .val (.int (9 : Int32))] [(.int ((9 : Int32) + ((((((p1 ^^^ (-1 : Int32)) &&& (p1 - (1 : Int32))).toUInt32 >>> ((8 : Int32) &&& 31).toUInt32).toInt32).toUInt32 >>> ((1 : Int32) &&& 31).toUInt32).toInt32)))]))
            rw [hPP]
            refine endI X0 hx hlk hret (hb hby d10_79) ?_ (by decide) (by decide)
            show Q10 Z p1 h0 n0 (some (.int ((9 : Int32) + ((((((p1 ^^^ (-1 : Int32)) &&& (p1 - (1 : Int32))).toUInt32 >>> ((8 : Int32) &&& 31).toUInt32).toInt32).toUInt32 >>> ((1 : Int32) &&& 31).toUInt32).toInt32)))) s₁.heap _
            rw [e0]
            exact ⟨by simp only [ntzI, nzG, nz0_1, nz1_1, nz2_9, nz3_9, nz4_9, hc9, hc23, hc38, hc52, hc64, if_true, if_false], rfl, rfl⟩
      · --
        refine Go.st (fun t k => XS.icmpYes X0.here hx rfl (pc0 := 38) (pc' := 49) rfl (hb hby d10_38) rfl (XT.ii_le_t hc38) (by decide) (by decide) k) ?_
        show Go p.tables e below PP (s₁.setTop (mkF m 49 #[.val (.int ((p1 ^^^ (-1 : Int32)) &&& (p1 - (1 : Int32)))), .val (.int (1 : Int32))] []))
        refine Go.st (fun t k => XS.iloadN X0.here hx rfl (hb hby d10_49) rfl k) ?_
        show Go p.tables e below PP (s₁.setTop (mkF m 50 #[.val (.int ((p1 ^^^ (-1 : Int32)) &&& (p1 - (1 : Int32)))), .val (.int (1 : Int32))] [(.int ((p1 ^^^ (-1 : Int32)) &&& (p1 - (1 : Int32))))]))
        refine Go.st (fun t k => XS.bipush X0.here hx rfl (hb hby d10_50) k) ?_
        show Go p.tables e below PP (s₁.setTop (mkF m 52 #[.val (.int ((p1 ^^^ (-1 : Int32)) &&& (p1 - (1 : Int32)))), .val (.int (1 : Int32))] [(.int (16 : Int32)), (.int ((p1 ^^^ (-1 : Int32)) &&& (p1 - (1 : Int32))))]))
        by_cases hc52 : (16 : Int32) < ((p1 ^^^ (-1 : Int32)) &&& (p1 - (1 : Int32)))
        · --
          refine Go.st (fun t k => XS.icmpNo X0.here hx rfl (hb hby d10_52) rfl (XT.ii_le_f hc52) k) ?_
          show Go p.tables e below PP (s₁.setTop (mkF m 55 #[.val (.int ((p1 ^^^ (-1 : Int32)) &&& (p1 - (1 : Int32)))), .val (.int (1 : Int32))] []))
          refine Go.st (fun t k => XS.iinc X0.here hx rfl (hb hby d10_55) rfl (l' := #[.val (.int ((p1 ^^^ (-1 : Int32)) &&& (p1 - (1 : Int32)))), .val (.int (5 : Int32))]) rfl k) ?_
          show Go p.tables e below PP (s₁.setTop (mkF m 58 #[.val (.int ((p1 ^^^ (-1 : Int32)) &&& (p1 - (1 : Int32)))), .val (.int (5 : Int32))] []))
          refine Go.st (fun t k => XS.iloadN X0.here hx rfl (hb hby d10_58) rfl k) ?_
          show Go p.tables e below PP (s₁.setTop (mkF m 59 #[.val (.int ((p1 ^^^ (-1 : Int32)) &&& (p1 - (1 : Int32)))), .val (.int (5 : Int32))] [(.int ((p1 ^^^ (-1 : Int32)) &&& (p1 - (1 : Int32))))]))
          refine Go.st (fun t k => XS.iconst X0.here hx rfl (hb hby d10_59) k) ?_
          show Go p.tables e below PP (s₁.setTop (mkF m 60 #[.val (.int ((p1 ^^^ (-1 : Int32)) &&& (p1 - (1 : Int32)))), .val (.int (5 : Int32))] [(.int (4 : Int32)), (.int ((p1 ^^^ (-1 : Int32)) &&& (p1 - (1 : Int32))))]))
          refine Go.st (fun t k => XS.iushr X0.here hx rfl (hb hby d10_60) rfl k) ?_
          show Go p.tables e below PP (s₁.setTop (mkF m 61 #[.val (.int ((p1 ^^^ (-1 : Int32)) &&& (p1 - (1 : Int32)))), .val (.int (5 : Int32))] [(.int ((((p1 ^^^ (-1 : Int32)) &&& (p1 - (1 : Int32))).toUInt32 >>> ((4 : Int32) &&& 31).toUInt32).toInt32))]))
          refine Go.st (fun t k => XS.istoreN X0.here hx rfl (hb hby d10_61) rfl (l' := #[.val (.int ((((p1 ^^^ (-1 : Int32)) &&& (p1 - (1 : Int32))).toUInt32 >>> ((4 : Int32) &&& 31).toUInt32).toInt32)), .val (.int (5 : Int32))]) rfl k) ?_
          show Go p.tables e below PP (s₁.setTop (mkF m 62 #[.val (.int ((((p1 ^^^ (-1 : Int32)) &&& (p1 - (1 : Int32))).toUInt32 >>> ((4 : Int32) &&& 31).toUInt32).toInt32)), .val (.int (5 : Int32))] []))
          refine Go.st (fun t k => XS.iloadN X0.here hx rfl (hb hby d10_62) rfl k) ?_
          show Go p.tables e below PP (s₁.setTop (mkF m 63 #[.val (.int ((((p1 ^^^ (-1 : Int32)) &&& (p1 - (1 : Int32))).toUInt32 >>> ((4 : Int32) &&& 31).toUInt32).toInt32)), .val (.int (5 : Int32))] [(.int ((((p1 ^^^ (-1 : Int32)) &&& (p1 - (1 : Int32))).toUInt32 >>> ((4 : Int32) &&& 31).toUInt32).toInt32))]))
          refine Go.st (fun t k => XS.iconst X0.here hx rfl (hb hby d10_63) k) ?_
          show Go p.tables e below PP (s₁.setTop (mkF m 64 #[.val (.int ((((p1 ^^^ (-1 : Int32)) &&& (p1 - (1 : Int32))).toUInt32 >>> ((4 : Int32) &&& 31).toUInt32).toInt32)), .val (.int (5 : Int32))] [(.int (4 : Int32)), (.int ((((p1 ^^^ (-1 : Int32)) &&& (p1 - (1 : Int32))).toUInt32 >>> ((4 : Int32) &&& 31).toUInt32).toInt32))]))
          by_cases hc64 : (4 : Int32) < ((((p1 ^^^ (-1 : Int32)) &&& (p1 - (1 : Int32))).toUInt32 >>> ((4 : Int32) &&& 31).toUInt32).toInt32)
          · --
            refine Go.st (fun t k => XS.icmpNo X0.here hx rfl (hb hby d10_64) rfl (XT.ii_le_f hc64) k) ?_
            show Go p.tables e below PP (s₁.setTop (mkF m 67 #[.val (.int ((((p1 ^^^ (-1 : Int32)) &&& (p1 - (1 : Int32))).toUInt32 >>> ((4 : Int32) &&& 31).toUInt32).toInt32)), .val (.int (5 : Int32))] []))
            refine Go.st (fun t k => XS.iinc X0.here hx rfl (hb hby d10_67) rfl (l' := #[.val (.int ((((p1 ^^^ (-1 : Int32)) &&& (p1 - (1 : Int32))).toUInt32 >>> ((4 : Int32) &&& 31).toUInt32).toInt32)), .val (.int (7 : Int32))]) rfl k) ?_
            show Go p.tables e below PP (s₁.setTop (mkF m 70 #[.val (.int ((((p1 ^^^ (-1 : Int32)) &&& (p1 - (1 : Int32))).toUInt32 >>> ((4 : Int32) &&& 31).toUInt32).toInt32)), .val (.int (7 : Int32))] []))
            refine Go.st (fun t k => XS.iloadN X0.here hx rfl (hb hby d10_70) rfl k) ?_
            show Go p.tables e below PP (s₁.setTop (mkF m 71 #[.val (.int ((((p1 ^^^ (-1 : Int32)) &&& (p1 - (1 : Int32))).toUInt32 >>> ((4 : Int32) &&& 31).toUInt32).toInt32)), .val (.int (7 : Int32))] [(.int ((((p1 ^^^ (-1 : Int32)) &&& (p1 - (1 : Int32))).toUInt32 >>> ((4 : Int32) &&& 31).toUInt32).toInt32))]))
            refine Go.st (fun t k => XS.iconst X0.here hx rfl (hb hby d10_71) k) ?_
            show Go p.tables e below PP (s₁.setTop (mkF m 72 #[.val (.int ((((p1 ^^^ (-1 : Int32)) &&& (p1 - (1 : Int32))).toUInt32 >>> ((4 : Int32) &&& 31).toUInt32).toInt32)), .val (.int (7 : Int32))] [(.int (2 : Int32)), (.int ((((p1 ^^^ (-1 : Int32)) &&& (p1 - (1 : Int32))).toUInt32 >>> ((4 : Int32) &&& 31).toUInt32).toInt32))]))
            refine Go.st (fun t k => XS.iushr X0.here hx rfl (hb hby d10_72) rfl k) ?_
            show Go p.tables e below PP (s₁.setTop (mkF m 73 #[.val (.int ((((p1 ^^^ (-1 : Int32)) &&& (p1 - (1 : Int32))).toUInt32 >>> ((4 : Int32) &&& 31).toUInt32).toInt32)), .val (.int (7 : Int32))] [(.int ((((((p1 ^^^ (-1 : Int32)) &&& (p1 - (1 : Int32))).toUInt32 >>> ((4 : Int32) &&& 31).toUInt32).toInt32).toUInt32 >>> ((2 : Int32) &&& 31).toUInt32).toInt32))]))
            refine Go.st (fun t k => XS.istoreN X0.here hx rfl (hb hby d10_73) rfl (l' := #[.val (.int ((((((p1 ^^^ (-1 : Int32)) &&& (p1 - (1 : Int32))).toUInt32 >>> ((4 : Int32) &&& 31).toUInt32).toInt32).toUInt32 >>> ((2 : Int32) &&& 31).toUInt32).toInt32)), .val (.int (7 : Int32))]) rfl k) ?_
            show Go p.tables e below PP (s₁.setTop (mkF m 74 #[.val (.int ((((((p1 ^^^ (-1 : Int32)) &&& (p1 - (1 : Int32))).toUInt32 >>> ((4 : Int32) &&& 31).toUInt32).toInt32).toUInt32 >>> ((2 : Int32) &&& 31).toUInt32).toInt32)), .val (.int (7 : Int32))] []))
            refine Go.st (fun t k => XS.iloadN X0.here hx rfl (hb hby d10_74) rfl k) ?_
            show Go p.tables e below PP (s₁.setTop (mkF m 75 #[.val (.int ((((((p1 ^^^ (-1 : Int32)) &&& (p1 - (1 : Int32))).toUInt32 >>> ((4 : Int32) &&& 31).toUInt32).toInt32).toUInt32 >>> ((2 : Int32) &&& 31).toUInt32).toInt32)), .val (.int (7 : Int32))] [(.int (7 : Int32))]))
            refine Go.st (fun t k => XS.iloadN X0.here hx rfl (hb hby d10_75) rfl k) ?_
            show Go p.tables e below PP (s₁.setTop (mkF m 76 #[.val (.int ((((((p1 ^^^ (-1 : Int32)) &&& (p1 - (1 : Int32))).toUInt32 >>> ((4 : Int32) &&& 31).toUInt32).toInt32).toUInt32 >>> ((2 : Int32) &&& 31).toUInt32).toInt32)), .val (.int (7 : Int32))] [(.int ((((((p1 ^^^ (-1 : Int32)) &&& (p1 - (1 : Int32))).toUInt32 >>> ((4 : Int32) &&& 31).toUInt32).toInt32).toUInt32 >>> ((2 : Int32) &&& 31).toUInt32).toInt32)), (.int (7 : Int32))]))
            refine Go.st (fun t k => XS.iconst X0.here hx rfl (hb hby d10_76) k) ?_
            show Go p.tables e below PP (s₁.setTop (mkF m 77 #[.val (.int ((((((p1 ^^^ (-1 : Int32)) &&& (p1 - (1 : Int32))).toUInt32 >>> ((4 : Int32) &&& 31).toUInt32).toInt32).toUInt32 >>> ((2 : Int32) &&& 31).toUInt32).toInt32)), .val (.int (7 : Int32))] [(.int (1 : Int32)), (.int ((((((p1 ^^^ (-1 : Int32)) &&& (p1 - (1 : Int32))).toUInt32 >>> ((4 : Int32) &&& 31).toUInt32).toInt32).toUInt32 >>> ((2 : Int32) &&& 31).toUInt32).toInt32)), (.int (7 : Int32))]))
            refine Go.st (fun t k => XS.iushr X0.here hx rfl (hb hby d10_77) rfl k) ?_
            show Go p.tables e below PP (s₁.setTop (mkF m 78 #[.val (.int ((((((p1 ^^^ (-1 : Int32)) &&& (p1 - (1 : Int32))).toUInt32 >>> ((4 : Int32) &&& 31).toUInt32).toInt32).toUInt32 >>> ((2 : Int32) &&& 31).toUInt32).toInt32)), .val (.int (7 : Int32))] [(.int ((((((((p1 ^^^ (-1 : Int32)) &&& (p1 - (1 : Int32))).toUInt32 >>> ((4 : Int32) &&& 31).toUInt32).toInt32).toUInt32 >>> ((2 : Int32) &&& 31).toUInt32).toInt32).toUInt32 >>> ((1 : Int32) &&& 31).toUInt32).toInt32)), (.int (7 : Int32))]))
            refine Go.st (fun t k => XS.iadd X0.here hx rfl (hb hby d10_78) rfl k) ?_
            show Go p.tables e below PP (s₁.setTop (mkF m 79 #[.val (.int ((((((p1 ^^^ (-1 : Int32)) &&& (p1 - (1 : Int32))).toUInt32 >>> ((4 : Int32) &&& 31).toUInt32).toInt32).toUInt32 >>> ((2 : Int32) &&& 31).toUInt32).toInt32)), .val (.int (7 : Int32))] [(.int ((7 : Int32) + ((((((((p1 ^^^ (-1 : Int32)) &&& (p1 - (1 : Int32))).toUInt32 >>> ((4 : Int32) &&& 31).toUInt32).toInt32).toUInt32 >>> ((2 : Int32) &&& 31).toUInt32).toInt32).toUInt32 >>> ((1 : Int32) &&& 31).toUInt32).toInt32)))]))
            rw [hPP]
            refine endI X0 hx hlk hret (hb hby d10_79) ?_ (by decide) (by decide)
            show Q10 Z p1 h0 n0 (some (.int ((7 : Int32) + ((((((((p1 ^^^ (-1 : Int32)) &&& (p1 - (1 : Int32))).toUInt32 >>> ((4 : Int32) &&& 31).toUInt32).toInt32).toUInt32 >>> ((2 : Int32) &&& 31).toUInt32).toInt32).toUInt32 >>> ((1 : Int32) &&& 31).toUInt32).toInt32)))) s₁.heap _
            rw [e0]
            exact ⟨by simp only [ntzI, nzG, nz0_1, nz1_1, nz2_1, nz3_5, nz4_7, hc9, hc23, hc38, hc52, hc64, if_true, if_false], rfl, rfl⟩
          · --
            refine Go.st (fun t k => XS.icmpYes X0.here hx rfl (pc0 := 64) (pc' := 74) rfl (hb hby d10_64) rfl (XT.ii_le_t hc64) (by decide) (by decide) k) ?_
            show Go p.tables e below PP (s₁.setTop (mkF m 74 #[.val (.int ((((p1 ^^^ (-1 : Int32)) &&& (p1 - (1 : Int32))).toUInt32 >>> ((4 : Int32) &&& 31).toUInt32).toInt32)), .val (.int (5 : Int32))] []))
            refine Go.st (fun t k => XS.iloadN X0.here hx rfl (hb hby d10_74) rfl k) ?_
            show Go p.tables e below PP (s₁.setTop (mkF m 75 #[.val (.int ((((p1 ^^^ (-1 : Int32)) &&& (p1 - (1 : Int32))).toUInt32 >>> ((4 : Int32) &&& 31).toUInt32).toInt32)), .val (.int (5 : Int32))] [(.int (5 : Int32))]))
            refine Go.st (fun t k => XS.iloadN X0.here hx rfl (hb hby d10_75) rfl k) ?_
            show Go p.tables e below PP (s₁.setTop (mkF m 76 #[.val (.int ((((p1 ^^^ (-1 : Int32)) &&& (p1 - (1 : Int32))).toUInt32 >>> ((4 : Int32) &&& 31).toUInt32).toInt32)), .val (.int (5 : Int32))] [(.int ((((p1 ^^^ (-1 : Int32)) &&& (p1 - (1 : Int32))).toUInt32 >>> ((4 : Int32) &&& 31).toUInt32).toInt32)), (.int (5 : Int32))]))
            refine Go.st (fun t k => XS.iconst X0.here hx rfl (hb hby d10_76) k) ?_
            show Go p.tables e below PP (s₁.setTop (mkF m 77 #[.val (.int ((((p1 ^^^ (-1 : Int32)) &&& (p1 - (1 : Int32))).toUInt32 >>> ((4 : Int32) &&& 31).toUInt32).toInt32)), .val (.int (5 : Int32))] [(.int (1 : Int32)), (.int ((((p1 ^^^ (-1 : Int32)) &&& (p1 - (1 : Int32))).toUInt32 >>> ((4 : Int32) &&& 31).toUInt32).toInt32)), (.int (5 : Int32))]))
            refine Go.st (fun t k => XS.iushr X0.here hx rfl (hb hby d10_77) rfl k) ?_
            show Go p.tables e below PP (s₁.setTop (mkF m 78 #[.val (.int ((((p1 ^^^ (-1 : Int32)) &&& (p1 - (1 : Int32))).toUInt32 >>> ((4 : Int32) &&& 31).toUInt32).toInt32)), .val (.int (5 : Int32))] [(.int ((((((p1 ^^^ (-1 : Int32)) &&& (p1 - (1 : Int32))).toUInt32 >>> ((4 : Int32) &&& 31).toUInt32).toInt32).toUInt32 >>> ((1 : Int32) &&& 31).toUInt32).toInt32)), (.int (5 : Int32))]))
            refine Go.st (fun t k => XS.iadd X0.here hx rfl (hb hby d10_78) rfl k) ?_
            show Go p.tables e below PP (s₁.setTop (mkF m 79 #[.val (.int ((((p1 ^^^ (-1 : Int32)) &&& (p1 - (1 : Int32))).toUInt32 >>> ((4 : Int32) &&& 31).toUInt32).toInt32)), .val (.int (5 : Int32))] [(.int ((5 : Int32) + ((((((p1 ^^^ (-1 : Int32)) &&& (p1 - (1 : Int32))).toUInt32 >>> ((4 : Int32) &&& 31).toUInt32).toInt32).toUInt32 >>> ((1 : Int32) &&& 31).toUInt32).toInt32)))]))
            rw [hPP]
            refine endI X0 hx hlk hret (hb hby d10_79) ?_ (by decide) (by decide)
            show Q10 Z p1 h0 n0 (some (.int ((5 : Int32) + ((((((p1 ^^^ (-1 : Int32)) &&& (p1 - (1 : Int32))).toUInt32 >>> ((4 : Int32) &&& 31).toUInt32).toInt32).toUInt32 >>> ((1 : Int32) &&& 31).toUInt32).toInt32)))) s₁.heap _
            rw [e0]
            exact ⟨by simp only [ntzI, nzG, nz0_1, nz1_1, nz2_1, nz3_5, nz4_5, hc9, hc23, hc38, hc52, hc64, if_true, if_false], rfl, rfl⟩
        · --
          refine Go.st (fun t k => XS.icmpYes X0.here hx rfl (pc0 := 52) (pc' := 62) rfl (hb hby d10_52) rfl (XT.ii_le_t hc52) (by decide) (by decide) k) ?_
          show Go p.tables e below PP (s₁.setTop (mkF m 62 #[.val (.int ((p1 ^^^ (-1 : Int32)) &&& (p1 - (1 : Int32)))), .val (.int (1 : Int32))] []))
          refine Go.st (fun t k => XS.iloadN X0.here hx rfl (hb hby d10_62) rfl k) ?_
          show Go p.tables e below PP (s₁.setTop (mkF m 63 #[.val (.int ((p1 ^^^ (-1 : Int32)) &&& (p1 - (1 : Int32)))), .val (.int (1 : Int32))] [(.int ((p1 ^^^ (-1 : Int32)) &&& (p1 - (1 : Int32))))]))
          refine Go.st (fun t k => XS.iconst X0.here hx rfl (hb hby d10_63) k) ?_
          show Go p.tables e below PP (s₁.setTop (mkF m 64 #[.val (.int ((p1 ^^^ (-1 : Int32)) &&& (p1 - (1 : Int32)))), .val (.int (1 : Int32))] [(.int (4 : Int32)), (.int ((p1 ^^^ (-1 : Int32)) &&& (p1 - (1 : Int32))))]))
          by_cases hc64 : (4 : Int32) < ((p1 ^^^ (-1 : Int32)) &&& (p1 - (1 : Int32)))
          · --
            refine Go.st (fun t k => XS.icmpNo X0.here hx rfl (hb hby d10_64) rfl (XT.ii_le_f hc64) k) ?_
            show Go p.tables e below PP (s₁.setTop (mkF m 67 #[.val (.int ((p1 ^^^ (-1 : Int32)) &&& (p1 - (1 : Int32)))), .val (.int (1 : Int32))] []))
            refine Go.st (fun t k => XS.iinc X0.here hx rfl (hb hby d10_67) rfl (l' := #[.val (.int ((p1 ^^^ (-1 : Int32)) &&& (p1 - (1 : Int32)))), .val (.int (3 : Int32))]) rfl k) ?_
            show Go p.tables e below PP (s₁.setTop (mkF m 70 #[.val (.int ((p1 ^^^ (-1 : Int32)) &&& (p1 - (1 : Int32)))), .val (.int (3 : Int32))] []))
            refine Go.st (fun t k => XS.iloadN X0.here hx rfl (hb hby d10_70) rfl k) ?_
            show Go p.tables e below PP (s₁.setTop (mkF m 71 #[.val (.int ((p1 ^^^ (-1 : Int32)) &&& (p1 - (1 : Int32)))), .val (.int (3 : Int32))] [(.int ((p1 ^^^ (-1 : Int32)) &&& (p1 - (1 : Int32))))]))
            refine Go.st (fun t k => XS.iconst X0.here hx rfl (hb hby d10_71) k) ?_
            show Go p.tables e below PP (s₁.setTop (mkF m 72 #[.val (.int ((p1 ^^^ (-1 : Int32)) &&& (p1 - (1 : Int32)))), .val (.int (3 : Int32))] [(.int (2 : Int32)), (.int ((p1 ^^^ (-1 : Int32)) &&& (p1 - (1 : Int32))))]))
            refine Go.st (fun t k => XS.iushr X0.here hx rfl (hb hby d10_72) rfl k) ?_
            show Go p.tables e below PP (s₁.setTop (mkF m 73 #[.val (.int ((p1 ^^^ (-1 : Int32)) &&& (p1 - (1 : Int32)))), .val (.int (3 : Int32))] [(.int ((((p1 ^^^ (-1 : Int32)) &&& (p1 - (1 : Int32))).toUInt32 >>> ((2 : Int32) &&& 31).toUInt32).toInt32))]))
            refine Go.st (fun t k => XS.istoreN X0.here hx rfl (hb hby d10_73) rfl (l' := #[.val (.int ((((p1 ^^^ (-1 : Int32)) &&& (p1 - (1 : Int32))).toUInt32 >>> ((2 : Int32) &&& 31).toUInt32).toInt32)), .val (.int (3 : Int32))]) rfl k) ?_
            show Go p.tables e below PP (s₁.setTop (mkF m 74 #[.val (.int ((((p1 ^^^ (-1 : Int32)) &&& (p1 - (1 : Int32))).toUInt32 >>> ((2 : Int32) &&& 31).toUInt32).toInt32)), .val (.int (3 : Int32))] []))
            refine Go.st (fun t k => XS.iloadN X0.here hx rfl (hb hby d10_74) rfl k) ?_
            show Go p.tables e below PP (s₁.setTop (mkF m 75 #[.val (.int ((((p1 ^^^ (-1 : Int32)) &&& (p1 - (1 : Int32))).toUInt32 >>> ((2 : Int32) &&& 31).toUInt32).toInt32)), .val (.int (3 : Int32))] [(.int (3 : Int32))]))
            refine Go.st (fun t k => XS.iloadN X0.here hx rfl (hb hby d10_75) rfl k) ?_
            show Go p.tables e below PP (s₁.setTop (mkF m 76 #[.val (.int ((((p1 ^^^ (-1 : Int32)) &&& (p1 - (1 : Int32))).toUInt32 >>> ((2 : Int32) &&& 31).toUInt32).toInt32)), .val (.int (3 : Int32))] [(.int ((((p1 ^^^ (-1 : Int32)) &&& (p1 - (1 : Int32))).toUInt32 >>> ((2 : Int32) &&& 31).toUInt32).toInt32)), (.int (3 : Int32))]))
            refine Go.st (fun t k => XS.iconst X0.here hx rfl (hb hby d10_76) k) ?_
            show Go p.tables e below PP (s₁.setTop (mkF m 77 #[.val (.int ((((p1 ^^^ (-1 : Int32)) &&& (p1 - (1 : Int32))).toUInt32 >>> ((2 : Int32) &&& 31).toUInt32).toInt32)), .val (.int (3 : Int32))] [(.int (1 : Int32)), (.int ((((p1 ^^^ (-1 : Int32)) &&& (p1 - (1 : Int32))).toUInt32 >>> ((2 : Int32) &&& 31).toUInt32).toInt32)), (.int (3 : Int32))]))
            refine Go.st (fun t k => XS.iushr X0.here hx rfl (hb hby d10_77) rfl k) ?_
            show Go p.tables e below PP (s₁.setTop (mkF m 78 #[.val (.int ((((p1 ^^^ (-1 : Int32)) &&& (p1 - (1 : Int32))).toUInt32 >>> ((2 : Int32) &&& 31).toUInt32).toInt32)), .val (.int (3 : Int32))] [(.int ((((((p1 ^^^ (-1 : Int32)) &&& (p1 - (1 : Int32))).toUInt32 >>> ((2 : Int32) &&& 31).toUInt32).toInt32).toUInt32 >>> ((1 : Int32) &&& 31).toUInt32).toInt32)), (.int (3 : Int32))]))
            refine Go.st (fun t k => XS.iadd X0.here hx rfl (hb hby d10_78) rfl k) ?_
            show Go p.tables e below PP (s₁.setTop (mkF m 79 #[.val (.int ((((p1 ^^^ (-1 : Int32)) &&& (p1 - (1 : Int32))).toUInt32 >>> ((2 : Int32) &&& 31).toUInt32).toInt32)), .val (.int (3 : Int32))] [(.int ((3 : Int32) + ((((((p1 ^^^ (-1 : Int32)) &&& (p1 - (1 : Int32))).toUInt32 >>> ((2 : Int32) &&& 31).toUInt32).toInt32).toUInt32 >>> ((1 : Int32) &&& 31).toUInt32).toInt32)))]))
            rw [hPP]
            refine endI X0 hx hlk hret (hb hby d10_79) ?_ (by decide) (by decide)
            show Q10 Z p1 h0 n0 (some (.int ((3 : Int32) + ((((((p1 ^^^ (-1 : Int32)) &&& (p1 - (1 : Int32))).toUInt32 >>> ((2 : Int32) &&& 31).toUInt32).toInt32).toUInt32 >>> ((1 : Int32) &&& 31).toUInt32).toInt32)))) s₁.heap _
            rw [e0]
            exact ⟨by simp only [ntzI, nzG, nz0_1, nz1_1, nz2_1, nz3_1, nz4_3, hc9, hc23, hc38, hc52, hc64, if_true, if_false], rfl, rfl⟩
          · --
            refine Go.st (fun t k => XS.icmpYes X0.here hx rfl (pc0 := 64) (pc' := 74) rfl (hb hby d10_64) rfl (XT.ii_le_t hc64) (by decide) (by decide) k) ?_
            show Go p.tables e below PP (s₁.setTop (mkF m 74 #[.val (.int ((p1 ^^^ (-1 : Int32)) &&& (p1 - (1 : Int32)))), .val (.int (1 : Int32))] []))
            refine Go.st (fun t k => XS.iloadN X0.here hx rfl (hb hby d10_74) rfl k) ?_
            show Go p.tables e below PP (s₁.setTop (mkF m 75 #[.val (.int ((p1 ^^^ (-1 : Int32)) &&& (p1 - (1 : Int32)))), .val (.int (1 : Int32))] [(.int (1 : Int32))]))
            refine Go.st (fun t k => XS.iloadN X0.here hx rfl (hb hby d10_75) rfl k) ?_
            show Go p.tables e below PP (s₁.setTop (mkF m 76 #[.val (.int ((p1 ^^^ (-1 : Int32)) &&& (p1 - (1 : Int32)))), .val (.int (1 : Int32))] [(.int ((p1 ^^^ (-1 : Int32)) &&& (p1 - (1 : Int32)))), (.int (1 : Int32))]))
            refine Go.st (fun t k => XS.iconst X0.here hx rfl (hb hby d10_76) k) ?_
            show Go p.tables e below PP (s₁.setTop (mkF m 77 #[.val (.int ((p1 ^^^ (-1 : Int32)) &&& (p1 - (1 : Int32)))), .val (.int (1 : Int32))] [(.int (1 : Int32)), (.int ((p1 ^^^ (-1 : Int32)) &&& (p1 - (1 : Int32)))), (.int (1 : Int32))]))
            refine Go.st (fun t k => XS.iushr X0.here hx rfl (hb hby d10_77) rfl k) ?_
            show Go p.tables e below PP (s₁.setTop (mkF m 78 #[.val (.int ((p1 ^^^ (-1 : Int32)) &&& (p1 - (1 : Int32)))), .val (.int (1 : Int32))] [(.int ((((p1 ^^^ (-1 : Int32)) &&& (p1 - (1 : Int32))).toUInt32 >>> ((1 : Int32) &&& 31).toUInt32).toInt32)), (.int (1 : Int32))]))
            refine Go.st (fun t k => XS.iadd X0.here hx rfl (hb hby d10_78) rfl k) ?_
            show Go p.tables e below PP (s₁.setTop (mkF m 79 #[.val (.int ((p1 ^^^ (-1 : Int32)) &&& (p1 - (1 : Int32)))), .val (.int (1 : Int32))] [(.int ((1 : Int32) + ((((p1 ^^^ (-1 : Int32)) &&& (p1 - (1 : Int32))).toUInt32 >>> ((1 : Int32) &&& 31).toUInt32).toInt32)))]))
            rw [hPP]
            refine endI X0 hx hlk hret (hb hby d10_79) ?_ (by decide) (by decide)
            show Q10 Z p1 h0 n0 (some (.int ((1 : Int32) + ((((p1 ^^^ (-1 : Int32)) &&& (p1 - (1 : Int32))).toUInt32 >>> ((1 : Int32) &&& 31).toUInt32).toInt32)))) s₁.heap _
            rw [e0]
            exact ⟨by simp only [ntzI, nzG, nz0_1, nz1_1, nz2_1, nz3_1, nz4_1, hc9, hc23, hc38, hc52, hc64, if_true, if_false], rfl, rfl⟩
  · --
    refine Go.st (fun t k => XS.ifNo X0.here hx rfl (hb hby d10_9) rfl (XT.i0_gt_f hc9) k) ?_
    show Go p.tables e below PP (s₁.setTop (mkF m 12 #[.val (.int ((p1 ^^^ (-1 : Int32)) &&& (p1 - (1 : Int32)))), .unset] []))
    refine Go.st (fun t k => XS.iloadN X0.here hx rfl (hb hby d10_12) rfl k) ?_
    show Go p.tables e below PP (s₁.setTop (mkF m 13 #[.val (.int ((p1 ^^^ (-1 : Int32)) &&& (p1 - (1 : Int32)))), .unset] [(.int ((p1 ^^^ (-1 : Int32)) &&& (p1 - (1 : Int32))))]))
    refine Go.st (fun t k => XS.bipush X0.here hx rfl (hb hby d10_13) k) ?_
    show Go p.tables e below PP (s₁.setTop (mkF m 15 #[.val (.int ((p1 ^^^ (-1 : Int32)) &&& (p1 - (1 : Int32)))), .unset] [(.int (32 : Int32)), (.int ((p1 ^^^ (-1 : Int32)) &&& (p1 - (1 : Int32))))]))
    refine Go.st (fun t k => XS.iand X0.here hx rfl (hb hby d10_15) rfl k) ?_
    show Go p.tables e below PP (s₁.setTop (mkF m 16 #[.val (.int ((p1 ^^^ (-1 : Int32)) &&& (p1 - (1 : Int32)))), .unset] [(.int (((p1 ^^^ (-1 : Int32)) &&& (p1 - (1 : Int32))) &&& (32 : Int32)))]))
    rw [hPP]
    refine endI X0 hx hlk hret (hb hby d10_16) ?_ (by decide) (by decide)
    show Q10 Z p1 h0 n0 (some (.int (((p1 ^^^ (-1 : Int32)) &&& (p1 - (1 : Int32))) &&& (32 : Int32)))) s₁.heap _
    rw [e0]
    exact ⟨by simp only [ntzI, nzG, hc9, if_true, if_false], rfl, rfl⟩
theorem d9_0 : decode jdk_35_method_49_code 0 = .ok (.lload_n 0, 1) := by decide +kernel
theorem d9_1 : decode jdk_35_method_49_code 1 = .ok (.l2i, 1) := by decide +kernel
theorem d9_2 : decode jdk_35_method_49_code 2 = .ok (.istore_n 2, 1) := by decide +kernel
theorem d9_3 : decode jdk_35_method_49_code 3 = .ok (.iload_n 2, 1) := by decide +kernel
theorem d9_4 : decode jdk_35_method_49_code 4 = .ok (.ifCond .ne 17, 3) := by decide +kernel
theorem d9_7 : decode jdk_35_method_49_code 7 = .ok (.bipush 32, 2) := by decide +kernel
theorem d9_9 : decode jdk_35_method_49_code 9 = .ok (.lload_n 0, 1) := by decide +kernel
theorem d9_10 : decode jdk_35_method_49_code 10 = .ok (.bipush 32, 2) := by decide +kernel
theorem d9_12 : decode jdk_35_method_49_code 12 = .ok (.lushr, 1) := by decide +kernel
theorem d9_13 : decode jdk_35_method_49_code 13 = .ok (.l2i, 1) := by decide +kernel
theorem d9_14 : decode jdk_35_method_49_code 14 = .ok (.invokestatic 311, 3) := by decide +kernel
theorem d9_17 : decode jdk_35_method_49_code 17 = .ok (.iadd, 1) := by decide +kernel
theorem d9_18 : decode jdk_35_method_49_code 18 = .ok (.goto 7, 3) := by decide +kernel
theorem d9_21 : decode jdk_35_method_49_code 21 = .ok (.iload_n 2, 1) := by decide +kernel
theorem d9_22 : decode jdk_35_method_49_code 22 = .ok (.invokestatic 311, 3) := by decide +kernel
theorem d9_25 : decode jdk_35_method_49_code 25 = .ok (.ireturn, 1) := by decide +kernel
theorem pn_rm9 : plainName "java/lang/Long" = true := by first | (simp [plainName, overriddenIn]; done) | decide +kernel
theorem ef_rm9 (m : MethodId) (q1 : Int64) : entryFrame m #[(.long q1)] 3 = mkF m 0 #[.val (.long q1), .second, .unset] [] := by first | (simp [entryFrame, mkF, argsToLocals, Value.category]; done) | rfl
def Q9 (Z : State) (q1 : Int64) (h0 : Heap) (n0 : Nat) (v : Option Value) (h : Heap) (L : List Loc) : Prop := v = some (.int (ntzJ q1)) ∧ L = [] ∧ h = h0
theorem pd_0 : parseMethodDescriptor "(I)I" = some ⟨[.int], some .int⟩ := by decide +kernel
set_option maxRecDepth 65536 in
set_option maxHeartbeats 40000000 in
theorem rm9 (l : Launch) (Z : State) (a0 : Array Value) (hw : ∀ d ∈ tables_1, d.before a0 Z = true) (ws : List Jvm.Cond) (q1 : Int64) (h0 : Heap) (n0 : Nat) (Z0 : n0 ≤ h0.size) :
    Con l Z (⟨"java/lang/Long", "numberOfTrailingZeros", "(J)I"⟩ : MethodName) jdk_35_method_49_code 3 (some .int) ws ({ frames := 1, cells := 0, slots := 0, locals := 14 } : Room) #[(.long q1)] h0 (Q9 Z q1 h0 n0) := by
  refine Con.of (plainFor_of_name pn_rm9) ?_
  intro p e s m below meth c s₁ hZ e0 X0 hx hby hml hown hnm hret hlk
  replace hml : c.maxLocals = 3 := hml
  have hown : s.vm.findClass "java/lang/Long" = some m.cls := hown
  have N0 : Fr n0 [] := Fr.nil n0
  obtain ⟨PP, hPP⟩ : ∃ P, P = Fine s below (Q9 Z q1 h0 n0) ({ frames := 1, cells := 0, slots := 0, locals := 14 } : Room).cells ({ frames := 1, cells := 0, slots := 0, locals := 14 } : Room).slots := ⟨_, rfl⟩
  rw [← hPP]
  refine Go.cast (ef_rm9 m q1) ?_
  have Zn : n0 ≤ h0.size := Z0
  show Go p.tables e below PP (s₁.setTop (mkF m 0 #[.val (.long q1), .second, .unset] []))
  refine Go.st (fun t k => XS.lloadN X0.here hx rfl (hb hby d9_0) rfl k) ?_
  show Go p.tables e below PP (s₁.setTop (mkF m 1 #[.val (.long q1), .second, .unset] [(.long q1)]))
  refine Go.st (fun t k => XS.l2i X0.here hx rfl (hb hby d9_1) rfl k) ?_
  show Go p.tables e below PP (s₁.setTop (mkF m 2 #[.val (.long q1), .second, .unset] [(.int (q1.toInt32))]))
  refine Go.st (fun t k => XS.istoreN X0.here hx rfl (hb hby d9_2) rfl (l' := #[.val (.long q1), .second, .val (.int (q1.toInt32))]) rfl k) ?_
  show Go p.tables e below PP (s₁.setTop (mkF m 3 #[.val (.long q1), .second, .val (.int (q1.toInt32))] []))
  refine Go.st (fun t k => XS.iloadN X0.here hx rfl (hb hby d9_3) rfl k) ?_
  show Go p.tables e below PP (s₁.setTop (mkF m 4 #[.val (.long q1), .second, .val (.int (q1.toInt32))] [(.int (q1.toInt32))]))
  by_cases hc4 : (q1.toInt32) = (0 : Int32)
  · --
    refine Go.st (fun t k => XS.ifNo X0.here hx rfl (hb hby d9_4) rfl (XT.i0_ne_f hc4) k) ?_
    show Go p.tables e below PP (s₁.setTop (mkF m 7 #[.val (.long q1), .second, .val (.int (q1.toInt32))] []))
    refine Go.st (fun t k => XS.bipush X0.here hx rfl (hb hby d9_7) k) ?_
    show Go p.tables e below PP (s₁.setTop (mkF m 9 #[.val (.long q1), .second, .val (.int (q1.toInt32))] [(.int (32 : Int32))]))
    refine Go.st (fun t k => XS.lloadN X0.here hx rfl (hb hby d9_9) rfl k) ?_
    show Go p.tables e below PP (s₁.setTop (mkF m 10 #[.val (.long q1), .second, .val (.int (q1.toInt32))] [(.long q1), (.int (32 : Int32))]))
    refine Go.st (fun t k => XS.bipush X0.here hx rfl (hb hby d9_10) k) ?_
    show Go p.tables e below PP (s₁.setTop (mkF m 12 #[.val (.long q1), .second, .val (.int (q1.toInt32))] [(.int (32 : Int32)), (.long q1), (.int (32 : Int32))]))
    refine Go.st (fun t k => XS.lushr X0.here hx rfl (hb hby d9_12) rfl k) ?_
    show Go p.tables e below PP (s₁.setTop (mkF m 13 #[.val (.long q1), .second, .val (.int (q1.toInt32))] [(.long ((q1.toUInt64 >>> ((32 : Int32) &&& 0x3f).toInt64.toUInt64).toInt64)), (.int (32 : Int32))]))
    refine Go.st (fun t k => XS.l2i X0.here hx rfl (hb hby d9_13) rfl k) ?_
    show Go p.tables e below PP (s₁.setTop (mkF m 14 #[.val (.long q1), .second, .val (.int (q1.toInt32))] [(.int (((q1.toUInt64 >>> ((32 : Int32) &&& 0x3f).toInt64.toUInt64).toInt64).toInt32)), (.int (32 : Int32))]))
    obtain ⟨v1, T1, L1, X1, hQ1, st1⟩ := callSt X0 hx hZ (y := (⟨"java/lang/Integer", "numberOfTrailingZeros", "(I)I"⟩ : MethodName)) (argsL := [(.int (((q1.toUInt64 >>> ((32 : Int32) &&& 0x3f).toInt64.toUInt64).toInt64).toInt32))]) (rest := [(.int (32 : Int32))]) hown (hw _ (List.mem_of_getElem? (i := 52) rfl)) (hw _ (List.mem_of_getElem? (i := 53) rfl)) (hw _ (List.mem_of_getElem? (i := 54) rfl)) (hw _ (List.mem_of_getElem? (i := 55) rfl)) (by decide) (rm10 l Z a0 hw [] (((q1.toUInt64 >>> ((32 : Int32) &&& 0x3f).toInt64.toUInt64).toInt64).toInt32) h0 n0 Zn) e0 1 (by decide) (by decide) (by decide) (by decide) (g := (mkF m 14 #[.val (.long q1), .second, .val (.int (q1.toInt32))] [(.int (((q1.toUInt64 >>> ((32 : Int32) &&& 0x3f).toInt64.toUInt64).toInt64).toInt32)), (.int (32 : Int32))])) rfl (by rw [hml]; rfl) (lenOf pd_0 rfl) rfl (by show 2 * 0 + _ ≤ _; exact Nat.le_of_eq rfl) (hb hby d9_14)
    obtain ⟨rfl, rfl, e1⟩ := hQ1
    rw [List.append_nil] at X1
    refine Go.st st1 ?_
    show Go p.tables e below PP (T1.setTop (mkF m 17 #[.val (.long q1), .second, .val (.int (q1.toInt32))] [(.int (ntzI (((q1.toUInt64 >>> ((32 : Int32) &&& 0x3f).toInt64.toUInt64).toInt64).toInt32))), (.int (32 : Int32))]))
    refine Go.st (fun t k => XS.iadd X1.here hx rfl (hb hby d9_17) rfl k) ?_
    show Go p.tables e below PP (T1.setTop (mkF m 18 #[.val (.long q1), .second, .val (.int (q1.toInt32))] [(.int ((32 : Int32) + (ntzI (((q1.toUInt64 >>> ((32 : Int32) &&& 0x3f).toInt64.toUInt64).toInt64).toInt32))))]))
    refine Go.st (fun t k => XS.goto X1.here hx rfl (pc0 := 18) (pc' := 25) rfl (hb hby d9_18) (by decide) (by decide) k) ?_
    show Go p.tables e below PP (T1.setTop (mkF m 25 #[.val (.long q1), .second, .val (.int (q1.toInt32))] [(.int ((32 : Int32) + (ntzI (((q1.toUInt64 >>> ((32 : Int32) &&& 0x3f).toInt64.toUInt64).toInt64).toInt32))))]))
    rw [hPP]
    refine endI X1 hx hlk hret (hb hby d9_25) ?_ (by decide) (by decide)
    show Q9 Z q1 h0 n0 (some (.int ((32 : Int32) + (ntzI (((q1.toUInt64 >>> ((32 : Int32) &&& 0x3f).toInt64.toUInt64).toInt64).toInt32))))) T1.heap _
    rw [e1]
    exact ⟨by unfold ntzJ; rw [if_pos hc4], rfl, rfl⟩
  · --
    refine Go.st (fun t k => XS.ifYes X0.here hx rfl (pc0 := 4) (pc' := 21) rfl (hb hby d9_4) rfl (XT.i0_ne_t hc4) (by decide) (by decide) k) ?_
    show Go p.tables e below PP (s₁.setTop (mkF m 21 #[.val (.long q1), .second, .val (.int (q1.toInt32))] []))
    refine Go.st (fun t k => XS.iloadN X0.here hx rfl (hb hby d9_21) rfl k) ?_
    show Go p.tables e below PP (s₁.setTop (mkF m 22 #[.val (.long q1), .second, .val (.int (q1.toInt32))] [(.int (q1.toInt32))]))
    obtain ⟨v2, T2, L2, X2, hQ2, st2⟩ := callSt X0 hx hZ (y := (⟨"java/lang/Integer", "numberOfTrailingZeros", "(I)I"⟩ : MethodName)) (argsL := [(.int (q1.toInt32))]) (rest := []) hown (hw _ (List.mem_of_getElem? (i := 52) rfl)) (hw _ (List.mem_of_getElem? (i := 53) rfl)) (hw _ (List.mem_of_getElem? (i := 54) rfl)) (hw _ (List.mem_of_getElem? (i := 55) rfl)) (by decide) (rm10 l Z a0 hw [] (q1.toInt32) h0 n0 Zn) e0 0 (by decide) (by decide) (by decide) (by decide) (g := (mkF m 22 #[.val (.long q1), .second, .val (.int (q1.toInt32))] [(.int (q1.toInt32))])) rfl (by rw [hml]; rfl) (lenOf pd_0 rfl) rfl (by show 2 * 0 + _ ≤ _; exact Nat.le_of_eq rfl) (hb hby d9_22)
    obtain ⟨rfl, rfl, e2⟩ := hQ2
    rw [List.append_nil] at X2
    refine Go.st st2 ?_
    show Go p.tables e below PP (T2.setTop (mkF m 25 #[.val (.long q1), .second, .val (.int (q1.toInt32))] [(.int (ntzI (q1.toInt32)))]))
    rw [hPP]
    refine endI X2 hx hlk hret (hb hby d9_25) ?_ (by decide) (by decide)
    show Q9 Z q1 h0 n0 (some (.int (ntzI (q1.toInt32)))) T2.heap _
    rw [e2]
    exact ⟨by unfold ntzJ; rw [if_neg hc4], rfl, rfl⟩
theorem d3_0 : decode prog_24_method_1_code 0 = .ok (.aload_n 0, 1) := by decide +kernel
theorem d3_1 : decode prog_24_method_1_code 1 = .ok (.invokespecial 1, 3) := by decide +kernel
theorem d3_4 : decode prog_24_method_1_code 4 = .ok (.lload_n 1, 1) := by decide +kernel
theorem d3_5 : decode prog_24_method_1_code 5 = .ok (.lconst 0, 1) := by decide +kernel
theorem d3_6 : decode prog_24_method_1_code 6 = .ok (.lcmp, 1) := by decide +kernel
theorem d3_7 : decode prog_24_method_1_code 7 = .ok (.ifCond .lt 18, 3) := by decide +kernel
theorem d3_10 : decode prog_24_method_1_code 10 = .ok (.lload_n 1, 1) := by decide +kernel
theorem d3_11 : decode prog_24_method_1_code 11 = .ok (.ldc2_w 7, 3) := by decide +kernel
theorem d3_14 : decode prog_24_method_1_code 14 = .ok (.ladd, 1) := by decide +kernel
theorem d3_15 : decode prog_24_method_1_code 15 = .ok (.bipush 6, 2) := by decide +kernel
theorem d3_17 : decode prog_24_method_1_code 17 = .ok (.lushr, 1) := by decide +kernel
theorem d3_18 : decode prog_24_method_1_code 18 = .ok (.ldc2_w 11, 3) := by decide +kernel
theorem d3_21 : decode prog_24_method_1_code 21 = .ok (.lcmp, 1) := by decide +kernel
theorem d3_22 : decode prog_24_method_1_code 22 = .ok (.ifCond .le 17, 3) := by decide +kernel
theorem d3_25 : decode prog_24_method_1_code 25 = .ok (.new 13, 3) := by decide +kernel
theorem d3_28 : decode prog_24_method_1_code 28 = .ok (.dup, 1) := by decide +kernel
theorem d3_29 : decode prog_24_method_1_code 29 = .ok (.lload_n 1, 1) := by decide +kernel
theorem d3_30 : decode prog_24_method_1_code 30 = .ok (.invokedynamic 15, 5) := by decide +kernel
theorem d3_35 : decode prog_24_method_1_code 35 = .ok (.invokespecial 19, 3) := by decide +kernel
theorem d3_38 : decode prog_24_method_1_code 38 = .ok (.athrow, 1) := by decide +kernel
theorem d3_39 : decode prog_24_method_1_code 39 = .ok (.aload_n 0, 1) := by decide +kernel
theorem d3_40 : decode prog_24_method_1_code 40 = .ok (.lload_n 1, 1) := by decide +kernel
theorem d3_41 : decode prog_24_method_1_code 41 = .ok (.putfield 22, 3) := by decide +kernel
theorem d3_44 : decode prog_24_method_1_code 44 = .ok (.aload_n 0, 1) := by decide +kernel
theorem d3_45 : decode prog_24_method_1_code 45 = .ok (.lload_n 1, 1) := by decide +kernel
theorem d3_46 : decode prog_24_method_1_code 46 = .ok (.ldc2_w 7, 3) := by decide +kernel
theorem d3_49 : decode prog_24_method_1_code 49 = .ok (.ladd, 1) := by decide +kernel
theorem d3_50 : decode prog_24_method_1_code 50 = .ok (.bipush 6, 2) := by decide +kernel
theorem d3_52 : decode prog_24_method_1_code 52 = .ok (.lushr, 1) := by decide +kernel
theorem d3_53 : decode prog_24_method_1_code 53 = .ok (.l2i, 1) := by decide +kernel
theorem d3_54 : decode prog_24_method_1_code 54 = .ok (.newarray .long, 2) := by decide +kernel
theorem d3_56 : decode prog_24_method_1_code 56 = .ok (.putfield 28, 3) := by decide +kernel
theorem d3_59 : decode prog_24_method_1_code 59 = .ok (.return_, 1) := by decide +kernel
theorem pn_rm3 : plainName "com/example/warpfinder/warpfinder/index/PositionBits" = true := by first | (simp [plainName, overriddenIn]; done) | decide +kernel
theorem ef_rm3 (m : MethodId) (a1 : Addr) (q2 : Int64) : entryFrame m #[(.ref a1), (.long q2)] 3 = mkF m 0 #[.val (.ref a1), .val (.long q2), .second] [] := by first | (simp [entryFrame, mkF, argsToLocals, Value.category]; done) | rfl
def Q3 (Z : State) (a1 : Addr) (q2 : Int64) (h0 : Heap) (n0 : Nat) (v : Option Value) (h : Heap) (L : List Loc) : Prop := ∃ t : Addr, v = none ∧ Fr n0 L ∧ Keep h0 h [a1] ∧ h0.size ≤ t ∧ Fld Z h a1 "com/example/warpfinder/warpfinder/index/PositionBits" "size" "J" (.long q2) ∧ Fld Z h a1 "com/example/warpfinder/warpfinder/index/PositionBits" "words" "[J" (.ref t) ∧ Afn Z h t .long (nwI q2) (fun k => .long ((fun _ => (0 : Int64)) k))
set_option maxRecDepth 65536 in
set_option maxHeartbeats 40000000 in
theorem rm3 (l : Launch) (Z : State) (a0 : Array Value) (hw : ∀ d ∈ tables_1, d.before a0 Z = true) (ws : List Jvm.Cond) (a1 : Addr) (q2 : Int64) (h0 : Heap) (n0 : Nat) (Z0 : n0 ≤ h0.size) (F_size_a1 : Fld Z h0 a1 "com/example/warpfinder/warpfinder/index/PositionBits" "size" "J" (.long (0 : Int64))) (F_words_a1 : Fld Z h0 a1 "com/example/warpfinder/warpfinder/index/PositionBits" "words" "[J" .null) (E_a1 : Exa Z h0 a1 "com/example/warpfinder/warpfinder/index/PositionBits") (g_a1 : n0 ≤ a1) (hq : 1 ≤ q2.toInt ∧ q2.toInt ≤ 512) :
    Con l Z (⟨"com/example/warpfinder/warpfinder/index/PositionBits", "<init>", "(J)V"⟩ : MethodName) prog_24_method_1_code 3 none ws ({ frames := 1, cells := 1, slots := 8, locals := 12 } : Room) #[(.ref a1), (.long q2)] h0 (Q3 Z a1 q2 h0 n0) := by
  refine Con.of (plainFor_of_name pn_rm3) ?_
  intro p e s m below meth c s₁ hZ e0 X0 hx hby hml hown hnm hret hlk
  replace hml : c.maxLocals = 3 := hml
  have hown : s.vm.findClass "com/example/warpfinder/warpfinder/index/PositionBits" = some m.cls := hown
  have N0 : Fr n0 [] := Fr.nil n0
  obtain ⟨PP, hPP⟩ : ∃ P, P = Fine s below (Q3 Z a1 q2 h0 n0) ({ frames := 1, cells := 1, slots := 8, locals := 12 } : Room).cells ({ frames := 1, cells := 1, slots := 8, locals := 12 } : Room).slots := ⟨_, rfl⟩
  rw [← hPP]
  refine Go.cast (ef_rm3 m a1 q2) ?_
  have K : Keep h0 h0 [a1] := Keep.refl h0 _
  have Zn : n0 ≤ h0.size := Z0
  show Go p.tables e below PP (s₁.setTop (mkF m 0 #[.val (.ref a1), .val (.long q2), .second] []))
  refine Go.st (fun t k => XS.aloadN X0.here hx rfl (hb hby d3_0) rfl rfl k) ?_
  show Go p.tables e below PP (s₁.setTop (mkF m 1 #[.val (.ref a1), .val (.long q2), .second] [(.ref a1)]))
  obtain ⟨T1, X1, e1, st1⟩ := initO X0 hx hZ hown (hw _ (List.mem_of_getElem? (i := 15) rfl)) (hw _ (List.mem_of_getElem? (i := 16) rfl)) (hw _ (List.mem_of_getElem? (i := 17) rfl)) e0 (g := (mkF m 1 #[.val (.ref a1), .val (.long q2), .second] [(.ref a1)])) rfl (by rw [hml]; rfl) rfl (hb hby d3_1) (by decide) (W := 0) (by show 2 * 0 + _ ≤ _; exact Nat.le_of_eq rfl) (by decide)
  refine Go.st st1 ?_
  show Go p.tables e below PP (T1.setTop (mkF m 4 #[.val (.ref a1), .val (.long q2), .second] []))
  refine Go.st (fun t k => XS.lloadN X1.here hx rfl (hb hby d3_4) rfl k) ?_
  show Go p.tables e below PP (T1.setTop (mkF m 5 #[.val (.ref a1), .val (.long q2), .second] [(.long q2)]))
  refine Go.st (fun t k => XS.lconst X1.here hx rfl (hb hby d3_5) k) ?_
  show Go p.tables e below PP (T1.setTop (mkF m 6 #[.val (.ref a1), .val (.long q2), .second] [(.long (0 : Int64)), (.long q2)]))
  refine Go.st (fun t k => XS.lcmp X1.here hx rfl (hb hby d3_6) rfl k) ?_
  show Go p.tables e below PP (T1.setTop (mkF m 7 #[.val (.ref a1), .val (.long q2), .second] [(.int (XT.cmpL q2 (0 : Int64)))]))
  refine Go.st (fun t k => XS.ifNo X1.here hx rfl (hb hby d3_7) rfl (XT.ll_lt_f (own_nw q2 hq).2.2.2.2.2.2.2) k) ?_
  show Go p.tables e below PP (T1.setTop (mkF m 10 #[.val (.ref a1), .val (.long q2), .second] []))
  refine Go.st (fun t k => XS.lloadN X1.here hx rfl (hb hby d3_10) rfl k) ?_
  show Go p.tables e below PP (T1.setTop (mkF m 11 #[.val (.ref a1), .val (.long q2), .second] [(.long q2)]))
  refine Go.st (fun t k => X1.ldc2J hx hown (mvT hZ (hw _ (List.mem_of_getElem? (i := 18) rfl))) (g := (mkF m 11 #[.val (.ref a1), .val (.long q2), .second] [(.long q2)])) rfl (hb hby d3_11) k) ?_
  show Go p.tables e below PP (T1.setTop (mkF m 14 #[.val (.ref a1), .val (.long q2), .second] [(.long (63 : Int64)), (.long q2)]))
  refine Go.st (fun t k => XS.ladd X1.here hx rfl (hb hby d3_14) rfl k) ?_
  show Go p.tables e below PP (T1.setTop (mkF m 15 #[.val (.ref a1), .val (.long q2), .second] [(.long (q2 + (63 : Int64)))]))
  refine Go.st (fun t k => XS.bipush X1.here hx rfl (hb hby d3_15) k) ?_
  show Go p.tables e below PP (T1.setTop (mkF m 17 #[.val (.ref a1), .val (.long q2), .second] [(.int (6 : Int32)), (.long (q2 + (63 : Int64)))]))
  refine Go.st (fun t k => XS.lushr X1.here hx rfl (hb hby d3_17) rfl k) ?_
  show Go p.tables e below PP (T1.setTop (mkF m 18 #[.val (.ref a1), .val (.long q2), .second] [(.long (((q2 + (63 : Int64)).toUInt64 >>> ((6 : Int32) &&& 0x3f).toInt64.toUInt64).toInt64))]))
  refine Go.st (fun t k => X1.ldc2J hx hown (mvT hZ (hw _ (List.mem_of_getElem? (i := 19) rfl))) (g := (mkF m 18 #[.val (.ref a1), .val (.long q2), .second] [(.long (((q2 + (63 : Int64)).toUInt64 >>> ((6 : Int32) &&& 0x3f).toInt64.toUInt64).toInt64))])) rfl (hb hby d3_18) k) ?_
  show Go p.tables e below PP (T1.setTop (mkF m 21 #[.val (.ref a1), .val (.long q2), .second] [(.long (2147483639 : Int64)), (.long (((q2 + (63 : Int64)).toUInt64 >>> ((6 : Int32) &&& 0x3f).toInt64.toUInt64).toInt64))]))
  refine Go.st (fun t k => XS.lcmp X1.here hx rfl (hb hby d3_21) rfl k) ?_
  show Go p.tables e below PP (T1.setTop (mkF m 22 #[.val (.ref a1), .val (.long q2), .second] [(.int (XT.cmpL (((q2 + (63 : Int64)).toUInt64 >>> ((6 : Int32) &&& 0x3f).toInt64.toUInt64).toInt64) (2147483639 : Int64)))]))
  refine Go.st (fun t k => XS.ifYes X1.here hx rfl (pc0 := 22) (pc' := 39) rfl (hb hby d3_22) rfl (XT.ll_le_t (own_nw q2 hq).2.2.2.2.1) (by decide) (by decide) k) ?_
  show Go p.tables e below PP (T1.setTop (mkF m 39 #[.val (.ref a1), .val (.long q2), .second] []))
  refine Go.st (fun t k => XS.aloadN X1.here hx rfl (hb hby d3_39) rfl rfl k) ?_
  show Go p.tables e below PP (T1.setTop (mkF m 40 #[.val (.ref a1), .val (.long q2), .second] [(.ref a1)]))
  refine Go.st (fun t k => XS.lloadN X1.here hx rfl (hb hby d3_40) rfl k) ?_
  show Go p.tables e below PP (T1.setTop (mkF m 41 #[.val (.ref a1), .val (.long q2), .second] [(.long q2), (.ref a1)]))
  obtain ⟨T2, h2, X2, e2, W2, st2⟩ := putF X1 hx hZ hown (host := "") (Or.inl (hw _ (List.mem_of_getElem? (i := 20) rfl))) Via.refl e1 F_size_a1 E_a1 (Or.inr ⟨(hw _ (List.mem_of_getElem? (i := 21) rfl)), rfl, hnm⟩) (hw _ (List.mem_of_getElem? (i := 10) rfl)) (ty := .long) (by decide) rfl rfl (g := (mkF m 41 #[.val (.ref a1), .val (.long q2), .second] [(.long q2), (.ref a1)])) rfl rfl (hb hby d3_41)
  refine Go.st st2 ?_
  have N2 := Fr.snoc X2 N0 g_a1
  replace F_words_a1 := F_words_a1.other W2 (Or.inr (slot_ne (a0 := a0) (Or.inr (hw _ (List.mem_of_getElem? (i := 24) rfl))) (Or.inr (hw _ (List.mem_of_getElem? (i := 21) rfl))) (by decide) (t := (.array .long)) (t' := .long) (by decide) (by decide)))
  replace E_a1 := E_a1.wr W2
  replace K := K.wr W2 (Or.inl (List.mem_of_getElem? (i := 0) rfl))
  replace Zn : n0 ≤ h2.size := by rw [W2.size]; exact Zn
  replace F_size_a1 := F_size_a1.same W2
  show Go p.tables e below PP (T2.setTop (mkF m 44 #[.val (.ref a1), .val (.long q2), .second] []))
  refine Go.st (fun t k => XS.aloadN X2.here hx rfl (hb hby d3_44) rfl rfl k) ?_
  show Go p.tables e below PP (T2.setTop (mkF m 45 #[.val (.ref a1), .val (.long q2), .second] [(.ref a1)]))
  refine Go.st (fun t k => XS.lloadN X2.here hx rfl (hb hby d3_45) rfl k) ?_
  show Go p.tables e below PP (T2.setTop (mkF m 46 #[.val (.ref a1), .val (.long q2), .second] [(.long q2), (.ref a1)]))
  refine Go.st (fun t k => X2.ldc2J hx hown (mvT hZ (hw _ (List.mem_of_getElem? (i := 18) rfl))) (g := (mkF m 46 #[.val (.ref a1), .val (.long q2), .second] [(.long q2), (.ref a1)])) rfl (hb hby d3_46) k) ?_
  show Go p.tables e below PP (T2.setTop (mkF m 49 #[.val (.ref a1), .val (.long q2), .second] [(.long (63 : Int64)), (.long q2), (.ref a1)]))
  refine Go.st (fun t k => XS.ladd X2.here hx rfl (hb hby d3_49) rfl k) ?_
  show Go p.tables e below PP (T2.setTop (mkF m 50 #[.val (.ref a1), .val (.long q2), .second] [(.long (q2 + (63 : Int64))), (.ref a1)]))
  refine Go.st (fun t k => XS.bipush X2.here hx rfl (hb hby d3_50) k) ?_
  show Go p.tables e below PP (T2.setTop (mkF m 52 #[.val (.ref a1), .val (.long q2), .second] [(.int (6 : Int32)), (.long (q2 + (63 : Int64))), (.ref a1)]))
  refine Go.st (fun t k => XS.lushr X2.here hx rfl (hb hby d3_52) rfl k) ?_
  show Go p.tables e below PP (T2.setTop (mkF m 53 #[.val (.ref a1), .val (.long q2), .second] [(.long (((q2 + (63 : Int64)).toUInt64 >>> ((6 : Int32) &&& 0x3f).toInt64.toUInt64).toInt64)), (.ref a1)]))
  refine Go.st (fun t k => XS.l2i X2.here hx rfl (hb hby d3_53) rfl k) ?_
  show Go p.tables e below PP (T2.setTop (mkF m 54 #[.val (.ref a1), .val (.long q2), .second] [(.int (nwI q2)), (.ref a1)]))
  obtain ⟨T3, h3, k3, X3, e3, E3, A3, st3⟩ := newP X2 hx hZ (hw _ (List.mem_of_getElem? (i := 22) rfl)) e2 (g := (mkF m 54 #[.val (.ref a1), .val (.long q2), .second] [(.int (nwI q2)), (.ref a1)])) rfl (hb hby d3_54) rfl (own_nw q2 hq).2.2.2.2.2.1 (cap := 8) (own_nw q2 hq).2.2.2.2.2.2.1 (by decide) (by decide) (by decide)
  obtain ⟨b3, gz3⟩ : ∃ z, z = h2.size := ⟨_, rfl⟩
  rw [← gz3] at A3 st3
  have ne_a1_b3 : a1 ≠ b3 := Nat.ne_of_lt (Nat.lt_of_lt_of_le F_size_a1.lt (Nat.le_of_eq gz3.symm))
  have g_b3 : n0 ≤ b3 := Nat.le_trans Zn (Nat.le_of_eq gz3.symm)
  have sz_b3 : h0.size ≤ b3 := Nat.le_trans K.1 (Nat.le_of_eq gz3.symm)
  refine Go.st st3 ?_
  replace F_size_a1 := F_size_a1.ext E3
  replace F_words_a1 := F_words_a1.ext E3
  replace E_a1 := E_a1.ext E3
  replace K := K.ext E3
  replace Zn := Nat.le_trans Zn E3.1
  have V_b3 : Afn Z h3 b3 .long (nwI q2) (fun _ => (.long (0 : Int64))) := Afn.new A3 (own_nw q2 hq).2.2.2.2.2.1
  show Go p.tables e below PP (T3.setTop (mkF m 56 #[.val (.ref a1), .val (.long q2), .second] [(.ref b3), (.ref a1)]))
  obtain ⟨T4, h4, X4, e4, W4, st4⟩ := putF X3 hx hZ hown (host := "") (Or.inl (hw _ (List.mem_of_getElem? (i := 23) rfl))) Via.refl e3 F_words_a1 E_a1 (Or.inr ⟨(hw _ (List.mem_of_getElem? (i := 24) rfl)), rfl, hnm⟩) (hw _ (List.mem_of_getElem? (i := 10) rfl)) (ty := (.array .long)) (by decide) rfl rfl (g := (mkF m 56 #[.val (.ref a1), .val (.long q2), .second] [(.ref b3), (.ref a1)])) rfl rfl (hb hby d3_56)
  refine Go.st st4 ?_
  have N4 := Fr.snoc X4 N2 g_a1
  replace F_size_a1 := F_size_a1.other W4 (Or.inr (slot_ne (a0 := a0) (Or.inr (hw _ (List.mem_of_getElem? (i := 21) rfl))) (Or.inr (hw _ (List.mem_of_getElem? (i := 24) rfl))) (by decide) (t := .long) (t' := (.array .long)) (by decide) (by decide)))
  replace E_a1 := E_a1.wr W4
  replace V_b3 := V_b3.other W4 (Ne.symm ne_a1_b3)
  replace K := K.wr W4 (Or.inl (List.mem_of_getElem? (i := 0) rfl))
  replace Zn : n0 ≤ h4.size := by rw [W4.size]; exact Zn
  replace F_words_a1 := F_words_a1.same W4
  show Go p.tables e below PP (T4.setTop (mkF m 59 #[.val (.ref a1), .val (.long q2), .second] []))
  rw [hPP]
  refine endV X4 hx hlk hret (hb hby d3_59) ?_ (by decide) (by decide)
  show Q3 Z a1 q2 h0 n0 none T4.heap _
  rw [e4]
  exact ⟨b3, rfl, N4, K, sz_b3, F_size_a1, F_words_a1, V_b3⟩
theorem d5_0 : decode prog_24_method_3_code 0 = .ok (.lload_n 1, 1) := by decide +kernel
theorem d5_1 : decode prog_24_method_3_code 1 = .ok (.bipush 6, 2) := by decide +kernel
theorem d5_3 : decode prog_24_method_3_code 3 = .ok (.lushr, 1) := by decide +kernel
theorem d5_4 : decode prog_24_method_3_code 4 = .ok (.l2i, 1) := by decide +kernel
theorem d5_5 : decode prog_24_method_3_code 5 = .ok (.istore 5, 2) := by decide +kernel
theorem d5_7 : decode prog_24_method_3_code 7 = .ok (.lload_n 3, 1) := by decide +kernel
theorem d5_8 : decode prog_24_method_3_code 8 = .ok (.bipush 6, 2) := by decide +kernel
theorem d5_10 : decode prog_24_method_3_code 10 = .ok (.lushr, 1) := by decide +kernel
theorem d5_11 : decode prog_24_method_3_code 11 = .ok (.l2i, 1) := by decide +kernel
theorem d5_12 : decode prog_24_method_3_code 12 = .ok (.istore 6, 2) := by decide +kernel
theorem d5_14 : decode prog_24_method_3_code 14 = .ok (.ldc2_w 51, 3) := by decide +kernel
theorem d5_17 : decode prog_24_method_3_code 17 = .ok (.lload_n 1, 1) := by decide +kernel
theorem d5_18 : decode prog_24_method_3_code 18 = .ok (.l2i, 1) := by decide +kernel
theorem d5_19 : decode prog_24_method_3_code 19 = .ok (.lshl, 1) := by decide +kernel
theorem d5_20 : decode prog_24_method_3_code 20 = .ok (.lstore 7, 2) := by decide +kernel
theorem d5_22 : decode prog_24_method_3_code 22 = .ok (.ldc2_w 51, 3) := by decide +kernel
theorem d5_25 : decode prog_24_method_3_code 25 = .ok (.ldc2_w 7, 3) := by decide +kernel
theorem d5_28 : decode prog_24_method_3_code 28 = .ok (.lload_n 3, 1) := by decide +kernel
theorem d5_29 : decode prog_24_method_3_code 29 = .ok (.ldc2_w 7, 3) := by decide +kernel
theorem d5_32 : decode prog_24_method_3_code 32 = .ok (.land, 1) := by decide +kernel
theorem d5_33 : decode prog_24_method_3_code 33 = .ok (.lsub, 1) := by decide +kernel
theorem d5_34 : decode prog_24_method_3_code 34 = .ok (.l2i, 1) := by decide +kernel
theorem d5_35 : decode prog_24_method_3_code 35 = .ok (.lushr, 1) := by decide +kernel
theorem d5_36 : decode prog_24_method_3_code 36 = .ok (.lstore 9, 2) := by decide +kernel
theorem d5_38 : decode prog_24_method_3_code 38 = .ok (.iload 5, 2) := by decide +kernel
theorem d5_40 : decode prog_24_method_3_code 40 = .ok (.iload 6, 2) := by decide +kernel
theorem d5_42 : decode prog_24_method_3_code 42 = .ok (.if_icmp .ne 19, 3) := by decide +kernel
theorem d5_45 : decode prog_24_method_3_code 45 = .ok (.aload_n 0, 1) := by decide +kernel
theorem d5_46 : decode prog_24_method_3_code 46 = .ok (.getfield 28, 3) := by decide +kernel
theorem d5_49 : decode prog_24_method_3_code 49 = .ok (.iload 5, 2) := by decide +kernel
theorem d5_51 : decode prog_24_method_3_code 51 = .ok (.dup2, 1) := by decide +kernel
theorem d5_52 : decode prog_24_method_3_code 52 = .ok (.laload, 1) := by decide +kernel
theorem d5_53 : decode prog_24_method_3_code 53 = .ok (.lload 7, 2) := by decide +kernel
theorem d5_55 : decode prog_24_method_3_code 55 = .ok (.lload 9, 2) := by decide +kernel
theorem d5_57 : decode prog_24_method_3_code 57 = .ok (.land, 1) := by decide +kernel
theorem d5_58 : decode prog_24_method_3_code 58 = .ok (.lor, 1) := by decide +kernel
theorem d5_59 : decode prog_24_method_3_code 59 = .ok (.lastore, 1) := by decide +kernel
theorem d5_60 : decode prog_24_method_3_code 60 = .ok (.return_, 1) := by decide +kernel
theorem d5_61 : decode prog_24_method_3_code 61 = .ok (.aload_n 0, 1) := by decide +kernel
theorem d5_62 : decode prog_24_method_3_code 62 = .ok (.getfield 28, 3) := by decide +kernel
theorem d5_65 : decode prog_24_method_3_code 65 = .ok (.iload 5, 2) := by decide +kernel
theorem d5_67 : decode prog_24_method_3_code 67 = .ok (.dup2, 1) := by decide +kernel
theorem d5_68 : decode prog_24_method_3_code 68 = .ok (.laload, 1) := by decide +kernel
theorem d5_69 : decode prog_24_method_3_code 69 = .ok (.lload 7, 2) := by decide +kernel
theorem d5_71 : decode prog_24_method_3_code 71 = .ok (.lor, 1) := by decide +kernel
theorem d5_72 : decode prog_24_method_3_code 72 = .ok (.lastore, 1) := by decide +kernel
theorem d5_73 : decode prog_24_method_3_code 73 = .ok (.iload 5, 2) := by decide +kernel
theorem d5_75 : decode prog_24_method_3_code 75 = .ok (.iconst 1, 1) := by decide +kernel
theorem d5_76 : decode prog_24_method_3_code 76 = .ok (.iadd, 1) := by decide +kernel
theorem d5_77 : decode prog_24_method_3_code 77 = .ok (.istore 11, 2) := by decide +kernel
theorem d5_79 : decode prog_24_method_3_code 79 = .ok (.iload 11, 2) := by decide +kernel
theorem d5_81 : decode prog_24_method_3_code 81 = .ok (.iload 6, 2) := by decide +kernel
theorem d5_83 : decode prog_24_method_3_code 83 = .ok (.if_icmp .ge 19, 3) := by decide +kernel
theorem d5_86 : decode prog_24_method_3_code 86 = .ok (.aload_n 0, 1) := by decide +kernel
theorem d5_87 : decode prog_24_method_3_code 87 = .ok (.getfield 28, 3) := by decide +kernel
theorem d5_90 : decode prog_24_method_3_code 90 = .ok (.iload 11, 2) := by decide +kernel
theorem d5_92 : decode prog_24_method_3_code 92 = .ok (.ldc2_w 51, 3) := by decide +kernel
theorem d5_95 : decode prog_24_method_3_code 95 = .ok (.lastore, 1) := by decide +kernel
theorem d5_96 : decode prog_24_method_3_code 96 = .ok (.iinc 11 1, 3) := by decide +kernel
theorem d5_99 : decode prog_24_method_3_code 99 = .ok (.goto (-20), 3) := by decide +kernel
theorem d5_102 : decode prog_24_method_3_code 102 = .ok (.aload_n 0, 1) := by decide +kernel
theorem d5_103 : decode prog_24_method_3_code 103 = .ok (.getfield 28, 3) := by decide +kernel
theorem d5_106 : decode prog_24_method_3_code 106 = .ok (.iload 6, 2) := by decide +kernel
theorem d5_108 : decode prog_24_method_3_code 108 = .ok (.dup2, 1) := by decide +kernel
theorem d5_109 : decode prog_24_method_3_code 109 = .ok (.laload, 1) := by decide +kernel
theorem d5_110 : decode prog_24_method_3_code 110 = .ok (.lload 9, 2) := by decide +kernel
theorem d5_112 : decode prog_24_method_3_code 112 = .ok (.lor, 1) := by decide +kernel
theorem d5_113 : decode prog_24_method_3_code 113 = .ok (.lastore, 1) := by decide +kernel
theorem d5_114 : decode prog_24_method_3_code 114 = .ok (.return_, 1) := by decide +kernel
theorem pn_rm5 : plainName "com/example/warpfinder/warpfinder/index/PositionBits" = true := by first | (simp [plainName, overriddenIn]; done) | decide +kernel
theorem ef_rm5 (m : MethodId) (a1 : Addr) (q2 : Int64) (q3 : Int64) : entryFrame m #[(.ref a1), (.long q2), (.long q3)] 12 = mkF m 0 #[.val (.ref a1), .val (.long q2), .second, .val (.long q3), .second, .unset, .unset, .unset, .unset, .unset, .unset, .unset] [] := by first | (simp [entryFrame, mkF, argsToLocals, Value.category]; done) | rfl
def Q5 (Z : State) (a1 : Addr) (q2 : Int64) (q3 : Int64) (tw : Addr) (nw : Int32) (fw : Nat → Int64) (h0 : Heap) (n0 : Nat) (v : Option Value) (h : Heap) (L : List Loc) : Prop := v = none ∧ Fr n0 L ∧ Keep h0 h [tw] ∧ Afn Z h tw .long nw (fun k => .long (addF fw q2 q3 k))
set_option maxRecDepth 65536 in
set_option maxHeartbeats 40000000 in
theorem rm5 (l : Launch) (Z : State) (a0 : Array Value) (hw : ∀ d ∈ tables_1, d.before a0 Z = true) (ws : List Jvm.Cond) (a1 : Addr) (q2 : Int64) (q3 : Int64) (tw : Addr) (nw : Int32) (fw : Nat → Int64) (h0 : Heap) (n0 : Nat) (Z0 : n0 ≤ h0.size) (F_words_a1 : Fld Z h0 a1 "com/example/warpfinder/warpfinder/index/PositionBits" "words" "[J" (.ref tw)) (V_tw : Afn Z h0 tw .long nw (fun k => .long (fw k))) (g_tw : n0 ≤ tw) (hne : a1 ≠ tw) (hA : 0 ≤ q2.toInt ∧ q2.toInt ≤ q3.toInt ∧ q3.toInt < 512 ∧ q3.toInt < 64 * nw.toInt) :
    Con l Z (⟨"com/example/warpfinder/warpfinder/index/PositionBits", "add", "(JJ)V"⟩ : MethodName) prog_24_method_3_code 12 none ws ({ frames := 0, cells := 0, slots := 0, locals := 0 } : Room) #[(.ref a1), (.long q2), (.long q3)] h0 (Q5 Z a1 q2 q3 tw nw fw h0 n0) := by
  refine Con.of (plainFor_of_name pn_rm5) ?_
  intro p e s m below meth c s₁ hZ e0 X0 hx hby hml hown hnm hret hlk
  replace hml : c.maxLocals = 12 := hml
  have hown : s.vm.findClass "com/example/warpfinder/warpfinder/index/PositionBits" = some m.cls := hown
  have N0 : Fr n0 [] := Fr.nil n0
  obtain ⟨PP, hPP⟩ : ∃ P, P = Fine s below (Q5 Z a1 q2 q3 tw nw fw h0 n0) ({ frames := 0, cells := 0, slots := 0, locals := 0 } : Room).cells ({ frames := 0, cells := 0, slots := 0, locals := 0 } : Room).slots := ⟨_, rfl⟩
  rw [← hPP]
  refine Go.cast (ef_rm5 m a1 q2 q3) ?_
  have K : Keep h0 h0 [tw] := Keep.refl h0 _
  have Zn : n0 ≤ h0.size := Z0
  show Go p.tables e below PP (s₁.setTop (mkF m 0 #[.val (.ref a1), .val (.long q2), .second, .val (.long q3), .second, .unset, .unset, .unset, .unset, .unset, .unset, .unset] []))
  refine Go.st (fun t k => XS.lloadN X0.here hx rfl (hb hby d5_0) rfl k) ?_
  show Go p.tables e below PP (s₁.setTop (mkF m 1 #[.val (.ref a1), .val (.long q2), .second, .val (.long q3), .second, .unset, .unset, .unset, .unset, .unset, .unset, .unset] [(.long q2)]))
  refine Go.st (fun t k => XS.bipush X0.here hx rfl (hb hby d5_1) k) ?_
  show Go p.tables e below PP (s₁.setTop (mkF m 3 #[.val (.ref a1), .val (.long q2), .second, .val (.long q3), .second, .unset, .unset, .unset, .unset, .unset, .unset, .unset] [(.int (6 : Int32)), (.long q2)]))
  refine Go.st (fun t k => XS.lushr X0.here hx rfl (hb hby d5_3) rfl k) ?_
  show Go p.tables e below PP (s₁.setTop (mkF m 4 #[.val (.ref a1), .val (.long q2), .second, .val (.long q3), .second, .unset, .unset, .unset, .unset, .unset, .unset, .unset] [(.long ((q2.toUInt64 >>> ((6 : Int32) &&& 0x3f).toInt64.toUInt64).toInt64))]))
  refine Go.st (fun t k => XS.l2i X0.here hx rfl (hb hby d5_4) rfl k) ?_
  generalize hui : (((q2.toUInt64 >>> ((6 : Int32) &&& 0x3f).toInt64.toUInt64).toInt64).toInt32) = ui
  have hu := (own_word q2 hA.1 (by omega)).1
  rw [hui] at hu
  show Go p.tables e below PP (s₁.setTop (mkF m 5 #[.val (.ref a1), .val (.long q2), .second, .val (.long q3), .second, .unset, .unset, .unset, .unset, .unset, .unset, .unset] [(.int ui)]))
  refine Go.st (fun t k => XS.istore X0.here hx rfl (hb hby d5_5) rfl (l' := #[.val (.ref a1), .val (.long q2), .second, .val (.long q3), .second, .val (.int ui), .unset, .unset, .unset, .unset, .unset, .unset]) rfl k) ?_
  show Go p.tables e below PP (s₁.setTop (mkF m 7 #[.val (.ref a1), .val (.long q2), .second, .val (.long q3), .second, .val (.int ui), .unset, .unset, .unset, .unset, .unset, .unset] []))
  refine Go.st (fun t k => XS.lloadN X0.here hx rfl (hb hby d5_7) rfl k) ?_
  show Go p.tables e below PP (s₁.setTop (mkF m 8 #[.val (.ref a1), .val (.long q2), .second, .val (.long q3), .second, .val (.int ui), .unset, .unset, .unset, .unset, .unset, .unset] [(.long q3)]))
  refine Go.st (fun t k => XS.bipush X0.here hx rfl (hb hby d5_8) k) ?_
  show Go p.tables e below PP (s₁.setTop (mkF m 10 #[.val (.ref a1), .val (.long q2), .second, .val (.long q3), .second, .val (.int ui), .unset, .unset, .unset, .unset, .unset, .unset] [(.int (6 : Int32)), (.long q3)]))
  refine Go.st (fun t k => XS.lushr X0.here hx rfl (hb hby d5_10) rfl k) ?_
  show Go p.tables e below PP (s₁.setTop (mkF m 11 #[.val (.ref a1), .val (.long q2), .second, .val (.long q3), .second, .val (.int ui), .unset, .unset, .unset, .unset, .unset, .unset] [(.long ((q3.toUInt64 >>> ((6 : Int32) &&& 0x3f).toInt64.toUInt64).toInt64))]))
  refine Go.st (fun t k => XS.l2i X0.here hx rfl (hb hby d5_11) rfl k) ?_
  generalize hwi : (((q3.toUInt64 >>> ((6 : Int32) &&& 0x3f).toInt64.toUInt64).toInt64).toInt32) = wi
  have hwl := (own_word q3 (by omega) (by omega)).1
  rw [hwi] at hwl
  show Go p.tables e below PP (s₁.setTop (mkF m 12 #[.val (.ref a1), .val (.long q2), .second, .val (.long q3), .second, .val (.int ui), .unset, .unset, .unset, .unset, .unset, .unset] [(.int wi)]))
  refine Go.st (fun t k => XS.istore X0.here hx rfl (hb hby d5_12) rfl (l' := #[.val (.ref a1), .val (.long q2), .second, .val (.long q3), .second, .val (.int ui), .val (.int wi), .unset, .unset, .unset, .unset, .unset]) rfl k) ?_
  show Go p.tables e below PP (s₁.setTop (mkF m 14 #[.val (.ref a1), .val (.long q2), .second, .val (.long q3), .second, .val (.int ui), .val (.int wi), .unset, .unset, .unset, .unset, .unset] []))
  refine Go.st (fun t k => X0.ldc2J hx hown (mvT hZ (hw _ (List.mem_of_getElem? (i := 30) rfl))) (g := (mkF m 14 #[.val (.ref a1), .val (.long q2), .second, .val (.long q3), .second, .val (.int ui), .val (.int wi), .unset, .unset, .unset, .unset, .unset] [])) rfl (hb hby d5_14) k) ?_
  show Go p.tables e below PP (s₁.setTop (mkF m 17 #[.val (.ref a1), .val (.long q2), .second, .val (.long q3), .second, .val (.int ui), .val (.int wi), .unset, .unset, .unset, .unset, .unset] [(.long (-1 : Int64))]))
  refine Go.st (fun t k => XS.lloadN X0.here hx rfl (hb hby d5_17) rfl k) ?_
  show Go p.tables e below PP (s₁.setTop (mkF m 18 #[.val (.ref a1), .val (.long q2), .second, .val (.long q3), .second, .val (.int ui), .val (.int wi), .unset, .unset, .unset, .unset, .unset] [(.long q2), (.long (-1 : Int64))]))
  refine Go.st (fun t k => XS.l2i X0.here hx rfl (hb hby d5_18) rfl k) ?_
  show Go p.tables e below PP (s₁.setTop (mkF m 19 #[.val (.ref a1), .val (.long q2), .second, .val (.long q3), .second, .val (.int ui), .val (.int wi), .unset, .unset, .unset, .unset, .unset] [(.int (q2.toInt32)), (.long (-1 : Int64))]))
  refine Go.st (fun t k => XS.lshl X0.here hx rfl (hb hby d5_19) rfl k) ?_
  show Go p.tables e below PP (s₁.setTop (mkF m 20 #[.val (.ref a1), .val (.long q2), .second, .val (.long q3), .second, .val (.int ui), .val (.int wi), .unset, .unset, .unset, .unset, .unset] [(.long ((-1 : Int64) <<< ((q2.toInt32) &&& 0x3f).toInt64))]))
  refine Go.st (fun t k => XS.lstore X0.here hx rfl (hb hby d5_20) rfl (l' := #[.val (.ref a1), .val (.long q2), .second, .val (.long q3), .second, .val (.int ui), .val (.int wi), .val (.long ((-1 : Int64) <<< ((q2.toInt32) &&& 0x3f).toInt64)), .second, .unset, .unset, .unset]) rfl k) ?_
  show Go p.tables e below PP (s₁.setTop (mkF m 22 #[.val (.ref a1), .val (.long q2), .second, .val (.long q3), .second, .val (.int ui), .val (.int wi), .val (.long ((-1 : Int64) <<< ((q2.toInt32) &&& 0x3f).toInt64)), .second, .unset, .unset, .unset] []))
  refine Go.st (fun t k => X0.ldc2J hx hown (mvT hZ (hw _ (List.mem_of_getElem? (i := 30) rfl))) (g := (mkF m 22 #[.val (.ref a1), .val (.long q2), .second, .val (.long q3), .second, .val (.int ui), .val (.int wi), .val (.long ((-1 : Int64) <<< ((q2.toInt32) &&& 0x3f).toInt64)), .second, .unset, .unset, .unset] [])) rfl (hb hby d5_22) k) ?_
  show Go p.tables e below PP (s₁.setTop (mkF m 25 #[.val (.ref a1), .val (.long q2), .second, .val (.long q3), .second, .val (.int ui), .val (.int wi), .val (.long ((-1 : Int64) <<< ((q2.toInt32) &&& 0x3f).toInt64)), .second, .unset, .unset, .unset] [(.long (-1 : Int64))]))
  refine Go.st (fun t k => X0.ldc2J hx hown (mvT hZ (hw _ (List.mem_of_getElem? (i := 18) rfl))) (g := (mkF m 25 #[.val (.ref a1), .val (.long q2), .second, .val (.long q3), .second, .val (.int ui), .val (.int wi), .val (.long ((-1 : Int64) <<< ((q2.toInt32) &&& 0x3f).toInt64)), .second, .unset, .unset, .unset] [(.long (-1 : Int64))])) rfl (hb hby d5_25) k) ?_
  show Go p.tables e below PP (s₁.setTop (mkF m 28 #[.val (.ref a1), .val (.long q2), .second, .val (.long q3), .second, .val (.int ui), .val (.int wi), .val (.long ((-1 : Int64) <<< ((q2.toInt32) &&& 0x3f).toInt64)), .second, .unset, .unset, .unset] [(.long (63 : Int64)), (.long (-1 : Int64))]))
  refine Go.st (fun t k => XS.lloadN X0.here hx rfl (hb hby d5_28) rfl k) ?_
  show Go p.tables e below PP (s₁.setTop (mkF m 29 #[.val (.ref a1), .val (.long q2), .second, .val (.long q3), .second, .val (.int ui), .val (.int wi), .val (.long ((-1 : Int64) <<< ((q2.toInt32) &&& 0x3f).toInt64)), .second, .unset, .unset, .unset] [(.long q3), (.long (63 : Int64)), (.long (-1 : Int64))]))
  refine Go.st (fun t k => X0.ldc2J hx hown (mvT hZ (hw _ (List.mem_of_getElem? (i := 18) rfl))) (g := (mkF m 29 #[.val (.ref a1), .val (.long q2), .second, .val (.long q3), .second, .val (.int ui), .val (.int wi), .val (.long ((-1 : Int64) <<< ((q2.toInt32) &&& 0x3f).toInt64)), .second, .unset, .unset, .unset] [(.long q3), (.long (63 : Int64)), (.long (-1 : Int64))])) rfl (hb hby d5_29) k) ?_
  show Go p.tables e below PP (s₁.setTop (mkF m 32 #[.val (.ref a1), .val (.long q2), .second, .val (.long q3), .second, .val (.int ui), .val (.int wi), .val (.long ((-1 : Int64) <<< ((q2.toInt32) &&& 0x3f).toInt64)), .second, .unset, .unset, .unset] [(.long (63 : Int64)), (.long q3), (.long (63 : Int64)), (.long (-1 : Int64))]))
  refine Go.st (fun t k => XS.land X0.here hx rfl (hb hby d5_32) rfl k) ?_
  show Go p.tables e below PP (s₁.setTop (mkF m 33 #[.val (.ref a1), .val (.long q2), .second, .val (.long q3), .second, .val (.int ui), .val (.int wi), .val (.long ((-1 : Int64) <<< ((q2.toInt32) &&& 0x3f).toInt64)), .second, .unset, .unset, .unset] [(.long (q3 &&& (63 : Int64))), (.long (63 : Int64)), (.long (-1 : Int64))]))
  refine Go.st (fun t k => XS.lsub X0.here hx rfl (hb hby d5_33) rfl k) ?_
  show Go p.tables e below PP (s₁.setTop (mkF m 34 #[.val (.ref a1), .val (.long q2), .second, .val (.long q3), .second, .val (.int ui), .val (.int wi), .val (.long ((-1 : Int64) <<< ((q2.toInt32) &&& 0x3f).toInt64)), .second, .unset, .unset, .unset] [(.long ((63 : Int64) - (q3 &&& (63 : Int64)))), (.long (-1 : Int64))]))
  refine Go.st (fun t k => XS.l2i X0.here hx rfl (hb hby d5_34) rfl k) ?_
  show Go p.tables e below PP (s₁.setTop (mkF m 35 #[.val (.ref a1), .val (.long q2), .second, .val (.long q3), .second, .val (.int ui), .val (.int wi), .val (.long ((-1 : Int64) <<< ((q2.toInt32) &&& 0x3f).toInt64)), .second, .unset, .unset, .unset] [(.int (((63 : Int64) - (q3 &&& (63 : Int64))).toInt32)), (.long (-1 : Int64))]))
  refine Go.st (fun t k => XS.lushr X0.here hx rfl (hb hby d5_35) rfl k) ?_
  show Go p.tables e below PP (s₁.setTop (mkF m 36 #[.val (.ref a1), .val (.long q2), .second, .val (.long q3), .second, .val (.int ui), .val (.int wi), .val (.long ((-1 : Int64) <<< ((q2.toInt32) &&& 0x3f).toInt64)), .second, .unset, .unset, .unset] [(.long (((-1 : Int64).toUInt64 >>> ((((63 : Int64) - (q3 &&& (63 : Int64))).toInt32) &&& 0x3f).toInt64.toUInt64).toInt64))]))
  refine Go.st (fun t k => XS.lstore X0.here hx rfl (hb hby d5_36) rfl (l' := #[.val (.ref a1), .val (.long q2), .second, .val (.long q3), .second, .val (.int ui), .val (.int wi), .val (.long ((-1 : Int64) <<< ((q2.toInt32) &&& 0x3f).toInt64)), .second, .val (.long (((-1 : Int64).toUInt64 >>> ((((63 : Int64) - (q3 &&& (63 : Int64))).toInt32) &&& 0x3f).toInt64.toUInt64).toInt64)), .second, .unset]) rfl k) ?_
  show Go p.tables e below PP (s₁.setTop (mkF m 38 #[.val (.ref a1), .val (.long q2), .second, .val (.long q3), .second, .val (.int ui), .val (.int wi), .val (.long ((-1 : Int64) <<< ((q2.toInt32) &&& 0x3f).toInt64)), .second, .val (.long (((-1 : Int64).toUInt64 >>> ((((63 : Int64) - (q3 &&& (63 : Int64))).toInt32) &&& 0x3f).toInt64.toUInt64).toInt64)), .second, .unset] []))
  refine Go.st (fun t k => XS.iload X0.here hx rfl (hb hby d5_38) rfl k) ?_
  show Go p.tables e below PP (s₁.setTop (mkF m 40 #[.val (.ref a1), .val (.long q2), .second, .val (.long q3), .second, .val (.int ui), .val (.int wi), .val (.long ((-1 : Int64) <<< ((q2.toInt32) &&& 0x3f).toInt64)), .second, .val (.long (((-1 : Int64).toUInt64 >>> ((((63 : Int64) - (q3 &&& (63 : Int64))).toInt32) &&& 0x3f).toInt64.toUInt64).toInt64)), .second, .unset] [(.int ui)]))
  refine Go.st (fun t k => XS.iload X0.here hx rfl (hb hby d5_40) rfl k) ?_
  show Go p.tables e below PP (s₁.setTop (mkF m 42 #[.val (.ref a1), .val (.long q2), .second, .val (.long q3), .second, .val (.int ui), .val (.int wi), .val (.long ((-1 : Int64) <<< ((q2.toInt32) &&& 0x3f).toInt64)), .second, .val (.long (((-1 : Int64).toUInt64 >>> ((((63 : Int64) - (q3 &&& (63 : Int64))).toInt32) &&& 0x3f).toInt64.toUInt64).toInt64)), .second, .unset] [(.int wi), (.int ui)]))
  by_cases hc42 : ui = wi
  · --
    refine Go.st (fun t k => XS.icmpNo X0.here hx rfl (hb hby d5_42) rfl (XT.ii_ne_f hc42) k) ?_
    show Go p.tables e below PP (s₁.setTop (mkF m 45 #[.val (.ref a1), .val (.long q2), .second, .val (.long q3), .second, .val (.int ui), .val (.int wi), .val (.long ((-1 : Int64) <<< ((q2.toInt32) &&& 0x3f).toInt64)), .second, .val (.long (((-1 : Int64).toUInt64 >>> ((((63 : Int64) - (q3 &&& (63 : Int64))).toInt32) &&& 0x3f).toInt64.toUInt64).toInt64)), .second, .unset] []))
    refine Go.st (fun t k => XS.aloadN X0.here hx rfl (hb hby d5_45) rfl rfl k) ?_
    show Go p.tables e below PP (s₁.setTop (mkF m 46 #[.val (.ref a1), .val (.long q2), .second, .val (.long q3), .second, .val (.int ui), .val (.int wi), .val (.long ((-1 : Int64) <<< ((q2.toInt32) &&& 0x3f).toInt64)), .second, .val (.long (((-1 : Int64).toUInt64 >>> ((((63 : Int64) - (q3 &&& (63 : Int64))).toInt32) &&& 0x3f).toInt64.toUInt64).toInt64)), .second, .unset] [(.ref a1)]))
    obtain ⟨T1, X1, e1, st1⟩ := getF X0 hx hZ hown (host := "") (Or.inl (hw _ (List.mem_of_getElem? (i := 23) rfl))) Via.refl e0 F_words_a1 (g := (mkF m 46 #[.val (.ref a1), .val (.long q2), .second, .val (.long q3), .second, .val (.int ui), .val (.int wi), .val (.long ((-1 : Int64) <<< ((q2.toInt32) &&& 0x3f).toInt64)), .second, .val (.long (((-1 : Int64).toUInt64 >>> ((((63 : Int64) - (q3 &&& (63 : Int64))).toInt32) &&& 0x3f).toInt64.toUInt64).toInt64)), .second, .unset] [(.ref a1)])) rfl rfl (hb hby d5_46)
    refine Go.st st1 ?_
    show Go p.tables e below PP (T1.setTop (mkF m 49 #[.val (.ref a1), .val (.long q2), .second, .val (.long q3), .second, .val (.int ui), .val (.int wi), .val (.long ((-1 : Int64) <<< ((q2.toInt32) &&& 0x3f).toInt64)), .second, .val (.long (((-1 : Int64).toUInt64 >>> ((((63 : Int64) - (q3 &&& (63 : Int64))).toInt32) &&& 0x3f).toInt64.toUInt64).toInt64)), .second, .unset] [(.ref tw)]))
    refine Go.st (fun t k => XS.iload X1.here hx rfl (hb hby d5_49) rfl k) ?_
    show Go p.tables e below PP (T1.setTop (mkF m 51 #[.val (.ref a1), .val (.long q2), .second, .val (.long q3), .second, .val (.int ui), .val (.int wi), .val (.long ((-1 : Int64) <<< ((q2.toInt32) &&& 0x3f).toInt64)), .second, .val (.long (((-1 : Int64).toUInt64 >>> ((((63 : Int64) - (q3 &&& (63 : Int64))).toInt32) &&& 0x3f).toInt64.toUInt64).toInt64)), .second, .unset] [(.int ui), (.ref tw)]))
    refine Go.st (fun t k => XT.dup2 X1.here hx rfl (hb hby d5_51) rfl rfl rfl k) ?_
    show Go p.tables e below PP (T1.setTop (mkF m 52 #[.val (.ref a1), .val (.long q2), .second, .val (.long q3), .second, .val (.int ui), .val (.int wi), .val (.long ((-1 : Int64) <<< ((q2.toInt32) &&& 0x3f).toInt64)), .second, .val (.long (((-1 : Int64).toUInt64 >>> ((((63 : Int64) - (q3 &&& (63 : Int64))).toInt32) &&& 0x3f).toInt64.toUInt64).toInt64)), .second, .unset] [(.int ui), (.ref tw), (.int ui), (.ref tw)]))
    obtain ⟨cl2, Ar2, S2, Nn2, H2⟩ := id V_tw
    have hin2 : ¬ (ui < 0 ∨ cl2.slots.size ≤ (ui).toNatClampNeg) := inb_of S2 (own_ib ui nw (by omega) (by omega))
    refine Go.st (fun t k => X1.laload hx (j := ui) (v := (.long (fw ui.toNatClampNeg))) (by rw [e1]; exact Ar2.1) (State.isArrayOf_alike hZ.alike Ar2.2.1) Ar2.2.2 hin2 ((H2 _ (inbN (own_ib ui nw (by omega) (by omega)))).1.trans (congrArg some (rfl))) (g := (mkF m 52 #[.val (.ref a1), .val (.long q2), .second, .val (.long q3), .second, .val (.int ui), .val (.int wi), .val (.long ((-1 : Int64) <<< ((q2.toInt32) &&& 0x3f).toInt64)), .second, .val (.long (((-1 : Int64).toUInt64 >>> ((((63 : Int64) - (q3 &&& (63 : Int64))).toInt32) &&& 0x3f).toInt64.toUInt64).toInt64)), .second, .unset] [(.int ui), (.ref tw), (.int ui), (.ref tw)])) rfl rfl (hb hby d5_52) _ k) ?_
    show Go p.tables e below PP (T1.setTop (mkF m 53 #[.val (.ref a1), .val (.long q2), .second, .val (.long q3), .second, .val (.int ui), .val (.int wi), .val (.long ((-1 : Int64) <<< ((q2.toInt32) &&& 0x3f).toInt64)), .second, .val (.long (((-1 : Int64).toUInt64 >>> ((((63 : Int64) - (q3 &&& (63 : Int64))).toInt32) &&& 0x3f).toInt64.toUInt64).toInt64)), .second, .unset] [(.long (fw ui.toNatClampNeg)), (.int ui), (.ref tw)]))
    refine Go.st (fun t k => XS.lload X1.here hx rfl (hb hby d5_53) rfl k) ?_
    show Go p.tables e below PP (T1.setTop (mkF m 55 #[.val (.ref a1), .val (.long q2), .second, .val (.long q3), .second, .val (.int ui), .val (.int wi), .val (.long ((-1 : Int64) <<< ((q2.toInt32) &&& 0x3f).toInt64)), .second, .val (.long (((-1 : Int64).toUInt64 >>> ((((63 : Int64) - (q3 &&& (63 : Int64))).toInt32) &&& 0x3f).toInt64.toUInt64).toInt64)), .second, .unset] [(.long ((-1 : Int64) <<< ((q2.toInt32) &&& 0x3f).toInt64)), (.long (fw ui.toNatClampNeg)), (.int ui), (.ref tw)]))
    refine Go.st (fun t k => XS.lload X1.here hx rfl (hb hby d5_55) rfl k) ?_
    show Go p.tables e below PP (T1.setTop (mkF m 57 #[.val (.ref a1), .val (.long q2), .second, .val (.long q3), .second, .val (.int ui), .val (.int wi), .val (.long ((-1 : Int64) <<< ((q2.toInt32) &&& 0x3f).toInt64)), .second, .val (.long (((-1 : Int64).toUInt64 >>> ((((63 : Int64) - (q3 &&& (63 : Int64))).toInt32) &&& 0x3f).toInt64.toUInt64).toInt64)), .second, .unset] [(.long (((-1 : Int64).toUInt64 >>> ((((63 : Int64) - (q3 &&& (63 : Int64))).toInt32) &&& 0x3f).toInt64.toUInt64).toInt64)), (.long ((-1 : Int64) <<< ((q2.toInt32) &&& 0x3f).toInt64)), (.long (fw ui.toNatClampNeg)), (.int ui), (.ref tw)]))
    refine Go.st (fun t k => XS.land X1.here hx rfl (hb hby d5_57) rfl k) ?_
    show Go p.tables e below PP (T1.setTop (mkF m 58 #[.val (.ref a1), .val (.long q2), .second, .val (.long q3), .second, .val (.int ui), .val (.int wi), .val (.long ((-1 : Int64) <<< ((q2.toInt32) &&& 0x3f).toInt64)), .second, .val (.long (((-1 : Int64).toUInt64 >>> ((((63 : Int64) - (q3 &&& (63 : Int64))).toInt32) &&& 0x3f).toInt64.toUInt64).toInt64)), .second, .unset] [(.long (((-1 : Int64) <<< ((q2.toInt32) &&& 0x3f).toInt64) &&& (((-1 : Int64).toUInt64 >>> ((((63 : Int64) - (q3 &&& (63 : Int64))).toInt32) &&& 0x3f).toInt64.toUInt64).toInt64))), (.long (fw ui.toNatClampNeg)), (.int ui), (.ref tw)]))
    refine Go.st (fun t k => XS.lor X1.here hx rfl (hb hby d5_58) rfl k) ?_
    show Go p.tables e below PP (T1.setTop (mkF m 59 #[.val (.ref a1), .val (.long q2), .second, .val (.long q3), .second, .val (.int ui), .val (.int wi), .val (.long ((-1 : Int64) <<< ((q2.toInt32) &&& 0x3f).toInt64)), .second, .val (.long (((-1 : Int64).toUInt64 >>> ((((63 : Int64) - (q3 &&& (63 : Int64))).toInt32) &&& 0x3f).toInt64.toUInt64).toInt64)), .second, .unset] [(.long ((fw ui.toNatClampNeg) ||| (((-1 : Int64) <<< ((q2.toInt32) &&& 0x3f).toInt64) &&& (((-1 : Int64).toUInt64 >>> ((((63 : Int64) - (q3 &&& (63 : Int64))).toInt32) &&& 0x3f).toInt64.toUInt64).toInt64)))), (.int ui), (.ref tw)]))
    obtain ⟨cl3, Ar3, S3, Nn3, H3⟩ := id V_tw
    have hin3 : ¬ (ui < 0 ∨ cl3.slots.size ≤ (ui).toNatClampNeg) := inb_of S3 (own_ib ui nw (by omega) (by omega))
    obtain ⟨T3, h3, X3, e3, W3, st3⟩ := stJ X1 hx hZ e1 Ar3 (j := ui) hin3 (g := (mkF m 59 #[.val (.ref a1), .val (.long q2), .second, .val (.long q3), .second, .val (.int ui), .val (.int wi), .val (.long ((-1 : Int64) <<< ((q2.toInt32) &&& 0x3f).toInt64)), .second, .val (.long (((-1 : Int64).toUInt64 >>> ((((63 : Int64) - (q3 &&& (63 : Int64))).toInt32) &&& 0x3f).toInt64.toUInt64).toInt64)), .second, .unset] [(.long ((fw ui.toNatClampNeg) ||| (((-1 : Int64) <<< ((q2.toInt32) &&& 0x3f).toInt64) &&& (((-1 : Int64).toUInt64 >>> ((((63 : Int64) - (q3 &&& (63 : Int64))).toInt32) &&& 0x3f).toInt64.toUInt64).toInt64)))), (.int ui), (.ref tw)])) rfl rfl (hb hby d5_59)
    refine Go.st st3 ?_
    have N3 := Fr.snoc X3 N0 g_tw
    replace F_words_a1 := F_words_a1.other W3 (Or.inl hne)
    replace K := K.wr W3 (Or.inl (List.mem_of_getElem? (i := 0) rfl))
    replace Zn : n0 ≤ h3.size := by rw [W3.size]; exact Zn
    replace V_tw := Afn.set Ar3 S3 Nn3 H3 rfl W3
    show Go p.tables e below PP (T3.setTop (mkF m 60 #[.val (.ref a1), .val (.long q2), .second, .val (.long q3), .second, .val (.int ui), .val (.int wi), .val (.long ((-1 : Int64) <<< ((q2.toInt32) &&& 0x3f).toInt64)), .second, .val (.long (((-1 : Int64).toUInt64 >>> ((((63 : Int64) - (q3 &&& (63 : Int64))).toInt32) &&& 0x3f).toInt64.toUInt64).toInt64)), .second, .unset] []))
    rw [hPP]
    refine endV X3 hx hlk hret (hb hby d5_60) ?_ (by decide) (by decide)
    show Q5 Z a1 q2 q3 tw nw fw h0 n0 none T3.heap _
    rw [e3]
    exact ⟨rfl, N3, K, V_tw.congr (fun k _ => add_a fw q2 q3 ui hA.1 hu (by rw [← hu, ← hwl, hc42]) hA.2.1 k)⟩
  · --
    refine Go.st (fun t k => XS.icmpYes X0.here hx rfl (pc0 := 42) (pc' := 61) rfl (hb hby d5_42) rfl (XT.ii_ne_t hc42) (by decide) (by decide) k) ?_
    have hlt : ui.toInt < wi.toInt := by have z : ui.toInt ≠ wi.toInt := fun z => hc42 (Int32.toInt_inj.mp z); omega
    have hu1 := own_v1 ui wi (by omega) (Int32.lt_iff_toInt_lt.mpr hlt)
    show Go p.tables e below PP (s₁.setTop (mkF m 61 #[.val (.ref a1), .val (.long q2), .second, .val (.long q3), .second, .val (.int ui), .val (.int wi), .val (.long ((-1 : Int64) <<< ((q2.toInt32) &&& 0x3f).toInt64)), .second, .val (.long (((-1 : Int64).toUInt64 >>> ((((63 : Int64) - (q3 &&& (63 : Int64))).toInt32) &&& 0x3f).toInt64.toUInt64).toInt64)), .second, .unset] []))
    refine Go.st (fun t k => XS.aloadN X0.here hx rfl (hb hby d5_61) rfl rfl k) ?_
    show Go p.tables e below PP (s₁.setTop (mkF m 62 #[.val (.ref a1), .val (.long q2), .second, .val (.long q3), .second, .val (.int ui), .val (.int wi), .val (.long ((-1 : Int64) <<< ((q2.toInt32) &&& 0x3f).toInt64)), .second, .val (.long (((-1 : Int64).toUInt64 >>> ((((63 : Int64) - (q3 &&& (63 : Int64))).toInt32) &&& 0x3f).toInt64.toUInt64).toInt64)), .second, .unset] [(.ref a1)]))
    obtain ⟨T4, X4, e4, st4⟩ := getF X0 hx hZ hown (host := "") (Or.inl (hw _ (List.mem_of_getElem? (i := 23) rfl))) Via.refl e0 F_words_a1 (g := (mkF m 62 #[.val (.ref a1), .val (.long q2), .second, .val (.long q3), .second, .val (.int ui), .val (.int wi), .val (.long ((-1 : Int64) <<< ((q2.toInt32) &&& 0x3f).toInt64)), .second, .val (.long (((-1 : Int64).toUInt64 >>> ((((63 : Int64) - (q3 &&& (63 : Int64))).toInt32) &&& 0x3f).toInt64.toUInt64).toInt64)), .second, .unset] [(.ref a1)])) rfl rfl (hb hby d5_62)
    refine Go.st st4 ?_
    show Go p.tables e below PP (T4.setTop (mkF m 65 #[.val (.ref a1), .val (.long q2), .second, .val (.long q3), .second, .val (.int ui), .val (.int wi), .val (.long ((-1 : Int64) <<< ((q2.toInt32) &&& 0x3f).toInt64)), .second, .val (.long (((-1 : Int64).toUInt64 >>> ((((63 : Int64) - (q3 &&& (63 : Int64))).toInt32) &&& 0x3f).toInt64.toUInt64).toInt64)), .second, .unset] [(.ref tw)]))
    refine Go.st (fun t k => XS.iload X4.here hx rfl (hb hby d5_65) rfl k) ?_
    show Go p.tables e below PP (T4.setTop (mkF m 67 #[.val (.ref a1), .val (.long q2), .second, .val (.long q3), .second, .val (.int ui), .val (.int wi), .val (.long ((-1 : Int64) <<< ((q2.toInt32) &&& 0x3f).toInt64)), .second, .val (.long (((-1 : Int64).toUInt64 >>> ((((63 : Int64) - (q3 &&& (63 : Int64))).toInt32) &&& 0x3f).toInt64.toUInt64).toInt64)), .second, .unset] [(.int ui), (.ref tw)]))
    refine Go.st (fun t k => XT.dup2 X4.here hx rfl (hb hby d5_67) rfl rfl rfl k) ?_
    show Go p.tables e below PP (T4.setTop (mkF m 68 #[.val (.ref a1), .val (.long q2), .second, .val (.long q3), .second, .val (.int ui), .val (.int wi), .val (.long ((-1 : Int64) <<< ((q2.toInt32) &&& 0x3f).toInt64)), .second, .val (.long (((-1 : Int64).toUInt64 >>> ((((63 : Int64) - (q3 &&& (63 : Int64))).toInt32) &&& 0x3f).toInt64.toUInt64).toInt64)), .second, .unset] [(.int ui), (.ref tw), (.int ui), (.ref tw)]))
    obtain ⟨cl5, Ar5, S5, Nn5, H5⟩ := id V_tw
    have hin5 : ¬ (ui < 0 ∨ cl5.slots.size ≤ (ui).toNatClampNeg) := inb_of S5 (own_ib ui nw (by omega) (by omega))
    refine Go.st (fun t k => X4.laload hx (j := ui) (v := (.long (fw ui.toNatClampNeg))) (by rw [e4]; exact Ar5.1) (State.isArrayOf_alike hZ.alike Ar5.2.1) Ar5.2.2 hin5 ((H5 _ (inbN (own_ib ui nw (by omega) (by omega)))).1.trans (congrArg some (rfl))) (g := (mkF m 68 #[.val (.ref a1), .val (.long q2), .second, .val (.long q3), .second, .val (.int ui), .val (.int wi), .val (.long ((-1 : Int64) <<< ((q2.toInt32) &&& 0x3f).toInt64)), .second, .val (.long (((-1 : Int64).toUInt64 >>> ((((63 : Int64) - (q3 &&& (63 : Int64))).toInt32) &&& 0x3f).toInt64.toUInt64).toInt64)), .second, .unset] [(.int ui), (.ref tw), (.int ui), (.ref tw)])) rfl rfl (hb hby d5_68) _ k) ?_
    show Go p.tables e below PP (T4.setTop (mkF m 69 #[.val (.ref a1), .val (.long q2), .second, .val (.long q3), .second, .val (.int ui), .val (.int wi), .val (.long ((-1 : Int64) <<< ((q2.toInt32) &&& 0x3f).toInt64)), .second, .val (.long (((-1 : Int64).toUInt64 >>> ((((63 : Int64) - (q3 &&& (63 : Int64))).toInt32) &&& 0x3f).toInt64.toUInt64).toInt64)), .second, .unset] [(.long (fw ui.toNatClampNeg)), (.int ui), (.ref tw)]))
    refine Go.st (fun t k => XS.lload X4.here hx rfl (hb hby d5_69) rfl k) ?_
    show Go p.tables e below PP (T4.setTop (mkF m 71 #[.val (.ref a1), .val (.long q2), .second, .val (.long q3), .second, .val (.int ui), .val (.int wi), .val (.long ((-1 : Int64) <<< ((q2.toInt32) &&& 0x3f).toInt64)), .second, .val (.long (((-1 : Int64).toUInt64 >>> ((((63 : Int64) - (q3 &&& (63 : Int64))).toInt32) &&& 0x3f).toInt64.toUInt64).toInt64)), .second, .unset] [(.long ((-1 : Int64) <<< ((q2.toInt32) &&& 0x3f).toInt64)), (.long (fw ui.toNatClampNeg)), (.int ui), (.ref tw)]))
    refine Go.st (fun t k => XS.lor X4.here hx rfl (hb hby d5_71) rfl k) ?_
    show Go p.tables e below PP (T4.setTop (mkF m 72 #[.val (.ref a1), .val (.long q2), .second, .val (.long q3), .second, .val (.int ui), .val (.int wi), .val (.long ((-1 : Int64) <<< ((q2.toInt32) &&& 0x3f).toInt64)), .second, .val (.long (((-1 : Int64).toUInt64 >>> ((((63 : Int64) - (q3 &&& (63 : Int64))).toInt32) &&& 0x3f).toInt64.toUInt64).toInt64)), .second, .unset] [(.long ((fw ui.toNatClampNeg) ||| ((-1 : Int64) <<< ((q2.toInt32) &&& 0x3f).toInt64))), (.int ui), (.ref tw)]))
    obtain ⟨cl6, Ar6, S6, Nn6, H6⟩ := id V_tw
    have hin6 : ¬ (ui < 0 ∨ cl6.slots.size ≤ (ui).toNatClampNeg) := inb_of S6 (own_ib ui nw (by omega) (by omega))
    obtain ⟨T6, h6, X6, e6, W6, st6⟩ := stJ X4 hx hZ e4 Ar6 (j := ui) hin6 (g := (mkF m 72 #[.val (.ref a1), .val (.long q2), .second, .val (.long q3), .second, .val (.int ui), .val (.int wi), .val (.long ((-1 : Int64) <<< ((q2.toInt32) &&& 0x3f).toInt64)), .second, .val (.long (((-1 : Int64).toUInt64 >>> ((((63 : Int64) - (q3 &&& (63 : Int64))).toInt32) &&& 0x3f).toInt64.toUInt64).toInt64)), .second, .unset] [(.long ((fw ui.toNatClampNeg) ||| ((-1 : Int64) <<< ((q2.toInt32) &&& 0x3f).toInt64))), (.int ui), (.ref tw)])) rfl rfl (hb hby d5_72)
    refine Go.st st6 ?_
    have N6 := Fr.snoc X6 N0 g_tw
    replace F_words_a1 := F_words_a1.other W6 (Or.inl hne)
    replace K := K.wr W6 (Or.inl (List.mem_of_getElem? (i := 0) rfl))
    replace Zn : n0 ≤ h6.size := by rw [W6.size]; exact Zn
    replace V_tw := Afn.set Ar6 S6 Nn6 H6 rfl W6
    show Go p.tables e below PP (T6.setTop (mkF m 73 #[.val (.ref a1), .val (.long q2), .second, .val (.long q3), .second, .val (.int ui), .val (.int wi), .val (.long ((-1 : Int64) <<< ((q2.toInt32) &&& 0x3f).toInt64)), .second, .val (.long (((-1 : Int64).toUInt64 >>> ((((63 : Int64) - (q3 &&& (63 : Int64))).toInt32) &&& 0x3f).toInt64.toUInt64).toInt64)), .second, .unset] []))
    refine Go.st (fun t k => XS.iload X6.here hx rfl (hb hby d5_73) rfl k) ?_
    show Go p.tables e below PP (T6.setTop (mkF m 75 #[.val (.ref a1), .val (.long q2), .second, .val (.long q3), .second, .val (.int ui), .val (.int wi), .val (.long ((-1 : Int64) <<< ((q2.toInt32) &&& 0x3f).toInt64)), .second, .val (.long (((-1 : Int64).toUInt64 >>> ((((63 : Int64) - (q3 &&& (63 : Int64))).toInt32) &&& 0x3f).toInt64.toUInt64).toInt64)), .second, .unset] [(.int ui)]))
    refine Go.st (fun t k => XS.iconst X6.here hx rfl (hb hby d5_75) k) ?_
    show Go p.tables e below PP (T6.setTop (mkF m 76 #[.val (.ref a1), .val (.long q2), .second, .val (.long q3), .second, .val (.int ui), .val (.int wi), .val (.long ((-1 : Int64) <<< ((q2.toInt32) &&& 0x3f).toInt64)), .second, .val (.long (((-1 : Int64).toUInt64 >>> ((((63 : Int64) - (q3 &&& (63 : Int64))).toInt32) &&& 0x3f).toInt64.toUInt64).toInt64)), .second, .unset] [(.int (1 : Int32)), (.int ui)]))
    refine Go.st (fun t k => XS.iadd X6.here hx rfl (hb hby d5_76) rfl k) ?_
    show Go p.tables e below PP (T6.setTop (mkF m 77 #[.val (.ref a1), .val (.long q2), .second, .val (.long q3), .second, .val (.int ui), .val (.int wi), .val (.long ((-1 : Int64) <<< ((q2.toInt32) &&& 0x3f).toInt64)), .second, .val (.long (((-1 : Int64).toUInt64 >>> ((((63 : Int64) - (q3 &&& (63 : Int64))).toInt32) &&& 0x3f).toInt64.toUInt64).toInt64)), .second, .unset] [(.int (ui + (1 : Int32)))]))
    refine Go.st (fun t k => XS.istore X6.here hx rfl (hb hby d5_77) rfl (l' := #[.val (.ref a1), .val (.long q2), .second, .val (.long q3), .second, .val (.int ui), .val (.int wi), .val (.long ((-1 : Int64) <<< ((q2.toInt32) &&& 0x3f).toInt64)), .second, .val (.long (((-1 : Int64).toUInt64 >>> ((((63 : Int64) - (q3 &&& (63 : Int64))).toInt32) &&& 0x3f).toInt64.toUInt64).toInt64)), .second, .val (.int (ui + (1 : Int32)))]) rfl k) ?_
    have J79 : ∀ (d7 : Nat) (T7 : State) (L7 : List Loc) (h7 : Heap) (vi : Int32), Stand p l e ({ frames := 0, cells := 0, slots := 0, locals := 0 } : Room) s m #[(.ref a1), (.long q2), (.long q3)] below meth c T7 L7 0 0 → T7.heap = h7 → Fr n0 L7 → Fld Z h7 a1 "com/example/warpfinder/warpfinder/index/PositionBits" "words" "[J" (.ref tw) → Afn Z h7 tw .long nw (fun k => .long (if ui.toNatClampNeg < k ∧ k < vi.toNatClampNeg then (-1 : Int64) else if k = ui.toNatClampNeg then fw k ||| ((-1 : Int64) <<< ((q2.toInt32) &&& 0x3f).toInt64) else fw k)) → Keep h0 h7 [tw] → n0 ≤ h7.size → (ui.toInt < vi.toInt ∧ vi.toInt ≤ wi.toInt) → wi.toNatClampNeg - vi.toNatClampNeg = d7 → Go p.tables e below PP (T7.setTop (mkF m 79 #[.val (.ref a1), .val (.long q2), .second, .val (.long q3), .second, .val (.int ui), .val (.int wi), .val (.long ((-1 : Int64) <<< ((q2.toInt32) &&& 0x3f).toInt64)), .second, .val (.long (((-1 : Int64).toUInt64 >>> ((((63 : Int64) - (q3 &&& (63 : Int64))).toInt32) &&& 0x3f).toInt64.toUInt64).toInt64)), .second, .val (.int vi)] [])) := by
      clear F_words_a1
      clear V_tw
      clear Zn K
      intro d7
      induction d7 using Nat.strongRecOn with
      | _ d7 ih7 =>
        intro T7 L7 h7 vi X7 e7 N7 F_words_a1 V_tw K Zn hJ79 hd7
        show Go p.tables e below PP (T7.setTop (mkF m 79 #[.val (.ref a1), .val (.long q2), .second, .val (.long q3), .second, .val (.int ui), .val (.int wi), .val (.long ((-1 : Int64) <<< ((q2.toInt32) &&& 0x3f).toInt64)), .second, .val (.long (((-1 : Int64).toUInt64 >>> ((((63 : Int64) - (q3 &&& (63 : Int64))).toInt32) &&& 0x3f).toInt64.toUInt64).toInt64)), .second, .val (.int vi)] []))
        refine Go.st (fun t k => XS.iload X7.here hx rfl (hb hby d5_79) rfl k) ?_
        show Go p.tables e below PP (T7.setTop (mkF m 81 #[.val (.ref a1), .val (.long q2), .second, .val (.long q3), .second, .val (.int ui), .val (.int wi), .val (.long ((-1 : Int64) <<< ((q2.toInt32) &&& 0x3f).toInt64)), .second, .val (.long (((-1 : Int64).toUInt64 >>> ((((63 : Int64) - (q3 &&& (63 : Int64))).toInt32) &&& 0x3f).toInt64.toUInt64).toInt64)), .second, .val (.int vi)] [(.int vi)]))
        refine Go.st (fun t k => XS.iload X7.here hx rfl (hb hby d5_81) rfl k) ?_
        show Go p.tables e below PP (T7.setTop (mkF m 83 #[.val (.ref a1), .val (.long q2), .second, .val (.long q3), .second, .val (.int ui), .val (.int wi), .val (.long ((-1 : Int64) <<< ((q2.toInt32) &&& 0x3f).toInt64)), .second, .val (.long (((-1 : Int64).toUInt64 >>> ((((63 : Int64) - (q3 &&& (63 : Int64))).toInt32) &&& 0x3f).toInt64.toUInt64).toInt64)), .second, .val (.int vi)] [(.int wi), (.int vi)]))
        by_cases hc83 : vi < wi
        · --
          refine Go.st (fun t k => XS.icmpNo X7.here hx rfl (hb hby d5_83) rfl (XT.ii_ge_f hc83) k) ?_
          show Go p.tables e below PP (T7.setTop (mkF m 86 #[.val (.ref a1), .val (.long q2), .second, .val (.long q3), .second, .val (.int ui), .val (.int wi), .val (.long ((-1 : Int64) <<< ((q2.toInt32) &&& 0x3f).toInt64)), .second, .val (.long (((-1 : Int64).toUInt64 >>> ((((63 : Int64) - (q3 &&& (63 : Int64))).toInt32) &&& 0x3f).toInt64.toUInt64).toInt64)), .second, .val (.int vi)] []))
          refine Go.st (fun t k => XS.aloadN X7.here hx rfl (hb hby d5_86) rfl rfl k) ?_
          show Go p.tables e below PP (T7.setTop (mkF m 87 #[.val (.ref a1), .val (.long q2), .second, .val (.long q3), .second, .val (.int ui), .val (.int wi), .val (.long ((-1 : Int64) <<< ((q2.toInt32) &&& 0x3f).toInt64)), .second, .val (.long (((-1 : Int64).toUInt64 >>> ((((63 : Int64) - (q3 &&& (63 : Int64))).toInt32) &&& 0x3f).toInt64.toUInt64).toInt64)), .second, .val (.int vi)] [(.ref a1)]))
          obtain ⟨T8, X8, e8, st8⟩ := getF X7 hx hZ hown (host := "") (Or.inl (hw _ (List.mem_of_getElem? (i := 23) rfl))) Via.refl e7 F_words_a1 (g := (mkF m 87 #[.val (.ref a1), .val (.long q2), .second, .val (.long q3), .second, .val (.int ui), .val (.int wi), .val (.long ((-1 : Int64) <<< ((q2.toInt32) &&& 0x3f).toInt64)), .second, .val (.long (((-1 : Int64).toUInt64 >>> ((((63 : Int64) - (q3 &&& (63 : Int64))).toInt32) &&& 0x3f).toInt64.toUInt64).toInt64)), .second, .val (.int vi)] [(.ref a1)])) rfl rfl (hb hby d5_87)
          refine Go.st st8 ?_
          show Go p.tables e below PP (T8.setTop (mkF m 90 #[.val (.ref a1), .val (.long q2), .second, .val (.long q3), .second, .val (.int ui), .val (.int wi), .val (.long ((-1 : Int64) <<< ((q2.toInt32) &&& 0x3f).toInt64)), .second, .val (.long (((-1 : Int64).toUInt64 >>> ((((63 : Int64) - (q3 &&& (63 : Int64))).toInt32) &&& 0x3f).toInt64.toUInt64).toInt64)), .second, .val (.int vi)] [(.ref tw)]))
          refine Go.st (fun t k => XS.iload X8.here hx rfl (hb hby d5_90) rfl k) ?_
          show Go p.tables e below PP (T8.setTop (mkF m 92 #[.val (.ref a1), .val (.long q2), .second, .val (.long q3), .second, .val (.int ui), .val (.int wi), .val (.long ((-1 : Int64) <<< ((q2.toInt32) &&& 0x3f).toInt64)), .second, .val (.long (((-1 : Int64).toUInt64 >>> ((((63 : Int64) - (q3 &&& (63 : Int64))).toInt32) &&& 0x3f).toInt64.toUInt64).toInt64)), .second, .val (.int vi)] [(.int vi), (.ref tw)]))
          refine Go.st (fun t k => X8.ldc2J hx hown (mvT hZ (hw _ (List.mem_of_getElem? (i := 30) rfl))) (g := (mkF m 92 #[.val (.ref a1), .val (.long q2), .second, .val (.long q3), .second, .val (.int ui), .val (.int wi), .val (.long ((-1 : Int64) <<< ((q2.toInt32) &&& 0x3f).toInt64)), .second, .val (.long (((-1 : Int64).toUInt64 >>> ((((63 : Int64) - (q3 &&& (63 : Int64))).toInt32) &&& 0x3f).toInt64.toUInt64).toInt64)), .second, .val (.int vi)] [(.int vi), (.ref tw)])) rfl (hb hby d5_92) k) ?_
          show Go p.tables e below PP (T8.setTop (mkF m 95 #[.val (.ref a1), .val (.long q2), .second, .val (.long q3), .second, .val (.int ui), .val (.int wi), .val (.long ((-1 : Int64) <<< ((q2.toInt32) &&& 0x3f).toInt64)), .second, .val (.long (((-1 : Int64).toUInt64 >>> ((((63 : Int64) - (q3 &&& (63 : Int64))).toInt32) &&& 0x3f).toInt64.toUInt64).toInt64)), .second, .val (.int vi)] [(.long (-1 : Int64)), (.int vi), (.ref tw)]))
          obtain ⟨cl9, Ar9, S9, Nn9, H9⟩ := id V_tw
          have hin9 : ¬ (vi < 0 ∨ cl9.slots.size ≤ (vi).toNatClampNeg) := inb_of S9 (own_ib vi nw (by omega) (by omega))
          obtain ⟨T9, h9, X9, e9, W9, st9⟩ := stJ X8 hx hZ e8 Ar9 (j := vi) hin9 (g := (mkF m 95 #[.val (.ref a1), .val (.long q2), .second, .val (.long q3), .second, .val (.int ui), .val (.int wi), .val (.long ((-1 : Int64) <<< ((q2.toInt32) &&& 0x3f).toInt64)), .second, .val (.long (((-1 : Int64).toUInt64 >>> ((((63 : Int64) - (q3 &&& (63 : Int64))).toInt32) &&& 0x3f).toInt64.toUInt64).toInt64)), .second, .val (.int vi)] [(.long (-1 : Int64)), (.int vi), (.ref tw)])) rfl rfl (hb hby d5_95)
          refine Go.st st9 ?_
          have N9 := Fr.snoc X9 N7 g_tw
          replace F_words_a1 := F_words_a1.other W9 (Or.inl hne)
          replace K := K.wr W9 (Or.inl (List.mem_of_getElem? (i := 0) rfl))
          replace Zn : n0 ≤ h9.size := by rw [W9.size]; exact Zn
          replace V_tw := Afn.set Ar9 S9 Nn9 H9 rfl W9
          show Go p.tables e below PP (T9.setTop (mkF m 96 #[.val (.ref a1), .val (.long q2), .second, .val (.long q3), .second, .val (.int ui), .val (.int wi), .val (.long ((-1 : Int64) <<< ((q2.toInt32) &&& 0x3f).toInt64)), .second, .val (.long (((-1 : Int64).toUInt64 >>> ((((63 : Int64) - (q3 &&& (63 : Int64))).toInt32) &&& 0x3f).toInt64.toUInt64).toInt64)), .second, .val (.int vi)] []))
          refine Go.st (fun t k => XS.iinc X9.here hx rfl (hb hby d5_96) rfl (l' := #[.val (.ref a1), .val (.long q2), .second, .val (.long q3), .second, .val (.int ui), .val (.int wi), .val (.long ((-1 : Int64) <<< ((q2.toInt32) &&& 0x3f).toInt64)), .second, .val (.long (((-1 : Int64).toUInt64 >>> ((((63 : Int64) - (q3 &&& (63 : Int64))).toInt32) &&& 0x3f).toInt64.toUInt64).toInt64)), .second, .val (.int (vi + (1 : Int32)))]) rfl k) ?_
          show Go p.tables e below PP (T9.setTop (mkF m 99 #[.val (.ref a1), .val (.long q2), .second, .val (.long q3), .second, .val (.int ui), .val (.int wi), .val (.long ((-1 : Int64) <<< ((q2.toInt32) &&& 0x3f).toInt64)), .second, .val (.long (((-1 : Int64).toUInt64 >>> ((((63 : Int64) - (q3 &&& (63 : Int64))).toInt32) &&& 0x3f).toInt64.toUInt64).toInt64)), .second, .val (.int (vi + (1 : Int32)))] []))
          refine Go.st (fun t k => XS.goto X9.here hx rfl (pc0 := 99) (pc' := 79) rfl (hb hby d5_99) (by decide) (by decide) k) ?_
          show Go p.tables e below PP (T9.setTop (mkF m 79 #[.val (.ref a1), .val (.long q2), .second, .val (.long q3), .second, .val (.int ui), .val (.int wi), .val (.long ((-1 : Int64) <<< ((q2.toInt32) &&& 0x3f).toInt64)), .second, .val (.long (((-1 : Int64).toUInt64 >>> ((((63 : Int64) - (q3 &&& (63 : Int64))).toInt32) &&& 0x3f).toInt64.toUInt64).toInt64)), .second, .val (.int (vi + (1 : Int32)))] []))
          exact ih7 _ (by have q := own_v1 vi wi (by omega) hc83; omega) _ _ _ _ X9 e9 N9 (F_words_a1) (V_tw.congr (fun k _ => own_l1 fw ui vi _ k (own_v1 vi wi (by omega) hc83).2.1 (by have q := own_v1 vi wi (by omega) hc83; omega))) K Zn (by have q := own_v1 vi wi (by omega) hc83; omega) rfl
        · --
          refine Go.st (fun t k => XS.icmpYes X7.here hx rfl (pc0 := 83) (pc' := 102) rfl (hb hby d5_83) rfl (XT.ii_ge_t hc83) (by decide) (by decide) k) ?_
          have hvw : vi = wi := Int32.toInt_inj.mp (by rw [Int32.lt_iff_toInt_lt] at hc83; omega)
          replace V_tw := V_tw.congr (g := fun k => .long (if ui.toNatClampNeg < k ∧ k < wi.toNatClampNeg then (-1 : Int64) else if k = ui.toNatClampNeg then fw k ||| ((-1 : Int64) <<< ((q2.toInt32) &&& 0x3f).toInt64) else fw k)) (fun k _ => by rw [hvw])
          show Go p.tables e below PP (T7.setTop (mkF m 102 #[.val (.ref a1), .val (.long q2), .second, .val (.long q3), .second, .val (.int ui), .val (.int wi), .val (.long ((-1 : Int64) <<< ((q2.toInt32) &&& 0x3f).toInt64)), .second, .val (.long (((-1 : Int64).toUInt64 >>> ((((63 : Int64) - (q3 &&& (63 : Int64))).toInt32) &&& 0x3f).toInt64.toUInt64).toInt64)), .second, .val (.int vi)] []))
          refine Go.st (fun t k => XS.aloadN X7.here hx rfl (hb hby d5_102) rfl rfl k) ?_
          show Go p.tables e below PP (T7.setTop (mkF m 103 #[.val (.ref a1), .val (.long q2), .second, .val (.long q3), .second, .val (.int ui), .val (.int wi), .val (.long ((-1 : Int64) <<< ((q2.toInt32) &&& 0x3f).toInt64)), .second, .val (.long (((-1 : Int64).toUInt64 >>> ((((63 : Int64) - (q3 &&& (63 : Int64))).toInt32) &&& 0x3f).toInt64.toUInt64).toInt64)), .second, .val (.int vi)] [(.ref a1)]))
          obtain ⟨T10, X10, e10, st10⟩ := getF X7 hx hZ hown (host := "") (Or.inl (hw _ (List.mem_of_getElem? (i := 23) rfl))) Via.refl e7 F_words_a1 (g := (mkF m 103 #[.val (.ref a1), .val (.long q2), .second, .val (.long q3), .second, .val (.int ui), .val (.int wi), .val (.long ((-1 : Int64) <<< ((q2.toInt32) &&& 0x3f).toInt64)), .second, .val (.long (((-1 : Int64).toUInt64 >>> ((((63 : Int64) - (q3 &&& (63 : Int64))).toInt32) &&& 0x3f).toInt64.toUInt64).toInt64)), .second, .val (.int vi)] [(.ref a1)])) rfl rfl (hb hby d5_103)
          refine Go.st st10 ?_
          show Go p.tables e below PP (T10.setTop (mkF m 106 #[.val (.ref a1), .val (.long q2), .second, .val (.long q3), .second, .val (.int ui), .val (.int wi), .val (.long ((-1 : Int64) <<< ((q2.toInt32) &&& 0x3f).toInt64)), .second, .val (.long (((-1 : Int64).toUInt64 >>> ((((63 : Int64) - (q3 &&& (63 : Int64))).toInt32) &&& 0x3f).toInt64.toUInt64).toInt64)), .second, .val (.int vi)] [(.ref tw)]))
          refine Go.st (fun t k => XS.iload X10.here hx rfl (hb hby d5_106) rfl k) ?_
          show Go p.tables e below PP (T10.setTop (mkF m 108 #[.val (.ref a1), .val (.long q2), .second, .val (.long q3), .second, .val (.int ui), .val (.int wi), .val (.long ((-1 : Int64) <<< ((q2.toInt32) &&& 0x3f).toInt64)), .second, .val (.long (((-1 : Int64).toUInt64 >>> ((((63 : Int64) - (q3 &&& (63 : Int64))).toInt32) &&& 0x3f).toInt64.toUInt64).toInt64)), .second, .val (.int vi)] [(.int wi), (.ref tw)]))
          refine Go.st (fun t k => XT.dup2 X10.here hx rfl (hb hby d5_108) rfl rfl rfl k) ?_
          show Go p.tables e below PP (T10.setTop (mkF m 109 #[.val (.ref a1), .val (.long q2), .second, .val (.long q3), .second, .val (.int ui), .val (.int wi), .val (.long ((-1 : Int64) <<< ((q2.toInt32) &&& 0x3f).toInt64)), .second, .val (.long (((-1 : Int64).toUInt64 >>> ((((63 : Int64) - (q3 &&& (63 : Int64))).toInt32) &&& 0x3f).toInt64.toUInt64).toInt64)), .second, .val (.int vi)] [(.int wi), (.ref tw), (.int wi), (.ref tw)]))
          obtain ⟨cl11, Ar11, S11, Nn11, H11⟩ := id V_tw
          have hin11 : ¬ (wi < 0 ∨ cl11.slots.size ≤ (wi).toNatClampNeg) := inb_of S11 (own_ib wi nw (by omega) (by omega))
          refine Go.st (fun t k => X10.laload hx (j := wi) (v := (.long (fw wi.toNatClampNeg))) (by rw [e10]; exact Ar11.1) (State.isArrayOf_alike hZ.alike Ar11.2.1) Ar11.2.2 hin11 ((H11 _ (inbN (own_ib wi nw (by omega) (by omega)))).1.trans (congrArg some (own_lw fw ui wi _ (by omega) (by omega)))) (g := (mkF m 109 #[.val (.ref a1), .val (.long q2), .second, .val (.long q3), .second, .val (.int ui), .val (.int wi), .val (.long ((-1 : Int64) <<< ((q2.toInt32) &&& 0x3f).toInt64)), .second, .val (.long (((-1 : Int64).toUInt64 >>> ((((63 : Int64) - (q3 &&& (63 : Int64))).toInt32) &&& 0x3f).toInt64.toUInt64).toInt64)), .second, .val (.int vi)] [(.int wi), (.ref tw), (.int wi), (.ref tw)])) rfl rfl (hb hby d5_109) _ k) ?_
          show Go p.tables e below PP (T10.setTop (mkF m 110 #[.val (.ref a1), .val (.long q2), .second, .val (.long q3), .second, .val (.int ui), .val (.int wi), .val (.long ((-1 : Int64) <<< ((q2.toInt32) &&& 0x3f).toInt64)), .second, .val (.long (((-1 : Int64).toUInt64 >>> ((((63 : Int64) - (q3 &&& (63 : Int64))).toInt32) &&& 0x3f).toInt64.toUInt64).toInt64)), .second, .val (.int vi)] [(.long (fw wi.toNatClampNeg)), (.int wi), (.ref tw)]))
          refine Go.st (fun t k => XS.lload X10.here hx rfl (hb hby d5_110) rfl k) ?_
          show Go p.tables e below PP (T10.setTop (mkF m 112 #[.val (.ref a1), .val (.long q2), .second, .val (.long q3), .second, .val (.int ui), .val (.int wi), .val (.long ((-1 : Int64) <<< ((q2.toInt32) &&& 0x3f).toInt64)), .second, .val (.long (((-1 : Int64).toUInt64 >>> ((((63 : Int64) - (q3 &&& (63 : Int64))).toInt32) &&& 0x3f).toInt64.toUInt64).toInt64)), .second, .val (.int vi)] [(.long (((-1 : Int64).toUInt64 >>> ((((63 : Int64) - (q3 &&& (63 : Int64))).toInt32) &&& 0x3f).toInt64.toUInt64).toInt64)), (.long (fw wi.toNatClampNeg)), (.int wi), (.ref tw)]))
          refine Go.st (fun t k => XS.lor X10.here hx rfl (hb hby d5_112) rfl k) ?_
          show Go p.tables e below PP (T10.setTop (mkF m 113 #[.val (.ref a1), .val (.long q2), .second, .val (.long q3), .second, .val (.int ui), .val (.int wi), .val (.long ((-1 : Int64) <<< ((q2.toInt32) &&& 0x3f).toInt64)), .second, .val (.long (((-1 : Int64).toUInt64 >>> ((((63 : Int64) - (q3 &&& (63 : Int64))).toInt32) &&& 0x3f).toInt64.toUInt64).toInt64)), .second, .val (.int vi)] [(.long ((fw wi.toNatClampNeg) ||| (((-1 : Int64).toUInt64 >>> ((((63 : Int64) - (q3 &&& (63 : Int64))).toInt32) &&& 0x3f).toInt64.toUInt64).toInt64))), (.int wi), (.ref tw)]))
          obtain ⟨cl12, Ar12, S12, Nn12, H12⟩ := id V_tw
          have hin12 : ¬ (wi < 0 ∨ cl12.slots.size ≤ (wi).toNatClampNeg) := inb_of S12 (own_ib wi nw (by omega) (by omega))
          obtain ⟨T12, h12, X12, e12, W12, st12⟩ := stJ X10 hx hZ e10 Ar12 (j := wi) hin12 (g := (mkF m 113 #[.val (.ref a1), .val (.long q2), .second, .val (.long q3), .second, .val (.int ui), .val (.int wi), .val (.long ((-1 : Int64) <<< ((q2.toInt32) &&& 0x3f).toInt64)), .second, .val (.long (((-1 : Int64).toUInt64 >>> ((((63 : Int64) - (q3 &&& (63 : Int64))).toInt32) &&& 0x3f).toInt64.toUInt64).toInt64)), .second, .val (.int vi)] [(.long ((fw wi.toNatClampNeg) ||| (((-1 : Int64).toUInt64 >>> ((((63 : Int64) - (q3 &&& (63 : Int64))).toInt32) &&& 0x3f).toInt64.toUInt64).toInt64))), (.int wi), (.ref tw)])) rfl rfl (hb hby d5_113)
          refine Go.st st12 ?_
          have N12 := Fr.snoc X12 N7 g_tw
          replace F_words_a1 := F_words_a1.other W12 (Or.inl hne)
          replace K := K.wr W12 (Or.inl (List.mem_of_getElem? (i := 0) rfl))
          replace Zn : n0 ≤ h12.size := by rw [W12.size]; exact Zn
          replace V_tw := Afn.set Ar12 S12 Nn12 H12 rfl W12
          show Go p.tables e below PP (T12.setTop (mkF m 114 #[.val (.ref a1), .val (.long q2), .second, .val (.long q3), .second, .val (.int ui), .val (.int wi), .val (.long ((-1 : Int64) <<< ((q2.toInt32) &&& 0x3f).toInt64)), .second, .val (.long (((-1 : Int64).toUInt64 >>> ((((63 : Int64) - (q3 &&& (63 : Int64))).toInt32) &&& 0x3f).toInt64.toUInt64).toInt64)), .second, .val (.int vi)] []))
          rw [hPP]
          refine endV X12 hx hlk hret (hb hby d5_114) ?_ (by decide) (by decide)
          show Q5 Z a1 q2 q3 tw nw fw h0 n0 none T12.heap _
          rw [e12]
          exact ⟨rfl, N12, K, V_tw.congr (fun k _ => add_b fw q2 q3 ui wi hA.1 hu hwl hc42 hA.2.1 k)⟩
    show Go p.tables e below PP (T6.setTop (mkF m 79 #[.val (.ref a1), .val (.long q2), .second, .val (.long q3), .second, .val (.int ui), .val (.int wi), .val (.long ((-1 : Int64) <<< ((q2.toInt32) &&& 0x3f).toInt64)), .second, .val (.long (((-1 : Int64).toUInt64 >>> ((((63 : Int64) - (q3 &&& (63 : Int64))).toInt32) &&& 0x3f).toInt64.toUInt64).toInt64)), .second, .val (.int (ui + (1 : Int32)))] []))
    exact J79 _ _ _ _ _ X6 e6 N6 (F_words_a1) (V_tw.congr (fun k _ => own_l0 fw ui _ k hu1.2.1)) K Zn (by omega) rfl
theorem d7_0 : decode prog_16_method_1_code 0 = .ok (.aload_n 0, 1) := by decide +kernel
theorem d7_1 : decode prog_16_method_1_code 1 = .ok (.invokespecial 1, 3) := by decide +kernel
theorem d7_4 : decode prog_16_method_1_code 4 = .ok (.aload_n 0, 1) := by decide +kernel
theorem d7_5 : decode prog_16_method_1_code 5 = .ok (.iconst 2, 1) := by decide +kernel
theorem d7_6 : decode prog_16_method_1_code 6 = .ok (.iload_n 1, 1) := by decide +kernel
theorem d7_7 : decode prog_16_method_1_code 7 = .ok (.iconst 1, 1) := by decide +kernel
theorem d7_8 : decode prog_16_method_1_code 8 = .ok (.invokestatic 7, 3) := by decide +kernel
theorem d7_11 : decode prog_16_method_1_code 11 = .ok (.imul, 1) := by decide +kernel
theorem d7_12 : decode prog_16_method_1_code 12 = .ok (.newarray .long, 2) := by decide +kernel
theorem d7_14 : decode prog_16_method_1_code 14 = .ok (.putfield 13, 3) := by decide +kernel
theorem d7_17 : decode prog_16_method_1_code 17 = .ok (.return_, 1) := by decide +kernel
theorem pn_rm7 : plainName "com/example/warpfinder/warpfinder/index/Intervals$Builder" = true := by first | (simp [plainName, overriddenIn]; done) | decide +kernel
theorem ef_rm7 (m : MethodId) (a1 : Addr) : entryFrame m #[(.ref a1), (.int (1024 : Int32))] 2 = mkF m 0 #[.val (.ref a1), .val (.int (1024 : Int32))] [] := by first | (simp [entryFrame, mkF, argsToLocals, Value.category]; done) | rfl
def Q7 (Z : State) (a1 : Addr) (h0 : Heap) (n0 : Nat) (v : Option Value) (h : Heap) (L : List Loc) : Prop := ∃ t : Addr, v = none ∧ Fr n0 L ∧ Keep h0 h [a1] ∧ h0.size ≤ t ∧ Fld Z h a1 "com/example/warpfinder/warpfinder/index/Intervals$Builder" "size" "I" (.int (0 : Int32)) ∧ Fld Z h a1 "com/example/warpfinder/warpfinder/index/Intervals$Builder" "bounds" "[J" (.ref t) ∧ Afn Z h t .long (2048 : Int32) (fun k => .long ((fun _ => (0 : Int64)) k))
theorem pd_1 : parseMethodDescriptor "(II)I" = some ⟨[.int, .int], some .int⟩ := by decide +kernel
set_option maxRecDepth 65536 in
set_option maxHeartbeats 40000000 in
theorem rm7 (l : Launch) (Z : State) (a0 : Array Value) (hw : ∀ d ∈ tables_1, d.before a0 Z = true) (ws : List Jvm.Cond) (a1 : Addr) (h0 : Heap) (n0 : Nat) (Z0 : n0 ≤ h0.size) (F_size_a1 : Fld Z h0 a1 "com/example/warpfinder/warpfinder/index/Intervals$Builder" "size" "I" (.int (0 : Int32))) (F_bounds_a1 : Fld Z h0 a1 "com/example/warpfinder/warpfinder/index/Intervals$Builder" "bounds" "[J" .null) (E_a1 : Exa Z h0 a1 "com/example/warpfinder/warpfinder/index/Intervals$Builder") (g_a1 : n0 ≤ a1) :
    Con l Z (⟨"com/example/warpfinder/warpfinder/index/Intervals$Builder", "<init>", "(I)V"⟩ : MethodName) prog_16_method_1_code 2 none ws ({ frames := 1, cells := 1, slots := 2048, locals := 15 } : Room) #[(.ref a1), (.int (1024 : Int32))] h0 (Q7 Z a1 h0 n0) := by
  refine Con.of (plainFor_of_name pn_rm7) ?_
  intro p e s m below meth c s₁ hZ e0 X0 hx hby hml hown hnm hret hlk
  replace hml : c.maxLocals = 2 := hml
  have hown : s.vm.findClass "com/example/warpfinder/warpfinder/index/Intervals$Builder" = some m.cls := hown
  have N0 : Fr n0 [] := Fr.nil n0
  obtain ⟨PP, hPP⟩ : ∃ P, P = Fine s below (Q7 Z a1 h0 n0) ({ frames := 1, cells := 1, slots := 2048, locals := 15 } : Room).cells ({ frames := 1, cells := 1, slots := 2048, locals := 15 } : Room).slots := ⟨_, rfl⟩
  rw [← hPP]
  refine Go.cast (ef_rm7 m a1) ?_
  have K : Keep h0 h0 [a1] := Keep.refl h0 _
  have Zn : n0 ≤ h0.size := Z0
  show Go p.tables e below PP (s₁.setTop (mkF m 0 #[.val (.ref a1), .val (.int (1024 : Int32))] []))
  refine Go.st (fun t k => XS.aloadN X0.here hx rfl (hb hby d7_0) rfl rfl k) ?_
  show Go p.tables e below PP (s₁.setTop (mkF m 1 #[.val (.ref a1), .val (.int (1024 : Int32))] [(.ref a1)]))
  obtain ⟨T1, X1, e1, st1⟩ := initO X0 hx hZ hown (hw _ (List.mem_of_getElem? (i := 42) rfl)) (hw _ (List.mem_of_getElem? (i := 16) rfl)) (hw _ (List.mem_of_getElem? (i := 17) rfl)) e0 (g := (mkF m 1 #[.val (.ref a1), .val (.int (1024 : Int32))] [(.ref a1)])) rfl (by rw [hml]; rfl) rfl (hb hby d7_1) (by decide) (W := 0) (by show 2 * 0 + _ ≤ _; exact Nat.le_of_eq rfl) (by decide)
  refine Go.st st1 ?_
  show Go p.tables e below PP (T1.setTop (mkF m 4 #[.val (.ref a1), .val (.int (1024 : Int32))] []))
  refine Go.st (fun t k => XS.aloadN X1.here hx rfl (hb hby d7_4) rfl rfl k) ?_
  show Go p.tables e below PP (T1.setTop (mkF m 5 #[.val (.ref a1), .val (.int (1024 : Int32))] [(.ref a1)]))
  refine Go.st (fun t k => XS.iconst X1.here hx rfl (hb hby d7_5) k) ?_
  show Go p.tables e below PP (T1.setTop (mkF m 6 #[.val (.ref a1), .val (.int (1024 : Int32))] [(.int (2 : Int32)), (.ref a1)]))
  refine Go.st (fun t k => XS.iloadN X1.here hx rfl (hb hby d7_6) rfl k) ?_
  show Go p.tables e below PP (T1.setTop (mkF m 7 #[.val (.ref a1), .val (.int (1024 : Int32))] [(.int (1024 : Int32)), (.int (2 : Int32)), (.ref a1)]))
  refine Go.st (fun t k => XS.iconst X1.here hx rfl (hb hby d7_7) k) ?_
  show Go p.tables e below PP (T1.setTop (mkF m 8 #[.val (.ref a1), .val (.int (1024 : Int32))] [(.int (1 : Int32)), (.int (1024 : Int32)), (.int (2 : Int32)), (.ref a1)]))
  obtain ⟨v2, T2, L2, X2, hQ2, st2⟩ := callSt X1 hx hZ (y := (⟨"java/lang/Math", "max", "(II)I"⟩ : MethodName)) (argsL := [(.int (1024 : Int32)), (.int (1 : Int32))]) (rest := [(.int (2 : Int32)), (.ref a1)]) hown (hw _ (List.mem_of_getElem? (i := 43) rfl)) (hw _ (List.mem_of_getElem? (i := 44) rfl)) (hw _ (List.mem_of_getElem? (i := 4) rfl)) (hw _ (List.mem_of_getElem? (i := 45) rfl)) (by decide) (rm8 l Z a0 hw [] (1024 : Int32) (1 : Int32) h0 n0 Zn) e1 2 (by decide) (by decide) (by decide) (by decide) (g := (mkF m 8 #[.val (.ref a1), .val (.int (1024 : Int32))] [(.int (1 : Int32)), (.int (1024 : Int32)), (.int (2 : Int32)), (.ref a1)])) rfl (by rw [hml]; rfl) (lenOf pd_1 rfl) rfl (by show 2 * 0 + _ ≤ _; exact Nat.le_of_eq rfl) (hb hby d7_8)
  obtain ⟨rfl, rfl, e2⟩ := hQ2
  rw [List.append_nil] at X2
  refine Go.st st2 ?_
  have hmx : (if (1024 : Int32) < (1 : Int32) then (1 : Int32) else (1024 : Int32)) = (1024 : Int32) := by decide
  rw [hmx]
  show Go p.tables e below PP (T2.setTop (mkF m 11 #[.val (.ref a1), .val (.int (1024 : Int32))] [(.int (1024 : Int32)), (.int (2 : Int32)), (.ref a1)]))
  refine Go.st (fun t k => XS.imul X2.here hx rfl (hb hby d7_11) rfl k) ?_
  show Go p.tables e below PP (T2.setTop (mkF m 12 #[.val (.ref a1), .val (.int (1024 : Int32))] [(.int (2048 : Int32)), (.ref a1)]))
  obtain ⟨T3, h3, k3, X3, e3, E3, A3, st3⟩ := newP X2 hx hZ (hw _ (List.mem_of_getElem? (i := 22) rfl)) e2 (g := (mkF m 12 #[.val (.ref a1), .val (.int (1024 : Int32))] [(.int (2048 : Int32)), (.ref a1)])) rfl (hb hby d7_12) rfl (by decide) (cap := 2048) (by decide) (by decide) (by decide) (by decide)
  obtain ⟨b3, gz3⟩ : ∃ z, z = h0.size := ⟨_, rfl⟩
  rw [← gz3] at A3 st3
  have ne_a1_b3 : a1 ≠ b3 := Nat.ne_of_lt (Nat.lt_of_lt_of_le F_size_a1.lt (Nat.le_of_eq gz3.symm))
  have g_b3 : n0 ≤ b3 := Nat.le_trans Zn (Nat.le_of_eq gz3.symm)
  have sz_b3 : h0.size ≤ b3 := Nat.le_trans K.1 (Nat.le_of_eq gz3.symm)
  refine Go.st st3 ?_
  replace F_size_a1 := F_size_a1.ext E3
  replace F_bounds_a1 := F_bounds_a1.ext E3
  replace E_a1 := E_a1.ext E3
  replace K := K.ext E3
  replace Zn := Nat.le_trans Zn E3.1
  have V_b3 : Afn Z h3 b3 .long (2048 : Int32) (fun _ => (.long (0 : Int64))) := Afn.new A3 (by decide)
  show Go p.tables e below PP (T3.setTop (mkF m 14 #[.val (.ref a1), .val (.int (1024 : Int32))] [(.ref b3), (.ref a1)]))
  obtain ⟨T4, h4, X4, e4, W4, st4⟩ := putF X3 hx hZ hown (host := "") (Or.inl (hw _ (List.mem_of_getElem? (i := 46) rfl))) Via.refl e3 F_bounds_a1 E_a1 (Or.inl (hw _ (List.mem_of_getElem? (i := 47) rfl))) (hw _ (List.mem_of_getElem? (i := 37) rfl)) (ty := (.array .long)) (by decide) rfl rfl (g := (mkF m 14 #[.val (.ref a1), .val (.int (1024 : Int32))] [(.ref b3), (.ref a1)])) rfl rfl (hb hby d7_14)
  refine Go.st st4 ?_
  have N4 := Fr.snoc X4 N0 g_a1
  replace F_size_a1 := F_size_a1.other W4 (Or.inr (slot_ne (a0 := a0) (Or.inl (hw _ (List.mem_of_getElem? (i := 63) rfl))) (Or.inl (hw _ (List.mem_of_getElem? (i := 47) rfl))) (by decide) (t := .int) (t' := (.array .long)) (by decide) (by decide)))
  replace E_a1 := E_a1.wr W4
  replace V_b3 := V_b3.other W4 (Ne.symm ne_a1_b3)
  replace K := K.wr W4 (Or.inl (List.mem_of_getElem? (i := 0) rfl))
  replace Zn : n0 ≤ h4.size := by rw [W4.size]; exact Zn
  replace F_bounds_a1 := F_bounds_a1.same W4
  show Go p.tables e below PP (T4.setTop (mkF m 17 #[.val (.ref a1), .val (.int (1024 : Int32))] []))
  rw [hPP]
  refine endV X4 hx hlk hret (hb hby d7_17) ?_ (by decide) (by decide)
  show Q7 Z a1 h0 n0 none T4.heap _
  rw [e4]
  exact ⟨b3, rfl, N4, K, sz_b3, F_size_a1, F_bounds_a1, V_b3⟩
theorem d11_0 : decode prog_16_method_2_code 0 = .ok (.aload_n 0, 1) := by decide +kernel
theorem d11_1 : decode prog_16_method_2_code 1 = .ok (.getfield 19, 3) := by decide +kernel
theorem d11_4 : decode prog_16_method_2_code 4 = .ok (.ifCond .le 54, 3) := by decide +kernel
theorem d11_7 : decode prog_16_method_2_code 7 = .ok (.lload_n 1, 1) := by decide +kernel
theorem d11_8 : decode prog_16_method_2_code 8 = .ok (.aload_n 0, 1) := by decide +kernel
theorem d11_9 : decode prog_16_method_2_code 9 = .ok (.getfield 13, 3) := by decide +kernel
theorem d11_12 : decode prog_16_method_2_code 12 = .ok (.iconst 2, 1) := by decide +kernel
theorem d11_13 : decode prog_16_method_2_code 13 = .ok (.aload_n 0, 1) := by decide +kernel
theorem d11_14 : decode prog_16_method_2_code 14 = .ok (.getfield 19, 3) := by decide +kernel
theorem d11_17 : decode prog_16_method_2_code 17 = .ok (.imul, 1) := by decide +kernel
theorem d11_18 : decode prog_16_method_2_code 18 = .ok (.iconst 1, 1) := by decide +kernel
theorem d11_19 : decode prog_16_method_2_code 19 = .ok (.isub, 1) := by decide +kernel
theorem d11_20 : decode prog_16_method_2_code 20 = .ok (.laload, 1) := by decide +kernel
theorem d11_21 : decode prog_16_method_2_code 21 = .ok (.lconst 1, 1) := by decide +kernel
theorem d11_22 : decode prog_16_method_2_code 22 = .ok (.ladd, 1) := by decide +kernel
theorem d11_23 : decode prog_16_method_2_code 23 = .ok (.lcmp, 1) := by decide +kernel
theorem d11_24 : decode prog_16_method_2_code 24 = .ok (.ifCond .gt 34, 3) := by decide +kernel
theorem d11_27 : decode prog_16_method_2_code 27 = .ok (.aload_n 0, 1) := by decide +kernel
theorem d11_28 : decode prog_16_method_2_code 28 = .ok (.getfield 13, 3) := by decide +kernel
theorem d11_31 : decode prog_16_method_2_code 31 = .ok (.iconst 2, 1) := by decide +kernel
theorem d11_32 : decode prog_16_method_2_code 32 = .ok (.aload_n 0, 1) := by decide +kernel
theorem d11_33 : decode prog_16_method_2_code 33 = .ok (.getfield 19, 3) := by decide +kernel
theorem d11_36 : decode prog_16_method_2_code 36 = .ok (.imul, 1) := by decide +kernel
theorem d11_37 : decode prog_16_method_2_code 37 = .ok (.iconst 1, 1) := by decide +kernel
theorem d11_38 : decode prog_16_method_2_code 38 = .ok (.isub, 1) := by decide +kernel
theorem d11_39 : decode prog_16_method_2_code 39 = .ok (.aload_n 0, 1) := by decide +kernel
theorem d11_40 : decode prog_16_method_2_code 40 = .ok (.getfield 13, 3) := by decide +kernel
theorem d11_43 : decode prog_16_method_2_code 43 = .ok (.iconst 2, 1) := by decide +kernel
theorem d11_44 : decode prog_16_method_2_code 44 = .ok (.aload_n 0, 1) := by decide +kernel
theorem d11_45 : decode prog_16_method_2_code 45 = .ok (.getfield 19, 3) := by decide +kernel
theorem d11_48 : decode prog_16_method_2_code 48 = .ok (.imul, 1) := by decide +kernel
theorem d11_49 : decode prog_16_method_2_code 49 = .ok (.iconst 1, 1) := by decide +kernel
theorem d11_50 : decode prog_16_method_2_code 50 = .ok (.isub, 1) := by decide +kernel
theorem d11_51 : decode prog_16_method_2_code 51 = .ok (.laload, 1) := by decide +kernel
theorem d11_52 : decode prog_16_method_2_code 52 = .ok (.lload_n 3, 1) := by decide +kernel
theorem d11_53 : decode prog_16_method_2_code 53 = .ok (.invokestatic 23, 3) := by decide +kernel
theorem d11_56 : decode prog_16_method_2_code 56 = .ok (.lastore, 1) := by decide +kernel
theorem d11_57 : decode prog_16_method_2_code 57 = .ok (.return_, 1) := by decide +kernel
theorem d11_58 : decode prog_16_method_2_code 58 = .ok (.iconst 2, 1) := by decide +kernel
theorem d11_59 : decode prog_16_method_2_code 59 = .ok (.aload_n 0, 1) := by decide +kernel
theorem d11_60 : decode prog_16_method_2_code 60 = .ok (.getfield 19, 3) := by decide +kernel
theorem d11_63 : decode prog_16_method_2_code 63 = .ok (.imul, 1) := by decide +kernel
theorem d11_64 : decode prog_16_method_2_code 64 = .ok (.aload_n 0, 1) := by decide +kernel
theorem d11_65 : decode prog_16_method_2_code 65 = .ok (.getfield 13, 3) := by decide +kernel
theorem d11_68 : decode prog_16_method_2_code 68 = .ok (.arraylength, 1) := by decide +kernel
theorem d11_69 : decode prog_16_method_2_code 69 = .ok (.if_icmp .ne 21, 3) := by decide +kernel
theorem d11_72 : decode prog_16_method_2_code 72 = .ok (.aload_n 0, 1) := by decide +kernel
theorem d11_73 : decode prog_16_method_2_code 73 = .ok (.aload_n 0, 1) := by decide +kernel
theorem d11_74 : decode prog_16_method_2_code 74 = .ok (.getfield 13, 3) := by decide +kernel
theorem d11_77 : decode prog_16_method_2_code 77 = .ok (.iconst 2, 1) := by decide +kernel
theorem d11_78 : decode prog_16_method_2_code 78 = .ok (.aload_n 0, 1) := by decide +kernel
theorem d11_79 : decode prog_16_method_2_code 79 = .ok (.getfield 13, 3) := by decide +kernel
theorem d11_82 : decode prog_16_method_2_code 82 = .ok (.arraylength, 1) := by decide +kernel
theorem d11_83 : decode prog_16_method_2_code 83 = .ok (.imul, 1) := by decide +kernel
theorem d11_84 : decode prog_16_method_2_code 84 = .ok (.invokestatic 26, 3) := by decide +kernel
theorem d11_87 : decode prog_16_method_2_code 87 = .ok (.putfield 13, 3) := by decide +kernel
theorem d11_90 : decode prog_16_method_2_code 90 = .ok (.aload_n 0, 1) := by decide +kernel
theorem d11_91 : decode prog_16_method_2_code 91 = .ok (.getfield 13, 3) := by decide +kernel
theorem d11_94 : decode prog_16_method_2_code 94 = .ok (.iconst 2, 1) := by decide +kernel
theorem d11_95 : decode prog_16_method_2_code 95 = .ok (.aload_n 0, 1) := by decide +kernel
theorem d11_96 : decode prog_16_method_2_code 96 = .ok (.getfield 19, 3) := by decide +kernel
theorem d11_99 : decode prog_16_method_2_code 99 = .ok (.imul, 1) := by decide +kernel
theorem d11_100 : decode prog_16_method_2_code 100 = .ok (.lload_n 1, 1) := by decide +kernel
theorem d11_101 : decode prog_16_method_2_code 101 = .ok (.lastore, 1) := by decide +kernel
theorem d11_102 : decode prog_16_method_2_code 102 = .ok (.aload_n 0, 1) := by decide +kernel
theorem d11_103 : decode prog_16_method_2_code 103 = .ok (.getfield 13, 3) := by decide +kernel
theorem d11_106 : decode prog_16_method_2_code 106 = .ok (.iconst 2, 1) := by decide +kernel
theorem d11_107 : decode prog_16_method_2_code 107 = .ok (.aload_n 0, 1) := by decide +kernel
theorem d11_108 : decode prog_16_method_2_code 108 = .ok (.getfield 19, 3) := by decide +kernel
theorem d11_111 : decode prog_16_method_2_code 111 = .ok (.imul, 1) := by decide +kernel
theorem d11_112 : decode prog_16_method_2_code 112 = .ok (.iconst 1, 1) := by decide +kernel
theorem d11_113 : decode prog_16_method_2_code 113 = .ok (.iadd, 1) := by decide +kernel
theorem d11_114 : decode prog_16_method_2_code 114 = .ok (.lload_n 3, 1) := by decide +kernel
theorem d11_115 : decode prog_16_method_2_code 115 = .ok (.lastore, 1) := by decide +kernel
theorem d11_116 : decode prog_16_method_2_code 116 = .ok (.aload_n 0, 1) := by decide +kernel
theorem d11_117 : decode prog_16_method_2_code 117 = .ok (.dup, 1) := by decide +kernel
theorem d11_118 : decode prog_16_method_2_code 118 = .ok (.getfield 19, 3) := by decide +kernel
theorem d11_121 : decode prog_16_method_2_code 121 = .ok (.iconst 1, 1) := by decide +kernel
theorem d11_122 : decode prog_16_method_2_code 122 = .ok (.iadd, 1) := by decide +kernel
theorem d11_123 : decode prog_16_method_2_code 123 = .ok (.putfield 19, 3) := by decide +kernel
theorem d11_126 : decode prog_16_method_2_code 126 = .ok (.return_, 1) := by decide +kernel
theorem pn_rm11 : plainName "com/example/warpfinder/warpfinder/index/Intervals$Builder" = true := by first | (simp [plainName, overriddenIn]; done) | decide +kernel
theorem ef_rm11 (m : MethodId) (a1 : Addr) (q2 : Int64) (q3 : Int64) : entryFrame m #[(.ref a1), (.long q2), (.long q3)] 5 = mkF m 0 #[.val (.ref a1), .val (.long q2), .second, .val (.long q3), .second] [] := by first | (simp [entryFrame, mkF, argsToLocals, Value.category]; done) | rfl
def Q11 (Z : State) (a1 : Addr) (q2 : Int64) (q3 : Int64) (tb : Addr) (sz : Int32) (sI : Nat → Int64) (eI : Nat → Int64) (h0 : Heap) (n0 : Nat) (v : Option Value) (h : Heap) (L : List Loc) : Prop := v = none ∧ Fr n0 L ∧ Keep h0 h [a1, tb] ∧ Fld Z h a1 "com/example/warpfinder/warpfinder/index/Intervals$Builder" "size" "I" (.int (sz + (1 : Int32))) ∧ Fld Z h a1 "com/example/warpfinder/warpfinder/index/Intervals$Builder" "bounds" "[J" (.ref tb) ∧ Afn Z h tb .long (2048 : Int32) (fun k => .long (bnd sI eI (sz + (1 : Int32)).toNatClampNeg k))
set_option maxRecDepth 65536 in
set_option maxHeartbeats 40000000 in
theorem rm11 (l : Launch) (Z : State) (a0 : Array Value) (hw : ∀ d ∈ tables_1, d.before a0 Z = true) (ws : List Jvm.Cond) (a1 : Addr) (q2 : Int64) (q3 : Int64) (tb : Addr) (sz : Int32) (sI : Nat → Int64) (eI : Nat → Int64) (h0 : Heap) (n0 : Nat) (Z0 : n0 ≤ h0.size) (F_size_a1 : Fld Z h0 a1 "com/example/warpfinder/warpfinder/index/Intervals$Builder" "size" "I" (.int sz)) (F_bounds_a1 : Fld Z h0 a1 "com/example/warpfinder/warpfinder/index/Intervals$Builder" "bounds" "[J" (.ref tb)) (V_tb : Afn Z h0 tb .long (2048 : Int32) (fun k => .long (bnd sI eI sz.toNatClampNeg k))) (E_a1 : Exa Z h0 a1 "com/example/warpfinder/warpfinder/index/Intervals$Builder") (g_a1 : n0 ≤ a1) (g_tb : n0 ≤ tb) (hne : a1 ≠ tb) (hq2 : q2 = sI sz.toNatClampNeg) (hq3 : q3 = eI sz.toNatClampNeg) (hS : sz = (0 : Int32) ∨ (sz = (1 : Int32) ∧ ((eI 0) + (1 : Int64)) < sI 1)) :
    Con l Z (⟨"com/example/warpfinder/warpfinder/index/Intervals$Builder", "add", "(JJ)V"⟩ : MethodName) prog_16_method_2_code 5 none ws ({ frames := 0, cells := 0, slots := 0, locals := 0 } : Room) #[(.ref a1), (.long q2), (.long q3)] h0 (Q11 Z a1 q2 q3 tb sz sI eI h0 n0) := by
  refine Con.of (plainFor_of_name pn_rm11) ?_
  intro p e s m below meth c s₁ hZ e0 X0 hx hby hml hown hnm hret hlk
  replace hml : c.maxLocals = 5 := hml
  have hown : s.vm.findClass "com/example/warpfinder/warpfinder/index/Intervals$Builder" = some m.cls := hown
  have N0 : Fr n0 [] := Fr.nil n0
  obtain ⟨PP, hPP⟩ : ∃ P, P = Fine s below (Q11 Z a1 q2 q3 tb sz sI eI h0 n0) ({ frames := 0, cells := 0, slots := 0, locals := 0 } : Room).cells ({ frames := 0, cells := 0, slots := 0, locals := 0 } : Room).slots := ⟨_, rfl⟩
  rw [← hPP]
  refine Go.cast (ef_rm11 m a1 q2 q3) ?_
  have K : Keep h0 h0 [a1, tb] := Keep.refl h0 _
  have Zn : n0 ≤ h0.size := Z0
  show Go p.tables e below PP (s₁.setTop (mkF m 0 #[.val (.ref a1), .val (.long q2), .second, .val (.long q3), .second] []))
  rcases hS with hS | ⟨hS, hgap⟩
  · --
    subst hS
    show Go p.tables e below PP (s₁.setTop (mkF m 0 #[.val (.ref a1), .val (.long q2), .second, .val (.long q3), .second] []))
    refine Go.st (fun t k => XS.aloadN X0.here hx rfl (hb hby d11_0) rfl rfl k) ?_
    show Go p.tables e below PP (s₁.setTop (mkF m 1 #[.val (.ref a1), .val (.long q2), .second, .val (.long q3), .second] [(.ref a1)]))
    obtain ⟨T1, X1, e1, st1⟩ := getF X0 hx hZ hown (host := "") (Or.inl (hw _ (List.mem_of_getElem? (i := 62) rfl))) Via.refl e0 F_size_a1 (g := (mkF m 1 #[.val (.ref a1), .val (.long q2), .second, .val (.long q3), .second] [(.ref a1)])) rfl rfl (hb hby d11_1)
    refine Go.st st1 ?_
    show Go p.tables e below PP (T1.setTop (mkF m 4 #[.val (.ref a1), .val (.long q2), .second, .val (.long q3), .second] [(.int (0 : Int32))]))
    refine Go.st (fun t k => XS.ifYes X1.here hx rfl (pc0 := 4) (pc' := 58) rfl (hb hby d11_4) rfl (XT.i0_le_t (by decide)) (by decide) (by decide) k) ?_
    show Go p.tables e below PP (T1.setTop (mkF m 58 #[.val (.ref a1), .val (.long q2), .second, .val (.long q3), .second] []))
    refine Go.st (fun t k => XS.iconst X1.here hx rfl (hb hby d11_58) k) ?_
    show Go p.tables e below PP (T1.setTop (mkF m 59 #[.val (.ref a1), .val (.long q2), .second, .val (.long q3), .second] [(.int (2 : Int32))]))
    refine Go.st (fun t k => XS.aloadN X1.here hx rfl (hb hby d11_59) rfl rfl k) ?_
    show Go p.tables e below PP (T1.setTop (mkF m 60 #[.val (.ref a1), .val (.long q2), .second, .val (.long q3), .second] [(.ref a1), (.int (2 : Int32))]))
    obtain ⟨T2, X2, e2, st2⟩ := getF X1 hx hZ hown (host := "") (Or.inl (hw _ (List.mem_of_getElem? (i := 62) rfl))) Via.refl e1 F_size_a1 (g := (mkF m 60 #[.val (.ref a1), .val (.long q2), .second, .val (.long q3), .second] [(.ref a1), (.int (2 : Int32))])) rfl rfl (hb hby d11_60)
    refine Go.st st2 ?_
    show Go p.tables e below PP (T2.setTop (mkF m 63 #[.val (.ref a1), .val (.long q2), .second, .val (.long q3), .second] [(.int (0 : Int32)), (.int (2 : Int32))]))
    refine Go.st (fun t k => XS.imul X2.here hx rfl (hb hby d11_63) rfl k) ?_
    show Go p.tables e below PP (T2.setTop (mkF m 64 #[.val (.ref a1), .val (.long q2), .second, .val (.long q3), .second] [(.int (0 : Int32))]))
    refine Go.st (fun t k => XS.aloadN X2.here hx rfl (hb hby d11_64) rfl rfl k) ?_
    show Go p.tables e below PP (T2.setTop (mkF m 65 #[.val (.ref a1), .val (.long q2), .second, .val (.long q3), .second] [(.ref a1), (.int (0 : Int32))]))
    obtain ⟨T3, X3, e3, st3⟩ := getF X2 hx hZ hown (host := "") (Or.inl (hw _ (List.mem_of_getElem? (i := 46) rfl))) Via.refl e2 F_bounds_a1 (g := (mkF m 65 #[.val (.ref a1), .val (.long q2), .second, .val (.long q3), .second] [(.ref a1), (.int (0 : Int32))])) rfl rfl (hb hby d11_65)
    refine Go.st st3 ?_
    show Go p.tables e below PP (T3.setTop (mkF m 68 #[.val (.ref a1), .val (.long q2), .second, .val (.long q3), .second] [(.ref tb), (.int (0 : Int32))]))
    obtain ⟨cl4, Ar4, S4, Nn4, -⟩ := id V_tb
    refine Go.st (fun t k => X3.arraylength hx (by rw [e3]; exact Ar4.1) (State.isArrayOf_alike hZ.alike Ar4.2.1) (g := (mkF m 68 #[.val (.ref a1), .val (.long q2), .second, .val (.long q3), .second] [(.ref tb), (.int (0 : Int32))])) rfl rfl (hb hby d11_68) _ k) ?_
    rw [len_of S4 Nn4]
    show Go p.tables e below PP (T3.setTop (mkF m 69 #[.val (.ref a1), .val (.long q2), .second, .val (.long q3), .second] [(.int (2048 : Int32)), (.int (0 : Int32))]))
    refine Go.st (fun t k => XS.icmpYes X3.here hx rfl (pc0 := 69) (pc' := 90) rfl (hb hby d11_69) rfl (XT.ii_ne_t (by decide)) (by decide) (by decide) k) ?_
    show Go p.tables e below PP (T3.setTop (mkF m 90 #[.val (.ref a1), .val (.long q2), .second, .val (.long q3), .second] []))
    refine Go.st (fun t k => XS.aloadN X3.here hx rfl (hb hby d11_90) rfl rfl k) ?_
    show Go p.tables e below PP (T3.setTop (mkF m 91 #[.val (.ref a1), .val (.long q2), .second, .val (.long q3), .second] [(.ref a1)]))
    obtain ⟨T5, X5, e5, st5⟩ := getF X3 hx hZ hown (host := "") (Or.inl (hw _ (List.mem_of_getElem? (i := 46) rfl))) Via.refl e3 F_bounds_a1 (g := (mkF m 91 #[.val (.ref a1), .val (.long q2), .second, .val (.long q3), .second] [(.ref a1)])) rfl rfl (hb hby d11_91)
    refine Go.st st5 ?_
    show Go p.tables e below PP (T5.setTop (mkF m 94 #[.val (.ref a1), .val (.long q2), .second, .val (.long q3), .second] [(.ref tb)]))
    refine Go.st (fun t k => XS.iconst X5.here hx rfl (hb hby d11_94) k) ?_
    show Go p.tables e below PP (T5.setTop (mkF m 95 #[.val (.ref a1), .val (.long q2), .second, .val (.long q3), .second] [(.int (2 : Int32)), (.ref tb)]))
    refine Go.st (fun t k => XS.aloadN X5.here hx rfl (hb hby d11_95) rfl rfl k) ?_
    show Go p.tables e below PP (T5.setTop (mkF m 96 #[.val (.ref a1), .val (.long q2), .second, .val (.long q3), .second] [(.ref a1), (.int (2 : Int32)), (.ref tb)]))
    obtain ⟨T6, X6, e6, st6⟩ := getF X5 hx hZ hown (host := "") (Or.inl (hw _ (List.mem_of_getElem? (i := 62) rfl))) Via.refl e5 F_size_a1 (g := (mkF m 96 #[.val (.ref a1), .val (.long q2), .second, .val (.long q3), .second] [(.ref a1), (.int (2 : Int32)), (.ref tb)])) rfl rfl (hb hby d11_96)
    refine Go.st st6 ?_
    show Go p.tables e below PP (T6.setTop (mkF m 99 #[.val (.ref a1), .val (.long q2), .second, .val (.long q3), .second] [(.int (0 : Int32)), (.int (2 : Int32)), (.ref tb)]))
    refine Go.st (fun t k => XS.imul X6.here hx rfl (hb hby d11_99) rfl k) ?_
    show Go p.tables e below PP (T6.setTop (mkF m 100 #[.val (.ref a1), .val (.long q2), .second, .val (.long q3), .second] [(.int (0 : Int32)), (.ref tb)]))
    refine Go.st (fun t k => XS.lloadN X6.here hx rfl (hb hby d11_100) rfl k) ?_
    show Go p.tables e below PP (T6.setTop (mkF m 101 #[.val (.ref a1), .val (.long q2), .second, .val (.long q3), .second] [(.long q2), (.int (0 : Int32)), (.ref tb)]))
    obtain ⟨cl7, Ar7, S7, Nn7, H7⟩ := id V_tb
    have hin7 : ¬ ((0 : Int32) < 0 ∨ cl7.slots.size ≤ ((0 : Int32)).toNatClampNeg) := inb_of S7 ⟨by decide, by decide⟩
    obtain ⟨T7, h7, X7, e7, W7, st7⟩ := stJ X6 hx hZ e6 Ar7 (j := (0 : Int32)) hin7 (g := (mkF m 101 #[.val (.ref a1), .val (.long q2), .second, .val (.long q3), .second] [(.long q2), (.int (0 : Int32)), (.ref tb)])) rfl rfl (hb hby d11_101)
    refine Go.st st7 ?_
    have N7 := Fr.snoc X7 N0 g_tb
    replace F_size_a1 := F_size_a1.other W7 (Or.inl hne)
    replace F_bounds_a1 := F_bounds_a1.other W7 (Or.inl hne)
    replace E_a1 := E_a1.wr W7
    replace K := K.wr W7 (Or.inl (List.mem_of_getElem? (i := 1) rfl))
    replace Zn : n0 ≤ h7.size := by rw [W7.size]; exact Zn
    replace V_tb := Afn.set Ar7 S7 Nn7 H7 rfl W7
    show Go p.tables e below PP (T7.setTop (mkF m 102 #[.val (.ref a1), .val (.long q2), .second, .val (.long q3), .second] []))
    refine Go.st (fun t k => XS.aloadN X7.here hx rfl (hb hby d11_102) rfl rfl k) ?_
    show Go p.tables e below PP (T7.setTop (mkF m 103 #[.val (.ref a1), .val (.long q2), .second, .val (.long q3), .second] [(.ref a1)]))
    obtain ⟨T8, X8, e8, st8⟩ := getF X7 hx hZ hown (host := "") (Or.inl (hw _ (List.mem_of_getElem? (i := 46) rfl))) Via.refl e7 F_bounds_a1 (g := (mkF m 103 #[.val (.ref a1), .val (.long q2), .second, .val (.long q3), .second] [(.ref a1)])) rfl rfl (hb hby d11_103)
    refine Go.st st8 ?_
    show Go p.tables e below PP (T8.setTop (mkF m 106 #[.val (.ref a1), .val (.long q2), .second, .val (.long q3), .second] [(.ref tb)]))
    refine Go.st (fun t k => XS.iconst X8.here hx rfl (hb hby d11_106) k) ?_
    show Go p.tables e below PP (T8.setTop (mkF m 107 #[.val (.ref a1), .val (.long q2), .second, .val (.long q3), .second] [(.int (2 : Int32)), (.ref tb)]))
    refine Go.st (fun t k => XS.aloadN X8.here hx rfl (hb hby d11_107) rfl rfl k) ?_
    show Go p.tables e below PP (T8.setTop (mkF m 108 #[.val (.ref a1), .val (.long q2), .second, .val (.long q3), .second] [(.ref a1), (.int (2 : Int32)), (.ref tb)]))
    obtain ⟨T9, X9, e9, st9⟩ := getF X8 hx hZ hown (host := "") (Or.inl (hw _ (List.mem_of_getElem? (i := 62) rfl))) Via.refl e8 F_size_a1 (g := (mkF m 108 #[.val (.ref a1), .val (.long q2), .second, .val (.long q3), .second] [(.ref a1), (.int (2 : Int32)), (.ref tb)])) rfl rfl (hb hby d11_108)
    refine Go.st st9 ?_
    show Go p.tables e below PP (T9.setTop (mkF m 111 #[.val (.ref a1), .val (.long q2), .second, .val (.long q3), .second] [(.int (0 : Int32)), (.int (2 : Int32)), (.ref tb)]))
    refine Go.st (fun t k => XS.imul X9.here hx rfl (hb hby d11_111) rfl k) ?_
    show Go p.tables e below PP (T9.setTop (mkF m 112 #[.val (.ref a1), .val (.long q2), .second, .val (.long q3), .second] [(.int (0 : Int32)), (.ref tb)]))
    refine Go.st (fun t k => XS.iconst X9.here hx rfl (hb hby d11_112) k) ?_
    show Go p.tables e below PP (T9.setTop (mkF m 113 #[.val (.ref a1), .val (.long q2), .second, .val (.long q3), .second] [(.int (1 : Int32)), (.int (0 : Int32)), (.ref tb)]))
    refine Go.st (fun t k => XS.iadd X9.here hx rfl (hb hby d11_113) rfl k) ?_
    show Go p.tables e below PP (T9.setTop (mkF m 114 #[.val (.ref a1), .val (.long q2), .second, .val (.long q3), .second] [(.int (1 : Int32)), (.ref tb)]))
    refine Go.st (fun t k => XS.lloadN X9.here hx rfl (hb hby d11_114) rfl k) ?_
    show Go p.tables e below PP (T9.setTop (mkF m 115 #[.val (.ref a1), .val (.long q2), .second, .val (.long q3), .second] [(.long q3), (.int (1 : Int32)), (.ref tb)]))
    obtain ⟨cl10, Ar10, S10, Nn10, H10⟩ := id V_tb
    have hin10 : ¬ ((1 : Int32) < 0 ∨ cl10.slots.size ≤ ((1 : Int32)).toNatClampNeg) := inb_of S10 ⟨by decide, by decide⟩
    obtain ⟨T10, h10, X10, e10, W10, st10⟩ := stJ X9 hx hZ e9 Ar10 (j := (1 : Int32)) hin10 (g := (mkF m 115 #[.val (.ref a1), .val (.long q2), .second, .val (.long q3), .second] [(.long q3), (.int (1 : Int32)), (.ref tb)])) rfl rfl (hb hby d11_115)
    refine Go.st st10 ?_
    have N10 := Fr.snoc X10 N7 g_tb
    replace F_size_a1 := F_size_a1.other W10 (Or.inl hne)
    replace F_bounds_a1 := F_bounds_a1.other W10 (Or.inl hne)
    replace E_a1 := E_a1.wr W10
    replace K := K.wr W10 (Or.inl (List.mem_of_getElem? (i := 1) rfl))
    replace Zn : n0 ≤ h10.size := by rw [W10.size]; exact Zn
    replace V_tb := Afn.set Ar10 S10 Nn10 H10 rfl W10
    show Go p.tables e below PP (T10.setTop (mkF m 116 #[.val (.ref a1), .val (.long q2), .second, .val (.long q3), .second] []))
    refine Go.st (fun t k => XS.aloadN X10.here hx rfl (hb hby d11_116) rfl rfl k) ?_
    show Go p.tables e below PP (T10.setTop (mkF m 117 #[.val (.ref a1), .val (.long q2), .second, .val (.long q3), .second] [(.ref a1)]))
    refine Go.st (fun t k => XS.dup X10.here hx rfl (hb hby d11_117) rfl rfl k) ?_
    show Go p.tables e below PP (T10.setTop (mkF m 118 #[.val (.ref a1), .val (.long q2), .second, .val (.long q3), .second] [(.ref a1), (.ref a1)]))
    obtain ⟨T11, X11, e11, st11⟩ := getF X10 hx hZ hown (host := "") (Or.inl (hw _ (List.mem_of_getElem? (i := 62) rfl))) Via.refl e10 F_size_a1 (g := (mkF m 118 #[.val (.ref a1), .val (.long q2), .second, .val (.long q3), .second] [(.ref a1), (.ref a1)])) rfl rfl (hb hby d11_118)
    refine Go.st st11 ?_
    show Go p.tables e below PP (T11.setTop (mkF m 121 #[.val (.ref a1), .val (.long q2), .second, .val (.long q3), .second] [(.int (0 : Int32)), (.ref a1)]))
    refine Go.st (fun t k => XS.iconst X11.here hx rfl (hb hby d11_121) k) ?_
    show Go p.tables e below PP (T11.setTop (mkF m 122 #[.val (.ref a1), .val (.long q2), .second, .val (.long q3), .second] [(.int (1 : Int32)), (.int (0 : Int32)), (.ref a1)]))
    refine Go.st (fun t k => XS.iadd X11.here hx rfl (hb hby d11_122) rfl k) ?_
    show Go p.tables e below PP (T11.setTop (mkF m 123 #[.val (.ref a1), .val (.long q2), .second, .val (.long q3), .second] [(.int (1 : Int32)), (.ref a1)]))
    obtain ⟨T12, h12, X12, e12, W12, st12⟩ := putF X11 hx hZ hown (host := "") (Or.inl (hw _ (List.mem_of_getElem? (i := 62) rfl))) Via.refl e11 F_size_a1 E_a1 (Or.inl (hw _ (List.mem_of_getElem? (i := 63) rfl))) (hw _ (List.mem_of_getElem? (i := 37) rfl)) (ty := .int) (by decide) rfl rfl (g := (mkF m 123 #[.val (.ref a1), .val (.long q2), .second, .val (.long q3), .second] [(.int (1 : Int32)), (.ref a1)])) rfl rfl (hb hby d11_123)
    refine Go.st st12 ?_
    have N12 := Fr.snoc X12 N10 g_a1
    replace F_bounds_a1 := F_bounds_a1.other W12 (Or.inr (slot_ne (a0 := a0) (Or.inl (hw _ (List.mem_of_getElem? (i := 47) rfl))) (Or.inl (hw _ (List.mem_of_getElem? (i := 63) rfl))) (by decide) (t := (.array .long)) (t' := .int) (by decide) (by decide)))
    replace E_a1 := E_a1.wr W12
    replace V_tb := V_tb.other W12 (Ne.symm hne)
    replace K := K.wr W12 (Or.inl (List.mem_of_getElem? (i := 0) rfl))
    replace Zn : n0 ≤ h12.size := by rw [W12.size]; exact Zn
    replace F_size_a1 := F_size_a1.same W12
    show Go p.tables e below PP (T12.setTop (mkF m 126 #[.val (.ref a1), .val (.long q2), .second, .val (.long q3), .second] []))
    rw [hPP]
    refine endV X12 hx hlk hret (hb hby d11_126) ?_ (by decide) (by decide)
    show Q11 Z a1 q2 q3 tb (0 : Int32) sI eI h0 n0 none T12.heap _
    rw [e12]
    exact ⟨rfl, N12, K, (by rw [show ((0 : Int32) + (1 : Int32)) = (1 : Int32) by decide]; exact F_size_a1), F_bounds_a1, V_tb.congr (fun k _ => by rw [hq2, hq3]; exact bnd_add sI eI 0 k)⟩
  · --
    subst hS
    show Go p.tables e below PP (s₁.setTop (mkF m 0 #[.val (.ref a1), .val (.long q2), .second, .val (.long q3), .second] []))
    refine Go.st (fun t k => XS.aloadN X0.here hx rfl (hb hby d11_0) rfl rfl k) ?_
    show Go p.tables e below PP (s₁.setTop (mkF m 1 #[.val (.ref a1), .val (.long q2), .second, .val (.long q3), .second] [(.ref a1)]))
    obtain ⟨T13, X13, e13, st13⟩ := getF X0 hx hZ hown (host := "") (Or.inl (hw _ (List.mem_of_getElem? (i := 62) rfl))) Via.refl e0 F_size_a1 (g := (mkF m 1 #[.val (.ref a1), .val (.long q2), .second, .val (.long q3), .second] [(.ref a1)])) rfl rfl (hb hby d11_1)
    refine Go.st st13 ?_
    show Go p.tables e below PP (T13.setTop (mkF m 4 #[.val (.ref a1), .val (.long q2), .second, .val (.long q3), .second] [(.int (1 : Int32))]))
    refine Go.st (fun t k => XS.ifNo X13.here hx rfl (hb hby d11_4) rfl (XT.i0_le_f (by decide)) k) ?_
    show Go p.tables e below PP (T13.setTop (mkF m 7 #[.val (.ref a1), .val (.long q2), .second, .val (.long q3), .second] []))
    refine Go.st (fun t k => XS.lloadN X13.here hx rfl (hb hby d11_7) rfl k) ?_
    show Go p.tables e below PP (T13.setTop (mkF m 8 #[.val (.ref a1), .val (.long q2), .second, .val (.long q3), .second] [(.long q2)]))
    refine Go.st (fun t k => XS.aloadN X13.here hx rfl (hb hby d11_8) rfl rfl k) ?_
    show Go p.tables e below PP (T13.setTop (mkF m 9 #[.val (.ref a1), .val (.long q2), .second, .val (.long q3), .second] [(.ref a1), (.long q2)]))
    obtain ⟨T14, X14, e14, st14⟩ := getF X13 hx hZ hown (host := "") (Or.inl (hw _ (List.mem_of_getElem? (i := 46) rfl))) Via.refl e13 F_bounds_a1 (g := (mkF m 9 #[.val (.ref a1), .val (.long q2), .second, .val (.long q3), .second] [(.ref a1), (.long q2)])) rfl rfl (hb hby d11_9)
    refine Go.st st14 ?_
    show Go p.tables e below PP (T14.setTop (mkF m 12 #[.val (.ref a1), .val (.long q2), .second, .val (.long q3), .second] [(.ref tb), (.long q2)]))
    refine Go.st (fun t k => XS.iconst X14.here hx rfl (hb hby d11_12) k) ?_
    show Go p.tables e below PP (T14.setTop (mkF m 13 #[.val (.ref a1), .val (.long q2), .second, .val (.long q3), .second] [(.int (2 : Int32)), (.ref tb), (.long q2)]))
    refine Go.st (fun t k => XS.aloadN X14.here hx rfl (hb hby d11_13) rfl rfl k) ?_
    show Go p.tables e below PP (T14.setTop (mkF m 14 #[.val (.ref a1), .val (.long q2), .second, .val (.long q3), .second] [(.ref a1), (.int (2 : Int32)), (.ref tb), (.long q2)]))
    obtain ⟨T15, X15, e15, st15⟩ := getF X14 hx hZ hown (host := "") (Or.inl (hw _ (List.mem_of_getElem? (i := 62) rfl))) Via.refl e14 F_size_a1 (g := (mkF m 14 #[.val (.ref a1), .val (.long q2), .second, .val (.long q3), .second] [(.ref a1), (.int (2 : Int32)), (.ref tb), (.long q2)])) rfl rfl (hb hby d11_14)
    refine Go.st st15 ?_
    show Go p.tables e below PP (T15.setTop (mkF m 17 #[.val (.ref a1), .val (.long q2), .second, .val (.long q3), .second] [(.int (1 : Int32)), (.int (2 : Int32)), (.ref tb), (.long q2)]))
    refine Go.st (fun t k => XS.imul X15.here hx rfl (hb hby d11_17) rfl k) ?_
    show Go p.tables e below PP (T15.setTop (mkF m 18 #[.val (.ref a1), .val (.long q2), .second, .val (.long q3), .second] [(.int (2 : Int32)), (.ref tb), (.long q2)]))
    refine Go.st (fun t k => XS.iconst X15.here hx rfl (hb hby d11_18) k) ?_
    show Go p.tables e below PP (T15.setTop (mkF m 19 #[.val (.ref a1), .val (.long q2), .second, .val (.long q3), .second] [(.int (1 : Int32)), (.int (2 : Int32)), (.ref tb), (.long q2)]))
    refine Go.st (fun t k => XS.isub X15.here hx rfl (hb hby d11_19) rfl k) ?_
    show Go p.tables e below PP (T15.setTop (mkF m 20 #[.val (.ref a1), .val (.long q2), .second, .val (.long q3), .second] [(.int (1 : Int32)), (.ref tb), (.long q2)]))
    obtain ⟨cl16, Ar16, S16, Nn16, H16⟩ := id V_tb
    have hin16 : ¬ ((1 : Int32) < 0 ∨ cl16.slots.size ≤ ((1 : Int32)).toNatClampNeg) := inb_of S16 ⟨by decide, by decide⟩
    refine Go.st (fun t k => X15.laload hx (j := (1 : Int32)) (v := (.long (bnd sI eI (1 : Int32).toNatClampNeg (1 : Int32).toNatClampNeg))) (by rw [e15]; exact Ar16.1) (State.isArrayOf_alike hZ.alike Ar16.2.1) Ar16.2.2 hin16 ((H16 _ (inbN ⟨by decide, by decide⟩)).1.trans (congrArg some (rfl))) (g := (mkF m 20 #[.val (.ref a1), .val (.long q2), .second, .val (.long q3), .second] [(.int (1 : Int32)), (.ref tb), (.long q2)])) rfl rfl (hb hby d11_20) _ k) ?_
    show Go p.tables e below PP (T15.setTop (mkF m 21 #[.val (.ref a1), .val (.long q2), .second, .val (.long q3), .second] [(.long (bnd sI eI (1 : Int32).toNatClampNeg (1 : Int32).toNatClampNeg)), (.long q2)]))
    refine Go.st (fun t k => XS.lconst X15.here hx rfl (hb hby d11_21) k) ?_
    show Go p.tables e below PP (T15.setTop (mkF m 22 #[.val (.ref a1), .val (.long q2), .second, .val (.long q3), .second] [(.long (1 : Int64)), (.long (bnd sI eI (1 : Int32).toNatClampNeg (1 : Int32).toNatClampNeg)), (.long q2)]))
    refine Go.st (fun t k => XS.ladd X15.here hx rfl (hb hby d11_22) rfl k) ?_
    show Go p.tables e below PP (T15.setTop (mkF m 23 #[.val (.ref a1), .val (.long q2), .second, .val (.long q3), .second] [(.long ((bnd sI eI (1 : Int32).toNatClampNeg (1 : Int32).toNatClampNeg) + (1 : Int64))), (.long q2)]))
    refine Go.st (fun t k => XS.lcmp X15.here hx rfl (hb hby d11_23) rfl k) ?_
    show Go p.tables e below PP (T15.setTop (mkF m 24 #[.val (.ref a1), .val (.long q2), .second, .val (.long q3), .second] [(.int (XT.cmpL q2 ((bnd sI eI (1 : Int32).toNatClampNeg (1 : Int32).toNatClampNeg) + (1 : Int64))))]))
    refine Go.st (fun t k => XS.ifYes X15.here hx rfl (pc0 := 24) (pc' := 58) rfl (hb hby d11_24) rfl (XT.ll_gt_t (by rw [bnd_11, hq2]; exact hgap)) (by decide) (by decide) k) ?_
    show Go p.tables e below PP (T15.setTop (mkF m 58 #[.val (.ref a1), .val (.long q2), .second, .val (.long q3), .second] []))
    refine Go.st (fun t k => XS.iconst X15.here hx rfl (hb hby d11_58) k) ?_
    show Go p.tables e below PP (T15.setTop (mkF m 59 #[.val (.ref a1), .val (.long q2), .second, .val (.long q3), .second] [(.int (2 : Int32))]))
    refine Go.st (fun t k => XS.aloadN X15.here hx rfl (hb hby d11_59) rfl rfl k) ?_
    show Go p.tables e below PP (T15.setTop (mkF m 60 #[.val (.ref a1), .val (.long q2), .second, .val (.long q3), .second] [(.ref a1), (.int (2 : Int32))]))
    obtain ⟨T17, X17, e17, st17⟩ := getF X15 hx hZ hown (host := "") (Or.inl (hw _ (List.mem_of_getElem? (i := 62) rfl))) Via.refl e15 F_size_a1 (g := (mkF m 60 #[.val (.ref a1), .val (.long q2), .second, .val (.long q3), .second] [(.ref a1), (.int (2 : Int32))])) rfl rfl (hb hby d11_60)
    refine Go.st st17 ?_
    show Go p.tables e below PP (T17.setTop (mkF m 63 #[.val (.ref a1), .val (.long q2), .second, .val (.long q3), .second] [(.int (1 : Int32)), (.int (2 : Int32))]))
    refine Go.st (fun t k => XS.imul X17.here hx rfl (hb hby d11_63) rfl k) ?_
    show Go p.tables e below PP (T17.setTop (mkF m 64 #[.val (.ref a1), .val (.long q2), .second, .val (.long q3), .second] [(.int (2 : Int32))]))
    refine Go.st (fun t k => XS.aloadN X17.here hx rfl (hb hby d11_64) rfl rfl k) ?_
    show Go p.tables e below PP (T17.setTop (mkF m 65 #[.val (.ref a1), .val (.long q2), .second, .val (.long q3), .second] [(.ref a1), (.int (2 : Int32))]))
    obtain ⟨T18, X18, e18, st18⟩ := getF X17 hx hZ hown (host := "") (Or.inl (hw _ (List.mem_of_getElem? (i := 46) rfl))) Via.refl e17 F_bounds_a1 (g := (mkF m 65 #[.val (.ref a1), .val (.long q2), .second, .val (.long q3), .second] [(.ref a1), (.int (2 : Int32))])) rfl rfl (hb hby d11_65)
    refine Go.st st18 ?_
    show Go p.tables e below PP (T18.setTop (mkF m 68 #[.val (.ref a1), .val (.long q2), .second, .val (.long q3), .second] [(.ref tb), (.int (2 : Int32))]))
    obtain ⟨cl19, Ar19, S19, Nn19, -⟩ := id V_tb
    refine Go.st (fun t k => X18.arraylength hx (by rw [e18]; exact Ar19.1) (State.isArrayOf_alike hZ.alike Ar19.2.1) (g := (mkF m 68 #[.val (.ref a1), .val (.long q2), .second, .val (.long q3), .second] [(.ref tb), (.int (2 : Int32))])) rfl rfl (hb hby d11_68) _ k) ?_
    rw [len_of S19 Nn19]
    show Go p.tables e below PP (T18.setTop (mkF m 69 #[.val (.ref a1), .val (.long q2), .second, .val (.long q3), .second] [(.int (2048 : Int32)), (.int (2 : Int32))]))
    refine Go.st (fun t k => XS.icmpYes X18.here hx rfl (pc0 := 69) (pc' := 90) rfl (hb hby d11_69) rfl (XT.ii_ne_t (by decide)) (by decide) (by decide) k) ?_
    show Go p.tables e below PP (T18.setTop (mkF m 90 #[.val (.ref a1), .val (.long q2), .second, .val (.long q3), .second] []))
    refine Go.st (fun t k => XS.aloadN X18.here hx rfl (hb hby d11_90) rfl rfl k) ?_
    show Go p.tables e below PP (T18.setTop (mkF m 91 #[.val (.ref a1), .val (.long q2), .second, .val (.long q3), .second] [(.ref a1)]))
    obtain ⟨T20, X20, e20, st20⟩ := getF X18 hx hZ hown (host := "") (Or.inl (hw _ (List.mem_of_getElem? (i := 46) rfl))) Via.refl e18 F_bounds_a1 (g := (mkF m 91 #[.val (.ref a1), .val (.long q2), .second, .val (.long q3), .second] [(.ref a1)])) rfl rfl (hb hby d11_91)
    refine Go.st st20 ?_
    show Go p.tables e below PP (T20.setTop (mkF m 94 #[.val (.ref a1), .val (.long q2), .second, .val (.long q3), .second] [(.ref tb)]))
    refine Go.st (fun t k => XS.iconst X20.here hx rfl (hb hby d11_94) k) ?_
    show Go p.tables e below PP (T20.setTop (mkF m 95 #[.val (.ref a1), .val (.long q2), .second, .val (.long q3), .second] [(.int (2 : Int32)), (.ref tb)]))
    refine Go.st (fun t k => XS.aloadN X20.here hx rfl (hb hby d11_95) rfl rfl k) ?_
    show Go p.tables e below PP (T20.setTop (mkF m 96 #[.val (.ref a1), .val (.long q2), .second, .val (.long q3), .second] [(.ref a1), (.int (2 : Int32)), (.ref tb)]))
    obtain ⟨T21, X21, e21, st21⟩ := getF X20 hx hZ hown (host := "") (Or.inl (hw _ (List.mem_of_getElem? (i := 62) rfl))) Via.refl e20 F_size_a1 (g := (mkF m 96 #[.val (.ref a1), .val (.long q2), .second, .val (.long q3), .second] [(.ref a1), (.int (2 : Int32)), (.ref tb)])) rfl rfl (hb hby d11_96)
    refine Go.st st21 ?_
    show Go p.tables e below PP (T21.setTop (mkF m 99 #[.val (.ref a1), .val (.long q2), .second, .val (.long q3), .second] [(.int (1 : Int32)), (.int (2 : Int32)), (.ref tb)]))
    refine Go.st (fun t k => XS.imul X21.here hx rfl (hb hby d11_99) rfl k) ?_
    show Go p.tables e below PP (T21.setTop (mkF m 100 #[.val (.ref a1), .val (.long q2), .second, .val (.long q3), .second] [(.int (2 : Int32)), (.ref tb)]))
    refine Go.st (fun t k => XS.lloadN X21.here hx rfl (hb hby d11_100) rfl k) ?_
    show Go p.tables e below PP (T21.setTop (mkF m 101 #[.val (.ref a1), .val (.long q2), .second, .val (.long q3), .second] [(.long q2), (.int (2 : Int32)), (.ref tb)]))
    obtain ⟨cl22, Ar22, S22, Nn22, H22⟩ := id V_tb
    have hin22 : ¬ ((2 : Int32) < 0 ∨ cl22.slots.size ≤ ((2 : Int32)).toNatClampNeg) := inb_of S22 ⟨by decide, by decide⟩
    obtain ⟨T22, h22, X22, e22, W22, st22⟩ := stJ X21 hx hZ e21 Ar22 (j := (2 : Int32)) hin22 (g := (mkF m 101 #[.val (.ref a1), .val (.long q2), .second, .val (.long q3), .second] [(.long q2), (.int (2 : Int32)), (.ref tb)])) rfl rfl (hb hby d11_101)
    refine Go.st st22 ?_
    have N22 := Fr.snoc X22 N0 g_tb
    replace F_size_a1 := F_size_a1.other W22 (Or.inl hne)
    replace F_bounds_a1 := F_bounds_a1.other W22 (Or.inl hne)
    replace E_a1 := E_a1.wr W22
    replace K := K.wr W22 (Or.inl (List.mem_of_getElem? (i := 1) rfl))
    replace Zn : n0 ≤ h22.size := by rw [W22.size]; exact Zn
    replace V_tb := Afn.set Ar22 S22 Nn22 H22 rfl W22
    show Go p.tables e below PP (T22.setTop (mkF m 102 #[.val (.ref a1), .val (.long q2), .second, .val (.long q3), .second] []))
    refine Go.st (fun t k => XS.aloadN X22.here hx rfl (hb hby d11_102) rfl rfl k) ?_
    show Go p.tables e below PP (T22.setTop (mkF m 103 #[.val (.ref a1), .val (.long q2), .second, .val (.long q3), .second] [(.ref a1)]))
    obtain ⟨T23, X23, e23, st23⟩ := getF X22 hx hZ hown (host := "") (Or.inl (hw _ (List.mem_of_getElem? (i := 46) rfl))) Via.refl e22 F_bounds_a1 (g := (mkF m 103 #[.val (.ref a1), .val (.long q2), .second, .val (.long q3), .second] [(.ref a1)])) rfl rfl (hb hby d11_103)
    refine Go.st st23 ?_
    show Go p.tables e below PP (T23.setTop (mkF m 106 #[.val (.ref a1), .val (.long q2), .second, .val (.long q3), .second] [(.ref tb)]))
    refine Go.st (fun t k => XS.iconst X23.here hx rfl (hb hby d11_106) k) ?_
    show Go p.tables e below PP (T23.setTop (mkF m 107 #[.val (.ref a1), .val (.long q2), .second, .val (.long q3), .second] [(.int (2 : Int32)), (.ref tb)]))
    refine Go.st (fun t k => XS.aloadN X23.here hx rfl (hb hby d11_107) rfl rfl k) ?_
    show Go p.tables e below PP (T23.setTop (mkF m 108 #[.val (.ref a1), .val (.long q2), .second, .val (.long q3), .second] [(.ref a1), (.int (2 : Int32)), (.ref tb)]))
    obtain ⟨T24, X24, e24, st24⟩ := getF X23 hx hZ hown (host := "") (Or.inl (hw _ (List.mem_of_getElem? (i := 62) rfl))) Via.refl e23 F_size_a1 (g := (mkF m 108 #[.val (.ref a1), .val (.long q2), .second, .val (.long q3), .second] [(.ref a1), (.int (2 : Int32)), (.ref tb)])) rfl rfl (hb hby d11_108)
    refine Go.st st24 ?_
    show Go p.tables e below PP (T24.setTop (mkF m 111 #[.val (.ref a1), .val (.long q2), .second, .val (.long q3), .second] [(.int (1 : Int32)), (.int (2 : Int32)), (.ref tb)]))
    refine Go.st (fun t k => XS.imul X24.here hx rfl (hb hby d11_111) rfl k) ?_
    show Go p.tables e below PP (T24.setTop (mkF m 112 #[.val (.ref a1), .val (.long q2), .second, .val (.long q3), .second] [(.int (2 : Int32)), (.ref tb)]))
    refine Go.st (fun t k => XS.iconst X24.here hx rfl (hb hby d11_112) k) ?_
    show Go p.tables e below PP (T24.setTop (mkF m 113 #[.val (.ref a1), .val (.long q2), .second, .val (.long q3), .second] [(.int (1 : Int32)), (.int (2 : Int32)), (.ref tb)]))
    refine Go.st (fun t k => XS.iadd X24.here hx rfl (hb hby d11_113) rfl k) ?_
    show Go p.tables e below PP (T24.setTop (mkF m 114 #[.val (.ref a1), .val (.long q2), .second, .val (.long q3), .second] [(.int (3 : Int32)), (.ref tb)]))
    refine Go.st (fun t k => XS.lloadN X24.here hx rfl (hb hby d11_114) rfl k) ?_
    show Go p.tables e below PP (T24.setTop (mkF m 115 #[.val (.ref a1), .val (.long q2), .second, .val (.long q3), .second] [(.long q3), (.int (3 : Int32)), (.ref tb)]))
    obtain ⟨cl25, Ar25, S25, Nn25, H25⟩ := id V_tb
    have hin25 : ¬ ((3 : Int32) < 0 ∨ cl25.slots.size ≤ ((3 : Int32)).toNatClampNeg) := inb_of S25 ⟨by decide, by decide⟩
    obtain ⟨T25, h25, X25, e25, W25, st25⟩ := stJ X24 hx hZ e24 Ar25 (j := (3 : Int32)) hin25 (g := (mkF m 115 #[.val (.ref a1), .val (.long q2), .second, .val (.long q3), .second] [(.long q3), (.int (3 : Int32)), (.ref tb)])) rfl rfl (hb hby d11_115)
    refine Go.st st25 ?_
    have N25 := Fr.snoc X25 N22 g_tb
    replace F_size_a1 := F_size_a1.other W25 (Or.inl hne)
    replace F_bounds_a1 := F_bounds_a1.other W25 (Or.inl hne)
    replace E_a1 := E_a1.wr W25
    replace K := K.wr W25 (Or.inl (List.mem_of_getElem? (i := 1) rfl))
    replace Zn : n0 ≤ h25.size := by rw [W25.size]; exact Zn
    replace V_tb := Afn.set Ar25 S25 Nn25 H25 rfl W25
    show Go p.tables e below PP (T25.setTop (mkF m 116 #[.val (.ref a1), .val (.long q2), .second, .val (.long q3), .second] []))
    refine Go.st (fun t k => XS.aloadN X25.here hx rfl (hb hby d11_116) rfl rfl k) ?_
    show Go p.tables e below PP (T25.setTop (mkF m 117 #[.val (.ref a1), .val (.long q2), .second, .val (.long q3), .second] [(.ref a1)]))
    refine Go.st (fun t k => XS.dup X25.here hx rfl (hb hby d11_117) rfl rfl k) ?_
    show Go p.tables e below PP (T25.setTop (mkF m 118 #[.val (.ref a1), .val (.long q2), .second, .val (.long q3), .second] [(.ref a1), (.ref a1)]))
    obtain ⟨T26, X26, e26, st26⟩ := getF X25 hx hZ hown (host := "") (Or.inl (hw _ (List.mem_of_getElem? (i := 62) rfl))) Via.refl e25 F_size_a1 (g := (mkF m 118 #[.val (.ref a1), .val (.long q2), .second, .val (.long q3), .second] [(.ref a1), (.ref a1)])) rfl rfl (hb hby d11_118)
    refine Go.st st26 ?_
    show Go p.tables e below PP (T26.setTop (mkF m 121 #[.val (.ref a1), .val (.long q2), .second, .val (.long q3), .second] [(.int (1 : Int32)), (.ref a1)]))
    refine Go.st (fun t k => XS.iconst X26.here hx rfl (hb hby d11_121) k) ?_
    show Go p.tables e below PP (T26.setTop (mkF m 122 #[.val (.ref a1), .val (.long q2), .second, .val (.long q3), .second] [(.int (1 : Int32)), (.int (1 : Int32)), (.ref a1)]))
    refine Go.st (fun t k => XS.iadd X26.here hx rfl (hb hby d11_122) rfl k) ?_
    show Go p.tables e below PP (T26.setTop (mkF m 123 #[.val (.ref a1), .val (.long q2), .second, .val (.long q3), .second] [(.int (2 : Int32)), (.ref a1)]))
    obtain ⟨T27, h27, X27, e27, W27, st27⟩ := putF X26 hx hZ hown (host := "") (Or.inl (hw _ (List.mem_of_getElem? (i := 62) rfl))) Via.refl e26 F_size_a1 E_a1 (Or.inl (hw _ (List.mem_of_getElem? (i := 63) rfl))) (hw _ (List.mem_of_getElem? (i := 37) rfl)) (ty := .int) (by decide) rfl rfl (g := (mkF m 123 #[.val (.ref a1), .val (.long q2), .second, .val (.long q3), .second] [(.int (2 : Int32)), (.ref a1)])) rfl rfl (hb hby d11_123)
    refine Go.st st27 ?_
    have N27 := Fr.snoc X27 N25 g_a1
    replace F_bounds_a1 := F_bounds_a1.other W27 (Or.inr (slot_ne (a0 := a0) (Or.inl (hw _ (List.mem_of_getElem? (i := 47) rfl))) (Or.inl (hw _ (List.mem_of_getElem? (i := 63) rfl))) (by decide) (t := (.array .long)) (t' := .int) (by decide) (by decide)))
    replace E_a1 := E_a1.wr W27
    replace V_tb := V_tb.other W27 (Ne.symm hne)
    replace K := K.wr W27 (Or.inl (List.mem_of_getElem? (i := 0) rfl))
    replace Zn : n0 ≤ h27.size := by rw [W27.size]; exact Zn
    replace F_size_a1 := F_size_a1.same W27
    show Go p.tables e below PP (T27.setTop (mkF m 126 #[.val (.ref a1), .val (.long q2), .second, .val (.long q3), .second] []))
    rw [hPP]
    refine endV X27 hx hlk hret (hb hby d11_126) ?_ (by decide) (by decide)
    show Q11 Z a1 q2 q3 tb (1 : Int32) sI eI h0 n0 none T27.heap _
    rw [e27]
    exact ⟨rfl, N27, K, (by rw [show ((1 : Int32) + (1 : Int32)) = (2 : Int32) by decide]; exact F_size_a1), F_bounds_a1, V_tb.congr (fun k _ => by rw [hq2, hq3]; exact bnd_add sI eI 1 k)⟩
theorem d13_0 : decode prog_15_method_1_code 0 = .ok (.aload_n 0, 1) := by decide +kernel
theorem d13_1 : decode prog_15_method_1_code 1 = .ok (.invokespecial 1, 3) := by decide +kernel
theorem d13_4 : decode prog_15_method_1_code 4 = .ok (.aload_n 0, 1) := by decide +kernel
theorem d13_5 : decode prog_15_method_1_code 5 = .ok (.aload_n 1, 1) := by decide +kernel
theorem d13_6 : decode prog_15_method_1_code 6 = .ok (.putfield 7, 3) := by decide +kernel
theorem d13_9 : decode prog_15_method_1_code 9 = .ok (.aload_n 0, 1) := by decide +kernel
theorem d13_10 : decode prog_15_method_1_code 10 = .ok (.iload_n 2, 1) := by decide +kernel
theorem d13_11 : decode prog_15_method_1_code 11 = .ok (.putfield 13, 3) := by decide +kernel
theorem d13_14 : decode prog_15_method_1_code 14 = .ok (.return_, 1) := by decide +kernel
theorem pn_rm13 : plainName "com/example/warpfinder/warpfinder/index/Intervals" = true := by first | (simp [plainName, overriddenIn]; done) | decide +kernel
theorem ef_rm13 (m : MethodId) (a1 : Addr) (a2 : Addr) (p3 : Int32) : entryFrame m #[(.ref a1), (.ref a2), (.int p3)] 3 = mkF m 0 #[.val (.ref a1), .val (.ref a2), .val (.int p3)] [] := by first | (simp [entryFrame, mkF, argsToLocals, Value.category]; done) | rfl
def Q13 (Z : State) (a1 : Addr) (a2 : Addr) (p3 : Int32) (h0 : Heap) (n0 : Nat) (v : Option Value) (h : Heap) (L : List Loc) : Prop := v = none ∧ Fr n0 L ∧ Keep h0 h [a1] ∧ Fld Z h a1 "com/example/warpfinder/warpfinder/index/Intervals" "size" "I" (.int p3) ∧ Fld Z h a1 "com/example/warpfinder/warpfinder/index/Intervals" "bounds" "[J" (.ref a2)
set_option maxRecDepth 65536 in
set_option maxHeartbeats 40000000 in
theorem rm13 (l : Launch) (Z : State) (a0 : Array Value) (hw : ∀ d ∈ tables_1, d.before a0 Z = true) (ws : List Jvm.Cond) (a1 : Addr) (a2 : Addr) (p3 : Int32) (h0 : Heap) (n0 : Nat) (Z0 : n0 ≤ h0.size) (F_size_a1 : Fld Z h0 a1 "com/example/warpfinder/warpfinder/index/Intervals" "size" "I" (.int (0 : Int32))) (F_bounds_a1 : Fld Z h0 a1 "com/example/warpfinder/warpfinder/index/Intervals" "bounds" "[J" .null) (E_a1 : Exa Z h0 a1 "com/example/warpfinder/warpfinder/index/Intervals") (g_a1 : n0 ≤ a1) :
    Con l Z (⟨"com/example/warpfinder/warpfinder/index/Intervals", "<init>", "([JI)V"⟩ : MethodName) prog_15_method_1_code 3 none ws ({ frames := 1, cells := 0, slots := 0, locals := 12 } : Room) #[(.ref a1), (.ref a2), (.int p3)] h0 (Q13 Z a1 a2 p3 h0 n0) := by
  refine Con.of (plainFor_of_name pn_rm13) ?_
  intro p e s m below meth c s₁ hZ e0 X0 hx hby hml hown hnm hret hlk
  replace hml : c.maxLocals = 3 := hml
  have hown : s.vm.findClass "com/example/warpfinder/warpfinder/index/Intervals" = some m.cls := hown
  have N0 : Fr n0 [] := Fr.nil n0
  obtain ⟨PP, hPP⟩ : ∃ P, P = Fine s below (Q13 Z a1 a2 p3 h0 n0) ({ frames := 1, cells := 0, slots := 0, locals := 12 } : Room).cells ({ frames := 1, cells := 0, slots := 0, locals := 12 } : Room).slots := ⟨_, rfl⟩
  rw [← hPP]
  refine Go.cast (ef_rm13 m a1 a2 p3) ?_
  have K : Keep h0 h0 [a1] := Keep.refl h0 _
  have Zn : n0 ≤ h0.size := Z0
  show Go p.tables e below PP (s₁.setTop (mkF m 0 #[.val (.ref a1), .val (.ref a2), .val (.int p3)] []))
  refine Go.st (fun t k => XS.aloadN X0.here hx rfl (hb hby d13_0) rfl rfl k) ?_
  show Go p.tables e below PP (s₁.setTop (mkF m 1 #[.val (.ref a1), .val (.ref a2), .val (.int p3)] [(.ref a1)]))
  obtain ⟨T1, X1, e1, st1⟩ := initO X0 hx hZ hown (hw _ (List.mem_of_getElem? (i := 75) rfl)) (hw _ (List.mem_of_getElem? (i := 16) rfl)) (hw _ (List.mem_of_getElem? (i := 17) rfl)) e0 (g := (mkF m 1 #[.val (.ref a1), .val (.ref a2), .val (.int p3)] [(.ref a1)])) rfl (by rw [hml]; rfl) rfl (hb hby d13_1) (by decide) (W := 0) (by show 2 * 0 + _ ≤ _; exact Nat.le_of_eq rfl) (by decide)
  refine Go.st st1 ?_
  show Go p.tables e below PP (T1.setTop (mkF m 4 #[.val (.ref a1), .val (.ref a2), .val (.int p3)] []))
  refine Go.st (fun t k => XS.aloadN X1.here hx rfl (hb hby d13_4) rfl rfl k) ?_
  show Go p.tables e below PP (T1.setTop (mkF m 5 #[.val (.ref a1), .val (.ref a2), .val (.int p3)] [(.ref a1)]))
  refine Go.st (fun t k => XS.aloadN X1.here hx rfl (hb hby d13_5) rfl rfl k) ?_
  show Go p.tables e below PP (T1.setTop (mkF m 6 #[.val (.ref a1), .val (.ref a2), .val (.int p3)] [(.ref a2), (.ref a1)]))
  obtain ⟨T2, h2, X2, e2, W2, st2⟩ := putF X1 hx hZ hown (host := "") (Or.inl (hw _ (List.mem_of_getElem? (i := 76) rfl))) Via.refl e1 F_bounds_a1 E_a1 (Or.inr ⟨(hw _ (List.mem_of_getElem? (i := 77) rfl)), rfl, hnm⟩) (hw _ (List.mem_of_getElem? (i := 70) rfl)) (ty := (.array .long)) (by decide) rfl rfl (g := (mkF m 6 #[.val (.ref a1), .val (.ref a2), .val (.int p3)] [(.ref a2), (.ref a1)])) rfl rfl (hb hby d13_6)
  refine Go.st st2 ?_
  have N2 := Fr.snoc X2 N0 g_a1
  replace F_size_a1 := F_size_a1.other W2 (Or.inr (slot_ne (a0 := a0) (Or.inr (hw _ (List.mem_of_getElem? (i := 79) rfl))) (Or.inr (hw _ (List.mem_of_getElem? (i := 77) rfl))) (by decide) (t := .int) (t' := (.array .long)) (by decide) (by decide)))
  replace E_a1 := E_a1.wr W2
  replace K := K.wr W2 (Or.inl (List.mem_of_getElem? (i := 0) rfl))
  replace Zn : n0 ≤ h2.size := by rw [W2.size]; exact Zn
  replace F_bounds_a1 := F_bounds_a1.same W2
  show Go p.tables e below PP (T2.setTop (mkF m 9 #[.val (.ref a1), .val (.ref a2), .val (.int p3)] []))
  refine Go.st (fun t k => XS.aloadN X2.here hx rfl (hb hby d13_9) rfl rfl k) ?_
  show Go p.tables e below PP (T2.setTop (mkF m 10 #[.val (.ref a1), .val (.ref a2), .val (.int p3)] [(.ref a1)]))
  refine Go.st (fun t k => XS.iloadN X2.here hx rfl (hb hby d13_10) rfl k) ?_
  show Go p.tables e below PP (T2.setTop (mkF m 11 #[.val (.ref a1), .val (.ref a2), .val (.int p3)] [(.int p3), (.ref a1)]))
  obtain ⟨T3, h3, X3, e3, W3, st3⟩ := putF X2 hx hZ hown (host := "") (Or.inl (hw _ (List.mem_of_getElem? (i := 78) rfl))) Via.refl e2 F_size_a1 E_a1 (Or.inr ⟨(hw _ (List.mem_of_getElem? (i := 79) rfl)), rfl, hnm⟩) (hw _ (List.mem_of_getElem? (i := 70) rfl)) (ty := .int) (by decide) rfl rfl (g := (mkF m 11 #[.val (.ref a1), .val (.ref a2), .val (.int p3)] [(.int p3), (.ref a1)])) rfl rfl (hb hby d13_11)
  refine Go.st st3 ?_
  have N3 := Fr.snoc X3 N2 g_a1
  replace F_bounds_a1 := F_bounds_a1.other W3 (Or.inr (slot_ne (a0 := a0) (Or.inr (hw _ (List.mem_of_getElem? (i := 77) rfl))) (Or.inr (hw _ (List.mem_of_getElem? (i := 79) rfl))) (by decide) (t := (.array .long)) (t' := .int) (by decide) (by decide)))
  replace E_a1 := E_a1.wr W3
  replace K := K.wr W3 (Or.inl (List.mem_of_getElem? (i := 0) rfl))
  replace Zn : n0 ≤ h3.size := by rw [W3.size]; exact Zn
  replace F_size_a1 := F_size_a1.same W3
  show Go p.tables e below PP (T3.setTop (mkF m 14 #[.val (.ref a1), .val (.ref a2), .val (.int p3)] []))
  rw [hPP]
  refine endV X3 hx hlk hret (hb hby d13_14) ?_ (by decide) (by decide)
  show Q13 Z a1 a2 p3 h0 n0 none T3.heap _
  rw [e3]
  exact ⟨rfl, N3, K, F_size_a1, F_bounds_a1⟩
theorem d12_0 : decode prog_16_method_3_code 0 = .ok (.aload_n 0, 1) := by decide +kernel
theorem d12_1 : decode prog_16_method_3_code 1 = .ok (.getfield 19, 3) := by decide +kernel
theorem d12_4 : decode prog_16_method_3_code 4 = .ok (.ifCond .ne 9, 3) := by decide +kernel
theorem d12_7 : decode prog_16_method_3_code 7 = .ok (.getstatic 32, 3) := by decide +kernel
theorem d12_10 : decode prog_16_method_3_code 10 = .ok (.goto 18, 3) := by decide +kernel
theorem d12_13 : decode prog_16_method_3_code 13 = .ok (.new 33, 3) := by decide +kernel
theorem d12_16 : decode prog_16_method_3_code 16 = .ok (.dup, 1) := by decide +kernel
theorem d12_17 : decode prog_16_method_3_code 17 = .ok (.aload_n 0, 1) := by decide +kernel
theorem d12_18 : decode prog_16_method_3_code 18 = .ok (.getfield 13, 3) := by decide +kernel
theorem d12_21 : decode prog_16_method_3_code 21 = .ok (.aload_n 0, 1) := by decide +kernel
theorem d12_22 : decode prog_16_method_3_code 22 = .ok (.getfield 19, 3) := by decide +kernel
theorem d12_25 : decode prog_16_method_3_code 25 = .ok (.invokespecial 38, 3) := by decide +kernel
theorem d12_28 : decode prog_16_method_3_code 28 = .ok (.areturn, 1) := by decide +kernel
theorem pn_rm12 : plainName "com/example/warpfinder/warpfinder/index/Intervals$Builder" = true := by first | (simp [plainName, overriddenIn]; done) | decide +kernel
theorem ef_rm12 (m : MethodId) (a1 : Addr) : entryFrame m #[(.ref a1)] 1 = mkF m 0 #[.val (.ref a1)] [] := by first | (simp [entryFrame, mkF, argsToLocals, Value.category]; done) | rfl
def Q12 (Z : State) (a1 : Addr) (tb : Addr) (sz : Int32) (h0 : Heap) (n0 : Nat) (v : Option Value) (h : Heap) (L : List Loc) : Prop := ∃ r : Addr, v = some (.ref r) ∧ Fr n0 L ∧ Keep h0 h [] ∧ h0.size ≤ r ∧ Exa Z h r "com/example/warpfinder/warpfinder/index/Intervals" ∧ Fld Z h r "com/example/warpfinder/warpfinder/index/Intervals" "size" "I" (.int sz) ∧ Fld Z h r "com/example/warpfinder/warpfinder/index/Intervals" "bounds" "[J" (.ref tb)
theorem pd_2 : parseMethodDescriptor "([JI)V" = some ⟨[(.array .long), .int], none⟩ := by decide +kernel
set_option maxRecDepth 65536 in
set_option maxHeartbeats 40000000 in
theorem rm12 (l : Launch) (Z : State) (a0 : Array Value) (hw : ∀ d ∈ tables_1, d.before a0 Z = true) (ws : List Jvm.Cond) (a1 : Addr) (tb : Addr) (sz : Int32) (h0 : Heap) (n0 : Nat) (Z0 : n0 ≤ h0.size) (F_size_a1 : Fld Z h0 a1 "com/example/warpfinder/warpfinder/index/Intervals$Builder" "size" "I" (.int sz)) (F_bounds_a1 : Fld Z h0 a1 "com/example/warpfinder/warpfinder/index/Intervals$Builder" "bounds" "[J" (.ref tb)) (hz0 : ¬ sz = (0 : Int32)) :
    Con l Z (⟨"com/example/warpfinder/warpfinder/index/Intervals$Builder", "build", "()Lcom/example/warpfinder/warpfinder/index/Intervals;"⟩ : MethodName) prog_16_method_3_code 1 (some (.object "com/example/warpfinder/warpfinder/index/Intervals")) ws ({ frames := 2, cells := 1, slots := 2, locals := 27 } : Room) #[(.ref a1)] h0 (Q12 Z a1 tb sz h0 n0) := by
  refine Con.of (plainFor_of_name pn_rm12) ?_
  intro p e s m below meth c s₁ hZ e0 X0 hx hby hml hown hnm hret hlk
  replace hml : c.maxLocals = 1 := hml
  have hown : s.vm.findClass "com/example/warpfinder/warpfinder/index/Intervals$Builder" = some m.cls := hown
  have N0 : Fr n0 [] := Fr.nil n0
  obtain ⟨PP, hPP⟩ : ∃ P, P = Fine s below (Q12 Z a1 tb sz h0 n0) ({ frames := 2, cells := 1, slots := 2, locals := 27 } : Room).cells ({ frames := 2, cells := 1, slots := 2, locals := 27 } : Room).slots := ⟨_, rfl⟩
  rw [← hPP]
  refine Go.cast (ef_rm12 m a1) ?_
  have K : Keep h0 h0 [] := Keep.refl h0 _
  have Zn : n0 ≤ h0.size := Z0
  show Go p.tables e below PP (s₁.setTop (mkF m 0 #[.val (.ref a1)] []))
  refine Go.st (fun t k => XS.aloadN X0.here hx rfl (hb hby d12_0) rfl rfl k) ?_
  show Go p.tables e below PP (s₁.setTop (mkF m 1 #[.val (.ref a1)] [(.ref a1)]))
  obtain ⟨T1, X1, e1, st1⟩ := getF X0 hx hZ hown (host := "") (Or.inl (hw _ (List.mem_of_getElem? (i := 62) rfl))) Via.refl e0 F_size_a1 (g := (mkF m 1 #[.val (.ref a1)] [(.ref a1)])) rfl rfl (hb hby d12_1)
  refine Go.st st1 ?_
  show Go p.tables e below PP (T1.setTop (mkF m 4 #[.val (.ref a1)] [(.int sz)]))
  refine Go.st (fun t k => XS.ifYes X1.here hx rfl (pc0 := 4) (pc' := 13) rfl (hb hby d12_4) rfl (XT.i0_ne_t hz0) (by decide) (by decide) k) ?_
  show Go p.tables e below PP (T1.setTop (mkF m 13 #[.val (.ref a1)] []))
  obtain ⟨T2, h2, X2, e2, E2, A2, D2, -, st2⟩ := newO X1 hx hZ hown (hw _ (List.mem_of_getElem? (i := 69) rfl)) (hw _ (List.mem_of_getElem? (i := 70) rfl)) (hw _ (List.mem_of_getElem? (i := 71) rfl)) e1 (g := (mkF m 13 #[.val (.ref a1)] [])) rfl (hb hby d12_13) (by decide) (by decide)
  obtain ⟨b2, gz2⟩ : ∃ z, z = h0.size := ⟨_, rfl⟩
  rw [← gz2] at A2 D2 st2
  have ne_a1_b2 : a1 ≠ b2 := Nat.ne_of_lt (Nat.lt_of_lt_of_le F_size_a1.lt (Nat.le_of_eq gz2.symm))
  have g_b2 : n0 ≤ b2 := Nat.le_trans Zn (Nat.le_of_eq gz2.symm)
  have sz_b2 : h0.size ≤ b2 := Nat.le_trans K.1 (Nat.le_of_eq gz2.symm)
  refine Go.st st2 ?_
  replace F_size_a1 := F_size_a1.ext E2
  replace F_bounds_a1 := F_bounds_a1.ext E2
  replace K := K.ext E2
  replace Zn := Nat.le_trans Zn E2.1
  have E_b2 := A2
  have F_bounds_b2 : Fld Z h2 b2 "com/example/warpfinder/warpfinder/index/Intervals" "bounds" "[J" .null := D2 (Or.inr (hw _ (List.mem_of_getElem? (i := 77) rfl))) (ty := (.array .long)) (by decide)
  have F_size_b2 : Fld Z h2 b2 "com/example/warpfinder/warpfinder/index/Intervals" "size" "I" (.int (0 : Int32)) := D2 (Or.inr (hw _ (List.mem_of_getElem? (i := 79) rfl))) (ty := .int) (by decide)
  show Go p.tables e below PP (T2.setTop (mkF m 16 #[.val (.ref a1)] [(.ref b2)]))
  refine Go.st (fun t k => XS.dup X2.here hx rfl (hb hby d12_16) rfl rfl k) ?_
  show Go p.tables e below PP (T2.setTop (mkF m 17 #[.val (.ref a1)] [(.ref b2), (.ref b2)]))
  refine Go.st (fun t k => XS.aloadN X2.here hx rfl (hb hby d12_17) rfl rfl k) ?_
  show Go p.tables e below PP (T2.setTop (mkF m 18 #[.val (.ref a1)] [(.ref a1), (.ref b2), (.ref b2)]))
  obtain ⟨T3, X3, e3, st3⟩ := getF X2 hx hZ hown (host := "") (Or.inl (hw _ (List.mem_of_getElem? (i := 46) rfl))) Via.refl e2 F_bounds_a1 (g := (mkF m 18 #[.val (.ref a1)] [(.ref a1), (.ref b2), (.ref b2)])) rfl rfl (hb hby d12_18)
  refine Go.st st3 ?_
  show Go p.tables e below PP (T3.setTop (mkF m 21 #[.val (.ref a1)] [(.ref tb), (.ref b2), (.ref b2)]))
  refine Go.st (fun t k => XS.aloadN X3.here hx rfl (hb hby d12_21) rfl rfl k) ?_
  show Go p.tables e below PP (T3.setTop (mkF m 22 #[.val (.ref a1)] [(.ref a1), (.ref tb), (.ref b2), (.ref b2)]))
  obtain ⟨T4, X4, e4, st4⟩ := getF X3 hx hZ hown (host := "") (Or.inl (hw _ (List.mem_of_getElem? (i := 62) rfl))) Via.refl e3 F_size_a1 (g := (mkF m 22 #[.val (.ref a1)] [(.ref a1), (.ref tb), (.ref b2), (.ref b2)])) rfl rfl (hb hby d12_22)
  refine Go.st st4 ?_
  show Go p.tables e below PP (T4.setTop (mkF m 25 #[.val (.ref a1)] [(.int sz), (.ref tb), (.ref b2), (.ref b2)]))
  obtain ⟨v5, T5, L5, X5, hQ5, st5⟩ := callInN X4 hx hZ (y := (⟨"com/example/warpfinder/warpfinder/index/Intervals", "<init>", "([JI)V"⟩ : MethodName)) (a := b2) (argsL := [(.ref tb), (.int sz)]) (rest := [(.ref b2)]) rfl hown (hw _ (List.mem_of_getElem? (i := 72) rfl)) (hw _ (List.mem_of_getElem? (i := 73) rfl)) (hw _ (List.mem_of_getElem? (i := 71) rfl)) (hw _ (List.mem_of_getElem? (i := 74) rfl)) (by decide) (rm13 l Z a0 hw [] b2 tb sz h2 n0 Zn F_size_b2 F_bounds_b2 E_b2 g_b2) e4 1 (by decide) (by decide) (by decide) (by decide) (g := (mkF m 25 #[.val (.ref a1)] [(.int sz), (.ref tb), (.ref b2), (.ref b2)])) rfl (by rw [hml]; rfl) (lenOf pd_2 rfl) rfl (by show 2 * 0 + _ ≤ _; exact Nat.le_of_eq rfl) (hb hby d12_25)
  obtain ⟨h5, e5⟩ : ∃ z, T5.heap = z := ⟨_, rfl⟩
  rw [e5] at hQ5
  obtain ⟨rfl, Nq5, Kq5, Fq5_0, Fq5_1⟩ := hQ5
  have N5 := Fr.app N0 Nq5
  replace F_size_a1 := F_size_a1.keep Kq5 (ninS ne_a1_b2 nin0)
  replace F_bounds_a1 := F_bounds_a1.keep Kq5 (ninS ne_a1_b2 nin0)
  replace E_b2 := E_b2.keep Kq5
  clear F_bounds_b2
  clear F_size_b2
  replace K := K.trans Kq5 (allS (Or.inr sz_b2) all0)
  replace Zn := Nat.le_trans Zn Kq5.1
  have F_size_b2 := Fq5_0
  have F_bounds_b2 := Fq5_1
  refine Go.st st5 ?_
  show Go p.tables e below PP (T5.setTop (mkF m 28 #[.val (.ref a1)] [(.ref b2)]))
  rw [hPP]
  refine endR X5 hx hlk hret rfl rfl (hb hby d12_28) ?_ (by decide) (by decide)
  show Q12 Z a1 tb sz h0 n0 (some (.ref b2)) T5.heap _
  rw [e5]
  exact ⟨b2, rfl, N5, K, sz_b2, E_b2, F_size_b2, F_bounds_b2⟩
theorem d14_0 : decode prog_15_method_3_code 0 = .ok (.aload_n 0, 1) := by decide +kernel
theorem d14_1 : decode prog_15_method_3_code 1 = .ok (.getfield 13, 3) := by decide +kernel
theorem d14_4 : decode prog_15_method_3_code 4 = .ok (.ireturn, 1) := by decide +kernel
theorem pn_rm14 : plainName "com/example/warpfinder/warpfinder/index/Intervals" = true := by first | (simp [plainName, overriddenIn]; done) | decide +kernel
theorem ef_rm14 (m : MethodId) (a1 : Addr) : entryFrame m #[(.ref a1)] 1 = mkF m 0 #[.val (.ref a1)] [] := by first | (simp [entryFrame, mkF, argsToLocals, Value.category]; done) | rfl
def Q14 (Z : State) (a1 : Addr) (sz : Int32) (h0 : Heap) (n0 : Nat) (v : Option Value) (h : Heap) (L : List Loc) : Prop := v = some (.int sz) ∧ L = [] ∧ h = h0
set_option maxRecDepth 65536 in
set_option maxHeartbeats 40000000 in
theorem rm14 (l : Launch) (Z : State) (a0 : Array Value) (hw : ∀ d ∈ tables_1, d.before a0 Z = true) (ws : List Jvm.Cond) (a1 : Addr) (sz : Int32) (h0 : Heap) (n0 : Nat) (Z0 : n0 ≤ h0.size) (F_size_a1 : Fld Z h0 a1 "com/example/warpfinder/warpfinder/index/Intervals" "size" "I" (.int sz)) :
    Con l Z (⟨"com/example/warpfinder/warpfinder/index/Intervals", "size", "()I"⟩ : MethodName) prog_15_method_3_code 1 (some .int) ws ({ frames := 0, cells := 0, slots := 0, locals := 0 } : Room) #[(.ref a1)] h0 (Q14 Z a1 sz h0 n0) := by
  refine Con.of (plainFor_of_name pn_rm14) ?_
  intro p e s m below meth c s₁ hZ e0 X0 hx hby hml hown hnm hret hlk
  replace hml : c.maxLocals = 1 := hml
  have hown : s.vm.findClass "com/example/warpfinder/warpfinder/index/Intervals" = some m.cls := hown
  have N0 : Fr n0 [] := Fr.nil n0
  obtain ⟨PP, hPP⟩ : ∃ P, P = Fine s below (Q14 Z a1 sz h0 n0) ({ frames := 0, cells := 0, slots := 0, locals := 0 } : Room).cells ({ frames := 0, cells := 0, slots := 0, locals := 0 } : Room).slots := ⟨_, rfl⟩
  rw [← hPP]
  refine Go.cast (ef_rm14 m a1) ?_
  have Zn : n0 ≤ h0.size := Z0
  show Go p.tables e below PP (s₁.setTop (mkF m 0 #[.val (.ref a1)] []))
  refine Go.st (fun t k => XS.aloadN X0.here hx rfl (hb hby d14_0) rfl rfl k) ?_
  show Go p.tables e below PP (s₁.setTop (mkF m 1 #[.val (.ref a1)] [(.ref a1)]))
  obtain ⟨T1, X1, e1, st1⟩ := getF X0 hx hZ hown (host := "") (Or.inl (hw _ (List.mem_of_getElem? (i := 78) rfl))) Via.refl e0 F_size_a1 (g := (mkF m 1 #[.val (.ref a1)] [(.ref a1)])) rfl rfl (hb hby d14_1)
  refine Go.st st1 ?_
  show Go p.tables e below PP (T1.setTop (mkF m 4 #[.val (.ref a1)] [(.int sz)]))
  rw [hPP]
  refine endI X1 hx hlk hret (hb hby d14_4) ?_ (by decide) (by decide)
  show Q14 Z a1 sz h0 n0 (some (.int sz)) T1.heap _
  rw [e1]
  exact ⟨rfl, rfl, rfl⟩
theorem d15_0 : decode prog_15_method_5_code 0 = .ok (.aload_n 0, 1) := by decide +kernel
theorem d15_1 : decode prog_15_method_5_code 1 = .ok (.getfield 7, 3) := by decide +kernel
theorem d15_4 : decode prog_15_method_5_code 4 = .ok (.iconst 2, 1) := by decide +kernel
theorem d15_5 : decode prog_15_method_5_code 5 = .ok (.iload_n 1, 1) := by decide +kernel
theorem d15_6 : decode prog_15_method_5_code 6 = .ok (.imul, 1) := by decide +kernel
theorem d15_7 : decode prog_15_method_5_code 7 = .ok (.laload, 1) := by decide +kernel
theorem d15_8 : decode prog_15_method_5_code 8 = .ok (.lreturn, 1) := by decide +kernel
theorem pn_rm15 : plainName "com/example/warpfinder/warpfinder/index/Intervals" = true := by first | (simp [plainName, overriddenIn]; done) | decide +kernel
theorem ef_rm15 (m : MethodId) (a1 : Addr) (p2 : Int32) : entryFrame m #[(.ref a1), (.int p2)] 2 = mkF m 0 #[.val (.ref a1), .val (.int p2)] [] := by first | (simp [entryFrame, mkF, argsToLocals, Value.category]; done) | rfl
def Q15 (Z : State) (a1 : Addr) (p2 : Int32) (tb : Addr) (nb : Int32) (gf : Nat → Int64) (h0 : Heap) (n0 : Nat) (v : Option Value) (h : Heap) (L : List Loc) : Prop := v = some (.long (gf ((2 : Int32) * p2).toNatClampNeg)) ∧ L = [] ∧ h = h0
set_option maxRecDepth 65536 in
set_option maxHeartbeats 40000000 in
theorem rm15 (l : Launch) (Z : State) (a0 : Array Value) (hw : ∀ d ∈ tables_1, d.before a0 Z = true) (ws : List Jvm.Cond) (a1 : Addr) (p2 : Int32) (tb : Addr) (nb : Int32) (gf : Nat → Int64) (h0 : Heap) (n0 : Nat) (Z0 : n0 ≤ h0.size) (F_bounds_a1 : Fld Z h0 a1 "com/example/warpfinder/warpfinder/index/Intervals" "bounds" "[J" (.ref tb)) (V_tb : Afn Z h0 tb .long nb (fun k => .long (gf k))) (hin : ¬ ((2 : Int32) * p2) < (0 : Int32) ∧ ((2 : Int32) * p2) < nb) :
    Con l Z (⟨"com/example/warpfinder/warpfinder/index/Intervals", "start", "(I)J"⟩ : MethodName) prog_15_method_5_code 2 (some .long) ws ({ frames := 0, cells := 0, slots := 0, locals := 0 } : Room) #[(.ref a1), (.int p2)] h0 (Q15 Z a1 p2 tb nb gf h0 n0) := by
  refine Con.of (plainFor_of_name pn_rm15) ?_
  intro p e s m below meth c s₁ hZ e0 X0 hx hby hml hown hnm hret hlk
  replace hml : c.maxLocals = 2 := hml
  have hown : s.vm.findClass "com/example/warpfinder/warpfinder/index/Intervals" = some m.cls := hown
  have N0 : Fr n0 [] := Fr.nil n0
  obtain ⟨PP, hPP⟩ : ∃ P, P = Fine s below (Q15 Z a1 p2 tb nb gf h0 n0) ({ frames := 0, cells := 0, slots := 0, locals := 0 } : Room).cells ({ frames := 0, cells := 0, slots := 0, locals := 0 } : Room).slots := ⟨_, rfl⟩
  rw [← hPP]
  refine Go.cast (ef_rm15 m a1 p2) ?_
  have Zn : n0 ≤ h0.size := Z0
  show Go p.tables e below PP (s₁.setTop (mkF m 0 #[.val (.ref a1), .val (.int p2)] []))
  refine Go.st (fun t k => XS.aloadN X0.here hx rfl (hb hby d15_0) rfl rfl k) ?_
  show Go p.tables e below PP (s₁.setTop (mkF m 1 #[.val (.ref a1), .val (.int p2)] [(.ref a1)]))
  obtain ⟨T1, X1, e1, st1⟩ := getF X0 hx hZ hown (host := "") (Or.inl (hw _ (List.mem_of_getElem? (i := 76) rfl))) Via.refl e0 F_bounds_a1 (g := (mkF m 1 #[.val (.ref a1), .val (.int p2)] [(.ref a1)])) rfl rfl (hb hby d15_1)
  refine Go.st st1 ?_
  show Go p.tables e below PP (T1.setTop (mkF m 4 #[.val (.ref a1), .val (.int p2)] [(.ref tb)]))
  refine Go.st (fun t k => XS.iconst X1.here hx rfl (hb hby d15_4) k) ?_
  show Go p.tables e below PP (T1.setTop (mkF m 5 #[.val (.ref a1), .val (.int p2)] [(.int (2 : Int32)), (.ref tb)]))
  refine Go.st (fun t k => XS.iloadN X1.here hx rfl (hb hby d15_5) rfl k) ?_
  show Go p.tables e below PP (T1.setTop (mkF m 6 #[.val (.ref a1), .val (.int p2)] [(.int p2), (.int (2 : Int32)), (.ref tb)]))
  refine Go.st (fun t k => XS.imul X1.here hx rfl (hb hby d15_6) rfl k) ?_
  show Go p.tables e below PP (T1.setTop (mkF m 7 #[.val (.ref a1), .val (.int p2)] [(.int ((2 : Int32) * p2)), (.ref tb)]))
  obtain ⟨cl2, Ar2, S2, Nn2, H2⟩ := id V_tb
  have hin2 : ¬ (((2 : Int32) * p2) < 0 ∨ cl2.slots.size ≤ (((2 : Int32) * p2)).toNatClampNeg) := inb_of S2 hin
  refine Go.st (fun t k => X1.laload hx (j := ((2 : Int32) * p2)) (v := (.long (gf ((2 : Int32) * p2).toNatClampNeg))) (by rw [e1]; exact Ar2.1) (State.isArrayOf_alike hZ.alike Ar2.2.1) Ar2.2.2 hin2 ((H2 _ (inbN hin)).1.trans (congrArg some (rfl))) (g := (mkF m 7 #[.val (.ref a1), .val (.int p2)] [(.int ((2 : Int32) * p2)), (.ref tb)])) rfl rfl (hb hby d15_7) _ k) ?_
  show Go p.tables e below PP (T1.setTop (mkF m 8 #[.val (.ref a1), .val (.int p2)] [(.long (gf ((2 : Int32) * p2).toNatClampNeg))]))
  rw [hPP]
  refine endJ X1 hx hlk hret (hb hby d15_8) ?_ (by decide) (by decide)
  show Q15 Z a1 p2 tb nb gf h0 n0 (some (.long (gf ((2 : Int32) * p2).toNatClampNeg))) T1.heap _
  rw [e1]
  exact ⟨rfl, rfl, rfl⟩
theorem d16_0 : decode prog_15_method_6_code 0 = .ok (.aload_n 0, 1) := by decide +kernel
theorem d16_1 : decode prog_15_method_6_code 1 = .ok (.getfield 7, 3) := by decide +kernel
theorem d16_4 : decode prog_15_method_6_code 4 = .ok (.iconst 2, 1) := by decide +kernel
theorem d16_5 : decode prog_15_method_6_code 5 = .ok (.iload_n 1, 1) := by decide +kernel
theorem d16_6 : decode prog_15_method_6_code 6 = .ok (.imul, 1) := by decide +kernel
theorem d16_7 : decode prog_15_method_6_code 7 = .ok (.iconst 1, 1) := by decide +kernel
theorem d16_8 : decode prog_15_method_6_code 8 = .ok (.iadd, 1) := by decide +kernel
theorem d16_9 : decode prog_15_method_6_code 9 = .ok (.laload, 1) := by decide +kernel
theorem d16_10 : decode prog_15_method_6_code 10 = .ok (.lreturn, 1) := by decide +kernel
theorem pn_rm16 : plainName "com/example/warpfinder/warpfinder/index/Intervals" = true := by first | (simp [plainName, overriddenIn]; done) | decide +kernel
theorem ef_rm16 (m : MethodId) (a1 : Addr) (p2 : Int32) : entryFrame m #[(.ref a1), (.int p2)] 2 = mkF m 0 #[.val (.ref a1), .val (.int p2)] [] := by first | (simp [entryFrame, mkF, argsToLocals, Value.category]; done) | rfl
def Q16 (Z : State) (a1 : Addr) (p2 : Int32) (tb : Addr) (nb : Int32) (gf : Nat → Int64) (h0 : Heap) (n0 : Nat) (v : Option Value) (h : Heap) (L : List Loc) : Prop := v = some (.long (gf (((2 : Int32) * p2) + (1 : Int32)).toNatClampNeg)) ∧ L = [] ∧ h = h0
set_option maxRecDepth 65536 in
set_option maxHeartbeats 40000000 in
theorem rm16 (l : Launch) (Z : State) (a0 : Array Value) (hw : ∀ d ∈ tables_1, d.before a0 Z = true) (ws : List Jvm.Cond) (a1 : Addr) (p2 : Int32) (tb : Addr) (nb : Int32) (gf : Nat → Int64) (h0 : Heap) (n0 : Nat) (Z0 : n0 ≤ h0.size) (F_bounds_a1 : Fld Z h0 a1 "com/example/warpfinder/warpfinder/index/Intervals" "bounds" "[J" (.ref tb)) (V_tb : Afn Z h0 tb .long nb (fun k => .long (gf k))) (hin : ¬ (((2 : Int32) * p2) + (1 : Int32)) < (0 : Int32) ∧ (((2 : Int32) * p2) + (1 : Int32)) < nb) :
    Con l Z (⟨"com/example/warpfinder/warpfinder/index/Intervals", "end", "(I)J"⟩ : MethodName) prog_15_method_6_code 2 (some .long) ws ({ frames := 0, cells := 0, slots := 0, locals := 0 } : Room) #[(.ref a1), (.int p2)] h0 (Q16 Z a1 p2 tb nb gf h0 n0) := by
  refine Con.of (plainFor_of_name pn_rm16) ?_
  intro p e s m below meth c s₁ hZ e0 X0 hx hby hml hown hnm hret hlk
  replace hml : c.maxLocals = 2 := hml
  have hown : s.vm.findClass "com/example/warpfinder/warpfinder/index/Intervals" = some m.cls := hown
  have N0 : Fr n0 [] := Fr.nil n0
  obtain ⟨PP, hPP⟩ : ∃ P, P = Fine s below (Q16 Z a1 p2 tb nb gf h0 n0) ({ frames := 0, cells := 0, slots := 0, locals := 0 } : Room).cells ({ frames := 0, cells := 0, slots := 0, locals := 0 } : Room).slots := ⟨_, rfl⟩
  rw [← hPP]
  refine Go.cast (ef_rm16 m a1 p2) ?_
  have Zn : n0 ≤ h0.size := Z0
  show Go p.tables e below PP (s₁.setTop (mkF m 0 #[.val (.ref a1), .val (.int p2)] []))
  refine Go.st (fun t k => XS.aloadN X0.here hx rfl (hb hby d16_0) rfl rfl k) ?_
  show Go p.tables e below PP (s₁.setTop (mkF m 1 #[.val (.ref a1), .val (.int p2)] [(.ref a1)]))
  obtain ⟨T1, X1, e1, st1⟩ := getF X0 hx hZ hown (host := "") (Or.inl (hw _ (List.mem_of_getElem? (i := 76) rfl))) Via.refl e0 F_bounds_a1 (g := (mkF m 1 #[.val (.ref a1), .val (.int p2)] [(.ref a1)])) rfl rfl (hb hby d16_1)
  refine Go.st st1 ?_
  show Go p.tables e below PP (T1.setTop (mkF m 4 #[.val (.ref a1), .val (.int p2)] [(.ref tb)]))
  refine Go.st (fun t k => XS.iconst X1.here hx rfl (hb hby d16_4) k) ?_
  show Go p.tables e below PP (T1.setTop (mkF m 5 #[.val (.ref a1), .val (.int p2)] [(.int (2 : Int32)), (.ref tb)]))
  refine Go.st (fun t k => XS.iloadN X1.here hx rfl (hb hby d16_5) rfl k) ?_
  show Go p.tables e below PP (T1.setTop (mkF m 6 #[.val (.ref a1), .val (.int p2)] [(.int p2), (.int (2 : Int32)), (.ref tb)]))
  refine Go.st (fun t k => XS.imul X1.here hx rfl (hb hby d16_6) rfl k) ?_
  show Go p.tables e below PP (T1.setTop (mkF m 7 #[.val (.ref a1), .val (.int p2)] [(.int ((2 : Int32) * p2)), (.ref tb)]))
  refine Go.st (fun t k => XS.iconst X1.here hx rfl (hb hby d16_7) k) ?_
  show Go p.tables e below PP (T1.setTop (mkF m 8 #[.val (.ref a1), .val (.int p2)] [(.int (1 : Int32)), (.int ((2 : Int32) * p2)), (.ref tb)]))
  refine Go.st (fun t k => XS.iadd X1.here hx rfl (hb hby d16_8) rfl k) ?_
  show Go p.tables e below PP (T1.setTop (mkF m 9 #[.val (.ref a1), .val (.int p2)] [(.int (((2 : Int32) * p2) + (1 : Int32))), (.ref tb)]))
  obtain ⟨cl2, Ar2, S2, Nn2, H2⟩ := id V_tb
  have hin2 : ¬ ((((2 : Int32) * p2) + (1 : Int32)) < 0 ∨ cl2.slots.size ≤ ((((2 : Int32) * p2) + (1 : Int32))).toNatClampNeg) := inb_of S2 hin
  refine Go.st (fun t k => X1.laload hx (j := (((2 : Int32) * p2) + (1 : Int32))) (v := (.long (gf (((2 : Int32) * p2) + (1 : Int32)).toNatClampNeg))) (by rw [e1]; exact Ar2.1) (State.isArrayOf_alike hZ.alike Ar2.2.1) Ar2.2.2 hin2 ((H2 _ (inbN hin)).1.trans (congrArg some (rfl))) (g := (mkF m 9 #[.val (.ref a1), .val (.int p2)] [(.int (((2 : Int32) * p2) + (1 : Int32))), (.ref tb)])) rfl rfl (hb hby d16_9) _ k) ?_
  show Go p.tables e below PP (T1.setTop (mkF m 10 #[.val (.ref a1), .val (.int p2)] [(.long (gf (((2 : Int32) * p2) + (1 : Int32)).toNatClampNeg))]))
  rw [hPP]
  refine endJ X1 hx hlk hret (hb hby d16_10) ?_ (by decide) (by decide)
  show Q16 Z a1 p2 tb nb gf h0 n0 (some (.long (gf (((2 : Int32) * p2) + (1 : Int32)).toNatClampNeg))) T1.heap _
  rw [e1]
  exact ⟨rfl, rfl, rfl⟩
theorem d6_0 : decode prog_24_method_6_code 0 = .ok (.aload_n 0, 1) := by decide +kernel
theorem d6_1 : decode prog_24_method_6_code 1 = .ok (.getfield 28, 3) := by decide +kernel
theorem d6_4 : decode prog_24_method_6_code 4 = .ok (.arraylength, 1) := by decide +kernel
theorem d6_5 : decode prog_24_method_6_code 5 = .ok (.ifCond .ne 7, 3) := by decide +kernel
theorem d6_8 : decode prog_24_method_6_code 8 = .ok (.getstatic 63, 3) := by decide +kernel
theorem d6_11 : decode prog_24_method_6_code 11 = .ok (.areturn, 1) := by decide +kernel
theorem d6_12 : decode prog_24_method_6_code 12 = .ok (.new 67, 3) := by decide +kernel
theorem d6_15 : decode prog_24_method_6_code 15 = .ok (.dup, 1) := by decide +kernel
theorem d6_16 : decode prog_24_method_6_code 16 = .ok (.sipush 1024, 3) := by decide +kernel
theorem d6_19 : decode prog_24_method_6_code 19 = .ok (.invokespecial 69, 3) := by decide +kernel
theorem d6_22 : decode prog_24_method_6_code 22 = .ok (.astore_n 1, 1) := by decide +kernel
theorem d6_23 : decode prog_24_method_6_code 23 = .ok (.iconst 0, 1) := by decide +kernel
theorem d6_24 : decode prog_24_method_6_code 24 = .ok (.istore_n 2, 1) := by decide +kernel
theorem d6_25 : decode prog_24_method_6_code 25 = .ok (.aload_n 0, 1) := by decide +kernel
theorem d6_26 : decode prog_24_method_6_code 26 = .ok (.getfield 28, 3) := by decide +kernel
theorem d6_29 : decode prog_24_method_6_code 29 = .ok (.iconst 0, 1) := by decide +kernel
theorem d6_30 : decode prog_24_method_6_code 30 = .ok (.laload, 1) := by decide +kernel
theorem d6_31 : decode prog_24_method_6_code 31 = .ok (.lstore_n 3, 1) := by decide +kernel
theorem d6_32 : decode prog_24_method_6_code 32 = .ok (.lload_n 3, 1) := by decide +kernel
theorem d6_33 : decode prog_24_method_6_code 33 = .ok (.lconst 0, 1) := by decide +kernel
theorem d6_34 : decode prog_24_method_6_code 34 = .ok (.lcmp, 1) := by decide +kernel
theorem d6_35 : decode prog_24_method_6_code 35 = .ok (.ifCond .ne 30, 3) := by decide +kernel
theorem d6_38 : decode prog_24_method_6_code 38 = .ok (.iinc 2 1, 3) := by decide +kernel
theorem d6_41 : decode prog_24_method_6_code 41 = .ok (.iload_n 2, 1) := by decide +kernel
theorem d6_42 : decode prog_24_method_6_code 42 = .ok (.aload_n 0, 1) := by decide +kernel
theorem d6_43 : decode prog_24_method_6_code 43 = .ok (.getfield 28, 3) := by decide +kernel
theorem d6_46 : decode prog_24_method_6_code 46 = .ok (.arraylength, 1) := by decide +kernel
theorem d6_47 : decode prog_24_method_6_code 47 = .ok (.if_icmp .ne 8, 3) := by decide +kernel
theorem d6_50 : decode prog_24_method_6_code 50 = .ok (.aload_n 1, 1) := by decide +kernel
theorem d6_51 : decode prog_24_method_6_code 51 = .ok (.invokevirtual 72, 3) := by decide +kernel
theorem d6_54 : decode prog_24_method_6_code 54 = .ok (.areturn, 1) := by decide +kernel
theorem d6_55 : decode prog_24_method_6_code 55 = .ok (.aload_n 0, 1) := by decide +kernel
theorem d6_56 : decode prog_24_method_6_code 56 = .ok (.getfield 28, 3) := by decide +kernel
theorem d6_59 : decode prog_24_method_6_code 59 = .ok (.iload_n 2, 1) := by decide +kernel
theorem d6_60 : decode prog_24_method_6_code 60 = .ok (.laload, 1) := by decide +kernel
theorem d6_61 : decode prog_24_method_6_code 61 = .ok (.lstore_n 3, 1) := by decide +kernel
theorem d6_62 : decode prog_24_method_6_code 62 = .ok (.goto (-30), 3) := by decide +kernel
theorem d6_65 : decode prog_24_method_6_code 65 = .ok (.lload_n 3, 1) := by decide +kernel
theorem d6_66 : decode prog_24_method_6_code 66 = .ok (.invokestatic 76, 3) := by decide +kernel
theorem d6_69 : decode prog_24_method_6_code 69 = .ok (.istore 5, 2) := by decide +kernel
theorem d6_71 : decode prog_24_method_6_code 71 = .ok (.iload_n 2, 1) := by decide +kernel
theorem d6_72 : decode prog_24_method_6_code 72 = .ok (.i2l, 1) := by decide +kernel
theorem d6_73 : decode prog_24_method_6_code 73 = .ok (.bipush 6, 2) := by decide +kernel
theorem d6_75 : decode prog_24_method_6_code 75 = .ok (.lshl, 1) := by decide +kernel
theorem d6_76 : decode prog_24_method_6_code 76 = .ok (.iload 5, 2) := by decide +kernel
theorem d6_78 : decode prog_24_method_6_code 78 = .ok (.i2l, 1) := by decide +kernel
theorem d6_79 : decode prog_24_method_6_code 79 = .ok (.ladd, 1) := by decide +kernel
theorem d6_80 : decode prog_24_method_6_code 80 = .ok (.lstore 6, 2) := by decide +kernel
theorem d6_82 : decode prog_24_method_6_code 82 = .ok (.lload_n 3, 1) := by decide +kernel
theorem d6_83 : decode prog_24_method_6_code 83 = .ok (.ldc2_w 51, 3) := by decide +kernel
theorem d6_86 : decode prog_24_method_6_code 86 = .ok (.lxor, 1) := by decide +kernel
theorem d6_87 : decode prog_24_method_6_code 87 = .ok (.ldc2_w 51, 3) := by decide +kernel
theorem d6_90 : decode prog_24_method_6_code 90 = .ok (.iload 5, 2) := by decide +kernel
theorem d6_92 : decode prog_24_method_6_code 92 = .ok (.lshl, 1) := by decide +kernel
theorem d6_93 : decode prog_24_method_6_code 93 = .ok (.land, 1) := by decide +kernel
theorem d6_94 : decode prog_24_method_6_code 94 = .ok (.lstore 8, 2) := by decide +kernel
theorem d6_96 : decode prog_24_method_6_code 96 = .ok (.lload 8, 2) := by decide +kernel
theorem d6_98 : decode prog_24_method_6_code 98 = .ok (.lconst 0, 1) := by decide +kernel
theorem d6_99 : decode prog_24_method_6_code 99 = .ok (.lcmp, 1) := by decide +kernel
theorem d6_100 : decode prog_24_method_6_code 100 = .ok (.ifCond .ne 47, 3) := by decide +kernel
theorem d6_103 : decode prog_24_method_6_code 103 = .ok (.iinc 2 1, 3) := by decide +kernel
theorem d6_106 : decode prog_24_method_6_code 106 = .ok (.iload_n 2, 1) := by decide +kernel
theorem d6_107 : decode prog_24_method_6_code 107 = .ok (.aload_n 0, 1) := by decide +kernel
theorem d6_108 : decode prog_24_method_6_code 108 = .ok (.getfield 28, 3) := by decide +kernel
theorem d6_111 : decode prog_24_method_6_code 111 = .ok (.arraylength, 1) := by decide +kernel
theorem d6_112 : decode prog_24_method_6_code 112 = .ok (.if_icmp .ne 20, 3) := by decide +kernel
theorem d6_115 : decode prog_24_method_6_code 115 = .ok (.aload_n 1, 1) := by decide +kernel
theorem d6_116 : decode prog_24_method_6_code 116 = .ok (.lload 6, 2) := by decide +kernel
theorem d6_118 : decode prog_24_method_6_code 118 = .ok (.aload_n 0, 1) := by decide +kernel
theorem d6_119 : decode prog_24_method_6_code 119 = .ok (.getfield 22, 3) := by decide +kernel
theorem d6_122 : decode prog_24_method_6_code 122 = .ok (.lconst 1, 1) := by decide +kernel
theorem d6_123 : decode prog_24_method_6_code 123 = .ok (.lsub, 1) := by decide +kernel
theorem d6_124 : decode prog_24_method_6_code 124 = .ok (.invokevirtual 79, 3) := by decide +kernel
theorem d6_127 : decode prog_24_method_6_code 127 = .ok (.aload_n 1, 1) := by decide +kernel
theorem d6_128 : decode prog_24_method_6_code 128 = .ok (.invokevirtual 72, 3) := by decide +kernel
theorem d6_131 : decode prog_24_method_6_code 131 = .ok (.areturn, 1) := by decide +kernel
theorem d6_132 : decode prog_24_method_6_code 132 = .ok (.aload_n 0, 1) := by decide +kernel
theorem d6_133 : decode prog_24_method_6_code 133 = .ok (.getfield 28, 3) := by decide +kernel
theorem d6_136 : decode prog_24_method_6_code 136 = .ok (.iload_n 2, 1) := by decide +kernel
theorem d6_137 : decode prog_24_method_6_code 137 = .ok (.laload, 1) := by decide +kernel
theorem d6_138 : decode prog_24_method_6_code 138 = .ok (.ldc2_w 51, 3) := by decide +kernel
theorem d6_141 : decode prog_24_method_6_code 141 = .ok (.lxor, 1) := by decide +kernel
theorem d6_142 : decode prog_24_method_6_code 142 = .ok (.lstore 8, 2) := by decide +kernel
theorem d6_144 : decode prog_24_method_6_code 144 = .ok (.goto (-48), 3) := by decide +kernel
theorem d6_147 : decode prog_24_method_6_code 147 = .ok (.lload 8, 2) := by decide +kernel
theorem d6_149 : decode prog_24_method_6_code 149 = .ok (.invokestatic 76, 3) := by decide +kernel
theorem d6_152 : decode prog_24_method_6_code 152 = .ok (.istore 10, 2) := by decide +kernel
theorem d6_154 : decode prog_24_method_6_code 154 = .ok (.aload_n 1, 1) := by decide +kernel
theorem d6_155 : decode prog_24_method_6_code 155 = .ok (.lload 6, 2) := by decide +kernel
theorem d6_157 : decode prog_24_method_6_code 157 = .ok (.iload_n 2, 1) := by decide +kernel
theorem d6_158 : decode prog_24_method_6_code 158 = .ok (.i2l, 1) := by decide +kernel
theorem d6_159 : decode prog_24_method_6_code 159 = .ok (.bipush 6, 2) := by decide +kernel
theorem d6_161 : decode prog_24_method_6_code 161 = .ok (.lshl, 1) := by decide +kernel
theorem d6_162 : decode prog_24_method_6_code 162 = .ok (.iload 10, 2) := by decide +kernel
theorem d6_164 : decode prog_24_method_6_code 164 = .ok (.i2l, 1) := by decide +kernel
theorem d6_165 : decode prog_24_method_6_code 165 = .ok (.ladd, 1) := by decide +kernel
theorem d6_166 : decode prog_24_method_6_code 166 = .ok (.lconst 1, 1) := by decide +kernel
theorem d6_167 : decode prog_24_method_6_code 167 = .ok (.lsub, 1) := by decide +kernel
theorem d6_168 : decode prog_24_method_6_code 168 = .ok (.invokevirtual 79, 3) := by decide +kernel
theorem d6_171 : decode prog_24_method_6_code 171 = .ok (.aload_n 0, 1) := by decide +kernel
theorem d6_172 : decode prog_24_method_6_code 172 = .ok (.getfield 28, 3) := by decide +kernel
theorem d6_175 : decode prog_24_method_6_code 175 = .ok (.iload_n 2, 1) := by decide +kernel
theorem d6_176 : decode prog_24_method_6_code 176 = .ok (.laload, 1) := by decide +kernel
theorem d6_177 : decode prog_24_method_6_code 177 = .ok (.ldc2_w 51, 3) := by decide +kernel
theorem d6_180 : decode prog_24_method_6_code 180 = .ok (.iload 10, 2) := by decide +kernel
theorem d6_182 : decode prog_24_method_6_code 182 = .ok (.lshl, 1) := by decide +kernel
theorem d6_183 : decode prog_24_method_6_code 183 = .ok (.land, 1) := by decide +kernel
theorem d6_184 : decode prog_24_method_6_code 184 = .ok (.lstore_n 3, 1) := by decide +kernel
theorem d6_185 : decode prog_24_method_6_code 185 = .ok (.goto (-153), 3) := by decide +kernel
theorem pn_rm6 : plainName "com/example/warpfinder/warpfinder/index/PositionBits" = true := by first | (simp [plainName, overriddenIn]; done) | decide +kernel
theorem ef_rm6 (m : MethodId) (a1 : Addr) : entryFrame m #[(.ref a1)] 11 = mkF m 0 #[.val (.ref a1), .unset, .unset, .unset, .unset, .unset, .unset, .unset, .unset, .unset, .unset] [] := by first | (simp [entryFrame, mkF, argsToLocals, Value.category]; done) | rfl
def Q6 (Z : State) (a1 : Addr) (tw : Addr) (nw : Int32) (nn : Int64) (fw : Nat → Int64) (NI : Int32) (sI : Nat → Int64) (eI : Nat → Int64) (h0 : Heap) (n0 : Nat) (v : Option Value) (h : Heap) (L : List Loc) : Prop := ∃ r tb : Addr, v = some (.ref r) ∧ Fr n0 L ∧ Keep h0 h [] ∧ h0.size ≤ r ∧ h0.size ≤ tb ∧ Exa Z h r "com/example/warpfinder/warpfinder/index/Intervals" ∧ Fld Z h r "com/example/warpfinder/warpfinder/index/Intervals" "size" "I" (.int NI) ∧ Fld Z h r "com/example/warpfinder/warpfinder/index/Intervals" "bounds" "[J" (.ref tb) ∧ Afn Z h tb .long (2048 : Int32) (fun k => .long (bnd sI eI NI.toNatClampNeg k))
theorem pd_3 : parseMethodDescriptor "(I)V" = some ⟨[.int], none⟩ := by decide +kernel
theorem pd_4 : parseMethodDescriptor "()Lcom/example/warpfinder/warpfinder/index/Intervals;" = some ⟨[], some (.object "com/example/warpfinder/warpfinder/index/Intervals")⟩ := by decide +kernel
theorem pd_5 : parseMethodDescriptor "(J)I" = some ⟨[.long], some .int⟩ := by decide +kernel
theorem pd_6 : parseMethodDescriptor "(JJ)V" = some ⟨[.long, .long], none⟩ := by decide +kernel
set_option maxRecDepth 65536 in
set_option maxHeartbeats 40000000 in
theorem rm6 (l : Launch) (Z : State) (a0 : Array Value) (hw : ∀ d ∈ tables_1, d.before a0 Z = true) (ws : List Jvm.Cond) (a1 : Addr) (tw : Addr) (nw : Int32) (nn : Int64) (fw : Nat → Int64) (NI : Int32) (sI : Nat → Int64) (eI : Nat → Int64) (h0 : Heap) (n0 : Nat) (Z0 : n0 ≤ h0.size) (F_words_a1 : Fld Z h0 a1 "com/example/warpfinder/warpfinder/index/PositionBits" "words" "[J" (.ref tw)) (F_size_a1 : Fld Z h0 a1 "com/example/warpfinder/warpfinder/index/PositionBits" "size" "J" (.long nn)) (V_tw : Afn Z h0 tw .long nw (fun k => .long (fw k))) (hR : Runs fw nw nn NI sI eI) :
    Con l Z (⟨"com/example/warpfinder/warpfinder/index/PositionBits", "intervals", "()Lcom/example/warpfinder/warpfinder/index/Intervals;"⟩ : MethodName) prog_24_method_6_code 11 (some (.object "com/example/warpfinder/warpfinder/index/Intervals")) ws ({ frames := 3, cells := 3, slots := 2052, locals := 39 } : Room) #[(.ref a1)] h0 (Q6 Z a1 tw nw nn fw NI sI eI h0 n0) := by
  refine Con.of (plainFor_of_name pn_rm6) ?_
  intro p e s m below meth c s₁ hZ e0 X0 hx hby hml hown hnm hret hlk
  replace hml : c.maxLocals = 11 := hml
  have hown : s.vm.findClass "com/example/warpfinder/warpfinder/index/PositionBits" = some m.cls := hown
  have N0 : Fr n0 [] := Fr.nil n0
  obtain ⟨PP, hPP⟩ : ∃ P, P = Fine s below (Q6 Z a1 tw nw nn fw NI sI eI h0 n0) ({ frames := 3, cells := 3, slots := 2052, locals := 39 } : Room).cells ({ frames := 3, cells := 3, slots := 2052, locals := 39 } : Room).slots := ⟨_, rfl⟩
  rw [← hPP]
  refine Go.cast (ef_rm6 m a1) ?_
  have K : Keep h0 h0 [] := Keep.refl h0 _
  have Zn : n0 ≤ h0.size := Z0
  show Go p.tables e below PP (s₁.setTop (mkF m 0 #[.val (.ref a1), .unset, .unset, .unset, .unset, .unset, .unset, .unset, .unset, .unset, .unset] []))
  refine Go.st (fun t k => XS.aloadN X0.here hx rfl (hb hby d6_0) rfl rfl k) ?_
  show Go p.tables e below PP (s₁.setTop (mkF m 1 #[.val (.ref a1), .unset, .unset, .unset, .unset, .unset, .unset, .unset, .unset, .unset, .unset] [(.ref a1)]))
  obtain ⟨T1, X1, e1, st1⟩ := getF X0 hx hZ hown (host := "") (Or.inl (hw _ (List.mem_of_getElem? (i := 23) rfl))) Via.refl e0 F_words_a1 (g := (mkF m 1 #[.val (.ref a1), .unset, .unset, .unset, .unset, .unset, .unset, .unset, .unset, .unset, .unset] [(.ref a1)])) rfl rfl (hb hby d6_1)
  refine Go.st st1 ?_
  show Go p.tables e below PP (T1.setTop (mkF m 4 #[.val (.ref a1), .unset, .unset, .unset, .unset, .unset, .unset, .unset, .unset, .unset, .unset] [(.ref tw)]))
  obtain ⟨cl2, Ar2, S2, Nn2, -⟩ := id V_tw
  refine Go.st (fun t k => X1.arraylength hx (by rw [e1]; exact Ar2.1) (State.isArrayOf_alike hZ.alike Ar2.2.1) (g := (mkF m 4 #[.val (.ref a1), .unset, .unset, .unset, .unset, .unset, .unset, .unset, .unset, .unset, .unset] [(.ref tw)])) rfl rfl (hb hby d6_4) _ k) ?_
  rw [len_of S2 Nn2]
  show Go p.tables e below PP (T1.setTop (mkF m 5 #[.val (.ref a1), .unset, .unset, .unset, .unset, .unset, .unset, .unset, .unset, .unset, .unset] [(.int nw)]))
  refine Go.st (fun t k => XS.ifYes X1.here hx rfl (pc0 := 5) (pc' := 12) rfl (hb hby d6_5) rfl (XT.i0_ne_t (own_nw0 hR).1) (by decide) (by decide) k) ?_
  show Go p.tables e below PP (T1.setTop (mkF m 12 #[.val (.ref a1), .unset, .unset, .unset, .unset, .unset, .unset, .unset, .unset, .unset, .unset] []))
  obtain ⟨T3, h3, X3, e3, E3, A3, D3, -, st3⟩ := newO X1 hx hZ hown (hw _ (List.mem_of_getElem? (i := 36) rfl)) (hw _ (List.mem_of_getElem? (i := 37) rfl)) (hw _ (List.mem_of_getElem? (i := 38) rfl)) e1 (g := (mkF m 12 #[.val (.ref a1), .unset, .unset, .unset, .unset, .unset, .unset, .unset, .unset, .unset, .unset] [])) rfl (hb hby d6_12) (by decide) (by decide)
  obtain ⟨b3, gz3⟩ : ∃ z, z = h0.size := ⟨_, rfl⟩
  rw [← gz3] at A3 D3 st3
  have ne_a1_b3 : a1 ≠ b3 := Nat.ne_of_lt (Nat.lt_of_lt_of_le F_words_a1.lt (Nat.le_of_eq gz3.symm))
  have ne_tw_b3 : tw ≠ b3 := Nat.ne_of_lt (Nat.lt_of_lt_of_le V_tw.lt (Nat.le_of_eq gz3.symm))
  have g_b3 : n0 ≤ b3 := Nat.le_trans Zn (Nat.le_of_eq gz3.symm)
  have sz_b3 : h0.size ≤ b3 := Nat.le_trans K.1 (Nat.le_of_eq gz3.symm)
  refine Go.st st3 ?_
  replace F_words_a1 := F_words_a1.ext E3
  replace F_size_a1 := F_size_a1.ext E3
  replace V_tw := V_tw.ext E3
  replace K := K.ext E3
  replace Zn := Nat.le_trans Zn E3.1
  have E_b3 := A3
  have F_bounds_b3 : Fld Z h3 b3 "com/example/warpfinder/warpfinder/index/Intervals$Builder" "bounds" "[J" .null := D3 (Or.inl (hw _ (List.mem_of_getElem? (i := 47) rfl))) (ty := (.array .long)) (by decide)
  have F_size_b3 : Fld Z h3 b3 "com/example/warpfinder/warpfinder/index/Intervals$Builder" "size" "I" (.int (0 : Int32)) := D3 (Or.inl (hw _ (List.mem_of_getElem? (i := 63) rfl))) (ty := .int) (by decide)
  show Go p.tables e below PP (T3.setTop (mkF m 15 #[.val (.ref a1), .unset, .unset, .unset, .unset, .unset, .unset, .unset, .unset, .unset, .unset] [(.ref b3)]))
  refine Go.st (fun t k => XS.dup X3.here hx rfl (hb hby d6_15) rfl rfl k) ?_
  show Go p.tables e below PP (T3.setTop (mkF m 16 #[.val (.ref a1), .unset, .unset, .unset, .unset, .unset, .unset, .unset, .unset, .unset, .unset] [(.ref b3), (.ref b3)]))
  refine Go.st (fun t k => XS.sipush X3.here hx rfl (hb hby d6_16) k) ?_
  show Go p.tables e below PP (T3.setTop (mkF m 19 #[.val (.ref a1), .unset, .unset, .unset, .unset, .unset, .unset, .unset, .unset, .unset, .unset] [(.int (1024 : Int32)), (.ref b3), (.ref b3)]))
  obtain ⟨v4, T4, L4, X4, hQ4, st4⟩ := callIn X3 hx hZ (y := (⟨"com/example/warpfinder/warpfinder/index/Intervals$Builder", "<init>", "(I)V"⟩ : MethodName)) (a := b3) (argsL := [(.int (1024 : Int32))]) (rest := [(.ref b3)]) rfl hown (hw _ (List.mem_of_getElem? (i := 39) rfl)) (hw _ (List.mem_of_getElem? (i := 40) rfl)) (hw _ (List.mem_of_getElem? (i := 38) rfl)) (hw _ (List.mem_of_getElem? (i := 41) rfl)) (by decide) (rm7 l Z a0 hw [] b3 h3 n0 Zn F_size_b3 F_bounds_b3 E_b3 g_b3) e3 1 (by decide) (by decide) (by decide) (by decide) (g := (mkF m 19 #[.val (.ref a1), .unset, .unset, .unset, .unset, .unset, .unset, .unset, .unset, .unset, .unset] [(.int (1024 : Int32)), (.ref b3), (.ref b3)])) rfl (by rw [hml]; rfl) (lenOf pd_3 rfl) rfl (by show 2 * 0 + _ ≤ _; exact Nat.le_of_eq rfl) (hb hby d6_19)
  obtain ⟨h4, e4⟩ : ∃ z, T4.heap = z := ⟨_, rfl⟩
  rw [e4] at hQ4
  obtain ⟨t_4, rfl, Nq4, Kq4, sq4_t, Fq4_0, Fq4_1, Fq4_2⟩ := hQ4
  have N4 := Fr.app N0 Nq4
  have ne_a1_t_4 : a1 ≠ t_4 := Nat.ne_of_lt (Nat.lt_of_lt_of_le F_words_a1.lt sq4_t)
  have ne_tw_t_4 : tw ≠ t_4 := Nat.ne_of_lt (Nat.lt_of_lt_of_le V_tw.lt sq4_t)
  have ne_b3_t_4 : b3 ≠ t_4 := Nat.ne_of_lt (Nat.lt_of_lt_of_le E_b3.lt sq4_t)
  have g_t_4 : n0 ≤ t_4 := Nat.le_trans Zn sq4_t
  have sz_t_4 : h0.size ≤ t_4 := Nat.le_trans K.1 sq4_t
  replace F_words_a1 := F_words_a1.keep Kq4 (ninS ne_a1_b3 nin0)
  replace F_size_a1 := F_size_a1.keep Kq4 (ninS ne_a1_b3 nin0)
  replace V_tw := V_tw.keep Kq4 (ninS ne_tw_b3 nin0)
  replace E_b3 := E_b3.keep Kq4
  clear F_bounds_b3
  clear F_size_b3
  replace K := K.trans Kq4 (allS (Or.inr sz_b3) all0)
  replace Zn := Nat.le_trans Zn Kq4.1
  have F_size_b3 := Fq4_0
  have F_bounds_b3 := Fq4_1
  have V_t_4 := Fq4_2
  refine Go.st st4 ?_
  show Go p.tables e below PP (T4.setTop (mkF m 22 #[.val (.ref a1), .unset, .unset, .unset, .unset, .unset, .unset, .unset, .unset, .unset, .unset] [(.ref b3)]))
  refine Go.st (fun t k => XS.astoreN X4.here hx rfl (hb hby d6_22) rfl rfl (l' := #[.val (.ref a1), .val (.ref b3), .unset, .unset, .unset, .unset, .unset, .unset, .unset, .unset, .unset]) rfl k) ?_
  show Go p.tables e below PP (T4.setTop (mkF m 23 #[.val (.ref a1), .val (.ref b3), .unset, .unset, .unset, .unset, .unset, .unset, .unset, .unset, .unset] []))
  refine Go.st (fun t k => XS.iconst X4.here hx rfl (hb hby d6_23) k) ?_
  show Go p.tables e below PP (T4.setTop (mkF m 24 #[.val (.ref a1), .val (.ref b3), .unset, .unset, .unset, .unset, .unset, .unset, .unset, .unset, .unset] [(.int (0 : Int32))]))
  refine Go.st (fun t k => XS.istoreN X4.here hx rfl (hb hby d6_24) rfl (l' := #[.val (.ref a1), .val (.ref b3), .val (.int (0 : Int32)), .unset, .unset, .unset, .unset, .unset, .unset, .unset, .unset]) rfl k) ?_
  show Go p.tables e below PP (T4.setTop (mkF m 25 #[.val (.ref a1), .val (.ref b3), .val (.int (0 : Int32)), .unset, .unset, .unset, .unset, .unset, .unset, .unset, .unset] []))
  refine Go.st (fun t k => XS.aloadN X4.here hx rfl (hb hby d6_25) rfl rfl k) ?_
  show Go p.tables e below PP (T4.setTop (mkF m 26 #[.val (.ref a1), .val (.ref b3), .val (.int (0 : Int32)), .unset, .unset, .unset, .unset, .unset, .unset, .unset, .unset] [(.ref a1)]))
  obtain ⟨T5, X5, e5, st5⟩ := getF X4 hx hZ hown (host := "") (Or.inl (hw _ (List.mem_of_getElem? (i := 23) rfl))) Via.refl e4 F_words_a1 (g := (mkF m 26 #[.val (.ref a1), .val (.ref b3), .val (.int (0 : Int32)), .unset, .unset, .unset, .unset, .unset, .unset, .unset, .unset] [(.ref a1)])) rfl rfl (hb hby d6_26)
  refine Go.st st5 ?_
  show Go p.tables e below PP (T5.setTop (mkF m 29 #[.val (.ref a1), .val (.ref b3), .val (.int (0 : Int32)), .unset, .unset, .unset, .unset, .unset, .unset, .unset, .unset] [(.ref tw)]))
  refine Go.st (fun t k => XS.iconst X5.here hx rfl (hb hby d6_29) k) ?_
  show Go p.tables e below PP (T5.setTop (mkF m 30 #[.val (.ref a1), .val (.ref b3), .val (.int (0 : Int32)), .unset, .unset, .unset, .unset, .unset, .unset, .unset, .unset] [(.int (0 : Int32)), (.ref tw)]))
  obtain ⟨cl6, Ar6, S6, Nn6, H6⟩ := id V_tw
  have hin6 : ¬ ((0 : Int32) < 0 ∨ cl6.slots.size ≤ ((0 : Int32)).toNatClampNeg) := inb_of S6 (own_nw0 hR).2
  refine Go.st (fun t k => X5.laload hx (j := (0 : Int32)) (v := (.long (fw (0 : Int32).toNatClampNeg))) (by rw [e5]; exact Ar6.1) (State.isArrayOf_alike hZ.alike Ar6.2.1) Ar6.2.2 hin6 ((H6 _ (inbN (own_nw0 hR).2)).1.trans (congrArg some (rfl))) (g := (mkF m 30 #[.val (.ref a1), .val (.ref b3), .val (.int (0 : Int32)), .unset, .unset, .unset, .unset, .unset, .unset, .unset, .unset] [(.int (0 : Int32)), (.ref tw)])) rfl rfl (hb hby d6_30) _ k) ?_
  show Go p.tables e below PP (T5.setTop (mkF m 31 #[.val (.ref a1), .val (.ref b3), .val (.int (0 : Int32)), .unset, .unset, .unset, .unset, .unset, .unset, .unset, .unset] [(.long (fw (0 : Int32).toNatClampNeg))]))
  refine Go.st (fun t k => XS.lstoreN X5.here hx rfl (hb hby d6_31) rfl (l' := #[.val (.ref a1), .val (.ref b3), .val (.int (0 : Int32)), .val (.long (fw (0 : Int32).toNatClampNeg)), .second, .unset, .unset, .unset, .unset, .unset, .unset]) rfl k) ?_
  have J32 : ∀ (d7 : Nat) (T7 : State) (L7 : List Loc) (h7 : Heap) (wi : Int32) (word : Int64) (sz : Int32) (pos : Nat) (s5 : Slot) (s6 : Slot) (s7 : Slot) (s8 : Slot) (s9 : Slot) (s10 : Slot), Stand p l e ({ frames := 3, cells := 3, slots := 2052, locals := 39 } : Room) s m #[(.ref a1)] below meth c T7 L7 2 2050 → T7.heap = h7 → Fr n0 L7 → Fld Z h7 a1 "com/example/warpfinder/warpfinder/index/PositionBits" "words" "[J" (.ref tw) → Fld Z h7 a1 "com/example/warpfinder/warpfinder/index/PositionBits" "size" "J" (.long nn) → Afn Z h7 tw .long nw (fun k => .long (fw k)) → Exa Z h7 b3 "com/example/warpfinder/warpfinder/index/Intervals$Builder" → Fld Z h7 b3 "com/example/warpfinder/warpfinder/index/Intervals$Builder" "size" "I" (.int sz) → Fld Z h7 b3 "com/example/warpfinder/warpfinder/index/Intervals$Builder" "bounds" "[J" (.ref t_4) → Afn Z h7 t_4 .long (2048 : Int32) (fun k => .long (bnd sI eI sz.toNatClampNeg k)) → Keep h0 h7 [] → n0 ≤ h7.size → (OutI fw nw NI sI eI wi word sz pos ∧ SL s5 s6 s7 s8 s9 s10) → 64 * nw.toNatClampNeg - pos = d7 → Go p.tables e below PP (T7.setTop (mkF m 32 #[.val (.ref a1), .val (.ref b3), .val (.int wi), .val (.long word), .second, s5, s6, s7, s8, s9, s10] [])) := by
    clear F_words_a1
    clear F_size_a1
    clear V_tw
    clear E_b3
    clear F_size_b3
    clear F_bounds_b3
    clear V_t_4
    clear Zn K
    intro d7
    induction d7 using Nat.strongRecOn with
    | _ d7 ih7 =>
      intro T7 L7 h7 wi word sz pos s5 s6 s7 s8 s9 s10 X7 e7 N7 F_words_a1 F_size_a1 V_tw E_b3 F_size_b3 F_bounds_b3 V_t_4 K Zn hJ32 hd7
      show Go p.tables e below PP (T7.setTop (mkF m 32 #[.val (.ref a1), .val (.ref b3), .val (.int wi), .val (.long word), .second, s5, s6, s7, s8, s9, s10] []))
      refine Go.st (fun t k => XS.lloadN X7.here hx rfl (hb hby d6_32) rfl k) ?_
      show Go p.tables e below PP (T7.setTop (mkF m 33 #[.val (.ref a1), .val (.ref b3), .val (.int wi), .val (.long word), .second, s5, s6, s7, s8, s9, s10] [(.long word)]))
      refine Go.st (fun t k => XS.lconst X7.here hx rfl (hb hby d6_33) k) ?_
      show Go p.tables e below PP (T7.setTop (mkF m 34 #[.val (.ref a1), .val (.ref b3), .val (.int wi), .val (.long word), .second, s5, s6, s7, s8, s9, s10] [(.long (0 : Int64)), (.long word)]))
      refine Go.st (fun t k => XS.lcmp X7.here hx rfl (hb hby d6_34) rfl k) ?_
      show Go p.tables e below PP (T7.setTop (mkF m 35 #[.val (.ref a1), .val (.ref b3), .val (.int wi), .val (.long word), .second, s5, s6, s7, s8, s9, s10] [(.int (XT.cmpL word (0 : Int64)))]))
      by_cases hc35 : word = (0 : Int64)
      · --
        refine Go.st (fun t k => XS.ifNo X7.here hx rfl (hb hby d6_35) rfl (XT.ll_ne_f hc35) k) ?_
        show Go p.tables e below PP (T7.setTop (mkF m 38 #[.val (.ref a1), .val (.ref b3), .val (.int wi), .val (.long word), .second, s5, s6, s7, s8, s9, s10] []))
        refine Go.st (fun t k => XS.iinc X7.here hx rfl (hb hby d6_38) rfl (l' := #[.val (.ref a1), .val (.ref b3), .val (.int (wi + (1 : Int32))), .val (.long word), .second, s5, s6, s7, s8, s9, s10]) rfl k) ?_
        show Go p.tables e below PP (T7.setTop (mkF m 41 #[.val (.ref a1), .val (.ref b3), .val (.int (wi + (1 : Int32))), .val (.long word), .second, s5, s6, s7, s8, s9, s10] []))
        refine Go.st (fun t k => XS.iloadN X7.here hx rfl (hb hby d6_41) rfl k) ?_
        show Go p.tables e below PP (T7.setTop (mkF m 42 #[.val (.ref a1), .val (.ref b3), .val (.int (wi + (1 : Int32))), .val (.long word), .second, s5, s6, s7, s8, s9, s10] [(.int (wi + (1 : Int32)))]))
        refine Go.st (fun t k => XS.aloadN X7.here hx rfl (hb hby d6_42) rfl rfl k) ?_
        show Go p.tables e below PP (T7.setTop (mkF m 43 #[.val (.ref a1), .val (.ref b3), .val (.int (wi + (1 : Int32))), .val (.long word), .second, s5, s6, s7, s8, s9, s10] [(.ref a1), (.int (wi + (1 : Int32)))]))
        obtain ⟨T8, X8, e8, st8⟩ := getF X7 hx hZ hown (host := "") (Or.inl (hw _ (List.mem_of_getElem? (i := 23) rfl))) Via.refl e7 F_words_a1 (g := (mkF m 43 #[.val (.ref a1), .val (.ref b3), .val (.int (wi + (1 : Int32))), .val (.long word), .second, s5, s6, s7, s8, s9, s10] [(.ref a1), (.int (wi + (1 : Int32)))])) rfl rfl (hb hby d6_43)
        refine Go.st st8 ?_
        show Go p.tables e below PP (T8.setTop (mkF m 46 #[.val (.ref a1), .val (.ref b3), .val (.int (wi + (1 : Int32))), .val (.long word), .second, s5, s6, s7, s8, s9, s10] [(.ref tw), (.int (wi + (1 : Int32)))]))
        obtain ⟨cl9, Ar9, S9, Nn9, -⟩ := id V_tw
        refine Go.st (fun t k => X8.arraylength hx (by rw [e8]; exact Ar9.1) (State.isArrayOf_alike hZ.alike Ar9.2.1) (g := (mkF m 46 #[.val (.ref a1), .val (.ref b3), .val (.int (wi + (1 : Int32))), .val (.long word), .second, s5, s6, s7, s8, s9, s10] [(.ref tw), (.int (wi + (1 : Int32)))])) rfl rfl (hb hby d6_46) _ k) ?_
        rw [len_of S9 Nn9]
        show Go p.tables e below PP (T8.setTop (mkF m 47 #[.val (.ref a1), .val (.ref b3), .val (.int (wi + (1 : Int32))), .val (.long word), .second, s5, s6, s7, s8, s9, s10] [(.int nw), (.int (wi + (1 : Int32)))]))
        by_cases hc47 : (wi + (1 : Int32)) = nw
        · --
          refine Go.st (fun t k => XS.icmpNo X8.here hx rfl (hb hby d6_47) rfl (XT.ii_ne_f hc47) k) ?_
          have hzN := out_end hR hJ32.1 hc35 hc47
          have hz0 : ¬ sz = (0 : Int32) := by rw [hzN]; exact own_n0 hR
          show Go p.tables e below PP (T8.setTop (mkF m 50 #[.val (.ref a1), .val (.ref b3), .val (.int (wi + (1 : Int32))), .val (.long word), .second, s5, s6, s7, s8, s9, s10] []))
          refine Go.st (fun t k => XS.aloadN X8.here hx rfl (hb hby d6_50) rfl rfl k) ?_
          show Go p.tables e below PP (T8.setTop (mkF m 51 #[.val (.ref a1), .val (.ref b3), .val (.int (wi + (1 : Int32))), .val (.long word), .second, s5, s6, s7, s8, s9, s10] [(.ref b3)]))
          obtain ⟨v10, T10, L10, X10, hQ10, st10⟩ := callVi X8 hx hZ (C := "com/example/warpfinder/warpfinder/index/Intervals$Builder") (y := (⟨"com/example/warpfinder/warpfinder/index/Intervals$Builder", "build", "()Lcom/example/warpfinder/warpfinder/index/Intervals;"⟩ : MethodName)) (z := (⟨"com/example/warpfinder/warpfinder/index/Intervals$Builder", "build", "()Lcom/example/warpfinder/warpfinder/index/Intervals;"⟩ : MethodName)) (a := b3) (argsL := []) (rest := []) hown (hw _ (List.mem_of_getElem? (i := 64) rfl)) (hw _ (List.mem_of_getElem? (i := 65) rfl)) (notFace_of_selects (args := #[]) (mvT hZ (hw _ (List.mem_of_getElem? (i := 67) rfl)))) (hw _ (List.mem_of_getElem? (i := 67) rfl)) (hw _ (List.mem_of_getElem? (i := 66) rfl)) (hw _ (List.mem_of_getElem? (i := 38) rfl)) (hw _ (List.mem_of_getElem? (i := 68) rfl)) (by decide) rfl E_b3 (rm12 l Z a0 hw [] b3 t_4 sz h7 n0 Zn F_size_b3 F_bounds_b3 hz0) e8 0 (by decide) (by decide) (by decide) (by decide) (g := (mkF m 51 #[.val (.ref a1), .val (.ref b3), .val (.int (wi + (1 : Int32))), .val (.long word), .second, s5, s6, s7, s8, s9, s10] [(.ref b3)])) rfl (by rw [hml]; rfl) (lenOf pd_4 rfl) rfl (by show 2 * 0 + _ ≤ _; exact Nat.le_of_eq rfl) (hb hby d6_51)
          obtain ⟨h10, e10⟩ : ∃ z, T10.heap = z := ⟨_, rfl⟩
          rw [e10] at hQ10
          obtain ⟨r_10, rfl, Nq10, Kq10, sq10_r, Fq10_0, Fq10_1, Fq10_2⟩ := hQ10
          have N10 := Fr.app N7 Nq10
          have ne_a1_r_10 : a1 ≠ r_10 := Nat.ne_of_lt (Nat.lt_of_lt_of_le F_words_a1.lt sq10_r)
          have ne_tw_r_10 : tw ≠ r_10 := Nat.ne_of_lt (Nat.lt_of_lt_of_le V_tw.lt sq10_r)
          have ne_b3_r_10 : b3 ≠ r_10 := Nat.ne_of_lt (Nat.lt_of_lt_of_le E_b3.lt sq10_r)
          have ne_t_4_r_10 : t_4 ≠ r_10 := Nat.ne_of_lt (Nat.lt_of_lt_of_le V_t_4.lt sq10_r)
          have g_r_10 : n0 ≤ r_10 := Nat.le_trans Zn sq10_r
          have sz_r_10 : h0.size ≤ r_10 := Nat.le_trans K.1 sq10_r
          replace F_words_a1 := F_words_a1.keep Kq10 nin0
          replace F_size_a1 := F_size_a1.keep Kq10 nin0
          replace V_tw := V_tw.keep Kq10 nin0
          replace E_b3 := E_b3.keep Kq10
          replace F_size_b3 := F_size_b3.keep Kq10 nin0
          replace F_bounds_b3 := F_bounds_b3.keep Kq10 nin0
          replace V_t_4 := V_t_4.keep Kq10 nin0
          replace K := K.trans Kq10 all0
          replace Zn := Nat.le_trans Zn Kq10.1
          have E_r_10 := Fq10_0
          have F_size_r_10 := Fq10_1
          have F_bounds_r_10 := Fq10_2
          refine Go.st st10 ?_
          show Go p.tables e below PP (T10.setTop (mkF m 54 #[.val (.ref a1), .val (.ref b3), .val (.int (wi + (1 : Int32))), .val (.long word), .second, s5, s6, s7, s8, s9, s10] [(.ref r_10)]))
          rw [hPP]
          refine endR X10 hx hlk hret rfl rfl (hb hby d6_54) ?_ (by decide) (by decide)
          show Q6 Z a1 tw nw nn fw NI sI eI h0 n0 (some (.ref r_10)) T10.heap _
          rw [e10]
          exact ⟨r_10, t_4, rfl, N10, K, sz_r_10, sz_t_4, E_r_10, (by rw [← hzN]; exact F_size_r_10), F_bounds_r_10, (by rw [← hzN]; exact V_t_4)⟩
        · --
          refine Go.st (fun t k => XS.icmpYes X8.here hx rfl (pc0 := 47) (pc' := 55) rfl (hb hby d6_47) rfl (XT.ii_ne_t hc47) (by decide) (by decide) k) ?_
          show Go p.tables e below PP (T8.setTop (mkF m 55 #[.val (.ref a1), .val (.ref b3), .val (.int (wi + (1 : Int32))), .val (.long word), .second, s5, s6, s7, s8, s9, s10] []))
          refine Go.st (fun t k => XS.aloadN X8.here hx rfl (hb hby d6_55) rfl rfl k) ?_
          show Go p.tables e below PP (T8.setTop (mkF m 56 #[.val (.ref a1), .val (.ref b3), .val (.int (wi + (1 : Int32))), .val (.long word), .second, s5, s6, s7, s8, s9, s10] [(.ref a1)]))
          obtain ⟨T11, X11, e11, st11⟩ := getF X8 hx hZ hown (host := "") (Or.inl (hw _ (List.mem_of_getElem? (i := 23) rfl))) Via.refl e8 F_words_a1 (g := (mkF m 56 #[.val (.ref a1), .val (.ref b3), .val (.int (wi + (1 : Int32))), .val (.long word), .second, s5, s6, s7, s8, s9, s10] [(.ref a1)])) rfl rfl (hb hby d6_56)
          refine Go.st st11 ?_
          show Go p.tables e below PP (T11.setTop (mkF m 59 #[.val (.ref a1), .val (.ref b3), .val (.int (wi + (1 : Int32))), .val (.long word), .second, s5, s6, s7, s8, s9, s10] [(.ref tw)]))
          refine Go.st (fun t k => XS.iloadN X11.here hx rfl (hb hby d6_59) rfl k) ?_
          show Go p.tables e below PP (T11.setTop (mkF m 60 #[.val (.ref a1), .val (.ref b3), .val (.int (wi + (1 : Int32))), .val (.long word), .second, s5, s6, s7, s8, s9, s10] [(.int (wi + (1 : Int32))), (.ref tw)]))
          obtain ⟨cl12, Ar12, S12, Nn12, H12⟩ := id V_tw
          have hin12 : ¬ ((wi + (1 : Int32)) < 0 ∨ cl12.slots.size ≤ ((wi + (1 : Int32))).toNatClampNeg) := inb_of S12 (out_next hR hJ32.1 hc35 hc47).2.1
          refine Go.st (fun t k => X11.laload hx (j := (wi + (1 : Int32))) (v := (.long (fw (wi + (1 : Int32)).toNatClampNeg))) (by rw [e11]; exact Ar12.1) (State.isArrayOf_alike hZ.alike Ar12.2.1) Ar12.2.2 hin12 ((H12 _ (inbN (out_next hR hJ32.1 hc35 hc47).2.1)).1.trans (congrArg some (rfl))) (g := (mkF m 60 #[.val (.ref a1), .val (.ref b3), .val (.int (wi + (1 : Int32))), .val (.long word), .second, s5, s6, s7, s8, s9, s10] [(.int (wi + (1 : Int32))), (.ref tw)])) rfl rfl (hb hby d6_60) _ k) ?_
          show Go p.tables e below PP (T11.setTop (mkF m 61 #[.val (.ref a1), .val (.ref b3), .val (.int (wi + (1 : Int32))), .val (.long word), .second, s5, s6, s7, s8, s9, s10] [(.long (fw (wi + (1 : Int32)).toNatClampNeg))]))
          refine Go.st (fun t k => XS.lstoreN X11.here hx rfl (hb hby d6_61) rfl (l' := #[.val (.ref a1), .val (.ref b3), .val (.int (wi + (1 : Int32))), .val (.long (fw (wi + (1 : Int32)).toNatClampNeg)), .second, s5, s6, s7, s8, s9, s10]) rfl k) ?_
          show Go p.tables e below PP (T11.setTop (mkF m 62 #[.val (.ref a1), .val (.ref b3), .val (.int (wi + (1 : Int32))), .val (.long (fw (wi + (1 : Int32)).toNatClampNeg)), .second, s5, s6, s7, s8, s9, s10] []))
          refine Go.st (fun t k => XS.goto X11.here hx rfl (pc0 := 62) (pc' := 32) rfl (hb hby d6_62) (by decide) (by decide) k) ?_
          show Go p.tables e below PP (T11.setTop (mkF m 32 #[.val (.ref a1), .val (.ref b3), .val (.int (wi + (1 : Int32))), .val (.long (fw (wi + (1 : Int32)).toNatClampNeg)), .second, s5, s6, s7, s8, s9, s10] []))
          exact ih7 _ (by first | (have q := (in_stop hR hJ96 hc100 hrun.2.2 hJ32.1.2.2.2.2.2.2.2.2).2.2; omega) | (have q := (out_next hR hJ32.1 hc35 hc47).2.2; omega)) _ _ _ _ _ _ _ _ _ _ _ _ _ X11 e11 N7 (F_words_a1) (F_size_a1) (V_tw) (E_b3) (F_size_b3) (F_bounds_b3) (V_t_4) K Zn (⟨(out_next hR hJ32.1 hc35 hc47).1, hJ32.2⟩) rfl
      · --
        refine Go.st (fun t k => XS.ifYes X7.here hx rfl (pc0 := 35) (pc' := 65) rfl (hb hby d6_35) rfl (XT.ll_ne_t hc35) (by decide) (by decide) k) ?_
        show Go p.tables e below PP (T7.setTop (mkF m 65 #[.val (.ref a1), .val (.ref b3), .val (.int wi), .val (.long word), .second, s5, s6, s7, s8, s9, s10] []))
        refine Go.st (fun t k => XS.lloadN X7.here hx rfl (hb hby d6_65) rfl k) ?_
        show Go p.tables e below PP (T7.setTop (mkF m 66 #[.val (.ref a1), .val (.ref b3), .val (.int wi), .val (.long word), .second, s5, s6, s7, s8, s9, s10] [(.long word)]))
        obtain ⟨v13, T13, L13, X13, hQ13, st13⟩ := callSt X7 hx hZ (y := (⟨"java/lang/Long", "numberOfTrailingZeros", "(J)I"⟩ : MethodName)) (argsL := [(.long word)]) (rest := []) hown (hw _ (List.mem_of_getElem? (i := 48) rfl)) (hw _ (List.mem_of_getElem? (i := 49) rfl)) (hw _ (List.mem_of_getElem? (i := 50) rfl)) (hw _ (List.mem_of_getElem? (i := 51) rfl)) (by decide) (rm9 l Z a0 hw [] word h7 n0 Zn) e7 0 (by decide) (by decide) (by decide) (by decide) (g := (mkF m 66 #[.val (.ref a1), .val (.ref b3), .val (.int wi), .val (.long word), .second, s5, s6, s7, s8, s9, s10] [(.long word)])) rfl (by rw [hml]; rfl) (lenOf pd_5 rfl) rfl (by show 2 * 0 + _ ≤ _; exact Nat.le_of_eq rfl) (hb hby d6_66)
        obtain ⟨rfl, rfl, e13⟩ := hQ13
        rw [List.append_nil] at X13
        refine Go.st st13 ?_
        show Go p.tables e below PP (T13.setTop (mkF m 69 #[.val (.ref a1), .val (.ref b3), .val (.int wi), .val (.long word), .second, s5, s6, s7, s8, s9, s10] [(.int (ntzJ word))]))
        refine Go.st (fun t k => XS.istore X13.here hx rfl (hb hby d6_69) rfl (l' := #[.val (.ref a1), .val (.ref b3), .val (.int wi), .val (.long word), .second, .val (.int (ntzJ word)), s6, s7, s8, s9, s10]) (by rcases hJ32.2 with ⟨rfl, rfl, rfl, rfl, rfl, rfl⟩ | ⟨z5, z6, z8, z10, rfl, rfl, rfl, rfl, rfl, rfl⟩ <;> rfl) k) ?_
        show Go p.tables e below PP (T13.setTop (mkF m 71 #[.val (.ref a1), .val (.ref b3), .val (.int wi), .val (.long word), .second, .val (.int (ntzJ word)), s6, s7, s8, s9, s10] []))
        refine Go.st (fun t k => XS.iloadN X13.here hx rfl (hb hby d6_71) rfl k) ?_
        show Go p.tables e below PP (T13.setTop (mkF m 72 #[.val (.ref a1), .val (.ref b3), .val (.int wi), .val (.long word), .second, .val (.int (ntzJ word)), s6, s7, s8, s9, s10] [(.int wi)]))
        refine Go.st (fun t k => XS.i2l X13.here hx rfl (hb hby d6_72) rfl k) ?_
        show Go p.tables e below PP (T13.setTop (mkF m 73 #[.val (.ref a1), .val (.ref b3), .val (.int wi), .val (.long word), .second, .val (.int (ntzJ word)), s6, s7, s8, s9, s10] [(.long (wi.toInt64))]))
        refine Go.st (fun t k => XS.bipush X13.here hx rfl (hb hby d6_73) k) ?_
        show Go p.tables e below PP (T13.setTop (mkF m 75 #[.val (.ref a1), .val (.ref b3), .val (.int wi), .val (.long word), .second, .val (.int (ntzJ word)), s6, s7, s8, s9, s10] [(.int (6 : Int32)), (.long (wi.toInt64))]))
        refine Go.st (fun t k => XS.lshl X13.here hx rfl (hb hby d6_75) rfl k) ?_
        show Go p.tables e below PP (T13.setTop (mkF m 76 #[.val (.ref a1), .val (.ref b3), .val (.int wi), .val (.long word), .second, .val (.int (ntzJ word)), s6, s7, s8, s9, s10] [(.long ((wi.toInt64) <<< ((6 : Int32) &&& 0x3f).toInt64))]))
        refine Go.st (fun t k => XS.iload X13.here hx rfl (hb hby d6_76) rfl k) ?_
        show Go p.tables e below PP (T13.setTop (mkF m 78 #[.val (.ref a1), .val (.ref b3), .val (.int wi), .val (.long word), .second, .val (.int (ntzJ word)), s6, s7, s8, s9, s10] [(.int (ntzJ word)), (.long ((wi.toInt64) <<< ((6 : Int32) &&& 0x3f).toInt64))]))
        refine Go.st (fun t k => XS.i2l X13.here hx rfl (hb hby d6_78) rfl k) ?_
        show Go p.tables e below PP (T13.setTop (mkF m 79 #[.val (.ref a1), .val (.ref b3), .val (.int wi), .val (.long word), .second, .val (.int (ntzJ word)), s6, s7, s8, s9, s10] [(.long ((ntzJ word).toInt64)), (.long ((wi.toInt64) <<< ((6 : Int32) &&& 0x3f).toInt64))]))
        refine Go.st (fun t k => XS.ladd X13.here hx rfl (hb hby d6_79) rfl k) ?_
        have hrun := out_run hR hJ32.1 hc35
        rw [hrun.1]
        show Go p.tables e below PP (T13.setTop (mkF m 80 #[.val (.ref a1), .val (.ref b3), .val (.int wi), .val (.long word), .second, .val (.int (ntzJ word)), s6, s7, s8, s9, s10] [(.long (sI sz.toNatClampNeg))]))
        refine Go.st (fun t k => XS.lstore X13.here hx rfl (hb hby d6_80) rfl (l' := #[.val (.ref a1), .val (.ref b3), .val (.int wi), .val (.long word), .second, .val (.int (ntzJ word)), .val (.long (sI sz.toNatClampNeg)), .second, s8, s9, s10]) (by rcases hJ32.2 with ⟨rfl, rfl, rfl, rfl, rfl, rfl⟩ | ⟨z5, z6, z8, z10, rfl, rfl, rfl, rfl, rfl, rfl⟩ <;> rfl) k) ?_
        show Go p.tables e below PP (T13.setTop (mkF m 82 #[.val (.ref a1), .val (.ref b3), .val (.int wi), .val (.long word), .second, .val (.int (ntzJ word)), .val (.long (sI sz.toNatClampNeg)), .second, s8, s9, s10] []))
        refine Go.st (fun t k => XS.lloadN X13.here hx rfl (hb hby d6_82) rfl k) ?_
        show Go p.tables e below PP (T13.setTop (mkF m 83 #[.val (.ref a1), .val (.ref b3), .val (.int wi), .val (.long word), .second, .val (.int (ntzJ word)), .val (.long (sI sz.toNatClampNeg)), .second, s8, s9, s10] [(.long word)]))
        refine Go.st (fun t k => X13.ldc2J hx hown (mvT hZ (hw _ (List.mem_of_getElem? (i := 30) rfl))) (g := (mkF m 83 #[.val (.ref a1), .val (.ref b3), .val (.int wi), .val (.long word), .second, .val (.int (ntzJ word)), .val (.long (sI sz.toNatClampNeg)), .second, s8, s9, s10] [(.long word)])) rfl (hb hby d6_83) k) ?_
        show Go p.tables e below PP (T13.setTop (mkF m 86 #[.val (.ref a1), .val (.ref b3), .val (.int wi), .val (.long word), .second, .val (.int (ntzJ word)), .val (.long (sI sz.toNatClampNeg)), .second, s8, s9, s10] [(.long (-1 : Int64)), (.long word)]))
        refine Go.st (fun t k => XS.lxor X13.here hx rfl (hb hby d6_86) rfl k) ?_
        show Go p.tables e below PP (T13.setTop (mkF m 87 #[.val (.ref a1), .val (.ref b3), .val (.int wi), .val (.long word), .second, .val (.int (ntzJ word)), .val (.long (sI sz.toNatClampNeg)), .second, s8, s9, s10] [(.long (word ^^^ (-1 : Int64)))]))
        refine Go.st (fun t k => X13.ldc2J hx hown (mvT hZ (hw _ (List.mem_of_getElem? (i := 30) rfl))) (g := (mkF m 87 #[.val (.ref a1), .val (.ref b3), .val (.int wi), .val (.long word), .second, .val (.int (ntzJ word)), .val (.long (sI sz.toNatClampNeg)), .second, s8, s9, s10] [(.long (word ^^^ (-1 : Int64)))])) rfl (hb hby d6_87) k) ?_
        show Go p.tables e below PP (T13.setTop (mkF m 90 #[.val (.ref a1), .val (.ref b3), .val (.int wi), .val (.long word), .second, .val (.int (ntzJ word)), .val (.long (sI sz.toNatClampNeg)), .second, s8, s9, s10] [(.long (-1 : Int64)), (.long (word ^^^ (-1 : Int64)))]))
        refine Go.st (fun t k => XS.iload X13.here hx rfl (hb hby d6_90) rfl k) ?_
        show Go p.tables e below PP (T13.setTop (mkF m 92 #[.val (.ref a1), .val (.ref b3), .val (.int wi), .val (.long word), .second, .val (.int (ntzJ word)), .val (.long (sI sz.toNatClampNeg)), .second, s8, s9, s10] [(.int (ntzJ word)), (.long (-1 : Int64)), (.long (word ^^^ (-1 : Int64)))]))
        refine Go.st (fun t k => XS.lshl X13.here hx rfl (hb hby d6_92) rfl k) ?_
        show Go p.tables e below PP (T13.setTop (mkF m 93 #[.val (.ref a1), .val (.ref b3), .val (.int wi), .val (.long word), .second, .val (.int (ntzJ word)), .val (.long (sI sz.toNatClampNeg)), .second, s8, s9, s10] [(.long ((-1 : Int64) <<< ((ntzJ word) &&& 0x3f).toInt64)), (.long (word ^^^ (-1 : Int64)))]))
        refine Go.st (fun t k => XS.land X13.here hx rfl (hb hby d6_93) rfl k) ?_
        show Go p.tables e below PP (T13.setTop (mkF m 94 #[.val (.ref a1), .val (.ref b3), .val (.int wi), .val (.long word), .second, .val (.int (ntzJ word)), .val (.long (sI sz.toNatClampNeg)), .second, s8, s9, s10] [(.long ((word ^^^ (-1 : Int64)) &&& ((-1 : Int64) <<< ((ntzJ word) &&& 0x3f).toInt64)))]))
        refine Go.st (fun t k => XS.lstore X13.here hx rfl (hb hby d6_94) rfl (l' := #[.val (.ref a1), .val (.ref b3), .val (.int wi), .val (.long word), .second, .val (.int (ntzJ word)), .val (.long (sI sz.toNatClampNeg)), .second, .val (.long ((word ^^^ (-1 : Int64)) &&& ((-1 : Int64) <<< ((ntzJ word) &&& 0x3f).toInt64))), .second, s10]) (by rcases hJ32.2 with ⟨rfl, rfl, rfl, rfl, rfl, rfl⟩ | ⟨z5, z6, z8, z10, rfl, rfl, rfl, rfl, rfl, rfl⟩ <;> rfl) k) ?_
        have J96 : ∀ (d14 : Nat) (T14 : State) (L14 : List Loc) (wj : Int32) (gap : Int64), Stand p l e ({ frames := 3, cells := 3, slots := 2052, locals := 39 } : Room) s m #[(.ref a1)] below meth c T14 L14 2 2050 → T14.heap = h7 → Fr n0 L14 → InI fw nw NI sI eI wj gap sz → nw.toNatClampNeg - wj.toNatClampNeg = d14 → Go p.tables e below PP (T14.setTop (mkF m 96 #[.val (.ref a1), .val (.ref b3), .val (.int wj), .val (.long word), .second, .val (.int (ntzJ word)), .val (.long (sI sz.toNatClampNeg)), .second, .val (.long gap), .second, s10] [])) := by
          intro d14
          induction d14 using Nat.strongRecOn with
          | _ d14 ih14 =>
            intro T14 L14 wj gap X14 e14 N14 hJ96 hd14
            show Go p.tables e below PP (T14.setTop (mkF m 96 #[.val (.ref a1), .val (.ref b3), .val (.int wj), .val (.long word), .second, .val (.int (ntzJ word)), .val (.long (sI sz.toNatClampNeg)), .second, .val (.long gap), .second, s10] []))
            refine Go.st (fun t k => XS.lload X14.here hx rfl (hb hby d6_96) rfl k) ?_
            show Go p.tables e below PP (T14.setTop (mkF m 98 #[.val (.ref a1), .val (.ref b3), .val (.int wj), .val (.long word), .second, .val (.int (ntzJ word)), .val (.long (sI sz.toNatClampNeg)), .second, .val (.long gap), .second, s10] [(.long gap)]))
            refine Go.st (fun t k => XS.lconst X14.here hx rfl (hb hby d6_98) k) ?_
            show Go p.tables e below PP (T14.setTop (mkF m 99 #[.val (.ref a1), .val (.ref b3), .val (.int wj), .val (.long word), .second, .val (.int (ntzJ word)), .val (.long (sI sz.toNatClampNeg)), .second, .val (.long gap), .second, s10] [(.long (0 : Int64)), (.long gap)]))
            refine Go.st (fun t k => XS.lcmp X14.here hx rfl (hb hby d6_99) rfl k) ?_
            show Go p.tables e below PP (T14.setTop (mkF m 100 #[.val (.ref a1), .val (.ref b3), .val (.int wj), .val (.long word), .second, .val (.int (ntzJ word)), .val (.long (sI sz.toNatClampNeg)), .second, .val (.long gap), .second, s10] [(.int (XT.cmpL gap (0 : Int64)))]))
            by_cases hc100 : gap = (0 : Int64)
            · --
              refine Go.st (fun t k => XS.ifNo X14.here hx rfl (hb hby d6_100) rfl (XT.ll_ne_f hc100) k) ?_
              show Go p.tables e below PP (T14.setTop (mkF m 103 #[.val (.ref a1), .val (.ref b3), .val (.int wj), .val (.long word), .second, .val (.int (ntzJ word)), .val (.long (sI sz.toNatClampNeg)), .second, .val (.long gap), .second, s10] []))
              refine Go.st (fun t k => XS.iinc X14.here hx rfl (hb hby d6_103) rfl (l' := #[.val (.ref a1), .val (.ref b3), .val (.int (wj + (1 : Int32))), .val (.long word), .second, .val (.int (ntzJ word)), .val (.long (sI sz.toNatClampNeg)), .second, .val (.long gap), .second, s10]) rfl k) ?_
              show Go p.tables e below PP (T14.setTop (mkF m 106 #[.val (.ref a1), .val (.ref b3), .val (.int (wj + (1 : Int32))), .val (.long word), .second, .val (.int (ntzJ word)), .val (.long (sI sz.toNatClampNeg)), .second, .val (.long gap), .second, s10] []))
              refine Go.st (fun t k => XS.iloadN X14.here hx rfl (hb hby d6_106) rfl k) ?_
              show Go p.tables e below PP (T14.setTop (mkF m 107 #[.val (.ref a1), .val (.ref b3), .val (.int (wj + (1 : Int32))), .val (.long word), .second, .val (.int (ntzJ word)), .val (.long (sI sz.toNatClampNeg)), .second, .val (.long gap), .second, s10] [(.int (wj + (1 : Int32)))]))
              refine Go.st (fun t k => XS.aloadN X14.here hx rfl (hb hby d6_107) rfl rfl k) ?_
              show Go p.tables e below PP (T14.setTop (mkF m 108 #[.val (.ref a1), .val (.ref b3), .val (.int (wj + (1 : Int32))), .val (.long word), .second, .val (.int (ntzJ word)), .val (.long (sI sz.toNatClampNeg)), .second, .val (.long gap), .second, s10] [(.ref a1), (.int (wj + (1 : Int32)))]))
              obtain ⟨T15, X15, e15, st15⟩ := getF X14 hx hZ hown (host := "") (Or.inl (hw _ (List.mem_of_getElem? (i := 23) rfl))) Via.refl e14 F_words_a1 (g := (mkF m 108 #[.val (.ref a1), .val (.ref b3), .val (.int (wj + (1 : Int32))), .val (.long word), .second, .val (.int (ntzJ word)), .val (.long (sI sz.toNatClampNeg)), .second, .val (.long gap), .second, s10] [(.ref a1), (.int (wj + (1 : Int32)))])) rfl rfl (hb hby d6_108)
              refine Go.st st15 ?_
              show Go p.tables e below PP (T15.setTop (mkF m 111 #[.val (.ref a1), .val (.ref b3), .val (.int (wj + (1 : Int32))), .val (.long word), .second, .val (.int (ntzJ word)), .val (.long (sI sz.toNatClampNeg)), .second, .val (.long gap), .second, s10] [(.ref tw), (.int (wj + (1 : Int32)))]))
              obtain ⟨cl16, Ar16, S16, Nn16, -⟩ := id V_tw
              refine Go.st (fun t k => X15.arraylength hx (by rw [e15]; exact Ar16.1) (State.isArrayOf_alike hZ.alike Ar16.2.1) (g := (mkF m 111 #[.val (.ref a1), .val (.ref b3), .val (.int (wj + (1 : Int32))), .val (.long word), .second, .val (.int (ntzJ word)), .val (.long (sI sz.toNatClampNeg)), .second, .val (.long gap), .second, s10] [(.ref tw), (.int (wj + (1 : Int32)))])) rfl rfl (hb hby d6_111) _ k) ?_
              rw [len_of S16 Nn16]
              show Go p.tables e below PP (T15.setTop (mkF m 112 #[.val (.ref a1), .val (.ref b3), .val (.int (wj + (1 : Int32))), .val (.long word), .second, .val (.int (ntzJ word)), .val (.long (sI sz.toNatClampNeg)), .second, .val (.long gap), .second, s10] [(.int nw), (.int (wj + (1 : Int32)))]))
              by_cases hc112 : (wj + (1 : Int32)) = nw
              · --
                refine Go.st (fun t k => XS.icmpNo X15.here hx rfl (hb hby d6_112) rfl (XT.ii_ne_f hc112) k) ?_
                show Go p.tables e below PP (T15.setTop (mkF m 115 #[.val (.ref a1), .val (.ref b3), .val (.int (wj + (1 : Int32))), .val (.long word), .second, .val (.int (ntzJ word)), .val (.long (sI sz.toNatClampNeg)), .second, .val (.long gap), .second, s10] []))
                refine Go.st (fun t k => XS.aloadN X15.here hx rfl (hb hby d6_115) rfl rfl k) ?_
                show Go p.tables e below PP (T15.setTop (mkF m 116 #[.val (.ref a1), .val (.ref b3), .val (.int (wj + (1 : Int32))), .val (.long word), .second, .val (.int (ntzJ word)), .val (.long (sI sz.toNatClampNeg)), .second, .val (.long gap), .second, s10] [(.ref b3)]))
                refine Go.st (fun t k => XS.lload X15.here hx rfl (hb hby d6_116) rfl k) ?_
                show Go p.tables e below PP (T15.setTop (mkF m 118 #[.val (.ref a1), .val (.ref b3), .val (.int (wj + (1 : Int32))), .val (.long word), .second, .val (.int (ntzJ word)), .val (.long (sI sz.toNatClampNeg)), .second, .val (.long gap), .second, s10] [(.long (sI sz.toNatClampNeg)), (.ref b3)]))
                refine Go.st (fun t k => XS.aloadN X15.here hx rfl (hb hby d6_118) rfl rfl k) ?_
                show Go p.tables e below PP (T15.setTop (mkF m 119 #[.val (.ref a1), .val (.ref b3), .val (.int (wj + (1 : Int32))), .val (.long word), .second, .val (.int (ntzJ word)), .val (.long (sI sz.toNatClampNeg)), .second, .val (.long gap), .second, s10] [(.ref a1), (.long (sI sz.toNatClampNeg)), (.ref b3)]))
                obtain ⟨T17, X17, e17, st17⟩ := getF X15 hx hZ hown (host := "") (Or.inl (hw _ (List.mem_of_getElem? (i := 20) rfl))) Via.refl e15 F_size_a1 (g := (mkF m 119 #[.val (.ref a1), .val (.ref b3), .val (.int (wj + (1 : Int32))), .val (.long word), .second, .val (.int (ntzJ word)), .val (.long (sI sz.toNatClampNeg)), .second, .val (.long gap), .second, s10] [(.ref a1), (.long (sI sz.toNatClampNeg)), (.ref b3)])) rfl rfl (hb hby d6_119)
                refine Go.st st17 ?_
                show Go p.tables e below PP (T17.setTop (mkF m 122 #[.val (.ref a1), .val (.ref b3), .val (.int (wj + (1 : Int32))), .val (.long word), .second, .val (.int (ntzJ word)), .val (.long (sI sz.toNatClampNeg)), .second, .val (.long gap), .second, s10] [(.long nn), (.long (sI sz.toNatClampNeg)), (.ref b3)]))
                refine Go.st (fun t k => XS.lconst X17.here hx rfl (hb hby d6_122) k) ?_
                show Go p.tables e below PP (T17.setTop (mkF m 123 #[.val (.ref a1), .val (.ref b3), .val (.int (wj + (1 : Int32))), .val (.long word), .second, .val (.int (ntzJ word)), .val (.long (sI sz.toNatClampNeg)), .second, .val (.long gap), .second, s10] [(.long (1 : Int64)), (.long nn), (.long (sI sz.toNatClampNeg)), (.ref b3)]))
                refine Go.st (fun t k => XS.lsub X17.here hx rfl (hb hby d6_123) rfl k) ?_
                have hlast := in_last hR hJ96 hc100 hc112
                rw [hlast.1]
                show Go p.tables e below PP (T17.setTop (mkF m 124 #[.val (.ref a1), .val (.ref b3), .val (.int (wj + (1 : Int32))), .val (.long word), .second, .val (.int (ntzJ word)), .val (.long (sI sz.toNatClampNeg)), .second, .val (.long gap), .second, s10] [(.long (eI sz.toNatClampNeg)), (.long (sI sz.toNatClampNeg)), (.ref b3)]))
                obtain ⟨v18, T18, L18, X18, hQ18, st18⟩ := callVi X17 hx hZ (C := "com/example/warpfinder/warpfinder/index/Intervals$Builder") (y := (⟨"com/example/warpfinder/warpfinder/index/Intervals$Builder", "add", "(JJ)V"⟩ : MethodName)) (z := (⟨"com/example/warpfinder/warpfinder/index/Intervals$Builder", "add", "(JJ)V"⟩ : MethodName)) (a := b3) (argsL := [(.long (sI sz.toNatClampNeg)), (.long (eI sz.toNatClampNeg))]) (rest := []) hown (hw _ (List.mem_of_getElem? (i := 57) rfl)) (hw _ (List.mem_of_getElem? (i := 58) rfl)) (notFace_of_selects (args := #[]) (mvT hZ (hw _ (List.mem_of_getElem? (i := 60) rfl)))) (hw _ (List.mem_of_getElem? (i := 60) rfl)) (hw _ (List.mem_of_getElem? (i := 59) rfl)) (hw _ (List.mem_of_getElem? (i := 38) rfl)) (hw _ (List.mem_of_getElem? (i := 61) rfl)) (by decide) rfl E_b3 (rm11 l Z a0 hw [] b3 (sI sz.toNatClampNeg) (eI sz.toNatClampNeg) t_4 sz sI eI h7 n0 Zn F_size_b3 F_bounds_b3 V_t_4 E_b3 g_b3 g_t_4 ne_b3_t_4 rfl rfl (own_hS hR hJ96)) e17 0 (by decide) (by decide) (by decide) (by decide) (g := (mkF m 124 #[.val (.ref a1), .val (.ref b3), .val (.int (wj + (1 : Int32))), .val (.long word), .second, .val (.int (ntzJ word)), .val (.long (sI sz.toNatClampNeg)), .second, .val (.long gap), .second, s10] [(.long (eI sz.toNatClampNeg)), (.long (sI sz.toNatClampNeg)), (.ref b3)])) rfl (by rw [hml]; rfl) (lenOf pd_6 rfl) rfl (by show 2 * 0 + _ ≤ _; exact Nat.le_of_eq rfl) (hb hby d6_124)
                obtain ⟨h18, e18⟩ : ∃ z, T18.heap = z := ⟨_, rfl⟩
                rw [e18] at hQ18
                obtain ⟨rfl, Nq18, Kq18, Fq18_0, Fq18_1, Fq18_2⟩ := hQ18
                have N18 := Fr.app N14 Nq18
                replace F_words_a1 := F_words_a1.keep Kq18 (ninS ne_a1_b3 (ninS ne_a1_t_4 nin0))
                replace F_size_a1 := F_size_a1.keep Kq18 (ninS ne_a1_b3 (ninS ne_a1_t_4 nin0))
                replace V_tw := V_tw.keep Kq18 (ninS ne_tw_b3 (ninS ne_tw_t_4 nin0))
                replace E_b3 := E_b3.keep Kq18
                clear F_size_b3
                clear F_bounds_b3
                clear V_t_4
                replace K := K.trans Kq18 (allS (Or.inr sz_b3) (allS (Or.inr sz_t_4) all0))
                replace Zn := Nat.le_trans Zn Kq18.1
                have F_size_b3 := Fq18_0
                have F_bounds_b3 := Fq18_1
                have V_t_4 := Fq18_2
                refine Go.st st18 ?_
                have hzN := hlast.2
                have hz0 : ¬ (sz + (1 : Int32)) = (0 : Int32) := by rw [hzN]; exact own_n0 hR
                show Go p.tables e below PP (T18.setTop (mkF m 127 #[.val (.ref a1), .val (.ref b3), .val (.int (wj + (1 : Int32))), .val (.long word), .second, .val (.int (ntzJ word)), .val (.long (sI sz.toNatClampNeg)), .second, .val (.long gap), .second, s10] []))
                refine Go.st (fun t k => XS.aloadN X18.here hx rfl (hb hby d6_127) rfl rfl k) ?_
                show Go p.tables e below PP (T18.setTop (mkF m 128 #[.val (.ref a1), .val (.ref b3), .val (.int (wj + (1 : Int32))), .val (.long word), .second, .val (.int (ntzJ word)), .val (.long (sI sz.toNatClampNeg)), .second, .val (.long gap), .second, s10] [(.ref b3)]))
                obtain ⟨v19, T19, L19, X19, hQ19, st19⟩ := callVi X18 hx hZ (C := "com/example/warpfinder/warpfinder/index/Intervals$Builder") (y := (⟨"com/example/warpfinder/warpfinder/index/Intervals$Builder", "build", "()Lcom/example/warpfinder/warpfinder/index/Intervals;"⟩ : MethodName)) (z := (⟨"com/example/warpfinder/warpfinder/index/Intervals$Builder", "build", "()Lcom/example/warpfinder/warpfinder/index/Intervals;"⟩ : MethodName)) (a := b3) (argsL := []) (rest := []) hown (hw _ (List.mem_of_getElem? (i := 64) rfl)) (hw _ (List.mem_of_getElem? (i := 65) rfl)) (notFace_of_selects (args := #[]) (mvT hZ (hw _ (List.mem_of_getElem? (i := 67) rfl)))) (hw _ (List.mem_of_getElem? (i := 67) rfl)) (hw _ (List.mem_of_getElem? (i := 66) rfl)) (hw _ (List.mem_of_getElem? (i := 38) rfl)) (hw _ (List.mem_of_getElem? (i := 68) rfl)) (by decide) rfl E_b3 (rm12 l Z a0 hw [] b3 t_4 (sz + (1 : Int32)) h18 n0 Zn F_size_b3 F_bounds_b3 hz0) e18 0 (by decide) (by decide) (by decide) (by decide) (g := (mkF m 128 #[.val (.ref a1), .val (.ref b3), .val (.int (wj + (1 : Int32))), .val (.long word), .second, .val (.int (ntzJ word)), .val (.long (sI sz.toNatClampNeg)), .second, .val (.long gap), .second, s10] [(.ref b3)])) rfl (by rw [hml]; rfl) (lenOf pd_4 rfl) rfl (by show 2 * 0 + _ ≤ _; exact Nat.le_of_eq rfl) (hb hby d6_128)
                obtain ⟨h19, e19⟩ : ∃ z, T19.heap = z := ⟨_, rfl⟩
                rw [e19] at hQ19
                obtain ⟨r_19, rfl, Nq19, Kq19, sq19_r, Fq19_0, Fq19_1, Fq19_2⟩ := hQ19
                have N19 := Fr.app N18 Nq19
                have ne_a1_r_19 : a1 ≠ r_19 := Nat.ne_of_lt (Nat.lt_of_lt_of_le F_words_a1.lt sq19_r)
                have ne_tw_r_19 : tw ≠ r_19 := Nat.ne_of_lt (Nat.lt_of_lt_of_le V_tw.lt sq19_r)
                have ne_b3_r_19 : b3 ≠ r_19 := Nat.ne_of_lt (Nat.lt_of_lt_of_le E_b3.lt sq19_r)
                have ne_t_4_r_19 : t_4 ≠ r_19 := Nat.ne_of_lt (Nat.lt_of_lt_of_le V_t_4.lt sq19_r)
                have g_r_19 : n0 ≤ r_19 := Nat.le_trans Zn sq19_r
                have sz_r_19 : h0.size ≤ r_19 := Nat.le_trans K.1 sq19_r
                replace F_words_a1 := F_words_a1.keep Kq19 nin0
                replace F_size_a1 := F_size_a1.keep Kq19 nin0
                replace V_tw := V_tw.keep Kq19 nin0
                replace E_b3 := E_b3.keep Kq19
                replace F_size_b3 := F_size_b3.keep Kq19 nin0
                replace F_bounds_b3 := F_bounds_b3.keep Kq19 nin0
                replace V_t_4 := V_t_4.keep Kq19 nin0
                replace K := K.trans Kq19 all0
                replace Zn := Nat.le_trans Zn Kq19.1
                have E_r_19 := Fq19_0
                have F_size_r_19 := Fq19_1
                have F_bounds_r_19 := Fq19_2
                refine Go.st st19 ?_
                show Go p.tables e below PP (T19.setTop (mkF m 131 #[.val (.ref a1), .val (.ref b3), .val (.int (wj + (1 : Int32))), .val (.long word), .second, .val (.int (ntzJ word)), .val (.long (sI sz.toNatClampNeg)), .second, .val (.long gap), .second, s10] [(.ref r_19)]))
                rw [hPP]
                refine endR X19 hx hlk hret rfl rfl (hb hby d6_131) ?_ (by decide) (by decide)
                show Q6 Z a1 tw nw nn fw NI sI eI h0 n0 (some (.ref r_19)) T19.heap _
                rw [e19]
                exact ⟨r_19, t_4, rfl, N19, K, sz_r_19, sz_t_4, E_r_19, (by rw [← hzN]; exact F_size_r_19), F_bounds_r_19, (by rw [← hzN]; exact V_t_4)⟩
              · --
                refine Go.st (fun t k => XS.icmpYes X15.here hx rfl (pc0 := 112) (pc' := 132) rfl (hb hby d6_112) rfl (XT.ii_ne_t hc112) (by decide) (by decide) k) ?_
                show Go p.tables e below PP (T15.setTop (mkF m 132 #[.val (.ref a1), .val (.ref b3), .val (.int (wj + (1 : Int32))), .val (.long word), .second, .val (.int (ntzJ word)), .val (.long (sI sz.toNatClampNeg)), .second, .val (.long gap), .second, s10] []))
                refine Go.st (fun t k => XS.aloadN X15.here hx rfl (hb hby d6_132) rfl rfl k) ?_
                show Go p.tables e below PP (T15.setTop (mkF m 133 #[.val (.ref a1), .val (.ref b3), .val (.int (wj + (1 : Int32))), .val (.long word), .second, .val (.int (ntzJ word)), .val (.long (sI sz.toNatClampNeg)), .second, .val (.long gap), .second, s10] [(.ref a1)]))
                obtain ⟨T20, X20, e20, st20⟩ := getF X15 hx hZ hown (host := "") (Or.inl (hw _ (List.mem_of_getElem? (i := 23) rfl))) Via.refl e15 F_words_a1 (g := (mkF m 133 #[.val (.ref a1), .val (.ref b3), .val (.int (wj + (1 : Int32))), .val (.long word), .second, .val (.int (ntzJ word)), .val (.long (sI sz.toNatClampNeg)), .second, .val (.long gap), .second, s10] [(.ref a1)])) rfl rfl (hb hby d6_133)
                refine Go.st st20 ?_
                show Go p.tables e below PP (T20.setTop (mkF m 136 #[.val (.ref a1), .val (.ref b3), .val (.int (wj + (1 : Int32))), .val (.long word), .second, .val (.int (ntzJ word)), .val (.long (sI sz.toNatClampNeg)), .second, .val (.long gap), .second, s10] [(.ref tw)]))
                refine Go.st (fun t k => XS.iloadN X20.here hx rfl (hb hby d6_136) rfl k) ?_
                show Go p.tables e below PP (T20.setTop (mkF m 137 #[.val (.ref a1), .val (.ref b3), .val (.int (wj + (1 : Int32))), .val (.long word), .second, .val (.int (ntzJ word)), .val (.long (sI sz.toNatClampNeg)), .second, .val (.long gap), .second, s10] [(.int (wj + (1 : Int32))), (.ref tw)]))
                obtain ⟨cl21, Ar21, S21, Nn21, H21⟩ := id V_tw
                have hin21 : ¬ ((wj + (1 : Int32)) < 0 ∨ cl21.slots.size ≤ ((wj + (1 : Int32))).toNatClampNeg) := inb_of S21 (in_next hR hJ96 hc100 hc112).2.1
                refine Go.st (fun t k => X20.laload hx (j := (wj + (1 : Int32))) (v := (.long (fw (wj + (1 : Int32)).toNatClampNeg))) (by rw [e20]; exact Ar21.1) (State.isArrayOf_alike hZ.alike Ar21.2.1) Ar21.2.2 hin21 ((H21 _ (inbN (in_next hR hJ96 hc100 hc112).2.1)).1.trans (congrArg some (rfl))) (g := (mkF m 137 #[.val (.ref a1), .val (.ref b3), .val (.int (wj + (1 : Int32))), .val (.long word), .second, .val (.int (ntzJ word)), .val (.long (sI sz.toNatClampNeg)), .second, .val (.long gap), .second, s10] [(.int (wj + (1 : Int32))), (.ref tw)])) rfl rfl (hb hby d6_137) _ k) ?_
                show Go p.tables e below PP (T20.setTop (mkF m 138 #[.val (.ref a1), .val (.ref b3), .val (.int (wj + (1 : Int32))), .val (.long word), .second, .val (.int (ntzJ word)), .val (.long (sI sz.toNatClampNeg)), .second, .val (.long gap), .second, s10] [(.long (fw (wj + (1 : Int32)).toNatClampNeg))]))
                refine Go.st (fun t k => X20.ldc2J hx hown (mvT hZ (hw _ (List.mem_of_getElem? (i := 30) rfl))) (g := (mkF m 138 #[.val (.ref a1), .val (.ref b3), .val (.int (wj + (1 : Int32))), .val (.long word), .second, .val (.int (ntzJ word)), .val (.long (sI sz.toNatClampNeg)), .second, .val (.long gap), .second, s10] [(.long (fw (wj + (1 : Int32)).toNatClampNeg))])) rfl (hb hby d6_138) k) ?_
                show Go p.tables e below PP (T20.setTop (mkF m 141 #[.val (.ref a1), .val (.ref b3), .val (.int (wj + (1 : Int32))), .val (.long word), .second, .val (.int (ntzJ word)), .val (.long (sI sz.toNatClampNeg)), .second, .val (.long gap), .second, s10] [(.long (-1 : Int64)), (.long (fw (wj + (1 : Int32)).toNatClampNeg))]))
                refine Go.st (fun t k => XS.lxor X20.here hx rfl (hb hby d6_141) rfl k) ?_
                show Go p.tables e below PP (T20.setTop (mkF m 142 #[.val (.ref a1), .val (.ref b3), .val (.int (wj + (1 : Int32))), .val (.long word), .second, .val (.int (ntzJ word)), .val (.long (sI sz.toNatClampNeg)), .second, .val (.long gap), .second, s10] [(.long ((fw (wj + (1 : Int32)).toNatClampNeg) ^^^ (-1 : Int64)))]))
                refine Go.st (fun t k => XS.lstore X20.here hx rfl (hb hby d6_142) rfl (l' := #[.val (.ref a1), .val (.ref b3), .val (.int (wj + (1 : Int32))), .val (.long word), .second, .val (.int (ntzJ word)), .val (.long (sI sz.toNatClampNeg)), .second, .val (.long ((fw (wj + (1 : Int32)).toNatClampNeg) ^^^ (-1 : Int64))), .second, s10]) rfl k) ?_
                show Go p.tables e below PP (T20.setTop (mkF m 144 #[.val (.ref a1), .val (.ref b3), .val (.int (wj + (1 : Int32))), .val (.long word), .second, .val (.int (ntzJ word)), .val (.long (sI sz.toNatClampNeg)), .second, .val (.long ((fw (wj + (1 : Int32)).toNatClampNeg) ^^^ (-1 : Int64))), .second, s10] []))
                refine Go.st (fun t k => XS.goto X20.here hx rfl (pc0 := 144) (pc' := 96) rfl (hb hby d6_144) (by decide) (by decide) k) ?_
                show Go p.tables e below PP (T20.setTop (mkF m 96 #[.val (.ref a1), .val (.ref b3), .val (.int (wj + (1 : Int32))), .val (.long word), .second, .val (.int (ntzJ word)), .val (.long (sI sz.toNatClampNeg)), .second, .val (.long ((fw (wj + (1 : Int32)).toNatClampNeg) ^^^ (-1 : Int64))), .second, s10] []))
                exact ih14 _ (by have q := (in_next hR hJ96 hc100 hc112).2.2; omega) _ _ _ _ X20 e20 N14 ((in_next hR hJ96 hc100 hc112).1) rfl
            · --
              refine Go.st (fun t k => XS.ifYes X14.here hx rfl (pc0 := 100) (pc' := 147) rfl (hb hby d6_100) rfl (XT.ll_ne_t hc100) (by decide) (by decide) k) ?_
              show Go p.tables e below PP (T14.setTop (mkF m 147 #[.val (.ref a1), .val (.ref b3), .val (.int wj), .val (.long word), .second, .val (.int (ntzJ word)), .val (.long (sI sz.toNatClampNeg)), .second, .val (.long gap), .second, s10] []))
              refine Go.st (fun t k => XS.lload X14.here hx rfl (hb hby d6_147) rfl k) ?_
              show Go p.tables e below PP (T14.setTop (mkF m 149 #[.val (.ref a1), .val (.ref b3), .val (.int wj), .val (.long word), .second, .val (.int (ntzJ word)), .val (.long (sI sz.toNatClampNeg)), .second, .val (.long gap), .second, s10] [(.long gap)]))
              obtain ⟨v22, T22, L22, X22, hQ22, st22⟩ := callSt X14 hx hZ (y := (⟨"java/lang/Long", "numberOfTrailingZeros", "(J)I"⟩ : MethodName)) (argsL := [(.long gap)]) (rest := []) hown (hw _ (List.mem_of_getElem? (i := 48) rfl)) (hw _ (List.mem_of_getElem? (i := 49) rfl)) (hw _ (List.mem_of_getElem? (i := 50) rfl)) (hw _ (List.mem_of_getElem? (i := 51) rfl)) (by decide) (rm9 l Z a0 hw [] gap h7 n0 Zn) e14 0 (by decide) (by decide) (by decide) (by decide) (g := (mkF m 149 #[.val (.ref a1), .val (.ref b3), .val (.int wj), .val (.long word), .second, .val (.int (ntzJ word)), .val (.long (sI sz.toNatClampNeg)), .second, .val (.long gap), .second, s10] [(.long gap)])) rfl (by rw [hml]; rfl) (lenOf pd_5 rfl) rfl (by show 2 * 0 + _ ≤ _; exact Nat.le_of_eq rfl) (hb hby d6_149)
              obtain ⟨rfl, rfl, e22⟩ := hQ22
              rw [List.append_nil] at X22
              refine Go.st st22 ?_
              show Go p.tables e below PP (T22.setTop (mkF m 152 #[.val (.ref a1), .val (.ref b3), .val (.int wj), .val (.long word), .second, .val (.int (ntzJ word)), .val (.long (sI sz.toNatClampNeg)), .second, .val (.long gap), .second, s10] [(.int (ntzJ gap))]))
              refine Go.st (fun t k => XS.istore X22.here hx rfl (hb hby d6_152) rfl (l' := #[.val (.ref a1), .val (.ref b3), .val (.int wj), .val (.long word), .second, .val (.int (ntzJ word)), .val (.long (sI sz.toNatClampNeg)), .second, .val (.long gap), .second, .val (.int (ntzJ gap))]) (by rcases hJ32.2 with ⟨rfl, rfl, rfl, rfl, rfl, rfl⟩ | ⟨z5, z6, z8, z10, rfl, rfl, rfl, rfl, rfl, rfl⟩ <;> rfl) k) ?_
              show Go p.tables e below PP (T22.setTop (mkF m 154 #[.val (.ref a1), .val (.ref b3), .val (.int wj), .val (.long word), .second, .val (.int (ntzJ word)), .val (.long (sI sz.toNatClampNeg)), .second, .val (.long gap), .second, .val (.int (ntzJ gap))] []))
              refine Go.st (fun t k => XS.aloadN X22.here hx rfl (hb hby d6_154) rfl rfl k) ?_
              show Go p.tables e below PP (T22.setTop (mkF m 155 #[.val (.ref a1), .val (.ref b3), .val (.int wj), .val (.long word), .second, .val (.int (ntzJ word)), .val (.long (sI sz.toNatClampNeg)), .second, .val (.long gap), .second, .val (.int (ntzJ gap))] [(.ref b3)]))
              refine Go.st (fun t k => XS.lload X22.here hx rfl (hb hby d6_155) rfl k) ?_
              show Go p.tables e below PP (T22.setTop (mkF m 157 #[.val (.ref a1), .val (.ref b3), .val (.int wj), .val (.long word), .second, .val (.int (ntzJ word)), .val (.long (sI sz.toNatClampNeg)), .second, .val (.long gap), .second, .val (.int (ntzJ gap))] [(.long (sI sz.toNatClampNeg)), (.ref b3)]))
              refine Go.st (fun t k => XS.iloadN X22.here hx rfl (hb hby d6_157) rfl k) ?_
              show Go p.tables e below PP (T22.setTop (mkF m 158 #[.val (.ref a1), .val (.ref b3), .val (.int wj), .val (.long word), .second, .val (.int (ntzJ word)), .val (.long (sI sz.toNatClampNeg)), .second, .val (.long gap), .second, .val (.int (ntzJ gap))] [(.int wj), (.long (sI sz.toNatClampNeg)), (.ref b3)]))
              refine Go.st (fun t k => XS.i2l X22.here hx rfl (hb hby d6_158) rfl k) ?_
              show Go p.tables e below PP (T22.setTop (mkF m 159 #[.val (.ref a1), .val (.ref b3), .val (.int wj), .val (.long word), .second, .val (.int (ntzJ word)), .val (.long (sI sz.toNatClampNeg)), .second, .val (.long gap), .second, .val (.int (ntzJ gap))] [(.long (wj.toInt64)), (.long (sI sz.toNatClampNeg)), (.ref b3)]))
              refine Go.st (fun t k => XS.bipush X22.here hx rfl (hb hby d6_159) k) ?_
              show Go p.tables e below PP (T22.setTop (mkF m 161 #[.val (.ref a1), .val (.ref b3), .val (.int wj), .val (.long word), .second, .val (.int (ntzJ word)), .val (.long (sI sz.toNatClampNeg)), .second, .val (.long gap), .second, .val (.int (ntzJ gap))] [(.int (6 : Int32)), (.long (wj.toInt64)), (.long (sI sz.toNatClampNeg)), (.ref b3)]))
              refine Go.st (fun t k => XS.lshl X22.here hx rfl (hb hby d6_161) rfl k) ?_
              show Go p.tables e below PP (T22.setTop (mkF m 162 #[.val (.ref a1), .val (.ref b3), .val (.int wj), .val (.long word), .second, .val (.int (ntzJ word)), .val (.long (sI sz.toNatClampNeg)), .second, .val (.long gap), .second, .val (.int (ntzJ gap))] [(.long ((wj.toInt64) <<< ((6 : Int32) &&& 0x3f).toInt64)), (.long (sI sz.toNatClampNeg)), (.ref b3)]))
              refine Go.st (fun t k => XS.iload X22.here hx rfl (hb hby d6_162) rfl k) ?_
              show Go p.tables e below PP (T22.setTop (mkF m 164 #[.val (.ref a1), .val (.ref b3), .val (.int wj), .val (.long word), .second, .val (.int (ntzJ word)), .val (.long (sI sz.toNatClampNeg)), .second, .val (.long gap), .second, .val (.int (ntzJ gap))] [(.int (ntzJ gap)), (.long ((wj.toInt64) <<< ((6 : Int32) &&& 0x3f).toInt64)), (.long (sI sz.toNatClampNeg)), (.ref b3)]))
              refine Go.st (fun t k => XS.i2l X22.here hx rfl (hb hby d6_164) rfl k) ?_
              show Go p.tables e below PP (T22.setTop (mkF m 165 #[.val (.ref a1), .val (.ref b3), .val (.int wj), .val (.long word), .second, .val (.int (ntzJ word)), .val (.long (sI sz.toNatClampNeg)), .second, .val (.long gap), .second, .val (.int (ntzJ gap))] [(.long ((ntzJ gap).toInt64)), (.long ((wj.toInt64) <<< ((6 : Int32) &&& 0x3f).toInt64)), (.long (sI sz.toNatClampNeg)), (.ref b3)]))
              refine Go.st (fun t k => XS.ladd X22.here hx rfl (hb hby d6_165) rfl k) ?_
              show Go p.tables e below PP (T22.setTop (mkF m 166 #[.val (.ref a1), .val (.ref b3), .val (.int wj), .val (.long word), .second, .val (.int (ntzJ word)), .val (.long (sI sz.toNatClampNeg)), .second, .val (.long gap), .second, .val (.int (ntzJ gap))] [(.long (((wj.toInt64) <<< ((6 : Int32) &&& 0x3f).toInt64) + ((ntzJ gap).toInt64))), (.long (sI sz.toNatClampNeg)), (.ref b3)]))
              refine Go.st (fun t k => XS.lconst X22.here hx rfl (hb hby d6_166) k) ?_
              show Go p.tables e below PP (T22.setTop (mkF m 167 #[.val (.ref a1), .val (.ref b3), .val (.int wj), .val (.long word), .second, .val (.int (ntzJ word)), .val (.long (sI sz.toNatClampNeg)), .second, .val (.long gap), .second, .val (.int (ntzJ gap))] [(.long (1 : Int64)), (.long (((wj.toInt64) <<< ((6 : Int32) &&& 0x3f).toInt64) + ((ntzJ gap).toInt64))), (.long (sI sz.toNatClampNeg)), (.ref b3)]))
              refine Go.st (fun t k => XS.lsub X22.here hx rfl (hb hby d6_167) rfl k) ?_
              have hstop := in_stop hR hJ96 hc100 hrun.2.2 hJ32.1.2.2.2.2.2.2.2.2
              rw [hstop.1]
              show Go p.tables e below PP (T22.setTop (mkF m 168 #[.val (.ref a1), .val (.ref b3), .val (.int wj), .val (.long word), .second, .val (.int (ntzJ word)), .val (.long (sI sz.toNatClampNeg)), .second, .val (.long gap), .second, .val (.int (ntzJ gap))] [(.long (eI sz.toNatClampNeg)), (.long (sI sz.toNatClampNeg)), (.ref b3)]))
              obtain ⟨v23, T23, L23, X23, hQ23, st23⟩ := callVi X22 hx hZ (C := "com/example/warpfinder/warpfinder/index/Intervals$Builder") (y := (⟨"com/example/warpfinder/warpfinder/index/Intervals$Builder", "add", "(JJ)V"⟩ : MethodName)) (z := (⟨"com/example/warpfinder/warpfinder/index/Intervals$Builder", "add", "(JJ)V"⟩ : MethodName)) (a := b3) (argsL := [(.long (sI sz.toNatClampNeg)), (.long (eI sz.toNatClampNeg))]) (rest := []) hown (hw _ (List.mem_of_getElem? (i := 57) rfl)) (hw _ (List.mem_of_getElem? (i := 58) rfl)) (notFace_of_selects (args := #[]) (mvT hZ (hw _ (List.mem_of_getElem? (i := 60) rfl)))) (hw _ (List.mem_of_getElem? (i := 60) rfl)) (hw _ (List.mem_of_getElem? (i := 59) rfl)) (hw _ (List.mem_of_getElem? (i := 38) rfl)) (hw _ (List.mem_of_getElem? (i := 61) rfl)) (by decide) rfl E_b3 (rm11 l Z a0 hw [] b3 (sI sz.toNatClampNeg) (eI sz.toNatClampNeg) t_4 sz sI eI h7 n0 Zn F_size_b3 F_bounds_b3 V_t_4 E_b3 g_b3 g_t_4 ne_b3_t_4 rfl rfl (own_hS hR hJ96)) e22 0 (by decide) (by decide) (by decide) (by decide) (g := (mkF m 168 #[.val (.ref a1), .val (.ref b3), .val (.int wj), .val (.long word), .second, .val (.int (ntzJ word)), .val (.long (sI sz.toNatClampNeg)), .second, .val (.long gap), .second, .val (.int (ntzJ gap))] [(.long (eI sz.toNatClampNeg)), (.long (sI sz.toNatClampNeg)), (.ref b3)])) rfl (by rw [hml]; rfl) (lenOf pd_6 rfl) rfl (by show 2 * 0 + _ ≤ _; exact Nat.le_of_eq rfl) (hb hby d6_168)
              obtain ⟨h23, e23⟩ : ∃ z, T23.heap = z := ⟨_, rfl⟩
              rw [e23] at hQ23
              obtain ⟨rfl, Nq23, Kq23, Fq23_0, Fq23_1, Fq23_2⟩ := hQ23
              have N23 := Fr.app N14 Nq23
              replace F_words_a1 := F_words_a1.keep Kq23 (ninS ne_a1_b3 (ninS ne_a1_t_4 nin0))
              replace F_size_a1 := F_size_a1.keep Kq23 (ninS ne_a1_b3 (ninS ne_a1_t_4 nin0))
              replace V_tw := V_tw.keep Kq23 (ninS ne_tw_b3 (ninS ne_tw_t_4 nin0))
              replace E_b3 := E_b3.keep Kq23
              clear F_size_b3
              clear F_bounds_b3
              clear V_t_4
              replace K := K.trans Kq23 (allS (Or.inr sz_b3) (allS (Or.inr sz_t_4) all0))
              replace Zn := Nat.le_trans Zn Kq23.1
              have F_size_b3 := Fq23_0
              have F_bounds_b3 := Fq23_1
              have V_t_4 := Fq23_2
              refine Go.st st23 ?_
              show Go p.tables e below PP (T23.setTop (mkF m 171 #[.val (.ref a1), .val (.ref b3), .val (.int wj), .val (.long word), .second, .val (.int (ntzJ word)), .val (.long (sI sz.toNatClampNeg)), .second, .val (.long gap), .second, .val (.int (ntzJ gap))] []))
              refine Go.st (fun t k => XS.aloadN X23.here hx rfl (hb hby d6_171) rfl rfl k) ?_
              show Go p.tables e below PP (T23.setTop (mkF m 172 #[.val (.ref a1), .val (.ref b3), .val (.int wj), .val (.long word), .second, .val (.int (ntzJ word)), .val (.long (sI sz.toNatClampNeg)), .second, .val (.long gap), .second, .val (.int (ntzJ gap))] [(.ref a1)]))
              obtain ⟨T24, X24, e24, st24⟩ := getF X23 hx hZ hown (host := "") (Or.inl (hw _ (List.mem_of_getElem? (i := 23) rfl))) Via.refl e23 F_words_a1 (g := (mkF m 172 #[.val (.ref a1), .val (.ref b3), .val (.int wj), .val (.long word), .second, .val (.int (ntzJ word)), .val (.long (sI sz.toNatClampNeg)), .second, .val (.long gap), .second, .val (.int (ntzJ gap))] [(.ref a1)])) rfl rfl (hb hby d6_172)
              refine Go.st st24 ?_
              show Go p.tables e below PP (T24.setTop (mkF m 175 #[.val (.ref a1), .val (.ref b3), .val (.int wj), .val (.long word), .second, .val (.int (ntzJ word)), .val (.long (sI sz.toNatClampNeg)), .second, .val (.long gap), .second, .val (.int (ntzJ gap))] [(.ref tw)]))
              refine Go.st (fun t k => XS.iloadN X24.here hx rfl (hb hby d6_175) rfl k) ?_
              show Go p.tables e below PP (T24.setTop (mkF m 176 #[.val (.ref a1), .val (.ref b3), .val (.int wj), .val (.long word), .second, .val (.int (ntzJ word)), .val (.long (sI sz.toNatClampNeg)), .second, .val (.long gap), .second, .val (.int (ntzJ gap))] [(.int wj), (.ref tw)]))
              obtain ⟨cl25, Ar25, S25, Nn25, H25⟩ := id V_tw
              have hin25 : ¬ (wj < 0 ∨ cl25.slots.size ≤ (wj).toNatClampNeg) := inb_of S25 (own_ib wj nw hJ96.1 hJ96.2.1)
              refine Go.st (fun t k => X24.laload hx (j := wj) (v := (.long (fw wj.toNatClampNeg))) (by rw [e24]; exact Ar25.1) (State.isArrayOf_alike hZ.alike Ar25.2.1) Ar25.2.2 hin25 ((H25 _ (inbN (own_ib wj nw hJ96.1 hJ96.2.1))).1.trans (congrArg some (rfl))) (g := (mkF m 176 #[.val (.ref a1), .val (.ref b3), .val (.int wj), .val (.long word), .second, .val (.int (ntzJ word)), .val (.long (sI sz.toNatClampNeg)), .second, .val (.long gap), .second, .val (.int (ntzJ gap))] [(.int wj), (.ref tw)])) rfl rfl (hb hby d6_176) _ k) ?_
              show Go p.tables e below PP (T24.setTop (mkF m 177 #[.val (.ref a1), .val (.ref b3), .val (.int wj), .val (.long word), .second, .val (.int (ntzJ word)), .val (.long (sI sz.toNatClampNeg)), .second, .val (.long gap), .second, .val (.int (ntzJ gap))] [(.long (fw wj.toNatClampNeg))]))
              refine Go.st (fun t k => X24.ldc2J hx hown (mvT hZ (hw _ (List.mem_of_getElem? (i := 30) rfl))) (g := (mkF m 177 #[.val (.ref a1), .val (.ref b3), .val (.int wj), .val (.long word), .second, .val (.int (ntzJ word)), .val (.long (sI sz.toNatClampNeg)), .second, .val (.long gap), .second, .val (.int (ntzJ gap))] [(.long (fw wj.toNatClampNeg))])) rfl (hb hby d6_177) k) ?_
              show Go p.tables e below PP (T24.setTop (mkF m 180 #[.val (.ref a1), .val (.ref b3), .val (.int wj), .val (.long word), .second, .val (.int (ntzJ word)), .val (.long (sI sz.toNatClampNeg)), .second, .val (.long gap), .second, .val (.int (ntzJ gap))] [(.long (-1 : Int64)), (.long (fw wj.toNatClampNeg))]))
              refine Go.st (fun t k => XS.iload X24.here hx rfl (hb hby d6_180) rfl k) ?_
              show Go p.tables e below PP (T24.setTop (mkF m 182 #[.val (.ref a1), .val (.ref b3), .val (.int wj), .val (.long word), .second, .val (.int (ntzJ word)), .val (.long (sI sz.toNatClampNeg)), .second, .val (.long gap), .second, .val (.int (ntzJ gap))] [(.int (ntzJ gap)), (.long (-1 : Int64)), (.long (fw wj.toNatClampNeg))]))
              refine Go.st (fun t k => XS.lshl X24.here hx rfl (hb hby d6_182) rfl k) ?_
              show Go p.tables e below PP (T24.setTop (mkF m 183 #[.val (.ref a1), .val (.ref b3), .val (.int wj), .val (.long word), .second, .val (.int (ntzJ word)), .val (.long (sI sz.toNatClampNeg)), .second, .val (.long gap), .second, .val (.int (ntzJ gap))] [(.long ((-1 : Int64) <<< ((ntzJ gap) &&& 0x3f).toInt64)), (.long (fw wj.toNatClampNeg))]))
              refine Go.st (fun t k => XS.land X24.here hx rfl (hb hby d6_183) rfl k) ?_
              show Go p.tables e below PP (T24.setTop (mkF m 184 #[.val (.ref a1), .val (.ref b3), .val (.int wj), .val (.long word), .second, .val (.int (ntzJ word)), .val (.long (sI sz.toNatClampNeg)), .second, .val (.long gap), .second, .val (.int (ntzJ gap))] [(.long ((fw wj.toNatClampNeg) &&& ((-1 : Int64) <<< ((ntzJ gap) &&& 0x3f).toInt64)))]))
              refine Go.st (fun t k => XS.lstoreN X24.here hx rfl (hb hby d6_184) rfl (l' := #[.val (.ref a1), .val (.ref b3), .val (.int wj), .val (.long ((fw wj.toNatClampNeg) &&& ((-1 : Int64) <<< ((ntzJ gap) &&& 0x3f).toInt64))), .second, .val (.int (ntzJ word)), .val (.long (sI sz.toNatClampNeg)), .second, .val (.long gap), .second, .val (.int (ntzJ gap))]) rfl k) ?_
              show Go p.tables e below PP (T24.setTop (mkF m 185 #[.val (.ref a1), .val (.ref b3), .val (.int wj), .val (.long ((fw wj.toNatClampNeg) &&& ((-1 : Int64) <<< ((ntzJ gap) &&& 0x3f).toInt64))), .second, .val (.int (ntzJ word)), .val (.long (sI sz.toNatClampNeg)), .second, .val (.long gap), .second, .val (.int (ntzJ gap))] []))
              refine Go.st (fun t k => XS.goto X24.here hx rfl (pc0 := 185) (pc' := 32) rfl (hb hby d6_185) (by decide) (by decide) k) ?_
              show Go p.tables e below PP (T24.setTop (mkF m 32 #[.val (.ref a1), .val (.ref b3), .val (.int wj), .val (.long ((fw wj.toNatClampNeg) &&& ((-1 : Int64) <<< ((ntzJ gap) &&& 0x3f).toInt64))), .second, .val (.int (ntzJ word)), .val (.long (sI sz.toNatClampNeg)), .second, .val (.long gap), .second, .val (.int (ntzJ gap))] []))
              exact ih7 _ (by first | (have q := (in_stop hR hJ96 hc100 hrun.2.2 hJ32.1.2.2.2.2.2.2.2.2).2.2; omega) | (have q := (out_next hR hJ32.1 hc35 hc47).2.2; omega)) _ _ _ _ _ _ _ _ _ _ _ _ _ X24 e24 N23 (F_words_a1) (F_size_a1) (V_tw) (E_b3) (F_size_b3) (F_bounds_b3) (V_t_4) K Zn (⟨(in_stop hR hJ96 hc100 hrun.2.2 hJ32.1.2.2.2.2.2.2.2.2).2.1, Or.inr ⟨_, _, _, _, rfl, rfl, rfl, rfl, rfl, rfl⟩⟩) rfl
        show Go p.tables e below PP (T13.setTop (mkF m 96 #[.val (.ref a1), .val (.ref b3), .val (.int wi), .val (.long word), .second, .val (.int (ntzJ word)), .val (.long (sI sz.toNatClampNeg)), .second, .val (.long ((word ^^^ (-1 : Int64)) &&& ((-1 : Int64) <<< ((ntzJ word) &&& 0x3f).toInt64))), .second, s10] []))
        exact J96 _ _ _ _ _ X13 e13 N7 (hrun.2.1) rfl
  show Go p.tables e below PP (T5.setTop (mkF m 32 #[.val (.ref a1), .val (.ref b3), .val (.int (0 : Int32)), .val (.long (fw (0 : Int32).toNatClampNeg)), .second, .unset, .unset, .unset, .unset, .unset, .unset] []))
  exact J32 _ _ _ _ _ _ _ _ _ _ _ _ _ _ X5 e5 N4 (F_words_a1) (F_size_a1) (V_tw) (E_b3) (F_size_b3) (F_bounds_b3) (V_t_4.congr (fun k _ => by rw [bnd_0])) K Zn (⟨out_start hR, Or.inl ⟨rfl, rfl, rfl, rfl, rfl, rfl⟩⟩) rfl
theorem pn_rm0 : plainName "com/example/warpfinder/warpfinder/index/PositionBitsAddPinLaw" = true := by first | (simp [plainName, overriddenIn]; done) | decide +kernel
theorem ef_rm0 (m : MethodId) (q1 : Int64) (q2 : Int64) (q3 : Int64) (q4 : Int64) (q5 : Int64) : entryFrame m #[(.long q1), (.long q2), (.long q3), (.long q4), (.long q5)] maxLocals = mkF m 0 #[.val (.long q1), .second, .val (.long q2), .second, .val (.long q3), .second, .val (.long q4), .second, .val (.long q5), .second, .unset, .unset, .unset, .unset, .unset, .unset, .unset, .unset, .unset, .unset, .unset, .unset, .unset, .unset, .unset, .unset, .unset, .unset, .unset, .unset, .unset, .unset, .unset, .unset, .unset, .unset, .unset, .unset] [] := by first | (simp [entryFrame, mkF, argsToLocals, Value.category, maxLocals]; done) | rfl
def Q0 (Z : State) (q1 : Int64) (q2 : Int64) (q3 : Int64) (q4 : Int64) (q5 : Int64) (h0 : Heap) (n0 : Nat) (v : Option Value) (h : Heap) (L : List Loc) : Prop := v = some (.int 1) ∧ Fr n0 L
theorem pd_7 : parseMethodDescriptor "(JJ)J" = some ⟨[.long, .long], some .long⟩ := by decide +kernel
theorem pd_8 : parseMethodDescriptor "(J)V" = some ⟨[.long], none⟩ := by decide +kernel
theorem pd_9 : parseMethodDescriptor "()I" = some ⟨[], some .int⟩ := by decide +kernel
theorem pd_10 : parseMethodDescriptor "(I)J" = some ⟨[.int], some .long⟩ := by decide +kernel
set_option maxRecDepth 65536 in
set_option maxHeartbeats 40000000 in
theorem rm0 (l : Launch) (Z : State) (a0 : Array Value) (hw : ∀ d ∈ tables_1, d.before a0 Z = true) (ws : List Jvm.Cond) (q1 : Int64) (q2 : Int64) (q3 : Int64) (q4 : Int64) (q5 : Int64) (h0 : Heap) (n0 : Nat) (Z0 : n0 ≤ h0.size) :
    Con l Z x code maxLocals ret ws room_1 #[(.long q1), (.long q2), (.long q3), (.long q4), (.long q5)] h0 (Q0 Z q1 q2 q3 q4 q5 h0 n0) := by
  refine Con.of (plainFor_of_name pn_rm0) ?_
  intro p e s m below meth c s₁ hZ e0 X0 hx hby hml hown hnm hret hlk
  replace hml : c.maxLocals = 38 := hml
  have hown : s.vm.findClass "com/example/warpfinder/warpfinder/index/PositionBitsAddPinLaw" = some m.cls := hown
  have N0 : Fr n0 [] := Fr.nil n0
  obtain ⟨PP, hPP⟩ : ∃ P, P = Fine s below (Q0 Z q1 q2 q3 q4 q5 h0 n0) room_1.cells room_1.slots := ⟨_, rfl⟩
  rw [← hPP]
  refine Go.cast (ef_rm0 m q1 q2 q3 q4 q5) ?_
  have Zn : n0 ≤ h0.size := Z0
  show Go p.tables e below PP (s₁.setTop (mkF m 0 #[.val (.long q1), .second, .val (.long q2), .second, .val (.long q3), .second, .val (.long q4), .second, .val (.long q5), .second, .unset, .unset, .unset, .unset, .unset, .unset, .unset, .unset, .unset, .unset, .unset, .unset, .unset, .unset, .unset, .unset, .unset, .unset, .unset, .unset, .unset, .unset, .unset, .unset, .unset, .unset, .unset, .unset] []))
  refine Go.st (fun t k => XS.lconst X0.here hx rfl (hb hby at_0) k) ?_
  show Go p.tables e below PP (s₁.setTop (mkF m 1 #[.val (.long q1), .second, .val (.long q2), .second, .val (.long q3), .second, .val (.long q4), .second, .val (.long q5), .second, .unset, .unset, .unset, .unset, .unset, .unset, .unset, .unset, .unset, .unset, .unset, .unset, .unset, .unset, .unset, .unset, .unset, .unset, .unset, .unset, .unset, .unset, .unset, .unset, .unset, .unset, .unset, .unset] [(.long (1 : Int64))]))
  refine Go.st (fun t k => XS.lloadN X0.here hx rfl (hb hby at_1) rfl k) ?_
  show Go p.tables e below PP (s₁.setTop (mkF m 2 #[.val (.long q1), .second, .val (.long q2), .second, .val (.long q3), .second, .val (.long q4), .second, .val (.long q5), .second, .unset, .unset, .unset, .unset, .unset, .unset, .unset, .unset, .unset, .unset, .unset, .unset, .unset, .unset, .unset, .unset, .unset, .unset, .unset, .unset, .unset, .unset, .unset, .unset, .unset, .unset, .unset, .unset] [(.long q1), (.long (1 : Int64))]))
  refine Go.st (fun t k => X0.ldc2J hx hown (mvT hZ (hw _ (List.mem_of_getElem? (i := 0) rfl))) (g := (mkF m 2 #[.val (.long q1), .second, .val (.long q2), .second, .val (.long q3), .second, .val (.long q4), .second, .val (.long q5), .second, .unset, .unset, .unset, .unset, .unset, .unset, .unset, .unset, .unset, .unset, .unset, .unset, .unset, .unset, .unset, .unset, .unset, .unset, .unset, .unset, .unset, .unset, .unset, .unset, .unset, .unset, .unset, .unset] [(.long q1), (.long (1 : Int64))])) rfl (hb hby at_2) k) ?_
  show Go p.tables e below PP (s₁.setTop (mkF m 5 #[.val (.long q1), .second, .val (.long q2), .second, .val (.long q3), .second, .val (.long q4), .second, .val (.long q5), .second, .unset, .unset, .unset, .unset, .unset, .unset, .unset, .unset, .unset, .unset, .unset, .unset, .unset, .unset, .unset, .unset, .unset, .unset, .unset, .unset, .unset, .unset, .unset, .unset, .unset, .unset, .unset, .unset] [(.long (511 : Int64)), (.long q1), (.long (1 : Int64))]))
  refine Go.st (fun t k => XS.land X0.here hx rfl (hb hby at_5) rfl k) ?_
  show Go p.tables e below PP (s₁.setTop (mkF m 6 #[.val (.long q1), .second, .val (.long q2), .second, .val (.long q3), .second, .val (.long q4), .second, .val (.long q5), .second, .unset, .unset, .unset, .unset, .unset, .unset, .unset, .unset, .unset, .unset, .unset, .unset, .unset, .unset, .unset, .unset, .unset, .unset, .unset, .unset, .unset, .unset, .unset, .unset, .unset, .unset, .unset, .unset] [(.long (q1 &&& (511 : Int64))), (.long (1 : Int64))]))
  refine Go.st (fun t k => XS.ladd X0.here hx rfl (hb hby at_6) rfl k) ?_
  generalize hnn : ((1 : Int64) + (q1 &&& (511 : Int64))) = nn
  replace hnn := own_nn _ _ hnn
  show Go p.tables e below PP (s₁.setTop (mkF m 7 #[.val (.long q1), .second, .val (.long q2), .second, .val (.long q3), .second, .val (.long q4), .second, .val (.long q5), .second, .unset, .unset, .unset, .unset, .unset, .unset, .unset, .unset, .unset, .unset, .unset, .unset, .unset, .unset, .unset, .unset, .unset, .unset, .unset, .unset, .unset, .unset, .unset, .unset, .unset, .unset, .unset, .unset] [(.long nn)]))
  refine Go.st (fun t k => XS.lstore X0.here hx rfl (hb hby at_7) rfl (l' := #[.val (.long q1), .second, .val (.long q2), .second, .val (.long q3), .second, .val (.long q4), .second, .val (.long q5), .second, .val (.long nn), .second, .unset, .unset, .unset, .unset, .unset, .unset, .unset, .unset, .unset, .unset, .unset, .unset, .unset, .unset, .unset, .unset, .unset, .unset, .unset, .unset, .unset, .unset, .unset, .unset, .unset, .unset]) rfl k) ?_
  show Go p.tables e below PP (s₁.setTop (mkF m 9 #[.val (.long q1), .second, .val (.long q2), .second, .val (.long q3), .second, .val (.long q4), .second, .val (.long q5), .second, .val (.long nn), .second, .unset, .unset, .unset, .unset, .unset, .unset, .unset, .unset, .unset, .unset, .unset, .unset, .unset, .unset, .unset, .unset, .unset, .unset, .unset, .unset, .unset, .unset, .unset, .unset, .unset, .unset] []))
  refine Go.st (fun t k => XS.lloadN X0.here hx rfl (hb hby at_9) rfl k) ?_
  show Go p.tables e below PP (s₁.setTop (mkF m 10 #[.val (.long q1), .second, .val (.long q2), .second, .val (.long q3), .second, .val (.long q4), .second, .val (.long q5), .second, .val (.long nn), .second, .unset, .unset, .unset, .unset, .unset, .unset, .unset, .unset, .unset, .unset, .unset, .unset, .unset, .unset, .unset, .unset, .unset, .unset, .unset, .unset, .unset, .unset, .unset, .unset, .unset, .unset] [(.long q2)]))
  refine Go.st (fun t k => X0.ldc2J hx hown (mvT hZ (hw _ (List.mem_of_getElem? (i := 1) rfl))) (g := (mkF m 10 #[.val (.long q1), .second, .val (.long q2), .second, .val (.long q3), .second, .val (.long q4), .second, .val (.long q5), .second, .val (.long nn), .second, .unset, .unset, .unset, .unset, .unset, .unset, .unset, .unset, .unset, .unset, .unset, .unset, .unset, .unset, .unset, .unset, .unset, .unset, .unset, .unset, .unset, .unset, .unset, .unset, .unset, .unset] [(.long q2)])) rfl (hb hby at_10) k) ?_
  show Go p.tables e below PP (s₁.setTop (mkF m 13 #[.val (.long q1), .second, .val (.long q2), .second, .val (.long q3), .second, .val (.long q4), .second, .val (.long q5), .second, .val (.long nn), .second, .unset, .unset, .unset, .unset, .unset, .unset, .unset, .unset, .unset, .unset, .unset, .unset, .unset, .unset, .unset, .unset, .unset, .unset, .unset, .unset, .unset, .unset, .unset, .unset, .unset, .unset] [(.long (9223372036854775807 : Int64)), (.long q2)]))
  refine Go.st (fun t k => XS.land X0.here hx rfl (hb hby at_13) rfl k) ?_
  show Go p.tables e below PP (s₁.setTop (mkF m 14 #[.val (.long q1), .second, .val (.long q2), .second, .val (.long q3), .second, .val (.long q4), .second, .val (.long q5), .second, .val (.long nn), .second, .unset, .unset, .unset, .unset, .unset, .unset, .unset, .unset, .unset, .unset, .unset, .unset, .unset, .unset, .unset, .unset, .unset, .unset, .unset, .unset, .unset, .unset, .unset, .unset, .unset, .unset] [(.long (q2 &&& (9223372036854775807 : Int64)))]))
  refine Go.st (fun t k => XS.lload X0.here hx rfl (hb hby at_14) rfl k) ?_
  show Go p.tables e below PP (s₁.setTop (mkF m 16 #[.val (.long q1), .second, .val (.long q2), .second, .val (.long q3), .second, .val (.long q4), .second, .val (.long q5), .second, .val (.long nn), .second, .unset, .unset, .unset, .unset, .unset, .unset, .unset, .unset, .unset, .unset, .unset, .unset, .unset, .unset, .unset, .unset, .unset, .unset, .unset, .unset, .unset, .unset, .unset, .unset, .unset, .unset] [(.long nn), (.long (q2 &&& (9223372036854775807 : Int64)))]))
  refine Go.st (fun t k => Jvm.OwnKit.lremM X0 hx rfl (hb hby at_16) rfl (own_n64 nn hnn) k) ?_
  generalize hpx1 : ((q2 &&& (9223372036854775807 : Int64)) % nn) = px1
  replace hpx1 := own_md _ nn _ hnn hpx1
  show Go p.tables e below PP (s₁.setTop (mkF m 17 #[.val (.long q1), .second, .val (.long q2), .second, .val (.long q3), .second, .val (.long q4), .second, .val (.long q5), .second, .val (.long nn), .second, .unset, .unset, .unset, .unset, .unset, .unset, .unset, .unset, .unset, .unset, .unset, .unset, .unset, .unset, .unset, .unset, .unset, .unset, .unset, .unset, .unset, .unset, .unset, .unset, .unset, .unset] [(.long px1)]))
  refine Go.st (fun t k => XS.lstore X0.here hx rfl (hb hby at_17) rfl (l' := #[.val (.long q1), .second, .val (.long q2), .second, .val (.long q3), .second, .val (.long q4), .second, .val (.long q5), .second, .val (.long nn), .second, .val (.long px1), .second, .unset, .unset, .unset, .unset, .unset, .unset, .unset, .unset, .unset, .unset, .unset, .unset, .unset, .unset, .unset, .unset, .unset, .unset, .unset, .unset, .unset, .unset, .unset, .unset]) rfl k) ?_
  show Go p.tables e below PP (s₁.setTop (mkF m 19 #[.val (.long q1), .second, .val (.long q2), .second, .val (.long q3), .second, .val (.long q4), .second, .val (.long q5), .second, .val (.long nn), .second, .val (.long px1), .second, .unset, .unset, .unset, .unset, .unset, .unset, .unset, .unset, .unset, .unset, .unset, .unset, .unset, .unset, .unset, .unset, .unset, .unset, .unset, .unset, .unset, .unset, .unset, .unset] []))
  refine Go.st (fun t k => XS.lload X0.here hx rfl (hb hby at_19) rfl k) ?_
  show Go p.tables e below PP (s₁.setTop (mkF m 21 #[.val (.long q1), .second, .val (.long q2), .second, .val (.long q3), .second, .val (.long q4), .second, .val (.long q5), .second, .val (.long nn), .second, .val (.long px1), .second, .unset, .unset, .unset, .unset, .unset, .unset, .unset, .unset, .unset, .unset, .unset, .unset, .unset, .unset, .unset, .unset, .unset, .unset, .unset, .unset, .unset, .unset, .unset, .unset] [(.long q3)]))
  refine Go.st (fun t k => X0.ldc2J hx hown (mvT hZ (hw _ (List.mem_of_getElem? (i := 1) rfl))) (g := (mkF m 21 #[.val (.long q1), .second, .val (.long q2), .second, .val (.long q3), .second, .val (.long q4), .second, .val (.long q5), .second, .val (.long nn), .second, .val (.long px1), .second, .unset, .unset, .unset, .unset, .unset, .unset, .unset, .unset, .unset, .unset, .unset, .unset, .unset, .unset, .unset, .unset, .unset, .unset, .unset, .unset, .unset, .unset, .unset, .unset] [(.long q3)])) rfl (hb hby at_21) k) ?_
  show Go p.tables e below PP (s₁.setTop (mkF m 24 #[.val (.long q1), .second, .val (.long q2), .second, .val (.long q3), .second, .val (.long q4), .second, .val (.long q5), .second, .val (.long nn), .second, .val (.long px1), .second, .unset, .unset, .unset, .unset, .unset, .unset, .unset, .unset, .unset, .unset, .unset, .unset, .unset, .unset, .unset, .unset, .unset, .unset, .unset, .unset, .unset, .unset, .unset, .unset] [(.long (9223372036854775807 : Int64)), (.long q3)]))
  refine Go.st (fun t k => XS.land X0.here hx rfl (hb hby at_24) rfl k) ?_
  show Go p.tables e below PP (s₁.setTop (mkF m 25 #[.val (.long q1), .second, .val (.long q2), .second, .val (.long q3), .second, .val (.long q4), .second, .val (.long q5), .second, .val (.long nn), .second, .val (.long px1), .second, .unset, .unset, .unset, .unset, .unset, .unset, .unset, .unset, .unset, .unset, .unset, .unset, .unset, .unset, .unset, .unset, .unset, .unset, .unset, .unset, .unset, .unset, .unset, .unset] [(.long (q3 &&& (9223372036854775807 : Int64)))]))
  refine Go.st (fun t k => XS.lload X0.here hx rfl (hb hby at_25) rfl k) ?_
  show Go p.tables e below PP (s₁.setTop (mkF m 27 #[.val (.long q1), .second, .val (.long q2), .second, .val (.long q3), .second, .val (.long q4), .second, .val (.long q5), .second, .val (.long nn), .second, .val (.long px1), .second, .unset, .unset, .unset, .unset, .unset, .unset, .unset, .unset, .unset, .unset, .unset, .unset, .unset, .unset, .unset, .unset, .unset, .unset, .unset, .unset, .unset, .unset, .unset, .unset] [(.long nn), (.long (q3 &&& (9223372036854775807 : Int64)))]))
  refine Go.st (fun t k => Jvm.OwnKit.lremM X0 hx rfl (hb hby at_27) rfl (own_n64 nn hnn) k) ?_
  generalize hpy1 : ((q3 &&& (9223372036854775807 : Int64)) % nn) = py1
  replace hpy1 := own_md _ nn _ hnn hpy1
  show Go p.tables e below PP (s₁.setTop (mkF m 28 #[.val (.long q1), .second, .val (.long q2), .second, .val (.long q3), .second, .val (.long q4), .second, .val (.long q5), .second, .val (.long nn), .second, .val (.long px1), .second, .unset, .unset, .unset, .unset, .unset, .unset, .unset, .unset, .unset, .unset, .unset, .unset, .unset, .unset, .unset, .unset, .unset, .unset, .unset, .unset, .unset, .unset, .unset, .unset] [(.long py1)]))
  refine Go.st (fun t k => XS.lstore X0.here hx rfl (hb hby at_28) rfl (l' := #[.val (.long q1), .second, .val (.long q2), .second, .val (.long q3), .second, .val (.long q4), .second, .val (.long q5), .second, .val (.long nn), .second, .val (.long px1), .second, .val (.long py1), .second, .unset, .unset, .unset, .unset, .unset, .unset, .unset, .unset, .unset, .unset, .unset, .unset, .unset, .unset, .unset, .unset, .unset, .unset, .unset, .unset, .unset, .unset]) rfl k) ?_
  show Go p.tables e below PP (s₁.setTop (mkF m 30 #[.val (.long q1), .second, .val (.long q2), .second, .val (.long q3), .second, .val (.long q4), .second, .val (.long q5), .second, .val (.long nn), .second, .val (.long px1), .second, .val (.long py1), .second, .unset, .unset, .unset, .unset, .unset, .unset, .unset, .unset, .unset, .unset, .unset, .unset, .unset, .unset, .unset, .unset, .unset, .unset, .unset, .unset, .unset, .unset] []))
  refine Go.st (fun t k => XS.lload X0.here hx rfl (hb hby at_30) rfl k) ?_
  show Go p.tables e below PP (s₁.setTop (mkF m 32 #[.val (.long q1), .second, .val (.long q2), .second, .val (.long q3), .second, .val (.long q4), .second, .val (.long q5), .second, .val (.long nn), .second, .val (.long px1), .second, .val (.long py1), .second, .unset, .unset, .unset, .unset, .unset, .unset, .unset, .unset, .unset, .unset, .unset, .unset, .unset, .unset, .unset, .unset, .unset, .unset, .unset, .unset, .unset, .unset] [(.long q4)]))
  refine Go.st (fun t k => X0.ldc2J hx hown (mvT hZ (hw _ (List.mem_of_getElem? (i := 1) rfl))) (g := (mkF m 32 #[.val (.long q1), .second, .val (.long q2), .second, .val (.long q3), .second, .val (.long q4), .second, .val (.long q5), .second, .val (.long nn), .second, .val (.long px1), .second, .val (.long py1), .second, .unset, .unset, .unset, .unset, .unset, .unset, .unset, .unset, .unset, .unset, .unset, .unset, .unset, .unset, .unset, .unset, .unset, .unset, .unset, .unset, .unset, .unset] [(.long q4)])) rfl (hb hby at_32) k) ?_
  show Go p.tables e below PP (s₁.setTop (mkF m 35 #[.val (.long q1), .second, .val (.long q2), .second, .val (.long q3), .second, .val (.long q4), .second, .val (.long q5), .second, .val (.long nn), .second, .val (.long px1), .second, .val (.long py1), .second, .unset, .unset, .unset, .unset, .unset, .unset, .unset, .unset, .unset, .unset, .unset, .unset, .unset, .unset, .unset, .unset, .unset, .unset, .unset, .unset, .unset, .unset] [(.long (9223372036854775807 : Int64)), (.long q4)]))
  refine Go.st (fun t k => XS.land X0.here hx rfl (hb hby at_35) rfl k) ?_
  show Go p.tables e below PP (s₁.setTop (mkF m 36 #[.val (.long q1), .second, .val (.long q2), .second, .val (.long q3), .second, .val (.long q4), .second, .val (.long q5), .second, .val (.long nn), .second, .val (.long px1), .second, .val (.long py1), .second, .unset, .unset, .unset, .unset, .unset, .unset, .unset, .unset, .unset, .unset, .unset, .unset, .unset, .unset, .unset, .unset, .unset, .unset, .unset, .unset, .unset, .unset] [(.long (q4 &&& (9223372036854775807 : Int64)))]))
  refine Go.st (fun t k => XS.lload X0.here hx rfl (hb hby at_36) rfl k) ?_
  show Go p.tables e below PP (s₁.setTop (mkF m 38 #[.val (.long q1), .second, .val (.long q2), .second, .val (.long q3), .second, .val (.long q4), .second, .val (.long q5), .second, .val (.long nn), .second, .val (.long px1), .second, .val (.long py1), .second, .unset, .unset, .unset, .unset, .unset, .unset, .unset, .unset, .unset, .unset, .unset, .unset, .unset, .unset, .unset, .unset, .unset, .unset, .unset, .unset, .unset, .unset] [(.long nn), (.long (q4 &&& (9223372036854775807 : Int64)))]))
  refine Go.st (fun t k => Jvm.OwnKit.lremM X0 hx rfl (hb hby at_38) rfl (own_n64 nn hnn) k) ?_
  generalize hpx2 : ((q4 &&& (9223372036854775807 : Int64)) % nn) = px2
  replace hpx2 := own_md _ nn _ hnn hpx2
  show Go p.tables e below PP (s₁.setTop (mkF m 39 #[.val (.long q1), .second, .val (.long q2), .second, .val (.long q3), .second, .val (.long q4), .second, .val (.long q5), .second, .val (.long nn), .second, .val (.long px1), .second, .val (.long py1), .second, .unset, .unset, .unset, .unset, .unset, .unset, .unset, .unset, .unset, .unset, .unset, .unset, .unset, .unset, .unset, .unset, .unset, .unset, .unset, .unset, .unset, .unset] [(.long px2)]))
  refine Go.st (fun t k => XS.lstore X0.here hx rfl (hb hby at_39) rfl (l' := #[.val (.long q1), .second, .val (.long q2), .second, .val (.long q3), .second, .val (.long q4), .second, .val (.long q5), .second, .val (.long nn), .second, .val (.long px1), .second, .val (.long py1), .second, .val (.long px2), .second, .unset, .unset, .unset, .unset, .unset, .unset, .unset, .unset, .unset, .unset, .unset, .unset, .unset, .unset, .unset, .unset, .unset, .unset, .unset, .unset]) rfl k) ?_
  show Go p.tables e below PP (s₁.setTop (mkF m 41 #[.val (.long q1), .second, .val (.long q2), .second, .val (.long q3), .second, .val (.long q4), .second, .val (.long q5), .second, .val (.long nn), .second, .val (.long px1), .second, .val (.long py1), .second, .val (.long px2), .second, .unset, .unset, .unset, .unset, .unset, .unset, .unset, .unset, .unset, .unset, .unset, .unset, .unset, .unset, .unset, .unset, .unset, .unset, .unset, .unset] []))
  refine Go.st (fun t k => XS.lload X0.here hx rfl (hb hby at_41) rfl k) ?_
  show Go p.tables e below PP (s₁.setTop (mkF m 43 #[.val (.long q1), .second, .val (.long q2), .second, .val (.long q3), .second, .val (.long q4), .second, .val (.long q5), .second, .val (.long nn), .second, .val (.long px1), .second, .val (.long py1), .second, .val (.long px2), .second, .unset, .unset, .unset, .unset, .unset, .unset, .unset, .unset, .unset, .unset, .unset, .unset, .unset, .unset, .unset, .unset, .unset, .unset, .unset, .unset] [(.long q5)]))
  refine Go.st (fun t k => X0.ldc2J hx hown (mvT hZ (hw _ (List.mem_of_getElem? (i := 1) rfl))) (g := (mkF m 43 #[.val (.long q1), .second, .val (.long q2), .second, .val (.long q3), .second, .val (.long q4), .second, .val (.long q5), .second, .val (.long nn), .second, .val (.long px1), .second, .val (.long py1), .second, .val (.long px2), .second, .unset, .unset, .unset, .unset, .unset, .unset, .unset, .unset, .unset, .unset, .unset, .unset, .unset, .unset, .unset, .unset, .unset, .unset, .unset, .unset] [(.long q5)])) rfl (hb hby at_43) k) ?_
  show Go p.tables e below PP (s₁.setTop (mkF m 46 #[.val (.long q1), .second, .val (.long q2), .second, .val (.long q3), .second, .val (.long q4), .second, .val (.long q5), .second, .val (.long nn), .second, .val (.long px1), .second, .val (.long py1), .second, .val (.long px2), .second, .unset, .unset, .unset, .unset, .unset, .unset, .unset, .unset, .unset, .unset, .unset, .unset, .unset, .unset, .unset, .unset, .unset, .unset, .unset, .unset] [(.long (9223372036854775807 : Int64)), (.long q5)]))
  refine Go.st (fun t k => XS.land X0.here hx rfl (hb hby at_46) rfl k) ?_
  show Go p.tables e below PP (s₁.setTop (mkF m 47 #[.val (.long q1), .second, .val (.long q2), .second, .val (.long q3), .second, .val (.long q4), .second, .val (.long q5), .second, .val (.long nn), .second, .val (.long px1), .second, .val (.long py1), .second, .val (.long px2), .second, .unset, .unset, .unset, .unset, .unset, .unset, .unset, .unset, .unset, .unset, .unset, .unset, .unset, .unset, .unset, .unset, .unset, .unset, .unset, .unset] [(.long (q5 &&& (9223372036854775807 : Int64)))]))
  refine Go.st (fun t k => XS.lload X0.here hx rfl (hb hby at_47) rfl k) ?_
  show Go p.tables e below PP (s₁.setTop (mkF m 49 #[.val (.long q1), .second, .val (.long q2), .second, .val (.long q3), .second, .val (.long q4), .second, .val (.long q5), .second, .val (.long nn), .second, .val (.long px1), .second, .val (.long py1), .second, .val (.long px2), .second, .unset, .unset, .unset, .unset, .unset, .unset, .unset, .unset, .unset, .unset, .unset, .unset, .unset, .unset, .unset, .unset, .unset, .unset, .unset, .unset] [(.long nn), (.long (q5 &&& (9223372036854775807 : Int64)))]))
  refine Go.st (fun t k => Jvm.OwnKit.lremM X0 hx rfl (hb hby at_49) rfl (own_n64 nn hnn) k) ?_
  generalize hpy2 : ((q5 &&& (9223372036854775807 : Int64)) % nn) = py2
  replace hpy2 := own_md _ nn _ hnn hpy2
  show Go p.tables e below PP (s₁.setTop (mkF m 50 #[.val (.long q1), .second, .val (.long q2), .second, .val (.long q3), .second, .val (.long q4), .second, .val (.long q5), .second, .val (.long nn), .second, .val (.long px1), .second, .val (.long py1), .second, .val (.long px2), .second, .unset, .unset, .unset, .unset, .unset, .unset, .unset, .unset, .unset, .unset, .unset, .unset, .unset, .unset, .unset, .unset, .unset, .unset, .unset, .unset] [(.long py2)]))
  refine Go.st (fun t k => XS.lstore X0.here hx rfl (hb hby at_50) rfl (l' := #[.val (.long q1), .second, .val (.long q2), .second, .val (.long q3), .second, .val (.long q4), .second, .val (.long q5), .second, .val (.long nn), .second, .val (.long px1), .second, .val (.long py1), .second, .val (.long px2), .second, .val (.long py2), .second, .unset, .unset, .unset, .unset, .unset, .unset, .unset, .unset, .unset, .unset, .unset, .unset, .unset, .unset, .unset, .unset, .unset, .unset]) rfl k) ?_
  show Go p.tables e below PP (s₁.setTop (mkF m 52 #[.val (.long q1), .second, .val (.long q2), .second, .val (.long q3), .second, .val (.long q4), .second, .val (.long q5), .second, .val (.long nn), .second, .val (.long px1), .second, .val (.long py1), .second, .val (.long px2), .second, .val (.long py2), .second, .unset, .unset, .unset, .unset, .unset, .unset, .unset, .unset, .unset, .unset, .unset, .unset, .unset, .unset, .unset, .unset, .unset, .unset] []))
  refine Go.st (fun t k => XS.lload X0.here hx rfl (hb hby at_52) rfl k) ?_
  show Go p.tables e below PP (s₁.setTop (mkF m 54 #[.val (.long q1), .second, .val (.long q2), .second, .val (.long q3), .second, .val (.long q4), .second, .val (.long q5), .second, .val (.long nn), .second, .val (.long px1), .second, .val (.long py1), .second, .val (.long px2), .second, .val (.long py2), .second, .unset, .unset, .unset, .unset, .unset, .unset, .unset, .unset, .unset, .unset, .unset, .unset, .unset, .unset, .unset, .unset, .unset, .unset] [(.long px1)]))
  refine Go.st (fun t k => XS.lload X0.here hx rfl (hb hby at_54) rfl k) ?_
  show Go p.tables e below PP (s₁.setTop (mkF m 56 #[.val (.long q1), .second, .val (.long q2), .second, .val (.long q3), .second, .val (.long q4), .second, .val (.long q5), .second, .val (.long nn), .second, .val (.long px1), .second, .val (.long py1), .second, .val (.long px2), .second, .val (.long py2), .second, .unset, .unset, .unset, .unset, .unset, .unset, .unset, .unset, .unset, .unset, .unset, .unset, .unset, .unset, .unset, .unset, .unset, .unset] [(.long py1), (.long px1)]))
  obtain ⟨v1, T1, L1, X1, hQ1, st1⟩ := callSt X0 hx hZ (y := (⟨"java/lang/Math", "min", "(JJ)J"⟩ : MethodName)) (argsL := [(.long px1), (.long py1)]) (rest := []) hown (hw _ (List.mem_of_getElem? (i := 2) rfl)) (hw _ (List.mem_of_getElem? (i := 3) rfl)) (hw _ (List.mem_of_getElem? (i := 4) rfl)) (hw _ (List.mem_of_getElem? (i := 5) rfl)) (by decide) (rm1 l Z a0 hw [] px1 py1 h0 n0 Zn) e0 0 (by decide) (by decide) (by decide) (by decide) (g := (mkF m 56 #[.val (.long q1), .second, .val (.long q2), .second, .val (.long q3), .second, .val (.long q4), .second, .val (.long q5), .second, .val (.long nn), .second, .val (.long px1), .second, .val (.long py1), .second, .val (.long px2), .second, .val (.long py2), .second, .unset, .unset, .unset, .unset, .unset, .unset, .unset, .unset, .unset, .unset, .unset, .unset, .unset, .unset, .unset, .unset, .unset, .unset] [(.long py1), (.long px1)])) rfl (by rw [hml]; rfl) (lenOf pd_7 rfl) rfl (by show 2 * 0 + _ ≤ _; exact Nat.le_of_eq rfl) (hb hby at_56)
  obtain ⟨rfl, rfl, e1⟩ := hQ1
  rw [List.append_nil] at X1
  refine Go.st st1 ?_
  generalize ha1v : (if py1 < px1 then py1 else px1) = a1v
  
  show Go p.tables e below PP (T1.setTop (mkF m 59 #[.val (.long q1), .second, .val (.long q2), .second, .val (.long q3), .second, .val (.long q4), .second, .val (.long q5), .second, .val (.long nn), .second, .val (.long px1), .second, .val (.long py1), .second, .val (.long px2), .second, .val (.long py2), .second, .unset, .unset, .unset, .unset, .unset, .unset, .unset, .unset, .unset, .unset, .unset, .unset, .unset, .unset, .unset, .unset, .unset, .unset] [(.long a1v)]))
  refine Go.st (fun t k => XS.lstore X1.here hx rfl (hb hby at_59) rfl (l' := #[.val (.long q1), .second, .val (.long q2), .second, .val (.long q3), .second, .val (.long q4), .second, .val (.long q5), .second, .val (.long nn), .second, .val (.long px1), .second, .val (.long py1), .second, .val (.long px2), .second, .val (.long py2), .second, .val (.long a1v), .second, .unset, .unset, .unset, .unset, .unset, .unset, .unset, .unset, .unset, .unset, .unset, .unset, .unset, .unset, .unset, .unset]) rfl k) ?_
  show Go p.tables e below PP (T1.setTop (mkF m 61 #[.val (.long q1), .second, .val (.long q2), .second, .val (.long q3), .second, .val (.long q4), .second, .val (.long q5), .second, .val (.long nn), .second, .val (.long px1), .second, .val (.long py1), .second, .val (.long px2), .second, .val (.long py2), .second, .val (.long a1v), .second, .unset, .unset, .unset, .unset, .unset, .unset, .unset, .unset, .unset, .unset, .unset, .unset, .unset, .unset, .unset, .unset] []))
  refine Go.st (fun t k => XS.lload X1.here hx rfl (hb hby at_61) rfl k) ?_
  show Go p.tables e below PP (T1.setTop (mkF m 63 #[.val (.long q1), .second, .val (.long q2), .second, .val (.long q3), .second, .val (.long q4), .second, .val (.long q5), .second, .val (.long nn), .second, .val (.long px1), .second, .val (.long py1), .second, .val (.long px2), .second, .val (.long py2), .second, .val (.long a1v), .second, .unset, .unset, .unset, .unset, .unset, .unset, .unset, .unset, .unset, .unset, .unset, .unset, .unset, .unset, .unset, .unset] [(.long px1)]))
  refine Go.st (fun t k => XS.lload X1.here hx rfl (hb hby at_63) rfl k) ?_
  show Go p.tables e below PP (T1.setTop (mkF m 65 #[.val (.long q1), .second, .val (.long q2), .second, .val (.long q3), .second, .val (.long q4), .second, .val (.long q5), .second, .val (.long nn), .second, .val (.long px1), .second, .val (.long py1), .second, .val (.long px2), .second, .val (.long py2), .second, .val (.long a1v), .second, .unset, .unset, .unset, .unset, .unset, .unset, .unset, .unset, .unset, .unset, .unset, .unset, .unset, .unset, .unset, .unset] [(.long py1), (.long px1)]))
  obtain ⟨v2, T2, L2, X2, hQ2, st2⟩ := callSt X1 hx hZ (y := (⟨"java/lang/Math", "max", "(JJ)J"⟩ : MethodName)) (argsL := [(.long px1), (.long py1)]) (rest := []) hown (hw _ (List.mem_of_getElem? (i := 6) rfl)) (hw _ (List.mem_of_getElem? (i := 7) rfl)) (hw _ (List.mem_of_getElem? (i := 4) rfl)) (hw _ (List.mem_of_getElem? (i := 8) rfl)) (by decide) (rm2 l Z a0 hw [] px1 py1 h0 n0 Zn) e1 0 (by decide) (by decide) (by decide) (by decide) (g := (mkF m 65 #[.val (.long q1), .second, .val (.long q2), .second, .val (.long q3), .second, .val (.long q4), .second, .val (.long q5), .second, .val (.long nn), .second, .val (.long px1), .second, .val (.long py1), .second, .val (.long px2), .second, .val (.long py2), .second, .val (.long a1v), .second, .unset, .unset, .unset, .unset, .unset, .unset, .unset, .unset, .unset, .unset, .unset, .unset, .unset, .unset, .unset, .unset] [(.long py1), (.long px1)])) rfl (by rw [hml]; rfl) (lenOf pd_7 rfl) rfl (by show 2 * 0 + _ ≤ _; exact Nat.le_of_eq rfl) (hb hby at_65)
  obtain ⟨rfl, rfl, e2⟩ := hQ2
  rw [List.append_nil] at X2
  refine Go.st st2 ?_
  generalize hb1v : (if px1 < py1 then py1 else px1) = b1v
  have hab1 := own_mm px1 py1 nn a1v b1v hpx1 hpy1 ha1v hb1v
  show Go p.tables e below PP (T2.setTop (mkF m 68 #[.val (.long q1), .second, .val (.long q2), .second, .val (.long q3), .second, .val (.long q4), .second, .val (.long q5), .second, .val (.long nn), .second, .val (.long px1), .second, .val (.long py1), .second, .val (.long px2), .second, .val (.long py2), .second, .val (.long a1v), .second, .unset, .unset, .unset, .unset, .unset, .unset, .unset, .unset, .unset, .unset, .unset, .unset, .unset, .unset, .unset, .unset] [(.long b1v)]))
  refine Go.st (fun t k => XS.lstore X2.here hx rfl (hb hby at_68) rfl (l' := #[.val (.long q1), .second, .val (.long q2), .second, .val (.long q3), .second, .val (.long q4), .second, .val (.long q5), .second, .val (.long nn), .second, .val (.long px1), .second, .val (.long py1), .second, .val (.long px2), .second, .val (.long py2), .second, .val (.long a1v), .second, .val (.long b1v), .second, .unset, .unset, .unset, .unset, .unset, .unset, .unset, .unset, .unset, .unset, .unset, .unset, .unset, .unset]) rfl k) ?_
  show Go p.tables e below PP (T2.setTop (mkF m 70 #[.val (.long q1), .second, .val (.long q2), .second, .val (.long q3), .second, .val (.long q4), .second, .val (.long q5), .second, .val (.long nn), .second, .val (.long px1), .second, .val (.long py1), .second, .val (.long px2), .second, .val (.long py2), .second, .val (.long a1v), .second, .val (.long b1v), .second, .unset, .unset, .unset, .unset, .unset, .unset, .unset, .unset, .unset, .unset, .unset, .unset, .unset, .unset] []))
  refine Go.st (fun t k => XS.lload X2.here hx rfl (hb hby at_70) rfl k) ?_
  show Go p.tables e below PP (T2.setTop (mkF m 72 #[.val (.long q1), .second, .val (.long q2), .second, .val (.long q3), .second, .val (.long q4), .second, .val (.long q5), .second, .val (.long nn), .second, .val (.long px1), .second, .val (.long py1), .second, .val (.long px2), .second, .val (.long py2), .second, .val (.long a1v), .second, .val (.long b1v), .second, .unset, .unset, .unset, .unset, .unset, .unset, .unset, .unset, .unset, .unset, .unset, .unset, .unset, .unset] [(.long px2)]))
  refine Go.st (fun t k => XS.lload X2.here hx rfl (hb hby at_72) rfl k) ?_
  show Go p.tables e below PP (T2.setTop (mkF m 74 #[.val (.long q1), .second, .val (.long q2), .second, .val (.long q3), .second, .val (.long q4), .second, .val (.long q5), .second, .val (.long nn), .second, .val (.long px1), .second, .val (.long py1), .second, .val (.long px2), .second, .val (.long py2), .second, .val (.long a1v), .second, .val (.long b1v), .second, .unset, .unset, .unset, .unset, .unset, .unset, .unset, .unset, .unset, .unset, .unset, .unset, .unset, .unset] [(.long py2), (.long px2)]))
  obtain ⟨v3, T3, L3, X3, hQ3, st3⟩ := callSt X2 hx hZ (y := (⟨"java/lang/Math", "min", "(JJ)J"⟩ : MethodName)) (argsL := [(.long px2), (.long py2)]) (rest := []) hown (hw _ (List.mem_of_getElem? (i := 2) rfl)) (hw _ (List.mem_of_getElem? (i := 3) rfl)) (hw _ (List.mem_of_getElem? (i := 4) rfl)) (hw _ (List.mem_of_getElem? (i := 5) rfl)) (by decide) (rm1 l Z a0 hw [] px2 py2 h0 n0 Zn) e2 0 (by decide) (by decide) (by decide) (by decide) (g := (mkF m 74 #[.val (.long q1), .second, .val (.long q2), .second, .val (.long q3), .second, .val (.long q4), .second, .val (.long q5), .second, .val (.long nn), .second, .val (.long px1), .second, .val (.long py1), .second, .val (.long px2), .second, .val (.long py2), .second, .val (.long a1v), .second, .val (.long b1v), .second, .unset, .unset, .unset, .unset, .unset, .unset, .unset, .unset, .unset, .unset, .unset, .unset, .unset, .unset] [(.long py2), (.long px2)])) rfl (by rw [hml]; rfl) (lenOf pd_7 rfl) rfl (by show 2 * 0 + _ ≤ _; exact Nat.le_of_eq rfl) (hb hby at_74)
  obtain ⟨rfl, rfl, e3⟩ := hQ3
  rw [List.append_nil] at X3
  refine Go.st st3 ?_
  generalize ha2v : (if py2 < px2 then py2 else px2) = a2v
  
  show Go p.tables e below PP (T3.setTop (mkF m 77 #[.val (.long q1), .second, .val (.long q2), .second, .val (.long q3), .second, .val (.long q4), .second, .val (.long q5), .second, .val (.long nn), .second, .val (.long px1), .second, .val (.long py1), .second, .val (.long px2), .second, .val (.long py2), .second, .val (.long a1v), .second, .val (.long b1v), .second, .unset, .unset, .unset, .unset, .unset, .unset, .unset, .unset, .unset, .unset, .unset, .unset, .unset, .unset] [(.long a2v)]))
  refine Go.st (fun t k => XS.lstore X3.here hx rfl (hb hby at_77) rfl (l' := #[.val (.long q1), .second, .val (.long q2), .second, .val (.long q3), .second, .val (.long q4), .second, .val (.long q5), .second, .val (.long nn), .second, .val (.long px1), .second, .val (.long py1), .second, .val (.long px2), .second, .val (.long py2), .second, .val (.long a1v), .second, .val (.long b1v), .second, .val (.long a2v), .second, .unset, .unset, .unset, .unset, .unset, .unset, .unset, .unset, .unset, .unset, .unset, .unset]) rfl k) ?_
  show Go p.tables e below PP (T3.setTop (mkF m 79 #[.val (.long q1), .second, .val (.long q2), .second, .val (.long q3), .second, .val (.long q4), .second, .val (.long q5), .second, .val (.long nn), .second, .val (.long px1), .second, .val (.long py1), .second, .val (.long px2), .second, .val (.long py2), .second, .val (.long a1v), .second, .val (.long b1v), .second, .val (.long a2v), .second, .unset, .unset, .unset, .unset, .unset, .unset, .unset, .unset, .unset, .unset, .unset, .unset] []))
  refine Go.st (fun t k => XS.lload X3.here hx rfl (hb hby at_79) rfl k) ?_
  show Go p.tables e below PP (T3.setTop (mkF m 81 #[.val (.long q1), .second, .val (.long q2), .second, .val (.long q3), .second, .val (.long q4), .second, .val (.long q5), .second, .val (.long nn), .second, .val (.long px1), .second, .val (.long py1), .second, .val (.long px2), .second, .val (.long py2), .second, .val (.long a1v), .second, .val (.long b1v), .second, .val (.long a2v), .second, .unset, .unset, .unset, .unset, .unset, .unset, .unset, .unset, .unset, .unset, .unset, .unset] [(.long px2)]))
  refine Go.st (fun t k => XS.lload X3.here hx rfl (hb hby at_81) rfl k) ?_
  show Go p.tables e below PP (T3.setTop (mkF m 83 #[.val (.long q1), .second, .val (.long q2), .second, .val (.long q3), .second, .val (.long q4), .second, .val (.long q5), .second, .val (.long nn), .second, .val (.long px1), .second, .val (.long py1), .second, .val (.long px2), .second, .val (.long py2), .second, .val (.long a1v), .second, .val (.long b1v), .second, .val (.long a2v), .second, .unset, .unset, .unset, .unset, .unset, .unset, .unset, .unset, .unset, .unset, .unset, .unset] [(.long py2), (.long px2)]))
  obtain ⟨v4, T4, L4, X4, hQ4, st4⟩ := callSt X3 hx hZ (y := (⟨"java/lang/Math", "max", "(JJ)J"⟩ : MethodName)) (argsL := [(.long px2), (.long py2)]) (rest := []) hown (hw _ (List.mem_of_getElem? (i := 6) rfl)) (hw _ (List.mem_of_getElem? (i := 7) rfl)) (hw _ (List.mem_of_getElem? (i := 4) rfl)) (hw _ (List.mem_of_getElem? (i := 8) rfl)) (by decide) (rm2 l Z a0 hw [] px2 py2 h0 n0 Zn) e3 0 (by decide) (by decide) (by decide) (by decide) (g := (mkF m 83 #[.val (.long q1), .second, .val (.long q2), .second, .val (.long q3), .second, .val (.long q4), .second, .val (.long q5), .second, .val (.long nn), .second, .val (.long px1), .second, .val (.long py1), .second, .val (.long px2), .second, .val (.long py2), .second, .val (.long a1v), .second, .val (.long b1v), .second, .val (.long a2v), .second, .unset, .unset, .unset, .unset, .unset, .unset, .unset, .unset, .unset, .unset, .unset, .unset] [(.long py2), (.long px2)])) rfl (by rw [hml]; rfl) (lenOf pd_7 rfl) rfl (by show 2 * 0 + _ ≤ _; exact Nat.le_of_eq rfl) (hb hby at_83)
  obtain ⟨rfl, rfl, e4⟩ := hQ4
  rw [List.append_nil] at X4
  refine Go.st st4 ?_
  generalize hb2v : (if px2 < py2 then py2 else px2) = b2v
  have hab2 := own_mm px2 py2 nn a2v b2v hpx2 hpy2 ha2v hb2v
  show Go p.tables e below PP (T4.setTop (mkF m 86 #[.val (.long q1), .second, .val (.long q2), .second, .val (.long q3), .second, .val (.long q4), .second, .val (.long q5), .second, .val (.long nn), .second, .val (.long px1), .second, .val (.long py1), .second, .val (.long px2), .second, .val (.long py2), .second, .val (.long a1v), .second, .val (.long b1v), .second, .val (.long a2v), .second, .unset, .unset, .unset, .unset, .unset, .unset, .unset, .unset, .unset, .unset, .unset, .unset] [(.long b2v)]))
  refine Go.st (fun t k => XS.lstore X4.here hx rfl (hb hby at_86) rfl (l' := #[.val (.long q1), .second, .val (.long q2), .second, .val (.long q3), .second, .val (.long q4), .second, .val (.long q5), .second, .val (.long nn), .second, .val (.long px1), .second, .val (.long py1), .second, .val (.long px2), .second, .val (.long py2), .second, .val (.long a1v), .second, .val (.long b1v), .second, .val (.long a2v), .second, .val (.long b2v), .second, .unset, .unset, .unset, .unset, .unset, .unset, .unset, .unset, .unset, .unset]) rfl k) ?_
  show Go p.tables e below PP (T4.setTop (mkF m 88 #[.val (.long q1), .second, .val (.long q2), .second, .val (.long q3), .second, .val (.long q4), .second, .val (.long q5), .second, .val (.long nn), .second, .val (.long px1), .second, .val (.long py1), .second, .val (.long px2), .second, .val (.long py2), .second, .val (.long a1v), .second, .val (.long b1v), .second, .val (.long a2v), .second, .val (.long b2v), .second, .unset, .unset, .unset, .unset, .unset, .unset, .unset, .unset, .unset, .unset] []))
  obtain ⟨T5, h5, X5, e5, E5, A5, D5, -, st5⟩ := newO X4 hx hZ hown (hw _ (List.mem_of_getElem? (i := 9) rfl)) (hw _ (List.mem_of_getElem? (i := 10) rfl)) (hw _ (List.mem_of_getElem? (i := 11) rfl)) e4 (g := (mkF m 88 #[.val (.long q1), .second, .val (.long q2), .second, .val (.long q3), .second, .val (.long q4), .second, .val (.long q5), .second, .val (.long nn), .second, .val (.long px1), .second, .val (.long py1), .second, .val (.long px2), .second, .val (.long py2), .second, .val (.long a1v), .second, .val (.long b1v), .second, .val (.long a2v), .second, .val (.long b2v), .second, .unset, .unset, .unset, .unset, .unset, .unset, .unset, .unset, .unset, .unset] [])) rfl (hb hby at_88) (by decide) (by decide)
  obtain ⟨b5, gz5⟩ : ∃ z, z = h0.size := ⟨_, rfl⟩
  rw [← gz5] at A5 D5 st5
  have g_b5 : n0 ≤ b5 := Nat.le_trans Zn (Nat.le_of_eq gz5.symm)
  refine Go.st st5 ?_
  replace Zn := Nat.le_trans Zn E5.1
  have E_b5 := A5
  have F_size_b5 : Fld Z h5 b5 "com/example/warpfinder/warpfinder/index/PositionBits" "size" "J" (.long (0 : Int64)) := D5 (Or.inr (hw _ (List.mem_of_getElem? (i := 21) rfl))) (ty := .long) (by decide)
  have F_words_b5 : Fld Z h5 b5 "com/example/warpfinder/warpfinder/index/PositionBits" "words" "[J" .null := D5 (Or.inr (hw _ (List.mem_of_getElem? (i := 24) rfl))) (ty := (.array .long)) (by decide)
  show Go p.tables e below PP (T5.setTop (mkF m 91 #[.val (.long q1), .second, .val (.long q2), .second, .val (.long q3), .second, .val (.long q4), .second, .val (.long q5), .second, .val (.long nn), .second, .val (.long px1), .second, .val (.long py1), .second, .val (.long px2), .second, .val (.long py2), .second, .val (.long a1v), .second, .val (.long b1v), .second, .val (.long a2v), .second, .val (.long b2v), .second, .unset, .unset, .unset, .unset, .unset, .unset, .unset, .unset, .unset, .unset] [(.ref b5)]))
  refine Go.st (fun t k => XS.dup X5.here hx rfl (hb hby at_91) rfl rfl k) ?_
  show Go p.tables e below PP (T5.setTop (mkF m 92 #[.val (.long q1), .second, .val (.long q2), .second, .val (.long q3), .second, .val (.long q4), .second, .val (.long q5), .second, .val (.long nn), .second, .val (.long px1), .second, .val (.long py1), .second, .val (.long px2), .second, .val (.long py2), .second, .val (.long a1v), .second, .val (.long b1v), .second, .val (.long a2v), .second, .val (.long b2v), .second, .unset, .unset, .unset, .unset, .unset, .unset, .unset, .unset, .unset, .unset] [(.ref b5), (.ref b5)]))
  refine Go.st (fun t k => XS.lload X5.here hx rfl (hb hby at_92) rfl k) ?_
  show Go p.tables e below PP (T5.setTop (mkF m 94 #[.val (.long q1), .second, .val (.long q2), .second, .val (.long q3), .second, .val (.long q4), .second, .val (.long q5), .second, .val (.long nn), .second, .val (.long px1), .second, .val (.long py1), .second, .val (.long px2), .second, .val (.long py2), .second, .val (.long a1v), .second, .val (.long b1v), .second, .val (.long a2v), .second, .val (.long b2v), .second, .unset, .unset, .unset, .unset, .unset, .unset, .unset, .unset, .unset, .unset] [(.long nn), (.ref b5), (.ref b5)]))
  obtain ⟨v6, T6, L6, X6, hQ6, st6⟩ := callIn X5 hx hZ (y := (⟨"com/example/warpfinder/warpfinder/index/PositionBits", "<init>", "(J)V"⟩ : MethodName)) (a := b5) (argsL := [(.long nn)]) (rest := [(.ref b5)]) rfl hown (hw _ (List.mem_of_getElem? (i := 12) rfl)) (hw _ (List.mem_of_getElem? (i := 13) rfl)) (hw _ (List.mem_of_getElem? (i := 11) rfl)) (hw _ (List.mem_of_getElem? (i := 14) rfl)) (by decide) (rm3 l Z a0 hw [] b5 nn h5 n0 Zn F_size_b5 F_words_b5 E_b5 g_b5 hnn) e5 1 (by decide) (by decide) (by decide) (by decide) (g := (mkF m 94 #[.val (.long q1), .second, .val (.long q2), .second, .val (.long q3), .second, .val (.long q4), .second, .val (.long q5), .second, .val (.long nn), .second, .val (.long px1), .second, .val (.long py1), .second, .val (.long px2), .second, .val (.long py2), .second, .val (.long a1v), .second, .val (.long b1v), .second, .val (.long a2v), .second, .val (.long b2v), .second, .unset, .unset, .unset, .unset, .unset, .unset, .unset, .unset, .unset, .unset] [(.long nn), (.ref b5), (.ref b5)])) rfl (by rw [hml]; rfl) (lenOf pd_8 rfl) rfl (by show 2 * 0 + _ ≤ _; exact Nat.le_of_eq rfl) (hb hby at_94)
  obtain ⟨h6, e6⟩ : ∃ z, T6.heap = z := ⟨_, rfl⟩
  rw [e6] at hQ6
  obtain ⟨t_6, rfl, Nq6, Kq6, sq6_t, Fq6_0, Fq6_1, Fq6_2⟩ := hQ6
  have N6 := Fr.app N0 Nq6
  have ne_b5_t_6 : b5 ≠ t_6 := Nat.ne_of_lt (Nat.lt_of_lt_of_le E_b5.lt sq6_t)
  have g_t_6 : n0 ≤ t_6 := Nat.le_trans Zn sq6_t
  replace E_b5 := E_b5.keep Kq6
  clear F_size_b5
  clear F_words_b5
  replace Zn := Nat.le_trans Zn Kq6.1
  have F_size_b5 := Fq6_0
  have F_words_b5 := Fq6_1
  have V_t_6 := Fq6_2
  refine Go.st st6 ?_
  show Go p.tables e below PP (T6.setTop (mkF m 97 #[.val (.long q1), .second, .val (.long q2), .second, .val (.long q3), .second, .val (.long q4), .second, .val (.long q5), .second, .val (.long nn), .second, .val (.long px1), .second, .val (.long py1), .second, .val (.long px2), .second, .val (.long py2), .second, .val (.long a1v), .second, .val (.long b1v), .second, .val (.long a2v), .second, .val (.long b2v), .second, .unset, .unset, .unset, .unset, .unset, .unset, .unset, .unset, .unset, .unset] [(.ref b5)]))
  refine Go.st (fun t k => XS.astore X6.here hx rfl (hb hby at_97) rfl rfl (l' := #[.val (.long q1), .second, .val (.long q2), .second, .val (.long q3), .second, .val (.long q4), .second, .val (.long q5), .second, .val (.long nn), .second, .val (.long px1), .second, .val (.long py1), .second, .val (.long px2), .second, .val (.long py2), .second, .val (.long a1v), .second, .val (.long b1v), .second, .val (.long a2v), .second, .val (.long b2v), .second, .val (.ref b5), .unset, .unset, .unset, .unset, .unset, .unset, .unset, .unset, .unset]) rfl k) ?_
  show Go p.tables e below PP (T6.setTop (mkF m 99 #[.val (.long q1), .second, .val (.long q2), .second, .val (.long q3), .second, .val (.long q4), .second, .val (.long q5), .second, .val (.long nn), .second, .val (.long px1), .second, .val (.long py1), .second, .val (.long px2), .second, .val (.long py2), .second, .val (.long a1v), .second, .val (.long b1v), .second, .val (.long a2v), .second, .val (.long b2v), .second, .val (.ref b5), .unset, .unset, .unset, .unset, .unset, .unset, .unset, .unset, .unset] []))
  refine Go.st (fun t k => XS.aload X6.here hx rfl (hb hby at_99) rfl rfl k) ?_
  show Go p.tables e below PP (T6.setTop (mkF m 101 #[.val (.long q1), .second, .val (.long q2), .second, .val (.long q3), .second, .val (.long q4), .second, .val (.long q5), .second, .val (.long nn), .second, .val (.long px1), .second, .val (.long py1), .second, .val (.long px2), .second, .val (.long py2), .second, .val (.long a1v), .second, .val (.long b1v), .second, .val (.long a2v), .second, .val (.long b2v), .second, .val (.ref b5), .unset, .unset, .unset, .unset, .unset, .unset, .unset, .unset, .unset] [(.ref b5)]))
  refine Go.st (fun t k => XS.lload X6.here hx rfl (hb hby at_101) rfl k) ?_
  show Go p.tables e below PP (T6.setTop (mkF m 103 #[.val (.long q1), .second, .val (.long q2), .second, .val (.long q3), .second, .val (.long q4), .second, .val (.long q5), .second, .val (.long nn), .second, .val (.long px1), .second, .val (.long py1), .second, .val (.long px2), .second, .val (.long py2), .second, .val (.long a1v), .second, .val (.long b1v), .second, .val (.long a2v), .second, .val (.long b2v), .second, .val (.ref b5), .unset, .unset, .unset, .unset, .unset, .unset, .unset, .unset, .unset] [(.long a1v), (.ref b5)]))
  refine Go.st (fun t k => XS.lload X6.here hx rfl (hb hby at_103) rfl k) ?_
  show Go p.tables e below PP (T6.setTop (mkF m 105 #[.val (.long q1), .second, .val (.long q2), .second, .val (.long q3), .second, .val (.long q4), .second, .val (.long q5), .second, .val (.long nn), .second, .val (.long px1), .second, .val (.long py1), .second, .val (.long px2), .second, .val (.long py2), .second, .val (.long a1v), .second, .val (.long b1v), .second, .val (.long a2v), .second, .val (.long b2v), .second, .val (.ref b5), .unset, .unset, .unset, .unset, .unset, .unset, .unset, .unset, .unset] [(.long b1v), (.long a1v), (.ref b5)]))
  obtain ⟨v7, T7, L7, X7, hQ7, st7⟩ := callVi X6 hx hZ (C := "com/example/warpfinder/warpfinder/index/PositionBits") (y := (⟨"com/example/warpfinder/warpfinder/index/PositionBits", "add", "(JJ)V"⟩ : MethodName)) (z := (⟨"com/example/warpfinder/warpfinder/index/PositionBits", "add", "(JJ)V"⟩ : MethodName)) (a := b5) (argsL := [(.long a1v), (.long b1v)]) (rest := []) hown (hw _ (List.mem_of_getElem? (i := 25) rfl)) (hw _ (List.mem_of_getElem? (i := 26) rfl)) (notFace_of_selects (args := #[]) (mvT hZ (hw _ (List.mem_of_getElem? (i := 28) rfl)))) (hw _ (List.mem_of_getElem? (i := 28) rfl)) (hw _ (List.mem_of_getElem? (i := 27) rfl)) (hw _ (List.mem_of_getElem? (i := 11) rfl)) (hw _ (List.mem_of_getElem? (i := 29) rfl)) (by decide) rfl E_b5 (rm5 l Z a0 hw [] b5 a1v b1v t_6 (nwI nn) (fun _ => (0 : Int64)) h6 n0 Zn F_words_b5 V_t_6 g_t_6 ne_b5_t_6 (own_hA nn _ _ hnn hab1)) e6 0 (by decide) (by decide) (by decide) (by decide) (g := (mkF m 105 #[.val (.long q1), .second, .val (.long q2), .second, .val (.long q3), .second, .val (.long q4), .second, .val (.long q5), .second, .val (.long nn), .second, .val (.long px1), .second, .val (.long py1), .second, .val (.long px2), .second, .val (.long py2), .second, .val (.long a1v), .second, .val (.long b1v), .second, .val (.long a2v), .second, .val (.long b2v), .second, .val (.ref b5), .unset, .unset, .unset, .unset, .unset, .unset, .unset, .unset, .unset] [(.long b1v), (.long a1v), (.ref b5)])) rfl (by rw [hml]; rfl) (lenOf pd_6 rfl) rfl (by show 2 * 0 + _ ≤ _; exact Nat.le_of_eq rfl) (hb hby at_105)
  obtain ⟨h7, e7⟩ : ∃ z, T7.heap = z := ⟨_, rfl⟩
  rw [e7] at hQ7
  obtain ⟨rfl, Nq7, Kq7, Fq7_0⟩ := hQ7
  have N7 := Fr.app N6 Nq7
  replace E_b5 := E_b5.keep Kq7
  replace F_size_b5 := F_size_b5.keep Kq7 (ninS ne_b5_t_6 nin0)
  replace F_words_b5 := F_words_b5.keep Kq7 (ninS ne_b5_t_6 nin0)
  clear V_t_6
  replace Zn := Nat.le_trans Zn Kq7.1
  have V_t_6 := Fq7_0
  refine Go.st st7 ?_
  show Go p.tables e below PP (T7.setTop (mkF m 108 #[.val (.long q1), .second, .val (.long q2), .second, .val (.long q3), .second, .val (.long q4), .second, .val (.long q5), .second, .val (.long nn), .second, .val (.long px1), .second, .val (.long py1), .second, .val (.long px2), .second, .val (.long py2), .second, .val (.long a1v), .second, .val (.long b1v), .second, .val (.long a2v), .second, .val (.long b2v), .second, .val (.ref b5), .unset, .unset, .unset, .unset, .unset, .unset, .unset, .unset, .unset] []))
  refine Go.st (fun t k => XS.aload X7.here hx rfl (hb hby at_108) rfl rfl k) ?_
  show Go p.tables e below PP (T7.setTop (mkF m 110 #[.val (.long q1), .second, .val (.long q2), .second, .val (.long q3), .second, .val (.long q4), .second, .val (.long q5), .second, .val (.long nn), .second, .val (.long px1), .second, .val (.long py1), .second, .val (.long px2), .second, .val (.long py2), .second, .val (.long a1v), .second, .val (.long b1v), .second, .val (.long a2v), .second, .val (.long b2v), .second, .val (.ref b5), .unset, .unset, .unset, .unset, .unset, .unset, .unset, .unset, .unset] [(.ref b5)]))
  refine Go.st (fun t k => XS.lload X7.here hx rfl (hb hby at_110) rfl k) ?_
  show Go p.tables e below PP (T7.setTop (mkF m 112 #[.val (.long q1), .second, .val (.long q2), .second, .val (.long q3), .second, .val (.long q4), .second, .val (.long q5), .second, .val (.long nn), .second, .val (.long px1), .second, .val (.long py1), .second, .val (.long px2), .second, .val (.long py2), .second, .val (.long a1v), .second, .val (.long b1v), .second, .val (.long a2v), .second, .val (.long b2v), .second, .val (.ref b5), .unset, .unset, .unset, .unset, .unset, .unset, .unset, .unset, .unset] [(.long a2v), (.ref b5)]))
  refine Go.st (fun t k => XS.lload X7.here hx rfl (hb hby at_112) rfl k) ?_
  show Go p.tables e below PP (T7.setTop (mkF m 114 #[.val (.long q1), .second, .val (.long q2), .second, .val (.long q3), .second, .val (.long q4), .second, .val (.long q5), .second, .val (.long nn), .second, .val (.long px1), .second, .val (.long py1), .second, .val (.long px2), .second, .val (.long py2), .second, .val (.long a1v), .second, .val (.long b1v), .second, .val (.long a2v), .second, .val (.long b2v), .second, .val (.ref b5), .unset, .unset, .unset, .unset, .unset, .unset, .unset, .unset, .unset] [(.long b2v), (.long a2v), (.ref b5)]))
  obtain ⟨v8, T8, L8, X8, hQ8, st8⟩ := callVi X7 hx hZ (C := "com/example/warpfinder/warpfinder/index/PositionBits") (y := (⟨"com/example/warpfinder/warpfinder/index/PositionBits", "add", "(JJ)V"⟩ : MethodName)) (z := (⟨"com/example/warpfinder/warpfinder/index/PositionBits", "add", "(JJ)V"⟩ : MethodName)) (a := b5) (argsL := [(.long a2v), (.long b2v)]) (rest := []) hown (hw _ (List.mem_of_getElem? (i := 25) rfl)) (hw _ (List.mem_of_getElem? (i := 26) rfl)) (notFace_of_selects (args := #[]) (mvT hZ (hw _ (List.mem_of_getElem? (i := 28) rfl)))) (hw _ (List.mem_of_getElem? (i := 28) rfl)) (hw _ (List.mem_of_getElem? (i := 27) rfl)) (hw _ (List.mem_of_getElem? (i := 11) rfl)) (hw _ (List.mem_of_getElem? (i := 29) rfl)) (by decide) rfl E_b5 (rm5 l Z a0 hw [] b5 a2v b2v t_6 (nwI nn) (addF (fun _ => (0 : Int64)) a1v b1v) h7 n0 Zn F_words_b5 V_t_6 g_t_6 ne_b5_t_6 (own_hA nn _ _ hnn hab2)) e7 0 (by decide) (by decide) (by decide) (by decide) (g := (mkF m 114 #[.val (.long q1), .second, .val (.long q2), .second, .val (.long q3), .second, .val (.long q4), .second, .val (.long q5), .second, .val (.long nn), .second, .val (.long px1), .second, .val (.long py1), .second, .val (.long px2), .second, .val (.long py2), .second, .val (.long a1v), .second, .val (.long b1v), .second, .val (.long a2v), .second, .val (.long b2v), .second, .val (.ref b5), .unset, .unset, .unset, .unset, .unset, .unset, .unset, .unset, .unset] [(.long b2v), (.long a2v), (.ref b5)])) rfl (by rw [hml]; rfl) (lenOf pd_6 rfl) rfl (by show 2 * 0 + _ ≤ _; exact Nat.le_of_eq rfl) (hb hby at_114)
  obtain ⟨h8, e8⟩ : ∃ z, T8.heap = z := ⟨_, rfl⟩
  rw [e8] at hQ8
  obtain ⟨rfl, Nq8, Kq8, Fq8_0⟩ := hQ8
  have N8 := Fr.app N7 Nq8
  replace E_b5 := E_b5.keep Kq8
  replace F_size_b5 := F_size_b5.keep Kq8 (ninS ne_b5_t_6 nin0)
  replace F_words_b5 := F_words_b5.keep Kq8 (ninS ne_b5_t_6 nin0)
  clear V_t_6
  replace Zn := Nat.le_trans Zn Kq8.1
  have V_t_6 := Fq8_0
  refine Go.st st8 ?_
  show Go p.tables e below PP (T8.setTop (mkF m 117 #[.val (.long q1), .second, .val (.long q2), .second, .val (.long q3), .second, .val (.long q4), .second, .val (.long q5), .second, .val (.long nn), .second, .val (.long px1), .second, .val (.long py1), .second, .val (.long px2), .second, .val (.long py2), .second, .val (.long a1v), .second, .val (.long b1v), .second, .val (.long a2v), .second, .val (.long b2v), .second, .val (.ref b5), .unset, .unset, .unset, .unset, .unset, .unset, .unset, .unset, .unset] []))
  by_cases hM : ((if b2v < b1v then b2v else b1v) + (1 : Int64)) < (if a1v < a2v then a2v else a1v)
  · --
    by_cases hlt : a1v < a2v
    · --
      show Go p.tables e below PP (T8.setTop (mkF m 117 #[.val (.long q1), .second, .val (.long q2), .second, .val (.long q3), .second, .val (.long q4), .second, .val (.long q5), .second, .val (.long nn), .second, .val (.long px1), .second, .val (.long py1), .second, .val (.long px2), .second, .val (.long py2), .second, .val (.long a1v), .second, .val (.long b1v), .second, .val (.long a2v), .second, .val (.long b2v), .second, .val (.ref b5), .unset, .unset, .unset, .unset, .unset, .unset, .unset, .unset, .unset] []))
      refine Go.st (fun t k => XS.aload X8.here hx rfl (hb hby at_117) rfl rfl k) ?_
      show Go p.tables e below PP (T8.setTop (mkF m 119 #[.val (.long q1), .second, .val (.long q2), .second, .val (.long q3), .second, .val (.long q4), .second, .val (.long q5), .second, .val (.long nn), .second, .val (.long px1), .second, .val (.long py1), .second, .val (.long px2), .second, .val (.long py2), .second, .val (.long a1v), .second, .val (.long b1v), .second, .val (.long a2v), .second, .val (.long b2v), .second, .val (.ref b5), .unset, .unset, .unset, .unset, .unset, .unset, .unset, .unset, .unset] [(.ref b5)]))
      obtain ⟨v9, T9, L9, X9, hQ9, st9⟩ := callVi X8 hx hZ (C := "com/example/warpfinder/warpfinder/index/PositionBits") (y := (⟨"com/example/warpfinder/warpfinder/index/PositionBits", "intervals", "()Lcom/example/warpfinder/warpfinder/index/Intervals;"⟩ : MethodName)) (z := (⟨"com/example/warpfinder/warpfinder/index/PositionBits", "intervals", "()Lcom/example/warpfinder/warpfinder/index/Intervals;"⟩ : MethodName)) (a := b5) (argsL := []) (rest := []) hown (hw _ (List.mem_of_getElem? (i := 31) rfl)) (hw _ (List.mem_of_getElem? (i := 32) rfl)) (notFace_of_selects (args := #[]) (mvT hZ (hw _ (List.mem_of_getElem? (i := 34) rfl)))) (hw _ (List.mem_of_getElem? (i := 34) rfl)) (hw _ (List.mem_of_getElem? (i := 33) rfl)) (hw _ (List.mem_of_getElem? (i := 11) rfl)) (hw _ (List.mem_of_getElem? (i := 35) rfl)) (by decide) rfl E_b5 (rm6 l Z a0 hw [] b5 t_6 (nwI nn) nn (addF (addF (fun _ => (0 : Int64)) a1v b1v) a2v b2v) (2 : Int32) (fun j => if j = 0 then a1v else a2v) (fun j => if j = 0 then b1v else b2v) h8 n0 Zn F_words_b5 F_size_b5 V_t_6 (((runs_law nn a1v b1v a2v b2v hnn hab1 hab2).2 hM).1 hlt)) e8 0 (by decide) (by decide) (by decide) (by decide) (g := (mkF m 119 #[.val (.long q1), .second, .val (.long q2), .second, .val (.long q3), .second, .val (.long q4), .second, .val (.long q5), .second, .val (.long nn), .second, .val (.long px1), .second, .val (.long py1), .second, .val (.long px2), .second, .val (.long py2), .second, .val (.long a1v), .second, .val (.long b1v), .second, .val (.long a2v), .second, .val (.long b2v), .second, .val (.ref b5), .unset, .unset, .unset, .unset, .unset, .unset, .unset, .unset, .unset] [(.ref b5)])) rfl (by rw [hml]; rfl) (lenOf pd_4 rfl) rfl (by show 2 * 0 + _ ≤ _; exact Nat.le_of_eq rfl) (hb hby at_119)
      obtain ⟨h9, e9⟩ : ∃ z, T9.heap = z := ⟨_, rfl⟩
      rw [e9] at hQ9
      obtain ⟨r_9, tb_9, rfl, Nq9, Kq9, sq9_r, sq9_tb, Fq9_0, Fq9_1, Fq9_2, Fq9_3⟩ := hQ9
      have N9 := Fr.app N8 Nq9
      have ne_b5_r_9 : b5 ≠ r_9 := Nat.ne_of_lt (Nat.lt_of_lt_of_le E_b5.lt sq9_r)
      have ne_t_6_r_9 : t_6 ≠ r_9 := Nat.ne_of_lt (Nat.lt_of_lt_of_le V_t_6.lt sq9_r)
      have g_r_9 : n0 ≤ r_9 := Nat.le_trans Zn sq9_r
      have ne_b5_tb_9 : b5 ≠ tb_9 := Nat.ne_of_lt (Nat.lt_of_lt_of_le E_b5.lt sq9_tb)
      have ne_t_6_tb_9 : t_6 ≠ tb_9 := Nat.ne_of_lt (Nat.lt_of_lt_of_le V_t_6.lt sq9_tb)
      have g_tb_9 : n0 ≤ tb_9 := Nat.le_trans Zn sq9_tb
      replace E_b5 := E_b5.keep Kq9
      replace F_size_b5 := F_size_b5.keep Kq9 nin0
      replace F_words_b5 := F_words_b5.keep Kq9 nin0
      replace V_t_6 := V_t_6.keep Kq9 nin0
      replace Zn := Nat.le_trans Zn Kq9.1
      have E_r_9 := Fq9_0
      have F_size_r_9 := Fq9_1
      have F_bounds_r_9 := Fq9_2
      have V_tb_9 := Fq9_3
      refine Go.st st9 ?_
      show Go p.tables e below PP (T9.setTop (mkF m 122 #[.val (.long q1), .second, .val (.long q2), .second, .val (.long q3), .second, .val (.long q4), .second, .val (.long q5), .second, .val (.long nn), .second, .val (.long px1), .second, .val (.long py1), .second, .val (.long px2), .second, .val (.long py2), .second, .val (.long a1v), .second, .val (.long b1v), .second, .val (.long a2v), .second, .val (.long b2v), .second, .val (.ref b5), .unset, .unset, .unset, .unset, .unset, .unset, .unset, .unset, .unset] [(.ref r_9)]))
      refine Go.st (fun t k => XS.astore X9.here hx rfl (hb hby at_122) rfl rfl (l' := #[.val (.long q1), .second, .val (.long q2), .second, .val (.long q3), .second, .val (.long q4), .second, .val (.long q5), .second, .val (.long nn), .second, .val (.long px1), .second, .val (.long py1), .second, .val (.long px2), .second, .val (.long py2), .second, .val (.long a1v), .second, .val (.long b1v), .second, .val (.long a2v), .second, .val (.long b2v), .second, .val (.ref b5), .val (.ref r_9), .unset, .unset, .unset, .unset, .unset, .unset, .unset, .unset]) rfl k) ?_
      show Go p.tables e below PP (T9.setTop (mkF m 124 #[.val (.long q1), .second, .val (.long q2), .second, .val (.long q3), .second, .val (.long q4), .second, .val (.long q5), .second, .val (.long nn), .second, .val (.long px1), .second, .val (.long py1), .second, .val (.long px2), .second, .val (.long py2), .second, .val (.long a1v), .second, .val (.long b1v), .second, .val (.long a2v), .second, .val (.long b2v), .second, .val (.ref b5), .val (.ref r_9), .unset, .unset, .unset, .unset, .unset, .unset, .unset, .unset] []))
      refine Go.st (fun t k => XS.lload X9.here hx rfl (hb hby at_124) rfl k) ?_
      show Go p.tables e below PP (T9.setTop (mkF m 126 #[.val (.long q1), .second, .val (.long q2), .second, .val (.long q3), .second, .val (.long q4), .second, .val (.long q5), .second, .val (.long nn), .second, .val (.long px1), .second, .val (.long py1), .second, .val (.long px2), .second, .val (.long py2), .second, .val (.long a1v), .second, .val (.long b1v), .second, .val (.long a2v), .second, .val (.long b2v), .second, .val (.ref b5), .val (.ref r_9), .unset, .unset, .unset, .unset, .unset, .unset, .unset, .unset] [(.long a1v)]))
      refine Go.st (fun t k => XS.lload X9.here hx rfl (hb hby at_126) rfl k) ?_
      show Go p.tables e below PP (T9.setTop (mkF m 128 #[.val (.long q1), .second, .val (.long q2), .second, .val (.long q3), .second, .val (.long q4), .second, .val (.long q5), .second, .val (.long nn), .second, .val (.long px1), .second, .val (.long py1), .second, .val (.long px2), .second, .val (.long py2), .second, .val (.long a1v), .second, .val (.long b1v), .second, .val (.long a2v), .second, .val (.long b2v), .second, .val (.ref b5), .val (.ref r_9), .unset, .unset, .unset, .unset, .unset, .unset, .unset, .unset] [(.long a2v), (.long a1v)]))
      obtain ⟨v10, T10, L10, X10, hQ10, st10⟩ := callSt X9 hx hZ (y := (⟨"java/lang/Math", "max", "(JJ)J"⟩ : MethodName)) (argsL := [(.long a1v), (.long a2v)]) (rest := []) hown (hw _ (List.mem_of_getElem? (i := 6) rfl)) (hw _ (List.mem_of_getElem? (i := 7) rfl)) (hw _ (List.mem_of_getElem? (i := 4) rfl)) (hw _ (List.mem_of_getElem? (i := 8) rfl)) (by decide) (rm2 l Z a0 hw [] a1v a2v h9 n0 Zn) e9 0 (by decide) (by decide) (by decide) (by decide) (g := (mkF m 128 #[.val (.long q1), .second, .val (.long q2), .second, .val (.long q3), .second, .val (.long q4), .second, .val (.long q5), .second, .val (.long nn), .second, .val (.long px1), .second, .val (.long py1), .second, .val (.long px2), .second, .val (.long py2), .second, .val (.long a1v), .second, .val (.long b1v), .second, .val (.long a2v), .second, .val (.long b2v), .second, .val (.ref b5), .val (.ref r_9), .unset, .unset, .unset, .unset, .unset, .unset, .unset, .unset] [(.long a2v), (.long a1v)])) rfl (by rw [hml]; rfl) (lenOf pd_7 rfl) rfl (by show 2 * 0 + _ ≤ _; exact Nat.le_of_eq rfl) (hb hby at_128)
      obtain ⟨rfl, rfl, e10⟩ := hQ10
      rw [List.append_nil] at X10
      refine Go.st st10 ?_
      show Go p.tables e below PP (T10.setTop (mkF m 131 #[.val (.long q1), .second, .val (.long q2), .second, .val (.long q3), .second, .val (.long q4), .second, .val (.long q5), .second, .val (.long nn), .second, .val (.long px1), .second, .val (.long py1), .second, .val (.long px2), .second, .val (.long py2), .second, .val (.long a1v), .second, .val (.long b1v), .second, .val (.long a2v), .second, .val (.long b2v), .second, .val (.ref b5), .val (.ref r_9), .unset, .unset, .unset, .unset, .unset, .unset, .unset, .unset] [(.long (if a1v < a2v then a2v else a1v))]))
      refine Go.st (fun t k => XS.lload X10.here hx rfl (hb hby at_131) rfl k) ?_
      show Go p.tables e below PP (T10.setTop (mkF m 133 #[.val (.long q1), .second, .val (.long q2), .second, .val (.long q3), .second, .val (.long q4), .second, .val (.long q5), .second, .val (.long nn), .second, .val (.long px1), .second, .val (.long py1), .second, .val (.long px2), .second, .val (.long py2), .second, .val (.long a1v), .second, .val (.long b1v), .second, .val (.long a2v), .second, .val (.long b2v), .second, .val (.ref b5), .val (.ref r_9), .unset, .unset, .unset, .unset, .unset, .unset, .unset, .unset] [(.long b1v), (.long (if a1v < a2v then a2v else a1v))]))
      refine Go.st (fun t k => XS.lload X10.here hx rfl (hb hby at_133) rfl k) ?_
      show Go p.tables e below PP (T10.setTop (mkF m 135 #[.val (.long q1), .second, .val (.long q2), .second, .val (.long q3), .second, .val (.long q4), .second, .val (.long q5), .second, .val (.long nn), .second, .val (.long px1), .second, .val (.long py1), .second, .val (.long px2), .second, .val (.long py2), .second, .val (.long a1v), .second, .val (.long b1v), .second, .val (.long a2v), .second, .val (.long b2v), .second, .val (.ref b5), .val (.ref r_9), .unset, .unset, .unset, .unset, .unset, .unset, .unset, .unset] [(.long b2v), (.long b1v), (.long (if a1v < a2v then a2v else a1v))]))
      obtain ⟨v11, T11, L11, X11, hQ11, st11⟩ := callSt X10 hx hZ (y := (⟨"java/lang/Math", "min", "(JJ)J"⟩ : MethodName)) (argsL := [(.long b1v), (.long b2v)]) (rest := [(.long (if a1v < a2v then a2v else a1v))]) hown (hw _ (List.mem_of_getElem? (i := 2) rfl)) (hw _ (List.mem_of_getElem? (i := 3) rfl)) (hw _ (List.mem_of_getElem? (i := 4) rfl)) (hw _ (List.mem_of_getElem? (i := 5) rfl)) (by decide) (rm1 l Z a0 hw [] b1v b2v h9 n0 Zn) e10 2 (by decide) (by decide) (by decide) (by decide) (g := (mkF m 135 #[.val (.long q1), .second, .val (.long q2), .second, .val (.long q3), .second, .val (.long q4), .second, .val (.long q5), .second, .val (.long nn), .second, .val (.long px1), .second, .val (.long py1), .second, .val (.long px2), .second, .val (.long py2), .second, .val (.long a1v), .second, .val (.long b1v), .second, .val (.long a2v), .second, .val (.long b2v), .second, .val (.ref b5), .val (.ref r_9), .unset, .unset, .unset, .unset, .unset, .unset, .unset, .unset] [(.long b2v), (.long b1v), (.long (if a1v < a2v then a2v else a1v))])) rfl (by rw [hml]; rfl) (lenOf pd_7 rfl) rfl (by show 2 * 0 + _ ≤ _; exact Nat.le_of_eq rfl) (hb hby at_135)
      obtain ⟨rfl, rfl, e11⟩ := hQ11
      rw [List.append_nil] at X11
      refine Go.st st11 ?_
      show Go p.tables e below PP (T11.setTop (mkF m 138 #[.val (.long q1), .second, .val (.long q2), .second, .val (.long q3), .second, .val (.long q4), .second, .val (.long q5), .second, .val (.long nn), .second, .val (.long px1), .second, .val (.long py1), .second, .val (.long px2), .second, .val (.long py2), .second, .val (.long a1v), .second, .val (.long b1v), .second, .val (.long a2v), .second, .val (.long b2v), .second, .val (.ref b5), .val (.ref r_9), .unset, .unset, .unset, .unset, .unset, .unset, .unset, .unset] [(.long (if b2v < b1v then b2v else b1v)), (.long (if a1v < a2v then a2v else a1v))]))
      refine Go.st (fun t k => XS.lconst X11.here hx rfl (hb hby at_138) k) ?_
      show Go p.tables e below PP (T11.setTop (mkF m 139 #[.val (.long q1), .second, .val (.long q2), .second, .val (.long q3), .second, .val (.long q4), .second, .val (.long q5), .second, .val (.long nn), .second, .val (.long px1), .second, .val (.long py1), .second, .val (.long px2), .second, .val (.long py2), .second, .val (.long a1v), .second, .val (.long b1v), .second, .val (.long a2v), .second, .val (.long b2v), .second, .val (.ref b5), .val (.ref r_9), .unset, .unset, .unset, .unset, .unset, .unset, .unset, .unset] [(.long (1 : Int64)), (.long (if b2v < b1v then b2v else b1v)), (.long (if a1v < a2v then a2v else a1v))]))
      refine Go.st (fun t k => XS.ladd X11.here hx rfl (hb hby at_139) rfl k) ?_
      show Go p.tables e below PP (T11.setTop (mkF m 140 #[.val (.long q1), .second, .val (.long q2), .second, .val (.long q3), .second, .val (.long q4), .second, .val (.long q5), .second, .val (.long nn), .second, .val (.long px1), .second, .val (.long py1), .second, .val (.long px2), .second, .val (.long py2), .second, .val (.long a1v), .second, .val (.long b1v), .second, .val (.long a2v), .second, .val (.long b2v), .second, .val (.ref b5), .val (.ref r_9), .unset, .unset, .unset, .unset, .unset, .unset, .unset, .unset] [(.long ((if b2v < b1v then b2v else b1v) + (1 : Int64))), (.long (if a1v < a2v then a2v else a1v))]))
      refine Go.st (fun t k => XS.lcmp X11.here hx rfl (hb hby at_140) rfl k) ?_
      show Go p.tables e below PP (T11.setTop (mkF m 141 #[.val (.long q1), .second, .val (.long q2), .second, .val (.long q3), .second, .val (.long q4), .second, .val (.long q5), .second, .val (.long nn), .second, .val (.long px1), .second, .val (.long py1), .second, .val (.long px2), .second, .val (.long py2), .second, .val (.long a1v), .second, .val (.long b1v), .second, .val (.long a2v), .second, .val (.long b2v), .second, .val (.ref b5), .val (.ref r_9), .unset, .unset, .unset, .unset, .unset, .unset, .unset, .unset] [(.int (XT.cmpL (if a1v < a2v then a2v else a1v) ((if b2v < b1v then b2v else b1v) + (1 : Int64))))]))
      refine Go.st (fun t k => XS.ifYes X11.here hx rfl (pc0 := 141) (pc' := 201) rfl (hb hby at_141) rfl (XT.ll_gt_t hM) (by decide) (by decide) k) ?_
      show Go p.tables e below PP (T11.setTop (mkF m 201 #[.val (.long q1), .second, .val (.long q2), .second, .val (.long q3), .second, .val (.long q4), .second, .val (.long q5), .second, .val (.long nn), .second, .val (.long px1), .second, .val (.long py1), .second, .val (.long px2), .second, .val (.long py2), .second, .val (.long a1v), .second, .val (.long b1v), .second, .val (.long a2v), .second, .val (.long b2v), .second, .val (.ref b5), .val (.ref r_9), .unset, .unset, .unset, .unset, .unset, .unset, .unset, .unset] []))
      refine Go.st (fun t k => XS.lload X11.here hx rfl (hb hby at_201) rfl k) ?_
      show Go p.tables e below PP (T11.setTop (mkF m 203 #[.val (.long q1), .second, .val (.long q2), .second, .val (.long q3), .second, .val (.long q4), .second, .val (.long q5), .second, .val (.long nn), .second, .val (.long px1), .second, .val (.long py1), .second, .val (.long px2), .second, .val (.long py2), .second, .val (.long a1v), .second, .val (.long b1v), .second, .val (.long a2v), .second, .val (.long b2v), .second, .val (.ref b5), .val (.ref r_9), .unset, .unset, .unset, .unset, .unset, .unset, .unset, .unset] [(.long a1v)]))
      refine Go.st (fun t k => XS.lload X11.here hx rfl (hb hby at_203) rfl k) ?_
      show Go p.tables e below PP (T11.setTop (mkF m 205 #[.val (.long q1), .second, .val (.long q2), .second, .val (.long q3), .second, .val (.long q4), .second, .val (.long q5), .second, .val (.long nn), .second, .val (.long px1), .second, .val (.long py1), .second, .val (.long px2), .second, .val (.long py2), .second, .val (.long a1v), .second, .val (.long b1v), .second, .val (.long a2v), .second, .val (.long b2v), .second, .val (.ref b5), .val (.ref r_9), .unset, .unset, .unset, .unset, .unset, .unset, .unset, .unset] [(.long a2v), (.long a1v)]))
      refine Go.st (fun t k => XS.lcmp X11.here hx rfl (hb hby at_205) rfl k) ?_
      show Go p.tables e below PP (T11.setTop (mkF m 206 #[.val (.long q1), .second, .val (.long q2), .second, .val (.long q3), .second, .val (.long q4), .second, .val (.long q5), .second, .val (.long nn), .second, .val (.long px1), .second, .val (.long py1), .second, .val (.long px2), .second, .val (.long py2), .second, .val (.long a1v), .second, .val (.long b1v), .second, .val (.long a2v), .second, .val (.long b2v), .second, .val (.ref b5), .val (.ref r_9), .unset, .unset, .unset, .unset, .unset, .unset, .unset, .unset] [(.int (XT.cmpL a1v a2v))]))
      refine Go.st (fun t k => XS.ifNo X11.here hx rfl (hb hby at_206) rfl (XT.ll_ge_f hlt) k) ?_
      show Go p.tables e below PP (T11.setTop (mkF m 209 #[.val (.long q1), .second, .val (.long q2), .second, .val (.long q3), .second, .val (.long q4), .second, .val (.long q5), .second, .val (.long nn), .second, .val (.long px1), .second, .val (.long py1), .second, .val (.long px2), .second, .val (.long py2), .second, .val (.long a1v), .second, .val (.long b1v), .second, .val (.long a2v), .second, .val (.long b2v), .second, .val (.ref b5), .val (.ref r_9), .unset, .unset, .unset, .unset, .unset, .unset, .unset, .unset] []))
      refine Go.st (fun t k => XS.lload X11.here hx rfl (hb hby at_209) rfl k) ?_
      show Go p.tables e below PP (T11.setTop (mkF m 211 #[.val (.long q1), .second, .val (.long q2), .second, .val (.long q3), .second, .val (.long q4), .second, .val (.long q5), .second, .val (.long nn), .second, .val (.long px1), .second, .val (.long py1), .second, .val (.long px2), .second, .val (.long py2), .second, .val (.long a1v), .second, .val (.long b1v), .second, .val (.long a2v), .second, .val (.long b2v), .second, .val (.ref b5), .val (.ref r_9), .unset, .unset, .unset, .unset, .unset, .unset, .unset, .unset] [(.long a1v)]))
      refine Go.st (fun t k => XS.goto X11.here hx rfl (pc0 := 211) (pc' := 216) rfl (hb hby at_211) (by decide) (by decide) k) ?_
      show Go p.tables e below PP (T11.setTop (mkF m 216 #[.val (.long q1), .second, .val (.long q2), .second, .val (.long q3), .second, .val (.long q4), .second, .val (.long q5), .second, .val (.long nn), .second, .val (.long px1), .second, .val (.long py1), .second, .val (.long px2), .second, .val (.long py2), .second, .val (.long a1v), .second, .val (.long b1v), .second, .val (.long a2v), .second, .val (.long b2v), .second, .val (.ref b5), .val (.ref r_9), .unset, .unset, .unset, .unset, .unset, .unset, .unset, .unset] [(.long a1v)]))
      refine Go.st (fun t k => XS.lstore X11.here hx rfl (hb hby at_216) rfl (l' := #[.val (.long q1), .second, .val (.long q2), .second, .val (.long q3), .second, .val (.long q4), .second, .val (.long q5), .second, .val (.long nn), .second, .val (.long px1), .second, .val (.long py1), .second, .val (.long px2), .second, .val (.long py2), .second, .val (.long a1v), .second, .val (.long b1v), .second, .val (.long a2v), .second, .val (.long b2v), .second, .val (.ref b5), .val (.ref r_9), .val (.long a1v), .second, .unset, .unset, .unset, .unset, .unset, .unset]) rfl k) ?_
      show Go p.tables e below PP (T11.setTop (mkF m 218 #[.val (.long q1), .second, .val (.long q2), .second, .val (.long q3), .second, .val (.long q4), .second, .val (.long q5), .second, .val (.long nn), .second, .val (.long px1), .second, .val (.long py1), .second, .val (.long px2), .second, .val (.long py2), .second, .val (.long a1v), .second, .val (.long b1v), .second, .val (.long a2v), .second, .val (.long b2v), .second, .val (.ref b5), .val (.ref r_9), .val (.long a1v), .second, .unset, .unset, .unset, .unset, .unset, .unset] []))
      refine Go.st (fun t k => XS.lload X11.here hx rfl (hb hby at_218) rfl k) ?_
      show Go p.tables e below PP (T11.setTop (mkF m 220 #[.val (.long q1), .second, .val (.long q2), .second, .val (.long q3), .second, .val (.long q4), .second, .val (.long q5), .second, .val (.long nn), .second, .val (.long px1), .second, .val (.long py1), .second, .val (.long px2), .second, .val (.long py2), .second, .val (.long a1v), .second, .val (.long b1v), .second, .val (.long a2v), .second, .val (.long b2v), .second, .val (.ref b5), .val (.ref r_9), .val (.long a1v), .second, .unset, .unset, .unset, .unset, .unset, .unset] [(.long a1v)]))
      refine Go.st (fun t k => XS.lload X11.here hx rfl (hb hby at_220) rfl k) ?_
      show Go p.tables e below PP (T11.setTop (mkF m 222 #[.val (.long q1), .second, .val (.long q2), .second, .val (.long q3), .second, .val (.long q4), .second, .val (.long q5), .second, .val (.long nn), .second, .val (.long px1), .second, .val (.long py1), .second, .val (.long px2), .second, .val (.long py2), .second, .val (.long a1v), .second, .val (.long b1v), .second, .val (.long a2v), .second, .val (.long b2v), .second, .val (.ref b5), .val (.ref r_9), .val (.long a1v), .second, .unset, .unset, .unset, .unset, .unset, .unset] [(.long a2v), (.long a1v)]))
      refine Go.st (fun t k => XS.lcmp X11.here hx rfl (hb hby at_222) rfl k) ?_
      show Go p.tables e below PP (T11.setTop (mkF m 223 #[.val (.long q1), .second, .val (.long q2), .second, .val (.long q3), .second, .val (.long q4), .second, .val (.long q5), .second, .val (.long nn), .second, .val (.long px1), .second, .val (.long py1), .second, .val (.long px2), .second, .val (.long py2), .second, .val (.long a1v), .second, .val (.long b1v), .second, .val (.long a2v), .second, .val (.long b2v), .second, .val (.ref b5), .val (.ref r_9), .val (.long a1v), .second, .unset, .unset, .unset, .unset, .unset, .unset] [(.int (XT.cmpL a1v a2v))]))
      refine Go.st (fun t k => XS.ifNo X11.here hx rfl (hb hby at_223) rfl (XT.ll_ge_f hlt) k) ?_
      show Go p.tables e below PP (T11.setTop (mkF m 226 #[.val (.long q1), .second, .val (.long q2), .second, .val (.long q3), .second, .val (.long q4), .second, .val (.long q5), .second, .val (.long nn), .second, .val (.long px1), .second, .val (.long py1), .second, .val (.long px2), .second, .val (.long py2), .second, .val (.long a1v), .second, .val (.long b1v), .second, .val (.long a2v), .second, .val (.long b2v), .second, .val (.ref b5), .val (.ref r_9), .val (.long a1v), .second, .unset, .unset, .unset, .unset, .unset, .unset] []))
      refine Go.st (fun t k => XS.lload X11.here hx rfl (hb hby at_226) rfl k) ?_
      show Go p.tables e below PP (T11.setTop (mkF m 228 #[.val (.long q1), .second, .val (.long q2), .second, .val (.long q3), .second, .val (.long q4), .second, .val (.long q5), .second, .val (.long nn), .second, .val (.long px1), .second, .val (.long py1), .second, .val (.long px2), .second, .val (.long py2), .second, .val (.long a1v), .second, .val (.long b1v), .second, .val (.long a2v), .second, .val (.long b2v), .second, .val (.ref b5), .val (.ref r_9), .val (.long a1v), .second, .unset, .unset, .unset, .unset, .unset, .unset] [(.long b1v)]))
      refine Go.st (fun t k => XS.goto X11.here hx rfl (pc0 := 228) (pc' := 233) rfl (hb hby at_228) (by decide) (by decide) k) ?_
      show Go p.tables e below PP (T11.setTop (mkF m 233 #[.val (.long q1), .second, .val (.long q2), .second, .val (.long q3), .second, .val (.long q4), .second, .val (.long q5), .second, .val (.long nn), .second, .val (.long px1), .second, .val (.long py1), .second, .val (.long px2), .second, .val (.long py2), .second, .val (.long a1v), .second, .val (.long b1v), .second, .val (.long a2v), .second, .val (.long b2v), .second, .val (.ref b5), .val (.ref r_9), .val (.long a1v), .second, .unset, .unset, .unset, .unset, .unset, .unset] [(.long b1v)]))
      refine Go.st (fun t k => XS.lstore X11.here hx rfl (hb hby at_233) rfl (l' := #[.val (.long q1), .second, .val (.long q2), .second, .val (.long q3), .second, .val (.long q4), .second, .val (.long q5), .second, .val (.long nn), .second, .val (.long px1), .second, .val (.long py1), .second, .val (.long px2), .second, .val (.long py2), .second, .val (.long a1v), .second, .val (.long b1v), .second, .val (.long a2v), .second, .val (.long b2v), .second, .val (.ref b5), .val (.ref r_9), .val (.long a1v), .second, .val (.long b1v), .second, .unset, .unset, .unset, .unset]) rfl k) ?_
      show Go p.tables e below PP (T11.setTop (mkF m 235 #[.val (.long q1), .second, .val (.long q2), .second, .val (.long q3), .second, .val (.long q4), .second, .val (.long q5), .second, .val (.long nn), .second, .val (.long px1), .second, .val (.long py1), .second, .val (.long px2), .second, .val (.long py2), .second, .val (.long a1v), .second, .val (.long b1v), .second, .val (.long a2v), .second, .val (.long b2v), .second, .val (.ref b5), .val (.ref r_9), .val (.long a1v), .second, .val (.long b1v), .second, .unset, .unset, .unset, .unset] []))
      refine Go.st (fun t k => XS.lload X11.here hx rfl (hb hby at_235) rfl k) ?_
      show Go p.tables e below PP (T11.setTop (mkF m 237 #[.val (.long q1), .second, .val (.long q2), .second, .val (.long q3), .second, .val (.long q4), .second, .val (.long q5), .second, .val (.long nn), .second, .val (.long px1), .second, .val (.long py1), .second, .val (.long px2), .second, .val (.long py2), .second, .val (.long a1v), .second, .val (.long b1v), .second, .val (.long a2v), .second, .val (.long b2v), .second, .val (.ref b5), .val (.ref r_9), .val (.long a1v), .second, .val (.long b1v), .second, .unset, .unset, .unset, .unset] [(.long a1v)]))
      refine Go.st (fun t k => XS.lload X11.here hx rfl (hb hby at_237) rfl k) ?_
      show Go p.tables e below PP (T11.setTop (mkF m 239 #[.val (.long q1), .second, .val (.long q2), .second, .val (.long q3), .second, .val (.long q4), .second, .val (.long q5), .second, .val (.long nn), .second, .val (.long px1), .second, .val (.long py1), .second, .val (.long px2), .second, .val (.long py2), .second, .val (.long a1v), .second, .val (.long b1v), .second, .val (.long a2v), .second, .val (.long b2v), .second, .val (.ref b5), .val (.ref r_9), .val (.long a1v), .second, .val (.long b1v), .second, .unset, .unset, .unset, .unset] [(.long a2v), (.long a1v)]))
      refine Go.st (fun t k => XS.lcmp X11.here hx rfl (hb hby at_239) rfl k) ?_
      show Go p.tables e below PP (T11.setTop (mkF m 240 #[.val (.long q1), .second, .val (.long q2), .second, .val (.long q3), .second, .val (.long q4), .second, .val (.long q5), .second, .val (.long nn), .second, .val (.long px1), .second, .val (.long py1), .second, .val (.long px2), .second, .val (.long py2), .second, .val (.long a1v), .second, .val (.long b1v), .second, .val (.long a2v), .second, .val (.long b2v), .second, .val (.ref b5), .val (.ref r_9), .val (.long a1v), .second, .val (.long b1v), .second, .unset, .unset, .unset, .unset] [(.int (XT.cmpL a1v a2v))]))
      refine Go.st (fun t k => XS.ifNo X11.here hx rfl (hb hby at_240) rfl (XT.ll_ge_f hlt) k) ?_
      show Go p.tables e below PP (T11.setTop (mkF m 243 #[.val (.long q1), .second, .val (.long q2), .second, .val (.long q3), .second, .val (.long q4), .second, .val (.long q5), .second, .val (.long nn), .second, .val (.long px1), .second, .val (.long py1), .second, .val (.long px2), .second, .val (.long py2), .second, .val (.long a1v), .second, .val (.long b1v), .second, .val (.long a2v), .second, .val (.long b2v), .second, .val (.ref b5), .val (.ref r_9), .val (.long a1v), .second, .val (.long b1v), .second, .unset, .unset, .unset, .unset] []))
      refine Go.st (fun t k => XS.lload X11.here hx rfl (hb hby at_243) rfl k) ?_
      show Go p.tables e below PP (T11.setTop (mkF m 245 #[.val (.long q1), .second, .val (.long q2), .second, .val (.long q3), .second, .val (.long q4), .second, .val (.long q5), .second, .val (.long nn), .second, .val (.long px1), .second, .val (.long py1), .second, .val (.long px2), .second, .val (.long py2), .second, .val (.long a1v), .second, .val (.long b1v), .second, .val (.long a2v), .second, .val (.long b2v), .second, .val (.ref b5), .val (.ref r_9), .val (.long a1v), .second, .val (.long b1v), .second, .unset, .unset, .unset, .unset] [(.long a2v)]))
      refine Go.st (fun t k => XS.goto X11.here hx rfl (pc0 := 245) (pc' := 250) rfl (hb hby at_245) (by decide) (by decide) k) ?_
      show Go p.tables e below PP (T11.setTop (mkF m 250 #[.val (.long q1), .second, .val (.long q2), .second, .val (.long q3), .second, .val (.long q4), .second, .val (.long q5), .second, .val (.long nn), .second, .val (.long px1), .second, .val (.long py1), .second, .val (.long px2), .second, .val (.long py2), .second, .val (.long a1v), .second, .val (.long b1v), .second, .val (.long a2v), .second, .val (.long b2v), .second, .val (.ref b5), .val (.ref r_9), .val (.long a1v), .second, .val (.long b1v), .second, .unset, .unset, .unset, .unset] [(.long a2v)]))
      refine Go.st (fun t k => XS.lstore X11.here hx rfl (hb hby at_250) rfl (l' := #[.val (.long q1), .second, .val (.long q2), .second, .val (.long q3), .second, .val (.long q4), .second, .val (.long q5), .second, .val (.long nn), .second, .val (.long px1), .second, .val (.long py1), .second, .val (.long px2), .second, .val (.long py2), .second, .val (.long a1v), .second, .val (.long b1v), .second, .val (.long a2v), .second, .val (.long b2v), .second, .val (.ref b5), .val (.ref r_9), .val (.long a1v), .second, .val (.long b1v), .second, .val (.long a2v), .second, .unset, .unset]) rfl k) ?_
      show Go p.tables e below PP (T11.setTop (mkF m 252 #[.val (.long q1), .second, .val (.long q2), .second, .val (.long q3), .second, .val (.long q4), .second, .val (.long q5), .second, .val (.long nn), .second, .val (.long px1), .second, .val (.long py1), .second, .val (.long px2), .second, .val (.long py2), .second, .val (.long a1v), .second, .val (.long b1v), .second, .val (.long a2v), .second, .val (.long b2v), .second, .val (.ref b5), .val (.ref r_9), .val (.long a1v), .second, .val (.long b1v), .second, .val (.long a2v), .second, .unset, .unset] []))
      refine Go.st (fun t k => XS.lload X11.here hx rfl (hb hby at_252) rfl k) ?_
      show Go p.tables e below PP (T11.setTop (mkF m 254 #[.val (.long q1), .second, .val (.long q2), .second, .val (.long q3), .second, .val (.long q4), .second, .val (.long q5), .second, .val (.long nn), .second, .val (.long px1), .second, .val (.long py1), .second, .val (.long px2), .second, .val (.long py2), .second, .val (.long a1v), .second, .val (.long b1v), .second, .val (.long a2v), .second, .val (.long b2v), .second, .val (.ref b5), .val (.ref r_9), .val (.long a1v), .second, .val (.long b1v), .second, .val (.long a2v), .second, .unset, .unset] [(.long a1v)]))
      refine Go.st (fun t k => XS.lload X11.here hx rfl (hb hby at_254) rfl k) ?_
      show Go p.tables e below PP (T11.setTop (mkF m 256 #[.val (.long q1), .second, .val (.long q2), .second, .val (.long q3), .second, .val (.long q4), .second, .val (.long q5), .second, .val (.long nn), .second, .val (.long px1), .second, .val (.long py1), .second, .val (.long px2), .second, .val (.long py2), .second, .val (.long a1v), .second, .val (.long b1v), .second, .val (.long a2v), .second, .val (.long b2v), .second, .val (.ref b5), .val (.ref r_9), .val (.long a1v), .second, .val (.long b1v), .second, .val (.long a2v), .second, .unset, .unset] [(.long a2v), (.long a1v)]))
      refine Go.st (fun t k => XS.lcmp X11.here hx rfl (hb hby at_256) rfl k) ?_
      show Go p.tables e below PP (T11.setTop (mkF m 257 #[.val (.long q1), .second, .val (.long q2), .second, .val (.long q3), .second, .val (.long q4), .second, .val (.long q5), .second, .val (.long nn), .second, .val (.long px1), .second, .val (.long py1), .second, .val (.long px2), .second, .val (.long py2), .second, .val (.long a1v), .second, .val (.long b1v), .second, .val (.long a2v), .second, .val (.long b2v), .second, .val (.ref b5), .val (.ref r_9), .val (.long a1v), .second, .val (.long b1v), .second, .val (.long a2v), .second, .unset, .unset] [(.int (XT.cmpL a1v a2v))]))
      refine Go.st (fun t k => XS.ifNo X11.here hx rfl (hb hby at_257) rfl (XT.ll_ge_f hlt) k) ?_
      show Go p.tables e below PP (T11.setTop (mkF m 260 #[.val (.long q1), .second, .val (.long q2), .second, .val (.long q3), .second, .val (.long q4), .second, .val (.long q5), .second, .val (.long nn), .second, .val (.long px1), .second, .val (.long py1), .second, .val (.long px2), .second, .val (.long py2), .second, .val (.long a1v), .second, .val (.long b1v), .second, .val (.long a2v), .second, .val (.long b2v), .second, .val (.ref b5), .val (.ref r_9), .val (.long a1v), .second, .val (.long b1v), .second, .val (.long a2v), .second, .unset, .unset] []))
      refine Go.st (fun t k => XS.lload X11.here hx rfl (hb hby at_260) rfl k) ?_
      show Go p.tables e below PP (T11.setTop (mkF m 262 #[.val (.long q1), .second, .val (.long q2), .second, .val (.long q3), .second, .val (.long q4), .second, .val (.long q5), .second, .val (.long nn), .second, .val (.long px1), .second, .val (.long py1), .second, .val (.long px2), .second, .val (.long py2), .second, .val (.long a1v), .second, .val (.long b1v), .second, .val (.long a2v), .second, .val (.long b2v), .second, .val (.ref b5), .val (.ref r_9), .val (.long a1v), .second, .val (.long b1v), .second, .val (.long a2v), .second, .unset, .unset] [(.long b2v)]))
      refine Go.st (fun t k => XS.goto X11.here hx rfl (pc0 := 262) (pc' := 267) rfl (hb hby at_262) (by decide) (by decide) k) ?_
      show Go p.tables e below PP (T11.setTop (mkF m 267 #[.val (.long q1), .second, .val (.long q2), .second, .val (.long q3), .second, .val (.long q4), .second, .val (.long q5), .second, .val (.long nn), .second, .val (.long px1), .second, .val (.long py1), .second, .val (.long px2), .second, .val (.long py2), .second, .val (.long a1v), .second, .val (.long b1v), .second, .val (.long a2v), .second, .val (.long b2v), .second, .val (.ref b5), .val (.ref r_9), .val (.long a1v), .second, .val (.long b1v), .second, .val (.long a2v), .second, .unset, .unset] [(.long b2v)]))
      refine Go.st (fun t k => XS.lstore X11.here hx rfl (hb hby at_267) rfl (l' := #[.val (.long q1), .second, .val (.long q2), .second, .val (.long q3), .second, .val (.long q4), .second, .val (.long q5), .second, .val (.long nn), .second, .val (.long px1), .second, .val (.long py1), .second, .val (.long px2), .second, .val (.long py2), .second, .val (.long a1v), .second, .val (.long b1v), .second, .val (.long a2v), .second, .val (.long b2v), .second, .val (.ref b5), .val (.ref r_9), .val (.long a1v), .second, .val (.long b1v), .second, .val (.long a2v), .second, .val (.long b2v), .second]) rfl k) ?_
      show Go p.tables e below PP (T11.setTop (mkF m 269 #[.val (.long q1), .second, .val (.long q2), .second, .val (.long q3), .second, .val (.long q4), .second, .val (.long q5), .second, .val (.long nn), .second, .val (.long px1), .second, .val (.long py1), .second, .val (.long px2), .second, .val (.long py2), .second, .val (.long a1v), .second, .val (.long b1v), .second, .val (.long a2v), .second, .val (.long b2v), .second, .val (.ref b5), .val (.ref r_9), .val (.long a1v), .second, .val (.long b1v), .second, .val (.long a2v), .second, .val (.long b2v), .second] []))
      refine Go.st (fun t k => XS.aload X11.here hx rfl (hb hby at_269) rfl rfl k) ?_
      show Go p.tables e below PP (T11.setTop (mkF m 271 #[.val (.long q1), .second, .val (.long q2), .second, .val (.long q3), .second, .val (.long q4), .second, .val (.long q5), .second, .val (.long nn), .second, .val (.long px1), .second, .val (.long py1), .second, .val (.long px2), .second, .val (.long py2), .second, .val (.long a1v), .second, .val (.long b1v), .second, .val (.long a2v), .second, .val (.long b2v), .second, .val (.ref b5), .val (.ref r_9), .val (.long a1v), .second, .val (.long b1v), .second, .val (.long a2v), .second, .val (.long b2v), .second] [(.ref r_9)]))
      obtain ⟨v12, T12, L12, X12, hQ12, st12⟩ := callVi X11 hx hZ (C := "com/example/warpfinder/warpfinder/index/Intervals") (y := (⟨"com/example/warpfinder/warpfinder/index/Intervals", "size", "()I"⟩ : MethodName)) (z := (⟨"com/example/warpfinder/warpfinder/index/Intervals", "size", "()I"⟩ : MethodName)) (a := r_9) (argsL := []) (rest := []) hown (hw _ (List.mem_of_getElem? (i := 80) rfl)) (hw _ (List.mem_of_getElem? (i := 81) rfl)) (notFace_of_selects (args := #[]) (mvT hZ (hw _ (List.mem_of_getElem? (i := 83) rfl)))) (hw _ (List.mem_of_getElem? (i := 83) rfl)) (hw _ (List.mem_of_getElem? (i := 82) rfl)) (hw _ (List.mem_of_getElem? (i := 71) rfl)) (hw _ (List.mem_of_getElem? (i := 84) rfl)) (by decide) rfl E_r_9 (rm14 l Z a0 hw [] r_9 (2 : Int32) h9 n0 Zn F_size_r_9) e11 0 (by decide) (by decide) (by decide) (by decide) (g := (mkF m 271 #[.val (.long q1), .second, .val (.long q2), .second, .val (.long q3), .second, .val (.long q4), .second, .val (.long q5), .second, .val (.long nn), .second, .val (.long px1), .second, .val (.long py1), .second, .val (.long px2), .second, .val (.long py2), .second, .val (.long a1v), .second, .val (.long b1v), .second, .val (.long a2v), .second, .val (.long b2v), .second, .val (.ref b5), .val (.ref r_9), .val (.long a1v), .second, .val (.long b1v), .second, .val (.long a2v), .second, .val (.long b2v), .second] [(.ref r_9)])) rfl (by rw [hml]; rfl) (lenOf pd_9 rfl) rfl (by show 2 * 0 + _ ≤ _; exact Nat.le_of_eq rfl) (hb hby at_271)
      obtain ⟨rfl, rfl, e12⟩ := hQ12
      rw [List.append_nil] at X12
      refine Go.st st12 ?_
      show Go p.tables e below PP (T12.setTop (mkF m 274 #[.val (.long q1), .second, .val (.long q2), .second, .val (.long q3), .second, .val (.long q4), .second, .val (.long q5), .second, .val (.long nn), .second, .val (.long px1), .second, .val (.long py1), .second, .val (.long px2), .second, .val (.long py2), .second, .val (.long a1v), .second, .val (.long b1v), .second, .val (.long a2v), .second, .val (.long b2v), .second, .val (.ref b5), .val (.ref r_9), .val (.long a1v), .second, .val (.long b1v), .second, .val (.long a2v), .second, .val (.long b2v), .second] [(.int (2 : Int32))]))
      refine Go.st (fun t k => XS.iconst X12.here hx rfl (hb hby at_274) k) ?_
      show Go p.tables e below PP (T12.setTop (mkF m 275 #[.val (.long q1), .second, .val (.long q2), .second, .val (.long q3), .second, .val (.long q4), .second, .val (.long q5), .second, .val (.long nn), .second, .val (.long px1), .second, .val (.long py1), .second, .val (.long px2), .second, .val (.long py2), .second, .val (.long a1v), .second, .val (.long b1v), .second, .val (.long a2v), .second, .val (.long b2v), .second, .val (.ref b5), .val (.ref r_9), .val (.long a1v), .second, .val (.long b1v), .second, .val (.long a2v), .second, .val (.long b2v), .second] [(.int (2 : Int32)), (.int (2 : Int32))]))
      refine Go.st (fun t k => XS.icmpNo X12.here hx rfl (hb hby at_275) rfl (XT.ii_ne_f (by decide)) k) ?_
      show Go p.tables e below PP (T12.setTop (mkF m 278 #[.val (.long q1), .second, .val (.long q2), .second, .val (.long q3), .second, .val (.long q4), .second, .val (.long q5), .second, .val (.long nn), .second, .val (.long px1), .second, .val (.long py1), .second, .val (.long px2), .second, .val (.long py2), .second, .val (.long a1v), .second, .val (.long b1v), .second, .val (.long a2v), .second, .val (.long b2v), .second, .val (.ref b5), .val (.ref r_9), .val (.long a1v), .second, .val (.long b1v), .second, .val (.long a2v), .second, .val (.long b2v), .second] []))
      refine Go.st (fun t k => XS.aload X12.here hx rfl (hb hby at_278) rfl rfl k) ?_
      show Go p.tables e below PP (T12.setTop (mkF m 280 #[.val (.long q1), .second, .val (.long q2), .second, .val (.long q3), .second, .val (.long q4), .second, .val (.long q5), .second, .val (.long nn), .second, .val (.long px1), .second, .val (.long py1), .second, .val (.long px2), .second, .val (.long py2), .second, .val (.long a1v), .second, .val (.long b1v), .second, .val (.long a2v), .second, .val (.long b2v), .second, .val (.ref b5), .val (.ref r_9), .val (.long a1v), .second, .val (.long b1v), .second, .val (.long a2v), .second, .val (.long b2v), .second] [(.ref r_9)]))
      refine Go.st (fun t k => XS.iconst X12.here hx rfl (hb hby at_280) k) ?_
      show Go p.tables e below PP (T12.setTop (mkF m 281 #[.val (.long q1), .second, .val (.long q2), .second, .val (.long q3), .second, .val (.long q4), .second, .val (.long q5), .second, .val (.long nn), .second, .val (.long px1), .second, .val (.long py1), .second, .val (.long px2), .second, .val (.long py2), .second, .val (.long a1v), .second, .val (.long b1v), .second, .val (.long a2v), .second, .val (.long b2v), .second, .val (.ref b5), .val (.ref r_9), .val (.long a1v), .second, .val (.long b1v), .second, .val (.long a2v), .second, .val (.long b2v), .second] [(.int (0 : Int32)), (.ref r_9)]))
      obtain ⟨v13, T13, L13, X13, hQ13, st13⟩ := callVi X12 hx hZ (C := "com/example/warpfinder/warpfinder/index/Intervals") (y := (⟨"com/example/warpfinder/warpfinder/index/Intervals", "start", "(I)J"⟩ : MethodName)) (z := (⟨"com/example/warpfinder/warpfinder/index/Intervals", "start", "(I)J"⟩ : MethodName)) (a := r_9) (argsL := [(.int (0 : Int32))]) (rest := []) hown (hw _ (List.mem_of_getElem? (i := 85) rfl)) (hw _ (List.mem_of_getElem? (i := 86) rfl)) (notFace_of_selects (args := #[]) (mvT hZ (hw _ (List.mem_of_getElem? (i := 88) rfl)))) (hw _ (List.mem_of_getElem? (i := 88) rfl)) (hw _ (List.mem_of_getElem? (i := 87) rfl)) (hw _ (List.mem_of_getElem? (i := 71) rfl)) (hw _ (List.mem_of_getElem? (i := 89) rfl)) (by decide) rfl E_r_9 (rm15 l Z a0 hw [] r_9 (0 : Int32) tb_9 (2048 : Int32) (bnd (fun j => if j = 0 then a1v else a2v) (fun j => if j = 0 then b1v else b2v) (2 : Int32).toNatClampNeg) h9 n0 Zn F_bounds_r_9 V_tb_9 (by decide)) e12 0 (by decide) (by decide) (by decide) (by decide) (g := (mkF m 281 #[.val (.long q1), .second, .val (.long q2), .second, .val (.long q3), .second, .val (.long q4), .second, .val (.long q5), .second, .val (.long nn), .second, .val (.long px1), .second, .val (.long py1), .second, .val (.long px2), .second, .val (.long py2), .second, .val (.long a1v), .second, .val (.long b1v), .second, .val (.long a2v), .second, .val (.long b2v), .second, .val (.ref b5), .val (.ref r_9), .val (.long a1v), .second, .val (.long b1v), .second, .val (.long a2v), .second, .val (.long b2v), .second] [(.int (0 : Int32)), (.ref r_9)])) rfl (by rw [hml]; rfl) (lenOf pd_10 rfl) rfl (by show 2 * 0 + _ ≤ _; exact Nat.le_of_eq rfl) (hb hby at_281)
      obtain ⟨rfl, rfl, e13⟩ := hQ13
      rw [List.append_nil] at X13
      refine Go.st st13 ?_
      show Go p.tables e below PP (T13.setTop (mkF m 284 #[.val (.long q1), .second, .val (.long q2), .second, .val (.long q3), .second, .val (.long q4), .second, .val (.long q5), .second, .val (.long nn), .second, .val (.long px1), .second, .val (.long py1), .second, .val (.long px2), .second, .val (.long py2), .second, .val (.long a1v), .second, .val (.long b1v), .second, .val (.long a2v), .second, .val (.long b2v), .second, .val (.ref b5), .val (.ref r_9), .val (.long a1v), .second, .val (.long b1v), .second, .val (.long a2v), .second, .val (.long b2v), .second] [(.long ((bnd (fun j => if j = 0 then a1v else a2v) (fun j => if j = 0 then b1v else b2v) (2 : Int32).toNatClampNeg) ((2 : Int32) * (0 : Int32)).toNatClampNeg))]))
      refine Go.st (fun t k => XS.lload X13.here hx rfl (hb hby at_284) rfl k) ?_
      show Go p.tables e below PP (T13.setTop (mkF m 286 #[.val (.long q1), .second, .val (.long q2), .second, .val (.long q3), .second, .val (.long q4), .second, .val (.long q5), .second, .val (.long nn), .second, .val (.long px1), .second, .val (.long py1), .second, .val (.long px2), .second, .val (.long py2), .second, .val (.long a1v), .second, .val (.long b1v), .second, .val (.long a2v), .second, .val (.long b2v), .second, .val (.ref b5), .val (.ref r_9), .val (.long a1v), .second, .val (.long b1v), .second, .val (.long a2v), .second, .val (.long b2v), .second] [(.long a1v), (.long ((bnd (fun j => if j = 0 then a1v else a2v) (fun j => if j = 0 then b1v else b2v) (2 : Int32).toNatClampNeg) ((2 : Int32) * (0 : Int32)).toNatClampNeg))]))
      refine Go.st (fun t k => XS.lcmp X13.here hx rfl (hb hby at_286) rfl k) ?_
      show Go p.tables e below PP (T13.setTop (mkF m 287 #[.val (.long q1), .second, .val (.long q2), .second, .val (.long q3), .second, .val (.long q4), .second, .val (.long q5), .second, .val (.long nn), .second, .val (.long px1), .second, .val (.long py1), .second, .val (.long px2), .second, .val (.long py2), .second, .val (.long a1v), .second, .val (.long b1v), .second, .val (.long a2v), .second, .val (.long b2v), .second, .val (.ref b5), .val (.ref r_9), .val (.long a1v), .second, .val (.long b1v), .second, .val (.long a2v), .second, .val (.long b2v), .second] [(.int (XT.cmpL ((bnd (fun j => if j = 0 then a1v else a2v) (fun j => if j = 0 then b1v else b2v) (2 : Int32).toNatClampNeg) ((2 : Int32) * (0 : Int32)).toNatClampNeg) a1v))]))
      refine Go.st (fun t k => XS.ifNo X13.here hx rfl (hb hby at_287) rfl (XT.ll_ne_f (bnd_s0 _ _).2.2.1) k) ?_
      show Go p.tables e below PP (T13.setTop (mkF m 290 #[.val (.long q1), .second, .val (.long q2), .second, .val (.long q3), .second, .val (.long q4), .second, .val (.long q5), .second, .val (.long nn), .second, .val (.long px1), .second, .val (.long py1), .second, .val (.long px2), .second, .val (.long py2), .second, .val (.long a1v), .second, .val (.long b1v), .second, .val (.long a2v), .second, .val (.long b2v), .second, .val (.ref b5), .val (.ref r_9), .val (.long a1v), .second, .val (.long b1v), .second, .val (.long a2v), .second, .val (.long b2v), .second] []))
      refine Go.st (fun t k => XS.aload X13.here hx rfl (hb hby at_290) rfl rfl k) ?_
      show Go p.tables e below PP (T13.setTop (mkF m 292 #[.val (.long q1), .second, .val (.long q2), .second, .val (.long q3), .second, .val (.long q4), .second, .val (.long q5), .second, .val (.long nn), .second, .val (.long px1), .second, .val (.long py1), .second, .val (.long px2), .second, .val (.long py2), .second, .val (.long a1v), .second, .val (.long b1v), .second, .val (.long a2v), .second, .val (.long b2v), .second, .val (.ref b5), .val (.ref r_9), .val (.long a1v), .second, .val (.long b1v), .second, .val (.long a2v), .second, .val (.long b2v), .second] [(.ref r_9)]))
      refine Go.st (fun t k => XS.iconst X13.here hx rfl (hb hby at_292) k) ?_
      show Go p.tables e below PP (T13.setTop (mkF m 293 #[.val (.long q1), .second, .val (.long q2), .second, .val (.long q3), .second, .val (.long q4), .second, .val (.long q5), .second, .val (.long nn), .second, .val (.long px1), .second, .val (.long py1), .second, .val (.long px2), .second, .val (.long py2), .second, .val (.long a1v), .second, .val (.long b1v), .second, .val (.long a2v), .second, .val (.long b2v), .second, .val (.ref b5), .val (.ref r_9), .val (.long a1v), .second, .val (.long b1v), .second, .val (.long a2v), .second, .val (.long b2v), .second] [(.int (0 : Int32)), (.ref r_9)]))
      obtain ⟨v14, T14, L14, X14, hQ14, st14⟩ := callVi X13 hx hZ (C := "com/example/warpfinder/warpfinder/index/Intervals") (y := (⟨"com/example/warpfinder/warpfinder/index/Intervals", "end", "(I)J"⟩ : MethodName)) (z := (⟨"com/example/warpfinder/warpfinder/index/Intervals", "end", "(I)J"⟩ : MethodName)) (a := r_9) (argsL := [(.int (0 : Int32))]) (rest := []) hown (hw _ (List.mem_of_getElem? (i := 90) rfl)) (hw _ (List.mem_of_getElem? (i := 91) rfl)) (notFace_of_selects (args := #[]) (mvT hZ (hw _ (List.mem_of_getElem? (i := 93) rfl)))) (hw _ (List.mem_of_getElem? (i := 93) rfl)) (hw _ (List.mem_of_getElem? (i := 92) rfl)) (hw _ (List.mem_of_getElem? (i := 71) rfl)) (hw _ (List.mem_of_getElem? (i := 94) rfl)) (by decide) rfl E_r_9 (rm16 l Z a0 hw [] r_9 (0 : Int32) tb_9 (2048 : Int32) (bnd (fun j => if j = 0 then a1v else a2v) (fun j => if j = 0 then b1v else b2v) (2 : Int32).toNatClampNeg) h9 n0 Zn F_bounds_r_9 V_tb_9 (by decide)) e13 0 (by decide) (by decide) (by decide) (by decide) (g := (mkF m 293 #[.val (.long q1), .second, .val (.long q2), .second, .val (.long q3), .second, .val (.long q4), .second, .val (.long q5), .second, .val (.long nn), .second, .val (.long px1), .second, .val (.long py1), .second, .val (.long px2), .second, .val (.long py2), .second, .val (.long a1v), .second, .val (.long b1v), .second, .val (.long a2v), .second, .val (.long b2v), .second, .val (.ref b5), .val (.ref r_9), .val (.long a1v), .second, .val (.long b1v), .second, .val (.long a2v), .second, .val (.long b2v), .second] [(.int (0 : Int32)), (.ref r_9)])) rfl (by rw [hml]; rfl) (lenOf pd_10 rfl) rfl (by show 2 * 0 + _ ≤ _; exact Nat.le_of_eq rfl) (hb hby at_293)
      obtain ⟨rfl, rfl, e14⟩ := hQ14
      rw [List.append_nil] at X14
      refine Go.st st14 ?_
      show Go p.tables e below PP (T14.setTop (mkF m 296 #[.val (.long q1), .second, .val (.long q2), .second, .val (.long q3), .second, .val (.long q4), .second, .val (.long q5), .second, .val (.long nn), .second, .val (.long px1), .second, .val (.long py1), .second, .val (.long px2), .second, .val (.long py2), .second, .val (.long a1v), .second, .val (.long b1v), .second, .val (.long a2v), .second, .val (.long b2v), .second, .val (.ref b5), .val (.ref r_9), .val (.long a1v), .second, .val (.long b1v), .second, .val (.long a2v), .second, .val (.long b2v), .second] [(.long ((bnd (fun j => if j = 0 then a1v else a2v) (fun j => if j = 0 then b1v else b2v) (2 : Int32).toNatClampNeg) (((2 : Int32) * (0 : Int32)) + (1 : Int32)).toNatClampNeg))]))
      refine Go.st (fun t k => XS.lload X14.here hx rfl (hb hby at_296) rfl k) ?_
      show Go p.tables e below PP (T14.setTop (mkF m 298 #[.val (.long q1), .second, .val (.long q2), .second, .val (.long q3), .second, .val (.long q4), .second, .val (.long q5), .second, .val (.long nn), .second, .val (.long px1), .second, .val (.long py1), .second, .val (.long px2), .second, .val (.long py2), .second, .val (.long a1v), .second, .val (.long b1v), .second, .val (.long a2v), .second, .val (.long b2v), .second, .val (.ref b5), .val (.ref r_9), .val (.long a1v), .second, .val (.long b1v), .second, .val (.long a2v), .second, .val (.long b2v), .second] [(.long b1v), (.long ((bnd (fun j => if j = 0 then a1v else a2v) (fun j => if j = 0 then b1v else b2v) (2 : Int32).toNatClampNeg) (((2 : Int32) * (0 : Int32)) + (1 : Int32)).toNatClampNeg))]))
      refine Go.st (fun t k => XS.lcmp X14.here hx rfl (hb hby at_298) rfl k) ?_
      show Go p.tables e below PP (T14.setTop (mkF m 299 #[.val (.long q1), .second, .val (.long q2), .second, .val (.long q3), .second, .val (.long q4), .second, .val (.long q5), .second, .val (.long nn), .second, .val (.long px1), .second, .val (.long py1), .second, .val (.long px2), .second, .val (.long py2), .second, .val (.long a1v), .second, .val (.long b1v), .second, .val (.long a2v), .second, .val (.long b2v), .second, .val (.ref b5), .val (.ref r_9), .val (.long a1v), .second, .val (.long b1v), .second, .val (.long a2v), .second, .val (.long b2v), .second] [(.int (XT.cmpL ((bnd (fun j => if j = 0 then a1v else a2v) (fun j => if j = 0 then b1v else b2v) (2 : Int32).toNatClampNeg) (((2 : Int32) * (0 : Int32)) + (1 : Int32)).toNatClampNeg) b1v))]))
      refine Go.st (fun t k => XS.ifNo X14.here hx rfl (hb hby at_299) rfl (XT.ll_ne_f (bnd_s0 _ _).2.2.2.1) k) ?_
      show Go p.tables e below PP (T14.setTop (mkF m 302 #[.val (.long q1), .second, .val (.long q2), .second, .val (.long q3), .second, .val (.long q4), .second, .val (.long q5), .second, .val (.long nn), .second, .val (.long px1), .second, .val (.long py1), .second, .val (.long px2), .second, .val (.long py2), .second, .val (.long a1v), .second, .val (.long b1v), .second, .val (.long a2v), .second, .val (.long b2v), .second, .val (.ref b5), .val (.ref r_9), .val (.long a1v), .second, .val (.long b1v), .second, .val (.long a2v), .second, .val (.long b2v), .second] []))
      refine Go.st (fun t k => XS.aload X14.here hx rfl (hb hby at_302) rfl rfl k) ?_
      show Go p.tables e below PP (T14.setTop (mkF m 304 #[.val (.long q1), .second, .val (.long q2), .second, .val (.long q3), .second, .val (.long q4), .second, .val (.long q5), .second, .val (.long nn), .second, .val (.long px1), .second, .val (.long py1), .second, .val (.long px2), .second, .val (.long py2), .second, .val (.long a1v), .second, .val (.long b1v), .second, .val (.long a2v), .second, .val (.long b2v), .second, .val (.ref b5), .val (.ref r_9), .val (.long a1v), .second, .val (.long b1v), .second, .val (.long a2v), .second, .val (.long b2v), .second] [(.ref r_9)]))
      refine Go.st (fun t k => XS.iconst X14.here hx rfl (hb hby at_304) k) ?_
      show Go p.tables e below PP (T14.setTop (mkF m 305 #[.val (.long q1), .second, .val (.long q2), .second, .val (.long q3), .second, .val (.long q4), .second, .val (.long q5), .second, .val (.long nn), .second, .val (.long px1), .second, .val (.long py1), .second, .val (.long px2), .second, .val (.long py2), .second, .val (.long a1v), .second, .val (.long b1v), .second, .val (.long a2v), .second, .val (.long b2v), .second, .val (.ref b5), .val (.ref r_9), .val (.long a1v), .second, .val (.long b1v), .second, .val (.long a2v), .second, .val (.long b2v), .second] [(.int (1 : Int32)), (.ref r_9)]))
      obtain ⟨v15, T15, L15, X15, hQ15, st15⟩ := callVi X14 hx hZ (C := "com/example/warpfinder/warpfinder/index/Intervals") (y := (⟨"com/example/warpfinder/warpfinder/index/Intervals", "start", "(I)J"⟩ : MethodName)) (z := (⟨"com/example/warpfinder/warpfinder/index/Intervals", "start", "(I)J"⟩ : MethodName)) (a := r_9) (argsL := [(.int (1 : Int32))]) (rest := []) hown (hw _ (List.mem_of_getElem? (i := 85) rfl)) (hw _ (List.mem_of_getElem? (i := 86) rfl)) (notFace_of_selects (args := #[]) (mvT hZ (hw _ (List.mem_of_getElem? (i := 88) rfl)))) (hw _ (List.mem_of_getElem? (i := 88) rfl)) (hw _ (List.mem_of_getElem? (i := 87) rfl)) (hw _ (List.mem_of_getElem? (i := 71) rfl)) (hw _ (List.mem_of_getElem? (i := 89) rfl)) (by decide) rfl E_r_9 (rm15 l Z a0 hw [] r_9 (1 : Int32) tb_9 (2048 : Int32) (bnd (fun j => if j = 0 then a1v else a2v) (fun j => if j = 0 then b1v else b2v) (2 : Int32).toNatClampNeg) h9 n0 Zn F_bounds_r_9 V_tb_9 (by decide)) e14 0 (by decide) (by decide) (by decide) (by decide) (g := (mkF m 305 #[.val (.long q1), .second, .val (.long q2), .second, .val (.long q3), .second, .val (.long q4), .second, .val (.long q5), .second, .val (.long nn), .second, .val (.long px1), .second, .val (.long py1), .second, .val (.long px2), .second, .val (.long py2), .second, .val (.long a1v), .second, .val (.long b1v), .second, .val (.long a2v), .second, .val (.long b2v), .second, .val (.ref b5), .val (.ref r_9), .val (.long a1v), .second, .val (.long b1v), .second, .val (.long a2v), .second, .val (.long b2v), .second] [(.int (1 : Int32)), (.ref r_9)])) rfl (by rw [hml]; rfl) (lenOf pd_10 rfl) rfl (by show 2 * 0 + _ ≤ _; exact Nat.le_of_eq rfl) (hb hby at_305)
      obtain ⟨rfl, rfl, e15⟩ := hQ15
      rw [List.append_nil] at X15
      refine Go.st st15 ?_
      show Go p.tables e below PP (T15.setTop (mkF m 308 #[.val (.long q1), .second, .val (.long q2), .second, .val (.long q3), .second, .val (.long q4), .second, .val (.long q5), .second, .val (.long nn), .second, .val (.long px1), .second, .val (.long py1), .second, .val (.long px2), .second, .val (.long py2), .second, .val (.long a1v), .second, .val (.long b1v), .second, .val (.long a2v), .second, .val (.long b2v), .second, .val (.ref b5), .val (.ref r_9), .val (.long a1v), .second, .val (.long b1v), .second, .val (.long a2v), .second, .val (.long b2v), .second] [(.long ((bnd (fun j => if j = 0 then a1v else a2v) (fun j => if j = 0 then b1v else b2v) (2 : Int32).toNatClampNeg) ((2 : Int32) * (1 : Int32)).toNatClampNeg))]))
      refine Go.st (fun t k => XS.lload X15.here hx rfl (hb hby at_308) rfl k) ?_
      show Go p.tables e below PP (T15.setTop (mkF m 310 #[.val (.long q1), .second, .val (.long q2), .second, .val (.long q3), .second, .val (.long q4), .second, .val (.long q5), .second, .val (.long nn), .second, .val (.long px1), .second, .val (.long py1), .second, .val (.long px2), .second, .val (.long py2), .second, .val (.long a1v), .second, .val (.long b1v), .second, .val (.long a2v), .second, .val (.long b2v), .second, .val (.ref b5), .val (.ref r_9), .val (.long a1v), .second, .val (.long b1v), .second, .val (.long a2v), .second, .val (.long b2v), .second] [(.long a2v), (.long ((bnd (fun j => if j = 0 then a1v else a2v) (fun j => if j = 0 then b1v else b2v) (2 : Int32).toNatClampNeg) ((2 : Int32) * (1 : Int32)).toNatClampNeg))]))
      refine Go.st (fun t k => XS.lcmp X15.here hx rfl (hb hby at_310) rfl k) ?_
      show Go p.tables e below PP (T15.setTop (mkF m 311 #[.val (.long q1), .second, .val (.long q2), .second, .val (.long q3), .second, .val (.long q4), .second, .val (.long q5), .second, .val (.long nn), .second, .val (.long px1), .second, .val (.long py1), .second, .val (.long px2), .second, .val (.long py2), .second, .val (.long a1v), .second, .val (.long b1v), .second, .val (.long a2v), .second, .val (.long b2v), .second, .val (.ref b5), .val (.ref r_9), .val (.long a1v), .second, .val (.long b1v), .second, .val (.long a2v), .second, .val (.long b2v), .second] [(.int (XT.cmpL ((bnd (fun j => if j = 0 then a1v else a2v) (fun j => if j = 0 then b1v else b2v) (2 : Int32).toNatClampNeg) ((2 : Int32) * (1 : Int32)).toNatClampNeg) a2v))]))
      refine Go.st (fun t k => XS.ifNo X15.here hx rfl (hb hby at_311) rfl (XT.ll_ne_f (bnd_s0 _ _).2.2.2.2.1) k) ?_
      show Go p.tables e below PP (T15.setTop (mkF m 314 #[.val (.long q1), .second, .val (.long q2), .second, .val (.long q3), .second, .val (.long q4), .second, .val (.long q5), .second, .val (.long nn), .second, .val (.long px1), .second, .val (.long py1), .second, .val (.long px2), .second, .val (.long py2), .second, .val (.long a1v), .second, .val (.long b1v), .second, .val (.long a2v), .second, .val (.long b2v), .second, .val (.ref b5), .val (.ref r_9), .val (.long a1v), .second, .val (.long b1v), .second, .val (.long a2v), .second, .val (.long b2v), .second] []))
      refine Go.st (fun t k => XS.aload X15.here hx rfl (hb hby at_314) rfl rfl k) ?_
      show Go p.tables e below PP (T15.setTop (mkF m 316 #[.val (.long q1), .second, .val (.long q2), .second, .val (.long q3), .second, .val (.long q4), .second, .val (.long q5), .second, .val (.long nn), .second, .val (.long px1), .second, .val (.long py1), .second, .val (.long px2), .second, .val (.long py2), .second, .val (.long a1v), .second, .val (.long b1v), .second, .val (.long a2v), .second, .val (.long b2v), .second, .val (.ref b5), .val (.ref r_9), .val (.long a1v), .second, .val (.long b1v), .second, .val (.long a2v), .second, .val (.long b2v), .second] [(.ref r_9)]))
      refine Go.st (fun t k => XS.iconst X15.here hx rfl (hb hby at_316) k) ?_
      show Go p.tables e below PP (T15.setTop (mkF m 317 #[.val (.long q1), .second, .val (.long q2), .second, .val (.long q3), .second, .val (.long q4), .second, .val (.long q5), .second, .val (.long nn), .second, .val (.long px1), .second, .val (.long py1), .second, .val (.long px2), .second, .val (.long py2), .second, .val (.long a1v), .second, .val (.long b1v), .second, .val (.long a2v), .second, .val (.long b2v), .second, .val (.ref b5), .val (.ref r_9), .val (.long a1v), .second, .val (.long b1v), .second, .val (.long a2v), .second, .val (.long b2v), .second] [(.int (1 : Int32)), (.ref r_9)]))
      obtain ⟨v16, T16, L16, X16, hQ16, st16⟩ := callVi X15 hx hZ (C := "com/example/warpfinder/warpfinder/index/Intervals") (y := (⟨"com/example/warpfinder/warpfinder/index/Intervals", "end", "(I)J"⟩ : MethodName)) (z := (⟨"com/example/warpfinder/warpfinder/index/Intervals", "end", "(I)J"⟩ : MethodName)) (a := r_9) (argsL := [(.int (1 : Int32))]) (rest := []) hown (hw _ (List.mem_of_getElem? (i := 90) rfl)) (hw _ (List.mem_of_getElem? (i := 91) rfl)) (notFace_of_selects (args := #[]) (mvT hZ (hw _ (List.mem_of_getElem? (i := 93) rfl)))) (hw _ (List.mem_of_getElem? (i := 93) rfl)) (hw _ (List.mem_of_getElem? (i := 92) rfl)) (hw _ (List.mem_of_getElem? (i := 71) rfl)) (hw _ (List.mem_of_getElem? (i := 94) rfl)) (by decide) rfl E_r_9 (rm16 l Z a0 hw [] r_9 (1 : Int32) tb_9 (2048 : Int32) (bnd (fun j => if j = 0 then a1v else a2v) (fun j => if j = 0 then b1v else b2v) (2 : Int32).toNatClampNeg) h9 n0 Zn F_bounds_r_9 V_tb_9 (by decide)) e15 0 (by decide) (by decide) (by decide) (by decide) (g := (mkF m 317 #[.val (.long q1), .second, .val (.long q2), .second, .val (.long q3), .second, .val (.long q4), .second, .val (.long q5), .second, .val (.long nn), .second, .val (.long px1), .second, .val (.long py1), .second, .val (.long px2), .second, .val (.long py2), .second, .val (.long a1v), .second, .val (.long b1v), .second, .val (.long a2v), .second, .val (.long b2v), .second, .val (.ref b5), .val (.ref r_9), .val (.long a1v), .second, .val (.long b1v), .second, .val (.long a2v), .second, .val (.long b2v), .second] [(.int (1 : Int32)), (.ref r_9)])) rfl (by rw [hml]; rfl) (lenOf pd_10 rfl) rfl (by show 2 * 0 + _ ≤ _; exact Nat.le_of_eq rfl) (hb hby at_317)
      obtain ⟨rfl, rfl, e16⟩ := hQ16
      rw [List.append_nil] at X16
      refine Go.st st16 ?_
      show Go p.tables e below PP (T16.setTop (mkF m 320 #[.val (.long q1), .second, .val (.long q2), .second, .val (.long q3), .second, .val (.long q4), .second, .val (.long q5), .second, .val (.long nn), .second, .val (.long px1), .second, .val (.long py1), .second, .val (.long px2), .second, .val (.long py2), .second, .val (.long a1v), .second, .val (.long b1v), .second, .val (.long a2v), .second, .val (.long b2v), .second, .val (.ref b5), .val (.ref r_9), .val (.long a1v), .second, .val (.long b1v), .second, .val (.long a2v), .second, .val (.long b2v), .second] [(.long ((bnd (fun j => if j = 0 then a1v else a2v) (fun j => if j = 0 then b1v else b2v) (2 : Int32).toNatClampNeg) (((2 : Int32) * (1 : Int32)) + (1 : Int32)).toNatClampNeg))]))
      refine Go.st (fun t k => XS.lload X16.here hx rfl (hb hby at_320) rfl k) ?_
      show Go p.tables e below PP (T16.setTop (mkF m 322 #[.val (.long q1), .second, .val (.long q2), .second, .val (.long q3), .second, .val (.long q4), .second, .val (.long q5), .second, .val (.long nn), .second, .val (.long px1), .second, .val (.long py1), .second, .val (.long px2), .second, .val (.long py2), .second, .val (.long a1v), .second, .val (.long b1v), .second, .val (.long a2v), .second, .val (.long b2v), .second, .val (.ref b5), .val (.ref r_9), .val (.long a1v), .second, .val (.long b1v), .second, .val (.long a2v), .second, .val (.long b2v), .second] [(.long b2v), (.long ((bnd (fun j => if j = 0 then a1v else a2v) (fun j => if j = 0 then b1v else b2v) (2 : Int32).toNatClampNeg) (((2 : Int32) * (1 : Int32)) + (1 : Int32)).toNatClampNeg))]))
      refine Go.st (fun t k => XS.lcmp X16.here hx rfl (hb hby at_322) rfl k) ?_
      show Go p.tables e below PP (T16.setTop (mkF m 323 #[.val (.long q1), .second, .val (.long q2), .second, .val (.long q3), .second, .val (.long q4), .second, .val (.long q5), .second, .val (.long nn), .second, .val (.long px1), .second, .val (.long py1), .second, .val (.long px2), .second, .val (.long py2), .second, .val (.long a1v), .second, .val (.long b1v), .second, .val (.long a2v), .second, .val (.long b2v), .second, .val (.ref b5), .val (.ref r_9), .val (.long a1v), .second, .val (.long b1v), .second, .val (.long a2v), .second, .val (.long b2v), .second] [(.int (XT.cmpL ((bnd (fun j => if j = 0 then a1v else a2v) (fun j => if j = 0 then b1v else b2v) (2 : Int32).toNatClampNeg) (((2 : Int32) * (1 : Int32)) + (1 : Int32)).toNatClampNeg) b2v))]))
      refine Go.st (fun t k => XS.ifNo X16.here hx rfl (hb hby at_323) rfl (XT.ll_ne_f (bnd_s0 _ _).2.2.2.2.2) k) ?_
      show Go p.tables e below PP (T16.setTop (mkF m 326 #[.val (.long q1), .second, .val (.long q2), .second, .val (.long q3), .second, .val (.long q4), .second, .val (.long q5), .second, .val (.long nn), .second, .val (.long px1), .second, .val (.long py1), .second, .val (.long px2), .second, .val (.long py2), .second, .val (.long a1v), .second, .val (.long b1v), .second, .val (.long a2v), .second, .val (.long b2v), .second, .val (.ref b5), .val (.ref r_9), .val (.long a1v), .second, .val (.long b1v), .second, .val (.long a2v), .second, .val (.long b2v), .second] []))
      refine Go.st (fun t k => XS.iconst X16.here hx rfl (hb hby at_326) k) ?_
      show Go p.tables e below PP (T16.setTop (mkF m 327 #[.val (.long q1), .second, .val (.long q2), .second, .val (.long q3), .second, .val (.long q4), .second, .val (.long q5), .second, .val (.long nn), .second, .val (.long px1), .second, .val (.long py1), .second, .val (.long px2), .second, .val (.long py2), .second, .val (.long a1v), .second, .val (.long b1v), .second, .val (.long a2v), .second, .val (.long b2v), .second, .val (.ref b5), .val (.ref r_9), .val (.long a1v), .second, .val (.long b1v), .second, .val (.long a2v), .second, .val (.long b2v), .second] [(.int (1 : Int32))]))
      refine Go.st (fun t k => XS.goto X16.here hx rfl (pc0 := 327) (pc' := 331) rfl (hb hby at_327) (by decide) (by decide) k) ?_
      show Go p.tables e below PP (T16.setTop (mkF m 331 #[.val (.long q1), .second, .val (.long q2), .second, .val (.long q3), .second, .val (.long q4), .second, .val (.long q5), .second, .val (.long nn), .second, .val (.long px1), .second, .val (.long py1), .second, .val (.long px2), .second, .val (.long py2), .second, .val (.long a1v), .second, .val (.long b1v), .second, .val (.long a2v), .second, .val (.long b2v), .second, .val (.ref b5), .val (.ref r_9), .val (.long a1v), .second, .val (.long b1v), .second, .val (.long a2v), .second, .val (.long b2v), .second] [(.int (1 : Int32))]))
      rw [hPP]
      refine endN X16 hx hlk (t := .boolean) hret (by simp) (hb hby at_331) (w := (1 : Int32)) (rfl) ?_ (by decide) (by decide)
      show Q0 Z q1 q2 q3 q4 q5 h0 n0 (some (.int (1 : Int32))) T16.heap _
      rw [e16]
      exact ⟨rfl, N9⟩
    · --
      show Go p.tables e below PP (T8.setTop (mkF m 117 #[.val (.long q1), .second, .val (.long q2), .second, .val (.long q3), .second, .val (.long q4), .second, .val (.long q5), .second, .val (.long nn), .second, .val (.long px1), .second, .val (.long py1), .second, .val (.long px2), .second, .val (.long py2), .second, .val (.long a1v), .second, .val (.long b1v), .second, .val (.long a2v), .second, .val (.long b2v), .second, .val (.ref b5), .unset, .unset, .unset, .unset, .unset, .unset, .unset, .unset, .unset] []))
      refine Go.st (fun t k => XS.aload X8.here hx rfl (hb hby at_117) rfl rfl k) ?_
      show Go p.tables e below PP (T8.setTop (mkF m 119 #[.val (.long q1), .second, .val (.long q2), .second, .val (.long q3), .second, .val (.long q4), .second, .val (.long q5), .second, .val (.long nn), .second, .val (.long px1), .second, .val (.long py1), .second, .val (.long px2), .second, .val (.long py2), .second, .val (.long a1v), .second, .val (.long b1v), .second, .val (.long a2v), .second, .val (.long b2v), .second, .val (.ref b5), .unset, .unset, .unset, .unset, .unset, .unset, .unset, .unset, .unset] [(.ref b5)]))
      obtain ⟨v17, T17, L17, X17, hQ17, st17⟩ := callVi X8 hx hZ (C := "com/example/warpfinder/warpfinder/index/PositionBits") (y := (⟨"com/example/warpfinder/warpfinder/index/PositionBits", "intervals", "()Lcom/example/warpfinder/warpfinder/index/Intervals;"⟩ : MethodName)) (z := (⟨"com/example/warpfinder/warpfinder/index/PositionBits", "intervals", "()Lcom/example/warpfinder/warpfinder/index/Intervals;"⟩ : MethodName)) (a := b5) (argsL := []) (rest := []) hown (hw _ (List.mem_of_getElem? (i := 31) rfl)) (hw _ (List.mem_of_getElem? (i := 32) rfl)) (notFace_of_selects (args := #[]) (mvT hZ (hw _ (List.mem_of_getElem? (i := 34) rfl)))) (hw _ (List.mem_of_getElem? (i := 34) rfl)) (hw _ (List.mem_of_getElem? (i := 33) rfl)) (hw _ (List.mem_of_getElem? (i := 11) rfl)) (hw _ (List.mem_of_getElem? (i := 35) rfl)) (by decide) rfl E_b5 (rm6 l Z a0 hw [] b5 t_6 (nwI nn) nn (addF (addF (fun _ => (0 : Int64)) a1v b1v) a2v b2v) (2 : Int32) (fun j => if j = 0 then a2v else a1v) (fun j => if j = 0 then b2v else b1v) h8 n0 Zn F_words_b5 F_size_b5 V_t_6 (((runs_law nn a1v b1v a2v b2v hnn hab1 hab2).2 hM).2 hlt)) e8 0 (by decide) (by decide) (by decide) (by decide) (g := (mkF m 119 #[.val (.long q1), .second, .val (.long q2), .second, .val (.long q3), .second, .val (.long q4), .second, .val (.long q5), .second, .val (.long nn), .second, .val (.long px1), .second, .val (.long py1), .second, .val (.long px2), .second, .val (.long py2), .second, .val (.long a1v), .second, .val (.long b1v), .second, .val (.long a2v), .second, .val (.long b2v), .second, .val (.ref b5), .unset, .unset, .unset, .unset, .unset, .unset, .unset, .unset, .unset] [(.ref b5)])) rfl (by rw [hml]; rfl) (lenOf pd_4 rfl) rfl (by show 2 * 0 + _ ≤ _; exact Nat.le_of_eq rfl) (hb hby at_119)
      obtain ⟨h17, e17⟩ : ∃ z, T17.heap = z := ⟨_, rfl⟩
      rw [e17] at hQ17
      obtain ⟨r_17, tb_17, rfl, Nq17, Kq17, sq17_r, sq17_tb, Fq17_0, Fq17_1, Fq17_2, Fq17_3⟩ := hQ17
      have N17 := Fr.app N8 Nq17
      have ne_b5_r_17 : b5 ≠ r_17 := Nat.ne_of_lt (Nat.lt_of_lt_of_le E_b5.lt sq17_r)
      have ne_t_6_r_17 : t_6 ≠ r_17 := Nat.ne_of_lt (Nat.lt_of_lt_of_le V_t_6.lt sq17_r)
      have g_r_17 : n0 ≤ r_17 := Nat.le_trans Zn sq17_r
      have ne_b5_tb_17 : b5 ≠ tb_17 := Nat.ne_of_lt (Nat.lt_of_lt_of_le E_b5.lt sq17_tb)
      have ne_t_6_tb_17 : t_6 ≠ tb_17 := Nat.ne_of_lt (Nat.lt_of_lt_of_le V_t_6.lt sq17_tb)
      have g_tb_17 : n0 ≤ tb_17 := Nat.le_trans Zn sq17_tb
      replace E_b5 := E_b5.keep Kq17
      replace F_size_b5 := F_size_b5.keep Kq17 nin0
      replace F_words_b5 := F_words_b5.keep Kq17 nin0
      replace V_t_6 := V_t_6.keep Kq17 nin0
      replace Zn := Nat.le_trans Zn Kq17.1
      have E_r_17 := Fq17_0
      have F_size_r_17 := Fq17_1
      have F_bounds_r_17 := Fq17_2
      have V_tb_17 := Fq17_3
      refine Go.st st17 ?_
      show Go p.tables e below PP (T17.setTop (mkF m 122 #[.val (.long q1), .second, .val (.long q2), .second, .val (.long q3), .second, .val (.long q4), .second, .val (.long q5), .second, .val (.long nn), .second, .val (.long px1), .second, .val (.long py1), .second, .val (.long px2), .second, .val (.long py2), .second, .val (.long a1v), .second, .val (.long b1v), .second, .val (.long a2v), .second, .val (.long b2v), .second, .val (.ref b5), .unset, .unset, .unset, .unset, .unset, .unset, .unset, .unset, .unset] [(.ref r_17)]))
      refine Go.st (fun t k => XS.astore X17.here hx rfl (hb hby at_122) rfl rfl (l' := #[.val (.long q1), .second, .val (.long q2), .second, .val (.long q3), .second, .val (.long q4), .second, .val (.long q5), .second, .val (.long nn), .second, .val (.long px1), .second, .val (.long py1), .second, .val (.long px2), .second, .val (.long py2), .second, .val (.long a1v), .second, .val (.long b1v), .second, .val (.long a2v), .second, .val (.long b2v), .second, .val (.ref b5), .val (.ref r_17), .unset, .unset, .unset, .unset, .unset, .unset, .unset, .unset]) rfl k) ?_
      show Go p.tables e below PP (T17.setTop (mkF m 124 #[.val (.long q1), .second, .val (.long q2), .second, .val (.long q3), .second, .val (.long q4), .second, .val (.long q5), .second, .val (.long nn), .second, .val (.long px1), .second, .val (.long py1), .second, .val (.long px2), .second, .val (.long py2), .second, .val (.long a1v), .second, .val (.long b1v), .second, .val (.long a2v), .second, .val (.long b2v), .second, .val (.ref b5), .val (.ref r_17), .unset, .unset, .unset, .unset, .unset, .unset, .unset, .unset] []))
      refine Go.st (fun t k => XS.lload X17.here hx rfl (hb hby at_124) rfl k) ?_
      show Go p.tables e below PP (T17.setTop (mkF m 126 #[.val (.long q1), .second, .val (.long q2), .second, .val (.long q3), .second, .val (.long q4), .second, .val (.long q5), .second, .val (.long nn), .second, .val (.long px1), .second, .val (.long py1), .second, .val (.long px2), .second, .val (.long py2), .second, .val (.long a1v), .second, .val (.long b1v), .second, .val (.long a2v), .second, .val (.long b2v), .second, .val (.ref b5), .val (.ref r_17), .unset, .unset, .unset, .unset, .unset, .unset, .unset, .unset] [(.long a1v)]))
      refine Go.st (fun t k => XS.lload X17.here hx rfl (hb hby at_126) rfl k) ?_
      show Go p.tables e below PP (T17.setTop (mkF m 128 #[.val (.long q1), .second, .val (.long q2), .second, .val (.long q3), .second, .val (.long q4), .second, .val (.long q5), .second, .val (.long nn), .second, .val (.long px1), .second, .val (.long py1), .second, .val (.long px2), .second, .val (.long py2), .second, .val (.long a1v), .second, .val (.long b1v), .second, .val (.long a2v), .second, .val (.long b2v), .second, .val (.ref b5), .val (.ref r_17), .unset, .unset, .unset, .unset, .unset, .unset, .unset, .unset] [(.long a2v), (.long a1v)]))
      obtain ⟨v18, T18, L18, X18, hQ18, st18⟩ := callSt X17 hx hZ (y := (⟨"java/lang/Math", "max", "(JJ)J"⟩ : MethodName)) (argsL := [(.long a1v), (.long a2v)]) (rest := []) hown (hw _ (List.mem_of_getElem? (i := 6) rfl)) (hw _ (List.mem_of_getElem? (i := 7) rfl)) (hw _ (List.mem_of_getElem? (i := 4) rfl)) (hw _ (List.mem_of_getElem? (i := 8) rfl)) (by decide) (rm2 l Z a0 hw [] a1v a2v h17 n0 Zn) e17 0 (by decide) (by decide) (by decide) (by decide) (g := (mkF m 128 #[.val (.long q1), .second, .val (.long q2), .second, .val (.long q3), .second, .val (.long q4), .second, .val (.long q5), .second, .val (.long nn), .second, .val (.long px1), .second, .val (.long py1), .second, .val (.long px2), .second, .val (.long py2), .second, .val (.long a1v), .second, .val (.long b1v), .second, .val (.long a2v), .second, .val (.long b2v), .second, .val (.ref b5), .val (.ref r_17), .unset, .unset, .unset, .unset, .unset, .unset, .unset, .unset] [(.long a2v), (.long a1v)])) rfl (by rw [hml]; rfl) (lenOf pd_7 rfl) rfl (by show 2 * 0 + _ ≤ _; exact Nat.le_of_eq rfl) (hb hby at_128)
      obtain ⟨rfl, rfl, e18⟩ := hQ18
      rw [List.append_nil] at X18
      refine Go.st st18 ?_
      show Go p.tables e below PP (T18.setTop (mkF m 131 #[.val (.long q1), .second, .val (.long q2), .second, .val (.long q3), .second, .val (.long q4), .second, .val (.long q5), .second, .val (.long nn), .second, .val (.long px1), .second, .val (.long py1), .second, .val (.long px2), .second, .val (.long py2), .second, .val (.long a1v), .second, .val (.long b1v), .second, .val (.long a2v), .second, .val (.long b2v), .second, .val (.ref b5), .val (.ref r_17), .unset, .unset, .unset, .unset, .unset, .unset, .unset, .unset] [(.long (if a1v < a2v then a2v else a1v))]))
      refine Go.st (fun t k => XS.lload X18.here hx rfl (hb hby at_131) rfl k) ?_
      show Go p.tables e below PP (T18.setTop (mkF m 133 #[.val (.long q1), .second, .val (.long q2), .second, .val (.long q3), .second, .val (.long q4), .second, .val (.long q5), .second, .val (.long nn), .second, .val (.long px1), .second, .val (.long py1), .second, .val (.long px2), .second, .val (.long py2), .second, .val (.long a1v), .second, .val (.long b1v), .second, .val (.long a2v), .second, .val (.long b2v), .second, .val (.ref b5), .val (.ref r_17), .unset, .unset, .unset, .unset, .unset, .unset, .unset, .unset] [(.long b1v), (.long (if a1v < a2v then a2v else a1v))]))
      refine Go.st (fun t k => XS.lload X18.here hx rfl (hb hby at_133) rfl k) ?_
      show Go p.tables e below PP (T18.setTop (mkF m 135 #[.val (.long q1), .second, .val (.long q2), .second, .val (.long q3), .second, .val (.long q4), .second, .val (.long q5), .second, .val (.long nn), .second, .val (.long px1), .second, .val (.long py1), .second, .val (.long px2), .second, .val (.long py2), .second, .val (.long a1v), .second, .val (.long b1v), .second, .val (.long a2v), .second, .val (.long b2v), .second, .val (.ref b5), .val (.ref r_17), .unset, .unset, .unset, .unset, .unset, .unset, .unset, .unset] [(.long b2v), (.long b1v), (.long (if a1v < a2v then a2v else a1v))]))
      obtain ⟨v19, T19, L19, X19, hQ19, st19⟩ := callSt X18 hx hZ (y := (⟨"java/lang/Math", "min", "(JJ)J"⟩ : MethodName)) (argsL := [(.long b1v), (.long b2v)]) (rest := [(.long (if a1v < a2v then a2v else a1v))]) hown (hw _ (List.mem_of_getElem? (i := 2) rfl)) (hw _ (List.mem_of_getElem? (i := 3) rfl)) (hw _ (List.mem_of_getElem? (i := 4) rfl)) (hw _ (List.mem_of_getElem? (i := 5) rfl)) (by decide) (rm1 l Z a0 hw [] b1v b2v h17 n0 Zn) e18 2 (by decide) (by decide) (by decide) (by decide) (g := (mkF m 135 #[.val (.long q1), .second, .val (.long q2), .second, .val (.long q3), .second, .val (.long q4), .second, .val (.long q5), .second, .val (.long nn), .second, .val (.long px1), .second, .val (.long py1), .second, .val (.long px2), .second, .val (.long py2), .second, .val (.long a1v), .second, .val (.long b1v), .second, .val (.long a2v), .second, .val (.long b2v), .second, .val (.ref b5), .val (.ref r_17), .unset, .unset, .unset, .unset, .unset, .unset, .unset, .unset] [(.long b2v), (.long b1v), (.long (if a1v < a2v then a2v else a1v))])) rfl (by rw [hml]; rfl) (lenOf pd_7 rfl) rfl (by show 2 * 0 + _ ≤ _; exact Nat.le_of_eq rfl) (hb hby at_135)
      obtain ⟨rfl, rfl, e19⟩ := hQ19
      rw [List.append_nil] at X19
      refine Go.st st19 ?_
      show Go p.tables e below PP (T19.setTop (mkF m 138 #[.val (.long q1), .second, .val (.long q2), .second, .val (.long q3), .second, .val (.long q4), .second, .val (.long q5), .second, .val (.long nn), .second, .val (.long px1), .second, .val (.long py1), .second, .val (.long px2), .second, .val (.long py2), .second, .val (.long a1v), .second, .val (.long b1v), .second, .val (.long a2v), .second, .val (.long b2v), .second, .val (.ref b5), .val (.ref r_17), .unset, .unset, .unset, .unset, .unset, .unset, .unset, .unset] [(.long (if b2v < b1v then b2v else b1v)), (.long (if a1v < a2v then a2v else a1v))]))
      refine Go.st (fun t k => XS.lconst X19.here hx rfl (hb hby at_138) k) ?_
      show Go p.tables e below PP (T19.setTop (mkF m 139 #[.val (.long q1), .second, .val (.long q2), .second, .val (.long q3), .second, .val (.long q4), .second, .val (.long q5), .second, .val (.long nn), .second, .val (.long px1), .second, .val (.long py1), .second, .val (.long px2), .second, .val (.long py2), .second, .val (.long a1v), .second, .val (.long b1v), .second, .val (.long a2v), .second, .val (.long b2v), .second, .val (.ref b5), .val (.ref r_17), .unset, .unset, .unset, .unset, .unset, .unset, .unset, .unset] [(.long (1 : Int64)), (.long (if b2v < b1v then b2v else b1v)), (.long (if a1v < a2v then a2v else a1v))]))
      refine Go.st (fun t k => XS.ladd X19.here hx rfl (hb hby at_139) rfl k) ?_
      show Go p.tables e below PP (T19.setTop (mkF m 140 #[.val (.long q1), .second, .val (.long q2), .second, .val (.long q3), .second, .val (.long q4), .second, .val (.long q5), .second, .val (.long nn), .second, .val (.long px1), .second, .val (.long py1), .second, .val (.long px2), .second, .val (.long py2), .second, .val (.long a1v), .second, .val (.long b1v), .second, .val (.long a2v), .second, .val (.long b2v), .second, .val (.ref b5), .val (.ref r_17), .unset, .unset, .unset, .unset, .unset, .unset, .unset, .unset] [(.long ((if b2v < b1v then b2v else b1v) + (1 : Int64))), (.long (if a1v < a2v then a2v else a1v))]))
      refine Go.st (fun t k => XS.lcmp X19.here hx rfl (hb hby at_140) rfl k) ?_
      show Go p.tables e below PP (T19.setTop (mkF m 141 #[.val (.long q1), .second, .val (.long q2), .second, .val (.long q3), .second, .val (.long q4), .second, .val (.long q5), .second, .val (.long nn), .second, .val (.long px1), .second, .val (.long py1), .second, .val (.long px2), .second, .val (.long py2), .second, .val (.long a1v), .second, .val (.long b1v), .second, .val (.long a2v), .second, .val (.long b2v), .second, .val (.ref b5), .val (.ref r_17), .unset, .unset, .unset, .unset, .unset, .unset, .unset, .unset] [(.int (XT.cmpL (if a1v < a2v then a2v else a1v) ((if b2v < b1v then b2v else b1v) + (1 : Int64))))]))
      refine Go.st (fun t k => XS.ifYes X19.here hx rfl (pc0 := 141) (pc' := 201) rfl (hb hby at_141) rfl (XT.ll_gt_t hM) (by decide) (by decide) k) ?_
      show Go p.tables e below PP (T19.setTop (mkF m 201 #[.val (.long q1), .second, .val (.long q2), .second, .val (.long q3), .second, .val (.long q4), .second, .val (.long q5), .second, .val (.long nn), .second, .val (.long px1), .second, .val (.long py1), .second, .val (.long px2), .second, .val (.long py2), .second, .val (.long a1v), .second, .val (.long b1v), .second, .val (.long a2v), .second, .val (.long b2v), .second, .val (.ref b5), .val (.ref r_17), .unset, .unset, .unset, .unset, .unset, .unset, .unset, .unset] []))
      refine Go.st (fun t k => XS.lload X19.here hx rfl (hb hby at_201) rfl k) ?_
      show Go p.tables e below PP (T19.setTop (mkF m 203 #[.val (.long q1), .second, .val (.long q2), .second, .val (.long q3), .second, .val (.long q4), .second, .val (.long q5), .second, .val (.long nn), .second, .val (.long px1), .second, .val (.long py1), .second, .val (.long px2), .second, .val (.long py2), .second, .val (.long a1v), .second, .val (.long b1v), .second, .val (.long a2v), .second, .val (.long b2v), .second, .val (.ref b5), .val (.ref r_17), .unset, .unset, .unset, .unset, .unset, .unset, .unset, .unset] [(.long a1v)]))
      refine Go.st (fun t k => XS.lload X19.here hx rfl (hb hby at_203) rfl k) ?_
      show Go p.tables e below PP (T19.setTop (mkF m 205 #[.val (.long q1), .second, .val (.long q2), .second, .val (.long q3), .second, .val (.long q4), .second, .val (.long q5), .second, .val (.long nn), .second, .val (.long px1), .second, .val (.long py1), .second, .val (.long px2), .second, .val (.long py2), .second, .val (.long a1v), .second, .val (.long b1v), .second, .val (.long a2v), .second, .val (.long b2v), .second, .val (.ref b5), .val (.ref r_17), .unset, .unset, .unset, .unset, .unset, .unset, .unset, .unset] [(.long a2v), (.long a1v)]))
      refine Go.st (fun t k => XS.lcmp X19.here hx rfl (hb hby at_205) rfl k) ?_
      show Go p.tables e below PP (T19.setTop (mkF m 206 #[.val (.long q1), .second, .val (.long q2), .second, .val (.long q3), .second, .val (.long q4), .second, .val (.long q5), .second, .val (.long nn), .second, .val (.long px1), .second, .val (.long py1), .second, .val (.long px2), .second, .val (.long py2), .second, .val (.long a1v), .second, .val (.long b1v), .second, .val (.long a2v), .second, .val (.long b2v), .second, .val (.ref b5), .val (.ref r_17), .unset, .unset, .unset, .unset, .unset, .unset, .unset, .unset] [(.int (XT.cmpL a1v a2v))]))
      refine Go.st (fun t k => XS.ifYes X19.here hx rfl (pc0 := 206) (pc' := 214) rfl (hb hby at_206) rfl (XT.ll_ge_t hlt) (by decide) (by decide) k) ?_
      show Go p.tables e below PP (T19.setTop (mkF m 214 #[.val (.long q1), .second, .val (.long q2), .second, .val (.long q3), .second, .val (.long q4), .second, .val (.long q5), .second, .val (.long nn), .second, .val (.long px1), .second, .val (.long py1), .second, .val (.long px2), .second, .val (.long py2), .second, .val (.long a1v), .second, .val (.long b1v), .second, .val (.long a2v), .second, .val (.long b2v), .second, .val (.ref b5), .val (.ref r_17), .unset, .unset, .unset, .unset, .unset, .unset, .unset, .unset] []))
      refine Go.st (fun t k => XS.lload X19.here hx rfl (hb hby at_214) rfl k) ?_
      show Go p.tables e below PP (T19.setTop (mkF m 216 #[.val (.long q1), .second, .val (.long q2), .second, .val (.long q3), .second, .val (.long q4), .second, .val (.long q5), .second, .val (.long nn), .second, .val (.long px1), .second, .val (.long py1), .second, .val (.long px2), .second, .val (.long py2), .second, .val (.long a1v), .second, .val (.long b1v), .second, .val (.long a2v), .second, .val (.long b2v), .second, .val (.ref b5), .val (.ref r_17), .unset, .unset, .unset, .unset, .unset, .unset, .unset, .unset] [(.long a2v)]))
      refine Go.st (fun t k => XS.lstore X19.here hx rfl (hb hby at_216) rfl (l' := #[.val (.long q1), .second, .val (.long q2), .second, .val (.long q3), .second, .val (.long q4), .second, .val (.long q5), .second, .val (.long nn), .second, .val (.long px1), .second, .val (.long py1), .second, .val (.long px2), .second, .val (.long py2), .second, .val (.long a1v), .second, .val (.long b1v), .second, .val (.long a2v), .second, .val (.long b2v), .second, .val (.ref b5), .val (.ref r_17), .val (.long a2v), .second, .unset, .unset, .unset, .unset, .unset, .unset]) rfl k) ?_
      show Go p.tables e below PP (T19.setTop (mkF m 218 #[.val (.long q1), .second, .val (.long q2), .second, .val (.long q3), .second, .val (.long q4), .second, .val (.long q5), .second, .val (.long nn), .second, .val (.long px1), .second, .val (.long py1), .second, .val (.long px2), .second, .val (.long py2), .second, .val (.long a1v), .second, .val (.long b1v), .second, .val (.long a2v), .second, .val (.long b2v), .second, .val (.ref b5), .val (.ref r_17), .val (.long a2v), .second, .unset, .unset, .unset, .unset, .unset, .unset] []))
      refine Go.st (fun t k => XS.lload X19.here hx rfl (hb hby at_218) rfl k) ?_
      show Go p.tables e below PP (T19.setTop (mkF m 220 #[.val (.long q1), .second, .val (.long q2), .second, .val (.long q3), .second, .val (.long q4), .second, .val (.long q5), .second, .val (.long nn), .second, .val (.long px1), .second, .val (.long py1), .second, .val (.long px2), .second, .val (.long py2), .second, .val (.long a1v), .second, .val (.long b1v), .second, .val (.long a2v), .second, .val (.long b2v), .second, .val (.ref b5), .val (.ref r_17), .val (.long a2v), .second, .unset, .unset, .unset, .unset, .unset, .unset] [(.long a1v)]))
      refine Go.st (fun t k => XS.lload X19.here hx rfl (hb hby at_220) rfl k) ?_
      show Go p.tables e below PP (T19.setTop (mkF m 222 #[.val (.long q1), .second, .val (.long q2), .second, .val (.long q3), .second, .val (.long q4), .second, .val (.long q5), .second, .val (.long nn), .second, .val (.long px1), .second, .val (.long py1), .second, .val (.long px2), .second, .val (.long py2), .second, .val (.long a1v), .second, .val (.long b1v), .second, .val (.long a2v), .second, .val (.long b2v), .second, .val (.ref b5), .val (.ref r_17), .val (.long a2v), .second, .unset, .unset, .unset, .unset, .unset, .unset] [(.long a2v), (.long a1v)]))
      refine Go.st (fun t k => XS.lcmp X19.here hx rfl (hb hby at_222) rfl k) ?_
      show Go p.tables e below PP (T19.setTop (mkF m 223 #[.val (.long q1), .second, .val (.long q2), .second, .val (.long q3), .second, .val (.long q4), .second, .val (.long q5), .second, .val (.long nn), .second, .val (.long px1), .second, .val (.long py1), .second, .val (.long px2), .second, .val (.long py2), .second, .val (.long a1v), .second, .val (.long b1v), .second, .val (.long a2v), .second, .val (.long b2v), .second, .val (.ref b5), .val (.ref r_17), .val (.long a2v), .second, .unset, .unset, .unset, .unset, .unset, .unset] [(.int (XT.cmpL a1v a2v))]))
      refine Go.st (fun t k => XS.ifYes X19.here hx rfl (pc0 := 223) (pc' := 231) rfl (hb hby at_223) rfl (XT.ll_ge_t hlt) (by decide) (by decide) k) ?_
      show Go p.tables e below PP (T19.setTop (mkF m 231 #[.val (.long q1), .second, .val (.long q2), .second, .val (.long q3), .second, .val (.long q4), .second, .val (.long q5), .second, .val (.long nn), .second, .val (.long px1), .second, .val (.long py1), .second, .val (.long px2), .second, .val (.long py2), .second, .val (.long a1v), .second, .val (.long b1v), .second, .val (.long a2v), .second, .val (.long b2v), .second, .val (.ref b5), .val (.ref r_17), .val (.long a2v), .second, .unset, .unset, .unset, .unset, .unset, .unset] []))
      refine Go.st (fun t k => XS.lload X19.here hx rfl (hb hby at_231) rfl k) ?_
      show Go p.tables e below PP (T19.setTop (mkF m 233 #[.val (.long q1), .second, .val (.long q2), .second, .val (.long q3), .second, .val (.long q4), .second, .val (.long q5), .second, .val (.long nn), .second, .val (.long px1), .second, .val (.long py1), .second, .val (.long px2), .second, .val (.long py2), .second, .val (.long a1v), .second, .val (.long b1v), .second, .val (.long a2v), .second, .val (.long b2v), .second, .val (.ref b5), .val (.ref r_17), .val (.long a2v), .second, .unset, .unset, .unset, .unset, .unset, .unset] [(.long b2v)]))
      refine Go.st (fun t k => XS.lstore X19.here hx rfl (hb hby at_233) rfl (l' := #[.val (.long q1), .second, .val (.long q2), .second, .val (.long q3), .second, .val (.long q4), .second, .val (.long q5), .second, .val (.long nn), .second, .val (.long px1), .second, .val (.long py1), .second, .val (.long px2), .second, .val (.long py2), .second, .val (.long a1v), .second, .val (.long b1v), .second, .val (.long a2v), .second, .val (.long b2v), .second, .val (.ref b5), .val (.ref r_17), .val (.long a2v), .second, .val (.long b2v), .second, .unset, .unset, .unset, .unset]) rfl k) ?_
      show Go p.tables e below PP (T19.setTop (mkF m 235 #[.val (.long q1), .second, .val (.long q2), .second, .val (.long q3), .second, .val (.long q4), .second, .val (.long q5), .second, .val (.long nn), .second, .val (.long px1), .second, .val (.long py1), .second, .val (.long px2), .second, .val (.long py2), .second, .val (.long a1v), .second, .val (.long b1v), .second, .val (.long a2v), .second, .val (.long b2v), .second, .val (.ref b5), .val (.ref r_17), .val (.long a2v), .second, .val (.long b2v), .second, .unset, .unset, .unset, .unset] []))
      refine Go.st (fun t k => XS.lload X19.here hx rfl (hb hby at_235) rfl k) ?_
      show Go p.tables e below PP (T19.setTop (mkF m 237 #[.val (.long q1), .second, .val (.long q2), .second, .val (.long q3), .second, .val (.long q4), .second, .val (.long q5), .second, .val (.long nn), .second, .val (.long px1), .second, .val (.long py1), .second, .val (.long px2), .second, .val (.long py2), .second, .val (.long a1v), .second, .val (.long b1v), .second, .val (.long a2v), .second, .val (.long b2v), .second, .val (.ref b5), .val (.ref r_17), .val (.long a2v), .second, .val (.long b2v), .second, .unset, .unset, .unset, .unset] [(.long a1v)]))
      refine Go.st (fun t k => XS.lload X19.here hx rfl (hb hby at_237) rfl k) ?_
      show Go p.tables e below PP (T19.setTop (mkF m 239 #[.val (.long q1), .second, .val (.long q2), .second, .val (.long q3), .second, .val (.long q4), .second, .val (.long q5), .second, .val (.long nn), .second, .val (.long px1), .second, .val (.long py1), .second, .val (.long px2), .second, .val (.long py2), .second, .val (.long a1v), .second, .val (.long b1v), .second, .val (.long a2v), .second, .val (.long b2v), .second, .val (.ref b5), .val (.ref r_17), .val (.long a2v), .second, .val (.long b2v), .second, .unset, .unset, .unset, .unset] [(.long a2v), (.long a1v)]))
      refine Go.st (fun t k => XS.lcmp X19.here hx rfl (hb hby at_239) rfl k) ?_
      show Go p.tables e below PP (T19.setTop (mkF m 240 #[.val (.long q1), .second, .val (.long q2), .second, .val (.long q3), .second, .val (.long q4), .second, .val (.long q5), .second, .val (.long nn), .second, .val (.long px1), .second, .val (.long py1), .second, .val (.long px2), .second, .val (.long py2), .second, .val (.long a1v), .second, .val (.long b1v), .second, .val (.long a2v), .second, .val (.long b2v), .second, .val (.ref b5), .val (.ref r_17), .val (.long a2v), .second, .val (.long b2v), .second, .unset, .unset, .unset, .unset] [(.int (XT.cmpL a1v a2v))]))
      refine Go.st (fun t k => XS.ifYes X19.here hx rfl (pc0 := 240) (pc' := 248) rfl (hb hby at_240) rfl (XT.ll_ge_t hlt) (by decide) (by decide) k) ?_
      show Go p.tables e below PP (T19.setTop (mkF m 248 #[.val (.long q1), .second, .val (.long q2), .second, .val (.long q3), .second, .val (.long q4), .second, .val (.long q5), .second, .val (.long nn), .second, .val (.long px1), .second, .val (.long py1), .second, .val (.long px2), .second, .val (.long py2), .second, .val (.long a1v), .second, .val (.long b1v), .second, .val (.long a2v), .second, .val (.long b2v), .second, .val (.ref b5), .val (.ref r_17), .val (.long a2v), .second, .val (.long b2v), .second, .unset, .unset, .unset, .unset] []))
      refine Go.st (fun t k => XS.lload X19.here hx rfl (hb hby at_248) rfl k) ?_
      show Go p.tables e below PP (T19.setTop (mkF m 250 #[.val (.long q1), .second, .val (.long q2), .second, .val (.long q3), .second, .val (.long q4), .second, .val (.long q5), .second, .val (.long nn), .second, .val (.long px1), .second, .val (.long py1), .second, .val (.long px2), .second, .val (.long py2), .second, .val (.long a1v), .second, .val (.long b1v), .second, .val (.long a2v), .second, .val (.long b2v), .second, .val (.ref b5), .val (.ref r_17), .val (.long a2v), .second, .val (.long b2v), .second, .unset, .unset, .unset, .unset] [(.long a1v)]))
      refine Go.st (fun t k => XS.lstore X19.here hx rfl (hb hby at_250) rfl (l' := #[.val (.long q1), .second, .val (.long q2), .second, .val (.long q3), .second, .val (.long q4), .second, .val (.long q5), .second, .val (.long nn), .second, .val (.long px1), .second, .val (.long py1), .second, .val (.long px2), .second, .val (.long py2), .second, .val (.long a1v), .second, .val (.long b1v), .second, .val (.long a2v), .second, .val (.long b2v), .second, .val (.ref b5), .val (.ref r_17), .val (.long a2v), .second, .val (.long b2v), .second, .val (.long a1v), .second, .unset, .unset]) rfl k) ?_
      show Go p.tables e below PP (T19.setTop (mkF m 252 #[.val (.long q1), .second, .val (.long q2), .second, .val (.long q3), .second, .val (.long q4), .second, .val (.long q5), .second, .val (.long nn), .second, .val (.long px1), .second, .val (.long py1), .second, .val (.long px2), .second, .val (.long py2), .second, .val (.long a1v), .second, .val (.long b1v), .second, .val (.long a2v), .second, .val (.long b2v), .second, .val (.ref b5), .val (.ref r_17), .val (.long a2v), .second, .val (.long b2v), .second, .val (.long a1v), .second, .unset, .unset] []))
      refine Go.st (fun t k => XS.lload X19.here hx rfl (hb hby at_252) rfl k) ?_
      show Go p.tables e below PP (T19.setTop (mkF m 254 #[.val (.long q1), .second, .val (.long q2), .second, .val (.long q3), .second, .val (.long q4), .second, .val (.long q5), .second, .val (.long nn), .second, .val (.long px1), .second, .val (.long py1), .second, .val (.long px2), .second, .val (.long py2), .second, .val (.long a1v), .second, .val (.long b1v), .second, .val (.long a2v), .second, .val (.long b2v), .second, .val (.ref b5), .val (.ref r_17), .val (.long a2v), .second, .val (.long b2v), .second, .val (.long a1v), .second, .unset, .unset] [(.long a1v)]))
      refine Go.st (fun t k => XS.lload X19.here hx rfl (hb hby at_254) rfl k) ?_
      show Go p.tables e below PP (T19.setTop (mkF m 256 #[.val (.long q1), .second, .val (.long q2), .second, .val (.long q3), .second, .val (.long q4), .second, .val (.long q5), .second, .val (.long nn), .second, .val (.long px1), .second, .val (.long py1), .second, .val (.long px2), .second, .val (.long py2), .second, .val (.long a1v), .second, .val (.long b1v), .second, .val (.long a2v), .second, .val (.long b2v), .second, .val (.ref b5), .val (.ref r_17), .val (.long a2v), .second, .val (.long b2v), .second, .val (.long a1v), .second, .unset, .unset] [(.long a2v), (.long a1v)]))
      refine Go.st (fun t k => XS.lcmp X19.here hx rfl (hb hby at_256) rfl k) ?_
      show Go p.tables e below PP (T19.setTop (mkF m 257 #[.val (.long q1), .second, .val (.long q2), .second, .val (.long q3), .second, .val (.long q4), .second, .val (.long q5), .second, .val (.long nn), .second, .val (.long px1), .second, .val (.long py1), .second, .val (.long px2), .second, .val (.long py2), .second, .val (.long a1v), .second, .val (.long b1v), .second, .val (.long a2v), .second, .val (.long b2v), .second, .val (.ref b5), .val (.ref r_17), .val (.long a2v), .second, .val (.long b2v), .second, .val (.long a1v), .second, .unset, .unset] [(.int (XT.cmpL a1v a2v))]))
      refine Go.st (fun t k => XS.ifYes X19.here hx rfl (pc0 := 257) (pc' := 265) rfl (hb hby at_257) rfl (XT.ll_ge_t hlt) (by decide) (by decide) k) ?_
      show Go p.tables e below PP (T19.setTop (mkF m 265 #[.val (.long q1), .second, .val (.long q2), .second, .val (.long q3), .second, .val (.long q4), .second, .val (.long q5), .second, .val (.long nn), .second, .val (.long px1), .second, .val (.long py1), .second, .val (.long px2), .second, .val (.long py2), .second, .val (.long a1v), .second, .val (.long b1v), .second, .val (.long a2v), .second, .val (.long b2v), .second, .val (.ref b5), .val (.ref r_17), .val (.long a2v), .second, .val (.long b2v), .second, .val (.long a1v), .second, .unset, .unset] []))
      refine Go.st (fun t k => XS.lload X19.here hx rfl (hb hby at_265) rfl k) ?_
      show Go p.tables e below PP (T19.setTop (mkF m 267 #[.val (.long q1), .second, .val (.long q2), .second, .val (.long q3), .second, .val (.long q4), .second, .val (.long q5), .second, .val (.long nn), .second, .val (.long px1), .second, .val (.long py1), .second, .val (.long px2), .second, .val (.long py2), .second, .val (.long a1v), .second, .val (.long b1v), .second, .val (.long a2v), .second, .val (.long b2v), .second, .val (.ref b5), .val (.ref r_17), .val (.long a2v), .second, .val (.long b2v), .second, .val (.long a1v), .second, .unset, .unset] [(.long b1v)]))
      refine Go.st (fun t k => XS.lstore X19.here hx rfl (hb hby at_267) rfl (l' := #[.val (.long q1), .second, .val (.long q2), .second, .val (.long q3), .second, .val (.long q4), .second, .val (.long q5), .second, .val (.long nn), .second, .val (.long px1), .second, .val (.long py1), .second, .val (.long px2), .second, .val (.long py2), .second, .val (.long a1v), .second, .val (.long b1v), .second, .val (.long a2v), .second, .val (.long b2v), .second, .val (.ref b5), .val (.ref r_17), .val (.long a2v), .second, .val (.long b2v), .second, .val (.long a1v), .second, .val (.long b1v), .second]) rfl k) ?_
      show Go p.tables e below PP (T19.setTop (mkF m 269 #[.val (.long q1), .second, .val (.long q2), .second, .val (.long q3), .second, .val (.long q4), .second, .val (.long q5), .second, .val (.long nn), .second, .val (.long px1), .second, .val (.long py1), .second, .val (.long px2), .second, .val (.long py2), .second, .val (.long a1v), .second, .val (.long b1v), .second, .val (.long a2v), .second, .val (.long b2v), .second, .val (.ref b5), .val (.ref r_17), .val (.long a2v), .second, .val (.long b2v), .second, .val (.long a1v), .second, .val (.long b1v), .second] []))
      refine Go.st (fun t k => XS.aload X19.here hx rfl (hb hby at_269) rfl rfl k) ?_
      show Go p.tables e below PP (T19.setTop (mkF m 271 #[.val (.long q1), .second, .val (.long q2), .second, .val (.long q3), .second, .val (.long q4), .second, .val (.long q5), .second, .val (.long nn), .second, .val (.long px1), .second, .val (.long py1), .second, .val (.long px2), .second, .val (.long py2), .second, .val (.long a1v), .second, .val (.long b1v), .second, .val (.long a2v), .second, .val (.long b2v), .second, .val (.ref b5), .val (.ref r_17), .val (.long a2v), .second, .val (.long b2v), .second, .val (.long a1v), .second, .val (.long b1v), .second] [(.ref r_17)]))
      obtain ⟨v20, T20, L20, X20, hQ20, st20⟩ := callVi X19 hx hZ (C := "com/example/warpfinder/warpfinder/index/Intervals") (y := (⟨"com/example/warpfinder/warpfinder/index/Intervals", "size", "()I"⟩ : MethodName)) (z := (⟨"com/example/warpfinder/warpfinder/index/Intervals", "size", "()I"⟩ : MethodName)) (a := r_17) (argsL := []) (rest := []) hown (hw _ (List.mem_of_getElem? (i := 80) rfl)) (hw _ (List.mem_of_getElem? (i := 81) rfl)) (notFace_of_selects (args := #[]) (mvT hZ (hw _ (List.mem_of_getElem? (i := 83) rfl)))) (hw _ (List.mem_of_getElem? (i := 83) rfl)) (hw _ (List.mem_of_getElem? (i := 82) rfl)) (hw _ (List.mem_of_getElem? (i := 71) rfl)) (hw _ (List.mem_of_getElem? (i := 84) rfl)) (by decide) rfl E_r_17 (rm14 l Z a0 hw [] r_17 (2 : Int32) h17 n0 Zn F_size_r_17) e19 0 (by decide) (by decide) (by decide) (by decide) (g := (mkF m 271 #[.val (.long q1), .second, .val (.long q2), .second, .val (.long q3), .second, .val (.long q4), .second, .val (.long q5), .second, .val (.long nn), .second, .val (.long px1), .second, .val (.long py1), .second, .val (.long px2), .second, .val (.long py2), .second, .val (.long a1v), .second, .val (.long b1v), .second, .val (.long a2v), .second, .val (.long b2v), .second, .val (.ref b5), .val (.ref r_17), .val (.long a2v), .second, .val (.long b2v), .second, .val (.long a1v), .second, .val (.long b1v), .second] [(.ref r_17)])) rfl (by rw [hml]; rfl) (lenOf pd_9 rfl) rfl (by show 2 * 0 + _ ≤ _; exact Nat.le_of_eq rfl) (hb hby at_271)
      obtain ⟨rfl, rfl, e20⟩ := hQ20
      rw [List.append_nil] at X20
      refine Go.st st20 ?_
      show Go p.tables e below PP (T20.setTop (mkF m 274 #[.val (.long q1), .second, .val (.long q2), .second, .val (.long q3), .second, .val (.long q4), .second, .val (.long q5), .second, .val (.long nn), .second, .val (.long px1), .second, .val (.long py1), .second, .val (.long px2), .second, .val (.long py2), .second, .val (.long a1v), .second, .val (.long b1v), .second, .val (.long a2v), .second, .val (.long b2v), .second, .val (.ref b5), .val (.ref r_17), .val (.long a2v), .second, .val (.long b2v), .second, .val (.long a1v), .second, .val (.long b1v), .second] [(.int (2 : Int32))]))
      refine Go.st (fun t k => XS.iconst X20.here hx rfl (hb hby at_274) k) ?_
      show Go p.tables e below PP (T20.setTop (mkF m 275 #[.val (.long q1), .second, .val (.long q2), .second, .val (.long q3), .second, .val (.long q4), .second, .val (.long q5), .second, .val (.long nn), .second, .val (.long px1), .second, .val (.long py1), .second, .val (.long px2), .second, .val (.long py2), .second, .val (.long a1v), .second, .val (.long b1v), .second, .val (.long a2v), .second, .val (.long b2v), .second, .val (.ref b5), .val (.ref r_17), .val (.long a2v), .second, .val (.long b2v), .second, .val (.long a1v), .second, .val (.long b1v), .second] [(.int (2 : Int32)), (.int (2 : Int32))]))
      refine Go.st (fun t k => XS.icmpNo X20.here hx rfl (hb hby at_275) rfl (XT.ii_ne_f (by decide)) k) ?_
      show Go p.tables e below PP (T20.setTop (mkF m 278 #[.val (.long q1), .second, .val (.long q2), .second, .val (.long q3), .second, .val (.long q4), .second, .val (.long q5), .second, .val (.long nn), .second, .val (.long px1), .second, .val (.long py1), .second, .val (.long px2), .second, .val (.long py2), .second, .val (.long a1v), .second, .val (.long b1v), .second, .val (.long a2v), .second, .val (.long b2v), .second, .val (.ref b5), .val (.ref r_17), .val (.long a2v), .second, .val (.long b2v), .second, .val (.long a1v), .second, .val (.long b1v), .second] []))
      refine Go.st (fun t k => XS.aload X20.here hx rfl (hb hby at_278) rfl rfl k) ?_
      show Go p.tables e below PP (T20.setTop (mkF m 280 #[.val (.long q1), .second, .val (.long q2), .second, .val (.long q3), .second, .val (.long q4), .second, .val (.long q5), .second, .val (.long nn), .second, .val (.long px1), .second, .val (.long py1), .second, .val (.long px2), .second, .val (.long py2), .second, .val (.long a1v), .second, .val (.long b1v), .second, .val (.long a2v), .second, .val (.long b2v), .second, .val (.ref b5), .val (.ref r_17), .val (.long a2v), .second, .val (.long b2v), .second, .val (.long a1v), .second, .val (.long b1v), .second] [(.ref r_17)]))
      refine Go.st (fun t k => XS.iconst X20.here hx rfl (hb hby at_280) k) ?_
      show Go p.tables e below PP (T20.setTop (mkF m 281 #[.val (.long q1), .second, .val (.long q2), .second, .val (.long q3), .second, .val (.long q4), .second, .val (.long q5), .second, .val (.long nn), .second, .val (.long px1), .second, .val (.long py1), .second, .val (.long px2), .second, .val (.long py2), .second, .val (.long a1v), .second, .val (.long b1v), .second, .val (.long a2v), .second, .val (.long b2v), .second, .val (.ref b5), .val (.ref r_17), .val (.long a2v), .second, .val (.long b2v), .second, .val (.long a1v), .second, .val (.long b1v), .second] [(.int (0 : Int32)), (.ref r_17)]))
      obtain ⟨v21, T21, L21, X21, hQ21, st21⟩ := callVi X20 hx hZ (C := "com/example/warpfinder/warpfinder/index/Intervals") (y := (⟨"com/example/warpfinder/warpfinder/index/Intervals", "start", "(I)J"⟩ : MethodName)) (z := (⟨"com/example/warpfinder/warpfinder/index/Intervals", "start", "(I)J"⟩ : MethodName)) (a := r_17) (argsL := [(.int (0 : Int32))]) (rest := []) hown (hw _ (List.mem_of_getElem? (i := 85) rfl)) (hw _ (List.mem_of_getElem? (i := 86) rfl)) (notFace_of_selects (args := #[]) (mvT hZ (hw _ (List.mem_of_getElem? (i := 88) rfl)))) (hw _ (List.mem_of_getElem? (i := 88) rfl)) (hw _ (List.mem_of_getElem? (i := 87) rfl)) (hw _ (List.mem_of_getElem? (i := 71) rfl)) (hw _ (List.mem_of_getElem? (i := 89) rfl)) (by decide) rfl E_r_17 (rm15 l Z a0 hw [] r_17 (0 : Int32) tb_17 (2048 : Int32) (bnd (fun j => if j = 0 then a2v else a1v) (fun j => if j = 0 then b2v else b1v) (2 : Int32).toNatClampNeg) h17 n0 Zn F_bounds_r_17 V_tb_17 (by decide)) e20 0 (by decide) (by decide) (by decide) (by decide) (g := (mkF m 281 #[.val (.long q1), .second, .val (.long q2), .second, .val (.long q3), .second, .val (.long q4), .second, .val (.long q5), .second, .val (.long nn), .second, .val (.long px1), .second, .val (.long py1), .second, .val (.long px2), .second, .val (.long py2), .second, .val (.long a1v), .second, .val (.long b1v), .second, .val (.long a2v), .second, .val (.long b2v), .second, .val (.ref b5), .val (.ref r_17), .val (.long a2v), .second, .val (.long b2v), .second, .val (.long a1v), .second, .val (.long b1v), .second] [(.int (0 : Int32)), (.ref r_17)])) rfl (by rw [hml]; rfl) (lenOf pd_10 rfl) rfl (by show 2 * 0 + _ ≤ _; exact Nat.le_of_eq rfl) (hb hby at_281)
      obtain ⟨rfl, rfl, e21⟩ := hQ21
      rw [List.append_nil] at X21
      refine Go.st st21 ?_
      show Go p.tables e below PP (T21.setTop (mkF m 284 #[.val (.long q1), .second, .val (.long q2), .second, .val (.long q3), .second, .val (.long q4), .second, .val (.long q5), .second, .val (.long nn), .second, .val (.long px1), .second, .val (.long py1), .second, .val (.long px2), .second, .val (.long py2), .second, .val (.long a1v), .second, .val (.long b1v), .second, .val (.long a2v), .second, .val (.long b2v), .second, .val (.ref b5), .val (.ref r_17), .val (.long a2v), .second, .val (.long b2v), .second, .val (.long a1v), .second, .val (.long b1v), .second] [(.long ((bnd (fun j => if j = 0 then a2v else a1v) (fun j => if j = 0 then b2v else b1v) (2 : Int32).toNatClampNeg) ((2 : Int32) * (0 : Int32)).toNatClampNeg))]))
      refine Go.st (fun t k => XS.lload X21.here hx rfl (hb hby at_284) rfl k) ?_
      show Go p.tables e below PP (T21.setTop (mkF m 286 #[.val (.long q1), .second, .val (.long q2), .second, .val (.long q3), .second, .val (.long q4), .second, .val (.long q5), .second, .val (.long nn), .second, .val (.long px1), .second, .val (.long py1), .second, .val (.long px2), .second, .val (.long py2), .second, .val (.long a1v), .second, .val (.long b1v), .second, .val (.long a2v), .second, .val (.long b2v), .second, .val (.ref b5), .val (.ref r_17), .val (.long a2v), .second, .val (.long b2v), .second, .val (.long a1v), .second, .val (.long b1v), .second] [(.long a2v), (.long ((bnd (fun j => if j = 0 then a2v else a1v) (fun j => if j = 0 then b2v else b1v) (2 : Int32).toNatClampNeg) ((2 : Int32) * (0 : Int32)).toNatClampNeg))]))
      refine Go.st (fun t k => XS.lcmp X21.here hx rfl (hb hby at_286) rfl k) ?_
      show Go p.tables e below PP (T21.setTop (mkF m 287 #[.val (.long q1), .second, .val (.long q2), .second, .val (.long q3), .second, .val (.long q4), .second, .val (.long q5), .second, .val (.long nn), .second, .val (.long px1), .second, .val (.long py1), .second, .val (.long px2), .second, .val (.long py2), .second, .val (.long a1v), .second, .val (.long b1v), .second, .val (.long a2v), .second, .val (.long b2v), .second, .val (.ref b5), .val (.ref r_17), .val (.long a2v), .second, .val (.long b2v), .second, .val (.long a1v), .second, .val (.long b1v), .second] [(.int (XT.cmpL ((bnd (fun j => if j = 0 then a2v else a1v) (fun j => if j = 0 then b2v else b1v) (2 : Int32).toNatClampNeg) ((2 : Int32) * (0 : Int32)).toNatClampNeg) a2v))]))
      refine Go.st (fun t k => XS.ifNo X21.here hx rfl (hb hby at_287) rfl (XT.ll_ne_f (bnd_s0 _ _).2.2.1) k) ?_
      show Go p.tables e below PP (T21.setTop (mkF m 290 #[.val (.long q1), .second, .val (.long q2), .second, .val (.long q3), .second, .val (.long q4), .second, .val (.long q5), .second, .val (.long nn), .second, .val (.long px1), .second, .val (.long py1), .second, .val (.long px2), .second, .val (.long py2), .second, .val (.long a1v), .second, .val (.long b1v), .second, .val (.long a2v), .second, .val (.long b2v), .second, .val (.ref b5), .val (.ref r_17), .val (.long a2v), .second, .val (.long b2v), .second, .val (.long a1v), .second, .val (.long b1v), .second] []))
      refine Go.st (fun t k => XS.aload X21.here hx rfl (hb hby at_290) rfl rfl k) ?_
      show Go p.tables e below PP (T21.setTop (mkF m 292 #[.val (.long q1), .second, .val (.long q2), .second, .val (.long q3), .second, .val (.long q4), .second, .val (.long q5), .second, .val (.long nn), .second, .val (.long px1), .second, .val (.long py1), .second, .val (.long px2), .second, .val (.long py2), .second, .val (.long a1v), .second, .val (.long b1v), .second, .val (.long a2v), .second, .val (.long b2v), .second, .val (.ref b5), .val (.ref r_17), .val (.long a2v), .second, .val (.long b2v), .second, .val (.long a1v), .second, .val (.long b1v), .second] [(.ref r_17)]))
      refine Go.st (fun t k => XS.iconst X21.here hx rfl (hb hby at_292) k) ?_
      show Go p.tables e below PP (T21.setTop (mkF m 293 #[.val (.long q1), .second, .val (.long q2), .second, .val (.long q3), .second, .val (.long q4), .second, .val (.long q5), .second, .val (.long nn), .second, .val (.long px1), .second, .val (.long py1), .second, .val (.long px2), .second, .val (.long py2), .second, .val (.long a1v), .second, .val (.long b1v), .second, .val (.long a2v), .second, .val (.long b2v), .second, .val (.ref b5), .val (.ref r_17), .val (.long a2v), .second, .val (.long b2v), .second, .val (.long a1v), .second, .val (.long b1v), .second] [(.int (0 : Int32)), (.ref r_17)]))
      obtain ⟨v22, T22, L22, X22, hQ22, st22⟩ := callVi X21 hx hZ (C := "com/example/warpfinder/warpfinder/index/Intervals") (y := (⟨"com/example/warpfinder/warpfinder/index/Intervals", "end", "(I)J"⟩ : MethodName)) (z := (⟨"com/example/warpfinder/warpfinder/index/Intervals", "end", "(I)J"⟩ : MethodName)) (a := r_17) (argsL := [(.int (0 : Int32))]) (rest := []) hown (hw _ (List.mem_of_getElem? (i := 90) rfl)) (hw _ (List.mem_of_getElem? (i := 91) rfl)) (notFace_of_selects (args := #[]) (mvT hZ (hw _ (List.mem_of_getElem? (i := 93) rfl)))) (hw _ (List.mem_of_getElem? (i := 93) rfl)) (hw _ (List.mem_of_getElem? (i := 92) rfl)) (hw _ (List.mem_of_getElem? (i := 71) rfl)) (hw _ (List.mem_of_getElem? (i := 94) rfl)) (by decide) rfl E_r_17 (rm16 l Z a0 hw [] r_17 (0 : Int32) tb_17 (2048 : Int32) (bnd (fun j => if j = 0 then a2v else a1v) (fun j => if j = 0 then b2v else b1v) (2 : Int32).toNatClampNeg) h17 n0 Zn F_bounds_r_17 V_tb_17 (by decide)) e21 0 (by decide) (by decide) (by decide) (by decide) (g := (mkF m 293 #[.val (.long q1), .second, .val (.long q2), .second, .val (.long q3), .second, .val (.long q4), .second, .val (.long q5), .second, .val (.long nn), .second, .val (.long px1), .second, .val (.long py1), .second, .val (.long px2), .second, .val (.long py2), .second, .val (.long a1v), .second, .val (.long b1v), .second, .val (.long a2v), .second, .val (.long b2v), .second, .val (.ref b5), .val (.ref r_17), .val (.long a2v), .second, .val (.long b2v), .second, .val (.long a1v), .second, .val (.long b1v), .second] [(.int (0 : Int32)), (.ref r_17)])) rfl (by rw [hml]; rfl) (lenOf pd_10 rfl) rfl (by show 2 * 0 + _ ≤ _; exact Nat.le_of_eq rfl) (hb hby at_293)
      obtain ⟨rfl, rfl, e22⟩ := hQ22
      rw [List.append_nil] at X22
      refine Go.st st22 ?_
      show Go p.tables e below PP (T22.setTop (mkF m 296 #[.val (.long q1), .second, .val (.long q2), .second, .val (.long q3), .second, .val (.long q4), .second, .val (.long q5), .second, .val (.long nn), .second, .val (.long px1), .second, .val (.long py1), .second, .val (.long px2), .second, .val (.long py2), .second, .val (.long a1v), .second, .val (.long b1v), .second, .val (.long a2v), .second, .val (.long b2v), .second, .val (.ref b5), .val (.ref r_17), .val (.long a2v), .second, .val (.long b2v), .second, .val (.long a1v), .second, .val (.long b1v), .second] [(.long ((bnd (fun j => if j = 0 then a2v else a1v) (fun j => if j = 0 then b2v else b1v) (2 : Int32).toNatClampNeg) (((2 : Int32) * (0 : Int32)) + (1 : Int32)).toNatClampNeg))]))
      refine Go.st (fun t k => XS.lload X22.here hx rfl (hb hby at_296) rfl k) ?_
      show Go p.tables e below PP (T22.setTop (mkF m 298 #[.val (.long q1), .second, .val (.long q2), .second, .val (.long q3), .second, .val (.long q4), .second, .val (.long q5), .second, .val (.long nn), .second, .val (.long px1), .second, .val (.long py1), .second, .val (.long px2), .second, .val (.long py2), .second, .val (.long a1v), .second, .val (.long b1v), .second, .val (.long a2v), .second, .val (.long b2v), .second, .val (.ref b5), .val (.ref r_17), .val (.long a2v), .second, .val (.long b2v), .second, .val (.long a1v), .second, .val (.long b1v), .second] [(.long b2v), (.long ((bnd (fun j => if j = 0 then a2v else a1v) (fun j => if j = 0 then b2v else b1v) (2 : Int32).toNatClampNeg) (((2 : Int32) * (0 : Int32)) + (1 : Int32)).toNatClampNeg))]))
      refine Go.st (fun t k => XS.lcmp X22.here hx rfl (hb hby at_298) rfl k) ?_
      show Go p.tables e below PP (T22.setTop (mkF m 299 #[.val (.long q1), .second, .val (.long q2), .second, .val (.long q3), .second, .val (.long q4), .second, .val (.long q5), .second, .val (.long nn), .second, .val (.long px1), .second, .val (.long py1), .second, .val (.long px2), .second, .val (.long py2), .second, .val (.long a1v), .second, .val (.long b1v), .second, .val (.long a2v), .second, .val (.long b2v), .second, .val (.ref b5), .val (.ref r_17), .val (.long a2v), .second, .val (.long b2v), .second, .val (.long a1v), .second, .val (.long b1v), .second] [(.int (XT.cmpL ((bnd (fun j => if j = 0 then a2v else a1v) (fun j => if j = 0 then b2v else b1v) (2 : Int32).toNatClampNeg) (((2 : Int32) * (0 : Int32)) + (1 : Int32)).toNatClampNeg) b2v))]))
      refine Go.st (fun t k => XS.ifNo X22.here hx rfl (hb hby at_299) rfl (XT.ll_ne_f (bnd_s0 _ _).2.2.2.1) k) ?_
      show Go p.tables e below PP (T22.setTop (mkF m 302 #[.val (.long q1), .second, .val (.long q2), .second, .val (.long q3), .second, .val (.long q4), .second, .val (.long q5), .second, .val (.long nn), .second, .val (.long px1), .second, .val (.long py1), .second, .val (.long px2), .second, .val (.long py2), .second, .val (.long a1v), .second, .val (.long b1v), .second, .val (.long a2v), .second, .val (.long b2v), .second, .val (.ref b5), .val (.ref r_17), .val (.long a2v), .second, .val (.long b2v), .second, .val (.long a1v), .second, .val (.long b1v), .second] []))
      refine Go.st (fun t k => XS.aload X22.here hx rfl (hb hby at_302) rfl rfl k) ?_
      show Go p.tables e below PP (T22.setTop (mkF m 304 #[.val (.long q1), .second, .val (.long q2), .second, .val (.long q3), .second, .val (.long q4), .second, .val (.long q5), .second, .val (.long nn), .second, .val (.long px1), .second, .val (.long py1), .second, .val (.long px2), .second, .val (.long py2), .second, .val (.long a1v), .second, .val (.long b1v), .second, .val (.long a2v), .second, .val (.long b2v), .second, .val (.ref b5), .val (.ref r_17), .val (.long a2v), .second, .val (.long b2v), .second, .val (.long a1v), .second, .val (.long b1v), .second] [(.ref r_17)]))
      refine Go.st (fun t k => XS.iconst X22.here hx rfl (hb hby at_304) k) ?_
      show Go p.tables e below PP (T22.setTop (mkF m 305 #[.val (.long q1), .second, .val (.long q2), .second, .val (.long q3), .second, .val (.long q4), .second, .val (.long q5), .second, .val (.long nn), .second, .val (.long px1), .second, .val (.long py1), .second, .val (.long px2), .second, .val (.long py2), .second, .val (.long a1v), .second, .val (.long b1v), .second, .val (.long a2v), .second, .val (.long b2v), .second, .val (.ref b5), .val (.ref r_17), .val (.long a2v), .second, .val (.long b2v), .second, .val (.long a1v), .second, .val (.long b1v), .second] [(.int (1 : Int32)), (.ref r_17)]))
      obtain ⟨v23, T23, L23, X23, hQ23, st23⟩ := callVi X22 hx hZ (C := "com/example/warpfinder/warpfinder/index/Intervals") (y := (⟨"com/example/warpfinder/warpfinder/index/Intervals", "start", "(I)J"⟩ : MethodName)) (z := (⟨"com/example/warpfinder/warpfinder/index/Intervals", "start", "(I)J"⟩ : MethodName)) (a := r_17) (argsL := [(.int (1 : Int32))]) (rest := []) hown (hw _ (List.mem_of_getElem? (i := 85) rfl)) (hw _ (List.mem_of_getElem? (i := 86) rfl)) (notFace_of_selects (args := #[]) (mvT hZ (hw _ (List.mem_of_getElem? (i := 88) rfl)))) (hw _ (List.mem_of_getElem? (i := 88) rfl)) (hw _ (List.mem_of_getElem? (i := 87) rfl)) (hw _ (List.mem_of_getElem? (i := 71) rfl)) (hw _ (List.mem_of_getElem? (i := 89) rfl)) (by decide) rfl E_r_17 (rm15 l Z a0 hw [] r_17 (1 : Int32) tb_17 (2048 : Int32) (bnd (fun j => if j = 0 then a2v else a1v) (fun j => if j = 0 then b2v else b1v) (2 : Int32).toNatClampNeg) h17 n0 Zn F_bounds_r_17 V_tb_17 (by decide)) e22 0 (by decide) (by decide) (by decide) (by decide) (g := (mkF m 305 #[.val (.long q1), .second, .val (.long q2), .second, .val (.long q3), .second, .val (.long q4), .second, .val (.long q5), .second, .val (.long nn), .second, .val (.long px1), .second, .val (.long py1), .second, .val (.long px2), .second, .val (.long py2), .second, .val (.long a1v), .second, .val (.long b1v), .second, .val (.long a2v), .second, .val (.long b2v), .second, .val (.ref b5), .val (.ref r_17), .val (.long a2v), .second, .val (.long b2v), .second, .val (.long a1v), .second, .val (.long b1v), .second] [(.int (1 : Int32)), (.ref r_17)])) rfl (by rw [hml]; rfl) (lenOf pd_10 rfl) rfl (by show 2 * 0 + _ ≤ _; exact Nat.le_of_eq rfl) (hb hby at_305)
      obtain ⟨rfl, rfl, e23⟩ := hQ23
      rw [List.append_nil] at X23
      refine Go.st st23 ?_
      show Go p.tables e below PP (T23.setTop (mkF m 308 #[.val (.long q1), .second, .val (.long q2), .second, .val (.long q3), .second, .val (.long q4), .second, .val (.long q5), .second, .val (.long nn), .second, .val (.long px1), .second, .val (.long py1), .second, .val (.long px2), .second, .val (.long py2), .second, .val (.long a1v), .second, .val (.long b1v), .second, .val (.long a2v), .second, .val (.long b2v), .second, .val (.ref b5), .val (.ref r_17), .val (.long a2v), .second, .val (.long b2v), .second, .val (.long a1v), .second, .val (.long b1v), .second] [(.long ((bnd (fun j => if j = 0 then a2v else a1v) (fun j => if j = 0 then b2v else b1v) (2 : Int32).toNatClampNeg) ((2 : Int32) * (1 : Int32)).toNatClampNeg))]))
      refine Go.st (fun t k => XS.lload X23.here hx rfl (hb hby at_308) rfl k) ?_
      show Go p.tables e below PP (T23.setTop (mkF m 310 #[.val (.long q1), .second, .val (.long q2), .second, .val (.long q3), .second, .val (.long q4), .second, .val (.long q5), .second, .val (.long nn), .second, .val (.long px1), .second, .val (.long py1), .second, .val (.long px2), .second, .val (.long py2), .second, .val (.long a1v), .second, .val (.long b1v), .second, .val (.long a2v), .second, .val (.long b2v), .second, .val (.ref b5), .val (.ref r_17), .val (.long a2v), .second, .val (.long b2v), .second, .val (.long a1v), .second, .val (.long b1v), .second] [(.long a1v), (.long ((bnd (fun j => if j = 0 then a2v else a1v) (fun j => if j = 0 then b2v else b1v) (2 : Int32).toNatClampNeg) ((2 : Int32) * (1 : Int32)).toNatClampNeg))]))
      refine Go.st (fun t k => XS.lcmp X23.here hx rfl (hb hby at_310) rfl k) ?_
      show Go p.tables e below PP (T23.setTop (mkF m 311 #[.val (.long q1), .second, .val (.long q2), .second, .val (.long q3), .second, .val (.long q4), .second, .val (.long q5), .second, .val (.long nn), .second, .val (.long px1), .second, .val (.long py1), .second, .val (.long px2), .second, .val (.long py2), .second, .val (.long a1v), .second, .val (.long b1v), .second, .val (.long a2v), .second, .val (.long b2v), .second, .val (.ref b5), .val (.ref r_17), .val (.long a2v), .second, .val (.long b2v), .second, .val (.long a1v), .second, .val (.long b1v), .second] [(.int (XT.cmpL ((bnd (fun j => if j = 0 then a2v else a1v) (fun j => if j = 0 then b2v else b1v) (2 : Int32).toNatClampNeg) ((2 : Int32) * (1 : Int32)).toNatClampNeg) a1v))]))
      refine Go.st (fun t k => XS.ifNo X23.here hx rfl (hb hby at_311) rfl (XT.ll_ne_f (bnd_s0 _ _).2.2.2.2.1) k) ?_
      show Go p.tables e below PP (T23.setTop (mkF m 314 #[.val (.long q1), .second, .val (.long q2), .second, .val (.long q3), .second, .val (.long q4), .second, .val (.long q5), .second, .val (.long nn), .second, .val (.long px1), .second, .val (.long py1), .second, .val (.long px2), .second, .val (.long py2), .second, .val (.long a1v), .second, .val (.long b1v), .second, .val (.long a2v), .second, .val (.long b2v), .second, .val (.ref b5), .val (.ref r_17), .val (.long a2v), .second, .val (.long b2v), .second, .val (.long a1v), .second, .val (.long b1v), .second] []))
      refine Go.st (fun t k => XS.aload X23.here hx rfl (hb hby at_314) rfl rfl k) ?_
      show Go p.tables e below PP (T23.setTop (mkF m 316 #[.val (.long q1), .second, .val (.long q2), .second, .val (.long q3), .second, .val (.long q4), .second, .val (.long q5), .second, .val (.long nn), .second, .val (.long px1), .second, .val (.long py1), .second, .val (.long px2), .second, .val (.long py2), .second, .val (.long a1v), .second, .val (.long b1v), .second, .val (.long a2v), .second, .val (.long b2v), .second, .val (.ref b5), .val (.ref r_17), .val (.long a2v), .second, .val (.long b2v), .second, .val (.long a1v), .second, .val (.long b1v), .second] [(.ref r_17)]))
      refine Go.st (fun t k => XS.iconst X23.here hx rfl (hb hby at_316) k) ?_
      show Go p.tables e below PP (T23.setTop (mkF m 317 #[.val (.long q1), .second, .val (.long q2), .second, .val (.long q3), .second, .val (.long q4), .second, .val (.long q5), .second, .val (.long nn), .second, .val (.long px1), .second, .val (.long py1), .second, .val (.long px2), .second, .val (.long py2), .second, .val (.long a1v), .second, .val (.long b1v), .second, .val (.long a2v), .second, .val (.long b2v), .second, .val (.ref b5), .val (.ref r_17), .val (.long a2v), .second, .val (.long b2v), .second, .val (.long a1v), .second, .val (.long b1v), .second] [(.int (1 : Int32)), (.ref r_17)]))
      obtain ⟨v24, T24, L24, X24, hQ24, st24⟩ := callVi X23 hx hZ (C := "com/example/warpfinder/warpfinder/index/Intervals") (y := (⟨"com/example/warpfinder/warpfinder/index/Intervals", "end", "(I)J"⟩ : MethodName)) (z := (⟨"com/example/warpfinder/warpfinder/index/Intervals", "end", "(I)J"⟩ : MethodName)) (a := r_17) (argsL := [(.int (1 : Int32))]) (rest := []) hown (hw _ (List.mem_of_getElem? (i := 90) rfl)) (hw _ (List.mem_of_getElem? (i := 91) rfl)) (notFace_of_selects (args := #[]) (mvT hZ (hw _ (List.mem_of_getElem? (i := 93) rfl)))) (hw _ (List.mem_of_getElem? (i := 93) rfl)) (hw _ (List.mem_of_getElem? (i := 92) rfl)) (hw _ (List.mem_of_getElem? (i := 71) rfl)) (hw _ (List.mem_of_getElem? (i := 94) rfl)) (by decide) rfl E_r_17 (rm16 l Z a0 hw [] r_17 (1 : Int32) tb_17 (2048 : Int32) (bnd (fun j => if j = 0 then a2v else a1v) (fun j => if j = 0 then b2v else b1v) (2 : Int32).toNatClampNeg) h17 n0 Zn F_bounds_r_17 V_tb_17 (by decide)) e23 0 (by decide) (by decide) (by decide) (by decide) (g := (mkF m 317 #[.val (.long q1), .second, .val (.long q2), .second, .val (.long q3), .second, .val (.long q4), .second, .val (.long q5), .second, .val (.long nn), .second, .val (.long px1), .second, .val (.long py1), .second, .val (.long px2), .second, .val (.long py2), .second, .val (.long a1v), .second, .val (.long b1v), .second, .val (.long a2v), .second, .val (.long b2v), .second, .val (.ref b5), .val (.ref r_17), .val (.long a2v), .second, .val (.long b2v), .second, .val (.long a1v), .second, .val (.long b1v), .second] [(.int (1 : Int32)), (.ref r_17)])) rfl (by rw [hml]; rfl) (lenOf pd_10 rfl) rfl (by show 2 * 0 + _ ≤ _; exact Nat.le_of_eq rfl) (hb hby at_317)
      obtain ⟨rfl, rfl, e24⟩ := hQ24
      rw [List.append_nil] at X24
      refine Go.st st24 ?_
      show Go p.tables e below PP (T24.setTop (mkF m 320 #[.val (.long q1), .second, .val (.long q2), .second, .val (.long q3), .second, .val (.long q4), .second, .val (.long q5), .second, .val (.long nn), .second, .val (.long px1), .second, .val (.long py1), .second, .val (.long px2), .second, .val (.long py2), .second, .val (.long a1v), .second, .val (.long b1v), .second, .val (.long a2v), .second, .val (.long b2v), .second, .val (.ref b5), .val (.ref r_17), .val (.long a2v), .second, .val (.long b2v), .second, .val (.long a1v), .second, .val (.long b1v), .second] [(.long ((bnd (fun j => if j = 0 then a2v else a1v) (fun j => if j = 0 then b2v else b1v) (2 : Int32).toNatClampNeg) (((2 : Int32) * (1 : Int32)) + (1 : Int32)).toNatClampNeg))]))
      refine Go.st (fun t k => XS.lload X24.here hx rfl (hb hby at_320) rfl k) ?_
      show Go p.tables e below PP (T24.setTop (mkF m 322 #[.val (.long q1), .second, .val (.long q2), .second, .val (.long q3), .second, .val (.long q4), .second, .val (.long q5), .second, .val (.long nn), .second, .val (.long px1), .second, .val (.long py1), .second, .val (.long px2), .second, .val (.long py2), .second, .val (.long a1v), .second, .val (.long b1v), .second, .val (.long a2v), .second, .val (.long b2v), .second, .val (.ref b5), .val (.ref r_17), .val (.long a2v), .second, .val (.long b2v), .second, .val (.long a1v), .second, .val (.long b1v), .second] [(.long b1v), (.long ((bnd (fun j => if j = 0 then a2v else a1v) (fun j => if j = 0 then b2v else b1v) (2 : Int32).toNatClampNeg) (((2 : Int32) * (1 : Int32)) + (1 : Int32)).toNatClampNeg))]))
      refine Go.st (fun t k => XS.lcmp X24.here hx rfl (hb hby at_322) rfl k) ?_
      show Go p.tables e below PP (T24.setTop (mkF m 323 #[.val (.long q1), .second, .val (.long q2), .second, .val (.long q3), .second, .val (.long q4), .second, .val (.long q5), .second, .val (.long nn), .second, .val (.long px1), .second, .val (.long py1), .second, .val (.long px2), .second, .val (.long py2), .second, .val (.long a1v), .second, .val (.long b1v), .second, .val (.long a2v), .second, .val (.long b2v), .second, .val (.ref b5), .val (.ref r_17), .val (.long a2v), .second, .val (.long b2v), .second, .val (.long a1v), .second, .val (.long b1v), .second] [(.int (XT.cmpL ((bnd (fun j => if j = 0 then a2v else a1v) (fun j => if j = 0 then b2v else b1v) (2 : Int32).toNatClampNeg) (((2 : Int32) * (1 : Int32)) + (1 : Int32)).toNatClampNeg) b1v))]))
      refine Go.st (fun t k => XS.ifNo X24.here hx rfl (hb hby at_323) rfl (XT.ll_ne_f (bnd_s0 _ _).2.2.2.2.2) k) ?_
      show Go p.tables e below PP (T24.setTop (mkF m 326 #[.val (.long q1), .second, .val (.long q2), .second, .val (.long q3), .second, .val (.long q4), .second, .val (.long q5), .second, .val (.long nn), .second, .val (.long px1), .second, .val (.long py1), .second, .val (.long px2), .second, .val (.long py2), .second, .val (.long a1v), .second, .val (.long b1v), .second, .val (.long a2v), .second, .val (.long b2v), .second, .val (.ref b5), .val (.ref r_17), .val (.long a2v), .second, .val (.long b2v), .second, .val (.long a1v), .second, .val (.long b1v), .second] []))
      refine Go.st (fun t k => XS.iconst X24.here hx rfl (hb hby at_326) k) ?_
      show Go p.tables e below PP (T24.setTop (mkF m 327 #[.val (.long q1), .second, .val (.long q2), .second, .val (.long q3), .second, .val (.long q4), .second, .val (.long q5), .second, .val (.long nn), .second, .val (.long px1), .second, .val (.long py1), .second, .val (.long px2), .second, .val (.long py2), .second, .val (.long a1v), .second, .val (.long b1v), .second, .val (.long a2v), .second, .val (.long b2v), .second, .val (.ref b5), .val (.ref r_17), .val (.long a2v), .second, .val (.long b2v), .second, .val (.long a1v), .second, .val (.long b1v), .second] [(.int (1 : Int32))]))
      refine Go.st (fun t k => XS.goto X24.here hx rfl (pc0 := 327) (pc' := 331) rfl (hb hby at_327) (by decide) (by decide) k) ?_
      show Go p.tables e below PP (T24.setTop (mkF m 331 #[.val (.long q1), .second, .val (.long q2), .second, .val (.long q3), .second, .val (.long q4), .second, .val (.long q5), .second, .val (.long nn), .second, .val (.long px1), .second, .val (.long py1), .second, .val (.long px2), .second, .val (.long py2), .second, .val (.long a1v), .second, .val (.long b1v), .second, .val (.long a2v), .second, .val (.long b2v), .second, .val (.ref b5), .val (.ref r_17), .val (.long a2v), .second, .val (.long b2v), .second, .val (.long a1v), .second, .val (.long b1v), .second] [(.int (1 : Int32))]))
      rw [hPP]
      refine endN X24 hx hlk (t := .boolean) hret (by simp) (hb hby at_331) (w := (1 : Int32)) (rfl) ?_ (by decide) (by decide)
      show Q0 Z q1 q2 q3 q4 q5 h0 n0 (some (.int (1 : Int32))) T24.heap _
      rw [e24]
      exact ⟨rfl, N17⟩
  · --
    show Go p.tables e below PP (T8.setTop (mkF m 117 #[.val (.long q1), .second, .val (.long q2), .second, .val (.long q3), .second, .val (.long q4), .second, .val (.long q5), .second, .val (.long nn), .second, .val (.long px1), .second, .val (.long py1), .second, .val (.long px2), .second, .val (.long py2), .second, .val (.long a1v), .second, .val (.long b1v), .second, .val (.long a2v), .second, .val (.long b2v), .second, .val (.ref b5), .unset, .unset, .unset, .unset, .unset, .unset, .unset, .unset, .unset] []))
    refine Go.st (fun t k => XS.aload X8.here hx rfl (hb hby at_117) rfl rfl k) ?_
    show Go p.tables e below PP (T8.setTop (mkF m 119 #[.val (.long q1), .second, .val (.long q2), .second, .val (.long q3), .second, .val (.long q4), .second, .val (.long q5), .second, .val (.long nn), .second, .val (.long px1), .second, .val (.long py1), .second, .val (.long px2), .second, .val (.long py2), .second, .val (.long a1v), .second, .val (.long b1v), .second, .val (.long a2v), .second, .val (.long b2v), .second, .val (.ref b5), .unset, .unset, .unset, .unset, .unset, .unset, .unset, .unset, .unset] [(.ref b5)]))
    obtain ⟨v25, T25, L25, X25, hQ25, st25⟩ := callVi X8 hx hZ (C := "com/example/warpfinder/warpfinder/index/PositionBits") (y := (⟨"com/example/warpfinder/warpfinder/index/PositionBits", "intervals", "()Lcom/example/warpfinder/warpfinder/index/Intervals;"⟩ : MethodName)) (z := (⟨"com/example/warpfinder/warpfinder/index/PositionBits", "intervals", "()Lcom/example/warpfinder/warpfinder/index/Intervals;"⟩ : MethodName)) (a := b5) (argsL := []) (rest := []) hown (hw _ (List.mem_of_getElem? (i := 31) rfl)) (hw _ (List.mem_of_getElem? (i := 32) rfl)) (notFace_of_selects (args := #[]) (mvT hZ (hw _ (List.mem_of_getElem? (i := 34) rfl)))) (hw _ (List.mem_of_getElem? (i := 34) rfl)) (hw _ (List.mem_of_getElem? (i := 33) rfl)) (hw _ (List.mem_of_getElem? (i := 11) rfl)) (hw _ (List.mem_of_getElem? (i := 35) rfl)) (by decide) rfl E_b5 (rm6 l Z a0 hw [] b5 t_6 (nwI nn) nn (addF (addF (fun _ => (0 : Int64)) a1v b1v) a2v b2v) (1 : Int32) (fun _ => (if a2v < a1v then a2v else a1v)) (fun _ => (if b1v < b2v then b2v else b1v)) h8 n0 Zn F_words_b5 F_size_b5 V_t_6 ((runs_law nn a1v b1v a2v b2v hnn hab1 hab2).1 hM)) e8 0 (by decide) (by decide) (by decide) (by decide) (g := (mkF m 119 #[.val (.long q1), .second, .val (.long q2), .second, .val (.long q3), .second, .val (.long q4), .second, .val (.long q5), .second, .val (.long nn), .second, .val (.long px1), .second, .val (.long py1), .second, .val (.long px2), .second, .val (.long py2), .second, .val (.long a1v), .second, .val (.long b1v), .second, .val (.long a2v), .second, .val (.long b2v), .second, .val (.ref b5), .unset, .unset, .unset, .unset, .unset, .unset, .unset, .unset, .unset] [(.ref b5)])) rfl (by rw [hml]; rfl) (lenOf pd_4 rfl) rfl (by show 2 * 0 + _ ≤ _; exact Nat.le_of_eq rfl) (hb hby at_119)
    obtain ⟨h25, e25⟩ : ∃ z, T25.heap = z := ⟨_, rfl⟩
    rw [e25] at hQ25
    obtain ⟨r_25, tb_25, rfl, Nq25, Kq25, sq25_r, sq25_tb, Fq25_0, Fq25_1, Fq25_2, Fq25_3⟩ := hQ25
    have N25 := Fr.app N8 Nq25
    have ne_b5_r_25 : b5 ≠ r_25 := Nat.ne_of_lt (Nat.lt_of_lt_of_le E_b5.lt sq25_r)
    have ne_t_6_r_25 : t_6 ≠ r_25 := Nat.ne_of_lt (Nat.lt_of_lt_of_le V_t_6.lt sq25_r)
    have g_r_25 : n0 ≤ r_25 := Nat.le_trans Zn sq25_r
    have ne_b5_tb_25 : b5 ≠ tb_25 := Nat.ne_of_lt (Nat.lt_of_lt_of_le E_b5.lt sq25_tb)
    have ne_t_6_tb_25 : t_6 ≠ tb_25 := Nat.ne_of_lt (Nat.lt_of_lt_of_le V_t_6.lt sq25_tb)
    have g_tb_25 : n0 ≤ tb_25 := Nat.le_trans Zn sq25_tb
    replace E_b5 := E_b5.keep Kq25
    replace F_size_b5 := F_size_b5.keep Kq25 nin0
    replace F_words_b5 := F_words_b5.keep Kq25 nin0
    replace V_t_6 := V_t_6.keep Kq25 nin0
    replace Zn := Nat.le_trans Zn Kq25.1
    have E_r_25 := Fq25_0
    have F_size_r_25 := Fq25_1
    have F_bounds_r_25 := Fq25_2
    have V_tb_25 := Fq25_3
    refine Go.st st25 ?_
    show Go p.tables e below PP (T25.setTop (mkF m 122 #[.val (.long q1), .second, .val (.long q2), .second, .val (.long q3), .second, .val (.long q4), .second, .val (.long q5), .second, .val (.long nn), .second, .val (.long px1), .second, .val (.long py1), .second, .val (.long px2), .second, .val (.long py2), .second, .val (.long a1v), .second, .val (.long b1v), .second, .val (.long a2v), .second, .val (.long b2v), .second, .val (.ref b5), .unset, .unset, .unset, .unset, .unset, .unset, .unset, .unset, .unset] [(.ref r_25)]))
    refine Go.st (fun t k => XS.astore X25.here hx rfl (hb hby at_122) rfl rfl (l' := #[.val (.long q1), .second, .val (.long q2), .second, .val (.long q3), .second, .val (.long q4), .second, .val (.long q5), .second, .val (.long nn), .second, .val (.long px1), .second, .val (.long py1), .second, .val (.long px2), .second, .val (.long py2), .second, .val (.long a1v), .second, .val (.long b1v), .second, .val (.long a2v), .second, .val (.long b2v), .second, .val (.ref b5), .val (.ref r_25), .unset, .unset, .unset, .unset, .unset, .unset, .unset, .unset]) rfl k) ?_
    show Go p.tables e below PP (T25.setTop (mkF m 124 #[.val (.long q1), .second, .val (.long q2), .second, .val (.long q3), .second, .val (.long q4), .second, .val (.long q5), .second, .val (.long nn), .second, .val (.long px1), .second, .val (.long py1), .second, .val (.long px2), .second, .val (.long py2), .second, .val (.long a1v), .second, .val (.long b1v), .second, .val (.long a2v), .second, .val (.long b2v), .second, .val (.ref b5), .val (.ref r_25), .unset, .unset, .unset, .unset, .unset, .unset, .unset, .unset] []))
    refine Go.st (fun t k => XS.lload X25.here hx rfl (hb hby at_124) rfl k) ?_
    show Go p.tables e below PP (T25.setTop (mkF m 126 #[.val (.long q1), .second, .val (.long q2), .second, .val (.long q3), .second, .val (.long q4), .second, .val (.long q5), .second, .val (.long nn), .second, .val (.long px1), .second, .val (.long py1), .second, .val (.long px2), .second, .val (.long py2), .second, .val (.long a1v), .second, .val (.long b1v), .second, .val (.long a2v), .second, .val (.long b2v), .second, .val (.ref b5), .val (.ref r_25), .unset, .unset, .unset, .unset, .unset, .unset, .unset, .unset] [(.long a1v)]))
    refine Go.st (fun t k => XS.lload X25.here hx rfl (hb hby at_126) rfl k) ?_
    show Go p.tables e below PP (T25.setTop (mkF m 128 #[.val (.long q1), .second, .val (.long q2), .second, .val (.long q3), .second, .val (.long q4), .second, .val (.long q5), .second, .val (.long nn), .second, .val (.long px1), .second, .val (.long py1), .second, .val (.long px2), .second, .val (.long py2), .second, .val (.long a1v), .second, .val (.long b1v), .second, .val (.long a2v), .second, .val (.long b2v), .second, .val (.ref b5), .val (.ref r_25), .unset, .unset, .unset, .unset, .unset, .unset, .unset, .unset] [(.long a2v), (.long a1v)]))
    obtain ⟨v26, T26, L26, X26, hQ26, st26⟩ := callSt X25 hx hZ (y := (⟨"java/lang/Math", "max", "(JJ)J"⟩ : MethodName)) (argsL := [(.long a1v), (.long a2v)]) (rest := []) hown (hw _ (List.mem_of_getElem? (i := 6) rfl)) (hw _ (List.mem_of_getElem? (i := 7) rfl)) (hw _ (List.mem_of_getElem? (i := 4) rfl)) (hw _ (List.mem_of_getElem? (i := 8) rfl)) (by decide) (rm2 l Z a0 hw [] a1v a2v h25 n0 Zn) e25 0 (by decide) (by decide) (by decide) (by decide) (g := (mkF m 128 #[.val (.long q1), .second, .val (.long q2), .second, .val (.long q3), .second, .val (.long q4), .second, .val (.long q5), .second, .val (.long nn), .second, .val (.long px1), .second, .val (.long py1), .second, .val (.long px2), .second, .val (.long py2), .second, .val (.long a1v), .second, .val (.long b1v), .second, .val (.long a2v), .second, .val (.long b2v), .second, .val (.ref b5), .val (.ref r_25), .unset, .unset, .unset, .unset, .unset, .unset, .unset, .unset] [(.long a2v), (.long a1v)])) rfl (by rw [hml]; rfl) (lenOf pd_7 rfl) rfl (by show 2 * 0 + _ ≤ _; exact Nat.le_of_eq rfl) (hb hby at_128)
    obtain ⟨rfl, rfl, e26⟩ := hQ26
    rw [List.append_nil] at X26
    refine Go.st st26 ?_
    show Go p.tables e below PP (T26.setTop (mkF m 131 #[.val (.long q1), .second, .val (.long q2), .second, .val (.long q3), .second, .val (.long q4), .second, .val (.long q5), .second, .val (.long nn), .second, .val (.long px1), .second, .val (.long py1), .second, .val (.long px2), .second, .val (.long py2), .second, .val (.long a1v), .second, .val (.long b1v), .second, .val (.long a2v), .second, .val (.long b2v), .second, .val (.ref b5), .val (.ref r_25), .unset, .unset, .unset, .unset, .unset, .unset, .unset, .unset] [(.long (if a1v < a2v then a2v else a1v))]))
    refine Go.st (fun t k => XS.lload X26.here hx rfl (hb hby at_131) rfl k) ?_
    show Go p.tables e below PP (T26.setTop (mkF m 133 #[.val (.long q1), .second, .val (.long q2), .second, .val (.long q3), .second, .val (.long q4), .second, .val (.long q5), .second, .val (.long nn), .second, .val (.long px1), .second, .val (.long py1), .second, .val (.long px2), .second, .val (.long py2), .second, .val (.long a1v), .second, .val (.long b1v), .second, .val (.long a2v), .second, .val (.long b2v), .second, .val (.ref b5), .val (.ref r_25), .unset, .unset, .unset, .unset, .unset, .unset, .unset, .unset] [(.long b1v), (.long (if a1v < a2v then a2v else a1v))]))
    refine Go.st (fun t k => XS.lload X26.here hx rfl (hb hby at_133) rfl k) ?_
    show Go p.tables e below PP (T26.setTop (mkF m 135 #[.val (.long q1), .second, .val (.long q2), .second, .val (.long q3), .second, .val (.long q4), .second, .val (.long q5), .second, .val (.long nn), .second, .val (.long px1), .second, .val (.long py1), .second, .val (.long px2), .second, .val (.long py2), .second, .val (.long a1v), .second, .val (.long b1v), .second, .val (.long a2v), .second, .val (.long b2v), .second, .val (.ref b5), .val (.ref r_25), .unset, .unset, .unset, .unset, .unset, .unset, .unset, .unset] [(.long b2v), (.long b1v), (.long (if a1v < a2v then a2v else a1v))]))
    obtain ⟨v27, T27, L27, X27, hQ27, st27⟩ := callSt X26 hx hZ (y := (⟨"java/lang/Math", "min", "(JJ)J"⟩ : MethodName)) (argsL := [(.long b1v), (.long b2v)]) (rest := [(.long (if a1v < a2v then a2v else a1v))]) hown (hw _ (List.mem_of_getElem? (i := 2) rfl)) (hw _ (List.mem_of_getElem? (i := 3) rfl)) (hw _ (List.mem_of_getElem? (i := 4) rfl)) (hw _ (List.mem_of_getElem? (i := 5) rfl)) (by decide) (rm1 l Z a0 hw [] b1v b2v h25 n0 Zn) e26 2 (by decide) (by decide) (by decide) (by decide) (g := (mkF m 135 #[.val (.long q1), .second, .val (.long q2), .second, .val (.long q3), .second, .val (.long q4), .second, .val (.long q5), .second, .val (.long nn), .second, .val (.long px1), .second, .val (.long py1), .second, .val (.long px2), .second, .val (.long py2), .second, .val (.long a1v), .second, .val (.long b1v), .second, .val (.long a2v), .second, .val (.long b2v), .second, .val (.ref b5), .val (.ref r_25), .unset, .unset, .unset, .unset, .unset, .unset, .unset, .unset] [(.long b2v), (.long b1v), (.long (if a1v < a2v then a2v else a1v))])) rfl (by rw [hml]; rfl) (lenOf pd_7 rfl) rfl (by show 2 * 0 + _ ≤ _; exact Nat.le_of_eq rfl) (hb hby at_135)
    obtain ⟨rfl, rfl, e27⟩ := hQ27
    rw [List.append_nil] at X27
    refine Go.st st27 ?_
    show Go p.tables e below PP (T27.setTop (mkF m 138 #[.val (.long q1), .second, .val (.long q2), .second, .val (.long q3), .second, .val (.long q4), .second, .val (.long q5), .second, .val (.long nn), .second, .val (.long px1), .second, .val (.long py1), .second, .val (.long px2), .second, .val (.long py2), .second, .val (.long a1v), .second, .val (.long b1v), .second, .val (.long a2v), .second, .val (.long b2v), .second, .val (.ref b5), .val (.ref r_25), .unset, .unset, .unset, .unset, .unset, .unset, .unset, .unset] [(.long (if b2v < b1v then b2v else b1v)), (.long (if a1v < a2v then a2v else a1v))]))
    refine Go.st (fun t k => XS.lconst X27.here hx rfl (hb hby at_138) k) ?_
    show Go p.tables e below PP (T27.setTop (mkF m 139 #[.val (.long q1), .second, .val (.long q2), .second, .val (.long q3), .second, .val (.long q4), .second, .val (.long q5), .second, .val (.long nn), .second, .val (.long px1), .second, .val (.long py1), .second, .val (.long px2), .second, .val (.long py2), .second, .val (.long a1v), .second, .val (.long b1v), .second, .val (.long a2v), .second, .val (.long b2v), .second, .val (.ref b5), .val (.ref r_25), .unset, .unset, .unset, .unset, .unset, .unset, .unset, .unset] [(.long (1 : Int64)), (.long (if b2v < b1v then b2v else b1v)), (.long (if a1v < a2v then a2v else a1v))]))
    refine Go.st (fun t k => XS.ladd X27.here hx rfl (hb hby at_139) rfl k) ?_
    show Go p.tables e below PP (T27.setTop (mkF m 140 #[.val (.long q1), .second, .val (.long q2), .second, .val (.long q3), .second, .val (.long q4), .second, .val (.long q5), .second, .val (.long nn), .second, .val (.long px1), .second, .val (.long py1), .second, .val (.long px2), .second, .val (.long py2), .second, .val (.long a1v), .second, .val (.long b1v), .second, .val (.long a2v), .second, .val (.long b2v), .second, .val (.ref b5), .val (.ref r_25), .unset, .unset, .unset, .unset, .unset, .unset, .unset, .unset] [(.long ((if b2v < b1v then b2v else b1v) + (1 : Int64))), (.long (if a1v < a2v then a2v else a1v))]))
    refine Go.st (fun t k => XS.lcmp X27.here hx rfl (hb hby at_140) rfl k) ?_
    show Go p.tables e below PP (T27.setTop (mkF m 141 #[.val (.long q1), .second, .val (.long q2), .second, .val (.long q3), .second, .val (.long q4), .second, .val (.long q5), .second, .val (.long nn), .second, .val (.long px1), .second, .val (.long py1), .second, .val (.long px2), .second, .val (.long py2), .second, .val (.long a1v), .second, .val (.long b1v), .second, .val (.long a2v), .second, .val (.long b2v), .second, .val (.ref b5), .val (.ref r_25), .unset, .unset, .unset, .unset, .unset, .unset, .unset, .unset] [(.int (XT.cmpL (if a1v < a2v then a2v else a1v) ((if b2v < b1v then b2v else b1v) + (1 : Int64))))]))
    refine Go.st (fun t k => XS.ifNo X27.here hx rfl (hb hby at_141) rfl (XT.ll_gt_f hM) k) ?_
    show Go p.tables e below PP (T27.setTop (mkF m 144 #[.val (.long q1), .second, .val (.long q2), .second, .val (.long q3), .second, .val (.long q4), .second, .val (.long q5), .second, .val (.long nn), .second, .val (.long px1), .second, .val (.long py1), .second, .val (.long px2), .second, .val (.long py2), .second, .val (.long a1v), .second, .val (.long b1v), .second, .val (.long a2v), .second, .val (.long b2v), .second, .val (.ref b5), .val (.ref r_25), .unset, .unset, .unset, .unset, .unset, .unset, .unset, .unset] []))
    refine Go.st (fun t k => XS.lload X27.here hx rfl (hb hby at_144) rfl k) ?_
    show Go p.tables e below PP (T27.setTop (mkF m 146 #[.val (.long q1), .second, .val (.long q2), .second, .val (.long q3), .second, .val (.long q4), .second, .val (.long q5), .second, .val (.long nn), .second, .val (.long px1), .second, .val (.long py1), .second, .val (.long px2), .second, .val (.long py2), .second, .val (.long a1v), .second, .val (.long b1v), .second, .val (.long a2v), .second, .val (.long b2v), .second, .val (.ref b5), .val (.ref r_25), .unset, .unset, .unset, .unset, .unset, .unset, .unset, .unset] [(.long a1v)]))
    refine Go.st (fun t k => XS.lload X27.here hx rfl (hb hby at_146) rfl k) ?_
    show Go p.tables e below PP (T27.setTop (mkF m 148 #[.val (.long q1), .second, .val (.long q2), .second, .val (.long q3), .second, .val (.long q4), .second, .val (.long q5), .second, .val (.long nn), .second, .val (.long px1), .second, .val (.long py1), .second, .val (.long px2), .second, .val (.long py2), .second, .val (.long a1v), .second, .val (.long b1v), .second, .val (.long a2v), .second, .val (.long b2v), .second, .val (.ref b5), .val (.ref r_25), .unset, .unset, .unset, .unset, .unset, .unset, .unset, .unset] [(.long a2v), (.long a1v)]))
    obtain ⟨v28, T28, L28, X28, hQ28, st28⟩ := callSt X27 hx hZ (y := (⟨"java/lang/Math", "min", "(JJ)J"⟩ : MethodName)) (argsL := [(.long a1v), (.long a2v)]) (rest := []) hown (hw _ (List.mem_of_getElem? (i := 2) rfl)) (hw _ (List.mem_of_getElem? (i := 3) rfl)) (hw _ (List.mem_of_getElem? (i := 4) rfl)) (hw _ (List.mem_of_getElem? (i := 5) rfl)) (by decide) (rm1 l Z a0 hw [] a1v a2v h25 n0 Zn) e27 0 (by decide) (by decide) (by decide) (by decide) (g := (mkF m 148 #[.val (.long q1), .second, .val (.long q2), .second, .val (.long q3), .second, .val (.long q4), .second, .val (.long q5), .second, .val (.long nn), .second, .val (.long px1), .second, .val (.long py1), .second, .val (.long px2), .second, .val (.long py2), .second, .val (.long a1v), .second, .val (.long b1v), .second, .val (.long a2v), .second, .val (.long b2v), .second, .val (.ref b5), .val (.ref r_25), .unset, .unset, .unset, .unset, .unset, .unset, .unset, .unset] [(.long a2v), (.long a1v)])) rfl (by rw [hml]; rfl) (lenOf pd_7 rfl) rfl (by show 2 * 0 + _ ≤ _; exact Nat.le_of_eq rfl) (hb hby at_148)
    obtain ⟨rfl, rfl, e28⟩ := hQ28
    rw [List.append_nil] at X28
    refine Go.st st28 ?_
    show Go p.tables e below PP (T28.setTop (mkF m 151 #[.val (.long q1), .second, .val (.long q2), .second, .val (.long q3), .second, .val (.long q4), .second, .val (.long q5), .second, .val (.long nn), .second, .val (.long px1), .second, .val (.long py1), .second, .val (.long px2), .second, .val (.long py2), .second, .val (.long a1v), .second, .val (.long b1v), .second, .val (.long a2v), .second, .val (.long b2v), .second, .val (.ref b5), .val (.ref r_25), .unset, .unset, .unset, .unset, .unset, .unset, .unset, .unset] [(.long (if a2v < a1v then a2v else a1v))]))
    refine Go.st (fun t k => XS.lstore X28.here hx rfl (hb hby at_151) rfl (l' := #[.val (.long q1), .second, .val (.long q2), .second, .val (.long q3), .second, .val (.long q4), .second, .val (.long q5), .second, .val (.long nn), .second, .val (.long px1), .second, .val (.long py1), .second, .val (.long px2), .second, .val (.long py2), .second, .val (.long a1v), .second, .val (.long b1v), .second, .val (.long a2v), .second, .val (.long b2v), .second, .val (.ref b5), .val (.ref r_25), .val (.long (if a2v < a1v then a2v else a1v)), .second, .unset, .unset, .unset, .unset, .unset, .unset]) rfl k) ?_
    show Go p.tables e below PP (T28.setTop (mkF m 153 #[.val (.long q1), .second, .val (.long q2), .second, .val (.long q3), .second, .val (.long q4), .second, .val (.long q5), .second, .val (.long nn), .second, .val (.long px1), .second, .val (.long py1), .second, .val (.long px2), .second, .val (.long py2), .second, .val (.long a1v), .second, .val (.long b1v), .second, .val (.long a2v), .second, .val (.long b2v), .second, .val (.ref b5), .val (.ref r_25), .val (.long (if a2v < a1v then a2v else a1v)), .second, .unset, .unset, .unset, .unset, .unset, .unset] []))
    refine Go.st (fun t k => XS.lload X28.here hx rfl (hb hby at_153) rfl k) ?_
    show Go p.tables e below PP (T28.setTop (mkF m 155 #[.val (.long q1), .second, .val (.long q2), .second, .val (.long q3), .second, .val (.long q4), .second, .val (.long q5), .second, .val (.long nn), .second, .val (.long px1), .second, .val (.long py1), .second, .val (.long px2), .second, .val (.long py2), .second, .val (.long a1v), .second, .val (.long b1v), .second, .val (.long a2v), .second, .val (.long b2v), .second, .val (.ref b5), .val (.ref r_25), .val (.long (if a2v < a1v then a2v else a1v)), .second, .unset, .unset, .unset, .unset, .unset, .unset] [(.long b1v)]))
    refine Go.st (fun t k => XS.lload X28.here hx rfl (hb hby at_155) rfl k) ?_
    show Go p.tables e below PP (T28.setTop (mkF m 157 #[.val (.long q1), .second, .val (.long q2), .second, .val (.long q3), .second, .val (.long q4), .second, .val (.long q5), .second, .val (.long nn), .second, .val (.long px1), .second, .val (.long py1), .second, .val (.long px2), .second, .val (.long py2), .second, .val (.long a1v), .second, .val (.long b1v), .second, .val (.long a2v), .second, .val (.long b2v), .second, .val (.ref b5), .val (.ref r_25), .val (.long (if a2v < a1v then a2v else a1v)), .second, .unset, .unset, .unset, .unset, .unset, .unset] [(.long b2v), (.long b1v)]))
    obtain ⟨v29, T29, L29, X29, hQ29, st29⟩ := callSt X28 hx hZ (y := (⟨"java/lang/Math", "max", "(JJ)J"⟩ : MethodName)) (argsL := [(.long b1v), (.long b2v)]) (rest := []) hown (hw _ (List.mem_of_getElem? (i := 6) rfl)) (hw _ (List.mem_of_getElem? (i := 7) rfl)) (hw _ (List.mem_of_getElem? (i := 4) rfl)) (hw _ (List.mem_of_getElem? (i := 8) rfl)) (by decide) (rm2 l Z a0 hw [] b1v b2v h25 n0 Zn) e28 0 (by decide) (by decide) (by decide) (by decide) (g := (mkF m 157 #[.val (.long q1), .second, .val (.long q2), .second, .val (.long q3), .second, .val (.long q4), .second, .val (.long q5), .second, .val (.long nn), .second, .val (.long px1), .second, .val (.long py1), .second, .val (.long px2), .second, .val (.long py2), .second, .val (.long a1v), .second, .val (.long b1v), .second, .val (.long a2v), .second, .val (.long b2v), .second, .val (.ref b5), .val (.ref r_25), .val (.long (if a2v < a1v then a2v else a1v)), .second, .unset, .unset, .unset, .unset, .unset, .unset] [(.long b2v), (.long b1v)])) rfl (by rw [hml]; rfl) (lenOf pd_7 rfl) rfl (by show 2 * 0 + _ ≤ _; exact Nat.le_of_eq rfl) (hb hby at_157)
    obtain ⟨rfl, rfl, e29⟩ := hQ29
    rw [List.append_nil] at X29
    refine Go.st st29 ?_
    show Go p.tables e below PP (T29.setTop (mkF m 160 #[.val (.long q1), .second, .val (.long q2), .second, .val (.long q3), .second, .val (.long q4), .second, .val (.long q5), .second, .val (.long nn), .second, .val (.long px1), .second, .val (.long py1), .second, .val (.long px2), .second, .val (.long py2), .second, .val (.long a1v), .second, .val (.long b1v), .second, .val (.long a2v), .second, .val (.long b2v), .second, .val (.ref b5), .val (.ref r_25), .val (.long (if a2v < a1v then a2v else a1v)), .second, .unset, .unset, .unset, .unset, .unset, .unset] [(.long (if b1v < b2v then b2v else b1v))]))
    refine Go.st (fun t k => XS.lstore X29.here hx rfl (hb hby at_160) rfl (l' := #[.val (.long q1), .second, .val (.long q2), .second, .val (.long q3), .second, .val (.long q4), .second, .val (.long q5), .second, .val (.long nn), .second, .val (.long px1), .second, .val (.long py1), .second, .val (.long px2), .second, .val (.long py2), .second, .val (.long a1v), .second, .val (.long b1v), .second, .val (.long a2v), .second, .val (.long b2v), .second, .val (.ref b5), .val (.ref r_25), .val (.long (if a2v < a1v then a2v else a1v)), .second, .val (.long (if b1v < b2v then b2v else b1v)), .second, .unset, .unset, .unset, .unset]) rfl k) ?_
    show Go p.tables e below PP (T29.setTop (mkF m 162 #[.val (.long q1), .second, .val (.long q2), .second, .val (.long q3), .second, .val (.long q4), .second, .val (.long q5), .second, .val (.long nn), .second, .val (.long px1), .second, .val (.long py1), .second, .val (.long px2), .second, .val (.long py2), .second, .val (.long a1v), .second, .val (.long b1v), .second, .val (.long a2v), .second, .val (.long b2v), .second, .val (.ref b5), .val (.ref r_25), .val (.long (if a2v < a1v then a2v else a1v)), .second, .val (.long (if b1v < b2v then b2v else b1v)), .second, .unset, .unset, .unset, .unset] []))
    refine Go.st (fun t k => XS.aload X29.here hx rfl (hb hby at_162) rfl rfl k) ?_
    show Go p.tables e below PP (T29.setTop (mkF m 164 #[.val (.long q1), .second, .val (.long q2), .second, .val (.long q3), .second, .val (.long q4), .second, .val (.long q5), .second, .val (.long nn), .second, .val (.long px1), .second, .val (.long py1), .second, .val (.long px2), .second, .val (.long py2), .second, .val (.long a1v), .second, .val (.long b1v), .second, .val (.long a2v), .second, .val (.long b2v), .second, .val (.ref b5), .val (.ref r_25), .val (.long (if a2v < a1v then a2v else a1v)), .second, .val (.long (if b1v < b2v then b2v else b1v)), .second, .unset, .unset, .unset, .unset] [(.ref r_25)]))
    obtain ⟨v30, T30, L30, X30, hQ30, st30⟩ := callVi X29 hx hZ (C := "com/example/warpfinder/warpfinder/index/Intervals") (y := (⟨"com/example/warpfinder/warpfinder/index/Intervals", "size", "()I"⟩ : MethodName)) (z := (⟨"com/example/warpfinder/warpfinder/index/Intervals", "size", "()I"⟩ : MethodName)) (a := r_25) (argsL := []) (rest := []) hown (hw _ (List.mem_of_getElem? (i := 80) rfl)) (hw _ (List.mem_of_getElem? (i := 81) rfl)) (notFace_of_selects (args := #[]) (mvT hZ (hw _ (List.mem_of_getElem? (i := 83) rfl)))) (hw _ (List.mem_of_getElem? (i := 83) rfl)) (hw _ (List.mem_of_getElem? (i := 82) rfl)) (hw _ (List.mem_of_getElem? (i := 71) rfl)) (hw _ (List.mem_of_getElem? (i := 84) rfl)) (by decide) rfl E_r_25 (rm14 l Z a0 hw [] r_25 (1 : Int32) h25 n0 Zn F_size_r_25) e29 0 (by decide) (by decide) (by decide) (by decide) (g := (mkF m 164 #[.val (.long q1), .second, .val (.long q2), .second, .val (.long q3), .second, .val (.long q4), .second, .val (.long q5), .second, .val (.long nn), .second, .val (.long px1), .second, .val (.long py1), .second, .val (.long px2), .second, .val (.long py2), .second, .val (.long a1v), .second, .val (.long b1v), .second, .val (.long a2v), .second, .val (.long b2v), .second, .val (.ref b5), .val (.ref r_25), .val (.long (if a2v < a1v then a2v else a1v)), .second, .val (.long (if b1v < b2v then b2v else b1v)), .second, .unset, .unset, .unset, .unset] [(.ref r_25)])) rfl (by rw [hml]; rfl) (lenOf pd_9 rfl) rfl (by show 2 * 0 + _ ≤ _; exact Nat.le_of_eq rfl) (hb hby at_164)
    obtain ⟨rfl, rfl, e30⟩ := hQ30
    rw [List.append_nil] at X30
    refine Go.st st30 ?_
    show Go p.tables e below PP (T30.setTop (mkF m 167 #[.val (.long q1), .second, .val (.long q2), .second, .val (.long q3), .second, .val (.long q4), .second, .val (.long q5), .second, .val (.long nn), .second, .val (.long px1), .second, .val (.long py1), .second, .val (.long px2), .second, .val (.long py2), .second, .val (.long a1v), .second, .val (.long b1v), .second, .val (.long a2v), .second, .val (.long b2v), .second, .val (.ref b5), .val (.ref r_25), .val (.long (if a2v < a1v then a2v else a1v)), .second, .val (.long (if b1v < b2v then b2v else b1v)), .second, .unset, .unset, .unset, .unset] [(.int (1 : Int32))]))
    refine Go.st (fun t k => XS.iconst X30.here hx rfl (hb hby at_167) k) ?_
    show Go p.tables e below PP (T30.setTop (mkF m 168 #[.val (.long q1), .second, .val (.long q2), .second, .val (.long q3), .second, .val (.long q4), .second, .val (.long q5), .second, .val (.long nn), .second, .val (.long px1), .second, .val (.long py1), .second, .val (.long px2), .second, .val (.long py2), .second, .val (.long a1v), .second, .val (.long b1v), .second, .val (.long a2v), .second, .val (.long b2v), .second, .val (.ref b5), .val (.ref r_25), .val (.long (if a2v < a1v then a2v else a1v)), .second, .val (.long (if b1v < b2v then b2v else b1v)), .second, .unset, .unset, .unset, .unset] [(.int (1 : Int32)), (.int (1 : Int32))]))
    refine Go.st (fun t k => XS.icmpNo X30.here hx rfl (hb hby at_168) rfl (XT.ii_ne_f (by decide)) k) ?_
    show Go p.tables e below PP (T30.setTop (mkF m 171 #[.val (.long q1), .second, .val (.long q2), .second, .val (.long q3), .second, .val (.long q4), .second, .val (.long q5), .second, .val (.long nn), .second, .val (.long px1), .second, .val (.long py1), .second, .val (.long px2), .second, .val (.long py2), .second, .val (.long a1v), .second, .val (.long b1v), .second, .val (.long a2v), .second, .val (.long b2v), .second, .val (.ref b5), .val (.ref r_25), .val (.long (if a2v < a1v then a2v else a1v)), .second, .val (.long (if b1v < b2v then b2v else b1v)), .second, .unset, .unset, .unset, .unset] []))
    refine Go.st (fun t k => XS.aload X30.here hx rfl (hb hby at_171) rfl rfl k) ?_
    show Go p.tables e below PP (T30.setTop (mkF m 173 #[.val (.long q1), .second, .val (.long q2), .second, .val (.long q3), .second, .val (.long q4), .second, .val (.long q5), .second, .val (.long nn), .second, .val (.long px1), .second, .val (.long py1), .second, .val (.long px2), .second, .val (.long py2), .second, .val (.long a1v), .second, .val (.long b1v), .second, .val (.long a2v), .second, .val (.long b2v), .second, .val (.ref b5), .val (.ref r_25), .val (.long (if a2v < a1v then a2v else a1v)), .second, .val (.long (if b1v < b2v then b2v else b1v)), .second, .unset, .unset, .unset, .unset] [(.ref r_25)]))
    refine Go.st (fun t k => XS.iconst X30.here hx rfl (hb hby at_173) k) ?_
    show Go p.tables e below PP (T30.setTop (mkF m 174 #[.val (.long q1), .second, .val (.long q2), .second, .val (.long q3), .second, .val (.long q4), .second, .val (.long q5), .second, .val (.long nn), .second, .val (.long px1), .second, .val (.long py1), .second, .val (.long px2), .second, .val (.long py2), .second, .val (.long a1v), .second, .val (.long b1v), .second, .val (.long a2v), .second, .val (.long b2v), .second, .val (.ref b5), .val (.ref r_25), .val (.long (if a2v < a1v then a2v else a1v)), .second, .val (.long (if b1v < b2v then b2v else b1v)), .second, .unset, .unset, .unset, .unset] [(.int (0 : Int32)), (.ref r_25)]))
    obtain ⟨v31, T31, L31, X31, hQ31, st31⟩ := callVi X30 hx hZ (C := "com/example/warpfinder/warpfinder/index/Intervals") (y := (⟨"com/example/warpfinder/warpfinder/index/Intervals", "start", "(I)J"⟩ : MethodName)) (z := (⟨"com/example/warpfinder/warpfinder/index/Intervals", "start", "(I)J"⟩ : MethodName)) (a := r_25) (argsL := [(.int (0 : Int32))]) (rest := []) hown (hw _ (List.mem_of_getElem? (i := 85) rfl)) (hw _ (List.mem_of_getElem? (i := 86) rfl)) (notFace_of_selects (args := #[]) (mvT hZ (hw _ (List.mem_of_getElem? (i := 88) rfl)))) (hw _ (List.mem_of_getElem? (i := 88) rfl)) (hw _ (List.mem_of_getElem? (i := 87) rfl)) (hw _ (List.mem_of_getElem? (i := 71) rfl)) (hw _ (List.mem_of_getElem? (i := 89) rfl)) (by decide) rfl E_r_25 (rm15 l Z a0 hw [] r_25 (0 : Int32) tb_25 (2048 : Int32) (bnd (fun _ => (if a2v < a1v then a2v else a1v)) (fun _ => (if b1v < b2v then b2v else b1v)) (1 : Int32).toNatClampNeg) h25 n0 Zn F_bounds_r_25 V_tb_25 (by decide)) e30 0 (by decide) (by decide) (by decide) (by decide) (g := (mkF m 174 #[.val (.long q1), .second, .val (.long q2), .second, .val (.long q3), .second, .val (.long q4), .second, .val (.long q5), .second, .val (.long nn), .second, .val (.long px1), .second, .val (.long py1), .second, .val (.long px2), .second, .val (.long py2), .second, .val (.long a1v), .second, .val (.long b1v), .second, .val (.long a2v), .second, .val (.long b2v), .second, .val (.ref b5), .val (.ref r_25), .val (.long (if a2v < a1v then a2v else a1v)), .second, .val (.long (if b1v < b2v then b2v else b1v)), .second, .unset, .unset, .unset, .unset] [(.int (0 : Int32)), (.ref r_25)])) rfl (by rw [hml]; rfl) (lenOf pd_10 rfl) rfl (by show 2 * 0 + _ ≤ _; exact Nat.le_of_eq rfl) (hb hby at_174)
    obtain ⟨rfl, rfl, e31⟩ := hQ31
    rw [List.append_nil] at X31
    refine Go.st st31 ?_
    show Go p.tables e below PP (T31.setTop (mkF m 177 #[.val (.long q1), .second, .val (.long q2), .second, .val (.long q3), .second, .val (.long q4), .second, .val (.long q5), .second, .val (.long nn), .second, .val (.long px1), .second, .val (.long py1), .second, .val (.long px2), .second, .val (.long py2), .second, .val (.long a1v), .second, .val (.long b1v), .second, .val (.long a2v), .second, .val (.long b2v), .second, .val (.ref b5), .val (.ref r_25), .val (.long (if a2v < a1v then a2v else a1v)), .second, .val (.long (if b1v < b2v then b2v else b1v)), .second, .unset, .unset, .unset, .unset] [(.long ((bnd (fun _ => (if a2v < a1v then a2v else a1v)) (fun _ => (if b1v < b2v then b2v else b1v)) (1 : Int32).toNatClampNeg) ((2 : Int32) * (0 : Int32)).toNatClampNeg))]))
    refine Go.st (fun t k => XS.lload X31.here hx rfl (hb hby at_177) rfl k) ?_
    show Go p.tables e below PP (T31.setTop (mkF m 179 #[.val (.long q1), .second, .val (.long q2), .second, .val (.long q3), .second, .val (.long q4), .second, .val (.long q5), .second, .val (.long nn), .second, .val (.long px1), .second, .val (.long py1), .second, .val (.long px2), .second, .val (.long py2), .second, .val (.long a1v), .second, .val (.long b1v), .second, .val (.long a2v), .second, .val (.long b2v), .second, .val (.ref b5), .val (.ref r_25), .val (.long (if a2v < a1v then a2v else a1v)), .second, .val (.long (if b1v < b2v then b2v else b1v)), .second, .unset, .unset, .unset, .unset] [(.long (if a2v < a1v then a2v else a1v)), (.long ((bnd (fun _ => (if a2v < a1v then a2v else a1v)) (fun _ => (if b1v < b2v then b2v else b1v)) (1 : Int32).toNatClampNeg) ((2 : Int32) * (0 : Int32)).toNatClampNeg))]))
    refine Go.st (fun t k => XS.lcmp X31.here hx rfl (hb hby at_179) rfl k) ?_
    show Go p.tables e below PP (T31.setTop (mkF m 180 #[.val (.long q1), .second, .val (.long q2), .second, .val (.long q3), .second, .val (.long q4), .second, .val (.long q5), .second, .val (.long nn), .second, .val (.long px1), .second, .val (.long py1), .second, .val (.long px2), .second, .val (.long py2), .second, .val (.long a1v), .second, .val (.long b1v), .second, .val (.long a2v), .second, .val (.long b2v), .second, .val (.ref b5), .val (.ref r_25), .val (.long (if a2v < a1v then a2v else a1v)), .second, .val (.long (if b1v < b2v then b2v else b1v)), .second, .unset, .unset, .unset, .unset] [(.int (XT.cmpL ((bnd (fun _ => (if a2v < a1v then a2v else a1v)) (fun _ => (if b1v < b2v then b2v else b1v)) (1 : Int32).toNatClampNeg) ((2 : Int32) * (0 : Int32)).toNatClampNeg) (if a2v < a1v then a2v else a1v)))]))
    refine Go.st (fun t k => XS.ifNo X31.here hx rfl (hb hby at_180) rfl (XT.ll_ne_f (bnd_s0 _ _).1) k) ?_
    show Go p.tables e below PP (T31.setTop (mkF m 183 #[.val (.long q1), .second, .val (.long q2), .second, .val (.long q3), .second, .val (.long q4), .second, .val (.long q5), .second, .val (.long nn), .second, .val (.long px1), .second, .val (.long py1), .second, .val (.long px2), .second, .val (.long py2), .second, .val (.long a1v), .second, .val (.long b1v), .second, .val (.long a2v), .second, .val (.long b2v), .second, .val (.ref b5), .val (.ref r_25), .val (.long (if a2v < a1v then a2v else a1v)), .second, .val (.long (if b1v < b2v then b2v else b1v)), .second, .unset, .unset, .unset, .unset] []))
    refine Go.st (fun t k => XS.aload X31.here hx rfl (hb hby at_183) rfl rfl k) ?_
    show Go p.tables e below PP (T31.setTop (mkF m 185 #[.val (.long q1), .second, .val (.long q2), .second, .val (.long q3), .second, .val (.long q4), .second, .val (.long q5), .second, .val (.long nn), .second, .val (.long px1), .second, .val (.long py1), .second, .val (.long px2), .second, .val (.long py2), .second, .val (.long a1v), .second, .val (.long b1v), .second, .val (.long a2v), .second, .val (.long b2v), .second, .val (.ref b5), .val (.ref r_25), .val (.long (if a2v < a1v then a2v else a1v)), .second, .val (.long (if b1v < b2v then b2v else b1v)), .second, .unset, .unset, .unset, .unset] [(.ref r_25)]))
    refine Go.st (fun t k => XS.iconst X31.here hx rfl (hb hby at_185) k) ?_
    show Go p.tables e below PP (T31.setTop (mkF m 186 #[.val (.long q1), .second, .val (.long q2), .second, .val (.long q3), .second, .val (.long q4), .second, .val (.long q5), .second, .val (.long nn), .second, .val (.long px1), .second, .val (.long py1), .second, .val (.long px2), .second, .val (.long py2), .second, .val (.long a1v), .second, .val (.long b1v), .second, .val (.long a2v), .second, .val (.long b2v), .second, .val (.ref b5), .val (.ref r_25), .val (.long (if a2v < a1v then a2v else a1v)), .second, .val (.long (if b1v < b2v then b2v else b1v)), .second, .unset, .unset, .unset, .unset] [(.int (0 : Int32)), (.ref r_25)]))
    obtain ⟨v32, T32, L32, X32, hQ32, st32⟩ := callVi X31 hx hZ (C := "com/example/warpfinder/warpfinder/index/Intervals") (y := (⟨"com/example/warpfinder/warpfinder/index/Intervals", "end", "(I)J"⟩ : MethodName)) (z := (⟨"com/example/warpfinder/warpfinder/index/Intervals", "end", "(I)J"⟩ : MethodName)) (a := r_25) (argsL := [(.int (0 : Int32))]) (rest := []) hown (hw _ (List.mem_of_getElem? (i := 90) rfl)) (hw _ (List.mem_of_getElem? (i := 91) rfl)) (notFace_of_selects (args := #[]) (mvT hZ (hw _ (List.mem_of_getElem? (i := 93) rfl)))) (hw _ (List.mem_of_getElem? (i := 93) rfl)) (hw _ (List.mem_of_getElem? (i := 92) rfl)) (hw _ (List.mem_of_getElem? (i := 71) rfl)) (hw _ (List.mem_of_getElem? (i := 94) rfl)) (by decide) rfl E_r_25 (rm16 l Z a0 hw [] r_25 (0 : Int32) tb_25 (2048 : Int32) (bnd (fun _ => (if a2v < a1v then a2v else a1v)) (fun _ => (if b1v < b2v then b2v else b1v)) (1 : Int32).toNatClampNeg) h25 n0 Zn F_bounds_r_25 V_tb_25 (by decide)) e31 0 (by decide) (by decide) (by decide) (by decide) (g := (mkF m 186 #[.val (.long q1), .second, .val (.long q2), .second, .val (.long q3), .second, .val (.long q4), .second, .val (.long q5), .second, .val (.long nn), .second, .val (.long px1), .second, .val (.long py1), .second, .val (.long px2), .second, .val (.long py2), .second, .val (.long a1v), .second, .val (.long b1v), .second, .val (.long a2v), .second, .val (.long b2v), .second, .val (.ref b5), .val (.ref r_25), .val (.long (if a2v < a1v then a2v else a1v)), .second, .val (.long (if b1v < b2v then b2v else b1v)), .second, .unset, .unset, .unset, .unset] [(.int (0 : Int32)), (.ref r_25)])) rfl (by rw [hml]; rfl) (lenOf pd_10 rfl) rfl (by show 2 * 0 + _ ≤ _; exact Nat.le_of_eq rfl) (hb hby at_186)
    obtain ⟨rfl, rfl, e32⟩ := hQ32
    rw [List.append_nil] at X32
    refine Go.st st32 ?_
    show Go p.tables e below PP (T32.setTop (mkF m 189 #[.val (.long q1), .second, .val (.long q2), .second, .val (.long q3), .second, .val (.long q4), .second, .val (.long q5), .second, .val (.long nn), .second, .val (.long px1), .second, .val (.long py1), .second, .val (.long px2), .second, .val (.long py2), .second, .val (.long a1v), .second, .val (.long b1v), .second, .val (.long a2v), .second, .val (.long b2v), .second, .val (.ref b5), .val (.ref r_25), .val (.long (if a2v < a1v then a2v else a1v)), .second, .val (.long (if b1v < b2v then b2v else b1v)), .second, .unset, .unset, .unset, .unset] [(.long ((bnd (fun _ => (if a2v < a1v then a2v else a1v)) (fun _ => (if b1v < b2v then b2v else b1v)) (1 : Int32).toNatClampNeg) (((2 : Int32) * (0 : Int32)) + (1 : Int32)).toNatClampNeg))]))
    refine Go.st (fun t k => XS.lload X32.here hx rfl (hb hby at_189) rfl k) ?_
    show Go p.tables e below PP (T32.setTop (mkF m 191 #[.val (.long q1), .second, .val (.long q2), .second, .val (.long q3), .second, .val (.long q4), .second, .val (.long q5), .second, .val (.long nn), .second, .val (.long px1), .second, .val (.long py1), .second, .val (.long px2), .second, .val (.long py2), .second, .val (.long a1v), .second, .val (.long b1v), .second, .val (.long a2v), .second, .val (.long b2v), .second, .val (.ref b5), .val (.ref r_25), .val (.long (if a2v < a1v then a2v else a1v)), .second, .val (.long (if b1v < b2v then b2v else b1v)), .second, .unset, .unset, .unset, .unset] [(.long (if b1v < b2v then b2v else b1v)), (.long ((bnd (fun _ => (if a2v < a1v then a2v else a1v)) (fun _ => (if b1v < b2v then b2v else b1v)) (1 : Int32).toNatClampNeg) (((2 : Int32) * (0 : Int32)) + (1 : Int32)).toNatClampNeg))]))
    refine Go.st (fun t k => XS.lcmp X32.here hx rfl (hb hby at_191) rfl k) ?_
    show Go p.tables e below PP (T32.setTop (mkF m 192 #[.val (.long q1), .second, .val (.long q2), .second, .val (.long q3), .second, .val (.long q4), .second, .val (.long q5), .second, .val (.long nn), .second, .val (.long px1), .second, .val (.long py1), .second, .val (.long px2), .second, .val (.long py2), .second, .val (.long a1v), .second, .val (.long b1v), .second, .val (.long a2v), .second, .val (.long b2v), .second, .val (.ref b5), .val (.ref r_25), .val (.long (if a2v < a1v then a2v else a1v)), .second, .val (.long (if b1v < b2v then b2v else b1v)), .second, .unset, .unset, .unset, .unset] [(.int (XT.cmpL ((bnd (fun _ => (if a2v < a1v then a2v else a1v)) (fun _ => (if b1v < b2v then b2v else b1v)) (1 : Int32).toNatClampNeg) (((2 : Int32) * (0 : Int32)) + (1 : Int32)).toNatClampNeg) (if b1v < b2v then b2v else b1v)))]))
    refine Go.st (fun t k => XS.ifNo X32.here hx rfl (hb hby at_192) rfl (XT.ll_ne_f (bnd_s0 _ _).2.1) k) ?_
    show Go p.tables e below PP (T32.setTop (mkF m 195 #[.val (.long q1), .second, .val (.long q2), .second, .val (.long q3), .second, .val (.long q4), .second, .val (.long q5), .second, .val (.long nn), .second, .val (.long px1), .second, .val (.long py1), .second, .val (.long px2), .second, .val (.long py2), .second, .val (.long a1v), .second, .val (.long b1v), .second, .val (.long a2v), .second, .val (.long b2v), .second, .val (.ref b5), .val (.ref r_25), .val (.long (if a2v < a1v then a2v else a1v)), .second, .val (.long (if b1v < b2v then b2v else b1v)), .second, .unset, .unset, .unset, .unset] []))
    refine Go.st (fun t k => XS.iconst X32.here hx rfl (hb hby at_195) k) ?_
    show Go p.tables e below PP (T32.setTop (mkF m 196 #[.val (.long q1), .second, .val (.long q2), .second, .val (.long q3), .second, .val (.long q4), .second, .val (.long q5), .second, .val (.long nn), .second, .val (.long px1), .second, .val (.long py1), .second, .val (.long px2), .second, .val (.long py2), .second, .val (.long a1v), .second, .val (.long b1v), .second, .val (.long a2v), .second, .val (.long b2v), .second, .val (.ref b5), .val (.ref r_25), .val (.long (if a2v < a1v then a2v else a1v)), .second, .val (.long (if b1v < b2v then b2v else b1v)), .second, .unset, .unset, .unset, .unset] [(.int (1 : Int32))]))
    refine Go.st (fun t k => XS.goto X32.here hx rfl (pc0 := 196) (pc' := 200) rfl (hb hby at_196) (by decide) (by decide) k) ?_
    show Go p.tables e below PP (T32.setTop (mkF m 200 #[.val (.long q1), .second, .val (.long q2), .second, .val (.long q3), .second, .val (.long q4), .second, .val (.long q5), .second, .val (.long nn), .second, .val (.long px1), .second, .val (.long py1), .second, .val (.long px2), .second, .val (.long py2), .second, .val (.long a1v), .second, .val (.long b1v), .second, .val (.long a2v), .second, .val (.long b2v), .second, .val (.ref b5), .val (.ref r_25), .val (.long (if a2v < a1v then a2v else a1v)), .second, .val (.long (if b1v < b2v then b2v else b1v)), .second, .unset, .unset, .unset, .unset] [(.int (1 : Int32))]))
    rw [hPP]
    refine endN X32 hx hlk (t := .boolean) hret (by simp) (hb hby at_200) (w := (1 : Int32)) (rfl) ?_ (by decide) (by decide)
    show Q0 Z q1 q2 q3 q4 q5 h0 n0 (some (.int (1 : Int32))) T32.heap _
    rw [e32]
    exact ⟨rfl, N25⟩
set_option maxRecDepth 65536 in
set_option maxHeartbeats 40000000 in
theorem comes_1 {Post : Tables → Env → Array Value → State → Outcome → State → Prop} (hpost : ∀ tb e args s v u, (limb_1_1.after args s (.returned v) u = true ∧ limb_1_2.after args s (.returned v) u = true ∧ True) → FrameEnd s (.returned v) u (Jvm.fieldLocs frame_1_writes args s ++ Jvm.arrayLocs frame_1_arrays args s ++ Jvm.staticLocs frame_1_statics s) 24 4224 → Post tb e args s (.returned v) u) :
    ArmFor flags0 classFile x code maxLocals ret World_1 tables_1 room_1 Calls_1 rest_1 Pre_1 Post := by
  intro l hfl _ _ p e ha hc hk s m args below hf hA hF happ hP
  obtain ⟨hcalls, hrest, hpre⟩ := hP
  obtain ⟨-, -, -, hnamed, -, -, -, hat⟩ := (Spec.applies_iff hf).mp happ
  obtain ⟨hg, hn⟩ := and_e (Cond.before_iff.mp (show (Jvm.Cond.and given_1 narrow_1).before args s = true from hpre))
  obtain ⟨g1, g2⟩ := and_e hg
  obtain ⟨g3, g4⟩ := and_e g2
  obtain ⟨g5, g6⟩ := and_e g4
  obtain ⟨g7, g8⟩ := and_e g6
  obtain ⟨g9, g10⟩ := and_e g8
  obtain ⟨w0, w1, w2, w3, w4, rfl⟩ : ∃ w0 w1 w2 w3 w4 : Value, args = #[w0, w1, w2, w3, w4] := by
    have hs : args.size = 5 := by simpa [Cond.value, given_1] using g1
    obtain ⟨L⟩ := args
    match L, hs with
    | [w0, w1, w2, w3, w4], _ => exact ⟨w0, w1, w2, w3, w4, rfl⟩
  have hw := fun d (hd : d ∈ tables_1) => atoms_spec (ws := Jvm.Cond.code x code maxLocals ret :: tables_1) hat d (List.mem_cons_of_mem _ hd)
  have hfit : Fit s := fun {y c} hc i hi => by
    obtain ⟨ha, rfl⟩ := Array.getElem?_eq_some_iff.mp hc
    have q := List.all_eq_true.mp ((Array.all_eq_true_iff_forall_mem.mp hF) _ (Array.getElem_mem ha)) i (List.mem_range.mpr hi)
    simpa [Array.getElem?_eq_getElem hi] using q
  obtain ⟨i0, ei0⟩ := isL_v g3
  obtain rfl : w0 = (.long i0) := Option.some.inj ei0
  obtain ⟨i1, ei1⟩ := isL_v g5
  obtain rfl : w1 = (.long i1) := Option.some.inj ei1
  obtain ⟨i2, ei2⟩ := isL_v g7
  obtain rfl : w2 = (.long i2) := Option.some.inj ei2
  obtain ⟨i3, ei3⟩ := isL_v g9
  obtain rfl : w3 = (.long i3) := Option.some.inj ei3
  obtain ⟨i4, ei4⟩ := isL_v g10
  obtain rfl : w4 = (.long i4) := Option.some.inj ei4
  obtain ⟨n, o, h1, h2, h3, _, L, rfl, ⟨rfl, N⟩, hq⟩ := rm0 l s _ hw tables_1 i0 i1 i2 i3 i4  s.heap s.heap.size (Nat.le_refl _)  p e ha hc hk s m _ below hf ((Spec.applies_iff_loose hf).mp happ).1 ⟨rfl, State.Warmed39.refl s, rfl⟩ trivial
  refine ⟨n, _, h1, h2, h3, hpost _ _ _ _ _ _ ⟨Cond.after_iff.mpr rfl, Cond.after_iff.mpr (eq_i res_at (Term.int_eval (1)) rfl), trivial⟩ ⟨hq.1, hq.2.1, (hq.2.2.sift fun y hy => Or.inr (N y hy)).mono (by decide) (by decide)⟩⟩
theorem main_1_1 : Claimed_1_1 := comes_1 fun _ _ _ _ _ _ h hF => ⟨h.1, hF⟩
theorem main_1_2 : Claimed_1_2 := comes_1 fun _ _ _ _ _ _ h hF => ⟨h.2.1, hF⟩
end Jvm.Pilot.@@N@@
namespace Jvm.Pilot.@@N@@
open Jvm Jvm.ClassFile Sem Op Lib Jvm.Free Jvm.Stand Jvm.Pilot.@@N@@.Jvm.D
/-! MADE BY PROGRAM (witnessworld.py) out of the Statement's table words and the real class files: 20 classes; the members and pool entries that the words name. The judged class is class 1, her method 1. -/
namespace start1
open Jvm.ClassFile
def u (s : String) : CpInfo := .utf8 (stringToUtf16 s)
/-- a pool by its gaps: so many unusable entries, then the entry; so many at the end -/
def gap : Nat → List CpInfo → List CpInfo
  | 0, r => r
  | n + 1, r => .unusable :: gap n r
def poolList (es : List (Nat × CpInfo)) (last : Nat) : List CpInfo := es.foldr (fun e r => gap e.1 (e.2 :: r)) (gap last [])
def pool (es : List (Nat × CpInfo)) (last : Nat) : Array CpInfo := ⟨poolList es last⟩
def fileOf (pool : Array CpInfo) (this : Nat) (attrs : Array Attribute := #[]) (ms : Array MethodInfo := #[]) (fl : Nat := 33) (sup : Nat := 0) (ifs : Array Nat := #[]) (fds : Array FieldInfo := #[]) : ClassFile where
  minorVersion := 0
  majorVersion := 65
  constantPool := pool
  accessFlags := fl
  thisClass := this
  superClass := sup
  interfaces := ifs
  fields := fds
  methods := ms
  attributes := attrs
def plain (name : String) (sup : Option ClassId) : Class where
  name := name
  kind := .ordinary
  loader := none
  accessFlags := 33
  super := sup
  interfaces := #[]
  cf := none
  fields := #[]
  methods := #[]
  instanceTypes := #[]
  staticTypes := #[]
  resolved := #[]
  callSites := []
  init := .initialized
  statics := none
  mirror := none

def pool0 : Array CpInfo := pool [(5, u "<init>"), (0, u "()V"), (1, .class_ 10), (1, u "java/lang/Object")] 113

def k0c0 : Code := { maxStack := 0, maxLocals := 1, code := object_method_1_code, exceptionTable := #[], attributes := #[] }
def k0m0 : Method := { name := "<init>", desc := "()V", sig := { parameters := [], returnType := none }, accessFlags := 1, code := some k0c0 }
/-- java/lang/Object -/
def k0 : Class := { plain "java/lang/Object" none with
  accessFlags := 33
  interfaces := #[]
  cf := some (fileOf pool0 8 #[] #[{ accessFlags := 1, nameIndex := 5, descriptorIndex := 6, attributes := #[] }] 33 0 #[] #[])
  fields := #[]
  methods := #[k0m0]
  instanceTypes := #[]
  staticTypes := #[]
  resolved := Array.replicate 124 none
  statics := none }

def pool1 : Array CpInfo := pool [(2, .class_ 4), (1, u "java/lang/Object"), (0, u "<init>"), (0, u "()V"), (0, .long 511), (3, .long 9223372036854775807), (1, .methodref 14 15), (0, .class_ 16), (0, .nameAndType 17 18), (0, u "java/lang/Math"), (0, u "min"), (0, u "(JJ)J"), (0, .methodref 14 20), (0, .nameAndType 21 18), (0, u "max"), (0, .class_ 23), (0, u "com/example/warpfinder/warpfinder/index/PositionBits"), (0, .methodref 22 25), (0, .nameAndType 5 26), (0, u "(J)V"), (0, .methodref 22 28), (0, .nameAndType 29 30), (0, u "add"), (0, u "(JJ)V"), (0, .methodref 22 32), (0, .nameAndType 33 34), (0, u "intervals"), (0, u "()Lcom/example/warpfinder/warpfinder/index/Intervals;"), (0, .methodref 36 37), (0, .class_ 38), (0, .nameAndType 39 40), (0, u "com/example/warpfinder/warpfinder/index/Intervals"), (0, u "size"), (0, u "()I"), (0, .methodref 36 42), (0, .nameAndType 43 44), (0, u "start"), (0, u "(I)J"), (0, .methodref 36 46), (0, .nameAndType 47 44), (0, u "end"), (0, .class_ 49), (0, u "com/example/warpfinder/warpfinder/index/PositionBitsAddPinLaw"), (2, u "law"), (0, u "(JJJJJ)Z")] 3

def k1m0 : Method := { name := "<init>", desc := "()V", sig := { parameters := [], returnType := none }, accessFlags := 1, code := none }
def k1c1 : Code := { maxStack := 6, maxLocals := 38, code := code, exceptionTable := #[], attributes := #[] }
def k1m1 : Method := { name := "law", desc := "(JJJJJ)Z", sig := { parameters := [.long, .long, .long, .long, .long], returnType := some .boolean }, accessFlags := 9, code := some k1c1 }
/-- com/example/warpfinder/warpfinder/index/PositionBitsAddPinLaw -/
def k1 : Class := { plain "com/example/warpfinder/warpfinder/index/PositionBitsAddPinLaw" (some 0) with
  accessFlags := 49
  interfaces := #[]
  cf := some (fileOf pool1 48 #[] #[{ accessFlags := 1, nameIndex := 5, descriptorIndex := 6, attributes := #[] }, { accessFlags := 9, nameIndex := 52, descriptorIndex := 53, attributes := #[] }] 49 2 #[] #[])
  fields := #[]
  methods := #[k1m0, k1m1]
  instanceTypes := #[]
  staticTypes := #[]
  resolved := Array.replicate 57 none
  statics := none }

def pool2 : Array CpInfo := pool [(1, .class_ 2), (0, u "java/lang/Math"), (1, .class_ 6), (1, u "java/lang/Object"), (0, u "<init>"), (0, u "()V"), (89, .class_ 100), (1, u "java/lang/Math$RandomNumberGeneratorHolder"), (20, u "(JJ)J"), (50, u "negativeZeroFloatBits"), (0, u "J"), (2, u "negativeZeroDoubleBits"), (21, u "max"), (2, u "min"), (43, u "$assertionsDisabled"), (0, u "Z"), (88, u "(II)I"), (2, u "twoToTheDoubleScaleDown"), (0, u "D"), (4, u "twoToTheDoubleScaleUp"), (9, u "E"), (3, u "PI"), (2, u "TAU"), (2, u "DEGREES_TO_RADIANS"), (0, u "RADIANS_TO_DEGREES")] 94

def k2m0 : Method := { name := "<init>", desc := "()V", sig := { parameters := [], returnType := none }, accessFlags := 2, code := none }
def k2c1 : Code := { maxStack := 2, maxLocals := 2, code := jdk_29_method_65_code, exceptionTable := #[], attributes := #[] }
def k2m1 : Method := { name := "max", desc := "(II)I", sig := { parameters := [.int, .int], returnType := some .int }, accessFlags := 9, code := some k2c1 }
def k2c2 : Code := { maxStack := 4, maxLocals := 4, code := jdk_29_method_66_code, exceptionTable := #[], attributes := #[] }
def k2m2 : Method := { name := "max", desc := "(JJ)J", sig := { parameters := [.long, .long], returnType := some .long }, accessFlags := 9, code := some k2c2 }
def k2c3 : Code := { maxStack := 4, maxLocals := 4, code := jdk_29_method_70_code, exceptionTable := #[], attributes := #[] }
def k2m3 : Method := { name := "min", desc := "(JJ)J", sig := { parameters := [.long, .long], returnType := some .long }, accessFlags := 9, code := some k2c3 }
/-- java/lang/Math -/
def k2 : Class := { plain "java/lang/Math" (some 0) with
  accessFlags := 49
  interfaces := #[]
  cf := some (fileOf pool2 1 #[.nestMembers #[98]] #[{ accessFlags := 2, nameIndex := 7, descriptorIndex := 8, attributes := #[] }, { accessFlags := 9, nameIndex := 198, descriptorIndex := 335, attributes := #[] }, { accessFlags := 9, nameIndex := 198, descriptorIndex := 121, attributes := #[] }, { accessFlags := 9, nameIndex := 201, descriptorIndex := 121, attributes := #[] }] 49 4 #[] #[{ accessFlags := 25, nameIndex := 354, descriptorIndex := 339, attributes := #[] }, { accessFlags := 25, nameIndex := 358, descriptorIndex := 339, attributes := #[] }, { accessFlags := 25, nameIndex := 361, descriptorIndex := 339, attributes := #[] }, { accessFlags := 26, nameIndex := 364, descriptorIndex := 339, attributes := #[] }, { accessFlags := 26, nameIndex := 365, descriptorIndex := 339, attributes := #[] }, { accessFlags := 26, nameIndex := 172, descriptorIndex := 173, attributes := #[] }, { accessFlags := 26, nameIndex := 176, descriptorIndex := 173, attributes := #[] }, { accessFlags := 8, nameIndex := 344, descriptorIndex := 339, attributes := #[] }, { accessFlags := 8, nameIndex := 338, descriptorIndex := 339, attributes := #[] }, { accessFlags := 4120, nameIndex := 245, descriptorIndex := 246, attributes := #[] }])
  fields := #[{ name := "E", type := .double, accessFlags := 25, slot := 0, constantValue := 0 }, { name := "PI", type := .double, accessFlags := 25, slot := 1, constantValue := 0 }, { name := "TAU", type := .double, accessFlags := 25, slot := 2, constantValue := 0 }, { name := "DEGREES_TO_RADIANS", type := .double, accessFlags := 26, slot := 3, constantValue := 0 }, { name := "RADIANS_TO_DEGREES", type := .double, accessFlags := 26, slot := 4, constantValue := 0 }, { name := "negativeZeroFloatBits", type := .long, accessFlags := 26, slot := 5, constantValue := 0 }, { name := "negativeZeroDoubleBits", type := .long, accessFlags := 26, slot := 6, constantValue := 0 }, { name := "twoToTheDoubleScaleUp", type := .double, accessFlags := 8, slot := 7, constantValue := 0 }, { name := "twoToTheDoubleScaleDown", type := .double, accessFlags := 8, slot := 8, constantValue := 0 }, { name := "$assertionsDisabled", type := .boolean, accessFlags := 4120, slot := 9, constantValue := 0 }]
  methods := #[k2m0, k2m1, k2m2, k2m3]
  instanceTypes := #[]
  staticTypes := #[.double, .double, .double, .double, .double, .long, .long, .double, .double, .boolean]
  resolved := Array.replicate 460 none
  statics := none }

def pool3 : Array CpInfo := pool [(1, .methodref 2 3), (0, .class_ 4), (0, .nameAndType 5 6), (0, u "java/lang/Object"), (0, u "<init>"), (0, u "()V"), (0, .long 63), (3, .long 2147483639), (10, .fieldref 23 24), (0, .class_ 25), (0, .nameAndType 26 27), (0, u "com/example/warpfinder/warpfinder/index/PositionBits"), (0, u "size"), (0, u "J"), (0, .fieldref 23 29), (0, .nameAndType 30 31), (0, u "words"), (0, u "[J"), (2, u "(J)V"), (13, .nameAndType 49 50), (0, u "add"), (0, u "(JJ)V"), (0, .long 18446744073709551615), (6, .class_ 60), (1, u "java/lang/Long"), (1, u "(J)I"), (4, .class_ 68), (0, u "com/example/warpfinder/warpfinder/index/Intervals$Builder"), (0, .methodref 67 70), (0, .nameAndType 5 71), (0, u "(I)V"), (0, .methodref 67 73), (0, .nameAndType 74 75), (0, u "build"), (0, u "()Lcom/example/warpfinder/warpfinder/index/Intervals;"), (0, .methodref 58 77), (0, .nameAndType 78 62), (0, u "numberOfTrailingZeros"), (0, .methodref 67 48), (9, u "intervals")] 20

def k3c0 : Code := { maxStack := 5, maxLocals := 3, code := prog_24_method_1_code, exceptionTable := #[], attributes := #[] }
def k3m0 : Method := { name := "<init>", desc := "(J)V", sig := { parameters := [.long], returnType := none }, accessFlags := 0, code := some k3c0 }
def k3c1 : Code := { maxStack := 8, maxLocals := 12, code := prog_24_method_3_code, exceptionTable := #[], attributes := #[] }
def k3m1 : Method := { name := "add", desc := "(JJ)V", sig := { parameters := [.long, .long], returnType := none }, accessFlags := 0, code := some k3c1 }
def k3c2 : Code := { maxStack := 7, maxLocals := 11, code := prog_24_method_6_code, exceptionTable := #[], attributes := #[] }
def k3m2 : Method := { name := "intervals", desc := "()Lcom/example/warpfinder/warpfinder/index/Intervals;", sig := { parameters := [], returnType := some (.object "com/example/warpfinder/warpfinder/index/Intervals") }, accessFlags := 1, code := some k3c2 }
/-- com/example/warpfinder/warpfinder/index/PositionBits -/
def k3 : Class := { plain "com/example/warpfinder/warpfinder/index/PositionBits" (some 0) with
  accessFlags := 49
  interfaces := #[]
  cf := some (fileOf pool3 23 #[] #[{ accessFlags := 0, nameIndex := 5, descriptorIndex := 34, attributes := #[] }, { accessFlags := 0, nameIndex := 49, descriptorIndex := 50, attributes := #[] }, { accessFlags := 1, nameIndex := 89, descriptorIndex := 75, attributes := #[] }] 49 2 #[] #[{ accessFlags := 18, nameIndex := 30, descriptorIndex := 31, attributes := #[] }, { accessFlags := 18, nameIndex := 26, descriptorIndex := 27, attributes := #[] }])
  fields := #[{ name := "words", type := (.array .long), accessFlags := 18, slot := 0, constantValue := 0 }, { name := "size", type := .long, accessFlags := 18, slot := 1, constantValue := 0 }]
  methods := #[k3m0, k3m1, k3m2]
  instanceTypes := #[(.array .long), .long]
  staticTypes := #[]
  resolved := Array.replicate 110 none
  statics := none }

def pool4 : Array CpInfo := pool [(1, .methodref 2 3), (0, .class_ 4), (0, .nameAndType 5 6), (0, u "java/lang/Object"), (0, u "<init>"), (0, u "()V"), (0, .methodref 8 9), (0, .class_ 10), (0, .nameAndType 11 12), (0, u "java/lang/Math"), (0, u "max"), (0, u "(II)I"), (0, .fieldref 14 15), (0, .class_ 16), (0, .nameAndType 17 18), (0, u "com/example/warpfinder/warpfinder/index/Intervals$Builder"), (0, u "bounds"), (0, u "[J"), (0, .fieldref 14 20), (0, .nameAndType 21 22), (0, u "size"), (0, u "I"), (0, .methodref 8 24), (0, .nameAndType 11 25), (0, u "(JJ)J"), (7, .class_ 35), (1, u "com/example/warpfinder/warpfinder/index/Intervals"), (2, .methodref 33 39), (0, .nameAndType 5 40), (0, u "([JI)V"), (0, u "(I)V"), (2, u "add"), (0, u "(JJ)V"), (1, u "build"), (0, u "()Lcom/example/warpfinder/warpfinder/index/Intervals;")] 5

def k4c0 : Code := { maxStack := 4, maxLocals := 2, code := prog_16_method_1_code, exceptionTable := #[], attributes := #[] }
def k4m0 : Method := { name := "<init>", desc := "(I)V", sig := { parameters := [.int], returnType := none }, accessFlags := 1, code := some k4c0 }
def k4c1 : Code := { maxStack := 6, maxLocals := 5, code := prog_16_method_2_code, exceptionTable := #[], attributes := #[] }
def k4m1 : Method := { name := "add", desc := "(JJ)V", sig := { parameters := [.long, .long], returnType := none }, accessFlags := 1, code := some k4c1 }
def k4c2 : Code := { maxStack := 4, maxLocals := 1, code := prog_16_method_3_code, exceptionTable := #[], attributes := #[] }
def k4m2 : Method := { name := "build", desc := "()Lcom/example/warpfinder/warpfinder/index/Intervals;", sig := { parameters := [], returnType := some (.object "com/example/warpfinder/warpfinder/index/Intervals") }, accessFlags := 1, code := some k4c2 }
/-- com/example/warpfinder/warpfinder/index/Intervals$Builder -/
def k4 : Class := { plain "com/example/warpfinder/warpfinder/index/Intervals$Builder" (some 0) with
  accessFlags := 49
  interfaces := #[]
  cf := some (fileOf pool4 14 #[.nestHost 33] #[{ accessFlags := 1, nameIndex := 5, descriptorIndex := 41, attributes := #[] }, { accessFlags := 1, nameIndex := 44, descriptorIndex := 45, attributes := #[] }, { accessFlags := 1, nameIndex := 47, descriptorIndex := 48, attributes := #[] }] 49 2 #[] #[{ accessFlags := 2, nameIndex := 17, descriptorIndex := 18, attributes := #[] }, { accessFlags := 2, nameIndex := 21, descriptorIndex := 22, attributes := #[] }])
  fields := #[{ name := "bounds", type := (.array .long), accessFlags := 2, slot := 0, constantValue := 0 }, { name := "size", type := .int, accessFlags := 2, slot := 1, constantValue := 0 }]
  methods := #[k4m0, k4m1, k4m2]
  instanceTypes := #[(.array .long), .int]
  staticTypes := #[]
  resolved := Array.replicate 54 none
  statics := none }

def pool5 : Array CpInfo := pool [(1, .class_ 2), (0, u "java/io/Serializable"), (0, .class_ 4), (0, u "java/lang/Object")] 2

/-- java/io/Serializable -/
def k5 : Class := { plain "java/io/Serializable" (some 0) with
  accessFlags := 1537
  interfaces := #[]
  cf := some (fileOf pool5 1 #[] #[] 1537 3 #[] #[])
  fields := #[]
  methods := #[]
  instanceTypes := #[]
  staticTypes := #[]
  resolved := Array.replicate 7 none
  statics := none }

def pool6 : Array CpInfo := pool [(2, .class_ 4), (1, u "java/lang/Object"), (0, u "<init>"), (0, u "()V"), (1, .class_ 10), (1, u "java/lang/Number"), (2, .class_ 14), (0, u "java/io/Serializable"), (0, u "serialVersionUID"), (0, u "J")] 20

def k6m0 : Method := { name := "<init>", desc := "()V", sig := { parameters := [], returnType := none }, accessFlags := 1, code := none }
/-- java/lang/Number -/
def k6 : Class := { plain "java/lang/Number" (some 0) with
  accessFlags := 1057
  interfaces := #[5]
  cf := some (fileOf pool6 8 #[] #[{ accessFlags := 1, nameIndex := 5, descriptorIndex := 6, attributes := #[] }] 1057 2 #[13] #[{ accessFlags := 26, nameIndex := 15, descriptorIndex := 16, attributes := #[] }])
  fields := #[{ name := "serialVersionUID", type := .long, accessFlags := 26, slot := 0, constantValue := 0 }]
  methods := #[k6m0]
  instanceTypes := #[]
  staticTypes := #[.long]
  resolved := Array.replicate 37 none
  statics := none }

def pool7 : Array CpInfo := pool [(1, .class_ 2), (0, u "java/lang/Comparable"), (0, .class_ 4), (0, u "java/lang/Object")] 7

/-- java/lang/Comparable -/
def k7 : Class := { plain "java/lang/Comparable" (some 0) with
  accessFlags := 1537
  interfaces := #[]
  cf := some (fileOf pool7 1 #[] #[] 1537 3 #[] #[])
  fields := #[]
  methods := #[]
  instanceTypes := #[]
  staticTypes := #[]
  resolved := Array.replicate 12 none
  statics := none }

def pool8 : Array CpInfo := pool [(1, .class_ 2), (0, u "java/lang/constant/Constable"), (0, .class_ 4), (0, u "java/lang/Object")] 6

/-- java/lang/constant/Constable -/
def k8 : Class := { plain "java/lang/constant/Constable" (some 0) with
  accessFlags := 1537
  interfaces := #[]
  cf := some (fileOf pool8 1 #[] #[] 1537 3 #[] #[])
  fields := #[]
  methods := #[]
  instanceTypes := #[]
  staticTypes := #[]
  resolved := Array.replicate 11 none
  statics := none }

def pool9 : Array CpInfo := pool [(1, .class_ 2), (0, u "java/lang/constant/ConstantDesc"), (0, .class_ 4), (0, u "java/lang/Object")] 32

/-- java/lang/constant/ConstantDesc -/
def k9 : Class := { plain "java/lang/constant/ConstantDesc" (some 0) with
  accessFlags := 1537
  interfaces := #[]
  cf := some (fileOf pool9 1 #[] #[] 1537 3 #[] #[])
  fields := #[]
  methods := #[]
  instanceTypes := #[]
  staticTypes := #[]
  resolved := Array.replicate 37 none
  statics := none }

def pool10 : Array CpInfo := pool [(1, .class_ 2), (0, u "java/lang/Long"), (15, .class_ 20), (1, u "java/lang/Integer"), (80, u "(J)I"), (133, .class_ 237), (1, u "java/lang/Long$LongCache"), (33, .class_ 272), (0, u "java/lang/Number"), (2, u "value"), (0, u "J"), (33, u "(I)I"), (0, .methodref 18 312), (0, .nameAndType 313 310), (0, u "numberOfTrailingZeros"), (47, u "TYPE"), (0, u "Ljava/lang/Class;"), (0, .class_ 364), (0, u "java/lang/Comparable"), (0, .class_ 366), (0, u "java/lang/constant/Constable"), (0, .class_ 368), (0, u "java/lang/constant/ConstantDesc"), (0, u "MIN_VALUE"), (1, u "MAX_VALUE"), (4, u "SIZE"), (0, u "I"), (1, u "BYTES"), (1, u "serialVersionUID")] 142

def k10c0 : Code := { maxStack := 4, maxLocals := 3, code := jdk_35_method_49_code, exceptionTable := #[], attributes := #[] }
def k10m0 : Method := { name := "numberOfTrailingZeros", desc := "(J)I", sig := { parameters := [.long], returnType := some .int }, accessFlags := 9, code := some k10c0 }
/-- java/lang/Long -/
def k10 : Class := { plain "java/lang/Long" (some 6) with
  accessFlags := 49
  interfaces := #[7, 8, 9]
  cf := some (fileOf pool10 1 #[.nestMembers #[235]] #[{ accessFlags := 9, nameIndex := 313, descriptorIndex := 101, attributes := #[] }] 49 271 #[363, 365, 367] #[{ accessFlags := 25, nameIndex := 369, descriptorIndex := 276, attributes := #[] }, { accessFlags := 25, nameIndex := 371, descriptorIndex := 276, attributes := #[] }, { accessFlags := 25, nameIndex := 361, descriptorIndex := 362, attributes := #[] }, { accessFlags := 18, nameIndex := 275, descriptorIndex := 276, attributes := #[] }, { accessFlags := 25, nameIndex := 376, descriptorIndex := 377, attributes := #[] }, { accessFlags := 25, nameIndex := 379, descriptorIndex := 377, attributes := #[] }, { accessFlags := 26, nameIndex := 381, descriptorIndex := 276, attributes := #[] }])
  fields := #[{ name := "MIN_VALUE", type := .long, accessFlags := 25, slot := 0, constantValue := 0 }, { name := "MAX_VALUE", type := .long, accessFlags := 25, slot := 1, constantValue := 0 }, { name := "TYPE", type := (.object "java/lang/Class"), accessFlags := 25, slot := 2, constantValue := 0 }, { name := "value", type := .long, accessFlags := 18, slot := 0, constantValue := 0 }, { name := "SIZE", type := .int, accessFlags := 25, slot := 3, constantValue := 0 }, { name := "BYTES", type := .int, accessFlags := 25, slot := 4, constantValue := 0 }, { name := "serialVersionUID", type := .long, accessFlags := 26, slot := 5, constantValue := 0 }]
  methods := #[k10m0]
  instanceTypes := #[.long]
  staticTypes := #[.long, .long, (.object "java/lang/Class"), .int, .int, .long]
  resolved := Array.replicate 524 none
  statics := none }

def pool11 : Array CpInfo := pool [(1, .class_ 2), (0, u "java/lang/Integer"), (16, u "digits"), (0, u "[C"), (33, u "(I)I"), (30, u "DigitOnes"), (0, u "[B"), (2, u "DigitTens"), (99, .class_ 190), (0, u "java/lang/Integer$IntegerCache"), (3, u "I"), (8, .class_ 204), (0, u "java/lang/Number"), (2, u "value"), (56, .integer 65536), (37, u "TYPE"), (0, u "Ljava/lang/Class;"), (0, .class_ 305), (0, u "java/lang/Comparable"), (0, .class_ 307), (0, u "java/lang/constant/Constable"), (0, .class_ 309), (0, u "java/lang/constant/ConstantDesc"), (0, u "MIN_VALUE"), (1, u "MAX_VALUE"), (3, u "SIZE"), (1, u "BYTES"), (1, u "serialVersionUID"), (0, u "J"), (84, u "numberOfTrailingZeros")] 46

def k11c0 : Code := { maxStack := 3, maxLocals := 2, code := jdk_33_method_48_code, exceptionTable := #[], attributes := #[] }
def k11m0 : Method := { name := "numberOfTrailingZeros", desc := "(I)I", sig := { parameters := [.int], returnType := some .int }, accessFlags := 9, code := some k11c0 }
/-- java/lang/Integer -/
def k11 : Class := { plain "java/lang/Integer" (some 6) with
  accessFlags := 49
  interfaces := #[7, 8, 9]
  cf := some (fileOf pool11 1 #[.nestMembers #[189]] #[{ accessFlags := 9, nameIndex := 406, descriptorIndex := 54, attributes := #[] }] 49 203 #[304, 306, 308] #[{ accessFlags := 25, nameIndex := 310, descriptorIndex := 194, attributes := #[] }, { accessFlags := 25, nameIndex := 312, descriptorIndex := 194, attributes := #[] }, { accessFlags := 25, nameIndex := 302, descriptorIndex := 303, attributes := #[] }, { accessFlags := 24, nameIndex := 19, descriptorIndex := 20, attributes := #[] }, { accessFlags := 24, nameIndex := 89, descriptorIndex := 86, attributes := #[] }, { accessFlags := 24, nameIndex := 85, descriptorIndex := 86, attributes := #[] }, { accessFlags := 18, nameIndex := 207, descriptorIndex := 194, attributes := #[] }, { accessFlags := 25, nameIndex := 316, descriptorIndex := 194, attributes := #[] }, { accessFlags := 25, nameIndex := 318, descriptorIndex := 194, attributes := #[] }, { accessFlags := 26, nameIndex := 320, descriptorIndex := 321, attributes := #[] }])
  fields := #[{ name := "MIN_VALUE", type := .int, accessFlags := 25, slot := 0, constantValue := 0 }, { name := "MAX_VALUE", type := .int, accessFlags := 25, slot := 1, constantValue := 0 }, { name := "TYPE", type := (.object "java/lang/Class"), accessFlags := 25, slot := 2, constantValue := 0 }, { name := "digits", type := (.array .char), accessFlags := 24, slot := 3, constantValue := 0 }, { name := "DigitTens", type := (.array .byte), accessFlags := 24, slot := 4, constantValue := 0 }, { name := "DigitOnes", type := (.array .byte), accessFlags := 24, slot := 5, constantValue := 0 }, { name := "value", type := .int, accessFlags := 18, slot := 0, constantValue := 0 }, { name := "SIZE", type := .int, accessFlags := 25, slot := 6, constantValue := 0 }, { name := "BYTES", type := .int, accessFlags := 25, slot := 7, constantValue := 0 }, { name := "serialVersionUID", type := .long, accessFlags := 26, slot := 8, constantValue := 0 }]
  methods := #[k11m0]
  instanceTypes := #[.int]
  staticTypes := #[.int, .int, (.object "java/lang/Class"), (.array .char), (.array .byte), (.array .byte), .int, .int, .long]
  resolved := Array.replicate 453 none
  statics := none }

def pool12 : Array CpInfo := pool [(1, .methodref 2 3), (0, .class_ 4), (0, .nameAndType 5 6), (0, u "java/lang/Object"), (0, u "<init>"), (0, u "()V"), (0, .fieldref 8 9), (0, .class_ 10), (0, .nameAndType 11 12), (0, u "com/example/warpfinder/warpfinder/index/Intervals"), (0, u "bounds"), (0, u "[J"), (0, .fieldref 8 14), (0, .nameAndType 15 16), (0, u "size"), (0, u "I"), (2, u "EMPTY"), (0, u "Lcom/example/warpfinder/warpfinder/index/Intervals;"), (2, u "([JI)V"), (2, u "end"), (0, u "(I)J"), (2, u "start"), (6, .class_ 38), (0, u "com/example/warpfinder/warpfinder/index/Intervals$Builder"), (63, u "()I")] 20

def k12c0 : Code := { maxStack := 2, maxLocals := 3, code := prog_15_method_1_code, exceptionTable := #[], attributes := #[] }
def k12m0 : Method := { name := "<init>", desc := "([JI)V", sig := { parameters := [(.array .long), .int], returnType := none }, accessFlags := 2, code := some k12c0 }
def k12c1 : Code := { maxStack := 1, maxLocals := 1, code := prog_15_method_3_code, exceptionTable := #[], attributes := #[] }
def k12m1 : Method := { name := "size", desc := "()I", sig := { parameters := [], returnType := some .int }, accessFlags := 1, code := some k12c1 }
def k12c2 : Code := { maxStack := 3, maxLocals := 2, code := prog_15_method_5_code, exceptionTable := #[], attributes := #[] }
def k12m2 : Method := { name := "start", desc := "(I)J", sig := { parameters := [.int], returnType := some .long }, accessFlags := 1, code := some k12c2 }
def k12c3 : Code := { maxStack := 3, maxLocals := 2, code := prog_15_method_6_code, exceptionTable := #[], attributes := #[] }
def k12m3 : Method := { name := "end", desc := "(I)J", sig := { parameters := [.int], returnType := some .long }, accessFlags := 1, code := some k12c3 }
/-- com/example/warpfinder/warpfinder/index/Intervals -/
def k12 : Class := { plain "com/example/warpfinder/warpfinder/index/Intervals" (some 0) with
  accessFlags := 49
  interfaces := #[]
  cf := some (fileOf pool12 8 #[.nestMembers #[37]] #[{ accessFlags := 2, nameIndex := 5, descriptorIndex := 23, attributes := #[] }, { accessFlags := 1, nameIndex := 15, descriptorIndex := 102, attributes := #[] }, { accessFlags := 1, nameIndex := 30, descriptorIndex := 27, attributes := #[] }, { accessFlags := 1, nameIndex := 26, descriptorIndex := 27, attributes := #[] }] 49 2 #[] #[{ accessFlags := 25, nameIndex := 19, descriptorIndex := 20, attributes := #[] }, { accessFlags := 18, nameIndex := 11, descriptorIndex := 12, attributes := #[] }, { accessFlags := 18, nameIndex := 15, descriptorIndex := 16, attributes := #[] }])
  fields := #[{ name := "EMPTY", type := (.object "com/example/warpfinder/warpfinder/index/Intervals"), accessFlags := 25, slot := 0, constantValue := 0 }, { name := "bounds", type := (.array .long), accessFlags := 18, slot := 0, constantValue := 0 }, { name := "size", type := .int, accessFlags := 18, slot := 1, constantValue := 0 }]
  methods := #[k12m0, k12m1, k12m2, k12m3]
  instanceTypes := #[(.array .long), .int]
  staticTypes := #[(.object "com/example/warpfinder/warpfinder/index/Intervals")]
  resolved := Array.replicate 123 none
  statics := none }

def pool13 : Array CpInfo := pool [(1, u "java/lang/Cloneable"), (0, .class_ 1), (0, u "java/lang/Object"), (0, .class_ 3)] 3

/-- java/lang/Cloneable -/
def k13 : Class := { plain "java/lang/Cloneable" (some 0) with
  accessFlags := 1537
  interfaces := #[]
  cf := some (fileOf pool13 2 #[] #[] 1537 4 #[] #[])
  fields := #[]
  methods := #[]
  instanceTypes := #[]
  staticTypes := #[]
  resolved := Array.replicate 8 none
  statics := none }

/-- the primitive byte -/
def k14 : Class := { plain "byte" none with kind := .primitive 'B', accessFlags := 0x411 }
/-- [B -/
def k15 : Class := { plain "[B" (some 0) with kind := .array 14 .byte, interfaces := #[13, 5], accessFlags := 1041 }

/-- the primitive int -/
def k16 : Class := { plain "int" none with kind := .primitive 'I', accessFlags := 0x411 }
/-- [I -/
def k17 : Class := { plain "[I" (some 0) with kind := .array 16 .int, interfaces := #[13, 5], accessFlags := 1041 }

/-- the primitive long -/
def k18 : Class := { plain "long" none with kind := .primitive 'J', accessFlags := 0x411 }
/-- [J -/
def k19 : Class := { plain "[J" (some 0) with kind := .array 18 .long, interfaces := #[13, 5], accessFlags := 1041 }

def heap : Heap := #[]
def classes : Array Class := #[k0, k1, k2, k3, k4, k5, k6, k7, k8, k9, k10, k11, k12, k13, k14, k15, k16, k17, k18, k19]
def interned : List (Array UInt16 × Addr) := []
def slotsUsed : Nat := 0
def theMethod : MethodId := ⟨1, 1⟩
def args0 : Array Value := #[.long 5, .long 6, .long 7, .long 8, .long 9]
def aboutOver (below : List Frame) : State where
  vm := { classes := classes, interned := interned.toArray }
  heap := heap
  slotsUsed := slotsUsed
  threads := #[{ frames := .invoking theMethod args0 :: below }]
def below0 : List Frame := [.native { method := ⟨0, 0⟩, args := #[] }]
def about1 : State := aboutOver below0
def p0 : Program := .bare "" "" ""
def e0 : Env := launch0.env 0 0 0
theorem w_frames : about1.frames = Frame.invoking theMethod args0 :: below0 := rfl
set_option maxRecDepth 65536 in
theorem w_args : argsFit about1.vm theMethod args0 = true := by decide +kernel
set_option maxRecDepth 65536 in
theorem w_heap : heapFits about1 = true := by decide +kernel
set_option maxRecDepth 65536 in
theorem w_runnable : about1.curStatus? = some .runnable := by decide +kernel
set_option maxRecDepth 65536 in
theorem w_alone : about1.alone = true := by decide +kernel
set_option maxRecDepth 65536 in
theorem w_named : about1.methodNamed? x = some theMethod := by decide +kernel
set_option maxRecDepth 65536 in
theorem w_hears : about1.hears theMethod below0 = true := by decide +kernel
set_option maxRecDepth 65536 in
theorem w_ripe : about1.ripe theMethod args0 below0 = true := by decide +kernel
theorem w_running : about1.status = .running := rfl
set_option maxRecDepth 65536 in
theorem w_room : about1.hasRoom e0.platform room_1 = true :=
  launch0.hasRoom_least _ room_1 (by decide +kernel) (by decide +kernel) (by decide +kernel) (by decide +kernel) (by decide +kernel) (by decide +kernel)
theorem allAtoms_all (ts : List Jvm.Cond) (a : Array Jvm.Value) (st : Jvm.State) : (allAtoms ts).before a st = ts.all (fun c => c.before a st) := by
  induction ts with
  | nil => rfl
  | cons c t ih =>
    show (Jvm.Cond.and c (allAtoms t)).before a st = _
    rw [Jvm.Cond.before_and, ih, List.all_cons]
def words1 : List Jvm.Cond := Jvm.Cond.code x code maxLocals ret :: tables_1
/-- a 'code' word, met by the world's own term for the bytes: nothing is compared byte by byte -/
theorem code_word {y : MethodName} {bytes : ByteArray} {mx : Nat} {rt : Option FieldType} {a : Array Value} {s : State} {m : MethodId} {meth : Method} {c : Code} (h1 : s.methodNamed? y = some m) (h2 : s.vm.method? m = some meth) (h3 : meth.code = some c) (h4 : c.code = bytes)
    (h5 : (c.maxLocals == mx && c.exceptionTable.isEmpty && decide (c.maxStack ≤ mostOperands) && decide (meth.sig.returnType = rt) && !meth.locks && decide (parseMethodDescriptor y.desc = some meth.sig)) = true) : (Jvm.Cond.code y bytes mx rt).before a s = true := by
  simp only [Bool.and_eq_true, beq_iff_eq, Bool.not_eq_true', decide_eq_true_eq] at h5
  obtain ⟨⟨⟨⟨⟨g1, g2⟩, g3⟩, g4⟩, g5⟩, g6⟩ := h5
  simp [Cond.before, Cond.holds, Cond.value, h1, h2, h3, h4, g1, g2, g3, g4, g5, g6]
def isCode : Jvm.Cond → Bool
  | .code _ _ _ _ => true
  | _ => false
theorem all_split {L : List Jvm.Cond} {P : Jvm.Cond → Bool} (h1 : L.all (fun c => isCode c || P c) = true) (h2 : ∀ c ∈ L.filter isCode, P c = true) : L.all P = true := by
  refine List.all_eq_true.mpr fun c hc => ?_
  have h := List.all_eq_true.mp h1 c hc
  rcases Bool.eq_false_or_eq_true (isCode c) with hi | hi
  · exact h2 c (List.mem_filter.mpr ⟨hc, hi⟩)
  · simpa [hi] using h
set_option maxRecDepth 65536 in
theorem w_c0 : (Jvm.Cond.code x code maxLocals ret).before args0 about1 = true := code_word (m := ⟨1, 1⟩) (meth := k1m1) (c := k1c1) (by decide +kernel) rfl rfl rfl (by decide +kernel)
set_option maxRecDepth 65536 in
theorem w_c1 : (Jvm.Cond.code ({ cls := "java/lang/Math", name := "min", desc := "(JJ)J" } : Jvm.MethodName) jdk_29_method_70_code (4 : Nat) (Option.some Jvm.ClassFile.FieldType.long)).before args0 about1 = true := code_word (m := ⟨2, 3⟩) (meth := k2m3) (c := k2c3) (by decide +kernel) rfl rfl rfl (by decide +kernel)
set_option maxRecDepth 65536 in
theorem w_c2 : (Jvm.Cond.code ({ cls := "java/lang/Math", name := "max", desc := "(JJ)J" } : Jvm.MethodName) jdk_29_method_66_code (4 : Nat) (Option.some Jvm.ClassFile.FieldType.long)).before args0 about1 = true := code_word (m := ⟨2, 2⟩) (meth := k2m2) (c := k2c2) (by decide +kernel) rfl rfl rfl (by decide +kernel)
set_option maxRecDepth 65536 in
theorem w_c3 : (Jvm.Cond.code ({ cls := "com/example/warpfinder/warpfinder/index/PositionBits", name := "<init>", desc := "(J)V" } : Jvm.MethodName) prog_24_method_1_code (3 : Nat) (Option.none : Option Jvm.ClassFile.FieldType)).before args0 about1 = true := code_word (m := ⟨3, 0⟩) (meth := k3m0) (c := k3c0) (by decide +kernel) rfl rfl rfl (by decide +kernel)
set_option maxRecDepth 65536 in
theorem w_c4 : (Jvm.Cond.code ({ cls := "java/lang/Object", name := "<init>", desc := "()V" } : Jvm.MethodName) object_method_1_code (1 : Nat) (Option.none : Option Jvm.ClassFile.FieldType)).before args0 about1 = true := code_word (m := ⟨0, 0⟩) (meth := k0m0) (c := k0c0) (by decide +kernel) rfl rfl rfl (by decide +kernel)
set_option maxRecDepth 65536 in
theorem w_c5 : (Jvm.Cond.code ({ cls := "com/example/warpfinder/warpfinder/index/PositionBits", name := "add", desc := "(JJ)V" } : Jvm.MethodName) prog_24_method_3_code (12 : Nat) (Option.none : Option Jvm.ClassFile.FieldType)).before args0 about1 = true := code_word (m := ⟨3, 1⟩) (meth := k3m1) (c := k3c1) (by decide +kernel) rfl rfl rfl (by decide +kernel)
set_option maxRecDepth 65536 in
theorem w_c6 : (Jvm.Cond.code ({ cls := "com/example/warpfinder/warpfinder/index/PositionBits", name := "intervals", desc := "()Lcom/example/warpfinder/warpfinder/index/Intervals;" } : Jvm.MethodName) prog_24_method_6_code (11 : Nat) (Option.some (Jvm.ClassFile.FieldType.object "com/example/warpfinder/warpfinder/index/Intervals"))).before args0 about1 = true := code_word (m := ⟨3, 2⟩) (meth := k3m2) (c := k3c2) (by decide +kernel) rfl rfl rfl (by decide +kernel)
set_option maxRecDepth 65536 in
theorem w_c7 : (Jvm.Cond.code ({ cls := "com/example/warpfinder/warpfinder/index/Intervals$Builder", name := "<init>", desc := "(I)V" } : Jvm.MethodName) prog_16_method_1_code (2 : Nat) (Option.none : Option Jvm.ClassFile.FieldType)).before args0 about1 = true := code_word (m := ⟨4, 0⟩) (meth := k4m0) (c := k4c0) (by decide +kernel) rfl rfl rfl (by decide +kernel)
set_option maxRecDepth 65536 in
theorem w_c8 : (Jvm.Cond.code ({ cls := "java/lang/Math", name := "max", desc := "(II)I" } : Jvm.MethodName) jdk_29_method_65_code (2 : Nat) (Option.some Jvm.ClassFile.FieldType.int)).before args0 about1 = true := code_word (m := ⟨2, 1⟩) (meth := k2m1) (c := k2c1) (by decide +kernel) rfl rfl rfl (by decide +kernel)
set_option maxRecDepth 65536 in
theorem w_c9 : (Jvm.Cond.code ({ cls := "java/lang/Long", name := "numberOfTrailingZeros", desc := "(J)I" } : Jvm.MethodName) jdk_35_method_49_code (3 : Nat) (Option.some Jvm.ClassFile.FieldType.int)).before args0 about1 = true := code_word (m := ⟨10, 0⟩) (meth := k10m0) (c := k10c0) (by decide +kernel) rfl rfl rfl (by decide +kernel)
set_option maxRecDepth 65536 in
theorem w_c10 : (Jvm.Cond.code ({ cls := "java/lang/Integer", name := "numberOfTrailingZeros", desc := "(I)I" } : Jvm.MethodName) jdk_33_method_48_code (2 : Nat) (Option.some Jvm.ClassFile.FieldType.int)).before args0 about1 = true := code_word (m := ⟨11, 0⟩) (meth := k11m0) (c := k11c0) (by decide +kernel) rfl rfl rfl (by decide +kernel)
set_option maxRecDepth 65536 in
theorem w_c11 : (Jvm.Cond.code ({ cls := "com/example/warpfinder/warpfinder/index/Intervals$Builder", name := "add", desc := "(JJ)V" } : Jvm.MethodName) prog_16_method_2_code (5 : Nat) (Option.none : Option Jvm.ClassFile.FieldType)).before args0 about1 = true := code_word (m := ⟨4, 1⟩) (meth := k4m1) (c := k4c1) (by decide +kernel) rfl rfl rfl (by decide +kernel)
set_option maxRecDepth 65536 in
theorem w_c12 : (Jvm.Cond.code ({ cls := "com/example/warpfinder/warpfinder/index/Intervals$Builder", name := "build", desc := "()Lcom/example/warpfinder/warpfinder/index/Intervals;" } : Jvm.MethodName) prog_16_method_3_code (1 : Nat) (Option.some (Jvm.ClassFile.FieldType.object "com/example/warpfinder/warpfinder/index/Intervals"))).before args0 about1 = true := code_word (m := ⟨4, 2⟩) (meth := k4m2) (c := k4c2) (by decide +kernel) rfl rfl rfl (by decide +kernel)
set_option maxRecDepth 65536 in
theorem w_c13 : (Jvm.Cond.code ({ cls := "com/example/warpfinder/warpfinder/index/Intervals", name := "<init>", desc := "([JI)V" } : Jvm.MethodName) prog_15_method_1_code (3 : Nat) (Option.none : Option Jvm.ClassFile.FieldType)).before args0 about1 = true := code_word (m := ⟨12, 0⟩) (meth := k12m0) (c := k12c0) (by decide +kernel) rfl rfl rfl (by decide +kernel)
set_option maxRecDepth 65536 in
theorem w_c14 : (Jvm.Cond.code ({ cls := "com/example/warpfinder/warpfinder/index/Intervals", name := "size", desc := "()I" } : Jvm.MethodName) prog_15_method_3_code (1 : Nat) (Option.some Jvm.ClassFile.FieldType.int)).before args0 about1 = true := code_word (m := ⟨12, 1⟩) (meth := k12m1) (c := k12c1) (by decide +kernel) rfl rfl rfl (by decide +kernel)
set_option maxRecDepth 65536 in
theorem w_c15 : (Jvm.Cond.code ({ cls := "com/example/warpfinder/warpfinder/index/Intervals", name := "start", desc := "(I)J" } : Jvm.MethodName) prog_15_method_5_code (2 : Nat) (Option.some Jvm.ClassFile.FieldType.long)).before args0 about1 = true := code_word (m := ⟨12, 2⟩) (meth := k12m2) (c := k12c2) (by decide +kernel) rfl rfl rfl (by decide +kernel)
set_option maxRecDepth 65536 in
theorem w_c16 : (Jvm.Cond.code ({ cls := "com/example/warpfinder/warpfinder/index/Intervals", name := "end", desc := "(I)J" } : Jvm.MethodName) prog_15_method_6_code (2 : Nat) (Option.some Jvm.ClassFile.FieldType.long)).before args0 about1 = true := code_word (m := ⟨12, 3⟩) (meth := k12m3) (c := k12c3) (by decide +kernel) rfl rfl rfl (by decide +kernel)
def codes1 : List Jvm.Cond := [Jvm.Cond.code x code maxLocals ret, Jvm.Cond.code ({ cls := "java/lang/Math", name := "min", desc := "(JJ)J" } : Jvm.MethodName) jdk_29_method_70_code (4 : Nat) (Option.some Jvm.ClassFile.FieldType.long), Jvm.Cond.code ({ cls := "java/lang/Math", name := "max", desc := "(JJ)J" } : Jvm.MethodName) jdk_29_method_66_code (4 : Nat) (Option.some Jvm.ClassFile.FieldType.long), Jvm.Cond.code ({ cls := "com/example/warpfinder/warpfinder/index/PositionBits", name := "<init>", desc := "(J)V" } : Jvm.MethodName) prog_24_method_1_code (3 : Nat) (Option.none : Option Jvm.ClassFile.FieldType), Jvm.Cond.code ({ cls := "java/lang/Object", name := "<init>", desc := "()V" } : Jvm.MethodName) object_method_1_code (1 : Nat) (Option.none : Option Jvm.ClassFile.FieldType), Jvm.Cond.code ({ cls := "com/example/warpfinder/warpfinder/index/PositionBits", name := "add", desc := "(JJ)V" } : Jvm.MethodName) prog_24_method_3_code (12 : Nat) (Option.none : Option Jvm.ClassFile.FieldType), Jvm.Cond.code ({ cls := "com/example/warpfinder/warpfinder/index/PositionBits", name := "intervals", desc := "()Lcom/example/warpfinder/warpfinder/index/Intervals;" } : Jvm.MethodName) prog_24_method_6_code (11 : Nat) (Option.some (Jvm.ClassFile.FieldType.object "com/example/warpfinder/warpfinder/index/Intervals")), Jvm.Cond.code ({ cls := "com/example/warpfinder/warpfinder/index/Intervals$Builder", name := "<init>", desc := "(I)V" } : Jvm.MethodName) prog_16_method_1_code (2 : Nat) (Option.none : Option Jvm.ClassFile.FieldType), Jvm.Cond.code ({ cls := "java/lang/Math", name := "max", desc := "(II)I" } : Jvm.MethodName) jdk_29_method_65_code (2 : Nat) (Option.some Jvm.ClassFile.FieldType.int), Jvm.Cond.code ({ cls := "java/lang/Long", name := "numberOfTrailingZeros", desc := "(J)I" } : Jvm.MethodName) jdk_35_method_49_code (3 : Nat) (Option.some Jvm.ClassFile.FieldType.int), Jvm.Cond.code ({ cls := "java/lang/Integer", name := "numberOfTrailingZeros", desc := "(I)I" } : Jvm.MethodName) jdk_33_method_48_code (2 : Nat) (Option.some Jvm.ClassFile.FieldType.int), Jvm.Cond.code ({ cls := "com/example/warpfinder/warpfinder/index/Intervals$Builder", name := "add", desc := "(JJ)V" } : Jvm.MethodName) prog_16_method_2_code (5 : Nat) (Option.none : Option Jvm.ClassFile.FieldType), Jvm.Cond.code ({ cls := "com/example/warpfinder/warpfinder/index/Intervals$Builder", name := "build", desc := "()Lcom/example/warpfinder/warpfinder/index/Intervals;" } : Jvm.MethodName) prog_16_method_3_code (1 : Nat) (Option.some (Jvm.ClassFile.FieldType.object "com/example/warpfinder/warpfinder/index/Intervals")), Jvm.Cond.code ({ cls := "com/example/warpfinder/warpfinder/index/Intervals", name := "<init>", desc := "([JI)V" } : Jvm.MethodName) prog_15_method_1_code (3 : Nat) (Option.none : Option Jvm.ClassFile.FieldType), Jvm.Cond.code ({ cls := "com/example/warpfinder/warpfinder/index/Intervals", name := "size", desc := "()I" } : Jvm.MethodName) prog_15_method_3_code (1 : Nat) (Option.some Jvm.ClassFile.FieldType.int), Jvm.Cond.code ({ cls := "com/example/warpfinder/warpfinder/index/Intervals", name := "start", desc := "(I)J" } : Jvm.MethodName) prog_15_method_5_code (2 : Nat) (Option.some Jvm.ClassFile.FieldType.long), Jvm.Cond.code ({ cls := "com/example/warpfinder/warpfinder/index/Intervals", name := "end", desc := "(I)J" } : Jvm.MethodName) prog_15_method_6_code (2 : Nat) (Option.some Jvm.ClassFile.FieldType.long)]
set_option maxRecDepth 65536 in
theorem codes_eq : words1.filter isCode = codes1 := rfl
theorem w_codes : ∀ c ∈ words1.filter isCode, c.before args0 about1 = true := by
  rw [codes_eq]
  intro c hc
  simp only [codes1, List.mem_cons, List.not_mem_nil, or_false] at hc
  rcases hc with rfl | rfl | rfl | rfl | rfl | rfl | rfl | rfl | rfl | rfl | rfl | rfl | rfl | rfl | rfl | rfl | rfl
  · exact w_c0
  · exact w_c1
  · exact w_c2
  · exact w_c3
  · exact w_c4
  · exact w_c5
  · exact w_c6
  · exact w_c7
  · exact w_c8
  · exact w_c9
  · exact w_c10
  · exact w_c11
  · exact w_c12
  · exact w_c13
  · exact w_c14
  · exact w_c15
  · exact w_c16
set_option maxRecDepth 65536 in
theorem w_t1 : (words1.take 24).all (fun c => isCode c || c.before args0 about1) = true := by decide +kernel
set_option maxRecDepth 65536 in
theorem w_t2 : ((words1.drop 24).take 24).all (fun c => isCode c || c.before args0 about1) = true := by decide +kernel
set_option maxRecDepth 65536 in
theorem w_t3 : (((words1.drop 24).drop 24).take 24).all (fun c => isCode c || c.before args0 about1) = true := by decide +kernel
set_option maxRecDepth 65536 in
theorem w_t4 : ((((words1.drop 24).drop 24).drop 24).take 24).all (fun c => isCode c || c.before args0 about1) = true := by decide +kernel
set_option maxRecDepth 65536 in
theorem w_t5 : ((((words1.drop 24).drop 24).drop 24).drop 24).all (fun c => isCode c || c.before args0 about1) = true := by decide +kernel
theorem w_tables : (allAtoms (Jvm.Cond.code x code maxLocals ret :: tables_1)).before args0 about1 = true := by
  rw [allAtoms_all]
  show words1.all (fun c => c.before args0 about1) = true
  refine all_split ?_ w_codes
  rw [← List.take_append_drop 24 words1, List.all_append, w_t1, ← List.take_append_drop 24 (words1.drop 24), List.all_append, w_t2, ← List.take_append_drop 24 ((words1.drop 24).drop 24), List.all_append, w_t3, ← List.take_append_drop 24 (((words1.drop 24).drop 24).drop 24), List.all_append, w_t4, w_t5]
  rfl
set_option maxRecDepth 65536 in
theorem w_case : (Jvm.Cond.and given_1 narrow_1).before args0 about1 = true := by decide +kernel
theorem w_applies : (headSpec (Jvm.Cond.code x code maxLocals ret :: tables_1) room_1).applies x e0.platform about1 = true :=
  (Spec.applies_iff w_frames).mpr ⟨w_running, w_runnable, w_alone, w_named, w_hears, w_ripe, w_room, w_tables⟩
theorem atStart : AtStart classFile x code maxLocals ret World_1 tables_1 room_1 Calls_1 rest_1 Pre_1 launch0 p0 e0 about1 theMethod args0 below0 :=
  ⟨lists_1, trivial, launch0.admits_env _ _ _, launch0.least_env, fairChoices_fair.cas, fairChoices_fair.clock, w_frames, w_args, w_heap, w_applies, trivial, trivial, w_case⟩
end start1
theorem witness_1 : WitnessClaimed_1 := ⟨start1.p0, start1.e0, start1.about1, start1.theMethod, start1.args0, start1.below0, start1.atStart⟩
end Jvm.Pilot.@@N@@
