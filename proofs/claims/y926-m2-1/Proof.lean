import JvmDerived
import JvmDerived.Pilot.@@N@@Statement
import JvmDerived.Pilot.@@N@@Code
set_option linter.unusedVariables false
set_option linter.unusedSimpArgs false
namespace Jvm.OwnKit
open Sem ClassFile Op Lib Jvm.Stand Jvm.Free Jvm.LawKit Jvm.RoadKit
/-- from S the run comes to a state of which P holds -/
def Go (tb : Tables) (e : Env) (below : List Frame) (P : State → Prop) (S : State) : Prop := ∃ t, Steps tb e below S t ∧ P t
theorem Go.st {tb : Tables} {e : Env} {below : List Frame} {P : State → Prop} {S S' : State} (h : ∀ t, Steps tb e below S' t → Steps tb e below S t) (g : Go tb e below P S') : Go tb e below P S := by
  obtain ⟨t, h1, h2⟩ := g
  exact ⟨t, h t h1, h2⟩
theorem Go.cast {tb : Tables} {e : Env} {below : List Frame} {P : State → Prop} {T : State} {g g' : JFrame} (q : g = g') (k : Go tb e below P (T.setTop g')) : Go tb e below P (T.setTop g) := q ▸ k
/-- the invocation of s has returned, and Q says what -/
def Fine (s : State) (below : List Frame) (Q : Option Value → Heap → List Loc → Prop) (kc ks : Nat) (t : State) : Prop := ∃ o, t.status = .running ∧ Ended t below o ∧ ∃ v L, o = .returned v ∧ Q v t.heap L ∧ FrameEnd s o t L kc ks
/-- a method's contract, over the tables of the start Z: called with 'as' at the heap h0 it returns, and Q says what -/
def Con (l : Launch) (Z : State) (y : MethodName) (bytes : ByteArray) (maxL : Nat) (ret : Option FieldType) (ws : List Jvm.Cond) (rm : Room) (as : Array Value) (h0 : Heap) (Q : Option Value → Heap → List Loc → Prop) : Prop :=
  MetFree l y (head1 (Jvm.Cond.code y bytes maxL ret :: ws) rm) (fun a U => a = as ∧ Z.Warmed39 U.vm ∧ U.heap = h0) (fun _ _ _ _ _ => True) (fun _ U o U' => ∃ v L, o = .returned v ∧ Q v U'.heap L ∧ FrameEnd U o U' L rm.cells rm.slots)
theorem Con.of {l : Launch} {Z : State} {y : MethodName} {bytes : ByteArray} {maxL : Nat} {ret : Option FieldType} {ws : List Jvm.Cond} {rm : Room} {as : Array Value} {h0 : Heap} {Q : Option Value → Heap → List Loc → Prop} (hpl : plainFor y = true)
    (body : ∀ (p : Program) (e : Env) (s : State) (m : MethodId) (below : List Frame) (meth : Method) (c : Code) (s₁ : State), Z.Warmed39 s.vm → s₁.heap = h0 → Stand p l e rm s m as below meth c s₁ [] 0 0 → p.tables.exec = Jvm.exec → c.code = bytes → c.maxLocals = maxL → s.vm.findClass y.cls = some m.cls → meth.name = y.name → meth.sig.returnType = ret → meth.locks = false →
      Go p.tables e below (Fine s below Q rm.cells rm.slots) (s₁.setTop (entryFrame m as maxL))) : Con l Z y bytes maxL ret ws rm as h0 Q := by
  refine MetFree.of_bodySF hpl hisR ?_
  intro p e s m args below meth c s₁ Bd hml hP hK
  obtain ⟨rfl, hZ, hh⟩ := hP
  have e0 : s₁.heap = h0 := by rw [← hh, Bd.state]; rfl
  obtain ⟨t, h1, o, h2, h3, h4⟩ := body p e s m below meth c s₁ hZ e0 (Stand.of_body Bd) Bd.exec Bd.bytes hml (findClass_of_methodNamed Bd.named) (name_of_methodNamed Bd.named Bd.method).1 Bd.returns Bd.notSynchronized
  exact ⟨t, o, h1, h2, h3, h4⟩
def bi (P : Prop) [Decidable P] : Int32 := if P then 1 else 0
theorem bi_t {P : Prop} [Decidable P] (h : P) : bi P = 1 := if_pos h
theorem bi_f {P : Prop} [Decidable P] (h : ¬ P) : bi P = 0 := if_neg h
theorem eqL_v {args : Array Value} {first s : State} {o : Option Outcome} {idx : List Nat} {t : Term} {k : Int64} (h : (Cond.eq t (.long k)).value args first o s idx = some true) : t.eval args first o idx s = some (.long k) := by
  obtain ⟨x, y, ev, ey, -, hk⟩ := cmp_v (Or.inl h)
  obtain rfl : Value.long k = y := Option.some.inj ey
  obtain ⟨z, rfl⟩ := hk
  obtain rfl : z = k := gotT (eq_L ev ey) h
  exact ev
theorem eqI_v {args : Array Value} {first s : State} {o : Option Outcome} {idx : List Nat} {t : Term} {k : Int32} (h : (Cond.eq t (.int k)).value args first o s idx = some true) : t.eval args first o idx s = some (.int k) := by
  obtain ⟨x, y, ev, ey, -, hk⟩ := cmp_v (Or.inl h)
  obtain rfl : Value.int k = y := Option.some.inj ey
  obtain ⟨z, rfl⟩ := hk
  have q : (Cond.eq t (.int k)).value args first o s idx = some (decide (z = k)) := by simp [Cond.value, ev, ey]
  obtain rfl : z = k := gotT q h
  exact ev
section
variable {p : Program} {l : Launch} {e : Env} {R : Room} {s : State} {m : MethodId} {args : Array Value} {below : List Frame} {meth : Method} {c : Code} {T : State} {locs : List Loc} {cells slots : Nat} {Z : State} {a0 : Array Value} {h : Heap}
theorem fin {Q : Option Value → Heap → List Loc → Prop} {kc ks : Nat} {v : Option Value} {S : State} (X : Stand p l e R s m args below meth c T locs cells slots) (hv : meth.sig.returnType = none → v = none) (hlk : meth.locks = false) (hq : Q v T.heap locs) (hc : cells ≤ kc) (hs : slots ≤ ks)
    (st : ∀ fs, (∀ (f : JFrame) (acts : List Action), f.method = m → f.locked = none → f.entered = [] → (doReturn e (T.setTop f) acts v).1 = T.setFrames fs) → Steps p.tables e below S (T.setFrames fs)) : Go p.tables e below (Fine s below Q kc ks) S := by
  obtain ⟨fs, hr, hrun, hended, hW, hsame⟩ := X.leave (v := v) hv hlk
  exact ⟨_, st fs hr, _, hrun, hended, v, locs, rfl, hq, ⟨_, rfl⟩, hW, hsame.mono hc hs⟩
/-- return of an int, a long, a reference (no narrowing) -/
theorem endW {Q : Option Value → Heap → List Loc → Prop} {kc ks : Nat} (X : Stand p l e R s m args below meth c T locs cells slots) (hx : p.tables.exec = Jvm.exec) (hlk : meth.locks = false) {pc : Nat} {Ls : Array Slot} {w : Value} {t : FieldType} {i : Instr} {rest : List Value} (hret : meth.sig.returnType = some t) (hn : narrow t w = w)
    (hi : (i = .ireturn ∧ (t = .int ∨ t = .boolean ∨ t = .byte ∨ t = .char ∨ t = .short) ∧ ∃ z, w = .int z) ∨ (i = .lreturn ∧ t = .long ∧ ∃ z, w = .long z) ∨ (i = .dreturn ∧ t = .double ∧ ∃ z, w = .double z) ∨ (i = .freturn ∧ t = .float ∧ ∃ z, w = .float z) ∨ (i = .areturn ∧ t.isReference = true ∧ w.isRef = true))
    (hd : decode c.code pc = .ok (i, 1)) (hq : Q (some w) T.heap locs) (hc : cells ≤ kc) (hs : slots ≤ ks) : Go p.tables e below (Fine s below Q kc ks) (T.setTop (mkF m pc Ls (w :: rest))) :=
  fin X (fun h => by rw [hret] at h; cases h) hlk hq hc hs fun fs hr => retOut X hx hret hn hi hd hr
theorem endI {Q : Option Value → Heap → List Loc → Prop} {kc ks : Nat} (X : Stand p l e R s m args below meth c T locs cells slots) (hx : p.tables.exec = Jvm.exec) (hlk : meth.locks = false) {pc : Nat} {Ls : Array Slot} {z : Int32} {rest : List Value} (hret : meth.sig.returnType = some .int)
    (hd : decode c.code pc = .ok (.ireturn, 1)) (hq : Q (some (.int z)) T.heap locs) (hc : cells ≤ kc) (hs : slots ≤ ks) : Go p.tables e below (Fine s below Q kc ks) (T.setTop (mkF m pc Ls (.int z :: rest))) :=
  endW X hx hlk hret rfl (Or.inl ⟨rfl, Or.inl rfl, z, rfl⟩) hd hq hc hs
theorem endJ {Q : Option Value → Heap → List Loc → Prop} {kc ks : Nat} (X : Stand p l e R s m args below meth c T locs cells slots) (hx : p.tables.exec = Jvm.exec) (hlk : meth.locks = false) {pc : Nat} {Ls : Array Slot} {z : Int64} {rest : List Value} (hret : meth.sig.returnType = some .long)
    (hd : decode c.code pc = .ok (.lreturn, 1)) (hq : Q (some (.long z)) T.heap locs) (hc : cells ≤ kc) (hs : slots ≤ ks) : Go p.tables e below (Fine s below Q kc ks) (T.setTop (mkF m pc Ls (.long z :: rest))) :=
  endW X hx hlk hret rfl (Or.inr (Or.inl ⟨rfl, rfl, z, rfl⟩)) hd hq hc hs
theorem endD {Q : Option Value → Heap → List Loc → Prop} {kc ks : Nat} (X : Stand p l e R s m args below meth c T locs cells slots) (hx : p.tables.exec = Jvm.exec) (hlk : meth.locks = false) {pc : Nat} {Ls : Array Slot} {z : UInt64} {rest : List Value} (hret : meth.sig.returnType = some .double)
    (hd : decode c.code pc = .ok (.dreturn, 1)) (hq : Q (some (.double z)) T.heap locs) (hc : cells ≤ kc) (hs : slots ≤ ks) : Go p.tables e below (Fine s below Q kc ks) (T.setTop (mkF m pc Ls (.double z :: rest))) :=
  endW X hx hlk hret rfl (Or.inr (Or.inr (Or.inl ⟨rfl, rfl, z, rfl⟩))) hd hq hc hs
theorem endR {Q : Option Value → Heap → List Loc → Prop} {kc ks : Nat} (X : Stand p l e R s m args below meth c T locs cells slots) (hx : p.tables.exec = Jvm.exec) (hlk : meth.locks = false) {pc : Nat} {Ls : Array Slot} {w : Value} {t : FieldType} {rest : List Value} (hret : meth.sig.returnType = some t) (ht : t.isReference = true) (hw : w.isRef = true)
    (hd : decode c.code pc = .ok (.areturn, 1)) (hq : Q (some w) T.heap locs) (hc : cells ≤ kc) (hs : slots ≤ ks) : Go p.tables e below (Fine s below Q kc ks) (T.setTop (mkF m pc Ls (w :: rest))) :=
  endW X hx hlk hret (by cases w <;> first | rfl | (cases t <;> first | rfl | cases ht) | cases hw) (Or.inr (Or.inr (Or.inr (Or.inr ⟨rfl, ht, hw⟩)))) hd hq hc hs
/-- return of a boolean, byte, char or short: narrowed -/
theorem endN {Q : Option Value → Heap → List Loc → Prop} {kc ks : Nat} (X : Stand p l e R s m args below meth c T locs cells slots) (hx : p.tables.exec = Jvm.exec) (hlk : meth.locks = false) {pc : Nat} {Ls : Array Slot} {z w : Int32} {t : FieldType} {rest : List Value} (hret : meth.sig.returnType = some t) (ht : t = .boolean ∨ t = .byte ∨ t = .char ∨ t = .short)
    (hd : decode c.code pc = .ok (.ireturn, 1)) (hz : nar t z = w) (hq : Q (some (.int w)) T.heap locs) (hc : cells ≤ kc) (hs : slots ≤ ks) : Go p.tables e below (Fine s below Q kc ks) (T.setTop (mkF m pc Ls (.int z :: rest))) := by
  subst hz
  exact fin X (fun h => by rw [hret] at h; cases h) hlk hq hc hs fun fs hr => retN X hx hret ht hd hr
theorem endV {Q : Option Value → Heap → List Loc → Prop} {kc ks : Nat} (X : Stand p l e R s m args below meth c T locs cells slots) (hx : p.tables.exec = Jvm.exec) (hlk : meth.locks = false) {pc : Nat} {Ls : Array Slot} (hret : meth.sig.returnType = none)
    (hd : decode c.code pc = .ok (.return_, 1)) (hq : Q none T.heap locs) (hc : cells ≤ kc) (hs : slots ≤ ks) : Go p.tables e below (Fine s below Q kc ks) (T.setTop (mkF m pc Ls [])) :=
  fin X (fun _ => rfl) hlk hq hc hs fun fs hr => X.returnOut hx hret hd hr
theorem lremM {g : JFrame} {target : State} (X : Stand p l e R s m args below meth c T locs cells slots) (hx : p.tables.exec = Jvm.exec) (hg : g.method = m) {x y : Int64} {rest : List Value} (hd : decode c.code g.pc = .ok (.lrem, 1)) (hs : g.stack = .long y :: .long x :: rest) (hy : y ≠ 0)
    (hr : Steps p.tables e below (T.setTop { g with pc := g.pc + 1, stack := .long (x % y) :: rest }) target) : Steps p.tables e below (T.setTop g) target := by
  have q : x - x / y * y = x % y := lrem_mod x y
  exact XS.lrem X.here hx hg hd hs hy (by rw [q]; exact hr)
/-- a static call by its contract -/
theorem callSt (X : Stand p l e R s m args below meth c T locs cells slots) (hx : p.tables.exec = Jvm.exec) (hZ : Z.Warmed39 s.vm) {own : String} {index : Nat} {y : MethodName} {bytes : ByteArray} {maxL : Nat} {ret : Option FieldType} {rm : Room} {Q : Option Value → Heap → List Loc → Prop} {argsL rest : List Value}
    (hown : s.vm.findClass own = some m.cls) (w1 : (Cond.methodLink own index y).before a0 Z = true) (w2 : (Cond.static y).before a0 Z = true) (w3 : (Cond.initialized y.cls).before a0 Z = true) (w4 : (Cond.code y bytes maxL ret).before a0 Z = true) (hy : y.cls ≠ "java/lang/invoke/MethodHandle" ∧ y.cls ≠ "java/lang/invoke/VarHandle")
    (hM : Con l Z y bytes maxL ret [] rm argsL.toArray h Q) (eT : T.heap = h) (W : Nat) (hf : rm.frames + 1 ≤ R.frames) (hl : W + (maxL + 11) + rm.locals ≤ R.locals) (hcc : cells + rm.cells ≤ R.cells) (hss : slots + rm.slots ≤ R.slots)
    {g : JFrame} (hg : g.method = m) (hsize : g.locals.size = c.maxLocals) (hlen : ∀ sig, parseMethodDescriptor y.desc = some sig → argsL.length = sig.parameters.length)
    (hstack : g.stack = argsL.reverse ++ rest) (hW : 2 * g.monitorRoom + (rest.map fun v => v.category).sum ≤ W) (hd : decode c.code g.pc = .ok (.invokestatic index, 3)) :
    ∃ v T' L, Stand p l e R s m args below meth c T' (locs ++ L) (cells + rm.cells) (slots + rm.slots) ∧ Q v T'.heap L ∧ ∀ target, Steps p.tables e below (T'.setTop { g with pc := g.pc + 3, stack := v.toList ++ rest }) target → Steps p.tables e below (T.setTop g) target := by
  obtain ⟨v, vm1, ⟨T', L', k', n'⟩, -, X', ⟨L, hQ, l1, l2, l3⟩, st⟩ := Jvm.LawKit.callS X hx hown (mvT hZ w1) (mvT hZ w2) (mvT hZ w3) (mvT hZ w4) hy (backOf (Q := Q) (W := W) hM hZ w4 w3 hf hl) hg hsize hlen hstack hW hd (fun _ _ => ⟨rfl, eT, hcc, hss⟩)
  (try dsimp only at X' l1 l2 l3 st hQ)
  subst l1 l2 l3
  exact ⟨v, T', L, X', hQ, st⟩
/-- a constructor by its contract -/
theorem callIn (X : Stand p l e R s m args below meth c T locs cells slots) (hx : p.tables.exec = Jvm.exec) (hZ : Z.Warmed39 s.vm) {own : String} {index : Nat} {y : MethodName} {bytes : ByteArray} {maxL : Nat} {rm : Room} {Q : Option Value → Heap → List Loc → Prop} {a : Addr} {argsL rest : List Value} (hy1 : y.name = "<init>")
    (hown : s.vm.findClass own = some m.cls) (w1 : (Cond.methodLink own index y).before a0 Z = true) (w2 : (Cond.instanceMethod y).before a0 Z = true) (w3 : (Cond.initialized y.cls).before a0 Z = true) (w4 : (Cond.code y bytes maxL none).before a0 Z = true) (hy : y.cls ≠ "java/lang/invoke/MethodHandle" ∧ y.cls ≠ "java/lang/invoke/VarHandle")
    (hM : Con l Z y bytes maxL none [] rm (.ref a :: argsL).toArray h Q) (eT : T.heap = h) (W : Nat) (hf : rm.frames + 1 ≤ R.frames) (hl : W + (maxL + 11) + rm.locals ≤ R.locals) (hcc : cells + rm.cells ≤ R.cells) (hss : slots + rm.slots ≤ R.slots)
    {g : JFrame} (hg : g.method = m) (hsize : g.locals.size = c.maxLocals) (hlen : ∀ sig, parseMethodDescriptor y.desc = some sig → argsL.length = sig.parameters.length)
    (hstack : g.stack = argsL.reverse ++ .ref a :: rest) (hW : 2 * g.monitorRoom + (rest.map fun v => v.category).sum ≤ W) (hd : decode c.code g.pc = .ok (.invokespecial index, 3)) :
    ∃ v T' L, Stand p l e R s m args below meth c T' (locs ++ L) (cells + rm.cells) (slots + rm.slots) ∧ Q v T'.heap L ∧ ∀ target, Steps p.tables e below (T'.setTop { g with pc := g.pc + 3, stack := v.toList ++ rest }) target → Steps p.tables e below (T.setTop g) target := by
  obtain ⟨v, vm1, ⟨T', L', k', n'⟩, -, X', ⟨L, hQ, l1, l2, l3⟩, st⟩ := X.specialBack hx hy1 hown (mvT hZ w1) (mvT hZ w2) (mvT hZ w4) hy (backOf (Q := Q) (W := W) hM hZ w4 w3 hf hl) hg hsize (Steps.refl _) hlen hstack hW hd (fun _ _ => ⟨rfl, eT, hcc, hss⟩)
  (try dsimp only at X' l1 l2 l3 st hQ)
  subst l1 l2 l3
  exact ⟨v, T', L, X', hQ, fun target k => st.trans k⟩
theorem mvM {s : State} {a0 args : Array Value} {own host : String} {y : MethodName} {index : Nat} (hZ : Z.Warmed39 s.vm) (w : (Cond.methodLinkNest own index y host).before a0 Z = true) : (Cond.methodLinkNest own index y host).before args s = true := (Cond.methodLinkNest_wide hZ w :)
/-- a nest mate's constructor by its contract -/
theorem callInN (X : Stand p l e R s m args below meth c T locs cells slots) (hx : p.tables.exec = Jvm.exec) (hZ : Z.Warmed39 s.vm) {own host : String} {index : Nat} {y : MethodName} {bytes : ByteArray} {maxL : Nat} {rm : Room} {Q : Option Value → Heap → List Loc → Prop} {a : Addr} {argsL rest : List Value} (hy1 : y.name = "<init>")
    (hown : s.vm.findClass own = some m.cls) (w1 : (Cond.methodLinkNest own index y host).before a0 Z = true) (w2 : (Cond.instanceMethod y).before a0 Z = true) (w3 : (Cond.initialized y.cls).before a0 Z = true) (w4 : (Cond.code y bytes maxL none).before a0 Z = true) (hy : y.cls ≠ "java/lang/invoke/MethodHandle" ∧ y.cls ≠ "java/lang/invoke/VarHandle")
    (hM : Con l Z y bytes maxL none [] rm (.ref a :: argsL).toArray h Q) (eT : T.heap = h) (W : Nat) (hf : rm.frames + 1 ≤ R.frames) (hl : W + (maxL + 11) + rm.locals ≤ R.locals) (hcc : cells + rm.cells ≤ R.cells) (hss : slots + rm.slots ≤ R.slots)
    {g : JFrame} (hg : g.method = m) (hsize : g.locals.size = c.maxLocals) (hlen : ∀ sig, parseMethodDescriptor y.desc = some sig → argsL.length = sig.parameters.length)
    (hstack : g.stack = argsL.reverse ++ .ref a :: rest) (hW : 2 * g.monitorRoom + (rest.map fun v => v.category).sum ≤ W) (hd : decode c.code g.pc = .ok (.invokespecial index, 3)) :
    ∃ v T' L, Stand p l e R s m args below meth c T' (locs ++ L) (cells + rm.cells) (slots + rm.slots) ∧ Q v T'.heap L ∧ ∀ target, Steps p.tables e below (T'.setTop { g with pc := g.pc + 3, stack := v.toList ++ rest }) target → Steps p.tables e below (T.setTop g) target := by
  obtain ⟨v, vm1, ⟨T', L', k', n'⟩, -, X', ⟨L, hQ, l1, l2, l3⟩, st⟩ := X.specialBackNest hx hy1 hown (mvM hZ w1) (mvT hZ w2) (mvT hZ w4) hy (backOf (Q := Q) (W := W) hM hZ w4 w3 hf hl) hg hsize (Steps.refl _) hlen hstack hW hd (fun _ _ => ⟨rfl, eT, hcc, hss⟩)
  (try dsimp only at X' l1 l2 l3 st hQ)
  subst l1 l2 l3
  exact ⟨v, T', L, X', hQ, fun target k => st.trans k⟩
/-- an instance method by the contract of the body that the receiver's class selects -/
theorem callVi (X : Stand p l e R s m args below meth c T locs cells slots) (hx : p.tables.exec = Jvm.exec) (hZ : Z.Warmed39 s.vm) {own C : String} {index : Nat} {y z : MethodName} {bytes : ByteArray} {maxL : Nat} {ret : Option FieldType} {rm : Room} {Q : Option Value → Heap → List Loc → Prop} {a : Addr} {argsL rest : List Value}
    (hown : s.vm.findClass own = some m.cls) (w1 : (Cond.methodLink own index y).before a0 Z = true) (w2 : (Cond.declares y).before a0 Z = true) (nf : NotFace s y) (w3 : (Cond.selects C y z).before a0 Z = true) (w4 : (Cond.instanceMethod z).before a0 Z = true) (w5 : (Cond.initialized z.cls).before a0 Z = true) (w6 : (Cond.code z bytes maxL ret).before a0 Z = true) (hy : y.cls ≠ "java/lang/invoke/MethodHandle" ∧ y.cls ≠ "java/lang/invoke/VarHandle")
    (hyz : z.desc = y.desc) (E : Exa Z h a C) (hM : Con l Z z bytes maxL ret [] rm (.ref a :: argsL).toArray h Q) (eT : T.heap = h) (W : Nat) (hf : rm.frames + 1 ≤ R.frames) (hl : W + (maxL + 11) + rm.locals ≤ R.locals) (hcc : cells + rm.cells ≤ R.cells) (hss : slots + rm.slots ≤ R.slots)
    {g : JFrame} (hg : g.method = m) (hsize : g.locals.size = c.maxLocals) (hlen : ∀ sig, parseMethodDescriptor y.desc = some sig → argsL.length = sig.parameters.length)
    (hstack : g.stack = argsL.reverse ++ .ref a :: rest) (hW : 2 * g.monitorRoom + (rest.map fun v => v.category).sum ≤ W) (hd : decode c.code g.pc = .ok (.invokevirtual index, 3)) :
    ∃ v T' L, Stand p l e R s m args below meth c T' (locs ++ L) (cells + rm.cells) (slots + rm.slots) ∧ Q v T'.heap L ∧ ∀ target, Steps p.tables e below (T'.setTop { g with pc := g.pc + 3, stack := v.toList ++ rest }) target → Steps p.tables e below (T.setTop g) target := by
  obtain ⟨cq, kq, qa, qb, qc⟩ := isOf hZ eT E
  obtain ⟨v, vm1, ⟨T', L', k', n'⟩, -, X', ⟨L, hQ, l1, l2, l3⟩, st⟩ := X.virtualBack hx (y := y) (z := z) hown (mvT hZ w1) (mvT hZ w2) nf (mvT hZ w3) (mvT hZ w4) hy (backOf (Q := Q) (W := W) hM hZ w6 w5 hf hl) qa qc hg hsize (Steps.refl _) hlen hstack hW hd (fun _ _ => ⟨rfl, eT, hcc, hss⟩)
  (try dsimp only at X' l1 l2 l3 st hQ)
  subst l1 l2 l3
  exact ⟨v, T', L, X', hQ, fun target k => st.trans k⟩
theorem selPriv {y : MethodName} {n : Nat} (wi : (Cond.instantiable y.cls n).before a0 Z = true) (wp : (Cond.privateMethod y).before a0 Z = true) (wm : (Cond.instanceMethod y).before a0 Z = true) (hy : y.cls ≠ "java/lang/invoke/MethodHandle" ∧ y.cls ≠ "java/lang/invoke/VarHandle") : (Cond.selects y.cls y y).before a0 Z = true := by
  obtain ⟨t, kt, g1, g2, g3, g4, -⟩ := Cond.instantiable_spec wi
  exact selects_self_of_private g1 g2 (Bool.or_eq_false_iff.mp g4).1 (Cond.privateMethod_at wp) wm hy
/-- a private instance method by its contract -/
theorem callPr (X : Stand p l e R s m args below meth c T locs cells slots) (hx : p.tables.exec = Jvm.exec) (hZ : Z.Warmed39 s.vm) {own C : String} {index : Nat} {y : MethodName} {bytes : ByteArray} {maxL : Nat} {ret : Option FieldType} {rm : Room} {Q : Option Value → Heap → List Loc → Prop} {a : Addr} {argsL rest : List Value}
    (hown : s.vm.findClass own = some m.cls) (w1 : (Cond.methodLink own index y).before a0 Z = true) (w2 : (Cond.instanceMethod y).before a0 Z = true) (w3 : (Cond.selects y.cls y y).before a0 Z = true) (w4 : (Cond.privateMethod y).before a0 Z = true) (w5 : (Cond.initialized y.cls).before a0 Z = true) (w6 : (Cond.code y bytes maxL ret).before a0 Z = true) (hy : y.cls ≠ "java/lang/invoke/MethodHandle" ∧ y.cls ≠ "java/lang/invoke/VarHandle")
    (E : Exa Z h a C) (hM : Con l Z y bytes maxL ret [] rm (.ref a :: argsL).toArray h Q) (eT : T.heap = h) (W : Nat) (hf : rm.frames + 1 ≤ R.frames) (hl : W + (maxL + 11) + rm.locals ≤ R.locals) (hcc : cells + rm.cells ≤ R.cells) (hss : slots + rm.slots ≤ R.slots)
    {g : JFrame} (hg : g.method = m) (hsize : g.locals.size = c.maxLocals) (hlen : ∀ sig, parseMethodDescriptor y.desc = some sig → argsL.length = sig.parameters.length)
    (hstack : g.stack = argsL.reverse ++ .ref a :: rest) (hW : 2 * g.monitorRoom + (rest.map fun v => v.category).sum ≤ W) (hd : decode c.code g.pc = .ok (.invokevirtual index, 3)) :
    ∃ v T' L, Stand p l e R s m args below meth c T' (locs ++ L) (cells + rm.cells) (slots + rm.slots) ∧ Q v T'.heap L ∧ ∀ target, Steps p.tables e below (T'.setTop { g with pc := g.pc + 3, stack := v.toList ++ rest }) target → Steps p.tables e below (T.setTop g) target := by
  obtain ⟨cell, q1, q2⟩ := E.cell
  obtain ⟨v, vm1, ⟨T', L', k', n'⟩, -, X', ⟨L, hQ, l1, l2, l3⟩, st⟩ := X.privateBack hx hown (mvT hZ w1) (mvT hZ w2) (mvT hZ w3) (Cond.privateMethod_at (mvP (args := args) hZ w4)) (mvT hZ w6) hy (backOf (Q := Q) (W := W) hM hZ w6 w5 hf hl) hg hsize (Steps.refl _) (by rw [eT]; exact q1) q2 hlen hstack hW hd (fun _ _ => ⟨rfl, eT, hcc, hss⟩)
  (try dsimp only at X' l1 l2 l3 st hQ)
  subst l1 l2 l3
  exact ⟨v, T', L, X', hQ, fun target k => st.trans k⟩
/-- an interface's method by the contract of the body that the receiver's class selects -/
theorem callIf (X : Stand p l e R s m args below meth c T locs cells slots) (hx : p.tables.exec = Jvm.exec) (hZ : Z.Warmed39 s.vm) {own C : String} {index count : Nat} {y z : MethodName} {bytes : ByteArray} {maxL : Nat} {ret : Option FieldType} {rm : Room} {Q : Option Value → Heap → List Loc → Prop} {a : Addr} {argsL rest : List Value}
    (hown : s.vm.findClass own = some m.cls) (w1 : (Cond.methodLink own index y).before a0 Z = true) (w2 : (Cond.declares y).before a0 Z = true) (w3 : (Cond.interfaceMethod y.cls y.cls y.name y.desc).before a0 Z = true) (w4 : (Cond.selects C y z).before a0 Z = true) (w5 : (Cond.instanceMethod z).before a0 Z = true) (w6 : (Cond.publicMethod z).before a0 Z = true) (w7 : (Cond.unhidden C y.name y.desc).before a0 Z = true) (w8 : (Cond.castable C y.cls).before a0 Z = true) (w9 : (Cond.initialized z.cls).before a0 Z = true) (w10 : (Cond.code z bytes maxL ret).before a0 Z = true) (hy : y.cls ≠ "java/lang/invoke/MethodHandle" ∧ y.cls ≠ "java/lang/invoke/VarHandle")
    (E : Exa Z h a C) (hM : Con l Z z bytes maxL ret [] rm (.ref a :: argsL).toArray h Q) (eT : T.heap = h) (W : Nat) (hf : rm.frames + 1 ≤ R.frames) (hl : W + (maxL + 11) + rm.locals ≤ R.locals) (hcc : cells + rm.cells ≤ R.cells) (hss : slots + rm.slots ≤ R.slots)
    {g : JFrame} (hg : g.method = m) (hsize : g.locals.size = c.maxLocals) (hlen : ∀ sig, parseMethodDescriptor y.desc = some sig → argsL.length = sig.parameters.length)
    (hstack : g.stack = argsL.reverse ++ .ref a :: rest) (hW : 2 * g.monitorRoom + (rest.map fun v => v.category).sum ≤ W) (hd : decode c.code g.pc = .ok (.invokeinterface index count, 5)) :
    ∃ v T' L, Stand p l e R s m args below meth c T' (locs ++ L) (cells + rm.cells) (slots + rm.slots) ∧ Q v T'.heap L ∧ ∀ target, Steps p.tables e below (T'.setTop { g with pc := g.pc + 5, stack := v.toList ++ rest }) target → Steps p.tables e below (T.setTop g) target := by
  obtain ⟨cq, kq, qa, qb, qc⟩ := isOf hZ eT E
  obtain ⟨v, vm1, ⟨T', L', k', n'⟩, -, X', ⟨L, hQ, l1, l2, l3⟩, st⟩ := X.interfaceBack hx (xi := y) (y := z) hown (mvT hZ w1) (mvT hZ w2) (mvT hZ w3 (by simp [Cond.onTables, Cond.keepsFace, Cond.faceAtom, Cond.keeps, Cond.steady, hy.1, hy.2])) (mvT hZ w4) (mvT hZ w5) (mvT hZ w6) (mvT hZ w7) (mvT hZ w8) hy (backOf (Q := Q) (W := W) hM hZ w10 w9 hf hl) qa qb qc hg hsize (Steps.refl _) hlen hstack hW hd (fun _ _ => ⟨rfl, eT, hcc, hss⟩)
  (try dsimp only at X' l1 l2 l3 st hQ)
  subst l1 l2 l3
  exact ⟨v, T', L, X', hQ, fun target k => st.trans k⟩
/-- an array whose k-th element is f k -/
def Afn (Z : State) (h : Heap) (a : Addr) (ty : FieldType) (n : Int32) (f : Nat → Value) : Prop := ∃ c : Cell, Arr Z h a c ty ∧ c.slots.size = n.toNatClampNeg ∧ ¬ n < 0 ∧ ∀ k, k < n.toNatClampNeg → c.slots[k]? = some (f k) ∧ fits ty (f k) = true
theorem Afn.lt {h : Heap} {a : Addr} {ty : FieldType} {n : Int32} {f : Nat → Value} (F : Afn Z h a ty n f) : a < h.size := by obtain ⟨c, A, -⟩ := F; exact A.lt
theorem Afn.nn {h : Heap} {a : Addr} {ty : FieldType} {n : Int32} {f : Nat → Value} (F : Afn Z h a ty n f) : ¬ n < 0 := by obtain ⟨c, -, -, q, -⟩ := F; exact q
theorem Afn.ext {h h' : Heap} {a : Addr} {ty : FieldType} {n : Int32} {f : Nat → Value} (F : Afn Z h a ty n f) (E : Ext h h') : Afn Z h' a ty n f := by obtain ⟨c, A, r⟩ := F; exact ⟨c, A.ext E, r⟩
theorem Afn.other {h h' : Heap} {a b : Addr} {ty : FieldType} {n : Int32} {f : Nat → Value} {sl : Nat} {v : Value} (F : Afn Z h b ty n f) (W : Wr h h' a sl v) (q : b ≠ a) : Afn Z h' b ty n f := by obtain ⟨c, A, r⟩ := F; exact ⟨c, A.other W q, r⟩
theorem Afn.keep {h h' : Heap} {a : Addr} {ty : FieldType} {n : Int32} {f : Nat → Value} {ws : List Addr} (F : Afn Z h a ty n f) (K : Keep h h' ws) (q : a ∉ ws) : Afn Z h' a ty n f := by obtain ⟨c, A, r⟩ := F; exact ⟨c, ⟨K.2.1 a c A.1 q, A.2⟩, r⟩
theorem Afn.congr {h : Heap} {a : Addr} {ty : FieldType} {n : Int32} {f g : Nat → Value} (F : Afn Z h a ty n f) (q : ∀ k, k < n.toNatClampNeg → f k = g k) : Afn Z h a ty n g := by
  obtain ⟨c, A, s, m, r⟩ := F
  exact ⟨c, A, s, m, fun k hk => by rw [← q k hk]; exact r k hk⟩
theorem Afn.new {h : Heap} {a : Addr} {ty : FieldType} {n : Int32} {k : ClassId} (A : Arr Z h a (newA k ty n) ty) (q : ¬ n < 0) : Afn Z h a ty n (fun _ => defaultValue ty) := by
  obtain ⟨c, B, -, s, m, H, G⟩ := Arv.new A q
  exact ⟨c, B, s, m, fun j hj => ⟨by simpa using H j (by rw [s]; exact hj), by simpa using G j (by rw [s]; exact hj)⟩⟩
theorem Afn.set {h h' : Heap} {a : Addr} {ty : FieldType} {n : Int32} {f : Nat → Value} {c : Cell} {j : Int32} {v : Value} (A : Arr Z h a c ty) (s : c.slots.size = n.toNatClampNeg) (m : ¬ n < 0) (r : ∀ k, k < n.toNatClampNeg → c.slots[k]? = some (f k) ∧ fits ty (f k) = true) (hv : fits ty v = true) (W : Wr h h' a j.toNatClampNeg v) :
    Afn Z h' a ty n (fun k => if k = j.toNatClampNeg then v else f k) := by
  refine ⟨c.setSlot j.toNatClampNeg v, A.same W, by rw [sz_set]; exact s, m, fun k hk => ?_⟩
  dsimp only
  by_cases q : k = j.toNatClampNeg
  · rw [if_pos q]
    refine ⟨?_, hv⟩
    subst q
    simp [Cell.setSlot, s, hk]
  · rw [if_neg q]
    refine ⟨?_, (r k hk).2⟩
    show (c.slots.setIfInBounds _ _)[k]? = _
    rw [Array.getElem?_setIfInBounds_ne (Ne.symm q)]
    exact (r k hk).1
theorem inbN {n j : Int32} (q : ¬ j < 0 ∧ j < n) : j.toNatClampNeg < n.toNatClampNeg := by
  obtain ⟨h1, h2⟩ := q
  rw [Int32.lt_iff_toInt_lt] at h1 h2
  have e : (0 : Int32).toInt = 0 := rfl
  simp only [Int32.toNatClampNeg]
  omega
theorem Afn.of_arv {h : Heap} {a : Addr} {k : ClassId} {ty : FieldType} {n : Int32} {vs : List Value} {d : Value} (F : Arv Z h a k ty n vs d) : Afn Z h a ty n (fun i => vs.getD i d) := by
  obtain ⟨c, A, -, s, m, H, G⟩ := F
  exact ⟨c, A, s, m, fun i hi => ⟨H i (by rw [s]; exact hi), G i (by rw [s]; exact hi)⟩⟩
theorem ns_root {O K : String} {n : Nat} (w : (Cond.noSuperclass O).before a0 Z = true) (wk : (Cond.instantiable K n).before a0 Z = true) (hn : O ≠ K) : NS Z O K := by
  obtain ⟨c, k, h1, h2, h3, -, -⟩ := Cond.noSuperclass_spec w
  obtain ⟨t, kt, g1, -⟩ := Cond.instantiable_spec wk
  have ne := ids_ne h1 g1 hn
  refine ⟨c, t, h1, g1, fun fuel => ?_⟩
  cases fuel with
  | zero => rfl
  | succ f => simp [Vm.isSubclassAux, ne, h2, h3]
theorem ns_no {C S K : String} {n : Nat} (w : (Cond.superclass C S).before a0 Z = true) (wk : (Cond.instantiable K n).before a0 Z = true) (q : NS Z C K) (hn : C ≠ K) : ∃ c t, Z.vm.findClass C = some c ∧ Z.vm.findClass K = some t ∧ Z.vm.assignable c t = false := by
  obtain ⟨c, t, h0, g0, n3⟩ := q
  obtain ⟨p, k, kp, h1, h2, h3, h4, h5, -, h7⟩ := Cond.superclass_spec h0 w
  obtain ⟨t', kt, g1, g2, g3, g4, -⟩ := Cond.instantiable_spec wk
  cases g0.symm.trans g1
  have g5 : kt.isInterface = false := (Bool.or_eq_false_iff.mp g4).1
  have ne := ids_ne h0 g0 hn
  refine ⟨c, t, h0, g0, ?_⟩
  show Z.vm.assignableAux (255 + 1) c t = false
  simp [Vm.assignableAux, ne, h2, g2, h5, g3, g5, Vm.isSubclass, n3]
end
end Jvm.OwnKit
namespace Jvm.OwnKit
open Sem ClassFile Op Lib Jvm.Stand Jvm.Free Jvm.LawKit Jvm.RoadKit
section
variable {p : Program} {l : Launch} {e : Env} {R : Room} {s : State} {m : MethodId} {args : Array Value} {below : List Frame} {meth : Method} {c : Code} {T : State} {locs : List Loc} {cells slots : Nat} {Z : State} {a0 : Array Value} {h : Heap}
theorem rng_getD (f : Nat → Value) (n k : Nat) (d : Value) (hk : k < n) : ((List.range n).map f).getD k d = f k := by
  rw [List.getD_eq_getElem?_getD]
  simp [hk]
theorem Afn.arv {a : Addr} {ty : FieldType} {n : Int32} {f : Nat → Value} (F : Afn Z h a ty n f) : ∃ k, Arv Z h a k ty n ((List.range n.toNatClampNeg).map f) (.int 0) := by
  obtain ⟨c, A, s, m, r⟩ := F
  refine ⟨_, c, A, rfl, s, m, fun i hi => ?_, fun i hi => ?_⟩
  · rw [rng_getD _ _ _ _ (by rw [← s]; exact hi)]; exact (r i (by rw [← s]; exact hi)).1
  · rw [rng_getD _ _ _ _ (by rw [← s]; exact hi)]; exact (r i (by rw [← s]; exact hi)).2
theorem cp_get (f g : Nat → Value) (z z' sp dp nn k : Nat) (d : Value) (h4 : sp + nn ≤ z) (h5 : dp + nn ≤ z') (hk : k < z') :
    (((List.range z').map g).take dp ++ ((List.range nn).map fun i => ((List.range z).map f).getD (sp + i) d) ++ ((List.range z').map g).drop (dp + nn)).getD k d = if dp ≤ k ∧ k < dp + nn then f (sp + (k - dp)) else g k := by
  have e : ((List.range nn).map fun i => ((List.range z).map f).getD (sp + i) d) = (List.range nn).map fun i => f (sp + i) := by
    apply List.map_congr_left
    intro i hi
    rw [List.mem_range] at hi
    exact rng_getD _ _ _ _ (by omega)
  rw [e, List.getD_eq_getElem?_getD, List.append_assoc, List.getElem?_append]
  simp only [List.length_take, List.length_map, List.length_range]
  have m1 : min dp z' = dp := by omega
  rw [m1]
  by_cases h1 : k < dp
  · rw [if_pos h1, if_neg (by omega), List.getElem?_take]
    simp [h1, hk]
  · rw [if_neg h1, List.getElem?_append]
    simp only [List.length_map, List.length_range]
    by_cases h2 : k - dp < nn
    · rw [if_pos h2, if_pos (by omega)]
      simp [h2]
    · rw [if_neg h2, if_neg (by omega), List.getElem?_drop]
      have : dp + nn + (k - dp - nn) = k := by omega
      rw [this]
      simp [hk]
/-- System.arraycopy over functions -/
theorem cpF (X : Stand p l e R s m args below meth c T locs cells slots) (hx : p.tables.exec = Jvm.exec) (hZ : Z.Warmed39 s.vm) {own : String} {index : Nat} (hown : s.vm.findClass own = some m.cls)
    (w1 : (Cond.methodLink own index Jvm.Stand.acN).before a0 Z = true) (w2 : (Cond.native Jvm.Stand.acN).before a0 Z = true) (w3 : (Cond.static Jvm.Stand.acN).before a0 Z = true) (w4 : (Cond.initialized "java/lang/System").before a0 Z = true) (eT : T.heap = h)
    {a b : Addr} {ty : FieldType} {z z' sp dp nn : Int32} {f f' : Nat → Value} (A : Afn Z h a ty z f) (B : Afn Z h b ty z' f') (hty : refKind ty = false)
    (h1 : ¬ sp < 0) (h2 : ¬ dp < 0) (h3 : ¬ nn < 0) (h4 : sp.toNatClampNeg + nn.toNatClampNeg ≤ z.toNatClampNeg) (h5 : dp.toNatClampNeg + nn.toNatClampNeg ≤ z'.toNatClampNeg) {n0 : Nat} (N : Fr n0 locs) (ge : n0 ≤ b)
    {g : JFrame} (hg : g.method = m) (hsize : g.locals.size = c.maxLocals) {rest : List Value} (hs : g.stack = .int nn :: .int dp :: .ref b :: .int sp :: .ref a :: rest) (hd : decode c.code g.pc = .ok (.invokestatic index, 3))
    (hf : 1 ≤ R.frames) {W : Nat} (hW : 2 * g.monitorRoom + (rest.map fun v => v.category).sum ≤ W) (hlo : W + (nativeFrameWords "java/lang/System" "arraycopy" 5 + 11) ≤ R.locals) :
    ∃ T' h' L, Stand p l e R s m args below meth c T' L cells slots ∧ T'.heap = h' ∧ Fr n0 L ∧ Keep h h' [b] ∧ Afn Z h' b ty z' (fun k => if dp.toNatClampNeg ≤ k ∧ k < dp.toNatClampNeg + nn.toNatClampNeg then f (sp.toNatClampNeg + (k - dp.toNatClampNeg)) else f' k) ∧
      ∀ target, Steps p.tables e below (T'.setTop { g with pc := g.pc + 3, stack := rest }) target → Steps p.tables e below (T.setTop g) target := by
  obtain ⟨ka, Aa⟩ := A.arv
  obtain ⟨kb, Ab⟩ := B.arv
  obtain ⟨T', h', L, X', e', N', K', V', st⟩ := cpA X hx hZ hown w1 w2 w3 w4 eT Aa Ab (Or.inl ⟨rfl, hty⟩) h1 h2 h3 h4 h5 rfl (by simpa using h5) N ge hg hsize hs hd hf hW hlo
  exact ⟨T', h', L, X', e', N', K', (Afn.of_arv V').congr (fun k hk => cp_get f f' _ _ _ _ _ k _ h4 h5 hk), st⟩
end
end Jvm.OwnKit
namespace Jvm.OwnKit
open Sem ClassFile Op Lib Jvm.Stand Jvm.Free Jvm.LawKit Jvm.RoadKit
section
variable {p : Program} {l : Launch} {e : Env} {R : Room} {s : State} {m : MethodId} {args : Array Value} {below : List Frame} {meth : Method} {c : Code} {T : State} {locs : List Loc} {cells slots : Nat} {Z : State} {a0 : Array Value} {h : Heap}
/-- clone of an array over a function -/
theorem cloneF (X : Stand p l e R s m args below meth c T locs cells slots) (hx : p.tables.exec = Jvm.exec) (hZ : Z.Warmed39 s.vm) {own ad : String} {index : Nat} (hown : s.vm.findClass own = some m.cls)
    (w1 : (Cond.methodLink own index ⟨ad, "clone", "()Ljava/lang/Object;"⟩).before a0 Z = true) (w2 : (Cond.sameMethod ad "java/lang/Object" "clone" "()Ljava/lang/Object;").before a0 Z = true) (w3 : (Cond.native ⟨"java/lang/Object", "clone", "()Ljava/lang/Object;"⟩).before a0 Z = true)
    (w4 : (Cond.instanceMethod ⟨"java/lang/Object", "clone", "()Ljava/lang/Object;"⟩).before a0 Z = true) (w5 : (Cond.selects ad ⟨ad, "clone", "()Ljava/lang/Object;"⟩ ⟨"java/lang/Object", "clone", "()Ljava/lang/Object;"⟩).before a0 Z = true) (w6 : (Cond.castable ad "java/lang/Cloneable").before a0 Z = true)
    (eT : T.heap = h) {a : Addr} {ty : FieldType} {n : Int32} {f : Nat → Value} (F : Afn Z h a ty n f) (E : Exa Z h a ad) {g : JFrame} (hg : g.method = m) (hsize : g.locals.size = c.maxLocals) {rest : List Value} (hs : g.stack = .ref a :: rest) (hd : decode c.code g.pc = .ok (.invokevirtual index, 3))
    (hf : 1 ≤ R.frames) {W cap : Nat} (hW : 2 * g.monitorRoom + (rest.map fun v => v.category).sum ≤ W) (hl : W + 14 ≤ R.locals) (hcap : n.toNatClampNeg ≤ cap) (hc : cells + 1 ≤ R.cells) (hsl : slots + cap ≤ R.slots) :
    ∃ T' h', Stand p l e R s m args below meth c T' locs (cells + 1) (slots + cap) ∧ T'.heap = h' ∧ Ext h h' ∧ Afn Z h' h.size ty n f ∧ Exa Z h' h.size ad ∧
      ∀ target, Steps p.tables e below (T'.setTop { g with pc := g.pc + 3, stack := .ref h.size :: rest }) target → Steps p.tables e below (T.setTop g) target := by
  obtain ⟨cl, A, S, mm, r⟩ := F
  have FC : FitC Z cl := fitC_of A fun i hi v hv => by
    have q := r i (by rw [← S]; exact hi)
    rw [q.1] at hv; cases hv; exact q.2
  obtain ⟨T', h', X', e', ex, A', E', st⟩ := cloneA X hx hZ hown w1 w2 w3 w4 w5 w6 eT A E FC hg hsize hs hd hf hW hl (by rw [S]; exact hcap) hc hsl
  exact ⟨T', h', X', e', ex, ⟨cloneOf cl, A', S, mm, r⟩, E', st⟩
end
end Jvm.OwnKit
namespace Jvm.Pilot.@@N@@
open Jvm Jvm.ClassFile Sem Op Lib Jvm.Free Jvm.Stand Jvm.LawKit Jvm.RoadKit Jvm.OwnKit Bundle Jvm.Pilot.@@N@@.Jvm.D
abbrev Dg (d : Int32) : Prop := d = 0 ∨ d = 1 ∨ d = 2 ∨ d = 3 ∨ d = 4 ∨ d = 5 ∨ d = 6 ∨ d = 7 ∨ d = 8 ∨ d = 9
abbrev DgL (d : Int64) : Prop := d = 0 ∨ d = 1 ∨ d = 2 ∨ d = 3 ∨ d = 4 ∨ d = 5 ∨ d = 6 ∨ d = 7 ∨ d = 8 ∨ d = 9
def dgV (q : Int64) : Int32 := (48 : Int32) + q.toInt32
def dgB (q : Int64) : Int32 := (dgV q).toInt8.toInt32
def digF (x i : Int32) : Int32 := (((x.toUInt32 >>> (((4 : Int32) * i) &&& 31).toUInt32).toInt32) &&& (15 : Int32)) % (10 : Int32)
theorem own_dg10 (x i d : Int32) (h : digF x i = d) : Dg d := by
  unfold digF at h
  generalize ((x.toUInt32 >>> (((4 : Int32) * i) &&& 31).toUInt32).toInt32) = y at h
  have q := c_mask y 15 4 (by decide) (by decide)
  have r := (c_irem (y &&& (15 : Int32)) 10 10 (by decide)).1 (by omega)
  rw [h] at r
  unfold Dg
  simp only [← Int32.toInt_inj]
  have e0 : (0 : Int32).toInt = 0 := rfl
  have e1 : (1 : Int32).toInt = 1 := rfl
  have e2 : (2 : Int32).toInt = 2 := rfl
  have e3 : (3 : Int32).toInt = 3 := rfl
  have e4 : (4 : Int32).toInt = 4 := rfl
  have e5 : (5 : Int32).toInt = 5 := rfl
  have e6 : (6 : Int32).toInt = 6 := rfl
  have e7 : (7 : Int32).toInt = 7 := rfl
  have e8 : (8 : Int32).toInt = 8 := rfl
  have e9 : (9 : Int32).toInt = 9 := rfl
  omega
theorem own_dl {d : Int32} (h : Dg d) : DgL (d.toInt64) := by rcases h with rfl | rfl | rfl | rfl | rfl | rfl | rfl | rfl | rfl | rfl <;> unfold DgL <;> decide
theorem own_db {d : Int32} (h : Dg d) : (((48 : Int32) + d).toInt8.toInt32).toInt8.toInt32 = dgB (d.toInt64) := by rcases h with rfl | rfl | rfl | rfl | rfl | rfl | rfl | rfl | rfl | rfl <;> decide
theorem own_q0 {q : Int64} (h : DgL q) : ¬ q < (0 : Int64) := by rcases h with rfl | rfl | rfl | rfl | rfl | rfl | rfl | rfl | rfl | rfl <;> decide
theorem own_q1 {q : Int64} (h : DgL q) : (-10 : Int64) < (-q) := by rcases h with rfl | rfl | rfl | rfl | rfl | rfl | rfl | rfl | rfl | rfl <;> decide
theorem own_q2 {q : Int64} (h : DgL q) : (-2147483648 : Int64) < (-q) := by rcases h with rfl | rfl | rfl | rfl | rfl | rfl | rfl | rfl | rfl | rfl <;> decide
theorem own_q3 {q : Int64} (h : DgL q) : (-100 : Int32) < ((-q).toInt32) := by rcases h with rfl | rfl | rfl | rfl | rfl | rfl | rfl | rfl | rfl | rfl <;> decide
theorem own_q4 {q : Int64} (h : DgL q) : ¬ ((-q).toInt32) < (-9 : Int32) := by rcases h with rfl | rfl | rfl | rfl | rfl | rfl | rfl | rfl | rfl | rfl <;> decide
theorem own_q5 {q : Int64} (h : DgL q) : ¬ (-((-q).toInt32)) < (0 : Int32) ∧ (-((-q).toInt32)) < (100 : Int32) := by rcases h with rfl | rfl | rfl | rfl | rfl | rfl | rfl | rfl | rfl | rfl <;> decide
theorem own_q6 {q : Int64} (h : DgL q) : (48 : Int32) + Int32.ofNat ((-((-q).toInt32)).toNatClampNeg) % 10 = dgV q := by rcases h with rfl | rfl | rfl | rfl | rfl | rfl | rfl | rfl | rfl | rfl <;> decide
theorem own_dgn {q : Int64} (h : DgL q) : ¬ (dgB q) < (0 : Int32) := by rcases h with rfl | rfl | rfl | rfl | rfl | rfl | rfl | rfl | rfl | rfl <;> decide
theorem own_b8 (x : Int32) : (x.toInt8.toInt32).toInt8.toInt32 = x.toInt8.toInt32 := by rw [Int8.toInt8_toInt32]
theorem own_g1 (x : Int32) (k : Nat) (hk : k < (1 : Int32).toNatClampNeg) : (if k = (0 : Int32).toNatClampNeg then Value.int (x.toInt8.toInt32) else Value.int (0 : Int32)) = Value.int (x.toInt8.toInt32) := by
  have e : (1 : Int32).toNatClampNeg = 1 := rfl
  have e0 : (0 : Int32).toNatClampNeg = 0 := rfl
  rw [e] at hk
  rw [if_pos (by omega)]
abbrev Cap (cap ln : Int32) : Prop := ¬ ln < (0 : Int32) ∧ ¬ cap < ln ∧ cap.toInt ≤ 14
def upd (f : Nat → Int32) (i b : Int32) (k : Nat) : Int32 := if k = i.toNatClampNeg then b else f k
def sepL (ln av : Int32) : Int32 := if av = (0 : Int32) then ln else ln + (1 : Int32)
def sepG (tg : Nat → Int32) (ln av : Int32) : Nat → Int32 := if av = (0 : Int32) then tg else upd tg ln ((44 : Int32).toInt8.toInt32)
def stW (x y : Int32) (k : Nat) : Int32 := if k = 0 then x else y
theorem own_sl0 {ln av : Int32} (h : av = (0 : Int32)) : sepL ln av = ln := if_pos h
theorem own_sl1 {ln av : Int32} (h : ¬ av = (0 : Int32)) : sepL ln av = ln + (1 : Int32) := if_neg h
theorem own_sg0 {tg : Nat → Int32} {ln av : Int32} (h : av = (0 : Int32)) : sepG tg ln av = tg := if_pos h
theorem own_sg1 {tg : Nat → Int32} {ln av : Int32} (h : ¬ av = (0 : Int32)) : sepG tg ln av = upd tg ln ((44 : Int32).toInt8.toInt32) := if_neg h
theorem own_s0 (x y : Int32) : stW x y (0 : Int32).toNatClampNeg = x := rfl
theorem own_s1 (x y : Int32) : stW x y (1 : Int32).toNatClampNeg = y := rfl
theorem own_st (a b x y : Int32) (k : Nat) (hk : k < (2 : Int32).toNatClampNeg) : (if k = (0 : Int32).toNatClampNeg then Value.int x else (if k = (1 : Int32).toNatClampNeg then Value.int y else Value.int (stW a b k))) = Value.int (stW x y k) := by
  have e : (2 : Int32).toNatClampNeg = 2 := rfl
  have e0 : (0 : Int32).toNatClampNeg = 0 := rfl
  have e1 : (1 : Int32).toNatClampNeg = 1 := rfl
  rw [e] at hk
  rw [e0, e1]
  have : k = 0 ∨ k = 1 := by omega
  rcases this with rfl | rfl <;> simp [stW]
theorem own_st0 (k : Nat) : Value.int (0 : Int32) = Value.int (stW (0 : Int32) (0 : Int32) k) := by unfold stW; split <;> rfl
theorem own_p1 {ln : Int32} (h0 : ¬ ln < (0 : Int32)) (h7 : ln.toInt ≤ 7) : (ln + (1 : Int32)).toInt = ln.toInt + 1 ∧ ¬ (ln + (1 : Int32)) < (0 : Int32) ∧ (ln + (1 : Int32)).toNatClampNeg = ln.toNatClampNeg + 1 := by
  have q := c_iadd ln 1
  have r := rng32 (ln + 1)
  have e1 : (1 : Int32).toInt = 1 := rfl
  have e0 : (0 : Int32).toInt = 0 := rfl
  simp only [Int32.lt_iff_toInt_lt, Int32.toNatClampNeg] at *
  omega
theorem own_ups (f : Nat → Int32) (i b : Int32) (k : Nat) : (if k = i.toNatClampNeg then Value.int b else Value.int (f k)) = Value.int (upd f i b k) := by unfold upd; split <;> rfl
theorem own_cp1 (f : Nat → Int32) (i b : Int32) (k : Nat) : (if i.toNatClampNeg ≤ k ∧ k < i.toNatClampNeg + (1 : Int32).toNatClampNeg then Value.int b else Value.int (f k)) = Value.int (upd f i b k) := by
  have e1 : (1 : Int32).toNatClampNeg = 1 := rfl
  rw [e1]
  unfold upd
  by_cases z : k = i.toNatClampNeg
  · rw [if_pos z, if_pos (by omega)]
  · rw [if_neg z, if_neg (by omega)]
theorem own_updc {f g : Nat → Int32} {ln b : Int32} (h0 : ¬ ln < (0 : Int32)) (h7 : ln.toInt ≤ 7) (h : ∀ k, k < ln.toNatClampNeg → f k = g k) : ∀ k, k < (ln + (1 : Int32)).toNatClampNeg → upd f ln b k = upd g ln b k := by
  intro k hk
  rw [(own_p1 h0 h7).2.2] at hk
  unfold upd
  by_cases z : k = ln.toNatClampNeg
  · rw [if_pos z, if_pos z]
  · rw [if_neg z, if_neg z]; exact h k (by omega)
theorem own_sep7 {ln av : Int32} (h0 : ¬ ln < (0 : Int32)) (h6 : ln.toInt ≤ 6) : (sepL ln av).toInt ≤ 7 := by
  unfold sepL
  split
  · omega
  · have := own_p1 h0 (by omega); omega
theorem own_capN {cap ln : Int32} (h : Cap cap ln) : ln.toNatClampNeg ≤ cap.toNatClampNeg := by
  obtain ⟨h1, h2, h3⟩ := h
  rw [Int32.lt_iff_toInt_lt] at h2
  simp only [Int32.toNatClampNeg]; omega
theorem own_c14 {cap ln : Int32} (h : Cap cap ln) : cap.toNatClampNeg ≤ 14 := by
  obtain ⟨h1, h2, h3⟩ := h
  simp only [Int32.toNatClampNeg]; omega
theorem own_l14 {cap ln : Int32} (h : Cap cap ln) : ln.toNatClampNeg ≤ 14 := Nat.le_trans (own_capN h) (own_c14 h)
theorem own_capS {cap cp0 ln : Int32} (h7 : ln.toInt ≤ 7) (h : Cap cap ln) (hl : ln < cap) : Cap cap (ln + (1 : Int32)) := by
  have q := own_p1 h.1 h7
  refine ⟨q.2.1, ?_, h.2.2⟩
  rw [Int32.lt_iff_toInt_lt] at hl ⊢
  omega
theorem own_inb {cap ln : Int32} (h7 : ln.toInt ≤ 7) (h : Cap cap ln) (hl : ln < cap) : ln.toNatClampNeg + (1 : Int32).toNatClampNeg ≤ cap.toNatClampNeg := by
  have := own_capN (own_capS (cp0 := cap) h7 h hl)
  rw [(own_p1 h.1 h7).2.2] at this
  exact this
theorem own_room1 {cap ln nc : Int32} (h : Cap cap ln) (hl : ln.toInt ≤ 7) (hc : (cap - ln) < (1 : Int32)) (hn : (if ((2 : Int32) * cap) < (ln + (1 : Int32)) then (ln + (1 : Int32)) else ((2 : Int32) * cap)) = nc) : ln < nc ∧ ¬ nc < (0 : Int32) ∧ nc.toNatClampNeg ≤ 14 ∧ Cap nc ln := by
  obtain ⟨h1, h2, h3⟩ := h
  have p := own_p1 h1 hl
  have q := c_isub cap ln
  have r := rng32 (cap - ln)
  have q2 := c_imul 2 cap
  have r2 := rng32 (2 * cap)
  have e1 : (1 : Int32).toInt = 1 := rfl
  have e0 : (0 : Int32).toInt = 0 := rfl
  have e2 : (2 : Int32).toInt = 2 := rfl
  rw [e2] at q2
  simp only [Int32.lt_iff_toInt_lt] at h1 h2 hc hn p
  have hk : nc.toInt = ln.toInt + 1 ∨ nc.toInt = 2 * cap.toInt ∧ ¬ 2 * cap.toInt < ln.toInt + 1 := by
    subst hn
    split
    · left; omega
    · right; omega
  have g : ln.toInt < nc.toInt ∧ nc.toInt ≤ 14 := by omega
  unfold Cap
  simp only [Int32.lt_iff_toInt_lt, Int32.toNatClampNeg]
  omega
theorem own_room0 {cap ln : Int32} (h : Cap cap ln) (hc : ¬ (cap - ln) < (1 : Int32)) : ln < cap := by
  obtain ⟨h1, h2, h3⟩ := h
  have q := c_isub cap ln
  have r := rng32 (cap - ln)
  have e1 : (1 : Int32).toInt = 1 := rfl
  have e0 : (0 : Int32).toInt = 0 := rfl
  simp only [Int32.lt_iff_toInt_lt] at *
  omega
theorem own_mn {p2 n1 mn : Int32} (hm : (if p2 < n1 then p2 else n1) = mn) (hp : ¬ p2 < (0 : Int32)) (hn : ¬ n1 < (0 : Int32)) : ¬ mn < (0 : Int32) ∧ mn.toNatClampNeg ≤ n1.toNatClampNeg ∧ mn.toNatClampNeg ≤ p2.toNatClampNeg := by
  subst hm
  simp only [Int32.toNatClampNeg]
  split <;> rename_i z <;> rw [Int32.lt_iff_toInt_lt] at z <;> refine ⟨by assumption, ?_, ?_⟩ <;> omega
theorem own_cpo (f : Nat → Int32) (n1 p2 mn : Int32) (hm : (if p2 < n1 then p2 else n1) = mn) (k : Nat) (hk : k < p2.toNatClampNeg) : (if (0 : Int32).toNatClampNeg ≤ k ∧ k < (0 : Int32).toNatClampNeg + mn.toNatClampNeg then Value.int (f ((0 : Int32).toNatClampNeg + (k - (0 : Int32).toNatClampNeg))) else Value.int (0 : Int32)) = Value.int (if k < n1.toNatClampNeg then f k else 0) := by
  have e : (0 : Int32).toNatClampNeg = 0 := rfl
  rw [e, Nat.sub_zero, Nat.zero_add, Nat.zero_add]
  have q : (k < mn.toNatClampNeg) ↔ (k < n1.toNatClampNeg) := by
    subst hm
    simp only [Int32.toNatClampNeg] at *
    split <;> rename_i z <;> rw [Int32.lt_iff_toInt_lt] at z <;> omega
  by_cases z : k < n1.toNatClampNeg
  · rw [if_pos ⟨Nat.zero_le k, q.mpr z⟩, if_pos z]
  · rw [if_neg (fun w => z (q.mp w.2)), if_neg z]
theorem own_i8a {ln : Int32} (h0 : ¬ ln < (0 : Int32)) (h6 : ln.toInt ≤ 6) : (¬ ln < (0 : Int32) ∧ ln < (8 : Int32)) ∧ (¬ (ln + (1 : Int32)) < (0 : Int32) ∧ (ln + (1 : Int32)) < (8 : Int32)) := by
  have q := own_p1 h0 (by omega)
  have e8 : (8 : Int32).toInt = 8 := rfl
  refine ⟨⟨h0, ?_⟩, q.2.1, ?_⟩ <;> rw [Int32.lt_iff_toInt_lt] <;> omega
theorem own_c0 {f tg E : Nat → Int32} {ln av b : Int32} (h0 : ¬ ln < (0 : Int32)) (h6 : ln.toInt ≤ 6) (hb : ∀ k, k < ln.toNatClampNeg → tg k = E k) (h : av = (0 : Int32)) (bq : ∀ k, k < (ln + (1 : Int32)).toNatClampNeg → f k = upd (sepG tg ln av) ln b k) : ∀ k, k < (ln + (1 : Int32)).toNatClampNeg → f k = upd E ln b k := by
  rw [own_sg0 h] at bq
  exact fun k hk => (bq k hk).trans (own_updc h0 (by omega) hb k hk)
theorem own_c1 {f tg E : Nat → Int32} {ln av b : Int32} (h0 : ¬ ln < (0 : Int32)) (h6 : ln.toInt ≤ 6) (hb : ∀ k, k < ln.toNatClampNeg → tg k = E k) (h : ¬ av = (0 : Int32)) (bq : ∀ k, k < ((ln + (1 : Int32)) + (1 : Int32)).toNatClampNeg → f k = upd (sepG tg ln av) (ln + (1 : Int32)) b k) : ∀ k, k < ((ln + (1 : Int32)) + (1 : Int32)).toNatClampNeg → f k = upd (upd E ln ((44 : Int32).toInt8.toInt32)) (ln + (1 : Int32)) b k := by
  rw [own_sg1 h] at bq
  have q := own_p1 h0 (by omega)
  exact fun k hk => (bq k hk).trans (own_updc q.2.1 (by omega) (own_updc h0 (by omega) hb) k hk)
theorem own_c2 {f tg E : Nat → Int32} {ln b : Int32} (h0 : ¬ ln < (0 : Int32)) (h6 : ln.toInt ≤ 6) (hb : ∀ k, k < ln.toNatClampNeg → tg k = E k) (bq : ∀ k, k < (ln + (1 : Int32)).toNatClampNeg → f k = upd tg ln b k) : ∀ k, k < (ln + (1 : Int32)).toNatClampNeg → f k = upd E ln b k :=
  fun k hk => (bq k hk).trans (own_updc h0 (by omega) hb k hk)
theorem own_e1 {E : Nat → Int32} {ln b : Int32} : ∀ k, k < ln.toNatClampNeg → upd E ln b k = E k := fun k hk => if_neg (Nat.ne_of_lt hk)
theorem own_e2 {E : Nat → Int32} {ln b c : Int32} (h0 : ¬ ln < (0 : Int32)) (h6 : ln.toInt ≤ 6) : ∀ k, k < ln.toNatClampNeg → upd (upd E ln c) (ln + (1 : Int32)) b k = E k := fun k hk => by
  have q := own_p1 h0 (by omega)
  unfold upd
  rw [if_neg (by omega), if_neg (by omega)]
theorem own_n1 {ln : Int32} (h0 : ¬ ln < (0 : Int32)) (h6 : ln.toInt ≤ 6) : (ln + (1 : Int32)).toInt ≤ ln.toInt + 2 := by have q := own_p1 h0 (by omega); omega
theorem own_n2 {ln : Int32} (h0 : ¬ ln < (0 : Int32)) (h6 : ln.toInt ≤ 6) : ((ln + (1 : Int32)) + (1 : Int32)).toInt ≤ ln.toInt + 2 := by
  have q := own_p1 h0 (by omega)
  have r := own_p1 q.2.1 (by omega)
  omega
theorem own_m7 (x c : Int32) (h : (x &&& (7 : Int32)) = c) : ¬ c < (0 : Int32) ∧ c.toNatClampNeg ≤ 7 ∧ Cap c (0 : Int32) := by
  have q := c_mask x 7 3 (by decide) (by decide)
  rw [h] at q
  have e0 : (0 : Int32).toInt = 0 := rfl
  unfold Cap
  simp only [Int32.lt_iff_toInt_lt, Int32.toNatClampNeg]
  omega
abbrev JWr (Z : State) (h : Heap) (a tx : Addr) (cap : Int32) (tg : Nat → Int32) (ln av : Int32) : Prop := Fld Z h a "com/example/facet_hierarchy_store/facethierarchystore/http/JsonWriter" "text" "[B" (.ref tx) ∧ Fld Z h a "com/example/facet_hierarchy_store/facethierarchystore/http/JsonWriter" "length" "I" (.int ln) ∧ Fld Z h a "com/example/facet_hierarchy_store/facethierarchystore/http/JsonWriter" "afterValue" "Z" (.int av) ∧ Afn Z h tx .byte cap (fun k => .int (tg k)) ∧ Exa Z h tx "[B"
theorem d8_0 : decode jdk_35_method_15_code 0 = .ok (.iconst 1, 1) := by decide +kernel
theorem d8_1 : decode jdk_35_method_15_code 1 = .ok (.istore_n 2, 1) := by decide +kernel
theorem d8_2 : decode jdk_35_method_15_code 2 = .ok (.lload_n 0, 1) := by decide +kernel
theorem d8_3 : decode jdk_35_method_15_code 3 = .ok (.lconst 0, 1) := by decide +kernel
theorem d8_4 : decode jdk_35_method_15_code 4 = .ok (.lcmp, 1) := by decide +kernel
theorem d8_5 : decode jdk_35_method_15_code 5 = .ok (.ifCond .lt 8, 3) := by decide +kernel
theorem d8_8 : decode jdk_35_method_15_code 8 = .ok (.iconst 0, 1) := by decide +kernel
theorem d8_9 : decode jdk_35_method_15_code 9 = .ok (.istore_n 2, 1) := by decide +kernel
theorem d8_10 : decode jdk_35_method_15_code 10 = .ok (.lload_n 0, 1) := by decide +kernel
theorem d8_11 : decode jdk_35_method_15_code 11 = .ok (.lneg, 1) := by decide +kernel
theorem d8_12 : decode jdk_35_method_15_code 12 = .ok (.lstore_n 0, 1) := by decide +kernel
theorem d8_13 : decode jdk_35_method_15_code 13 = .ok (.ldc2_w 140, 3) := by decide +kernel
theorem d8_16 : decode jdk_35_method_15_code 16 = .ok (.lstore_n 3, 1) := by decide +kernel
theorem d8_17 : decode jdk_35_method_15_code 17 = .ok (.iconst 1, 1) := by decide +kernel
theorem d8_18 : decode jdk_35_method_15_code 18 = .ok (.istore 5, 2) := by decide +kernel
theorem d8_20 : decode jdk_35_method_15_code 20 = .ok (.iload 5, 2) := by decide +kernel
theorem d8_22 : decode jdk_35_method_15_code 22 = .ok (.bipush 19, 2) := by decide +kernel
theorem d8_24 : decode jdk_35_method_15_code 24 = .ok (.if_icmp .ge 26, 3) := by decide +kernel
theorem d8_27 : decode jdk_35_method_15_code 27 = .ok (.lload_n 0, 1) := by decide +kernel
theorem d8_28 : decode jdk_35_method_15_code 28 = .ok (.lload_n 3, 1) := by decide +kernel
theorem d8_29 : decode jdk_35_method_15_code 29 = .ok (.lcmp, 1) := by decide +kernel
theorem d8_30 : decode jdk_35_method_15_code 30 = .ok (.ifCond .le 8, 3) := by decide +kernel
theorem d8_33 : decode jdk_35_method_15_code 33 = .ok (.iload 5, 2) := by decide +kernel
theorem d8_35 : decode jdk_35_method_15_code 35 = .ok (.iload_n 2, 1) := by decide +kernel
theorem d8_36 : decode jdk_35_method_15_code 36 = .ok (.iadd, 1) := by decide +kernel
theorem d8_37 : decode jdk_35_method_15_code 37 = .ok (.ireturn, 1) := by decide +kernel
theorem d8_38 : decode jdk_35_method_15_code 38 = .ok (.ldc2_w 53, 3) := by decide +kernel
theorem d8_41 : decode jdk_35_method_15_code 41 = .ok (.lload_n 3, 1) := by decide +kernel
theorem d8_42 : decode jdk_35_method_15_code 42 = .ok (.lmul, 1) := by decide +kernel
theorem d8_43 : decode jdk_35_method_15_code 43 = .ok (.lstore_n 3, 1) := by decide +kernel
theorem d8_44 : decode jdk_35_method_15_code 44 = .ok (.iinc 5 1, 3) := by decide +kernel
theorem d8_47 : decode jdk_35_method_15_code 47 = .ok (.goto (-27), 3) := by decide +kernel
theorem d8_50 : decode jdk_35_method_15_code 50 = .ok (.bipush 19, 2) := by decide +kernel
theorem d8_52 : decode jdk_35_method_15_code 52 = .ok (.iload_n 2, 1) := by decide +kernel
theorem d8_53 : decode jdk_35_method_15_code 53 = .ok (.iadd, 1) := by decide +kernel
theorem d8_54 : decode jdk_35_method_15_code 54 = .ok (.ireturn, 1) := by decide +kernel
theorem pn_rm8 : plainName "java/lang/Long" = true := by first | (simp [plainName, overriddenIn]; done) | decide +kernel
theorem ef_rm8 (m : MethodId) (q1 : Int64) : entryFrame m #[(.long q1)] 6 = mkF m 0 #[.val (.long q1), .second, .unset, .unset, .unset, .unset] [] := by first | (simp [entryFrame, mkF, argsToLocals, Value.category]; done) | rfl
def Q8 (Z : State) (q1 : Int64) (h0 : Heap) (n0 : Nat) (v : Option Value) (h : Heap) (L : List Loc) : Prop := v = some (.int (1 : Int32)) ∧ L = [] ∧ h = h0
set_option maxRecDepth 65536 in
set_option maxHeartbeats 40000000 in
theorem rm8 (l : Launch) (Z : State) (a0 : Array Value) (hw : ∀ d ∈ tables_1, d.before a0 Z = true) (ws : List Jvm.Cond) (q1 : Int64) (h0 : Heap) (n0 : Nat) (Z0 : n0 ≤ h0.size) (hq : DgL q1) :
    Con l Z (⟨"java/lang/Long", "stringSize", "(J)I"⟩ : MethodName) jdk_35_method_15_code 6 (some .int) ws ({ frames := 0, cells := 0, slots := 0, locals := 0 } : Room) #[(.long q1)] h0 (Q8 Z q1 h0 n0) := by
  refine Con.of (plainFor_of_name pn_rm8) ?_
  intro p e s m below meth c s₁ hZ e0 X0 hx hby hml hown hnm hret hlk
  replace hml : c.maxLocals = 6 := hml
  have hown : s.vm.findClass "java/lang/Long" = some m.cls := hown
  have N0 : Fr n0 [] := Fr.nil n0
  obtain ⟨PP, hPP⟩ : ∃ P, P = Fine s below (Q8 Z q1 h0 n0) ({ frames := 0, cells := 0, slots := 0, locals := 0 } : Room).cells ({ frames := 0, cells := 0, slots := 0, locals := 0 } : Room).slots := ⟨_, rfl⟩
  rw [← hPP]
  refine Go.cast (ef_rm8 m q1) ?_
  have Zn : n0 ≤ h0.size := Z0
  show Go p.tables e below PP (s₁.setTop (mkF m 0 #[.val (.long q1), .second, .unset, .unset, .unset, .unset] []))
  refine Go.st (fun t k => XS.iconst X0.here hx rfl (hb hby d8_0) k) ?_
  show Go p.tables e below PP (s₁.setTop (mkF m 1 #[.val (.long q1), .second, .unset, .unset, .unset, .unset] [(.int (1 : Int32))]))
  refine Go.st (fun t k => XS.istoreN X0.here hx rfl (hb hby d8_1) rfl (l' := #[.val (.long q1), .second, .val (.int (1 : Int32)), .unset, .unset, .unset]) rfl k) ?_
  show Go p.tables e below PP (s₁.setTop (mkF m 2 #[.val (.long q1), .second, .val (.int (1 : Int32)), .unset, .unset, .unset] []))
  refine Go.st (fun t k => XS.lloadN X0.here hx rfl (hb hby d8_2) rfl k) ?_
  show Go p.tables e below PP (s₁.setTop (mkF m 3 #[.val (.long q1), .second, .val (.int (1 : Int32)), .unset, .unset, .unset] [(.long q1)]))
  refine Go.st (fun t k => XS.lconst X0.here hx rfl (hb hby d8_3) k) ?_
  show Go p.tables e below PP (s₁.setTop (mkF m 4 #[.val (.long q1), .second, .val (.int (1 : Int32)), .unset, .unset, .unset] [(.long (0 : Int64)), (.long q1)]))
  refine Go.st (fun t k => XS.lcmp X0.here hx rfl (hb hby d8_4) rfl k) ?_
  show Go p.tables e below PP (s₁.setTop (mkF m 5 #[.val (.long q1), .second, .val (.int (1 : Int32)), .unset, .unset, .unset] [(.int (XT.cmpL q1 (0 : Int64)))]))
  refine Go.st (fun t k => XS.ifNo X0.here hx rfl (hb hby d8_5) rfl (XT.ll_lt_f (own_q0 hq)) k) ?_
  show Go p.tables e below PP (s₁.setTop (mkF m 8 #[.val (.long q1), .second, .val (.int (1 : Int32)), .unset, .unset, .unset] []))
  refine Go.st (fun t k => XS.iconst X0.here hx rfl (hb hby d8_8) k) ?_
  show Go p.tables e below PP (s₁.setTop (mkF m 9 #[.val (.long q1), .second, .val (.int (1 : Int32)), .unset, .unset, .unset] [(.int (0 : Int32))]))
  refine Go.st (fun t k => XS.istoreN X0.here hx rfl (hb hby d8_9) rfl (l' := #[.val (.long q1), .second, .val (.int (0 : Int32)), .unset, .unset, .unset]) rfl k) ?_
  show Go p.tables e below PP (s₁.setTop (mkF m 10 #[.val (.long q1), .second, .val (.int (0 : Int32)), .unset, .unset, .unset] []))
  refine Go.st (fun t k => XS.lloadN X0.here hx rfl (hb hby d8_10) rfl k) ?_
  show Go p.tables e below PP (s₁.setTop (mkF m 11 #[.val (.long q1), .second, .val (.int (0 : Int32)), .unset, .unset, .unset] [(.long q1)]))
  refine Go.st (fun t k => XS.lneg X0.here hx rfl (hb hby d8_11) rfl k) ?_
  show Go p.tables e below PP (s₁.setTop (mkF m 12 #[.val (.long q1), .second, .val (.int (0 : Int32)), .unset, .unset, .unset] [(.long (-q1))]))
  refine Go.st (fun t k => XS.lstoreN X0.here hx rfl (hb hby d8_12) rfl (l' := #[.val (.long (-q1)), .second, .val (.int (0 : Int32)), .unset, .unset, .unset]) rfl k) ?_
  show Go p.tables e below PP (s₁.setTop (mkF m 13 #[.val (.long (-q1)), .second, .val (.int (0 : Int32)), .unset, .unset, .unset] []))
  refine Go.st (fun t k => X0.ldc2J hx hown (mvT hZ (hw _ (List.mem_of_getElem? (i := 38) rfl))) (g := (mkF m 13 #[.val (.long (-q1)), .second, .val (.int (0 : Int32)), .unset, .unset, .unset] [])) rfl (hb hby d8_13) k) ?_
  show Go p.tables e below PP (s₁.setTop (mkF m 16 #[.val (.long (-q1)), .second, .val (.int (0 : Int32)), .unset, .unset, .unset] [(.long (-10 : Int64))]))
  refine Go.st (fun t k => XS.lstoreN X0.here hx rfl (hb hby d8_16) rfl (l' := #[.val (.long (-q1)), .second, .val (.int (0 : Int32)), .val (.long (-10 : Int64)), .second, .unset]) rfl k) ?_
  show Go p.tables e below PP (s₁.setTop (mkF m 17 #[.val (.long (-q1)), .second, .val (.int (0 : Int32)), .val (.long (-10 : Int64)), .second, .unset] []))
  refine Go.st (fun t k => XS.iconst X0.here hx rfl (hb hby d8_17) k) ?_
  show Go p.tables e below PP (s₁.setTop (mkF m 18 #[.val (.long (-q1)), .second, .val (.int (0 : Int32)), .val (.long (-10 : Int64)), .second, .unset] [(.int (1 : Int32))]))
  refine Go.st (fun t k => XS.istore X0.here hx rfl (hb hby d8_18) rfl (l' := #[.val (.long (-q1)), .second, .val (.int (0 : Int32)), .val (.long (-10 : Int64)), .second, .val (.int (1 : Int32))]) rfl k) ?_
  show Go p.tables e below PP (s₁.setTop (mkF m 20 #[.val (.long (-q1)), .second, .val (.int (0 : Int32)), .val (.long (-10 : Int64)), .second, .val (.int (1 : Int32))] []))
  refine Go.st (fun t k => XS.iload X0.here hx rfl (hb hby d8_20) rfl k) ?_
  show Go p.tables e below PP (s₁.setTop (mkF m 22 #[.val (.long (-q1)), .second, .val (.int (0 : Int32)), .val (.long (-10 : Int64)), .second, .val (.int (1 : Int32))] [(.int (1 : Int32))]))
  refine Go.st (fun t k => XS.bipush X0.here hx rfl (hb hby d8_22) k) ?_
  show Go p.tables e below PP (s₁.setTop (mkF m 24 #[.val (.long (-q1)), .second, .val (.int (0 : Int32)), .val (.long (-10 : Int64)), .second, .val (.int (1 : Int32))] [(.int (19 : Int32)), (.int (1 : Int32))]))
  refine Go.st (fun t k => XS.icmpNo X0.here hx rfl (hb hby d8_24) rfl (XT.ii_ge_f (by decide)) k) ?_
  show Go p.tables e below PP (s₁.setTop (mkF m 27 #[.val (.long (-q1)), .second, .val (.int (0 : Int32)), .val (.long (-10 : Int64)), .second, .val (.int (1 : Int32))] []))
  refine Go.st (fun t k => XS.lloadN X0.here hx rfl (hb hby d8_27) rfl k) ?_
  show Go p.tables e below PP (s₁.setTop (mkF m 28 #[.val (.long (-q1)), .second, .val (.int (0 : Int32)), .val (.long (-10 : Int64)), .second, .val (.int (1 : Int32))] [(.long (-q1))]))
  refine Go.st (fun t k => XS.lloadN X0.here hx rfl (hb hby d8_28) rfl k) ?_
  show Go p.tables e below PP (s₁.setTop (mkF m 29 #[.val (.long (-q1)), .second, .val (.int (0 : Int32)), .val (.long (-10 : Int64)), .second, .val (.int (1 : Int32))] [(.long (-10 : Int64)), (.long (-q1))]))
  refine Go.st (fun t k => XS.lcmp X0.here hx rfl (hb hby d8_29) rfl k) ?_
  show Go p.tables e below PP (s₁.setTop (mkF m 30 #[.val (.long (-q1)), .second, .val (.int (0 : Int32)), .val (.long (-10 : Int64)), .second, .val (.int (1 : Int32))] [(.int (XT.cmpL (-q1) (-10 : Int64)))]))
  refine Go.st (fun t k => XS.ifNo X0.here hx rfl (hb hby d8_30) rfl (XT.ll_le_f (own_q1 hq)) k) ?_
  show Go p.tables e below PP (s₁.setTop (mkF m 33 #[.val (.long (-q1)), .second, .val (.int (0 : Int32)), .val (.long (-10 : Int64)), .second, .val (.int (1 : Int32))] []))
  refine Go.st (fun t k => XS.iload X0.here hx rfl (hb hby d8_33) rfl k) ?_
  show Go p.tables e below PP (s₁.setTop (mkF m 35 #[.val (.long (-q1)), .second, .val (.int (0 : Int32)), .val (.long (-10 : Int64)), .second, .val (.int (1 : Int32))] [(.int (1 : Int32))]))
  refine Go.st (fun t k => XS.iloadN X0.here hx rfl (hb hby d8_35) rfl k) ?_
  show Go p.tables e below PP (s₁.setTop (mkF m 36 #[.val (.long (-q1)), .second, .val (.int (0 : Int32)), .val (.long (-10 : Int64)), .second, .val (.int (1 : Int32))] [(.int (0 : Int32)), (.int (1 : Int32))]))
  refine Go.st (fun t k => XS.iadd X0.here hx rfl (hb hby d8_36) rfl k) ?_
  show Go p.tables e below PP (s₁.setTop (mkF m 37 #[.val (.long (-q1)), .second, .val (.int (0 : Int32)), .val (.long (-10 : Int64)), .second, .val (.int (1 : Int32))] [(.int (1 : Int32))]))
  rw [hPP]
  refine endI X0 hx hlk hret (hb hby d8_37) ?_ (by decide) (by decide)
  show Q8 Z q1 h0 n0 (some (.int (1 : Int32))) s₁.heap _
  rw [e0]
  exact ⟨rfl, rfl, rfl⟩
theorem d9_0 : decode jdk_35_method_14_code 0 = .ok (.iload_n 2, 1) := by decide +kernel
theorem d9_1 : decode jdk_35_method_14_code 1 = .ok (.istore 7, 2) := by decide +kernel
theorem d9_3 : decode jdk_35_method_14_code 3 = .ok (.lload_n 0, 1) := by decide +kernel
theorem d9_4 : decode jdk_35_method_14_code 4 = .ok (.lconst 0, 1) := by decide +kernel
theorem d9_5 : decode jdk_35_method_14_code 5 = .ok (.lcmp, 1) := by decide +kernel
theorem d9_6 : decode jdk_35_method_14_code 6 = .ok (.ifCond .ge 7, 3) := by decide +kernel
theorem d9_9 : decode jdk_35_method_14_code 9 = .ok (.iconst 1, 1) := by decide +kernel
theorem d9_10 : decode jdk_35_method_14_code 10 = .ok (.goto 4, 3) := by decide +kernel
theorem d9_13 : decode jdk_35_method_14_code 13 = .ok (.iconst 0, 1) := by decide +kernel
theorem d9_14 : decode jdk_35_method_14_code 14 = .ok (.istore 8, 2) := by decide +kernel
theorem d9_16 : decode jdk_35_method_14_code 16 = .ok (.iload 8, 2) := by decide +kernel
theorem d9_18 : decode jdk_35_method_14_code 18 = .ok (.ifCond .ne 6, 3) := by decide +kernel
theorem d9_21 : decode jdk_35_method_14_code 21 = .ok (.lload_n 0, 1) := by decide +kernel
theorem d9_22 : decode jdk_35_method_14_code 22 = .ok (.lneg, 1) := by decide +kernel
theorem d9_23 : decode jdk_35_method_14_code 23 = .ok (.lstore_n 0, 1) := by decide +kernel
theorem d9_24 : decode jdk_35_method_14_code 24 = .ok (.lload_n 0, 1) := by decide +kernel
theorem d9_25 : decode jdk_35_method_14_code 25 = .ok (.ldc2_w 129, 3) := by decide +kernel
theorem d9_28 : decode jdk_35_method_14_code 28 = .ok (.lcmp, 1) := by decide +kernel
theorem d9_29 : decode jdk_35_method_14_code 29 = .ok (.ifCond .gt 53, 3) := by decide +kernel
theorem d9_32 : decode jdk_35_method_14_code 32 = .ok (.lload_n 0, 1) := by decide +kernel
theorem d9_33 : decode jdk_35_method_14_code 33 = .ok (.ldc2_w 131, 3) := by decide +kernel
theorem d9_36 : decode jdk_35_method_14_code 36 = .ok (.ldiv, 1) := by decide +kernel
theorem d9_37 : decode jdk_35_method_14_code 37 = .ok (.lstore 4, 2) := by decide +kernel
theorem d9_39 : decode jdk_35_method_14_code 39 = .ok (.lload 4, 2) := by decide +kernel
theorem d9_41 : decode jdk_35_method_14_code 41 = .ok (.ldc2_w 131, 3) := by decide +kernel
theorem d9_44 : decode jdk_35_method_14_code 44 = .ok (.lmul, 1) := by decide +kernel
theorem d9_45 : decode jdk_35_method_14_code 45 = .ok (.lload_n 0, 1) := by decide +kernel
theorem d9_46 : decode jdk_35_method_14_code 46 = .ok (.lsub, 1) := by decide +kernel
theorem d9_47 : decode jdk_35_method_14_code 47 = .ok (.l2i, 1) := by decide +kernel
theorem d9_48 : decode jdk_35_method_14_code 48 = .ok (.istore 6, 2) := by decide +kernel
theorem d9_50 : decode jdk_35_method_14_code 50 = .ok (.lload 4, 2) := by decide +kernel
theorem d9_52 : decode jdk_35_method_14_code 52 = .ok (.lstore_n 0, 1) := by decide +kernel
theorem d9_53 : decode jdk_35_method_14_code 53 = .ok (.aload_n 3, 1) := by decide +kernel
theorem d9_54 : decode jdk_35_method_14_code 54 = .ok (.iinc 7 (-1), 3) := by decide +kernel
theorem d9_57 : decode jdk_35_method_14_code 57 = .ok (.iload 7, 2) := by decide +kernel
theorem d9_59 : decode jdk_35_method_14_code 59 = .ok (.getstatic 133, 3) := by decide +kernel
theorem d9_62 : decode jdk_35_method_14_code 62 = .ok (.iload 6, 2) := by decide +kernel
theorem d9_64 : decode jdk_35_method_14_code 64 = .ok (.baload, 1) := by decide +kernel
theorem d9_65 : decode jdk_35_method_14_code 65 = .ok (.bastore, 1) := by decide +kernel
theorem d9_66 : decode jdk_35_method_14_code 66 = .ok (.aload_n 3, 1) := by decide +kernel
theorem d9_67 : decode jdk_35_method_14_code 67 = .ok (.iinc 7 (-1), 3) := by decide +kernel
theorem d9_70 : decode jdk_35_method_14_code 70 = .ok (.iload 7, 2) := by decide +kernel
theorem d9_72 : decode jdk_35_method_14_code 72 = .ok (.getstatic 137, 3) := by decide +kernel
theorem d9_75 : decode jdk_35_method_14_code 75 = .ok (.iload 6, 2) := by decide +kernel
theorem d9_77 : decode jdk_35_method_14_code 77 = .ok (.baload, 1) := by decide +kernel
theorem d9_78 : decode jdk_35_method_14_code 78 = .ok (.bastore, 1) := by decide +kernel
theorem d9_79 : decode jdk_35_method_14_code 79 = .ok (.goto (-55), 3) := by decide +kernel
theorem d9_82 : decode jdk_35_method_14_code 82 = .ok (.lload_n 0, 1) := by decide +kernel
theorem d9_83 : decode jdk_35_method_14_code 83 = .ok (.l2i, 1) := by decide +kernel
theorem d9_84 : decode jdk_35_method_14_code 84 = .ok (.istore 10, 2) := by decide +kernel
theorem d9_86 : decode jdk_35_method_14_code 86 = .ok (.iload 10, 2) := by decide +kernel
theorem d9_88 : decode jdk_35_method_14_code 88 = .ok (.bipush (-100), 2) := by decide +kernel
theorem d9_90 : decode jdk_35_method_14_code 90 = .ok (.if_icmp .gt 53, 3) := by decide +kernel
theorem d9_93 : decode jdk_35_method_14_code 93 = .ok (.iload 10, 2) := by decide +kernel
theorem d9_95 : decode jdk_35_method_14_code 95 = .ok (.bipush 100, 2) := by decide +kernel
theorem d9_97 : decode jdk_35_method_14_code 97 = .ok (.idiv, 1) := by decide +kernel
theorem d9_98 : decode jdk_35_method_14_code 98 = .ok (.istore 9, 2) := by decide +kernel
theorem d9_100 : decode jdk_35_method_14_code 100 = .ok (.iload 9, 2) := by decide +kernel
theorem d9_102 : decode jdk_35_method_14_code 102 = .ok (.bipush 100, 2) := by decide +kernel
theorem d9_104 : decode jdk_35_method_14_code 104 = .ok (.imul, 1) := by decide +kernel
theorem d9_105 : decode jdk_35_method_14_code 105 = .ok (.iload 10, 2) := by decide +kernel
theorem d9_107 : decode jdk_35_method_14_code 107 = .ok (.isub, 1) := by decide +kernel
theorem d9_108 : decode jdk_35_method_14_code 108 = .ok (.istore 6, 2) := by decide +kernel
theorem d9_110 : decode jdk_35_method_14_code 110 = .ok (.iload 9, 2) := by decide +kernel
theorem d9_112 : decode jdk_35_method_14_code 112 = .ok (.istore 10, 2) := by decide +kernel
theorem d9_114 : decode jdk_35_method_14_code 114 = .ok (.aload_n 3, 1) := by decide +kernel
theorem d9_115 : decode jdk_35_method_14_code 115 = .ok (.iinc 7 (-1), 3) := by decide +kernel
theorem d9_118 : decode jdk_35_method_14_code 118 = .ok (.iload 7, 2) := by decide +kernel
theorem d9_120 : decode jdk_35_method_14_code 120 = .ok (.getstatic 133, 3) := by decide +kernel
theorem d9_123 : decode jdk_35_method_14_code 123 = .ok (.iload 6, 2) := by decide +kernel
theorem d9_125 : decode jdk_35_method_14_code 125 = .ok (.baload, 1) := by decide +kernel
theorem d9_126 : decode jdk_35_method_14_code 126 = .ok (.bastore, 1) := by decide +kernel
theorem d9_127 : decode jdk_35_method_14_code 127 = .ok (.aload_n 3, 1) := by decide +kernel
theorem d9_128 : decode jdk_35_method_14_code 128 = .ok (.iinc 7 (-1), 3) := by decide +kernel
theorem d9_131 : decode jdk_35_method_14_code 131 = .ok (.iload 7, 2) := by decide +kernel
theorem d9_133 : decode jdk_35_method_14_code 133 = .ok (.getstatic 137, 3) := by decide +kernel
theorem d9_136 : decode jdk_35_method_14_code 136 = .ok (.iload 6, 2) := by decide +kernel
theorem d9_138 : decode jdk_35_method_14_code 138 = .ok (.baload, 1) := by decide +kernel
theorem d9_139 : decode jdk_35_method_14_code 139 = .ok (.bastore, 1) := by decide +kernel
theorem d9_140 : decode jdk_35_method_14_code 140 = .ok (.goto (-54), 3) := by decide +kernel
theorem d9_143 : decode jdk_35_method_14_code 143 = .ok (.aload_n 3, 1) := by decide +kernel
theorem d9_144 : decode jdk_35_method_14_code 144 = .ok (.iinc 7 (-1), 3) := by decide +kernel
theorem d9_147 : decode jdk_35_method_14_code 147 = .ok (.iload 7, 2) := by decide +kernel
theorem d9_149 : decode jdk_35_method_14_code 149 = .ok (.getstatic 133, 3) := by decide +kernel
theorem d9_152 : decode jdk_35_method_14_code 152 = .ok (.iload 10, 2) := by decide +kernel
theorem d9_154 : decode jdk_35_method_14_code 154 = .ok (.ineg, 1) := by decide +kernel
theorem d9_155 : decode jdk_35_method_14_code 155 = .ok (.baload, 1) := by decide +kernel
theorem d9_156 : decode jdk_35_method_14_code 156 = .ok (.bastore, 1) := by decide +kernel
theorem d9_157 : decode jdk_35_method_14_code 157 = .ok (.iload 10, 2) := by decide +kernel
theorem d9_159 : decode jdk_35_method_14_code 159 = .ok (.bipush (-9), 2) := by decide +kernel
theorem d9_161 : decode jdk_35_method_14_code 161 = .ok (.if_icmp .ge 17, 3) := by decide +kernel
theorem d9_164 : decode jdk_35_method_14_code 164 = .ok (.aload_n 3, 1) := by decide +kernel
theorem d9_165 : decode jdk_35_method_14_code 165 = .ok (.iinc 7 (-1), 3) := by decide +kernel
theorem d9_168 : decode jdk_35_method_14_code 168 = .ok (.iload 7, 2) := by decide +kernel
theorem d9_170 : decode jdk_35_method_14_code 170 = .ok (.getstatic 137, 3) := by decide +kernel
theorem d9_173 : decode jdk_35_method_14_code 173 = .ok (.iload 10, 2) := by decide +kernel
theorem d9_175 : decode jdk_35_method_14_code 175 = .ok (.ineg, 1) := by decide +kernel
theorem d9_176 : decode jdk_35_method_14_code 176 = .ok (.baload, 1) := by decide +kernel
theorem d9_177 : decode jdk_35_method_14_code 177 = .ok (.bastore, 1) := by decide +kernel
theorem d9_178 : decode jdk_35_method_14_code 178 = .ok (.iload 8, 2) := by decide +kernel
theorem d9_180 : decode jdk_35_method_14_code 180 = .ok (.ifCond .eq 12, 3) := by decide +kernel
theorem d9_183 : decode jdk_35_method_14_code 183 = .ok (.aload_n 3, 1) := by decide +kernel
theorem d9_184 : decode jdk_35_method_14_code 184 = .ok (.iinc 7 (-1), 3) := by decide +kernel
theorem d9_187 : decode jdk_35_method_14_code 187 = .ok (.iload 7, 2) := by decide +kernel
theorem d9_189 : decode jdk_35_method_14_code 189 = .ok (.bipush 45, 2) := by decide +kernel
theorem d9_191 : decode jdk_35_method_14_code 191 = .ok (.bastore, 1) := by decide +kernel
theorem d9_192 : decode jdk_35_method_14_code 192 = .ok (.iload 7, 2) := by decide +kernel
theorem d9_194 : decode jdk_35_method_14_code 194 = .ok (.ireturn, 1) := by decide +kernel
theorem pn_rm9 : plainName "java/lang/Long" = true := by first | (simp [plainName, overriddenIn]; done) | decide +kernel
theorem ef_rm9 (m : MethodId) (q1 : Int64) (a3 : Addr) : entryFrame m #[(.long q1), (.int (1 : Int32)), (.ref a3)] 11 = mkF m 0 #[.val (.long q1), .second, .val (.int (1 : Int32)), .val (.ref a3), .unset, .unset, .unset, .unset, .unset, .unset, .unset] [] := by first | (simp [entryFrame, mkF, argsToLocals, Value.category]; done) | rfl
def Q9 (Z : State) (q1 : Int64) (a3 : Addr) (ad : Addr) (h0 : Heap) (n0 : Nat) (v : Option Value) (h : Heap) (L : List Loc) : Prop := v = some (.int (0 : Int32)) ∧ Fr n0 L ∧ Keep h0 h [a3] ∧ Afn Z h a3 .byte (1 : Int32) (fun k => .int (dgB q1))
set_option maxRecDepth 65536 in
set_option maxHeartbeats 40000000 in
theorem rm9 (l : Launch) (Z : State) (a0 : Array Value) (hw : ∀ d ∈ tables_1, d.before a0 Z = true) (ws : List Jvm.Cond) (q1 : Int64) (a3 : Addr) (ad : Addr) (h0 : Heap) (n0 : Nat) (Z0 : n0 ≤ h0.size) (hq : DgL q1) (V_a3 : Afn Z h0 a3 .byte (1 : Int32) (fun _ => .int (0 : Int32))) (g_a3 : n0 ≤ a3) (SD : Sta Z Z.heap "java/lang/Integer" "DigitOnes" "[B" (.ref ad)) (AD : Afn Z Z.heap ad .byte (100 : Int32) (fun k => .int ((48 : Int32) + Int32.ofNat k % 10))) (O : Old Z n0 h0) :
    Con l Z (⟨"java/lang/Long", "getChars", "(JI[B)I"⟩ : MethodName) jdk_35_method_14_code 11 (some .int) ws ({ frames := 0, cells := 0, slots := 0, locals := 0 } : Room) #[(.long q1), (.int (1 : Int32)), (.ref a3)] h0 (Q9 Z q1 a3 ad h0 n0) := by
  refine Con.of (plainFor_of_name pn_rm9) ?_
  intro p e s m below meth c s₁ hZ e0 X0 hx hby hml hown hnm hret hlk
  replace hml : c.maxLocals = 11 := hml
  have hown : s.vm.findClass "java/lang/Long" = some m.cls := hown
  have N0 : Fr n0 [] := Fr.nil n0
  obtain ⟨PP, hPP⟩ : ∃ P, P = Fine s below (Q9 Z q1 a3 ad h0 n0) ({ frames := 0, cells := 0, slots := 0, locals := 0 } : Room).cells ({ frames := 0, cells := 0, slots := 0, locals := 0 } : Room).slots := ⟨_, rfl⟩
  rw [← hPP]
  refine Go.cast (ef_rm9 m q1 a3) ?_
  have K : Keep h0 h0 [a3] := Keep.refl h0 _
  have Zn : n0 ≤ h0.size := Z0
  show Go p.tables e below PP (s₁.setTop (mkF m 0 #[.val (.long q1), .second, .val (.int (1 : Int32)), .val (.ref a3), .unset, .unset, .unset, .unset, .unset, .unset, .unset] []))
  refine Go.st (fun t k => XS.iloadN X0.here hx rfl (hb hby d9_0) rfl k) ?_
  show Go p.tables e below PP (s₁.setTop (mkF m 1 #[.val (.long q1), .second, .val (.int (1 : Int32)), .val (.ref a3), .unset, .unset, .unset, .unset, .unset, .unset, .unset] [(.int (1 : Int32))]))
  refine Go.st (fun t k => XS.istore X0.here hx rfl (hb hby d9_1) rfl (l' := #[.val (.long q1), .second, .val (.int (1 : Int32)), .val (.ref a3), .unset, .unset, .unset, .val (.int (1 : Int32)), .unset, .unset, .unset]) rfl k) ?_
  show Go p.tables e below PP (s₁.setTop (mkF m 3 #[.val (.long q1), .second, .val (.int (1 : Int32)), .val (.ref a3), .unset, .unset, .unset, .val (.int (1 : Int32)), .unset, .unset, .unset] []))
  refine Go.st (fun t k => XS.lloadN X0.here hx rfl (hb hby d9_3) rfl k) ?_
  show Go p.tables e below PP (s₁.setTop (mkF m 4 #[.val (.long q1), .second, .val (.int (1 : Int32)), .val (.ref a3), .unset, .unset, .unset, .val (.int (1 : Int32)), .unset, .unset, .unset] [(.long q1)]))
  refine Go.st (fun t k => XS.lconst X0.here hx rfl (hb hby d9_4) k) ?_
  show Go p.tables e below PP (s₁.setTop (mkF m 5 #[.val (.long q1), .second, .val (.int (1 : Int32)), .val (.ref a3), .unset, .unset, .unset, .val (.int (1 : Int32)), .unset, .unset, .unset] [(.long (0 : Int64)), (.long q1)]))
  refine Go.st (fun t k => XS.lcmp X0.here hx rfl (hb hby d9_5) rfl k) ?_
  show Go p.tables e below PP (s₁.setTop (mkF m 6 #[.val (.long q1), .second, .val (.int (1 : Int32)), .val (.ref a3), .unset, .unset, .unset, .val (.int (1 : Int32)), .unset, .unset, .unset] [(.int (XT.cmpL q1 (0 : Int64)))]))
  refine Go.st (fun t k => XS.ifYes X0.here hx rfl (pc0 := 6) (pc' := 13) rfl (hb hby d9_6) rfl (XT.ll_ge_t (own_q0 hq)) (by decide) (by decide) k) ?_
  show Go p.tables e below PP (s₁.setTop (mkF m 13 #[.val (.long q1), .second, .val (.int (1 : Int32)), .val (.ref a3), .unset, .unset, .unset, .val (.int (1 : Int32)), .unset, .unset, .unset] []))
  refine Go.st (fun t k => XS.iconst X0.here hx rfl (hb hby d9_13) k) ?_
  show Go p.tables e below PP (s₁.setTop (mkF m 14 #[.val (.long q1), .second, .val (.int (1 : Int32)), .val (.ref a3), .unset, .unset, .unset, .val (.int (1 : Int32)), .unset, .unset, .unset] [(.int (0 : Int32))]))
  refine Go.st (fun t k => XS.istore X0.here hx rfl (hb hby d9_14) rfl (l' := #[.val (.long q1), .second, .val (.int (1 : Int32)), .val (.ref a3), .unset, .unset, .unset, .val (.int (1 : Int32)), .val (.int (0 : Int32)), .unset, .unset]) rfl k) ?_
  show Go p.tables e below PP (s₁.setTop (mkF m 16 #[.val (.long q1), .second, .val (.int (1 : Int32)), .val (.ref a3), .unset, .unset, .unset, .val (.int (1 : Int32)), .val (.int (0 : Int32)), .unset, .unset] []))
  refine Go.st (fun t k => XS.iload X0.here hx rfl (hb hby d9_16) rfl k) ?_
  show Go p.tables e below PP (s₁.setTop (mkF m 18 #[.val (.long q1), .second, .val (.int (1 : Int32)), .val (.ref a3), .unset, .unset, .unset, .val (.int (1 : Int32)), .val (.int (0 : Int32)), .unset, .unset] [(.int (0 : Int32))]))
  refine Go.st (fun t k => XS.ifNo X0.here hx rfl (hb hby d9_18) rfl (XT.i0_ne_f (by decide)) k) ?_
  show Go p.tables e below PP (s₁.setTop (mkF m 21 #[.val (.long q1), .second, .val (.int (1 : Int32)), .val (.ref a3), .unset, .unset, .unset, .val (.int (1 : Int32)), .val (.int (0 : Int32)), .unset, .unset] []))
  refine Go.st (fun t k => XS.lloadN X0.here hx rfl (hb hby d9_21) rfl k) ?_
  show Go p.tables e below PP (s₁.setTop (mkF m 22 #[.val (.long q1), .second, .val (.int (1 : Int32)), .val (.ref a3), .unset, .unset, .unset, .val (.int (1 : Int32)), .val (.int (0 : Int32)), .unset, .unset] [(.long q1)]))
  refine Go.st (fun t k => XS.lneg X0.here hx rfl (hb hby d9_22) rfl k) ?_
  show Go p.tables e below PP (s₁.setTop (mkF m 23 #[.val (.long q1), .second, .val (.int (1 : Int32)), .val (.ref a3), .unset, .unset, .unset, .val (.int (1 : Int32)), .val (.int (0 : Int32)), .unset, .unset] [(.long (-q1))]))
  refine Go.st (fun t k => XS.lstoreN X0.here hx rfl (hb hby d9_23) rfl (l' := #[.val (.long (-q1)), .second, .val (.int (1 : Int32)), .val (.ref a3), .unset, .unset, .unset, .val (.int (1 : Int32)), .val (.int (0 : Int32)), .unset, .unset]) rfl k) ?_
  show Go p.tables e below PP (s₁.setTop (mkF m 24 #[.val (.long (-q1)), .second, .val (.int (1 : Int32)), .val (.ref a3), .unset, .unset, .unset, .val (.int (1 : Int32)), .val (.int (0 : Int32)), .unset, .unset] []))
  refine Go.st (fun t k => XS.lloadN X0.here hx rfl (hb hby d9_24) rfl k) ?_
  show Go p.tables e below PP (s₁.setTop (mkF m 25 #[.val (.long (-q1)), .second, .val (.int (1 : Int32)), .val (.ref a3), .unset, .unset, .unset, .val (.int (1 : Int32)), .val (.int (0 : Int32)), .unset, .unset] [(.long (-q1))]))
  refine Go.st (fun t k => X0.ldc2J hx hown (mvT hZ (hw _ (List.mem_of_getElem? (i := 44) rfl))) (g := (mkF m 25 #[.val (.long (-q1)), .second, .val (.int (1 : Int32)), .val (.ref a3), .unset, .unset, .unset, .val (.int (1 : Int32)), .val (.int (0 : Int32)), .unset, .unset] [(.long (-q1))])) rfl (hb hby d9_25) k) ?_
  show Go p.tables e below PP (s₁.setTop (mkF m 28 #[.val (.long (-q1)), .second, .val (.int (1 : Int32)), .val (.ref a3), .unset, .unset, .unset, .val (.int (1 : Int32)), .val (.int (0 : Int32)), .unset, .unset] [(.long (-2147483648 : Int64)), (.long (-q1))]))
  refine Go.st (fun t k => XS.lcmp X0.here hx rfl (hb hby d9_28) rfl k) ?_
  show Go p.tables e below PP (s₁.setTop (mkF m 29 #[.val (.long (-q1)), .second, .val (.int (1 : Int32)), .val (.ref a3), .unset, .unset, .unset, .val (.int (1 : Int32)), .val (.int (0 : Int32)), .unset, .unset] [(.int (XT.cmpL (-q1) (-2147483648 : Int64)))]))
  refine Go.st (fun t k => XS.ifYes X0.here hx rfl (pc0 := 29) (pc' := 82) rfl (hb hby d9_29) rfl (XT.ll_gt_t (own_q2 hq)) (by decide) (by decide) k) ?_
  show Go p.tables e below PP (s₁.setTop (mkF m 82 #[.val (.long (-q1)), .second, .val (.int (1 : Int32)), .val (.ref a3), .unset, .unset, .unset, .val (.int (1 : Int32)), .val (.int (0 : Int32)), .unset, .unset] []))
  refine Go.st (fun t k => XS.lloadN X0.here hx rfl (hb hby d9_82) rfl k) ?_
  show Go p.tables e below PP (s₁.setTop (mkF m 83 #[.val (.long (-q1)), .second, .val (.int (1 : Int32)), .val (.ref a3), .unset, .unset, .unset, .val (.int (1 : Int32)), .val (.int (0 : Int32)), .unset, .unset] [(.long (-q1))]))
  refine Go.st (fun t k => XS.l2i X0.here hx rfl (hb hby d9_83) rfl k) ?_
  show Go p.tables e below PP (s₁.setTop (mkF m 84 #[.val (.long (-q1)), .second, .val (.int (1 : Int32)), .val (.ref a3), .unset, .unset, .unset, .val (.int (1 : Int32)), .val (.int (0 : Int32)), .unset, .unset] [(.int ((-q1).toInt32))]))
  refine Go.st (fun t k => XS.istore X0.here hx rfl (hb hby d9_84) rfl (l' := #[.val (.long (-q1)), .second, .val (.int (1 : Int32)), .val (.ref a3), .unset, .unset, .unset, .val (.int (1 : Int32)), .val (.int (0 : Int32)), .unset, .val (.int ((-q1).toInt32))]) rfl k) ?_
  show Go p.tables e below PP (s₁.setTop (mkF m 86 #[.val (.long (-q1)), .second, .val (.int (1 : Int32)), .val (.ref a3), .unset, .unset, .unset, .val (.int (1 : Int32)), .val (.int (0 : Int32)), .unset, .val (.int ((-q1).toInt32))] []))
  refine Go.st (fun t k => XS.iload X0.here hx rfl (hb hby d9_86) rfl k) ?_
  show Go p.tables e below PP (s₁.setTop (mkF m 88 #[.val (.long (-q1)), .second, .val (.int (1 : Int32)), .val (.ref a3), .unset, .unset, .unset, .val (.int (1 : Int32)), .val (.int (0 : Int32)), .unset, .val (.int ((-q1).toInt32))] [(.int ((-q1).toInt32))]))
  refine Go.st (fun t k => XS.bipush X0.here hx rfl (hb hby d9_88) k) ?_
  show Go p.tables e below PP (s₁.setTop (mkF m 90 #[.val (.long (-q1)), .second, .val (.int (1 : Int32)), .val (.ref a3), .unset, .unset, .unset, .val (.int (1 : Int32)), .val (.int (0 : Int32)), .unset, .val (.int ((-q1).toInt32))] [(.int (-100 : Int32)), (.int ((-q1).toInt32))]))
  refine Go.st (fun t k => XS.icmpYes X0.here hx rfl (pc0 := 90) (pc' := 143) rfl (hb hby d9_90) rfl (XT.ii_gt_t (own_q3 hq)) (by decide) (by decide) k) ?_
  show Go p.tables e below PP (s₁.setTop (mkF m 143 #[.val (.long (-q1)), .second, .val (.int (1 : Int32)), .val (.ref a3), .unset, .unset, .unset, .val (.int (1 : Int32)), .val (.int (0 : Int32)), .unset, .val (.int ((-q1).toInt32))] []))
  refine Go.st (fun t k => XS.aloadN X0.here hx rfl (hb hby d9_143) rfl rfl k) ?_
  show Go p.tables e below PP (s₁.setTop (mkF m 144 #[.val (.long (-q1)), .second, .val (.int (1 : Int32)), .val (.ref a3), .unset, .unset, .unset, .val (.int (1 : Int32)), .val (.int (0 : Int32)), .unset, .val (.int ((-q1).toInt32))] [(.ref a3)]))
  refine Go.st (fun t k => XS.iinc X0.here hx rfl (hb hby d9_144) rfl (l' := #[.val (.long (-q1)), .second, .val (.int (1 : Int32)), .val (.ref a3), .unset, .unset, .unset, .val (.int (0 : Int32)), .val (.int (0 : Int32)), .unset, .val (.int ((-q1).toInt32))]) rfl k) ?_
  show Go p.tables e below PP (s₁.setTop (mkF m 147 #[.val (.long (-q1)), .second, .val (.int (1 : Int32)), .val (.ref a3), .unset, .unset, .unset, .val (.int (0 : Int32)), .val (.int (0 : Int32)), .unset, .val (.int ((-q1).toInt32))] [(.ref a3)]))
  refine Go.st (fun t k => XS.iload X0.here hx rfl (hb hby d9_147) rfl k) ?_
  show Go p.tables e below PP (s₁.setTop (mkF m 149 #[.val (.long (-q1)), .second, .val (.int (1 : Int32)), .val (.ref a3), .unset, .unset, .unset, .val (.int (0 : Int32)), .val (.int (0 : Int32)), .unset, .val (.int ((-q1).toInt32))] [(.int (0 : Int32)), (.ref a3)]))
  obtain ⟨T1, X1, e1, st1⟩ := getS2 X0 hx hZ hown (host := "") (Or.inl (hw _ (List.mem_of_getElem? (i := 45) rfl))) Via.refl e0 (SD.ext O.2) (g := (mkF m 149 #[.val (.long (-q1)), .second, .val (.int (1 : Int32)), .val (.ref a3), .unset, .unset, .unset, .val (.int (0 : Int32)), .val (.int (0 : Int32)), .unset, .val (.int ((-q1).toInt32))] [(.int (0 : Int32)), (.ref a3)])) rfl (hb hby d9_149)
  refine Go.st st1 ?_
  have V_ad := AD.ext O.2
  show Go p.tables e below PP (T1.setTop (mkF m 152 #[.val (.long (-q1)), .second, .val (.int (1 : Int32)), .val (.ref a3), .unset, .unset, .unset, .val (.int (0 : Int32)), .val (.int (0 : Int32)), .unset, .val (.int ((-q1).toInt32))] [(.ref ad), (.int (0 : Int32)), (.ref a3)]))
  refine Go.st (fun t k => XS.iload X1.here hx rfl (hb hby d9_152) rfl k) ?_
  show Go p.tables e below PP (T1.setTop (mkF m 154 #[.val (.long (-q1)), .second, .val (.int (1 : Int32)), .val (.ref a3), .unset, .unset, .unset, .val (.int (0 : Int32)), .val (.int (0 : Int32)), .unset, .val (.int ((-q1).toInt32))] [(.int ((-q1).toInt32)), (.ref ad), (.int (0 : Int32)), (.ref a3)]))
  refine Go.st (fun t k => XS.ineg X1.here hx rfl (hb hby d9_154) rfl k) ?_
  show Go p.tables e below PP (T1.setTop (mkF m 155 #[.val (.long (-q1)), .second, .val (.int (1 : Int32)), .val (.ref a3), .unset, .unset, .unset, .val (.int (0 : Int32)), .val (.int (0 : Int32)), .unset, .val (.int ((-q1).toInt32))] [(.int (-((-q1).toInt32))), (.ref ad), (.int (0 : Int32)), (.ref a3)]))
  obtain ⟨cl2, Ar2, S2, Nn2, H2⟩ := id V_ad
  have hin2 : ¬ ((-((-q1).toInt32)) < 0 ∨ cl2.slots.size ≤ ((-((-q1).toInt32))).toNatClampNeg) := inb_of S2 (own_q5 hq)
  refine Go.st (fun t k => X1.baloadBytes hx (j := (-((-q1).toInt32))) (v := (.int (dgV q1))) (by rw [e1]; exact Ar2.1) (State.isArrayOf_alike hZ.alike Ar2.2.1) Ar2.2.2 hin2 ((H2 _ (inbN (own_q5 hq))).1.trans (congrArg some (congrArg Value.int (own_q6 hq)))) (g := (mkF m 155 #[.val (.long (-q1)), .second, .val (.int (1 : Int32)), .val (.ref a3), .unset, .unset, .unset, .val (.int (0 : Int32)), .val (.int (0 : Int32)), .unset, .val (.int ((-q1).toInt32))] [(.int (-((-q1).toInt32))), (.ref ad), (.int (0 : Int32)), (.ref a3)])) rfl rfl (hb hby d9_155) _ k) ?_
  show Go p.tables e below PP (T1.setTop (mkF m 156 #[.val (.long (-q1)), .second, .val (.int (1 : Int32)), .val (.ref a3), .unset, .unset, .unset, .val (.int (0 : Int32)), .val (.int (0 : Int32)), .unset, .val (.int ((-q1).toInt32))] [(.int (dgV q1)), (.int (0 : Int32)), (.ref a3)]))
  obtain ⟨cl3, Ar3, S3, Nn3, H3⟩ := id V_a3
  have hin3 : ¬ ((0 : Int32) < 0 ∨ cl3.slots.size ≤ ((0 : Int32)).toNatClampNeg) := inb_of S3 ⟨by decide, by decide⟩
  obtain ⟨T3, h3, X3, e3, W3, st3⟩ := stB X1 hx hZ e1 Ar3 (j := (0 : Int32)) hin3 (g := (mkF m 156 #[.val (.long (-q1)), .second, .val (.int (1 : Int32)), .val (.ref a3), .unset, .unset, .unset, .val (.int (0 : Int32)), .val (.int (0 : Int32)), .unset, .val (.int ((-q1).toInt32))] [(.int (dgV q1)), (.int (0 : Int32)), (.ref a3)])) rfl rfl (hb hby d9_156)
  refine Go.st st3 ?_
  have N3 := Fr.snoc X3 N0 g_a3
  replace O := O.wr W3 g_a3
  replace K := K.wr W3 (Or.inl (List.mem_of_getElem? (i := 0) rfl))
  replace Zn : n0 ≤ h3.size := by rw [W3.size]; exact Zn
  replace V_a3 := Afn.set Ar3 S3 Nn3 H3 (fits_nar_byte _) W3
  show Go p.tables e below PP (T3.setTop (mkF m 157 #[.val (.long (-q1)), .second, .val (.int (1 : Int32)), .val (.ref a3), .unset, .unset, .unset, .val (.int (0 : Int32)), .val (.int (0 : Int32)), .unset, .val (.int ((-q1).toInt32))] []))
  refine Go.st (fun t k => XS.iload X3.here hx rfl (hb hby d9_157) rfl k) ?_
  show Go p.tables e below PP (T3.setTop (mkF m 159 #[.val (.long (-q1)), .second, .val (.int (1 : Int32)), .val (.ref a3), .unset, .unset, .unset, .val (.int (0 : Int32)), .val (.int (0 : Int32)), .unset, .val (.int ((-q1).toInt32))] [(.int ((-q1).toInt32))]))
  refine Go.st (fun t k => XS.bipush X3.here hx rfl (hb hby d9_159) k) ?_
  show Go p.tables e below PP (T3.setTop (mkF m 161 #[.val (.long (-q1)), .second, .val (.int (1 : Int32)), .val (.ref a3), .unset, .unset, .unset, .val (.int (0 : Int32)), .val (.int (0 : Int32)), .unset, .val (.int ((-q1).toInt32))] [(.int (-9 : Int32)), (.int ((-q1).toInt32))]))
  refine Go.st (fun t k => XS.icmpYes X3.here hx rfl (pc0 := 161) (pc' := 178) rfl (hb hby d9_161) rfl (XT.ii_ge_t (own_q4 hq)) (by decide) (by decide) k) ?_
  show Go p.tables e below PP (T3.setTop (mkF m 178 #[.val (.long (-q1)), .second, .val (.int (1 : Int32)), .val (.ref a3), .unset, .unset, .unset, .val (.int (0 : Int32)), .val (.int (0 : Int32)), .unset, .val (.int ((-q1).toInt32))] []))
  refine Go.st (fun t k => XS.iload X3.here hx rfl (hb hby d9_178) rfl k) ?_
  show Go p.tables e below PP (T3.setTop (mkF m 180 #[.val (.long (-q1)), .second, .val (.int (1 : Int32)), .val (.ref a3), .unset, .unset, .unset, .val (.int (0 : Int32)), .val (.int (0 : Int32)), .unset, .val (.int ((-q1).toInt32))] [(.int (0 : Int32))]))
  refine Go.st (fun t k => XS.ifYes X3.here hx rfl (pc0 := 180) (pc' := 192) rfl (hb hby d9_180) rfl (XT.i0_eq_t (by decide)) (by decide) (by decide) k) ?_
  replace V_a3 := V_a3.congr (g := fun k => .int (dgB q1)) (fun k hk => own_g1 (dgV q1) k hk)
  show Go p.tables e below PP (T3.setTop (mkF m 192 #[.val (.long (-q1)), .second, .val (.int (1 : Int32)), .val (.ref a3), .unset, .unset, .unset, .val (.int (0 : Int32)), .val (.int (0 : Int32)), .unset, .val (.int ((-q1).toInt32))] []))
  refine Go.st (fun t k => XS.iload X3.here hx rfl (hb hby d9_192) rfl k) ?_
  show Go p.tables e below PP (T3.setTop (mkF m 194 #[.val (.long (-q1)), .second, .val (.int (1 : Int32)), .val (.ref a3), .unset, .unset, .unset, .val (.int (0 : Int32)), .val (.int (0 : Int32)), .unset, .val (.int ((-q1).toInt32))] [(.int (0 : Int32))]))
  rw [hPP]
  refine endI X3 hx hlk hret (hb hby d9_194) ?_ (by decide) (by decide)
  show Q9 Z q1 a3 ad h0 n0 (some (.int (0 : Int32))) T3.heap _
  rw [e3]
  exact ⟨rfl, N3, K, V_a3⟩
theorem d10_0 : decode jdk_42_method_151_code 0 = .ok (.aload_n 0, 1) := by decide +kernel
theorem d10_1 : decode jdk_42_method_151_code 1 = .ok (.invokespecial 1, 3) := by decide +kernel
theorem d10_4 : decode jdk_42_method_151_code 4 = .ok (.aload_n 0, 1) := by decide +kernel
theorem d10_5 : decode jdk_42_method_151_code 5 = .ok (.aload_n 1, 1) := by decide +kernel
theorem d10_6 : decode jdk_42_method_151_code 6 = .ok (.putfield 9, 3) := by decide +kernel
theorem d10_9 : decode jdk_42_method_151_code 9 = .ok (.aload_n 0, 1) := by decide +kernel
theorem d10_10 : decode jdk_42_method_151_code 10 = .ok (.iload_n 2, 1) := by decide +kernel
theorem d10_11 : decode jdk_42_method_151_code 11 = .ok (.putfield 15, 3) := by decide +kernel
theorem d10_14 : decode jdk_42_method_151_code 14 = .ok (.return_, 1) := by decide +kernel
theorem pn_rm10 : plainName "java/lang/String" = true := by first | (simp [plainName, overriddenIn]; done) | decide +kernel
theorem ef_rm10 (m : MethodId) (a1 : Addr) (a2 : Addr) : entryFrame m #[(.ref a1), (.ref a2), (.int (0 : Int32))] 3 = mkF m 0 #[.val (.ref a1), .val (.ref a2), .val (.int (0 : Int32))] [] := by first | (simp [entryFrame, mkF, argsToLocals, Value.category]; done) | rfl
def Q10 (Z : State) (a1 : Addr) (a2 : Addr) (h0 : Heap) (n0 : Nat) (v : Option Value) (h : Heap) (L : List Loc) : Prop := v = none ∧ Fr n0 L ∧ Keep h0 h [a1] ∧ Fld Z h a1 "java/lang/String" "value" "[B" (.ref a2) ∧ Fld Z h a1 "java/lang/String" "coder" "B" (.int (0 : Int32))
set_option maxRecDepth 65536 in
set_option maxHeartbeats 40000000 in
theorem rm10 (l : Launch) (Z : State) (a0 : Array Value) (hw : ∀ d ∈ tables_1, d.before a0 Z = true) (ws : List Jvm.Cond) (a1 : Addr) (a2 : Addr) (h0 : Heap) (n0 : Nat) (Z0 : n0 ≤ h0.size) (E_a1 : Exa Z h0 a1 "java/lang/String") (F_value_a1 : Fld Z h0 a1 "java/lang/String" "value" "[B" .null) (F_coder_a1 : Fld Z h0 a1 "java/lang/String" "coder" "B" (.int (0 : Int32))) (g_a1 : n0 ≤ a1) :
    Con l Z (⟨"java/lang/String", "<init>", "([BB)V"⟩ : MethodName) jdk_42_method_151_code 3 none ws ({ frames := 1, cells := 0, slots := 0, locals := 12 } : Room) #[(.ref a1), (.ref a2), (.int (0 : Int32))] h0 (Q10 Z a1 a2 h0 n0) := by
  refine Con.of (plainFor_of_name pn_rm10) ?_
  intro p e s m below meth c s₁ hZ e0 X0 hx hby hml hown hnm hret hlk
  replace hml : c.maxLocals = 3 := hml
  have hown : s.vm.findClass "java/lang/String" = some m.cls := hown
  have N0 : Fr n0 [] := Fr.nil n0
  obtain ⟨PP, hPP⟩ : ∃ P, P = Fine s below (Q10 Z a1 a2 h0 n0) ({ frames := 1, cells := 0, slots := 0, locals := 12 } : Room).cells ({ frames := 1, cells := 0, slots := 0, locals := 12 } : Room).slots := ⟨_, rfl⟩
  rw [← hPP]
  refine Go.cast (ef_rm10 m a1 a2) ?_
  have K : Keep h0 h0 [a1] := Keep.refl h0 _
  have Zn : n0 ≤ h0.size := Z0
  show Go p.tables e below PP (s₁.setTop (mkF m 0 #[.val (.ref a1), .val (.ref a2), .val (.int (0 : Int32))] []))
  refine Go.st (fun t k => XS.aloadN X0.here hx rfl (hb hby d10_0) rfl rfl k) ?_
  show Go p.tables e below PP (s₁.setTop (mkF m 1 #[.val (.ref a1), .val (.ref a2), .val (.int (0 : Int32))] [(.ref a1)]))
  obtain ⟨T1, X1, e1, st1⟩ := initO X0 hx hZ hown (hw _ (List.mem_of_getElem? (i := 53) rfl)) (hw _ (List.mem_of_getElem? (i := 7) rfl)) (hw _ (List.mem_of_getElem? (i := 8) rfl)) e0 (g := (mkF m 1 #[.val (.ref a1), .val (.ref a2), .val (.int (0 : Int32))] [(.ref a1)])) rfl (by rw [hml]; rfl) rfl (hb hby d10_1) (by decide) (W := 0) (by show 2 * 0 + _ ≤ _; exact Nat.le_of_eq rfl) (by decide)
  refine Go.st st1 ?_
  show Go p.tables e below PP (T1.setTop (mkF m 4 #[.val (.ref a1), .val (.ref a2), .val (.int (0 : Int32))] []))
  refine Go.st (fun t k => XS.aloadN X1.here hx rfl (hb hby d10_4) rfl rfl k) ?_
  show Go p.tables e below PP (T1.setTop (mkF m 5 #[.val (.ref a1), .val (.ref a2), .val (.int (0 : Int32))] [(.ref a1)]))
  refine Go.st (fun t k => XS.aloadN X1.here hx rfl (hb hby d10_5) rfl rfl k) ?_
  show Go p.tables e below PP (T1.setTop (mkF m 6 #[.val (.ref a1), .val (.ref a2), .val (.int (0 : Int32))] [(.ref a2), (.ref a1)]))
  obtain ⟨T2, h2, X2, e2, W2, st2⟩ := putF X1 hx hZ hown (host := "") (Or.inl (hw _ (List.mem_of_getElem? (i := 54) rfl))) Via.refl e1 F_value_a1 E_a1 (Or.inr ⟨(hw _ (List.mem_of_getElem? (i := 55) rfl)), rfl, hnm⟩) (hw _ (List.mem_of_getElem? (i := 48) rfl)) (ty := (.array .byte)) (by decide) rfl rfl (g := (mkF m 6 #[.val (.ref a1), .val (.ref a2), .val (.int (0 : Int32))] [(.ref a2), (.ref a1)])) rfl rfl (hb hby d10_6)
  refine Go.st st2 ?_
  have N2 := Fr.snoc X2 N0 g_a1
  replace E_a1 := E_a1.wr W2
  replace F_coder_a1 := F_coder_a1.other W2 (Or.inr (slot_ne (a0 := a0) (Or.inr (hw _ (List.mem_of_getElem? (i := 57) rfl))) (Or.inr (hw _ (List.mem_of_getElem? (i := 55) rfl))) (by decide) (t := .byte) (t' := (.array .byte)) (by decide) (by decide)))
  replace K := K.wr W2 (Or.inl (List.mem_of_getElem? (i := 0) rfl))
  replace Zn : n0 ≤ h2.size := by rw [W2.size]; exact Zn
  replace F_value_a1 := F_value_a1.same W2
  show Go p.tables e below PP (T2.setTop (mkF m 9 #[.val (.ref a1), .val (.ref a2), .val (.int (0 : Int32))] []))
  refine Go.st (fun t k => XS.aloadN X2.here hx rfl (hb hby d10_9) rfl rfl k) ?_
  show Go p.tables e below PP (T2.setTop (mkF m 10 #[.val (.ref a1), .val (.ref a2), .val (.int (0 : Int32))] [(.ref a1)]))
  refine Go.st (fun t k => XS.iloadN X2.here hx rfl (hb hby d10_10) rfl k) ?_
  show Go p.tables e below PP (T2.setTop (mkF m 11 #[.val (.ref a1), .val (.ref a2), .val (.int (0 : Int32))] [(.int (0 : Int32)), (.ref a1)]))
  obtain ⟨T3, h3, X3, e3, W3, st3⟩ := putFN X2 hx hZ hown (hw _ (List.mem_of_getElem? (i := 56) rfl)) Via.refl e2 F_coder_a1 E_a1 (Or.inr ⟨(hw _ (List.mem_of_getElem? (i := 57) rfl)), rfl, hnm⟩) (hw _ (List.mem_of_getElem? (i := 48) rfl)) (ty := .byte) (v' := (.int (0 : Int32))) (by decide) rfl (by decide) (g := (mkF m 11 #[.val (.ref a1), .val (.ref a2), .val (.int (0 : Int32))] [(.int (0 : Int32)), (.ref a1)])) rfl rfl (hb hby d10_11)
  refine Go.st st3 ?_
  have N3 := Fr.snoc X3 N2 g_a1
  replace E_a1 := E_a1.wr W3
  replace F_value_a1 := F_value_a1.other W3 (Or.inr (slot_ne (a0 := a0) (Or.inr (hw _ (List.mem_of_getElem? (i := 55) rfl))) (Or.inr (hw _ (List.mem_of_getElem? (i := 57) rfl))) (by decide) (t := (.array .byte)) (t' := .byte) (by decide) (by decide)))
  replace K := K.wr W3 (Or.inl (List.mem_of_getElem? (i := 0) rfl))
  replace Zn : n0 ≤ h3.size := by rw [W3.size]; exact Zn
  replace F_coder_a1 := F_coder_a1.same W3
  show Go p.tables e below PP (T3.setTop (mkF m 14 #[.val (.ref a1), .val (.ref a2), .val (.int (0 : Int32))] []))
  rw [hPP]
  refine endV X3 hx hlk hret (hb hby d10_14) ?_ (by decide) (by decide)
  show Q10 Z a1 a2 h0 n0 none T3.heap _
  rw [e3]
  exact ⟨rfl, N3, K, F_value_a1, F_coder_a1⟩
theorem d7_0 : decode jdk_35_method_12_code 0 = .ok (.lload_n 0, 1) := by decide +kernel
theorem d7_1 : decode jdk_35_method_12_code 1 = .ok (.invokestatic 118, 3) := by decide +kernel
theorem d7_4 : decode jdk_35_method_12_code 4 = .ok (.istore_n 2, 1) := by decide +kernel
theorem d7_5 : decode jdk_35_method_12_code 5 = .ok (.getstatic 13, 3) := by decide +kernel
theorem d7_8 : decode jdk_35_method_12_code 8 = .ok (.ifCond .eq 24, 3) := by decide +kernel
theorem d7_11 : decode jdk_35_method_12_code 11 = .ok (.iload_n 2, 1) := by decide +kernel
theorem d7_12 : decode jdk_35_method_12_code 12 = .ok (.newarray .byte, 2) := by decide +kernel
theorem d7_14 : decode jdk_35_method_12_code 14 = .ok (.astore_n 3, 1) := by decide +kernel
theorem d7_15 : decode jdk_35_method_12_code 15 = .ok (.lload_n 0, 1) := by decide +kernel
theorem d7_16 : decode jdk_35_method_12_code 16 = .ok (.iload_n 2, 1) := by decide +kernel
theorem d7_17 : decode jdk_35_method_12_code 17 = .ok (.aload_n 3, 1) := by decide +kernel
theorem d7_18 : decode jdk_35_method_12_code 18 = .ok (.invokestatic 121, 3) := by decide +kernel
theorem d7_21 : decode jdk_35_method_12_code 21 = .ok (.pop, 1) := by decide +kernel
theorem d7_22 : decode jdk_35_method_12_code 22 = .ok (.new 5, 3) := by decide +kernel
theorem d7_25 : decode jdk_35_method_12_code 25 = .ok (.dup, 1) := by decide +kernel
theorem d7_26 : decode jdk_35_method_12_code 26 = .ok (.aload_n 3, 1) := by decide +kernel
theorem d7_27 : decode jdk_35_method_12_code 27 = .ok (.iconst 0, 1) := by decide +kernel
theorem d7_28 : decode jdk_35_method_12_code 28 = .ok (.invokespecial 112, 3) := by decide +kernel
theorem d7_31 : decode jdk_35_method_12_code 31 = .ok (.areturn, 1) := by decide +kernel
theorem d7_32 : decode jdk_35_method_12_code 32 = .ok (.iload_n 2, 1) := by decide +kernel
theorem d7_33 : decode jdk_35_method_12_code 33 = .ok (.iconst 2, 1) := by decide +kernel
theorem d7_34 : decode jdk_35_method_12_code 34 = .ok (.imul, 1) := by decide +kernel
theorem d7_35 : decode jdk_35_method_12_code 35 = .ok (.newarray .byte, 2) := by decide +kernel
theorem d7_37 : decode jdk_35_method_12_code 37 = .ok (.astore_n 3, 1) := by decide +kernel
theorem d7_38 : decode jdk_35_method_12_code 38 = .ok (.lload_n 0, 1) := by decide +kernel
theorem d7_39 : decode jdk_35_method_12_code 39 = .ok (.iload_n 2, 1) := by decide +kernel
theorem d7_40 : decode jdk_35_method_12_code 40 = .ok (.aload_n 3, 1) := by decide +kernel
theorem d7_41 : decode jdk_35_method_12_code 41 = .ok (.invokestatic 125, 3) := by decide +kernel
theorem d7_44 : decode jdk_35_method_12_code 44 = .ok (.pop, 1) := by decide +kernel
theorem d7_45 : decode jdk_35_method_12_code 45 = .ok (.new 5, 3) := by decide +kernel
theorem d7_48 : decode jdk_35_method_12_code 48 = .ok (.dup, 1) := by decide +kernel
theorem d7_49 : decode jdk_35_method_12_code 49 = .ok (.aload_n 3, 1) := by decide +kernel
theorem d7_50 : decode jdk_35_method_12_code 50 = .ok (.iconst 1, 1) := by decide +kernel
theorem d7_51 : decode jdk_35_method_12_code 51 = .ok (.invokespecial 112, 3) := by decide +kernel
theorem d7_54 : decode jdk_35_method_12_code 54 = .ok (.areturn, 1) := by decide +kernel
theorem pn_rm7 : plainName "java/lang/Long" = true := by first | (simp [plainName, overriddenIn]; done) | decide +kernel
theorem ef_rm7 (m : MethodId) (q1 : Int64) : entryFrame m #[(.long q1)] 4 = mkF m 0 #[.val (.long q1), .second, .unset, .unset] [] := by first | (simp [entryFrame, mkF, argsToLocals, Value.category]; done) | rfl
def Q7 (Z : State) (q1 : Int64) (zc : Int32) (ad : Addr) (h0 : Heap) (n0 : Nat) (v : Option Value) (h : Heap) (L : List Loc) : Prop := ∃ r t : Addr, v = some (.ref r) ∧ Fr n0 L ∧ Keep h0 h [] ∧ h0.size ≤ r ∧ h0.size ≤ t ∧ Exa Z h r "java/lang/String" ∧ Fld Z h r "java/lang/String" "coder" "B" (.int (0 : Int32)) ∧ Fld Z h r "java/lang/String" "value" "[B" (.ref t) ∧ Afn Z h t .byte (1 : Int32) (fun k => .int (dgB q1)) ∧ Exa Z h t "[B"
theorem pd_0 : parseMethodDescriptor "(J)I" = some ⟨[.long], some .int⟩ := by decide +kernel
theorem pd_1 : parseMethodDescriptor "(JI[B)I" = some ⟨[.long, .int, (.array .byte)], some .int⟩ := by decide +kernel
theorem pd_2 : parseMethodDescriptor "([BB)V" = some ⟨[(.array .byte), .byte], none⟩ := by decide +kernel
set_option maxRecDepth 65536 in
set_option maxHeartbeats 40000000 in
theorem rm7 (l : Launch) (Z : State) (a0 : Array Value) (hw : ∀ d ∈ tables_1, d.before a0 Z = true) (ws : List Jvm.Cond) (q1 : Int64) (zc : Int32) (ad : Addr) (h0 : Heap) (n0 : Nat) (Z0 : n0 ≤ h0.size) (hq : DgL q1) (SC : Sta Z Z.heap "java/lang/String" "COMPACT_STRINGS" "Z" (.int zc)) (hzc : ¬ zc = (0 : Int32)) (O : Old Z n0 h0) (SD : Sta Z Z.heap "java/lang/Integer" "DigitOnes" "[B" (.ref ad)) (AD : Afn Z Z.heap ad .byte (100 : Int32) (fun k => .int ((48 : Int32) + Int32.ofNat k % 10))) :
    Con l Z (⟨"java/lang/Long", "toString", "(J)Ljava/lang/String;"⟩ : MethodName) jdk_35_method_12_code 4 (some (.object "java/lang/String")) ws ({ frames := 2, cells := 2, slots := 5, locals := 30 } : Room) #[(.long q1)] h0 (Q7 Z q1 zc ad h0 n0) := by
  refine Con.of (plainFor_of_name pn_rm7) ?_
  intro p e s m below meth c s₁ hZ e0 X0 hx hby hml hown hnm hret hlk
  replace hml : c.maxLocals = 4 := hml
  have hown : s.vm.findClass "java/lang/Long" = some m.cls := hown
  have N0 : Fr n0 [] := Fr.nil n0
  obtain ⟨PP, hPP⟩ : ∃ P, P = Fine s below (Q7 Z q1 zc ad h0 n0) ({ frames := 2, cells := 2, slots := 5, locals := 30 } : Room).cells ({ frames := 2, cells := 2, slots := 5, locals := 30 } : Room).slots := ⟨_, rfl⟩
  rw [← hPP]
  refine Go.cast (ef_rm7 m q1) ?_
  have K : Keep h0 h0 [] := Keep.refl h0 _
  have Zn : n0 ≤ h0.size := Z0
  show Go p.tables e below PP (s₁.setTop (mkF m 0 #[.val (.long q1), .second, .unset, .unset] []))
  refine Go.st (fun t k => XS.lloadN X0.here hx rfl (hb hby d7_0) rfl k) ?_
  show Go p.tables e below PP (s₁.setTop (mkF m 1 #[.val (.long q1), .second, .unset, .unset] [(.long q1)]))
  obtain ⟨v1, T1, L1, X1, hQ1, st1⟩ := callSt X0 hx hZ (y := (⟨"java/lang/Long", "stringSize", "(J)I"⟩ : MethodName)) (argsL := [(.long q1)]) (rest := []) hown (hw _ (List.mem_of_getElem? (i := 35) rfl)) (hw _ (List.mem_of_getElem? (i := 36) rfl)) (hw _ (List.mem_of_getElem? (i := 33) rfl)) (hw _ (List.mem_of_getElem? (i := 37) rfl)) (by decide) (rm8 l Z a0 hw [] q1 h0 n0 Zn hq) e0 0 (by decide) (by decide) (by decide) (by decide) (g := (mkF m 1 #[.val (.long q1), .second, .unset, .unset] [(.long q1)])) rfl (by rw [hml]; rfl) (lenOf pd_0 rfl) rfl (by show 2 * 0 + _ ≤ _; exact Nat.le_of_eq rfl) (hb hby d7_1)
  obtain ⟨rfl, rfl, e1⟩ := hQ1
  rw [List.append_nil] at X1
  refine Go.st st1 ?_
  show Go p.tables e below PP (T1.setTop (mkF m 4 #[.val (.long q1), .second, .unset, .unset] [(.int (1 : Int32))]))
  refine Go.st (fun t k => XS.istoreN X1.here hx rfl (hb hby d7_4) rfl (l' := #[.val (.long q1), .second, .val (.int (1 : Int32)), .unset]) rfl k) ?_
  show Go p.tables e below PP (T1.setTop (mkF m 5 #[.val (.long q1), .second, .val (.int (1 : Int32)), .unset] []))
  obtain ⟨T2, X2, e2, st2⟩ := getS2 X1 hx hZ hown (host := "") (Or.inl (hw _ (List.mem_of_getElem? (i := 39) rfl))) Via.refl e1 (SC.ext O.2) (g := (mkF m 5 #[.val (.long q1), .second, .val (.int (1 : Int32)), .unset] [])) rfl (hb hby d7_5)
  refine Go.st st2 ?_
  show Go p.tables e below PP (T2.setTop (mkF m 8 #[.val (.long q1), .second, .val (.int (1 : Int32)), .unset] [(.int zc)]))
  refine Go.st (fun t k => XS.ifNo X2.here hx rfl (hb hby d7_8) rfl (XT.i0_eq_f hzc) k) ?_
  show Go p.tables e below PP (T2.setTop (mkF m 11 #[.val (.long q1), .second, .val (.int (1 : Int32)), .unset] []))
  refine Go.st (fun t k => XS.iloadN X2.here hx rfl (hb hby d7_11) rfl k) ?_
  show Go p.tables e below PP (T2.setTop (mkF m 12 #[.val (.long q1), .second, .val (.int (1 : Int32)), .unset] [(.int (1 : Int32))]))
  obtain ⟨T3, h3, k3, X3, e3, E3, A3, Ex3, st3⟩ := newPE X2 hx hZ (hw _ (List.mem_of_getElem? (i := 9) rfl)) e2 (g := (mkF m 12 #[.val (.long q1), .second, .val (.int (1 : Int32)), .unset] [(.int (1 : Int32))])) rfl (hb hby d7_12) rfl (by decide) (cap := 1) (by decide) (by decide) (by decide) (by decide) (ad := "[B") (by decide)
  obtain ⟨b3, gz3⟩ : ∃ z, z = h0.size := ⟨_, rfl⟩
  rw [← gz3] at A3 Ex3 st3
  have g_b3 : n0 ≤ b3 := Nat.le_trans Zn (Nat.le_of_eq gz3.symm)
  have sz_b3 : h0.size ≤ b3 := Nat.le_trans K.1 (Nat.le_of_eq gz3.symm)
  refine Go.st st3 ?_
  replace O := O.ext E3
  replace K := K.ext E3
  replace Zn := Nat.le_trans Zn E3.1
  have V_b3 : Afn Z h3 b3 .byte (1 : Int32) (fun _ => (.int (0 : Int32))) := Afn.new A3 (by decide)
  show Go p.tables e below PP (T3.setTop (mkF m 14 #[.val (.long q1), .second, .val (.int (1 : Int32)), .unset] [(.ref b3)]))
  refine Go.st (fun t k => XS.astoreN X3.here hx rfl (hb hby d7_14) rfl rfl (l' := #[.val (.long q1), .second, .val (.int (1 : Int32)), .val (.ref b3)]) rfl k) ?_
  show Go p.tables e below PP (T3.setTop (mkF m 15 #[.val (.long q1), .second, .val (.int (1 : Int32)), .val (.ref b3)] []))
  refine Go.st (fun t k => XS.lloadN X3.here hx rfl (hb hby d7_15) rfl k) ?_
  show Go p.tables e below PP (T3.setTop (mkF m 16 #[.val (.long q1), .second, .val (.int (1 : Int32)), .val (.ref b3)] [(.long q1)]))
  refine Go.st (fun t k => XS.iloadN X3.here hx rfl (hb hby d7_16) rfl k) ?_
  show Go p.tables e below PP (T3.setTop (mkF m 17 #[.val (.long q1), .second, .val (.int (1 : Int32)), .val (.ref b3)] [(.int (1 : Int32)), (.long q1)]))
  refine Go.st (fun t k => XS.aloadN X3.here hx rfl (hb hby d7_17) rfl rfl k) ?_
  show Go p.tables e below PP (T3.setTop (mkF m 18 #[.val (.long q1), .second, .val (.int (1 : Int32)), .val (.ref b3)] [(.ref b3), (.int (1 : Int32)), (.long q1)]))
  obtain ⟨v4, T4, L4, X4, hQ4, st4⟩ := callSt X3 hx hZ (y := (⟨"java/lang/Long", "getChars", "(JI[B)I"⟩ : MethodName)) (argsL := [(.long q1), (.int (1 : Int32)), (.ref b3)]) (rest := []) hown (hw _ (List.mem_of_getElem? (i := 41) rfl)) (hw _ (List.mem_of_getElem? (i := 42) rfl)) (hw _ (List.mem_of_getElem? (i := 33) rfl)) (hw _ (List.mem_of_getElem? (i := 43) rfl)) (by decide) (rm9 l Z a0 hw [] q1 b3 ad h3 n0 Zn hq V_b3 g_b3 SD AD O) e3 0 (by decide) (by decide) (by decide) (by decide) (g := (mkF m 18 #[.val (.long q1), .second, .val (.int (1 : Int32)), .val (.ref b3)] [(.ref b3), (.int (1 : Int32)), (.long q1)])) rfl (by rw [hml]; rfl) (lenOf pd_1 rfl) rfl (by show 2 * 0 + _ ≤ _; exact Nat.le_of_eq rfl) (hb hby d7_18)
  obtain ⟨h4, e4⟩ : ∃ z, T4.heap = z := ⟨_, rfl⟩
  rw [e4] at hQ4
  obtain ⟨rfl, Nq4, Kq4, Fq4_0⟩ := hQ4
  have N4 := Fr.app N0 Nq4
  replace Ex3 := Ex3.keep Kq4
  clear V_b3
  replace O := O.keep Kq4 (allS g_b3 all0)
  replace K := K.trans Kq4 (allS (Or.inr sz_b3) all0)
  replace Zn := Nat.le_trans Zn Kq4.1
  have V_b3 := Fq4_0
  refine Go.st st4 ?_
  show Go p.tables e below PP (T4.setTop (mkF m 21 #[.val (.long q1), .second, .val (.int (1 : Int32)), .val (.ref b3)] [(.int (0 : Int32))]))
  refine Go.st (fun t k => XS.pop X4.here hx rfl (hb hby d7_21) rfl rfl k) ?_
  show Go p.tables e below PP (T4.setTop (mkF m 22 #[.val (.long q1), .second, .val (.int (1 : Int32)), .val (.ref b3)] []))
  obtain ⟨T5, h5, X5, e5, E5, A5, D5, U5, st5⟩ := newO X4 hx hZ hown (hw _ (List.mem_of_getElem? (i := 47) rfl)) (hw _ (List.mem_of_getElem? (i := 48) rfl)) (hw _ (List.mem_of_getElem? (i := 40) rfl)) e4 (g := (mkF m 22 #[.val (.long q1), .second, .val (.int (1 : Int32)), .val (.ref b3)] [])) rfl (hb hby d7_22) (by decide) (by decide)
  obtain ⟨b5, gz5⟩ : ∃ z, z = h4.size := ⟨_, rfl⟩
  rw [← gz5] at A5 D5 U5 st5
  have ne_b3_b5 : b3 ≠ b5 := Nat.ne_of_lt (Nat.lt_of_lt_of_le Ex3.lt (Nat.le_of_eq gz5.symm))
  have g_b5 : n0 ≤ b5 := Nat.le_trans Zn (Nat.le_of_eq gz5.symm)
  have sz_b5 : h0.size ≤ b5 := Nat.le_trans K.1 (Nat.le_of_eq gz5.symm)
  refine Go.st st5 ?_
  replace Ex3 := Ex3.ext E5
  replace V_b3 := V_b3.ext E5
  replace O := O.ext E5
  replace K := K.ext E5
  replace Zn := Nat.le_trans Zn E5.1
  have E_b5 := A5
  have F_value_b5 : Fld Z h5 b5 "java/lang/String" "value" "[B" .null := D5 (Or.inr (hw _ (List.mem_of_getElem? (i := 55) rfl))) (ty := (.array .byte)) (by decide)
  have F_coder_b5 : Fld Z h5 b5 "java/lang/String" "coder" "B" (.int (0 : Int32)) := D5 (Or.inr (hw _ (List.mem_of_getElem? (i := 57) rfl))) (ty := .byte) (by decide)
  show Go p.tables e below PP (T5.setTop (mkF m 25 #[.val (.long q1), .second, .val (.int (1 : Int32)), .val (.ref b3)] [(.ref b5)]))
  refine Go.st (fun t k => XS.dup X5.here hx rfl (hb hby d7_25) rfl rfl k) ?_
  show Go p.tables e below PP (T5.setTop (mkF m 26 #[.val (.long q1), .second, .val (.int (1 : Int32)), .val (.ref b3)] [(.ref b5), (.ref b5)]))
  refine Go.st (fun t k => XS.aloadN X5.here hx rfl (hb hby d7_26) rfl rfl k) ?_
  show Go p.tables e below PP (T5.setTop (mkF m 27 #[.val (.long q1), .second, .val (.int (1 : Int32)), .val (.ref b3)] [(.ref b3), (.ref b5), (.ref b5)]))
  refine Go.st (fun t k => XS.iconst X5.here hx rfl (hb hby d7_27) k) ?_
  show Go p.tables e below PP (T5.setTop (mkF m 28 #[.val (.long q1), .second, .val (.int (1 : Int32)), .val (.ref b3)] [(.int (0 : Int32)), (.ref b3), (.ref b5), (.ref b5)]))
  obtain ⟨v6, T6, L6, X6, hQ6, st6⟩ := callIn X5 hx hZ (y := (⟨"java/lang/String", "<init>", "([BB)V"⟩ : MethodName)) (a := b5) (argsL := [(.ref b3), (.int (0 : Int32))]) (rest := [(.ref b5)]) rfl hown (hw _ (List.mem_of_getElem? (i := 49) rfl)) (hw _ (List.mem_of_getElem? (i := 50) rfl)) (hw _ (List.mem_of_getElem? (i := 40) rfl)) (hw _ (List.mem_of_getElem? (i := 52) rfl)) (by decide) (rm10 l Z a0 hw [] b5 b3 h5 n0 Zn E_b5 F_value_b5 F_coder_b5 g_b5) e5 1 (by decide) (by decide) (by decide) (by decide) (g := (mkF m 28 #[.val (.long q1), .second, .val (.int (1 : Int32)), .val (.ref b3)] [(.int (0 : Int32)), (.ref b3), (.ref b5), (.ref b5)])) rfl (by rw [hml]; rfl) (lenOf pd_2 rfl) rfl (by show 2 * 0 + _ ≤ _; exact Nat.le_of_eq rfl) (hb hby d7_28)
  obtain ⟨h6, e6⟩ : ∃ z, T6.heap = z := ⟨_, rfl⟩
  rw [e6] at hQ6
  obtain ⟨rfl, Nq6, Kq6, Fq6_0, Fq6_1⟩ := hQ6
  have N6 := Fr.app N4 Nq6
  replace Ex3 := Ex3.keep Kq6
  replace V_b3 := V_b3.keep Kq6 (ninS ne_b3_b5 nin0)
  replace E_b5 := E_b5.keep Kq6
  clear F_value_b5
  clear F_coder_b5
  replace O := O.keep Kq6 (allS g_b5 all0)
  replace K := K.trans Kq6 (allS (Or.inr sz_b5) all0)
  replace Zn := Nat.le_trans Zn Kq6.1
  have F_value_b5 := Fq6_0
  have F_coder_b5 := Fq6_1
  refine Go.st st6 ?_
  show Go p.tables e below PP (T6.setTop (mkF m 31 #[.val (.long q1), .second, .val (.int (1 : Int32)), .val (.ref b3)] [(.ref b5)]))
  rw [hPP]
  refine endR X6 hx hlk hret rfl rfl (hb hby d7_31) ?_ (by decide) (by decide)
  show Q7 Z q1 zc ad h0 n0 (some (.ref b5)) T6.heap _
  rw [e6]
  exact ⟨b5, b3, rfl, N6, K, sz_b5, sz_b3, E_b5, F_coder_b5, F_value_b5, V_b3, Ex3⟩
theorem d17_0 : decode jdk_123_method_3_code 0 = .ok (.iload_n 1, 1) := by decide +kernel
theorem d17_1 : decode jdk_123_method_3_code 1 = .ok (.iload_n 2, 1) := by decide +kernel
theorem d17_2 : decode jdk_123_method_3_code 2 = .ok (.iadd, 1) := by decide +kernel
theorem d17_3 : decode jdk_123_method_3_code 3 = .ok (.istore_n 3, 1) := by decide +kernel
theorem d17_4 : decode jdk_123_method_3_code 4 = .ok (.iload_n 1, 1) := by decide +kernel
theorem d17_5 : decode jdk_123_method_3_code 5 = .ok (.istore 4, 2) := by decide +kernel
theorem d17_7 : decode jdk_123_method_3_code 7 = .ok (.iload 4, 2) := by decide +kernel
theorem d17_9 : decode jdk_123_method_3_code 9 = .ok (.iload_n 3, 1) := by decide +kernel
theorem d17_10 : decode jdk_123_method_3_code 10 = .ok (.if_icmp .ge 21, 3) := by decide +kernel
theorem d17_13 : decode jdk_123_method_3_code 13 = .ok (.aload_n 0, 1) := by decide +kernel
theorem d17_14 : decode jdk_123_method_3_code 14 = .ok (.iload 4, 2) := by decide +kernel
theorem d17_16 : decode jdk_123_method_3_code 16 = .ok (.baload, 1) := by decide +kernel
theorem d17_17 : decode jdk_123_method_3_code 17 = .ok (.ifCond .ge 8, 3) := by decide +kernel
theorem d17_20 : decode jdk_123_method_3_code 20 = .ok (.iload 4, 2) := by decide +kernel
theorem d17_22 : decode jdk_123_method_3_code 22 = .ok (.iload_n 1, 1) := by decide +kernel
theorem d17_23 : decode jdk_123_method_3_code 23 = .ok (.isub, 1) := by decide +kernel
theorem d17_24 : decode jdk_123_method_3_code 24 = .ok (.ireturn, 1) := by decide +kernel
theorem d17_25 : decode jdk_123_method_3_code 25 = .ok (.iinc 4 1, 3) := by decide +kernel
theorem d17_28 : decode jdk_123_method_3_code 28 = .ok (.goto (-21), 3) := by decide +kernel
theorem d17_31 : decode jdk_123_method_3_code 31 = .ok (.iload_n 2, 1) := by decide +kernel
theorem d17_32 : decode jdk_123_method_3_code 32 = .ok (.ireturn, 1) := by decide +kernel
theorem pn_rm17 : plainName "java/lang/StringCoding" = true := by first | (simp [plainName, overriddenIn]; done) | decide +kernel
theorem ef_rm17 (m : MethodId) (a1 : Addr) : entryFrame m #[(.ref a1), (.int (0 : Int32)), (.int (1 : Int32))] 5 = mkF m 0 #[.val (.ref a1), .val (.int (0 : Int32)), .val (.int (1 : Int32)), .unset, .unset] [] := by first | (simp [entryFrame, mkF, argsToLocals, Value.category]; done) | rfl
def Q17 (Z : State) (a1 : Addr) (bb : Int32) (h0 : Heap) (n0 : Nat) (v : Option Value) (h : Heap) (L : List Loc) : Prop := v = some (.int (1 : Int32)) ∧ L = [] ∧ h = h0
set_option maxRecDepth 65536 in
set_option maxHeartbeats 40000000 in
theorem rm17 (l : Launch) (Z : State) (a0 : Array Value) (hw : ∀ d ∈ tables_1, d.before a0 Z = true) (ws : List Jvm.Cond) (a1 : Addr) (bb : Int32) (h0 : Heap) (n0 : Nat) (Z0 : n0 ≤ h0.size) (V_a1 : Afn Z h0 a1 .byte (1 : Int32) (fun k => .int (bb))) (hbb : ¬ bb < (0 : Int32)) :
    Con l Z (⟨"java/lang/StringCoding", "countPositives", "([BII)I"⟩ : MethodName) jdk_123_method_3_code 5 (some .int) ws ({ frames := 0, cells := 0, slots := 0, locals := 0 } : Room) #[(.ref a1), (.int (0 : Int32)), (.int (1 : Int32))] h0 (Q17 Z a1 bb h0 n0) := by
  refine Con.of (plainFor_of_name pn_rm17) ?_
  intro p e s m below meth c s₁ hZ e0 X0 hx hby hml hown hnm hret hlk
  replace hml : c.maxLocals = 5 := hml
  have hown : s.vm.findClass "java/lang/StringCoding" = some m.cls := hown
  have N0 : Fr n0 [] := Fr.nil n0
  obtain ⟨PP, hPP⟩ : ∃ P, P = Fine s below (Q17 Z a1 bb h0 n0) ({ frames := 0, cells := 0, slots := 0, locals := 0 } : Room).cells ({ frames := 0, cells := 0, slots := 0, locals := 0 } : Room).slots := ⟨_, rfl⟩
  rw [← hPP]
  refine Go.cast (ef_rm17 m a1) ?_
  have Zn : n0 ≤ h0.size := Z0
  show Go p.tables e below PP (s₁.setTop (mkF m 0 #[.val (.ref a1), .val (.int (0 : Int32)), .val (.int (1 : Int32)), .unset, .unset] []))
  refine Go.st (fun t k => XS.iloadN X0.here hx rfl (hb hby d17_0) rfl k) ?_
  show Go p.tables e below PP (s₁.setTop (mkF m 1 #[.val (.ref a1), .val (.int (0 : Int32)), .val (.int (1 : Int32)), .unset, .unset] [(.int (0 : Int32))]))
  refine Go.st (fun t k => XS.iloadN X0.here hx rfl (hb hby d17_1) rfl k) ?_
  show Go p.tables e below PP (s₁.setTop (mkF m 2 #[.val (.ref a1), .val (.int (0 : Int32)), .val (.int (1 : Int32)), .unset, .unset] [(.int (1 : Int32)), (.int (0 : Int32))]))
  refine Go.st (fun t k => XS.iadd X0.here hx rfl (hb hby d17_2) rfl k) ?_
  show Go p.tables e below PP (s₁.setTop (mkF m 3 #[.val (.ref a1), .val (.int (0 : Int32)), .val (.int (1 : Int32)), .unset, .unset] [(.int (1 : Int32))]))
  refine Go.st (fun t k => XS.istoreN X0.here hx rfl (hb hby d17_3) rfl (l' := #[.val (.ref a1), .val (.int (0 : Int32)), .val (.int (1 : Int32)), .val (.int (1 : Int32)), .unset]) rfl k) ?_
  show Go p.tables e below PP (s₁.setTop (mkF m 4 #[.val (.ref a1), .val (.int (0 : Int32)), .val (.int (1 : Int32)), .val (.int (1 : Int32)), .unset] []))
  refine Go.st (fun t k => XS.iloadN X0.here hx rfl (hb hby d17_4) rfl k) ?_
  show Go p.tables e below PP (s₁.setTop (mkF m 5 #[.val (.ref a1), .val (.int (0 : Int32)), .val (.int (1 : Int32)), .val (.int (1 : Int32)), .unset] [(.int (0 : Int32))]))
  refine Go.st (fun t k => XS.istore X0.here hx rfl (hb hby d17_5) rfl (l' := #[.val (.ref a1), .val (.int (0 : Int32)), .val (.int (1 : Int32)), .val (.int (1 : Int32)), .val (.int (0 : Int32))]) rfl k) ?_
  show Go p.tables e below PP (s₁.setTop (mkF m 7 #[.val (.ref a1), .val (.int (0 : Int32)), .val (.int (1 : Int32)), .val (.int (1 : Int32)), .val (.int (0 : Int32))] []))
  refine Go.st (fun t k => XS.iload X0.here hx rfl (hb hby d17_7) rfl k) ?_
  show Go p.tables e below PP (s₁.setTop (mkF m 9 #[.val (.ref a1), .val (.int (0 : Int32)), .val (.int (1 : Int32)), .val (.int (1 : Int32)), .val (.int (0 : Int32))] [(.int (0 : Int32))]))
  refine Go.st (fun t k => XS.iloadN X0.here hx rfl (hb hby d17_9) rfl k) ?_
  show Go p.tables e below PP (s₁.setTop (mkF m 10 #[.val (.ref a1), .val (.int (0 : Int32)), .val (.int (1 : Int32)), .val (.int (1 : Int32)), .val (.int (0 : Int32))] [(.int (1 : Int32)), (.int (0 : Int32))]))
  refine Go.st (fun t k => XS.icmpNo X0.here hx rfl (hb hby d17_10) rfl (XT.ii_ge_f (by decide)) k) ?_
  show Go p.tables e below PP (s₁.setTop (mkF m 13 #[.val (.ref a1), .val (.int (0 : Int32)), .val (.int (1 : Int32)), .val (.int (1 : Int32)), .val (.int (0 : Int32))] []))
  refine Go.st (fun t k => XS.aloadN X0.here hx rfl (hb hby d17_13) rfl rfl k) ?_
  show Go p.tables e below PP (s₁.setTop (mkF m 14 #[.val (.ref a1), .val (.int (0 : Int32)), .val (.int (1 : Int32)), .val (.int (1 : Int32)), .val (.int (0 : Int32))] [(.ref a1)]))
  refine Go.st (fun t k => XS.iload X0.here hx rfl (hb hby d17_14) rfl k) ?_
  show Go p.tables e below PP (s₁.setTop (mkF m 16 #[.val (.ref a1), .val (.int (0 : Int32)), .val (.int (1 : Int32)), .val (.int (1 : Int32)), .val (.int (0 : Int32))] [(.int (0 : Int32)), (.ref a1)]))
  obtain ⟨cl1, Ar1, S1, Nn1, H1⟩ := id V_a1
  have hin1 : ¬ ((0 : Int32) < 0 ∨ cl1.slots.size ≤ ((0 : Int32)).toNatClampNeg) := inb_of S1 ⟨by decide, by decide⟩
  refine Go.st (fun t k => X0.baloadBytes hx (j := (0 : Int32)) (v := (.int bb)) (by rw [e0]; exact Ar1.1) (State.isArrayOf_alike hZ.alike Ar1.2.1) Ar1.2.2 hin1 ((H1 _ (inbN ⟨by decide, by decide⟩)).1.trans (congrArg some (rfl))) (g := (mkF m 16 #[.val (.ref a1), .val (.int (0 : Int32)), .val (.int (1 : Int32)), .val (.int (1 : Int32)), .val (.int (0 : Int32))] [(.int (0 : Int32)), (.ref a1)])) rfl rfl (hb hby d17_16) _ k) ?_
  show Go p.tables e below PP (s₁.setTop (mkF m 17 #[.val (.ref a1), .val (.int (0 : Int32)), .val (.int (1 : Int32)), .val (.int (1 : Int32)), .val (.int (0 : Int32))] [(.int bb)]))
  refine Go.st (fun t k => XS.ifYes X0.here hx rfl (pc0 := 17) (pc' := 25) rfl (hb hby d17_17) rfl (XT.i0_ge_t hbb) (by decide) (by decide) k) ?_
  show Go p.tables e below PP (s₁.setTop (mkF m 25 #[.val (.ref a1), .val (.int (0 : Int32)), .val (.int (1 : Int32)), .val (.int (1 : Int32)), .val (.int (0 : Int32))] []))
  refine Go.st (fun t k => XS.iinc X0.here hx rfl (hb hby d17_25) rfl (l' := #[.val (.ref a1), .val (.int (0 : Int32)), .val (.int (1 : Int32)), .val (.int (1 : Int32)), .val (.int (1 : Int32))]) rfl k) ?_
  show Go p.tables e below PP (s₁.setTop (mkF m 28 #[.val (.ref a1), .val (.int (0 : Int32)), .val (.int (1 : Int32)), .val (.int (1 : Int32)), .val (.int (1 : Int32))] []))
  refine Go.st (fun t k => XS.goto X0.here hx rfl (pc0 := 28) (pc' := 7) rfl (hb hby d17_28) (by decide) (by decide) k) ?_
  show Go p.tables e below PP (s₁.setTop (mkF m 7 #[.val (.ref a1), .val (.int (0 : Int32)), .val (.int (1 : Int32)), .val (.int (1 : Int32)), .val (.int (1 : Int32))] []))
  refine Go.st (fun t k => XS.iload X0.here hx rfl (hb hby d17_7) rfl k) ?_
  show Go p.tables e below PP (s₁.setTop (mkF m 9 #[.val (.ref a1), .val (.int (0 : Int32)), .val (.int (1 : Int32)), .val (.int (1 : Int32)), .val (.int (1 : Int32))] [(.int (1 : Int32))]))
  refine Go.st (fun t k => XS.iloadN X0.here hx rfl (hb hby d17_9) rfl k) ?_
  show Go p.tables e below PP (s₁.setTop (mkF m 10 #[.val (.ref a1), .val (.int (0 : Int32)), .val (.int (1 : Int32)), .val (.int (1 : Int32)), .val (.int (1 : Int32))] [(.int (1 : Int32)), (.int (1 : Int32))]))
  refine Go.st (fun t k => XS.icmpYes X0.here hx rfl (pc0 := 10) (pc' := 31) rfl (hb hby d17_10) rfl (XT.ii_ge_t (by decide)) (by decide) (by decide) k) ?_
  show Go p.tables e below PP (s₁.setTop (mkF m 31 #[.val (.ref a1), .val (.int (0 : Int32)), .val (.int (1 : Int32)), .val (.int (1 : Int32)), .val (.int (1 : Int32))] []))
  refine Go.st (fun t k => XS.iloadN X0.here hx rfl (hb hby d17_31) rfl k) ?_
  show Go p.tables e below PP (s₁.setTop (mkF m 32 #[.val (.ref a1), .val (.int (0 : Int32)), .val (.int (1 : Int32)), .val (.int (1 : Int32)), .val (.int (1 : Int32))] [(.int (1 : Int32))]))
  rw [hPP]
  refine endI X0 hx hlk hret (hb hby d17_32) ?_ (by decide) (by decide)
  show Q17 Z a1 bb h0 n0 (some (.int (1 : Int32))) s₁.heap _
  rw [e0]
  exact ⟨rfl, rfl, rfl⟩
theorem d16_0 : decode jdk_123_method_2_code 0 = .ok (.aload_n 0, 1) := by decide +kernel
theorem d16_1 : decode jdk_123_method_2_code 1 = .ok (.iload_n 1, 1) := by decide +kernel
theorem d16_2 : decode jdk_123_method_2_code 2 = .ok (.iload_n 2, 1) := by decide +kernel
theorem d16_3 : decode jdk_123_method_2_code 3 = .ok (.invokestatic 7, 3) := by decide +kernel
theorem d16_6 : decode jdk_123_method_2_code 6 = .ok (.iload_n 2, 1) := by decide +kernel
theorem d16_7 : decode jdk_123_method_2_code 7 = .ok (.if_icmp .eq 7, 3) := by decide +kernel
theorem d16_10 : decode jdk_123_method_2_code 10 = .ok (.iconst 1, 1) := by decide +kernel
theorem d16_11 : decode jdk_123_method_2_code 11 = .ok (.goto 4, 3) := by decide +kernel
theorem d16_14 : decode jdk_123_method_2_code 14 = .ok (.iconst 0, 1) := by decide +kernel
theorem d16_15 : decode jdk_123_method_2_code 15 = .ok (.ireturn, 1) := by decide +kernel
theorem pn_rm16 : plainName "java/lang/StringCoding" = true := by first | (simp [plainName, overriddenIn]; done) | decide +kernel
theorem ef_rm16 (m : MethodId) (a1 : Addr) : entryFrame m #[(.ref a1), (.int (0 : Int32)), (.int (1 : Int32))] 3 = mkF m 0 #[.val (.ref a1), .val (.int (0 : Int32)), .val (.int (1 : Int32))] [] := by first | (simp [entryFrame, mkF, argsToLocals, Value.category]; done) | rfl
def Q16 (Z : State) (a1 : Addr) (bb : Int32) (h0 : Heap) (n0 : Nat) (v : Option Value) (h : Heap) (L : List Loc) : Prop := v = some (.int (0 : Int32)) ∧ L = [] ∧ h = h0
theorem pd_3 : parseMethodDescriptor "([BII)I" = some ⟨[(.array .byte), .int, .int], some .int⟩ := by decide +kernel
set_option maxRecDepth 65536 in
set_option maxHeartbeats 40000000 in
theorem rm16 (l : Launch) (Z : State) (a0 : Array Value) (hw : ∀ d ∈ tables_1, d.before a0 Z = true) (ws : List Jvm.Cond) (a1 : Addr) (bb : Int32) (h0 : Heap) (n0 : Nat) (Z0 : n0 ≤ h0.size) (V_a1 : Afn Z h0 a1 .byte (1 : Int32) (fun k => .int (bb))) (hbb : ¬ bb < (0 : Int32)) :
    Con l Z (⟨"java/lang/StringCoding", "hasNegatives", "([BII)Z"⟩ : MethodName) jdk_123_method_2_code 3 (some .boolean) ws ({ frames := 1, cells := 0, slots := 0, locals := 16 } : Room) #[(.ref a1), (.int (0 : Int32)), (.int (1 : Int32))] h0 (Q16 Z a1 bb h0 n0) := by
  refine Con.of (plainFor_of_name pn_rm16) ?_
  intro p e s m below meth c s₁ hZ e0 X0 hx hby hml hown hnm hret hlk
  replace hml : c.maxLocals = 3 := hml
  have hown : s.vm.findClass "java/lang/StringCoding" = some m.cls := hown
  have N0 : Fr n0 [] := Fr.nil n0
  obtain ⟨PP, hPP⟩ : ∃ P, P = Fine s below (Q16 Z a1 bb h0 n0) ({ frames := 1, cells := 0, slots := 0, locals := 16 } : Room).cells ({ frames := 1, cells := 0, slots := 0, locals := 16 } : Room).slots := ⟨_, rfl⟩
  rw [← hPP]
  refine Go.cast (ef_rm16 m a1) ?_
  have Zn : n0 ≤ h0.size := Z0
  show Go p.tables e below PP (s₁.setTop (mkF m 0 #[.val (.ref a1), .val (.int (0 : Int32)), .val (.int (1 : Int32))] []))
  refine Go.st (fun t k => XS.aloadN X0.here hx rfl (hb hby d16_0) rfl rfl k) ?_
  show Go p.tables e below PP (s₁.setTop (mkF m 1 #[.val (.ref a1), .val (.int (0 : Int32)), .val (.int (1 : Int32))] [(.ref a1)]))
  refine Go.st (fun t k => XS.iloadN X0.here hx rfl (hb hby d16_1) rfl k) ?_
  show Go p.tables e below PP (s₁.setTop (mkF m 2 #[.val (.ref a1), .val (.int (0 : Int32)), .val (.int (1 : Int32))] [(.int (0 : Int32)), (.ref a1)]))
  refine Go.st (fun t k => XS.iloadN X0.here hx rfl (hb hby d16_2) rfl k) ?_
  show Go p.tables e below PP (s₁.setTop (mkF m 3 #[.val (.ref a1), .val (.int (0 : Int32)), .val (.int (1 : Int32))] [(.int (1 : Int32)), (.int (0 : Int32)), (.ref a1)]))
  obtain ⟨v1, T1, L1, X1, hQ1, st1⟩ := callSt X0 hx hZ (y := (⟨"java/lang/StringCoding", "countPositives", "([BII)I"⟩ : MethodName)) (argsL := [(.ref a1), (.int (0 : Int32)), (.int (1 : Int32))]) (rest := []) hown (hw _ (List.mem_of_getElem? (i := 87) rfl)) (hw _ (List.mem_of_getElem? (i := 88) rfl)) (hw _ (List.mem_of_getElem? (i := 85) rfl)) (hw _ (List.mem_of_getElem? (i := 89) rfl)) (by decide) (rm17 l Z a0 hw [] a1 bb h0 n0 Zn V_a1 hbb) e0 0 (by decide) (by decide) (by decide) (by decide) (g := (mkF m 3 #[.val (.ref a1), .val (.int (0 : Int32)), .val (.int (1 : Int32))] [(.int (1 : Int32)), (.int (0 : Int32)), (.ref a1)])) rfl (by rw [hml]; rfl) (lenOf pd_3 rfl) rfl (by show 2 * 0 + _ ≤ _; exact Nat.le_of_eq rfl) (hb hby d16_3)
  obtain ⟨rfl, rfl, e1⟩ := hQ1
  rw [List.append_nil] at X1
  refine Go.st st1 ?_
  show Go p.tables e below PP (T1.setTop (mkF m 6 #[.val (.ref a1), .val (.int (0 : Int32)), .val (.int (1 : Int32))] [(.int (1 : Int32))]))
  refine Go.st (fun t k => XS.iloadN X1.here hx rfl (hb hby d16_6) rfl k) ?_
  show Go p.tables e below PP (T1.setTop (mkF m 7 #[.val (.ref a1), .val (.int (0 : Int32)), .val (.int (1 : Int32))] [(.int (1 : Int32)), (.int (1 : Int32))]))
  refine Go.st (fun t k => XS.icmpYes X1.here hx rfl (pc0 := 7) (pc' := 14) rfl (hb hby d16_7) rfl (XT.ii_eq_t (by decide)) (by decide) (by decide) k) ?_
  show Go p.tables e below PP (T1.setTop (mkF m 14 #[.val (.ref a1), .val (.int (0 : Int32)), .val (.int (1 : Int32))] []))
  refine Go.st (fun t k => XS.iconst X1.here hx rfl (hb hby d16_14) k) ?_
  show Go p.tables e below PP (T1.setTop (mkF m 15 #[.val (.ref a1), .val (.int (0 : Int32)), .val (.int (1 : Int32))] [(.int (0 : Int32))]))
  rw [hPP]
  refine endN X1 hx hlk (t := .boolean) hret (by simp) (hb hby d16_15) (w := (0 : Int32)) (rfl) ?_ (by decide) (by decide)
  show Q16 Z a1 bb h0 n0 (some (.int (0 : Int32))) T1.heap _
  rw [e1]
  exact ⟨rfl, rfl, rfl⟩
theorem d15_0 : decode jdk_42_method_46_code 0 = .ok (.iload_n 0, 1) := by decide +kernel
theorem d15_1 : decode jdk_42_method_46_code 1 = .ok (.iconst 1, 1) := by decide +kernel
theorem d15_2 : decode jdk_42_method_46_code 2 = .ok (.if_icmp .ne 9, 3) := by decide +kernel
theorem d15_5 : decode jdk_42_method_46_code 5 = .ok (.aload_n 1, 1) := by decide +kernel
theorem d15_6 : decode jdk_42_method_46_code 6 = .ok (.iload_n 2, 1) := by decide +kernel
theorem d15_7 : decode jdk_42_method_46_code 7 = .ok (.invokestatic 473, 3) := by decide +kernel
theorem d15_10 : decode jdk_42_method_46_code 10 = .ok (.areturn, 1) := by decide +kernel
theorem d15_11 : decode jdk_42_method_46_code 11 = .ok (.aload_n 1, 1) := by decide +kernel
theorem d15_12 : decode jdk_42_method_46_code 12 = .ok (.iconst 0, 1) := by decide +kernel
theorem d15_13 : decode jdk_42_method_46_code 13 = .ok (.aload_n 1, 1) := by decide +kernel
theorem d15_14 : decode jdk_42_method_46_code 14 = .ok (.arraylength, 1) := by decide +kernel
theorem d15_15 : decode jdk_42_method_46_code 15 = .ok (.invokestatic 128, 3) := by decide +kernel
theorem d15_18 : decode jdk_42_method_46_code 18 = .ok (.ifCond .ne 11, 3) := by decide +kernel
theorem d15_21 : decode jdk_42_method_46_code 21 = .ok (.aload_n 1, 1) := by decide +kernel
theorem d15_22 : decode jdk_42_method_46_code 22 = .ok (.invokevirtual 279, 3) := by decide +kernel
theorem d15_25 : decode jdk_42_method_46_code 25 = .ok (.checkcast 280, 3) := by decide +kernel
theorem d15_28 : decode jdk_42_method_46_code 28 = .ok (.areturn, 1) := by decide +kernel
theorem d15_29 : decode jdk_42_method_46_code 29 = .ok (.iconst 0, 1) := by decide +kernel
theorem d15_30 : decode jdk_42_method_46_code 30 = .ok (.istore_n 3, 1) := by decide +kernel
theorem d15_31 : decode jdk_42_method_46_code 31 = .ok (.aload_n 1, 1) := by decide +kernel
theorem d15_32 : decode jdk_42_method_46_code 32 = .ok (.arraylength, 1) := by decide +kernel
theorem d15_33 : decode jdk_42_method_46_code 33 = .ok (.invokestatic 60, 3) := by decide +kernel
theorem d15_36 : decode jdk_42_method_46_code 36 = .ok (.astore 4, 2) := by decide +kernel
theorem d15_38 : decode jdk_42_method_46_code 38 = .ok (.aload_n 1, 1) := by decide +kernel
theorem d15_39 : decode jdk_42_method_46_code 39 = .ok (.astore 5, 2) := by decide +kernel
theorem d15_41 : decode jdk_42_method_46_code 41 = .ok (.aload 5, 2) := by decide +kernel
theorem d15_43 : decode jdk_42_method_46_code 43 = .ok (.arraylength, 1) := by decide +kernel
theorem d15_44 : decode jdk_42_method_46_code 44 = .ok (.istore 6, 2) := by decide +kernel
theorem d15_46 : decode jdk_42_method_46_code 46 = .ok (.iconst 0, 1) := by decide +kernel
theorem d15_47 : decode jdk_42_method_46_code 47 = .ok (.istore 7, 2) := by decide +kernel
theorem d15_49 : decode jdk_42_method_46_code 49 = .ok (.iload 7, 2) := by decide +kernel
theorem d15_51 : decode jdk_42_method_46_code 51 = .ok (.iload 6, 2) := by decide +kernel
theorem d15_53 : decode jdk_42_method_46_code 53 = .ok (.if_icmp .ge 71, 3) := by decide +kernel
theorem d15_56 : decode jdk_42_method_46_code 56 = .ok (.aload 5, 2) := by decide +kernel
theorem d15_58 : decode jdk_42_method_46_code 58 = .ok (.iload 7, 2) := by decide +kernel
theorem d15_60 : decode jdk_42_method_46_code 60 = .ok (.baload, 1) := by decide +kernel
theorem d15_61 : decode jdk_42_method_46_code 61 = .ok (.istore 8, 2) := by decide +kernel
theorem d15_63 : decode jdk_42_method_46_code 63 = .ok (.iload 8, 2) := by decide +kernel
theorem d15_65 : decode jdk_42_method_46_code 65 = .ok (.ifCond .ge 44, 3) := by decide +kernel
theorem d15_68 : decode jdk_42_method_46_code 68 = .ok (.aload 4, 2) := by decide +kernel
theorem d15_70 : decode jdk_42_method_46_code 70 = .ok (.iload_n 3, 1) := by decide +kernel
theorem d15_71 : decode jdk_42_method_46_code 71 = .ok (.iinc 3 1, 3) := by decide +kernel
theorem d15_74 : decode jdk_42_method_46_code 74 = .ok (.sipush 192, 3) := by decide +kernel
theorem d15_77 : decode jdk_42_method_46_code 77 = .ok (.iload 8, 2) := by decide +kernel
theorem d15_79 : decode jdk_42_method_46_code 79 = .ok (.sipush 255, 3) := by decide +kernel
theorem d15_82 : decode jdk_42_method_46_code 82 = .ok (.iand, 1) := by decide +kernel
theorem d15_83 : decode jdk_42_method_46_code 83 = .ok (.bipush 6, 2) := by decide +kernel
theorem d15_85 : decode jdk_42_method_46_code 85 = .ok (.ishr, 1) := by decide +kernel
theorem d15_86 : decode jdk_42_method_46_code 86 = .ok (.ior, 1) := by decide +kernel
theorem d15_87 : decode jdk_42_method_46_code 87 = .ok (.i2b, 1) := by decide +kernel
theorem d15_88 : decode jdk_42_method_46_code 88 = .ok (.bastore, 1) := by decide +kernel
theorem d15_89 : decode jdk_42_method_46_code 89 = .ok (.aload 4, 2) := by decide +kernel
theorem d15_91 : decode jdk_42_method_46_code 91 = .ok (.iload_n 3, 1) := by decide +kernel
theorem d15_92 : decode jdk_42_method_46_code 92 = .ok (.iinc 3 1, 3) := by decide +kernel
theorem d15_95 : decode jdk_42_method_46_code 95 = .ok (.sipush 128, 3) := by decide +kernel
theorem d15_98 : decode jdk_42_method_46_code 98 = .ok (.iload 8, 2) := by decide +kernel
theorem d15_100 : decode jdk_42_method_46_code 100 = .ok (.bipush 63, 2) := by decide +kernel
theorem d15_102 : decode jdk_42_method_46_code 102 = .ok (.iand, 1) := by decide +kernel
theorem d15_103 : decode jdk_42_method_46_code 103 = .ok (.ior, 1) := by decide +kernel
theorem d15_104 : decode jdk_42_method_46_code 104 = .ok (.i2b, 1) := by decide +kernel
theorem d15_105 : decode jdk_42_method_46_code 105 = .ok (.bastore, 1) := by decide +kernel
theorem d15_106 : decode jdk_42_method_46_code 106 = .ok (.goto 12, 3) := by decide +kernel
theorem d15_109 : decode jdk_42_method_46_code 109 = .ok (.aload 4, 2) := by decide +kernel
theorem d15_111 : decode jdk_42_method_46_code 111 = .ok (.iload_n 3, 1) := by decide +kernel
theorem d15_112 : decode jdk_42_method_46_code 112 = .ok (.iinc 3 1, 3) := by decide +kernel
theorem d15_115 : decode jdk_42_method_46_code 115 = .ok (.iload 8, 2) := by decide +kernel
theorem d15_117 : decode jdk_42_method_46_code 117 = .ok (.bastore, 1) := by decide +kernel
theorem d15_118 : decode jdk_42_method_46_code 118 = .ok (.iinc 7 1, 3) := by decide +kernel
theorem d15_121 : decode jdk_42_method_46_code 121 = .ok (.goto (-72), 3) := by decide +kernel
theorem d15_124 : decode jdk_42_method_46_code 124 = .ok (.iload_n 3, 1) := by decide +kernel
theorem d15_125 : decode jdk_42_method_46_code 125 = .ok (.aload 4, 2) := by decide +kernel
theorem d15_127 : decode jdk_42_method_46_code 127 = .ok (.arraylength, 1) := by decide +kernel
theorem d15_128 : decode jdk_42_method_46_code 128 = .ok (.if_icmp .ne 6, 3) := by decide +kernel
theorem d15_131 : decode jdk_42_method_46_code 131 = .ok (.aload 4, 2) := by decide +kernel
theorem d15_133 : decode jdk_42_method_46_code 133 = .ok (.areturn, 1) := by decide +kernel
theorem d15_134 : decode jdk_42_method_46_code 134 = .ok (.aload 4, 2) := by decide +kernel
theorem d15_136 : decode jdk_42_method_46_code 136 = .ok (.iload_n 3, 1) := by decide +kernel
theorem d15_137 : decode jdk_42_method_46_code 137 = .ok (.invokestatic 102, 3) := by decide +kernel
theorem d15_140 : decode jdk_42_method_46_code 140 = .ok (.areturn, 1) := by decide +kernel
theorem pn_rm15 : plainName "java/lang/String" = true := by first | (simp [plainName, overriddenIn]; done) | decide +kernel
theorem ef_rm15 (m : MethodId) (a2 : Addr) : entryFrame m #[(.int (0 : Int32)), (.ref a2), (.int (1 : Int32))] 9 = mkF m 0 #[.val (.int (0 : Int32)), .val (.ref a2), .val (.int (1 : Int32)), .unset, .unset, .unset, .unset, .unset, .unset] [] := by first | (simp [entryFrame, mkF, argsToLocals, Value.category]; done) | rfl
def Q15 (Z : State) (a2 : Addr) (bb : Int32) (h0 : Heap) (n0 : Nat) (v : Option Value) (h : Heap) (L : List Loc) : Prop := ∃ t : Addr, v = some (.ref t) ∧ Fr n0 L ∧ Keep h0 h [] ∧ h0.size ≤ t ∧ Afn Z h t .byte (1 : Int32) (fun k => .int (bb))
theorem pd_4 : parseMethodDescriptor "([BII)Z" = some ⟨[(.array .byte), .int, .int], some .boolean⟩ := by decide +kernel
set_option maxRecDepth 65536 in
set_option maxHeartbeats 40000000 in
theorem rm15 (l : Launch) (Z : State) (a0 : Array Value) (hw : ∀ d ∈ tables_1, d.before a0 Z = true) (ws : List Jvm.Cond) (a2 : Addr) (bb : Int32) (h0 : Heap) (n0 : Nat) (Z0 : n0 ≤ h0.size) (V_a2 : Afn Z h0 a2 .byte (1 : Int32) (fun k => .int (bb))) (X_a2 : Exa Z h0 a2 "[B") (hbb : ¬ bb < (0 : Int32)) :
    Con l Z (⟨"java/lang/String", "encodeUTF8", "(B[BZ)[B"⟩ : MethodName) jdk_42_method_46_code 9 (some (.array .byte)) ws ({ frames := 2, cells := 1, slots := 1, locals := 30 } : Room) #[(.int (0 : Int32)), (.ref a2), (.int (1 : Int32))] h0 (Q15 Z a2 bb h0 n0) := by
  refine Con.of (plainFor_of_name pn_rm15) ?_
  intro p e s m below meth c s₁ hZ e0 X0 hx hby hml hown hnm hret hlk
  replace hml : c.maxLocals = 9 := hml
  have hown : s.vm.findClass "java/lang/String" = some m.cls := hown
  have N0 : Fr n0 [] := Fr.nil n0
  obtain ⟨PP, hPP⟩ : ∃ P, P = Fine s below (Q15 Z a2 bb h0 n0) ({ frames := 2, cells := 1, slots := 1, locals := 30 } : Room).cells ({ frames := 2, cells := 1, slots := 1, locals := 30 } : Room).slots := ⟨_, rfl⟩
  rw [← hPP]
  refine Go.cast (ef_rm15 m a2) ?_
  have K : Keep h0 h0 [] := Keep.refl h0 _
  have Zn : n0 ≤ h0.size := Z0
  show Go p.tables e below PP (s₁.setTop (mkF m 0 #[.val (.int (0 : Int32)), .val (.ref a2), .val (.int (1 : Int32)), .unset, .unset, .unset, .unset, .unset, .unset] []))
  refine Go.st (fun t k => XS.iloadN X0.here hx rfl (hb hby d15_0) rfl k) ?_
  show Go p.tables e below PP (s₁.setTop (mkF m 1 #[.val (.int (0 : Int32)), .val (.ref a2), .val (.int (1 : Int32)), .unset, .unset, .unset, .unset, .unset, .unset] [(.int (0 : Int32))]))
  refine Go.st (fun t k => XS.iconst X0.here hx rfl (hb hby d15_1) k) ?_
  show Go p.tables e below PP (s₁.setTop (mkF m 2 #[.val (.int (0 : Int32)), .val (.ref a2), .val (.int (1 : Int32)), .unset, .unset, .unset, .unset, .unset, .unset] [(.int (1 : Int32)), (.int (0 : Int32))]))
  refine Go.st (fun t k => XS.icmpYes X0.here hx rfl (pc0 := 2) (pc' := 11) rfl (hb hby d15_2) rfl (XT.ii_ne_t (by decide)) (by decide) (by decide) k) ?_
  show Go p.tables e below PP (s₁.setTop (mkF m 11 #[.val (.int (0 : Int32)), .val (.ref a2), .val (.int (1 : Int32)), .unset, .unset, .unset, .unset, .unset, .unset] []))
  refine Go.st (fun t k => XS.aloadN X0.here hx rfl (hb hby d15_11) rfl rfl k) ?_
  show Go p.tables e below PP (s₁.setTop (mkF m 12 #[.val (.int (0 : Int32)), .val (.ref a2), .val (.int (1 : Int32)), .unset, .unset, .unset, .unset, .unset, .unset] [(.ref a2)]))
  refine Go.st (fun t k => XS.iconst X0.here hx rfl (hb hby d15_12) k) ?_
  show Go p.tables e below PP (s₁.setTop (mkF m 13 #[.val (.int (0 : Int32)), .val (.ref a2), .val (.int (1 : Int32)), .unset, .unset, .unset, .unset, .unset, .unset] [(.int (0 : Int32)), (.ref a2)]))
  refine Go.st (fun t k => XS.aloadN X0.here hx rfl (hb hby d15_13) rfl rfl k) ?_
  show Go p.tables e below PP (s₁.setTop (mkF m 14 #[.val (.int (0 : Int32)), .val (.ref a2), .val (.int (1 : Int32)), .unset, .unset, .unset, .unset, .unset, .unset] [(.ref a2), (.int (0 : Int32)), (.ref a2)]))
  obtain ⟨cl1, Ar1, S1, Nn1, -⟩ := id V_a2
  refine Go.st (fun t k => X0.arraylength hx (by rw [e0]; exact Ar1.1) (State.isArrayOf_alike hZ.alike Ar1.2.1) (g := (mkF m 14 #[.val (.int (0 : Int32)), .val (.ref a2), .val (.int (1 : Int32)), .unset, .unset, .unset, .unset, .unset, .unset] [(.ref a2), (.int (0 : Int32)), (.ref a2)])) rfl rfl (hb hby d15_14) _ k) ?_
  rw [len_of S1 Nn1]
  show Go p.tables e below PP (s₁.setTop (mkF m 15 #[.val (.int (0 : Int32)), .val (.ref a2), .val (.int (1 : Int32)), .unset, .unset, .unset, .unset, .unset, .unset] [(.int (1 : Int32)), (.int (0 : Int32)), (.ref a2)]))
  obtain ⟨v2, T2, L2, X2, hQ2, st2⟩ := callSt X0 hx hZ (y := (⟨"java/lang/StringCoding", "hasNegatives", "([BII)Z"⟩ : MethodName)) (argsL := [(.ref a2), (.int (0 : Int32)), (.int (1 : Int32))]) (rest := []) hown (hw _ (List.mem_of_getElem? (i := 83) rfl)) (hw _ (List.mem_of_getElem? (i := 84) rfl)) (hw _ (List.mem_of_getElem? (i := 85) rfl)) (hw _ (List.mem_of_getElem? (i := 86) rfl)) (by decide) (rm16 l Z a0 hw [] a2 bb h0 n0 Zn V_a2 hbb) e0 0 (by decide) (by decide) (by decide) (by decide) (g := (mkF m 15 #[.val (.int (0 : Int32)), .val (.ref a2), .val (.int (1 : Int32)), .unset, .unset, .unset, .unset, .unset, .unset] [(.int (1 : Int32)), (.int (0 : Int32)), (.ref a2)])) rfl (by rw [hml]; rfl) (lenOf pd_4 rfl) rfl (by show 2 * 0 + _ ≤ _; exact Nat.le_of_eq rfl) (hb hby d15_15)
  obtain ⟨rfl, rfl, e2⟩ := hQ2
  rw [List.append_nil] at X2
  refine Go.st st2 ?_
  show Go p.tables e below PP (T2.setTop (mkF m 18 #[.val (.int (0 : Int32)), .val (.ref a2), .val (.int (1 : Int32)), .unset, .unset, .unset, .unset, .unset, .unset] [(.int (0 : Int32))]))
  refine Go.st (fun t k => XS.ifNo X2.here hx rfl (hb hby d15_18) rfl (XT.i0_ne_f (by decide)) k) ?_
  show Go p.tables e below PP (T2.setTop (mkF m 21 #[.val (.int (0 : Int32)), .val (.ref a2), .val (.int (1 : Int32)), .unset, .unset, .unset, .unset, .unset, .unset] []))
  refine Go.st (fun t k => XS.aloadN X2.here hx rfl (hb hby d15_21) rfl rfl k) ?_
  show Go p.tables e below PP (T2.setTop (mkF m 22 #[.val (.int (0 : Int32)), .val (.ref a2), .val (.int (1 : Int32)), .unset, .unset, .unset, .unset, .unset, .unset] [(.ref a2)]))
  obtain ⟨T3, h3, X3, e3, E3, A3, Ex3, st3⟩ := cloneF X2 hx hZ hown (hw _ (List.mem_of_getElem? (i := 90) rfl)) (hw _ (List.mem_of_getElem? (i := 91) rfl)) (hw _ (List.mem_of_getElem? (i := 95) rfl)) (hw _ (List.mem_of_getElem? (i := 93) rfl)) (hw _ (List.mem_of_getElem? (i := 94) rfl)) (hw _ (List.mem_of_getElem? (i := 96) rfl)) e2 V_a2 X_a2 (g := (mkF m 22 #[.val (.int (0 : Int32)), .val (.ref a2), .val (.int (1 : Int32)), .unset, .unset, .unset, .unset, .unset, .unset] [(.ref a2)])) rfl (by rw [hml]; rfl) rfl (hb hby d15_22) (by decide) (W := 0) (by show 2 * 0 + _ ≤ _; exact Nat.le_of_eq rfl) (by decide) (cap := 1) (by decide) (by decide) (by decide)
  obtain ⟨b3, gz3⟩ : ∃ z, z = h0.size := ⟨_, rfl⟩
  rw [← gz3] at A3 Ex3 st3
  have ne_a2_b3 : a2 ≠ b3 := Nat.ne_of_lt (Nat.lt_of_lt_of_le V_a2.lt (Nat.le_of_eq gz3.symm))
  have g_b3 : n0 ≤ b3 := Nat.le_trans Zn (Nat.le_of_eq gz3.symm)
  have sz_b3 : h0.size ≤ b3 := Nat.le_trans K.1 (Nat.le_of_eq gz3.symm)
  refine Go.st st3 ?_
  replace V_a2 := V_a2.ext E3
  replace X_a2 := X_a2.ext E3
  replace K := K.ext E3
  replace Zn := Nat.le_trans Zn E3.1
  show Go p.tables e below PP (T3.setTop (mkF m 25 #[.val (.int (0 : Int32)), .val (.ref a2), .val (.int (1 : Int32)), .unset, .unset, .unset, .unset, .unset, .unset] [(.ref b3)]))
  obtain ⟨T4, X4, e4, st4⟩ := castY X3 hx hZ hown (hw _ (List.mem_of_getElem? (i := 97) rfl)) e3 (Ins.self Ex3) (g := (mkF m 25 #[.val (.int (0 : Int32)), .val (.ref a2), .val (.int (1 : Int32)), .unset, .unset, .unset, .unset, .unset, .unset] [(.ref b3)])) rfl rfl (hb hby d15_25)
  refine Go.st st4 ?_
  show Go p.tables e below PP (T4.setTop (mkF m 28 #[.val (.int (0 : Int32)), .val (.ref a2), .val (.int (1 : Int32)), .unset, .unset, .unset, .unset, .unset, .unset] [(.ref b3)]))
  rw [hPP]
  refine endR X4 hx hlk hret rfl rfl (hb hby d15_28) ?_ (by decide) (by decide)
  show Q15 Z a2 bb h0 n0 (some (.ref b3)) T4.heap _
  rw [e4]
  exact ⟨b3, rfl, N0, K, sz_b3, A3⟩
theorem d14_0 : decode jdk_42_method_18_code 0 = .ok (.aload_n 0, 1) := by decide +kernel
theorem d14_1 : decode jdk_42_method_18_code 1 = .ok (.getstatic 86, 3) := by decide +kernel
theorem d14_4 : decode jdk_42_method_18_code 4 = .ok (.if_acmp .ne 10, 3) := by decide +kernel
theorem d14_7 : decode jdk_42_method_18_code 7 = .ok (.iload_n 1, 1) := by decide +kernel
theorem d14_8 : decode jdk_42_method_18_code 8 = .ok (.aload_n 2, 1) := by decide +kernel
theorem d14_9 : decode jdk_42_method_18_code 9 = .ok (.iconst 1, 1) := by decide +kernel
theorem d14_10 : decode jdk_42_method_18_code 10 = .ok (.invokestatic 252, 3) := by decide +kernel
theorem d14_13 : decode jdk_42_method_18_code 13 = .ok (.areturn, 1) := by decide +kernel
theorem d14_14 : decode jdk_42_method_18_code 14 = .ok (.aload_n 0, 1) := by decide +kernel
theorem d14_15 : decode jdk_42_method_18_code 15 = .ok (.getstatic 116, 3) := by decide +kernel
theorem d14_18 : decode jdk_42_method_18_code 18 = .ok (.if_acmp .ne 9, 3) := by decide +kernel
theorem d14_21 : decode jdk_42_method_18_code 21 = .ok (.iload_n 1, 1) := by decide +kernel
theorem d14_22 : decode jdk_42_method_18_code 22 = .ok (.aload_n 2, 1) := by decide +kernel
theorem d14_23 : decode jdk_42_method_18_code 23 = .ok (.invokestatic 256, 3) := by decide +kernel
theorem d14_26 : decode jdk_42_method_18_code 26 = .ok (.areturn, 1) := by decide +kernel
theorem d14_27 : decode jdk_42_method_18_code 27 = .ok (.aload_n 0, 1) := by decide +kernel
theorem d14_28 : decode jdk_42_method_18_code 28 = .ok (.getstatic 123, 3) := by decide +kernel
theorem d14_31 : decode jdk_42_method_18_code 31 = .ok (.if_acmp .ne 9, 3) := by decide +kernel
theorem d14_34 : decode jdk_42_method_18_code 34 = .ok (.iload_n 1, 1) := by decide +kernel
theorem d14_35 : decode jdk_42_method_18_code 35 = .ok (.aload_n 2, 1) := by decide +kernel
theorem d14_36 : decode jdk_42_method_18_code 36 = .ok (.invokestatic 260, 3) := by decide +kernel
theorem d14_39 : decode jdk_42_method_18_code 39 = .ok (.areturn, 1) := by decide +kernel
theorem d14_40 : decode jdk_42_method_18_code 40 = .ok (.aload_n 0, 1) := by decide +kernel
theorem d14_41 : decode jdk_42_method_18_code 41 = .ok (.iload_n 1, 1) := by decide +kernel
theorem d14_42 : decode jdk_42_method_18_code 42 = .ok (.aload_n 2, 1) := by decide +kernel
theorem d14_43 : decode jdk_42_method_18_code 43 = .ok (.iconst 1, 1) := by decide +kernel
theorem d14_44 : decode jdk_42_method_18_code 44 = .ok (.invokestatic 263, 3) := by decide +kernel
theorem d14_47 : decode jdk_42_method_18_code 47 = .ok (.areturn, 1) := by decide +kernel
theorem pn_rm14 : plainName "java/lang/String" = true := by first | (simp [plainName, overriddenIn]; done) | decide +kernel
theorem ef_rm14 (m : MethodId) (u8 : Addr) (a3 : Addr) : entryFrame m #[(.ref u8), (.int (0 : Int32)), (.ref a3)] 3 = mkF m 0 #[.val (.ref u8), .val (.int (0 : Int32)), .val (.ref a3)] [] := by first | (simp [entryFrame, mkF, argsToLocals, Value.category]; done) | rfl
def Q14 (Z : State) (u8 : Addr) (a3 : Addr) (bb : Int32) (h0 : Heap) (n0 : Nat) (v : Option Value) (h : Heap) (L : List Loc) : Prop := ∃ t : Addr, v = some (.ref t) ∧ Fr n0 L ∧ Keep h0 h [] ∧ h0.size ≤ t ∧ Afn Z h t .byte (1 : Int32) (fun k => .int (bb))
theorem pd_5 : parseMethodDescriptor "(B[BZ)[B" = some ⟨[.byte, (.array .byte), .boolean], some (.array .byte)⟩ := by decide +kernel
set_option maxRecDepth 65536 in
set_option maxHeartbeats 40000000 in
theorem rm14 (l : Launch) (Z : State) (a0 : Array Value) (hw : ∀ d ∈ tables_1, d.before a0 Z = true) (ws : List Jvm.Cond) (u8 : Addr) (a3 : Addr) (bb : Int32) (h0 : Heap) (n0 : Nat) (Z0 : n0 ≤ h0.size) (V_a3 : Afn Z h0 a3 .byte (1 : Int32) (fun k => .int (bb))) (X_a3 : Exa Z h0 a3 "[B") (hbb : ¬ bb < (0 : Int32)) (SI : Sta Z Z.heap "sun/nio/cs/UTF_8" "INSTANCE" "Lsun/nio/cs/UTF_8;" (.ref u8)) (O : Old Z n0 h0) :
    Con l Z (⟨"java/lang/String", "encode", "(Ljava/nio/charset/Charset;B[B)[B"⟩ : MethodName) jdk_42_method_18_code 3 (some (.array .byte)) ws ({ frames := 3, cells := 1, slots := 1, locals := 50 } : Room) #[(.ref u8), (.int (0 : Int32)), (.ref a3)] h0 (Q14 Z u8 a3 bb h0 n0) := by
  refine Con.of (plainFor_of_name pn_rm14) ?_
  intro p e s m below meth c s₁ hZ e0 X0 hx hby hml hown hnm hret hlk
  replace hml : c.maxLocals = 3 := hml
  have hown : s.vm.findClass "java/lang/String" = some m.cls := hown
  have N0 : Fr n0 [] := Fr.nil n0
  obtain ⟨PP, hPP⟩ : ∃ P, P = Fine s below (Q14 Z u8 a3 bb h0 n0) ({ frames := 3, cells := 1, slots := 1, locals := 50 } : Room).cells ({ frames := 3, cells := 1, slots := 1, locals := 50 } : Room).slots := ⟨_, rfl⟩
  rw [← hPP]
  refine Go.cast (ef_rm14 m u8 a3) ?_
  have K : Keep h0 h0 [] := Keep.refl h0 _
  have Zn : n0 ≤ h0.size := Z0
  show Go p.tables e below PP (s₁.setTop (mkF m 0 #[.val (.ref u8), .val (.int (0 : Int32)), .val (.ref a3)] []))
  refine Go.st (fun t k => XS.aloadN X0.here hx rfl (hb hby d14_0) rfl rfl k) ?_
  show Go p.tables e below PP (s₁.setTop (mkF m 1 #[.val (.ref u8), .val (.int (0 : Int32)), .val (.ref a3)] [(.ref u8)]))
  obtain ⟨T1, X1, e1, st1⟩ := getS2 X0 hx hZ hown (host := "") (Or.inl (hw _ (List.mem_of_getElem? (i := 78) rfl))) Via.refl e0 (SI.ext O.2) (g := (mkF m 1 #[.val (.ref u8), .val (.int (0 : Int32)), .val (.ref a3)] [(.ref u8)])) rfl (hb hby d14_1)
  refine Go.st st1 ?_
  show Go p.tables e below PP (T1.setTop (mkF m 4 #[.val (.ref u8), .val (.int (0 : Int32)), .val (.ref a3)] [(.ref u8), (.ref u8)]))
  refine Go.st (fun t k => Jvm.RoadKit.acmp (g := (mkF m 4 #[.val (.ref u8), .val (.int (0 : Int32)), .val (.ref a3)] [(.ref u8), (.ref u8)])) X1 hx rfl rfl rfl (pc0 := 4) (pc' := 7) (same := true) rfl (hb hby d14_4) rfl (decide_eq_true rfl) (by decide) (by decide) k) ?_
  show Go p.tables e below PP (T1.setTop (mkF m 7 #[.val (.ref u8), .val (.int (0 : Int32)), .val (.ref a3)] []))
  refine Go.st (fun t k => XS.iloadN X1.here hx rfl (hb hby d14_7) rfl k) ?_
  show Go p.tables e below PP (T1.setTop (mkF m 8 #[.val (.ref u8), .val (.int (0 : Int32)), .val (.ref a3)] [(.int (0 : Int32))]))
  refine Go.st (fun t k => XS.aloadN X1.here hx rfl (hb hby d14_8) rfl rfl k) ?_
  show Go p.tables e below PP (T1.setTop (mkF m 9 #[.val (.ref u8), .val (.int (0 : Int32)), .val (.ref a3)] [(.ref a3), (.int (0 : Int32))]))
  refine Go.st (fun t k => XS.iconst X1.here hx rfl (hb hby d14_9) k) ?_
  show Go p.tables e below PP (T1.setTop (mkF m 10 #[.val (.ref u8), .val (.int (0 : Int32)), .val (.ref a3)] [(.int (1 : Int32)), (.ref a3), (.int (0 : Int32))]))
  obtain ⟨v2, T2, L2, X2, hQ2, st2⟩ := callSt X1 hx hZ (y := (⟨"java/lang/String", "encodeUTF8", "(B[BZ)[B"⟩ : MethodName)) (argsL := [(.int (0 : Int32)), (.ref a3), (.int (1 : Int32))]) (rest := []) hown (hw _ (List.mem_of_getElem? (i := 80) rfl)) (hw _ (List.mem_of_getElem? (i := 81) rfl)) (hw _ (List.mem_of_getElem? (i := 40) rfl)) (hw _ (List.mem_of_getElem? (i := 82) rfl)) (by decide) (rm15 l Z a0 hw [] a3 bb h0 n0 Zn V_a3 X_a3 hbb) e1 0 (by decide) (by decide) (by decide) (by decide) (g := (mkF m 10 #[.val (.ref u8), .val (.int (0 : Int32)), .val (.ref a3)] [(.int (1 : Int32)), (.ref a3), (.int (0 : Int32))])) rfl (by rw [hml]; rfl) (lenOf pd_5 rfl) rfl (by show 2 * 0 + _ ≤ _; exact Nat.le_of_eq rfl) (hb hby d14_10)
  obtain ⟨h2, e2⟩ : ∃ z, T2.heap = z := ⟨_, rfl⟩
  rw [e2] at hQ2
  obtain ⟨t_2, rfl, Nq2, Kq2, sq2_t, Fq2_0⟩ := hQ2
  have N2 := Fr.app N0 Nq2
  have ne_a3_t_2 : a3 ≠ t_2 := Nat.ne_of_lt (Nat.lt_of_lt_of_le V_a3.lt sq2_t)
  have g_t_2 : n0 ≤ t_2 := Nat.le_trans Zn sq2_t
  have sz_t_2 : h0.size ≤ t_2 := Nat.le_trans K.1 sq2_t
  replace V_a3 := V_a3.keep Kq2 nin0
  replace X_a3 := X_a3.keep Kq2
  replace O := O.keep Kq2 all0
  replace K := K.trans Kq2 all0
  replace Zn := Nat.le_trans Zn Kq2.1
  have V_t_2 := Fq2_0
  refine Go.st st2 ?_
  show Go p.tables e below PP (T2.setTop (mkF m 13 #[.val (.ref u8), .val (.int (0 : Int32)), .val (.ref a3)] [(.ref t_2)]))
  rw [hPP]
  refine endR X2 hx hlk hret rfl rfl (hb hby d14_13) ?_ (by decide) (by decide)
  show Q14 Z u8 a3 bb h0 n0 (some (.ref t_2)) T2.heap _
  rw [e2]
  exact ⟨t_2, rfl, N2, K, sz_t_2, V_t_2⟩
theorem d13_0 : decode jdk_42_method_152_code 0 = .ok (.getstatic 38, 3) := by decide +kernel
theorem d13_3 : decode jdk_42_method_152_code 3 = .ok (.ifCond .eq 10, 3) := by decide +kernel
theorem d13_6 : decode jdk_42_method_152_code 6 = .ok (.aload_n 0, 1) := by decide +kernel
theorem d13_7 : decode jdk_42_method_152_code 7 = .ok (.getfield 15, 3) := by decide +kernel
theorem d13_10 : decode jdk_42_method_152_code 10 = .ok (.goto 4, 3) := by decide +kernel
theorem d13_13 : decode jdk_42_method_152_code 13 = .ok (.iconst 1, 1) := by decide +kernel
theorem d13_14 : decode jdk_42_method_152_code 14 = .ok (.ireturn, 1) := by decide +kernel
theorem pn_rm13 : plainName "java/lang/String" = true := by first | (simp [plainName, overriddenIn]; done) | decide +kernel
theorem ef_rm13 (m : MethodId) (a1 : Addr) : entryFrame m #[(.ref a1)] 1 = mkF m 0 #[.val (.ref a1)] [] := by first | (simp [entryFrame, mkF, argsToLocals, Value.category]; done) | rfl
def Q13 (Z : State) (a1 : Addr) (zc : Int32) (h0 : Heap) (n0 : Nat) (v : Option Value) (h : Heap) (L : List Loc) : Prop := v = some (.int (0 : Int32)) ∧ L = [] ∧ h = h0
set_option maxRecDepth 65536 in
set_option maxHeartbeats 40000000 in
theorem rm13 (l : Launch) (Z : State) (a0 : Array Value) (hw : ∀ d ∈ tables_1, d.before a0 Z = true) (ws : List Jvm.Cond) (a1 : Addr) (zc : Int32) (h0 : Heap) (n0 : Nat) (Z0 : n0 ≤ h0.size) (F_coder_a1 : Fld Z h0 a1 "java/lang/String" "coder" "B" (.int (0 : Int32))) (SC : Sta Z Z.heap "java/lang/String" "COMPACT_STRINGS" "Z" (.int zc)) (hzc : ¬ zc = (0 : Int32)) (O : Old Z n0 h0) :
    Con l Z (⟨"java/lang/String", "coder", "()B"⟩ : MethodName) jdk_42_method_152_code 1 (some .byte) ws ({ frames := 0, cells := 0, slots := 0, locals := 0 } : Room) #[(.ref a1)] h0 (Q13 Z a1 zc h0 n0) := by
  refine Con.of (plainFor_of_name pn_rm13) ?_
  intro p e s m below meth c s₁ hZ e0 X0 hx hby hml hown hnm hret hlk
  replace hml : c.maxLocals = 1 := hml
  have hown : s.vm.findClass "java/lang/String" = some m.cls := hown
  have N0 : Fr n0 [] := Fr.nil n0
  obtain ⟨PP, hPP⟩ : ∃ P, P = Fine s below (Q13 Z a1 zc h0 n0) ({ frames := 0, cells := 0, slots := 0, locals := 0 } : Room).cells ({ frames := 0, cells := 0, slots := 0, locals := 0 } : Room).slots := ⟨_, rfl⟩
  rw [← hPP]
  refine Go.cast (ef_rm13 m a1) ?_
  have Zn : n0 ≤ h0.size := Z0
  show Go p.tables e below PP (s₁.setTop (mkF m 0 #[.val (.ref a1)] []))
  obtain ⟨T1, X1, e1, st1⟩ := getS2 X0 hx hZ hown (host := "") (Or.inl (hw _ (List.mem_of_getElem? (i := 74) rfl))) Via.refl e0 (SC.ext O.2) (g := (mkF m 0 #[.val (.ref a1)] [])) rfl (hb hby d13_0)
  refine Go.st st1 ?_
  show Go p.tables e below PP (T1.setTop (mkF m 3 #[.val (.ref a1)] [(.int zc)]))
  refine Go.st (fun t k => XS.ifNo X1.here hx rfl (hb hby d13_3) rfl (XT.i0_eq_f hzc) k) ?_
  show Go p.tables e below PP (T1.setTop (mkF m 6 #[.val (.ref a1)] []))
  refine Go.st (fun t k => XS.aloadN X1.here hx rfl (hb hby d13_6) rfl rfl k) ?_
  show Go p.tables e below PP (T1.setTop (mkF m 7 #[.val (.ref a1)] [(.ref a1)]))
  obtain ⟨T2, X2, e2, st2⟩ := getF X1 hx hZ hown (host := "") (Or.inl (hw _ (List.mem_of_getElem? (i := 56) rfl))) Via.refl e1 F_coder_a1 (g := (mkF m 7 #[.val (.ref a1)] [(.ref a1)])) rfl rfl (hb hby d13_7)
  refine Go.st st2 ?_
  show Go p.tables e below PP (T2.setTop (mkF m 10 #[.val (.ref a1)] [(.int (0 : Int32))]))
  refine Go.st (fun t k => XS.goto X2.here hx rfl (pc0 := 10) (pc' := 14) rfl (hb hby d13_10) (by decide) (by decide) k) ?_
  show Go p.tables e below PP (T2.setTop (mkF m 14 #[.val (.ref a1)] [(.int (0 : Int32))]))
  rw [hPP]
  refine endN X2 hx hlk (t := .byte) hret (by simp) (hb hby d13_14) (w := (0 : Int32)) (rfl) ?_ (by decide) (by decide)
  show Q13 Z a1 zc h0 n0 (some (.int (0 : Int32))) T2.heap _
  rw [e2]
  exact ⟨rfl, rfl, rfl⟩
theorem d12_0 : decode jdk_42_method_64_code 0 = .ok (.aload_n 1, 1) := by decide +kernel
theorem d12_1 : decode jdk_42_method_64_code 1 = .ok (.ifnonnull 11, 3) := by decide +kernel
theorem d12_4 : decode jdk_42_method_64_code 4 = .ok (.new 538, 3) := by decide +kernel
theorem d12_7 : decode jdk_42_method_64_code 7 = .ok (.dup, 1) := by decide +kernel
theorem d12_8 : decode jdk_42_method_64_code 8 = .ok (.invokespecial 540, 3) := by decide +kernel
theorem d12_11 : decode jdk_42_method_64_code 11 = .ok (.athrow, 1) := by decide +kernel
theorem d12_12 : decode jdk_42_method_64_code 12 = .ok (.aload_n 1, 1) := by decide +kernel
theorem d12_13 : decode jdk_42_method_64_code 13 = .ok (.aload_n 0, 1) := by decide +kernel
theorem d12_14 : decode jdk_42_method_64_code 14 = .ok (.invokevirtual 335, 3) := by decide +kernel
theorem d12_17 : decode jdk_42_method_64_code 17 = .ok (.aload_n 0, 1) := by decide +kernel
theorem d12_18 : decode jdk_42_method_64_code 18 = .ok (.getfield 9, 3) := by decide +kernel
theorem d12_21 : decode jdk_42_method_64_code 21 = .ok (.invokestatic 535, 3) := by decide +kernel
theorem d12_24 : decode jdk_42_method_64_code 24 = .ok (.areturn, 1) := by decide +kernel
theorem pn_rm12 : plainName "java/lang/String" = true := by first | (simp [plainName, overriddenIn]; done) | decide +kernel
theorem ef_rm12 (m : MethodId) (a1 : Addr) (u8 : Addr) : entryFrame m #[(.ref a1), (.ref u8)] 2 = mkF m 0 #[.val (.ref a1), .val (.ref u8)] [] := by first | (simp [entryFrame, mkF, argsToLocals, Value.category]; done) | rfl
def Q12 (Z : State) (a1 : Addr) (u8 : Addr) (t1 : Addr) (bb : Int32) (zc : Int32) (h0 : Heap) (n0 : Nat) (v : Option Value) (h : Heap) (L : List Loc) : Prop := ∃ t : Addr, v = some (.ref t) ∧ Fr n0 L ∧ Keep h0 h [] ∧ h0.size ≤ t ∧ Afn Z h t .byte (1 : Int32) (fun k => .int (bb))
theorem pd_6 : parseMethodDescriptor "()B" = some ⟨[], some .byte⟩ := by decide +kernel
theorem pd_7 : parseMethodDescriptor "(Ljava/nio/charset/Charset;B[B)[B" = some ⟨[(.object "java/nio/charset/Charset"), .byte, (.array .byte)], some (.array .byte)⟩ := by decide +kernel
set_option maxRecDepth 65536 in
set_option maxHeartbeats 40000000 in
theorem rm12 (l : Launch) (Z : State) (a0 : Array Value) (hw : ∀ d ∈ tables_1, d.before a0 Z = true) (ws : List Jvm.Cond) (a1 : Addr) (u8 : Addr) (t1 : Addr) (bb : Int32) (zc : Int32) (h0 : Heap) (n0 : Nat) (Z0 : n0 ≤ h0.size) (F_value_a1 : Fld Z h0 a1 "java/lang/String" "value" "[B" (.ref t1)) (F_coder_a1 : Fld Z h0 a1 "java/lang/String" "coder" "B" (.int (0 : Int32))) (V_t1 : Afn Z h0 t1 .byte (1 : Int32) (fun k => .int (bb))) (E_a1 : Exa Z h0 a1 "java/lang/String") (X_t1 : Exa Z h0 t1 "[B") (hbb : ¬ bb < (0 : Int32)) (SC : Sta Z Z.heap "java/lang/String" "COMPACT_STRINGS" "Z" (.int zc)) (hzc : ¬ zc = (0 : Int32)) (O : Old Z n0 h0) (SI : Sta Z Z.heap "sun/nio/cs/UTF_8" "INSTANCE" "Lsun/nio/cs/UTF_8;" (.ref u8)) :
    Con l Z (⟨"java/lang/String", "getBytes", "(Ljava/nio/charset/Charset;)[B"⟩ : MethodName) jdk_42_method_64_code 2 (some (.array .byte)) ws ({ frames := 4, cells := 1, slots := 1, locals := 66 } : Room) #[(.ref a1), (.ref u8)] h0 (Q12 Z a1 u8 t1 bb zc h0 n0) := by
  refine Con.of (plainFor_of_name pn_rm12) ?_
  intro p e s m below meth c s₁ hZ e0 X0 hx hby hml hown hnm hret hlk
  replace hml : c.maxLocals = 2 := hml
  have hown : s.vm.findClass "java/lang/String" = some m.cls := hown
  have N0 : Fr n0 [] := Fr.nil n0
  obtain ⟨PP, hPP⟩ : ∃ P, P = Fine s below (Q12 Z a1 u8 t1 bb zc h0 n0) ({ frames := 4, cells := 1, slots := 1, locals := 66 } : Room).cells ({ frames := 4, cells := 1, slots := 1, locals := 66 } : Room).slots := ⟨_, rfl⟩
  rw [← hPP]
  refine Go.cast (ef_rm12 m a1 u8) ?_
  have K : Keep h0 h0 [] := Keep.refl h0 _
  have Zn : n0 ≤ h0.size := Z0
  show Go p.tables e below PP (s₁.setTop (mkF m 0 #[.val (.ref a1), .val (.ref u8)] []))
  refine Go.st (fun t k => XS.aloadN X0.here hx rfl (hb hby d12_0) rfl rfl k) ?_
  show Go p.tables e below PP (s₁.setTop (mkF m 1 #[.val (.ref a1), .val (.ref u8)] [(.ref u8)]))
  refine Go.st (fun t k => XS.ifnonnullYes X0.here hx rfl (pc0 := 1) (pc' := 12) rfl (hb hby d12_1) rfl (by decide) (by decide) k) ?_
  show Go p.tables e below PP (s₁.setTop (mkF m 12 #[.val (.ref a1), .val (.ref u8)] []))
  refine Go.st (fun t k => XS.aloadN X0.here hx rfl (hb hby d12_12) rfl rfl k) ?_
  show Go p.tables e below PP (s₁.setTop (mkF m 13 #[.val (.ref a1), .val (.ref u8)] [(.ref u8)]))
  refine Go.st (fun t k => XS.aloadN X0.here hx rfl (hb hby d12_13) rfl rfl k) ?_
  show Go p.tables e below PP (s₁.setTop (mkF m 14 #[.val (.ref a1), .val (.ref u8)] [(.ref a1), (.ref u8)]))
  obtain ⟨v1, T1, L1, X1, hQ1, st1⟩ := callVi X0 hx hZ (C := "java/lang/String") (y := (⟨"java/lang/String", "coder", "()B"⟩ : MethodName)) (z := (⟨"java/lang/String", "coder", "()B"⟩ : MethodName)) (a := a1) (argsL := []) (rest := [(.ref u8)]) hown (hw _ (List.mem_of_getElem? (i := 69) rfl)) (hw _ (List.mem_of_getElem? (i := 70) rfl)) (notFace_of_selects (args := #[]) (mvT hZ (hw _ (List.mem_of_getElem? (i := 72) rfl)))) (hw _ (List.mem_of_getElem? (i := 72) rfl)) (hw _ (List.mem_of_getElem? (i := 71) rfl)) (hw _ (List.mem_of_getElem? (i := 40) rfl)) (hw _ (List.mem_of_getElem? (i := 73) rfl)) (by decide) rfl E_a1 (rm13 l Z a0 hw [] a1 zc h0 n0 Zn F_coder_a1 SC hzc O) e0 1 (by decide) (by decide) (by decide) (by decide) (g := (mkF m 14 #[.val (.ref a1), .val (.ref u8)] [(.ref a1), (.ref u8)])) rfl (by rw [hml]; rfl) (lenOf pd_6 rfl) rfl (by show 2 * 0 + _ ≤ _; exact Nat.le_of_eq rfl) (hb hby d12_14)
  obtain ⟨rfl, rfl, e1⟩ := hQ1
  rw [List.append_nil] at X1
  refine Go.st st1 ?_
  show Go p.tables e below PP (T1.setTop (mkF m 17 #[.val (.ref a1), .val (.ref u8)] [(.int (0 : Int32)), (.ref u8)]))
  refine Go.st (fun t k => XS.aloadN X1.here hx rfl (hb hby d12_17) rfl rfl k) ?_
  show Go p.tables e below PP (T1.setTop (mkF m 18 #[.val (.ref a1), .val (.ref u8)] [(.ref a1), (.int (0 : Int32)), (.ref u8)]))
  obtain ⟨T2, X2, e2, st2⟩ := getF X1 hx hZ hown (host := "") (Or.inl (hw _ (List.mem_of_getElem? (i := 54) rfl))) Via.refl e1 F_value_a1 (g := (mkF m 18 #[.val (.ref a1), .val (.ref u8)] [(.ref a1), (.int (0 : Int32)), (.ref u8)])) rfl rfl (hb hby d12_18)
  refine Go.st st2 ?_
  show Go p.tables e below PP (T2.setTop (mkF m 21 #[.val (.ref a1), .val (.ref u8)] [(.ref t1), (.int (0 : Int32)), (.ref u8)]))
  obtain ⟨v3, T3, L3, X3, hQ3, st3⟩ := callSt X2 hx hZ (y := (⟨"java/lang/String", "encode", "(Ljava/nio/charset/Charset;B[B)[B"⟩ : MethodName)) (argsL := [(.ref u8), (.int (0 : Int32)), (.ref t1)]) (rest := []) hown (hw _ (List.mem_of_getElem? (i := 75) rfl)) (hw _ (List.mem_of_getElem? (i := 76) rfl)) (hw _ (List.mem_of_getElem? (i := 40) rfl)) (hw _ (List.mem_of_getElem? (i := 77) rfl)) (by decide) (rm14 l Z a0 hw [] u8 t1 bb h0 n0 Zn V_t1 X_t1 hbb SI O) e2 0 (by decide) (by decide) (by decide) (by decide) (g := (mkF m 21 #[.val (.ref a1), .val (.ref u8)] [(.ref t1), (.int (0 : Int32)), (.ref u8)])) rfl (by rw [hml]; rfl) (lenOf pd_7 rfl) rfl (by show 2 * 0 + _ ≤ _; exact Nat.le_of_eq rfl) (hb hby d12_21)
  obtain ⟨h3, e3⟩ : ∃ z, T3.heap = z := ⟨_, rfl⟩
  rw [e3] at hQ3
  obtain ⟨t_3, rfl, Nq3, Kq3, sq3_t, Fq3_0⟩ := hQ3
  have N3 := Fr.app N0 Nq3
  have ne_a1_t_3 : a1 ≠ t_3 := Nat.ne_of_lt (Nat.lt_of_lt_of_le F_value_a1.lt sq3_t)
  have ne_t1_t_3 : t1 ≠ t_3 := Nat.ne_of_lt (Nat.lt_of_lt_of_le V_t1.lt sq3_t)
  have g_t_3 : n0 ≤ t_3 := Nat.le_trans Zn sq3_t
  have sz_t_3 : h0.size ≤ t_3 := Nat.le_trans K.1 sq3_t
  replace F_value_a1 := F_value_a1.keep Kq3 nin0
  replace F_coder_a1 := F_coder_a1.keep Kq3 nin0
  replace V_t1 := V_t1.keep Kq3 nin0
  replace E_a1 := E_a1.keep Kq3
  replace X_t1 := X_t1.keep Kq3
  replace O := O.keep Kq3 all0
  replace K := K.trans Kq3 all0
  replace Zn := Nat.le_trans Zn Kq3.1
  have V_t_3 := Fq3_0
  refine Go.st st3 ?_
  show Go p.tables e below PP (T3.setTop (mkF m 24 #[.val (.ref a1), .val (.ref u8)] [(.ref t_3)]))
  rw [hPP]
  refine endR X3 hx hlk hret rfl rfl (hb hby d12_24) ?_ (by decide) (by decide)
  show Q12 Z a1 u8 t1 bb zc h0 n0 (some (.ref t_3)) T3.heap _
  rw [e3]
  exact ⟨t_3, rfl, N3, K, sz_t_3, V_t_3⟩
theorem d21_0 : decode jdk_29_method_69_code 0 = .ok (.iload_n 0, 1) := by decide +kernel
theorem d21_1 : decode jdk_29_method_69_code 1 = .ok (.iload_n 1, 1) := by decide +kernel
theorem d21_2 : decode jdk_29_method_69_code 2 = .ok (.if_icmp .gt 7, 3) := by decide +kernel
theorem d21_5 : decode jdk_29_method_69_code 5 = .ok (.iload_n 0, 1) := by decide +kernel
theorem d21_6 : decode jdk_29_method_69_code 6 = .ok (.goto 4, 3) := by decide +kernel
theorem d21_9 : decode jdk_29_method_69_code 9 = .ok (.iload_n 1, 1) := by decide +kernel
theorem d21_10 : decode jdk_29_method_69_code 10 = .ok (.ireturn, 1) := by decide +kernel
theorem pn_rm21 : plainFor (⟨"java/lang/Math", "min", "(II)I"⟩ : MethodName) = true := Jvm.Free.JP.mathPlain rfl (by decide +kernel)
theorem ef_rm21 (m : MethodId) (p1 : Int32) (p2 : Int32) : entryFrame m #[(.int p1), (.int p2)] 2 = mkF m 0 #[.val (.int p1), .val (.int p2)] [] := by first | (simp [entryFrame, mkF, argsToLocals, Value.category]; done) | rfl
def Q21 (Z : State) (p1 : Int32) (p2 : Int32) (h0 : Heap) (n0 : Nat) (v : Option Value) (h : Heap) (L : List Loc) : Prop := v = some (.int (if p2 < p1 then p2 else p1)) ∧ L = [] ∧ h = h0
set_option maxRecDepth 65536 in
set_option maxHeartbeats 40000000 in
theorem rm21 (l : Launch) (Z : State) (a0 : Array Value) (hw : ∀ d ∈ tables_1, d.before a0 Z = true) (ws : List Jvm.Cond) (p1 : Int32) (p2 : Int32) (h0 : Heap) (n0 : Nat) (Z0 : n0 ≤ h0.size) :
    Con l Z (⟨"java/lang/Math", "min", "(II)I"⟩ : MethodName) jdk_29_method_69_code 2 (some .int) ws ({ frames := 0, cells := 0, slots := 0, locals := 0 } : Room) #[(.int p1), (.int p2)] h0 (Q21 Z p1 p2 h0 n0) := by
  refine Con.of pn_rm21 ?_
  intro p e s m below meth c s₁ hZ e0 X0 hx hby hml hown hnm hret hlk
  replace hml : c.maxLocals = 2 := hml
  have hown : s.vm.findClass "java/lang/Math" = some m.cls := hown
  have N0 : Fr n0 [] := Fr.nil n0
  obtain ⟨PP, hPP⟩ : ∃ P, P = Fine s below (Q21 Z p1 p2 h0 n0) ({ frames := 0, cells := 0, slots := 0, locals := 0 } : Room).cells ({ frames := 0, cells := 0, slots := 0, locals := 0 } : Room).slots := ⟨_, rfl⟩
  rw [← hPP]
  refine Go.cast (ef_rm21 m p1 p2) ?_
  have Zn : n0 ≤ h0.size := Z0
  show Go p.tables e below PP (s₁.setTop (mkF m 0 #[.val (.int p1), .val (.int p2)] []))
  refine Go.st (fun t k => XS.iloadN X0.here hx rfl (hb hby d21_0) rfl k) ?_
  show Go p.tables e below PP (s₁.setTop (mkF m 1 #[.val (.int p1), .val (.int p2)] [(.int p1)]))
  refine Go.st (fun t k => XS.iloadN X0.here hx rfl (hb hby d21_1) rfl k) ?_
  show Go p.tables e below PP (s₁.setTop (mkF m 2 #[.val (.int p1), .val (.int p2)] [(.int p2), (.int p1)]))
  by_cases hc2 : p2 < p1
  · --
    refine Go.st (fun t k => XS.icmpYes X0.here hx rfl (pc0 := 2) (pc' := 9) rfl (hb hby d21_2) rfl (XT.ii_gt_t hc2) (by decide) (by decide) k) ?_
    show Go p.tables e below PP (s₁.setTop (mkF m 9 #[.val (.int p1), .val (.int p2)] []))
    refine Go.st (fun t k => XS.iloadN X0.here hx rfl (hb hby d21_9) rfl k) ?_
    show Go p.tables e below PP (s₁.setTop (mkF m 10 #[.val (.int p1), .val (.int p2)] [(.int p2)]))
    rw [hPP]
    refine endI X0 hx hlk hret (hb hby d21_10) ?_ (by decide) (by decide)
    show Q21 Z p1 p2 h0 n0 (some (.int p2)) s₁.heap _
    rw [e0]
    exact ⟨by simp [hc2], rfl, rfl⟩
  · --
    refine Go.st (fun t k => XS.icmpNo X0.here hx rfl (hb hby d21_2) rfl (XT.ii_gt_f hc2) k) ?_
    show Go p.tables e below PP (s₁.setTop (mkF m 5 #[.val (.int p1), .val (.int p2)] []))
    refine Go.st (fun t k => XS.iloadN X0.here hx rfl (hb hby d21_5) rfl k) ?_
    show Go p.tables e below PP (s₁.setTop (mkF m 6 #[.val (.int p1), .val (.int p2)] [(.int p1)]))
    refine Go.st (fun t k => XS.goto X0.here hx rfl (pc0 := 6) (pc' := 10) rfl (hb hby d21_6) (by decide) (by decide) k) ?_
    show Go p.tables e below PP (s₁.setTop (mkF m 10 #[.val (.int p1), .val (.int p2)] [(.int p1)]))
    rw [hPP]
    refine endI X0 hx hlk hret (hb hby d21_10) ?_ (by decide) (by decide)
    show Q21 Z p1 p2 h0 n0 (some (.int p1)) s₁.heap _
    rw [e0]
    exact ⟨by simp [hc2], rfl, rfl⟩
theorem d19_0 : decode jdk_29_method_65_code 0 = .ok (.iload_n 0, 1) := by decide +kernel
theorem d19_1 : decode jdk_29_method_65_code 1 = .ok (.iload_n 1, 1) := by decide +kernel
theorem d19_2 : decode jdk_29_method_65_code 2 = .ok (.if_icmp .lt 7, 3) := by decide +kernel
theorem d19_5 : decode jdk_29_method_65_code 5 = .ok (.iload_n 0, 1) := by decide +kernel
theorem d19_6 : decode jdk_29_method_65_code 6 = .ok (.goto 4, 3) := by decide +kernel
theorem d19_9 : decode jdk_29_method_65_code 9 = .ok (.iload_n 1, 1) := by decide +kernel
theorem d19_10 : decode jdk_29_method_65_code 10 = .ok (.ireturn, 1) := by decide +kernel
theorem pn_rm19 : plainFor (⟨"java/lang/Math", "max", "(II)I"⟩ : MethodName) = true := Jvm.Free.JP.mathPlain rfl (by decide +kernel)
theorem ef_rm19 (m : MethodId) (p1 : Int32) (p2 : Int32) : entryFrame m #[(.int p1), (.int p2)] 2 = mkF m 0 #[.val (.int p1), .val (.int p2)] [] := by first | (simp [entryFrame, mkF, argsToLocals, Value.category]; done) | rfl
def Q19 (Z : State) (p1 : Int32) (p2 : Int32) (h0 : Heap) (n0 : Nat) (v : Option Value) (h : Heap) (L : List Loc) : Prop := v = some (.int (if p1 < p2 then p2 else p1)) ∧ L = [] ∧ h = h0
set_option maxRecDepth 65536 in
set_option maxHeartbeats 40000000 in
theorem rm19 (l : Launch) (Z : State) (a0 : Array Value) (hw : ∀ d ∈ tables_1, d.before a0 Z = true) (ws : List Jvm.Cond) (p1 : Int32) (p2 : Int32) (h0 : Heap) (n0 : Nat) (Z0 : n0 ≤ h0.size) :
    Con l Z (⟨"java/lang/Math", "max", "(II)I"⟩ : MethodName) jdk_29_method_65_code 2 (some .int) ws ({ frames := 0, cells := 0, slots := 0, locals := 0 } : Room) #[(.int p1), (.int p2)] h0 (Q19 Z p1 p2 h0 n0) := by
  refine Con.of pn_rm19 ?_
  intro p e s m below meth c s₁ hZ e0 X0 hx hby hml hown hnm hret hlk
  replace hml : c.maxLocals = 2 := hml
  have hown : s.vm.findClass "java/lang/Math" = some m.cls := hown
  have N0 : Fr n0 [] := Fr.nil n0
  obtain ⟨PP, hPP⟩ : ∃ P, P = Fine s below (Q19 Z p1 p2 h0 n0) ({ frames := 0, cells := 0, slots := 0, locals := 0 } : Room).cells ({ frames := 0, cells := 0, slots := 0, locals := 0 } : Room).slots := ⟨_, rfl⟩
  rw [← hPP]
  refine Go.cast (ef_rm19 m p1 p2) ?_
  have Zn : n0 ≤ h0.size := Z0
  show Go p.tables e below PP (s₁.setTop (mkF m 0 #[.val (.int p1), .val (.int p2)] []))
  refine Go.st (fun t k => XS.iloadN X0.here hx rfl (hb hby d19_0) rfl k) ?_
  show Go p.tables e below PP (s₁.setTop (mkF m 1 #[.val (.int p1), .val (.int p2)] [(.int p1)]))
  refine Go.st (fun t k => XS.iloadN X0.here hx rfl (hb hby d19_1) rfl k) ?_
  show Go p.tables e below PP (s₁.setTop (mkF m 2 #[.val (.int p1), .val (.int p2)] [(.int p2), (.int p1)]))
  by_cases hc2 : p1 < p2
  · --
    refine Go.st (fun t k => XS.icmpYes X0.here hx rfl (pc0 := 2) (pc' := 9) rfl (hb hby d19_2) rfl (XT.ii_lt_t hc2) (by decide) (by decide) k) ?_
    show Go p.tables e below PP (s₁.setTop (mkF m 9 #[.val (.int p1), .val (.int p2)] []))
    refine Go.st (fun t k => XS.iloadN X0.here hx rfl (hb hby d19_9) rfl k) ?_
    show Go p.tables e below PP (s₁.setTop (mkF m 10 #[.val (.int p1), .val (.int p2)] [(.int p2)]))
    rw [hPP]
    refine endI X0 hx hlk hret (hb hby d19_10) ?_ (by decide) (by decide)
    show Q19 Z p1 p2 h0 n0 (some (.int p2)) s₁.heap _
    rw [e0]
    exact ⟨by simp [hc2], rfl, rfl⟩
  · --
    refine Go.st (fun t k => XS.icmpNo X0.here hx rfl (hb hby d19_2) rfl (XT.ii_lt_f hc2) k) ?_
    show Go p.tables e below PP (s₁.setTop (mkF m 5 #[.val (.int p1), .val (.int p2)] []))
    refine Go.st (fun t k => XS.iloadN X0.here hx rfl (hb hby d19_5) rfl k) ?_
    show Go p.tables e below PP (s₁.setTop (mkF m 6 #[.val (.int p1), .val (.int p2)] [(.int p1)]))
    refine Go.st (fun t k => XS.goto X0.here hx rfl (pc0 := 6) (pc' := 10) rfl (hb hby d19_6) (by decide) (by decide) k) ?_
    show Go p.tables e below PP (s₁.setTop (mkF m 10 #[.val (.int p1), .val (.int p2)] [(.int p1)]))
    rw [hPP]
    refine endI X0 hx hlk hret (hb hby d19_10) ?_ (by decide) (by decide)
    show Q19 Z p1 p2 h0 n0 (some (.int p1)) s₁.heap _
    rw [e0]
    exact ⟨by simp [hc2], rfl, rfl⟩
theorem d20_0 : decode jdk_65_method_121_code 0 = .ok (.iload_n 1, 1) := by decide +kernel
theorem d20_1 : decode jdk_65_method_121_code 1 = .ok (.aload_n 0, 1) := by decide +kernel
theorem d20_2 : decode jdk_65_method_121_code 2 = .ok (.arraylength, 1) := by decide +kernel
theorem d20_3 : decode jdk_65_method_121_code 3 = .ok (.if_icmp .ne 11, 3) := by decide +kernel
theorem d20_6 : decode jdk_65_method_121_code 6 = .ok (.aload_n 0, 1) := by decide +kernel
theorem d20_7 : decode jdk_65_method_121_code 7 = .ok (.invokevirtual 310, 3) := by decide +kernel
theorem d20_10 : decode jdk_65_method_121_code 10 = .ok (.checkcast 311, 3) := by decide +kernel
theorem d20_13 : decode jdk_65_method_121_code 13 = .ok (.areturn, 1) := by decide +kernel
theorem d20_14 : decode jdk_65_method_121_code 14 = .ok (.iload_n 1, 1) := by decide +kernel
theorem d20_15 : decode jdk_65_method_121_code 15 = .ok (.newarray .byte, 2) := by decide +kernel
theorem d20_17 : decode jdk_65_method_121_code 17 = .ok (.astore_n 2, 1) := by decide +kernel
theorem d20_18 : decode jdk_65_method_121_code 18 = .ok (.aload_n 0, 1) := by decide +kernel
theorem d20_19 : decode jdk_65_method_121_code 19 = .ok (.iconst 0, 1) := by decide +kernel
theorem d20_20 : decode jdk_65_method_121_code 20 = .ok (.aload_n 2, 1) := by decide +kernel
theorem d20_21 : decode jdk_65_method_121_code 21 = .ok (.iconst 0, 1) := by decide +kernel
theorem d20_22 : decode jdk_65_method_121_code 22 = .ok (.aload_n 0, 1) := by decide +kernel
theorem d20_23 : decode jdk_65_method_121_code 23 = .ok (.arraylength, 1) := by decide +kernel
theorem d20_24 : decode jdk_65_method_121_code 24 = .ok (.iload_n 1, 1) := by decide +kernel
theorem d20_25 : decode jdk_65_method_121_code 25 = .ok (.invokestatic 304, 3) := by decide +kernel
theorem d20_28 : decode jdk_65_method_121_code 28 = .ok (.invokestatic 150, 3) := by decide +kernel
theorem d20_31 : decode jdk_65_method_121_code 31 = .ok (.aload_n 2, 1) := by decide +kernel
theorem d20_32 : decode jdk_65_method_121_code 32 = .ok (.areturn, 1) := by decide +kernel
theorem pn_rm20 : plainName "java/util/Arrays" = true := by first | (simp [plainName, overriddenIn]; done) | decide +kernel
theorem ef_rm20 (m : MethodId) (a1 : Addr) (p2 : Int32) : entryFrame m #[(.ref a1), (.int p2)] 3 = mkF m 0 #[.val (.ref a1), .val (.int p2), .unset] [] := by first | (simp [entryFrame, mkF, argsToLocals, Value.category]; done) | rfl
def Q20 (Z : State) (a1 : Addr) (p2 : Int32) (n1 : Int32) (f1 : Nat → Int32) (h0 : Heap) (n0 : Nat) (v : Option Value) (h : Heap) (L : List Loc) : Prop := ∃ t : Addr, v = some (.ref t) ∧ Fr n0 L ∧ Keep h0 h [] ∧ h0.size ≤ t ∧ Afn Z h t .byte p2 (fun k => .int (if k < n1.toNatClampNeg then f1 k else 0)) ∧ Exa Z h t "[B"
theorem pd_8 : parseMethodDescriptor "(II)I" = some ⟨[.int, .int], some .int⟩ := by decide +kernel
set_option maxRecDepth 65536 in
set_option maxHeartbeats 40000000 in
theorem rm20 (l : Launch) (Z : State) (a0 : Array Value) (hw : ∀ d ∈ tables_1, d.before a0 Z = true) (ws : List Jvm.Cond) (a1 : Addr) (p2 : Int32) (n1 : Int32) (f1 : Nat → Int32) (h0 : Heap) (n0 : Nat) (Z0 : n0 ≤ h0.size) (V_a1 : Afn Z h0 a1 .byte n1 (fun k => .int (f1 k))) (X_a1 : Exa Z h0 a1 "[B") (hp : ¬ p2 < (0 : Int32) ∧ p2.toNatClampNeg ≤ 14 ∧ n1.toNatClampNeg ≤ 14) :
    Con l Z (⟨"java/util/Arrays", "copyOf", "([BI)[B"⟩ : MethodName) jdk_65_method_121_code 3 (some (.array .byte)) ws ({ frames := 1, cells := 1, slots := 14, locals := 40 } : Room) #[(.ref a1), (.int p2)] h0 (Q20 Z a1 p2 n1 f1 h0 n0) := by
  refine Con.of (plainFor_of_name pn_rm20) ?_
  intro p e s m below meth c s₁ hZ e0 X0 hx hby hml hown hnm hret hlk
  replace hml : c.maxLocals = 3 := hml
  have hown : s.vm.findClass "java/util/Arrays" = some m.cls := hown
  have N0 : Fr n0 [] := Fr.nil n0
  obtain ⟨PP, hPP⟩ : ∃ P, P = Fine s below (Q20 Z a1 p2 n1 f1 h0 n0) ({ frames := 1, cells := 1, slots := 14, locals := 40 } : Room).cells ({ frames := 1, cells := 1, slots := 14, locals := 40 } : Room).slots := ⟨_, rfl⟩
  rw [← hPP]
  refine Go.cast (ef_rm20 m a1 p2) ?_
  have K : Keep h0 h0 [] := Keep.refl h0 _
  have Zn : n0 ≤ h0.size := Z0
  show Go p.tables e below PP (s₁.setTop (mkF m 0 #[.val (.ref a1), .val (.int p2), .unset] []))
  refine Go.st (fun t k => XS.iloadN X0.here hx rfl (hb hby d20_0) rfl k) ?_
  show Go p.tables e below PP (s₁.setTop (mkF m 1 #[.val (.ref a1), .val (.int p2), .unset] [(.int p2)]))
  refine Go.st (fun t k => XS.aloadN X0.here hx rfl (hb hby d20_1) rfl rfl k) ?_
  show Go p.tables e below PP (s₁.setTop (mkF m 2 #[.val (.ref a1), .val (.int p2), .unset] [(.ref a1), (.int p2)]))
  obtain ⟨cl1, Ar1, S1, Nn1, -⟩ := id V_a1
  refine Go.st (fun t k => X0.arraylength hx (by rw [e0]; exact Ar1.1) (State.isArrayOf_alike hZ.alike Ar1.2.1) (g := (mkF m 2 #[.val (.ref a1), .val (.int p2), .unset] [(.ref a1), (.int p2)])) rfl rfl (hb hby d20_2) _ k) ?_
  rw [len_of S1 Nn1]
  show Go p.tables e below PP (s₁.setTop (mkF m 3 #[.val (.ref a1), .val (.int p2), .unset] [(.int n1), (.int p2)]))
  by_cases hc3 : p2 = n1
  · --
    refine Go.st (fun t k => XS.icmpNo X0.here hx rfl (hb hby d20_3) rfl (XT.ii_ne_f hc3) k) ?_
    show Go p.tables e below PP (s₁.setTop (mkF m 6 #[.val (.ref a1), .val (.int p2), .unset] []))
    refine Go.st (fun t k => XS.aloadN X0.here hx rfl (hb hby d20_6) rfl rfl k) ?_
    show Go p.tables e below PP (s₁.setTop (mkF m 7 #[.val (.ref a1), .val (.int p2), .unset] [(.ref a1)]))
    obtain ⟨T2, h2, X2, e2, E2, A2, Ex2, st2⟩ := cloneF X0 hx hZ hown (hw _ (List.mem_of_getElem? (i := 126) rfl)) (hw _ (List.mem_of_getElem? (i := 91) rfl)) (hw _ (List.mem_of_getElem? (i := 95) rfl)) (hw _ (List.mem_of_getElem? (i := 93) rfl)) (hw _ (List.mem_of_getElem? (i := 94) rfl)) (hw _ (List.mem_of_getElem? (i := 96) rfl)) e0 V_a1 X_a1 (g := (mkF m 7 #[.val (.ref a1), .val (.int p2), .unset] [(.ref a1)])) rfl (by rw [hml]; rfl) rfl (hb hby d20_7) (by decide) (W := 0) (by show 2 * 0 + _ ≤ _; exact Nat.le_of_eq rfl) (by decide) (cap := 14) hp.2.2 (by decide) (by decide)
    obtain ⟨b2, gz2⟩ : ∃ z, z = h0.size := ⟨_, rfl⟩
    rw [← gz2] at A2 Ex2 st2
    have ne_a1_b2 : a1 ≠ b2 := Nat.ne_of_lt (Nat.lt_of_lt_of_le V_a1.lt (Nat.le_of_eq gz2.symm))
    have g_b2 : n0 ≤ b2 := Nat.le_trans Zn (Nat.le_of_eq gz2.symm)
    have sz_b2 : h0.size ≤ b2 := Nat.le_trans K.1 (Nat.le_of_eq gz2.symm)
    refine Go.st st2 ?_
    replace V_a1 := V_a1.ext E2
    replace X_a1 := X_a1.ext E2
    replace K := K.ext E2
    replace Zn := Nat.le_trans Zn E2.1
    show Go p.tables e below PP (T2.setTop (mkF m 10 #[.val (.ref a1), .val (.int p2), .unset] [(.ref b2)]))
    obtain ⟨T3, X3, e3, st3⟩ := castY X2 hx hZ hown (hw _ (List.mem_of_getElem? (i := 127) rfl)) e2 (Ins.self Ex2) (g := (mkF m 10 #[.val (.ref a1), .val (.int p2), .unset] [(.ref b2)])) rfl rfl (hb hby d20_10)
    refine Go.st st3 ?_
    show Go p.tables e below PP (T3.setTop (mkF m 13 #[.val (.ref a1), .val (.int p2), .unset] [(.ref b2)]))
    rw [hPP]
    refine endR X3 hx hlk hret rfl rfl (hb hby d20_13) ?_ (by decide) (by decide)
    show Q20 Z a1 p2 n1 f1 h0 n0 (some (.ref b2)) T3.heap _
    rw [e3]
    exact ⟨b2, rfl, N0, K, sz_b2, (by rw [hc3]; exact A2.congr (fun k hk => congrArg Value.int (if_pos hk).symm)), Ex2⟩
  · --
    refine Go.st (fun t k => XS.icmpYes X0.here hx rfl (pc0 := 3) (pc' := 14) rfl (hb hby d20_3) rfl (XT.ii_ne_t hc3) (by decide) (by decide) k) ?_
    show Go p.tables e below PP (s₁.setTop (mkF m 14 #[.val (.ref a1), .val (.int p2), .unset] []))
    refine Go.st (fun t k => XS.iloadN X0.here hx rfl (hb hby d20_14) rfl k) ?_
    show Go p.tables e below PP (s₁.setTop (mkF m 15 #[.val (.ref a1), .val (.int p2), .unset] [(.int p2)]))
    obtain ⟨T4, h4, k4, X4, e4, E4, A4, Ex4, st4⟩ := newPE X0 hx hZ (hw _ (List.mem_of_getElem? (i := 9) rfl)) e0 (g := (mkF m 15 #[.val (.ref a1), .val (.int p2), .unset] [(.int p2)])) rfl (hb hby d20_15) rfl hp.1 (cap := 14) hp.2.1 (by decide) (by decide) (by decide) (ad := "[B") (by decide)
    obtain ⟨b4, gz4⟩ : ∃ z, z = h0.size := ⟨_, rfl⟩
    rw [← gz4] at A4 Ex4 st4
    have ne_a1_b4 : a1 ≠ b4 := Nat.ne_of_lt (Nat.lt_of_lt_of_le V_a1.lt (Nat.le_of_eq gz4.symm))
    have g_b4 : n0 ≤ b4 := Nat.le_trans Zn (Nat.le_of_eq gz4.symm)
    have sz_b4 : h0.size ≤ b4 := Nat.le_trans K.1 (Nat.le_of_eq gz4.symm)
    refine Go.st st4 ?_
    replace V_a1 := V_a1.ext E4
    replace X_a1 := X_a1.ext E4
    replace K := K.ext E4
    replace Zn := Nat.le_trans Zn E4.1
    have V_b4 : Afn Z h4 b4 .byte p2 (fun _ => (.int (0 : Int32))) := Afn.new A4 hp.1
    show Go p.tables e below PP (T4.setTop (mkF m 17 #[.val (.ref a1), .val (.int p2), .unset] [(.ref b4)]))
    refine Go.st (fun t k => XS.astoreN X4.here hx rfl (hb hby d20_17) rfl rfl (l' := #[.val (.ref a1), .val (.int p2), .val (.ref b4)]) rfl k) ?_
    show Go p.tables e below PP (T4.setTop (mkF m 18 #[.val (.ref a1), .val (.int p2), .val (.ref b4)] []))
    refine Go.st (fun t k => XS.aloadN X4.here hx rfl (hb hby d20_18) rfl rfl k) ?_
    show Go p.tables e below PP (T4.setTop (mkF m 19 #[.val (.ref a1), .val (.int p2), .val (.ref b4)] [(.ref a1)]))
    refine Go.st (fun t k => XS.iconst X4.here hx rfl (hb hby d20_19) k) ?_
    show Go p.tables e below PP (T4.setTop (mkF m 20 #[.val (.ref a1), .val (.int p2), .val (.ref b4)] [(.int (0 : Int32)), (.ref a1)]))
    refine Go.st (fun t k => XS.aloadN X4.here hx rfl (hb hby d20_20) rfl rfl k) ?_
    show Go p.tables e below PP (T4.setTop (mkF m 21 #[.val (.ref a1), .val (.int p2), .val (.ref b4)] [(.ref b4), (.int (0 : Int32)), (.ref a1)]))
    refine Go.st (fun t k => XS.iconst X4.here hx rfl (hb hby d20_21) k) ?_
    show Go p.tables e below PP (T4.setTop (mkF m 22 #[.val (.ref a1), .val (.int p2), .val (.ref b4)] [(.int (0 : Int32)), (.ref b4), (.int (0 : Int32)), (.ref a1)]))
    refine Go.st (fun t k => XS.aloadN X4.here hx rfl (hb hby d20_22) rfl rfl k) ?_
    show Go p.tables e below PP (T4.setTop (mkF m 23 #[.val (.ref a1), .val (.int p2), .val (.ref b4)] [(.ref a1), (.int (0 : Int32)), (.ref b4), (.int (0 : Int32)), (.ref a1)]))
    obtain ⟨cl5, Ar5, S5, Nn5, -⟩ := id V_a1
    refine Go.st (fun t k => X4.arraylength hx (by rw [e4]; exact Ar5.1) (State.isArrayOf_alike hZ.alike Ar5.2.1) (g := (mkF m 23 #[.val (.ref a1), .val (.int p2), .val (.ref b4)] [(.ref a1), (.int (0 : Int32)), (.ref b4), (.int (0 : Int32)), (.ref a1)])) rfl rfl (hb hby d20_23) _ k) ?_
    rw [len_of S5 Nn5]
    show Go p.tables e below PP (T4.setTop (mkF m 24 #[.val (.ref a1), .val (.int p2), .val (.ref b4)] [(.int n1), (.int (0 : Int32)), (.ref b4), (.int (0 : Int32)), (.ref a1)]))
    refine Go.st (fun t k => XS.iloadN X4.here hx rfl (hb hby d20_24) rfl k) ?_
    show Go p.tables e below PP (T4.setTop (mkF m 25 #[.val (.ref a1), .val (.int p2), .val (.ref b4)] [(.int p2), (.int n1), (.int (0 : Int32)), (.ref b4), (.int (0 : Int32)), (.ref a1)]))
    obtain ⟨v6, T6, L6, X6, hQ6, st6⟩ := callSt X4 hx hZ (y := (⟨"java/lang/Math", "min", "(II)I"⟩ : MethodName)) (argsL := [(.int n1), (.int p2)]) (rest := [(.int (0 : Int32)), (.ref b4), (.int (0 : Int32)), (.ref a1)]) hown (hw _ (List.mem_of_getElem? (i := 113) rfl)) (hw _ (List.mem_of_getElem? (i := 114) rfl)) (hw _ (List.mem_of_getElem? (i := 107) rfl)) (hw _ (List.mem_of_getElem? (i := 115) rfl)) (by decide) (rm21 l Z a0 hw [] n1 p2 h4 n0 Zn) e4 4 (by decide) (by decide) (by decide) (by decide) (g := (mkF m 25 #[.val (.ref a1), .val (.int p2), .val (.ref b4)] [(.int p2), (.int n1), (.int (0 : Int32)), (.ref b4), (.int (0 : Int32)), (.ref a1)])) rfl (by rw [hml]; rfl) (lenOf pd_8 rfl) rfl (by show 2 * 0 + _ ≤ _; exact Nat.le_of_eq rfl) (hb hby d20_25)
    obtain ⟨rfl, rfl, e6⟩ := hQ6
    rw [List.append_nil] at X6
    refine Go.st st6 ?_
    generalize hmn : (if p2 < n1 then p2 else n1) = mn
    show Go p.tables e below PP (T6.setTop (mkF m 28 #[.val (.ref a1), .val (.int p2), .val (.ref b4)] [(.int mn), (.int (0 : Int32)), (.ref b4), (.int (0 : Int32)), (.ref a1)]))
    obtain ⟨T7, h7, L7, X7, e7, N7, Kq7, Vq7, st7⟩ := cpF X6 hx hZ hown (hw _ (List.mem_of_getElem? (i := 116) rfl)) (hw _ (List.mem_of_getElem? (i := 119) rfl)) (hw _ (List.mem_of_getElem? (i := 117) rfl)) (hw _ (List.mem_of_getElem? (i := 118) rfl)) e6 V_a1 V_b4 rfl (by decide) (by decide) ((own_mn hmn hp.1 V_a1.nn).1) (by have e : (0 : Int32).toNatClampNeg = 0 := rfl; have a := own_mn hmn hp.1 V_a1.nn; omega) (by have e : (0 : Int32).toNatClampNeg = 0 := rfl; have a := own_mn hmn hp.1 V_a1.nn; omega) N0 g_b4 (g := (mkF m 28 #[.val (.ref a1), .val (.int p2), .val (.ref b4)] [(.int mn), (.int (0 : Int32)), (.ref b4), (.int (0 : Int32)), (.ref a1)])) rfl (by rw [hml]; rfl) rfl (hb hby d20_28) (by decide) (W := 0) (by show 2 * 0 + _ ≤ _; exact Nat.le_of_eq rfl) (by decide)
    replace V_a1 := V_a1.keep Kq7 (ninS ne_a1_b4 nin0)
    replace X_a1 := X_a1.keep Kq7
    replace Ex4 := Ex4.keep Kq7
    clear V_b4
    replace K := K.trans Kq7 (allS (Or.inr sz_b4) all0)
    replace Zn := Nat.le_trans Zn Kq7.1
    have V_b4 := Vq7
    refine Go.st st7 ?_
    show Go p.tables e below PP (T7.setTop (mkF m 31 #[.val (.ref a1), .val (.int p2), .val (.ref b4)] []))
    refine Go.st (fun t k => XS.aloadN X7.here hx rfl (hb hby d20_31) rfl rfl k) ?_
    show Go p.tables e below PP (T7.setTop (mkF m 32 #[.val (.ref a1), .val (.int p2), .val (.ref b4)] [(.ref b4)]))
    rw [hPP]
    refine endR X7 hx hlk hret rfl rfl (hb hby d20_32) ?_ (by decide) (by decide)
    show Q20 Z a1 p2 n1 f1 h0 n0 (some (.ref b4)) T7.heap _
    rw [e7]
    exact ⟨b4, rfl, N7, K, sz_b4, V_b4.congr (fun k hk => own_cpo f1 n1 p2 mn hmn k hk), Ex4⟩
theorem d18_0 : decode prog_16_method_25_code 0 = .ok (.aload_n 0, 1) := by decide +kernel
theorem d18_1 : decode prog_16_method_25_code 1 = .ok (.getfield 12, 3) := by decide +kernel
theorem d18_4 : decode prog_16_method_25_code 4 = .ok (.arraylength, 1) := by decide +kernel
theorem d18_5 : decode prog_16_method_25_code 5 = .ok (.aload_n 0, 1) := by decide +kernel
theorem d18_6 : decode prog_16_method_25_code 6 = .ok (.getfield 50, 3) := by decide +kernel
theorem d18_9 : decode prog_16_method_25_code 9 = .ok (.isub, 1) := by decide +kernel
theorem d18_10 : decode prog_16_method_25_code 10 = .ok (.iload_n 1, 1) := by decide +kernel
theorem d18_11 : decode prog_16_method_25_code 11 = .ok (.if_icmp .ge 30, 3) := by decide +kernel
theorem d18_14 : decode prog_16_method_25_code 14 = .ok (.aload_n 0, 1) := by decide +kernel
theorem d18_15 : decode prog_16_method_25_code 15 = .ok (.aload_n 0, 1) := by decide +kernel
theorem d18_16 : decode prog_16_method_25_code 16 = .ok (.getfield 12, 3) := by decide +kernel
theorem d18_19 : decode prog_16_method_25_code 19 = .ok (.iconst 2, 1) := by decide +kernel
theorem d18_20 : decode prog_16_method_25_code 20 = .ok (.aload_n 0, 1) := by decide +kernel
theorem d18_21 : decode prog_16_method_25_code 21 = .ok (.getfield 12, 3) := by decide +kernel
theorem d18_24 : decode prog_16_method_25_code 24 = .ok (.arraylength, 1) := by decide +kernel
theorem d18_25 : decode prog_16_method_25_code 25 = .ok (.imul, 1) := by decide +kernel
theorem d18_26 : decode prog_16_method_25_code 26 = .ok (.aload_n 0, 1) := by decide +kernel
theorem d18_27 : decode prog_16_method_25_code 27 = .ok (.getfield 50, 3) := by decide +kernel
theorem d18_30 : decode prog_16_method_25_code 30 = .ok (.iload_n 1, 1) := by decide +kernel
theorem d18_31 : decode prog_16_method_25_code 31 = .ok (.iadd, 1) := by decide +kernel
theorem d18_32 : decode prog_16_method_25_code 32 = .ok (.invokestatic 198, 3) := by decide +kernel
theorem d18_35 : decode prog_16_method_25_code 35 = .ok (.invokestatic 146, 3) := by decide +kernel
theorem d18_38 : decode prog_16_method_25_code 38 = .ok (.putfield 12, 3) := by decide +kernel
theorem d18_41 : decode prog_16_method_25_code 41 = .ok (.return_, 1) := by decide +kernel
theorem pn_rm18 : plainName "com/example/facet_hierarchy_store/facethierarchystore/http/JsonWriter" = true := by first | (simp [plainName, overriddenIn]; done) | decide +kernel
theorem ef_rm18 (m : MethodId) (a1 : Addr) : entryFrame m #[(.ref a1), (.int (1 : Int32))] 2 = mkF m 0 #[.val (.ref a1), .val (.int (1 : Int32))] [] := by first | (simp [entryFrame, mkF, argsToLocals, Value.category]; done) | rfl
def Q18 (Z : State) (a1 : Addr) (tx : Addr) (cap : Int32) (tg : Nat → Int32) (ln : Int32) (av : Int32) (h0 : Heap) (n0 : Nat) (v : Option Value) (h : Heap) (L : List Loc) : Prop := ∃ (tx' : Addr) (cap' : Int32) (tg' : Nat → Int32), v = none ∧ Fr n0 L ∧ Keep h0 h [a1, tx] ∧ (tx' = tx ∨ h0.size ≤ tx') ∧ n0 ≤ tx' ∧ JWr Z h a1 tx' cap' tg' ln av ∧ Cap cap' ln ∧ (∀ k, k < ln.toNatClampNeg → tg' k = tg k) ∧ ln < cap'
theorem pd_9 : parseMethodDescriptor "([BI)[B" = some ⟨[(.array .byte), .int], some (.array .byte)⟩ := by decide +kernel
set_option maxRecDepth 65536 in
set_option maxHeartbeats 40000000 in
theorem rm18 (l : Launch) (Z : State) (a0 : Array Value) (hw : ∀ d ∈ tables_1, d.before a0 Z = true) (ws : List Jvm.Cond) (a1 : Addr) (tx : Addr) (cap : Int32) (tg : Nat → Int32) (ln : Int32) (av : Int32) (h0 : Heap) (n0 : Nat) (Z0 : n0 ≤ h0.size) (E_a1 : Exa Z h0 a1 "com/example/facet_hierarchy_store/facethierarchystore/http/JsonWriter") (F_text_a1 : Fld Z h0 a1 "com/example/facet_hierarchy_store/facethierarchystore/http/JsonWriter" "text" "[B" (.ref tx)) (F_length_a1 : Fld Z h0 a1 "com/example/facet_hierarchy_store/facethierarchystore/http/JsonWriter" "length" "I" (.int ln)) (F_afterValue_a1 : Fld Z h0 a1 "com/example/facet_hierarchy_store/facethierarchystore/http/JsonWriter" "afterValue" "Z" (.int av)) (V_tx : Afn Z h0 tx .byte cap (fun k => .int (tg k))) (E_tx : Exa Z h0 tx "[B") (g_a1 : n0 ≤ a1) (g_tx : n0 ≤ tx) (ne_a1_tx : a1 ≠ tx) (hcp : Cap cap ln) (hln : ln.toInt ≤ 7) :
    Con l Z (⟨"com/example/facet_hierarchy_store/facethierarchystore/http/JsonWriter", "room", "(I)V"⟩ : MethodName) prog_16_method_25_code 2 none ws ({ frames := 2, cells := 1, slots := 14, locals := 56 } : Room) #[(.ref a1), (.int (1 : Int32))] h0 (Q18 Z a1 tx cap tg ln av h0 n0) := by
  refine Con.of (plainFor_of_name pn_rm18) ?_
  intro p e s m below meth c s₁ hZ e0 X0 hx hby hml hown hnm hret hlk
  replace hml : c.maxLocals = 2 := hml
  have hown : s.vm.findClass "com/example/facet_hierarchy_store/facethierarchystore/http/JsonWriter" = some m.cls := hown
  have N0 : Fr n0 [] := Fr.nil n0
  obtain ⟨PP, hPP⟩ : ∃ P, P = Fine s below (Q18 Z a1 tx cap tg ln av h0 n0) ({ frames := 2, cells := 1, slots := 14, locals := 56 } : Room).cells ({ frames := 2, cells := 1, slots := 14, locals := 56 } : Room).slots := ⟨_, rfl⟩
  rw [← hPP]
  refine Go.cast (ef_rm18 m a1) ?_
  have K : Keep h0 h0 [a1, tx] := Keep.refl h0 _
  have Zn : n0 ≤ h0.size := Z0
  show Go p.tables e below PP (s₁.setTop (mkF m 0 #[.val (.ref a1), .val (.int (1 : Int32))] []))
  refine Go.st (fun t k => XS.aloadN X0.here hx rfl (hb hby d18_0) rfl rfl k) ?_
  show Go p.tables e below PP (s₁.setTop (mkF m 1 #[.val (.ref a1), .val (.int (1 : Int32))] [(.ref a1)]))
  obtain ⟨T1, X1, e1, st1⟩ := getF X0 hx hZ hown (host := "") (Or.inl (hw _ (List.mem_of_getElem? (i := 10) rfl))) Via.refl e0 F_text_a1 (g := (mkF m 1 #[.val (.ref a1), .val (.int (1 : Int32))] [(.ref a1)])) rfl rfl (hb hby d18_1)
  refine Go.st st1 ?_
  show Go p.tables e below PP (T1.setTop (mkF m 4 #[.val (.ref a1), .val (.int (1 : Int32))] [(.ref tx)]))
  obtain ⟨cl2, Ar2, S2, Nn2, -⟩ := id V_tx
  refine Go.st (fun t k => X1.arraylength hx (by rw [e1]; exact Ar2.1) (State.isArrayOf_alike hZ.alike Ar2.2.1) (g := (mkF m 4 #[.val (.ref a1), .val (.int (1 : Int32))] [(.ref tx)])) rfl rfl (hb hby d18_4) _ k) ?_
  rw [len_of S2 Nn2]
  show Go p.tables e below PP (T1.setTop (mkF m 5 #[.val (.ref a1), .val (.int (1 : Int32))] [(.int cap)]))
  refine Go.st (fun t k => XS.aloadN X1.here hx rfl (hb hby d18_5) rfl rfl k) ?_
  show Go p.tables e below PP (T1.setTop (mkF m 6 #[.val (.ref a1), .val (.int (1 : Int32))] [(.ref a1), (.int cap)]))
  obtain ⟨T3, X3, e3, st3⟩ := getF X1 hx hZ hown (host := "") (Or.inl (hw _ (List.mem_of_getElem? (i := 103) rfl))) Via.refl e1 F_length_a1 (g := (mkF m 6 #[.val (.ref a1), .val (.int (1 : Int32))] [(.ref a1), (.int cap)])) rfl rfl (hb hby d18_6)
  refine Go.st st3 ?_
  show Go p.tables e below PP (T3.setTop (mkF m 9 #[.val (.ref a1), .val (.int (1 : Int32))] [(.int ln), (.int cap)]))
  refine Go.st (fun t k => XS.isub X3.here hx rfl (hb hby d18_9) rfl k) ?_
  show Go p.tables e below PP (T3.setTop (mkF m 10 #[.val (.ref a1), .val (.int (1 : Int32))] [(.int (cap - ln))]))
  refine Go.st (fun t k => XS.iloadN X3.here hx rfl (hb hby d18_10) rfl k) ?_
  show Go p.tables e below PP (T3.setTop (mkF m 11 #[.val (.ref a1), .val (.int (1 : Int32))] [(.int (1 : Int32)), (.int (cap - ln))]))
  by_cases hc11 : (cap - ln) < (1 : Int32)
  · --
    refine Go.st (fun t k => XS.icmpNo X3.here hx rfl (hb hby d18_11) rfl (XT.ii_ge_f hc11) k) ?_
    show Go p.tables e below PP (T3.setTop (mkF m 14 #[.val (.ref a1), .val (.int (1 : Int32))] []))
    refine Go.st (fun t k => XS.aloadN X3.here hx rfl (hb hby d18_14) rfl rfl k) ?_
    show Go p.tables e below PP (T3.setTop (mkF m 15 #[.val (.ref a1), .val (.int (1 : Int32))] [(.ref a1)]))
    refine Go.st (fun t k => XS.aloadN X3.here hx rfl (hb hby d18_15) rfl rfl k) ?_
    show Go p.tables e below PP (T3.setTop (mkF m 16 #[.val (.ref a1), .val (.int (1 : Int32))] [(.ref a1), (.ref a1)]))
    obtain ⟨T4, X4, e4, st4⟩ := getF X3 hx hZ hown (host := "") (Or.inl (hw _ (List.mem_of_getElem? (i := 10) rfl))) Via.refl e3 F_text_a1 (g := (mkF m 16 #[.val (.ref a1), .val (.int (1 : Int32))] [(.ref a1), (.ref a1)])) rfl rfl (hb hby d18_16)
    refine Go.st st4 ?_
    show Go p.tables e below PP (T4.setTop (mkF m 19 #[.val (.ref a1), .val (.int (1 : Int32))] [(.ref tx), (.ref a1)]))
    refine Go.st (fun t k => XS.iconst X4.here hx rfl (hb hby d18_19) k) ?_
    show Go p.tables e below PP (T4.setTop (mkF m 20 #[.val (.ref a1), .val (.int (1 : Int32))] [(.int (2 : Int32)), (.ref tx), (.ref a1)]))
    refine Go.st (fun t k => XS.aloadN X4.here hx rfl (hb hby d18_20) rfl rfl k) ?_
    show Go p.tables e below PP (T4.setTop (mkF m 21 #[.val (.ref a1), .val (.int (1 : Int32))] [(.ref a1), (.int (2 : Int32)), (.ref tx), (.ref a1)]))
    obtain ⟨T5, X5, e5, st5⟩ := getF X4 hx hZ hown (host := "") (Or.inl (hw _ (List.mem_of_getElem? (i := 10) rfl))) Via.refl e4 F_text_a1 (g := (mkF m 21 #[.val (.ref a1), .val (.int (1 : Int32))] [(.ref a1), (.int (2 : Int32)), (.ref tx), (.ref a1)])) rfl rfl (hb hby d18_21)
    refine Go.st st5 ?_
    show Go p.tables e below PP (T5.setTop (mkF m 24 #[.val (.ref a1), .val (.int (1 : Int32))] [(.ref tx), (.int (2 : Int32)), (.ref tx), (.ref a1)]))
    obtain ⟨cl6, Ar6, S6, Nn6, -⟩ := id V_tx
    refine Go.st (fun t k => X5.arraylength hx (by rw [e5]; exact Ar6.1) (State.isArrayOf_alike hZ.alike Ar6.2.1) (g := (mkF m 24 #[.val (.ref a1), .val (.int (1 : Int32))] [(.ref tx), (.int (2 : Int32)), (.ref tx), (.ref a1)])) rfl rfl (hb hby d18_24) _ k) ?_
    rw [len_of S6 Nn6]
    show Go p.tables e below PP (T5.setTop (mkF m 25 #[.val (.ref a1), .val (.int (1 : Int32))] [(.int cap), (.int (2 : Int32)), (.ref tx), (.ref a1)]))
    refine Go.st (fun t k => XS.imul X5.here hx rfl (hb hby d18_25) rfl k) ?_
    show Go p.tables e below PP (T5.setTop (mkF m 26 #[.val (.ref a1), .val (.int (1 : Int32))] [(.int ((2 : Int32) * cap)), (.ref tx), (.ref a1)]))
    refine Go.st (fun t k => XS.aloadN X5.here hx rfl (hb hby d18_26) rfl rfl k) ?_
    show Go p.tables e below PP (T5.setTop (mkF m 27 #[.val (.ref a1), .val (.int (1 : Int32))] [(.ref a1), (.int ((2 : Int32) * cap)), (.ref tx), (.ref a1)]))
    obtain ⟨T7, X7, e7, st7⟩ := getF X5 hx hZ hown (host := "") (Or.inl (hw _ (List.mem_of_getElem? (i := 103) rfl))) Via.refl e5 F_length_a1 (g := (mkF m 27 #[.val (.ref a1), .val (.int (1 : Int32))] [(.ref a1), (.int ((2 : Int32) * cap)), (.ref tx), (.ref a1)])) rfl rfl (hb hby d18_27)
    refine Go.st st7 ?_
    show Go p.tables e below PP (T7.setTop (mkF m 30 #[.val (.ref a1), .val (.int (1 : Int32))] [(.int ln), (.int ((2 : Int32) * cap)), (.ref tx), (.ref a1)]))
    refine Go.st (fun t k => XS.iloadN X7.here hx rfl (hb hby d18_30) rfl k) ?_
    show Go p.tables e below PP (T7.setTop (mkF m 31 #[.val (.ref a1), .val (.int (1 : Int32))] [(.int (1 : Int32)), (.int ln), (.int ((2 : Int32) * cap)), (.ref tx), (.ref a1)]))
    refine Go.st (fun t k => XS.iadd X7.here hx rfl (hb hby d18_31) rfl k) ?_
    show Go p.tables e below PP (T7.setTop (mkF m 32 #[.val (.ref a1), .val (.int (1 : Int32))] [(.int (ln + (1 : Int32))), (.int ((2 : Int32) * cap)), (.ref tx), (.ref a1)]))
    obtain ⟨v8, T8, L8, X8, hQ8, st8⟩ := callSt X7 hx hZ (y := (⟨"java/lang/Math", "max", "(II)I"⟩ : MethodName)) (argsL := [(.int ((2 : Int32) * cap)), (.int (ln + (1 : Int32)))]) (rest := [(.ref tx), (.ref a1)]) hown (hw _ (List.mem_of_getElem? (i := 105) rfl)) (hw _ (List.mem_of_getElem? (i := 106) rfl)) (hw _ (List.mem_of_getElem? (i := 107) rfl)) (hw _ (List.mem_of_getElem? (i := 108) rfl)) (by decide) (rm19 l Z a0 hw [] ((2 : Int32) * cap) (ln + (1 : Int32)) h0 n0 Zn) e7 2 (by decide) (by decide) (by decide) (by decide) (g := (mkF m 32 #[.val (.ref a1), .val (.int (1 : Int32))] [(.int (ln + (1 : Int32))), (.int ((2 : Int32) * cap)), (.ref tx), (.ref a1)])) rfl (by rw [hml]; rfl) (lenOf pd_8 rfl) rfl (by show 2 * 0 + _ ≤ _; exact Nat.le_of_eq rfl) (hb hby d18_32)
    obtain ⟨rfl, rfl, e8⟩ := hQ8
    rw [List.append_nil] at X8
    refine Go.st st8 ?_
    generalize hnc : (if ((2 : Int32) * cap) < (ln + (1 : Int32)) then (ln + (1 : Int32)) else ((2 : Int32) * cap)) = nc
    have hrm := own_room1 hcp hln hc11 hnc
    show Go p.tables e below PP (T8.setTop (mkF m 35 #[.val (.ref a1), .val (.int (1 : Int32))] [(.int nc), (.ref tx), (.ref a1)]))
    obtain ⟨v9, T9, L9, X9, hQ9, st9⟩ := callSt X8 hx hZ (y := (⟨"java/util/Arrays", "copyOf", "([BI)[B"⟩ : MethodName)) (argsL := [(.ref tx), (.int nc)]) (rest := [(.ref a1)]) hown (hw _ (List.mem_of_getElem? (i := 109) rfl)) (hw _ (List.mem_of_getElem? (i := 110) rfl)) (hw _ (List.mem_of_getElem? (i := 111) rfl)) (hw _ (List.mem_of_getElem? (i := 112) rfl)) (by decide) (rm20 l Z a0 hw [] tx nc cap tg h0 n0 Zn V_tx E_tx ⟨hrm.2.1, hrm.2.2.1, own_c14 hcp⟩) e8 1 (by decide) (by decide) (by decide) (by decide) (g := (mkF m 35 #[.val (.ref a1), .val (.int (1 : Int32))] [(.int nc), (.ref tx), (.ref a1)])) rfl (by rw [hml]; rfl) (lenOf pd_9 rfl) rfl (by show 2 * 0 + _ ≤ _; exact Nat.le_of_eq rfl) (hb hby d18_35)
    obtain ⟨h9, e9⟩ : ∃ z, T9.heap = z := ⟨_, rfl⟩
    rw [e9] at hQ9
    obtain ⟨t_9, rfl, Nq9, Kq9, sq9_t, Fq9_0, Fq9_1⟩ := hQ9
    have N9 := Fr.app N0 Nq9
    have ne_a1_t_9 : a1 ≠ t_9 := Nat.ne_of_lt (Nat.lt_of_lt_of_le E_a1.lt sq9_t)
    have ne_tx_t_9 : tx ≠ t_9 := Nat.ne_of_lt (Nat.lt_of_lt_of_le V_tx.lt sq9_t)
    have g_t_9 : n0 ≤ t_9 := Nat.le_trans Zn sq9_t
    have sz_t_9 : h0.size ≤ t_9 := Nat.le_trans K.1 sq9_t
    replace E_a1 := E_a1.keep Kq9
    replace F_text_a1 := F_text_a1.keep Kq9 nin0
    replace F_length_a1 := F_length_a1.keep Kq9 nin0
    replace F_afterValue_a1 := F_afterValue_a1.keep Kq9 nin0
    replace V_tx := V_tx.keep Kq9 nin0
    replace E_tx := E_tx.keep Kq9
    replace K := K.trans Kq9 all0
    replace Zn := Nat.le_trans Zn Kq9.1
    have V_t_9 := Fq9_0
    have X_t_9 := Fq9_1
    refine Go.st st9 ?_
    show Go p.tables e below PP (T9.setTop (mkF m 38 #[.val (.ref a1), .val (.int (1 : Int32))] [(.ref t_9), (.ref a1)]))
    obtain ⟨T10, h10, X10, e10, W10, st10⟩ := putF X9 hx hZ hown (host := "") (Or.inl (hw _ (List.mem_of_getElem? (i := 10) rfl))) Via.refl e9 F_text_a1 E_a1 (Or.inl (hw _ (List.mem_of_getElem? (i := 11) rfl))) (hw _ (List.mem_of_getElem? (i := 1) rfl)) (ty := (.array .byte)) (by decide) rfl rfl (g := (mkF m 38 #[.val (.ref a1), .val (.int (1 : Int32))] [(.ref t_9), (.ref a1)])) rfl rfl (hb hby d18_38)
    refine Go.st st10 ?_
    have N10 := Fr.snoc X10 N9 g_a1
    replace E_a1 := E_a1.wr W10
    replace F_length_a1 := F_length_a1.other W10 (Or.inr (slot_ne (a0 := a0) (Or.inl (hw _ (List.mem_of_getElem? (i := 104) rfl))) (Or.inl (hw _ (List.mem_of_getElem? (i := 11) rfl))) (by decide) (t := .int) (t' := (.array .byte)) (by decide) (by decide)))
    replace F_afterValue_a1 := F_afterValue_a1.other W10 (Or.inr (slot_ne (a0 := a0) (Or.inl (hw _ (List.mem_of_getElem? (i := 30) rfl))) (Or.inl (hw _ (List.mem_of_getElem? (i := 11) rfl))) (by decide) (t := .boolean) (t' := (.array .byte)) (by decide) (by decide)))
    replace V_tx := V_tx.other W10 (Ne.symm ne_a1_tx)
    replace E_tx := E_tx.wr W10
    replace V_t_9 := V_t_9.other W10 (Ne.symm ne_a1_t_9)
    replace X_t_9 := X_t_9.wr W10
    replace K := K.wr W10 (Or.inl (List.mem_of_getElem? (i := 0) rfl))
    replace Zn : n0 ≤ h10.size := by rw [W10.size]; exact Zn
    replace F_text_a1 := F_text_a1.same W10
    show Go p.tables e below PP (T10.setTop (mkF m 41 #[.val (.ref a1), .val (.int (1 : Int32))] []))
    rw [hPP]
    refine endV X10 hx hlk hret (hb hby d18_41) ?_ (by decide) (by decide)
    show Q18 Z a1 tx cap tg ln av h0 n0 none T10.heap _
    rw [e10]
    exact ⟨t_9, _, (fun k => if k < cap.toNatClampNeg then tg k else 0), rfl, N10, K, (Or.inr sz_t_9), g_t_9, ⟨F_text_a1, F_length_a1, F_afterValue_a1, V_t_9, X_t_9⟩, hrm.2.2.2, (fun k hk => if_pos (Nat.lt_of_lt_of_le hk (own_capN hcp))), hrm.1⟩
  · --
    refine Go.st (fun t k => XS.icmpYes X3.here hx rfl (pc0 := 11) (pc' := 41) rfl (hb hby d18_11) rfl (XT.ii_ge_t hc11) (by decide) (by decide) k) ?_
    show Go p.tables e below PP (T3.setTop (mkF m 41 #[.val (.ref a1), .val (.int (1 : Int32))] []))
    rw [hPP]
    refine endV X3 hx hlk hret (hb hby d18_41) ?_ (by decide) (by decide)
    show Q18 Z a1 tx cap tg ln av h0 n0 none T3.heap _
    rw [e3]
    exact ⟨tx, _, tg, rfl, N0, K, (Or.inl rfl), g_tx, ⟨F_text_a1, F_length_a1, F_afterValue_a1, V_tx, E_tx⟩, hcp, (fun k _ => rfl), (own_room0 hcp hc11)⟩
theorem d27_0 : decode prog_16_method_20_code 0 = .ok (.aload_n 0, 1) := by decide +kernel
theorem d27_1 : decode prog_16_method_20_code 1 = .ok (.iconst 1, 1) := by decide +kernel
theorem d27_2 : decode prog_16_method_20_code 2 = .ok (.invokevirtual 38, 3) := by decide +kernel
theorem d27_5 : decode prog_16_method_20_code 5 = .ok (.aload_n 0, 1) := by decide +kernel
theorem d27_6 : decode prog_16_method_20_code 6 = .ok (.getfield 12, 3) := by decide +kernel
theorem d27_9 : decode prog_16_method_20_code 9 = .ok (.aload_n 0, 1) := by decide +kernel
theorem d27_10 : decode prog_16_method_20_code 10 = .ok (.dup, 1) := by decide +kernel
theorem d27_11 : decode prog_16_method_20_code 11 = .ok (.getfield 50, 3) := by decide +kernel
theorem d27_14 : decode prog_16_method_20_code 14 = .ok (.dup_x1, 1) := by decide +kernel
theorem d27_15 : decode prog_16_method_20_code 15 = .ok (.iconst 1, 1) := by decide +kernel
theorem d27_16 : decode prog_16_method_20_code 16 = .ok (.iadd, 1) := by decide +kernel
theorem d27_17 : decode prog_16_method_20_code 17 = .ok (.putfield 50, 3) := by decide +kernel
theorem d27_20 : decode prog_16_method_20_code 20 = .ok (.iload_n 1, 1) := by decide +kernel
theorem d27_21 : decode prog_16_method_20_code 21 = .ok (.i2b, 1) := by decide +kernel
theorem d27_22 : decode prog_16_method_20_code 22 = .ok (.bastore, 1) := by decide +kernel
theorem d27_23 : decode prog_16_method_20_code 23 = .ok (.return_, 1) := by decide +kernel
theorem pn_rm27 : plainName "com/example/facet_hierarchy_store/facethierarchystore/http/JsonWriter" = true := by first | (simp [plainName, overriddenIn]; done) | decide +kernel
theorem ef_rm27 (m : MethodId) (a1 : Addr) (p2 : Int32) : entryFrame m #[(.ref a1), (.int p2)] 2 = mkF m 0 #[.val (.ref a1), .val (.int p2)] [] := by first | (simp [entryFrame, mkF, argsToLocals, Value.category]; done) | rfl
def Q27 (Z : State) (a1 : Addr) (p2 : Int32) (tx : Addr) (cap : Int32) (tg : Nat → Int32) (ln : Int32) (av : Int32) (h0 : Heap) (n0 : Nat) (v : Option Value) (h : Heap) (L : List Loc) : Prop := ∃ (tx' : Addr) (cap' : Int32) (tg' : Nat → Int32), v = none ∧ Fr n0 L ∧ Keep h0 h [a1, tx] ∧ (tx' = tx ∨ h0.size ≤ tx') ∧ n0 ≤ tx' ∧ JWr Z h a1 tx' cap' tg' (ln + (1 : Int32)) av ∧ Cap cap' (ln + (1 : Int32)) ∧ (∀ k, k < (ln + (1 : Int32)).toNatClampNeg → tg' k = (upd tg ln (p2.toInt8.toInt32)) k)
theorem pd_10 : parseMethodDescriptor "(I)V" = some ⟨[.int], none⟩ := by decide +kernel
set_option maxRecDepth 65536 in
set_option maxHeartbeats 40000000 in
theorem rm27 (l : Launch) (Z : State) (a0 : Array Value) (hw : ∀ d ∈ tables_1, d.before a0 Z = true) (ws : List Jvm.Cond) (a1 : Addr) (p2 : Int32) (tx : Addr) (cap : Int32) (tg : Nat → Int32) (ln : Int32) (av : Int32) (h0 : Heap) (n0 : Nat) (Z0 : n0 ≤ h0.size) (E_a1 : Exa Z h0 a1 "com/example/facet_hierarchy_store/facethierarchystore/http/JsonWriter") (F_text_a1 : Fld Z h0 a1 "com/example/facet_hierarchy_store/facethierarchystore/http/JsonWriter" "text" "[B" (.ref tx)) (F_length_a1 : Fld Z h0 a1 "com/example/facet_hierarchy_store/facethierarchystore/http/JsonWriter" "length" "I" (.int ln)) (F_afterValue_a1 : Fld Z h0 a1 "com/example/facet_hierarchy_store/facethierarchystore/http/JsonWriter" "afterValue" "Z" (.int av)) (V_tx : Afn Z h0 tx .byte cap (fun k => .int (tg k))) (E_tx : Exa Z h0 tx "[B") (g_a1 : n0 ≤ a1) (g_tx : n0 ≤ tx) (ne_a1_tx : a1 ≠ tx) (hcp : Cap cap ln) (hln : ln.toInt ≤ 7) :
    Con l Z (⟨"com/example/facet_hierarchy_store/facethierarchystore/http/JsonWriter", "put", "(C)V"⟩ : MethodName) prog_16_method_20_code 2 none ws ({ frames := 3, cells := 1, slots := 14, locals := 70 } : Room) #[(.ref a1), (.int p2)] h0 (Q27 Z a1 p2 tx cap tg ln av h0 n0) := by
  refine Con.of (plainFor_of_name pn_rm27) ?_
  intro p e s m below meth c s₁ hZ e0 X0 hx hby hml hown hnm hret hlk
  replace hml : c.maxLocals = 2 := hml
  have hown : s.vm.findClass "com/example/facet_hierarchy_store/facethierarchystore/http/JsonWriter" = some m.cls := hown
  have N0 : Fr n0 [] := Fr.nil n0
  obtain ⟨PP, hPP⟩ : ∃ P, P = Fine s below (Q27 Z a1 p2 tx cap tg ln av h0 n0) ({ frames := 3, cells := 1, slots := 14, locals := 70 } : Room).cells ({ frames := 3, cells := 1, slots := 14, locals := 70 } : Room).slots := ⟨_, rfl⟩
  rw [← hPP]
  refine Go.cast (ef_rm27 m a1 p2) ?_
  have K : Keep h0 h0 [a1, tx] := Keep.refl h0 _
  have Zn : n0 ≤ h0.size := Z0
  show Go p.tables e below PP (s₁.setTop (mkF m 0 #[.val (.ref a1), .val (.int p2)] []))
  refine Go.st (fun t k => XS.aloadN X0.here hx rfl (hb hby d27_0) rfl rfl k) ?_
  show Go p.tables e below PP (s₁.setTop (mkF m 1 #[.val (.ref a1), .val (.int p2)] [(.ref a1)]))
  refine Go.st (fun t k => XS.iconst X0.here hx rfl (hb hby d27_1) k) ?_
  show Go p.tables e below PP (s₁.setTop (mkF m 2 #[.val (.ref a1), .val (.int p2)] [(.int (1 : Int32)), (.ref a1)]))
  obtain ⟨v1, T1, L1, X1, hQ1, st1⟩ := callPr X0 hx hZ (y := (⟨"com/example/facet_hierarchy_store/facethierarchystore/http/JsonWriter", "room", "(I)V"⟩ : MethodName)) (a := a1) (argsL := [(.int (1 : Int32))]) (rest := []) hown (hw _ (List.mem_of_getElem? (i := 99) rfl)) (hw _ (List.mem_of_getElem? (i := 100) rfl)) (selPriv (y := (⟨"com/example/facet_hierarchy_store/facethierarchystore/http/JsonWriter", "room", "(I)V"⟩ : MethodName)) (hw _ (List.mem_of_getElem? (i := 1) rfl)) (hw _ (List.mem_of_getElem? (i := 101) rfl)) (hw _ (List.mem_of_getElem? (i := 100) rfl)) (by decide)) (hw _ (List.mem_of_getElem? (i := 101) rfl)) (hw _ (List.mem_of_getElem? (i := 2) rfl)) (hw _ (List.mem_of_getElem? (i := 102) rfl)) (by decide) E_a1 (rm18 l Z a0 hw [] a1 tx cap tg ln av h0 n0 Zn E_a1 F_text_a1 F_length_a1 F_afterValue_a1 V_tx E_tx g_a1 g_tx ne_a1_tx hcp hln) e0 0 (by decide) (by decide) (by decide) (by decide) (g := (mkF m 2 #[.val (.ref a1), .val (.int p2)] [(.int (1 : Int32)), (.ref a1)])) rfl (by rw [hml]; rfl) (lenOf pd_10 rfl) rfl (by show 2 * 0 + _ ≤ _; exact Nat.le_of_eq rfl) (hb hby d27_2)
  obtain ⟨h1, e1⟩ : ∃ z, T1.heap = z := ⟨_, rfl⟩
  rw [e1] at hQ1
  obtain ⟨tx1, cc1, tg1, rfl, Nq1, Kq1, oq1, gq1, ⟨Ft1, Fl1, Fa1, Vt1, Xt1⟩, cpq1, bq1, mq1⟩ := hQ1
  have N1 := Fr.app N0 Nq1
  have ne_a1_tx1 : a1 ≠ tx1 := oq1.elim (fun q => by rw [q]; exact ne_a1_tx) (fun q => Nat.ne_of_lt (Nat.lt_of_lt_of_le E_a1.lt q))
  have kp_tx1 : tx1 ∈ [a1, tx] ∨ h0.size ≤ tx1 := oq1.elim (fun q => by rw [q]; exact (Or.inl (List.mem_of_getElem? (i := 1) rfl))) (fun q => Or.inr (Nat.le_trans K.1 q))
  have hor_tx1 : tx1 = tx ∨ h0.size ≤ tx1 := oq1.elim (fun q => by rw [q]; exact (Or.inl rfl)) (fun q => Or.inr (Nat.le_trans K.1 q))
  replace E_a1 := E_a1.keep Kq1
  clear F_text_a1
  clear F_length_a1
  clear F_afterValue_a1
  clear V_tx
  replace K := K.trans Kq1 (allS (Or.inl (List.mem_of_getElem? (i := 0) rfl)) (allS (Or.inl (List.mem_of_getElem? (i := 1) rfl)) all0))
  replace Zn := Nat.le_trans Zn Kq1.1
  refine Go.st st1 ?_
  show Go p.tables e below PP (T1.setTop (mkF m 5 #[.val (.ref a1), .val (.int p2)] []))
  refine Go.st (fun t k => XS.aloadN X1.here hx rfl (hb hby d27_5) rfl rfl k) ?_
  show Go p.tables e below PP (T1.setTop (mkF m 6 #[.val (.ref a1), .val (.int p2)] [(.ref a1)]))
  obtain ⟨T2, X2, e2, st2⟩ := getF X1 hx hZ hown (host := "") (Or.inl (hw _ (List.mem_of_getElem? (i := 10) rfl))) Via.refl e1 Ft1 (g := (mkF m 6 #[.val (.ref a1), .val (.int p2)] [(.ref a1)])) rfl rfl (hb hby d27_6)
  refine Go.st st2 ?_
  show Go p.tables e below PP (T2.setTop (mkF m 9 #[.val (.ref a1), .val (.int p2)] [(.ref tx1)]))
  refine Go.st (fun t k => XS.aloadN X2.here hx rfl (hb hby d27_9) rfl rfl k) ?_
  show Go p.tables e below PP (T2.setTop (mkF m 10 #[.val (.ref a1), .val (.int p2)] [(.ref a1), (.ref tx1)]))
  refine Go.st (fun t k => XS.dup X2.here hx rfl (hb hby d27_10) rfl rfl k) ?_
  show Go p.tables e below PP (T2.setTop (mkF m 11 #[.val (.ref a1), .val (.int p2)] [(.ref a1), (.ref a1), (.ref tx1)]))
  obtain ⟨T3, X3, e3, st3⟩ := getF X2 hx hZ hown (host := "") (Or.inl (hw _ (List.mem_of_getElem? (i := 103) rfl))) Via.refl e2 Fl1 (g := (mkF m 11 #[.val (.ref a1), .val (.int p2)] [(.ref a1), (.ref a1), (.ref tx1)])) rfl rfl (hb hby d27_11)
  refine Go.st st3 ?_
  show Go p.tables e below PP (T3.setTop (mkF m 14 #[.val (.ref a1), .val (.int p2)] [(.int ln), (.ref a1), (.ref tx1)]))
  refine Go.st (fun t k => XS.dupX1 X3.here hx rfl (hb hby d27_14) rfl rfl rfl k) ?_
  show Go p.tables e below PP (T3.setTop (mkF m 15 #[.val (.ref a1), .val (.int p2)] [(.int ln), (.ref a1), (.int ln), (.ref tx1)]))
  refine Go.st (fun t k => XS.iconst X3.here hx rfl (hb hby d27_15) k) ?_
  show Go p.tables e below PP (T3.setTop (mkF m 16 #[.val (.ref a1), .val (.int p2)] [(.int (1 : Int32)), (.int ln), (.ref a1), (.int ln), (.ref tx1)]))
  refine Go.st (fun t k => XS.iadd X3.here hx rfl (hb hby d27_16) rfl k) ?_
  show Go p.tables e below PP (T3.setTop (mkF m 17 #[.val (.ref a1), .val (.int p2)] [(.int (ln + (1 : Int32))), (.ref a1), (.int ln), (.ref tx1)]))
  obtain ⟨T4, h4, X4, e4, W4, st4⟩ := putF X3 hx hZ hown (host := "") (Or.inl (hw _ (List.mem_of_getElem? (i := 103) rfl))) Via.refl e3 Fl1 E_a1 (Or.inl (hw _ (List.mem_of_getElem? (i := 104) rfl))) (hw _ (List.mem_of_getElem? (i := 1) rfl)) (ty := .int) (by decide) rfl rfl (g := (mkF m 17 #[.val (.ref a1), .val (.int p2)] [(.int (ln + (1 : Int32))), (.ref a1), (.int ln), (.ref tx1)])) rfl rfl (hb hby d27_17)
  refine Go.st st4 ?_
  have N4 := Fr.snoc X4 N1 g_a1
  replace E_a1 := E_a1.wr W4
  replace Ft1 := Ft1.other W4 (Or.inr (slot_ne (a0 := a0) (Or.inl (hw _ (List.mem_of_getElem? (i := 11) rfl))) (Or.inl (hw _ (List.mem_of_getElem? (i := 104) rfl))) (by decide) (t := (.array .byte)) (t' := .int) (by decide) (by decide)))
  replace Fa1 := Fa1.other W4 (Or.inr (slot_ne (a0 := a0) (Or.inl (hw _ (List.mem_of_getElem? (i := 30) rfl))) (Or.inl (hw _ (List.mem_of_getElem? (i := 104) rfl))) (by decide) (t := .boolean) (t' := .int) (by decide) (by decide)))
  replace Vt1 := Vt1.other W4 (Ne.symm ne_a1_tx1)
  replace Xt1 := Xt1.wr W4
  replace K := K.wr W4 (Or.inl (List.mem_of_getElem? (i := 0) rfl))
  replace Zn : n0 ≤ h4.size := by rw [W4.size]; exact Zn
  replace Fl1 := Fl1.same W4
  show Go p.tables e below PP (T4.setTop (mkF m 20 #[.val (.ref a1), .val (.int p2)] [(.int ln), (.ref tx1)]))
  refine Go.st (fun t k => XS.iloadN X4.here hx rfl (hb hby d27_20) rfl k) ?_
  show Go p.tables e below PP (T4.setTop (mkF m 21 #[.val (.ref a1), .val (.int p2)] [(.int p2), (.int ln), (.ref tx1)]))
  refine Go.st (fun t k => XS.i2b X4.here hx rfl (hb hby d27_21) rfl k) ?_
  show Go p.tables e below PP (T4.setTop (mkF m 22 #[.val (.ref a1), .val (.int p2)] [(.int (p2.toInt8.toInt32)), (.int ln), (.ref tx1)]))
  obtain ⟨cl5, Ar5, S5, Nn5, H5⟩ := id Vt1
  have hin5 : ¬ (ln < 0 ∨ cl5.slots.size ≤ (ln).toNatClampNeg) := inb_of S5 ⟨hcp.1, mq1⟩
  obtain ⟨T5, h5, X5, e5, W5, st5⟩ := stB X4 hx hZ e4 Ar5 (j := ln) hin5 (g := (mkF m 22 #[.val (.ref a1), .val (.int p2)] [(.int (p2.toInt8.toInt32)), (.int ln), (.ref tx1)])) rfl rfl (hb hby d27_22)
  refine Go.st st5 ?_
  have N5 := Fr.snoc X5 N4 gq1
  replace E_a1 := E_a1.wr W5
  replace Ft1 := Ft1.other W5 (Or.inl ne_a1_tx1)
  replace Fl1 := Fl1.other W5 (Or.inl ne_a1_tx1)
  replace Fa1 := Fa1.other W5 (Or.inl ne_a1_tx1)
  replace Xt1 := Xt1.wr W5
  replace K := K.wr W5 kp_tx1
  replace Zn : n0 ≤ h5.size := by rw [W5.size]; exact Zn
  replace Vt1 := Afn.set Ar5 S5 Nn5 H5 (fits_nar_byte _) W5
  replace Vt1 := Vt1.congr (g := fun k => .int (upd tg1 ln (p2.toInt8.toInt32) k)) (fun k _ => by rw [own_b8]; exact own_ups _ _ _ k)
  show Go p.tables e below PP (T5.setTop (mkF m 23 #[.val (.ref a1), .val (.int p2)] []))
  rw [hPP]
  refine endV X5 hx hlk hret (hb hby d27_23) ?_ (by decide) (by decide)
  show Q27 Z a1 p2 tx cap tg ln av h0 n0 none T5.heap _
  rw [e5]
  exact ⟨tx1, _, (fun k => upd tg1 ln (p2.toInt8.toInt32) k), rfl, N5, K, hor_tx1, gq1, ⟨Ft1, Fl1, Fa1, Vt1, Xt1⟩, (own_capS (cp0 := ln) hln cpq1 mq1), (own_updc hcp.1 hln bq1)⟩
theorem d6_0 : decode prog_16_method_19_code 0 = .ok (.aload_n 0, 1) := by decide +kernel
theorem d6_1 : decode prog_16_method_19_code 1 = .ok (.getfield 34, 3) := by decide +kernel
theorem d6_4 : decode prog_16_method_19_code 4 = .ok (.ifCond .eq 9, 3) := by decide +kernel
theorem d6_7 : decode prog_16_method_19_code 7 = .ok (.aload_n 0, 1) := by decide +kernel
theorem d6_8 : decode prog_16_method_19_code 8 = .ok (.bipush 44, 2) := by decide +kernel
theorem d6_10 : decode prog_16_method_19_code 10 = .ok (.invokevirtual 30, 3) := by decide +kernel
theorem d6_13 : decode prog_16_method_19_code 13 = .ok (.return_, 1) := by decide +kernel
theorem pn_rm6 : plainName "com/example/facet_hierarchy_store/facethierarchystore/http/JsonWriter" = true := by first | (simp [plainName, overriddenIn]; done) | decide +kernel
theorem ef_rm6 (m : MethodId) (a1 : Addr) : entryFrame m #[(.ref a1)] 1 = mkF m 0 #[.val (.ref a1)] [] := by first | (simp [entryFrame, mkF, argsToLocals, Value.category]; done) | rfl
def Q6 (Z : State) (a1 : Addr) (tx : Addr) (cap : Int32) (tg : Nat → Int32) (ln : Int32) (av : Int32) (h0 : Heap) (n0 : Nat) (v : Option Value) (h : Heap) (L : List Loc) : Prop := ∃ (tx' : Addr) (cap' : Int32) (tg' : Nat → Int32), v = none ∧ Fr n0 L ∧ Keep h0 h [a1, tx] ∧ (tx' = tx ∨ h0.size ≤ tx') ∧ n0 ≤ tx' ∧ JWr Z h a1 tx' cap' tg' (sepL ln av) av ∧ Cap cap' (sepL ln av) ∧ (∀ k, k < (sepL ln av).toNatClampNeg → tg' k = (sepG tg ln av) k)
theorem pd_11 : parseMethodDescriptor "(C)V" = some ⟨[.char], none⟩ := by decide +kernel
set_option maxRecDepth 65536 in
set_option maxHeartbeats 40000000 in
theorem rm6 (l : Launch) (Z : State) (a0 : Array Value) (hw : ∀ d ∈ tables_1, d.before a0 Z = true) (ws : List Jvm.Cond) (a1 : Addr) (tx : Addr) (cap : Int32) (tg : Nat → Int32) (ln : Int32) (av : Int32) (h0 : Heap) (n0 : Nat) (Z0 : n0 ≤ h0.size) (E_a1 : Exa Z h0 a1 "com/example/facet_hierarchy_store/facethierarchystore/http/JsonWriter") (F_text_a1 : Fld Z h0 a1 "com/example/facet_hierarchy_store/facethierarchystore/http/JsonWriter" "text" "[B" (.ref tx)) (F_length_a1 : Fld Z h0 a1 "com/example/facet_hierarchy_store/facethierarchystore/http/JsonWriter" "length" "I" (.int ln)) (F_afterValue_a1 : Fld Z h0 a1 "com/example/facet_hierarchy_store/facethierarchystore/http/JsonWriter" "afterValue" "Z" (.int av)) (V_tx : Afn Z h0 tx .byte cap (fun k => .int (tg k))) (E_tx : Exa Z h0 tx "[B") (g_a1 : n0 ≤ a1) (g_tx : n0 ≤ tx) (ne_a1_tx : a1 ≠ tx) (hcp : Cap cap ln) (hln : ln.toInt ≤ 6) :
    Con l Z (⟨"com/example/facet_hierarchy_store/facethierarchystore/http/JsonWriter", "separate", "()V"⟩ : MethodName) prog_16_method_19_code 1 none ws ({ frames := 4, cells := 1, slots := 14, locals := 84 } : Room) #[(.ref a1)] h0 (Q6 Z a1 tx cap tg ln av h0 n0) := by
  refine Con.of (plainFor_of_name pn_rm6) ?_
  intro p e s m below meth c s₁ hZ e0 X0 hx hby hml hown hnm hret hlk
  replace hml : c.maxLocals = 1 := hml
  have hown : s.vm.findClass "com/example/facet_hierarchy_store/facethierarchystore/http/JsonWriter" = some m.cls := hown
  have N0 : Fr n0 [] := Fr.nil n0
  obtain ⟨PP, hPP⟩ : ∃ P, P = Fine s below (Q6 Z a1 tx cap tg ln av h0 n0) ({ frames := 4, cells := 1, slots := 14, locals := 84 } : Room).cells ({ frames := 4, cells := 1, slots := 14, locals := 84 } : Room).slots := ⟨_, rfl⟩
  rw [← hPP]
  refine Go.cast (ef_rm6 m a1) ?_
  have K : Keep h0 h0 [a1, tx] := Keep.refl h0 _
  have Zn : n0 ≤ h0.size := Z0
  show Go p.tables e below PP (s₁.setTop (mkF m 0 #[.val (.ref a1)] []))
  refine Go.st (fun t k => XS.aloadN X0.here hx rfl (hb hby d6_0) rfl rfl k) ?_
  show Go p.tables e below PP (s₁.setTop (mkF m 1 #[.val (.ref a1)] [(.ref a1)]))
  obtain ⟨T1, X1, e1, st1⟩ := getF X0 hx hZ hown (host := "") (Or.inl (hw _ (List.mem_of_getElem? (i := 29) rfl))) Via.refl e0 F_afterValue_a1 (g := (mkF m 1 #[.val (.ref a1)] [(.ref a1)])) rfl rfl (hb hby d6_1)
  refine Go.st st1 ?_
  show Go p.tables e below PP (T1.setTop (mkF m 4 #[.val (.ref a1)] [(.int av)]))
  by_cases hc4 : av = (0 : Int32)
  · --
    refine Go.st (fun t k => XS.ifYes X1.here hx rfl (pc0 := 4) (pc' := 13) rfl (hb hby d6_4) rfl (XT.i0_eq_t hc4) (by decide) (by decide) k) ?_
    show Go p.tables e below PP (T1.setTop (mkF m 13 #[.val (.ref a1)] []))
    rw [hPP]
    refine endV X1 hx hlk hret (hb hby d6_13) ?_ (by decide) (by decide)
    show Q6 Z a1 tx cap tg ln av h0 n0 none T1.heap _
    rw [e1]
    exact ⟨tx, _, tg, rfl, N0, K, (Or.inl rfl), g_tx, ⟨F_text_a1, (by rw [own_sl0 hc4]; exact F_length_a1), F_afterValue_a1, V_tx, E_tx⟩, (by rw [own_sl0 hc4]; exact hcp), (by rw [own_sl0 hc4, own_sg0 hc4]; exact fun k _ => rfl)⟩
  · --
    refine Go.st (fun t k => XS.ifNo X1.here hx rfl (hb hby d6_4) rfl (XT.i0_eq_f hc4) k) ?_
    show Go p.tables e below PP (T1.setTop (mkF m 7 #[.val (.ref a1)] []))
    refine Go.st (fun t k => XS.aloadN X1.here hx rfl (hb hby d6_7) rfl rfl k) ?_
    show Go p.tables e below PP (T1.setTop (mkF m 8 #[.val (.ref a1)] [(.ref a1)]))
    refine Go.st (fun t k => XS.bipush X1.here hx rfl (hb hby d6_8) k) ?_
    show Go p.tables e below PP (T1.setTop (mkF m 10 #[.val (.ref a1)] [(.int (44 : Int32)), (.ref a1)]))
    obtain ⟨v2, T2, L2, X2, hQ2, st2⟩ := callPr X1 hx hZ (y := (⟨"com/example/facet_hierarchy_store/facethierarchystore/http/JsonWriter", "put", "(C)V"⟩ : MethodName)) (a := a1) (argsL := [(.int (44 : Int32))]) (rest := []) hown (hw _ (List.mem_of_getElem? (i := 143) rfl)) (hw _ (List.mem_of_getElem? (i := 144) rfl)) (selPriv (y := (⟨"com/example/facet_hierarchy_store/facethierarchystore/http/JsonWriter", "put", "(C)V"⟩ : MethodName)) (hw _ (List.mem_of_getElem? (i := 1) rfl)) (hw _ (List.mem_of_getElem? (i := 145) rfl)) (hw _ (List.mem_of_getElem? (i := 144) rfl)) (by decide)) (hw _ (List.mem_of_getElem? (i := 145) rfl)) (hw _ (List.mem_of_getElem? (i := 2) rfl)) (hw _ (List.mem_of_getElem? (i := 146) rfl)) (by decide) E_a1 (rm27 l Z a0 hw [] a1 (44 : Int32) tx cap tg ln av h0 n0 Zn E_a1 F_text_a1 F_length_a1 F_afterValue_a1 V_tx E_tx g_a1 g_tx ne_a1_tx hcp (Int.le_trans hln (by decide))) e1 0 (by decide) (by decide) (by decide) (by decide) (g := (mkF m 10 #[.val (.ref a1)] [(.int (44 : Int32)), (.ref a1)])) rfl (by rw [hml]; rfl) (lenOf pd_11 rfl) rfl (by show 2 * 0 + _ ≤ _; exact Nat.le_of_eq rfl) (hb hby d6_10)
    obtain ⟨h2, e2⟩ : ∃ z, T2.heap = z := ⟨_, rfl⟩
    rw [e2] at hQ2
    obtain ⟨tx2, cc2, tg2, rfl, Nq2, Kq2, oq2, gq2, ⟨Ft2, Fl2, Fa2, Vt2, Xt2⟩, cpq2, bq2⟩ := hQ2
    have N2 := Fr.app N0 Nq2
    have ne_a1_tx2 : a1 ≠ tx2 := oq2.elim (fun q => by rw [q]; exact ne_a1_tx) (fun q => Nat.ne_of_lt (Nat.lt_of_lt_of_le E_a1.lt q))
    have kp_tx2 : tx2 ∈ [a1, tx] ∨ h0.size ≤ tx2 := oq2.elim (fun q => by rw [q]; exact (Or.inl (List.mem_of_getElem? (i := 1) rfl))) (fun q => Or.inr (Nat.le_trans K.1 q))
    have hor_tx2 : tx2 = tx ∨ h0.size ≤ tx2 := oq2.elim (fun q => by rw [q]; exact (Or.inl rfl)) (fun q => Or.inr (Nat.le_trans K.1 q))
    replace E_a1 := E_a1.keep Kq2
    clear F_text_a1
    clear F_length_a1
    clear F_afterValue_a1
    clear V_tx
    replace K := K.trans Kq2 (allS (Or.inl (List.mem_of_getElem? (i := 0) rfl)) (allS (Or.inl (List.mem_of_getElem? (i := 1) rfl)) all0))
    replace Zn := Nat.le_trans Zn Kq2.1
    refine Go.st st2 ?_
    show Go p.tables e below PP (T2.setTop (mkF m 13 #[.val (.ref a1)] []))
    rw [hPP]
    refine endV X2 hx hlk hret (hb hby d6_13) ?_ (by decide) (by decide)
    show Q6 Z a1 tx cap tg ln av h0 n0 none T2.heap _
    rw [e2]
    exact ⟨tx2, _, tg2, rfl, N2, K, hor_tx2, gq2, ⟨Ft2, (by rw [own_sl1 hc4]; exact Fl2), Fa2, Vt2, Xt2⟩, (by rw [own_sl1 hc4]; exact cpq2), (by rw [own_sl1 hc4, own_sg1 hc4]; exact bq2)⟩
theorem d26_0 : decode prog_16_method_17_code 0 = .ok (.aload_n 0, 1) := by decide +kernel
theorem d26_1 : decode prog_16_method_17_code 1 = .ok (.invokevirtual 23, 3) := by decide +kernel
theorem d26_4 : decode prog_16_method_17_code 4 = .ok (.aload_n 0, 1) := by decide +kernel
theorem d26_5 : decode prog_16_method_17_code 5 = .ok (.iload_n 1, 1) := by decide +kernel
theorem d26_6 : decode prog_16_method_17_code 6 = .ok (.invokevirtual 30, 3) := by decide +kernel
theorem d26_9 : decode prog_16_method_17_code 9 = .ok (.aload_n 0, 1) := by decide +kernel
theorem d26_10 : decode prog_16_method_17_code 10 = .ok (.iconst 0, 1) := by decide +kernel
theorem d26_11 : decode prog_16_method_17_code 11 = .ok (.putfield 34, 3) := by decide +kernel
theorem d26_14 : decode prog_16_method_17_code 14 = .ok (.aload_n 0, 1) := by decide +kernel
theorem d26_15 : decode prog_16_method_17_code 15 = .ok (.areturn, 1) := by decide +kernel
theorem pn_rm26 : plainName "com/example/facet_hierarchy_store/facethierarchystore/http/JsonWriter" = true := by first | (simp [plainName, overriddenIn]; done) | decide +kernel
theorem ef_rm26 (m : MethodId) (a1 : Addr) (p2 : Int32) : entryFrame m #[(.ref a1), (.int p2)] 2 = mkF m 0 #[.val (.ref a1), .val (.int p2)] [] := by first | (simp [entryFrame, mkF, argsToLocals, Value.category]; done) | rfl
def Q26 (Z : State) (a1 : Addr) (p2 : Int32) (tx : Addr) (cap : Int32) (tg : Nat → Int32) (ln : Int32) (av : Int32) (h0 : Heap) (n0 : Nat) (v : Option Value) (h : Heap) (L : List Loc) : Prop := ∃ (tx' : Addr) (cap' : Int32) (tg' : Nat → Int32), v = some (.ref a1) ∧ Fr n0 L ∧ Keep h0 h [a1, tx] ∧ (tx' = tx ∨ h0.size ≤ tx') ∧ n0 ≤ tx' ∧ JWr Z h a1 tx' cap' tg' ((sepL ln av) + (1 : Int32)) (0 : Int32) ∧ Cap cap' ((sepL ln av) + (1 : Int32)) ∧ (∀ k, k < ((sepL ln av) + (1 : Int32)).toNatClampNeg → tg' k = (upd (sepG tg ln av) (sepL ln av) (p2.toInt8.toInt32)) k)
theorem pd_12 : parseMethodDescriptor "()V" = some ⟨[], none⟩ := by decide +kernel
set_option maxRecDepth 65536 in
set_option maxHeartbeats 40000000 in
theorem rm26 (l : Launch) (Z : State) (a0 : Array Value) (hw : ∀ d ∈ tables_1, d.before a0 Z = true) (ws : List Jvm.Cond) (a1 : Addr) (p2 : Int32) (tx : Addr) (cap : Int32) (tg : Nat → Int32) (ln : Int32) (av : Int32) (h0 : Heap) (n0 : Nat) (Z0 : n0 ≤ h0.size) (E_a1 : Exa Z h0 a1 "com/example/facet_hierarchy_store/facethierarchystore/http/JsonWriter") (F_text_a1 : Fld Z h0 a1 "com/example/facet_hierarchy_store/facethierarchystore/http/JsonWriter" "text" "[B" (.ref tx)) (F_length_a1 : Fld Z h0 a1 "com/example/facet_hierarchy_store/facethierarchystore/http/JsonWriter" "length" "I" (.int ln)) (F_afterValue_a1 : Fld Z h0 a1 "com/example/facet_hierarchy_store/facethierarchystore/http/JsonWriter" "afterValue" "Z" (.int av)) (V_tx : Afn Z h0 tx .byte cap (fun k => .int (tg k))) (E_tx : Exa Z h0 tx "[B") (g_a1 : n0 ≤ a1) (g_tx : n0 ≤ tx) (ne_a1_tx : a1 ≠ tx) (hcp : Cap cap ln) (hln : ln.toInt ≤ 6) :
    Con l Z (⟨"com/example/facet_hierarchy_store/facethierarchystore/http/JsonWriter", "open", "(C)Lcom/example/facet_hierarchy_store/facethierarchystore/http/JsonWriter;"⟩ : MethodName) prog_16_method_17_code 2 (some (.object "com/example/facet_hierarchy_store/facethierarchystore/http/JsonWriter")) ws ({ frames := 5, cells := 2, slots := 28, locals := 98 } : Room) #[(.ref a1), (.int p2)] h0 (Q26 Z a1 p2 tx cap tg ln av h0 n0) := by
  refine Con.of (plainFor_of_name pn_rm26) ?_
  intro p e s m below meth c s₁ hZ e0 X0 hx hby hml hown hnm hret hlk
  replace hml : c.maxLocals = 2 := hml
  have hown : s.vm.findClass "com/example/facet_hierarchy_store/facethierarchystore/http/JsonWriter" = some m.cls := hown
  have N0 : Fr n0 [] := Fr.nil n0
  obtain ⟨PP, hPP⟩ : ∃ P, P = Fine s below (Q26 Z a1 p2 tx cap tg ln av h0 n0) ({ frames := 5, cells := 2, slots := 28, locals := 98 } : Room).cells ({ frames := 5, cells := 2, slots := 28, locals := 98 } : Room).slots := ⟨_, rfl⟩
  rw [← hPP]
  refine Go.cast (ef_rm26 m a1 p2) ?_
  have K : Keep h0 h0 [a1, tx] := Keep.refl h0 _
  have Zn : n0 ≤ h0.size := Z0
  show Go p.tables e below PP (s₁.setTop (mkF m 0 #[.val (.ref a1), .val (.int p2)] []))
  refine Go.st (fun t k => XS.aloadN X0.here hx rfl (hb hby d26_0) rfl rfl k) ?_
  show Go p.tables e below PP (s₁.setTop (mkF m 1 #[.val (.ref a1), .val (.int p2)] [(.ref a1)]))
  obtain ⟨v1, T1, L1, X1, hQ1, st1⟩ := callPr X0 hx hZ (y := (⟨"com/example/facet_hierarchy_store/facethierarchystore/http/JsonWriter", "separate", "()V"⟩ : MethodName)) (a := a1) (argsL := []) (rest := []) hown (hw _ (List.mem_of_getElem? (i := 25) rfl)) (hw _ (List.mem_of_getElem? (i := 26) rfl)) (selPriv (y := (⟨"com/example/facet_hierarchy_store/facethierarchystore/http/JsonWriter", "separate", "()V"⟩ : MethodName)) (hw _ (List.mem_of_getElem? (i := 1) rfl)) (hw _ (List.mem_of_getElem? (i := 27) rfl)) (hw _ (List.mem_of_getElem? (i := 26) rfl)) (by decide)) (hw _ (List.mem_of_getElem? (i := 27) rfl)) (hw _ (List.mem_of_getElem? (i := 2) rfl)) (hw _ (List.mem_of_getElem? (i := 28) rfl)) (by decide) E_a1 (rm6 l Z a0 hw [] a1 tx cap tg ln av h0 n0 Zn E_a1 F_text_a1 F_length_a1 F_afterValue_a1 V_tx E_tx g_a1 g_tx ne_a1_tx hcp hln) e0 0 (by decide) (by decide) (by decide) (by decide) (g := (mkF m 1 #[.val (.ref a1), .val (.int p2)] [(.ref a1)])) rfl (by rw [hml]; rfl) (lenOf pd_12 rfl) rfl (by show 2 * 0 + _ ≤ _; exact Nat.le_of_eq rfl) (hb hby d26_1)
  obtain ⟨h1, e1⟩ : ∃ z, T1.heap = z := ⟨_, rfl⟩
  rw [e1] at hQ1
  obtain ⟨tx1, cc1, tg1, rfl, Nq1, Kq1, oq1, gq1, ⟨Ft1, Fl1, Fa1, Vt1, Xt1⟩, cpq1, bq1⟩ := hQ1
  have N1 := Fr.app N0 Nq1
  have ne_a1_tx1 : a1 ≠ tx1 := oq1.elim (fun q => by rw [q]; exact ne_a1_tx) (fun q => Nat.ne_of_lt (Nat.lt_of_lt_of_le E_a1.lt q))
  have kp_tx1 : tx1 ∈ [a1, tx] ∨ h0.size ≤ tx1 := oq1.elim (fun q => by rw [q]; exact (Or.inl (List.mem_of_getElem? (i := 1) rfl))) (fun q => Or.inr (Nat.le_trans K.1 q))
  have hor_tx1 : tx1 = tx ∨ h0.size ≤ tx1 := oq1.elim (fun q => by rw [q]; exact (Or.inl rfl)) (fun q => Or.inr (Nat.le_trans K.1 q))
  replace E_a1 := E_a1.keep Kq1
  clear F_text_a1
  clear F_length_a1
  clear F_afterValue_a1
  clear V_tx
  replace K := K.trans Kq1 (allS (Or.inl (List.mem_of_getElem? (i := 0) rfl)) (allS (Or.inl (List.mem_of_getElem? (i := 1) rfl)) all0))
  replace Zn := Nat.le_trans Zn Kq1.1
  refine Go.st st1 ?_
  show Go p.tables e below PP (T1.setTop (mkF m 4 #[.val (.ref a1), .val (.int p2)] []))
  refine Go.st (fun t k => XS.aloadN X1.here hx rfl (hb hby d26_4) rfl rfl k) ?_
  show Go p.tables e below PP (T1.setTop (mkF m 5 #[.val (.ref a1), .val (.int p2)] [(.ref a1)]))
  refine Go.st (fun t k => XS.iloadN X1.here hx rfl (hb hby d26_5) rfl k) ?_
  show Go p.tables e below PP (T1.setTop (mkF m 6 #[.val (.ref a1), .val (.int p2)] [(.int p2), (.ref a1)]))
  obtain ⟨v2, T2, L2, X2, hQ2, st2⟩ := callPr X1 hx hZ (y := (⟨"com/example/facet_hierarchy_store/facethierarchystore/http/JsonWriter", "put", "(C)V"⟩ : MethodName)) (a := a1) (argsL := [(.int p2)]) (rest := []) hown (hw _ (List.mem_of_getElem? (i := 143) rfl)) (hw _ (List.mem_of_getElem? (i := 144) rfl)) (selPriv (y := (⟨"com/example/facet_hierarchy_store/facethierarchystore/http/JsonWriter", "put", "(C)V"⟩ : MethodName)) (hw _ (List.mem_of_getElem? (i := 1) rfl)) (hw _ (List.mem_of_getElem? (i := 145) rfl)) (hw _ (List.mem_of_getElem? (i := 144) rfl)) (by decide)) (hw _ (List.mem_of_getElem? (i := 145) rfl)) (hw _ (List.mem_of_getElem? (i := 2) rfl)) (hw _ (List.mem_of_getElem? (i := 146) rfl)) (by decide) E_a1 (rm27 l Z a0 hw [] a1 p2 tx1 cc1 tg1 (sepL ln av) av h1 n0 Zn E_a1 Ft1 Fl1 Fa1 Vt1 Xt1 g_a1 gq1 ne_a1_tx1 cpq1 (own_sep7 hcp.1 hln)) e1 0 (by decide) (by decide) (by decide) (by decide) (g := (mkF m 6 #[.val (.ref a1), .val (.int p2)] [(.int p2), (.ref a1)])) rfl (by rw [hml]; rfl) (lenOf pd_11 rfl) rfl (by show 2 * 0 + _ ≤ _; exact Nat.le_of_eq rfl) (hb hby d26_6)
  obtain ⟨h2, e2⟩ : ∃ z, T2.heap = z := ⟨_, rfl⟩
  rw [e2] at hQ2
  obtain ⟨tx2, cc2, tg2, rfl, Nq2, Kq2, oq2, gq2, ⟨Ft2, Fl2, Fa2, Vt2, Xt2⟩, cpq2, bq2⟩ := hQ2
  have N2 := Fr.app N1 Nq2
  have ne_a1_tx2 : a1 ≠ tx2 := oq2.elim (fun q => by rw [q]; exact ne_a1_tx1) (fun q => Nat.ne_of_lt (Nat.lt_of_lt_of_le E_a1.lt q))
  have kp_tx2 : tx2 ∈ [a1, tx] ∨ h0.size ≤ tx2 := oq2.elim (fun q => by rw [q]; exact kp_tx1) (fun q => Or.inr (Nat.le_trans K.1 q))
  have hor_tx2 : tx2 = tx ∨ h0.size ≤ tx2 := oq2.elim (fun q => by rw [q]; exact hor_tx1) (fun q => Or.inr (Nat.le_trans K.1 q))
  replace E_a1 := E_a1.keep Kq2
  clear Ft1
  clear Fl1
  clear Fa1
  clear Vt1
  replace K := K.trans Kq2 (allS (Or.inl (List.mem_of_getElem? (i := 0) rfl)) (allS kp_tx1 all0))
  replace Zn := Nat.le_trans Zn Kq2.1
  refine Go.st st2 ?_
  show Go p.tables e below PP (T2.setTop (mkF m 9 #[.val (.ref a1), .val (.int p2)] []))
  refine Go.st (fun t k => XS.aloadN X2.here hx rfl (hb hby d26_9) rfl rfl k) ?_
  show Go p.tables e below PP (T2.setTop (mkF m 10 #[.val (.ref a1), .val (.int p2)] [(.ref a1)]))
  refine Go.st (fun t k => XS.iconst X2.here hx rfl (hb hby d26_10) k) ?_
  show Go p.tables e below PP (T2.setTop (mkF m 11 #[.val (.ref a1), .val (.int p2)] [(.int (0 : Int32)), (.ref a1)]))
  obtain ⟨T3, h3, X3, e3, W3, st3⟩ := putFN X2 hx hZ hown (hw _ (List.mem_of_getElem? (i := 29) rfl)) Via.refl e2 Fa2 E_a1 (Or.inl (hw _ (List.mem_of_getElem? (i := 30) rfl))) (hw _ (List.mem_of_getElem? (i := 1) rfl)) (ty := .boolean) (v' := (.int (0 : Int32))) (by decide) rfl (by decide) (g := (mkF m 11 #[.val (.ref a1), .val (.int p2)] [(.int (0 : Int32)), (.ref a1)])) rfl rfl (hb hby d26_11)
  refine Go.st st3 ?_
  have N3 := Fr.snoc X3 N2 g_a1
  replace E_a1 := E_a1.wr W3
  replace Ft2 := Ft2.other W3 (Or.inr (slot_ne (a0 := a0) (Or.inl (hw _ (List.mem_of_getElem? (i := 11) rfl))) (Or.inl (hw _ (List.mem_of_getElem? (i := 30) rfl))) (by decide) (t := (.array .byte)) (t' := .boolean) (by decide) (by decide)))
  replace Fl2 := Fl2.other W3 (Or.inr (slot_ne (a0 := a0) (Or.inl (hw _ (List.mem_of_getElem? (i := 104) rfl))) (Or.inl (hw _ (List.mem_of_getElem? (i := 30) rfl))) (by decide) (t := .int) (t' := .boolean) (by decide) (by decide)))
  replace Vt2 := Vt2.other W3 (Ne.symm ne_a1_tx2)
  replace Xt2 := Xt2.wr W3
  replace K := K.wr W3 (Or.inl (List.mem_of_getElem? (i := 0) rfl))
  replace Zn : n0 ≤ h3.size := by rw [W3.size]; exact Zn
  replace Fa2 := Fa2.same W3
  show Go p.tables e below PP (T3.setTop (mkF m 14 #[.val (.ref a1), .val (.int p2)] []))
  refine Go.st (fun t k => XS.aloadN X3.here hx rfl (hb hby d26_14) rfl rfl k) ?_
  show Go p.tables e below PP (T3.setTop (mkF m 15 #[.val (.ref a1), .val (.int p2)] [(.ref a1)]))
  rw [hPP]
  refine endR X3 hx hlk hret rfl rfl (hb hby d26_15) ?_ (by decide) (by decide)
  show Q26 Z a1 p2 tx cap tg ln av h0 n0 (some (.ref a1)) T3.heap _
  rw [e3]
  exact ⟨tx2, _, tg2, rfl, N3, K, hor_tx2, gq2, ⟨Ft2, Fl2, Fa2, Vt2, Xt2⟩, cpq2, (fun k hk => (bq2 k hk).trans (own_updc cpq1.1 (own_sep7 hcp.1 hln) bq1 k hk))⟩
theorem d25_0 : decode prog_16_method_5_code 0 = .ok (.aload_n 0, 1) := by decide +kernel
theorem d25_1 : decode prog_16_method_5_code 1 = .ok (.bipush 91, 2) := by decide +kernel
theorem d25_3 : decode prog_16_method_5_code 3 = .ok (.invokevirtual 16, 3) := by decide +kernel
theorem d25_6 : decode prog_16_method_5_code 6 = .ok (.areturn, 1) := by decide +kernel
theorem pn_rm25 : plainName "com/example/facet_hierarchy_store/facethierarchystore/http/JsonWriter" = true := by first | (simp [plainName, overriddenIn]; done) | decide +kernel
theorem ef_rm25 (m : MethodId) (a1 : Addr) : entryFrame m #[(.ref a1)] 1 = mkF m 0 #[.val (.ref a1)] [] := by first | (simp [entryFrame, mkF, argsToLocals, Value.category]; done) | rfl
def Q25 (Z : State) (a1 : Addr) (tx : Addr) (cap : Int32) (tg : Nat → Int32) (ln : Int32) (av : Int32) (h0 : Heap) (n0 : Nat) (v : Option Value) (h : Heap) (L : List Loc) : Prop := ∃ (tx' : Addr) (cap' : Int32) (tg' : Nat → Int32), v = some (.ref a1) ∧ Fr n0 L ∧ Keep h0 h [a1, tx] ∧ (tx' = tx ∨ h0.size ≤ tx') ∧ n0 ≤ tx' ∧ JWr Z h a1 tx' cap' tg' ((sepL ln av) + (1 : Int32)) (0 : Int32) ∧ Cap cap' ((sepL ln av) + (1 : Int32)) ∧ (∀ k, k < ((sepL ln av) + (1 : Int32)).toNatClampNeg → tg' k = (upd (sepG tg ln av) (sepL ln av) ((91 : Int32).toInt8.toInt32)) k)
theorem pd_13 : parseMethodDescriptor "(C)Lcom/example/facet_hierarchy_store/facethierarchystore/http/JsonWriter;" = some ⟨[.char], some (.object "com/example/facet_hierarchy_store/facethierarchystore/http/JsonWriter")⟩ := by decide +kernel
set_option maxRecDepth 65536 in
set_option maxHeartbeats 40000000 in
theorem rm25 (l : Launch) (Z : State) (a0 : Array Value) (hw : ∀ d ∈ tables_1, d.before a0 Z = true) (ws : List Jvm.Cond) (a1 : Addr) (tx : Addr) (cap : Int32) (tg : Nat → Int32) (ln : Int32) (av : Int32) (h0 : Heap) (n0 : Nat) (Z0 : n0 ≤ h0.size) (E_a1 : Exa Z h0 a1 "com/example/facet_hierarchy_store/facethierarchystore/http/JsonWriter") (F_text_a1 : Fld Z h0 a1 "com/example/facet_hierarchy_store/facethierarchystore/http/JsonWriter" "text" "[B" (.ref tx)) (F_length_a1 : Fld Z h0 a1 "com/example/facet_hierarchy_store/facethierarchystore/http/JsonWriter" "length" "I" (.int ln)) (F_afterValue_a1 : Fld Z h0 a1 "com/example/facet_hierarchy_store/facethierarchystore/http/JsonWriter" "afterValue" "Z" (.int av)) (V_tx : Afn Z h0 tx .byte cap (fun k => .int (tg k))) (E_tx : Exa Z h0 tx "[B") (g_a1 : n0 ≤ a1) (g_tx : n0 ≤ tx) (ne_a1_tx : a1 ≠ tx) (hcp : Cap cap ln) (hln : ln.toInt ≤ 6) :
    Con l Z (⟨"com/example/facet_hierarchy_store/facethierarchystore/http/JsonWriter", "array", "()Lcom/example/facet_hierarchy_store/facethierarchystore/http/JsonWriter;"⟩ : MethodName) prog_16_method_5_code 1 (some (.object "com/example/facet_hierarchy_store/facethierarchystore/http/JsonWriter")) ws ({ frames := 6, cells := 2, slots := 28, locals := 112 } : Room) #[(.ref a1)] h0 (Q25 Z a1 tx cap tg ln av h0 n0) := by
  refine Con.of (plainFor_of_name pn_rm25) ?_
  intro p e s m below meth c s₁ hZ e0 X0 hx hby hml hown hnm hret hlk
  replace hml : c.maxLocals = 1 := hml
  have hown : s.vm.findClass "com/example/facet_hierarchy_store/facethierarchystore/http/JsonWriter" = some m.cls := hown
  have N0 : Fr n0 [] := Fr.nil n0
  obtain ⟨PP, hPP⟩ : ∃ P, P = Fine s below (Q25 Z a1 tx cap tg ln av h0 n0) ({ frames := 6, cells := 2, slots := 28, locals := 112 } : Room).cells ({ frames := 6, cells := 2, slots := 28, locals := 112 } : Room).slots := ⟨_, rfl⟩
  rw [← hPP]
  refine Go.cast (ef_rm25 m a1) ?_
  have K : Keep h0 h0 [a1, tx] := Keep.refl h0 _
  have Zn : n0 ≤ h0.size := Z0
  show Go p.tables e below PP (s₁.setTop (mkF m 0 #[.val (.ref a1)] []))
  refine Go.st (fun t k => XS.aloadN X0.here hx rfl (hb hby d25_0) rfl rfl k) ?_
  show Go p.tables e below PP (s₁.setTop (mkF m 1 #[.val (.ref a1)] [(.ref a1)]))
  refine Go.st (fun t k => XS.bipush X0.here hx rfl (hb hby d25_1) k) ?_
  show Go p.tables e below PP (s₁.setTop (mkF m 3 #[.val (.ref a1)] [(.int (91 : Int32)), (.ref a1)]))
  obtain ⟨v1, T1, L1, X1, hQ1, st1⟩ := callPr X0 hx hZ (y := (⟨"com/example/facet_hierarchy_store/facethierarchystore/http/JsonWriter", "open", "(C)Lcom/example/facet_hierarchy_store/facethierarchystore/http/JsonWriter;"⟩ : MethodName)) (a := a1) (argsL := [(.int (91 : Int32))]) (rest := []) hown (hw _ (List.mem_of_getElem? (i := 139) rfl)) (hw _ (List.mem_of_getElem? (i := 140) rfl)) (selPriv (y := (⟨"com/example/facet_hierarchy_store/facethierarchystore/http/JsonWriter", "open", "(C)Lcom/example/facet_hierarchy_store/facethierarchystore/http/JsonWriter;"⟩ : MethodName)) (hw _ (List.mem_of_getElem? (i := 1) rfl)) (hw _ (List.mem_of_getElem? (i := 141) rfl)) (hw _ (List.mem_of_getElem? (i := 140) rfl)) (by decide)) (hw _ (List.mem_of_getElem? (i := 141) rfl)) (hw _ (List.mem_of_getElem? (i := 2) rfl)) (hw _ (List.mem_of_getElem? (i := 142) rfl)) (by decide) E_a1 (rm26 l Z a0 hw [] a1 (91 : Int32) tx cap tg ln av h0 n0 Zn E_a1 F_text_a1 F_length_a1 F_afterValue_a1 V_tx E_tx g_a1 g_tx ne_a1_tx hcp hln) e0 0 (by decide) (by decide) (by decide) (by decide) (g := (mkF m 3 #[.val (.ref a1)] [(.int (91 : Int32)), (.ref a1)])) rfl (by rw [hml]; rfl) (lenOf pd_13 rfl) rfl (by show 2 * 0 + _ ≤ _; exact Nat.le_of_eq rfl) (hb hby d25_3)
  obtain ⟨h1, e1⟩ : ∃ z, T1.heap = z := ⟨_, rfl⟩
  rw [e1] at hQ1
  obtain ⟨tx1, cc1, tg1, rfl, Nq1, Kq1, oq1, gq1, ⟨Ft1, Fl1, Fa1, Vt1, Xt1⟩, cpq1, bq1⟩ := hQ1
  have N1 := Fr.app N0 Nq1
  have ne_a1_tx1 : a1 ≠ tx1 := oq1.elim (fun q => by rw [q]; exact ne_a1_tx) (fun q => Nat.ne_of_lt (Nat.lt_of_lt_of_le E_a1.lt q))
  have kp_tx1 : tx1 ∈ [a1, tx] ∨ h0.size ≤ tx1 := oq1.elim (fun q => by rw [q]; exact (Or.inl (List.mem_of_getElem? (i := 1) rfl))) (fun q => Or.inr (Nat.le_trans K.1 q))
  have hor_tx1 : tx1 = tx ∨ h0.size ≤ tx1 := oq1.elim (fun q => by rw [q]; exact (Or.inl rfl)) (fun q => Or.inr (Nat.le_trans K.1 q))
  replace E_a1 := E_a1.keep Kq1
  clear F_text_a1
  clear F_length_a1
  clear F_afterValue_a1
  clear V_tx
  replace K := K.trans Kq1 (allS (Or.inl (List.mem_of_getElem? (i := 0) rfl)) (allS (Or.inl (List.mem_of_getElem? (i := 1) rfl)) all0))
  replace Zn := Nat.le_trans Zn Kq1.1
  refine Go.st st1 ?_
  show Go p.tables e below PP (T1.setTop (mkF m 6 #[.val (.ref a1)] [(.ref a1)]))
  rw [hPP]
  refine endR X1 hx hlk hret rfl rfl (hb hby d25_6) ?_ (by decide) (by decide)
  show Q25 Z a1 tx cap tg ln av h0 n0 (some (.ref a1)) T1.heap _
  rw [e1]
  exact ⟨tx1, _, tg1, rfl, N1, K, hor_tx1, gq1, ⟨Ft1, Fl1, Fa1, Vt1, Xt1⟩, cpq1, bq1⟩
theorem d29_0 : decode prog_16_method_18_code 0 = .ok (.aload_n 0, 1) := by decide +kernel
theorem d29_1 : decode prog_16_method_18_code 1 = .ok (.iload_n 1, 1) := by decide +kernel
theorem d29_2 : decode prog_16_method_18_code 2 = .ok (.invokevirtual 30, 3) := by decide +kernel
theorem d29_5 : decode prog_16_method_18_code 5 = .ok (.aload_n 0, 1) := by decide +kernel
theorem d29_6 : decode prog_16_method_18_code 6 = .ok (.iconst 1, 1) := by decide +kernel
theorem d29_7 : decode prog_16_method_18_code 7 = .ok (.putfield 34, 3) := by decide +kernel
theorem d29_10 : decode prog_16_method_18_code 10 = .ok (.aload_n 0, 1) := by decide +kernel
theorem d29_11 : decode prog_16_method_18_code 11 = .ok (.areturn, 1) := by decide +kernel
theorem pn_rm29 : plainName "com/example/facet_hierarchy_store/facethierarchystore/http/JsonWriter" = true := by first | (simp [plainName, overriddenIn]; done) | decide +kernel
theorem ef_rm29 (m : MethodId) (a1 : Addr) (p2 : Int32) : entryFrame m #[(.ref a1), (.int p2)] 2 = mkF m 0 #[.val (.ref a1), .val (.int p2)] [] := by first | (simp [entryFrame, mkF, argsToLocals, Value.category]; done) | rfl
def Q29 (Z : State) (a1 : Addr) (p2 : Int32) (tx : Addr) (cap : Int32) (tg : Nat → Int32) (ln : Int32) (av : Int32) (h0 : Heap) (n0 : Nat) (v : Option Value) (h : Heap) (L : List Loc) : Prop := ∃ (tx' : Addr) (cap' : Int32) (tg' : Nat → Int32), v = some (.ref a1) ∧ Fr n0 L ∧ Keep h0 h [a1, tx] ∧ (tx' = tx ∨ h0.size ≤ tx') ∧ n0 ≤ tx' ∧ JWr Z h a1 tx' cap' tg' (ln + (1 : Int32)) (1 : Int32) ∧ Cap cap' (ln + (1 : Int32)) ∧ (∀ k, k < (ln + (1 : Int32)).toNatClampNeg → tg' k = (upd tg ln (p2.toInt8.toInt32)) k)
set_option maxRecDepth 65536 in
set_option maxHeartbeats 40000000 in
theorem rm29 (l : Launch) (Z : State) (a0 : Array Value) (hw : ∀ d ∈ tables_1, d.before a0 Z = true) (ws : List Jvm.Cond) (a1 : Addr) (p2 : Int32) (tx : Addr) (cap : Int32) (tg : Nat → Int32) (ln : Int32) (av : Int32) (h0 : Heap) (n0 : Nat) (Z0 : n0 ≤ h0.size) (E_a1 : Exa Z h0 a1 "com/example/facet_hierarchy_store/facethierarchystore/http/JsonWriter") (F_text_a1 : Fld Z h0 a1 "com/example/facet_hierarchy_store/facethierarchystore/http/JsonWriter" "text" "[B" (.ref tx)) (F_length_a1 : Fld Z h0 a1 "com/example/facet_hierarchy_store/facethierarchystore/http/JsonWriter" "length" "I" (.int ln)) (F_afterValue_a1 : Fld Z h0 a1 "com/example/facet_hierarchy_store/facethierarchystore/http/JsonWriter" "afterValue" "Z" (.int av)) (V_tx : Afn Z h0 tx .byte cap (fun k => .int (tg k))) (E_tx : Exa Z h0 tx "[B") (g_a1 : n0 ≤ a1) (g_tx : n0 ≤ tx) (ne_a1_tx : a1 ≠ tx) (hcp : Cap cap ln) (hln : ln.toInt ≤ 6) :
    Con l Z (⟨"com/example/facet_hierarchy_store/facethierarchystore/http/JsonWriter", "close", "(C)Lcom/example/facet_hierarchy_store/facethierarchystore/http/JsonWriter;"⟩ : MethodName) prog_16_method_18_code 2 (some (.object "com/example/facet_hierarchy_store/facethierarchystore/http/JsonWriter")) ws ({ frames := 4, cells := 1, slots := 14, locals := 84 } : Room) #[(.ref a1), (.int p2)] h0 (Q29 Z a1 p2 tx cap tg ln av h0 n0) := by
  refine Con.of (plainFor_of_name pn_rm29) ?_
  intro p e s m below meth c s₁ hZ e0 X0 hx hby hml hown hnm hret hlk
  replace hml : c.maxLocals = 2 := hml
  have hown : s.vm.findClass "com/example/facet_hierarchy_store/facethierarchystore/http/JsonWriter" = some m.cls := hown
  have N0 : Fr n0 [] := Fr.nil n0
  obtain ⟨PP, hPP⟩ : ∃ P, P = Fine s below (Q29 Z a1 p2 tx cap tg ln av h0 n0) ({ frames := 4, cells := 1, slots := 14, locals := 84 } : Room).cells ({ frames := 4, cells := 1, slots := 14, locals := 84 } : Room).slots := ⟨_, rfl⟩
  rw [← hPP]
  refine Go.cast (ef_rm29 m a1 p2) ?_
  have K : Keep h0 h0 [a1, tx] := Keep.refl h0 _
  have Zn : n0 ≤ h0.size := Z0
  show Go p.tables e below PP (s₁.setTop (mkF m 0 #[.val (.ref a1), .val (.int p2)] []))
  refine Go.st (fun t k => XS.aloadN X0.here hx rfl (hb hby d29_0) rfl rfl k) ?_
  show Go p.tables e below PP (s₁.setTop (mkF m 1 #[.val (.ref a1), .val (.int p2)] [(.ref a1)]))
  refine Go.st (fun t k => XS.iloadN X0.here hx rfl (hb hby d29_1) rfl k) ?_
  show Go p.tables e below PP (s₁.setTop (mkF m 2 #[.val (.ref a1), .val (.int p2)] [(.int p2), (.ref a1)]))
  obtain ⟨v1, T1, L1, X1, hQ1, st1⟩ := callPr X0 hx hZ (y := (⟨"com/example/facet_hierarchy_store/facethierarchystore/http/JsonWriter", "put", "(C)V"⟩ : MethodName)) (a := a1) (argsL := [(.int p2)]) (rest := []) hown (hw _ (List.mem_of_getElem? (i := 143) rfl)) (hw _ (List.mem_of_getElem? (i := 144) rfl)) (selPriv (y := (⟨"com/example/facet_hierarchy_store/facethierarchystore/http/JsonWriter", "put", "(C)V"⟩ : MethodName)) (hw _ (List.mem_of_getElem? (i := 1) rfl)) (hw _ (List.mem_of_getElem? (i := 145) rfl)) (hw _ (List.mem_of_getElem? (i := 144) rfl)) (by decide)) (hw _ (List.mem_of_getElem? (i := 145) rfl)) (hw _ (List.mem_of_getElem? (i := 2) rfl)) (hw _ (List.mem_of_getElem? (i := 146) rfl)) (by decide) E_a1 (rm27 l Z a0 hw [] a1 p2 tx cap tg ln av h0 n0 Zn E_a1 F_text_a1 F_length_a1 F_afterValue_a1 V_tx E_tx g_a1 g_tx ne_a1_tx hcp (Int.le_trans hln (by decide))) e0 0 (by decide) (by decide) (by decide) (by decide) (g := (mkF m 2 #[.val (.ref a1), .val (.int p2)] [(.int p2), (.ref a1)])) rfl (by rw [hml]; rfl) (lenOf pd_11 rfl) rfl (by show 2 * 0 + _ ≤ _; exact Nat.le_of_eq rfl) (hb hby d29_2)
  obtain ⟨h1, e1⟩ : ∃ z, T1.heap = z := ⟨_, rfl⟩
  rw [e1] at hQ1
  obtain ⟨tx1, cc1, tg1, rfl, Nq1, Kq1, oq1, gq1, ⟨Ft1, Fl1, Fa1, Vt1, Xt1⟩, cpq1, bq1⟩ := hQ1
  have N1 := Fr.app N0 Nq1
  have ne_a1_tx1 : a1 ≠ tx1 := oq1.elim (fun q => by rw [q]; exact ne_a1_tx) (fun q => Nat.ne_of_lt (Nat.lt_of_lt_of_le E_a1.lt q))
  have kp_tx1 : tx1 ∈ [a1, tx] ∨ h0.size ≤ tx1 := oq1.elim (fun q => by rw [q]; exact (Or.inl (List.mem_of_getElem? (i := 1) rfl))) (fun q => Or.inr (Nat.le_trans K.1 q))
  have hor_tx1 : tx1 = tx ∨ h0.size ≤ tx1 := oq1.elim (fun q => by rw [q]; exact (Or.inl rfl)) (fun q => Or.inr (Nat.le_trans K.1 q))
  replace E_a1 := E_a1.keep Kq1
  clear F_text_a1
  clear F_length_a1
  clear F_afterValue_a1
  clear V_tx
  replace K := K.trans Kq1 (allS (Or.inl (List.mem_of_getElem? (i := 0) rfl)) (allS (Or.inl (List.mem_of_getElem? (i := 1) rfl)) all0))
  replace Zn := Nat.le_trans Zn Kq1.1
  refine Go.st st1 ?_
  show Go p.tables e below PP (T1.setTop (mkF m 5 #[.val (.ref a1), .val (.int p2)] []))
  refine Go.st (fun t k => XS.aloadN X1.here hx rfl (hb hby d29_5) rfl rfl k) ?_
  show Go p.tables e below PP (T1.setTop (mkF m 6 #[.val (.ref a1), .val (.int p2)] [(.ref a1)]))
  refine Go.st (fun t k => XS.iconst X1.here hx rfl (hb hby d29_6) k) ?_
  show Go p.tables e below PP (T1.setTop (mkF m 7 #[.val (.ref a1), .val (.int p2)] [(.int (1 : Int32)), (.ref a1)]))
  obtain ⟨T2, h2, X2, e2, W2, st2⟩ := putFN X1 hx hZ hown (hw _ (List.mem_of_getElem? (i := 29) rfl)) Via.refl e1 Fa1 E_a1 (Or.inl (hw _ (List.mem_of_getElem? (i := 30) rfl))) (hw _ (List.mem_of_getElem? (i := 1) rfl)) (ty := .boolean) (v' := (.int (1 : Int32))) (by decide) rfl (by decide) (g := (mkF m 7 #[.val (.ref a1), .val (.int p2)] [(.int (1 : Int32)), (.ref a1)])) rfl rfl (hb hby d29_7)
  refine Go.st st2 ?_
  have N2 := Fr.snoc X2 N1 g_a1
  replace E_a1 := E_a1.wr W2
  replace Ft1 := Ft1.other W2 (Or.inr (slot_ne (a0 := a0) (Or.inl (hw _ (List.mem_of_getElem? (i := 11) rfl))) (Or.inl (hw _ (List.mem_of_getElem? (i := 30) rfl))) (by decide) (t := (.array .byte)) (t' := .boolean) (by decide) (by decide)))
  replace Fl1 := Fl1.other W2 (Or.inr (slot_ne (a0 := a0) (Or.inl (hw _ (List.mem_of_getElem? (i := 104) rfl))) (Or.inl (hw _ (List.mem_of_getElem? (i := 30) rfl))) (by decide) (t := .int) (t' := .boolean) (by decide) (by decide)))
  replace Vt1 := Vt1.other W2 (Ne.symm ne_a1_tx1)
  replace Xt1 := Xt1.wr W2
  replace K := K.wr W2 (Or.inl (List.mem_of_getElem? (i := 0) rfl))
  replace Zn : n0 ≤ h2.size := by rw [W2.size]; exact Zn
  replace Fa1 := Fa1.same W2
  show Go p.tables e below PP (T2.setTop (mkF m 10 #[.val (.ref a1), .val (.int p2)] []))
  refine Go.st (fun t k => XS.aloadN X2.here hx rfl (hb hby d29_10) rfl rfl k) ?_
  show Go p.tables e below PP (T2.setTop (mkF m 11 #[.val (.ref a1), .val (.int p2)] [(.ref a1)]))
  rw [hPP]
  refine endR X2 hx hlk hret rfl rfl (hb hby d29_11) ?_ (by decide) (by decide)
  show Q29 Z a1 p2 tx cap tg ln av h0 n0 (some (.ref a1)) T2.heap _
  rw [e2]
  exact ⟨tx1, _, tg1, rfl, N2, K, hor_tx1, gq1, ⟨Ft1, Fl1, Fa1, Vt1, Xt1⟩, cpq1, bq1⟩
theorem d28_0 : decode prog_16_method_6_code 0 = .ok (.aload_n 0, 1) := by decide +kernel
theorem d28_1 : decode prog_16_method_6_code 1 = .ok (.bipush 93, 2) := by decide +kernel
theorem d28_3 : decode prog_16_method_6_code 3 = .ok (.invokevirtual 20, 3) := by decide +kernel
theorem d28_6 : decode prog_16_method_6_code 6 = .ok (.areturn, 1) := by decide +kernel
theorem pn_rm28 : plainName "com/example/facet_hierarchy_store/facethierarchystore/http/JsonWriter" = true := by first | (simp [plainName, overriddenIn]; done) | decide +kernel
theorem ef_rm28 (m : MethodId) (a1 : Addr) : entryFrame m #[(.ref a1)] 1 = mkF m 0 #[.val (.ref a1)] [] := by first | (simp [entryFrame, mkF, argsToLocals, Value.category]; done) | rfl
def Q28 (Z : State) (a1 : Addr) (tx : Addr) (cap : Int32) (tg : Nat → Int32) (ln : Int32) (av : Int32) (h0 : Heap) (n0 : Nat) (v : Option Value) (h : Heap) (L : List Loc) : Prop := ∃ (tx' : Addr) (cap' : Int32) (tg' : Nat → Int32), v = some (.ref a1) ∧ Fr n0 L ∧ Keep h0 h [a1, tx] ∧ (tx' = tx ∨ h0.size ≤ tx') ∧ n0 ≤ tx' ∧ JWr Z h a1 tx' cap' tg' (ln + (1 : Int32)) (1 : Int32) ∧ Cap cap' (ln + (1 : Int32)) ∧ (∀ k, k < (ln + (1 : Int32)).toNatClampNeg → tg' k = (upd tg ln ((93 : Int32).toInt8.toInt32)) k)
set_option maxRecDepth 65536 in
set_option maxHeartbeats 40000000 in
theorem rm28 (l : Launch) (Z : State) (a0 : Array Value) (hw : ∀ d ∈ tables_1, d.before a0 Z = true) (ws : List Jvm.Cond) (a1 : Addr) (tx : Addr) (cap : Int32) (tg : Nat → Int32) (ln : Int32) (av : Int32) (h0 : Heap) (n0 : Nat) (Z0 : n0 ≤ h0.size) (E_a1 : Exa Z h0 a1 "com/example/facet_hierarchy_store/facethierarchystore/http/JsonWriter") (F_text_a1 : Fld Z h0 a1 "com/example/facet_hierarchy_store/facethierarchystore/http/JsonWriter" "text" "[B" (.ref tx)) (F_length_a1 : Fld Z h0 a1 "com/example/facet_hierarchy_store/facethierarchystore/http/JsonWriter" "length" "I" (.int ln)) (F_afterValue_a1 : Fld Z h0 a1 "com/example/facet_hierarchy_store/facethierarchystore/http/JsonWriter" "afterValue" "Z" (.int av)) (V_tx : Afn Z h0 tx .byte cap (fun k => .int (tg k))) (E_tx : Exa Z h0 tx "[B") (g_a1 : n0 ≤ a1) (g_tx : n0 ≤ tx) (ne_a1_tx : a1 ≠ tx) (hcp : Cap cap ln) (hln : ln.toInt ≤ 6) :
    Con l Z (⟨"com/example/facet_hierarchy_store/facethierarchystore/http/JsonWriter", "endArray", "()Lcom/example/facet_hierarchy_store/facethierarchystore/http/JsonWriter;"⟩ : MethodName) prog_16_method_6_code 1 (some (.object "com/example/facet_hierarchy_store/facethierarchystore/http/JsonWriter")) ws ({ frames := 5, cells := 1, slots := 14, locals := 98 } : Room) #[(.ref a1)] h0 (Q28 Z a1 tx cap tg ln av h0 n0) := by
  refine Con.of (plainFor_of_name pn_rm28) ?_
  intro p e s m below meth c s₁ hZ e0 X0 hx hby hml hown hnm hret hlk
  replace hml : c.maxLocals = 1 := hml
  have hown : s.vm.findClass "com/example/facet_hierarchy_store/facethierarchystore/http/JsonWriter" = some m.cls := hown
  have N0 : Fr n0 [] := Fr.nil n0
  obtain ⟨PP, hPP⟩ : ∃ P, P = Fine s below (Q28 Z a1 tx cap tg ln av h0 n0) ({ frames := 5, cells := 1, slots := 14, locals := 98 } : Room).cells ({ frames := 5, cells := 1, slots := 14, locals := 98 } : Room).slots := ⟨_, rfl⟩
  rw [← hPP]
  refine Go.cast (ef_rm28 m a1) ?_
  have K : Keep h0 h0 [a1, tx] := Keep.refl h0 _
  have Zn : n0 ≤ h0.size := Z0
  show Go p.tables e below PP (s₁.setTop (mkF m 0 #[.val (.ref a1)] []))
  refine Go.st (fun t k => XS.aloadN X0.here hx rfl (hb hby d28_0) rfl rfl k) ?_
  show Go p.tables e below PP (s₁.setTop (mkF m 1 #[.val (.ref a1)] [(.ref a1)]))
  refine Go.st (fun t k => XS.bipush X0.here hx rfl (hb hby d28_1) k) ?_
  show Go p.tables e below PP (s₁.setTop (mkF m 3 #[.val (.ref a1)] [(.int (93 : Int32)), (.ref a1)]))
  obtain ⟨v1, T1, L1, X1, hQ1, st1⟩ := callPr X0 hx hZ (y := (⟨"com/example/facet_hierarchy_store/facethierarchystore/http/JsonWriter", "close", "(C)Lcom/example/facet_hierarchy_store/facethierarchystore/http/JsonWriter;"⟩ : MethodName)) (a := a1) (argsL := [(.int (93 : Int32))]) (rest := []) hown (hw _ (List.mem_of_getElem? (i := 152) rfl)) (hw _ (List.mem_of_getElem? (i := 153) rfl)) (selPriv (y := (⟨"com/example/facet_hierarchy_store/facethierarchystore/http/JsonWriter", "close", "(C)Lcom/example/facet_hierarchy_store/facethierarchystore/http/JsonWriter;"⟩ : MethodName)) (hw _ (List.mem_of_getElem? (i := 1) rfl)) (hw _ (List.mem_of_getElem? (i := 154) rfl)) (hw _ (List.mem_of_getElem? (i := 153) rfl)) (by decide)) (hw _ (List.mem_of_getElem? (i := 154) rfl)) (hw _ (List.mem_of_getElem? (i := 2) rfl)) (hw _ (List.mem_of_getElem? (i := 155) rfl)) (by decide) E_a1 (rm29 l Z a0 hw [] a1 (93 : Int32) tx cap tg ln av h0 n0 Zn E_a1 F_text_a1 F_length_a1 F_afterValue_a1 V_tx E_tx g_a1 g_tx ne_a1_tx hcp hln) e0 0 (by decide) (by decide) (by decide) (by decide) (g := (mkF m 3 #[.val (.ref a1)] [(.int (93 : Int32)), (.ref a1)])) rfl (by rw [hml]; rfl) (lenOf pd_13 rfl) rfl (by show 2 * 0 + _ ≤ _; exact Nat.le_of_eq rfl) (hb hby d28_3)
  obtain ⟨h1, e1⟩ : ∃ z, T1.heap = z := ⟨_, rfl⟩
  rw [e1] at hQ1
  obtain ⟨tx1, cc1, tg1, rfl, Nq1, Kq1, oq1, gq1, ⟨Ft1, Fl1, Fa1, Vt1, Xt1⟩, cpq1, bq1⟩ := hQ1
  have N1 := Fr.app N0 Nq1
  have ne_a1_tx1 : a1 ≠ tx1 := oq1.elim (fun q => by rw [q]; exact ne_a1_tx) (fun q => Nat.ne_of_lt (Nat.lt_of_lt_of_le E_a1.lt q))
  have kp_tx1 : tx1 ∈ [a1, tx] ∨ h0.size ≤ tx1 := oq1.elim (fun q => by rw [q]; exact (Or.inl (List.mem_of_getElem? (i := 1) rfl))) (fun q => Or.inr (Nat.le_trans K.1 q))
  have hor_tx1 : tx1 = tx ∨ h0.size ≤ tx1 := oq1.elim (fun q => by rw [q]; exact (Or.inl rfl)) (fun q => Or.inr (Nat.le_trans K.1 q))
  replace E_a1 := E_a1.keep Kq1
  clear F_text_a1
  clear F_length_a1
  clear F_afterValue_a1
  clear V_tx
  replace K := K.trans Kq1 (allS (Or.inl (List.mem_of_getElem? (i := 0) rfl)) (allS (Or.inl (List.mem_of_getElem? (i := 1) rfl)) all0))
  replace Zn := Nat.le_trans Zn Kq1.1
  refine Go.st st1 ?_
  show Go p.tables e below PP (T1.setTop (mkF m 6 #[.val (.ref a1)] [(.ref a1)]))
  rw [hPP]
  refine endR X1 hx hlk hret rfl rfl (hb hby d28_6) ?_ (by decide) (by decide)
  show Q28 Z a1 tx cap tg ln av h0 n0 (some (.ref a1)) T1.heap _
  rw [e1]
  exact ⟨tx1, _, tg1, rfl, N1, K, hor_tx1, gq1, ⟨Ft1, Fl1, Fa1, Vt1, Xt1⟩, cpq1, bq1⟩
theorem d11_0 : decode prog_16_method_21_code 0 = .ok (.aload_n 1, 1) := by decide +kernel
theorem d11_1 : decode prog_16_method_21_code 1 = .ok (.getstatic 158, 3) := by decide +kernel
theorem d11_4 : decode prog_16_method_21_code 4 = .ok (.invokevirtual 167, 3) := by decide +kernel
theorem d11_7 : decode prog_16_method_21_code 7 = .ok (.astore_n 2, 1) := by decide +kernel
theorem d11_8 : decode prog_16_method_21_code 8 = .ok (.aload_n 0, 1) := by decide +kernel
theorem d11_9 : decode prog_16_method_21_code 9 = .ok (.aload_n 2, 1) := by decide +kernel
theorem d11_10 : decode prog_16_method_21_code 10 = .ok (.arraylength, 1) := by decide +kernel
theorem d11_11 : decode prog_16_method_21_code 11 = .ok (.invokevirtual 38, 3) := by decide +kernel
theorem d11_14 : decode prog_16_method_21_code 14 = .ok (.aload_n 2, 1) := by decide +kernel
theorem d11_15 : decode prog_16_method_21_code 15 = .ok (.iconst 0, 1) := by decide +kernel
theorem d11_16 : decode prog_16_method_21_code 16 = .ok (.aload_n 0, 1) := by decide +kernel
theorem d11_17 : decode prog_16_method_21_code 17 = .ok (.getfield 12, 3) := by decide +kernel
theorem d11_20 : decode prog_16_method_21_code 20 = .ok (.aload_n 0, 1) := by decide +kernel
theorem d11_21 : decode prog_16_method_21_code 21 = .ok (.getfield 50, 3) := by decide +kernel
theorem d11_24 : decode prog_16_method_21_code 24 = .ok (.aload_n 2, 1) := by decide +kernel
theorem d11_25 : decode prog_16_method_21_code 25 = .ok (.arraylength, 1) := by decide +kernel
theorem d11_26 : decode prog_16_method_21_code 26 = .ok (.invokestatic 69, 3) := by decide +kernel
theorem d11_29 : decode prog_16_method_21_code 29 = .ok (.aload_n 0, 1) := by decide +kernel
theorem d11_30 : decode prog_16_method_21_code 30 = .ok (.dup, 1) := by decide +kernel
theorem d11_31 : decode prog_16_method_21_code 31 = .ok (.getfield 50, 3) := by decide +kernel
theorem d11_34 : decode prog_16_method_21_code 34 = .ok (.aload_n 2, 1) := by decide +kernel
theorem d11_35 : decode prog_16_method_21_code 35 = .ok (.arraylength, 1) := by decide +kernel
theorem d11_36 : decode prog_16_method_21_code 36 = .ok (.iadd, 1) := by decide +kernel
theorem d11_37 : decode prog_16_method_21_code 37 = .ok (.putfield 50, 3) := by decide +kernel
theorem d11_40 : decode prog_16_method_21_code 40 = .ok (.return_, 1) := by decide +kernel
theorem pn_rm11 : plainName "com/example/facet_hierarchy_store/facethierarchystore/http/JsonWriter" = true := by first | (simp [plainName, overriddenIn]; done) | decide +kernel
theorem ef_rm11 (m : MethodId) (a1 : Addr) (a2 : Addr) : entryFrame m #[(.ref a1), (.ref a2)] 3 = mkF m 0 #[.val (.ref a1), .val (.ref a2), .unset] [] := by first | (simp [entryFrame, mkF, argsToLocals, Value.category]; done) | rfl
def Q11 (Z : State) (a1 : Addr) (a2 : Addr) (tx : Addr) (cap : Int32) (tg : Nat → Int32) (ln : Int32) (av : Int32) (t2 : Addr) (bb : Int32) (zc : Int32) (u8 : Addr) (h0 : Heap) (n0 : Nat) (v : Option Value) (h : Heap) (L : List Loc) : Prop := ∃ (tx' : Addr) (cap' : Int32) (tg' : Nat → Int32), v = none ∧ Fr n0 L ∧ Keep h0 h [a1, tx] ∧ (tx' = tx ∨ h0.size ≤ tx') ∧ n0 ≤ tx' ∧ JWr Z h a1 tx' cap' tg' (ln + (1 : Int32)) av ∧ Cap cap' (ln + (1 : Int32)) ∧ (∀ k, k < (ln + (1 : Int32)).toNatClampNeg → tg' k = (upd tg ln bb) k)
theorem pd_14 : parseMethodDescriptor "(Ljava/nio/charset/Charset;)[B" = some ⟨[(.object "java/nio/charset/Charset")], some (.array .byte)⟩ := by decide +kernel
set_option maxRecDepth 65536 in
set_option maxHeartbeats 40000000 in
theorem rm11 (l : Launch) (Z : State) (a0 : Array Value) (hw : ∀ d ∈ tables_1, d.before a0 Z = true) (ws : List Jvm.Cond) (a1 : Addr) (a2 : Addr) (tx : Addr) (cap : Int32) (tg : Nat → Int32) (ln : Int32) (av : Int32) (t2 : Addr) (bb : Int32) (zc : Int32) (u8 : Addr) (h0 : Heap) (n0 : Nat) (Z0 : n0 ≤ h0.size) (E_a1 : Exa Z h0 a1 "com/example/facet_hierarchy_store/facethierarchystore/http/JsonWriter") (F_text_a1 : Fld Z h0 a1 "com/example/facet_hierarchy_store/facethierarchystore/http/JsonWriter" "text" "[B" (.ref tx)) (F_length_a1 : Fld Z h0 a1 "com/example/facet_hierarchy_store/facethierarchystore/http/JsonWriter" "length" "I" (.int ln)) (F_afterValue_a1 : Fld Z h0 a1 "com/example/facet_hierarchy_store/facethierarchystore/http/JsonWriter" "afterValue" "Z" (.int av)) (V_tx : Afn Z h0 tx .byte cap (fun k => .int (tg k))) (E_tx : Exa Z h0 tx "[B") (g_a1 : n0 ≤ a1) (g_tx : n0 ≤ tx) (ne_a1_tx : a1 ≠ tx) (hcp : Cap cap ln) (hln : ln.toInt ≤ 7) (F_value_a2 : Fld Z h0 a2 "java/lang/String" "value" "[B" (.ref t2)) (F_coder_a2 : Fld Z h0 a2 "java/lang/String" "coder" "B" (.int (0 : Int32))) (V_t2 : Afn Z h0 t2 .byte (1 : Int32) (fun k => .int (bb))) (E_a2 : Exa Z h0 a2 "java/lang/String") (X_t2 : Exa Z h0 t2 "[B") (hbb : ¬ bb < (0 : Int32)) (SC : Sta Z Z.heap "java/lang/String" "COMPACT_STRINGS" "Z" (.int zc)) (hzc : ¬ zc = (0 : Int32)) (O : Old Z n0 h0) (SU : Sta Z Z.heap "java/nio/charset/StandardCharsets" "UTF_8" "Ljava/nio/charset/Charset;" (.ref u8)) (SI : Sta Z Z.heap "sun/nio/cs/UTF_8" "INSTANCE" "Lsun/nio/cs/UTF_8;" (.ref u8)) :
    Con l Z (⟨"com/example/facet_hierarchy_store/facethierarchystore/http/JsonWriter", "raw", "(Ljava/lang/String;)V"⟩ : MethodName) prog_16_method_21_code 3 none ws ({ frames := 5, cells := 2, slots := 15, locals := 82 } : Room) #[(.ref a1), (.ref a2)] h0 (Q11 Z a1 a2 tx cap tg ln av t2 bb zc u8 h0 n0) := by
  refine Con.of (plainFor_of_name pn_rm11) ?_
  intro p e s m below meth c s₁ hZ e0 X0 hx hby hml hown hnm hret hlk
  replace hml : c.maxLocals = 3 := hml
  have hown : s.vm.findClass "com/example/facet_hierarchy_store/facethierarchystore/http/JsonWriter" = some m.cls := hown
  have N0 : Fr n0 [] := Fr.nil n0
  obtain ⟨PP, hPP⟩ : ∃ P, P = Fine s below (Q11 Z a1 a2 tx cap tg ln av t2 bb zc u8 h0 n0) ({ frames := 5, cells := 2, slots := 15, locals := 82 } : Room).cells ({ frames := 5, cells := 2, slots := 15, locals := 82 } : Room).slots := ⟨_, rfl⟩
  rw [← hPP]
  refine Go.cast (ef_rm11 m a1 a2) ?_
  have K : Keep h0 h0 [a1, tx] := Keep.refl h0 _
  have Zn : n0 ≤ h0.size := Z0
  show Go p.tables e below PP (s₁.setTop (mkF m 0 #[.val (.ref a1), .val (.ref a2), .unset] []))
  refine Go.st (fun t k => XS.aloadN X0.here hx rfl (hb hby d11_0) rfl rfl k) ?_
  show Go p.tables e below PP (s₁.setTop (mkF m 1 #[.val (.ref a1), .val (.ref a2), .unset] [(.ref a2)]))
  obtain ⟨T1, X1, e1, st1⟩ := getS2 X0 hx hZ hown (host := "") (Or.inl (hw _ (List.mem_of_getElem? (i := 62) rfl))) Via.refl e0 (SU.ext O.2) (g := (mkF m 1 #[.val (.ref a1), .val (.ref a2), .unset] [(.ref a2)])) rfl (hb hby d11_1)
  refine Go.st st1 ?_
  show Go p.tables e below PP (T1.setTop (mkF m 4 #[.val (.ref a1), .val (.ref a2), .unset] [(.ref u8), (.ref a2)]))
  obtain ⟨v2, T2, L2, X2, hQ2, st2⟩ := callVi X1 hx hZ (C := "java/lang/String") (y := (⟨"java/lang/String", "getBytes", "(Ljava/nio/charset/Charset;)[B"⟩ : MethodName)) (z := (⟨"java/lang/String", "getBytes", "(Ljava/nio/charset/Charset;)[B"⟩ : MethodName)) (a := a2) (argsL := [(.ref u8)]) (rest := []) hown (hw _ (List.mem_of_getElem? (i := 64) rfl)) (hw _ (List.mem_of_getElem? (i := 65) rfl)) (notFace_of_selects (args := #[]) (mvT hZ (hw _ (List.mem_of_getElem? (i := 67) rfl)))) (hw _ (List.mem_of_getElem? (i := 67) rfl)) (hw _ (List.mem_of_getElem? (i := 66) rfl)) (hw _ (List.mem_of_getElem? (i := 40) rfl)) (hw _ (List.mem_of_getElem? (i := 68) rfl)) (by decide) rfl E_a2 (rm12 l Z a0 hw [] a2 u8 t2 bb zc h0 n0 Zn F_value_a2 F_coder_a2 V_t2 E_a2 X_t2 hbb SC hzc O SI) e1 0 (by decide) (by decide) (by decide) (by decide) (g := (mkF m 4 #[.val (.ref a1), .val (.ref a2), .unset] [(.ref u8), (.ref a2)])) rfl (by rw [hml]; rfl) (lenOf pd_14 rfl) rfl (by show 2 * 0 + _ ≤ _; exact Nat.le_of_eq rfl) (hb hby d11_4)
  obtain ⟨h2, e2⟩ : ∃ z, T2.heap = z := ⟨_, rfl⟩
  rw [e2] at hQ2
  obtain ⟨t_2, rfl, Nq2, Kq2, sq2_t, Fq2_0⟩ := hQ2
  have N2 := Fr.app N0 Nq2
  have ne_a1_t_2 : a1 ≠ t_2 := Nat.ne_of_lt (Nat.lt_of_lt_of_le E_a1.lt sq2_t)
  have ne_tx_t_2 : tx ≠ t_2 := Nat.ne_of_lt (Nat.lt_of_lt_of_le V_tx.lt sq2_t)
  have ne_a2_t_2 : a2 ≠ t_2 := Nat.ne_of_lt (Nat.lt_of_lt_of_le F_value_a2.lt sq2_t)
  have ne_t2_t_2 : t2 ≠ t_2 := Nat.ne_of_lt (Nat.lt_of_lt_of_le V_t2.lt sq2_t)
  have g_t_2 : n0 ≤ t_2 := Nat.le_trans Zn sq2_t
  have sz_t_2 : h0.size ≤ t_2 := Nat.le_trans K.1 sq2_t
  replace E_a1 := E_a1.keep Kq2
  replace F_text_a1 := F_text_a1.keep Kq2 nin0
  replace F_length_a1 := F_length_a1.keep Kq2 nin0
  replace F_afterValue_a1 := F_afterValue_a1.keep Kq2 nin0
  replace V_tx := V_tx.keep Kq2 nin0
  replace E_tx := E_tx.keep Kq2
  replace F_value_a2 := F_value_a2.keep Kq2 nin0
  replace F_coder_a2 := F_coder_a2.keep Kq2 nin0
  replace V_t2 := V_t2.keep Kq2 nin0
  replace E_a2 := E_a2.keep Kq2
  replace X_t2 := X_t2.keep Kq2
  replace O := O.keep Kq2 all0
  replace K := K.trans Kq2 all0
  replace Zn := Nat.le_trans Zn Kq2.1
  have V_t_2 := Fq2_0
  refine Go.st st2 ?_
  show Go p.tables e below PP (T2.setTop (mkF m 7 #[.val (.ref a1), .val (.ref a2), .unset] [(.ref t_2)]))
  refine Go.st (fun t k => XS.astoreN X2.here hx rfl (hb hby d11_7) rfl rfl (l' := #[.val (.ref a1), .val (.ref a2), .val (.ref t_2)]) rfl k) ?_
  show Go p.tables e below PP (T2.setTop (mkF m 8 #[.val (.ref a1), .val (.ref a2), .val (.ref t_2)] []))
  refine Go.st (fun t k => XS.aloadN X2.here hx rfl (hb hby d11_8) rfl rfl k) ?_
  show Go p.tables e below PP (T2.setTop (mkF m 9 #[.val (.ref a1), .val (.ref a2), .val (.ref t_2)] [(.ref a1)]))
  refine Go.st (fun t k => XS.aloadN X2.here hx rfl (hb hby d11_9) rfl rfl k) ?_
  show Go p.tables e below PP (T2.setTop (mkF m 10 #[.val (.ref a1), .val (.ref a2), .val (.ref t_2)] [(.ref t_2), (.ref a1)]))
  obtain ⟨cl3, Ar3, S3, Nn3, -⟩ := id V_t_2
  refine Go.st (fun t k => X2.arraylength hx (by rw [e2]; exact Ar3.1) (State.isArrayOf_alike hZ.alike Ar3.2.1) (g := (mkF m 10 #[.val (.ref a1), .val (.ref a2), .val (.ref t_2)] [(.ref t_2), (.ref a1)])) rfl rfl (hb hby d11_10) _ k) ?_
  rw [len_of S3 Nn3]
  show Go p.tables e below PP (T2.setTop (mkF m 11 #[.val (.ref a1), .val (.ref a2), .val (.ref t_2)] [(.int (1 : Int32)), (.ref a1)]))
  obtain ⟨v4, T4, L4, X4, hQ4, st4⟩ := callPr X2 hx hZ (y := (⟨"com/example/facet_hierarchy_store/facethierarchystore/http/JsonWriter", "room", "(I)V"⟩ : MethodName)) (a := a1) (argsL := [(.int (1 : Int32))]) (rest := []) hown (hw _ (List.mem_of_getElem? (i := 99) rfl)) (hw _ (List.mem_of_getElem? (i := 100) rfl)) (selPriv (y := (⟨"com/example/facet_hierarchy_store/facethierarchystore/http/JsonWriter", "room", "(I)V"⟩ : MethodName)) (hw _ (List.mem_of_getElem? (i := 1) rfl)) (hw _ (List.mem_of_getElem? (i := 101) rfl)) (hw _ (List.mem_of_getElem? (i := 100) rfl)) (by decide)) (hw _ (List.mem_of_getElem? (i := 101) rfl)) (hw _ (List.mem_of_getElem? (i := 2) rfl)) (hw _ (List.mem_of_getElem? (i := 102) rfl)) (by decide) E_a1 (rm18 l Z a0 hw [] a1 tx cap tg ln av h2 n0 Zn E_a1 F_text_a1 F_length_a1 F_afterValue_a1 V_tx E_tx g_a1 g_tx ne_a1_tx hcp hln) e2 0 (by decide) (by decide) (by decide) (by decide) (g := (mkF m 11 #[.val (.ref a1), .val (.ref a2), .val (.ref t_2)] [(.int (1 : Int32)), (.ref a1)])) rfl (by rw [hml]; rfl) (lenOf pd_10 rfl) rfl (by show 2 * 0 + _ ≤ _; exact Nat.le_of_eq rfl) (hb hby d11_11)
  obtain ⟨h4, e4⟩ : ∃ z, T4.heap = z := ⟨_, rfl⟩
  rw [e4] at hQ4
  obtain ⟨tx4, cc4, tg4, rfl, Nq4, Kq4, oq4, gq4, ⟨Ft4, Fl4, Fa4, Vt4, Xt4⟩, cpq4, bq4, mq4⟩ := hQ4
  have N4 := Fr.app N2 Nq4
  have ne_a1_tx4 : a1 ≠ tx4 := oq4.elim (fun q => by rw [q]; exact ne_a1_tx) (fun q => Nat.ne_of_lt (Nat.lt_of_lt_of_le E_a1.lt q))
  have ne_t_2_tx4 : t_2 ≠ tx4 := oq4.elim (fun q => by rw [q]; exact (Ne.symm ne_tx_t_2)) (fun q => Nat.ne_of_lt (Nat.lt_of_lt_of_le V_t_2.lt q))
  have kp_tx4 : tx4 ∈ [a1, tx] ∨ h0.size ≤ tx4 := oq4.elim (fun q => by rw [q]; exact (Or.inl (List.mem_of_getElem? (i := 1) rfl))) (fun q => Or.inr (Nat.le_trans K.1 q))
  have hor_tx4 : tx4 = tx ∨ h0.size ≤ tx4 := oq4.elim (fun q => by rw [q]; exact (Or.inl rfl)) (fun q => Or.inr (Nat.le_trans K.1 q))
  replace E_a1 := E_a1.keep Kq4
  clear F_text_a1
  clear F_length_a1
  clear F_afterValue_a1
  clear V_tx
  replace V_t_2 := V_t_2.keep Kq4 (ninS (Ne.symm ne_a1_t_2) (ninS (Ne.symm ne_tx_t_2) nin0))
  replace O := O.keep Kq4 (allS g_a1 (allS g_tx all0))
  replace K := K.trans Kq4 (allS (Or.inl (List.mem_of_getElem? (i := 0) rfl)) (allS (Or.inl (List.mem_of_getElem? (i := 1) rfl)) all0))
  replace Zn := Nat.le_trans Zn Kq4.1
  refine Go.st st4 ?_
  show Go p.tables e below PP (T4.setTop (mkF m 14 #[.val (.ref a1), .val (.ref a2), .val (.ref t_2)] []))
  refine Go.st (fun t k => XS.aloadN X4.here hx rfl (hb hby d11_14) rfl rfl k) ?_
  show Go p.tables e below PP (T4.setTop (mkF m 15 #[.val (.ref a1), .val (.ref a2), .val (.ref t_2)] [(.ref t_2)]))
  refine Go.st (fun t k => XS.iconst X4.here hx rfl (hb hby d11_15) k) ?_
  show Go p.tables e below PP (T4.setTop (mkF m 16 #[.val (.ref a1), .val (.ref a2), .val (.ref t_2)] [(.int (0 : Int32)), (.ref t_2)]))
  refine Go.st (fun t k => XS.aloadN X4.here hx rfl (hb hby d11_16) rfl rfl k) ?_
  show Go p.tables e below PP (T4.setTop (mkF m 17 #[.val (.ref a1), .val (.ref a2), .val (.ref t_2)] [(.ref a1), (.int (0 : Int32)), (.ref t_2)]))
  obtain ⟨T5, X5, e5, st5⟩ := getF X4 hx hZ hown (host := "") (Or.inl (hw _ (List.mem_of_getElem? (i := 10) rfl))) Via.refl e4 Ft4 (g := (mkF m 17 #[.val (.ref a1), .val (.ref a2), .val (.ref t_2)] [(.ref a1), (.int (0 : Int32)), (.ref t_2)])) rfl rfl (hb hby d11_17)
  refine Go.st st5 ?_
  show Go p.tables e below PP (T5.setTop (mkF m 20 #[.val (.ref a1), .val (.ref a2), .val (.ref t_2)] [(.ref tx4), (.int (0 : Int32)), (.ref t_2)]))
  refine Go.st (fun t k => XS.aloadN X5.here hx rfl (hb hby d11_20) rfl rfl k) ?_
  show Go p.tables e below PP (T5.setTop (mkF m 21 #[.val (.ref a1), .val (.ref a2), .val (.ref t_2)] [(.ref a1), (.ref tx4), (.int (0 : Int32)), (.ref t_2)]))
  obtain ⟨T6, X6, e6, st6⟩ := getF X5 hx hZ hown (host := "") (Or.inl (hw _ (List.mem_of_getElem? (i := 103) rfl))) Via.refl e5 Fl4 (g := (mkF m 21 #[.val (.ref a1), .val (.ref a2), .val (.ref t_2)] [(.ref a1), (.ref tx4), (.int (0 : Int32)), (.ref t_2)])) rfl rfl (hb hby d11_21)
  refine Go.st st6 ?_
  show Go p.tables e below PP (T6.setTop (mkF m 24 #[.val (.ref a1), .val (.ref a2), .val (.ref t_2)] [(.int ln), (.ref tx4), (.int (0 : Int32)), (.ref t_2)]))
  refine Go.st (fun t k => XS.aloadN X6.here hx rfl (hb hby d11_24) rfl rfl k) ?_
  show Go p.tables e below PP (T6.setTop (mkF m 25 #[.val (.ref a1), .val (.ref a2), .val (.ref t_2)] [(.ref t_2), (.int ln), (.ref tx4), (.int (0 : Int32)), (.ref t_2)]))
  obtain ⟨cl7, Ar7, S7, Nn7, -⟩ := id V_t_2
  refine Go.st (fun t k => X6.arraylength hx (by rw [e6]; exact Ar7.1) (State.isArrayOf_alike hZ.alike Ar7.2.1) (g := (mkF m 25 #[.val (.ref a1), .val (.ref a2), .val (.ref t_2)] [(.ref t_2), (.int ln), (.ref tx4), (.int (0 : Int32)), (.ref t_2)])) rfl rfl (hb hby d11_25) _ k) ?_
  rw [len_of S7 Nn7]
  show Go p.tables e below PP (T6.setTop (mkF m 26 #[.val (.ref a1), .val (.ref a2), .val (.ref t_2)] [(.int (1 : Int32)), (.int ln), (.ref tx4), (.int (0 : Int32)), (.ref t_2)]))
  obtain ⟨T8, h8, L8, X8, e8, N8, Kq8, Vq8, st8⟩ := cpF X6 hx hZ hown (hw _ (List.mem_of_getElem? (i := 120) rfl)) (hw _ (List.mem_of_getElem? (i := 119) rfl)) (hw _ (List.mem_of_getElem? (i := 117) rfl)) (hw _ (List.mem_of_getElem? (i := 118) rfl)) e6 V_t_2 Vt4 rfl (by decide) (hcp.1) (by decide) (by decide) (own_inb hln cpq4 mq4) N4 gq4 (g := (mkF m 26 #[.val (.ref a1), .val (.ref a2), .val (.ref t_2)] [(.int (1 : Int32)), (.int ln), (.ref tx4), (.int (0 : Int32)), (.ref t_2)])) rfl (by rw [hml]; rfl) rfl (hb hby d11_26) (by decide) (W := 0) (by show 2 * 0 + _ ≤ _; exact Nat.le_of_eq rfl) (by decide)
  replace E_a1 := E_a1.keep Kq8
  replace V_t_2 := V_t_2.keep Kq8 (ninS ne_t_2_tx4 nin0)
  replace Ft4 := Ft4.keep Kq8 (ninS ne_a1_tx4 nin0)
  replace Fl4 := Fl4.keep Kq8 (ninS ne_a1_tx4 nin0)
  replace Fa4 := Fa4.keep Kq8 (ninS ne_a1_tx4 nin0)
  clear Vt4
  replace Xt4 := Xt4.keep Kq8
  replace O := O.keep Kq8 (allS gq4 all0)
  replace K := K.trans Kq8 (allS kp_tx4 all0)
  replace Zn := Nat.le_trans Zn Kq8.1
  have Vt4 := Vq8
  refine Go.st st8 ?_
  replace Vt4 := Vt4.congr (g := fun k => .int (upd tg4 ln bb k)) (fun k _ => own_cp1 _ _ _ k)
  show Go p.tables e below PP (T8.setTop (mkF m 29 #[.val (.ref a1), .val (.ref a2), .val (.ref t_2)] []))
  refine Go.st (fun t k => XS.aloadN X8.here hx rfl (hb hby d11_29) rfl rfl k) ?_
  show Go p.tables e below PP (T8.setTop (mkF m 30 #[.val (.ref a1), .val (.ref a2), .val (.ref t_2)] [(.ref a1)]))
  refine Go.st (fun t k => XS.dup X8.here hx rfl (hb hby d11_30) rfl rfl k) ?_
  show Go p.tables e below PP (T8.setTop (mkF m 31 #[.val (.ref a1), .val (.ref a2), .val (.ref t_2)] [(.ref a1), (.ref a1)]))
  obtain ⟨T9, X9, e9, st9⟩ := getF X8 hx hZ hown (host := "") (Or.inl (hw _ (List.mem_of_getElem? (i := 103) rfl))) Via.refl e8 Fl4 (g := (mkF m 31 #[.val (.ref a1), .val (.ref a2), .val (.ref t_2)] [(.ref a1), (.ref a1)])) rfl rfl (hb hby d11_31)
  refine Go.st st9 ?_
  show Go p.tables e below PP (T9.setTop (mkF m 34 #[.val (.ref a1), .val (.ref a2), .val (.ref t_2)] [(.int ln), (.ref a1)]))
  refine Go.st (fun t k => XS.aloadN X9.here hx rfl (hb hby d11_34) rfl rfl k) ?_
  show Go p.tables e below PP (T9.setTop (mkF m 35 #[.val (.ref a1), .val (.ref a2), .val (.ref t_2)] [(.ref t_2), (.int ln), (.ref a1)]))
  obtain ⟨cl10, Ar10, S10, Nn10, -⟩ := id V_t_2
  refine Go.st (fun t k => X9.arraylength hx (by rw [e9]; exact Ar10.1) (State.isArrayOf_alike hZ.alike Ar10.2.1) (g := (mkF m 35 #[.val (.ref a1), .val (.ref a2), .val (.ref t_2)] [(.ref t_2), (.int ln), (.ref a1)])) rfl rfl (hb hby d11_35) _ k) ?_
  rw [len_of S10 Nn10]
  show Go p.tables e below PP (T9.setTop (mkF m 36 #[.val (.ref a1), .val (.ref a2), .val (.ref t_2)] [(.int (1 : Int32)), (.int ln), (.ref a1)]))
  refine Go.st (fun t k => XS.iadd X9.here hx rfl (hb hby d11_36) rfl k) ?_
  show Go p.tables e below PP (T9.setTop (mkF m 37 #[.val (.ref a1), .val (.ref a2), .val (.ref t_2)] [(.int (ln + (1 : Int32))), (.ref a1)]))
  obtain ⟨T11, h11, X11, e11, W11, st11⟩ := putF X9 hx hZ hown (host := "") (Or.inl (hw _ (List.mem_of_getElem? (i := 103) rfl))) Via.refl e9 Fl4 E_a1 (Or.inl (hw _ (List.mem_of_getElem? (i := 104) rfl))) (hw _ (List.mem_of_getElem? (i := 1) rfl)) (ty := .int) (by decide) rfl rfl (g := (mkF m 37 #[.val (.ref a1), .val (.ref a2), .val (.ref t_2)] [(.int (ln + (1 : Int32))), (.ref a1)])) rfl rfl (hb hby d11_37)
  refine Go.st st11 ?_
  have N11 := Fr.snoc X11 N8 g_a1
  replace E_a1 := E_a1.wr W11
  replace V_t_2 := V_t_2.other W11 (Ne.symm ne_a1_t_2)
  replace Ft4 := Ft4.other W11 (Or.inr (slot_ne (a0 := a0) (Or.inl (hw _ (List.mem_of_getElem? (i := 11) rfl))) (Or.inl (hw _ (List.mem_of_getElem? (i := 104) rfl))) (by decide) (t := (.array .byte)) (t' := .int) (by decide) (by decide)))
  replace Fa4 := Fa4.other W11 (Or.inr (slot_ne (a0 := a0) (Or.inl (hw _ (List.mem_of_getElem? (i := 30) rfl))) (Or.inl (hw _ (List.mem_of_getElem? (i := 104) rfl))) (by decide) (t := .boolean) (t' := .int) (by decide) (by decide)))
  replace Xt4 := Xt4.wr W11
  replace Vt4 := Vt4.other W11 (Ne.symm ne_a1_tx4)
  replace O := O.wr W11 g_a1
  replace K := K.wr W11 (Or.inl (List.mem_of_getElem? (i := 0) rfl))
  replace Zn : n0 ≤ h11.size := by rw [W11.size]; exact Zn
  replace Fl4 := Fl4.same W11
  show Go p.tables e below PP (T11.setTop (mkF m 40 #[.val (.ref a1), .val (.ref a2), .val (.ref t_2)] []))
  rw [hPP]
  refine endV X11 hx hlk hret (hb hby d11_40) ?_ (by decide) (by decide)
  show Q11 Z a1 a2 tx cap tg ln av t2 bb zc u8 h0 n0 none T11.heap _
  rw [e11]
  exact ⟨tx4, _, (fun k => upd tg4 ln bb k), rfl, N11, K, hor_tx4, gq4, ⟨Ft4, Fl4, Fa4, Vt4, Xt4⟩, (own_capS (cp0 := ln) hln cpq4 mq4), (own_updc hcp.1 hln bq4)⟩
theorem d5_0 : decode prog_16_method_10_code 0 = .ok (.aload_n 0, 1) := by decide +kernel
theorem d5_1 : decode prog_16_method_10_code 1 = .ok (.invokevirtual 23, 3) := by decide +kernel
theorem d5_4 : decode prog_16_method_10_code 4 = .ok (.aload_n 0, 1) := by decide +kernel
theorem d5_5 : decode prog_16_method_10_code 5 = .ok (.lload_n 1, 1) := by decide +kernel
theorem d5_6 : decode prog_16_method_10_code 6 = .ok (.invokestatic 58, 3) := by decide +kernel
theorem d5_9 : decode prog_16_method_10_code 9 = .ok (.invokevirtual 64, 3) := by decide +kernel
theorem d5_12 : decode prog_16_method_10_code 12 = .ok (.aload_n 0, 1) := by decide +kernel
theorem d5_13 : decode prog_16_method_10_code 13 = .ok (.iconst 1, 1) := by decide +kernel
theorem d5_14 : decode prog_16_method_10_code 14 = .ok (.putfield 34, 3) := by decide +kernel
theorem d5_17 : decode prog_16_method_10_code 17 = .ok (.aload_n 0, 1) := by decide +kernel
theorem d5_18 : decode prog_16_method_10_code 18 = .ok (.areturn, 1) := by decide +kernel
theorem pn_rm5 : plainName "com/example/facet_hierarchy_store/facethierarchystore/http/JsonWriter" = true := by first | (simp [plainName, overriddenIn]; done) | decide +kernel
theorem ef_rm5 (m : MethodId) (a1 : Addr) (q2 : Int64) : entryFrame m #[(.ref a1), (.long q2)] 3 = mkF m 0 #[.val (.ref a1), .val (.long q2), .second] [] := by first | (simp [entryFrame, mkF, argsToLocals, Value.category]; done) | rfl
def Q5 (Z : State) (a1 : Addr) (q2 : Int64) (tx : Addr) (cap : Int32) (tg : Nat → Int32) (ln : Int32) (av : Int32) (zc : Int32) (ad : Addr) (u8 : Addr) (h0 : Heap) (n0 : Nat) (v : Option Value) (h : Heap) (L : List Loc) : Prop := ∃ (tx' : Addr) (cap' : Int32) (tg' : Nat → Int32), v = some (.ref a1) ∧ Fr n0 L ∧ Keep h0 h [a1, tx] ∧ (tx' = tx ∨ h0.size ≤ tx') ∧ n0 ≤ tx' ∧ JWr Z h a1 tx' cap' tg' ((sepL ln av) + (1 : Int32)) (1 : Int32) ∧ Cap cap' ((sepL ln av) + (1 : Int32)) ∧ (∀ k, k < ((sepL ln av) + (1 : Int32)).toNatClampNeg → tg' k = (upd (sepG tg ln av) (sepL ln av) (dgB q2)) k)
theorem pd_15 : parseMethodDescriptor "(J)Ljava/lang/String;" = some ⟨[.long], some (.object "java/lang/String")⟩ := by decide +kernel
theorem pd_16 : parseMethodDescriptor "(Ljava/lang/String;)V" = some ⟨[(.object "java/lang/String")], none⟩ := by decide +kernel
set_option maxRecDepth 65536 in
set_option maxHeartbeats 40000000 in
theorem rm5 (l : Launch) (Z : State) (a0 : Array Value) (hw : ∀ d ∈ tables_1, d.before a0 Z = true) (ws : List Jvm.Cond) (a1 : Addr) (q2 : Int64) (tx : Addr) (cap : Int32) (tg : Nat → Int32) (ln : Int32) (av : Int32) (zc : Int32) (ad : Addr) (u8 : Addr) (h0 : Heap) (n0 : Nat) (Z0 : n0 ≤ h0.size) (E_a1 : Exa Z h0 a1 "com/example/facet_hierarchy_store/facethierarchystore/http/JsonWriter") (F_text_a1 : Fld Z h0 a1 "com/example/facet_hierarchy_store/facethierarchystore/http/JsonWriter" "text" "[B" (.ref tx)) (F_length_a1 : Fld Z h0 a1 "com/example/facet_hierarchy_store/facethierarchystore/http/JsonWriter" "length" "I" (.int ln)) (F_afterValue_a1 : Fld Z h0 a1 "com/example/facet_hierarchy_store/facethierarchystore/http/JsonWriter" "afterValue" "Z" (.int av)) (V_tx : Afn Z h0 tx .byte cap (fun k => .int (tg k))) (E_tx : Exa Z h0 tx "[B") (g_a1 : n0 ≤ a1) (g_tx : n0 ≤ tx) (ne_a1_tx : a1 ≠ tx) (hcp : Cap cap ln) (hln : ln.toInt ≤ 6) (hq : DgL q2) (SC : Sta Z Z.heap "java/lang/String" "COMPACT_STRINGS" "Z" (.int zc)) (hzc : ¬ zc = (0 : Int32)) (O : Old Z n0 h0) (SD : Sta Z Z.heap "java/lang/Integer" "DigitOnes" "[B" (.ref ad)) (AD : Afn Z Z.heap ad .byte (100 : Int32) (fun k => .int ((48 : Int32) + Int32.ofNat k % 10))) (SU : Sta Z Z.heap "java/nio/charset/StandardCharsets" "UTF_8" "Ljava/nio/charset/Charset;" (.ref u8)) (SI : Sta Z Z.heap "sun/nio/cs/UTF_8" "INSTANCE" "Lsun/nio/cs/UTF_8;" (.ref u8)) :
    Con l Z (⟨"com/example/facet_hierarchy_store/facethierarchystore/http/JsonWriter", "value", "(J)Lcom/example/facet_hierarchy_store/facethierarchystore/http/JsonWriter;"⟩ : MethodName) prog_16_method_10_code 3 (some (.object "com/example/facet_hierarchy_store/facethierarchystore/http/JsonWriter")) ws ({ frames := 6, cells := 5, slots := 34, locals := 98 } : Room) #[(.ref a1), (.long q2)] h0 (Q5 Z a1 q2 tx cap tg ln av zc ad u8 h0 n0) := by
  refine Con.of (plainFor_of_name pn_rm5) ?_
  intro p e s m below meth c s₁ hZ e0 X0 hx hby hml hown hnm hret hlk
  replace hml : c.maxLocals = 3 := hml
  have hown : s.vm.findClass "com/example/facet_hierarchy_store/facethierarchystore/http/JsonWriter" = some m.cls := hown
  have N0 : Fr n0 [] := Fr.nil n0
  obtain ⟨PP, hPP⟩ : ∃ P, P = Fine s below (Q5 Z a1 q2 tx cap tg ln av zc ad u8 h0 n0) ({ frames := 6, cells := 5, slots := 34, locals := 98 } : Room).cells ({ frames := 6, cells := 5, slots := 34, locals := 98 } : Room).slots := ⟨_, rfl⟩
  rw [← hPP]
  refine Go.cast (ef_rm5 m a1 q2) ?_
  have K : Keep h0 h0 [a1, tx] := Keep.refl h0 _
  have Zn : n0 ≤ h0.size := Z0
  show Go p.tables e below PP (s₁.setTop (mkF m 0 #[.val (.ref a1), .val (.long q2), .second] []))
  refine Go.st (fun t k => XS.aloadN X0.here hx rfl (hb hby d5_0) rfl rfl k) ?_
  show Go p.tables e below PP (s₁.setTop (mkF m 1 #[.val (.ref a1), .val (.long q2), .second] [(.ref a1)]))
  obtain ⟨v1, T1, L1, X1, hQ1, st1⟩ := callPr X0 hx hZ (y := (⟨"com/example/facet_hierarchy_store/facethierarchystore/http/JsonWriter", "separate", "()V"⟩ : MethodName)) (a := a1) (argsL := []) (rest := []) hown (hw _ (List.mem_of_getElem? (i := 25) rfl)) (hw _ (List.mem_of_getElem? (i := 26) rfl)) (selPriv (y := (⟨"com/example/facet_hierarchy_store/facethierarchystore/http/JsonWriter", "separate", "()V"⟩ : MethodName)) (hw _ (List.mem_of_getElem? (i := 1) rfl)) (hw _ (List.mem_of_getElem? (i := 27) rfl)) (hw _ (List.mem_of_getElem? (i := 26) rfl)) (by decide)) (hw _ (List.mem_of_getElem? (i := 27) rfl)) (hw _ (List.mem_of_getElem? (i := 2) rfl)) (hw _ (List.mem_of_getElem? (i := 28) rfl)) (by decide) E_a1 (rm6 l Z a0 hw [] a1 tx cap tg ln av h0 n0 Zn E_a1 F_text_a1 F_length_a1 F_afterValue_a1 V_tx E_tx g_a1 g_tx ne_a1_tx hcp hln) e0 0 (by decide) (by decide) (by decide) (by decide) (g := (mkF m 1 #[.val (.ref a1), .val (.long q2), .second] [(.ref a1)])) rfl (by rw [hml]; rfl) (lenOf pd_12 rfl) rfl (by show 2 * 0 + _ ≤ _; exact Nat.le_of_eq rfl) (hb hby d5_1)
  obtain ⟨h1, e1⟩ : ∃ z, T1.heap = z := ⟨_, rfl⟩
  rw [e1] at hQ1
  obtain ⟨tx1, cc1, tg1, rfl, Nq1, Kq1, oq1, gq1, ⟨Ft1, Fl1, Fa1, Vt1, Xt1⟩, cpq1, bq1⟩ := hQ1
  have N1 := Fr.app N0 Nq1
  have ne_a1_tx1 : a1 ≠ tx1 := oq1.elim (fun q => by rw [q]; exact ne_a1_tx) (fun q => Nat.ne_of_lt (Nat.lt_of_lt_of_le E_a1.lt q))
  have kp_tx1 : tx1 ∈ [a1, tx] ∨ h0.size ≤ tx1 := oq1.elim (fun q => by rw [q]; exact (Or.inl (List.mem_of_getElem? (i := 1) rfl))) (fun q => Or.inr (Nat.le_trans K.1 q))
  have hor_tx1 : tx1 = tx ∨ h0.size ≤ tx1 := oq1.elim (fun q => by rw [q]; exact (Or.inl rfl)) (fun q => Or.inr (Nat.le_trans K.1 q))
  replace E_a1 := E_a1.keep Kq1
  clear F_text_a1
  clear F_length_a1
  clear F_afterValue_a1
  clear V_tx
  replace O := O.keep Kq1 (allS g_a1 (allS g_tx all0))
  replace K := K.trans Kq1 (allS (Or.inl (List.mem_of_getElem? (i := 0) rfl)) (allS (Or.inl (List.mem_of_getElem? (i := 1) rfl)) all0))
  replace Zn := Nat.le_trans Zn Kq1.1
  refine Go.st st1 ?_
  show Go p.tables e below PP (T1.setTop (mkF m 4 #[.val (.ref a1), .val (.long q2), .second] []))
  refine Go.st (fun t k => XS.aloadN X1.here hx rfl (hb hby d5_4) rfl rfl k) ?_
  show Go p.tables e below PP (T1.setTop (mkF m 5 #[.val (.ref a1), .val (.long q2), .second] [(.ref a1)]))
  refine Go.st (fun t k => XS.lloadN X1.here hx rfl (hb hby d5_5) rfl k) ?_
  show Go p.tables e below PP (T1.setTop (mkF m 6 #[.val (.ref a1), .val (.long q2), .second] [(.long q2), (.ref a1)]))
  obtain ⟨v2, T2, L2, X2, hQ2, st2⟩ := callSt X1 hx hZ (y := (⟨"java/lang/Long", "toString", "(J)Ljava/lang/String;"⟩ : MethodName)) (argsL := [(.long q2)]) (rest := [(.ref a1)]) hown (hw _ (List.mem_of_getElem? (i := 31) rfl)) (hw _ (List.mem_of_getElem? (i := 32) rfl)) (hw _ (List.mem_of_getElem? (i := 33) rfl)) (hw _ (List.mem_of_getElem? (i := 34) rfl)) (by decide) (rm7 l Z a0 hw [] q2 zc ad h1 n0 Zn hq SC hzc O SD AD) e1 1 (by decide) (by decide) (by decide) (by decide) (g := (mkF m 6 #[.val (.ref a1), .val (.long q2), .second] [(.long q2), (.ref a1)])) rfl (by rw [hml]; rfl) (lenOf pd_15 rfl) rfl (by show 2 * 0 + _ ≤ _; exact Nat.le_of_eq rfl) (hb hby d5_6)
  obtain ⟨h2, e2⟩ : ∃ z, T2.heap = z := ⟨_, rfl⟩
  rw [e2] at hQ2
  obtain ⟨r_2, t_2, rfl, Nq2, Kq2, sq2_r, sq2_t, Fq2_0, Fq2_1, Fq2_2, Fq2_3, Fq2_4⟩ := hQ2
  have N2 := Fr.app N1 Nq2
  have ne_a1_r_2 : a1 ≠ r_2 := Nat.ne_of_lt (Nat.lt_of_lt_of_le E_a1.lt sq2_r)
  have ne_tx1_r_2 : tx1 ≠ r_2 := Nat.ne_of_lt (Nat.lt_of_lt_of_le Vt1.lt sq2_r)
  have g_r_2 : n0 ≤ r_2 := Nat.le_trans Zn sq2_r
  have sz_r_2 : h0.size ≤ r_2 := Nat.le_trans K.1 sq2_r
  have ne_a1_t_2 : a1 ≠ t_2 := Nat.ne_of_lt (Nat.lt_of_lt_of_le E_a1.lt sq2_t)
  have ne_tx1_t_2 : tx1 ≠ t_2 := Nat.ne_of_lt (Nat.lt_of_lt_of_le Vt1.lt sq2_t)
  have g_t_2 : n0 ≤ t_2 := Nat.le_trans Zn sq2_t
  have sz_t_2 : h0.size ≤ t_2 := Nat.le_trans K.1 sq2_t
  replace E_a1 := E_a1.keep Kq2
  replace Ft1 := Ft1.keep Kq2 nin0
  replace Fl1 := Fl1.keep Kq2 nin0
  replace Fa1 := Fa1.keep Kq2 nin0
  replace Vt1 := Vt1.keep Kq2 nin0
  replace Xt1 := Xt1.keep Kq2
  replace O := O.keep Kq2 all0
  replace K := K.trans Kq2 all0
  replace Zn := Nat.le_trans Zn Kq2.1
  have E_r_2 := Fq2_0
  have F_coder_r_2 := Fq2_1
  have F_value_r_2 := Fq2_2
  have V_t_2 := Fq2_3
  have X_t_2 := Fq2_4
  refine Go.st st2 ?_
  show Go p.tables e below PP (T2.setTop (mkF m 9 #[.val (.ref a1), .val (.long q2), .second] [(.ref r_2), (.ref a1)]))
  obtain ⟨v3, T3, L3, X3, hQ3, st3⟩ := callPr X2 hx hZ (y := (⟨"com/example/facet_hierarchy_store/facethierarchystore/http/JsonWriter", "raw", "(Ljava/lang/String;)V"⟩ : MethodName)) (a := a1) (argsL := [(.ref r_2)]) (rest := []) hown (hw _ (List.mem_of_getElem? (i := 58) rfl)) (hw _ (List.mem_of_getElem? (i := 59) rfl)) (selPriv (y := (⟨"com/example/facet_hierarchy_store/facethierarchystore/http/JsonWriter", "raw", "(Ljava/lang/String;)V"⟩ : MethodName)) (hw _ (List.mem_of_getElem? (i := 1) rfl)) (hw _ (List.mem_of_getElem? (i := 60) rfl)) (hw _ (List.mem_of_getElem? (i := 59) rfl)) (by decide)) (hw _ (List.mem_of_getElem? (i := 60) rfl)) (hw _ (List.mem_of_getElem? (i := 2) rfl)) (hw _ (List.mem_of_getElem? (i := 61) rfl)) (by decide) E_a1 (rm11 l Z a0 hw [] a1 r_2 tx1 cc1 tg1 (sepL ln av) av t_2 (dgB q2) zc u8 h2 n0 Zn E_a1 Ft1 Fl1 Fa1 Vt1 Xt1 g_a1 gq1 ne_a1_tx1 cpq1 (own_sep7 hcp.1 hln) F_value_r_2 F_coder_r_2 V_t_2 E_r_2 X_t_2 (own_dgn hq) SC hzc O SU SI) e2 0 (by decide) (by decide) (by decide) (by decide) (g := (mkF m 9 #[.val (.ref a1), .val (.long q2), .second] [(.ref r_2), (.ref a1)])) rfl (by rw [hml]; rfl) (lenOf pd_16 rfl) rfl (by show 2 * 0 + _ ≤ _; exact Nat.le_of_eq rfl) (hb hby d5_9)
  obtain ⟨h3, e3⟩ : ∃ z, T3.heap = z := ⟨_, rfl⟩
  rw [e3] at hQ3
  obtain ⟨tx3, cc3, tg3, rfl, Nq3, Kq3, oq3, gq3, ⟨Ft3, Fl3, Fa3, Vt3, Xt3⟩, cpq3, bq3⟩ := hQ3
  have N3 := Fr.app N2 Nq3
  have ne_a1_tx3 : a1 ≠ tx3 := oq3.elim (fun q => by rw [q]; exact ne_a1_tx1) (fun q => Nat.ne_of_lt (Nat.lt_of_lt_of_le E_a1.lt q))
  have ne_r_2_tx3 : r_2 ≠ tx3 := oq3.elim (fun q => by rw [q]; exact (Ne.symm ne_tx1_r_2)) (fun q => Nat.ne_of_lt (Nat.lt_of_lt_of_le E_r_2.lt q))
  have ne_t_2_tx3 : t_2 ≠ tx3 := oq3.elim (fun q => by rw [q]; exact (Ne.symm ne_tx1_t_2)) (fun q => Nat.ne_of_lt (Nat.lt_of_lt_of_le V_t_2.lt q))
  have kp_tx3 : tx3 ∈ [a1, tx] ∨ h0.size ≤ tx3 := oq3.elim (fun q => by rw [q]; exact kp_tx1) (fun q => Or.inr (Nat.le_trans K.1 q))
  have hor_tx3 : tx3 = tx ∨ h0.size ≤ tx3 := oq3.elim (fun q => by rw [q]; exact hor_tx1) (fun q => Or.inr (Nat.le_trans K.1 q))
  replace E_a1 := E_a1.keep Kq3
  clear Ft1
  clear Fl1
  clear Fa1
  clear Vt1
  replace E_r_2 := E_r_2.keep Kq3
  replace F_coder_r_2 := F_coder_r_2.keep Kq3 (ninS (Ne.symm ne_a1_r_2) (ninS (Ne.symm ne_tx1_r_2) nin0))
  replace F_value_r_2 := F_value_r_2.keep Kq3 (ninS (Ne.symm ne_a1_r_2) (ninS (Ne.symm ne_tx1_r_2) nin0))
  replace V_t_2 := V_t_2.keep Kq3 (ninS (Ne.symm ne_a1_t_2) (ninS (Ne.symm ne_tx1_t_2) nin0))
  replace X_t_2 := X_t_2.keep Kq3
  replace O := O.keep Kq3 (allS g_a1 (allS gq1 all0))
  replace K := K.trans Kq3 (allS (Or.inl (List.mem_of_getElem? (i := 0) rfl)) (allS kp_tx1 all0))
  replace Zn := Nat.le_trans Zn Kq3.1
  refine Go.st st3 ?_
  show Go p.tables e below PP (T3.setTop (mkF m 12 #[.val (.ref a1), .val (.long q2), .second] []))
  refine Go.st (fun t k => XS.aloadN X3.here hx rfl (hb hby d5_12) rfl rfl k) ?_
  show Go p.tables e below PP (T3.setTop (mkF m 13 #[.val (.ref a1), .val (.long q2), .second] [(.ref a1)]))
  refine Go.st (fun t k => XS.iconst X3.here hx rfl (hb hby d5_13) k) ?_
  show Go p.tables e below PP (T3.setTop (mkF m 14 #[.val (.ref a1), .val (.long q2), .second] [(.int (1 : Int32)), (.ref a1)]))
  obtain ⟨T4, h4, X4, e4, W4, st4⟩ := putFN X3 hx hZ hown (hw _ (List.mem_of_getElem? (i := 29) rfl)) Via.refl e3 Fa3 E_a1 (Or.inl (hw _ (List.mem_of_getElem? (i := 30) rfl))) (hw _ (List.mem_of_getElem? (i := 1) rfl)) (ty := .boolean) (v' := (.int (1 : Int32))) (by decide) rfl (by decide) (g := (mkF m 14 #[.val (.ref a1), .val (.long q2), .second] [(.int (1 : Int32)), (.ref a1)])) rfl rfl (hb hby d5_14)
  refine Go.st st4 ?_
  have N4 := Fr.snoc X4 N3 g_a1
  replace E_a1 := E_a1.wr W4
  replace E_r_2 := E_r_2.wr W4
  replace F_coder_r_2 := F_coder_r_2.other W4 (Or.inl (Ne.symm ne_a1_r_2))
  replace F_value_r_2 := F_value_r_2.other W4 (Or.inl (Ne.symm ne_a1_r_2))
  replace V_t_2 := V_t_2.other W4 (Ne.symm ne_a1_t_2)
  replace X_t_2 := X_t_2.wr W4
  replace Ft3 := Ft3.other W4 (Or.inr (slot_ne (a0 := a0) (Or.inl (hw _ (List.mem_of_getElem? (i := 11) rfl))) (Or.inl (hw _ (List.mem_of_getElem? (i := 30) rfl))) (by decide) (t := (.array .byte)) (t' := .boolean) (by decide) (by decide)))
  replace Fl3 := Fl3.other W4 (Or.inr (slot_ne (a0 := a0) (Or.inl (hw _ (List.mem_of_getElem? (i := 104) rfl))) (Or.inl (hw _ (List.mem_of_getElem? (i := 30) rfl))) (by decide) (t := .int) (t' := .boolean) (by decide) (by decide)))
  replace Vt3 := Vt3.other W4 (Ne.symm ne_a1_tx3)
  replace Xt3 := Xt3.wr W4
  replace O := O.wr W4 g_a1
  replace K := K.wr W4 (Or.inl (List.mem_of_getElem? (i := 0) rfl))
  replace Zn : n0 ≤ h4.size := by rw [W4.size]; exact Zn
  replace Fa3 := Fa3.same W4
  show Go p.tables e below PP (T4.setTop (mkF m 17 #[.val (.ref a1), .val (.long q2), .second] []))
  refine Go.st (fun t k => XS.aloadN X4.here hx rfl (hb hby d5_17) rfl rfl k) ?_
  show Go p.tables e below PP (T4.setTop (mkF m 18 #[.val (.ref a1), .val (.long q2), .second] [(.ref a1)]))
  rw [hPP]
  refine endR X4 hx hlk hret rfl rfl (hb hby d5_18) ?_ (by decide) (by decide)
  show Q5 Z a1 q2 tx cap tg ln av zc ad u8 h0 n0 (some (.ref a1)) T4.heap _
  rw [e4]
  exact ⟨tx3, _, tg3, rfl, N4, K, hor_tx3, gq3, ⟨Ft3, Fl3, Fa3, Vt3, Xt3⟩, cpq3, (fun k hk => (bq3 k hk).trans (own_updc cpq1.1 (own_sep7 hcp.1 hln) bq1 k hk))⟩
theorem d22_0 : decode prog_16_method_14_code 0 = .ok (.aload_n 0, 1) := by decide +kernel
theorem d22_1 : decode prog_16_method_14_code 1 = .ok (.getfield 12, 3) := by decide +kernel
theorem d22_4 : decode prog_16_method_14_code 4 = .ok (.aload_n 0, 1) := by decide +kernel
theorem d22_5 : decode prog_16_method_14_code 5 = .ok (.getfield 50, 3) := by decide +kernel
theorem d22_8 : decode prog_16_method_14_code 8 = .ok (.invokestatic 146, 3) := by decide +kernel
theorem d22_11 : decode prog_16_method_14_code 11 = .ok (.areturn, 1) := by decide +kernel
theorem pn_rm22 : plainName "com/example/facet_hierarchy_store/facethierarchystore/http/JsonWriter" = true := by first | (simp [plainName, overriddenIn]; done) | decide +kernel
theorem ef_rm22 (m : MethodId) (a1 : Addr) : entryFrame m #[(.ref a1)] 1 = mkF m 0 #[.val (.ref a1)] [] := by first | (simp [entryFrame, mkF, argsToLocals, Value.category]; done) | rfl
def Q22 (Z : State) (a1 : Addr) (tx : Addr) (cap : Int32) (tg : Nat → Int32) (ln : Int32) (av : Int32) (h0 : Heap) (n0 : Nat) (v : Option Value) (h : Heap) (L : List Loc) : Prop := ∃ t : Addr, v = some (.ref t) ∧ Fr n0 L ∧ Keep h0 h [] ∧ h0.size ≤ t ∧ Afn Z h t .byte ln (fun k => .int (tg k))
set_option maxRecDepth 65536 in
set_option maxHeartbeats 40000000 in
theorem rm22 (l : Launch) (Z : State) (a0 : Array Value) (hw : ∀ d ∈ tables_1, d.before a0 Z = true) (ws : List Jvm.Cond) (a1 : Addr) (tx : Addr) (cap : Int32) (tg : Nat → Int32) (ln : Int32) (av : Int32) (h0 : Heap) (n0 : Nat) (Z0 : n0 ≤ h0.size) (E_a1 : Exa Z h0 a1 "com/example/facet_hierarchy_store/facethierarchystore/http/JsonWriter") (F_text_a1 : Fld Z h0 a1 "com/example/facet_hierarchy_store/facethierarchystore/http/JsonWriter" "text" "[B" (.ref tx)) (F_length_a1 : Fld Z h0 a1 "com/example/facet_hierarchy_store/facethierarchystore/http/JsonWriter" "length" "I" (.int ln)) (F_afterValue_a1 : Fld Z h0 a1 "com/example/facet_hierarchy_store/facethierarchystore/http/JsonWriter" "afterValue" "Z" (.int av)) (V_tx : Afn Z h0 tx .byte cap (fun k => .int (tg k))) (E_tx : Exa Z h0 tx "[B") (hcp : Cap cap ln) :
    Con l Z (⟨"com/example/facet_hierarchy_store/facethierarchystore/http/JsonWriter", "bytes", "()[B"⟩ : MethodName) prog_16_method_14_code 1 (some (.array .byte)) ws ({ frames := 2, cells := 1, slots := 14, locals := 56 } : Room) #[(.ref a1)] h0 (Q22 Z a1 tx cap tg ln av h0 n0) := by
  refine Con.of (plainFor_of_name pn_rm22) ?_
  intro p e s m below meth c s₁ hZ e0 X0 hx hby hml hown hnm hret hlk
  replace hml : c.maxLocals = 1 := hml
  have hown : s.vm.findClass "com/example/facet_hierarchy_store/facethierarchystore/http/JsonWriter" = some m.cls := hown
  have N0 : Fr n0 [] := Fr.nil n0
  obtain ⟨PP, hPP⟩ : ∃ P, P = Fine s below (Q22 Z a1 tx cap tg ln av h0 n0) ({ frames := 2, cells := 1, slots := 14, locals := 56 } : Room).cells ({ frames := 2, cells := 1, slots := 14, locals := 56 } : Room).slots := ⟨_, rfl⟩
  rw [← hPP]
  refine Go.cast (ef_rm22 m a1) ?_
  have K : Keep h0 h0 [] := Keep.refl h0 _
  have Zn : n0 ≤ h0.size := Z0
  show Go p.tables e below PP (s₁.setTop (mkF m 0 #[.val (.ref a1)] []))
  refine Go.st (fun t k => XS.aloadN X0.here hx rfl (hb hby d22_0) rfl rfl k) ?_
  show Go p.tables e below PP (s₁.setTop (mkF m 1 #[.val (.ref a1)] [(.ref a1)]))
  obtain ⟨T1, X1, e1, st1⟩ := getF X0 hx hZ hown (host := "") (Or.inl (hw _ (List.mem_of_getElem? (i := 10) rfl))) Via.refl e0 F_text_a1 (g := (mkF m 1 #[.val (.ref a1)] [(.ref a1)])) rfl rfl (hb hby d22_1)
  refine Go.st st1 ?_
  show Go p.tables e below PP (T1.setTop (mkF m 4 #[.val (.ref a1)] [(.ref tx)]))
  refine Go.st (fun t k => XS.aloadN X1.here hx rfl (hb hby d22_4) rfl rfl k) ?_
  show Go p.tables e below PP (T1.setTop (mkF m 5 #[.val (.ref a1)] [(.ref a1), (.ref tx)]))
  obtain ⟨T2, X2, e2, st2⟩ := getF X1 hx hZ hown (host := "") (Or.inl (hw _ (List.mem_of_getElem? (i := 103) rfl))) Via.refl e1 F_length_a1 (g := (mkF m 5 #[.val (.ref a1)] [(.ref a1), (.ref tx)])) rfl rfl (hb hby d22_5)
  refine Go.st st2 ?_
  show Go p.tables e below PP (T2.setTop (mkF m 8 #[.val (.ref a1)] [(.int ln), (.ref tx)]))
  obtain ⟨v3, T3, L3, X3, hQ3, st3⟩ := callSt X2 hx hZ (y := (⟨"java/util/Arrays", "copyOf", "([BI)[B"⟩ : MethodName)) (argsL := [(.ref tx), (.int ln)]) (rest := []) hown (hw _ (List.mem_of_getElem? (i := 109) rfl)) (hw _ (List.mem_of_getElem? (i := 110) rfl)) (hw _ (List.mem_of_getElem? (i := 111) rfl)) (hw _ (List.mem_of_getElem? (i := 112) rfl)) (by decide) (rm20 l Z a0 hw [] tx ln cap tg h0 n0 Zn V_tx E_tx ⟨hcp.1, own_l14 hcp, own_c14 hcp⟩) e2 0 (by decide) (by decide) (by decide) (by decide) (g := (mkF m 8 #[.val (.ref a1)] [(.int ln), (.ref tx)])) rfl (by rw [hml]; rfl) (lenOf pd_9 rfl) rfl (by show 2 * 0 + _ ≤ _; exact Nat.le_of_eq rfl) (hb hby d22_8)
  obtain ⟨h3, e3⟩ : ∃ z, T3.heap = z := ⟨_, rfl⟩
  rw [e3] at hQ3
  obtain ⟨t_3, rfl, Nq3, Kq3, sq3_t, Fq3_0, Fq3_1⟩ := hQ3
  have N3 := Fr.app N0 Nq3
  have ne_a1_t_3 : a1 ≠ t_3 := Nat.ne_of_lt (Nat.lt_of_lt_of_le E_a1.lt sq3_t)
  have ne_tx_t_3 : tx ≠ t_3 := Nat.ne_of_lt (Nat.lt_of_lt_of_le V_tx.lt sq3_t)
  have g_t_3 : n0 ≤ t_3 := Nat.le_trans Zn sq3_t
  have sz_t_3 : h0.size ≤ t_3 := Nat.le_trans K.1 sq3_t
  replace E_a1 := E_a1.keep Kq3
  replace F_text_a1 := F_text_a1.keep Kq3 nin0
  replace F_length_a1 := F_length_a1.keep Kq3 nin0
  replace F_afterValue_a1 := F_afterValue_a1.keep Kq3 nin0
  replace V_tx := V_tx.keep Kq3 nin0
  replace E_tx := E_tx.keep Kq3
  replace K := K.trans Kq3 all0
  replace Zn := Nat.le_trans Zn Kq3.1
  have V_t_3 := Fq3_0
  have X_t_3 := Fq3_1
  refine Go.st st3 ?_
  show Go p.tables e below PP (T3.setTop (mkF m 11 #[.val (.ref a1)] [(.ref t_3)]))
  rw [hPP]
  refine endR X3 hx hlk hret rfl rfl (hb hby d22_11) ?_ (by decide) (by decide)
  show Q22 Z a1 tx cap tg ln av h0 n0 (some (.ref t_3)) T3.heap _
  rw [e3]
  exact ⟨t_3, rfl, N3, K, sz_t_3, V_t_3.congr (fun k hk => congrArg Value.int (if_pos (Nat.lt_of_lt_of_le hk (own_capN hcp))))⟩
theorem d1_0 : decode prog_16_method_2_code 0 = .ok (.aload_n 0, 1) := by decide +kernel
theorem d1_1 : decode prog_16_method_2_code 1 = .ok (.invokespecial 7, 3) := by decide +kernel
theorem d1_4 : decode prog_16_method_2_code 4 = .ok (.aload_n 0, 1) := by decide +kernel
theorem d1_5 : decode prog_16_method_2_code 5 = .ok (.iload_n 1, 1) := by decide +kernel
theorem d1_6 : decode prog_16_method_2_code 6 = .ok (.newarray .byte, 2) := by decide +kernel
theorem d1_8 : decode prog_16_method_2_code 8 = .ok (.putfield 12, 3) := by decide +kernel
theorem d1_11 : decode prog_16_method_2_code 11 = .ok (.return_, 1) := by decide +kernel
theorem pn_rm1 : plainName "com/example/facet_hierarchy_store/facethierarchystore/http/JsonWriter" = true := by first | (simp [plainName, overriddenIn]; done) | decide +kernel
theorem ef_rm1 (m : MethodId) (a1 : Addr) (p2 : Int32) : entryFrame m #[(.ref a1), (.int p2)] 2 = mkF m 0 #[.val (.ref a1), .val (.int p2)] [] := by first | (simp [entryFrame, mkF, argsToLocals, Value.category]; done) | rfl
def Q1 (Z : State) (a1 : Addr) (p2 : Int32) (h0 : Heap) (n0 : Nat) (v : Option Value) (h : Heap) (L : List Loc) : Prop := ∃ tx : Addr, v = none ∧ Fr n0 L ∧ Keep h0 h [a1] ∧ h0.size ≤ tx ∧ Fld Z h a1 "com/example/facet_hierarchy_store/facethierarchystore/http/JsonWriter" "text" "[B" (.ref tx) ∧ Fld Z h a1 "com/example/facet_hierarchy_store/facethierarchystore/http/JsonWriter" "length" "I" (.int (0 : Int32)) ∧ Fld Z h a1 "com/example/facet_hierarchy_store/facethierarchystore/http/JsonWriter" "afterValue" "Z" (.int (0 : Int32)) ∧ Afn Z h tx .byte p2 (fun k => .int ((0 : Int32))) ∧ Exa Z h tx "[B"
set_option maxRecDepth 65536 in
set_option maxHeartbeats 40000000 in
theorem rm1 (l : Launch) (Z : State) (a0 : Array Value) (hw : ∀ d ∈ tables_1, d.before a0 Z = true) (ws : List Jvm.Cond) (a1 : Addr) (p2 : Int32) (h0 : Heap) (n0 : Nat) (Z0 : n0 ≤ h0.size) (E_a1 : Exa Z h0 a1 "com/example/facet_hierarchy_store/facethierarchystore/http/JsonWriter") (F_text_a1 : Fld Z h0 a1 "com/example/facet_hierarchy_store/facethierarchystore/http/JsonWriter" "text" "[B" .null) (F_length_a1 : Fld Z h0 a1 "com/example/facet_hierarchy_store/facethierarchystore/http/JsonWriter" "length" "I" (.int (0 : Int32))) (F_afterValue_a1 : Fld Z h0 a1 "com/example/facet_hierarchy_store/facethierarchystore/http/JsonWriter" "afterValue" "Z" (.int (0 : Int32))) (g_a1 : n0 ≤ a1) (hp7 : ¬ p2 < (0 : Int32) ∧ p2.toNatClampNeg ≤ 7) :
    Con l Z (⟨"com/example/facet_hierarchy_store/facethierarchystore/http/JsonWriter", "<init>", "(I)V"⟩ : MethodName) prog_16_method_2_code 2 none ws ({ frames := 1, cells := 1, slots := 7, locals := 12 } : Room) #[(.ref a1), (.int p2)] h0 (Q1 Z a1 p2 h0 n0) := by
  refine Con.of (plainFor_of_name pn_rm1) ?_
  intro p e s m below meth c s₁ hZ e0 X0 hx hby hml hown hnm hret hlk
  replace hml : c.maxLocals = 2 := hml
  have hown : s.vm.findClass "com/example/facet_hierarchy_store/facethierarchystore/http/JsonWriter" = some m.cls := hown
  have N0 : Fr n0 [] := Fr.nil n0
  obtain ⟨PP, hPP⟩ : ∃ P, P = Fine s below (Q1 Z a1 p2 h0 n0) ({ frames := 1, cells := 1, slots := 7, locals := 12 } : Room).cells ({ frames := 1, cells := 1, slots := 7, locals := 12 } : Room).slots := ⟨_, rfl⟩
  rw [← hPP]
  refine Go.cast (ef_rm1 m a1 p2) ?_
  have K : Keep h0 h0 [a1] := Keep.refl h0 _
  have Zn : n0 ≤ h0.size := Z0
  show Go p.tables e below PP (s₁.setTop (mkF m 0 #[.val (.ref a1), .val (.int p2)] []))
  refine Go.st (fun t k => XS.aloadN X0.here hx rfl (hb hby d1_0) rfl rfl k) ?_
  show Go p.tables e below PP (s₁.setTop (mkF m 1 #[.val (.ref a1), .val (.int p2)] [(.ref a1)]))
  obtain ⟨T1, X1, e1, st1⟩ := initO X0 hx hZ hown (hw _ (List.mem_of_getElem? (i := 6) rfl)) (hw _ (List.mem_of_getElem? (i := 7) rfl)) (hw _ (List.mem_of_getElem? (i := 8) rfl)) e0 (g := (mkF m 1 #[.val (.ref a1), .val (.int p2)] [(.ref a1)])) rfl (by rw [hml]; rfl) rfl (hb hby d1_1) (by decide) (W := 0) (by show 2 * 0 + _ ≤ _; exact Nat.le_of_eq rfl) (by decide)
  refine Go.st st1 ?_
  show Go p.tables e below PP (T1.setTop (mkF m 4 #[.val (.ref a1), .val (.int p2)] []))
  refine Go.st (fun t k => XS.aloadN X1.here hx rfl (hb hby d1_4) rfl rfl k) ?_
  show Go p.tables e below PP (T1.setTop (mkF m 5 #[.val (.ref a1), .val (.int p2)] [(.ref a1)]))
  refine Go.st (fun t k => XS.iloadN X1.here hx rfl (hb hby d1_5) rfl k) ?_
  show Go p.tables e below PP (T1.setTop (mkF m 6 #[.val (.ref a1), .val (.int p2)] [(.int p2), (.ref a1)]))
  obtain ⟨T2, h2, k2, X2, e2, E2, A2, Ex2, st2⟩ := newPE X1 hx hZ (hw _ (List.mem_of_getElem? (i := 9) rfl)) e1 (g := (mkF m 6 #[.val (.ref a1), .val (.int p2)] [(.int p2), (.ref a1)])) rfl (hb hby d1_6) rfl hp7.1 (cap := 7) hp7.2 (by decide) (by decide) (by decide) (ad := "[B") (by decide)
  obtain ⟨b2, gz2⟩ : ∃ z, z = h0.size := ⟨_, rfl⟩
  rw [← gz2] at A2 Ex2 st2
  have ne_a1_b2 : a1 ≠ b2 := Nat.ne_of_lt (Nat.lt_of_lt_of_le E_a1.lt (Nat.le_of_eq gz2.symm))
  have g_b2 : n0 ≤ b2 := Nat.le_trans Zn (Nat.le_of_eq gz2.symm)
  have sz_b2 : h0.size ≤ b2 := Nat.le_trans K.1 (Nat.le_of_eq gz2.symm)
  refine Go.st st2 ?_
  replace E_a1 := E_a1.ext E2
  replace F_text_a1 := F_text_a1.ext E2
  replace F_length_a1 := F_length_a1.ext E2
  replace F_afterValue_a1 := F_afterValue_a1.ext E2
  replace K := K.ext E2
  replace Zn := Nat.le_trans Zn E2.1
  have V_b2 : Afn Z h2 b2 .byte p2 (fun _ => (.int (0 : Int32))) := Afn.new A2 hp7.1
  show Go p.tables e below PP (T2.setTop (mkF m 8 #[.val (.ref a1), .val (.int p2)] [(.ref b2), (.ref a1)]))
  obtain ⟨T3, h3, X3, e3, W3, st3⟩ := putF X2 hx hZ hown (host := "") (Or.inl (hw _ (List.mem_of_getElem? (i := 10) rfl))) Via.refl e2 F_text_a1 E_a1 (Or.inl (hw _ (List.mem_of_getElem? (i := 11) rfl))) (hw _ (List.mem_of_getElem? (i := 1) rfl)) (ty := (.array .byte)) (by decide) rfl rfl (g := (mkF m 8 #[.val (.ref a1), .val (.int p2)] [(.ref b2), (.ref a1)])) rfl rfl (hb hby d1_8)
  refine Go.st st3 ?_
  have N3 := Fr.snoc X3 N0 g_a1
  replace E_a1 := E_a1.wr W3
  replace F_length_a1 := F_length_a1.other W3 (Or.inr (slot_ne (a0 := a0) (Or.inl (hw _ (List.mem_of_getElem? (i := 104) rfl))) (Or.inl (hw _ (List.mem_of_getElem? (i := 11) rfl))) (by decide) (t := .int) (t' := (.array .byte)) (by decide) (by decide)))
  replace F_afterValue_a1 := F_afterValue_a1.other W3 (Or.inr (slot_ne (a0 := a0) (Or.inl (hw _ (List.mem_of_getElem? (i := 30) rfl))) (Or.inl (hw _ (List.mem_of_getElem? (i := 11) rfl))) (by decide) (t := .boolean) (t' := (.array .byte)) (by decide) (by decide)))
  replace Ex2 := Ex2.wr W3
  replace V_b2 := V_b2.other W3 (Ne.symm ne_a1_b2)
  replace K := K.wr W3 (Or.inl (List.mem_of_getElem? (i := 0) rfl))
  replace Zn : n0 ≤ h3.size := by rw [W3.size]; exact Zn
  replace F_text_a1 := F_text_a1.same W3
  show Go p.tables e below PP (T3.setTop (mkF m 11 #[.val (.ref a1), .val (.int p2)] []))
  rw [hPP]
  refine endV X3 hx hlk hret (hb hby d1_11) ?_ (by decide) (by decide)
  show Q1 Z a1 p2 h0 n0 none T3.heap _
  rw [e3]
  exact ⟨b2, rfl, N3, K, sz_b2, F_text_a1, F_length_a1, F_afterValue_a1, V_b2, Ex2⟩
theorem d3_0 : decode method_3_code 0 = .ok (.iload_n 0, 1) := by decide +kernel
theorem d3_1 : decode method_3_code 1 = .ok (.iconst 4, 1) := by decide +kernel
theorem d3_2 : decode method_3_code 2 = .ok (.iload_n 1, 1) := by decide +kernel
theorem d3_3 : decode method_3_code 3 = .ok (.imul, 1) := by decide +kernel
theorem d3_4 : decode method_3_code 4 = .ok (.iushr, 1) := by decide +kernel
theorem d3_5 : decode method_3_code 5 = .ok (.bipush 15, 2) := by decide +kernel
theorem d3_7 : decode method_3_code 7 = .ok (.iand, 1) := by decide +kernel
theorem d3_8 : decode method_3_code 8 = .ok (.bipush 10, 2) := by decide +kernel
theorem d3_10 : decode method_3_code 10 = .ok (.irem, 1) := by decide +kernel
theorem d3_11 : decode method_3_code 11 = .ok (.ireturn, 1) := by decide +kernel
theorem pn_rm3 : plainName "com/example/facet_hierarchy_store/facethierarchystore/http/JsonWriterBytesPinLaw" = true := by first | (simp [plainName, overriddenIn]; done) | decide +kernel
theorem ef_rm3 (m : MethodId) (p1 : Int32) (p2 : Int32) : entryFrame m #[(.int p1), (.int p2)] 2 = mkF m 0 #[.val (.int p1), .val (.int p2)] [] := by first | (simp [entryFrame, mkF, argsToLocals, Value.category]; done) | rfl
def Q3 (Z : State) (p1 : Int32) (p2 : Int32) (h0 : Heap) (n0 : Nat) (v : Option Value) (h : Heap) (L : List Loc) : Prop := v = some (.int (digF p1 p2)) ∧ L = [] ∧ h = h0
set_option maxRecDepth 65536 in
set_option maxHeartbeats 40000000 in
theorem rm3 (l : Launch) (Z : State) (a0 : Array Value) (hw : ∀ d ∈ tables_1, d.before a0 Z = true) (ws : List Jvm.Cond) (p1 : Int32) (p2 : Int32) (h0 : Heap) (n0 : Nat) (Z0 : n0 ≤ h0.size) :
    Con l Z (⟨"com/example/facet_hierarchy_store/facethierarchystore/http/JsonWriterBytesPinLaw", "digit", "(II)I"⟩ : MethodName) method_3_code 2 (some .int) ws ({ frames := 0, cells := 0, slots := 0, locals := 0 } : Room) #[(.int p1), (.int p2)] h0 (Q3 Z p1 p2 h0 n0) := by
  refine Con.of (plainFor_of_name pn_rm3) ?_
  intro p e s m below meth c s₁ hZ e0 X0 hx hby hml hown hnm hret hlk
  replace hml : c.maxLocals = 2 := hml
  have hown : s.vm.findClass "com/example/facet_hierarchy_store/facethierarchystore/http/JsonWriterBytesPinLaw" = some m.cls := hown
  have N0 : Fr n0 [] := Fr.nil n0
  obtain ⟨PP, hPP⟩ : ∃ P, P = Fine s below (Q3 Z p1 p2 h0 n0) ({ frames := 0, cells := 0, slots := 0, locals := 0 } : Room).cells ({ frames := 0, cells := 0, slots := 0, locals := 0 } : Room).slots := ⟨_, rfl⟩
  rw [← hPP]
  refine Go.cast (ef_rm3 m p1 p2) ?_
  have Zn : n0 ≤ h0.size := Z0
  show Go p.tables e below PP (s₁.setTop (mkF m 0 #[.val (.int p1), .val (.int p2)] []))
  refine Go.st (fun t k => XS.iloadN X0.here hx rfl (hb hby d3_0) rfl k) ?_
  show Go p.tables e below PP (s₁.setTop (mkF m 1 #[.val (.int p1), .val (.int p2)] [(.int p1)]))
  refine Go.st (fun t k => XS.iconst X0.here hx rfl (hb hby d3_1) k) ?_
  show Go p.tables e below PP (s₁.setTop (mkF m 2 #[.val (.int p1), .val (.int p2)] [(.int (4 : Int32)), (.int p1)]))
  refine Go.st (fun t k => XS.iloadN X0.here hx rfl (hb hby d3_2) rfl k) ?_
  show Go p.tables e below PP (s₁.setTop (mkF m 3 #[.val (.int p1), .val (.int p2)] [(.int p2), (.int (4 : Int32)), (.int p1)]))
  refine Go.st (fun t k => XS.imul X0.here hx rfl (hb hby d3_3) rfl k) ?_
  show Go p.tables e below PP (s₁.setTop (mkF m 4 #[.val (.int p1), .val (.int p2)] [(.int ((4 : Int32) * p2)), (.int p1)]))
  refine Go.st (fun t k => XS.iushr X0.here hx rfl (hb hby d3_4) rfl k) ?_
  show Go p.tables e below PP (s₁.setTop (mkF m 5 #[.val (.int p1), .val (.int p2)] [(.int ((p1.toUInt32 >>> (((4 : Int32) * p2) &&& 31).toUInt32).toInt32))]))
  refine Go.st (fun t k => XS.bipush X0.here hx rfl (hb hby d3_5) k) ?_
  show Go p.tables e below PP (s₁.setTop (mkF m 7 #[.val (.int p1), .val (.int p2)] [(.int (15 : Int32)), (.int ((p1.toUInt32 >>> (((4 : Int32) * p2) &&& 31).toUInt32).toInt32))]))
  refine Go.st (fun t k => XS.iand X0.here hx rfl (hb hby d3_7) rfl k) ?_
  show Go p.tables e below PP (s₁.setTop (mkF m 8 #[.val (.int p1), .val (.int p2)] [(.int (((p1.toUInt32 >>> (((4 : Int32) * p2) &&& 31).toUInt32).toInt32) &&& (15 : Int32)))]))
  refine Go.st (fun t k => XS.bipush X0.here hx rfl (hb hby d3_8) k) ?_
  show Go p.tables e below PP (s₁.setTop (mkF m 10 #[.val (.int p1), .val (.int p2)] [(.int (10 : Int32)), (.int (((p1.toUInt32 >>> (((4 : Int32) * p2) &&& 31).toUInt32).toInt32) &&& (15 : Int32)))]))
  refine Go.st (fun t k => iremM X0 hx rfl (hb hby d3_10) rfl (by decide) k) ?_
  show Go p.tables e below PP (s₁.setTop (mkF m 11 #[.val (.int p1), .val (.int p2)] [(.int ((((p1.toUInt32 >>> (((4 : Int32) * p2) &&& 31).toUInt32).toInt32) &&& (15 : Int32)) % (10 : Int32)))]))
  rw [hPP]
  refine endI X0 hx hlk hret (hb hby d3_11) ?_ (by decide) (by decide)
  show Q3 Z p1 p2 h0 n0 (some (.int ((((p1.toUInt32 >>> (((4 : Int32) * p2) &&& 31).toUInt32).toInt32) &&& (15 : Int32)) % (10 : Int32)))) s₁.heap _
  rw [e0]
  exact ⟨rfl, rfl, rfl⟩
theorem d24_0 : decode method_5_code 0 = .ok (.iload_n 3, 1) := by decide +kernel
theorem d24_1 : decode method_5_code 1 = .ok (.iload_n 2, 1) := by decide +kernel
theorem d24_2 : decode method_5_code 2 = .ok (.if_icmp .ge 12, 3) := by decide +kernel
theorem d24_5 : decode method_5_code 5 = .ok (.aload_n 0, 1) := by decide +kernel
theorem d24_6 : decode method_5_code 6 = .ok (.iload_n 3, 1) := by decide +kernel
theorem d24_7 : decode method_5_code 7 = .ok (.baload, 1) := by decide +kernel
theorem d24_8 : decode method_5_code 8 = .ok (.aload_n 1, 1) := by decide +kernel
theorem d24_9 : decode method_5_code 9 = .ok (.iload_n 3, 1) := by decide +kernel
theorem d24_10 : decode method_5_code 10 = .ok (.baload, 1) := by decide +kernel
theorem d24_11 : decode method_5_code 11 = .ok (.if_icmp .ne 7, 3) := by decide +kernel
theorem d24_14 : decode method_5_code 14 = .ok (.iconst 1, 1) := by decide +kernel
theorem d24_15 : decode method_5_code 15 = .ok (.goto 4, 3) := by decide +kernel
theorem d24_18 : decode method_5_code 18 = .ok (.iconst 0, 1) := by decide +kernel
theorem d24_19 : decode method_5_code 19 = .ok (.ireturn, 1) := by decide +kernel
theorem pn_rm24 : plainName "com/example/facet_hierarchy_store/facethierarchystore/http/JsonWriterBytesPinLaw" = true := by first | (simp [plainName, overriddenIn]; done) | decide +kernel
theorem ef_rm24 (m : MethodId) (a1 : Addr) (a2 : Addr) (p3 : Int32) (p4 : Int32) : entryFrame m #[(.ref a1), (.ref a2), (.int p3), (.int p4)] 4 = mkF m 0 #[.val (.ref a1), .val (.ref a2), .val (.int p3), .val (.int p4)] [] := by first | (simp [entryFrame, mkF, argsToLocals, Value.category]; done) | rfl
def Q24 (Z : State) (a1 : Addr) (a2 : Addr) (p3 : Int32) (p4 : Int32) (f1 : Nat → Int32) (f2 : Nat → Int32) (h0 : Heap) (n0 : Nat) (v : Option Value) (h : Heap) (L : List Loc) : Prop := v = some (.int (1 : Int32)) ∧ L = [] ∧ h = h0
set_option maxRecDepth 65536 in
set_option maxHeartbeats 40000000 in
theorem rm24 (l : Launch) (Z : State) (a0 : Array Value) (hw : ∀ d ∈ tables_1, d.before a0 Z = true) (ws : List Jvm.Cond) (a1 : Addr) (a2 : Addr) (p3 : Int32) (p4 : Int32) (f1 : Nat → Int32) (f2 : Nat → Int32) (h0 : Heap) (n0 : Nat) (Z0 : n0 ≤ h0.size) (V_a1 : Afn Z h0 a1 .byte p3 (fun k => .int (f1 k))) (V_a2 : Afn Z h0 a2 .byte (8 : Int32) (fun k => .int (f2 k))) (hs : ∀ k, k < p3.toNatClampNeg → f1 k = f2 k) (hi : ¬ p4 < (0 : Int32) ∧ p4 < (8 : Int32)) :
    Con l Z (⟨"com/example/facet_hierarchy_store/facethierarchystore/http/JsonWriterBytesPinLaw", "cmp", "([B[BII)Z"⟩ : MethodName) method_5_code 4 (some .boolean) ws ({ frames := 0, cells := 0, slots := 0, locals := 0 } : Room) #[(.ref a1), (.ref a2), (.int p3), (.int p4)] h0 (Q24 Z a1 a2 p3 p4 f1 f2 h0 n0) := by
  refine Con.of (plainFor_of_name pn_rm24) ?_
  intro p e s m below meth c s₁ hZ e0 X0 hx hby hml hown hnm hret hlk
  replace hml : c.maxLocals = 4 := hml
  have hown : s.vm.findClass "com/example/facet_hierarchy_store/facethierarchystore/http/JsonWriterBytesPinLaw" = some m.cls := hown
  have N0 : Fr n0 [] := Fr.nil n0
  obtain ⟨PP, hPP⟩ : ∃ P, P = Fine s below (Q24 Z a1 a2 p3 p4 f1 f2 h0 n0) ({ frames := 0, cells := 0, slots := 0, locals := 0 } : Room).cells ({ frames := 0, cells := 0, slots := 0, locals := 0 } : Room).slots := ⟨_, rfl⟩
  rw [← hPP]
  refine Go.cast (ef_rm24 m a1 a2 p3 p4) ?_
  have Zn : n0 ≤ h0.size := Z0
  show Go p.tables e below PP (s₁.setTop (mkF m 0 #[.val (.ref a1), .val (.ref a2), .val (.int p3), .val (.int p4)] []))
  refine Go.st (fun t k => XS.iloadN X0.here hx rfl (hb hby d24_0) rfl k) ?_
  show Go p.tables e below PP (s₁.setTop (mkF m 1 #[.val (.ref a1), .val (.ref a2), .val (.int p3), .val (.int p4)] [(.int p4)]))
  refine Go.st (fun t k => XS.iloadN X0.here hx rfl (hb hby d24_1) rfl k) ?_
  show Go p.tables e below PP (s₁.setTop (mkF m 2 #[.val (.ref a1), .val (.ref a2), .val (.int p3), .val (.int p4)] [(.int p3), (.int p4)]))
  by_cases hc2 : p4 < p3
  · --
    refine Go.st (fun t k => XS.icmpNo X0.here hx rfl (hb hby d24_2) rfl (XT.ii_ge_f hc2) k) ?_
    show Go p.tables e below PP (s₁.setTop (mkF m 5 #[.val (.ref a1), .val (.ref a2), .val (.int p3), .val (.int p4)] []))
    refine Go.st (fun t k => XS.aloadN X0.here hx rfl (hb hby d24_5) rfl rfl k) ?_
    show Go p.tables e below PP (s₁.setTop (mkF m 6 #[.val (.ref a1), .val (.ref a2), .val (.int p3), .val (.int p4)] [(.ref a1)]))
    refine Go.st (fun t k => XS.iloadN X0.here hx rfl (hb hby d24_6) rfl k) ?_
    show Go p.tables e below PP (s₁.setTop (mkF m 7 #[.val (.ref a1), .val (.ref a2), .val (.int p3), .val (.int p4)] [(.int p4), (.ref a1)]))
    obtain ⟨cl1, Ar1, S1, Nn1, H1⟩ := id V_a1
    have hin1 : ¬ (p4 < 0 ∨ cl1.slots.size ≤ (p4).toNatClampNeg) := inb_of S1 ⟨hi.1, hc2⟩
    refine Go.st (fun t k => X0.baloadBytes hx (j := p4) (v := (.int (f1 p4.toNatClampNeg))) (by rw [e0]; exact Ar1.1) (State.isArrayOf_alike hZ.alike Ar1.2.1) Ar1.2.2 hin1 ((H1 _ (inbN ⟨hi.1, hc2⟩)).1.trans (congrArg some (rfl))) (g := (mkF m 7 #[.val (.ref a1), .val (.ref a2), .val (.int p3), .val (.int p4)] [(.int p4), (.ref a1)])) rfl rfl (hb hby d24_7) _ k) ?_
    show Go p.tables e below PP (s₁.setTop (mkF m 8 #[.val (.ref a1), .val (.ref a2), .val (.int p3), .val (.int p4)] [(.int (f1 p4.toNatClampNeg))]))
    refine Go.st (fun t k => XS.aloadN X0.here hx rfl (hb hby d24_8) rfl rfl k) ?_
    show Go p.tables e below PP (s₁.setTop (mkF m 9 #[.val (.ref a1), .val (.ref a2), .val (.int p3), .val (.int p4)] [(.ref a2), (.int (f1 p4.toNatClampNeg))]))
    refine Go.st (fun t k => XS.iloadN X0.here hx rfl (hb hby d24_9) rfl k) ?_
    show Go p.tables e below PP (s₁.setTop (mkF m 10 #[.val (.ref a1), .val (.ref a2), .val (.int p3), .val (.int p4)] [(.int p4), (.ref a2), (.int (f1 p4.toNatClampNeg))]))
    obtain ⟨cl2, Ar2, S2, Nn2, H2⟩ := id V_a2
    have hin2 : ¬ (p4 < 0 ∨ cl2.slots.size ≤ (p4).toNatClampNeg) := inb_of S2 hi
    refine Go.st (fun t k => X0.baloadBytes hx (j := p4) (v := (.int (f2 p4.toNatClampNeg))) (by rw [e0]; exact Ar2.1) (State.isArrayOf_alike hZ.alike Ar2.2.1) Ar2.2.2 hin2 ((H2 _ (inbN hi)).1.trans (congrArg some (rfl))) (g := (mkF m 10 #[.val (.ref a1), .val (.ref a2), .val (.int p3), .val (.int p4)] [(.int p4), (.ref a2), (.int (f1 p4.toNatClampNeg))])) rfl rfl (hb hby d24_10) _ k) ?_
    show Go p.tables e below PP (s₁.setTop (mkF m 11 #[.val (.ref a1), .val (.ref a2), .val (.int p3), .val (.int p4)] [(.int (f2 p4.toNatClampNeg)), (.int (f1 p4.toNatClampNeg))]))
    refine Go.st (fun t k => XS.icmpNo X0.here hx rfl (hb hby d24_11) rfl (XT.ii_ne_f (hs _ (inbN ⟨hi.1, hc2⟩))) k) ?_
    show Go p.tables e below PP (s₁.setTop (mkF m 14 #[.val (.ref a1), .val (.ref a2), .val (.int p3), .val (.int p4)] []))
    refine Go.st (fun t k => XS.iconst X0.here hx rfl (hb hby d24_14) k) ?_
    show Go p.tables e below PP (s₁.setTop (mkF m 15 #[.val (.ref a1), .val (.ref a2), .val (.int p3), .val (.int p4)] [(.int (1 : Int32))]))
    refine Go.st (fun t k => XS.goto X0.here hx rfl (pc0 := 15) (pc' := 19) rfl (hb hby d24_15) (by decide) (by decide) k) ?_
    show Go p.tables e below PP (s₁.setTop (mkF m 19 #[.val (.ref a1), .val (.ref a2), .val (.int p3), .val (.int p4)] [(.int (1 : Int32))]))
    rw [hPP]
    refine endN X0 hx hlk (t := .boolean) hret (by simp) (hb hby d24_19) (w := (1 : Int32)) (rfl) ?_ (by decide) (by decide)
    show Q24 Z a1 a2 p3 p4 f1 f2 h0 n0 (some (.int (1 : Int32))) s₁.heap _
    rw [e0]
    exact ⟨rfl, rfl, rfl⟩
  · --
    refine Go.st (fun t k => XS.icmpYes X0.here hx rfl (pc0 := 2) (pc' := 14) rfl (hb hby d24_2) rfl (XT.ii_ge_t hc2) (by decide) (by decide) k) ?_
    show Go p.tables e below PP (s₁.setTop (mkF m 14 #[.val (.ref a1), .val (.ref a2), .val (.int p3), .val (.int p4)] []))
    refine Go.st (fun t k => XS.iconst X0.here hx rfl (hb hby d24_14) k) ?_
    show Go p.tables e below PP (s₁.setTop (mkF m 15 #[.val (.ref a1), .val (.ref a2), .val (.int p3), .val (.int p4)] [(.int (1 : Int32))]))
    refine Go.st (fun t k => XS.goto X0.here hx rfl (pc0 := 15) (pc' := 19) rfl (hb hby d24_15) (by decide) (by decide) k) ?_
    show Go p.tables e below PP (s₁.setTop (mkF m 19 #[.val (.ref a1), .val (.ref a2), .val (.int p3), .val (.int p4)] [(.int (1 : Int32))]))
    rw [hPP]
    refine endN X0 hx hlk (t := .boolean) hret (by simp) (hb hby d24_19) (w := (1 : Int32)) (rfl) ?_ (by decide) (by decide)
    show Q24 Z a1 a2 p3 p4 f1 f2 h0 n0 (some (.int (1 : Int32))) s₁.heap _
    rw [e0]
    exact ⟨rfl, rfl, rfl⟩
theorem d23_0 : decode method_6_code 0 = .ok (.aload_n 0, 1) := by decide +kernel
theorem d23_1 : decode method_6_code 1 = .ok (.arraylength, 1) := by decide +kernel
theorem d23_2 : decode method_6_code 2 = .ok (.iload_n 2, 1) := by decide +kernel
theorem d23_3 : decode method_6_code 3 = .ok (.if_icmp .ne 89, 3) := by decide +kernel
theorem d23_6 : decode method_6_code 6 = .ok (.aload_n 0, 1) := by decide +kernel
theorem d23_7 : decode method_6_code 7 = .ok (.aload_n 1, 1) := by decide +kernel
theorem d23_8 : decode method_6_code 8 = .ok (.iload_n 2, 1) := by decide +kernel
theorem d23_9 : decode method_6_code 9 = .ok (.iconst 0, 1) := by decide +kernel
theorem d23_10 : decode method_6_code 10 = .ok (.invokestatic 41, 3) := by decide +kernel
theorem d23_13 : decode method_6_code 13 = .ok (.ifCond .eq 79, 3) := by decide +kernel
theorem d23_16 : decode method_6_code 16 = .ok (.aload_n 0, 1) := by decide +kernel
theorem d23_17 : decode method_6_code 17 = .ok (.aload_n 1, 1) := by decide +kernel
theorem d23_18 : decode method_6_code 18 = .ok (.iload_n 2, 1) := by decide +kernel
theorem d23_19 : decode method_6_code 19 = .ok (.iconst 1, 1) := by decide +kernel
theorem d23_20 : decode method_6_code 20 = .ok (.invokestatic 41, 3) := by decide +kernel
theorem d23_23 : decode method_6_code 23 = .ok (.ifCond .eq 69, 3) := by decide +kernel
theorem d23_26 : decode method_6_code 26 = .ok (.aload_n 0, 1) := by decide +kernel
theorem d23_27 : decode method_6_code 27 = .ok (.aload_n 1, 1) := by decide +kernel
theorem d23_28 : decode method_6_code 28 = .ok (.iload_n 2, 1) := by decide +kernel
theorem d23_29 : decode method_6_code 29 = .ok (.iconst 2, 1) := by decide +kernel
theorem d23_30 : decode method_6_code 30 = .ok (.invokestatic 41, 3) := by decide +kernel
theorem d23_33 : decode method_6_code 33 = .ok (.ifCond .eq 59, 3) := by decide +kernel
theorem d23_36 : decode method_6_code 36 = .ok (.aload_n 0, 1) := by decide +kernel
theorem d23_37 : decode method_6_code 37 = .ok (.aload_n 1, 1) := by decide +kernel
theorem d23_38 : decode method_6_code 38 = .ok (.iload_n 2, 1) := by decide +kernel
theorem d23_39 : decode method_6_code 39 = .ok (.iconst 3, 1) := by decide +kernel
theorem d23_40 : decode method_6_code 40 = .ok (.invokestatic 41, 3) := by decide +kernel
theorem d23_43 : decode method_6_code 43 = .ok (.ifCond .eq 49, 3) := by decide +kernel
theorem d23_46 : decode method_6_code 46 = .ok (.aload_n 0, 1) := by decide +kernel
theorem d23_47 : decode method_6_code 47 = .ok (.aload_n 1, 1) := by decide +kernel
theorem d23_48 : decode method_6_code 48 = .ok (.iload_n 2, 1) := by decide +kernel
theorem d23_49 : decode method_6_code 49 = .ok (.iconst 4, 1) := by decide +kernel
theorem d23_50 : decode method_6_code 50 = .ok (.invokestatic 41, 3) := by decide +kernel
theorem d23_53 : decode method_6_code 53 = .ok (.ifCond .eq 39, 3) := by decide +kernel
theorem d23_56 : decode method_6_code 56 = .ok (.aload_n 0, 1) := by decide +kernel
theorem d23_57 : decode method_6_code 57 = .ok (.aload_n 1, 1) := by decide +kernel
theorem d23_58 : decode method_6_code 58 = .ok (.iload_n 2, 1) := by decide +kernel
theorem d23_59 : decode method_6_code 59 = .ok (.iconst 5, 1) := by decide +kernel
theorem d23_60 : decode method_6_code 60 = .ok (.invokestatic 41, 3) := by decide +kernel
theorem d23_63 : decode method_6_code 63 = .ok (.ifCond .eq 29, 3) := by decide +kernel
theorem d23_66 : decode method_6_code 66 = .ok (.aload_n 0, 1) := by decide +kernel
theorem d23_67 : decode method_6_code 67 = .ok (.aload_n 1, 1) := by decide +kernel
theorem d23_68 : decode method_6_code 68 = .ok (.iload_n 2, 1) := by decide +kernel
theorem d23_69 : decode method_6_code 69 = .ok (.bipush 6, 2) := by decide +kernel
theorem d23_71 : decode method_6_code 71 = .ok (.invokestatic 41, 3) := by decide +kernel
theorem d23_74 : decode method_6_code 74 = .ok (.ifCond .eq 18, 3) := by decide +kernel
theorem d23_77 : decode method_6_code 77 = .ok (.aload_n 0, 1) := by decide +kernel
theorem d23_78 : decode method_6_code 78 = .ok (.aload_n 1, 1) := by decide +kernel
theorem d23_79 : decode method_6_code 79 = .ok (.iload_n 2, 1) := by decide +kernel
theorem d23_80 : decode method_6_code 80 = .ok (.bipush 7, 2) := by decide +kernel
theorem d23_82 : decode method_6_code 82 = .ok (.invokestatic 41, 3) := by decide +kernel
theorem d23_85 : decode method_6_code 85 = .ok (.ifCond .eq 7, 3) := by decide +kernel
theorem d23_88 : decode method_6_code 88 = .ok (.iconst 1, 1) := by decide +kernel
theorem d23_89 : decode method_6_code 89 = .ok (.goto 4, 3) := by decide +kernel
theorem d23_92 : decode method_6_code 92 = .ok (.iconst 0, 1) := by decide +kernel
theorem d23_93 : decode method_6_code 93 = .ok (.ireturn, 1) := by decide +kernel
theorem pn_rm23 : plainName "com/example/facet_hierarchy_store/facethierarchystore/http/JsonWriterBytesPinLaw" = true := by first | (simp [plainName, overriddenIn]; done) | decide +kernel
theorem ef_rm23 (m : MethodId) (a1 : Addr) (a2 : Addr) (p3 : Int32) : entryFrame m #[(.ref a1), (.ref a2), (.int p3)] 3 = mkF m 0 #[.val (.ref a1), .val (.ref a2), .val (.int p3)] [] := by first | (simp [entryFrame, mkF, argsToLocals, Value.category]; done) | rfl
def Q23 (Z : State) (a1 : Addr) (a2 : Addr) (p3 : Int32) (f1 : Nat → Int32) (f2 : Nat → Int32) (h0 : Heap) (n0 : Nat) (v : Option Value) (h : Heap) (L : List Loc) : Prop := v = some (.int (1 : Int32)) ∧ L = [] ∧ h = h0
theorem pd_17 : parseMethodDescriptor "([B[BII)Z" = some ⟨[(.array .byte), (.array .byte), .int, .int], some .boolean⟩ := by decide +kernel
set_option maxRecDepth 65536 in
set_option maxHeartbeats 40000000 in
theorem rm23 (l : Launch) (Z : State) (a0 : Array Value) (hw : ∀ d ∈ tables_1, d.before a0 Z = true) (ws : List Jvm.Cond) (a1 : Addr) (a2 : Addr) (p3 : Int32) (f1 : Nat → Int32) (f2 : Nat → Int32) (h0 : Heap) (n0 : Nat) (Z0 : n0 ≤ h0.size) (V_a1 : Afn Z h0 a1 .byte p3 (fun k => .int (f1 k))) (V_a2 : Afn Z h0 a2 .byte (8 : Int32) (fun k => .int (f2 k))) (hs : ∀ k, k < p3.toNatClampNeg → f1 k = f2 k) :
    Con l Z (⟨"com/example/facet_hierarchy_store/facethierarchystore/http/JsonWriterBytesPinLaw", "same", "([B[BI)Z"⟩ : MethodName) method_6_code 3 (some .boolean) ws ({ frames := 1, cells := 0, slots := 0, locals := 16 } : Room) #[(.ref a1), (.ref a2), (.int p3)] h0 (Q23 Z a1 a2 p3 f1 f2 h0 n0) := by
  refine Con.of (plainFor_of_name pn_rm23) ?_
  intro p e s m below meth c s₁ hZ e0 X0 hx hby hml hown hnm hret hlk
  replace hml : c.maxLocals = 3 := hml
  have hown : s.vm.findClass "com/example/facet_hierarchy_store/facethierarchystore/http/JsonWriterBytesPinLaw" = some m.cls := hown
  have N0 : Fr n0 [] := Fr.nil n0
  obtain ⟨PP, hPP⟩ : ∃ P, P = Fine s below (Q23 Z a1 a2 p3 f1 f2 h0 n0) ({ frames := 1, cells := 0, slots := 0, locals := 16 } : Room).cells ({ frames := 1, cells := 0, slots := 0, locals := 16 } : Room).slots := ⟨_, rfl⟩
  rw [← hPP]
  refine Go.cast (ef_rm23 m a1 a2 p3) ?_
  have Zn : n0 ≤ h0.size := Z0
  show Go p.tables e below PP (s₁.setTop (mkF m 0 #[.val (.ref a1), .val (.ref a2), .val (.int p3)] []))
  refine Go.st (fun t k => XS.aloadN X0.here hx rfl (hb hby d23_0) rfl rfl k) ?_
  show Go p.tables e below PP (s₁.setTop (mkF m 1 #[.val (.ref a1), .val (.ref a2), .val (.int p3)] [(.ref a1)]))
  obtain ⟨cl1, Ar1, S1, Nn1, -⟩ := id V_a1
  refine Go.st (fun t k => X0.arraylength hx (by rw [e0]; exact Ar1.1) (State.isArrayOf_alike hZ.alike Ar1.2.1) (g := (mkF m 1 #[.val (.ref a1), .val (.ref a2), .val (.int p3)] [(.ref a1)])) rfl rfl (hb hby d23_1) _ k) ?_
  rw [len_of S1 Nn1]
  show Go p.tables e below PP (s₁.setTop (mkF m 2 #[.val (.ref a1), .val (.ref a2), .val (.int p3)] [(.int p3)]))
  refine Go.st (fun t k => XS.iloadN X0.here hx rfl (hb hby d23_2) rfl k) ?_
  show Go p.tables e below PP (s₁.setTop (mkF m 3 #[.val (.ref a1), .val (.ref a2), .val (.int p3)] [(.int p3), (.int p3)]))
  refine Go.st (fun t k => XS.icmpNo X0.here hx rfl (hb hby d23_3) rfl (XT.ii_ne_f rfl) k) ?_
  show Go p.tables e below PP (s₁.setTop (mkF m 6 #[.val (.ref a1), .val (.ref a2), .val (.int p3)] []))
  refine Go.st (fun t k => XS.aloadN X0.here hx rfl (hb hby d23_6) rfl rfl k) ?_
  show Go p.tables e below PP (s₁.setTop (mkF m 7 #[.val (.ref a1), .val (.ref a2), .val (.int p3)] [(.ref a1)]))
  refine Go.st (fun t k => XS.aloadN X0.here hx rfl (hb hby d23_7) rfl rfl k) ?_
  show Go p.tables e below PP (s₁.setTop (mkF m 8 #[.val (.ref a1), .val (.ref a2), .val (.int p3)] [(.ref a2), (.ref a1)]))
  refine Go.st (fun t k => XS.iloadN X0.here hx rfl (hb hby d23_8) rfl k) ?_
  show Go p.tables e below PP (s₁.setTop (mkF m 9 #[.val (.ref a1), .val (.ref a2), .val (.int p3)] [(.int p3), (.ref a2), (.ref a1)]))
  refine Go.st (fun t k => XS.iconst X0.here hx rfl (hb hby d23_9) k) ?_
  show Go p.tables e below PP (s₁.setTop (mkF m 10 #[.val (.ref a1), .val (.ref a2), .val (.int p3)] [(.int (0 : Int32)), (.int p3), (.ref a2), (.ref a1)]))
  obtain ⟨v2, T2, L2, X2, hQ2, st2⟩ := callSt X0 hx hZ (y := (⟨"com/example/facet_hierarchy_store/facethierarchystore/http/JsonWriterBytesPinLaw", "cmp", "([B[BII)Z"⟩ : MethodName)) (argsL := [(.ref a1), (.ref a2), (.int p3), (.int (0 : Int32))]) (rest := []) hown (hw _ (List.mem_of_getElem? (i := 131) rfl)) (hw _ (List.mem_of_getElem? (i := 132) rfl)) (hw _ (List.mem_of_getElem? (i := 15) rfl)) (hw _ (List.mem_of_getElem? (i := 133) rfl)) (by decide) (rm24 l Z a0 hw [] a1 a2 p3 (0 : Int32) f1 f2 h0 n0 Zn V_a1 V_a2 hs (by decide)) e0 0 (by decide) (by decide) (by decide) (by decide) (g := (mkF m 10 #[.val (.ref a1), .val (.ref a2), .val (.int p3)] [(.int (0 : Int32)), (.int p3), (.ref a2), (.ref a1)])) rfl (by rw [hml]; rfl) (lenOf pd_17 rfl) rfl (by show 2 * 0 + _ ≤ _; exact Nat.le_of_eq rfl) (hb hby d23_10)
  obtain ⟨rfl, rfl, e2⟩ := hQ2
  rw [List.append_nil] at X2
  refine Go.st st2 ?_
  show Go p.tables e below PP (T2.setTop (mkF m 13 #[.val (.ref a1), .val (.ref a2), .val (.int p3)] [(.int (1 : Int32))]))
  refine Go.st (fun t k => XS.ifNo X2.here hx rfl (hb hby d23_13) rfl (XT.i0_eq_f (by decide)) k) ?_
  show Go p.tables e below PP (T2.setTop (mkF m 16 #[.val (.ref a1), .val (.ref a2), .val (.int p3)] []))
  refine Go.st (fun t k => XS.aloadN X2.here hx rfl (hb hby d23_16) rfl rfl k) ?_
  show Go p.tables e below PP (T2.setTop (mkF m 17 #[.val (.ref a1), .val (.ref a2), .val (.int p3)] [(.ref a1)]))
  refine Go.st (fun t k => XS.aloadN X2.here hx rfl (hb hby d23_17) rfl rfl k) ?_
  show Go p.tables e below PP (T2.setTop (mkF m 18 #[.val (.ref a1), .val (.ref a2), .val (.int p3)] [(.ref a2), (.ref a1)]))
  refine Go.st (fun t k => XS.iloadN X2.here hx rfl (hb hby d23_18) rfl k) ?_
  show Go p.tables e below PP (T2.setTop (mkF m 19 #[.val (.ref a1), .val (.ref a2), .val (.int p3)] [(.int p3), (.ref a2), (.ref a1)]))
  refine Go.st (fun t k => XS.iconst X2.here hx rfl (hb hby d23_19) k) ?_
  show Go p.tables e below PP (T2.setTop (mkF m 20 #[.val (.ref a1), .val (.ref a2), .val (.int p3)] [(.int (1 : Int32)), (.int p3), (.ref a2), (.ref a1)]))
  obtain ⟨v3, T3, L3, X3, hQ3, st3⟩ := callSt X2 hx hZ (y := (⟨"com/example/facet_hierarchy_store/facethierarchystore/http/JsonWriterBytesPinLaw", "cmp", "([B[BII)Z"⟩ : MethodName)) (argsL := [(.ref a1), (.ref a2), (.int p3), (.int (1 : Int32))]) (rest := []) hown (hw _ (List.mem_of_getElem? (i := 131) rfl)) (hw _ (List.mem_of_getElem? (i := 132) rfl)) (hw _ (List.mem_of_getElem? (i := 15) rfl)) (hw _ (List.mem_of_getElem? (i := 133) rfl)) (by decide) (rm24 l Z a0 hw [] a1 a2 p3 (1 : Int32) f1 f2 h0 n0 Zn V_a1 V_a2 hs (by decide)) e2 0 (by decide) (by decide) (by decide) (by decide) (g := (mkF m 20 #[.val (.ref a1), .val (.ref a2), .val (.int p3)] [(.int (1 : Int32)), (.int p3), (.ref a2), (.ref a1)])) rfl (by rw [hml]; rfl) (lenOf pd_17 rfl) rfl (by show 2 * 0 + _ ≤ _; exact Nat.le_of_eq rfl) (hb hby d23_20)
  obtain ⟨rfl, rfl, e3⟩ := hQ3
  rw [List.append_nil] at X3
  refine Go.st st3 ?_
  show Go p.tables e below PP (T3.setTop (mkF m 23 #[.val (.ref a1), .val (.ref a2), .val (.int p3)] [(.int (1 : Int32))]))
  refine Go.st (fun t k => XS.ifNo X3.here hx rfl (hb hby d23_23) rfl (XT.i0_eq_f (by decide)) k) ?_
  show Go p.tables e below PP (T3.setTop (mkF m 26 #[.val (.ref a1), .val (.ref a2), .val (.int p3)] []))
  refine Go.st (fun t k => XS.aloadN X3.here hx rfl (hb hby d23_26) rfl rfl k) ?_
  show Go p.tables e below PP (T3.setTop (mkF m 27 #[.val (.ref a1), .val (.ref a2), .val (.int p3)] [(.ref a1)]))
  refine Go.st (fun t k => XS.aloadN X3.here hx rfl (hb hby d23_27) rfl rfl k) ?_
  show Go p.tables e below PP (T3.setTop (mkF m 28 #[.val (.ref a1), .val (.ref a2), .val (.int p3)] [(.ref a2), (.ref a1)]))
  refine Go.st (fun t k => XS.iloadN X3.here hx rfl (hb hby d23_28) rfl k) ?_
  show Go p.tables e below PP (T3.setTop (mkF m 29 #[.val (.ref a1), .val (.ref a2), .val (.int p3)] [(.int p3), (.ref a2), (.ref a1)]))
  refine Go.st (fun t k => XS.iconst X3.here hx rfl (hb hby d23_29) k) ?_
  show Go p.tables e below PP (T3.setTop (mkF m 30 #[.val (.ref a1), .val (.ref a2), .val (.int p3)] [(.int (2 : Int32)), (.int p3), (.ref a2), (.ref a1)]))
  obtain ⟨v4, T4, L4, X4, hQ4, st4⟩ := callSt X3 hx hZ (y := (⟨"com/example/facet_hierarchy_store/facethierarchystore/http/JsonWriterBytesPinLaw", "cmp", "([B[BII)Z"⟩ : MethodName)) (argsL := [(.ref a1), (.ref a2), (.int p3), (.int (2 : Int32))]) (rest := []) hown (hw _ (List.mem_of_getElem? (i := 131) rfl)) (hw _ (List.mem_of_getElem? (i := 132) rfl)) (hw _ (List.mem_of_getElem? (i := 15) rfl)) (hw _ (List.mem_of_getElem? (i := 133) rfl)) (by decide) (rm24 l Z a0 hw [] a1 a2 p3 (2 : Int32) f1 f2 h0 n0 Zn V_a1 V_a2 hs (by decide)) e3 0 (by decide) (by decide) (by decide) (by decide) (g := (mkF m 30 #[.val (.ref a1), .val (.ref a2), .val (.int p3)] [(.int (2 : Int32)), (.int p3), (.ref a2), (.ref a1)])) rfl (by rw [hml]; rfl) (lenOf pd_17 rfl) rfl (by show 2 * 0 + _ ≤ _; exact Nat.le_of_eq rfl) (hb hby d23_30)
  obtain ⟨rfl, rfl, e4⟩ := hQ4
  rw [List.append_nil] at X4
  refine Go.st st4 ?_
  show Go p.tables e below PP (T4.setTop (mkF m 33 #[.val (.ref a1), .val (.ref a2), .val (.int p3)] [(.int (1 : Int32))]))
  refine Go.st (fun t k => XS.ifNo X4.here hx rfl (hb hby d23_33) rfl (XT.i0_eq_f (by decide)) k) ?_
  show Go p.tables e below PP (T4.setTop (mkF m 36 #[.val (.ref a1), .val (.ref a2), .val (.int p3)] []))
  refine Go.st (fun t k => XS.aloadN X4.here hx rfl (hb hby d23_36) rfl rfl k) ?_
  show Go p.tables e below PP (T4.setTop (mkF m 37 #[.val (.ref a1), .val (.ref a2), .val (.int p3)] [(.ref a1)]))
  refine Go.st (fun t k => XS.aloadN X4.here hx rfl (hb hby d23_37) rfl rfl k) ?_
  show Go p.tables e below PP (T4.setTop (mkF m 38 #[.val (.ref a1), .val (.ref a2), .val (.int p3)] [(.ref a2), (.ref a1)]))
  refine Go.st (fun t k => XS.iloadN X4.here hx rfl (hb hby d23_38) rfl k) ?_
  show Go p.tables e below PP (T4.setTop (mkF m 39 #[.val (.ref a1), .val (.ref a2), .val (.int p3)] [(.int p3), (.ref a2), (.ref a1)]))
  refine Go.st (fun t k => XS.iconst X4.here hx rfl (hb hby d23_39) k) ?_
  show Go p.tables e below PP (T4.setTop (mkF m 40 #[.val (.ref a1), .val (.ref a2), .val (.int p3)] [(.int (3 : Int32)), (.int p3), (.ref a2), (.ref a1)]))
  obtain ⟨v5, T5, L5, X5, hQ5, st5⟩ := callSt X4 hx hZ (y := (⟨"com/example/facet_hierarchy_store/facethierarchystore/http/JsonWriterBytesPinLaw", "cmp", "([B[BII)Z"⟩ : MethodName)) (argsL := [(.ref a1), (.ref a2), (.int p3), (.int (3 : Int32))]) (rest := []) hown (hw _ (List.mem_of_getElem? (i := 131) rfl)) (hw _ (List.mem_of_getElem? (i := 132) rfl)) (hw _ (List.mem_of_getElem? (i := 15) rfl)) (hw _ (List.mem_of_getElem? (i := 133) rfl)) (by decide) (rm24 l Z a0 hw [] a1 a2 p3 (3 : Int32) f1 f2 h0 n0 Zn V_a1 V_a2 hs (by decide)) e4 0 (by decide) (by decide) (by decide) (by decide) (g := (mkF m 40 #[.val (.ref a1), .val (.ref a2), .val (.int p3)] [(.int (3 : Int32)), (.int p3), (.ref a2), (.ref a1)])) rfl (by rw [hml]; rfl) (lenOf pd_17 rfl) rfl (by show 2 * 0 + _ ≤ _; exact Nat.le_of_eq rfl) (hb hby d23_40)
  obtain ⟨rfl, rfl, e5⟩ := hQ5
  rw [List.append_nil] at X5
  refine Go.st st5 ?_
  show Go p.tables e below PP (T5.setTop (mkF m 43 #[.val (.ref a1), .val (.ref a2), .val (.int p3)] [(.int (1 : Int32))]))
  refine Go.st (fun t k => XS.ifNo X5.here hx rfl (hb hby d23_43) rfl (XT.i0_eq_f (by decide)) k) ?_
  show Go p.tables e below PP (T5.setTop (mkF m 46 #[.val (.ref a1), .val (.ref a2), .val (.int p3)] []))
  refine Go.st (fun t k => XS.aloadN X5.here hx rfl (hb hby d23_46) rfl rfl k) ?_
  show Go p.tables e below PP (T5.setTop (mkF m 47 #[.val (.ref a1), .val (.ref a2), .val (.int p3)] [(.ref a1)]))
  refine Go.st (fun t k => XS.aloadN X5.here hx rfl (hb hby d23_47) rfl rfl k) ?_
  show Go p.tables e below PP (T5.setTop (mkF m 48 #[.val (.ref a1), .val (.ref a2), .val (.int p3)] [(.ref a2), (.ref a1)]))
  refine Go.st (fun t k => XS.iloadN X5.here hx rfl (hb hby d23_48) rfl k) ?_
  show Go p.tables e below PP (T5.setTop (mkF m 49 #[.val (.ref a1), .val (.ref a2), .val (.int p3)] [(.int p3), (.ref a2), (.ref a1)]))
  refine Go.st (fun t k => XS.iconst X5.here hx rfl (hb hby d23_49) k) ?_
  show Go p.tables e below PP (T5.setTop (mkF m 50 #[.val (.ref a1), .val (.ref a2), .val (.int p3)] [(.int (4 : Int32)), (.int p3), (.ref a2), (.ref a1)]))
  obtain ⟨v6, T6, L6, X6, hQ6, st6⟩ := callSt X5 hx hZ (y := (⟨"com/example/facet_hierarchy_store/facethierarchystore/http/JsonWriterBytesPinLaw", "cmp", "([B[BII)Z"⟩ : MethodName)) (argsL := [(.ref a1), (.ref a2), (.int p3), (.int (4 : Int32))]) (rest := []) hown (hw _ (List.mem_of_getElem? (i := 131) rfl)) (hw _ (List.mem_of_getElem? (i := 132) rfl)) (hw _ (List.mem_of_getElem? (i := 15) rfl)) (hw _ (List.mem_of_getElem? (i := 133) rfl)) (by decide) (rm24 l Z a0 hw [] a1 a2 p3 (4 : Int32) f1 f2 h0 n0 Zn V_a1 V_a2 hs (by decide)) e5 0 (by decide) (by decide) (by decide) (by decide) (g := (mkF m 50 #[.val (.ref a1), .val (.ref a2), .val (.int p3)] [(.int (4 : Int32)), (.int p3), (.ref a2), (.ref a1)])) rfl (by rw [hml]; rfl) (lenOf pd_17 rfl) rfl (by show 2 * 0 + _ ≤ _; exact Nat.le_of_eq rfl) (hb hby d23_50)
  obtain ⟨rfl, rfl, e6⟩ := hQ6
  rw [List.append_nil] at X6
  refine Go.st st6 ?_
  show Go p.tables e below PP (T6.setTop (mkF m 53 #[.val (.ref a1), .val (.ref a2), .val (.int p3)] [(.int (1 : Int32))]))
  refine Go.st (fun t k => XS.ifNo X6.here hx rfl (hb hby d23_53) rfl (XT.i0_eq_f (by decide)) k) ?_
  show Go p.tables e below PP (T6.setTop (mkF m 56 #[.val (.ref a1), .val (.ref a2), .val (.int p3)] []))
  refine Go.st (fun t k => XS.aloadN X6.here hx rfl (hb hby d23_56) rfl rfl k) ?_
  show Go p.tables e below PP (T6.setTop (mkF m 57 #[.val (.ref a1), .val (.ref a2), .val (.int p3)] [(.ref a1)]))
  refine Go.st (fun t k => XS.aloadN X6.here hx rfl (hb hby d23_57) rfl rfl k) ?_
  show Go p.tables e below PP (T6.setTop (mkF m 58 #[.val (.ref a1), .val (.ref a2), .val (.int p3)] [(.ref a2), (.ref a1)]))
  refine Go.st (fun t k => XS.iloadN X6.here hx rfl (hb hby d23_58) rfl k) ?_
  show Go p.tables e below PP (T6.setTop (mkF m 59 #[.val (.ref a1), .val (.ref a2), .val (.int p3)] [(.int p3), (.ref a2), (.ref a1)]))
  refine Go.st (fun t k => XS.iconst X6.here hx rfl (hb hby d23_59) k) ?_
  show Go p.tables e below PP (T6.setTop (mkF m 60 #[.val (.ref a1), .val (.ref a2), .val (.int p3)] [(.int (5 : Int32)), (.int p3), (.ref a2), (.ref a1)]))
  obtain ⟨v7, T7, L7, X7, hQ7, st7⟩ := callSt X6 hx hZ (y := (⟨"com/example/facet_hierarchy_store/facethierarchystore/http/JsonWriterBytesPinLaw", "cmp", "([B[BII)Z"⟩ : MethodName)) (argsL := [(.ref a1), (.ref a2), (.int p3), (.int (5 : Int32))]) (rest := []) hown (hw _ (List.mem_of_getElem? (i := 131) rfl)) (hw _ (List.mem_of_getElem? (i := 132) rfl)) (hw _ (List.mem_of_getElem? (i := 15) rfl)) (hw _ (List.mem_of_getElem? (i := 133) rfl)) (by decide) (rm24 l Z a0 hw [] a1 a2 p3 (5 : Int32) f1 f2 h0 n0 Zn V_a1 V_a2 hs (by decide)) e6 0 (by decide) (by decide) (by decide) (by decide) (g := (mkF m 60 #[.val (.ref a1), .val (.ref a2), .val (.int p3)] [(.int (5 : Int32)), (.int p3), (.ref a2), (.ref a1)])) rfl (by rw [hml]; rfl) (lenOf pd_17 rfl) rfl (by show 2 * 0 + _ ≤ _; exact Nat.le_of_eq rfl) (hb hby d23_60)
  obtain ⟨rfl, rfl, e7⟩ := hQ7
  rw [List.append_nil] at X7
  refine Go.st st7 ?_
  show Go p.tables e below PP (T7.setTop (mkF m 63 #[.val (.ref a1), .val (.ref a2), .val (.int p3)] [(.int (1 : Int32))]))
  refine Go.st (fun t k => XS.ifNo X7.here hx rfl (hb hby d23_63) rfl (XT.i0_eq_f (by decide)) k) ?_
  show Go p.tables e below PP (T7.setTop (mkF m 66 #[.val (.ref a1), .val (.ref a2), .val (.int p3)] []))
  refine Go.st (fun t k => XS.aloadN X7.here hx rfl (hb hby d23_66) rfl rfl k) ?_
  show Go p.tables e below PP (T7.setTop (mkF m 67 #[.val (.ref a1), .val (.ref a2), .val (.int p3)] [(.ref a1)]))
  refine Go.st (fun t k => XS.aloadN X7.here hx rfl (hb hby d23_67) rfl rfl k) ?_
  show Go p.tables e below PP (T7.setTop (mkF m 68 #[.val (.ref a1), .val (.ref a2), .val (.int p3)] [(.ref a2), (.ref a1)]))
  refine Go.st (fun t k => XS.iloadN X7.here hx rfl (hb hby d23_68) rfl k) ?_
  show Go p.tables e below PP (T7.setTop (mkF m 69 #[.val (.ref a1), .val (.ref a2), .val (.int p3)] [(.int p3), (.ref a2), (.ref a1)]))
  refine Go.st (fun t k => XS.bipush X7.here hx rfl (hb hby d23_69) k) ?_
  show Go p.tables e below PP (T7.setTop (mkF m 71 #[.val (.ref a1), .val (.ref a2), .val (.int p3)] [(.int (6 : Int32)), (.int p3), (.ref a2), (.ref a1)]))
  obtain ⟨v8, T8, L8, X8, hQ8, st8⟩ := callSt X7 hx hZ (y := (⟨"com/example/facet_hierarchy_store/facethierarchystore/http/JsonWriterBytesPinLaw", "cmp", "([B[BII)Z"⟩ : MethodName)) (argsL := [(.ref a1), (.ref a2), (.int p3), (.int (6 : Int32))]) (rest := []) hown (hw _ (List.mem_of_getElem? (i := 131) rfl)) (hw _ (List.mem_of_getElem? (i := 132) rfl)) (hw _ (List.mem_of_getElem? (i := 15) rfl)) (hw _ (List.mem_of_getElem? (i := 133) rfl)) (by decide) (rm24 l Z a0 hw [] a1 a2 p3 (6 : Int32) f1 f2 h0 n0 Zn V_a1 V_a2 hs (by decide)) e7 0 (by decide) (by decide) (by decide) (by decide) (g := (mkF m 71 #[.val (.ref a1), .val (.ref a2), .val (.int p3)] [(.int (6 : Int32)), (.int p3), (.ref a2), (.ref a1)])) rfl (by rw [hml]; rfl) (lenOf pd_17 rfl) rfl (by show 2 * 0 + _ ≤ _; exact Nat.le_of_eq rfl) (hb hby d23_71)
  obtain ⟨rfl, rfl, e8⟩ := hQ8
  rw [List.append_nil] at X8
  refine Go.st st8 ?_
  show Go p.tables e below PP (T8.setTop (mkF m 74 #[.val (.ref a1), .val (.ref a2), .val (.int p3)] [(.int (1 : Int32))]))
  refine Go.st (fun t k => XS.ifNo X8.here hx rfl (hb hby d23_74) rfl (XT.i0_eq_f (by decide)) k) ?_
  show Go p.tables e below PP (T8.setTop (mkF m 77 #[.val (.ref a1), .val (.ref a2), .val (.int p3)] []))
  refine Go.st (fun t k => XS.aloadN X8.here hx rfl (hb hby d23_77) rfl rfl k) ?_
  show Go p.tables e below PP (T8.setTop (mkF m 78 #[.val (.ref a1), .val (.ref a2), .val (.int p3)] [(.ref a1)]))
  refine Go.st (fun t k => XS.aloadN X8.here hx rfl (hb hby d23_78) rfl rfl k) ?_
  show Go p.tables e below PP (T8.setTop (mkF m 79 #[.val (.ref a1), .val (.ref a2), .val (.int p3)] [(.ref a2), (.ref a1)]))
  refine Go.st (fun t k => XS.iloadN X8.here hx rfl (hb hby d23_79) rfl k) ?_
  show Go p.tables e below PP (T8.setTop (mkF m 80 #[.val (.ref a1), .val (.ref a2), .val (.int p3)] [(.int p3), (.ref a2), (.ref a1)]))
  refine Go.st (fun t k => XS.bipush X8.here hx rfl (hb hby d23_80) k) ?_
  show Go p.tables e below PP (T8.setTop (mkF m 82 #[.val (.ref a1), .val (.ref a2), .val (.int p3)] [(.int (7 : Int32)), (.int p3), (.ref a2), (.ref a1)]))
  obtain ⟨v9, T9, L9, X9, hQ9, st9⟩ := callSt X8 hx hZ (y := (⟨"com/example/facet_hierarchy_store/facethierarchystore/http/JsonWriterBytesPinLaw", "cmp", "([B[BII)Z"⟩ : MethodName)) (argsL := [(.ref a1), (.ref a2), (.int p3), (.int (7 : Int32))]) (rest := []) hown (hw _ (List.mem_of_getElem? (i := 131) rfl)) (hw _ (List.mem_of_getElem? (i := 132) rfl)) (hw _ (List.mem_of_getElem? (i := 15) rfl)) (hw _ (List.mem_of_getElem? (i := 133) rfl)) (by decide) (rm24 l Z a0 hw [] a1 a2 p3 (7 : Int32) f1 f2 h0 n0 Zn V_a1 V_a2 hs (by decide)) e8 0 (by decide) (by decide) (by decide) (by decide) (g := (mkF m 82 #[.val (.ref a1), .val (.ref a2), .val (.int p3)] [(.int (7 : Int32)), (.int p3), (.ref a2), (.ref a1)])) rfl (by rw [hml]; rfl) (lenOf pd_17 rfl) rfl (by show 2 * 0 + _ ≤ _; exact Nat.le_of_eq rfl) (hb hby d23_82)
  obtain ⟨rfl, rfl, e9⟩ := hQ9
  rw [List.append_nil] at X9
  refine Go.st st9 ?_
  show Go p.tables e below PP (T9.setTop (mkF m 85 #[.val (.ref a1), .val (.ref a2), .val (.int p3)] [(.int (1 : Int32))]))
  refine Go.st (fun t k => XS.ifNo X9.here hx rfl (hb hby d23_85) rfl (XT.i0_eq_f (by decide)) k) ?_
  show Go p.tables e below PP (T9.setTop (mkF m 88 #[.val (.ref a1), .val (.ref a2), .val (.int p3)] []))
  refine Go.st (fun t k => XS.iconst X9.here hx rfl (hb hby d23_88) k) ?_
  show Go p.tables e below PP (T9.setTop (mkF m 89 #[.val (.ref a1), .val (.ref a2), .val (.int p3)] [(.int (1 : Int32))]))
  refine Go.st (fun t k => XS.goto X9.here hx rfl (pc0 := 89) (pc' := 93) rfl (hb hby d23_89) (by decide) (by decide) k) ?_
  show Go p.tables e below PP (T9.setTop (mkF m 93 #[.val (.ref a1), .val (.ref a2), .val (.int p3)] [(.int (1 : Int32))]))
  rw [hPP]
  refine endN X9 hx hlk (t := .boolean) hret (by simp) (hb hby d23_93) (w := (1 : Int32)) (rfl) ?_ (by decide) (by decide)
  show Q23 Z a1 a2 p3 f1 f2 h0 n0 (some (.int (1 : Int32))) T9.heap _
  rw [e9]
  exact ⟨rfl, rfl, rfl⟩
theorem d4_0 : decode method_4_code 0 = .ok (.aload_n 2, 1) := by decide +kernel
theorem d4_1 : decode method_4_code 1 = .ok (.iconst 0, 1) := by decide +kernel
theorem d4_2 : decode method_4_code 2 = .ok (.iaload, 1) := by decide +kernel
theorem d4_3 : decode method_4_code 3 = .ok (.istore 5, 2) := by decide +kernel
theorem d4_5 : decode method_4_code 5 = .ok (.aload_n 2, 1) := by decide +kernel
theorem d4_6 : decode method_4_code 6 = .ok (.iconst 1, 1) := by decide +kernel
theorem d4_7 : decode method_4_code 7 = .ok (.iaload, 1) := by decide +kernel
theorem d4_8 : decode method_4_code 8 = .ok (.ifCond .eq 7, 3) := by decide +kernel
theorem d4_11 : decode method_4_code 11 = .ok (.iconst 1, 1) := by decide +kernel
theorem d4_12 : decode method_4_code 12 = .ok (.goto 4, 3) := by decide +kernel
theorem d4_15 : decode method_4_code 15 = .ok (.iconst 0, 1) := by decide +kernel
theorem d4_16 : decode method_4_code 16 = .ok (.istore 6, 2) := by decide +kernel
theorem d4_18 : decode method_4_code 18 = .ok (.iload_n 3, 1) := by decide +kernel
theorem d4_19 : decode method_4_code 19 = .ok (.ifCond .ne 38, 3) := by decide +kernel
theorem d4_22 : decode method_4_code 22 = .ok (.aload_n 0, 1) := by decide +kernel
theorem d4_23 : decode method_4_code 23 = .ok (.invokevirtual 30, 3) := by decide +kernel
theorem d4_26 : decode method_4_code 26 = .ok (.pop, 1) := by decide +kernel
theorem d4_27 : decode method_4_code 27 = .ok (.iload 6, 2) := by decide +kernel
theorem d4_29 : decode method_4_code 29 = .ok (.ifCond .eq 12, 3) := by decide +kernel
theorem d4_32 : decode method_4_code 32 = .ok (.aload_n 1, 1) := by decide +kernel
theorem d4_33 : decode method_4_code 33 = .ok (.iload 5, 2) := by decide +kernel
theorem d4_35 : decode method_4_code 35 = .ok (.iinc 5 1, 3) := by decide +kernel
theorem d4_38 : decode method_4_code 38 = .ok (.bipush 44, 2) := by decide +kernel
theorem d4_40 : decode method_4_code 40 = .ok (.bastore, 1) := by decide +kernel
theorem d4_41 : decode method_4_code 41 = .ok (.aload_n 1, 1) := by decide +kernel
theorem d4_42 : decode method_4_code 42 = .ok (.iload 5, 2) := by decide +kernel
theorem d4_44 : decode method_4_code 44 = .ok (.iinc 5 1, 3) := by decide +kernel
theorem d4_47 : decode method_4_code 47 = .ok (.bipush 91, 2) := by decide +kernel
theorem d4_49 : decode method_4_code 49 = .ok (.bastore, 1) := by decide +kernel
theorem d4_50 : decode method_4_code 50 = .ok (.aload_n 2, 1) := by decide +kernel
theorem d4_51 : decode method_4_code 51 = .ok (.iconst 1, 1) := by decide +kernel
theorem d4_52 : decode method_4_code 52 = .ok (.iconst 0, 1) := by decide +kernel
theorem d4_53 : decode method_4_code 53 = .ok (.iastore, 1) := by decide +kernel
theorem d4_54 : decode method_4_code 54 = .ok (.goto 68, 3) := by decide +kernel
theorem d4_57 : decode method_4_code 57 = .ok (.iload_n 3, 1) := by decide +kernel
theorem d4_58 : decode method_4_code 58 = .ok (.iconst 1, 1) := by decide +kernel
theorem d4_59 : decode method_4_code 59 = .ok (.if_icmp .ne 24, 3) := by decide +kernel
theorem d4_62 : decode method_4_code 62 = .ok (.aload_n 0, 1) := by decide +kernel
theorem d4_63 : decode method_4_code 63 = .ok (.invokevirtual 34, 3) := by decide +kernel
theorem d4_66 : decode method_4_code 66 = .ok (.pop, 1) := by decide +kernel
theorem d4_67 : decode method_4_code 67 = .ok (.aload_n 1, 1) := by decide +kernel
theorem d4_68 : decode method_4_code 68 = .ok (.iload 5, 2) := by decide +kernel
theorem d4_70 : decode method_4_code 70 = .ok (.iinc 5 1, 3) := by decide +kernel
theorem d4_73 : decode method_4_code 73 = .ok (.bipush 93, 2) := by decide +kernel
theorem d4_75 : decode method_4_code 75 = .ok (.bastore, 1) := by decide +kernel
theorem d4_76 : decode method_4_code 76 = .ok (.aload_n 2, 1) := by decide +kernel
theorem d4_77 : decode method_4_code 77 = .ok (.iconst 1, 1) := by decide +kernel
theorem d4_78 : decode method_4_code 78 = .ok (.iconst 1, 1) := by decide +kernel
theorem d4_79 : decode method_4_code 79 = .ok (.iastore, 1) := by decide +kernel
theorem d4_80 : decode method_4_code 80 = .ok (.goto 42, 3) := by decide +kernel
theorem d4_83 : decode method_4_code 83 = .ok (.aload_n 0, 1) := by decide +kernel
theorem d4_84 : decode method_4_code 84 = .ok (.iload 4, 2) := by decide +kernel
theorem d4_86 : decode method_4_code 86 = .ok (.i2l, 1) := by decide +kernel
theorem d4_87 : decode method_4_code 87 = .ok (.invokevirtual 37, 3) := by decide +kernel
theorem d4_90 : decode method_4_code 90 = .ok (.pop, 1) := by decide +kernel
theorem d4_91 : decode method_4_code 91 = .ok (.iload 6, 2) := by decide +kernel
theorem d4_93 : decode method_4_code 93 = .ok (.ifCond .eq 12, 3) := by decide +kernel
theorem d4_96 : decode method_4_code 96 = .ok (.aload_n 1, 1) := by decide +kernel
theorem d4_97 : decode method_4_code 97 = .ok (.iload 5, 2) := by decide +kernel
theorem d4_99 : decode method_4_code 99 = .ok (.iinc 5 1, 3) := by decide +kernel
theorem d4_102 : decode method_4_code 102 = .ok (.bipush 44, 2) := by decide +kernel
theorem d4_104 : decode method_4_code 104 = .ok (.bastore, 1) := by decide +kernel
theorem d4_105 : decode method_4_code 105 = .ok (.aload_n 1, 1) := by decide +kernel
theorem d4_106 : decode method_4_code 106 = .ok (.iload 5, 2) := by decide +kernel
theorem d4_108 : decode method_4_code 108 = .ok (.iinc 5 1, 3) := by decide +kernel
theorem d4_111 : decode method_4_code 111 = .ok (.bipush 48, 2) := by decide +kernel
theorem d4_113 : decode method_4_code 113 = .ok (.iload 4, 2) := by decide +kernel
theorem d4_115 : decode method_4_code 115 = .ok (.iadd, 1) := by decide +kernel
theorem d4_116 : decode method_4_code 116 = .ok (.i2b, 1) := by decide +kernel
theorem d4_117 : decode method_4_code 117 = .ok (.bastore, 1) := by decide +kernel
theorem d4_118 : decode method_4_code 118 = .ok (.aload_n 2, 1) := by decide +kernel
theorem d4_119 : decode method_4_code 119 = .ok (.iconst 1, 1) := by decide +kernel
theorem d4_120 : decode method_4_code 120 = .ok (.iconst 1, 1) := by decide +kernel
theorem d4_121 : decode method_4_code 121 = .ok (.iastore, 1) := by decide +kernel
theorem d4_122 : decode method_4_code 122 = .ok (.aload_n 2, 1) := by decide +kernel
theorem d4_123 : decode method_4_code 123 = .ok (.iconst 0, 1) := by decide +kernel
theorem d4_124 : decode method_4_code 124 = .ok (.iload 5, 2) := by decide +kernel
theorem d4_126 : decode method_4_code 126 = .ok (.iastore, 1) := by decide +kernel
theorem d4_127 : decode method_4_code 127 = .ok (.return_, 1) := by decide +kernel
theorem pn_rm4 : plainName "com/example/facet_hierarchy_store/facethierarchystore/http/JsonWriterBytesPinLaw" = true := by first | (simp [plainName, overriddenIn]; done) | decide +kernel
theorem ef_rm4 (m : MethodId) (a1 : Addr) (a2 : Addr) (a3 : Addr) (p4 : Int32) (p5 : Int32) : entryFrame m #[(.ref a1), (.ref a2), (.ref a3), (.int p4), (.int p5)] 7 = mkF m 0 #[.val (.ref a1), .val (.ref a2), .val (.ref a3), .val (.int p4), .val (.int p5), .unset, .unset] [] := by first | (simp [entryFrame, mkF, argsToLocals, Value.category]; done) | rfl
def Q4 (Z : State) (a1 : Addr) (a2 : Addr) (a3 : Addr) (p4 : Int32) (p5 : Int32) (tx : Addr) (cap : Int32) (tg : Nat → Int32) (ln : Int32) (av : Int32) (Ee : Nat → Int32) (zc : Int32) (ad : Addr) (u8 : Addr) (h0 : Heap) (n0 : Nat) (v : Option Value) (h : Heap) (L : List Loc) : Prop := ∃ (tx' : Addr) (cap' : Int32) (tg' Ee' : Nat → Int32) (ln' av' : Int32), v = none ∧ Fr n0 L ∧ Keep h0 h [a1, a2, a3, tx] ∧ (tx' = tx ∨ h0.size ≤ tx') ∧ n0 ≤ tx' ∧ JWr Z h a1 tx' cap' tg' ln' av' ∧ Cap cap' ln' ∧ Afn Z h a2 .byte (8 : Int32) (fun k => .int (Ee' k)) ∧ Afn Z h a3 .int (2 : Int32) (fun k => .int (stW ln' av' k)) ∧ (∀ k, k < ln'.toNatClampNeg → tg' k = Ee' k) ∧ (∀ k, k < ln.toNatClampNeg → Ee' k = Ee k) ∧ ln'.toInt ≤ ln.toInt + 2
theorem pd_18 : parseMethodDescriptor "()Lcom/example/facet_hierarchy_store/facethierarchystore/http/JsonWriter;" = some ⟨[], some (.object "com/example/facet_hierarchy_store/facethierarchystore/http/JsonWriter")⟩ := by decide +kernel
theorem pd_19 : parseMethodDescriptor "(J)Lcom/example/facet_hierarchy_store/facethierarchystore/http/JsonWriter;" = some ⟨[.long], some (.object "com/example/facet_hierarchy_store/facethierarchystore/http/JsonWriter")⟩ := by decide +kernel
set_option maxRecDepth 65536 in
set_option maxHeartbeats 40000000 in
theorem rm4 (l : Launch) (Z : State) (a0 : Array Value) (hw : ∀ d ∈ tables_1, d.before a0 Z = true) (ws : List Jvm.Cond) (a1 : Addr) (a2 : Addr) (a3 : Addr) (p4 : Int32) (p5 : Int32) (tx : Addr) (cap : Int32) (tg : Nat → Int32) (ln : Int32) (av : Int32) (Ee : Nat → Int32) (zc : Int32) (ad : Addr) (u8 : Addr) (h0 : Heap) (n0 : Nat) (Z0 : n0 ≤ h0.size) (E_a1 : Exa Z h0 a1 "com/example/facet_hierarchy_store/facethierarchystore/http/JsonWriter") (F_text_a1 : Fld Z h0 a1 "com/example/facet_hierarchy_store/facethierarchystore/http/JsonWriter" "text" "[B" (.ref tx)) (F_length_a1 : Fld Z h0 a1 "com/example/facet_hierarchy_store/facethierarchystore/http/JsonWriter" "length" "I" (.int ln)) (F_afterValue_a1 : Fld Z h0 a1 "com/example/facet_hierarchy_store/facethierarchystore/http/JsonWriter" "afterValue" "Z" (.int av)) (V_tx : Afn Z h0 tx .byte cap (fun k => .int (tg k))) (E_tx : Exa Z h0 tx "[B") (g_a1 : n0 ≤ a1) (g_tx : n0 ≤ tx) (ne_a1_tx : a1 ≠ tx) (hcp : Cap cap ln) (hln : ln.toInt ≤ 6) (V_a2 : Afn Z h0 a2 .byte (8 : Int32) (fun k => .int (Ee k))) (V_a3 : Afn Z h0 a3 .int (2 : Int32) (fun k => .int (stW ln av k))) (g_a2 : n0 ≤ a2) (g_a3 : n0 ≤ a3) (ne_a1_a2 : a1 ≠ a2) (ne_a1_a3 : a1 ≠ a3) (ne_a2_a3 : a2 ≠ a3) (ne_a2_tx : a2 ≠ tx) (ne_a3_tx : a3 ≠ tx) (hbe : ∀ k, k < ln.toNatClampNeg → tg k = Ee k) (hdg : Dg p5) (SC : Sta Z Z.heap "java/lang/String" "COMPACT_STRINGS" "Z" (.int zc)) (hzc : ¬ zc = (0 : Int32)) (O : Old Z n0 h0) (SD : Sta Z Z.heap "java/lang/Integer" "DigitOnes" "[B" (.ref ad)) (AD : Afn Z Z.heap ad .byte (100 : Int32) (fun k => .int ((48 : Int32) + Int32.ofNat k % 10))) (SU : Sta Z Z.heap "java/nio/charset/StandardCharsets" "UTF_8" "Ljava/nio/charset/Charset;" (.ref u8)) (SI : Sta Z Z.heap "sun/nio/cs/UTF_8" "INSTANCE" "Lsun/nio/cs/UTF_8;" (.ref u8)) :
    Con l Z (⟨"com/example/facet_hierarchy_store/facethierarchystore/http/JsonWriterBytesPinLaw", "step", "(Lcom/example/facet_hierarchy_store/facethierarchystore/http/JsonWriter;[B[III)V"⟩ : MethodName) method_4_code 7 none ws ({ frames := 7, cells := 5, slots := 34, locals := 126 } : Room) #[(.ref a1), (.ref a2), (.ref a3), (.int p4), (.int p5)] h0 (Q4 Z a1 a2 a3 p4 p5 tx cap tg ln av Ee zc ad u8 h0 n0) := by
  refine Con.of (plainFor_of_name pn_rm4) ?_
  intro p e s m below meth c s₁ hZ e0 X0 hx hby hml hown hnm hret hlk
  replace hml : c.maxLocals = 7 := hml
  have hown : s.vm.findClass "com/example/facet_hierarchy_store/facethierarchystore/http/JsonWriterBytesPinLaw" = some m.cls := hown
  have N0 : Fr n0 [] := Fr.nil n0
  obtain ⟨PP, hPP⟩ : ∃ P, P = Fine s below (Q4 Z a1 a2 a3 p4 p5 tx cap tg ln av Ee zc ad u8 h0 n0) ({ frames := 7, cells := 5, slots := 34, locals := 126 } : Room).cells ({ frames := 7, cells := 5, slots := 34, locals := 126 } : Room).slots := ⟨_, rfl⟩
  rw [← hPP]
  refine Go.cast (ef_rm4 m a1 a2 a3 p4 p5) ?_
  have K : Keep h0 h0 [a1, a2, a3, tx] := Keep.refl h0 _
  have Zn : n0 ≤ h0.size := Z0
  show Go p.tables e below PP (s₁.setTop (mkF m 0 #[.val (.ref a1), .val (.ref a2), .val (.ref a3), .val (.int p4), .val (.int p5), .unset, .unset] []))
  refine Go.st (fun t k => XS.aloadN X0.here hx rfl (hb hby d4_0) rfl rfl k) ?_
  show Go p.tables e below PP (s₁.setTop (mkF m 1 #[.val (.ref a1), .val (.ref a2), .val (.ref a3), .val (.int p4), .val (.int p5), .unset, .unset] [(.ref a3)]))
  refine Go.st (fun t k => XS.iconst X0.here hx rfl (hb hby d4_1) k) ?_
  show Go p.tables e below PP (s₁.setTop (mkF m 2 #[.val (.ref a1), .val (.ref a2), .val (.ref a3), .val (.int p4), .val (.int p5), .unset, .unset] [(.int (0 : Int32)), (.ref a3)]))
  obtain ⟨cl1, Ar1, S1, Nn1, H1⟩ := id V_a3
  have hin1 : ¬ ((0 : Int32) < 0 ∨ cl1.slots.size ≤ ((0 : Int32)).toNatClampNeg) := inb_of S1 ⟨by decide, by decide⟩
  refine Go.st (fun t k => X0.iaload hx (j := (0 : Int32)) (v := (.int ln)) (by rw [e0]; exact Ar1.1) (State.isArrayOf_alike hZ.alike Ar1.2.1) Ar1.2.2 hin1 ((H1 _ (inbN ⟨by decide, by decide⟩)).1.trans (congrArg some (congrArg Value.int (own_s0 _ _)))) (g := (mkF m 2 #[.val (.ref a1), .val (.ref a2), .val (.ref a3), .val (.int p4), .val (.int p5), .unset, .unset] [(.int (0 : Int32)), (.ref a3)])) rfl rfl (hb hby d4_2) _ k) ?_
  show Go p.tables e below PP (s₁.setTop (mkF m 3 #[.val (.ref a1), .val (.ref a2), .val (.ref a3), .val (.int p4), .val (.int p5), .unset, .unset] [(.int ln)]))
  refine Go.st (fun t k => XS.istore X0.here hx rfl (hb hby d4_3) rfl (l' := #[.val (.ref a1), .val (.ref a2), .val (.ref a3), .val (.int p4), .val (.int p5), .val (.int ln), .unset]) rfl k) ?_
  show Go p.tables e below PP (s₁.setTop (mkF m 5 #[.val (.ref a1), .val (.ref a2), .val (.ref a3), .val (.int p4), .val (.int p5), .val (.int ln), .unset] []))
  refine Go.st (fun t k => XS.aloadN X0.here hx rfl (hb hby d4_5) rfl rfl k) ?_
  show Go p.tables e below PP (s₁.setTop (mkF m 6 #[.val (.ref a1), .val (.ref a2), .val (.ref a3), .val (.int p4), .val (.int p5), .val (.int ln), .unset] [(.ref a3)]))
  refine Go.st (fun t k => XS.iconst X0.here hx rfl (hb hby d4_6) k) ?_
  show Go p.tables e below PP (s₁.setTop (mkF m 7 #[.val (.ref a1), .val (.ref a2), .val (.ref a3), .val (.int p4), .val (.int p5), .val (.int ln), .unset] [(.int (1 : Int32)), (.ref a3)]))
  obtain ⟨cl2, Ar2, S2, Nn2, H2⟩ := id V_a3
  have hin2 : ¬ ((1 : Int32) < 0 ∨ cl2.slots.size ≤ ((1 : Int32)).toNatClampNeg) := inb_of S2 ⟨by decide, by decide⟩
  refine Go.st (fun t k => X0.iaload hx (j := (1 : Int32)) (v := (.int av)) (by rw [e0]; exact Ar2.1) (State.isArrayOf_alike hZ.alike Ar2.2.1) Ar2.2.2 hin2 ((H2 _ (inbN ⟨by decide, by decide⟩)).1.trans (congrArg some (congrArg Value.int (own_s1 _ _)))) (g := (mkF m 7 #[.val (.ref a1), .val (.ref a2), .val (.ref a3), .val (.int p4), .val (.int p5), .val (.int ln), .unset] [(.int (1 : Int32)), (.ref a3)])) rfl rfl (hb hby d4_7) _ k) ?_
  show Go p.tables e below PP (s₁.setTop (mkF m 8 #[.val (.ref a1), .val (.ref a2), .val (.ref a3), .val (.int p4), .val (.int p5), .val (.int ln), .unset] [(.int av)]))
  by_cases hc8 : av = (0 : Int32)
  · --
    refine Go.st (fun t k => XS.ifYes X0.here hx rfl (pc0 := 8) (pc' := 15) rfl (hb hby d4_8) rfl (XT.i0_eq_t hc8) (by decide) (by decide) k) ?_
    show Go p.tables e below PP (s₁.setTop (mkF m 15 #[.val (.ref a1), .val (.ref a2), .val (.ref a3), .val (.int p4), .val (.int p5), .val (.int ln), .unset] []))
    refine Go.st (fun t k => XS.iconst X0.here hx rfl (hb hby d4_15) k) ?_
    show Go p.tables e below PP (s₁.setTop (mkF m 16 #[.val (.ref a1), .val (.ref a2), .val (.ref a3), .val (.int p4), .val (.int p5), .val (.int ln), .unset] [(.int (0 : Int32))]))
    refine Go.st (fun t k => XS.istore X0.here hx rfl (hb hby d4_16) rfl (l' := #[.val (.ref a1), .val (.ref a2), .val (.ref a3), .val (.int p4), .val (.int p5), .val (.int ln), .val (.int (0 : Int32))]) rfl k) ?_
    show Go p.tables e below PP (s₁.setTop (mkF m 18 #[.val (.ref a1), .val (.ref a2), .val (.ref a3), .val (.int p4), .val (.int p5), .val (.int ln), .val (.int (0 : Int32))] []))
    refine Go.st (fun t k => XS.iloadN X0.here hx rfl (hb hby d4_18) rfl k) ?_
    show Go p.tables e below PP (s₁.setTop (mkF m 19 #[.val (.ref a1), .val (.ref a2), .val (.ref a3), .val (.int p4), .val (.int p5), .val (.int ln), .val (.int (0 : Int32))] [(.int p4)]))
    by_cases hc19 : p4 = (0 : Int32)
    · --
      refine Go.st (fun t k => XS.ifNo X0.here hx rfl (hb hby d4_19) rfl (XT.i0_ne_f hc19) k) ?_
      show Go p.tables e below PP (s₁.setTop (mkF m 22 #[.val (.ref a1), .val (.ref a2), .val (.ref a3), .val (.int p4), .val (.int p5), .val (.int ln), .val (.int (0 : Int32))] []))
      refine Go.st (fun t k => XS.aloadN X0.here hx rfl (hb hby d4_22) rfl rfl k) ?_
      show Go p.tables e below PP (s₁.setTop (mkF m 23 #[.val (.ref a1), .val (.ref a2), .val (.ref a3), .val (.int p4), .val (.int p5), .val (.int ln), .val (.int (0 : Int32))] [(.ref a1)]))
      obtain ⟨v3, T3, L3, X3, hQ3, st3⟩ := callVi X0 hx hZ (C := "com/example/facet_hierarchy_store/facethierarchystore/http/JsonWriter") (y := (⟨"com/example/facet_hierarchy_store/facethierarchystore/http/JsonWriter", "array", "()Lcom/example/facet_hierarchy_store/facethierarchystore/http/JsonWriter;"⟩ : MethodName)) (z := (⟨"com/example/facet_hierarchy_store/facethierarchystore/http/JsonWriter", "array", "()Lcom/example/facet_hierarchy_store/facethierarchystore/http/JsonWriter;"⟩ : MethodName)) (a := a1) (argsL := []) (rest := []) hown (hw _ (List.mem_of_getElem? (i := 134) rfl)) (hw _ (List.mem_of_getElem? (i := 135) rfl)) (notFace_of_selects (args := #[]) (mvT hZ (hw _ (List.mem_of_getElem? (i := 137) rfl)))) (hw _ (List.mem_of_getElem? (i := 137) rfl)) (hw _ (List.mem_of_getElem? (i := 136) rfl)) (hw _ (List.mem_of_getElem? (i := 2) rfl)) (hw _ (List.mem_of_getElem? (i := 138) rfl)) (by decide) rfl E_a1 (rm25 l Z a0 hw [] a1 tx cap tg ln av h0 n0 Zn E_a1 F_text_a1 F_length_a1 F_afterValue_a1 V_tx E_tx g_a1 g_tx ne_a1_tx hcp hln) e0 0 (by decide) (by decide) (by decide) (by decide) (g := (mkF m 23 #[.val (.ref a1), .val (.ref a2), .val (.ref a3), .val (.int p4), .val (.int p5), .val (.int ln), .val (.int (0 : Int32))] [(.ref a1)])) rfl (by rw [hml]; rfl) (lenOf pd_18 rfl) rfl (by show 2 * 0 + _ ≤ _; exact Nat.le_of_eq rfl) (hb hby d4_23)
      obtain ⟨h3, e3⟩ : ∃ z, T3.heap = z := ⟨_, rfl⟩
      rw [e3] at hQ3
      obtain ⟨tx3, cc3, tg3, rfl, Nq3, Kq3, oq3, gq3, ⟨Ft3, Fl3, Fa3, Vt3, Xt3⟩, cpq3, bq3⟩ := hQ3
      have N3 := Fr.app N0 Nq3
      have ne_a1_tx3 : a1 ≠ tx3 := oq3.elim (fun q => by rw [q]; exact ne_a1_tx) (fun q => Nat.ne_of_lt (Nat.lt_of_lt_of_le E_a1.lt q))
      have ne_a2_tx3 : a2 ≠ tx3 := oq3.elim (fun q => by rw [q]; exact ne_a2_tx) (fun q => Nat.ne_of_lt (Nat.lt_of_lt_of_le V_a2.lt q))
      have ne_a3_tx3 : a3 ≠ tx3 := oq3.elim (fun q => by rw [q]; exact ne_a3_tx) (fun q => Nat.ne_of_lt (Nat.lt_of_lt_of_le V_a3.lt q))
      have kp_tx3 : tx3 ∈ [a1, a2, a3, tx] ∨ h0.size ≤ tx3 := oq3.elim (fun q => by rw [q]; exact (Or.inl (List.mem_of_getElem? (i := 3) rfl))) (fun q => Or.inr (Nat.le_trans K.1 q))
      have hor_tx3 : tx3 = tx ∨ h0.size ≤ tx3 := oq3.elim (fun q => by rw [q]; exact (Or.inl rfl)) (fun q => Or.inr (Nat.le_trans K.1 q))
      replace E_a1 := E_a1.keep Kq3
      clear F_text_a1
      clear F_length_a1
      clear F_afterValue_a1
      clear V_tx
      replace V_a2 := V_a2.keep Kq3 (ninS (Ne.symm ne_a1_a2) (ninS ne_a2_tx nin0))
      replace V_a3 := V_a3.keep Kq3 (ninS (Ne.symm ne_a1_a3) (ninS ne_a3_tx nin0))
      replace O := O.keep Kq3 (allS g_a1 (allS g_tx all0))
      replace K := K.trans Kq3 (allS (Or.inl (List.mem_of_getElem? (i := 0) rfl)) (allS (Or.inl (List.mem_of_getElem? (i := 3) rfl)) all0))
      replace Zn := Nat.le_trans Zn Kq3.1
      refine Go.st st3 ?_
      rw [own_sl0 hc8] at Fl3 cpq3 bq3
      show Go p.tables e below PP (T3.setTop (mkF m 26 #[.val (.ref a1), .val (.ref a2), .val (.ref a3), .val (.int p4), .val (.int p5), .val (.int ln), .val (.int (0 : Int32))] [(.ref a1)]))
      refine Go.st (fun t k => XS.pop X3.here hx rfl (hb hby d4_26) rfl rfl k) ?_
      show Go p.tables e below PP (T3.setTop (mkF m 27 #[.val (.ref a1), .val (.ref a2), .val (.ref a3), .val (.int p4), .val (.int p5), .val (.int ln), .val (.int (0 : Int32))] []))
      refine Go.st (fun t k => XS.iload X3.here hx rfl (hb hby d4_27) rfl k) ?_
      show Go p.tables e below PP (T3.setTop (mkF m 29 #[.val (.ref a1), .val (.ref a2), .val (.ref a3), .val (.int p4), .val (.int p5), .val (.int ln), .val (.int (0 : Int32))] [(.int (0 : Int32))]))
      refine Go.st (fun t k => XS.ifYes X3.here hx rfl (pc0 := 29) (pc' := 41) rfl (hb hby d4_29) rfl (XT.i0_eq_t (by decide)) (by decide) (by decide) k) ?_
      show Go p.tables e below PP (T3.setTop (mkF m 41 #[.val (.ref a1), .val (.ref a2), .val (.ref a3), .val (.int p4), .val (.int p5), .val (.int ln), .val (.int (0 : Int32))] []))
      refine Go.st (fun t k => XS.aloadN X3.here hx rfl (hb hby d4_41) rfl rfl k) ?_
      show Go p.tables e below PP (T3.setTop (mkF m 42 #[.val (.ref a1), .val (.ref a2), .val (.ref a3), .val (.int p4), .val (.int p5), .val (.int ln), .val (.int (0 : Int32))] [(.ref a2)]))
      refine Go.st (fun t k => XS.iload X3.here hx rfl (hb hby d4_42) rfl k) ?_
      show Go p.tables e below PP (T3.setTop (mkF m 44 #[.val (.ref a1), .val (.ref a2), .val (.ref a3), .val (.int p4), .val (.int p5), .val (.int ln), .val (.int (0 : Int32))] [(.int ln), (.ref a2)]))
      refine Go.st (fun t k => XS.iinc X3.here hx rfl (hb hby d4_44) rfl (l' := #[.val (.ref a1), .val (.ref a2), .val (.ref a3), .val (.int p4), .val (.int p5), .val (.int (ln + (1 : Int32))), .val (.int (0 : Int32))]) rfl k) ?_
      show Go p.tables e below PP (T3.setTop (mkF m 47 #[.val (.ref a1), .val (.ref a2), .val (.ref a3), .val (.int p4), .val (.int p5), .val (.int (ln + (1 : Int32))), .val (.int (0 : Int32))] [(.int ln), (.ref a2)]))
      refine Go.st (fun t k => XS.bipush X3.here hx rfl (hb hby d4_47) k) ?_
      show Go p.tables e below PP (T3.setTop (mkF m 49 #[.val (.ref a1), .val (.ref a2), .val (.ref a3), .val (.int p4), .val (.int p5), .val (.int (ln + (1 : Int32))), .val (.int (0 : Int32))] [(.int (91 : Int32)), (.int ln), (.ref a2)]))
      obtain ⟨cl4, Ar4, S4, Nn4, H4⟩ := id V_a2
      have hin4 : ¬ (ln < 0 ∨ cl4.slots.size ≤ (ln).toNatClampNeg) := inb_of S4 (own_i8a hcp.1 hln).1
      obtain ⟨T4, h4, X4, e4, W4, st4⟩ := stB X3 hx hZ e3 Ar4 (j := ln) hin4 (g := (mkF m 49 #[.val (.ref a1), .val (.ref a2), .val (.ref a3), .val (.int p4), .val (.int p5), .val (.int (ln + (1 : Int32))), .val (.int (0 : Int32))] [(.int (91 : Int32)), (.int ln), (.ref a2)])) rfl rfl (hb hby d4_49)
      refine Go.st st4 ?_
      have N4 := Fr.snoc X4 N3 g_a2
      replace E_a1 := E_a1.wr W4
      replace V_a3 := V_a3.other W4 (Ne.symm ne_a2_a3)
      replace Ft3 := Ft3.other W4 (Or.inl ne_a1_a2)
      replace Fl3 := Fl3.other W4 (Or.inl ne_a1_a2)
      replace Fa3 := Fa3.other W4 (Or.inl ne_a1_a2)
      replace Vt3 := Vt3.other W4 (Ne.symm ne_a2_tx3)
      replace Xt3 := Xt3.wr W4
      replace O := O.wr W4 g_a2
      replace K := K.wr W4 (Or.inl (List.mem_of_getElem? (i := 1) rfl))
      replace Zn : n0 ≤ h4.size := by rw [W4.size]; exact Zn
      replace V_a2 := Afn.set Ar4 S4 Nn4 H4 (fits_nar_byte _) W4
      replace V_a2 := V_a2.congr (g := fun k => .int (upd Ee ln ((91 : Int32).toInt8.toInt32) k)) (fun k _ => by exact own_ups _ _ _ k)
      show Go p.tables e below PP (T4.setTop (mkF m 50 #[.val (.ref a1), .val (.ref a2), .val (.ref a3), .val (.int p4), .val (.int p5), .val (.int (ln + (1 : Int32))), .val (.int (0 : Int32))] []))
      refine Go.st (fun t k => XS.aloadN X4.here hx rfl (hb hby d4_50) rfl rfl k) ?_
      show Go p.tables e below PP (T4.setTop (mkF m 51 #[.val (.ref a1), .val (.ref a2), .val (.ref a3), .val (.int p4), .val (.int p5), .val (.int (ln + (1 : Int32))), .val (.int (0 : Int32))] [(.ref a3)]))
      refine Go.st (fun t k => XS.iconst X4.here hx rfl (hb hby d4_51) k) ?_
      show Go p.tables e below PP (T4.setTop (mkF m 52 #[.val (.ref a1), .val (.ref a2), .val (.ref a3), .val (.int p4), .val (.int p5), .val (.int (ln + (1 : Int32))), .val (.int (0 : Int32))] [(.int (1 : Int32)), (.ref a3)]))
      refine Go.st (fun t k => XS.iconst X4.here hx rfl (hb hby d4_52) k) ?_
      show Go p.tables e below PP (T4.setTop (mkF m 53 #[.val (.ref a1), .val (.ref a2), .val (.ref a3), .val (.int p4), .val (.int p5), .val (.int (ln + (1 : Int32))), .val (.int (0 : Int32))] [(.int (0 : Int32)), (.int (1 : Int32)), (.ref a3)]))
      obtain ⟨cl5, Ar5, S5, Nn5, H5⟩ := id V_a3
      have hin5 : ¬ ((1 : Int32) < 0 ∨ cl5.slots.size ≤ ((1 : Int32)).toNatClampNeg) := inb_of S5 ⟨by decide, by decide⟩
      obtain ⟨T5, h5, X5, e5, W5, st5⟩ := stI X4 hx hZ e4 Ar5 (j := (1 : Int32)) hin5 (g := (mkF m 53 #[.val (.ref a1), .val (.ref a2), .val (.ref a3), .val (.int p4), .val (.int p5), .val (.int (ln + (1 : Int32))), .val (.int (0 : Int32))] [(.int (0 : Int32)), (.int (1 : Int32)), (.ref a3)])) rfl rfl (hb hby d4_53)
      refine Go.st st5 ?_
      have N5 := Fr.snoc X5 N4 g_a3
      replace E_a1 := E_a1.wr W5
      replace Ft3 := Ft3.other W5 (Or.inl ne_a1_a3)
      replace Fl3 := Fl3.other W5 (Or.inl ne_a1_a3)
      replace Fa3 := Fa3.other W5 (Or.inl ne_a1_a3)
      replace Vt3 := Vt3.other W5 (Ne.symm ne_a3_tx3)
      replace Xt3 := Xt3.wr W5
      replace V_a2 := V_a2.other W5 ne_a2_a3
      replace O := O.wr W5 g_a3
      replace K := K.wr W5 (Or.inl (List.mem_of_getElem? (i := 2) rfl))
      replace Zn : n0 ≤ h5.size := by rw [W5.size]; exact Zn
      replace V_a3 := Afn.set Ar5 S5 Nn5 H5 rfl W5
      show Go p.tables e below PP (T5.setTop (mkF m 54 #[.val (.ref a1), .val (.ref a2), .val (.ref a3), .val (.int p4), .val (.int p5), .val (.int (ln + (1 : Int32))), .val (.int (0 : Int32))] []))
      refine Go.st (fun t k => XS.goto X5.here hx rfl (pc0 := 54) (pc' := 122) rfl (hb hby d4_54) (by decide) (by decide) k) ?_
      show Go p.tables e below PP (T5.setTop (mkF m 122 #[.val (.ref a1), .val (.ref a2), .val (.ref a3), .val (.int p4), .val (.int p5), .val (.int (ln + (1 : Int32))), .val (.int (0 : Int32))] []))
      refine Go.st (fun t k => XS.aloadN X5.here hx rfl (hb hby d4_122) rfl rfl k) ?_
      show Go p.tables e below PP (T5.setTop (mkF m 123 #[.val (.ref a1), .val (.ref a2), .val (.ref a3), .val (.int p4), .val (.int p5), .val (.int (ln + (1 : Int32))), .val (.int (0 : Int32))] [(.ref a3)]))
      refine Go.st (fun t k => XS.iconst X5.here hx rfl (hb hby d4_123) k) ?_
      show Go p.tables e below PP (T5.setTop (mkF m 124 #[.val (.ref a1), .val (.ref a2), .val (.ref a3), .val (.int p4), .val (.int p5), .val (.int (ln + (1 : Int32))), .val (.int (0 : Int32))] [(.int (0 : Int32)), (.ref a3)]))
      refine Go.st (fun t k => XS.iload X5.here hx rfl (hb hby d4_124) rfl k) ?_
      show Go p.tables e below PP (T5.setTop (mkF m 126 #[.val (.ref a1), .val (.ref a2), .val (.ref a3), .val (.int p4), .val (.int p5), .val (.int (ln + (1 : Int32))), .val (.int (0 : Int32))] [(.int (ln + (1 : Int32))), (.int (0 : Int32)), (.ref a3)]))
      obtain ⟨cl6, Ar6, S6, Nn6, H6⟩ := id V_a3
      have hin6 : ¬ ((0 : Int32) < 0 ∨ cl6.slots.size ≤ ((0 : Int32)).toNatClampNeg) := inb_of S6 ⟨by decide, by decide⟩
      obtain ⟨T6, h6, X6, e6, W6, st6⟩ := stI X5 hx hZ e5 Ar6 (j := (0 : Int32)) hin6 (g := (mkF m 126 #[.val (.ref a1), .val (.ref a2), .val (.ref a3), .val (.int p4), .val (.int p5), .val (.int (ln + (1 : Int32))), .val (.int (0 : Int32))] [(.int (ln + (1 : Int32))), (.int (0 : Int32)), (.ref a3)])) rfl rfl (hb hby d4_126)
      refine Go.st st6 ?_
      have N6 := Fr.snoc X6 N5 g_a3
      replace E_a1 := E_a1.wr W6
      replace Ft3 := Ft3.other W6 (Or.inl ne_a1_a3)
      replace Fl3 := Fl3.other W6 (Or.inl ne_a1_a3)
      replace Fa3 := Fa3.other W6 (Or.inl ne_a1_a3)
      replace Vt3 := Vt3.other W6 (Ne.symm ne_a3_tx3)
      replace Xt3 := Xt3.wr W6
      replace V_a2 := V_a2.other W6 ne_a2_a3
      replace O := O.wr W6 g_a3
      replace K := K.wr W6 (Or.inl (List.mem_of_getElem? (i := 2) rfl))
      replace Zn : n0 ≤ h6.size := by rw [W6.size]; exact Zn
      replace V_a3 := Afn.set Ar6 S6 Nn6 H6 rfl W6
      show Go p.tables e below PP (T6.setTop (mkF m 127 #[.val (.ref a1), .val (.ref a2), .val (.ref a3), .val (.int p4), .val (.int p5), .val (.int (ln + (1 : Int32))), .val (.int (0 : Int32))] []))
      rw [hPP]
      refine endV X6 hx hlk hret (hb hby d4_127) ?_ (by decide) (by decide)
      show Q4 Z a1 a2 a3 p4 p5 tx cap tg ln av Ee zc ad u8 h0 n0 none T6.heap _
      rw [e6]
      exact ⟨tx3, _, tg3, (fun k => upd Ee ln ((91 : Int32).toInt8.toInt32) k), (ln + (1 : Int32)), (0 : Int32), rfl, N6, K, hor_tx3, gq3, ⟨Ft3, Fl3, Fa3, Vt3, Xt3⟩, cpq3, V_a2, V_a3.congr (fun k hk => own_st _ _ _ _ k hk), (own_c0 hcp.1 hln hbe hc8 bq3), own_e1, (own_n1 hcp.1 hln)⟩
    · --
      refine Go.st (fun t k => XS.ifYes X0.here hx rfl (pc0 := 19) (pc' := 57) rfl (hb hby d4_19) rfl (XT.i0_ne_t hc19) (by decide) (by decide) k) ?_
      show Go p.tables e below PP (s₁.setTop (mkF m 57 #[.val (.ref a1), .val (.ref a2), .val (.ref a3), .val (.int p4), .val (.int p5), .val (.int ln), .val (.int (0 : Int32))] []))
      refine Go.st (fun t k => XS.iloadN X0.here hx rfl (hb hby d4_57) rfl k) ?_
      show Go p.tables e below PP (s₁.setTop (mkF m 58 #[.val (.ref a1), .val (.ref a2), .val (.ref a3), .val (.int p4), .val (.int p5), .val (.int ln), .val (.int (0 : Int32))] [(.int p4)]))
      refine Go.st (fun t k => XS.iconst X0.here hx rfl (hb hby d4_58) k) ?_
      show Go p.tables e below PP (s₁.setTop (mkF m 59 #[.val (.ref a1), .val (.ref a2), .val (.ref a3), .val (.int p4), .val (.int p5), .val (.int ln), .val (.int (0 : Int32))] [(.int (1 : Int32)), (.int p4)]))
      by_cases hc59 : p4 = (1 : Int32)
      · --
        refine Go.st (fun t k => XS.icmpNo X0.here hx rfl (hb hby d4_59) rfl (XT.ii_ne_f hc59) k) ?_
        show Go p.tables e below PP (s₁.setTop (mkF m 62 #[.val (.ref a1), .val (.ref a2), .val (.ref a3), .val (.int p4), .val (.int p5), .val (.int ln), .val (.int (0 : Int32))] []))
        refine Go.st (fun t k => XS.aloadN X0.here hx rfl (hb hby d4_62) rfl rfl k) ?_
        show Go p.tables e below PP (s₁.setTop (mkF m 63 #[.val (.ref a1), .val (.ref a2), .val (.ref a3), .val (.int p4), .val (.int p5), .val (.int ln), .val (.int (0 : Int32))] [(.ref a1)]))
        obtain ⟨v7, T7, L7, X7, hQ7, st7⟩ := callVi X0 hx hZ (C := "com/example/facet_hierarchy_store/facethierarchystore/http/JsonWriter") (y := (⟨"com/example/facet_hierarchy_store/facethierarchystore/http/JsonWriter", "endArray", "()Lcom/example/facet_hierarchy_store/facethierarchystore/http/JsonWriter;"⟩ : MethodName)) (z := (⟨"com/example/facet_hierarchy_store/facethierarchystore/http/JsonWriter", "endArray", "()Lcom/example/facet_hierarchy_store/facethierarchystore/http/JsonWriter;"⟩ : MethodName)) (a := a1) (argsL := []) (rest := []) hown (hw _ (List.mem_of_getElem? (i := 147) rfl)) (hw _ (List.mem_of_getElem? (i := 148) rfl)) (notFace_of_selects (args := #[]) (mvT hZ (hw _ (List.mem_of_getElem? (i := 150) rfl)))) (hw _ (List.mem_of_getElem? (i := 150) rfl)) (hw _ (List.mem_of_getElem? (i := 149) rfl)) (hw _ (List.mem_of_getElem? (i := 2) rfl)) (hw _ (List.mem_of_getElem? (i := 151) rfl)) (by decide) rfl E_a1 (rm28 l Z a0 hw [] a1 tx cap tg ln av h0 n0 Zn E_a1 F_text_a1 F_length_a1 F_afterValue_a1 V_tx E_tx g_a1 g_tx ne_a1_tx hcp hln) e0 0 (by decide) (by decide) (by decide) (by decide) (g := (mkF m 63 #[.val (.ref a1), .val (.ref a2), .val (.ref a3), .val (.int p4), .val (.int p5), .val (.int ln), .val (.int (0 : Int32))] [(.ref a1)])) rfl (by rw [hml]; rfl) (lenOf pd_18 rfl) rfl (by show 2 * 0 + _ ≤ _; exact Nat.le_of_eq rfl) (hb hby d4_63)
        obtain ⟨h7, e7⟩ : ∃ z, T7.heap = z := ⟨_, rfl⟩
        rw [e7] at hQ7
        obtain ⟨tx7, cc7, tg7, rfl, Nq7, Kq7, oq7, gq7, ⟨Ft7, Fl7, Fa7, Vt7, Xt7⟩, cpq7, bq7⟩ := hQ7
        have N7 := Fr.app N0 Nq7
        have ne_a1_tx7 : a1 ≠ tx7 := oq7.elim (fun q => by rw [q]; exact ne_a1_tx) (fun q => Nat.ne_of_lt (Nat.lt_of_lt_of_le E_a1.lt q))
        have ne_a2_tx7 : a2 ≠ tx7 := oq7.elim (fun q => by rw [q]; exact ne_a2_tx) (fun q => Nat.ne_of_lt (Nat.lt_of_lt_of_le V_a2.lt q))
        have ne_a3_tx7 : a3 ≠ tx7 := oq7.elim (fun q => by rw [q]; exact ne_a3_tx) (fun q => Nat.ne_of_lt (Nat.lt_of_lt_of_le V_a3.lt q))
        have kp_tx7 : tx7 ∈ [a1, a2, a3, tx] ∨ h0.size ≤ tx7 := oq7.elim (fun q => by rw [q]; exact (Or.inl (List.mem_of_getElem? (i := 3) rfl))) (fun q => Or.inr (Nat.le_trans K.1 q))
        have hor_tx7 : tx7 = tx ∨ h0.size ≤ tx7 := oq7.elim (fun q => by rw [q]; exact (Or.inl rfl)) (fun q => Or.inr (Nat.le_trans K.1 q))
        replace E_a1 := E_a1.keep Kq7
        clear F_text_a1
        clear F_length_a1
        clear F_afterValue_a1
        clear V_tx
        replace V_a2 := V_a2.keep Kq7 (ninS (Ne.symm ne_a1_a2) (ninS ne_a2_tx nin0))
        replace V_a3 := V_a3.keep Kq7 (ninS (Ne.symm ne_a1_a3) (ninS ne_a3_tx nin0))
        replace O := O.keep Kq7 (allS g_a1 (allS g_tx all0))
        replace K := K.trans Kq7 (allS (Or.inl (List.mem_of_getElem? (i := 0) rfl)) (allS (Or.inl (List.mem_of_getElem? (i := 3) rfl)) all0))
        replace Zn := Nat.le_trans Zn Kq7.1
        refine Go.st st7 ?_
        show Go p.tables e below PP (T7.setTop (mkF m 66 #[.val (.ref a1), .val (.ref a2), .val (.ref a3), .val (.int p4), .val (.int p5), .val (.int ln), .val (.int (0 : Int32))] [(.ref a1)]))
        refine Go.st (fun t k => XS.pop X7.here hx rfl (hb hby d4_66) rfl rfl k) ?_
        show Go p.tables e below PP (T7.setTop (mkF m 67 #[.val (.ref a1), .val (.ref a2), .val (.ref a3), .val (.int p4), .val (.int p5), .val (.int ln), .val (.int (0 : Int32))] []))
        refine Go.st (fun t k => XS.aloadN X7.here hx rfl (hb hby d4_67) rfl rfl k) ?_
        show Go p.tables e below PP (T7.setTop (mkF m 68 #[.val (.ref a1), .val (.ref a2), .val (.ref a3), .val (.int p4), .val (.int p5), .val (.int ln), .val (.int (0 : Int32))] [(.ref a2)]))
        refine Go.st (fun t k => XS.iload X7.here hx rfl (hb hby d4_68) rfl k) ?_
        show Go p.tables e below PP (T7.setTop (mkF m 70 #[.val (.ref a1), .val (.ref a2), .val (.ref a3), .val (.int p4), .val (.int p5), .val (.int ln), .val (.int (0 : Int32))] [(.int ln), (.ref a2)]))
        refine Go.st (fun t k => XS.iinc X7.here hx rfl (hb hby d4_70) rfl (l' := #[.val (.ref a1), .val (.ref a2), .val (.ref a3), .val (.int p4), .val (.int p5), .val (.int (ln + (1 : Int32))), .val (.int (0 : Int32))]) rfl k) ?_
        show Go p.tables e below PP (T7.setTop (mkF m 73 #[.val (.ref a1), .val (.ref a2), .val (.ref a3), .val (.int p4), .val (.int p5), .val (.int (ln + (1 : Int32))), .val (.int (0 : Int32))] [(.int ln), (.ref a2)]))
        refine Go.st (fun t k => XS.bipush X7.here hx rfl (hb hby d4_73) k) ?_
        show Go p.tables e below PP (T7.setTop (mkF m 75 #[.val (.ref a1), .val (.ref a2), .val (.ref a3), .val (.int p4), .val (.int p5), .val (.int (ln + (1 : Int32))), .val (.int (0 : Int32))] [(.int (93 : Int32)), (.int ln), (.ref a2)]))
        obtain ⟨cl8, Ar8, S8, Nn8, H8⟩ := id V_a2
        have hin8 : ¬ (ln < 0 ∨ cl8.slots.size ≤ (ln).toNatClampNeg) := inb_of S8 (own_i8a hcp.1 hln).1
        obtain ⟨T8, h8, X8, e8, W8, st8⟩ := stB X7 hx hZ e7 Ar8 (j := ln) hin8 (g := (mkF m 75 #[.val (.ref a1), .val (.ref a2), .val (.ref a3), .val (.int p4), .val (.int p5), .val (.int (ln + (1 : Int32))), .val (.int (0 : Int32))] [(.int (93 : Int32)), (.int ln), (.ref a2)])) rfl rfl (hb hby d4_75)
        refine Go.st st8 ?_
        have N8 := Fr.snoc X8 N7 g_a2
        replace E_a1 := E_a1.wr W8
        replace V_a3 := V_a3.other W8 (Ne.symm ne_a2_a3)
        replace Ft7 := Ft7.other W8 (Or.inl ne_a1_a2)
        replace Fl7 := Fl7.other W8 (Or.inl ne_a1_a2)
        replace Fa7 := Fa7.other W8 (Or.inl ne_a1_a2)
        replace Vt7 := Vt7.other W8 (Ne.symm ne_a2_tx7)
        replace Xt7 := Xt7.wr W8
        replace O := O.wr W8 g_a2
        replace K := K.wr W8 (Or.inl (List.mem_of_getElem? (i := 1) rfl))
        replace Zn : n0 ≤ h8.size := by rw [W8.size]; exact Zn
        replace V_a2 := Afn.set Ar8 S8 Nn8 H8 (fits_nar_byte _) W8
        replace V_a2 := V_a2.congr (g := fun k => .int (upd Ee ln ((93 : Int32).toInt8.toInt32) k)) (fun k _ => by exact own_ups _ _ _ k)
        show Go p.tables e below PP (T8.setTop (mkF m 76 #[.val (.ref a1), .val (.ref a2), .val (.ref a3), .val (.int p4), .val (.int p5), .val (.int (ln + (1 : Int32))), .val (.int (0 : Int32))] []))
        refine Go.st (fun t k => XS.aloadN X8.here hx rfl (hb hby d4_76) rfl rfl k) ?_
        show Go p.tables e below PP (T8.setTop (mkF m 77 #[.val (.ref a1), .val (.ref a2), .val (.ref a3), .val (.int p4), .val (.int p5), .val (.int (ln + (1 : Int32))), .val (.int (0 : Int32))] [(.ref a3)]))
        refine Go.st (fun t k => XS.iconst X8.here hx rfl (hb hby d4_77) k) ?_
        show Go p.tables e below PP (T8.setTop (mkF m 78 #[.val (.ref a1), .val (.ref a2), .val (.ref a3), .val (.int p4), .val (.int p5), .val (.int (ln + (1 : Int32))), .val (.int (0 : Int32))] [(.int (1 : Int32)), (.ref a3)]))
        refine Go.st (fun t k => XS.iconst X8.here hx rfl (hb hby d4_78) k) ?_
        show Go p.tables e below PP (T8.setTop (mkF m 79 #[.val (.ref a1), .val (.ref a2), .val (.ref a3), .val (.int p4), .val (.int p5), .val (.int (ln + (1 : Int32))), .val (.int (0 : Int32))] [(.int (1 : Int32)), (.int (1 : Int32)), (.ref a3)]))
        obtain ⟨cl9, Ar9, S9, Nn9, H9⟩ := id V_a3
        have hin9 : ¬ ((1 : Int32) < 0 ∨ cl9.slots.size ≤ ((1 : Int32)).toNatClampNeg) := inb_of S9 ⟨by decide, by decide⟩
        obtain ⟨T9, h9, X9, e9, W9, st9⟩ := stI X8 hx hZ e8 Ar9 (j := (1 : Int32)) hin9 (g := (mkF m 79 #[.val (.ref a1), .val (.ref a2), .val (.ref a3), .val (.int p4), .val (.int p5), .val (.int (ln + (1 : Int32))), .val (.int (0 : Int32))] [(.int (1 : Int32)), (.int (1 : Int32)), (.ref a3)])) rfl rfl (hb hby d4_79)
        refine Go.st st9 ?_
        have N9 := Fr.snoc X9 N8 g_a3
        replace E_a1 := E_a1.wr W9
        replace Ft7 := Ft7.other W9 (Or.inl ne_a1_a3)
        replace Fl7 := Fl7.other W9 (Or.inl ne_a1_a3)
        replace Fa7 := Fa7.other W9 (Or.inl ne_a1_a3)
        replace Vt7 := Vt7.other W9 (Ne.symm ne_a3_tx7)
        replace Xt7 := Xt7.wr W9
        replace V_a2 := V_a2.other W9 ne_a2_a3
        replace O := O.wr W9 g_a3
        replace K := K.wr W9 (Or.inl (List.mem_of_getElem? (i := 2) rfl))
        replace Zn : n0 ≤ h9.size := by rw [W9.size]; exact Zn
        replace V_a3 := Afn.set Ar9 S9 Nn9 H9 rfl W9
        show Go p.tables e below PP (T9.setTop (mkF m 80 #[.val (.ref a1), .val (.ref a2), .val (.ref a3), .val (.int p4), .val (.int p5), .val (.int (ln + (1 : Int32))), .val (.int (0 : Int32))] []))
        refine Go.st (fun t k => XS.goto X9.here hx rfl (pc0 := 80) (pc' := 122) rfl (hb hby d4_80) (by decide) (by decide) k) ?_
        show Go p.tables e below PP (T9.setTop (mkF m 122 #[.val (.ref a1), .val (.ref a2), .val (.ref a3), .val (.int p4), .val (.int p5), .val (.int (ln + (1 : Int32))), .val (.int (0 : Int32))] []))
        refine Go.st (fun t k => XS.aloadN X9.here hx rfl (hb hby d4_122) rfl rfl k) ?_
        show Go p.tables e below PP (T9.setTop (mkF m 123 #[.val (.ref a1), .val (.ref a2), .val (.ref a3), .val (.int p4), .val (.int p5), .val (.int (ln + (1 : Int32))), .val (.int (0 : Int32))] [(.ref a3)]))
        refine Go.st (fun t k => XS.iconst X9.here hx rfl (hb hby d4_123) k) ?_
        show Go p.tables e below PP (T9.setTop (mkF m 124 #[.val (.ref a1), .val (.ref a2), .val (.ref a3), .val (.int p4), .val (.int p5), .val (.int (ln + (1 : Int32))), .val (.int (0 : Int32))] [(.int (0 : Int32)), (.ref a3)]))
        refine Go.st (fun t k => XS.iload X9.here hx rfl (hb hby d4_124) rfl k) ?_
        show Go p.tables e below PP (T9.setTop (mkF m 126 #[.val (.ref a1), .val (.ref a2), .val (.ref a3), .val (.int p4), .val (.int p5), .val (.int (ln + (1 : Int32))), .val (.int (0 : Int32))] [(.int (ln + (1 : Int32))), (.int (0 : Int32)), (.ref a3)]))
        obtain ⟨cl10, Ar10, S10, Nn10, H10⟩ := id V_a3
        have hin10 : ¬ ((0 : Int32) < 0 ∨ cl10.slots.size ≤ ((0 : Int32)).toNatClampNeg) := inb_of S10 ⟨by decide, by decide⟩
        obtain ⟨T10, h10, X10, e10, W10, st10⟩ := stI X9 hx hZ e9 Ar10 (j := (0 : Int32)) hin10 (g := (mkF m 126 #[.val (.ref a1), .val (.ref a2), .val (.ref a3), .val (.int p4), .val (.int p5), .val (.int (ln + (1 : Int32))), .val (.int (0 : Int32))] [(.int (ln + (1 : Int32))), (.int (0 : Int32)), (.ref a3)])) rfl rfl (hb hby d4_126)
        refine Go.st st10 ?_
        have N10 := Fr.snoc X10 N9 g_a3
        replace E_a1 := E_a1.wr W10
        replace Ft7 := Ft7.other W10 (Or.inl ne_a1_a3)
        replace Fl7 := Fl7.other W10 (Or.inl ne_a1_a3)
        replace Fa7 := Fa7.other W10 (Or.inl ne_a1_a3)
        replace Vt7 := Vt7.other W10 (Ne.symm ne_a3_tx7)
        replace Xt7 := Xt7.wr W10
        replace V_a2 := V_a2.other W10 ne_a2_a3
        replace O := O.wr W10 g_a3
        replace K := K.wr W10 (Or.inl (List.mem_of_getElem? (i := 2) rfl))
        replace Zn : n0 ≤ h10.size := by rw [W10.size]; exact Zn
        replace V_a3 := Afn.set Ar10 S10 Nn10 H10 rfl W10
        show Go p.tables e below PP (T10.setTop (mkF m 127 #[.val (.ref a1), .val (.ref a2), .val (.ref a3), .val (.int p4), .val (.int p5), .val (.int (ln + (1 : Int32))), .val (.int (0 : Int32))] []))
        rw [hPP]
        refine endV X10 hx hlk hret (hb hby d4_127) ?_ (by decide) (by decide)
        show Q4 Z a1 a2 a3 p4 p5 tx cap tg ln av Ee zc ad u8 h0 n0 none T10.heap _
        rw [e10]
        exact ⟨tx7, _, tg7, (fun k => upd Ee ln ((93 : Int32).toInt8.toInt32) k), (ln + (1 : Int32)), (1 : Int32), rfl, N10, K, hor_tx7, gq7, ⟨Ft7, Fl7, Fa7, Vt7, Xt7⟩, cpq7, V_a2, V_a3.congr (fun k hk => own_st _ _ _ _ k hk), (own_c2 hcp.1 hln hbe bq7), own_e1, (own_n1 hcp.1 hln)⟩
      · --
        refine Go.st (fun t k => XS.icmpYes X0.here hx rfl (pc0 := 59) (pc' := 83) rfl (hb hby d4_59) rfl (XT.ii_ne_t hc59) (by decide) (by decide) k) ?_
        show Go p.tables e below PP (s₁.setTop (mkF m 83 #[.val (.ref a1), .val (.ref a2), .val (.ref a3), .val (.int p4), .val (.int p5), .val (.int ln), .val (.int (0 : Int32))] []))
        refine Go.st (fun t k => XS.aloadN X0.here hx rfl (hb hby d4_83) rfl rfl k) ?_
        show Go p.tables e below PP (s₁.setTop (mkF m 84 #[.val (.ref a1), .val (.ref a2), .val (.ref a3), .val (.int p4), .val (.int p5), .val (.int ln), .val (.int (0 : Int32))] [(.ref a1)]))
        refine Go.st (fun t k => XS.iload X0.here hx rfl (hb hby d4_84) rfl k) ?_
        show Go p.tables e below PP (s₁.setTop (mkF m 86 #[.val (.ref a1), .val (.ref a2), .val (.ref a3), .val (.int p4), .val (.int p5), .val (.int ln), .val (.int (0 : Int32))] [(.int p5), (.ref a1)]))
        refine Go.st (fun t k => XS.i2l X0.here hx rfl (hb hby d4_86) rfl k) ?_
        show Go p.tables e below PP (s₁.setTop (mkF m 87 #[.val (.ref a1), .val (.ref a2), .val (.ref a3), .val (.int p4), .val (.int p5), .val (.int ln), .val (.int (0 : Int32))] [(.long (p5.toInt64)), (.ref a1)]))
        obtain ⟨v11, T11, L11, X11, hQ11, st11⟩ := callVi X0 hx hZ (C := "com/example/facet_hierarchy_store/facethierarchystore/http/JsonWriter") (y := (⟨"com/example/facet_hierarchy_store/facethierarchystore/http/JsonWriter", "value", "(J)Lcom/example/facet_hierarchy_store/facethierarchystore/http/JsonWriter;"⟩ : MethodName)) (z := (⟨"com/example/facet_hierarchy_store/facethierarchystore/http/JsonWriter", "value", "(J)Lcom/example/facet_hierarchy_store/facethierarchystore/http/JsonWriter;"⟩ : MethodName)) (a := a1) (argsL := [(.long (p5.toInt64))]) (rest := []) hown (hw _ (List.mem_of_getElem? (i := 20) rfl)) (hw _ (List.mem_of_getElem? (i := 21) rfl)) (notFace_of_selects (args := #[]) (mvT hZ (hw _ (List.mem_of_getElem? (i := 23) rfl)))) (hw _ (List.mem_of_getElem? (i := 23) rfl)) (hw _ (List.mem_of_getElem? (i := 22) rfl)) (hw _ (List.mem_of_getElem? (i := 2) rfl)) (hw _ (List.mem_of_getElem? (i := 24) rfl)) (by decide) rfl E_a1 (rm5 l Z a0 hw [] a1 (p5.toInt64) tx cap tg ln av zc ad u8 h0 n0 Zn E_a1 F_text_a1 F_length_a1 F_afterValue_a1 V_tx E_tx g_a1 g_tx ne_a1_tx hcp hln (own_dl hdg) SC hzc O SD AD SU SI) e0 0 (by decide) (by decide) (by decide) (by decide) (g := (mkF m 87 #[.val (.ref a1), .val (.ref a2), .val (.ref a3), .val (.int p4), .val (.int p5), .val (.int ln), .val (.int (0 : Int32))] [(.long (p5.toInt64)), (.ref a1)])) rfl (by rw [hml]; rfl) (lenOf pd_19 rfl) rfl (by show 2 * 0 + _ ≤ _; exact Nat.le_of_eq rfl) (hb hby d4_87)
        obtain ⟨h11, e11⟩ : ∃ z, T11.heap = z := ⟨_, rfl⟩
        rw [e11] at hQ11
        obtain ⟨tx11, cc11, tg11, rfl, Nq11, Kq11, oq11, gq11, ⟨Ft11, Fl11, Fa11, Vt11, Xt11⟩, cpq11, bq11⟩ := hQ11
        have N11 := Fr.app N0 Nq11
        have ne_a1_tx11 : a1 ≠ tx11 := oq11.elim (fun q => by rw [q]; exact ne_a1_tx) (fun q => Nat.ne_of_lt (Nat.lt_of_lt_of_le E_a1.lt q))
        have ne_a2_tx11 : a2 ≠ tx11 := oq11.elim (fun q => by rw [q]; exact ne_a2_tx) (fun q => Nat.ne_of_lt (Nat.lt_of_lt_of_le V_a2.lt q))
        have ne_a3_tx11 : a3 ≠ tx11 := oq11.elim (fun q => by rw [q]; exact ne_a3_tx) (fun q => Nat.ne_of_lt (Nat.lt_of_lt_of_le V_a3.lt q))
        have kp_tx11 : tx11 ∈ [a1, a2, a3, tx] ∨ h0.size ≤ tx11 := oq11.elim (fun q => by rw [q]; exact (Or.inl (List.mem_of_getElem? (i := 3) rfl))) (fun q => Or.inr (Nat.le_trans K.1 q))
        have hor_tx11 : tx11 = tx ∨ h0.size ≤ tx11 := oq11.elim (fun q => by rw [q]; exact (Or.inl rfl)) (fun q => Or.inr (Nat.le_trans K.1 q))
        replace E_a1 := E_a1.keep Kq11
        clear F_text_a1
        clear F_length_a1
        clear F_afterValue_a1
        clear V_tx
        replace V_a2 := V_a2.keep Kq11 (ninS (Ne.symm ne_a1_a2) (ninS ne_a2_tx nin0))
        replace V_a3 := V_a3.keep Kq11 (ninS (Ne.symm ne_a1_a3) (ninS ne_a3_tx nin0))
        replace O := O.keep Kq11 (allS g_a1 (allS g_tx all0))
        replace K := K.trans Kq11 (allS (Or.inl (List.mem_of_getElem? (i := 0) rfl)) (allS (Or.inl (List.mem_of_getElem? (i := 3) rfl)) all0))
        replace Zn := Nat.le_trans Zn Kq11.1
        refine Go.st st11 ?_
        rw [own_sl0 hc8] at Fl11 cpq11 bq11
        show Go p.tables e below PP (T11.setTop (mkF m 90 #[.val (.ref a1), .val (.ref a2), .val (.ref a3), .val (.int p4), .val (.int p5), .val (.int ln), .val (.int (0 : Int32))] [(.ref a1)]))
        refine Go.st (fun t k => XS.pop X11.here hx rfl (hb hby d4_90) rfl rfl k) ?_
        show Go p.tables e below PP (T11.setTop (mkF m 91 #[.val (.ref a1), .val (.ref a2), .val (.ref a3), .val (.int p4), .val (.int p5), .val (.int ln), .val (.int (0 : Int32))] []))
        refine Go.st (fun t k => XS.iload X11.here hx rfl (hb hby d4_91) rfl k) ?_
        show Go p.tables e below PP (T11.setTop (mkF m 93 #[.val (.ref a1), .val (.ref a2), .val (.ref a3), .val (.int p4), .val (.int p5), .val (.int ln), .val (.int (0 : Int32))] [(.int (0 : Int32))]))
        refine Go.st (fun t k => XS.ifYes X11.here hx rfl (pc0 := 93) (pc' := 105) rfl (hb hby d4_93) rfl (XT.i0_eq_t (by decide)) (by decide) (by decide) k) ?_
        show Go p.tables e below PP (T11.setTop (mkF m 105 #[.val (.ref a1), .val (.ref a2), .val (.ref a3), .val (.int p4), .val (.int p5), .val (.int ln), .val (.int (0 : Int32))] []))
        refine Go.st (fun t k => XS.aloadN X11.here hx rfl (hb hby d4_105) rfl rfl k) ?_
        show Go p.tables e below PP (T11.setTop (mkF m 106 #[.val (.ref a1), .val (.ref a2), .val (.ref a3), .val (.int p4), .val (.int p5), .val (.int ln), .val (.int (0 : Int32))] [(.ref a2)]))
        refine Go.st (fun t k => XS.iload X11.here hx rfl (hb hby d4_106) rfl k) ?_
        show Go p.tables e below PP (T11.setTop (mkF m 108 #[.val (.ref a1), .val (.ref a2), .val (.ref a3), .val (.int p4), .val (.int p5), .val (.int ln), .val (.int (0 : Int32))] [(.int ln), (.ref a2)]))
        refine Go.st (fun t k => XS.iinc X11.here hx rfl (hb hby d4_108) rfl (l' := #[.val (.ref a1), .val (.ref a2), .val (.ref a3), .val (.int p4), .val (.int p5), .val (.int (ln + (1 : Int32))), .val (.int (0 : Int32))]) rfl k) ?_
        show Go p.tables e below PP (T11.setTop (mkF m 111 #[.val (.ref a1), .val (.ref a2), .val (.ref a3), .val (.int p4), .val (.int p5), .val (.int (ln + (1 : Int32))), .val (.int (0 : Int32))] [(.int ln), (.ref a2)]))
        refine Go.st (fun t k => XS.bipush X11.here hx rfl (hb hby d4_111) k) ?_
        show Go p.tables e below PP (T11.setTop (mkF m 113 #[.val (.ref a1), .val (.ref a2), .val (.ref a3), .val (.int p4), .val (.int p5), .val (.int (ln + (1 : Int32))), .val (.int (0 : Int32))] [(.int (48 : Int32)), (.int ln), (.ref a2)]))
        refine Go.st (fun t k => XS.iload X11.here hx rfl (hb hby d4_113) rfl k) ?_
        show Go p.tables e below PP (T11.setTop (mkF m 115 #[.val (.ref a1), .val (.ref a2), .val (.ref a3), .val (.int p4), .val (.int p5), .val (.int (ln + (1 : Int32))), .val (.int (0 : Int32))] [(.int p5), (.int (48 : Int32)), (.int ln), (.ref a2)]))
        refine Go.st (fun t k => XS.iadd X11.here hx rfl (hb hby d4_115) rfl k) ?_
        show Go p.tables e below PP (T11.setTop (mkF m 116 #[.val (.ref a1), .val (.ref a2), .val (.ref a3), .val (.int p4), .val (.int p5), .val (.int (ln + (1 : Int32))), .val (.int (0 : Int32))] [(.int ((48 : Int32) + p5)), (.int ln), (.ref a2)]))
        refine Go.st (fun t k => XS.i2b X11.here hx rfl (hb hby d4_116) rfl k) ?_
        show Go p.tables e below PP (T11.setTop (mkF m 117 #[.val (.ref a1), .val (.ref a2), .val (.ref a3), .val (.int p4), .val (.int p5), .val (.int (ln + (1 : Int32))), .val (.int (0 : Int32))] [(.int (((48 : Int32) + p5).toInt8.toInt32)), (.int ln), (.ref a2)]))
        obtain ⟨cl12, Ar12, S12, Nn12, H12⟩ := id V_a2
        have hin12 : ¬ (ln < 0 ∨ cl12.slots.size ≤ (ln).toNatClampNeg) := inb_of S12 (own_i8a hcp.1 hln).1
        obtain ⟨T12, h12, X12, e12, W12, st12⟩ := stB X11 hx hZ e11 Ar12 (j := ln) hin12 (g := (mkF m 117 #[.val (.ref a1), .val (.ref a2), .val (.ref a3), .val (.int p4), .val (.int p5), .val (.int (ln + (1 : Int32))), .val (.int (0 : Int32))] [(.int (((48 : Int32) + p5).toInt8.toInt32)), (.int ln), (.ref a2)])) rfl rfl (hb hby d4_117)
        refine Go.st st12 ?_
        have N12 := Fr.snoc X12 N11 g_a2
        replace E_a1 := E_a1.wr W12
        replace V_a3 := V_a3.other W12 (Ne.symm ne_a2_a3)
        replace Ft11 := Ft11.other W12 (Or.inl ne_a1_a2)
        replace Fl11 := Fl11.other W12 (Or.inl ne_a1_a2)
        replace Fa11 := Fa11.other W12 (Or.inl ne_a1_a2)
        replace Vt11 := Vt11.other W12 (Ne.symm ne_a2_tx11)
        replace Xt11 := Xt11.wr W12
        replace O := O.wr W12 g_a2
        replace K := K.wr W12 (Or.inl (List.mem_of_getElem? (i := 1) rfl))
        replace Zn : n0 ≤ h12.size := by rw [W12.size]; exact Zn
        replace V_a2 := Afn.set Ar12 S12 Nn12 H12 (fits_nar_byte _) W12
        replace V_a2 := V_a2.congr (g := fun k => .int (upd Ee ln (dgB (p5.toInt64)) k)) (fun k _ => by rw [own_db hdg]; exact own_ups _ _ _ k)
        show Go p.tables e below PP (T12.setTop (mkF m 118 #[.val (.ref a1), .val (.ref a2), .val (.ref a3), .val (.int p4), .val (.int p5), .val (.int (ln + (1 : Int32))), .val (.int (0 : Int32))] []))
        refine Go.st (fun t k => XS.aloadN X12.here hx rfl (hb hby d4_118) rfl rfl k) ?_
        show Go p.tables e below PP (T12.setTop (mkF m 119 #[.val (.ref a1), .val (.ref a2), .val (.ref a3), .val (.int p4), .val (.int p5), .val (.int (ln + (1 : Int32))), .val (.int (0 : Int32))] [(.ref a3)]))
        refine Go.st (fun t k => XS.iconst X12.here hx rfl (hb hby d4_119) k) ?_
        show Go p.tables e below PP (T12.setTop (mkF m 120 #[.val (.ref a1), .val (.ref a2), .val (.ref a3), .val (.int p4), .val (.int p5), .val (.int (ln + (1 : Int32))), .val (.int (0 : Int32))] [(.int (1 : Int32)), (.ref a3)]))
        refine Go.st (fun t k => XS.iconst X12.here hx rfl (hb hby d4_120) k) ?_
        show Go p.tables e below PP (T12.setTop (mkF m 121 #[.val (.ref a1), .val (.ref a2), .val (.ref a3), .val (.int p4), .val (.int p5), .val (.int (ln + (1 : Int32))), .val (.int (0 : Int32))] [(.int (1 : Int32)), (.int (1 : Int32)), (.ref a3)]))
        obtain ⟨cl13, Ar13, S13, Nn13, H13⟩ := id V_a3
        have hin13 : ¬ ((1 : Int32) < 0 ∨ cl13.slots.size ≤ ((1 : Int32)).toNatClampNeg) := inb_of S13 ⟨by decide, by decide⟩
        obtain ⟨T13, h13, X13, e13, W13, st13⟩ := stI X12 hx hZ e12 Ar13 (j := (1 : Int32)) hin13 (g := (mkF m 121 #[.val (.ref a1), .val (.ref a2), .val (.ref a3), .val (.int p4), .val (.int p5), .val (.int (ln + (1 : Int32))), .val (.int (0 : Int32))] [(.int (1 : Int32)), (.int (1 : Int32)), (.ref a3)])) rfl rfl (hb hby d4_121)
        refine Go.st st13 ?_
        have N13 := Fr.snoc X13 N12 g_a3
        replace E_a1 := E_a1.wr W13
        replace Ft11 := Ft11.other W13 (Or.inl ne_a1_a3)
        replace Fl11 := Fl11.other W13 (Or.inl ne_a1_a3)
        replace Fa11 := Fa11.other W13 (Or.inl ne_a1_a3)
        replace Vt11 := Vt11.other W13 (Ne.symm ne_a3_tx11)
        replace Xt11 := Xt11.wr W13
        replace V_a2 := V_a2.other W13 ne_a2_a3
        replace O := O.wr W13 g_a3
        replace K := K.wr W13 (Or.inl (List.mem_of_getElem? (i := 2) rfl))
        replace Zn : n0 ≤ h13.size := by rw [W13.size]; exact Zn
        replace V_a3 := Afn.set Ar13 S13 Nn13 H13 rfl W13
        show Go p.tables e below PP (T13.setTop (mkF m 122 #[.val (.ref a1), .val (.ref a2), .val (.ref a3), .val (.int p4), .val (.int p5), .val (.int (ln + (1 : Int32))), .val (.int (0 : Int32))] []))
        refine Go.st (fun t k => XS.aloadN X13.here hx rfl (hb hby d4_122) rfl rfl k) ?_
        show Go p.tables e below PP (T13.setTop (mkF m 123 #[.val (.ref a1), .val (.ref a2), .val (.ref a3), .val (.int p4), .val (.int p5), .val (.int (ln + (1 : Int32))), .val (.int (0 : Int32))] [(.ref a3)]))
        refine Go.st (fun t k => XS.iconst X13.here hx rfl (hb hby d4_123) k) ?_
        show Go p.tables e below PP (T13.setTop (mkF m 124 #[.val (.ref a1), .val (.ref a2), .val (.ref a3), .val (.int p4), .val (.int p5), .val (.int (ln + (1 : Int32))), .val (.int (0 : Int32))] [(.int (0 : Int32)), (.ref a3)]))
        refine Go.st (fun t k => XS.iload X13.here hx rfl (hb hby d4_124) rfl k) ?_
        show Go p.tables e below PP (T13.setTop (mkF m 126 #[.val (.ref a1), .val (.ref a2), .val (.ref a3), .val (.int p4), .val (.int p5), .val (.int (ln + (1 : Int32))), .val (.int (0 : Int32))] [(.int (ln + (1 : Int32))), (.int (0 : Int32)), (.ref a3)]))
        obtain ⟨cl14, Ar14, S14, Nn14, H14⟩ := id V_a3
        have hin14 : ¬ ((0 : Int32) < 0 ∨ cl14.slots.size ≤ ((0 : Int32)).toNatClampNeg) := inb_of S14 ⟨by decide, by decide⟩
        obtain ⟨T14, h14, X14, e14, W14, st14⟩ := stI X13 hx hZ e13 Ar14 (j := (0 : Int32)) hin14 (g := (mkF m 126 #[.val (.ref a1), .val (.ref a2), .val (.ref a3), .val (.int p4), .val (.int p5), .val (.int (ln + (1 : Int32))), .val (.int (0 : Int32))] [(.int (ln + (1 : Int32))), (.int (0 : Int32)), (.ref a3)])) rfl rfl (hb hby d4_126)
        refine Go.st st14 ?_
        have N14 := Fr.snoc X14 N13 g_a3
        replace E_a1 := E_a1.wr W14
        replace Ft11 := Ft11.other W14 (Or.inl ne_a1_a3)
        replace Fl11 := Fl11.other W14 (Or.inl ne_a1_a3)
        replace Fa11 := Fa11.other W14 (Or.inl ne_a1_a3)
        replace Vt11 := Vt11.other W14 (Ne.symm ne_a3_tx11)
        replace Xt11 := Xt11.wr W14
        replace V_a2 := V_a2.other W14 ne_a2_a3
        replace O := O.wr W14 g_a3
        replace K := K.wr W14 (Or.inl (List.mem_of_getElem? (i := 2) rfl))
        replace Zn : n0 ≤ h14.size := by rw [W14.size]; exact Zn
        replace V_a3 := Afn.set Ar14 S14 Nn14 H14 rfl W14
        show Go p.tables e below PP (T14.setTop (mkF m 127 #[.val (.ref a1), .val (.ref a2), .val (.ref a3), .val (.int p4), .val (.int p5), .val (.int (ln + (1 : Int32))), .val (.int (0 : Int32))] []))
        rw [hPP]
        refine endV X14 hx hlk hret (hb hby d4_127) ?_ (by decide) (by decide)
        show Q4 Z a1 a2 a3 p4 p5 tx cap tg ln av Ee zc ad u8 h0 n0 none T14.heap _
        rw [e14]
        exact ⟨tx11, _, tg11, (fun k => upd Ee ln (dgB (p5.toInt64)) k), (ln + (1 : Int32)), (1 : Int32), rfl, N14, K, hor_tx11, gq11, ⟨Ft11, Fl11, Fa11, Vt11, Xt11⟩, cpq11, V_a2, V_a3.congr (fun k hk => own_st _ _ _ _ k hk), (own_c0 hcp.1 hln hbe hc8 bq11), own_e1, (own_n1 hcp.1 hln)⟩
  · --
    refine Go.st (fun t k => XS.ifNo X0.here hx rfl (hb hby d4_8) rfl (XT.i0_eq_f hc8) k) ?_
    show Go p.tables e below PP (s₁.setTop (mkF m 11 #[.val (.ref a1), .val (.ref a2), .val (.ref a3), .val (.int p4), .val (.int p5), .val (.int ln), .unset] []))
    refine Go.st (fun t k => XS.iconst X0.here hx rfl (hb hby d4_11) k) ?_
    show Go p.tables e below PP (s₁.setTop (mkF m 12 #[.val (.ref a1), .val (.ref a2), .val (.ref a3), .val (.int p4), .val (.int p5), .val (.int ln), .unset] [(.int (1 : Int32))]))
    refine Go.st (fun t k => XS.goto X0.here hx rfl (pc0 := 12) (pc' := 16) rfl (hb hby d4_12) (by decide) (by decide) k) ?_
    show Go p.tables e below PP (s₁.setTop (mkF m 16 #[.val (.ref a1), .val (.ref a2), .val (.ref a3), .val (.int p4), .val (.int p5), .val (.int ln), .unset] [(.int (1 : Int32))]))
    refine Go.st (fun t k => XS.istore X0.here hx rfl (hb hby d4_16) rfl (l' := #[.val (.ref a1), .val (.ref a2), .val (.ref a3), .val (.int p4), .val (.int p5), .val (.int ln), .val (.int (1 : Int32))]) rfl k) ?_
    show Go p.tables e below PP (s₁.setTop (mkF m 18 #[.val (.ref a1), .val (.ref a2), .val (.ref a3), .val (.int p4), .val (.int p5), .val (.int ln), .val (.int (1 : Int32))] []))
    refine Go.st (fun t k => XS.iloadN X0.here hx rfl (hb hby d4_18) rfl k) ?_
    show Go p.tables e below PP (s₁.setTop (mkF m 19 #[.val (.ref a1), .val (.ref a2), .val (.ref a3), .val (.int p4), .val (.int p5), .val (.int ln), .val (.int (1 : Int32))] [(.int p4)]))
    by_cases hc19 : p4 = (0 : Int32)
    · --
      refine Go.st (fun t k => XS.ifNo X0.here hx rfl (hb hby d4_19) rfl (XT.i0_ne_f hc19) k) ?_
      show Go p.tables e below PP (s₁.setTop (mkF m 22 #[.val (.ref a1), .val (.ref a2), .val (.ref a3), .val (.int p4), .val (.int p5), .val (.int ln), .val (.int (1 : Int32))] []))
      refine Go.st (fun t k => XS.aloadN X0.here hx rfl (hb hby d4_22) rfl rfl k) ?_
      show Go p.tables e below PP (s₁.setTop (mkF m 23 #[.val (.ref a1), .val (.ref a2), .val (.ref a3), .val (.int p4), .val (.int p5), .val (.int ln), .val (.int (1 : Int32))] [(.ref a1)]))
      obtain ⟨v15, T15, L15, X15, hQ15, st15⟩ := callVi X0 hx hZ (C := "com/example/facet_hierarchy_store/facethierarchystore/http/JsonWriter") (y := (⟨"com/example/facet_hierarchy_store/facethierarchystore/http/JsonWriter", "array", "()Lcom/example/facet_hierarchy_store/facethierarchystore/http/JsonWriter;"⟩ : MethodName)) (z := (⟨"com/example/facet_hierarchy_store/facethierarchystore/http/JsonWriter", "array", "()Lcom/example/facet_hierarchy_store/facethierarchystore/http/JsonWriter;"⟩ : MethodName)) (a := a1) (argsL := []) (rest := []) hown (hw _ (List.mem_of_getElem? (i := 134) rfl)) (hw _ (List.mem_of_getElem? (i := 135) rfl)) (notFace_of_selects (args := #[]) (mvT hZ (hw _ (List.mem_of_getElem? (i := 137) rfl)))) (hw _ (List.mem_of_getElem? (i := 137) rfl)) (hw _ (List.mem_of_getElem? (i := 136) rfl)) (hw _ (List.mem_of_getElem? (i := 2) rfl)) (hw _ (List.mem_of_getElem? (i := 138) rfl)) (by decide) rfl E_a1 (rm25 l Z a0 hw [] a1 tx cap tg ln av h0 n0 Zn E_a1 F_text_a1 F_length_a1 F_afterValue_a1 V_tx E_tx g_a1 g_tx ne_a1_tx hcp hln) e0 0 (by decide) (by decide) (by decide) (by decide) (g := (mkF m 23 #[.val (.ref a1), .val (.ref a2), .val (.ref a3), .val (.int p4), .val (.int p5), .val (.int ln), .val (.int (1 : Int32))] [(.ref a1)])) rfl (by rw [hml]; rfl) (lenOf pd_18 rfl) rfl (by show 2 * 0 + _ ≤ _; exact Nat.le_of_eq rfl) (hb hby d4_23)
      obtain ⟨h15, e15⟩ : ∃ z, T15.heap = z := ⟨_, rfl⟩
      rw [e15] at hQ15
      obtain ⟨tx15, cc15, tg15, rfl, Nq15, Kq15, oq15, gq15, ⟨Ft15, Fl15, Fa15, Vt15, Xt15⟩, cpq15, bq15⟩ := hQ15
      have N15 := Fr.app N0 Nq15
      have ne_a1_tx15 : a1 ≠ tx15 := oq15.elim (fun q => by rw [q]; exact ne_a1_tx) (fun q => Nat.ne_of_lt (Nat.lt_of_lt_of_le E_a1.lt q))
      have ne_a2_tx15 : a2 ≠ tx15 := oq15.elim (fun q => by rw [q]; exact ne_a2_tx) (fun q => Nat.ne_of_lt (Nat.lt_of_lt_of_le V_a2.lt q))
      have ne_a3_tx15 : a3 ≠ tx15 := oq15.elim (fun q => by rw [q]; exact ne_a3_tx) (fun q => Nat.ne_of_lt (Nat.lt_of_lt_of_le V_a3.lt q))
      have kp_tx15 : tx15 ∈ [a1, a2, a3, tx] ∨ h0.size ≤ tx15 := oq15.elim (fun q => by rw [q]; exact (Or.inl (List.mem_of_getElem? (i := 3) rfl))) (fun q => Or.inr (Nat.le_trans K.1 q))
      have hor_tx15 : tx15 = tx ∨ h0.size ≤ tx15 := oq15.elim (fun q => by rw [q]; exact (Or.inl rfl)) (fun q => Or.inr (Nat.le_trans K.1 q))
      replace E_a1 := E_a1.keep Kq15
      clear F_text_a1
      clear F_length_a1
      clear F_afterValue_a1
      clear V_tx
      replace V_a2 := V_a2.keep Kq15 (ninS (Ne.symm ne_a1_a2) (ninS ne_a2_tx nin0))
      replace V_a3 := V_a3.keep Kq15 (ninS (Ne.symm ne_a1_a3) (ninS ne_a3_tx nin0))
      replace O := O.keep Kq15 (allS g_a1 (allS g_tx all0))
      replace K := K.trans Kq15 (allS (Or.inl (List.mem_of_getElem? (i := 0) rfl)) (allS (Or.inl (List.mem_of_getElem? (i := 3) rfl)) all0))
      replace Zn := Nat.le_trans Zn Kq15.1
      refine Go.st st15 ?_
      rw [own_sl1 hc8] at Fl15 cpq15 bq15
      show Go p.tables e below PP (T15.setTop (mkF m 26 #[.val (.ref a1), .val (.ref a2), .val (.ref a3), .val (.int p4), .val (.int p5), .val (.int ln), .val (.int (1 : Int32))] [(.ref a1)]))
      refine Go.st (fun t k => XS.pop X15.here hx rfl (hb hby d4_26) rfl rfl k) ?_
      show Go p.tables e below PP (T15.setTop (mkF m 27 #[.val (.ref a1), .val (.ref a2), .val (.ref a3), .val (.int p4), .val (.int p5), .val (.int ln), .val (.int (1 : Int32))] []))
      refine Go.st (fun t k => XS.iload X15.here hx rfl (hb hby d4_27) rfl k) ?_
      show Go p.tables e below PP (T15.setTop (mkF m 29 #[.val (.ref a1), .val (.ref a2), .val (.ref a3), .val (.int p4), .val (.int p5), .val (.int ln), .val (.int (1 : Int32))] [(.int (1 : Int32))]))
      refine Go.st (fun t k => XS.ifNo X15.here hx rfl (hb hby d4_29) rfl (XT.i0_eq_f (by decide)) k) ?_
      show Go p.tables e below PP (T15.setTop (mkF m 32 #[.val (.ref a1), .val (.ref a2), .val (.ref a3), .val (.int p4), .val (.int p5), .val (.int ln), .val (.int (1 : Int32))] []))
      refine Go.st (fun t k => XS.aloadN X15.here hx rfl (hb hby d4_32) rfl rfl k) ?_
      show Go p.tables e below PP (T15.setTop (mkF m 33 #[.val (.ref a1), .val (.ref a2), .val (.ref a3), .val (.int p4), .val (.int p5), .val (.int ln), .val (.int (1 : Int32))] [(.ref a2)]))
      refine Go.st (fun t k => XS.iload X15.here hx rfl (hb hby d4_33) rfl k) ?_
      show Go p.tables e below PP (T15.setTop (mkF m 35 #[.val (.ref a1), .val (.ref a2), .val (.ref a3), .val (.int p4), .val (.int p5), .val (.int ln), .val (.int (1 : Int32))] [(.int ln), (.ref a2)]))
      refine Go.st (fun t k => XS.iinc X15.here hx rfl (hb hby d4_35) rfl (l' := #[.val (.ref a1), .val (.ref a2), .val (.ref a3), .val (.int p4), .val (.int p5), .val (.int (ln + (1 : Int32))), .val (.int (1 : Int32))]) rfl k) ?_
      show Go p.tables e below PP (T15.setTop (mkF m 38 #[.val (.ref a1), .val (.ref a2), .val (.ref a3), .val (.int p4), .val (.int p5), .val (.int (ln + (1 : Int32))), .val (.int (1 : Int32))] [(.int ln), (.ref a2)]))
      refine Go.st (fun t k => XS.bipush X15.here hx rfl (hb hby d4_38) k) ?_
      show Go p.tables e below PP (T15.setTop (mkF m 40 #[.val (.ref a1), .val (.ref a2), .val (.ref a3), .val (.int p4), .val (.int p5), .val (.int (ln + (1 : Int32))), .val (.int (1 : Int32))] [(.int (44 : Int32)), (.int ln), (.ref a2)]))
      obtain ⟨cl16, Ar16, S16, Nn16, H16⟩ := id V_a2
      have hin16 : ¬ (ln < 0 ∨ cl16.slots.size ≤ (ln).toNatClampNeg) := inb_of S16 (own_i8a hcp.1 hln).1
      obtain ⟨T16, h16, X16, e16, W16, st16⟩ := stB X15 hx hZ e15 Ar16 (j := ln) hin16 (g := (mkF m 40 #[.val (.ref a1), .val (.ref a2), .val (.ref a3), .val (.int p4), .val (.int p5), .val (.int (ln + (1 : Int32))), .val (.int (1 : Int32))] [(.int (44 : Int32)), (.int ln), (.ref a2)])) rfl rfl (hb hby d4_40)
      refine Go.st st16 ?_
      have N16 := Fr.snoc X16 N15 g_a2
      replace E_a1 := E_a1.wr W16
      replace V_a3 := V_a3.other W16 (Ne.symm ne_a2_a3)
      replace Ft15 := Ft15.other W16 (Or.inl ne_a1_a2)
      replace Fl15 := Fl15.other W16 (Or.inl ne_a1_a2)
      replace Fa15 := Fa15.other W16 (Or.inl ne_a1_a2)
      replace Vt15 := Vt15.other W16 (Ne.symm ne_a2_tx15)
      replace Xt15 := Xt15.wr W16
      replace O := O.wr W16 g_a2
      replace K := K.wr W16 (Or.inl (List.mem_of_getElem? (i := 1) rfl))
      replace Zn : n0 ≤ h16.size := by rw [W16.size]; exact Zn
      replace V_a2 := Afn.set Ar16 S16 Nn16 H16 (fits_nar_byte _) W16
      replace V_a2 := V_a2.congr (g := fun k => .int (upd Ee ln ((44 : Int32).toInt8.toInt32) k)) (fun k _ => by exact own_ups _ _ _ k)
      show Go p.tables e below PP (T16.setTop (mkF m 41 #[.val (.ref a1), .val (.ref a2), .val (.ref a3), .val (.int p4), .val (.int p5), .val (.int (ln + (1 : Int32))), .val (.int (1 : Int32))] []))
      refine Go.st (fun t k => XS.aloadN X16.here hx rfl (hb hby d4_41) rfl rfl k) ?_
      show Go p.tables e below PP (T16.setTop (mkF m 42 #[.val (.ref a1), .val (.ref a2), .val (.ref a3), .val (.int p4), .val (.int p5), .val (.int (ln + (1 : Int32))), .val (.int (1 : Int32))] [(.ref a2)]))
      refine Go.st (fun t k => XS.iload X16.here hx rfl (hb hby d4_42) rfl k) ?_
      show Go p.tables e below PP (T16.setTop (mkF m 44 #[.val (.ref a1), .val (.ref a2), .val (.ref a3), .val (.int p4), .val (.int p5), .val (.int (ln + (1 : Int32))), .val (.int (1 : Int32))] [(.int (ln + (1 : Int32))), (.ref a2)]))
      refine Go.st (fun t k => XS.iinc X16.here hx rfl (hb hby d4_44) rfl (l' := #[.val (.ref a1), .val (.ref a2), .val (.ref a3), .val (.int p4), .val (.int p5), .val (.int ((ln + (1 : Int32)) + (1 : Int32))), .val (.int (1 : Int32))]) rfl k) ?_
      show Go p.tables e below PP (T16.setTop (mkF m 47 #[.val (.ref a1), .val (.ref a2), .val (.ref a3), .val (.int p4), .val (.int p5), .val (.int ((ln + (1 : Int32)) + (1 : Int32))), .val (.int (1 : Int32))] [(.int (ln + (1 : Int32))), (.ref a2)]))
      refine Go.st (fun t k => XS.bipush X16.here hx rfl (hb hby d4_47) k) ?_
      show Go p.tables e below PP (T16.setTop (mkF m 49 #[.val (.ref a1), .val (.ref a2), .val (.ref a3), .val (.int p4), .val (.int p5), .val (.int ((ln + (1 : Int32)) + (1 : Int32))), .val (.int (1 : Int32))] [(.int (91 : Int32)), (.int (ln + (1 : Int32))), (.ref a2)]))
      obtain ⟨cl17, Ar17, S17, Nn17, H17⟩ := id V_a2
      have hin17 : ¬ ((ln + (1 : Int32)) < 0 ∨ cl17.slots.size ≤ ((ln + (1 : Int32))).toNatClampNeg) := inb_of S17 (own_i8a hcp.1 hln).2
      obtain ⟨T17, h17, X17, e17, W17, st17⟩ := stB X16 hx hZ e16 Ar17 (j := (ln + (1 : Int32))) hin17 (g := (mkF m 49 #[.val (.ref a1), .val (.ref a2), .val (.ref a3), .val (.int p4), .val (.int p5), .val (.int ((ln + (1 : Int32)) + (1 : Int32))), .val (.int (1 : Int32))] [(.int (91 : Int32)), (.int (ln + (1 : Int32))), (.ref a2)])) rfl rfl (hb hby d4_49)
      refine Go.st st17 ?_
      have N17 := Fr.snoc X17 N16 g_a2
      replace E_a1 := E_a1.wr W17
      replace V_a3 := V_a3.other W17 (Ne.symm ne_a2_a3)
      replace Ft15 := Ft15.other W17 (Or.inl ne_a1_a2)
      replace Fl15 := Fl15.other W17 (Or.inl ne_a1_a2)
      replace Fa15 := Fa15.other W17 (Or.inl ne_a1_a2)
      replace Vt15 := Vt15.other W17 (Ne.symm ne_a2_tx15)
      replace Xt15 := Xt15.wr W17
      replace O := O.wr W17 g_a2
      replace K := K.wr W17 (Or.inl (List.mem_of_getElem? (i := 1) rfl))
      replace Zn : n0 ≤ h17.size := by rw [W17.size]; exact Zn
      replace V_a2 := Afn.set Ar17 S17 Nn17 H17 (fits_nar_byte _) W17
      replace V_a2 := V_a2.congr (g := fun k => .int (upd (fun k => upd Ee ln ((44 : Int32).toInt8.toInt32) k) (ln + (1 : Int32)) ((91 : Int32).toInt8.toInt32) k)) (fun k _ => by exact own_ups _ _ _ k)
      show Go p.tables e below PP (T17.setTop (mkF m 50 #[.val (.ref a1), .val (.ref a2), .val (.ref a3), .val (.int p4), .val (.int p5), .val (.int ((ln + (1 : Int32)) + (1 : Int32))), .val (.int (1 : Int32))] []))
      refine Go.st (fun t k => XS.aloadN X17.here hx rfl (hb hby d4_50) rfl rfl k) ?_
      show Go p.tables e below PP (T17.setTop (mkF m 51 #[.val (.ref a1), .val (.ref a2), .val (.ref a3), .val (.int p4), .val (.int p5), .val (.int ((ln + (1 : Int32)) + (1 : Int32))), .val (.int (1 : Int32))] [(.ref a3)]))
      refine Go.st (fun t k => XS.iconst X17.here hx rfl (hb hby d4_51) k) ?_
      show Go p.tables e below PP (T17.setTop (mkF m 52 #[.val (.ref a1), .val (.ref a2), .val (.ref a3), .val (.int p4), .val (.int p5), .val (.int ((ln + (1 : Int32)) + (1 : Int32))), .val (.int (1 : Int32))] [(.int (1 : Int32)), (.ref a3)]))
      refine Go.st (fun t k => XS.iconst X17.here hx rfl (hb hby d4_52) k) ?_
      show Go p.tables e below PP (T17.setTop (mkF m 53 #[.val (.ref a1), .val (.ref a2), .val (.ref a3), .val (.int p4), .val (.int p5), .val (.int ((ln + (1 : Int32)) + (1 : Int32))), .val (.int (1 : Int32))] [(.int (0 : Int32)), (.int (1 : Int32)), (.ref a3)]))
      obtain ⟨cl18, Ar18, S18, Nn18, H18⟩ := id V_a3
      have hin18 : ¬ ((1 : Int32) < 0 ∨ cl18.slots.size ≤ ((1 : Int32)).toNatClampNeg) := inb_of S18 ⟨by decide, by decide⟩
      obtain ⟨T18, h18, X18, e18, W18, st18⟩ := stI X17 hx hZ e17 Ar18 (j := (1 : Int32)) hin18 (g := (mkF m 53 #[.val (.ref a1), .val (.ref a2), .val (.ref a3), .val (.int p4), .val (.int p5), .val (.int ((ln + (1 : Int32)) + (1 : Int32))), .val (.int (1 : Int32))] [(.int (0 : Int32)), (.int (1 : Int32)), (.ref a3)])) rfl rfl (hb hby d4_53)
      refine Go.st st18 ?_
      have N18 := Fr.snoc X18 N17 g_a3
      replace E_a1 := E_a1.wr W18
      replace Ft15 := Ft15.other W18 (Or.inl ne_a1_a3)
      replace Fl15 := Fl15.other W18 (Or.inl ne_a1_a3)
      replace Fa15 := Fa15.other W18 (Or.inl ne_a1_a3)
      replace Vt15 := Vt15.other W18 (Ne.symm ne_a3_tx15)
      replace Xt15 := Xt15.wr W18
      replace V_a2 := V_a2.other W18 ne_a2_a3
      replace O := O.wr W18 g_a3
      replace K := K.wr W18 (Or.inl (List.mem_of_getElem? (i := 2) rfl))
      replace Zn : n0 ≤ h18.size := by rw [W18.size]; exact Zn
      replace V_a3 := Afn.set Ar18 S18 Nn18 H18 rfl W18
      show Go p.tables e below PP (T18.setTop (mkF m 54 #[.val (.ref a1), .val (.ref a2), .val (.ref a3), .val (.int p4), .val (.int p5), .val (.int ((ln + (1 : Int32)) + (1 : Int32))), .val (.int (1 : Int32))] []))
      refine Go.st (fun t k => XS.goto X18.here hx rfl (pc0 := 54) (pc' := 122) rfl (hb hby d4_54) (by decide) (by decide) k) ?_
      show Go p.tables e below PP (T18.setTop (mkF m 122 #[.val (.ref a1), .val (.ref a2), .val (.ref a3), .val (.int p4), .val (.int p5), .val (.int ((ln + (1 : Int32)) + (1 : Int32))), .val (.int (1 : Int32))] []))
      refine Go.st (fun t k => XS.aloadN X18.here hx rfl (hb hby d4_122) rfl rfl k) ?_
      show Go p.tables e below PP (T18.setTop (mkF m 123 #[.val (.ref a1), .val (.ref a2), .val (.ref a3), .val (.int p4), .val (.int p5), .val (.int ((ln + (1 : Int32)) + (1 : Int32))), .val (.int (1 : Int32))] [(.ref a3)]))
      refine Go.st (fun t k => XS.iconst X18.here hx rfl (hb hby d4_123) k) ?_
      show Go p.tables e below PP (T18.setTop (mkF m 124 #[.val (.ref a1), .val (.ref a2), .val (.ref a3), .val (.int p4), .val (.int p5), .val (.int ((ln + (1 : Int32)) + (1 : Int32))), .val (.int (1 : Int32))] [(.int (0 : Int32)), (.ref a3)]))
      refine Go.st (fun t k => XS.iload X18.here hx rfl (hb hby d4_124) rfl k) ?_
      show Go p.tables e below PP (T18.setTop (mkF m 126 #[.val (.ref a1), .val (.ref a2), .val (.ref a3), .val (.int p4), .val (.int p5), .val (.int ((ln + (1 : Int32)) + (1 : Int32))), .val (.int (1 : Int32))] [(.int ((ln + (1 : Int32)) + (1 : Int32))), (.int (0 : Int32)), (.ref a3)]))
      obtain ⟨cl19, Ar19, S19, Nn19, H19⟩ := id V_a3
      have hin19 : ¬ ((0 : Int32) < 0 ∨ cl19.slots.size ≤ ((0 : Int32)).toNatClampNeg) := inb_of S19 ⟨by decide, by decide⟩
      obtain ⟨T19, h19, X19, e19, W19, st19⟩ := stI X18 hx hZ e18 Ar19 (j := (0 : Int32)) hin19 (g := (mkF m 126 #[.val (.ref a1), .val (.ref a2), .val (.ref a3), .val (.int p4), .val (.int p5), .val (.int ((ln + (1 : Int32)) + (1 : Int32))), .val (.int (1 : Int32))] [(.int ((ln + (1 : Int32)) + (1 : Int32))), (.int (0 : Int32)), (.ref a3)])) rfl rfl (hb hby d4_126)
      refine Go.st st19 ?_
      have N19 := Fr.snoc X19 N18 g_a3
      replace E_a1 := E_a1.wr W19
      replace Ft15 := Ft15.other W19 (Or.inl ne_a1_a3)
      replace Fl15 := Fl15.other W19 (Or.inl ne_a1_a3)
      replace Fa15 := Fa15.other W19 (Or.inl ne_a1_a3)
      replace Vt15 := Vt15.other W19 (Ne.symm ne_a3_tx15)
      replace Xt15 := Xt15.wr W19
      replace V_a2 := V_a2.other W19 ne_a2_a3
      replace O := O.wr W19 g_a3
      replace K := K.wr W19 (Or.inl (List.mem_of_getElem? (i := 2) rfl))
      replace Zn : n0 ≤ h19.size := by rw [W19.size]; exact Zn
      replace V_a3 := Afn.set Ar19 S19 Nn19 H19 rfl W19
      show Go p.tables e below PP (T19.setTop (mkF m 127 #[.val (.ref a1), .val (.ref a2), .val (.ref a3), .val (.int p4), .val (.int p5), .val (.int ((ln + (1 : Int32)) + (1 : Int32))), .val (.int (1 : Int32))] []))
      rw [hPP]
      refine endV X19 hx hlk hret (hb hby d4_127) ?_ (by decide) (by decide)
      show Q4 Z a1 a2 a3 p4 p5 tx cap tg ln av Ee zc ad u8 h0 n0 none T19.heap _
      rw [e19]
      exact ⟨tx15, _, tg15, (fun k => upd (fun k => upd Ee ln ((44 : Int32).toInt8.toInt32) k) (ln + (1 : Int32)) ((91 : Int32).toInt8.toInt32) k), ((ln + (1 : Int32)) + (1 : Int32)), (0 : Int32), rfl, N19, K, hor_tx15, gq15, ⟨Ft15, Fl15, Fa15, Vt15, Xt15⟩, cpq15, V_a2, V_a3.congr (fun k hk => own_st _ _ _ _ k hk), (own_c1 hcp.1 hln hbe hc8 bq15), (own_e2 hcp.1 hln), (own_n2 hcp.1 hln)⟩
    · --
      refine Go.st (fun t k => XS.ifYes X0.here hx rfl (pc0 := 19) (pc' := 57) rfl (hb hby d4_19) rfl (XT.i0_ne_t hc19) (by decide) (by decide) k) ?_
      show Go p.tables e below PP (s₁.setTop (mkF m 57 #[.val (.ref a1), .val (.ref a2), .val (.ref a3), .val (.int p4), .val (.int p5), .val (.int ln), .val (.int (1 : Int32))] []))
      refine Go.st (fun t k => XS.iloadN X0.here hx rfl (hb hby d4_57) rfl k) ?_
      show Go p.tables e below PP (s₁.setTop (mkF m 58 #[.val (.ref a1), .val (.ref a2), .val (.ref a3), .val (.int p4), .val (.int p5), .val (.int ln), .val (.int (1 : Int32))] [(.int p4)]))
      refine Go.st (fun t k => XS.iconst X0.here hx rfl (hb hby d4_58) k) ?_
      show Go p.tables e below PP (s₁.setTop (mkF m 59 #[.val (.ref a1), .val (.ref a2), .val (.ref a3), .val (.int p4), .val (.int p5), .val (.int ln), .val (.int (1 : Int32))] [(.int (1 : Int32)), (.int p4)]))
      by_cases hc59 : p4 = (1 : Int32)
      · --
        refine Go.st (fun t k => XS.icmpNo X0.here hx rfl (hb hby d4_59) rfl (XT.ii_ne_f hc59) k) ?_
        show Go p.tables e below PP (s₁.setTop (mkF m 62 #[.val (.ref a1), .val (.ref a2), .val (.ref a3), .val (.int p4), .val (.int p5), .val (.int ln), .val (.int (1 : Int32))] []))
        refine Go.st (fun t k => XS.aloadN X0.here hx rfl (hb hby d4_62) rfl rfl k) ?_
        show Go p.tables e below PP (s₁.setTop (mkF m 63 #[.val (.ref a1), .val (.ref a2), .val (.ref a3), .val (.int p4), .val (.int p5), .val (.int ln), .val (.int (1 : Int32))] [(.ref a1)]))
        obtain ⟨v20, T20, L20, X20, hQ20, st20⟩ := callVi X0 hx hZ (C := "com/example/facet_hierarchy_store/facethierarchystore/http/JsonWriter") (y := (⟨"com/example/facet_hierarchy_store/facethierarchystore/http/JsonWriter", "endArray", "()Lcom/example/facet_hierarchy_store/facethierarchystore/http/JsonWriter;"⟩ : MethodName)) (z := (⟨"com/example/facet_hierarchy_store/facethierarchystore/http/JsonWriter", "endArray", "()Lcom/example/facet_hierarchy_store/facethierarchystore/http/JsonWriter;"⟩ : MethodName)) (a := a1) (argsL := []) (rest := []) hown (hw _ (List.mem_of_getElem? (i := 147) rfl)) (hw _ (List.mem_of_getElem? (i := 148) rfl)) (notFace_of_selects (args := #[]) (mvT hZ (hw _ (List.mem_of_getElem? (i := 150) rfl)))) (hw _ (List.mem_of_getElem? (i := 150) rfl)) (hw _ (List.mem_of_getElem? (i := 149) rfl)) (hw _ (List.mem_of_getElem? (i := 2) rfl)) (hw _ (List.mem_of_getElem? (i := 151) rfl)) (by decide) rfl E_a1 (rm28 l Z a0 hw [] a1 tx cap tg ln av h0 n0 Zn E_a1 F_text_a1 F_length_a1 F_afterValue_a1 V_tx E_tx g_a1 g_tx ne_a1_tx hcp hln) e0 0 (by decide) (by decide) (by decide) (by decide) (g := (mkF m 63 #[.val (.ref a1), .val (.ref a2), .val (.ref a3), .val (.int p4), .val (.int p5), .val (.int ln), .val (.int (1 : Int32))] [(.ref a1)])) rfl (by rw [hml]; rfl) (lenOf pd_18 rfl) rfl (by show 2 * 0 + _ ≤ _; exact Nat.le_of_eq rfl) (hb hby d4_63)
        obtain ⟨h20, e20⟩ : ∃ z, T20.heap = z := ⟨_, rfl⟩
        rw [e20] at hQ20
        obtain ⟨tx20, cc20, tg20, rfl, Nq20, Kq20, oq20, gq20, ⟨Ft20, Fl20, Fa20, Vt20, Xt20⟩, cpq20, bq20⟩ := hQ20
        have N20 := Fr.app N0 Nq20
        have ne_a1_tx20 : a1 ≠ tx20 := oq20.elim (fun q => by rw [q]; exact ne_a1_tx) (fun q => Nat.ne_of_lt (Nat.lt_of_lt_of_le E_a1.lt q))
        have ne_a2_tx20 : a2 ≠ tx20 := oq20.elim (fun q => by rw [q]; exact ne_a2_tx) (fun q => Nat.ne_of_lt (Nat.lt_of_lt_of_le V_a2.lt q))
        have ne_a3_tx20 : a3 ≠ tx20 := oq20.elim (fun q => by rw [q]; exact ne_a3_tx) (fun q => Nat.ne_of_lt (Nat.lt_of_lt_of_le V_a3.lt q))
        have kp_tx20 : tx20 ∈ [a1, a2, a3, tx] ∨ h0.size ≤ tx20 := oq20.elim (fun q => by rw [q]; exact (Or.inl (List.mem_of_getElem? (i := 3) rfl))) (fun q => Or.inr (Nat.le_trans K.1 q))
        have hor_tx20 : tx20 = tx ∨ h0.size ≤ tx20 := oq20.elim (fun q => by rw [q]; exact (Or.inl rfl)) (fun q => Or.inr (Nat.le_trans K.1 q))
        replace E_a1 := E_a1.keep Kq20
        clear F_text_a1
        clear F_length_a1
        clear F_afterValue_a1
        clear V_tx
        replace V_a2 := V_a2.keep Kq20 (ninS (Ne.symm ne_a1_a2) (ninS ne_a2_tx nin0))
        replace V_a3 := V_a3.keep Kq20 (ninS (Ne.symm ne_a1_a3) (ninS ne_a3_tx nin0))
        replace O := O.keep Kq20 (allS g_a1 (allS g_tx all0))
        replace K := K.trans Kq20 (allS (Or.inl (List.mem_of_getElem? (i := 0) rfl)) (allS (Or.inl (List.mem_of_getElem? (i := 3) rfl)) all0))
        replace Zn := Nat.le_trans Zn Kq20.1
        refine Go.st st20 ?_
        show Go p.tables e below PP (T20.setTop (mkF m 66 #[.val (.ref a1), .val (.ref a2), .val (.ref a3), .val (.int p4), .val (.int p5), .val (.int ln), .val (.int (1 : Int32))] [(.ref a1)]))
        refine Go.st (fun t k => XS.pop X20.here hx rfl (hb hby d4_66) rfl rfl k) ?_
        show Go p.tables e below PP (T20.setTop (mkF m 67 #[.val (.ref a1), .val (.ref a2), .val (.ref a3), .val (.int p4), .val (.int p5), .val (.int ln), .val (.int (1 : Int32))] []))
        refine Go.st (fun t k => XS.aloadN X20.here hx rfl (hb hby d4_67) rfl rfl k) ?_
        show Go p.tables e below PP (T20.setTop (mkF m 68 #[.val (.ref a1), .val (.ref a2), .val (.ref a3), .val (.int p4), .val (.int p5), .val (.int ln), .val (.int (1 : Int32))] [(.ref a2)]))
        refine Go.st (fun t k => XS.iload X20.here hx rfl (hb hby d4_68) rfl k) ?_
        show Go p.tables e below PP (T20.setTop (mkF m 70 #[.val (.ref a1), .val (.ref a2), .val (.ref a3), .val (.int p4), .val (.int p5), .val (.int ln), .val (.int (1 : Int32))] [(.int ln), (.ref a2)]))
        refine Go.st (fun t k => XS.iinc X20.here hx rfl (hb hby d4_70) rfl (l' := #[.val (.ref a1), .val (.ref a2), .val (.ref a3), .val (.int p4), .val (.int p5), .val (.int (ln + (1 : Int32))), .val (.int (1 : Int32))]) rfl k) ?_
        show Go p.tables e below PP (T20.setTop (mkF m 73 #[.val (.ref a1), .val (.ref a2), .val (.ref a3), .val (.int p4), .val (.int p5), .val (.int (ln + (1 : Int32))), .val (.int (1 : Int32))] [(.int ln), (.ref a2)]))
        refine Go.st (fun t k => XS.bipush X20.here hx rfl (hb hby d4_73) k) ?_
        show Go p.tables e below PP (T20.setTop (mkF m 75 #[.val (.ref a1), .val (.ref a2), .val (.ref a3), .val (.int p4), .val (.int p5), .val (.int (ln + (1 : Int32))), .val (.int (1 : Int32))] [(.int (93 : Int32)), (.int ln), (.ref a2)]))
        obtain ⟨cl21, Ar21, S21, Nn21, H21⟩ := id V_a2
        have hin21 : ¬ (ln < 0 ∨ cl21.slots.size ≤ (ln).toNatClampNeg) := inb_of S21 (own_i8a hcp.1 hln).1
        obtain ⟨T21, h21, X21, e21, W21, st21⟩ := stB X20 hx hZ e20 Ar21 (j := ln) hin21 (g := (mkF m 75 #[.val (.ref a1), .val (.ref a2), .val (.ref a3), .val (.int p4), .val (.int p5), .val (.int (ln + (1 : Int32))), .val (.int (1 : Int32))] [(.int (93 : Int32)), (.int ln), (.ref a2)])) rfl rfl (hb hby d4_75)
        refine Go.st st21 ?_
        have N21 := Fr.snoc X21 N20 g_a2
        replace E_a1 := E_a1.wr W21
        replace V_a3 := V_a3.other W21 (Ne.symm ne_a2_a3)
        replace Ft20 := Ft20.other W21 (Or.inl ne_a1_a2)
        replace Fl20 := Fl20.other W21 (Or.inl ne_a1_a2)
        replace Fa20 := Fa20.other W21 (Or.inl ne_a1_a2)
        replace Vt20 := Vt20.other W21 (Ne.symm ne_a2_tx20)
        replace Xt20 := Xt20.wr W21
        replace O := O.wr W21 g_a2
        replace K := K.wr W21 (Or.inl (List.mem_of_getElem? (i := 1) rfl))
        replace Zn : n0 ≤ h21.size := by rw [W21.size]; exact Zn
        replace V_a2 := Afn.set Ar21 S21 Nn21 H21 (fits_nar_byte _) W21
        replace V_a2 := V_a2.congr (g := fun k => .int (upd Ee ln ((93 : Int32).toInt8.toInt32) k)) (fun k _ => by exact own_ups _ _ _ k)
        show Go p.tables e below PP (T21.setTop (mkF m 76 #[.val (.ref a1), .val (.ref a2), .val (.ref a3), .val (.int p4), .val (.int p5), .val (.int (ln + (1 : Int32))), .val (.int (1 : Int32))] []))
        refine Go.st (fun t k => XS.aloadN X21.here hx rfl (hb hby d4_76) rfl rfl k) ?_
        show Go p.tables e below PP (T21.setTop (mkF m 77 #[.val (.ref a1), .val (.ref a2), .val (.ref a3), .val (.int p4), .val (.int p5), .val (.int (ln + (1 : Int32))), .val (.int (1 : Int32))] [(.ref a3)]))
        refine Go.st (fun t k => XS.iconst X21.here hx rfl (hb hby d4_77) k) ?_
        show Go p.tables e below PP (T21.setTop (mkF m 78 #[.val (.ref a1), .val (.ref a2), .val (.ref a3), .val (.int p4), .val (.int p5), .val (.int (ln + (1 : Int32))), .val (.int (1 : Int32))] [(.int (1 : Int32)), (.ref a3)]))
        refine Go.st (fun t k => XS.iconst X21.here hx rfl (hb hby d4_78) k) ?_
        show Go p.tables e below PP (T21.setTop (mkF m 79 #[.val (.ref a1), .val (.ref a2), .val (.ref a3), .val (.int p4), .val (.int p5), .val (.int (ln + (1 : Int32))), .val (.int (1 : Int32))] [(.int (1 : Int32)), (.int (1 : Int32)), (.ref a3)]))
        obtain ⟨cl22, Ar22, S22, Nn22, H22⟩ := id V_a3
        have hin22 : ¬ ((1 : Int32) < 0 ∨ cl22.slots.size ≤ ((1 : Int32)).toNatClampNeg) := inb_of S22 ⟨by decide, by decide⟩
        obtain ⟨T22, h22, X22, e22, W22, st22⟩ := stI X21 hx hZ e21 Ar22 (j := (1 : Int32)) hin22 (g := (mkF m 79 #[.val (.ref a1), .val (.ref a2), .val (.ref a3), .val (.int p4), .val (.int p5), .val (.int (ln + (1 : Int32))), .val (.int (1 : Int32))] [(.int (1 : Int32)), (.int (1 : Int32)), (.ref a3)])) rfl rfl (hb hby d4_79)
        refine Go.st st22 ?_
        have N22 := Fr.snoc X22 N21 g_a3
        replace E_a1 := E_a1.wr W22
        replace Ft20 := Ft20.other W22 (Or.inl ne_a1_a3)
        replace Fl20 := Fl20.other W22 (Or.inl ne_a1_a3)
        replace Fa20 := Fa20.other W22 (Or.inl ne_a1_a3)
        replace Vt20 := Vt20.other W22 (Ne.symm ne_a3_tx20)
        replace Xt20 := Xt20.wr W22
        replace V_a2 := V_a2.other W22 ne_a2_a3
        replace O := O.wr W22 g_a3
        replace K := K.wr W22 (Or.inl (List.mem_of_getElem? (i := 2) rfl))
        replace Zn : n0 ≤ h22.size := by rw [W22.size]; exact Zn
        replace V_a3 := Afn.set Ar22 S22 Nn22 H22 rfl W22
        show Go p.tables e below PP (T22.setTop (mkF m 80 #[.val (.ref a1), .val (.ref a2), .val (.ref a3), .val (.int p4), .val (.int p5), .val (.int (ln + (1 : Int32))), .val (.int (1 : Int32))] []))
        refine Go.st (fun t k => XS.goto X22.here hx rfl (pc0 := 80) (pc' := 122) rfl (hb hby d4_80) (by decide) (by decide) k) ?_
        show Go p.tables e below PP (T22.setTop (mkF m 122 #[.val (.ref a1), .val (.ref a2), .val (.ref a3), .val (.int p4), .val (.int p5), .val (.int (ln + (1 : Int32))), .val (.int (1 : Int32))] []))
        refine Go.st (fun t k => XS.aloadN X22.here hx rfl (hb hby d4_122) rfl rfl k) ?_
        show Go p.tables e below PP (T22.setTop (mkF m 123 #[.val (.ref a1), .val (.ref a2), .val (.ref a3), .val (.int p4), .val (.int p5), .val (.int (ln + (1 : Int32))), .val (.int (1 : Int32))] [(.ref a3)]))
        refine Go.st (fun t k => XS.iconst X22.here hx rfl (hb hby d4_123) k) ?_
        show Go p.tables e below PP (T22.setTop (mkF m 124 #[.val (.ref a1), .val (.ref a2), .val (.ref a3), .val (.int p4), .val (.int p5), .val (.int (ln + (1 : Int32))), .val (.int (1 : Int32))] [(.int (0 : Int32)), (.ref a3)]))
        refine Go.st (fun t k => XS.iload X22.here hx rfl (hb hby d4_124) rfl k) ?_
        show Go p.tables e below PP (T22.setTop (mkF m 126 #[.val (.ref a1), .val (.ref a2), .val (.ref a3), .val (.int p4), .val (.int p5), .val (.int (ln + (1 : Int32))), .val (.int (1 : Int32))] [(.int (ln + (1 : Int32))), (.int (0 : Int32)), (.ref a3)]))
        obtain ⟨cl23, Ar23, S23, Nn23, H23⟩ := id V_a3
        have hin23 : ¬ ((0 : Int32) < 0 ∨ cl23.slots.size ≤ ((0 : Int32)).toNatClampNeg) := inb_of S23 ⟨by decide, by decide⟩
        obtain ⟨T23, h23, X23, e23, W23, st23⟩ := stI X22 hx hZ e22 Ar23 (j := (0 : Int32)) hin23 (g := (mkF m 126 #[.val (.ref a1), .val (.ref a2), .val (.ref a3), .val (.int p4), .val (.int p5), .val (.int (ln + (1 : Int32))), .val (.int (1 : Int32))] [(.int (ln + (1 : Int32))), (.int (0 : Int32)), (.ref a3)])) rfl rfl (hb hby d4_126)
        refine Go.st st23 ?_
        have N23 := Fr.snoc X23 N22 g_a3
        replace E_a1 := E_a1.wr W23
        replace Ft20 := Ft20.other W23 (Or.inl ne_a1_a3)
        replace Fl20 := Fl20.other W23 (Or.inl ne_a1_a3)
        replace Fa20 := Fa20.other W23 (Or.inl ne_a1_a3)
        replace Vt20 := Vt20.other W23 (Ne.symm ne_a3_tx20)
        replace Xt20 := Xt20.wr W23
        replace V_a2 := V_a2.other W23 ne_a2_a3
        replace O := O.wr W23 g_a3
        replace K := K.wr W23 (Or.inl (List.mem_of_getElem? (i := 2) rfl))
        replace Zn : n0 ≤ h23.size := by rw [W23.size]; exact Zn
        replace V_a3 := Afn.set Ar23 S23 Nn23 H23 rfl W23
        show Go p.tables e below PP (T23.setTop (mkF m 127 #[.val (.ref a1), .val (.ref a2), .val (.ref a3), .val (.int p4), .val (.int p5), .val (.int (ln + (1 : Int32))), .val (.int (1 : Int32))] []))
        rw [hPP]
        refine endV X23 hx hlk hret (hb hby d4_127) ?_ (by decide) (by decide)
        show Q4 Z a1 a2 a3 p4 p5 tx cap tg ln av Ee zc ad u8 h0 n0 none T23.heap _
        rw [e23]
        exact ⟨tx20, _, tg20, (fun k => upd Ee ln ((93 : Int32).toInt8.toInt32) k), (ln + (1 : Int32)), (1 : Int32), rfl, N23, K, hor_tx20, gq20, ⟨Ft20, Fl20, Fa20, Vt20, Xt20⟩, cpq20, V_a2, V_a3.congr (fun k hk => own_st _ _ _ _ k hk), (own_c2 hcp.1 hln hbe bq20), own_e1, (own_n1 hcp.1 hln)⟩
      · --
        refine Go.st (fun t k => XS.icmpYes X0.here hx rfl (pc0 := 59) (pc' := 83) rfl (hb hby d4_59) rfl (XT.ii_ne_t hc59) (by decide) (by decide) k) ?_
        show Go p.tables e below PP (s₁.setTop (mkF m 83 #[.val (.ref a1), .val (.ref a2), .val (.ref a3), .val (.int p4), .val (.int p5), .val (.int ln), .val (.int (1 : Int32))] []))
        refine Go.st (fun t k => XS.aloadN X0.here hx rfl (hb hby d4_83) rfl rfl k) ?_
        show Go p.tables e below PP (s₁.setTop (mkF m 84 #[.val (.ref a1), .val (.ref a2), .val (.ref a3), .val (.int p4), .val (.int p5), .val (.int ln), .val (.int (1 : Int32))] [(.ref a1)]))
        refine Go.st (fun t k => XS.iload X0.here hx rfl (hb hby d4_84) rfl k) ?_
        show Go p.tables e below PP (s₁.setTop (mkF m 86 #[.val (.ref a1), .val (.ref a2), .val (.ref a3), .val (.int p4), .val (.int p5), .val (.int ln), .val (.int (1 : Int32))] [(.int p5), (.ref a1)]))
        refine Go.st (fun t k => XS.i2l X0.here hx rfl (hb hby d4_86) rfl k) ?_
        show Go p.tables e below PP (s₁.setTop (mkF m 87 #[.val (.ref a1), .val (.ref a2), .val (.ref a3), .val (.int p4), .val (.int p5), .val (.int ln), .val (.int (1 : Int32))] [(.long (p5.toInt64)), (.ref a1)]))
        obtain ⟨v24, T24, L24, X24, hQ24, st24⟩ := callVi X0 hx hZ (C := "com/example/facet_hierarchy_store/facethierarchystore/http/JsonWriter") (y := (⟨"com/example/facet_hierarchy_store/facethierarchystore/http/JsonWriter", "value", "(J)Lcom/example/facet_hierarchy_store/facethierarchystore/http/JsonWriter;"⟩ : MethodName)) (z := (⟨"com/example/facet_hierarchy_store/facethierarchystore/http/JsonWriter", "value", "(J)Lcom/example/facet_hierarchy_store/facethierarchystore/http/JsonWriter;"⟩ : MethodName)) (a := a1) (argsL := [(.long (p5.toInt64))]) (rest := []) hown (hw _ (List.mem_of_getElem? (i := 20) rfl)) (hw _ (List.mem_of_getElem? (i := 21) rfl)) (notFace_of_selects (args := #[]) (mvT hZ (hw _ (List.mem_of_getElem? (i := 23) rfl)))) (hw _ (List.mem_of_getElem? (i := 23) rfl)) (hw _ (List.mem_of_getElem? (i := 22) rfl)) (hw _ (List.mem_of_getElem? (i := 2) rfl)) (hw _ (List.mem_of_getElem? (i := 24) rfl)) (by decide) rfl E_a1 (rm5 l Z a0 hw [] a1 (p5.toInt64) tx cap tg ln av zc ad u8 h0 n0 Zn E_a1 F_text_a1 F_length_a1 F_afterValue_a1 V_tx E_tx g_a1 g_tx ne_a1_tx hcp hln (own_dl hdg) SC hzc O SD AD SU SI) e0 0 (by decide) (by decide) (by decide) (by decide) (g := (mkF m 87 #[.val (.ref a1), .val (.ref a2), .val (.ref a3), .val (.int p4), .val (.int p5), .val (.int ln), .val (.int (1 : Int32))] [(.long (p5.toInt64)), (.ref a1)])) rfl (by rw [hml]; rfl) (lenOf pd_19 rfl) rfl (by show 2 * 0 + _ ≤ _; exact Nat.le_of_eq rfl) (hb hby d4_87)
        obtain ⟨h24, e24⟩ : ∃ z, T24.heap = z := ⟨_, rfl⟩
        rw [e24] at hQ24
        obtain ⟨tx24, cc24, tg24, rfl, Nq24, Kq24, oq24, gq24, ⟨Ft24, Fl24, Fa24, Vt24, Xt24⟩, cpq24, bq24⟩ := hQ24
        have N24 := Fr.app N0 Nq24
        have ne_a1_tx24 : a1 ≠ tx24 := oq24.elim (fun q => by rw [q]; exact ne_a1_tx) (fun q => Nat.ne_of_lt (Nat.lt_of_lt_of_le E_a1.lt q))
        have ne_a2_tx24 : a2 ≠ tx24 := oq24.elim (fun q => by rw [q]; exact ne_a2_tx) (fun q => Nat.ne_of_lt (Nat.lt_of_lt_of_le V_a2.lt q))
        have ne_a3_tx24 : a3 ≠ tx24 := oq24.elim (fun q => by rw [q]; exact ne_a3_tx) (fun q => Nat.ne_of_lt (Nat.lt_of_lt_of_le V_a3.lt q))
        have kp_tx24 : tx24 ∈ [a1, a2, a3, tx] ∨ h0.size ≤ tx24 := oq24.elim (fun q => by rw [q]; exact (Or.inl (List.mem_of_getElem? (i := 3) rfl))) (fun q => Or.inr (Nat.le_trans K.1 q))
        have hor_tx24 : tx24 = tx ∨ h0.size ≤ tx24 := oq24.elim (fun q => by rw [q]; exact (Or.inl rfl)) (fun q => Or.inr (Nat.le_trans K.1 q))
        replace E_a1 := E_a1.keep Kq24
        clear F_text_a1
        clear F_length_a1
        clear F_afterValue_a1
        clear V_tx
        replace V_a2 := V_a2.keep Kq24 (ninS (Ne.symm ne_a1_a2) (ninS ne_a2_tx nin0))
        replace V_a3 := V_a3.keep Kq24 (ninS (Ne.symm ne_a1_a3) (ninS ne_a3_tx nin0))
        replace O := O.keep Kq24 (allS g_a1 (allS g_tx all0))
        replace K := K.trans Kq24 (allS (Or.inl (List.mem_of_getElem? (i := 0) rfl)) (allS (Or.inl (List.mem_of_getElem? (i := 3) rfl)) all0))
        replace Zn := Nat.le_trans Zn Kq24.1
        refine Go.st st24 ?_
        rw [own_sl1 hc8] at Fl24 cpq24 bq24
        show Go p.tables e below PP (T24.setTop (mkF m 90 #[.val (.ref a1), .val (.ref a2), .val (.ref a3), .val (.int p4), .val (.int p5), .val (.int ln), .val (.int (1 : Int32))] [(.ref a1)]))
        refine Go.st (fun t k => XS.pop X24.here hx rfl (hb hby d4_90) rfl rfl k) ?_
        show Go p.tables e below PP (T24.setTop (mkF m 91 #[.val (.ref a1), .val (.ref a2), .val (.ref a3), .val (.int p4), .val (.int p5), .val (.int ln), .val (.int (1 : Int32))] []))
        refine Go.st (fun t k => XS.iload X24.here hx rfl (hb hby d4_91) rfl k) ?_
        show Go p.tables e below PP (T24.setTop (mkF m 93 #[.val (.ref a1), .val (.ref a2), .val (.ref a3), .val (.int p4), .val (.int p5), .val (.int ln), .val (.int (1 : Int32))] [(.int (1 : Int32))]))
        refine Go.st (fun t k => XS.ifNo X24.here hx rfl (hb hby d4_93) rfl (XT.i0_eq_f (by decide)) k) ?_
        show Go p.tables e below PP (T24.setTop (mkF m 96 #[.val (.ref a1), .val (.ref a2), .val (.ref a3), .val (.int p4), .val (.int p5), .val (.int ln), .val (.int (1 : Int32))] []))
        refine Go.st (fun t k => XS.aloadN X24.here hx rfl (hb hby d4_96) rfl rfl k) ?_
        show Go p.tables e below PP (T24.setTop (mkF m 97 #[.val (.ref a1), .val (.ref a2), .val (.ref a3), .val (.int p4), .val (.int p5), .val (.int ln), .val (.int (1 : Int32))] [(.ref a2)]))
        refine Go.st (fun t k => XS.iload X24.here hx rfl (hb hby d4_97) rfl k) ?_
        show Go p.tables e below PP (T24.setTop (mkF m 99 #[.val (.ref a1), .val (.ref a2), .val (.ref a3), .val (.int p4), .val (.int p5), .val (.int ln), .val (.int (1 : Int32))] [(.int ln), (.ref a2)]))
        refine Go.st (fun t k => XS.iinc X24.here hx rfl (hb hby d4_99) rfl (l' := #[.val (.ref a1), .val (.ref a2), .val (.ref a3), .val (.int p4), .val (.int p5), .val (.int (ln + (1 : Int32))), .val (.int (1 : Int32))]) rfl k) ?_
        show Go p.tables e below PP (T24.setTop (mkF m 102 #[.val (.ref a1), .val (.ref a2), .val (.ref a3), .val (.int p4), .val (.int p5), .val (.int (ln + (1 : Int32))), .val (.int (1 : Int32))] [(.int ln), (.ref a2)]))
        refine Go.st (fun t k => XS.bipush X24.here hx rfl (hb hby d4_102) k) ?_
        show Go p.tables e below PP (T24.setTop (mkF m 104 #[.val (.ref a1), .val (.ref a2), .val (.ref a3), .val (.int p4), .val (.int p5), .val (.int (ln + (1 : Int32))), .val (.int (1 : Int32))] [(.int (44 : Int32)), (.int ln), (.ref a2)]))
        obtain ⟨cl25, Ar25, S25, Nn25, H25⟩ := id V_a2
        have hin25 : ¬ (ln < 0 ∨ cl25.slots.size ≤ (ln).toNatClampNeg) := inb_of S25 (own_i8a hcp.1 hln).1
        obtain ⟨T25, h25, X25, e25, W25, st25⟩ := stB X24 hx hZ e24 Ar25 (j := ln) hin25 (g := (mkF m 104 #[.val (.ref a1), .val (.ref a2), .val (.ref a3), .val (.int p4), .val (.int p5), .val (.int (ln + (1 : Int32))), .val (.int (1 : Int32))] [(.int (44 : Int32)), (.int ln), (.ref a2)])) rfl rfl (hb hby d4_104)
        refine Go.st st25 ?_
        have N25 := Fr.snoc X25 N24 g_a2
        replace E_a1 := E_a1.wr W25
        replace V_a3 := V_a3.other W25 (Ne.symm ne_a2_a3)
        replace Ft24 := Ft24.other W25 (Or.inl ne_a1_a2)
        replace Fl24 := Fl24.other W25 (Or.inl ne_a1_a2)
        replace Fa24 := Fa24.other W25 (Or.inl ne_a1_a2)
        replace Vt24 := Vt24.other W25 (Ne.symm ne_a2_tx24)
        replace Xt24 := Xt24.wr W25
        replace O := O.wr W25 g_a2
        replace K := K.wr W25 (Or.inl (List.mem_of_getElem? (i := 1) rfl))
        replace Zn : n0 ≤ h25.size := by rw [W25.size]; exact Zn
        replace V_a2 := Afn.set Ar25 S25 Nn25 H25 (fits_nar_byte _) W25
        replace V_a2 := V_a2.congr (g := fun k => .int (upd Ee ln ((44 : Int32).toInt8.toInt32) k)) (fun k _ => by exact own_ups _ _ _ k)
        show Go p.tables e below PP (T25.setTop (mkF m 105 #[.val (.ref a1), .val (.ref a2), .val (.ref a3), .val (.int p4), .val (.int p5), .val (.int (ln + (1 : Int32))), .val (.int (1 : Int32))] []))
        refine Go.st (fun t k => XS.aloadN X25.here hx rfl (hb hby d4_105) rfl rfl k) ?_
        show Go p.tables e below PP (T25.setTop (mkF m 106 #[.val (.ref a1), .val (.ref a2), .val (.ref a3), .val (.int p4), .val (.int p5), .val (.int (ln + (1 : Int32))), .val (.int (1 : Int32))] [(.ref a2)]))
        refine Go.st (fun t k => XS.iload X25.here hx rfl (hb hby d4_106) rfl k) ?_
        show Go p.tables e below PP (T25.setTop (mkF m 108 #[.val (.ref a1), .val (.ref a2), .val (.ref a3), .val (.int p4), .val (.int p5), .val (.int (ln + (1 : Int32))), .val (.int (1 : Int32))] [(.int (ln + (1 : Int32))), (.ref a2)]))
        refine Go.st (fun t k => XS.iinc X25.here hx rfl (hb hby d4_108) rfl (l' := #[.val (.ref a1), .val (.ref a2), .val (.ref a3), .val (.int p4), .val (.int p5), .val (.int ((ln + (1 : Int32)) + (1 : Int32))), .val (.int (1 : Int32))]) rfl k) ?_
        show Go p.tables e below PP (T25.setTop (mkF m 111 #[.val (.ref a1), .val (.ref a2), .val (.ref a3), .val (.int p4), .val (.int p5), .val (.int ((ln + (1 : Int32)) + (1 : Int32))), .val (.int (1 : Int32))] [(.int (ln + (1 : Int32))), (.ref a2)]))
        refine Go.st (fun t k => XS.bipush X25.here hx rfl (hb hby d4_111) k) ?_
        show Go p.tables e below PP (T25.setTop (mkF m 113 #[.val (.ref a1), .val (.ref a2), .val (.ref a3), .val (.int p4), .val (.int p5), .val (.int ((ln + (1 : Int32)) + (1 : Int32))), .val (.int (1 : Int32))] [(.int (48 : Int32)), (.int (ln + (1 : Int32))), (.ref a2)]))
        refine Go.st (fun t k => XS.iload X25.here hx rfl (hb hby d4_113) rfl k) ?_
        show Go p.tables e below PP (T25.setTop (mkF m 115 #[.val (.ref a1), .val (.ref a2), .val (.ref a3), .val (.int p4), .val (.int p5), .val (.int ((ln + (1 : Int32)) + (1 : Int32))), .val (.int (1 : Int32))] [(.int p5), (.int (48 : Int32)), (.int (ln + (1 : Int32))), (.ref a2)]))
        refine Go.st (fun t k => XS.iadd X25.here hx rfl (hb hby d4_115) rfl k) ?_
        show Go p.tables e below PP (T25.setTop (mkF m 116 #[.val (.ref a1), .val (.ref a2), .val (.ref a3), .val (.int p4), .val (.int p5), .val (.int ((ln + (1 : Int32)) + (1 : Int32))), .val (.int (1 : Int32))] [(.int ((48 : Int32) + p5)), (.int (ln + (1 : Int32))), (.ref a2)]))
        refine Go.st (fun t k => XS.i2b X25.here hx rfl (hb hby d4_116) rfl k) ?_
        show Go p.tables e below PP (T25.setTop (mkF m 117 #[.val (.ref a1), .val (.ref a2), .val (.ref a3), .val (.int p4), .val (.int p5), .val (.int ((ln + (1 : Int32)) + (1 : Int32))), .val (.int (1 : Int32))] [(.int (((48 : Int32) + p5).toInt8.toInt32)), (.int (ln + (1 : Int32))), (.ref a2)]))
        obtain ⟨cl26, Ar26, S26, Nn26, H26⟩ := id V_a2
        have hin26 : ¬ ((ln + (1 : Int32)) < 0 ∨ cl26.slots.size ≤ ((ln + (1 : Int32))).toNatClampNeg) := inb_of S26 (own_i8a hcp.1 hln).2
        obtain ⟨T26, h26, X26, e26, W26, st26⟩ := stB X25 hx hZ e25 Ar26 (j := (ln + (1 : Int32))) hin26 (g := (mkF m 117 #[.val (.ref a1), .val (.ref a2), .val (.ref a3), .val (.int p4), .val (.int p5), .val (.int ((ln + (1 : Int32)) + (1 : Int32))), .val (.int (1 : Int32))] [(.int (((48 : Int32) + p5).toInt8.toInt32)), (.int (ln + (1 : Int32))), (.ref a2)])) rfl rfl (hb hby d4_117)
        refine Go.st st26 ?_
        have N26 := Fr.snoc X26 N25 g_a2
        replace E_a1 := E_a1.wr W26
        replace V_a3 := V_a3.other W26 (Ne.symm ne_a2_a3)
        replace Ft24 := Ft24.other W26 (Or.inl ne_a1_a2)
        replace Fl24 := Fl24.other W26 (Or.inl ne_a1_a2)
        replace Fa24 := Fa24.other W26 (Or.inl ne_a1_a2)
        replace Vt24 := Vt24.other W26 (Ne.symm ne_a2_tx24)
        replace Xt24 := Xt24.wr W26
        replace O := O.wr W26 g_a2
        replace K := K.wr W26 (Or.inl (List.mem_of_getElem? (i := 1) rfl))
        replace Zn : n0 ≤ h26.size := by rw [W26.size]; exact Zn
        replace V_a2 := Afn.set Ar26 S26 Nn26 H26 (fits_nar_byte _) W26
        replace V_a2 := V_a2.congr (g := fun k => .int (upd (fun k => upd Ee ln ((44 : Int32).toInt8.toInt32) k) (ln + (1 : Int32)) (dgB (p5.toInt64)) k)) (fun k _ => by rw [own_db hdg]; exact own_ups _ _ _ k)
        show Go p.tables e below PP (T26.setTop (mkF m 118 #[.val (.ref a1), .val (.ref a2), .val (.ref a3), .val (.int p4), .val (.int p5), .val (.int ((ln + (1 : Int32)) + (1 : Int32))), .val (.int (1 : Int32))] []))
        refine Go.st (fun t k => XS.aloadN X26.here hx rfl (hb hby d4_118) rfl rfl k) ?_
        show Go p.tables e below PP (T26.setTop (mkF m 119 #[.val (.ref a1), .val (.ref a2), .val (.ref a3), .val (.int p4), .val (.int p5), .val (.int ((ln + (1 : Int32)) + (1 : Int32))), .val (.int (1 : Int32))] [(.ref a3)]))
        refine Go.st (fun t k => XS.iconst X26.here hx rfl (hb hby d4_119) k) ?_
        show Go p.tables e below PP (T26.setTop (mkF m 120 #[.val (.ref a1), .val (.ref a2), .val (.ref a3), .val (.int p4), .val (.int p5), .val (.int ((ln + (1 : Int32)) + (1 : Int32))), .val (.int (1 : Int32))] [(.int (1 : Int32)), (.ref a3)]))
        refine Go.st (fun t k => XS.iconst X26.here hx rfl (hb hby d4_120) k) ?_
        show Go p.tables e below PP (T26.setTop (mkF m 121 #[.val (.ref a1), .val (.ref a2), .val (.ref a3), .val (.int p4), .val (.int p5), .val (.int ((ln + (1 : Int32)) + (1 : Int32))), .val (.int (1 : Int32))] [(.int (1 : Int32)), (.int (1 : Int32)), (.ref a3)]))
        obtain ⟨cl27, Ar27, S27, Nn27, H27⟩ := id V_a3
        have hin27 : ¬ ((1 : Int32) < 0 ∨ cl27.slots.size ≤ ((1 : Int32)).toNatClampNeg) := inb_of S27 ⟨by decide, by decide⟩
        obtain ⟨T27, h27, X27, e27, W27, st27⟩ := stI X26 hx hZ e26 Ar27 (j := (1 : Int32)) hin27 (g := (mkF m 121 #[.val (.ref a1), .val (.ref a2), .val (.ref a3), .val (.int p4), .val (.int p5), .val (.int ((ln + (1 : Int32)) + (1 : Int32))), .val (.int (1 : Int32))] [(.int (1 : Int32)), (.int (1 : Int32)), (.ref a3)])) rfl rfl (hb hby d4_121)
        refine Go.st st27 ?_
        have N27 := Fr.snoc X27 N26 g_a3
        replace E_a1 := E_a1.wr W27
        replace Ft24 := Ft24.other W27 (Or.inl ne_a1_a3)
        replace Fl24 := Fl24.other W27 (Or.inl ne_a1_a3)
        replace Fa24 := Fa24.other W27 (Or.inl ne_a1_a3)
        replace Vt24 := Vt24.other W27 (Ne.symm ne_a3_tx24)
        replace Xt24 := Xt24.wr W27
        replace V_a2 := V_a2.other W27 ne_a2_a3
        replace O := O.wr W27 g_a3
        replace K := K.wr W27 (Or.inl (List.mem_of_getElem? (i := 2) rfl))
        replace Zn : n0 ≤ h27.size := by rw [W27.size]; exact Zn
        replace V_a3 := Afn.set Ar27 S27 Nn27 H27 rfl W27
        show Go p.tables e below PP (T27.setTop (mkF m 122 #[.val (.ref a1), .val (.ref a2), .val (.ref a3), .val (.int p4), .val (.int p5), .val (.int ((ln + (1 : Int32)) + (1 : Int32))), .val (.int (1 : Int32))] []))
        refine Go.st (fun t k => XS.aloadN X27.here hx rfl (hb hby d4_122) rfl rfl k) ?_
        show Go p.tables e below PP (T27.setTop (mkF m 123 #[.val (.ref a1), .val (.ref a2), .val (.ref a3), .val (.int p4), .val (.int p5), .val (.int ((ln + (1 : Int32)) + (1 : Int32))), .val (.int (1 : Int32))] [(.ref a3)]))
        refine Go.st (fun t k => XS.iconst X27.here hx rfl (hb hby d4_123) k) ?_
        show Go p.tables e below PP (T27.setTop (mkF m 124 #[.val (.ref a1), .val (.ref a2), .val (.ref a3), .val (.int p4), .val (.int p5), .val (.int ((ln + (1 : Int32)) + (1 : Int32))), .val (.int (1 : Int32))] [(.int (0 : Int32)), (.ref a3)]))
        refine Go.st (fun t k => XS.iload X27.here hx rfl (hb hby d4_124) rfl k) ?_
        show Go p.tables e below PP (T27.setTop (mkF m 126 #[.val (.ref a1), .val (.ref a2), .val (.ref a3), .val (.int p4), .val (.int p5), .val (.int ((ln + (1 : Int32)) + (1 : Int32))), .val (.int (1 : Int32))] [(.int ((ln + (1 : Int32)) + (1 : Int32))), (.int (0 : Int32)), (.ref a3)]))
        obtain ⟨cl28, Ar28, S28, Nn28, H28⟩ := id V_a3
        have hin28 : ¬ ((0 : Int32) < 0 ∨ cl28.slots.size ≤ ((0 : Int32)).toNatClampNeg) := inb_of S28 ⟨by decide, by decide⟩
        obtain ⟨T28, h28, X28, e28, W28, st28⟩ := stI X27 hx hZ e27 Ar28 (j := (0 : Int32)) hin28 (g := (mkF m 126 #[.val (.ref a1), .val (.ref a2), .val (.ref a3), .val (.int p4), .val (.int p5), .val (.int ((ln + (1 : Int32)) + (1 : Int32))), .val (.int (1 : Int32))] [(.int ((ln + (1 : Int32)) + (1 : Int32))), (.int (0 : Int32)), (.ref a3)])) rfl rfl (hb hby d4_126)
        refine Go.st st28 ?_
        have N28 := Fr.snoc X28 N27 g_a3
        replace E_a1 := E_a1.wr W28
        replace Ft24 := Ft24.other W28 (Or.inl ne_a1_a3)
        replace Fl24 := Fl24.other W28 (Or.inl ne_a1_a3)
        replace Fa24 := Fa24.other W28 (Or.inl ne_a1_a3)
        replace Vt24 := Vt24.other W28 (Ne.symm ne_a3_tx24)
        replace Xt24 := Xt24.wr W28
        replace V_a2 := V_a2.other W28 ne_a2_a3
        replace O := O.wr W28 g_a3
        replace K := K.wr W28 (Or.inl (List.mem_of_getElem? (i := 2) rfl))
        replace Zn : n0 ≤ h28.size := by rw [W28.size]; exact Zn
        replace V_a3 := Afn.set Ar28 S28 Nn28 H28 rfl W28
        show Go p.tables e below PP (T28.setTop (mkF m 127 #[.val (.ref a1), .val (.ref a2), .val (.ref a3), .val (.int p4), .val (.int p5), .val (.int ((ln + (1 : Int32)) + (1 : Int32))), .val (.int (1 : Int32))] []))
        rw [hPP]
        refine endV X28 hx hlk hret (hb hby d4_127) ?_ (by decide) (by decide)
        show Q4 Z a1 a2 a3 p4 p5 tx cap tg ln av Ee zc ad u8 h0 n0 none T28.heap _
        rw [e28]
        exact ⟨tx24, _, tg24, (fun k => upd (fun k => upd Ee ln ((44 : Int32).toInt8.toInt32) k) (ln + (1 : Int32)) (dgB (p5.toInt64)) k), ((ln + (1 : Int32)) + (1 : Int32)), (1 : Int32), rfl, N28, K, hor_tx24, gq24, ⟨Ft24, Fl24, Fa24, Vt24, Xt24⟩, cpq24, V_a2, V_a3.congr (fun k hk => own_st _ _ _ _ k hk), (own_c1 hcp.1 hln hbe hc8 bq24), (own_e2 hcp.1 hln), (own_n2 hcp.1 hln)⟩
theorem pn_rm0 : plainName "com/example/facet_hierarchy_store/facethierarchystore/http/JsonWriterBytesPinLaw" = true := by first | (simp [plainName, overriddenIn]; done) | decide +kernel
theorem ef_rm0 (m : MethodId) (p1 : Int32) (p2 : Int32) (p3 : Int32) (p4 : Int32) : entryFrame m #[(.int p1), (.int p2), (.int p3), (.int p4)] maxLocals = mkF m 0 #[.val (.int p1), .val (.int p2), .val (.int p3), .val (.int p4), .unset, .unset, .unset, .unset, .unset, .unset, .unset, .unset, .unset, .unset, .unset, .unset, .unset] [] := by first | (simp [entryFrame, mkF, argsToLocals, Value.category, maxLocals]; done) | rfl
def Q0 (Z : State) (p1 : Int32) (p2 : Int32) (p3 : Int32) (p4 : Int32) (zc : Int32) (ad : Addr) (u8 : Addr) (h0 : Heap) (n0 : Nat) (v : Option Value) (h : Heap) (L : List Loc) : Prop := v = some (.int 1) ∧ Fr n0 L
theorem pd_20 : parseMethodDescriptor "()[B" = some ⟨[], some (.array .byte)⟩ := by decide +kernel
theorem pd_21 : parseMethodDescriptor "([B[BI)Z" = some ⟨[(.array .byte), (.array .byte), .int], some .boolean⟩ := by decide +kernel
theorem pd_22 : parseMethodDescriptor "(Lcom/example/facet_hierarchy_store/facethierarchystore/http/JsonWriter;[B[III)V" = some ⟨[(.object "com/example/facet_hierarchy_store/facethierarchystore/http/JsonWriter"), (.array .byte), (.array .int), .int, .int], none⟩ := by decide +kernel
set_option maxRecDepth 65536 in
set_option maxHeartbeats 40000000 in
theorem rm0 (l : Launch) (Z : State) (a0 : Array Value) (hw : ∀ d ∈ tables_1, d.before a0 Z = true) (ws : List Jvm.Cond) (p1 : Int32) (p2 : Int32) (p3 : Int32) (p4 : Int32) (zc : Int32) (ad : Addr) (u8 : Addr) (h0 : Heap) (n0 : Nat) (Z0 : n0 ≤ h0.size) (SC : Sta Z Z.heap "java/lang/String" "COMPACT_STRINGS" "Z" (.int zc)) (hzc : ¬ zc = (0 : Int32)) (O : Old Z n0 h0) (SD : Sta Z Z.heap "java/lang/Integer" "DigitOnes" "[B" (.ref ad)) (AD : Afn Z Z.heap ad .byte (100 : Int32) (fun k => .int ((48 : Int32) + Int32.ofNat k % 10))) (SU : Sta Z Z.heap "java/nio/charset/StandardCharsets" "UTF_8" "Ljava/nio/charset/Charset;" (.ref u8)) (SI : Sta Z Z.heap "sun/nio/cs/UTF_8" "INSTANCE" "Lsun/nio/cs/UTF_8;" (.ref u8)) :
    Con l Z x code maxLocals ret ws room_1 #[(.int p1), (.int p2), (.int p3), (.int p4)] h0 (Q0 Z p1 p2 p3 p4 zc ad u8 h0 n0) := by
  refine Con.of (plainFor_of_name pn_rm0) ?_
  intro p e s m below meth c s₁ hZ e0 X0 hx hby hml hown hnm hret hlk
  replace hml : c.maxLocals = 17 := hml
  have hown : s.vm.findClass "com/example/facet_hierarchy_store/facethierarchystore/http/JsonWriterBytesPinLaw" = some m.cls := hown
  have N0 : Fr n0 [] := Fr.nil n0
  obtain ⟨PP, hPP⟩ : ∃ P, P = Fine s below (Q0 Z p1 p2 p3 p4 zc ad u8 h0 n0) room_1.cells room_1.slots := ⟨_, rfl⟩
  rw [← hPP]
  refine Go.cast (ef_rm0 m p1 p2 p3 p4) ?_
  have Zn : n0 ≤ h0.size := Z0
  show Go p.tables e below PP (s₁.setTop (mkF m 0 #[.val (.int p1), .val (.int p2), .val (.int p3), .val (.int p4), .unset, .unset, .unset, .unset, .unset, .unset, .unset, .unset, .unset, .unset, .unset, .unset, .unset] []))
  obtain ⟨T1, h1, X1, e1, E1, A1, D1, U1, st1⟩ := newO X0 hx hZ hown (hw _ (List.mem_of_getElem? (i := 0) rfl)) (hw _ (List.mem_of_getElem? (i := 1) rfl)) (hw _ (List.mem_of_getElem? (i := 2) rfl)) e0 (g := (mkF m 0 #[.val (.int p1), .val (.int p2), .val (.int p3), .val (.int p4), .unset, .unset, .unset, .unset, .unset, .unset, .unset, .unset, .unset, .unset, .unset, .unset, .unset] [])) rfl (hb hby at_0) (by decide) (by decide)
  obtain ⟨b1, gz1⟩ : ∃ z, z = h0.size := ⟨_, rfl⟩
  rw [← gz1] at A1 D1 U1 st1
  have g_b1 : n0 ≤ b1 := Nat.le_trans Zn (Nat.le_of_eq gz1.symm)
  refine Go.st st1 ?_
  replace O := O.ext E1
  replace Zn := Nat.le_trans Zn E1.1
  have E_b1 := A1
  have F_text_b1 : Fld Z h1 b1 "com/example/facet_hierarchy_store/facethierarchystore/http/JsonWriter" "text" "[B" .null := D1 (Or.inl (hw _ (List.mem_of_getElem? (i := 11) rfl))) (ty := (.array .byte)) (by decide)
  have F_afterValue_b1 : Fld Z h1 b1 "com/example/facet_hierarchy_store/facethierarchystore/http/JsonWriter" "afterValue" "Z" (.int (0 : Int32)) := D1 (Or.inl (hw _ (List.mem_of_getElem? (i := 30) rfl))) (ty := .boolean) (by decide)
  have F_length_b1 : Fld Z h1 b1 "com/example/facet_hierarchy_store/facethierarchystore/http/JsonWriter" "length" "I" (.int (0 : Int32)) := D1 (Or.inl (hw _ (List.mem_of_getElem? (i := 104) rfl))) (ty := .int) (by decide)
  show Go p.tables e below PP (T1.setTop (mkF m 3 #[.val (.int p1), .val (.int p2), .val (.int p3), .val (.int p4), .unset, .unset, .unset, .unset, .unset, .unset, .unset, .unset, .unset, .unset, .unset, .unset, .unset] [(.ref b1)]))
  refine Go.st (fun t k => XS.dup X1.here hx rfl (hb hby at_3) rfl rfl k) ?_
  show Go p.tables e below PP (T1.setTop (mkF m 4 #[.val (.int p1), .val (.int p2), .val (.int p3), .val (.int p4), .unset, .unset, .unset, .unset, .unset, .unset, .unset, .unset, .unset, .unset, .unset, .unset, .unset] [(.ref b1), (.ref b1)]))
  refine Go.st (fun t k => XS.iloadN X1.here hx rfl (hb hby at_4) rfl k) ?_
  show Go p.tables e below PP (T1.setTop (mkF m 5 #[.val (.int p1), .val (.int p2), .val (.int p3), .val (.int p4), .unset, .unset, .unset, .unset, .unset, .unset, .unset, .unset, .unset, .unset, .unset, .unset, .unset] [(.int p1), (.ref b1), (.ref b1)]))
  refine Go.st (fun t k => XS.bipush X1.here hx rfl (hb hby at_5) k) ?_
  show Go p.tables e below PP (T1.setTop (mkF m 7 #[.val (.int p1), .val (.int p2), .val (.int p3), .val (.int p4), .unset, .unset, .unset, .unset, .unset, .unset, .unset, .unset, .unset, .unset, .unset, .unset, .unset] [(.int (7 : Int32)), (.int p1), (.ref b1), (.ref b1)]))
  refine Go.st (fun t k => XS.iand X1.here hx rfl (hb hby at_7) rfl k) ?_
  generalize hcz : (p1 &&& (7 : Int32)) = c0
  replace hcz := own_m7 _ _ hcz
  show Go p.tables e below PP (T1.setTop (mkF m 8 #[.val (.int p1), .val (.int p2), .val (.int p3), .val (.int p4), .unset, .unset, .unset, .unset, .unset, .unset, .unset, .unset, .unset, .unset, .unset, .unset, .unset] [(.int c0), (.ref b1), (.ref b1)]))
  obtain ⟨v2, T2, L2, X2, hQ2, st2⟩ := callIn X1 hx hZ (y := (⟨"com/example/facet_hierarchy_store/facethierarchystore/http/JsonWriter", "<init>", "(I)V"⟩ : MethodName)) (a := b1) (argsL := [(.int c0)]) (rest := [(.ref b1)]) rfl hown (hw _ (List.mem_of_getElem? (i := 3) rfl)) (hw _ (List.mem_of_getElem? (i := 4) rfl)) (hw _ (List.mem_of_getElem? (i := 2) rfl)) (hw _ (List.mem_of_getElem? (i := 5) rfl)) (by decide) (rm1 l Z a0 hw [] b1 c0 h1 n0 Zn E_b1 F_text_b1 F_length_b1 F_afterValue_b1 g_b1 ⟨hcz.1, hcz.2.1⟩) e1 1 (by decide) (by decide) (by decide) (by decide) (g := (mkF m 8 #[.val (.int p1), .val (.int p2), .val (.int p3), .val (.int p4), .unset, .unset, .unset, .unset, .unset, .unset, .unset, .unset, .unset, .unset, .unset, .unset, .unset] [(.int c0), (.ref b1), (.ref b1)])) rfl (by rw [hml]; rfl) (lenOf pd_10 rfl) rfl (by show 2 * 0 + _ ≤ _; exact Nat.le_of_eq rfl) (hb hby at_8)
  obtain ⟨h2, e2⟩ : ∃ z, T2.heap = z := ⟨_, rfl⟩
  rw [e2] at hQ2
  obtain ⟨tx_2, rfl, Nq2, Kq2, sq2_tx, Fq2_0, Fq2_1, Fq2_2, Fq2_3, Fq2_4⟩ := hQ2
  have N2 := Fr.app N0 Nq2
  have ne_b1_tx_2 : b1 ≠ tx_2 := Nat.ne_of_lt (Nat.lt_of_lt_of_le E_b1.lt sq2_tx)
  have g_tx_2 : n0 ≤ tx_2 := Nat.le_trans Zn sq2_tx
  replace E_b1 := E_b1.keep Kq2
  clear F_text_b1
  clear F_afterValue_b1
  clear F_length_b1
  replace O := O.keep Kq2 (allS g_b1 all0)
  replace Zn := Nat.le_trans Zn Kq2.1
  have F_text_b1 := Fq2_0
  have F_length_b1 := Fq2_1
  have F_afterValue_b1 := Fq2_2
  have V_tx_2 := Fq2_3
  have X_tx_2 := Fq2_4
  refine Go.st st2 ?_
  show Go p.tables e below PP (T2.setTop (mkF m 11 #[.val (.int p1), .val (.int p2), .val (.int p3), .val (.int p4), .unset, .unset, .unset, .unset, .unset, .unset, .unset, .unset, .unset, .unset, .unset, .unset, .unset] [(.ref b1)]))
  refine Go.st (fun t k => XS.astore X2.here hx rfl (hb hby at_11) rfl rfl (l' := #[.val (.int p1), .val (.int p2), .val (.int p3), .val (.int p4), .val (.ref b1), .unset, .unset, .unset, .unset, .unset, .unset, .unset, .unset, .unset, .unset, .unset, .unset]) rfl k) ?_
  show Go p.tables e below PP (T2.setTop (mkF m 13 #[.val (.int p1), .val (.int p2), .val (.int p3), .val (.int p4), .val (.ref b1), .unset, .unset, .unset, .unset, .unset, .unset, .unset, .unset, .unset, .unset, .unset, .unset] []))
  refine Go.st (fun t k => XS.bipush X2.here hx rfl (hb hby at_13) k) ?_
  show Go p.tables e below PP (T2.setTop (mkF m 15 #[.val (.int p1), .val (.int p2), .val (.int p3), .val (.int p4), .val (.ref b1), .unset, .unset, .unset, .unset, .unset, .unset, .unset, .unset, .unset, .unset, .unset, .unset] [(.int (8 : Int32))]))
  obtain ⟨T3, h3, k3, X3, e3, E3, A3, st3⟩ := newP X2 hx hZ (hw _ (List.mem_of_getElem? (i := 9) rfl)) e2 (g := (mkF m 15 #[.val (.int p1), .val (.int p2), .val (.int p3), .val (.int p4), .val (.ref b1), .unset, .unset, .unset, .unset, .unset, .unset, .unset, .unset, .unset, .unset, .unset, .unset] [(.int (8 : Int32))])) rfl (hb hby at_15) rfl (by decide) (cap := 8) (by decide) (by decide) (by decide) (by decide)
  obtain ⟨b3, gz3⟩ : ∃ z, z = h2.size := ⟨_, rfl⟩
  rw [← gz3] at A3 st3
  have ne_b1_b3 : b1 ≠ b3 := Nat.ne_of_lt (Nat.lt_of_lt_of_le E_b1.lt (Nat.le_of_eq gz3.symm))
  have ne_tx_2_b3 : tx_2 ≠ b3 := Nat.ne_of_lt (Nat.lt_of_lt_of_le V_tx_2.lt (Nat.le_of_eq gz3.symm))
  have g_b3 : n0 ≤ b3 := Nat.le_trans Zn (Nat.le_of_eq gz3.symm)
  refine Go.st st3 ?_
  replace E_b1 := E_b1.ext E3
  replace F_text_b1 := F_text_b1.ext E3
  replace F_length_b1 := F_length_b1.ext E3
  replace F_afterValue_b1 := F_afterValue_b1.ext E3
  replace V_tx_2 := V_tx_2.ext E3
  replace X_tx_2 := X_tx_2.ext E3
  replace O := O.ext E3
  replace Zn := Nat.le_trans Zn E3.1
  have V_b3 : Afn Z h3 b3 .byte (8 : Int32) (fun _ => (.int (0 : Int32))) := Afn.new A3 (by decide)
  show Go p.tables e below PP (T3.setTop (mkF m 17 #[.val (.int p1), .val (.int p2), .val (.int p3), .val (.int p4), .val (.ref b1), .unset, .unset, .unset, .unset, .unset, .unset, .unset, .unset, .unset, .unset, .unset, .unset] [(.ref b3)]))
  refine Go.st (fun t k => XS.astore X3.here hx rfl (hb hby at_17) rfl rfl (l' := #[.val (.int p1), .val (.int p2), .val (.int p3), .val (.int p4), .val (.ref b1), .val (.ref b3), .unset, .unset, .unset, .unset, .unset, .unset, .unset, .unset, .unset, .unset, .unset]) rfl k) ?_
  show Go p.tables e below PP (T3.setTop (mkF m 19 #[.val (.int p1), .val (.int p2), .val (.int p3), .val (.int p4), .val (.ref b1), .val (.ref b3), .unset, .unset, .unset, .unset, .unset, .unset, .unset, .unset, .unset, .unset, .unset] []))
  refine Go.st (fun t k => XS.iconst X3.here hx rfl (hb hby at_19) k) ?_
  show Go p.tables e below PP (T3.setTop (mkF m 20 #[.val (.int p1), .val (.int p2), .val (.int p3), .val (.int p4), .val (.ref b1), .val (.ref b3), .unset, .unset, .unset, .unset, .unset, .unset, .unset, .unset, .unset, .unset, .unset] [(.int (2 : Int32))]))
  obtain ⟨T4, h4, k4, X4, e4, E4, A4, st4⟩ := newP X3 hx hZ (hw _ (List.mem_of_getElem? (i := 12) rfl)) e3 (g := (mkF m 20 #[.val (.int p1), .val (.int p2), .val (.int p3), .val (.int p4), .val (.ref b1), .val (.ref b3), .unset, .unset, .unset, .unset, .unset, .unset, .unset, .unset, .unset, .unset, .unset] [(.int (2 : Int32))])) rfl (hb hby at_20) rfl (by decide) (cap := 2) (by decide) (by decide) (by decide) (by decide)
  obtain ⟨b4, gz4⟩ : ∃ z, z = h3.size := ⟨_, rfl⟩
  rw [← gz4] at A4 st4
  have ne_b1_b4 : b1 ≠ b4 := Nat.ne_of_lt (Nat.lt_of_lt_of_le E_b1.lt (Nat.le_of_eq gz4.symm))
  have ne_tx_2_b4 : tx_2 ≠ b4 := Nat.ne_of_lt (Nat.lt_of_lt_of_le V_tx_2.lt (Nat.le_of_eq gz4.symm))
  have ne_b3_b4 : b3 ≠ b4 := Nat.ne_of_lt (Nat.lt_of_lt_of_le V_b3.lt (Nat.le_of_eq gz4.symm))
  have g_b4 : n0 ≤ b4 := Nat.le_trans Zn (Nat.le_of_eq gz4.symm)
  refine Go.st st4 ?_
  replace E_b1 := E_b1.ext E4
  replace F_text_b1 := F_text_b1.ext E4
  replace F_length_b1 := F_length_b1.ext E4
  replace F_afterValue_b1 := F_afterValue_b1.ext E4
  replace V_tx_2 := V_tx_2.ext E4
  replace X_tx_2 := X_tx_2.ext E4
  replace V_b3 := V_b3.ext E4
  replace O := O.ext E4
  replace Zn := Nat.le_trans Zn E4.1
  have V_b4 : Afn Z h4 b4 .int (2 : Int32) (fun _ => (.int (0 : Int32))) := Afn.new A4 (by decide)
  replace V_b4 := V_b4.congr (g := fun k => .int (stW (0 : Int32) (0 : Int32) k)) (fun k _ => own_st0 k)
  show Go p.tables e below PP (T4.setTop (mkF m 22 #[.val (.int p1), .val (.int p2), .val (.int p3), .val (.int p4), .val (.ref b1), .val (.ref b3), .unset, .unset, .unset, .unset, .unset, .unset, .unset, .unset, .unset, .unset, .unset] [(.ref b4)]))
  refine Go.st (fun t k => XS.astore X4.here hx rfl (hb hby at_22) rfl rfl (l' := #[.val (.int p1), .val (.int p2), .val (.int p3), .val (.int p4), .val (.ref b1), .val (.ref b3), .val (.ref b4), .unset, .unset, .unset, .unset, .unset, .unset, .unset, .unset, .unset, .unset]) rfl k) ?_
  show Go p.tables e below PP (T4.setTop (mkF m 24 #[.val (.int p1), .val (.int p2), .val (.int p3), .val (.int p4), .val (.ref b1), .val (.ref b3), .val (.ref b4), .unset, .unset, .unset, .unset, .unset, .unset, .unset, .unset, .unset, .unset] []))
  refine Go.st (fun t k => XS.iloadN X4.here hx rfl (hb hby at_24) rfl k) ?_
  show Go p.tables e below PP (T4.setTop (mkF m 25 #[.val (.int p1), .val (.int p2), .val (.int p3), .val (.int p4), .val (.ref b1), .val (.ref b3), .val (.ref b4), .unset, .unset, .unset, .unset, .unset, .unset, .unset, .unset, .unset, .unset] [(.int p4)]))
  refine Go.st (fun t k => XS.iconst X4.here hx rfl (hb hby at_25) k) ?_
  show Go p.tables e below PP (T4.setTop (mkF m 26 #[.val (.int p1), .val (.int p2), .val (.int p3), .val (.int p4), .val (.ref b1), .val (.ref b3), .val (.ref b4), .unset, .unset, .unset, .unset, .unset, .unset, .unset, .unset, .unset, .unset] [(.int (3 : Int32)), (.int p4)]))
  refine Go.st (fun t k => XS.iand X4.here hx rfl (hb hby at_26) rfl k) ?_
  show Go p.tables e below PP (T4.setTop (mkF m 27 #[.val (.int p1), .val (.int p2), .val (.int p3), .val (.int p4), .val (.ref b1), .val (.ref b3), .val (.ref b4), .unset, .unset, .unset, .unset, .unset, .unset, .unset, .unset, .unset, .unset] [(.int (p4 &&& (3 : Int32)))]))
  refine Go.st (fun t k => XS.istore X4.here hx rfl (hb hby at_27) rfl (l' := #[.val (.int p1), .val (.int p2), .val (.int p3), .val (.int p4), .val (.ref b1), .val (.ref b3), .val (.ref b4), .val (.int (p4 &&& (3 : Int32))), .unset, .unset, .unset, .unset, .unset, .unset, .unset, .unset, .unset]) rfl k) ?_
  have J51 : ∀ (T5 : State) (L5 : List Loc) (h5 : Heap) (jtx51 : Addr) (jcp51 : Int32) (jtg51 : Nat → Int32) (jln51 : Int32) (jav51 : Int32) (jEe51 : Nat → Int32), Stand p l e room_1 s m #[(.int p1), (.int p2), (.int p3), (.int p4)] below meth c T5 L5 9 54 → T5.heap = h5 → Fr n0 L5 → Exa Z h5 b1 "com/example/facet_hierarchy_store/facethierarchystore/http/JsonWriter" → Fld Z h5 b1 "com/example/facet_hierarchy_store/facethierarchystore/http/JsonWriter" "text" "[B" (.ref jtx51) → Fld Z h5 b1 "com/example/facet_hierarchy_store/facethierarchystore/http/JsonWriter" "length" "I" (.int jln51) → Fld Z h5 b1 "com/example/facet_hierarchy_store/facethierarchystore/http/JsonWriter" "afterValue" "Z" (.int jav51) → Afn Z h5 jtx51 .byte jcp51 (fun k => .int (jtg51 k)) → Exa Z h5 jtx51 "[B" → Afn Z h5 b3 .byte (8 : Int32) (fun k => .int (jEe51 k)) → Afn Z h5 b4 .int (2 : Int32) (fun k => .int (stW jln51 jav51 k)) → Old Z n0 h5 → n0 ≤ h5.size → (n0 ≤ jtx51 ∧ b1 ≠ jtx51 ∧ b3 ≠ jtx51 ∧ b4 ≠ jtx51 ∧ Cap jcp51 jln51 ∧ jln51.toInt ≤ 2 ∧ ∀ k, k < jln51.toNatClampNeg → jtg51 k = jEe51 k) → Go p.tables e below PP (T5.setTop (mkF m 51 #[.val (.int p1), .val (.int p2), .val (.int p3), .val (.int p4), .val (.ref b1), .val (.ref b3), .val (.ref b4), .val (.int (p4 &&& (3 : Int32))), .unset, .unset, .unset, .unset, .unset, .unset, .unset, .unset, .unset] [])) := by
    clear E_b1
    clear F_text_b1
    clear F_length_b1
    clear F_afterValue_b1
    clear V_tx_2
    clear X_tx_2
    clear V_b3
    clear V_b4
    clear Zn O
    intro T5 L5 h5 jtx51 jcp51 jtg51 jln51 jav51 jEe51 X5 e5 N5 je_51 jt_51 jl_51 ja_51 jv_51 jx_51 jE_51 jS_51 O Zn hJ51
    have J76 : ∀ (T6 : State) (L6 : List Loc) (h6 : Heap) (jtx76 : Addr) (jcp76 : Int32) (jtg76 : Nat → Int32) (jln76 : Int32) (jav76 : Int32) (jEe76 : Nat → Int32), Stand p l e room_1 s m #[(.int p1), (.int p2), (.int p3), (.int p4)] below meth c T6 L6 14 88 → T6.heap = h6 → Fr n0 L6 → Exa Z h6 b1 "com/example/facet_hierarchy_store/facethierarchystore/http/JsonWriter" → Fld Z h6 b1 "com/example/facet_hierarchy_store/facethierarchystore/http/JsonWriter" "text" "[B" (.ref jtx76) → Fld Z h6 b1 "com/example/facet_hierarchy_store/facethierarchystore/http/JsonWriter" "length" "I" (.int jln76) → Fld Z h6 b1 "com/example/facet_hierarchy_store/facethierarchystore/http/JsonWriter" "afterValue" "Z" (.int jav76) → Afn Z h6 jtx76 .byte jcp76 (fun k => .int (jtg76 k)) → Exa Z h6 jtx76 "[B" → Afn Z h6 b3 .byte (8 : Int32) (fun k => .int (jEe76 k)) → Afn Z h6 b4 .int (2 : Int32) (fun k => .int (stW jln76 jav76 k)) → Old Z n0 h6 → n0 ≤ h6.size → (n0 ≤ jtx76 ∧ b1 ≠ jtx76 ∧ b3 ≠ jtx76 ∧ b4 ≠ jtx76 ∧ Cap jcp76 jln76 ∧ jln76.toInt ≤ 4 ∧ ∀ k, k < jln76.toNatClampNeg → jtg76 k = jEe76 k) → Go p.tables e below PP (T6.setTop (mkF m 76 #[.val (.int p1), .val (.int p2), .val (.int p3), .val (.int p4), .val (.ref b1), .val (.ref b3), .val (.ref b4), .val (.int (p4 &&& (3 : Int32))), .unset, .unset, .unset, .unset, .unset, .unset, .unset, .unset, .unset] [])) := by
      clear je_51
      clear jt_51
      clear jl_51
      clear ja_51
      clear jv_51
      clear jx_51
      clear jE_51
      clear jS_51
      clear Zn O
      intro T6 L6 h6 jtx76 jcp76 jtg76 jln76 jav76 jEe76 X6 e6 N6 je_76 jt_76 jl_76 ja_76 jv_76 jx_76 jE_76 jS_76 O Zn hJ76
      have J101 : ∀ (T7 : State) (L7 : List Loc) (h7 : Heap) (jtx101 : Addr) (jcp101 : Int32) (jtg101 : Nat → Int32) (jln101 : Int32) (jav101 : Int32) (jEe101 : Nat → Int32), Stand p l e room_1 s m #[(.int p1), (.int p2), (.int p3), (.int p4)] below meth c T7 L7 19 122 → T7.heap = h7 → Fr n0 L7 → Exa Z h7 b1 "com/example/facet_hierarchy_store/facethierarchystore/http/JsonWriter" → Fld Z h7 b1 "com/example/facet_hierarchy_store/facethierarchystore/http/JsonWriter" "text" "[B" (.ref jtx101) → Fld Z h7 b1 "com/example/facet_hierarchy_store/facethierarchystore/http/JsonWriter" "length" "I" (.int jln101) → Fld Z h7 b1 "com/example/facet_hierarchy_store/facethierarchystore/http/JsonWriter" "afterValue" "Z" (.int jav101) → Afn Z h7 jtx101 .byte jcp101 (fun k => .int (jtg101 k)) → Exa Z h7 jtx101 "[B" → Afn Z h7 b3 .byte (8 : Int32) (fun k => .int (jEe101 k)) → Afn Z h7 b4 .int (2 : Int32) (fun k => .int (stW jln101 jav101 k)) → Old Z n0 h7 → n0 ≤ h7.size → (n0 ≤ jtx101 ∧ b1 ≠ jtx101 ∧ b3 ≠ jtx101 ∧ b4 ≠ jtx101 ∧ Cap jcp101 jln101 ∧ jln101.toInt ≤ 6 ∧ ∀ k, k < jln101.toNatClampNeg → jtg101 k = jEe101 k) → Go p.tables e below PP (T7.setTop (mkF m 101 #[.val (.int p1), .val (.int p2), .val (.int p3), .val (.int p4), .val (.ref b1), .val (.ref b3), .val (.ref b4), .val (.int (p4 &&& (3 : Int32))), .unset, .unset, .unset, .unset, .unset, .unset, .unset, .unset, .unset] [])) := by
        clear je_76
        clear jt_76
        clear jl_76
        clear ja_76
        clear jv_76
        clear jx_76
        clear jE_76
        clear jS_76
        clear Zn O
        intro T7 L7 h7 jtx101 jcp101 jtg101 jln101 jav101 jEe101 X7 e7 N7 je_101 jt_101 jl_101 ja_101 jv_101 jx_101 jE_101 jS_101 O Zn hJ101
        show Go p.tables e below PP (T7.setTop (mkF m 101 #[.val (.int p1), .val (.int p2), .val (.int p3), .val (.int p4), .val (.ref b1), .val (.ref b3), .val (.ref b4), .val (.int (p4 &&& (3 : Int32))), .unset, .unset, .unset, .unset, .unset, .unset, .unset, .unset, .unset] []))
        refine Go.st (fun t k => XS.aload X7.here hx rfl (hb hby at_101) rfl rfl k) ?_
        show Go p.tables e below PP (T7.setTop (mkF m 103 #[.val (.int p1), .val (.int p2), .val (.int p3), .val (.int p4), .val (.ref b1), .val (.ref b3), .val (.ref b4), .val (.int (p4 &&& (3 : Int32))), .unset, .unset, .unset, .unset, .unset, .unset, .unset, .unset, .unset] [(.ref b4)]))
        refine Go.st (fun t k => XS.iconst X7.here hx rfl (hb hby at_103) k) ?_
        show Go p.tables e below PP (T7.setTop (mkF m 104 #[.val (.int p1), .val (.int p2), .val (.int p3), .val (.int p4), .val (.ref b1), .val (.ref b3), .val (.ref b4), .val (.int (p4 &&& (3 : Int32))), .unset, .unset, .unset, .unset, .unset, .unset, .unset, .unset, .unset] [(.int (0 : Int32)), (.ref b4)]))
        obtain ⟨cl8, Ar8, S8, Nn8, H8⟩ := id jS_101
        have hin8 : ¬ ((0 : Int32) < 0 ∨ cl8.slots.size ≤ ((0 : Int32)).toNatClampNeg) := inb_of S8 ⟨by decide, by decide⟩
        refine Go.st (fun t k => X7.iaload hx (j := (0 : Int32)) (v := (.int jln101)) (by rw [e7]; exact Ar8.1) (State.isArrayOf_alike hZ.alike Ar8.2.1) Ar8.2.2 hin8 ((H8 _ (inbN ⟨by decide, by decide⟩)).1.trans (congrArg some (congrArg Value.int (own_s0 _ _)))) (g := (mkF m 104 #[.val (.int p1), .val (.int p2), .val (.int p3), .val (.int p4), .val (.ref b1), .val (.ref b3), .val (.ref b4), .val (.int (p4 &&& (3 : Int32))), .unset, .unset, .unset, .unset, .unset, .unset, .unset, .unset, .unset] [(.int (0 : Int32)), (.ref b4)])) rfl rfl (hb hby at_104) _ k) ?_
        show Go p.tables e below PP (T7.setTop (mkF m 105 #[.val (.int p1), .val (.int p2), .val (.int p3), .val (.int p4), .val (.ref b1), .val (.ref b3), .val (.ref b4), .val (.int (p4 &&& (3 : Int32))), .unset, .unset, .unset, .unset, .unset, .unset, .unset, .unset, .unset] [(.int jln101)]))
        refine Go.st (fun t k => XS.istore X7.here hx rfl (hb hby at_105) rfl (l' := #[.val (.int p1), .val (.int p2), .val (.int p3), .val (.int p4), .val (.ref b1), .val (.ref b3), .val (.ref b4), .val (.int (p4 &&& (3 : Int32))), .val (.int jln101), .unset, .unset, .unset, .unset, .unset, .unset, .unset, .unset]) rfl k) ?_
        show Go p.tables e below PP (T7.setTop (mkF m 107 #[.val (.int p1), .val (.int p2), .val (.int p3), .val (.int p4), .val (.ref b1), .val (.ref b3), .val (.ref b4), .val (.int (p4 &&& (3 : Int32))), .val (.int jln101), .unset, .unset, .unset, .unset, .unset, .unset, .unset, .unset] []))
        refine Go.st (fun t k => XS.aload X7.here hx rfl (hb hby at_107) rfl rfl k) ?_
        show Go p.tables e below PP (T7.setTop (mkF m 109 #[.val (.int p1), .val (.int p2), .val (.int p3), .val (.int p4), .val (.ref b1), .val (.ref b3), .val (.ref b4), .val (.int (p4 &&& (3 : Int32))), .val (.int jln101), .unset, .unset, .unset, .unset, .unset, .unset, .unset, .unset] [(.ref b1)]))
        obtain ⟨v9, T9, L9, X9, hQ9, st9⟩ := callVi X7 hx hZ (C := "com/example/facet_hierarchy_store/facethierarchystore/http/JsonWriter") (y := (⟨"com/example/facet_hierarchy_store/facethierarchystore/http/JsonWriter", "bytes", "()[B"⟩ : MethodName)) (z := (⟨"com/example/facet_hierarchy_store/facethierarchystore/http/JsonWriter", "bytes", "()[B"⟩ : MethodName)) (a := b1) (argsL := []) (rest := []) hown (hw _ (List.mem_of_getElem? (i := 121) rfl)) (hw _ (List.mem_of_getElem? (i := 122) rfl)) (notFace_of_selects (args := #[]) (mvT hZ (hw _ (List.mem_of_getElem? (i := 124) rfl)))) (hw _ (List.mem_of_getElem? (i := 124) rfl)) (hw _ (List.mem_of_getElem? (i := 123) rfl)) (hw _ (List.mem_of_getElem? (i := 2) rfl)) (hw _ (List.mem_of_getElem? (i := 125) rfl)) (by decide) rfl je_101 (rm22 l Z a0 hw [] b1 jtx101 jcp101 jtg101 jln101 jav101 h7 n0 Zn je_101 jt_101 jl_101 ja_101 jv_101 jx_101 hJ101.2.2.2.2.1) e7 0 (by decide) (by decide) (by decide) (by decide) (g := (mkF m 109 #[.val (.int p1), .val (.int p2), .val (.int p3), .val (.int p4), .val (.ref b1), .val (.ref b3), .val (.ref b4), .val (.int (p4 &&& (3 : Int32))), .val (.int jln101), .unset, .unset, .unset, .unset, .unset, .unset, .unset, .unset] [(.ref b1)])) rfl (by rw [hml]; rfl) (lenOf pd_20 rfl) rfl (by show 2 * 0 + _ ≤ _; exact Nat.le_of_eq rfl) (hb hby at_109)
        obtain ⟨h9, e9⟩ : ∃ z, T9.heap = z := ⟨_, rfl⟩
        rw [e9] at hQ9
        obtain ⟨t_9, rfl, Nq9, Kq9, sq9_t, Fq9_0⟩ := hQ9
        have N9 := Fr.app N7 Nq9
        have ne_b1_t_9 : b1 ≠ t_9 := Nat.ne_of_lt (Nat.lt_of_lt_of_le je_101.lt sq9_t)
        have ne_jtx101_t_9 : jtx101 ≠ t_9 := Nat.ne_of_lt (Nat.lt_of_lt_of_le jv_101.lt sq9_t)
        have ne_b3_t_9 : b3 ≠ t_9 := Nat.ne_of_lt (Nat.lt_of_lt_of_le jE_101.lt sq9_t)
        have ne_b4_t_9 : b4 ≠ t_9 := Nat.ne_of_lt (Nat.lt_of_lt_of_le jS_101.lt sq9_t)
        have g_t_9 : n0 ≤ t_9 := Nat.le_trans Zn sq9_t
        replace je_101 := je_101.keep Kq9
        replace jt_101 := jt_101.keep Kq9 nin0
        replace jl_101 := jl_101.keep Kq9 nin0
        replace ja_101 := ja_101.keep Kq9 nin0
        replace jv_101 := jv_101.keep Kq9 nin0
        replace jx_101 := jx_101.keep Kq9
        replace jE_101 := jE_101.keep Kq9 nin0
        replace jS_101 := jS_101.keep Kq9 nin0
        replace O := O.keep Kq9 all0
        replace Zn := Nat.le_trans Zn Kq9.1
        have V_t_9 := Fq9_0
        refine Go.st st9 ?_
        show Go p.tables e below PP (T9.setTop (mkF m 112 #[.val (.int p1), .val (.int p2), .val (.int p3), .val (.int p4), .val (.ref b1), .val (.ref b3), .val (.ref b4), .val (.int (p4 &&& (3 : Int32))), .val (.int jln101), .unset, .unset, .unset, .unset, .unset, .unset, .unset, .unset] [(.ref t_9)]))
        refine Go.st (fun t k => XS.astore X9.here hx rfl (hb hby at_112) rfl rfl (l' := #[.val (.int p1), .val (.int p2), .val (.int p3), .val (.int p4), .val (.ref b1), .val (.ref b3), .val (.ref b4), .val (.int (p4 &&& (3 : Int32))), .val (.int jln101), .val (.ref t_9), .unset, .unset, .unset, .unset, .unset, .unset, .unset]) rfl k) ?_
        show Go p.tables e below PP (T9.setTop (mkF m 114 #[.val (.int p1), .val (.int p2), .val (.int p3), .val (.int p4), .val (.ref b1), .val (.ref b3), .val (.ref b4), .val (.int (p4 &&& (3 : Int32))), .val (.int jln101), .val (.ref t_9), .unset, .unset, .unset, .unset, .unset, .unset, .unset] []))
        refine Go.st (fun t k => XS.aload X9.here hx rfl (hb hby at_114) rfl rfl k) ?_
        show Go p.tables e below PP (T9.setTop (mkF m 116 #[.val (.int p1), .val (.int p2), .val (.int p3), .val (.int p4), .val (.ref b1), .val (.ref b3), .val (.ref b4), .val (.int (p4 &&& (3 : Int32))), .val (.int jln101), .val (.ref t_9), .unset, .unset, .unset, .unset, .unset, .unset, .unset] [(.ref t_9)]))
        refine Go.st (fun t k => XS.aload X9.here hx rfl (hb hby at_116) rfl rfl k) ?_
        show Go p.tables e below PP (T9.setTop (mkF m 118 #[.val (.int p1), .val (.int p2), .val (.int p3), .val (.int p4), .val (.ref b1), .val (.ref b3), .val (.ref b4), .val (.int (p4 &&& (3 : Int32))), .val (.int jln101), .val (.ref t_9), .unset, .unset, .unset, .unset, .unset, .unset, .unset] [(.ref b3), (.ref t_9)]))
        refine Go.st (fun t k => XS.iload X9.here hx rfl (hb hby at_118) rfl k) ?_
        show Go p.tables e below PP (T9.setTop (mkF m 120 #[.val (.int p1), .val (.int p2), .val (.int p3), .val (.int p4), .val (.ref b1), .val (.ref b3), .val (.ref b4), .val (.int (p4 &&& (3 : Int32))), .val (.int jln101), .val (.ref t_9), .unset, .unset, .unset, .unset, .unset, .unset, .unset] [(.int jln101), (.ref b3), (.ref t_9)]))
        obtain ⟨v10, T10, L10, X10, hQ10, st10⟩ := callSt X9 hx hZ (y := (⟨"com/example/facet_hierarchy_store/facethierarchystore/http/JsonWriterBytesPinLaw", "same", "([B[BI)Z"⟩ : MethodName)) (argsL := [(.ref t_9), (.ref b3), (.int jln101)]) (rest := []) hown (hw _ (List.mem_of_getElem? (i := 128) rfl)) (hw _ (List.mem_of_getElem? (i := 129) rfl)) (hw _ (List.mem_of_getElem? (i := 15) rfl)) (hw _ (List.mem_of_getElem? (i := 130) rfl)) (by decide) (rm23 l Z a0 hw [] t_9 b3 jln101 jtg101 jEe101 h9 n0 Zn V_t_9 jE_101 hJ101.2.2.2.2.2.2) e9 0 (by decide) (by decide) (by decide) (by decide) (g := (mkF m 120 #[.val (.int p1), .val (.int p2), .val (.int p3), .val (.int p4), .val (.ref b1), .val (.ref b3), .val (.ref b4), .val (.int (p4 &&& (3 : Int32))), .val (.int jln101), .val (.ref t_9), .unset, .unset, .unset, .unset, .unset, .unset, .unset] [(.int jln101), (.ref b3), (.ref t_9)])) rfl (by rw [hml]; rfl) (lenOf pd_21 rfl) rfl (by show 2 * 0 + _ ≤ _; exact Nat.le_of_eq rfl) (hb hby at_120)
        obtain ⟨rfl, rfl, e10⟩ := hQ10
        rw [List.append_nil] at X10
        refine Go.st st10 ?_
        show Go p.tables e below PP (T10.setTop (mkF m 123 #[.val (.int p1), .val (.int p2), .val (.int p3), .val (.int p4), .val (.ref b1), .val (.ref b3), .val (.ref b4), .val (.int (p4 &&& (3 : Int32))), .val (.int jln101), .val (.ref t_9), .unset, .unset, .unset, .unset, .unset, .unset, .unset] [(.int (1 : Int32))]))
        refine Go.st (fun t k => XS.istore X10.here hx rfl (hb hby at_123) rfl (l' := #[.val (.int p1), .val (.int p2), .val (.int p3), .val (.int p4), .val (.ref b1), .val (.ref b3), .val (.ref b4), .val (.int (p4 &&& (3 : Int32))), .val (.int jln101), .val (.ref t_9), .val (.int (1 : Int32)), .unset, .unset, .unset, .unset, .unset, .unset]) rfl k) ?_
        show Go p.tables e below PP (T10.setTop (mkF m 125 #[.val (.int p1), .val (.int p2), .val (.int p3), .val (.int p4), .val (.ref b1), .val (.ref b3), .val (.ref b4), .val (.int (p4 &&& (3 : Int32))), .val (.int jln101), .val (.ref t_9), .val (.int (1 : Int32)), .unset, .unset, .unset, .unset, .unset, .unset] []))
        refine Go.st (fun t k => XS.aload X10.here hx rfl (hb hby at_125) rfl rfl k) ?_
        show Go p.tables e below PP (T10.setTop (mkF m 127 #[.val (.int p1), .val (.int p2), .val (.int p3), .val (.int p4), .val (.ref b1), .val (.ref b3), .val (.ref b4), .val (.int (p4 &&& (3 : Int32))), .val (.int jln101), .val (.ref t_9), .val (.int (1 : Int32)), .unset, .unset, .unset, .unset, .unset, .unset] [(.ref b1)]))
        refine Go.st (fun t k => XS.aload X10.here hx rfl (hb hby at_127) rfl rfl k) ?_
        show Go p.tables e below PP (T10.setTop (mkF m 129 #[.val (.int p1), .val (.int p2), .val (.int p3), .val (.int p4), .val (.ref b1), .val (.ref b3), .val (.ref b4), .val (.int (p4 &&& (3 : Int32))), .val (.int jln101), .val (.ref t_9), .val (.int (1 : Int32)), .unset, .unset, .unset, .unset, .unset, .unset] [(.ref b3), (.ref b1)]))
        refine Go.st (fun t k => XS.aload X10.here hx rfl (hb hby at_129) rfl rfl k) ?_
        show Go p.tables e below PP (T10.setTop (mkF m 131 #[.val (.int p1), .val (.int p2), .val (.int p3), .val (.int p4), .val (.ref b1), .val (.ref b3), .val (.ref b4), .val (.int (p4 &&& (3 : Int32))), .val (.int jln101), .val (.ref t_9), .val (.int (1 : Int32)), .unset, .unset, .unset, .unset, .unset, .unset] [(.ref b4), (.ref b3), (.ref b1)]))
        refine Go.st (fun t k => XS.iloadN X10.here hx rfl (hb hby at_131) rfl k) ?_
        show Go p.tables e below PP (T10.setTop (mkF m 132 #[.val (.int p1), .val (.int p2), .val (.int p3), .val (.int p4), .val (.ref b1), .val (.ref b3), .val (.ref b4), .val (.int (p4 &&& (3 : Int32))), .val (.int jln101), .val (.ref t_9), .val (.int (1 : Int32)), .unset, .unset, .unset, .unset, .unset, .unset] [(.int p2), (.ref b4), (.ref b3), (.ref b1)]))
        refine Go.st (fun t k => XS.bipush X10.here hx rfl (hb hby at_132) k) ?_
        show Go p.tables e below PP (T10.setTop (mkF m 134 #[.val (.int p1), .val (.int p2), .val (.int p3), .val (.int p4), .val (.ref b1), .val (.ref b3), .val (.ref b4), .val (.int (p4 &&& (3 : Int32))), .val (.int jln101), .val (.ref t_9), .val (.int (1 : Int32)), .unset, .unset, .unset, .unset, .unset, .unset] [(.int (6 : Int32)), (.int p2), (.ref b4), (.ref b3), (.ref b1)]))
        refine Go.st (fun t k => XS.iushr X10.here hx rfl (hb hby at_134) rfl k) ?_
        show Go p.tables e below PP (T10.setTop (mkF m 135 #[.val (.int p1), .val (.int p2), .val (.int p3), .val (.int p4), .val (.ref b1), .val (.ref b3), .val (.ref b4), .val (.int (p4 &&& (3 : Int32))), .val (.int jln101), .val (.ref t_9), .val (.int (1 : Int32)), .unset, .unset, .unset, .unset, .unset, .unset] [(.int ((p2.toUInt32 >>> ((6 : Int32) &&& 31).toUInt32).toInt32)), (.ref b4), (.ref b3), (.ref b1)]))
        refine Go.st (fun t k => XS.iconst X10.here hx rfl (hb hby at_135) k) ?_
        show Go p.tables e below PP (T10.setTop (mkF m 136 #[.val (.int p1), .val (.int p2), .val (.int p3), .val (.int p4), .val (.ref b1), .val (.ref b3), .val (.ref b4), .val (.int (p4 &&& (3 : Int32))), .val (.int jln101), .val (.ref t_9), .val (.int (1 : Int32)), .unset, .unset, .unset, .unset, .unset, .unset] [(.int (3 : Int32)), (.int ((p2.toUInt32 >>> ((6 : Int32) &&& 31).toUInt32).toInt32)), (.ref b4), (.ref b3), (.ref b1)]))
        refine Go.st (fun t k => XS.iand X10.here hx rfl (hb hby at_136) rfl k) ?_
        show Go p.tables e below PP (T10.setTop (mkF m 137 #[.val (.int p1), .val (.int p2), .val (.int p3), .val (.int p4), .val (.ref b1), .val (.ref b3), .val (.ref b4), .val (.int (p4 &&& (3 : Int32))), .val (.int jln101), .val (.ref t_9), .val (.int (1 : Int32)), .unset, .unset, .unset, .unset, .unset, .unset] [(.int (((p2.toUInt32 >>> ((6 : Int32) &&& 31).toUInt32).toInt32) &&& (3 : Int32))), (.ref b4), (.ref b3), (.ref b1)]))
        refine Go.st (fun t k => XS.iloadN X10.here hx rfl (hb hby at_137) rfl k) ?_
        show Go p.tables e below PP (T10.setTop (mkF m 138 #[.val (.int p1), .val (.int p2), .val (.int p3), .val (.int p4), .val (.ref b1), .val (.ref b3), .val (.ref b4), .val (.int (p4 &&& (3 : Int32))), .val (.int jln101), .val (.ref t_9), .val (.int (1 : Int32)), .unset, .unset, .unset, .unset, .unset, .unset] [(.int p3), (.int (((p2.toUInt32 >>> ((6 : Int32) &&& 31).toUInt32).toInt32) &&& (3 : Int32))), (.ref b4), (.ref b3), (.ref b1)]))
        refine Go.st (fun t k => XS.iconst X10.here hx rfl (hb hby at_138) k) ?_
        show Go p.tables e below PP (T10.setTop (mkF m 139 #[.val (.int p1), .val (.int p2), .val (.int p3), .val (.int p4), .val (.ref b1), .val (.ref b3), .val (.ref b4), .val (.int (p4 &&& (3 : Int32))), .val (.int jln101), .val (.ref t_9), .val (.int (1 : Int32)), .unset, .unset, .unset, .unset, .unset, .unset] [(.int (3 : Int32)), (.int p3), (.int (((p2.toUInt32 >>> ((6 : Int32) &&& 31).toUInt32).toInt32) &&& (3 : Int32))), (.ref b4), (.ref b3), (.ref b1)]))
        obtain ⟨v11, T11, L11, X11, hQ11, st11⟩ := callSt X10 hx hZ (y := (⟨"com/example/facet_hierarchy_store/facethierarchystore/http/JsonWriterBytesPinLaw", "digit", "(II)I"⟩ : MethodName)) (argsL := [(.int p3), (.int (3 : Int32))]) (rest := [(.int (((p2.toUInt32 >>> ((6 : Int32) &&& 31).toUInt32).toInt32) &&& (3 : Int32))), (.ref b4), (.ref b3), (.ref b1)]) hown (hw _ (List.mem_of_getElem? (i := 13) rfl)) (hw _ (List.mem_of_getElem? (i := 14) rfl)) (hw _ (List.mem_of_getElem? (i := 15) rfl)) (hw _ (List.mem_of_getElem? (i := 16) rfl)) (by decide) (rm3 l Z a0 hw [] p3 (3 : Int32) h9 n0 Zn) e10 4 (by decide) (by decide) (by decide) (by decide) (g := (mkF m 139 #[.val (.int p1), .val (.int p2), .val (.int p3), .val (.int p4), .val (.ref b1), .val (.ref b3), .val (.ref b4), .val (.int (p4 &&& (3 : Int32))), .val (.int jln101), .val (.ref t_9), .val (.int (1 : Int32)), .unset, .unset, .unset, .unset, .unset, .unset] [(.int (3 : Int32)), (.int p3), (.int (((p2.toUInt32 >>> ((6 : Int32) &&& 31).toUInt32).toInt32) &&& (3 : Int32))), (.ref b4), (.ref b3), (.ref b1)])) rfl (by rw [hml]; rfl) (lenOf pd_8 rfl) rfl (by show 2 * 0 + _ ≤ _; exact Nat.le_of_eq rfl) (hb hby at_139)
        obtain ⟨rfl, rfl, e11⟩ := hQ11
        rw [List.append_nil] at X11
        refine Go.st st11 ?_
        generalize hdg142 : (digF p3 (3 : Int32)) = dg142
        replace hdg142 := own_dg10 _ _ _ hdg142
        show Go p.tables e below PP (T11.setTop (mkF m 142 #[.val (.int p1), .val (.int p2), .val (.int p3), .val (.int p4), .val (.ref b1), .val (.ref b3), .val (.ref b4), .val (.int (p4 &&& (3 : Int32))), .val (.int jln101), .val (.ref t_9), .val (.int (1 : Int32)), .unset, .unset, .unset, .unset, .unset, .unset] [(.int dg142), (.int (((p2.toUInt32 >>> ((6 : Int32) &&& 31).toUInt32).toInt32) &&& (3 : Int32))), (.ref b4), (.ref b3), (.ref b1)]))
        obtain ⟨v12, T12, L12, X12, hQ12, st12⟩ := callSt X11 hx hZ (y := (⟨"com/example/facet_hierarchy_store/facethierarchystore/http/JsonWriterBytesPinLaw", "step", "(Lcom/example/facet_hierarchy_store/facethierarchystore/http/JsonWriter;[B[III)V"⟩ : MethodName)) (argsL := [(.ref b1), (.ref b3), (.ref b4), (.int (((p2.toUInt32 >>> ((6 : Int32) &&& 31).toUInt32).toInt32) &&& (3 : Int32))), (.int dg142)]) (rest := []) hown (hw _ (List.mem_of_getElem? (i := 17) rfl)) (hw _ (List.mem_of_getElem? (i := 18) rfl)) (hw _ (List.mem_of_getElem? (i := 15) rfl)) (hw _ (List.mem_of_getElem? (i := 19) rfl)) (by decide) (rm4 l Z a0 hw [] b1 b3 b4 (((p2.toUInt32 >>> ((6 : Int32) &&& 31).toUInt32).toInt32) &&& (3 : Int32)) dg142 jtx101 jcp101 jtg101 jln101 jav101 jEe101 zc ad u8 h9 n0 Zn je_101 jt_101 jl_101 ja_101 jv_101 jx_101 g_b1 hJ101.1 hJ101.2.1 hJ101.2.2.2.2.1 (by have e0 : (0 : Int32).toInt = 0 := rfl; have lb0 := hJ101.2.2.2.2.2.1; omega) jE_101 jS_101 g_b3 g_b4 ne_b1_b3 ne_b1_b4 ne_b3_b4 hJ101.2.2.1 hJ101.2.2.2.1 hJ101.2.2.2.2.2.2 hdg142 SC hzc O SD AD SU SI) e11 0 (by decide) (by decide) (by decide) (by decide) (g := (mkF m 142 #[.val (.int p1), .val (.int p2), .val (.int p3), .val (.int p4), .val (.ref b1), .val (.ref b3), .val (.ref b4), .val (.int (p4 &&& (3 : Int32))), .val (.int jln101), .val (.ref t_9), .val (.int (1 : Int32)), .unset, .unset, .unset, .unset, .unset, .unset] [(.int dg142), (.int (((p2.toUInt32 >>> ((6 : Int32) &&& 31).toUInt32).toInt32) &&& (3 : Int32))), (.ref b4), (.ref b3), (.ref b1)])) rfl (by rw [hml]; rfl) (lenOf pd_22 rfl) rfl (by show 2 * 0 + _ ≤ _; exact Nat.le_of_eq rfl) (hb hby at_142)
        obtain ⟨h12, e12⟩ : ∃ z, T12.heap = z := ⟨_, rfl⟩
        rw [e12] at hQ12
        obtain ⟨tx12, cc12, tg12, Eq12, lq12, aq12, rfl, Nq12, Kq12, oq12, gq12, ⟨Ft12, Fl12, Fa12, Vt12, Xt12⟩, cpq12, VE12, VS12, bq12, ek12, nq12⟩ := hQ12
        have N12 := Fr.app N9 Nq12
        have ne_b1_tx12 : b1 ≠ tx12 := oq12.elim (fun q => by rw [q]; exact hJ101.2.1) (fun q => Nat.ne_of_lt (Nat.lt_of_lt_of_le je_101.lt q))
        have ne_b3_tx12 : b3 ≠ tx12 := oq12.elim (fun q => by rw [q]; exact hJ101.2.2.1) (fun q => Nat.ne_of_lt (Nat.lt_of_lt_of_le jE_101.lt q))
        have ne_b4_tx12 : b4 ≠ tx12 := oq12.elim (fun q => by rw [q]; exact hJ101.2.2.2.1) (fun q => Nat.ne_of_lt (Nat.lt_of_lt_of_le jS_101.lt q))
        have ne_t_9_tx12 : t_9 ≠ tx12 := oq12.elim (fun q => by rw [q]; exact (Ne.symm ne_jtx101_t_9)) (fun q => Nat.ne_of_lt (Nat.lt_of_lt_of_le V_t_9.lt q))
        replace je_101 := je_101.keep Kq12
        clear jt_101
        clear jl_101
        clear ja_101
        clear jv_101
        clear jE_101
        clear jS_101
        replace V_t_9 := V_t_9.keep Kq12 (ninS (Ne.symm ne_b1_t_9) (ninS (Ne.symm ne_b3_t_9) (ninS (Ne.symm ne_b4_t_9) (ninS (Ne.symm ne_jtx101_t_9) nin0))))
        replace O := O.keep Kq12 (allS g_b1 (allS g_b3 (allS g_b4 (allS hJ101.1 all0))))
        replace Zn := Nat.le_trans Zn Kq12.1
        refine Go.st st12 ?_
        show Go p.tables e below PP (T12.setTop (mkF m 145 #[.val (.int p1), .val (.int p2), .val (.int p3), .val (.int p4), .val (.ref b1), .val (.ref b3), .val (.ref b4), .val (.int (p4 &&& (3 : Int32))), .val (.int jln101), .val (.ref t_9), .val (.int (1 : Int32)), .unset, .unset, .unset, .unset, .unset, .unset] []))
        refine Go.st (fun t k => XS.aload X12.here hx rfl (hb hby at_145) rfl rfl k) ?_
        show Go p.tables e below PP (T12.setTop (mkF m 147 #[.val (.int p1), .val (.int p2), .val (.int p3), .val (.int p4), .val (.ref b1), .val (.ref b3), .val (.ref b4), .val (.int (p4 &&& (3 : Int32))), .val (.int jln101), .val (.ref t_9), .val (.int (1 : Int32)), .unset, .unset, .unset, .unset, .unset, .unset] [(.ref b4)]))
        refine Go.st (fun t k => XS.iconst X12.here hx rfl (hb hby at_147) k) ?_
        show Go p.tables e below PP (T12.setTop (mkF m 148 #[.val (.int p1), .val (.int p2), .val (.int p3), .val (.int p4), .val (.ref b1), .val (.ref b3), .val (.ref b4), .val (.int (p4 &&& (3 : Int32))), .val (.int jln101), .val (.ref t_9), .val (.int (1 : Int32)), .unset, .unset, .unset, .unset, .unset, .unset] [(.int (0 : Int32)), (.ref b4)]))
        obtain ⟨cl13, Ar13, S13, Nn13, H13⟩ := id VS12
        have hin13 : ¬ ((0 : Int32) < 0 ∨ cl13.slots.size ≤ ((0 : Int32)).toNatClampNeg) := inb_of S13 ⟨by decide, by decide⟩
        refine Go.st (fun t k => X12.iaload hx (j := (0 : Int32)) (v := (.int lq12)) (by rw [e12]; exact Ar13.1) (State.isArrayOf_alike hZ.alike Ar13.2.1) Ar13.2.2 hin13 ((H13 _ (inbN ⟨by decide, by decide⟩)).1.trans (congrArg some (congrArg Value.int (own_s0 _ _)))) (g := (mkF m 148 #[.val (.int p1), .val (.int p2), .val (.int p3), .val (.int p4), .val (.ref b1), .val (.ref b3), .val (.ref b4), .val (.int (p4 &&& (3 : Int32))), .val (.int jln101), .val (.ref t_9), .val (.int (1 : Int32)), .unset, .unset, .unset, .unset, .unset, .unset] [(.int (0 : Int32)), (.ref b4)])) rfl rfl (hb hby at_148) _ k) ?_
        show Go p.tables e below PP (T12.setTop (mkF m 149 #[.val (.int p1), .val (.int p2), .val (.int p3), .val (.int p4), .val (.ref b1), .val (.ref b3), .val (.ref b4), .val (.int (p4 &&& (3 : Int32))), .val (.int jln101), .val (.ref t_9), .val (.int (1 : Int32)), .unset, .unset, .unset, .unset, .unset, .unset] [(.int lq12)]))
        refine Go.st (fun t k => XS.istore X12.here hx rfl (hb hby at_149) rfl (l' := #[.val (.int p1), .val (.int p2), .val (.int p3), .val (.int p4), .val (.ref b1), .val (.ref b3), .val (.ref b4), .val (.int (p4 &&& (3 : Int32))), .val (.int jln101), .val (.ref t_9), .val (.int (1 : Int32)), .val (.int lq12), .unset, .unset, .unset, .unset, .unset]) rfl k) ?_
        show Go p.tables e below PP (T12.setTop (mkF m 151 #[.val (.int p1), .val (.int p2), .val (.int p3), .val (.int p4), .val (.ref b1), .val (.ref b3), .val (.ref b4), .val (.int (p4 &&& (3 : Int32))), .val (.int jln101), .val (.ref t_9), .val (.int (1 : Int32)), .val (.int lq12), .unset, .unset, .unset, .unset, .unset] []))
        refine Go.st (fun t k => XS.aload X12.here hx rfl (hb hby at_151) rfl rfl k) ?_
        show Go p.tables e below PP (T12.setTop (mkF m 153 #[.val (.int p1), .val (.int p2), .val (.int p3), .val (.int p4), .val (.ref b1), .val (.ref b3), .val (.ref b4), .val (.int (p4 &&& (3 : Int32))), .val (.int jln101), .val (.ref t_9), .val (.int (1 : Int32)), .val (.int lq12), .unset, .unset, .unset, .unset, .unset] [(.ref b1)]))
        obtain ⟨v14, T14, L14, X14, hQ14, st14⟩ := callVi X12 hx hZ (C := "com/example/facet_hierarchy_store/facethierarchystore/http/JsonWriter") (y := (⟨"com/example/facet_hierarchy_store/facethierarchystore/http/JsonWriter", "bytes", "()[B"⟩ : MethodName)) (z := (⟨"com/example/facet_hierarchy_store/facethierarchystore/http/JsonWriter", "bytes", "()[B"⟩ : MethodName)) (a := b1) (argsL := []) (rest := []) hown (hw _ (List.mem_of_getElem? (i := 121) rfl)) (hw _ (List.mem_of_getElem? (i := 122) rfl)) (notFace_of_selects (args := #[]) (mvT hZ (hw _ (List.mem_of_getElem? (i := 124) rfl)))) (hw _ (List.mem_of_getElem? (i := 124) rfl)) (hw _ (List.mem_of_getElem? (i := 123) rfl)) (hw _ (List.mem_of_getElem? (i := 2) rfl)) (hw _ (List.mem_of_getElem? (i := 125) rfl)) (by decide) rfl je_101 (rm22 l Z a0 hw [] b1 tx12 cc12 tg12 lq12 aq12 h12 n0 Zn je_101 Ft12 Fl12 Fa12 Vt12 Xt12 cpq12) e12 0 (by decide) (by decide) (by decide) (by decide) (g := (mkF m 153 #[.val (.int p1), .val (.int p2), .val (.int p3), .val (.int p4), .val (.ref b1), .val (.ref b3), .val (.ref b4), .val (.int (p4 &&& (3 : Int32))), .val (.int jln101), .val (.ref t_9), .val (.int (1 : Int32)), .val (.int lq12), .unset, .unset, .unset, .unset, .unset] [(.ref b1)])) rfl (by rw [hml]; rfl) (lenOf pd_20 rfl) rfl (by show 2 * 0 + _ ≤ _; exact Nat.le_of_eq rfl) (hb hby at_153)
        obtain ⟨h14, e14⟩ : ∃ z, T14.heap = z := ⟨_, rfl⟩
        rw [e14] at hQ14
        obtain ⟨t_14, rfl, Nq14, Kq14, sq14_t, Fq14_0⟩ := hQ14
        have N14 := Fr.app N12 Nq14
        have ne_b1_t_14 : b1 ≠ t_14 := Nat.ne_of_lt (Nat.lt_of_lt_of_le je_101.lt sq14_t)
        have ne_t_9_t_14 : t_9 ≠ t_14 := Nat.ne_of_lt (Nat.lt_of_lt_of_le V_t_9.lt sq14_t)
        have ne_tx12_t_14 : tx12 ≠ t_14 := Nat.ne_of_lt (Nat.lt_of_lt_of_le Vt12.lt sq14_t)
        have ne_b3_t_14 : b3 ≠ t_14 := Nat.ne_of_lt (Nat.lt_of_lt_of_le VE12.lt sq14_t)
        have ne_b4_t_14 : b4 ≠ t_14 := Nat.ne_of_lt (Nat.lt_of_lt_of_le VS12.lt sq14_t)
        have g_t_14 : n0 ≤ t_14 := Nat.le_trans Zn sq14_t
        replace je_101 := je_101.keep Kq14
        replace V_t_9 := V_t_9.keep Kq14 nin0
        replace Ft12 := Ft12.keep Kq14 nin0
        replace Fl12 := Fl12.keep Kq14 nin0
        replace Fa12 := Fa12.keep Kq14 nin0
        replace Vt12 := Vt12.keep Kq14 nin0
        replace Xt12 := Xt12.keep Kq14
        replace VE12 := VE12.keep Kq14 nin0
        replace VS12 := VS12.keep Kq14 nin0
        replace O := O.keep Kq14 all0
        replace Zn := Nat.le_trans Zn Kq14.1
        have V_t_14 := Fq14_0
        refine Go.st st14 ?_
        show Go p.tables e below PP (T14.setTop (mkF m 156 #[.val (.int p1), .val (.int p2), .val (.int p3), .val (.int p4), .val (.ref b1), .val (.ref b3), .val (.ref b4), .val (.int (p4 &&& (3 : Int32))), .val (.int jln101), .val (.ref t_9), .val (.int (1 : Int32)), .val (.int lq12), .unset, .unset, .unset, .unset, .unset] [(.ref t_14)]))
        refine Go.st (fun t k => XS.astore X14.here hx rfl (hb hby at_156) rfl rfl (l' := #[.val (.int p1), .val (.int p2), .val (.int p3), .val (.int p4), .val (.ref b1), .val (.ref b3), .val (.ref b4), .val (.int (p4 &&& (3 : Int32))), .val (.int jln101), .val (.ref t_9), .val (.int (1 : Int32)), .val (.int lq12), .val (.ref t_14), .unset, .unset, .unset, .unset]) rfl k) ?_
        show Go p.tables e below PP (T14.setTop (mkF m 158 #[.val (.int p1), .val (.int p2), .val (.int p3), .val (.int p4), .val (.ref b1), .val (.ref b3), .val (.ref b4), .val (.int (p4 &&& (3 : Int32))), .val (.int jln101), .val (.ref t_9), .val (.int (1 : Int32)), .val (.int lq12), .val (.ref t_14), .unset, .unset, .unset, .unset] []))
        refine Go.st (fun t k => XS.aload X14.here hx rfl (hb hby at_158) rfl rfl k) ?_
        show Go p.tables e below PP (T14.setTop (mkF m 160 #[.val (.int p1), .val (.int p2), .val (.int p3), .val (.int p4), .val (.ref b1), .val (.ref b3), .val (.ref b4), .val (.int (p4 &&& (3 : Int32))), .val (.int jln101), .val (.ref t_9), .val (.int (1 : Int32)), .val (.int lq12), .val (.ref t_14), .unset, .unset, .unset, .unset] [(.ref t_14)]))
        refine Go.st (fun t k => XS.aload X14.here hx rfl (hb hby at_160) rfl rfl k) ?_
        show Go p.tables e below PP (T14.setTop (mkF m 162 #[.val (.int p1), .val (.int p2), .val (.int p3), .val (.int p4), .val (.ref b1), .val (.ref b3), .val (.ref b4), .val (.int (p4 &&& (3 : Int32))), .val (.int jln101), .val (.ref t_9), .val (.int (1 : Int32)), .val (.int lq12), .val (.ref t_14), .unset, .unset, .unset, .unset] [(.ref b3), (.ref t_14)]))
        refine Go.st (fun t k => XS.iload X14.here hx rfl (hb hby at_162) rfl k) ?_
        show Go p.tables e below PP (T14.setTop (mkF m 164 #[.val (.int p1), .val (.int p2), .val (.int p3), .val (.int p4), .val (.ref b1), .val (.ref b3), .val (.ref b4), .val (.int (p4 &&& (3 : Int32))), .val (.int jln101), .val (.ref t_9), .val (.int (1 : Int32)), .val (.int lq12), .val (.ref t_14), .unset, .unset, .unset, .unset] [(.int lq12), (.ref b3), (.ref t_14)]))
        obtain ⟨v15, T15, L15, X15, hQ15, st15⟩ := callSt X14 hx hZ (y := (⟨"com/example/facet_hierarchy_store/facethierarchystore/http/JsonWriterBytesPinLaw", "same", "([B[BI)Z"⟩ : MethodName)) (argsL := [(.ref t_14), (.ref b3), (.int lq12)]) (rest := []) hown (hw _ (List.mem_of_getElem? (i := 128) rfl)) (hw _ (List.mem_of_getElem? (i := 129) rfl)) (hw _ (List.mem_of_getElem? (i := 15) rfl)) (hw _ (List.mem_of_getElem? (i := 130) rfl)) (by decide) (rm23 l Z a0 hw [] t_14 b3 lq12 tg12 Eq12 h14 n0 Zn V_t_14 VE12 bq12) e14 0 (by decide) (by decide) (by decide) (by decide) (g := (mkF m 164 #[.val (.int p1), .val (.int p2), .val (.int p3), .val (.int p4), .val (.ref b1), .val (.ref b3), .val (.ref b4), .val (.int (p4 &&& (3 : Int32))), .val (.int jln101), .val (.ref t_9), .val (.int (1 : Int32)), .val (.int lq12), .val (.ref t_14), .unset, .unset, .unset, .unset] [(.int lq12), (.ref b3), (.ref t_14)])) rfl (by rw [hml]; rfl) (lenOf pd_21 rfl) rfl (by show 2 * 0 + _ ≤ _; exact Nat.le_of_eq rfl) (hb hby at_164)
        obtain ⟨rfl, rfl, e15⟩ := hQ15
        rw [List.append_nil] at X15
        refine Go.st st15 ?_
        show Go p.tables e below PP (T15.setTop (mkF m 167 #[.val (.int p1), .val (.int p2), .val (.int p3), .val (.int p4), .val (.ref b1), .val (.ref b3), .val (.ref b4), .val (.int (p4 &&& (3 : Int32))), .val (.int jln101), .val (.ref t_9), .val (.int (1 : Int32)), .val (.int lq12), .val (.ref t_14), .unset, .unset, .unset, .unset] [(.int (1 : Int32))]))
        refine Go.st (fun t k => XS.istore X15.here hx rfl (hb hby at_167) rfl (l' := #[.val (.int p1), .val (.int p2), .val (.int p3), .val (.int p4), .val (.ref b1), .val (.ref b3), .val (.ref b4), .val (.int (p4 &&& (3 : Int32))), .val (.int jln101), .val (.ref t_9), .val (.int (1 : Int32)), .val (.int lq12), .val (.ref t_14), .val (.int (1 : Int32)), .unset, .unset, .unset]) rfl k) ?_
        show Go p.tables e below PP (T15.setTop (mkF m 169 #[.val (.int p1), .val (.int p2), .val (.int p3), .val (.int p4), .val (.ref b1), .val (.ref b3), .val (.ref b4), .val (.int (p4 &&& (3 : Int32))), .val (.int jln101), .val (.ref t_9), .val (.int (1 : Int32)), .val (.int lq12), .val (.ref t_14), .val (.int (1 : Int32)), .unset, .unset, .unset] []))
        refine Go.st (fun t k => XS.aload X15.here hx rfl (hb hby at_169) rfl rfl k) ?_
        show Go p.tables e below PP (T15.setTop (mkF m 171 #[.val (.int p1), .val (.int p2), .val (.int p3), .val (.int p4), .val (.ref b1), .val (.ref b3), .val (.ref b4), .val (.int (p4 &&& (3 : Int32))), .val (.int jln101), .val (.ref t_9), .val (.int (1 : Int32)), .val (.int lq12), .val (.ref t_14), .val (.int (1 : Int32)), .unset, .unset, .unset] [(.ref t_9)]))
        refine Go.st (fun t k => XS.aload X15.here hx rfl (hb hby at_171) rfl rfl k) ?_
        show Go p.tables e below PP (T15.setTop (mkF m 173 #[.val (.int p1), .val (.int p2), .val (.int p3), .val (.int p4), .val (.ref b1), .val (.ref b3), .val (.ref b4), .val (.int (p4 &&& (3 : Int32))), .val (.int jln101), .val (.ref t_9), .val (.int (1 : Int32)), .val (.int lq12), .val (.ref t_14), .val (.int (1 : Int32)), .unset, .unset, .unset] [(.ref b3), (.ref t_9)]))
        refine Go.st (fun t k => XS.iload X15.here hx rfl (hb hby at_173) rfl k) ?_
        show Go p.tables e below PP (T15.setTop (mkF m 175 #[.val (.int p1), .val (.int p2), .val (.int p3), .val (.int p4), .val (.ref b1), .val (.ref b3), .val (.ref b4), .val (.int (p4 &&& (3 : Int32))), .val (.int jln101), .val (.ref t_9), .val (.int (1 : Int32)), .val (.int lq12), .val (.ref t_14), .val (.int (1 : Int32)), .unset, .unset, .unset] [(.int jln101), (.ref b3), (.ref t_9)]))
        obtain ⟨v16, T16, L16, X16, hQ16, st16⟩ := callSt X15 hx hZ (y := (⟨"com/example/facet_hierarchy_store/facethierarchystore/http/JsonWriterBytesPinLaw", "same", "([B[BI)Z"⟩ : MethodName)) (argsL := [(.ref t_9), (.ref b3), (.int jln101)]) (rest := []) hown (hw _ (List.mem_of_getElem? (i := 128) rfl)) (hw _ (List.mem_of_getElem? (i := 129) rfl)) (hw _ (List.mem_of_getElem? (i := 15) rfl)) (hw _ (List.mem_of_getElem? (i := 130) rfl)) (by decide) (rm23 l Z a0 hw [] t_9 b3 jln101 jtg101 Eq12 h14 n0 Zn V_t_9 VE12 (fun k hk => (hJ101.2.2.2.2.2.2 k hk).trans (ek12 k hk).symm)) e15 0 (by decide) (by decide) (by decide) (by decide) (g := (mkF m 175 #[.val (.int p1), .val (.int p2), .val (.int p3), .val (.int p4), .val (.ref b1), .val (.ref b3), .val (.ref b4), .val (.int (p4 &&& (3 : Int32))), .val (.int jln101), .val (.ref t_9), .val (.int (1 : Int32)), .val (.int lq12), .val (.ref t_14), .val (.int (1 : Int32)), .unset, .unset, .unset] [(.int jln101), (.ref b3), (.ref t_9)])) rfl (by rw [hml]; rfl) (lenOf pd_21 rfl) rfl (by show 2 * 0 + _ ≤ _; exact Nat.le_of_eq rfl) (hb hby at_175)
        obtain ⟨rfl, rfl, e16⟩ := hQ16
        rw [List.append_nil] at X16
        refine Go.st st16 ?_
        show Go p.tables e below PP (T16.setTop (mkF m 178 #[.val (.int p1), .val (.int p2), .val (.int p3), .val (.int p4), .val (.ref b1), .val (.ref b3), .val (.ref b4), .val (.int (p4 &&& (3 : Int32))), .val (.int jln101), .val (.ref t_9), .val (.int (1 : Int32)), .val (.int lq12), .val (.ref t_14), .val (.int (1 : Int32)), .unset, .unset, .unset] [(.int (1 : Int32))]))
        refine Go.st (fun t k => XS.istore X16.here hx rfl (hb hby at_178) rfl (l' := #[.val (.int p1), .val (.int p2), .val (.int p3), .val (.int p4), .val (.ref b1), .val (.ref b3), .val (.ref b4), .val (.int (p4 &&& (3 : Int32))), .val (.int jln101), .val (.ref t_9), .val (.int (1 : Int32)), .val (.int lq12), .val (.ref t_14), .val (.int (1 : Int32)), .val (.int (1 : Int32)), .unset, .unset]) rfl k) ?_
        show Go p.tables e below PP (T16.setTop (mkF m 180 #[.val (.int p1), .val (.int p2), .val (.int p3), .val (.int p4), .val (.ref b1), .val (.ref b3), .val (.ref b4), .val (.int (p4 &&& (3 : Int32))), .val (.int jln101), .val (.ref t_9), .val (.int (1 : Int32)), .val (.int lq12), .val (.ref t_14), .val (.int (1 : Int32)), .val (.int (1 : Int32)), .unset, .unset] []))
        refine Go.st (fun t k => XS.aload X16.here hx rfl (hb hby at_180) rfl rfl k) ?_
        show Go p.tables e below PP (T16.setTop (mkF m 182 #[.val (.int p1), .val (.int p2), .val (.int p3), .val (.int p4), .val (.ref b1), .val (.ref b3), .val (.ref b4), .val (.int (p4 &&& (3 : Int32))), .val (.int jln101), .val (.ref t_9), .val (.int (1 : Int32)), .val (.int lq12), .val (.ref t_14), .val (.int (1 : Int32)), .val (.int (1 : Int32)), .unset, .unset] [(.ref t_14)]))
        obtain ⟨cl17, Ar17, S17, Nn17, -⟩ := id V_t_14
        refine Go.st (fun t k => X16.arraylength hx (by rw [e16]; exact Ar17.1) (State.isArrayOf_alike hZ.alike Ar17.2.1) (g := (mkF m 182 #[.val (.int p1), .val (.int p2), .val (.int p3), .val (.int p4), .val (.ref b1), .val (.ref b3), .val (.ref b4), .val (.int (p4 &&& (3 : Int32))), .val (.int jln101), .val (.ref t_9), .val (.int (1 : Int32)), .val (.int lq12), .val (.ref t_14), .val (.int (1 : Int32)), .val (.int (1 : Int32)), .unset, .unset] [(.ref t_14)])) rfl rfl (hb hby at_182) _ k) ?_
        rw [len_of S17 Nn17]
        show Go p.tables e below PP (T16.setTop (mkF m 183 #[.val (.int p1), .val (.int p2), .val (.int p3), .val (.int p4), .val (.ref b1), .val (.ref b3), .val (.ref b4), .val (.int (p4 &&& (3 : Int32))), .val (.int jln101), .val (.ref t_9), .val (.int (1 : Int32)), .val (.int lq12), .val (.ref t_14), .val (.int (1 : Int32)), .val (.int (1 : Int32)), .unset, .unset] [(.int lq12)]))
        by_cases hc183 : (0 : Int32) < lq12
        · --
          refine Go.st (fun t k => XS.ifNo X16.here hx rfl (hb hby at_183) rfl (XT.i0_le_f hc183) k) ?_
          show Go p.tables e below PP (T16.setTop (mkF m 186 #[.val (.int p1), .val (.int p2), .val (.int p3), .val (.int p4), .val (.ref b1), .val (.ref b3), .val (.ref b4), .val (.int (p4 &&& (3 : Int32))), .val (.int jln101), .val (.ref t_9), .val (.int (1 : Int32)), .val (.int lq12), .val (.ref t_14), .val (.int (1 : Int32)), .val (.int (1 : Int32)), .unset, .unset] []))
          refine Go.st (fun t k => XS.aload X16.here hx rfl (hb hby at_186) rfl rfl k) ?_
          show Go p.tables e below PP (T16.setTop (mkF m 188 #[.val (.int p1), .val (.int p2), .val (.int p3), .val (.int p4), .val (.ref b1), .val (.ref b3), .val (.ref b4), .val (.int (p4 &&& (3 : Int32))), .val (.int jln101), .val (.ref t_9), .val (.int (1 : Int32)), .val (.int lq12), .val (.ref t_14), .val (.int (1 : Int32)), .val (.int (1 : Int32)), .unset, .unset] [(.ref t_14)]))
          refine Go.st (fun t k => XS.iconst X16.here hx rfl (hb hby at_188) k) ?_
          show Go p.tables e below PP (T16.setTop (mkF m 189 #[.val (.int p1), .val (.int p2), .val (.int p3), .val (.int p4), .val (.ref b1), .val (.ref b3), .val (.ref b4), .val (.int (p4 &&& (3 : Int32))), .val (.int jln101), .val (.ref t_9), .val (.int (1 : Int32)), .val (.int lq12), .val (.ref t_14), .val (.int (1 : Int32)), .val (.int (1 : Int32)), .unset, .unset] [(.int (0 : Int32)), (.ref t_14)]))
          refine Go.st (fun t k => XS.aload X16.here hx rfl (hb hby at_189) rfl rfl k) ?_
          show Go p.tables e below PP (T16.setTop (mkF m 191 #[.val (.int p1), .val (.int p2), .val (.int p3), .val (.int p4), .val (.ref b1), .val (.ref b3), .val (.ref b4), .val (.int (p4 &&& (3 : Int32))), .val (.int jln101), .val (.ref t_9), .val (.int (1 : Int32)), .val (.int lq12), .val (.ref t_14), .val (.int (1 : Int32)), .val (.int (1 : Int32)), .unset, .unset] [(.ref t_14), (.int (0 : Int32)), (.ref t_14)]))
          refine Go.st (fun t k => XS.iconst X16.here hx rfl (hb hby at_191) k) ?_
          show Go p.tables e below PP (T16.setTop (mkF m 192 #[.val (.int p1), .val (.int p2), .val (.int p3), .val (.int p4), .val (.ref b1), .val (.ref b3), .val (.ref b4), .val (.int (p4 &&& (3 : Int32))), .val (.int jln101), .val (.ref t_9), .val (.int (1 : Int32)), .val (.int lq12), .val (.ref t_14), .val (.int (1 : Int32)), .val (.int (1 : Int32)), .unset, .unset] [(.int (0 : Int32)), (.ref t_14), (.int (0 : Int32)), (.ref t_14)]))
          obtain ⟨cl18, Ar18, S18, Nn18, H18⟩ := id V_t_14
          have hin18 : ¬ ((0 : Int32) < 0 ∨ cl18.slots.size ≤ ((0 : Int32)).toNatClampNeg) := inb_of S18 ⟨by decide, hc183⟩
          refine Go.st (fun t k => X16.baloadBytes hx (j := (0 : Int32)) (v := (.int (tg12 (0 : Int32).toNatClampNeg))) (by rw [e16]; exact Ar18.1) (State.isArrayOf_alike hZ.alike Ar18.2.1) Ar18.2.2 hin18 ((H18 _ (inbN ⟨by decide, hc183⟩)).1.trans (congrArg some (rfl))) (g := (mkF m 192 #[.val (.int p1), .val (.int p2), .val (.int p3), .val (.int p4), .val (.ref b1), .val (.ref b3), .val (.ref b4), .val (.int (p4 &&& (3 : Int32))), .val (.int jln101), .val (.ref t_9), .val (.int (1 : Int32)), .val (.int lq12), .val (.ref t_14), .val (.int (1 : Int32)), .val (.int (1 : Int32)), .unset, .unset] [(.int (0 : Int32)), (.ref t_14), (.int (0 : Int32)), (.ref t_14)])) rfl rfl (hb hby at_192) _ k) ?_
          show Go p.tables e below PP (T16.setTop (mkF m 193 #[.val (.int p1), .val (.int p2), .val (.int p3), .val (.int p4), .val (.ref b1), .val (.ref b3), .val (.ref b4), .val (.int (p4 &&& (3 : Int32))), .val (.int jln101), .val (.ref t_9), .val (.int (1 : Int32)), .val (.int lq12), .val (.ref t_14), .val (.int (1 : Int32)), .val (.int (1 : Int32)), .unset, .unset] [(.int (tg12 (0 : Int32).toNatClampNeg)), (.int (0 : Int32)), (.ref t_14)]))
          refine Go.st (fun t k => XS.iconst X16.here hx rfl (hb hby at_193) k) ?_
          show Go p.tables e below PP (T16.setTop (mkF m 194 #[.val (.int p1), .val (.int p2), .val (.int p3), .val (.int p4), .val (.ref b1), .val (.ref b3), .val (.ref b4), .val (.int (p4 &&& (3 : Int32))), .val (.int jln101), .val (.ref t_9), .val (.int (1 : Int32)), .val (.int lq12), .val (.ref t_14), .val (.int (1 : Int32)), .val (.int (1 : Int32)), .unset, .unset] [(.int (1 : Int32)), (.int (tg12 (0 : Int32).toNatClampNeg)), (.int (0 : Int32)), (.ref t_14)]))
          refine Go.st (fun t k => XS.ixor X16.here hx rfl (hb hby at_194) rfl k) ?_
          show Go p.tables e below PP (T16.setTop (mkF m 195 #[.val (.int p1), .val (.int p2), .val (.int p3), .val (.int p4), .val (.ref b1), .val (.ref b3), .val (.ref b4), .val (.int (p4 &&& (3 : Int32))), .val (.int jln101), .val (.ref t_9), .val (.int (1 : Int32)), .val (.int lq12), .val (.ref t_14), .val (.int (1 : Int32)), .val (.int (1 : Int32)), .unset, .unset] [(.int ((tg12 (0 : Int32).toNatClampNeg) ^^^ (1 : Int32))), (.int (0 : Int32)), (.ref t_14)]))
          refine Go.st (fun t k => XS.i2b X16.here hx rfl (hb hby at_195) rfl k) ?_
          show Go p.tables e below PP (T16.setTop (mkF m 196 #[.val (.int p1), .val (.int p2), .val (.int p3), .val (.int p4), .val (.ref b1), .val (.ref b3), .val (.ref b4), .val (.int (p4 &&& (3 : Int32))), .val (.int jln101), .val (.ref t_9), .val (.int (1 : Int32)), .val (.int lq12), .val (.ref t_14), .val (.int (1 : Int32)), .val (.int (1 : Int32)), .unset, .unset] [(.int (((tg12 (0 : Int32).toNatClampNeg) ^^^ (1 : Int32)).toInt8.toInt32)), (.int (0 : Int32)), (.ref t_14)]))
          obtain ⟨cl19, Ar19, S19, Nn19, H19⟩ := id V_t_14
          have hin19 : ¬ ((0 : Int32) < 0 ∨ cl19.slots.size ≤ ((0 : Int32)).toNatClampNeg) := inb_of S19 ⟨by decide, hc183⟩
          obtain ⟨T19, h19, X19, e19, W19, st19⟩ := stB X16 hx hZ e16 Ar19 (j := (0 : Int32)) hin19 (g := (mkF m 196 #[.val (.int p1), .val (.int p2), .val (.int p3), .val (.int p4), .val (.ref b1), .val (.ref b3), .val (.ref b4), .val (.int (p4 &&& (3 : Int32))), .val (.int jln101), .val (.ref t_9), .val (.int (1 : Int32)), .val (.int lq12), .val (.ref t_14), .val (.int (1 : Int32)), .val (.int (1 : Int32)), .unset, .unset] [(.int (((tg12 (0 : Int32).toNatClampNeg) ^^^ (1 : Int32)).toInt8.toInt32)), (.int (0 : Int32)), (.ref t_14)])) rfl rfl (hb hby at_196)
          refine Go.st st19 ?_
          have N19 := Fr.snoc X19 N14 g_t_14
          replace je_101 := je_101.wr W19
          replace V_t_9 := V_t_9.other W19 ne_t_9_t_14
          replace Ft12 := Ft12.other W19 (Or.inl ne_b1_t_14)
          replace Fl12 := Fl12.other W19 (Or.inl ne_b1_t_14)
          replace Fa12 := Fa12.other W19 (Or.inl ne_b1_t_14)
          replace Vt12 := Vt12.other W19 ne_tx12_t_14
          replace Xt12 := Xt12.wr W19
          replace VE12 := VE12.other W19 ne_b3_t_14
          replace VS12 := VS12.other W19 ne_b4_t_14
          replace O := O.wr W19 g_t_14
          replace Zn : n0 ≤ h19.size := by rw [W19.size]; exact Zn
          replace V_t_14 := Afn.set Ar19 S19 Nn19 H19 (fits_nar_byte _) W19
          show Go p.tables e below PP (T19.setTop (mkF m 197 #[.val (.int p1), .val (.int p2), .val (.int p3), .val (.int p4), .val (.ref b1), .val (.ref b3), .val (.ref b4), .val (.int (p4 &&& (3 : Int32))), .val (.int jln101), .val (.ref t_9), .val (.int (1 : Int32)), .val (.int lq12), .val (.ref t_14), .val (.int (1 : Int32)), .val (.int (1 : Int32)), .unset, .unset] []))
          refine Go.st (fun t k => XS.aload X19.here hx rfl (hb hby at_197) rfl rfl k) ?_
          show Go p.tables e below PP (T19.setTop (mkF m 199 #[.val (.int p1), .val (.int p2), .val (.int p3), .val (.int p4), .val (.ref b1), .val (.ref b3), .val (.ref b4), .val (.int (p4 &&& (3 : Int32))), .val (.int jln101), .val (.ref t_9), .val (.int (1 : Int32)), .val (.int lq12), .val (.ref t_14), .val (.int (1 : Int32)), .val (.int (1 : Int32)), .unset, .unset] [(.ref b1)]))
          obtain ⟨v20, T20, L20, X20, hQ20, st20⟩ := callVi X19 hx hZ (C := "com/example/facet_hierarchy_store/facethierarchystore/http/JsonWriter") (y := (⟨"com/example/facet_hierarchy_store/facethierarchystore/http/JsonWriter", "bytes", "()[B"⟩ : MethodName)) (z := (⟨"com/example/facet_hierarchy_store/facethierarchystore/http/JsonWriter", "bytes", "()[B"⟩ : MethodName)) (a := b1) (argsL := []) (rest := []) hown (hw _ (List.mem_of_getElem? (i := 121) rfl)) (hw _ (List.mem_of_getElem? (i := 122) rfl)) (notFace_of_selects (args := #[]) (mvT hZ (hw _ (List.mem_of_getElem? (i := 124) rfl)))) (hw _ (List.mem_of_getElem? (i := 124) rfl)) (hw _ (List.mem_of_getElem? (i := 123) rfl)) (hw _ (List.mem_of_getElem? (i := 2) rfl)) (hw _ (List.mem_of_getElem? (i := 125) rfl)) (by decide) rfl je_101 (rm22 l Z a0 hw [] b1 tx12 cc12 tg12 lq12 aq12 h19 n0 Zn je_101 Ft12 Fl12 Fa12 Vt12 Xt12 cpq12) e19 0 (by decide) (by decide) (by decide) (by decide) (g := (mkF m 199 #[.val (.int p1), .val (.int p2), .val (.int p3), .val (.int p4), .val (.ref b1), .val (.ref b3), .val (.ref b4), .val (.int (p4 &&& (3 : Int32))), .val (.int jln101), .val (.ref t_9), .val (.int (1 : Int32)), .val (.int lq12), .val (.ref t_14), .val (.int (1 : Int32)), .val (.int (1 : Int32)), .unset, .unset] [(.ref b1)])) rfl (by rw [hml]; rfl) (lenOf pd_20 rfl) rfl (by show 2 * 0 + _ ≤ _; exact Nat.le_of_eq rfl) (hb hby at_199)
          obtain ⟨h20, e20⟩ : ∃ z, T20.heap = z := ⟨_, rfl⟩
          rw [e20] at hQ20
          obtain ⟨t_20, rfl, Nq20, Kq20, sq20_t, Fq20_0⟩ := hQ20
          have N20 := Fr.app N19 Nq20
          have ne_b1_t_20 : b1 ≠ t_20 := Nat.ne_of_lt (Nat.lt_of_lt_of_le je_101.lt sq20_t)
          have ne_t_9_t_20 : t_9 ≠ t_20 := Nat.ne_of_lt (Nat.lt_of_lt_of_le V_t_9.lt sq20_t)
          have ne_tx12_t_20 : tx12 ≠ t_20 := Nat.ne_of_lt (Nat.lt_of_lt_of_le Vt12.lt sq20_t)
          have ne_b3_t_20 : b3 ≠ t_20 := Nat.ne_of_lt (Nat.lt_of_lt_of_le VE12.lt sq20_t)
          have ne_b4_t_20 : b4 ≠ t_20 := Nat.ne_of_lt (Nat.lt_of_lt_of_le VS12.lt sq20_t)
          have ne_t_14_t_20 : t_14 ≠ t_20 := Nat.ne_of_lt (Nat.lt_of_lt_of_le V_t_14.lt sq20_t)
          have g_t_20 : n0 ≤ t_20 := Nat.le_trans Zn sq20_t
          replace je_101 := je_101.keep Kq20
          replace V_t_9 := V_t_9.keep Kq20 nin0
          replace Ft12 := Ft12.keep Kq20 nin0
          replace Fl12 := Fl12.keep Kq20 nin0
          replace Fa12 := Fa12.keep Kq20 nin0
          replace Vt12 := Vt12.keep Kq20 nin0
          replace Xt12 := Xt12.keep Kq20
          replace VE12 := VE12.keep Kq20 nin0
          replace VS12 := VS12.keep Kq20 nin0
          replace V_t_14 := V_t_14.keep Kq20 nin0
          replace O := O.keep Kq20 all0
          replace Zn := Nat.le_trans Zn Kq20.1
          have V_t_20 := Fq20_0
          refine Go.st st20 ?_
          show Go p.tables e below PP (T20.setTop (mkF m 202 #[.val (.int p1), .val (.int p2), .val (.int p3), .val (.int p4), .val (.ref b1), .val (.ref b3), .val (.ref b4), .val (.int (p4 &&& (3 : Int32))), .val (.int jln101), .val (.ref t_9), .val (.int (1 : Int32)), .val (.int lq12), .val (.ref t_14), .val (.int (1 : Int32)), .val (.int (1 : Int32)), .unset, .unset] [(.ref t_20)]))
          refine Go.st (fun t k => XS.astore X20.here hx rfl (hb hby at_202) rfl rfl (l' := #[.val (.int p1), .val (.int p2), .val (.int p3), .val (.int p4), .val (.ref b1), .val (.ref b3), .val (.ref b4), .val (.int (p4 &&& (3 : Int32))), .val (.int jln101), .val (.ref t_9), .val (.int (1 : Int32)), .val (.int lq12), .val (.ref t_14), .val (.int (1 : Int32)), .val (.int (1 : Int32)), .val (.ref t_20), .unset]) rfl k) ?_
          show Go p.tables e below PP (T20.setTop (mkF m 204 #[.val (.int p1), .val (.int p2), .val (.int p3), .val (.int p4), .val (.ref b1), .val (.ref b3), .val (.ref b4), .val (.int (p4 &&& (3 : Int32))), .val (.int jln101), .val (.ref t_9), .val (.int (1 : Int32)), .val (.int lq12), .val (.ref t_14), .val (.int (1 : Int32)), .val (.int (1 : Int32)), .val (.ref t_20), .unset] []))
          refine Go.st (fun t k => XS.aload X20.here hx rfl (hb hby at_204) rfl rfl k) ?_
          show Go p.tables e below PP (T20.setTop (mkF m 206 #[.val (.int p1), .val (.int p2), .val (.int p3), .val (.int p4), .val (.ref b1), .val (.ref b3), .val (.ref b4), .val (.int (p4 &&& (3 : Int32))), .val (.int jln101), .val (.ref t_9), .val (.int (1 : Int32)), .val (.int lq12), .val (.ref t_14), .val (.int (1 : Int32)), .val (.int (1 : Int32)), .val (.ref t_20), .unset] [(.ref t_20)]))
          refine Go.st (fun t k => XS.aload X20.here hx rfl (hb hby at_206) rfl rfl k) ?_
          show Go p.tables e below PP (T20.setTop (mkF m 208 #[.val (.int p1), .val (.int p2), .val (.int p3), .val (.int p4), .val (.ref b1), .val (.ref b3), .val (.ref b4), .val (.int (p4 &&& (3 : Int32))), .val (.int jln101), .val (.ref t_9), .val (.int (1 : Int32)), .val (.int lq12), .val (.ref t_14), .val (.int (1 : Int32)), .val (.int (1 : Int32)), .val (.ref t_20), .unset] [(.ref b3), (.ref t_20)]))
          refine Go.st (fun t k => XS.iload X20.here hx rfl (hb hby at_208) rfl k) ?_
          show Go p.tables e below PP (T20.setTop (mkF m 210 #[.val (.int p1), .val (.int p2), .val (.int p3), .val (.int p4), .val (.ref b1), .val (.ref b3), .val (.ref b4), .val (.int (p4 &&& (3 : Int32))), .val (.int jln101), .val (.ref t_9), .val (.int (1 : Int32)), .val (.int lq12), .val (.ref t_14), .val (.int (1 : Int32)), .val (.int (1 : Int32)), .val (.ref t_20), .unset] [(.int lq12), (.ref b3), (.ref t_20)]))
          obtain ⟨v21, T21, L21, X21, hQ21, st21⟩ := callSt X20 hx hZ (y := (⟨"com/example/facet_hierarchy_store/facethierarchystore/http/JsonWriterBytesPinLaw", "same", "([B[BI)Z"⟩ : MethodName)) (argsL := [(.ref t_20), (.ref b3), (.int lq12)]) (rest := []) hown (hw _ (List.mem_of_getElem? (i := 128) rfl)) (hw _ (List.mem_of_getElem? (i := 129) rfl)) (hw _ (List.mem_of_getElem? (i := 15) rfl)) (hw _ (List.mem_of_getElem? (i := 130) rfl)) (by decide) (rm23 l Z a0 hw [] t_20 b3 lq12 tg12 Eq12 h20 n0 Zn V_t_20 VE12 bq12) e20 0 (by decide) (by decide) (by decide) (by decide) (g := (mkF m 210 #[.val (.int p1), .val (.int p2), .val (.int p3), .val (.int p4), .val (.ref b1), .val (.ref b3), .val (.ref b4), .val (.int (p4 &&& (3 : Int32))), .val (.int jln101), .val (.ref t_9), .val (.int (1 : Int32)), .val (.int lq12), .val (.ref t_14), .val (.int (1 : Int32)), .val (.int (1 : Int32)), .val (.ref t_20), .unset] [(.int lq12), (.ref b3), (.ref t_20)])) rfl (by rw [hml]; rfl) (lenOf pd_21 rfl) rfl (by show 2 * 0 + _ ≤ _; exact Nat.le_of_eq rfl) (hb hby at_210)
          obtain ⟨rfl, rfl, e21⟩ := hQ21
          rw [List.append_nil] at X21
          refine Go.st st21 ?_
          show Go p.tables e below PP (T21.setTop (mkF m 213 #[.val (.int p1), .val (.int p2), .val (.int p3), .val (.int p4), .val (.ref b1), .val (.ref b3), .val (.ref b4), .val (.int (p4 &&& (3 : Int32))), .val (.int jln101), .val (.ref t_9), .val (.int (1 : Int32)), .val (.int lq12), .val (.ref t_14), .val (.int (1 : Int32)), .val (.int (1 : Int32)), .val (.ref t_20), .unset] [(.int (1 : Int32))]))
          refine Go.st (fun t k => XS.istore X21.here hx rfl (hb hby at_213) rfl (l' := #[.val (.int p1), .val (.int p2), .val (.int p3), .val (.int p4), .val (.ref b1), .val (.ref b3), .val (.ref b4), .val (.int (p4 &&& (3 : Int32))), .val (.int jln101), .val (.ref t_9), .val (.int (1 : Int32)), .val (.int lq12), .val (.ref t_14), .val (.int (1 : Int32)), .val (.int (1 : Int32)), .val (.ref t_20), .val (.int (1 : Int32))]) rfl k) ?_
          show Go p.tables e below PP (T21.setTop (mkF m 215 #[.val (.int p1), .val (.int p2), .val (.int p3), .val (.int p4), .val (.ref b1), .val (.ref b3), .val (.ref b4), .val (.int (p4 &&& (3 : Int32))), .val (.int jln101), .val (.ref t_9), .val (.int (1 : Int32)), .val (.int lq12), .val (.ref t_14), .val (.int (1 : Int32)), .val (.int (1 : Int32)), .val (.ref t_20), .val (.int (1 : Int32))] []))
          refine Go.st (fun t k => XS.iload X21.here hx rfl (hb hby at_215) rfl k) ?_
          show Go p.tables e below PP (T21.setTop (mkF m 217 #[.val (.int p1), .val (.int p2), .val (.int p3), .val (.int p4), .val (.ref b1), .val (.ref b3), .val (.ref b4), .val (.int (p4 &&& (3 : Int32))), .val (.int jln101), .val (.ref t_9), .val (.int (1 : Int32)), .val (.int lq12), .val (.ref t_14), .val (.int (1 : Int32)), .val (.int (1 : Int32)), .val (.ref t_20), .val (.int (1 : Int32))] [(.int (1 : Int32))]))
          refine Go.st (fun t k => XS.ifNo X21.here hx rfl (hb hby at_217) rfl (XT.i0_eq_f (by decide)) k) ?_
          show Go p.tables e below PP (T21.setTop (mkF m 220 #[.val (.int p1), .val (.int p2), .val (.int p3), .val (.int p4), .val (.ref b1), .val (.ref b3), .val (.ref b4), .val (.int (p4 &&& (3 : Int32))), .val (.int jln101), .val (.ref t_9), .val (.int (1 : Int32)), .val (.int lq12), .val (.ref t_14), .val (.int (1 : Int32)), .val (.int (1 : Int32)), .val (.ref t_20), .val (.int (1 : Int32))] []))
          refine Go.st (fun t k => XS.iload X21.here hx rfl (hb hby at_220) rfl k) ?_
          show Go p.tables e below PP (T21.setTop (mkF m 222 #[.val (.int p1), .val (.int p2), .val (.int p3), .val (.int p4), .val (.ref b1), .val (.ref b3), .val (.ref b4), .val (.int (p4 &&& (3 : Int32))), .val (.int jln101), .val (.ref t_9), .val (.int (1 : Int32)), .val (.int lq12), .val (.ref t_14), .val (.int (1 : Int32)), .val (.int (1 : Int32)), .val (.ref t_20), .val (.int (1 : Int32))] [(.int (1 : Int32))]))
          refine Go.st (fun t k => XS.ifNo X21.here hx rfl (hb hby at_222) rfl (XT.i0_eq_f (by decide)) k) ?_
          show Go p.tables e below PP (T21.setTop (mkF m 225 #[.val (.int p1), .val (.int p2), .val (.int p3), .val (.int p4), .val (.ref b1), .val (.ref b3), .val (.ref b4), .val (.int (p4 &&& (3 : Int32))), .val (.int jln101), .val (.ref t_9), .val (.int (1 : Int32)), .val (.int lq12), .val (.ref t_14), .val (.int (1 : Int32)), .val (.int (1 : Int32)), .val (.ref t_20), .val (.int (1 : Int32))] []))
          refine Go.st (fun t k => XS.iload X21.here hx rfl (hb hby at_225) rfl k) ?_
          show Go p.tables e below PP (T21.setTop (mkF m 227 #[.val (.int p1), .val (.int p2), .val (.int p3), .val (.int p4), .val (.ref b1), .val (.ref b3), .val (.ref b4), .val (.int (p4 &&& (3 : Int32))), .val (.int jln101), .val (.ref t_9), .val (.int (1 : Int32)), .val (.int lq12), .val (.ref t_14), .val (.int (1 : Int32)), .val (.int (1 : Int32)), .val (.ref t_20), .val (.int (1 : Int32))] [(.int (1 : Int32))]))
          refine Go.st (fun t k => XS.ifNo X21.here hx rfl (hb hby at_227) rfl (XT.i0_eq_f (by decide)) k) ?_
          show Go p.tables e below PP (T21.setTop (mkF m 230 #[.val (.int p1), .val (.int p2), .val (.int p3), .val (.int p4), .val (.ref b1), .val (.ref b3), .val (.ref b4), .val (.int (p4 &&& (3 : Int32))), .val (.int jln101), .val (.ref t_9), .val (.int (1 : Int32)), .val (.int lq12), .val (.ref t_14), .val (.int (1 : Int32)), .val (.int (1 : Int32)), .val (.ref t_20), .val (.int (1 : Int32))] []))
          refine Go.st (fun t k => XS.iload X21.here hx rfl (hb hby at_230) rfl k) ?_
          show Go p.tables e below PP (T21.setTop (mkF m 232 #[.val (.int p1), .val (.int p2), .val (.int p3), .val (.int p4), .val (.ref b1), .val (.ref b3), .val (.ref b4), .val (.int (p4 &&& (3 : Int32))), .val (.int jln101), .val (.ref t_9), .val (.int (1 : Int32)), .val (.int lq12), .val (.ref t_14), .val (.int (1 : Int32)), .val (.int (1 : Int32)), .val (.ref t_20), .val (.int (1 : Int32))] [(.int (1 : Int32))]))
          refine Go.st (fun t k => XS.ifNo X21.here hx rfl (hb hby at_232) rfl (XT.i0_eq_f (by decide)) k) ?_
          show Go p.tables e below PP (T21.setTop (mkF m 235 #[.val (.int p1), .val (.int p2), .val (.int p3), .val (.int p4), .val (.ref b1), .val (.ref b3), .val (.ref b4), .val (.int (p4 &&& (3 : Int32))), .val (.int jln101), .val (.ref t_9), .val (.int (1 : Int32)), .val (.int lq12), .val (.ref t_14), .val (.int (1 : Int32)), .val (.int (1 : Int32)), .val (.ref t_20), .val (.int (1 : Int32))] []))
          refine Go.st (fun t k => XS.iconst X21.here hx rfl (hb hby at_235) k) ?_
          show Go p.tables e below PP (T21.setTop (mkF m 236 #[.val (.int p1), .val (.int p2), .val (.int p3), .val (.int p4), .val (.ref b1), .val (.ref b3), .val (.ref b4), .val (.int (p4 &&& (3 : Int32))), .val (.int jln101), .val (.ref t_9), .val (.int (1 : Int32)), .val (.int lq12), .val (.ref t_14), .val (.int (1 : Int32)), .val (.int (1 : Int32)), .val (.ref t_20), .val (.int (1 : Int32))] [(.int (1 : Int32))]))
          refine Go.st (fun t k => XS.goto X21.here hx rfl (pc0 := 236) (pc' := 240) rfl (hb hby at_236) (by decide) (by decide) k) ?_
          show Go p.tables e below PP (T21.setTop (mkF m 240 #[.val (.int p1), .val (.int p2), .val (.int p3), .val (.int p4), .val (.ref b1), .val (.ref b3), .val (.ref b4), .val (.int (p4 &&& (3 : Int32))), .val (.int jln101), .val (.ref t_9), .val (.int (1 : Int32)), .val (.int lq12), .val (.ref t_14), .val (.int (1 : Int32)), .val (.int (1 : Int32)), .val (.ref t_20), .val (.int (1 : Int32))] [(.int (1 : Int32))]))
          rw [hPP]
          refine endN X21 hx hlk (t := .boolean) hret (by simp) (hb hby at_240) (w := (1 : Int32)) (rfl) ?_ (by decide) (by decide)
          show Q0 Z p1 p2 p3 p4 zc ad u8 h0 n0 (some (.int (1 : Int32))) T21.heap _
          rw [e21]
          exact ⟨rfl, N20⟩
        · --
          refine Go.st (fun t k => XS.ifYes X16.here hx rfl (pc0 := 183) (pc' := 197) rfl (hb hby at_183) rfl (XT.i0_le_t hc183) (by decide) (by decide) k) ?_
          show Go p.tables e below PP (T16.setTop (mkF m 197 #[.val (.int p1), .val (.int p2), .val (.int p3), .val (.int p4), .val (.ref b1), .val (.ref b3), .val (.ref b4), .val (.int (p4 &&& (3 : Int32))), .val (.int jln101), .val (.ref t_9), .val (.int (1 : Int32)), .val (.int lq12), .val (.ref t_14), .val (.int (1 : Int32)), .val (.int (1 : Int32)), .unset, .unset] []))
          refine Go.st (fun t k => XS.aload X16.here hx rfl (hb hby at_197) rfl rfl k) ?_
          show Go p.tables e below PP (T16.setTop (mkF m 199 #[.val (.int p1), .val (.int p2), .val (.int p3), .val (.int p4), .val (.ref b1), .val (.ref b3), .val (.ref b4), .val (.int (p4 &&& (3 : Int32))), .val (.int jln101), .val (.ref t_9), .val (.int (1 : Int32)), .val (.int lq12), .val (.ref t_14), .val (.int (1 : Int32)), .val (.int (1 : Int32)), .unset, .unset] [(.ref b1)]))
          obtain ⟨v22, T22, L22, X22, hQ22, st22⟩ := callVi X16 hx hZ (C := "com/example/facet_hierarchy_store/facethierarchystore/http/JsonWriter") (y := (⟨"com/example/facet_hierarchy_store/facethierarchystore/http/JsonWriter", "bytes", "()[B"⟩ : MethodName)) (z := (⟨"com/example/facet_hierarchy_store/facethierarchystore/http/JsonWriter", "bytes", "()[B"⟩ : MethodName)) (a := b1) (argsL := []) (rest := []) hown (hw _ (List.mem_of_getElem? (i := 121) rfl)) (hw _ (List.mem_of_getElem? (i := 122) rfl)) (notFace_of_selects (args := #[]) (mvT hZ (hw _ (List.mem_of_getElem? (i := 124) rfl)))) (hw _ (List.mem_of_getElem? (i := 124) rfl)) (hw _ (List.mem_of_getElem? (i := 123) rfl)) (hw _ (List.mem_of_getElem? (i := 2) rfl)) (hw _ (List.mem_of_getElem? (i := 125) rfl)) (by decide) rfl je_101 (rm22 l Z a0 hw [] b1 tx12 cc12 tg12 lq12 aq12 h14 n0 Zn je_101 Ft12 Fl12 Fa12 Vt12 Xt12 cpq12) e16 0 (by decide) (by decide) (by decide) (by decide) (g := (mkF m 199 #[.val (.int p1), .val (.int p2), .val (.int p3), .val (.int p4), .val (.ref b1), .val (.ref b3), .val (.ref b4), .val (.int (p4 &&& (3 : Int32))), .val (.int jln101), .val (.ref t_9), .val (.int (1 : Int32)), .val (.int lq12), .val (.ref t_14), .val (.int (1 : Int32)), .val (.int (1 : Int32)), .unset, .unset] [(.ref b1)])) rfl (by rw [hml]; rfl) (lenOf pd_20 rfl) rfl (by show 2 * 0 + _ ≤ _; exact Nat.le_of_eq rfl) (hb hby at_199)
          obtain ⟨h22, e22⟩ : ∃ z, T22.heap = z := ⟨_, rfl⟩
          rw [e22] at hQ22
          obtain ⟨t_22, rfl, Nq22, Kq22, sq22_t, Fq22_0⟩ := hQ22
          have N22 := Fr.app N14 Nq22
          have ne_b1_t_22 : b1 ≠ t_22 := Nat.ne_of_lt (Nat.lt_of_lt_of_le je_101.lt sq22_t)
          have ne_t_9_t_22 : t_9 ≠ t_22 := Nat.ne_of_lt (Nat.lt_of_lt_of_le V_t_9.lt sq22_t)
          have ne_tx12_t_22 : tx12 ≠ t_22 := Nat.ne_of_lt (Nat.lt_of_lt_of_le Vt12.lt sq22_t)
          have ne_b3_t_22 : b3 ≠ t_22 := Nat.ne_of_lt (Nat.lt_of_lt_of_le VE12.lt sq22_t)
          have ne_b4_t_22 : b4 ≠ t_22 := Nat.ne_of_lt (Nat.lt_of_lt_of_le VS12.lt sq22_t)
          have ne_t_14_t_22 : t_14 ≠ t_22 := Nat.ne_of_lt (Nat.lt_of_lt_of_le V_t_14.lt sq22_t)
          have g_t_22 : n0 ≤ t_22 := Nat.le_trans Zn sq22_t
          replace je_101 := je_101.keep Kq22
          replace V_t_9 := V_t_9.keep Kq22 nin0
          replace Ft12 := Ft12.keep Kq22 nin0
          replace Fl12 := Fl12.keep Kq22 nin0
          replace Fa12 := Fa12.keep Kq22 nin0
          replace Vt12 := Vt12.keep Kq22 nin0
          replace Xt12 := Xt12.keep Kq22
          replace VE12 := VE12.keep Kq22 nin0
          replace VS12 := VS12.keep Kq22 nin0
          replace V_t_14 := V_t_14.keep Kq22 nin0
          replace O := O.keep Kq22 all0
          replace Zn := Nat.le_trans Zn Kq22.1
          have V_t_22 := Fq22_0
          refine Go.st st22 ?_
          show Go p.tables e below PP (T22.setTop (mkF m 202 #[.val (.int p1), .val (.int p2), .val (.int p3), .val (.int p4), .val (.ref b1), .val (.ref b3), .val (.ref b4), .val (.int (p4 &&& (3 : Int32))), .val (.int jln101), .val (.ref t_9), .val (.int (1 : Int32)), .val (.int lq12), .val (.ref t_14), .val (.int (1 : Int32)), .val (.int (1 : Int32)), .unset, .unset] [(.ref t_22)]))
          refine Go.st (fun t k => XS.astore X22.here hx rfl (hb hby at_202) rfl rfl (l' := #[.val (.int p1), .val (.int p2), .val (.int p3), .val (.int p4), .val (.ref b1), .val (.ref b3), .val (.ref b4), .val (.int (p4 &&& (3 : Int32))), .val (.int jln101), .val (.ref t_9), .val (.int (1 : Int32)), .val (.int lq12), .val (.ref t_14), .val (.int (1 : Int32)), .val (.int (1 : Int32)), .val (.ref t_22), .unset]) rfl k) ?_
          show Go p.tables e below PP (T22.setTop (mkF m 204 #[.val (.int p1), .val (.int p2), .val (.int p3), .val (.int p4), .val (.ref b1), .val (.ref b3), .val (.ref b4), .val (.int (p4 &&& (3 : Int32))), .val (.int jln101), .val (.ref t_9), .val (.int (1 : Int32)), .val (.int lq12), .val (.ref t_14), .val (.int (1 : Int32)), .val (.int (1 : Int32)), .val (.ref t_22), .unset] []))
          refine Go.st (fun t k => XS.aload X22.here hx rfl (hb hby at_204) rfl rfl k) ?_
          show Go p.tables e below PP (T22.setTop (mkF m 206 #[.val (.int p1), .val (.int p2), .val (.int p3), .val (.int p4), .val (.ref b1), .val (.ref b3), .val (.ref b4), .val (.int (p4 &&& (3 : Int32))), .val (.int jln101), .val (.ref t_9), .val (.int (1 : Int32)), .val (.int lq12), .val (.ref t_14), .val (.int (1 : Int32)), .val (.int (1 : Int32)), .val (.ref t_22), .unset] [(.ref t_22)]))
          refine Go.st (fun t k => XS.aload X22.here hx rfl (hb hby at_206) rfl rfl k) ?_
          show Go p.tables e below PP (T22.setTop (mkF m 208 #[.val (.int p1), .val (.int p2), .val (.int p3), .val (.int p4), .val (.ref b1), .val (.ref b3), .val (.ref b4), .val (.int (p4 &&& (3 : Int32))), .val (.int jln101), .val (.ref t_9), .val (.int (1 : Int32)), .val (.int lq12), .val (.ref t_14), .val (.int (1 : Int32)), .val (.int (1 : Int32)), .val (.ref t_22), .unset] [(.ref b3), (.ref t_22)]))
          refine Go.st (fun t k => XS.iload X22.here hx rfl (hb hby at_208) rfl k) ?_
          show Go p.tables e below PP (T22.setTop (mkF m 210 #[.val (.int p1), .val (.int p2), .val (.int p3), .val (.int p4), .val (.ref b1), .val (.ref b3), .val (.ref b4), .val (.int (p4 &&& (3 : Int32))), .val (.int jln101), .val (.ref t_9), .val (.int (1 : Int32)), .val (.int lq12), .val (.ref t_14), .val (.int (1 : Int32)), .val (.int (1 : Int32)), .val (.ref t_22), .unset] [(.int lq12), (.ref b3), (.ref t_22)]))
          obtain ⟨v23, T23, L23, X23, hQ23, st23⟩ := callSt X22 hx hZ (y := (⟨"com/example/facet_hierarchy_store/facethierarchystore/http/JsonWriterBytesPinLaw", "same", "([B[BI)Z"⟩ : MethodName)) (argsL := [(.ref t_22), (.ref b3), (.int lq12)]) (rest := []) hown (hw _ (List.mem_of_getElem? (i := 128) rfl)) (hw _ (List.mem_of_getElem? (i := 129) rfl)) (hw _ (List.mem_of_getElem? (i := 15) rfl)) (hw _ (List.mem_of_getElem? (i := 130) rfl)) (by decide) (rm23 l Z a0 hw [] t_22 b3 lq12 tg12 Eq12 h22 n0 Zn V_t_22 VE12 bq12) e22 0 (by decide) (by decide) (by decide) (by decide) (g := (mkF m 210 #[.val (.int p1), .val (.int p2), .val (.int p3), .val (.int p4), .val (.ref b1), .val (.ref b3), .val (.ref b4), .val (.int (p4 &&& (3 : Int32))), .val (.int jln101), .val (.ref t_9), .val (.int (1 : Int32)), .val (.int lq12), .val (.ref t_14), .val (.int (1 : Int32)), .val (.int (1 : Int32)), .val (.ref t_22), .unset] [(.int lq12), (.ref b3), (.ref t_22)])) rfl (by rw [hml]; rfl) (lenOf pd_21 rfl) rfl (by show 2 * 0 + _ ≤ _; exact Nat.le_of_eq rfl) (hb hby at_210)
          obtain ⟨rfl, rfl, e23⟩ := hQ23
          rw [List.append_nil] at X23
          refine Go.st st23 ?_
          show Go p.tables e below PP (T23.setTop (mkF m 213 #[.val (.int p1), .val (.int p2), .val (.int p3), .val (.int p4), .val (.ref b1), .val (.ref b3), .val (.ref b4), .val (.int (p4 &&& (3 : Int32))), .val (.int jln101), .val (.ref t_9), .val (.int (1 : Int32)), .val (.int lq12), .val (.ref t_14), .val (.int (1 : Int32)), .val (.int (1 : Int32)), .val (.ref t_22), .unset] [(.int (1 : Int32))]))
          refine Go.st (fun t k => XS.istore X23.here hx rfl (hb hby at_213) rfl (l' := #[.val (.int p1), .val (.int p2), .val (.int p3), .val (.int p4), .val (.ref b1), .val (.ref b3), .val (.ref b4), .val (.int (p4 &&& (3 : Int32))), .val (.int jln101), .val (.ref t_9), .val (.int (1 : Int32)), .val (.int lq12), .val (.ref t_14), .val (.int (1 : Int32)), .val (.int (1 : Int32)), .val (.ref t_22), .val (.int (1 : Int32))]) rfl k) ?_
          show Go p.tables e below PP (T23.setTop (mkF m 215 #[.val (.int p1), .val (.int p2), .val (.int p3), .val (.int p4), .val (.ref b1), .val (.ref b3), .val (.ref b4), .val (.int (p4 &&& (3 : Int32))), .val (.int jln101), .val (.ref t_9), .val (.int (1 : Int32)), .val (.int lq12), .val (.ref t_14), .val (.int (1 : Int32)), .val (.int (1 : Int32)), .val (.ref t_22), .val (.int (1 : Int32))] []))
          refine Go.st (fun t k => XS.iload X23.here hx rfl (hb hby at_215) rfl k) ?_
          show Go p.tables e below PP (T23.setTop (mkF m 217 #[.val (.int p1), .val (.int p2), .val (.int p3), .val (.int p4), .val (.ref b1), .val (.ref b3), .val (.ref b4), .val (.int (p4 &&& (3 : Int32))), .val (.int jln101), .val (.ref t_9), .val (.int (1 : Int32)), .val (.int lq12), .val (.ref t_14), .val (.int (1 : Int32)), .val (.int (1 : Int32)), .val (.ref t_22), .val (.int (1 : Int32))] [(.int (1 : Int32))]))
          refine Go.st (fun t k => XS.ifNo X23.here hx rfl (hb hby at_217) rfl (XT.i0_eq_f (by decide)) k) ?_
          show Go p.tables e below PP (T23.setTop (mkF m 220 #[.val (.int p1), .val (.int p2), .val (.int p3), .val (.int p4), .val (.ref b1), .val (.ref b3), .val (.ref b4), .val (.int (p4 &&& (3 : Int32))), .val (.int jln101), .val (.ref t_9), .val (.int (1 : Int32)), .val (.int lq12), .val (.ref t_14), .val (.int (1 : Int32)), .val (.int (1 : Int32)), .val (.ref t_22), .val (.int (1 : Int32))] []))
          refine Go.st (fun t k => XS.iload X23.here hx rfl (hb hby at_220) rfl k) ?_
          show Go p.tables e below PP (T23.setTop (mkF m 222 #[.val (.int p1), .val (.int p2), .val (.int p3), .val (.int p4), .val (.ref b1), .val (.ref b3), .val (.ref b4), .val (.int (p4 &&& (3 : Int32))), .val (.int jln101), .val (.ref t_9), .val (.int (1 : Int32)), .val (.int lq12), .val (.ref t_14), .val (.int (1 : Int32)), .val (.int (1 : Int32)), .val (.ref t_22), .val (.int (1 : Int32))] [(.int (1 : Int32))]))
          refine Go.st (fun t k => XS.ifNo X23.here hx rfl (hb hby at_222) rfl (XT.i0_eq_f (by decide)) k) ?_
          show Go p.tables e below PP (T23.setTop (mkF m 225 #[.val (.int p1), .val (.int p2), .val (.int p3), .val (.int p4), .val (.ref b1), .val (.ref b3), .val (.ref b4), .val (.int (p4 &&& (3 : Int32))), .val (.int jln101), .val (.ref t_9), .val (.int (1 : Int32)), .val (.int lq12), .val (.ref t_14), .val (.int (1 : Int32)), .val (.int (1 : Int32)), .val (.ref t_22), .val (.int (1 : Int32))] []))
          refine Go.st (fun t k => XS.iload X23.here hx rfl (hb hby at_225) rfl k) ?_
          show Go p.tables e below PP (T23.setTop (mkF m 227 #[.val (.int p1), .val (.int p2), .val (.int p3), .val (.int p4), .val (.ref b1), .val (.ref b3), .val (.ref b4), .val (.int (p4 &&& (3 : Int32))), .val (.int jln101), .val (.ref t_9), .val (.int (1 : Int32)), .val (.int lq12), .val (.ref t_14), .val (.int (1 : Int32)), .val (.int (1 : Int32)), .val (.ref t_22), .val (.int (1 : Int32))] [(.int (1 : Int32))]))
          refine Go.st (fun t k => XS.ifNo X23.here hx rfl (hb hby at_227) rfl (XT.i0_eq_f (by decide)) k) ?_
          show Go p.tables e below PP (T23.setTop (mkF m 230 #[.val (.int p1), .val (.int p2), .val (.int p3), .val (.int p4), .val (.ref b1), .val (.ref b3), .val (.ref b4), .val (.int (p4 &&& (3 : Int32))), .val (.int jln101), .val (.ref t_9), .val (.int (1 : Int32)), .val (.int lq12), .val (.ref t_14), .val (.int (1 : Int32)), .val (.int (1 : Int32)), .val (.ref t_22), .val (.int (1 : Int32))] []))
          refine Go.st (fun t k => XS.iload X23.here hx rfl (hb hby at_230) rfl k) ?_
          show Go p.tables e below PP (T23.setTop (mkF m 232 #[.val (.int p1), .val (.int p2), .val (.int p3), .val (.int p4), .val (.ref b1), .val (.ref b3), .val (.ref b4), .val (.int (p4 &&& (3 : Int32))), .val (.int jln101), .val (.ref t_9), .val (.int (1 : Int32)), .val (.int lq12), .val (.ref t_14), .val (.int (1 : Int32)), .val (.int (1 : Int32)), .val (.ref t_22), .val (.int (1 : Int32))] [(.int (1 : Int32))]))
          refine Go.st (fun t k => XS.ifNo X23.here hx rfl (hb hby at_232) rfl (XT.i0_eq_f (by decide)) k) ?_
          show Go p.tables e below PP (T23.setTop (mkF m 235 #[.val (.int p1), .val (.int p2), .val (.int p3), .val (.int p4), .val (.ref b1), .val (.ref b3), .val (.ref b4), .val (.int (p4 &&& (3 : Int32))), .val (.int jln101), .val (.ref t_9), .val (.int (1 : Int32)), .val (.int lq12), .val (.ref t_14), .val (.int (1 : Int32)), .val (.int (1 : Int32)), .val (.ref t_22), .val (.int (1 : Int32))] []))
          refine Go.st (fun t k => XS.iconst X23.here hx rfl (hb hby at_235) k) ?_
          show Go p.tables e below PP (T23.setTop (mkF m 236 #[.val (.int p1), .val (.int p2), .val (.int p3), .val (.int p4), .val (.ref b1), .val (.ref b3), .val (.ref b4), .val (.int (p4 &&& (3 : Int32))), .val (.int jln101), .val (.ref t_9), .val (.int (1 : Int32)), .val (.int lq12), .val (.ref t_14), .val (.int (1 : Int32)), .val (.int (1 : Int32)), .val (.ref t_22), .val (.int (1 : Int32))] [(.int (1 : Int32))]))
          refine Go.st (fun t k => XS.goto X23.here hx rfl (pc0 := 236) (pc' := 240) rfl (hb hby at_236) (by decide) (by decide) k) ?_
          show Go p.tables e below PP (T23.setTop (mkF m 240 #[.val (.int p1), .val (.int p2), .val (.int p3), .val (.int p4), .val (.ref b1), .val (.ref b3), .val (.ref b4), .val (.int (p4 &&& (3 : Int32))), .val (.int jln101), .val (.ref t_9), .val (.int (1 : Int32)), .val (.int lq12), .val (.ref t_14), .val (.int (1 : Int32)), .val (.int (1 : Int32)), .val (.ref t_22), .val (.int (1 : Int32))] [(.int (1 : Int32))]))
          rw [hPP]
          refine endN X23 hx hlk (t := .boolean) hret (by simp) (hb hby at_240) (w := (1 : Int32)) (rfl) ?_ (by decide) (by decide)
          show Q0 Z p1 p2 p3 p4 zc ad u8 h0 n0 (some (.int (1 : Int32))) T23.heap _
          rw [e23]
          exact ⟨rfl, N22⟩
      show Go p.tables e below PP (T6.setTop (mkF m 76 #[.val (.int p1), .val (.int p2), .val (.int p3), .val (.int p4), .val (.ref b1), .val (.ref b3), .val (.ref b4), .val (.int (p4 &&& (3 : Int32))), .unset, .unset, .unset, .unset, .unset, .unset, .unset, .unset, .unset] []))
      refine Go.st (fun t k => XS.iload X6.here hx rfl (hb hby at_76) rfl k) ?_
      show Go p.tables e below PP (T6.setTop (mkF m 78 #[.val (.int p1), .val (.int p2), .val (.int p3), .val (.int p4), .val (.ref b1), .val (.ref b3), .val (.ref b4), .val (.int (p4 &&& (3 : Int32))), .unset, .unset, .unset, .unset, .unset, .unset, .unset, .unset, .unset] [(.int (p4 &&& (3 : Int32)))]))
      refine Go.st (fun t k => XS.iconst X6.here hx rfl (hb hby at_78) k) ?_
      show Go p.tables e below PP (T6.setTop (mkF m 79 #[.val (.int p1), .val (.int p2), .val (.int p3), .val (.int p4), .val (.ref b1), .val (.ref b3), .val (.ref b4), .val (.int (p4 &&& (3 : Int32))), .unset, .unset, .unset, .unset, .unset, .unset, .unset, .unset, .unset] [(.int (2 : Int32)), (.int (p4 &&& (3 : Int32)))]))
      by_cases hc79 : (2 : Int32) < (p4 &&& (3 : Int32))
      · --
        refine Go.st (fun t k => XS.icmpNo X6.here hx rfl (hb hby at_79) rfl (XT.ii_le_f hc79) k) ?_
        show Go p.tables e below PP (T6.setTop (mkF m 82 #[.val (.int p1), .val (.int p2), .val (.int p3), .val (.int p4), .val (.ref b1), .val (.ref b3), .val (.ref b4), .val (.int (p4 &&& (3 : Int32))), .unset, .unset, .unset, .unset, .unset, .unset, .unset, .unset, .unset] []))
        refine Go.st (fun t k => XS.aload X6.here hx rfl (hb hby at_82) rfl rfl k) ?_
        show Go p.tables e below PP (T6.setTop (mkF m 84 #[.val (.int p1), .val (.int p2), .val (.int p3), .val (.int p4), .val (.ref b1), .val (.ref b3), .val (.ref b4), .val (.int (p4 &&& (3 : Int32))), .unset, .unset, .unset, .unset, .unset, .unset, .unset, .unset, .unset] [(.ref b1)]))
        refine Go.st (fun t k => XS.aload X6.here hx rfl (hb hby at_84) rfl rfl k) ?_
        show Go p.tables e below PP (T6.setTop (mkF m 86 #[.val (.int p1), .val (.int p2), .val (.int p3), .val (.int p4), .val (.ref b1), .val (.ref b3), .val (.ref b4), .val (.int (p4 &&& (3 : Int32))), .unset, .unset, .unset, .unset, .unset, .unset, .unset, .unset, .unset] [(.ref b3), (.ref b1)]))
        refine Go.st (fun t k => XS.aload X6.here hx rfl (hb hby at_86) rfl rfl k) ?_
        show Go p.tables e below PP (T6.setTop (mkF m 88 #[.val (.int p1), .val (.int p2), .val (.int p3), .val (.int p4), .val (.ref b1), .val (.ref b3), .val (.ref b4), .val (.int (p4 &&& (3 : Int32))), .unset, .unset, .unset, .unset, .unset, .unset, .unset, .unset, .unset] [(.ref b4), (.ref b3), (.ref b1)]))
        refine Go.st (fun t k => XS.iloadN X6.here hx rfl (hb hby at_88) rfl k) ?_
        show Go p.tables e below PP (T6.setTop (mkF m 89 #[.val (.int p1), .val (.int p2), .val (.int p3), .val (.int p4), .val (.ref b1), .val (.ref b3), .val (.ref b4), .val (.int (p4 &&& (3 : Int32))), .unset, .unset, .unset, .unset, .unset, .unset, .unset, .unset, .unset] [(.int p2), (.ref b4), (.ref b3), (.ref b1)]))
        refine Go.st (fun t k => XS.iconst X6.here hx rfl (hb hby at_89) k) ?_
        show Go p.tables e below PP (T6.setTop (mkF m 90 #[.val (.int p1), .val (.int p2), .val (.int p3), .val (.int p4), .val (.ref b1), .val (.ref b3), .val (.ref b4), .val (.int (p4 &&& (3 : Int32))), .unset, .unset, .unset, .unset, .unset, .unset, .unset, .unset, .unset] [(.int (4 : Int32)), (.int p2), (.ref b4), (.ref b3), (.ref b1)]))
        refine Go.st (fun t k => XS.iushr X6.here hx rfl (hb hby at_90) rfl k) ?_
        show Go p.tables e below PP (T6.setTop (mkF m 91 #[.val (.int p1), .val (.int p2), .val (.int p3), .val (.int p4), .val (.ref b1), .val (.ref b3), .val (.ref b4), .val (.int (p4 &&& (3 : Int32))), .unset, .unset, .unset, .unset, .unset, .unset, .unset, .unset, .unset] [(.int ((p2.toUInt32 >>> ((4 : Int32) &&& 31).toUInt32).toInt32)), (.ref b4), (.ref b3), (.ref b1)]))
        refine Go.st (fun t k => XS.iconst X6.here hx rfl (hb hby at_91) k) ?_
        show Go p.tables e below PP (T6.setTop (mkF m 92 #[.val (.int p1), .val (.int p2), .val (.int p3), .val (.int p4), .val (.ref b1), .val (.ref b3), .val (.ref b4), .val (.int (p4 &&& (3 : Int32))), .unset, .unset, .unset, .unset, .unset, .unset, .unset, .unset, .unset] [(.int (3 : Int32)), (.int ((p2.toUInt32 >>> ((4 : Int32) &&& 31).toUInt32).toInt32)), (.ref b4), (.ref b3), (.ref b1)]))
        refine Go.st (fun t k => XS.iand X6.here hx rfl (hb hby at_92) rfl k) ?_
        show Go p.tables e below PP (T6.setTop (mkF m 93 #[.val (.int p1), .val (.int p2), .val (.int p3), .val (.int p4), .val (.ref b1), .val (.ref b3), .val (.ref b4), .val (.int (p4 &&& (3 : Int32))), .unset, .unset, .unset, .unset, .unset, .unset, .unset, .unset, .unset] [(.int (((p2.toUInt32 >>> ((4 : Int32) &&& 31).toUInt32).toInt32) &&& (3 : Int32))), (.ref b4), (.ref b3), (.ref b1)]))
        refine Go.st (fun t k => XS.iloadN X6.here hx rfl (hb hby at_93) rfl k) ?_
        show Go p.tables e below PP (T6.setTop (mkF m 94 #[.val (.int p1), .val (.int p2), .val (.int p3), .val (.int p4), .val (.ref b1), .val (.ref b3), .val (.ref b4), .val (.int (p4 &&& (3 : Int32))), .unset, .unset, .unset, .unset, .unset, .unset, .unset, .unset, .unset] [(.int p3), (.int (((p2.toUInt32 >>> ((4 : Int32) &&& 31).toUInt32).toInt32) &&& (3 : Int32))), (.ref b4), (.ref b3), (.ref b1)]))
        refine Go.st (fun t k => XS.iconst X6.here hx rfl (hb hby at_94) k) ?_
        show Go p.tables e below PP (T6.setTop (mkF m 95 #[.val (.int p1), .val (.int p2), .val (.int p3), .val (.int p4), .val (.ref b1), .val (.ref b3), .val (.ref b4), .val (.int (p4 &&& (3 : Int32))), .unset, .unset, .unset, .unset, .unset, .unset, .unset, .unset, .unset] [(.int (2 : Int32)), (.int p3), (.int (((p2.toUInt32 >>> ((4 : Int32) &&& 31).toUInt32).toInt32) &&& (3 : Int32))), (.ref b4), (.ref b3), (.ref b1)]))
        obtain ⟨v24, T24, L24, X24, hQ24, st24⟩ := callSt X6 hx hZ (y := (⟨"com/example/facet_hierarchy_store/facethierarchystore/http/JsonWriterBytesPinLaw", "digit", "(II)I"⟩ : MethodName)) (argsL := [(.int p3), (.int (2 : Int32))]) (rest := [(.int (((p2.toUInt32 >>> ((4 : Int32) &&& 31).toUInt32).toInt32) &&& (3 : Int32))), (.ref b4), (.ref b3), (.ref b1)]) hown (hw _ (List.mem_of_getElem? (i := 13) rfl)) (hw _ (List.mem_of_getElem? (i := 14) rfl)) (hw _ (List.mem_of_getElem? (i := 15) rfl)) (hw _ (List.mem_of_getElem? (i := 16) rfl)) (by decide) (rm3 l Z a0 hw [] p3 (2 : Int32) h6 n0 Zn) e6 4 (by decide) (by decide) (by decide) (by decide) (g := (mkF m 95 #[.val (.int p1), .val (.int p2), .val (.int p3), .val (.int p4), .val (.ref b1), .val (.ref b3), .val (.ref b4), .val (.int (p4 &&& (3 : Int32))), .unset, .unset, .unset, .unset, .unset, .unset, .unset, .unset, .unset] [(.int (2 : Int32)), (.int p3), (.int (((p2.toUInt32 >>> ((4 : Int32) &&& 31).toUInt32).toInt32) &&& (3 : Int32))), (.ref b4), (.ref b3), (.ref b1)])) rfl (by rw [hml]; rfl) (lenOf pd_8 rfl) rfl (by show 2 * 0 + _ ≤ _; exact Nat.le_of_eq rfl) (hb hby at_95)
        obtain ⟨rfl, rfl, e24⟩ := hQ24
        rw [List.append_nil] at X24
        refine Go.st st24 ?_
        generalize hdg98 : (digF p3 (2 : Int32)) = dg98
        replace hdg98 := own_dg10 _ _ _ hdg98
        show Go p.tables e below PP (T24.setTop (mkF m 98 #[.val (.int p1), .val (.int p2), .val (.int p3), .val (.int p4), .val (.ref b1), .val (.ref b3), .val (.ref b4), .val (.int (p4 &&& (3 : Int32))), .unset, .unset, .unset, .unset, .unset, .unset, .unset, .unset, .unset] [(.int dg98), (.int (((p2.toUInt32 >>> ((4 : Int32) &&& 31).toUInt32).toInt32) &&& (3 : Int32))), (.ref b4), (.ref b3), (.ref b1)]))
        obtain ⟨v25, T25, L25, X25, hQ25, st25⟩ := callSt X24 hx hZ (y := (⟨"com/example/facet_hierarchy_store/facethierarchystore/http/JsonWriterBytesPinLaw", "step", "(Lcom/example/facet_hierarchy_store/facethierarchystore/http/JsonWriter;[B[III)V"⟩ : MethodName)) (argsL := [(.ref b1), (.ref b3), (.ref b4), (.int (((p2.toUInt32 >>> ((4 : Int32) &&& 31).toUInt32).toInt32) &&& (3 : Int32))), (.int dg98)]) (rest := []) hown (hw _ (List.mem_of_getElem? (i := 17) rfl)) (hw _ (List.mem_of_getElem? (i := 18) rfl)) (hw _ (List.mem_of_getElem? (i := 15) rfl)) (hw _ (List.mem_of_getElem? (i := 19) rfl)) (by decide) (rm4 l Z a0 hw [] b1 b3 b4 (((p2.toUInt32 >>> ((4 : Int32) &&& 31).toUInt32).toInt32) &&& (3 : Int32)) dg98 jtx76 jcp76 jtg76 jln76 jav76 jEe76 zc ad u8 h6 n0 Zn je_76 jt_76 jl_76 ja_76 jv_76 jx_76 g_b1 hJ76.1 hJ76.2.1 hJ76.2.2.2.2.1 (by have e0 : (0 : Int32).toInt = 0 := rfl; have lb0 := hJ76.2.2.2.2.2.1; omega) jE_76 jS_76 g_b3 g_b4 ne_b1_b3 ne_b1_b4 ne_b3_b4 hJ76.2.2.1 hJ76.2.2.2.1 hJ76.2.2.2.2.2.2 hdg98 SC hzc O SD AD SU SI) e24 0 (by decide) (by decide) (by decide) (by decide) (g := (mkF m 98 #[.val (.int p1), .val (.int p2), .val (.int p3), .val (.int p4), .val (.ref b1), .val (.ref b3), .val (.ref b4), .val (.int (p4 &&& (3 : Int32))), .unset, .unset, .unset, .unset, .unset, .unset, .unset, .unset, .unset] [(.int dg98), (.int (((p2.toUInt32 >>> ((4 : Int32) &&& 31).toUInt32).toInt32) &&& (3 : Int32))), (.ref b4), (.ref b3), (.ref b1)])) rfl (by rw [hml]; rfl) (lenOf pd_22 rfl) rfl (by show 2 * 0 + _ ≤ _; exact Nat.le_of_eq rfl) (hb hby at_98)
        obtain ⟨h25, e25⟩ : ∃ z, T25.heap = z := ⟨_, rfl⟩
        rw [e25] at hQ25
        obtain ⟨tx25, cc25, tg25, Eq25, lq25, aq25, rfl, Nq25, Kq25, oq25, gq25, ⟨Ft25, Fl25, Fa25, Vt25, Xt25⟩, cpq25, VE25, VS25, bq25, ek25, nq25⟩ := hQ25
        have N25 := Fr.app N6 Nq25
        have ne_b1_tx25 : b1 ≠ tx25 := oq25.elim (fun q => by rw [q]; exact hJ76.2.1) (fun q => Nat.ne_of_lt (Nat.lt_of_lt_of_le je_76.lt q))
        have ne_b3_tx25 : b3 ≠ tx25 := oq25.elim (fun q => by rw [q]; exact hJ76.2.2.1) (fun q => Nat.ne_of_lt (Nat.lt_of_lt_of_le jE_76.lt q))
        have ne_b4_tx25 : b4 ≠ tx25 := oq25.elim (fun q => by rw [q]; exact hJ76.2.2.2.1) (fun q => Nat.ne_of_lt (Nat.lt_of_lt_of_le jS_76.lt q))
        replace je_76 := je_76.keep Kq25
        clear jt_76
        clear jl_76
        clear ja_76
        clear jv_76
        clear jE_76
        clear jS_76
        replace O := O.keep Kq25 (allS g_b1 (allS g_b3 (allS g_b4 (allS hJ76.1 all0))))
        replace Zn := Nat.le_trans Zn Kq25.1
        refine Go.st st25 ?_
        show Go p.tables e below PP (T25.setTop (mkF m 101 #[.val (.int p1), .val (.int p2), .val (.int p3), .val (.int p4), .val (.ref b1), .val (.ref b3), .val (.ref b4), .val (.int (p4 &&& (3 : Int32))), .unset, .unset, .unset, .unset, .unset, .unset, .unset, .unset, .unset] []))
        exact J101 _ _ _ _ _ _ _ _ _ X25 e25 N25 (je_76) (Ft25) (Fl25) (Fa25) (Vt25) (Xt25) (VE25) (VS25) O Zn (⟨gq25, ne_b1_tx25, ne_b3_tx25, ne_b4_tx25, cpq25, (by have e0 : (0 : Int32).toInt = 0 := rfl; have lb0 := hJ76.2.2.2.2.2.1; have lb1 := nq25; omega), bq25⟩)
      · --
        refine Go.st (fun t k => XS.icmpYes X6.here hx rfl (pc0 := 79) (pc' := 101) rfl (hb hby at_79) rfl (XT.ii_le_t hc79) (by decide) (by decide) k) ?_
        show Go p.tables e below PP (T6.setTop (mkF m 101 #[.val (.int p1), .val (.int p2), .val (.int p3), .val (.int p4), .val (.ref b1), .val (.ref b3), .val (.ref b4), .val (.int (p4 &&& (3 : Int32))), .unset, .unset, .unset, .unset, .unset, .unset, .unset, .unset, .unset] []))
        exact J101 _ _ _ _ _ _ _ _ _ (X6.more (by decide) (by decide)) e6 N6 (je_76) (jt_76) (jl_76) (ja_76) (jv_76) (jx_76) (jE_76) (jS_76) O Zn (⟨hJ76.1, hJ76.2.1, hJ76.2.2.1, hJ76.2.2.2.1, hJ76.2.2.2.2.1, (by have e0 : (0 : Int32).toInt = 0 := rfl; have lb0 := hJ76.2.2.2.2.2.1; omega), hJ76.2.2.2.2.2.2⟩)
    show Go p.tables e below PP (T5.setTop (mkF m 51 #[.val (.int p1), .val (.int p2), .val (.int p3), .val (.int p4), .val (.ref b1), .val (.ref b3), .val (.ref b4), .val (.int (p4 &&& (3 : Int32))), .unset, .unset, .unset, .unset, .unset, .unset, .unset, .unset, .unset] []))
    refine Go.st (fun t k => XS.iload X5.here hx rfl (hb hby at_51) rfl k) ?_
    show Go p.tables e below PP (T5.setTop (mkF m 53 #[.val (.int p1), .val (.int p2), .val (.int p3), .val (.int p4), .val (.ref b1), .val (.ref b3), .val (.ref b4), .val (.int (p4 &&& (3 : Int32))), .unset, .unset, .unset, .unset, .unset, .unset, .unset, .unset, .unset] [(.int (p4 &&& (3 : Int32)))]))
    refine Go.st (fun t k => XS.iconst X5.here hx rfl (hb hby at_53) k) ?_
    show Go p.tables e below PP (T5.setTop (mkF m 54 #[.val (.int p1), .val (.int p2), .val (.int p3), .val (.int p4), .val (.ref b1), .val (.ref b3), .val (.ref b4), .val (.int (p4 &&& (3 : Int32))), .unset, .unset, .unset, .unset, .unset, .unset, .unset, .unset, .unset] [(.int (1 : Int32)), (.int (p4 &&& (3 : Int32)))]))
    by_cases hc54 : (1 : Int32) < (p4 &&& (3 : Int32))
    · --
      refine Go.st (fun t k => XS.icmpNo X5.here hx rfl (hb hby at_54) rfl (XT.ii_le_f hc54) k) ?_
      show Go p.tables e below PP (T5.setTop (mkF m 57 #[.val (.int p1), .val (.int p2), .val (.int p3), .val (.int p4), .val (.ref b1), .val (.ref b3), .val (.ref b4), .val (.int (p4 &&& (3 : Int32))), .unset, .unset, .unset, .unset, .unset, .unset, .unset, .unset, .unset] []))
      refine Go.st (fun t k => XS.aload X5.here hx rfl (hb hby at_57) rfl rfl k) ?_
      show Go p.tables e below PP (T5.setTop (mkF m 59 #[.val (.int p1), .val (.int p2), .val (.int p3), .val (.int p4), .val (.ref b1), .val (.ref b3), .val (.ref b4), .val (.int (p4 &&& (3 : Int32))), .unset, .unset, .unset, .unset, .unset, .unset, .unset, .unset, .unset] [(.ref b1)]))
      refine Go.st (fun t k => XS.aload X5.here hx rfl (hb hby at_59) rfl rfl k) ?_
      show Go p.tables e below PP (T5.setTop (mkF m 61 #[.val (.int p1), .val (.int p2), .val (.int p3), .val (.int p4), .val (.ref b1), .val (.ref b3), .val (.ref b4), .val (.int (p4 &&& (3 : Int32))), .unset, .unset, .unset, .unset, .unset, .unset, .unset, .unset, .unset] [(.ref b3), (.ref b1)]))
      refine Go.st (fun t k => XS.aload X5.here hx rfl (hb hby at_61) rfl rfl k) ?_
      show Go p.tables e below PP (T5.setTop (mkF m 63 #[.val (.int p1), .val (.int p2), .val (.int p3), .val (.int p4), .val (.ref b1), .val (.ref b3), .val (.ref b4), .val (.int (p4 &&& (3 : Int32))), .unset, .unset, .unset, .unset, .unset, .unset, .unset, .unset, .unset] [(.ref b4), (.ref b3), (.ref b1)]))
      refine Go.st (fun t k => XS.iloadN X5.here hx rfl (hb hby at_63) rfl k) ?_
      show Go p.tables e below PP (T5.setTop (mkF m 64 #[.val (.int p1), .val (.int p2), .val (.int p3), .val (.int p4), .val (.ref b1), .val (.ref b3), .val (.ref b4), .val (.int (p4 &&& (3 : Int32))), .unset, .unset, .unset, .unset, .unset, .unset, .unset, .unset, .unset] [(.int p2), (.ref b4), (.ref b3), (.ref b1)]))
      refine Go.st (fun t k => XS.iconst X5.here hx rfl (hb hby at_64) k) ?_
      show Go p.tables e below PP (T5.setTop (mkF m 65 #[.val (.int p1), .val (.int p2), .val (.int p3), .val (.int p4), .val (.ref b1), .val (.ref b3), .val (.ref b4), .val (.int (p4 &&& (3 : Int32))), .unset, .unset, .unset, .unset, .unset, .unset, .unset, .unset, .unset] [(.int (2 : Int32)), (.int p2), (.ref b4), (.ref b3), (.ref b1)]))
      refine Go.st (fun t k => XS.iushr X5.here hx rfl (hb hby at_65) rfl k) ?_
      show Go p.tables e below PP (T5.setTop (mkF m 66 #[.val (.int p1), .val (.int p2), .val (.int p3), .val (.int p4), .val (.ref b1), .val (.ref b3), .val (.ref b4), .val (.int (p4 &&& (3 : Int32))), .unset, .unset, .unset, .unset, .unset, .unset, .unset, .unset, .unset] [(.int ((p2.toUInt32 >>> ((2 : Int32) &&& 31).toUInt32).toInt32)), (.ref b4), (.ref b3), (.ref b1)]))
      refine Go.st (fun t k => XS.iconst X5.here hx rfl (hb hby at_66) k) ?_
      show Go p.tables e below PP (T5.setTop (mkF m 67 #[.val (.int p1), .val (.int p2), .val (.int p3), .val (.int p4), .val (.ref b1), .val (.ref b3), .val (.ref b4), .val (.int (p4 &&& (3 : Int32))), .unset, .unset, .unset, .unset, .unset, .unset, .unset, .unset, .unset] [(.int (3 : Int32)), (.int ((p2.toUInt32 >>> ((2 : Int32) &&& 31).toUInt32).toInt32)), (.ref b4), (.ref b3), (.ref b1)]))
      refine Go.st (fun t k => XS.iand X5.here hx rfl (hb hby at_67) rfl k) ?_
      show Go p.tables e below PP (T5.setTop (mkF m 68 #[.val (.int p1), .val (.int p2), .val (.int p3), .val (.int p4), .val (.ref b1), .val (.ref b3), .val (.ref b4), .val (.int (p4 &&& (3 : Int32))), .unset, .unset, .unset, .unset, .unset, .unset, .unset, .unset, .unset] [(.int (((p2.toUInt32 >>> ((2 : Int32) &&& 31).toUInt32).toInt32) &&& (3 : Int32))), (.ref b4), (.ref b3), (.ref b1)]))
      refine Go.st (fun t k => XS.iloadN X5.here hx rfl (hb hby at_68) rfl k) ?_
      show Go p.tables e below PP (T5.setTop (mkF m 69 #[.val (.int p1), .val (.int p2), .val (.int p3), .val (.int p4), .val (.ref b1), .val (.ref b3), .val (.ref b4), .val (.int (p4 &&& (3 : Int32))), .unset, .unset, .unset, .unset, .unset, .unset, .unset, .unset, .unset] [(.int p3), (.int (((p2.toUInt32 >>> ((2 : Int32) &&& 31).toUInt32).toInt32) &&& (3 : Int32))), (.ref b4), (.ref b3), (.ref b1)]))
      refine Go.st (fun t k => XS.iconst X5.here hx rfl (hb hby at_69) k) ?_
      show Go p.tables e below PP (T5.setTop (mkF m 70 #[.val (.int p1), .val (.int p2), .val (.int p3), .val (.int p4), .val (.ref b1), .val (.ref b3), .val (.ref b4), .val (.int (p4 &&& (3 : Int32))), .unset, .unset, .unset, .unset, .unset, .unset, .unset, .unset, .unset] [(.int (1 : Int32)), (.int p3), (.int (((p2.toUInt32 >>> ((2 : Int32) &&& 31).toUInt32).toInt32) &&& (3 : Int32))), (.ref b4), (.ref b3), (.ref b1)]))
      obtain ⟨v26, T26, L26, X26, hQ26, st26⟩ := callSt X5 hx hZ (y := (⟨"com/example/facet_hierarchy_store/facethierarchystore/http/JsonWriterBytesPinLaw", "digit", "(II)I"⟩ : MethodName)) (argsL := [(.int p3), (.int (1 : Int32))]) (rest := [(.int (((p2.toUInt32 >>> ((2 : Int32) &&& 31).toUInt32).toInt32) &&& (3 : Int32))), (.ref b4), (.ref b3), (.ref b1)]) hown (hw _ (List.mem_of_getElem? (i := 13) rfl)) (hw _ (List.mem_of_getElem? (i := 14) rfl)) (hw _ (List.mem_of_getElem? (i := 15) rfl)) (hw _ (List.mem_of_getElem? (i := 16) rfl)) (by decide) (rm3 l Z a0 hw [] p3 (1 : Int32) h5 n0 Zn) e5 4 (by decide) (by decide) (by decide) (by decide) (g := (mkF m 70 #[.val (.int p1), .val (.int p2), .val (.int p3), .val (.int p4), .val (.ref b1), .val (.ref b3), .val (.ref b4), .val (.int (p4 &&& (3 : Int32))), .unset, .unset, .unset, .unset, .unset, .unset, .unset, .unset, .unset] [(.int (1 : Int32)), (.int p3), (.int (((p2.toUInt32 >>> ((2 : Int32) &&& 31).toUInt32).toInt32) &&& (3 : Int32))), (.ref b4), (.ref b3), (.ref b1)])) rfl (by rw [hml]; rfl) (lenOf pd_8 rfl) rfl (by show 2 * 0 + _ ≤ _; exact Nat.le_of_eq rfl) (hb hby at_70)
      obtain ⟨rfl, rfl, e26⟩ := hQ26
      rw [List.append_nil] at X26
      refine Go.st st26 ?_
      generalize hdg73 : (digF p3 (1 : Int32)) = dg73
      replace hdg73 := own_dg10 _ _ _ hdg73
      show Go p.tables e below PP (T26.setTop (mkF m 73 #[.val (.int p1), .val (.int p2), .val (.int p3), .val (.int p4), .val (.ref b1), .val (.ref b3), .val (.ref b4), .val (.int (p4 &&& (3 : Int32))), .unset, .unset, .unset, .unset, .unset, .unset, .unset, .unset, .unset] [(.int dg73), (.int (((p2.toUInt32 >>> ((2 : Int32) &&& 31).toUInt32).toInt32) &&& (3 : Int32))), (.ref b4), (.ref b3), (.ref b1)]))
      obtain ⟨v27, T27, L27, X27, hQ27, st27⟩ := callSt X26 hx hZ (y := (⟨"com/example/facet_hierarchy_store/facethierarchystore/http/JsonWriterBytesPinLaw", "step", "(Lcom/example/facet_hierarchy_store/facethierarchystore/http/JsonWriter;[B[III)V"⟩ : MethodName)) (argsL := [(.ref b1), (.ref b3), (.ref b4), (.int (((p2.toUInt32 >>> ((2 : Int32) &&& 31).toUInt32).toInt32) &&& (3 : Int32))), (.int dg73)]) (rest := []) hown (hw _ (List.mem_of_getElem? (i := 17) rfl)) (hw _ (List.mem_of_getElem? (i := 18) rfl)) (hw _ (List.mem_of_getElem? (i := 15) rfl)) (hw _ (List.mem_of_getElem? (i := 19) rfl)) (by decide) (rm4 l Z a0 hw [] b1 b3 b4 (((p2.toUInt32 >>> ((2 : Int32) &&& 31).toUInt32).toInt32) &&& (3 : Int32)) dg73 jtx51 jcp51 jtg51 jln51 jav51 jEe51 zc ad u8 h5 n0 Zn je_51 jt_51 jl_51 ja_51 jv_51 jx_51 g_b1 hJ51.1 hJ51.2.1 hJ51.2.2.2.2.1 (by have e0 : (0 : Int32).toInt = 0 := rfl; have lb0 := hJ51.2.2.2.2.2.1; omega) jE_51 jS_51 g_b3 g_b4 ne_b1_b3 ne_b1_b4 ne_b3_b4 hJ51.2.2.1 hJ51.2.2.2.1 hJ51.2.2.2.2.2.2 hdg73 SC hzc O SD AD SU SI) e26 0 (by decide) (by decide) (by decide) (by decide) (g := (mkF m 73 #[.val (.int p1), .val (.int p2), .val (.int p3), .val (.int p4), .val (.ref b1), .val (.ref b3), .val (.ref b4), .val (.int (p4 &&& (3 : Int32))), .unset, .unset, .unset, .unset, .unset, .unset, .unset, .unset, .unset] [(.int dg73), (.int (((p2.toUInt32 >>> ((2 : Int32) &&& 31).toUInt32).toInt32) &&& (3 : Int32))), (.ref b4), (.ref b3), (.ref b1)])) rfl (by rw [hml]; rfl) (lenOf pd_22 rfl) rfl (by show 2 * 0 + _ ≤ _; exact Nat.le_of_eq rfl) (hb hby at_73)
      obtain ⟨h27, e27⟩ : ∃ z, T27.heap = z := ⟨_, rfl⟩
      rw [e27] at hQ27
      obtain ⟨tx27, cc27, tg27, Eq27, lq27, aq27, rfl, Nq27, Kq27, oq27, gq27, ⟨Ft27, Fl27, Fa27, Vt27, Xt27⟩, cpq27, VE27, VS27, bq27, ek27, nq27⟩ := hQ27
      have N27 := Fr.app N5 Nq27
      have ne_b1_tx27 : b1 ≠ tx27 := oq27.elim (fun q => by rw [q]; exact hJ51.2.1) (fun q => Nat.ne_of_lt (Nat.lt_of_lt_of_le je_51.lt q))
      have ne_b3_tx27 : b3 ≠ tx27 := oq27.elim (fun q => by rw [q]; exact hJ51.2.2.1) (fun q => Nat.ne_of_lt (Nat.lt_of_lt_of_le jE_51.lt q))
      have ne_b4_tx27 : b4 ≠ tx27 := oq27.elim (fun q => by rw [q]; exact hJ51.2.2.2.1) (fun q => Nat.ne_of_lt (Nat.lt_of_lt_of_le jS_51.lt q))
      replace je_51 := je_51.keep Kq27
      clear jt_51
      clear jl_51
      clear ja_51
      clear jv_51
      clear jE_51
      clear jS_51
      replace O := O.keep Kq27 (allS g_b1 (allS g_b3 (allS g_b4 (allS hJ51.1 all0))))
      replace Zn := Nat.le_trans Zn Kq27.1
      refine Go.st st27 ?_
      show Go p.tables e below PP (T27.setTop (mkF m 76 #[.val (.int p1), .val (.int p2), .val (.int p3), .val (.int p4), .val (.ref b1), .val (.ref b3), .val (.ref b4), .val (.int (p4 &&& (3 : Int32))), .unset, .unset, .unset, .unset, .unset, .unset, .unset, .unset, .unset] []))
      exact J76 _ _ _ _ _ _ _ _ _ X27 e27 N27 (je_51) (Ft27) (Fl27) (Fa27) (Vt27) (Xt27) (VE27) (VS27) O Zn (⟨gq27, ne_b1_tx27, ne_b3_tx27, ne_b4_tx27, cpq27, (by have e0 : (0 : Int32).toInt = 0 := rfl; have lb0 := hJ51.2.2.2.2.2.1; have lb1 := nq27; omega), bq27⟩)
    · --
      refine Go.st (fun t k => XS.icmpYes X5.here hx rfl (pc0 := 54) (pc' := 76) rfl (hb hby at_54) rfl (XT.ii_le_t hc54) (by decide) (by decide) k) ?_
      show Go p.tables e below PP (T5.setTop (mkF m 76 #[.val (.int p1), .val (.int p2), .val (.int p3), .val (.int p4), .val (.ref b1), .val (.ref b3), .val (.ref b4), .val (.int (p4 &&& (3 : Int32))), .unset, .unset, .unset, .unset, .unset, .unset, .unset, .unset, .unset] []))
      exact J76 _ _ _ _ _ _ _ _ _ (X5.more (by decide) (by decide)) e5 N5 (je_51) (jt_51) (jl_51) (ja_51) (jv_51) (jx_51) (jE_51) (jS_51) O Zn (⟨hJ51.1, hJ51.2.1, hJ51.2.2.1, hJ51.2.2.2.1, hJ51.2.2.2.2.1, (by have e0 : (0 : Int32).toInt = 0 := rfl; have lb0 := hJ51.2.2.2.2.2.1; omega), hJ51.2.2.2.2.2.2⟩)
  show Go p.tables e below PP (T4.setTop (mkF m 29 #[.val (.int p1), .val (.int p2), .val (.int p3), .val (.int p4), .val (.ref b1), .val (.ref b3), .val (.ref b4), .val (.int (p4 &&& (3 : Int32))), .unset, .unset, .unset, .unset, .unset, .unset, .unset, .unset, .unset] []))
  refine Go.st (fun t k => XS.iload X4.here hx rfl (hb hby at_29) rfl k) ?_
  show Go p.tables e below PP (T4.setTop (mkF m 31 #[.val (.int p1), .val (.int p2), .val (.int p3), .val (.int p4), .val (.ref b1), .val (.ref b3), .val (.ref b4), .val (.int (p4 &&& (3 : Int32))), .unset, .unset, .unset, .unset, .unset, .unset, .unset, .unset, .unset] [(.int (p4 &&& (3 : Int32)))]))
  by_cases hc31 : (0 : Int32) < (p4 &&& (3 : Int32))
  · --
    refine Go.st (fun t k => XS.ifNo X4.here hx rfl (hb hby at_31) rfl (XT.i0_le_f hc31) k) ?_
    show Go p.tables e below PP (T4.setTop (mkF m 34 #[.val (.int p1), .val (.int p2), .val (.int p3), .val (.int p4), .val (.ref b1), .val (.ref b3), .val (.ref b4), .val (.int (p4 &&& (3 : Int32))), .unset, .unset, .unset, .unset, .unset, .unset, .unset, .unset, .unset] []))
    refine Go.st (fun t k => XS.aload X4.here hx rfl (hb hby at_34) rfl rfl k) ?_
    show Go p.tables e below PP (T4.setTop (mkF m 36 #[.val (.int p1), .val (.int p2), .val (.int p3), .val (.int p4), .val (.ref b1), .val (.ref b3), .val (.ref b4), .val (.int (p4 &&& (3 : Int32))), .unset, .unset, .unset, .unset, .unset, .unset, .unset, .unset, .unset] [(.ref b1)]))
    refine Go.st (fun t k => XS.aload X4.here hx rfl (hb hby at_36) rfl rfl k) ?_
    show Go p.tables e below PP (T4.setTop (mkF m 38 #[.val (.int p1), .val (.int p2), .val (.int p3), .val (.int p4), .val (.ref b1), .val (.ref b3), .val (.ref b4), .val (.int (p4 &&& (3 : Int32))), .unset, .unset, .unset, .unset, .unset, .unset, .unset, .unset, .unset] [(.ref b3), (.ref b1)]))
    refine Go.st (fun t k => XS.aload X4.here hx rfl (hb hby at_38) rfl rfl k) ?_
    show Go p.tables e below PP (T4.setTop (mkF m 40 #[.val (.int p1), .val (.int p2), .val (.int p3), .val (.int p4), .val (.ref b1), .val (.ref b3), .val (.ref b4), .val (.int (p4 &&& (3 : Int32))), .unset, .unset, .unset, .unset, .unset, .unset, .unset, .unset, .unset] [(.ref b4), (.ref b3), (.ref b1)]))
    refine Go.st (fun t k => XS.iloadN X4.here hx rfl (hb hby at_40) rfl k) ?_
    show Go p.tables e below PP (T4.setTop (mkF m 41 #[.val (.int p1), .val (.int p2), .val (.int p3), .val (.int p4), .val (.ref b1), .val (.ref b3), .val (.ref b4), .val (.int (p4 &&& (3 : Int32))), .unset, .unset, .unset, .unset, .unset, .unset, .unset, .unset, .unset] [(.int p2), (.ref b4), (.ref b3), (.ref b1)]))
    refine Go.st (fun t k => XS.iconst X4.here hx rfl (hb hby at_41) k) ?_
    show Go p.tables e below PP (T4.setTop (mkF m 42 #[.val (.int p1), .val (.int p2), .val (.int p3), .val (.int p4), .val (.ref b1), .val (.ref b3), .val (.ref b4), .val (.int (p4 &&& (3 : Int32))), .unset, .unset, .unset, .unset, .unset, .unset, .unset, .unset, .unset] [(.int (3 : Int32)), (.int p2), (.ref b4), (.ref b3), (.ref b1)]))
    refine Go.st (fun t k => XS.iand X4.here hx rfl (hb hby at_42) rfl k) ?_
    show Go p.tables e below PP (T4.setTop (mkF m 43 #[.val (.int p1), .val (.int p2), .val (.int p3), .val (.int p4), .val (.ref b1), .val (.ref b3), .val (.ref b4), .val (.int (p4 &&& (3 : Int32))), .unset, .unset, .unset, .unset, .unset, .unset, .unset, .unset, .unset] [(.int (p2 &&& (3 : Int32))), (.ref b4), (.ref b3), (.ref b1)]))
    refine Go.st (fun t k => XS.iloadN X4.here hx rfl (hb hby at_43) rfl k) ?_
    show Go p.tables e below PP (T4.setTop (mkF m 44 #[.val (.int p1), .val (.int p2), .val (.int p3), .val (.int p4), .val (.ref b1), .val (.ref b3), .val (.ref b4), .val (.int (p4 &&& (3 : Int32))), .unset, .unset, .unset, .unset, .unset, .unset, .unset, .unset, .unset] [(.int p3), (.int (p2 &&& (3 : Int32))), (.ref b4), (.ref b3), (.ref b1)]))
    refine Go.st (fun t k => XS.iconst X4.here hx rfl (hb hby at_44) k) ?_
    show Go p.tables e below PP (T4.setTop (mkF m 45 #[.val (.int p1), .val (.int p2), .val (.int p3), .val (.int p4), .val (.ref b1), .val (.ref b3), .val (.ref b4), .val (.int (p4 &&& (3 : Int32))), .unset, .unset, .unset, .unset, .unset, .unset, .unset, .unset, .unset] [(.int (0 : Int32)), (.int p3), (.int (p2 &&& (3 : Int32))), (.ref b4), (.ref b3), (.ref b1)]))
    obtain ⟨v28, T28, L28, X28, hQ28, st28⟩ := callSt X4 hx hZ (y := (⟨"com/example/facet_hierarchy_store/facethierarchystore/http/JsonWriterBytesPinLaw", "digit", "(II)I"⟩ : MethodName)) (argsL := [(.int p3), (.int (0 : Int32))]) (rest := [(.int (p2 &&& (3 : Int32))), (.ref b4), (.ref b3), (.ref b1)]) hown (hw _ (List.mem_of_getElem? (i := 13) rfl)) (hw _ (List.mem_of_getElem? (i := 14) rfl)) (hw _ (List.mem_of_getElem? (i := 15) rfl)) (hw _ (List.mem_of_getElem? (i := 16) rfl)) (by decide) (rm3 l Z a0 hw [] p3 (0 : Int32) h4 n0 Zn) e4 4 (by decide) (by decide) (by decide) (by decide) (g := (mkF m 45 #[.val (.int p1), .val (.int p2), .val (.int p3), .val (.int p4), .val (.ref b1), .val (.ref b3), .val (.ref b4), .val (.int (p4 &&& (3 : Int32))), .unset, .unset, .unset, .unset, .unset, .unset, .unset, .unset, .unset] [(.int (0 : Int32)), (.int p3), (.int (p2 &&& (3 : Int32))), (.ref b4), (.ref b3), (.ref b1)])) rfl (by rw [hml]; rfl) (lenOf pd_8 rfl) rfl (by show 2 * 0 + _ ≤ _; exact Nat.le_of_eq rfl) (hb hby at_45)
    obtain ⟨rfl, rfl, e28⟩ := hQ28
    rw [List.append_nil] at X28
    refine Go.st st28 ?_
    generalize hdg48 : (digF p3 (0 : Int32)) = dg48
    replace hdg48 := own_dg10 _ _ _ hdg48
    show Go p.tables e below PP (T28.setTop (mkF m 48 #[.val (.int p1), .val (.int p2), .val (.int p3), .val (.int p4), .val (.ref b1), .val (.ref b3), .val (.ref b4), .val (.int (p4 &&& (3 : Int32))), .unset, .unset, .unset, .unset, .unset, .unset, .unset, .unset, .unset] [(.int dg48), (.int (p2 &&& (3 : Int32))), (.ref b4), (.ref b3), (.ref b1)]))
    obtain ⟨v29, T29, L29, X29, hQ29, st29⟩ := callSt X28 hx hZ (y := (⟨"com/example/facet_hierarchy_store/facethierarchystore/http/JsonWriterBytesPinLaw", "step", "(Lcom/example/facet_hierarchy_store/facethierarchystore/http/JsonWriter;[B[III)V"⟩ : MethodName)) (argsL := [(.ref b1), (.ref b3), (.ref b4), (.int (p2 &&& (3 : Int32))), (.int dg48)]) (rest := []) hown (hw _ (List.mem_of_getElem? (i := 17) rfl)) (hw _ (List.mem_of_getElem? (i := 18) rfl)) (hw _ (List.mem_of_getElem? (i := 15) rfl)) (hw _ (List.mem_of_getElem? (i := 19) rfl)) (by decide) (rm4 l Z a0 hw [] b1 b3 b4 (p2 &&& (3 : Int32)) dg48 tx_2 c0 (fun k => (0 : Int32)) (0 : Int32) (0 : Int32) (fun k => (0 : Int32)) zc ad u8 h4 n0 Zn E_b1 F_text_b1 F_length_b1 F_afterValue_b1 V_tx_2 X_tx_2 g_b1 g_tx_2 ne_b1_tx_2 hcz.2.2 (by have e0 : (0 : Int32).toInt = 0 := rfl; omega) V_b3 V_b4 g_b3 g_b4 ne_b1_b3 ne_b1_b4 ne_b3_b4 (Ne.symm ne_tx_2_b3) (Ne.symm ne_tx_2_b4) (fun k hk => absurd hk (Nat.not_lt_zero k)) hdg48 SC hzc O SD AD SU SI) e28 0 (by decide) (by decide) (by decide) (by decide) (g := (mkF m 48 #[.val (.int p1), .val (.int p2), .val (.int p3), .val (.int p4), .val (.ref b1), .val (.ref b3), .val (.ref b4), .val (.int (p4 &&& (3 : Int32))), .unset, .unset, .unset, .unset, .unset, .unset, .unset, .unset, .unset] [(.int dg48), (.int (p2 &&& (3 : Int32))), (.ref b4), (.ref b3), (.ref b1)])) rfl (by rw [hml]; rfl) (lenOf pd_22 rfl) rfl (by show 2 * 0 + _ ≤ _; exact Nat.le_of_eq rfl) (hb hby at_48)
    obtain ⟨h29, e29⟩ : ∃ z, T29.heap = z := ⟨_, rfl⟩
    rw [e29] at hQ29
    obtain ⟨tx29, cc29, tg29, Eq29, lq29, aq29, rfl, Nq29, Kq29, oq29, gq29, ⟨Ft29, Fl29, Fa29, Vt29, Xt29⟩, cpq29, VE29, VS29, bq29, ek29, nq29⟩ := hQ29
    have N29 := Fr.app N2 Nq29
    have ne_b1_tx29 : b1 ≠ tx29 := oq29.elim (fun q => by rw [q]; exact ne_b1_tx_2) (fun q => Nat.ne_of_lt (Nat.lt_of_lt_of_le E_b1.lt q))
    have ne_b3_tx29 : b3 ≠ tx29 := oq29.elim (fun q => by rw [q]; exact (Ne.symm ne_tx_2_b3)) (fun q => Nat.ne_of_lt (Nat.lt_of_lt_of_le V_b3.lt q))
    have ne_b4_tx29 : b4 ≠ tx29 := oq29.elim (fun q => by rw [q]; exact (Ne.symm ne_tx_2_b4)) (fun q => Nat.ne_of_lt (Nat.lt_of_lt_of_le V_b4.lt q))
    replace E_b1 := E_b1.keep Kq29
    clear F_text_b1
    clear F_length_b1
    clear F_afterValue_b1
    clear V_tx_2
    clear V_b3
    clear V_b4
    replace O := O.keep Kq29 (allS g_b1 (allS g_b3 (allS g_b4 (allS g_tx_2 all0))))
    replace Zn := Nat.le_trans Zn Kq29.1
    refine Go.st st29 ?_
    show Go p.tables e below PP (T29.setTop (mkF m 51 #[.val (.int p1), .val (.int p2), .val (.int p3), .val (.int p4), .val (.ref b1), .val (.ref b3), .val (.ref b4), .val (.int (p4 &&& (3 : Int32))), .unset, .unset, .unset, .unset, .unset, .unset, .unset, .unset, .unset] []))
    exact J51 _ _ _ _ _ _ _ _ _ X29 e29 N29 (E_b1) (Ft29) (Fl29) (Fa29) (Vt29) (Xt29) (VE29) (VS29) O Zn (⟨gq29, ne_b1_tx29, ne_b3_tx29, ne_b4_tx29, cpq29, (by have e0 : (0 : Int32).toInt = 0 := rfl; have lb0 := nq29; omega), bq29⟩)
  · --
    refine Go.st (fun t k => XS.ifYes X4.here hx rfl (pc0 := 31) (pc' := 51) rfl (hb hby at_31) rfl (XT.i0_le_t hc31) (by decide) (by decide) k) ?_
    show Go p.tables e below PP (T4.setTop (mkF m 51 #[.val (.int p1), .val (.int p2), .val (.int p3), .val (.int p4), .val (.ref b1), .val (.ref b3), .val (.ref b4), .val (.int (p4 &&& (3 : Int32))), .unset, .unset, .unset, .unset, .unset, .unset, .unset, .unset, .unset] []))
    exact J51 _ _ _ _ _ _ _ _ _ (X4.more (by decide) (by decide)) e4 N2 (E_b1) (F_text_b1) (F_length_b1) (F_afterValue_b1) (V_tx_2) (X_tx_2) (V_b3) (V_b4) O Zn (⟨g_tx_2, ne_b1_tx_2, (Ne.symm ne_tx_2_b3), (Ne.symm ne_tx_2_b4), hcz.2.2, (by have e0 : (0 : Int32).toInt = 0 := rfl; omega), (fun k hk => absurd hk (Nat.not_lt_zero k))⟩)
theorem own_refeq {Z : State} {args : Array Value} {t u : Term} {a b : Addr} (h1 : t.eval args Z none [] Z = some (.ref a)) (h2 : u.eval args Z none [] Z = some (.ref b)) (h : (Cond.eq t u).before args Z = true) : a = b := by
  have q := Cond.before_iff.mp h
  simpa [Cond.value, h1, h2] using q
theorem own_fits : ∀ r, r < 100 → fits .byte (.int ((48 : Int32) + Int32.ofNat r % 10)) = true := by decide +kernel
theorem own_ones {Z : State} {args : Array Value} {t : Term} {ad : Addr} (ev : ∀ idx, t.eval args Z none idx Z = some (.ref ad)) (E : Exa Z Z.heap ad "[B") (ha : (Cond.arrayClass .byte).before args Z = true) (hl : (Cond.eq (.length t) (.int 100)).before args Z = true)
    (hall : (Cond.all t (.eq (.elem t (.index 0)) (.add (.int 48) (.rem (.index 0) (.int 10))))).before args Z = true) : Afn Z Z.heap ad .byte (100 : Int32) (fun k => .int ((48 : Int32) + Int32.ofNat k % 10)) := by
  obtain ⟨cell, k, h1, h2, h3, h4, h5⟩ := E
  obtain ⟨cB, kB, comp, hname, hk, hkind⟩ := Cond.arrayClass_spec ha
  have eBA : ("[" ++ FieldType.toString .byte) = "[B" := by decide
  rw [eBA] at hname
  cases h2.symm.trans hname
  cases h3.symm.trans hk
  have hl' := Cond.eq_int hl rfl
  obtain ⟨d', D, hev', hat, hlen⟩ := Term.length_spec hl'
  cases (ev []).symm.trans hev'
  obtain ⟨hD, hkn, -, -⟩ := State.arrayAt?_spec hat
  cases h1.symm.trans hD
  have A : Arr Z Z.heap ad cell .byte := ⟨h1, ⟨(fun q h => by rw [h] at h4; cases h4), k, h3, comp, hkind⟩, hkn⟩
  obtain ⟨l1, l2⟩ := Jvm.Free.IntBox.length_fwd hl (ev []) A.1 A.2.1 A.2.2
  have hsz : cell.slots.size = (100 : Int32).toNatClampNeg := by rw [← l2]; simp only [Int32.toNatClampNeg, len_toInt l1]; rfl
  have e100 : (100 : Int32).toNatClampNeg = 100 := rfl
  refine ⟨cell, A, hsz, by decide, fun r hr => ?_⟩
  rw [e100] at hr
  have u := Cond.all_elim (ev []) hat (Cond.before_iff.mp hall) r (by rw [hsz, e100]; exact hr)
  have e1 : (Term.elem t (.index 0)).eval args Z none [r] Z = cell.slots[r]? := Jvm.Free.SBG.elem_at (ix := .index 0) (ev [r]) hat (by omega) (by omega) rfl
  have e2 := eqv_i (y := (48 : Int32) + Int32.ofNat r % 10) rfl u
  exact ⟨e1.symm.trans e2, own_fits r hr⟩
set_option maxRecDepth 65536 in
set_option maxHeartbeats 40000000 in
theorem comes_1 {Post : Tables → Env → Array Value → State → Outcome → State → Prop} (hpost : ∀ tb e args s v u, (limb_1_1.after args s (.returned v) u = true ∧ limb_1_2.after args s (.returned v) u = true ∧ True) → FrameEnd s (.returned v) u (Jvm.fieldLocs frame_1_writes args s ++ Jvm.arrayLocs frame_1_arrays args s ++ Jvm.staticLocs frame_1_statics s) 56 256 → Post tb e args s (.returned v) u) :
    ArmFor flags0 classFile x code maxLocals ret World_1 tables_1 room_1 Calls_1 rest_1 Pre_1 Post := by
  intro l hfl _ _ p e ha hc hk s m args below hf hA hF happ hP
  obtain ⟨hcalls, hrest, hpre⟩ := hP
  obtain ⟨-, -, -, hnamed, -, -, -, hat⟩ := (Spec.applies_iff hf).mp happ
  obtain ⟨hg, hn⟩ := and_e (Cond.before_iff.mp (show (Jvm.Cond.and given_1 narrow_1).before args s = true from hpre))
  obtain ⟨g1, g2⟩ := and_e hg
  obtain ⟨g3, g4⟩ := and_e g2
  obtain ⟨g5, g6⟩ := and_e g4
  obtain ⟨g7, g8⟩ := and_e g6
  obtain ⟨w0, w1, w2, w3, rfl⟩ : ∃ w0 w1 w2 w3 : Value, args = #[w0, w1, w2, w3] := by
    have hs : args.size = 4 := by simpa [Cond.value, given_1] using g1
    obtain ⟨L⟩ := args
    match L, hs with
    | [w0, w1, w2, w3], _ => exact ⟨w0, w1, w2, w3, rfl⟩
  have hw := fun d (hd : d ∈ tables_1) => atoms_spec (ws := Jvm.Cond.code x code maxLocals ret :: tables_1) hat d (List.mem_cons_of_mem _ hd)
  have hfit : Fit s := fun {y c} hc i hi => by
    obtain ⟨ha, rfl⟩ := Array.getElem?_eq_some_iff.mp hc
    have q := List.all_eq_true.mp ((Array.all_eq_true_iff_forall_mem.mp hF) _ (Array.getElem_mem ha)) i (List.mem_range.mpr hi)
    simpa [Array.getElem?_eq_getElem hi] using q
  obtain ⟨hsets, hown0⟩ := atoms_of _ (rest_1_c_eq ▸ (show rest_1_c.before _ s = true from hrest))
  have hr0 := Cond.before_iff.mp hown0
  obtain ⟨i0, ei0⟩ := is_v g3
  obtain rfl : w0 = (.int i0) := Option.some.inj ei0
  obtain ⟨i1, ei1⟩ := is_v g5
  obtain rfl : w1 = (.int i1) := Option.some.inj ei1
  obtain ⟨i2, ei2⟩ := is_v g7
  obtain rfl : w2 = (.int i2) := Option.some.inj ei2
  obtain ⟨i3, ei3⟩ := is_v g8
  obtain rfl : w3 = (.int i3) := Option.some.inj ei3
  obtain ⟨zc, evC⟩ := is_v (Cond.before_iff.mp (hsets _ (List.mem_of_getElem? (i := 1) rfl)))
  have SC := Sta.start evC (Or.inl (hsets _ (List.mem_of_getElem? (i := 0) rfl)))
  have hzc : ¬ zc = (0 : Int32) := gotF (Cond.eq_ints evC rfl) (not_v (Cond.before_iff.mp (hsets _ (List.mem_of_getElem? (i := 2) rfl))))
  have O := Old.start s
  obtain ⟨ad, evD⟩ := exa_v (Cond.before_iff.mp (hsets _ (List.mem_of_getElem? (i := 12) rfl)))
  have SD := Sta.start evD (Or.inl (hsets _ (List.mem_of_getElem? (i := 11) rfl)))
  have AD := own_ones (fun _ => evD) (Exa.start evD (Cond.before_iff.mp (hsets _ (List.mem_of_getElem? (i := 12) rfl)))) (hw _ (List.mem_of_getElem? (i := 9) rfl)) (hsets _ (List.mem_of_getElem? (i := 13) rfl)) (hsets _ (List.mem_of_getElem? (i := 14) rfl))
  obtain ⟨u8, evU⟩ := exa_v (Cond.before_iff.mp (hsets _ (List.mem_of_getElem? (i := 25) rfl)))
  have SU := Sta.start evU (Or.inl (hsets _ (List.mem_of_getElem? (i := 21) rfl)))
  obtain ⟨u9, evI⟩ := exa_v (Cond.before_iff.mp (hsets _ (List.mem_of_getElem? (i := 28) rfl)))
  obtain rfl : u8 = u9 := own_refeq evU evI (hsets _ (List.mem_of_getElem? (i := 24) rfl))
  have SI := Sta.start evI (Or.inl (hsets _ (List.mem_of_getElem? (i := 23) rfl)))
  obtain ⟨n, o, h1, h2, h3, _, L, rfl, ⟨rfl, N⟩, hq⟩ := rm0 l s _ hw tables_1 i0 i1 i2 i3 zc ad u8 s.heap s.heap.size (Nat.le_refl _) SC hzc O SD AD SU SI p e ha hc hk s m _ below hf ((Spec.applies_iff_loose hf).mp happ).1 ⟨rfl, State.Warmed39.refl s, rfl⟩ trivial
  refine ⟨n, _, h1, h2, h3, hpost _ _ _ _ _ _ ⟨Cond.after_iff.mpr rfl, Cond.after_iff.mpr (eq_i res_at (Term.int_eval (1)) rfl), trivial⟩ ⟨hq.1, hq.2.1, (hq.2.2.sift fun y hy => Or.inr (N y hy)).mono (by decide) (by decide)⟩⟩
theorem main_1_1 : Claimed_1_1 := comes_1 fun _ _ _ _ _ _ h hF => ⟨h.1, hF⟩
theorem main_1_2 : Claimed_1_2 := comes_1 fun _ _ _ _ _ _ h hF => ⟨h.2.1, hF⟩
end Jvm.Pilot.@@N@@
namespace Jvm.Pilot.@@N@@
open Jvm Jvm.ClassFile Sem Op Lib Jvm.Free Jvm.Stand Jvm.Pilot.@@N@@.Jvm.D
/-! MADE BY PROGRAM (witnessworld.py) out of the Statement's table words and the real class files: 29 classes; the members and pool entries that the words name. The judged class is class 1, her method 1. -/
namespace start1
open Jvm.ClassFile
def u (s : String) : CpInfo := .utf8 (stringToUtf16 s)
/-- a pool by its gaps: so many unusable entries, then the entry; so many at the end -/
def gap : Nat → List CpInfo → List CpInfo
  | 0, r => r
  | n + 1, r => .unusable :: gap n r
def poolList (es : List (Nat × CpInfo)) (last : Nat) : List CpInfo := es.foldr (fun e r => gap e.1 (e.2 :: r)) (gap last [])
def pool (es : List (Nat × CpInfo)) (last : Nat) : Array CpInfo := ⟨poolList es last⟩
def fileOf (pool : Array CpInfo) (this : Nat) (attrs : Array Attribute := #[]) (ms : Array MethodInfo := #[]) (fl : Nat := 33) (sup : Nat := 0) (ifs : Array Nat := #[]) (fds : Array FieldInfo := #[]) : ClassFile where
  minorVersion := 0
  majorVersion := 65
  constantPool := pool
  accessFlags := fl
  thisClass := this
  superClass := sup
  interfaces := ifs
  fields := fds
  methods := ms
  attributes := attrs
def plain (name : String) (sup : Option ClassId) : Class where
  name := name
  kind := .ordinary
  loader := none
  accessFlags := 33
  super := sup
  interfaces := #[]
  cf := none
  fields := #[]
  methods := #[]
  instanceTypes := #[]
  staticTypes := #[]
  resolved := #[]
  callSites := []
  init := .initialized
  statics := none
  mirror := none

def pool0 : Array CpInfo := pool [(5, u "<init>"), (0, u "()V"), (1, .class_ 10), (1, u "java/lang/Object"), (85, u "clone"), (0, u "()Ljava/lang/Object;")] 26

def k0c0 : Code := { maxStack := 0, maxLocals := 1, code := object_method_1_code, exceptionTable := #[], attributes := #[] }
def k0m0 : Method := { name := "<init>", desc := "()V", sig := { parameters := [], returnType := none }, accessFlags := 1, code := some k0c0 }
def k0m1 : Method := { name := "clone", desc := "()Ljava/lang/Object;", sig := { parameters := [], returnType := some (.object "java/lang/Object") }, accessFlags := 260, code := none }
/-- java/lang/Object -/
def k0 : Class := { plain "java/lang/Object" none with
  accessFlags := 33
  interfaces := #[]
  cf := some (fileOf pool0 8 #[] #[{ accessFlags := 1, nameIndex := 5, descriptorIndex := 6, attributes := #[] }, { accessFlags := 260, nameIndex := 96, descriptorIndex := 97, attributes := #[] }] 33 0 #[] #[])
  fields := #[]
  methods := #[k0m0, k0m1]
  instanceTypes := #[]
  staticTypes := #[]
  resolved := Array.replicate 124 none
  statics := none }

def pool1 : Array CpInfo := pool [(2, .class_ 4), (1, u "java/lang/Object"), (0, u "<init>"), (0, u "()V"), (0, .class_ 8), (0, u "com/example/facet_hierarchy_store/facethierarchystore/http/JsonWriter"), (0, .methodref 7 10), (0, .nameAndType 5 11), (0, u "(I)V"), (0, .methodref 13 14), (0, .class_ 15), (0, .nameAndType 16 17), (0, u "com/example/facet_hierarchy_store/facethierarchystore/http/JsonWriterBytesPinLaw"), (0, u "digit"), (0, u "(II)I"), (0, .methodref 13 19), (0, .nameAndType 20 21), (0, u "step"), (0, u "(Lcom/example/facet_hierarchy_store/facethierarchystore/http/JsonWriter;[B[III)V"), (0, .methodref 7 23), (0, .nameAndType 24 25), (0, u "bytes"), (0, u "()[B"), (0, .methodref 13 27), (0, .nameAndType 28 29), (0, u "same"), (0, u "([B[BI)Z"), (0, .methodref 7 31), (0, .nameAndType 32 33), (0, u "array"), (0, u "()Lcom/example/facet_hierarchy_store/facethierarchystore/http/JsonWriter;"), (0, .methodref 7 35), (0, .nameAndType 36 33), (0, u "endArray"), (0, .methodref 7 38), (0, .nameAndType 39 40), (0, u "value"), (0, u "(J)Lcom/example/facet_hierarchy_store/facethierarchystore/http/JsonWriter;"), (0, .methodref 13 42), (0, .nameAndType 43 44), (0, u "cmp"), (0, u "([B[BII)Z"), (2, u "law"), (0, u "(IIII)Z")] 7

def k1m0 : Method := { name := "<init>", desc := "()V", sig := { parameters := [], returnType := none }, accessFlags := 2, code := none }
def k1c1 : Code := { maxStack := 6, maxLocals := 17, code := code, exceptionTable := #[], attributes := #[] }
def k1m1 : Method := { name := "law", desc := "(IIII)Z", sig := { parameters := [.int, .int, .int, .int], returnType := some .boolean }, accessFlags := 9, code := some k1c1 }
def k1c2 : Code := { maxStack := 3, maxLocals := 2, code := method_3_code, exceptionTable := #[], attributes := #[] }
def k1m2 : Method := { name := "digit", desc := "(II)I", sig := { parameters := [.int, .int], returnType := some .int }, accessFlags := 10, code := some k1c2 }
def k1c3 : Code := { maxStack := 4, maxLocals := 7, code := method_4_code, exceptionTable := #[], attributes := #[] }
def k1m3 : Method := { name := "step", desc := "(Lcom/example/facet_hierarchy_store/facethierarchystore/http/JsonWriter;[B[III)V", sig := { parameters := [(.object "com/example/facet_hierarchy_store/facethierarchystore/http/JsonWriter"), (.array .byte), (.array .int), .int, .int], returnType := none }, accessFlags := 10, code := some k1c3 }
def k1c4 : Code := { maxStack := 3, maxLocals := 4, code := method_5_code, exceptionTable := #[], attributes := #[] }
def k1m4 : Method := { name := "cmp", desc := "([B[BII)Z", sig := { parameters := [(.array .byte), (.array .byte), .int, .int], returnType := some .boolean }, accessFlags := 10, code := some k1c4 }
def k1c5 : Code := { maxStack := 4, maxLocals := 3, code := method_6_code, exceptionTable := #[], attributes := #[] }
def k1m5 : Method := { name := "same", desc := "([B[BI)Z", sig := { parameters := [(.array .byte), (.array .byte), .int], returnType := some .boolean }, accessFlags := 10, code := some k1c5 }
/-- com/example/facet_hierarchy_store/facethierarchystore/http/JsonWriterBytesPinLaw -/
def k1 : Class := { plain "com/example/facet_hierarchy_store/facethierarchystore/http/JsonWriterBytesPinLaw" (some 0) with
  accessFlags := 49
  interfaces := #[]
  cf := some (fileOf pool1 13 #[] #[{ accessFlags := 2, nameIndex := 5, descriptorIndex := 6, attributes := #[] }, { accessFlags := 9, nameIndex := 47, descriptorIndex := 48, attributes := #[] }, { accessFlags := 10, nameIndex := 16, descriptorIndex := 17, attributes := #[] }, { accessFlags := 10, nameIndex := 20, descriptorIndex := 21, attributes := #[] }, { accessFlags := 10, nameIndex := 43, descriptorIndex := 44, attributes := #[] }, { accessFlags := 10, nameIndex := 28, descriptorIndex := 29, attributes := #[] }] 49 2 #[] #[])
  fields := #[]
  methods := #[k1m0, k1m1, k1m2, k1m3, k1m4, k1m5]
  instanceTypes := #[]
  staticTypes := #[]
  resolved := Array.replicate 56 none
  statics := none }

def pool2 : Array CpInfo := pool [(1, .class_ 2), (0, u "com/example/facet_hierarchy_store/facethierarchystore/http/JsonWriter"), (2, u "<init>"), (0, u "(I)V"), (0, .methodref 8 9), (0, .class_ 10), (0, .nameAndType 5 11), (0, u "java/lang/Object"), (0, u "()V"), (0, .fieldref 1 13), (0, .nameAndType 14 15), (0, u "text"), (0, u "[B"), (0, .methodref 1 17), (0, .nameAndType 18 19), (0, u "open"), (0, u "(C)Lcom/example/facet_hierarchy_store/facethierarchystore/http/JsonWriter;"), (0, .methodref 1 21), (0, .nameAndType 22 19), (0, u "close"), (0, .methodref 1 24), (0, .nameAndType 25 11), (0, u "separate"), (3, u "(Ljava/lang/String;)V"), (0, .methodref 1 31), (0, .nameAndType 32 33), (0, u "put"), (0, u "(C)V"), (0, .fieldref 1 35), (0, .nameAndType 36 37), (0, u "afterValue"), (0, u "Z"), (0, .methodref 1 39), (0, .nameAndType 40 6), (0, u "room"), (9, .fieldref 1 51), (0, .nameAndType 52 53), (0, u "length"), (0, u "I"), (4, .methodref 59 60), (0, .class_ 61), (0, .nameAndType 62 63), (0, u "java/lang/Long"), (0, u "toString"), (0, u "(J)Ljava/lang/String;"), (0, .methodref 1 65), (0, .nameAndType 66 29), (0, u "raw"), (2, .methodref 70 71), (0, .class_ 72), (0, .nameAndType 73 74), (0, u "java/lang/System"), (0, u "arraycopy"), (0, u "(Ljava/lang/Object;ILjava/lang/Object;II)V"), (3, u "()Lcom/example/facet_hierarchy_store/facethierarchystore/http/JsonWriter;"), (0, .class_ 80), (0, u "java/lang/String"), (2, u "value"), (54, u "array"), (3, u "endArray"), (3, .methodref 147 148), (0, .class_ 149), (0, .nameAndType 150 151), (0, u "java/util/Arrays"), (0, u "copyOf"), (0, u "([BI)[B"), (6, .fieldref 159 160), (0, .class_ 161), (0, .nameAndType 162 163), (0, u "java/nio/charset/StandardCharsets"), (0, u "UTF_8"), (0, u "Ljava/nio/charset/Charset;"), (3, .methodref 79 168), (0, .nameAndType 169 170), (0, u "getBytes"), (0, u "(Ljava/nio/charset/Charset;)[B"), (2, u "HEX_DIGITS"), (24, .methodref 199 200), (0, .class_ 201), (0, .nameAndType 202 203), (0, u "java/lang/Math"), (0, u "max"), (0, u "(II)I"), (5, u "MOST_BYTES_PER_CHAR"), (2, u "MOST_BYTES_PER_ESCAPE"), (1, u "FIRST_CAPACITY"), (4, u "(J)Lcom/example/facet_hierarchy_store/facethierarchystore/http/JsonWriter;"), (3, u "bytes"), (0, u "()[B")] 7

def k2m0 : Method := { name := "<init>", desc := "()V", sig := { parameters := [], returnType := none }, accessFlags := 0, code := none }
def k2c1 : Code := { maxStack := 2, maxLocals := 2, code := prog_16_method_2_code, exceptionTable := #[], attributes := #[] }
def k2m1 : Method := { name := "<init>", desc := "(I)V", sig := { parameters := [.int], returnType := none }, accessFlags := 0, code := some k2c1 }
def k2c2 : Code := { maxStack := 2, maxLocals := 1, code := prog_16_method_5_code, exceptionTable := #[], attributes := #[] }
def k2m2 : Method := { name := "array", desc := "()Lcom/example/facet_hierarchy_store/facethierarchystore/http/JsonWriter;", sig := { parameters := [], returnType := some (.object "com/example/facet_hierarchy_store/facethierarchystore/http/JsonWriter") }, accessFlags := 0, code := some k2c2 }
def k2c3 : Code := { maxStack := 2, maxLocals := 1, code := prog_16_method_6_code, exceptionTable := #[], attributes := #[] }
def k2m3 : Method := { name := "endArray", desc := "()Lcom/example/facet_hierarchy_store/facethierarchystore/http/JsonWriter;", sig := { parameters := [], returnType := some (.object "com/example/facet_hierarchy_store/facethierarchystore/http/JsonWriter") }, accessFlags := 0, code := some k2c3 }
def k2c4 : Code := { maxStack := 3, maxLocals := 3, code := prog_16_method_10_code, exceptionTable := #[], attributes := #[] }
def k2m4 : Method := { name := "value", desc := "(J)Lcom/example/facet_hierarchy_store/facethierarchystore/http/JsonWriter;", sig := { parameters := [.long], returnType := some (.object "com/example/facet_hierarchy_store/facethierarchystore/http/JsonWriter") }, accessFlags := 0, code := some k2c4 }
def k2c5 : Code := { maxStack := 2, maxLocals := 1, code := prog_16_method_14_code, exceptionTable := #[], attributes := #[] }
def k2m5 : Method := { name := "bytes", desc := "()[B", sig := { parameters := [], returnType := some (.array .byte) }, accessFlags := 0, code := some k2c5 }
def k2c6 : Code := { maxStack := 2, maxLocals := 2, code := prog_16_method_17_code, exceptionTable := #[], attributes := #[] }
def k2m6 : Method := { name := "open", desc := "(C)Lcom/example/facet_hierarchy_store/facethierarchystore/http/JsonWriter;", sig := { parameters := [.char], returnType := some (.object "com/example/facet_hierarchy_store/facethierarchystore/http/JsonWriter") }, accessFlags := 2, code := some k2c6 }
def k2c7 : Code := { maxStack := 2, maxLocals := 2, code := prog_16_method_18_code, exceptionTable := #[], attributes := #[] }
def k2m7 : Method := { name := "close", desc := "(C)Lcom/example/facet_hierarchy_store/facethierarchystore/http/JsonWriter;", sig := { parameters := [.char], returnType := some (.object "com/example/facet_hierarchy_store/facethierarchystore/http/JsonWriter") }, accessFlags := 2, code := some k2c7 }
def k2c8 : Code := { maxStack := 2, maxLocals := 1, code := prog_16_method_19_code, exceptionTable := #[], attributes := #[] }
def k2m8 : Method := { name := "separate", desc := "()V", sig := { parameters := [], returnType := none }, accessFlags := 2, code := some k2c8 }
def k2c9 : Code := { maxStack := 5, maxLocals := 2, code := prog_16_method_20_code, exceptionTable := #[], attributes := #[] }
def k2m9 : Method := { name := "put", desc := "(C)V", sig := { parameters := [.char], returnType := none }, accessFlags := 2, code := some k2c9 }
def k2c10 : Code := { maxStack := 5, maxLocals := 3, code := prog_16_method_21_code, exceptionTable := #[], attributes := #[] }
def k2m10 : Method := { name := "raw", desc := "(Ljava/lang/String;)V", sig := { parameters := [(.object "java/lang/String")], returnType := none }, accessFlags := 2, code := some k2c10 }
def k2c11 : Code := { maxStack := 5, maxLocals := 2, code := prog_16_method_25_code, exceptionTable := #[], attributes := #[] }
def k2m11 : Method := { name := "room", desc := "(I)V", sig := { parameters := [.int], returnType := none }, accessFlags := 2, code := some k2c11 }
/-- com/example/facet_hierarchy_store/facethierarchystore/http/JsonWriter -/
def k2 : Class := { plain "com/example/facet_hierarchy_store/facethierarchystore/http/JsonWriter" (some 0) with
  accessFlags := 32
  interfaces := #[]
  cf := some (fileOf pool2 1 #[] #[{ accessFlags := 0, nameIndex := 5, descriptorIndex := 11, attributes := #[] }, { accessFlags := 0, nameIndex := 5, descriptorIndex := 6, attributes := #[] }, { accessFlags := 0, nameIndex := 138, descriptorIndex := 78, attributes := #[] }, { accessFlags := 0, nameIndex := 142, descriptorIndex := 78, attributes := #[] }, { accessFlags := 0, nameIndex := 83, descriptorIndex := 219, attributes := #[] }, { accessFlags := 0, nameIndex := 223, descriptorIndex := 224, attributes := #[] }, { accessFlags := 2, nameIndex := 18, descriptorIndex := 19, attributes := #[] }, { accessFlags := 2, nameIndex := 22, descriptorIndex := 19, attributes := #[] }, { accessFlags := 2, nameIndex := 25, descriptorIndex := 11, attributes := #[] }, { accessFlags := 2, nameIndex := 32, descriptorIndex := 33, attributes := #[] }, { accessFlags := 2, nameIndex := 66, descriptorIndex := 29, attributes := #[] }, { accessFlags := 2, nameIndex := 40, descriptorIndex := 6, attributes := #[] }] 32 8 #[] #[{ accessFlags := 26, nameIndex := 173, descriptorIndex := 15, attributes := #[] }, { accessFlags := 26, nameIndex := 209, descriptorIndex := 53, attributes := #[] }, { accessFlags := 26, nameIndex := 212, descriptorIndex := 53, attributes := #[] }, { accessFlags := 26, nameIndex := 214, descriptorIndex := 53, attributes := #[] }, { accessFlags := 2, nameIndex := 14, descriptorIndex := 15, attributes := #[] }, { accessFlags := 2, nameIndex := 52, descriptorIndex := 53, attributes := #[] }, { accessFlags := 2, nameIndex := 36, descriptorIndex := 37, attributes := #[] }])
  fields := #[{ name := "HEX_DIGITS", type := (.array .byte), accessFlags := 26, slot := 0, constantValue := 0 }, { name := "MOST_BYTES_PER_CHAR", type := .int, accessFlags := 26, slot := 1, constantValue := 0 }, { name := "MOST_BYTES_PER_ESCAPE", type := .int, accessFlags := 26, slot := 2, constantValue := 0 }, { name := "FIRST_CAPACITY", type := .int, accessFlags := 26, slot := 3, constantValue := 0 }, { name := "text", type := (.array .byte), accessFlags := 2, slot := 0, constantValue := 0 }, { name := "length", type := .int, accessFlags := 2, slot := 1, constantValue := 0 }, { name := "afterValue", type := .boolean, accessFlags := 2, slot := 2, constantValue := 0 }]
  methods := #[k2m0, k2m1, k2m2, k2m3, k2m4, k2m5, k2m6, k2m7, k2m8, k2m9, k2m10, k2m11]
  instanceTypes := #[(.array .byte), .int, .boolean]
  staticTypes := #[(.array .byte), .int, .int, .int]
  resolved := Array.replicate 232 none
  statics := none }

def pool3 : Array CpInfo := pool [(1, .class_ 2), (0, u "java/io/Serializable"), (0, .class_ 4), (0, u "java/lang/Object")] 2

/-- java/io/Serializable -/
def k3 : Class := { plain "java/io/Serializable" (some 0) with
  accessFlags := 1537
  interfaces := #[]
  cf := some (fileOf pool3 1 #[] #[] 1537 3 #[] #[])
  fields := #[]
  methods := #[]
  instanceTypes := #[]
  staticTypes := #[]
  resolved := Array.replicate 7 none
  statics := none }

def pool4 : Array CpInfo := pool [(2, .class_ 4), (1, u "java/lang/Object"), (0, u "<init>"), (0, u "()V"), (1, .class_ 10), (1, u "java/lang/Number"), (2, .class_ 14), (0, u "java/io/Serializable"), (0, u "serialVersionUID"), (0, u "J")] 20

def k4m0 : Method := { name := "<init>", desc := "()V", sig := { parameters := [], returnType := none }, accessFlags := 1, code := none }
/-- java/lang/Number -/
def k4 : Class := { plain "java/lang/Number" (some 0) with
  accessFlags := 1057
  interfaces := #[3]
  cf := some (fileOf pool4 8 #[] #[{ accessFlags := 1, nameIndex := 5, descriptorIndex := 6, attributes := #[] }] 1057 2 #[13] #[{ accessFlags := 26, nameIndex := 15, descriptorIndex := 16, attributes := #[] }])
  fields := #[{ name := "serialVersionUID", type := .long, accessFlags := 26, slot := 0, constantValue := 0 }]
  methods := #[k4m0]
  instanceTypes := #[]
  staticTypes := #[.long]
  resolved := Array.replicate 37 none
  statics := none }

def pool5 : Array CpInfo := pool [(1, .class_ 2), (0, u "java/lang/Comparable"), (0, .class_ 4), (0, u "java/lang/Object")] 7

/-- java/lang/Comparable -/
def k5 : Class := { plain "java/lang/Comparable" (some 0) with
  accessFlags := 1537
  interfaces := #[]
  cf := some (fileOf pool5 1 #[] #[] 1537 3 #[] #[])
  fields := #[]
  methods := #[]
  instanceTypes := #[]
  staticTypes := #[]
  resolved := Array.replicate 12 none
  statics := none }

def pool6 : Array CpInfo := pool [(1, .class_ 2), (0, u "java/lang/constant/Constable"), (0, .class_ 4), (0, u "java/lang/Object")] 6

/-- java/lang/constant/Constable -/
def k6 : Class := { plain "java/lang/constant/Constable" (some 0) with
  accessFlags := 1537
  interfaces := #[]
  cf := some (fileOf pool6 1 #[] #[] 1537 3 #[] #[])
  fields := #[]
  methods := #[]
  instanceTypes := #[]
  staticTypes := #[]
  resolved := Array.replicate 11 none
  statics := none }

def pool7 : Array CpInfo := pool [(1, .class_ 2), (0, u "java/lang/constant/ConstantDesc"), (0, .class_ 4), (0, u "java/lang/Object")] 32

/-- java/lang/constant/ConstantDesc -/
def k7 : Class := { plain "java/lang/constant/ConstantDesc" (some 0) with
  accessFlags := 1537
  interfaces := #[]
  cf := some (fileOf pool7 1 #[] #[] 1537 3 #[] #[])
  fields := #[]
  methods := #[]
  instanceTypes := #[]
  staticTypes := #[]
  resolved := Array.replicate 37 none
  statics := none }

def pool8 : Array CpInfo := pool [(1, .class_ 2), (0, u "java/lang/Long"), (2, .class_ 6), (0, u "java/lang/String"), (4, u "toString"), (0, u "(J)Ljava/lang/String;"), (0, .fieldref 5 14), (0, .nameAndType 15 16), (0, u "COMPACT_STRINGS"), (0, u "Z"), (1, .class_ 20), (1, u "java/lang/Integer"), (38, u "<init>"), (41, u "(J)I"), (10, .methodref 5 113), (0, .nameAndType 59 114), (0, u "([BB)V"), (3, .methodref 1 119), (0, .nameAndType 120 101), (0, u "stringSize"), (0, .methodref 1 122), (0, .nameAndType 123 124), (0, u "getChars"), (0, u "(JI[B)I"), (4, .long 18446744071562067968), (3, .fieldref 18 134), (0, .nameAndType 135 136), (0, u "DigitOnes"), (0, u "[B"), (3, .long 18446744073709551606), (94, .class_ 237), (1, u "java/lang/Long$LongCache"), (33, .class_ 272), (0, u "java/lang/Number"), (2, u "value"), (0, u "J"), (84, u "TYPE"), (0, u "Ljava/lang/Class;"), (0, .class_ 364), (0, u "java/lang/Comparable"), (0, .class_ 366), (0, u "java/lang/constant/Constable"), (0, .class_ 368), (0, u "java/lang/constant/ConstantDesc"), (0, u "MIN_VALUE"), (1, u "MAX_VALUE"), (4, u "SIZE"), (0, u "I"), (1, u "BYTES"), (1, u "serialVersionUID")] 142

def k8c0 : Code := { maxStack := 4, maxLocals := 4, code := jdk_35_method_12_code, exceptionTable := #[], attributes := #[] }
def k8m0 : Method := { name := "toString", desc := "(J)Ljava/lang/String;", sig := { parameters := [.long], returnType := some (.object "java/lang/String") }, accessFlags := 9, code := some k8c0 }
def k8c1 : Code := { maxStack := 4, maxLocals := 11, code := jdk_35_method_14_code, exceptionTable := #[], attributes := #[] }
def k8m1 : Method := { name := "getChars", desc := "(JI[B)I", sig := { parameters := [.long, .int, (.array .byte)], returnType := some .int }, accessFlags := 8, code := some k8c1 }
def k8c2 : Code := { maxStack := 4, maxLocals := 6, code := jdk_35_method_15_code, exceptionTable := #[], attributes := #[] }
def k8m2 : Method := { name := "stringSize", desc := "(J)I", sig := { parameters := [.long], returnType := some .int }, accessFlags := 8, code := some k8c2 }
/-- java/lang/Long -/
def k8 : Class := { plain "java/lang/Long" (some 4) with
  accessFlags := 49
  interfaces := #[5, 6, 7]
  cf := some (fileOf pool8 1 #[.nestMembers #[235]] #[{ accessFlags := 9, nameIndex := 11, descriptorIndex := 12, attributes := #[] }, { accessFlags := 8, nameIndex := 123, descriptorIndex := 124, attributes := #[] }, { accessFlags := 8, nameIndex := 120, descriptorIndex := 101, attributes := #[] }] 49 271 #[363, 365, 367] #[{ accessFlags := 25, nameIndex := 369, descriptorIndex := 276, attributes := #[] }, { accessFlags := 25, nameIndex := 371, descriptorIndex := 276, attributes := #[] }, { accessFlags := 25, nameIndex := 361, descriptorIndex := 362, attributes := #[] }, { accessFlags := 18, nameIndex := 275, descriptorIndex := 276, attributes := #[] }, { accessFlags := 25, nameIndex := 376, descriptorIndex := 377, attributes := #[] }, { accessFlags := 25, nameIndex := 379, descriptorIndex := 377, attributes := #[] }, { accessFlags := 26, nameIndex := 381, descriptorIndex := 276, attributes := #[] }])
  fields := #[{ name := "MIN_VALUE", type := .long, accessFlags := 25, slot := 0, constantValue := 0 }, { name := "MAX_VALUE", type := .long, accessFlags := 25, slot := 1, constantValue := 0 }, { name := "TYPE", type := (.object "java/lang/Class"), accessFlags := 25, slot := 2, constantValue := 0 }, { name := "value", type := .long, accessFlags := 18, slot := 0, constantValue := 0 }, { name := "SIZE", type := .int, accessFlags := 25, slot := 3, constantValue := 0 }, { name := "BYTES", type := .int, accessFlags := 25, slot := 4, constantValue := 0 }, { name := "serialVersionUID", type := .long, accessFlags := 26, slot := 5, constantValue := 0 }]
  methods := #[k8m0, k8m1, k8m2]
  instanceTypes := #[.long]
  staticTypes := #[.long, .long, (.object "java/lang/Class"), .int, .int, .long]
  resolved := Array.replicate 524 none
  statics := none }

def pool9 : Array CpInfo := pool [(2, .class_ 4), (1, u "java/lang/CharSequence"), (42, .class_ 48), (0, u "java/lang/CharSequence$1CodePointIterator"), (10, .class_ 60), (0, u "java/lang/CharSequence$1CharIterator"), (5, .class_ 67), (0, u "java/lang/Object")] 63

/-- java/lang/CharSequence -/
def k9 : Class := { plain "java/lang/CharSequence" (some 0) with
  accessFlags := 1537
  interfaces := #[]
  cf := some (fileOf pool9 2 #[.nestMembers #[47, 59]] #[] 1537 66 #[] #[])
  fields := #[]
  methods := #[]
  instanceTypes := #[]
  staticTypes := #[]
  resolved := Array.replicate 131 none
  statics := none }

def pool10 : Array CpInfo := pool [(1, .methodref 2 3), (0, .class_ 4), (0, .nameAndType 5 6), (0, u "java/lang/Object"), (0, u "<init>"), (0, u "()V"), (2, .fieldref 10 11), (0, .class_ 12), (0, .nameAndType 13 14), (0, u "java/lang/String"), (0, u "value"), (0, u "[B"), (0, .fieldref 10 16), (0, .nameAndType 17 18), (0, u "coder"), (0, u "B"), (2, u "hash"), (0, u "I"), (2, u "hashIsZero"), (0, u "Z"), (11, .fieldref 10 39), (0, .nameAndType 40 26), (0, u "COMPACT_STRINGS"), (45, .fieldref 87 88), (0, .class_ 89), (0, .nameAndType 90 91), (0, u "sun/nio/cs/UTF_8"), (0, u "INSTANCE"), (0, u "Lsun/nio/cs/UTF_8;"), (1, .class_ 95), (1, u "java/lang/StringCoding"), (32, .methodref 93 129), (0, .nameAndType 130 131), (0, u "hasNegatives"), (0, u "([BII)Z"), (79, u "([BB)V"), (40, .methodref 10 253), (0, .nameAndType 254 255), (0, u "encodeUTF8"), (0, u "(B[BZ)[B"), (23, .methodref 280 281), (0, .class_ 14), (0, .nameAndType 282 283), (0, u "clone"), (0, u "()Ljava/lang/Object;"), (33, u "encode"), (17, .methodref 10 336), (0, .nameAndType 17 337), (0, u "()B"), (194, u "getBytes"), (2, .methodref 10 536), (0, .nameAndType 317 537), (0, u "(Ljava/nio/charset/Charset;B[B)[B"), (37, .class_ 576), (0, u "java/lang/CharSequence"), (22, u "CASE_INSENSITIVE_ORDER"), (0, u "Ljava/util/Comparator;"), (500, u "serialPersistentFields"), (0, u "[Ljava/io/ObjectStreamField;"), (0, .class_ 1104), (0, u "java/lang/String$CaseInsensitiveComparator"), (1, .class_ 1107), (0, u "java/io/Serializable"), (0, .class_ 1109), (0, u "java/lang/Comparable"), (0, .class_ 1111), (0, u "java/lang/constant/Constable"), (0, .class_ 1113), (0, u "java/lang/constant/ConstantDesc"), (2, u "serialVersionUID"), (0, u "J"), (3, u "REPL"), (0, u "C"), (2, u "LATIN1"), (1, u "UTF16"), (117, u "(Ljava/nio/charset/Charset;)[B")] 205

def k10m0 : Method := { name := "<init>", desc := "()V", sig := { parameters := [], returnType := none }, accessFlags := 1, code := none }
def k10c1 : Code := { maxStack := 4, maxLocals := 3, code := jdk_42_method_18_code, exceptionTable := #[], attributes := #[] }
def k10m1 : Method := { name := "encode", desc := "(Ljava/nio/charset/Charset;B[B)[B", sig := { parameters := [(.object "java/nio/charset/Charset"), .byte, (.array .byte)], returnType := some (.array .byte) }, accessFlags := 10, code := some k10c1 }
def k10c2 : Code := { maxStack := 5, maxLocals := 9, code := jdk_42_method_46_code, exceptionTable := #[], attributes := #[] }
def k10m2 : Method := { name := "encodeUTF8", desc := "(B[BZ)[B", sig := { parameters := [.byte, (.array .byte), .boolean], returnType := some (.array .byte) }, accessFlags := 10, code := some k10c2 }
def k10c3 : Code := { maxStack := 3, maxLocals := 2, code := jdk_42_method_64_code, exceptionTable := #[], attributes := #[] }
def k10m3 : Method := { name := "getBytes", desc := "(Ljava/nio/charset/Charset;)[B", sig := { parameters := [(.object "java/nio/charset/Charset")], returnType := some (.array .byte) }, accessFlags := 1, code := some k10c3 }
def k10c4 : Code := { maxStack := 2, maxLocals := 3, code := jdk_42_method_151_code, exceptionTable := #[], attributes := #[] }
def k10m4 : Method := { name := "<init>", desc := "([BB)V", sig := { parameters := [(.array .byte), .byte], returnType := none }, accessFlags := 0, code := some k10c4 }
def k10c5 : Code := { maxStack := 1, maxLocals := 1, code := jdk_42_method_152_code, exceptionTable := #[], attributes := #[] }
def k10m5 : Method := { name := "coder", desc := "()B", sig := { parameters := [], returnType := some .byte }, accessFlags := 0, code := some k10c5 }
/-- java/lang/String -/
def k10 : Class := { plain "java/lang/String" (some 0) with
  accessFlags := 49
  interfaces := #[3, 5, 9, 6, 7]
  cf := some (fileOf pool10 10 #[.nestMembers #[1103]] #[{ accessFlags := 1, nameIndex := 5, descriptorIndex := 6, attributes := #[] }, { accessFlags := 10, nameIndex := 317, descriptorIndex := 537, attributes := #[] }, { accessFlags := 10, nameIndex := 254, descriptorIndex := 255, attributes := #[] }, { accessFlags := 1, nameIndex := 532, descriptorIndex := 1245, attributes := #[] }, { accessFlags := 0, nameIndex := 5, descriptorIndex := 211, attributes := #[] }, { accessFlags := 0, nameIndex := 17, descriptorIndex := 337, attributes := #[] }] 49 2 #[1106, 1108, 575, 1110, 1112] #[{ accessFlags := 18, nameIndex := 13, descriptorIndex := 14, attributes := #[] }, { accessFlags := 18, nameIndex := 17, descriptorIndex := 18, attributes := #[] }, { accessFlags := 2, nameIndex := 21, descriptorIndex := 22, attributes := #[] }, { accessFlags := 2, nameIndex := 25, descriptorIndex := 26, attributes := #[] }, { accessFlags := 26, nameIndex := 1116, descriptorIndex := 1117, attributes := #[] }, { accessFlags := 24, nameIndex := 40, descriptorIndex := 26, attributes := #[] }, { accessFlags := 26, nameIndex := 1101, descriptorIndex := 1102, attributes := #[] }, { accessFlags := 26, nameIndex := 1121, descriptorIndex := 1122, attributes := #[] }, { accessFlags := 25, nameIndex := 599, descriptorIndex := 600, attributes := #[] }, { accessFlags := 24, nameIndex := 1125, descriptorIndex := 18, attributes := #[] }, { accessFlags := 24, nameIndex := 1127, descriptorIndex := 18, attributes := #[] }])
  fields := #[{ name := "value", type := (.array .byte), accessFlags := 18, slot := 0, constantValue := 0 }, { name := "coder", type := .byte, accessFlags := 18, slot := 1, constantValue := 0 }, { name := "hash", type := .int, accessFlags := 2, slot := 2, constantValue := 0 }, { name := "hashIsZero", type := .boolean, accessFlags := 2, slot := 3, constantValue := 0 }, { name := "serialVersionUID", type := .long, accessFlags := 26, slot := 0, constantValue := 0 }, { name := "COMPACT_STRINGS", type := .boolean, accessFlags := 24, slot := 1, constantValue := 0 }, { name := "serialPersistentFields", type := (.array (.object "java/io/ObjectStreamField")), accessFlags := 26, slot := 2, constantValue := 0 }, { name := "REPL", type := .char, accessFlags := 26, slot := 3, constantValue := 0 }, { name := "CASE_INSENSITIVE_ORDER", type := (.object "java/util/Comparator"), accessFlags := 25, slot := 4, constantValue := 0 }, { name := "LATIN1", type := .byte, accessFlags := 24, slot := 5, constantValue := 0 }, { name := "UTF16", type := .byte, accessFlags := 24, slot := 6, constantValue := 0 }]
  methods := #[k10m0, k10m1, k10m2, k10m3, k10m4, k10m5]
  instanceTypes := #[(.array .byte), .byte, .int, .boolean]
  staticTypes := #[.long, .boolean, (.array (.object "java/io/ObjectStreamField")), .char, (.object "java/util/Comparator"), .byte, .byte]
  resolved := Array.replicate 1451 none
  statics := some 0 }

def pool11 : Array CpInfo := pool [(1, .class_ 2), (0, u "java/lang/Integer"), (16, u "digits"), (0, u "[C"), (64, u "DigitOnes"), (0, u "[B"), (2, u "DigitTens"), (99, .class_ 190), (0, u "java/lang/Integer$IntegerCache"), (3, u "I"), (8, .class_ 204), (0, u "java/lang/Number"), (2, u "value"), (94, u "TYPE"), (0, u "Ljava/lang/Class;"), (0, .class_ 305), (0, u "java/lang/Comparable"), (0, .class_ 307), (0, u "java/lang/constant/Constable"), (0, .class_ 309), (0, u "java/lang/constant/ConstantDesc"), (0, u "MIN_VALUE"), (1, u "MAX_VALUE"), (3, u "SIZE"), (1, u "BYTES"), (1, u "serialVersionUID"), (0, u "J")] 131

/-- java/lang/Integer -/
def k11 : Class := { plain "java/lang/Integer" (some 4) with
  accessFlags := 49
  interfaces := #[5, 6, 7]
  cf := some (fileOf pool11 1 #[.nestMembers #[189]] #[] 49 203 #[304, 306, 308] #[{ accessFlags := 25, nameIndex := 310, descriptorIndex := 194, attributes := #[] }, { accessFlags := 25, nameIndex := 312, descriptorIndex := 194, attributes := #[] }, { accessFlags := 25, nameIndex := 302, descriptorIndex := 303, attributes := #[] }, { accessFlags := 24, nameIndex := 19, descriptorIndex := 20, attributes := #[] }, { accessFlags := 24, nameIndex := 89, descriptorIndex := 86, attributes := #[] }, { accessFlags := 24, nameIndex := 85, descriptorIndex := 86, attributes := #[] }, { accessFlags := 18, nameIndex := 207, descriptorIndex := 194, attributes := #[] }, { accessFlags := 25, nameIndex := 316, descriptorIndex := 194, attributes := #[] }, { accessFlags := 25, nameIndex := 318, descriptorIndex := 194, attributes := #[] }, { accessFlags := 26, nameIndex := 320, descriptorIndex := 321, attributes := #[] }])
  fields := #[{ name := "MIN_VALUE", type := .int, accessFlags := 25, slot := 0, constantValue := 0 }, { name := "MAX_VALUE", type := .int, accessFlags := 25, slot := 1, constantValue := 0 }, { name := "TYPE", type := (.object "java/lang/Class"), accessFlags := 25, slot := 2, constantValue := 0 }, { name := "digits", type := (.array .char), accessFlags := 24, slot := 3, constantValue := 0 }, { name := "DigitTens", type := (.array .byte), accessFlags := 24, slot := 4, constantValue := 0 }, { name := "DigitOnes", type := (.array .byte), accessFlags := 24, slot := 5, constantValue := 0 }, { name := "value", type := .int, accessFlags := 18, slot := 0, constantValue := 0 }, { name := "SIZE", type := .int, accessFlags := 25, slot := 6, constantValue := 0 }, { name := "BYTES", type := .int, accessFlags := 25, slot := 7, constantValue := 0 }, { name := "serialVersionUID", type := .long, accessFlags := 26, slot := 8, constantValue := 0 }]
  methods := #[]
  instanceTypes := #[.int]
  staticTypes := #[.int, .int, (.object "java/lang/Class"), (.array .char), (.array .byte), (.array .byte), .int, .int, .long]
  resolved := Array.replicate 453 none
  statics := some 1 }

def pool12 : Array CpInfo := pool [(2, .class_ 4), (1, u "java/lang/Object"), (0, u "<init>"), (0, u "()V"), (14, .class_ 23), (1, u "java/nio/charset/StandardCharsets"), (0, u "US_ASCII"), (0, u "Ljava/nio/charset/Charset;"), (7, u "ISO_8859_1"), (7, u "UTF_8"), (5, u "UTF_16BE"), (5, u "UTF_16LE"), (5, u "UTF_16")] 8

def k12m0 : Method := { name := "<init>", desc := "()V", sig := { parameters := [], returnType := none }, accessFlags := 2, code := none }
/-- java/nio/charset/StandardCharsets -/
def k12 : Class := { plain "java/nio/charset/StandardCharsets" (some 0) with
  accessFlags := 49
  interfaces := #[]
  cf := some (fileOf pool12 21 #[] #[{ accessFlags := 2, nameIndex := 5, descriptorIndex := 6, attributes := #[] }] 49 2 #[] #[{ accessFlags := 25, nameIndex := 24, descriptorIndex := 25, attributes := #[] }, { accessFlags := 25, nameIndex := 33, descriptorIndex := 25, attributes := #[] }, { accessFlags := 25, nameIndex := 41, descriptorIndex := 25, attributes := #[] }, { accessFlags := 25, nameIndex := 47, descriptorIndex := 25, attributes := #[] }, { accessFlags := 25, nameIndex := 53, descriptorIndex := 25, attributes := #[] }, { accessFlags := 25, nameIndex := 59, descriptorIndex := 25, attributes := #[] }])
  fields := #[{ name := "US_ASCII", type := (.object "java/nio/charset/Charset"), accessFlags := 25, slot := 0, constantValue := 0 }, { name := "ISO_8859_1", type := (.object "java/nio/charset/Charset"), accessFlags := 25, slot := 1, constantValue := 0 }, { name := "UTF_8", type := (.object "java/nio/charset/Charset"), accessFlags := 25, slot := 2, constantValue := 0 }, { name := "UTF_16BE", type := (.object "java/nio/charset/Charset"), accessFlags := 25, slot := 3, constantValue := 0 }, { name := "UTF_16LE", type := (.object "java/nio/charset/Charset"), accessFlags := 25, slot := 4, constantValue := 0 }, { name := "UTF_16", type := (.object "java/nio/charset/Charset"), accessFlags := 25, slot := 5, constantValue := 0 }]
  methods := #[k12m0]
  instanceTypes := #[]
  staticTypes := #[(.object "java/nio/charset/Charset"), (.object "java/nio/charset/Charset"), (.object "java/nio/charset/Charset"), (.object "java/nio/charset/Charset"), (.object "java/nio/charset/Charset"), (.object "java/nio/charset/Charset")]
  resolved := Array.replicate 68 none
  statics := some 2 }

def pool13 : Array CpInfo := pool [(18, .class_ 20), (1, u "java/nio/charset/Charset"), (0, u "cache1"), (0, u "[Ljava/lang/Object;"), (2, u "cache2"), (0, .class_ 27), (0, u "java/lang/Object"), (0, .class_ 29), (0, u "java/nio/charset/Charset$1"), (4, .class_ 36), (1, u "java/nio/charset/Charset$ThreadTrackHolder"), (21, .class_ 59), (0, u "java/nio/charset/Charset$2"), (11, .class_ 73), (1, u "java/nio/charset/Charset$ExtendedProviderHolder"), (22, u "standardProvider"), (0, u "Ljava/nio/charset/spi/CharsetProvider;"), (29, u "name"), (7, .class_ 136), (0, u "java/nio/charset/Charset$3"), (5, u "defaultCharset"), (0, u "Ljava/nio/charset/Charset;"), (14, u "zeroAliases"), (0, u "[Ljava/lang/String;"), (29, u "Ljava/lang/String;"), (2, u "aliases"), (2, u "aliasSet"), (0, u "Ljava/util/Set;"), (82, .class_ 280), (0, u "java/lang/Comparable"), (84, .class_ 366), (0, u "java/nio/charset/Charset$ExtendedProviderHolder$1")] 3

/-- java/nio/charset/Charset -/
def k13 : Class := { plain "java/nio/charset/Charset" (some 0) with
  accessFlags := 1057
  interfaces := #[5]
  cf := some (fileOf pool13 18 #[.nestMembers #[71, 365, 34, 135, 58, 28]] #[] 1057 26 #[279] #[{ accessFlags := 26, nameIndex := 96, descriptorIndex := 97, attributes := #[] }, { accessFlags := 26, nameIndex := 158, descriptorIndex := 159, attributes := #[] }, { accessFlags := 74, nameIndex := 21, descriptorIndex := 22, attributes := #[] }, { accessFlags := 74, nameIndex := 25, descriptorIndex := 22, attributes := #[] }, { accessFlags := 10, nameIndex := 142, descriptorIndex := 143, attributes := #[] }, { accessFlags := 18, nameIndex := 127, descriptorIndex := 189, attributes := #[] }, { accessFlags := 18, nameIndex := 192, descriptorIndex := 159, attributes := #[] }, { accessFlags := 2, nameIndex := 195, descriptorIndex := 196, attributes := #[] }])
  fields := #[{ name := "standardProvider", type := (.object "java/nio/charset/spi/CharsetProvider"), accessFlags := 26, slot := 0, constantValue := 0 }, { name := "zeroAliases", type := (.array (.object "java/lang/String")), accessFlags := 26, slot := 1, constantValue := 0 }, { name := "cache1", type := (.array (.object "java/lang/Object")), accessFlags := 74, slot := 2, constantValue := 0 }, { name := "cache2", type := (.array (.object "java/lang/Object")), accessFlags := 74, slot := 3, constantValue := 0 }, { name := "defaultCharset", type := (.object "java/nio/charset/Charset"), accessFlags := 10, slot := 4, constantValue := 0 }, { name := "name", type := (.object "java/lang/String"), accessFlags := 18, slot := 0, constantValue := 0 }, { name := "aliases", type := (.array (.object "java/lang/String")), accessFlags := 18, slot := 1, constantValue := 0 }, { name := "aliasSet", type := (.object "java/util/Set"), accessFlags := 2, slot := 2, constantValue := 0 }]
  methods := #[]
  instanceTypes := #[(.object "java/lang/String"), (.array (.object "java/lang/String")), (.object "java/util/Set")]
  staticTypes := #[(.object "java/nio/charset/spi/CharsetProvider"), (.array (.object "java/lang/String")), (.array (.object "java/lang/Object")), (.array (.object "java/lang/Object")), (.object "java/nio/charset/Charset")]
  resolved := Array.replicate 370 none
  statics := none }

def pool14 : Array CpInfo := pool [(1, .class_ 2), (0, u "sun/nio/cs/HistoricallyNamedCharset"), (0, .class_ 4), (0, u "java/lang/Object")] 4

/-- sun/nio/cs/HistoricallyNamedCharset -/
def k14 : Class := { plain "sun/nio/cs/HistoricallyNamedCharset" (some 0) with
  accessFlags := 1537
  interfaces := #[]
  cf := some (fileOf pool14 1 #[] #[] 1537 3 #[] #[])
  fields := #[]
  methods := #[]
  instanceTypes := #[]
  staticTypes := #[]
  resolved := Array.replicate 9 none
  statics := none }

def pool15 : Array CpInfo := pool [(2, .class_ 4), (1, u "java/nio/charset/Charset"), (130, .class_ 136), (0, u "sun/nio/cs/Unicode"), (0, .class_ 138), (0, u "sun/nio/cs/HistoricallyNamedCharset")] 15

/-- sun/nio/cs/Unicode -/
def k15 : Class := { plain "sun/nio/cs/Unicode" (some 13) with
  accessFlags := 1056
  interfaces := #[14]
  cf := some (fileOf pool15 135 #[] #[] 1056 2 #[137] #[])
  fields := #[]
  methods := #[]
  instanceTypes := #[(.object "java/lang/String"), (.array (.object "java/lang/String")), (.object "java/util/Set")]
  staticTypes := #[]
  resolved := Array.replicate 154 none
  statics := none }

def pool16 : Array CpInfo := pool [(10, .class_ 12), (1, u "sun/nio/cs/Unicode"), (0, u "<init>"), (3, .class_ 18), (0, u "sun/nio/cs/UTF_8$Decoder"), (3, .class_ 23), (0, u "sun/nio/cs/UTF_8$Encoder"), (15, .class_ 40), (0, u "sun/nio/cs/UTF_8"), (2, u "()V"), (2, u "INSTANCE"), (0, u "Lsun/nio/cs/UTF_8;"), (8, u "JLA"), (0, u "Ljdk/internal/access/JavaLangAccess;")] 26

def k16m0 : Method := { name := "<init>", desc := "()V", sig := { parameters := [], returnType := none }, accessFlags := 1, code := none }
/-- sun/nio/cs/UTF_8 -/
def k16 : Class := { plain "sun/nio/cs/UTF_8" (some 15) with
  accessFlags := 49
  interfaces := #[]
  cf := some (fileOf pool16 39 #[.nestMembers #[22, 17]] #[{ accessFlags := 1, nameIndex := 13, descriptorIndex := 43, attributes := #[] }] 49 10 #[] #[{ accessFlags := 25, nameIndex := 46, descriptorIndex := 47, attributes := #[] }, { accessFlags := 26, nameIndex := 56, descriptorIndex := 57, attributes := #[] }])
  fields := #[{ name := "INSTANCE", type := (.object "sun/nio/cs/UTF_8"), accessFlags := 25, slot := 0, constantValue := 0 }, { name := "JLA", type := (.object "jdk/internal/access/JavaLangAccess"), accessFlags := 26, slot := 1, constantValue := 0 }]
  methods := #[k16m0]
  instanceTypes := #[(.object "java/lang/String"), (.array (.object "java/lang/String")), (.object "java/util/Set")]
  staticTypes := #[(.object "sun/nio/cs/UTF_8"), (.object "jdk/internal/access/JavaLangAccess")]
  resolved := Array.replicate 84 none
  statics := some 3 }

def pool17 : Array CpInfo := pool [(2, .class_ 4), (1, u "java/lang/Object"), (0, u "<init>"), (0, u "()V"), (0, .methodref 8 9), (0, .class_ 10), (0, .nameAndType 11 12), (0, u "java/lang/StringCoding"), (0, u "countPositives"), (0, u "([BII)I"), (11, u "hasNegatives"), (0, u "([BII)Z")] 23

def k17m0 : Method := { name := "<init>", desc := "()V", sig := { parameters := [], returnType := none }, accessFlags := 2, code := none }
def k17c1 : Code := { maxStack := 3, maxLocals := 3, code := jdk_123_method_2_code, exceptionTable := #[], attributes := #[] }
def k17m1 : Method := { name := "hasNegatives", desc := "([BII)Z", sig := { parameters := [(.array .byte), .int, .int], returnType := some .boolean }, accessFlags := 9, code := some k17c1 }
def k17c2 : Code := { maxStack := 2, maxLocals := 5, code := jdk_123_method_3_code, exceptionTable := #[], attributes := #[] }
def k17m2 : Method := { name := "countPositives", desc := "([BII)I", sig := { parameters := [(.array .byte), .int, .int], returnType := some .int }, accessFlags := 9, code := some k17c2 }
/-- java/lang/StringCoding -/
def k17 : Class := { plain "java/lang/StringCoding" (some 0) with
  accessFlags := 32
  interfaces := #[]
  cf := some (fileOf pool17 8 #[] #[{ accessFlags := 2, nameIndex := 5, descriptorIndex := 6, attributes := #[] }, { accessFlags := 9, nameIndex := 24, descriptorIndex := 25, attributes := #[] }, { accessFlags := 9, nameIndex := 11, descriptorIndex := 12, attributes := #[] }] 32 2 #[] #[])
  fields := #[]
  methods := #[k17m0, k17m1, k17m2]
  instanceTypes := #[]
  staticTypes := #[]
  resolved := Array.replicate 49 none
  statics := none }

def pool18 : Array CpInfo := pool [(1, .class_ 2), (0, u "java/lang/Cloneable"), (0, .class_ 4), (0, u "java/lang/Object")] 2

/-- java/lang/Cloneable -/
def k18 : Class := { plain "java/lang/Cloneable" (some 0) with
  accessFlags := 1537
  interfaces := #[]
  cf := some (fileOf pool18 1 #[] #[] 1537 3 #[] #[])
  fields := #[]
  methods := #[]
  instanceTypes := #[]
  staticTypes := #[]
  resolved := Array.replicate 7 none
  statics := none }

def pool19 : Array CpInfo := pool [(1, .class_ 2), (0, u "java/lang/Math"), (1, .class_ 6), (1, u "java/lang/Object"), (0, u "<init>"), (0, u "()V"), (89, .class_ 100), (1, u "java/lang/Math$RandomNumberGeneratorHolder"), (71, u "negativeZeroFloatBits"), (0, u "J"), (2, u "negativeZeroDoubleBits"), (21, u "max"), (2, u "min"), (43, u "$assertionsDisabled"), (0, u "Z"), (88, u "(II)I"), (2, u "twoToTheDoubleScaleDown"), (0, u "D"), (4, u "twoToTheDoubleScaleUp"), (9, u "E"), (3, u "PI"), (2, u "TAU"), (2, u "DEGREES_TO_RADIANS"), (0, u "RADIANS_TO_DEGREES")] 94

def k19m0 : Method := { name := "<init>", desc := "()V", sig := { parameters := [], returnType := none }, accessFlags := 2, code := none }
def k19c1 : Code := { maxStack := 2, maxLocals := 2, code := jdk_29_method_65_code, exceptionTable := #[], attributes := #[] }
def k19m1 : Method := { name := "max", desc := "(II)I", sig := { parameters := [.int, .int], returnType := some .int }, accessFlags := 9, code := some k19c1 }
def k19c2 : Code := { maxStack := 2, maxLocals := 2, code := jdk_29_method_69_code, exceptionTable := #[], attributes := #[] }
def k19m2 : Method := { name := "min", desc := "(II)I", sig := { parameters := [.int, .int], returnType := some .int }, accessFlags := 9, code := some k19c2 }
/-- java/lang/Math -/
def k19 : Class := { plain "java/lang/Math" (some 0) with
  accessFlags := 49
  interfaces := #[]
  cf := some (fileOf pool19 1 #[.nestMembers #[98]] #[{ accessFlags := 2, nameIndex := 7, descriptorIndex := 8, attributes := #[] }, { accessFlags := 9, nameIndex := 198, descriptorIndex := 335, attributes := #[] }, { accessFlags := 9, nameIndex := 201, descriptorIndex := 335, attributes := #[] }] 49 4 #[] #[{ accessFlags := 25, nameIndex := 354, descriptorIndex := 339, attributes := #[] }, { accessFlags := 25, nameIndex := 358, descriptorIndex := 339, attributes := #[] }, { accessFlags := 25, nameIndex := 361, descriptorIndex := 339, attributes := #[] }, { accessFlags := 26, nameIndex := 364, descriptorIndex := 339, attributes := #[] }, { accessFlags := 26, nameIndex := 365, descriptorIndex := 339, attributes := #[] }, { accessFlags := 26, nameIndex := 172, descriptorIndex := 173, attributes := #[] }, { accessFlags := 26, nameIndex := 176, descriptorIndex := 173, attributes := #[] }, { accessFlags := 8, nameIndex := 344, descriptorIndex := 339, attributes := #[] }, { accessFlags := 8, nameIndex := 338, descriptorIndex := 339, attributes := #[] }, { accessFlags := 4120, nameIndex := 245, descriptorIndex := 246, attributes := #[] }])
  fields := #[{ name := "E", type := .double, accessFlags := 25, slot := 0, constantValue := 0 }, { name := "PI", type := .double, accessFlags := 25, slot := 1, constantValue := 0 }, { name := "TAU", type := .double, accessFlags := 25, slot := 2, constantValue := 0 }, { name := "DEGREES_TO_RADIANS", type := .double, accessFlags := 26, slot := 3, constantValue := 0 }, { name := "RADIANS_TO_DEGREES", type := .double, accessFlags := 26, slot := 4, constantValue := 0 }, { name := "negativeZeroFloatBits", type := .long, accessFlags := 26, slot := 5, constantValue := 0 }, { name := "negativeZeroDoubleBits", type := .long, accessFlags := 26, slot := 6, constantValue := 0 }, { name := "twoToTheDoubleScaleUp", type := .double, accessFlags := 8, slot := 7, constantValue := 0 }, { name := "twoToTheDoubleScaleDown", type := .double, accessFlags := 8, slot := 8, constantValue := 0 }, { name := "$assertionsDisabled", type := .boolean, accessFlags := 4120, slot := 9, constantValue := 0 }]
  methods := #[k19m0, k19m1, k19m2]
  instanceTypes := #[]
  staticTypes := #[.double, .double, .double, .double, .double, .long, .long, .double, .double, .boolean]
  resolved := Array.replicate 460 none
  statics := none }

def pool20 : Array CpInfo := pool [(2, .class_ 4), (1, u "java/lang/Object"), (0, u "<init>"), (0, u "()V"), (7, .class_ 16), (1, u "java/util/Arrays"), (57, .class_ 76), (1, u "java/util/Arrays$NaturalOrder"), (32, u "()Ljava/lang/Object;"), (3, .class_ 115), (1, u "java/util/Arrays$LegacyMergeSort"), (1, u "Z"), (10, .nameAndType 129 109), (0, u "clone"), (20, .methodref 151 152), (0, .class_ 153), (0, .nameAndType 154 155), (0, u "java/lang/System"), (0, u "arraycopy"), (0, u "(Ljava/lang/Object;ILjava/lang/Object;II)V"), (146, u "copyOf"), (1, .methodref 305 306), (0, .class_ 307), (0, .nameAndType 308 309), (0, u "java/lang/Math"), (0, u "min"), (0, u "(II)I"), (0, .methodref 311 128), (0, .class_ 312), (0, u "[B"), (62, .class_ 376), (0, u "java/util/Arrays$ArrayList"), (68, u "$assertionsDisabled"), (269, u "MIN_ARRAY_SORT_GRAN"), (0, u "I"), (2, u "INSERTIONSORT_THRESHOLD"), (149, u "([BI)[B"), (105, .class_ 976), (0, u "java/util/Arrays$ArrayItr")] 52

def k20m0 : Method := { name := "<init>", desc := "()V", sig := { parameters := [], returnType := none }, accessFlags := 2, code := none }
def k20c1 : Code := { maxStack := 6, maxLocals := 3, code := jdk_65_method_121_code, exceptionTable := #[], attributes := #[] }
def k20m1 : Method := { name := "copyOf", desc := "([BI)[B", sig := { parameters := [(.array .byte), .int], returnType := some (.array .byte) }, accessFlags := 9, code := some k20c1 }
/-- java/util/Arrays -/
def k20 : Class := { plain "java/util/Arrays" (some 0) with
  accessFlags := 49
  interfaces := #[]
  cf := some (fileOf pool20 14 #[.nestMembers #[975, 375, 113, 74]] #[{ accessFlags := 2, nameIndex := 5, descriptorIndex := 6, attributes := #[] }, { accessFlags := 9, nameIndex := 302, descriptorIndex := 869, attributes := #[] }] 49 2 #[] #[{ accessFlags := 26, nameIndex := 715, descriptorIndex := 716, attributes := #[] }, { accessFlags := 26, nameIndex := 719, descriptorIndex := 716, attributes := #[] }, { accessFlags := 4120, nameIndex := 445, descriptorIndex := 117, attributes := #[] }])
  fields := #[{ name := "MIN_ARRAY_SORT_GRAN", type := .int, accessFlags := 26, slot := 0, constantValue := 0 }, { name := "INSERTIONSORT_THRESHOLD", type := .int, accessFlags := 26, slot := 1, constantValue := 0 }, { name := "$assertionsDisabled", type := .boolean, accessFlags := 4120, slot := 2, constantValue := 0 }]
  methods := #[k20m0, k20m1]
  instanceTypes := #[]
  staticTypes := #[.int, .int, .boolean]
  resolved := Array.replicate 1029 none
  statics := none }

def pool21 : Array CpInfo := pool [(2, .class_ 4), (1, u "java/lang/Object"), (0, u "<init>"), (0, u "()V"), (1, .class_ 10), (1, u "java/lang/System"), (0, u "allowSecurityManager"), (0, u "I"), (16, u "cons"), (0, u "Ljava/io/Console;"), (77, .class_ 110), (1, u "java/lang/System$CallersHolder"), (43, u "initialErrStream"), (0, u "Ljava/io/PrintStream;"), (19, u "security"), (0, u "Ljava/lang/SecurityManager;"), (31, .class_ 209), (0, u "java/lang/System$1"), (7, u "props"), (0, u "Ljava/util/Properties;"), (2, u "lineSeparator"), (0, u "Ljava/lang/String;"), (96, .class_ 321), (1, u "java/lang/System$LoggerFinder"), (5, .class_ 328), (0, u "java/lang/System$Logger"), (67, u "err"), (2, u "out"), (91, u "notSupportedJnuEncoding"), (15, u "in"), (17, u "initialIn"), (0, u "Ljava/io/InputStream;"), (35, u "bootLayer"), (0, u "Ljava/lang/ModuleLayer;"), (99, .class_ 664), (0, u "java/lang/System$2"), (9, u "NEVER"), (2, u "MAYBE"), (49, u "arraycopy"), (0, u "(Ljava/lang/Object;ILjava/lang/Object;II)V"), (72, .class_ 802), (0, u "java/lang/System$Logger$Level")] 31

def k21m0 : Method := { name := "<init>", desc := "()V", sig := { parameters := [], returnType := none }, accessFlags := 2, code := none }
def k21m1 : Method := { name := "arraycopy", desc := "(Ljava/lang/Object;ILjava/lang/Object;II)V", sig := { parameters := [(.object "java/lang/Object"), .int, (.object "java/lang/Object"), .int, .int], returnType := none }, accessFlags := 265, code := none }
/-- java/lang/System -/
def k21 : Class := { plain "java/lang/System" (some 0) with
  accessFlags := 49
  interfaces := #[]
  cf := some (fileOf pool21 8 #[.nestMembers #[319, 327, 801, 108, 663, 208]] #[{ accessFlags := 2, nameIndex := 5, descriptorIndex := 6, attributes := #[] }, { accessFlags := 265, nameIndex := 727, descriptorIndex := 728, attributes := #[] }] 49 2 #[] #[{ accessFlags := 25, nameIndex := 507, descriptorIndex := 526, attributes := #[] }, { accessFlags := 25, nameIndex := 399, descriptorIndex := 155, attributes := #[] }, { accessFlags := 25, nameIndex := 396, descriptorIndex := 155, attributes := #[] }, { accessFlags := 10, nameIndex := 525, descriptorIndex := 526, attributes := #[] }, { accessFlags := 26, nameIndex := 674, descriptorIndex := 12, attributes := #[] }, { accessFlags := 26, nameIndex := 677, descriptorIndex := 12, attributes := #[] }, { accessFlags := 10, nameIndex := 11, descriptorIndex := 12, attributes := #[] }, { accessFlags := 74, nameIndex := 175, descriptorIndex := 176, attributes := #[] }, { accessFlags := 10, nameIndex := 491, descriptorIndex := 222, attributes := #[] }, { accessFlags := 74, nameIndex := 29, descriptorIndex := 30, attributes := #[] }, { accessFlags := 74, nameIndex := 154, descriptorIndex := 155, attributes := #[] }, { accessFlags := 10, nameIndex := 217, descriptorIndex := 218, attributes := #[] }, { accessFlags := 10, nameIndex := 221, descriptorIndex := 222, attributes := #[] }, { accessFlags := 8, nameIndex := 562, descriptorIndex := 563, attributes := #[] }])
  fields := #[{ name := "in", type := (.object "java/io/InputStream"), accessFlags := 25, slot := 0, constantValue := 0 }, { name := "out", type := (.object "java/io/PrintStream"), accessFlags := 25, slot := 1, constantValue := 0 }, { name := "err", type := (.object "java/io/PrintStream"), accessFlags := 25, slot := 2, constantValue := 0 }, { name := "initialIn", type := (.object "java/io/InputStream"), accessFlags := 10, slot := 3, constantValue := 0 }, { name := "NEVER", type := .int, accessFlags := 26, slot := 4, constantValue := 0 }, { name := "MAYBE", type := .int, accessFlags := 26, slot := 5, constantValue := 0 }, { name := "allowSecurityManager", type := .int, accessFlags := 10, slot := 6, constantValue := 0 }, { name := "security", type := (.object "java/lang/SecurityManager"), accessFlags := 74, slot := 7, constantValue := 0 }, { name := "notSupportedJnuEncoding", type := (.object "java/lang/String"), accessFlags := 10, slot := 8, constantValue := 0 }, { name := "cons", type := (.object "java/io/Console"), accessFlags := 74, slot := 9, constantValue := 0 }, { name := "initialErrStream", type := (.object "java/io/PrintStream"), accessFlags := 74, slot := 10, constantValue := 0 }, { name := "props", type := (.object "java/util/Properties"), accessFlags := 10, slot := 11, constantValue := 0 }, { name := "lineSeparator", type := (.object "java/lang/String"), accessFlags := 10, slot := 12, constantValue := 0 }, { name := "bootLayer", type := (.object "java/lang/ModuleLayer"), accessFlags := 8, slot := 13, constantValue := 0 }]
  methods := #[k21m0, k21m1]
  instanceTypes := #[]
  staticTypes := #[(.object "java/io/InputStream"), (.object "java/io/PrintStream"), (.object "java/io/PrintStream"), (.object "java/io/InputStream"), .int, .int, .int, (.object "java/lang/SecurityManager"), (.object "java/lang/String"), (.object "java/io/Console"), (.object "java/io/PrintStream"), (.object "java/util/Properties"), (.object "java/lang/String"), (.object "java/lang/ModuleLayer")]
  resolved := Array.replicate 834 none
  statics := none }

def pool22 : Array CpInfo := pool [(4, .class_ 6), (1, u "java/lang/Object"), (0, u "<init>"), (0, u "()V"), (5, .class_ 16), (1, u "java/lang/StringLatin1"), (104, u "$assertionsDisabled"), (0, u "Z"), (98, .class_ 223), (1, u "java/lang/StringLatin1$LinesSpliterator"), (166, .class_ 391), (0, u "java/lang/StringLatin1$CharsSpliterator")] 3

def k22m0 : Method := { name := "<init>", desc := "()V", sig := { parameters := [], returnType := none }, accessFlags := 0, code := none }
/-- java/lang/StringLatin1 -/
def k22 : Class := { plain "java/lang/StringLatin1" (some 0) with
  accessFlags := 48
  interfaces := #[]
  cf := some (fileOf pool22 14 #[.nestMembers #[390, 221]] #[{ accessFlags := 0, nameIndex := 7, descriptorIndex := 8, attributes := #[] }] 48 4 #[] #[{ accessFlags := 4120, nameIndex := 121, descriptorIndex := 122, attributes := #[] }])
  fields := #[{ name := "$assertionsDisabled", type := .boolean, accessFlags := 4120, slot := 0, constantValue := 0 }]
  methods := #[k22m0]
  instanceTypes := #[]
  staticTypes := #[.boolean]
  resolved := Array.replicate 395 none
  statics := none }

def pool23 : Array CpInfo := pool [(2, .class_ 4), (1, u "java/lang/Object"), (0, u "<init>"), (0, u "()V"), (17, .class_ 26), (1, u "jdk/internal/util/Preconditions"), (28, .class_ 56), (0, u "jdk/internal/util/Preconditions$4"), (57, .class_ 115), (0, u "jdk/internal/util/Preconditions$1"), (7, u "SIOOBE_FORMATTER"), (0, u "Ljava/util/function/BiFunction;"), (0, .class_ 126), (0, u "jdk/internal/util/Preconditions$2"), (3, u "AIOOBE_FORMATTER"), (0, .class_ 132), (0, u "jdk/internal/util/Preconditions$3"), (3, u "IOOBE_FORMATTER")] 57

def k23m0 : Method := { name := "<init>", desc := "()V", sig := { parameters := [], returnType := none }, accessFlags := 1, code := none }
/-- jdk/internal/util/Preconditions -/
def k23 : Class := { plain "jdk/internal/util/Preconditions" (some 0) with
  accessFlags := 33
  interfaces := #[]
  cf := some (fileOf pool23 24 #[.nestMembers #[55, 131, 125, 114]] #[{ accessFlags := 1, nameIndex := 5, descriptorIndex := 6, attributes := #[] }] 33 2 #[] #[{ accessFlags := 25, nameIndex := 123, descriptorIndex := 124, attributes := #[] }, { accessFlags := 25, nameIndex := 130, descriptorIndex := 124, attributes := #[] }, { accessFlags := 25, nameIndex := 136, descriptorIndex := 124, attributes := #[] }])
  fields := #[{ name := "SIOOBE_FORMATTER", type := (.object "java/util/function/BiFunction"), accessFlags := 25, slot := 0, constantValue := 0 }, { name := "AIOOBE_FORMATTER", type := (.object "java/util/function/BiFunction"), accessFlags := 25, slot := 1, constantValue := 0 }, { name := "IOOBE_FORMATTER", type := (.object "java/util/function/BiFunction"), accessFlags := 25, slot := 2, constantValue := 0 }]
  methods := #[k23m0]
  instanceTypes := #[]
  staticTypes := #[(.object "java/util/function/BiFunction"), (.object "java/util/function/BiFunction"), (.object "java/util/function/BiFunction")]
  resolved := Array.replicate 194 none
  statics := some 4 }

def pool24 : Array CpInfo := pool [(9, u "<init>"), (6, .class_ 18), (1, u "java/lang/Object"), (0, u "()V"), (1, .class_ 23), (1, u "jdk/internal/util/ArraysSupport"), (0, u "LOG2_ARRAY_LONG_INDEX_SCALE"), (0, u "I"), (2, u "U"), (0, u "Ljdk/internal/misc/Unsafe;"), (8, u "BIG_ENDIAN"), (0, u "Z"), (8, u "LOG2_BYTE_BIT_SIZE"), (4, u "LOG2_ARRAY_INT_INDEX_SCALE"), (54, u "JLA"), (0, u "Ljdk/internal/access/JavaLangAccess;"), (11, u "LOG2_ARRAY_BOOLEAN_INDEX_SCALE"), (9, u "LOG2_ARRAY_BYTE_INDEX_SCALE"), (5, u "LOG2_ARRAY_CHAR_INDEX_SCALE"), (5, u "LOG2_ARRAY_SHORT_INDEX_SCALE"), (18, u "LOG2_ARRAY_FLOAT_INDEX_SCALE"), (24, u "LOG2_ARRAY_DOUBLE_INDEX_SCALE"), (89, u "T_BOOLEAN"), (2, u "T_CHAR"), (1, u "T_FLOAT"), (1, u "T_DOUBLE"), (1, u "T_BYTE"), (1, u "T_SHORT"), (1, u "T_INT"), (1, u "T_LONG"), (1, u "SOFT_MAX_ARRAY_LENGTH")] 83

def k24m0 : Method := { name := "<init>", desc := "()V", sig := { parameters := [], returnType := none }, accessFlags := 2, code := none }
/-- jdk/internal/util/ArraysSupport -/
def k24 : Class := { plain "jdk/internal/util/ArraysSupport" (some 0) with
  accessFlags := 33
  interfaces := #[]
  cf := some (fileOf pool24 21 #[] #[{ accessFlags := 2, nameIndex := 9, descriptorIndex := 19, attributes := #[] }] 33 16 #[] #[{ accessFlags := 24, nameIndex := 28, descriptorIndex := 29, attributes := #[] }, { accessFlags := 26, nameIndex := 38, descriptorIndex := 39, attributes := #[] }, { accessFlags := 25, nameIndex := 121, descriptorIndex := 25, attributes := #[] }, { accessFlags := 25, nameIndex := 131, descriptorIndex := 25, attributes := #[] }, { accessFlags := 25, nameIndex := 137, descriptorIndex := 25, attributes := #[] }, { accessFlags := 25, nameIndex := 143, descriptorIndex := 25, attributes := #[] }, { accessFlags := 25, nameIndex := 53, descriptorIndex := 25, attributes := #[] }, { accessFlags := 25, nameIndex := 24, descriptorIndex := 25, attributes := #[] }, { accessFlags := 25, nameIndex := 162, descriptorIndex := 25, attributes := #[] }, { accessFlags := 25, nameIndex := 187, descriptorIndex := 25, attributes := #[] }, { accessFlags := 26, nameIndex := 48, descriptorIndex := 25, attributes := #[] }, { accessFlags := 25, nameIndex := 277, descriptorIndex := 25, attributes := #[] }, { accessFlags := 25, nameIndex := 280, descriptorIndex := 25, attributes := #[] }, { accessFlags := 25, nameIndex := 282, descriptorIndex := 25, attributes := #[] }, { accessFlags := 25, nameIndex := 284, descriptorIndex := 25, attributes := #[] }, { accessFlags := 25, nameIndex := 286, descriptorIndex := 25, attributes := #[] }, { accessFlags := 25, nameIndex := 288, descriptorIndex := 25, attributes := #[] }, { accessFlags := 25, nameIndex := 290, descriptorIndex := 25, attributes := #[] }, { accessFlags := 25, nameIndex := 292, descriptorIndex := 25, attributes := #[] }, { accessFlags := 26, nameIndex := 108, descriptorIndex := 109, attributes := #[] }, { accessFlags := 25, nameIndex := 294, descriptorIndex := 25, attributes := #[] }])
  fields := #[{ name := "U", type := (.object "jdk/internal/misc/Unsafe"), accessFlags := 24, slot := 0, constantValue := 0 }, { name := "BIG_ENDIAN", type := .boolean, accessFlags := 26, slot := 1, constantValue := 0 }, { name := "LOG2_ARRAY_BOOLEAN_INDEX_SCALE", type := .int, accessFlags := 25, slot := 2, constantValue := 0 }, { name := "LOG2_ARRAY_BYTE_INDEX_SCALE", type := .int, accessFlags := 25, slot := 3, constantValue := 0 }, { name := "LOG2_ARRAY_CHAR_INDEX_SCALE", type := .int, accessFlags := 25, slot := 4, constantValue := 0 }, { name := "LOG2_ARRAY_SHORT_INDEX_SCALE", type := .int, accessFlags := 25, slot := 5, constantValue := 0 }, { name := "LOG2_ARRAY_INT_INDEX_SCALE", type := .int, accessFlags := 25, slot := 6, constantValue := 0 }, { name := "LOG2_ARRAY_LONG_INDEX_SCALE", type := .int, accessFlags := 25, slot := 7, constantValue := 0 }, { name := "LOG2_ARRAY_FLOAT_INDEX_SCALE", type := .int, accessFlags := 25, slot := 8, constantValue := 0 }, { name := "LOG2_ARRAY_DOUBLE_INDEX_SCALE", type := .int, accessFlags := 25, slot := 9, constantValue := 0 }, { name := "LOG2_BYTE_BIT_SIZE", type := .int, accessFlags := 26, slot := 10, constantValue := 0 }, { name := "T_BOOLEAN", type := .int, accessFlags := 25, slot := 11, constantValue := 0 }, { name := "T_CHAR", type := .int, accessFlags := 25, slot := 12, constantValue := 0 }, { name := "T_FLOAT", type := .int, accessFlags := 25, slot := 13, constantValue := 0 }, { name := "T_DOUBLE", type := .int, accessFlags := 25, slot := 14, constantValue := 0 }, { name := "T_BYTE", type := .int, accessFlags := 25, slot := 15, constantValue := 0 }, { name := "T_SHORT", type := .int, accessFlags := 25, slot := 16, constantValue := 0 }, { name := "T_INT", type := .int, accessFlags := 25, slot := 17, constantValue := 0 }, { name := "T_LONG", type := .int, accessFlags := 25, slot := 18, constantValue := 0 }, { name := "JLA", type := (.object "jdk/internal/access/JavaLangAccess"), accessFlags := 26, slot := 19, constantValue := 0 }, { name := "SOFT_MAX_ARRAY_LENGTH", type := .int, accessFlags := 25, slot := 20, constantValue := 0 }]
  methods := #[k24m0]
  instanceTypes := #[]
  staticTypes := #[(.object "jdk/internal/misc/Unsafe"), .boolean, .int, .int, .int, .int, .int, .int, .int, .int, .int, .int, .int, .int, .int, .int, .int, .int, .int, (.object "jdk/internal/access/JavaLangAccess"), .int]
  resolved := Array.replicate 378 none
  statics := none }

/-- the primitive byte -/
def k25 : Class := { plain "byte" none with kind := .primitive 'B', accessFlags := 0x411 }
/-- [B -/
def k26 : Class := { plain "[B" (some 0) with kind := .array 25 .byte, interfaces := #[18, 3], accessFlags := 1041 }

/-- the primitive int -/
def k27 : Class := { plain "int" none with kind := .primitive 'I', accessFlags := 0x411 }
/-- [I -/
def k28 : Class := { plain "[I" (some 0) with kind := .array 27 .int, interfaces := #[18, 3], accessFlags := 1041 }

def heap : Heap := #[{ cls := 10, slots := #[.long 0, .int 1, .null, .int 0, .null, .int 0, .int 0], vm := .statics 10 },
  { cls := 11, slots := #[.int 0, .int 0, .null, .null, .ref 6, .ref 5, .int 0, .int 0, .long 0], vm := .statics 11 },
  { cls := 12, slots := #[.null, .null, .ref 7, .null, .null, .null], vm := .statics 12 },
  { cls := 16, slots := #[.ref 7, .null], vm := .statics 16 },
  { cls := 23, slots := #[.null, .null, .null], vm := .statics 23 },
  { cls := 26, slots := #[.int 48, .int 49, .int 50, .int 51, .int 52, .int 53, .int 54, .int 55, .int 56, .int 57, .int 48, .int 49, .int 50, .int 51, .int 52, .int 53, .int 54, .int 55, .int 56, .int 57, .int 48, .int 49, .int 50, .int 51, .int 52, .int 53, .int 54, .int 55, .int 56, .int 57, .int 48, .int 49, .int 50, .int 51, .int 52, .int 53, .int 54, .int 55, .int 56, .int 57, .int 48, .int 49, .int 50, .int 51, .int 52, .int 53, .int 54, .int 55, .int 56, .int 57, .int 48, .int 49, .int 50, .int 51, .int 52, .int 53, .int 54, .int 55, .int 56, .int 57, .int 48, .int 49, .int 50, .int 51, .int 52, .int 53, .int 54, .int 55, .int 56, .int 57, .int 48, .int 49, .int 50, .int 51, .int 52, .int 53, .int 54, .int 55, .int 56, .int 57, .int 48, .int 49, .int 50, .int 51, .int 52, .int 53, .int 54, .int 55, .int 56, .int 57, .int 48, .int 49, .int 50, .int 51, .int 52, .int 53, .int 54, .int 55, .int 56, .int 57], vm := .none },
  { cls := 26, slots := #[.int 48, .int 48, .int 48, .int 48, .int 48, .int 48, .int 48, .int 48, .int 48, .int 48, .int 49, .int 49, .int 49, .int 49, .int 49, .int 49, .int 49, .int 49, .int 49, .int 49, .int 50, .int 50, .int 50, .int 50, .int 50, .int 50, .int 50, .int 50, .int 50, .int 50, .int 51, .int 51, .int 51, .int 51, .int 51, .int 51, .int 51, .int 51, .int 51, .int 51, .int 52, .int 52, .int 52, .int 52, .int 52, .int 52, .int 52, .int 52, .int 52, .int 52, .int 53, .int 53, .int 53, .int 53, .int 53, .int 53, .int 53, .int 53, .int 53, .int 53, .int 54, .int 54, .int 54, .int 54, .int 54, .int 54, .int 54, .int 54, .int 54, .int 54, .int 55, .int 55, .int 55, .int 55, .int 55, .int 55, .int 55, .int 55, .int 55, .int 55, .int 56, .int 56, .int 56, .int 56, .int 56, .int 56, .int 56, .int 56, .int 56, .int 56, .int 57, .int 57, .int 57, .int 57, .int 57, .int 57, .int 57, .int 57, .int 57, .int 57], vm := .none },
  { cls := 16, slots := #[.null, .null, .null], vm := .none }]
def classes : Array Class := #[k0, k1, k2, k3, k4, k5, k6, k7, k8, k9, k10, k11, k12, k13, k14, k15, k16, k17, k18, k19, k20, k21, k22, k23, k24, k25, k26, k27, k28]
def interned : List (Array UInt16 × Addr) := []
def slotsUsed : Nat := 230
def theMethod : MethodId := ⟨1, 1⟩
def args0 : Array Value := #[.int 1, .int 2, .int 3, .int 4]
def aboutOver (below : List Frame) : State where
  vm := { classes := classes, interned := interned.toArray }
  heap := heap
  slotsUsed := slotsUsed
  threads := #[{ frames := .invoking theMethod args0 :: below }]
def below0 : List Frame := [.native { method := ⟨0, 0⟩, args := #[] }]
def about1 : State := aboutOver below0
def p0 : Program := .bare "" "" ""
def e0 : Env := launch0.env 0 0 0
theorem w_frames : about1.frames = Frame.invoking theMethod args0 :: below0 := rfl
set_option maxRecDepth 65536 in
theorem w_args : argsFit about1.vm theMethod args0 = true := by decide +kernel
set_option maxRecDepth 65536 in
theorem w_heap : heapFits about1 = true := by decide +kernel
set_option maxRecDepth 65536 in
theorem w_runnable : about1.curStatus? = some .runnable := by decide +kernel
set_option maxRecDepth 65536 in
theorem w_alone : about1.alone = true := by decide +kernel
set_option maxRecDepth 65536 in
theorem w_named : about1.methodNamed? x = some theMethod := by decide +kernel
set_option maxRecDepth 65536 in
theorem w_hears : about1.hears theMethod below0 = true := by decide +kernel
set_option maxRecDepth 65536 in
theorem w_ripe : about1.ripe theMethod args0 below0 = true := by decide +kernel
theorem w_running : about1.status = .running := rfl
set_option maxRecDepth 65536 in
theorem w_room : about1.hasRoom e0.platform room_1 = true :=
  launch0.hasRoom_least _ room_1 (by decide +kernel) (by decide +kernel) (by decide +kernel) (by decide +kernel) (by decide +kernel) (by decide +kernel)
theorem allAtoms_all (ts : List Jvm.Cond) (a : Array Jvm.Value) (st : Jvm.State) : (allAtoms ts).before a st = ts.all (fun c => c.before a st) := by
  induction ts with
  | nil => rfl
  | cons c t ih =>
    show (Jvm.Cond.and c (allAtoms t)).before a st = _
    rw [Jvm.Cond.before_and, ih, List.all_cons]
def words1 : List Jvm.Cond := Jvm.Cond.code x code maxLocals ret :: tables_1
/-- a 'code' word, met by the world's own term for the bytes: nothing is compared byte by byte -/
theorem code_word {y : MethodName} {bytes : ByteArray} {mx : Nat} {rt : Option FieldType} {a : Array Value} {s : State} {m : MethodId} {meth : Method} {c : Code} (h1 : s.methodNamed? y = some m) (h2 : s.vm.method? m = some meth) (h3 : meth.code = some c) (h4 : c.code = bytes)
    (h5 : (c.maxLocals == mx && c.exceptionTable.isEmpty && decide (c.maxStack ≤ mostOperands) && decide (meth.sig.returnType = rt) && !meth.locks && decide (parseMethodDescriptor y.desc = some meth.sig)) = true) : (Jvm.Cond.code y bytes mx rt).before a s = true := by
  simp only [Bool.and_eq_true, beq_iff_eq, Bool.not_eq_true', decide_eq_true_eq] at h5
  obtain ⟨⟨⟨⟨⟨g1, g2⟩, g3⟩, g4⟩, g5⟩, g6⟩ := h5
  simp [Cond.before, Cond.holds, Cond.value, h1, h2, h3, h4, g1, g2, g3, g4, g5, g6]
def isCode : Jvm.Cond → Bool
  | .code _ _ _ _ => true
  | _ => false
theorem all_split {L : List Jvm.Cond} {P : Jvm.Cond → Bool} (h1 : L.all (fun c => isCode c || P c) = true) (h2 : ∀ c ∈ L.filter isCode, P c = true) : L.all P = true := by
  refine List.all_eq_true.mpr fun c hc => ?_
  have h := List.all_eq_true.mp h1 c hc
  rcases Bool.eq_false_or_eq_true (isCode c) with hi | hi
  · exact h2 c (List.mem_filter.mpr ⟨hc, hi⟩)
  · simpa [hi] using h
set_option maxRecDepth 65536 in
theorem w_c0 : (Jvm.Cond.code x code maxLocals ret).before args0 about1 = true := code_word (m := ⟨1, 1⟩) (meth := k1m1) (c := k1c1) (by decide +kernel) rfl rfl rfl (by decide +kernel)
set_option maxRecDepth 65536 in
theorem w_c1 : (Jvm.Cond.code ({ cls := "com/example/facet_hierarchy_store/facethierarchystore/http/JsonWriter", name := "<init>", desc := "(I)V" } : Jvm.MethodName) prog_16_method_2_code (2 : Nat) (Option.none : Option Jvm.ClassFile.FieldType)).before args0 about1 = true := code_word (m := ⟨2, 1⟩) (meth := k2m1) (c := k2c1) (by decide +kernel) rfl rfl rfl (by decide +kernel)
set_option maxRecDepth 65536 in
theorem w_c2 : (Jvm.Cond.code ({ cls := "java/lang/Object", name := "<init>", desc := "()V" } : Jvm.MethodName) object_method_1_code (1 : Nat) (Option.none : Option Jvm.ClassFile.FieldType)).before args0 about1 = true := code_word (m := ⟨0, 0⟩) (meth := k0m0) (c := k0c0) (by decide +kernel) rfl rfl rfl (by decide +kernel)
set_option maxRecDepth 65536 in
theorem w_c3 : (Jvm.Cond.code ({ cls := "com/example/facet_hierarchy_store/facethierarchystore/http/JsonWriterBytesPinLaw", name := "digit", desc := "(II)I" } : Jvm.MethodName) method_3_code (2 : Nat) (Option.some Jvm.ClassFile.FieldType.int)).before args0 about1 = true := code_word (m := ⟨1, 2⟩) (meth := k1m2) (c := k1c2) (by decide +kernel) rfl rfl rfl (by decide +kernel)
set_option maxRecDepth 65536 in
theorem w_c4 : (Jvm.Cond.code ({ cls := "com/example/facet_hierarchy_store/facethierarchystore/http/JsonWriterBytesPinLaw", name := "step", desc := "(Lcom/example/facet_hierarchy_store/facethierarchystore/http/JsonWriter;[B[III)V" } : Jvm.MethodName) method_4_code (7 : Nat) (Option.none : Option Jvm.ClassFile.FieldType)).before args0 about1 = true := code_word (m := ⟨1, 3⟩) (meth := k1m3) (c := k1c3) (by decide +kernel) rfl rfl rfl (by decide +kernel)
set_option maxRecDepth 65536 in
theorem w_c5 : (Jvm.Cond.code ({ cls := "com/example/facet_hierarchy_store/facethierarchystore/http/JsonWriter", name := "value", desc := "(J)Lcom/example/facet_hierarchy_store/facethierarchystore/http/JsonWriter;" } : Jvm.MethodName) prog_16_method_10_code (3 : Nat) (Option.some (Jvm.ClassFile.FieldType.object "com/example/facet_hierarchy_store/facethierarchystore/http/JsonWriter"))).before args0 about1 = true := code_word (m := ⟨2, 4⟩) (meth := k2m4) (c := k2c4) (by decide +kernel) rfl rfl rfl (by decide +kernel)
set_option maxRecDepth 65536 in
theorem w_c6 : (Jvm.Cond.code ({ cls := "com/example/facet_hierarchy_store/facethierarchystore/http/JsonWriter", name := "separate", desc := "()V" } : Jvm.MethodName) prog_16_method_19_code (1 : Nat) (Option.none : Option Jvm.ClassFile.FieldType)).before args0 about1 = true := code_word (m := ⟨2, 8⟩) (meth := k2m8) (c := k2c8) (by decide +kernel) rfl rfl rfl (by decide +kernel)
set_option maxRecDepth 65536 in
theorem w_c7 : (Jvm.Cond.code ({ cls := "java/lang/Long", name := "toString", desc := "(J)Ljava/lang/String;" } : Jvm.MethodName) jdk_35_method_12_code (4 : Nat) (Option.some (Jvm.ClassFile.FieldType.object "java/lang/String"))).before args0 about1 = true := code_word (m := ⟨8, 0⟩) (meth := k8m0) (c := k8c0) (by decide +kernel) rfl rfl rfl (by decide +kernel)
set_option maxRecDepth 65536 in
theorem w_c8 : (Jvm.Cond.code ({ cls := "java/lang/Long", name := "stringSize", desc := "(J)I" } : Jvm.MethodName) jdk_35_method_15_code (6 : Nat) (Option.some Jvm.ClassFile.FieldType.int)).before args0 about1 = true := code_word (m := ⟨8, 2⟩) (meth := k8m2) (c := k8c2) (by decide +kernel) rfl rfl rfl (by decide +kernel)
set_option maxRecDepth 65536 in
theorem w_c9 : (Jvm.Cond.code ({ cls := "java/lang/Long", name := "getChars", desc := "(JI[B)I" } : Jvm.MethodName) jdk_35_method_14_code (11 : Nat) (Option.some Jvm.ClassFile.FieldType.int)).before args0 about1 = true := code_word (m := ⟨8, 1⟩) (meth := k8m1) (c := k8c1) (by decide +kernel) rfl rfl rfl (by decide +kernel)
set_option maxRecDepth 65536 in
theorem w_c10 : (Jvm.Cond.code ({ cls := "java/lang/String", name := "<init>", desc := "([BB)V" } : Jvm.MethodName) jdk_42_method_151_code (3 : Nat) (Option.none : Option Jvm.ClassFile.FieldType)).before args0 about1 = true := code_word (m := ⟨10, 4⟩) (meth := k10m4) (c := k10c4) (by decide +kernel) rfl rfl rfl (by decide +kernel)
set_option maxRecDepth 65536 in
theorem w_c11 : (Jvm.Cond.code ({ cls := "com/example/facet_hierarchy_store/facethierarchystore/http/JsonWriter", name := "raw", desc := "(Ljava/lang/String;)V" } : Jvm.MethodName) prog_16_method_21_code (3 : Nat) (Option.none : Option Jvm.ClassFile.FieldType)).before args0 about1 = true := code_word (m := ⟨2, 10⟩) (meth := k2m10) (c := k2c10) (by decide +kernel) rfl rfl rfl (by decide +kernel)
set_option maxRecDepth 65536 in
theorem w_c12 : (Jvm.Cond.code ({ cls := "java/lang/String", name := "getBytes", desc := "(Ljava/nio/charset/Charset;)[B" } : Jvm.MethodName) jdk_42_method_64_code (2 : Nat) (Option.some (Jvm.ClassFile.FieldType.array Jvm.ClassFile.FieldType.byte))).before args0 about1 = true := code_word (m := ⟨10, 3⟩) (meth := k10m3) (c := k10c3) (by decide +kernel) rfl rfl rfl (by decide +kernel)
set_option maxRecDepth 65536 in
theorem w_c13 : (Jvm.Cond.code ({ cls := "java/lang/String", name := "coder", desc := "()B" } : Jvm.MethodName) jdk_42_method_152_code (1 : Nat) (Option.some Jvm.ClassFile.FieldType.byte)).before args0 about1 = true := code_word (m := ⟨10, 5⟩) (meth := k10m5) (c := k10c5) (by decide +kernel) rfl rfl rfl (by decide +kernel)
set_option maxRecDepth 65536 in
theorem w_c14 : (Jvm.Cond.code ({ cls := "java/lang/String", name := "encode", desc := "(Ljava/nio/charset/Charset;B[B)[B" } : Jvm.MethodName) jdk_42_method_18_code (3 : Nat) (Option.some (Jvm.ClassFile.FieldType.array Jvm.ClassFile.FieldType.byte))).before args0 about1 = true := code_word (m := ⟨10, 1⟩) (meth := k10m1) (c := k10c1) (by decide +kernel) rfl rfl rfl (by decide +kernel)
set_option maxRecDepth 65536 in
theorem w_c15 : (Jvm.Cond.code ({ cls := "java/lang/String", name := "encodeUTF8", desc := "(B[BZ)[B" } : Jvm.MethodName) jdk_42_method_46_code (9 : Nat) (Option.some (Jvm.ClassFile.FieldType.array Jvm.ClassFile.FieldType.byte))).before args0 about1 = true := code_word (m := ⟨10, 2⟩) (meth := k10m2) (c := k10c2) (by decide +kernel) rfl rfl rfl (by decide +kernel)
set_option maxRecDepth 65536 in
theorem w_c16 : (Jvm.Cond.code ({ cls := "java/lang/StringCoding", name := "hasNegatives", desc := "([BII)Z" } : Jvm.MethodName) jdk_123_method_2_code (3 : Nat) (Option.some Jvm.ClassFile.FieldType.boolean)).before args0 about1 = true := code_word (m := ⟨17, 1⟩) (meth := k17m1) (c := k17c1) (by decide +kernel) rfl rfl rfl (by decide +kernel)
set_option maxRecDepth 65536 in
theorem w_c17 : (Jvm.Cond.code ({ cls := "java/lang/StringCoding", name := "countPositives", desc := "([BII)I" } : Jvm.MethodName) jdk_123_method_3_code (5 : Nat) (Option.some Jvm.ClassFile.FieldType.int)).before args0 about1 = true := code_word (m := ⟨17, 2⟩) (meth := k17m2) (c := k17c2) (by decide +kernel) rfl rfl rfl (by decide +kernel)
set_option maxRecDepth 65536 in
theorem w_c18 : (Jvm.Cond.code ({ cls := "com/example/facet_hierarchy_store/facethierarchystore/http/JsonWriter", name := "room", desc := "(I)V" } : Jvm.MethodName) prog_16_method_25_code (2 : Nat) (Option.none : Option Jvm.ClassFile.FieldType)).before args0 about1 = true := code_word (m := ⟨2, 11⟩) (meth := k2m11) (c := k2c11) (by decide +kernel) rfl rfl rfl (by decide +kernel)
set_option maxRecDepth 65536 in
theorem w_c19 : (Jvm.Cond.code ({ cls := "java/lang/Math", name := "max", desc := "(II)I" } : Jvm.MethodName) jdk_29_method_65_code (2 : Nat) (Option.some Jvm.ClassFile.FieldType.int)).before args0 about1 = true := code_word (m := ⟨19, 1⟩) (meth := k19m1) (c := k19c1) (by decide +kernel) rfl rfl rfl (by decide +kernel)
set_option maxRecDepth 65536 in
theorem w_c20 : (Jvm.Cond.code ({ cls := "java/util/Arrays", name := "copyOf", desc := "([BI)[B" } : Jvm.MethodName) jdk_65_method_121_code (3 : Nat) (Option.some (Jvm.ClassFile.FieldType.array Jvm.ClassFile.FieldType.byte))).before args0 about1 = true := code_word (m := ⟨20, 1⟩) (meth := k20m1) (c := k20c1) (by decide +kernel) rfl rfl rfl (by decide +kernel)
set_option maxRecDepth 65536 in
theorem w_c21 : (Jvm.Cond.code ({ cls := "java/lang/Math", name := "min", desc := "(II)I" } : Jvm.MethodName) jdk_29_method_69_code (2 : Nat) (Option.some Jvm.ClassFile.FieldType.int)).before args0 about1 = true := code_word (m := ⟨19, 2⟩) (meth := k19m2) (c := k19c2) (by decide +kernel) rfl rfl rfl (by decide +kernel)
set_option maxRecDepth 65536 in
theorem w_c22 : (Jvm.Cond.code ({ cls := "com/example/facet_hierarchy_store/facethierarchystore/http/JsonWriter", name := "bytes", desc := "()[B" } : Jvm.MethodName) prog_16_method_14_code (1 : Nat) (Option.some (Jvm.ClassFile.FieldType.array Jvm.ClassFile.FieldType.byte))).before args0 about1 = true := code_word (m := ⟨2, 5⟩) (meth := k2m5) (c := k2c5) (by decide +kernel) rfl rfl rfl (by decide +kernel)
set_option maxRecDepth 65536 in
theorem w_c23 : (Jvm.Cond.code ({ cls := "com/example/facet_hierarchy_store/facethierarchystore/http/JsonWriterBytesPinLaw", name := "same", desc := "([B[BI)Z" } : Jvm.MethodName) method_6_code (3 : Nat) (Option.some Jvm.ClassFile.FieldType.boolean)).before args0 about1 = true := code_word (m := ⟨1, 5⟩) (meth := k1m5) (c := k1c5) (by decide +kernel) rfl rfl rfl (by decide +kernel)
set_option maxRecDepth 65536 in
theorem w_c24 : (Jvm.Cond.code ({ cls := "com/example/facet_hierarchy_store/facethierarchystore/http/JsonWriterBytesPinLaw", name := "cmp", desc := "([B[BII)Z" } : Jvm.MethodName) method_5_code (4 : Nat) (Option.some Jvm.ClassFile.FieldType.boolean)).before args0 about1 = true := code_word (m := ⟨1, 4⟩) (meth := k1m4) (c := k1c4) (by decide +kernel) rfl rfl rfl (by decide +kernel)
set_option maxRecDepth 65536 in
theorem w_c25 : (Jvm.Cond.code ({ cls := "com/example/facet_hierarchy_store/facethierarchystore/http/JsonWriter", name := "array", desc := "()Lcom/example/facet_hierarchy_store/facethierarchystore/http/JsonWriter;" } : Jvm.MethodName) prog_16_method_5_code (1 : Nat) (Option.some (Jvm.ClassFile.FieldType.object "com/example/facet_hierarchy_store/facethierarchystore/http/JsonWriter"))).before args0 about1 = true := code_word (m := ⟨2, 2⟩) (meth := k2m2) (c := k2c2) (by decide +kernel) rfl rfl rfl (by decide +kernel)
set_option maxRecDepth 65536 in
theorem w_c26 : (Jvm.Cond.code ({ cls := "com/example/facet_hierarchy_store/facethierarchystore/http/JsonWriter", name := "open", desc := "(C)Lcom/example/facet_hierarchy_store/facethierarchystore/http/JsonWriter;" } : Jvm.MethodName) prog_16_method_17_code (2 : Nat) (Option.some (Jvm.ClassFile.FieldType.object "com/example/facet_hierarchy_store/facethierarchystore/http/JsonWriter"))).before args0 about1 = true := code_word (m := ⟨2, 6⟩) (meth := k2m6) (c := k2c6) (by decide +kernel) rfl rfl rfl (by decide +kernel)
set_option maxRecDepth 65536 in
theorem w_c27 : (Jvm.Cond.code ({ cls := "com/example/facet_hierarchy_store/facethierarchystore/http/JsonWriter", name := "put", desc := "(C)V" } : Jvm.MethodName) prog_16_method_20_code (2 : Nat) (Option.none : Option Jvm.ClassFile.FieldType)).before args0 about1 = true := code_word (m := ⟨2, 9⟩) (meth := k2m9) (c := k2c9) (by decide +kernel) rfl rfl rfl (by decide +kernel)
set_option maxRecDepth 65536 in
theorem w_c28 : (Jvm.Cond.code ({ cls := "com/example/facet_hierarchy_store/facethierarchystore/http/JsonWriter", name := "endArray", desc := "()Lcom/example/facet_hierarchy_store/facethierarchystore/http/JsonWriter;" } : Jvm.MethodName) prog_16_method_6_code (1 : Nat) (Option.some (Jvm.ClassFile.FieldType.object "com/example/facet_hierarchy_store/facethierarchystore/http/JsonWriter"))).before args0 about1 = true := code_word (m := ⟨2, 3⟩) (meth := k2m3) (c := k2c3) (by decide +kernel) rfl rfl rfl (by decide +kernel)
set_option maxRecDepth 65536 in
theorem w_c29 : (Jvm.Cond.code ({ cls := "com/example/facet_hierarchy_store/facethierarchystore/http/JsonWriter", name := "close", desc := "(C)Lcom/example/facet_hierarchy_store/facethierarchystore/http/JsonWriter;" } : Jvm.MethodName) prog_16_method_18_code (2 : Nat) (Option.some (Jvm.ClassFile.FieldType.object "com/example/facet_hierarchy_store/facethierarchystore/http/JsonWriter"))).before args0 about1 = true := code_word (m := ⟨2, 7⟩) (meth := k2m7) (c := k2c7) (by decide +kernel) rfl rfl rfl (by decide +kernel)
def codes1 : List Jvm.Cond := [Jvm.Cond.code x code maxLocals ret, Jvm.Cond.code ({ cls := "com/example/facet_hierarchy_store/facethierarchystore/http/JsonWriter", name := "<init>", desc := "(I)V" } : Jvm.MethodName) prog_16_method_2_code (2 : Nat) (Option.none : Option Jvm.ClassFile.FieldType), Jvm.Cond.code ({ cls := "java/lang/Object", name := "<init>", desc := "()V" } : Jvm.MethodName) object_method_1_code (1 : Nat) (Option.none : Option Jvm.ClassFile.FieldType), Jvm.Cond.code ({ cls := "com/example/facet_hierarchy_store/facethierarchystore/http/JsonWriterBytesPinLaw", name := "digit", desc := "(II)I" } : Jvm.MethodName) method_3_code (2 : Nat) (Option.some Jvm.ClassFile.FieldType.int), Jvm.Cond.code ({ cls := "com/example/facet_hierarchy_store/facethierarchystore/http/JsonWriterBytesPinLaw", name := "step", desc := "(Lcom/example/facet_hierarchy_store/facethierarchystore/http/JsonWriter;[B[III)V" } : Jvm.MethodName) method_4_code (7 : Nat) (Option.none : Option Jvm.ClassFile.FieldType), Jvm.Cond.code ({ cls := "com/example/facet_hierarchy_store/facethierarchystore/http/JsonWriter", name := "value", desc := "(J)Lcom/example/facet_hierarchy_store/facethierarchystore/http/JsonWriter;" } : Jvm.MethodName) prog_16_method_10_code (3 : Nat) (Option.some (Jvm.ClassFile.FieldType.object "com/example/facet_hierarchy_store/facethierarchystore/http/JsonWriter")), Jvm.Cond.code ({ cls := "com/example/facet_hierarchy_store/facethierarchystore/http/JsonWriter", name := "separate", desc := "()V" } : Jvm.MethodName) prog_16_method_19_code (1 : Nat) (Option.none : Option Jvm.ClassFile.FieldType), Jvm.Cond.code ({ cls := "java/lang/Long", name := "toString", desc := "(J)Ljava/lang/String;" } : Jvm.MethodName) jdk_35_method_12_code (4 : Nat) (Option.some (Jvm.ClassFile.FieldType.object "java/lang/String")), Jvm.Cond.code ({ cls := "java/lang/Long", name := "stringSize", desc := "(J)I" } : Jvm.MethodName) jdk_35_method_15_code (6 : Nat) (Option.some Jvm.ClassFile.FieldType.int), Jvm.Cond.code ({ cls := "java/lang/Long", name := "getChars", desc := "(JI[B)I" } : Jvm.MethodName) jdk_35_method_14_code (11 : Nat) (Option.some Jvm.ClassFile.FieldType.int), Jvm.Cond.code ({ cls := "java/lang/String", name := "<init>", desc := "([BB)V" } : Jvm.MethodName) jdk_42_method_151_code (3 : Nat) (Option.none : Option Jvm.ClassFile.FieldType), Jvm.Cond.code ({ cls := "com/example/facet_hierarchy_store/facethierarchystore/http/JsonWriter", name := "raw", desc := "(Ljava/lang/String;)V" } : Jvm.MethodName) prog_16_method_21_code (3 : Nat) (Option.none : Option Jvm.ClassFile.FieldType), Jvm.Cond.code ({ cls := "java/lang/String", name := "getBytes", desc := "(Ljava/nio/charset/Charset;)[B" } : Jvm.MethodName) jdk_42_method_64_code (2 : Nat) (Option.some (Jvm.ClassFile.FieldType.array Jvm.ClassFile.FieldType.byte)), Jvm.Cond.code ({ cls := "java/lang/String", name := "coder", desc := "()B" } : Jvm.MethodName) jdk_42_method_152_code (1 : Nat) (Option.some Jvm.ClassFile.FieldType.byte), Jvm.Cond.code ({ cls := "java/lang/String", name := "encode", desc := "(Ljava/nio/charset/Charset;B[B)[B" } : Jvm.MethodName) jdk_42_method_18_code (3 : Nat) (Option.some (Jvm.ClassFile.FieldType.array Jvm.ClassFile.FieldType.byte)), Jvm.Cond.code ({ cls := "java/lang/String", name := "encodeUTF8", desc := "(B[BZ)[B" } : Jvm.MethodName) jdk_42_method_46_code (9 : Nat) (Option.some (Jvm.ClassFile.FieldType.array Jvm.ClassFile.FieldType.byte)), Jvm.Cond.code ({ cls := "java/lang/StringCoding", name := "hasNegatives", desc := "([BII)Z" } : Jvm.MethodName) jdk_123_method_2_code (3 : Nat) (Option.some Jvm.ClassFile.FieldType.boolean), Jvm.Cond.code ({ cls := "java/lang/StringCoding", name := "countPositives", desc := "([BII)I" } : Jvm.MethodName) jdk_123_method_3_code (5 : Nat) (Option.some Jvm.ClassFile.FieldType.int), Jvm.Cond.code ({ cls := "com/example/facet_hierarchy_store/facethierarchystore/http/JsonWriter", name := "room", desc := "(I)V" } : Jvm.MethodName) prog_16_method_25_code (2 : Nat) (Option.none : Option Jvm.ClassFile.FieldType), Jvm.Cond.code ({ cls := "java/lang/Math", name := "max", desc := "(II)I" } : Jvm.MethodName) jdk_29_method_65_code (2 : Nat) (Option.some Jvm.ClassFile.FieldType.int), Jvm.Cond.code ({ cls := "java/util/Arrays", name := "copyOf", desc := "([BI)[B" } : Jvm.MethodName) jdk_65_method_121_code (3 : Nat) (Option.some (Jvm.ClassFile.FieldType.array Jvm.ClassFile.FieldType.byte)), Jvm.Cond.code ({ cls := "java/lang/Math", name := "min", desc := "(II)I" } : Jvm.MethodName) jdk_29_method_69_code (2 : Nat) (Option.some Jvm.ClassFile.FieldType.int), Jvm.Cond.code ({ cls := "com/example/facet_hierarchy_store/facethierarchystore/http/JsonWriter", name := "bytes", desc := "()[B" } : Jvm.MethodName) prog_16_method_14_code (1 : Nat) (Option.some (Jvm.ClassFile.FieldType.array Jvm.ClassFile.FieldType.byte)), Jvm.Cond.code ({ cls := "com/example/facet_hierarchy_store/facethierarchystore/http/JsonWriterBytesPinLaw", name := "same", desc := "([B[BI)Z" } : Jvm.MethodName) method_6_code (3 : Nat) (Option.some Jvm.ClassFile.FieldType.boolean), Jvm.Cond.code ({ cls := "com/example/facet_hierarchy_store/facethierarchystore/http/JsonWriterBytesPinLaw", name := "cmp", desc := "([B[BII)Z" } : Jvm.MethodName) method_5_code (4 : Nat) (Option.some Jvm.ClassFile.FieldType.boolean), Jvm.Cond.code ({ cls := "com/example/facet_hierarchy_store/facethierarchystore/http/JsonWriter", name := "array", desc := "()Lcom/example/facet_hierarchy_store/facethierarchystore/http/JsonWriter;" } : Jvm.MethodName) prog_16_method_5_code (1 : Nat) (Option.some (Jvm.ClassFile.FieldType.object "com/example/facet_hierarchy_store/facethierarchystore/http/JsonWriter")), Jvm.Cond.code ({ cls := "com/example/facet_hierarchy_store/facethierarchystore/http/JsonWriter", name := "open", desc := "(C)Lcom/example/facet_hierarchy_store/facethierarchystore/http/JsonWriter;" } : Jvm.MethodName) prog_16_method_17_code (2 : Nat) (Option.some (Jvm.ClassFile.FieldType.object "com/example/facet_hierarchy_store/facethierarchystore/http/JsonWriter")), Jvm.Cond.code ({ cls := "com/example/facet_hierarchy_store/facethierarchystore/http/JsonWriter", name := "put", desc := "(C)V" } : Jvm.MethodName) prog_16_method_20_code (2 : Nat) (Option.none : Option Jvm.ClassFile.FieldType), Jvm.Cond.code ({ cls := "com/example/facet_hierarchy_store/facethierarchystore/http/JsonWriter", name := "endArray", desc := "()Lcom/example/facet_hierarchy_store/facethierarchystore/http/JsonWriter;" } : Jvm.MethodName) prog_16_method_6_code (1 : Nat) (Option.some (Jvm.ClassFile.FieldType.object "com/example/facet_hierarchy_store/facethierarchystore/http/JsonWriter")), Jvm.Cond.code ({ cls := "com/example/facet_hierarchy_store/facethierarchystore/http/JsonWriter", name := "close", desc := "(C)Lcom/example/facet_hierarchy_store/facethierarchystore/http/JsonWriter;" } : Jvm.MethodName) prog_16_method_18_code (2 : Nat) (Option.some (Jvm.ClassFile.FieldType.object "com/example/facet_hierarchy_store/facethierarchystore/http/JsonWriter"))]
set_option maxRecDepth 65536 in
theorem codes_eq : words1.filter isCode = codes1 := rfl
theorem w_codes : ∀ c ∈ words1.filter isCode, c.before args0 about1 = true := by
  rw [codes_eq]
  intro c hc
  simp only [codes1, List.mem_cons, List.not_mem_nil, or_false] at hc
  rcases hc with rfl | rfl | rfl | rfl | rfl | rfl | rfl | rfl | rfl | rfl | rfl | rfl | rfl | rfl | rfl | rfl | rfl | rfl | rfl | rfl | rfl | rfl | rfl | rfl | rfl | rfl | rfl | rfl | rfl | rfl
  · exact w_c0
  · exact w_c1
  · exact w_c2
  · exact w_c3
  · exact w_c4
  · exact w_c5
  · exact w_c6
  · exact w_c7
  · exact w_c8
  · exact w_c9
  · exact w_c10
  · exact w_c11
  · exact w_c12
  · exact w_c13
  · exact w_c14
  · exact w_c15
  · exact w_c16
  · exact w_c17
  · exact w_c18
  · exact w_c19
  · exact w_c20
  · exact w_c21
  · exact w_c22
  · exact w_c23
  · exact w_c24
  · exact w_c25
  · exact w_c26
  · exact w_c27
  · exact w_c28
  · exact w_c29
set_option maxRecDepth 65536 in
theorem w_t1 : (words1.take 24).all (fun c => isCode c || c.before args0 about1) = true := by decide +kernel
set_option maxRecDepth 65536 in
theorem w_t2 : ((words1.drop 24).take 24).all (fun c => isCode c || c.before args0 about1) = true := by decide +kernel
set_option maxRecDepth 65536 in
theorem w_t3 : (((words1.drop 24).drop 24).take 24).all (fun c => isCode c || c.before args0 about1) = true := by decide +kernel
set_option maxRecDepth 65536 in
theorem w_t4 : ((((words1.drop 24).drop 24).drop 24).take 24).all (fun c => isCode c || c.before args0 about1) = true := by decide +kernel
set_option maxRecDepth 65536 in
theorem w_t5 : (((((words1.drop 24).drop 24).drop 24).drop 24).take 24).all (fun c => isCode c || c.before args0 about1) = true := by decide +kernel
set_option maxRecDepth 65536 in
theorem w_t6 : ((((((words1.drop 24).drop 24).drop 24).drop 24).drop 24).take 24).all (fun c => isCode c || c.before args0 about1) = true := by decide +kernel
set_option maxRecDepth 65536 in
theorem w_t7 : ((((((words1.drop 24).drop 24).drop 24).drop 24).drop 24).drop 24).all (fun c => isCode c || c.before args0 about1) = true := by decide +kernel
theorem w_tables : (allAtoms (Jvm.Cond.code x code maxLocals ret :: tables_1)).before args0 about1 = true := by
  rw [allAtoms_all]
  show words1.all (fun c => c.before args0 about1) = true
  refine all_split ?_ w_codes
  rw [← List.take_append_drop 24 words1, List.all_append, w_t1, ← List.take_append_drop 24 (words1.drop 24), List.all_append, w_t2, ← List.take_append_drop 24 ((words1.drop 24).drop 24), List.all_append, w_t3, ← List.take_append_drop 24 (((words1.drop 24).drop 24).drop 24), List.all_append, w_t4, ← List.take_append_drop 24 ((((words1.drop 24).drop 24).drop 24).drop 24), List.all_append, w_t5, ← List.take_append_drop 24 (((((words1.drop 24).drop 24).drop 24).drop 24).drop 24), List.all_append, w_t6, w_t7]
  rfl
set_option maxRecDepth 65536 in
theorem w_rest : rest_1_c.before args0 about1 = true := by decide +kernel
set_option maxRecDepth 65536 in
theorem w_case : (Jvm.Cond.and given_1 narrow_1).before args0 about1 = true := by decide +kernel
theorem w_applies : (headSpec (Jvm.Cond.code x code maxLocals ret :: tables_1) room_1).applies x e0.platform about1 = true :=
  (Spec.applies_iff w_frames).mpr ⟨w_running, w_runnable, w_alone, w_named, w_hears, w_ripe, w_room, w_tables⟩
theorem atStart : AtStart classFile x code maxLocals ret World_1 tables_1 room_1 Calls_1 rest_1 Pre_1 launch0 p0 e0 about1 theMethod args0 below0 :=
  ⟨lists_1, trivial, launch0.admits_env _ _ _, launch0.least_env, fairChoices_fair.cas, fairChoices_fair.clock, w_frames, w_args, w_heap, w_applies, trivial, w_rest, w_case⟩
end start1
theorem witness_1 : WitnessClaimed_1 := ⟨start1.p0, start1.e0, start1.about1, start1.theMethod, start1.args0, start1.below0, start1.atStart⟩
end Jvm.Pilot.@@N@@
