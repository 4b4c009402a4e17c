import JvmDerived
import JvmDerived.Pilot.@@N@@Statement
import JvmDerived.Pilot.@@N@@Code
set_option linter.unusedVariables false
set_option linter.unusedSimpArgs false
namespace Jvm.OwnKit
open Sem ClassFile Op Lib Jvm.Stand Jvm.Free Jvm.LawKit Jvm.RoadKit
/-- from S the run comes to a state of which P holds -/
def Go (tb : Tables) (e : Env) (below : List Frame) (P : State → Prop) (S : State) : Prop := ∃ t, Steps tb e below S t ∧ P t
theorem Go.st {tb : Tables} {e : Env} {below : List Frame} {P : State → Prop} {S S' : State} (h : ∀ t, Steps tb e below S' t → Steps tb e below S t) (g : Go tb e below P S') : Go tb e below P S := by
  obtain ⟨t, h1, h2⟩ := g
  exact ⟨t, h t h1, h2⟩
theorem Go.cast {tb : Tables} {e : Env} {below : List Frame} {P : State → Prop} {T : State} {g g' : JFrame} (q : g = g') (k : Go tb e below P (T.setTop g')) : Go tb e below P (T.setTop g) := q ▸ k
/-- the invocation of s has returned, and Q says what -/
def Fine (s : State) (below : List Frame) (Q : Option Value → Heap → List Loc → Prop) (kc ks : Nat) (t : State) : Prop := ∃ o, t.status = .running ∧ Ended t below o ∧ ∃ v L, o = .returned v ∧ Q v t.heap L ∧ FrameEnd s o t L kc ks
/-- a method's contract, over the tables of the start Z: called with 'as' at the heap h0 it returns, and Q says what -/
def Con (l : Launch) (Z : State) (y : MethodName) (bytes : ByteArray) (maxL : Nat) (ret : Option FieldType) (ws : List Jvm.Cond) (rm : Room) (as : Array Value) (h0 : Heap) (Q : Option Value → Heap → List Loc → Prop) : Prop :=
  MetFree l y (head1 (Jvm.Cond.code y bytes maxL ret :: ws) rm) (fun a U => a = as ∧ Z.Warmed39 U.vm ∧ U.heap = h0) (fun _ _ _ _ _ => True) (fun _ U o U' => ∃ v L, o = .returned v ∧ Q v U'.heap L ∧ FrameEnd U o U' L rm.cells rm.slots)
theorem Con.of {l : Launch} {Z : State} {y : MethodName} {bytes : ByteArray} {maxL : Nat} {ret : Option FieldType} {ws : List Jvm.Cond} {rm : Room} {as : Array Value} {h0 : Heap} {Q : Option Value → Heap → List Loc → Prop} (hpl : plainFor y = true)
    (body : ∀ (p : Program) (e : Env) (s : State) (m : MethodId) (below : List Frame) (meth : Method) (c : Code) (s₁ : State), Z.Warmed39 s.vm → s₁.heap = h0 → Stand p l e rm s m as below meth c s₁ [] 0 0 → p.tables.exec = Jvm.exec → c.code = bytes → c.maxLocals = maxL → s.vm.findClass y.cls = some m.cls → meth.name = y.name → meth.sig.returnType = ret → meth.locks = false →
      Go p.tables e below (Fine s below Q rm.cells rm.slots) (s₁.setTop (entryFrame m as maxL))) : Con l Z y bytes maxL ret ws rm as h0 Q := by
  refine MetFree.of_bodySF hpl hisR ?_
  intro p e s m args below meth c s₁ Bd hml hP hK
  obtain ⟨rfl, hZ, hh⟩ := hP
  have e0 : s₁.heap = h0 := by rw [← hh, Bd.state]; rfl
  obtain ⟨t, h1, o, h2, h3, h4⟩ := body p e s m below meth c s₁ hZ e0 (Stand.of_body Bd) Bd.exec Bd.bytes hml (findClass_of_methodNamed Bd.named) (name_of_methodNamed Bd.named Bd.method).1 Bd.returns Bd.notSynchronized
  exact ⟨t, o, h1, h2, h3, h4⟩
def bi (P : Prop) [Decidable P] : Int32 := if P then 1 else 0
theorem bi_t {P : Prop} [Decidable P] (h : P) : bi P = 1 := if_pos h
theorem bi_f {P : Prop} [Decidable P] (h : ¬ P) : bi P = 0 := if_neg h
theorem eqL_v {args : Array Value} {first s : State} {o : Option Outcome} {idx : List Nat} {t : Term} {k : Int64} (h : (Cond.eq t (.long k)).value args first o s idx = some true) : t.eval args first o idx s = some (.long k) := by
  obtain ⟨x, y, ev, ey, -, hk⟩ := cmp_v (Or.inl h)
  obtain rfl : Value.long k = y := Option.some.inj ey
  obtain ⟨z, rfl⟩ := hk
  obtain rfl : z = k := gotT (eq_L ev ey) h
  exact ev
theorem eqI_v {args : Array Value} {first s : State} {o : Option Outcome} {idx : List Nat} {t : Term} {k : Int32} (h : (Cond.eq t (.int k)).value args first o s idx = some true) : t.eval args first o idx s = some (.int k) := by
  obtain ⟨x, y, ev, ey, -, hk⟩ := cmp_v (Or.inl h)
  obtain rfl : Value.int k = y := Option.some.inj ey
  obtain ⟨z, rfl⟩ := hk
  have q : (Cond.eq t (.int k)).value args first o s idx = some (decide (z = k)) := by simp [Cond.value, ev, ey]
  obtain rfl : z = k := gotT q h
  exact ev
section
variable {p : Program} {l : Launch} {e : Env} {R : Room} {s : State} {m : MethodId} {args : Array Value} {below : List Frame} {meth : Method} {c : Code} {T : State} {locs : List Loc} {cells slots : Nat} {Z : State} {a0 : Array Value} {h : Heap}
theorem fin {Q : Option Value → Heap → List Loc → Prop} {kc ks : Nat} {v : Option Value} {S : State} (X : Stand p l e R s m args below meth c T locs cells slots) (hv : meth.sig.returnType = none → v = none) (hlk : meth.locks = false) (hq : Q v T.heap locs) (hc : cells ≤ kc) (hs : slots ≤ ks)
    (st : ∀ fs, (∀ (f : JFrame) (acts : List Action), f.method = m → f.locked = none → f.entered = [] → (doReturn e (T.setTop f) acts v).1 = T.setFrames fs) → Steps p.tables e below S (T.setFrames fs)) : Go p.tables e below (Fine s below Q kc ks) S := by
  obtain ⟨fs, hr, hrun, hended, hW, hsame⟩ := X.leave (v := v) hv hlk
  exact ⟨_, st fs hr, _, hrun, hended, v, locs, rfl, hq, ⟨_, rfl⟩, hW, hsame.mono hc hs⟩
/-- return of an int, a long, a reference (no narrowing) -/
theorem endW {Q : Option Value → Heap → List Loc → Prop} {kc ks : Nat} (X : Stand p l e R s m args below meth c T locs cells slots) (hx : p.tables.exec = Jvm.exec) (hlk : meth.locks = false) {pc : Nat} {Ls : Array Slot} {w : Value} {t : FieldType} {i : Instr} {rest : List Value} (hret : meth.sig.returnType = some t) (hn : narrow t w = w)
    (hi : (i = .ireturn ∧ (t = .int ∨ t = .boolean ∨ t = .byte ∨ t = .char ∨ t = .short) ∧ ∃ z, w = .int z) ∨ (i = .lreturn ∧ t = .long ∧ ∃ z, w = .long z) ∨ (i = .dreturn ∧ t = .double ∧ ∃ z, w = .double z) ∨ (i = .freturn ∧ t = .float ∧ ∃ z, w = .float z) ∨ (i = .areturn ∧ t.isReference = true ∧ w.isRef = true))
    (hd : decode c.code pc = .ok (i, 1)) (hq : Q (some w) T.heap locs) (hc : cells ≤ kc) (hs : slots ≤ ks) : Go p.tables e below (Fine s below Q kc ks) (T.setTop (mkF m pc Ls (w :: rest))) :=
  fin X (fun h => by rw [hret] at h; cases h) hlk hq hc hs fun fs hr => retOut X hx hret hn hi hd hr
theorem endI {Q : Option Value → Heap → List Loc → Prop} {kc ks : Nat} (X : Stand p l e R s m args below meth c T locs cells slots) (hx : p.tables.exec = Jvm.exec) (hlk : meth.locks = false) {pc : Nat} {Ls : Array Slot} {z : Int32} {rest : List Value} (hret : meth.sig.returnType = some .int)
    (hd : decode c.code pc = .ok (.ireturn, 1)) (hq : Q (some (.int z)) T.heap locs) (hc : cells ≤ kc) (hs : slots ≤ ks) : Go p.tables e below (Fine s below Q kc ks) (T.setTop (mkF m pc Ls (.int z :: rest))) :=
  endW X hx hlk hret rfl (Or.inl ⟨rfl, Or.inl rfl, z, rfl⟩) hd hq hc hs
theorem endJ {Q : Option Value → Heap → List Loc → Prop} {kc ks : Nat} (X : Stand p l e R s m args below meth c T locs cells slots) (hx : p.tables.exec = Jvm.exec) (hlk : meth.locks = false) {pc : Nat} {Ls : Array Slot} {z : Int64} {rest : List Value} (hret : meth.sig.returnType = some .long)
    (hd : decode c.code pc = .ok (.lreturn, 1)) (hq : Q (some (.long z)) T.heap locs) (hc : cells ≤ kc) (hs : slots ≤ ks) : Go p.tables e below (Fine s below Q kc ks) (T.setTop (mkF m pc Ls (.long z :: rest))) :=
  endW X hx hlk hret rfl (Or.inr (Or.inl ⟨rfl, rfl, z, rfl⟩)) hd hq hc hs
theorem endD {Q : Option Value → Heap → List Loc → Prop} {kc ks : Nat} (X : Stand p l e R s m args below meth c T locs cells slots) (hx : p.tables.exec = Jvm.exec) (hlk : meth.locks = false) {pc : Nat} {Ls : Array Slot} {z : UInt64} {rest : List Value} (hret : meth.sig.returnType = some .double)
    (hd : decode c.code pc = .ok (.dreturn, 1)) (hq : Q (some (.double z)) T.heap locs) (hc : cells ≤ kc) (hs : slots ≤ ks) : Go p.tables e below (Fine s below Q kc ks) (T.setTop (mkF m pc Ls (.double z :: rest))) :=
  endW X hx hlk hret rfl (Or.inr (Or.inr (Or.inl ⟨rfl, rfl, z, rfl⟩))) hd hq hc hs
theorem endR {Q : Option Value → Heap → List Loc → Prop} {kc ks : Nat} (X : Stand p l e R s m args below meth c T locs cells slots) (hx : p.tables.exec = Jvm.exec) (hlk : meth.locks = false) {pc : Nat} {Ls : Array Slot} {w : Value} {t : FieldType} {rest : List Value} (hret : meth.sig.returnType = some t) (ht : t.isReference = true) (hw : w.isRef = true)
    (hd : decode c.code pc = .ok (.areturn, 1)) (hq : Q (some w) T.heap locs) (hc : cells ≤ kc) (hs : slots ≤ ks) : Go p.tables e below (Fine s below Q kc ks) (T.setTop (mkF m pc Ls (w :: rest))) :=
  endW X hx hlk hret (by cases w <;> first | rfl | (cases t <;> first | rfl | cases ht) | cases hw) (Or.inr (Or.inr (Or.inr (Or.inr ⟨rfl, ht, hw⟩)))) hd hq hc hs
/-- return of a boolean, byte, char or short: narrowed -/
theorem endN {Q : Option Value → Heap → List Loc → Prop} {kc ks : Nat} (X : Stand p l e R s m args below meth c T locs cells slots) (hx : p.tables.exec = Jvm.exec) (hlk : meth.locks = false) {pc : Nat} {Ls : Array Slot} {z w : Int32} {t : FieldType} {rest : List Value} (hret : meth.sig.returnType = some t) (ht : t = .boolean ∨ t = .byte ∨ t = .char ∨ t = .short)
    (hd : decode c.code pc = .ok (.ireturn, 1)) (hz : nar t z = w) (hq : Q (some (.int w)) T.heap locs) (hc : cells ≤ kc) (hs : slots ≤ ks) : Go p.tables e below (Fine s below Q kc ks) (T.setTop (mkF m pc Ls (.int z :: rest))) := by
  subst hz
  exact fin X (fun h => by rw [hret] at h; cases h) hlk hq hc hs fun fs hr => retN X hx hret ht hd hr
theorem endV {Q : Option Value → Heap → List Loc → Prop} {kc ks : Nat} (X : Stand p l e R s m args below meth c T locs cells slots) (hx : p.tables.exec = Jvm.exec) (hlk : meth.locks = false) {pc : Nat} {Ls : Array Slot} (hret : meth.sig.returnType = none)
    (hd : decode c.code pc = .ok (.return_, 1)) (hq : Q none T.heap locs) (hc : cells ≤ kc) (hs : slots ≤ ks) : Go p.tables e below (Fine s below Q kc ks) (T.setTop (mkF m pc Ls [])) :=
  fin X (fun _ => rfl) hlk hq hc hs fun fs hr => X.returnOut hx hret hd hr
theorem lremM {g : JFrame} {target : State} (X : Stand p l e R s m args below meth c T locs cells slots) (hx : p.tables.exec = Jvm.exec) (hg : g.method = m) {x y : Int64} {rest : List Value} (hd : decode c.code g.pc = .ok (.lrem, 1)) (hs : g.stack = .long y :: .long x :: rest) (hy : y ≠ 0)
    (hr : Steps p.tables e below (T.setTop { g with pc := g.pc + 1, stack := .long (x % y) :: rest }) target) : Steps p.tables e below (T.setTop g) target := by
  have q : x - x / y * y = x % y := lrem_mod x y
  exact XS.lrem X.here hx hg hd hs hy (by rw [q]; exact hr)
/-- a static call by its contract -/
theorem callSt (X : Stand p l e R s m args below meth c T locs cells slots) (hx : p.tables.exec = Jvm.exec) (hZ : Z.Warmed39 s.vm) {own : String} {index : Nat} {y : MethodName} {bytes : ByteArray} {maxL : Nat} {ret : Option FieldType} {rm : Room} {Q : Option Value → Heap → List Loc → Prop} {argsL rest : List Value}
    (hown : s.vm.findClass own = some m.cls) (w1 : (Cond.methodLink own index y).before a0 Z = true) (w2 : (Cond.static y).before a0 Z = true) (w3 : (Cond.initialized y.cls).before a0 Z = true) (w4 : (Cond.code y bytes maxL ret).before a0 Z = true) (hy : y.cls ≠ "java/lang/invoke/MethodHandle" ∧ y.cls ≠ "java/lang/invoke/VarHandle")
    (hM : Con l Z y bytes maxL ret [] rm argsL.toArray h Q) (eT : T.heap = h) (W : Nat) (hf : rm.frames + 1 ≤ R.frames) (hl : W + (maxL + 11) + rm.locals ≤ R.locals) (hcc : cells + rm.cells ≤ R.cells) (hss : slots + rm.slots ≤ R.slots)
    {g : JFrame} (hg : g.method = m) (hsize : g.locals.size = c.maxLocals) (hlen : ∀ sig, parseMethodDescriptor y.desc = some sig → argsL.length = sig.parameters.length)
    (hstack : g.stack = argsL.reverse ++ rest) (hW : 2 * g.monitorRoom + (rest.map fun v => v.category).sum ≤ W) (hd : decode c.code g.pc = .ok (.invokestatic index, 3)) :
    ∃ v T' L, Stand p l e R s m args below meth c T' (locs ++ L) (cells + rm.cells) (slots + rm.slots) ∧ Q v T'.heap L ∧ ∀ target, Steps p.tables e below (T'.setTop { g with pc := g.pc + 3, stack := v.toList ++ rest }) target → Steps p.tables e below (T.setTop g) target := by
  obtain ⟨v, vm1, ⟨T', L', k', n'⟩, -, X', ⟨L, hQ, l1, l2, l3⟩, st⟩ := Jvm.LawKit.callS X hx hown (mvT hZ w1) (mvT hZ w2) (mvT hZ w3) (mvT hZ w4) hy (backOf (Q := Q) (W := W) hM hZ w4 w3 hf hl) hg hsize hlen hstack hW hd (fun _ _ => ⟨rfl, eT, hcc, hss⟩)
  (try dsimp only at X' l1 l2 l3 st hQ)
  subst l1 l2 l3
  exact ⟨v, T', L, X', hQ, st⟩
/-- a constructor by its contract -/
theorem callIn (X : Stand p l e R s m args below meth c T locs cells slots) (hx : p.tables.exec = Jvm.exec) (hZ : Z.Warmed39 s.vm) {own : String} {index : Nat} {y : MethodName} {bytes : ByteArray} {maxL : Nat} {rm : Room} {Q : Option Value → Heap → List Loc → Prop} {a : Addr} {argsL rest : List Value} (hy1 : y.name = "<init>")
    (hown : s.vm.findClass own = some m.cls) (w1 : (Cond.methodLink own index y).before a0 Z = true) (w2 : (Cond.instanceMethod y).before a0 Z = true) (w3 : (Cond.initialized y.cls).before a0 Z = true) (w4 : (Cond.code y bytes maxL none).before a0 Z = true) (hy : y.cls ≠ "java/lang/invoke/MethodHandle" ∧ y.cls ≠ "java/lang/invoke/VarHandle")
    (hM : Con l Z y bytes maxL none [] rm (.ref a :: argsL).toArray h Q) (eT : T.heap = h) (W : Nat) (hf : rm.frames + 1 ≤ R.frames) (hl : W + (maxL + 11) + rm.locals ≤ R.locals) (hcc : cells + rm.cells ≤ R.cells) (hss : slots + rm.slots ≤ R.slots)
    {g : JFrame} (hg : g.method = m) (hsize : g.locals.size = c.maxLocals) (hlen : ∀ sig, parseMethodDescriptor y.desc = some sig → argsL.length = sig.parameters.length)
    (hstack : g.stack = argsL.reverse ++ .ref a :: rest) (hW : 2 * g.monitorRoom + (rest.map fun v => v.category).sum ≤ W) (hd : decode c.code g.pc = .ok (.invokespecial index, 3)) :
    ∃ v T' L, Stand p l e R s m args below meth c T' (locs ++ L) (cells + rm.cells) (slots + rm.slots) ∧ Q v T'.heap L ∧ ∀ target, Steps p.tables e below (T'.setTop { g with pc := g.pc + 3, stack := v.toList ++ rest }) target → Steps p.tables e below (T.setTop g) target := by
  obtain ⟨v, vm1, ⟨T', L', k', n'⟩, -, X', ⟨L, hQ, l1, l2, l3⟩, st⟩ := X.specialBack hx hy1 hown (mvT hZ w1) (mvT hZ w2) (mvT hZ w4) hy (backOf (Q := Q) (W := W) hM hZ w4 w3 hf hl) hg hsize (Steps.refl _) hlen hstack hW hd (fun _ _ => ⟨rfl, eT, hcc, hss⟩)
  (try dsimp only at X' l1 l2 l3 st hQ)
  subst l1 l2 l3
  exact ⟨v, T', L, X', hQ, fun target k => st.trans k⟩
theorem mvM {s : State} {a0 args : Array Value} {own host : String} {y : MethodName} {index : Nat} (hZ : Z.Warmed39 s.vm) (w : (Cond.methodLinkNest own index y host).before a0 Z = true) : (Cond.methodLinkNest own index y host).before args s = true := (Cond.methodLinkNest_wide hZ w :)
/-- a nest mate's constructor by its contract -/
theorem callInN (X : Stand p l e R s m args below meth c T locs cells slots) (hx : p.tables.exec = Jvm.exec) (hZ : Z.Warmed39 s.vm) {own host : String} {index : Nat} {y : MethodName} {bytes : ByteArray} {maxL : Nat} {rm : Room} {Q : Option Value → Heap → List Loc → Prop} {a : Addr} {argsL rest : List Value} (hy1 : y.name = "<init>")
    (hown : s.vm.findClass own = some m.cls) (w1 : (Cond.methodLinkNest own index y host).before a0 Z = true) (w2 : (Cond.instanceMethod y).before a0 Z = true) (w3 : (Cond.initialized y.cls).before a0 Z = true) (w4 : (Cond.code y bytes maxL none).before a0 Z = true) (hy : y.cls ≠ "java/lang/invoke/MethodHandle" ∧ y.cls ≠ "java/lang/invoke/VarHandle")
    (hM : Con l Z y bytes maxL none [] rm (.ref a :: argsL).toArray h Q) (eT : T.heap = h) (W : Nat) (hf : rm.frames + 1 ≤ R.frames) (hl : W + (maxL + 11) + rm.locals ≤ R.locals) (hcc : cells + rm.cells ≤ R.cells) (hss : slots + rm.slots ≤ R.slots)
    {g : JFrame} (hg : g.method = m) (hsize : g.locals.size = c.maxLocals) (hlen : ∀ sig, parseMethodDescriptor y.desc = some sig → argsL.length = sig.parameters.length)
    (hstack : g.stack = argsL.reverse ++ .ref a :: rest) (hW : 2 * g.monitorRoom + (rest.map fun v => v.category).sum ≤ W) (hd : decode c.code g.pc = .ok (.invokespecial index, 3)) :
    ∃ v T' L, Stand p l e R s m args below meth c T' (locs ++ L) (cells + rm.cells) (slots + rm.slots) ∧ Q v T'.heap L ∧ ∀ target, Steps p.tables e below (T'.setTop { g with pc := g.pc + 3, stack := v.toList ++ rest }) target → Steps p.tables e below (T.setTop g) target := by
  obtain ⟨v, vm1, ⟨T', L', k', n'⟩, -, X', ⟨L, hQ, l1, l2, l3⟩, st⟩ := X.specialBackNest hx hy1 hown (mvM hZ w1) (mvT hZ w2) (mvT hZ w4) hy (backOf (Q := Q) (W := W) hM hZ w4 w3 hf hl) hg hsize (Steps.refl _) hlen hstack hW hd (fun _ _ => ⟨rfl, eT, hcc, hss⟩)
  (try dsimp only at X' l1 l2 l3 st hQ)
  subst l1 l2 l3
  exact ⟨v, T', L, X', hQ, fun target k => st.trans k⟩
/-- an instance method by the contract of the body that the receiver's class selects -/
theorem callVi (X : Stand p l e R s m args below meth c T locs cells slots) (hx : p.tables.exec = Jvm.exec) (hZ : Z.Warmed39 s.vm) {own C : String} {index : Nat} {y z : MethodName} {bytes : ByteArray} {maxL : Nat} {ret : Option FieldType} {rm : Room} {Q : Option Value → Heap → List Loc → Prop} {a : Addr} {argsL rest : List Value}
    (hown : s.vm.findClass own = some m.cls) (w1 : (Cond.methodLink own index y).before a0 Z = true) (w2 : (Cond.declares y).before a0 Z = true) (nf : NotFace s y) (w3 : (Cond.selects C y z).before a0 Z = true) (w4 : (Cond.instanceMethod z).before a0 Z = true) (w5 : (Cond.initialized z.cls).before a0 Z = true) (w6 : (Cond.code z bytes maxL ret).before a0 Z = true) (hy : y.cls ≠ "java/lang/invoke/MethodHandle" ∧ y.cls ≠ "java/lang/invoke/VarHandle")
    (hyz : z.desc = y.desc) (E : Exa Z h a C) (hM : Con l Z z bytes maxL ret [] rm (.ref a :: argsL).toArray h Q) (eT : T.heap = h) (W : Nat) (hf : rm.frames + 1 ≤ R.frames) (hl : W + (maxL + 11) + rm.locals ≤ R.locals) (hcc : cells + rm.cells ≤ R.cells) (hss : slots + rm.slots ≤ R.slots)
    {g : JFrame} (hg : g.method = m) (hsize : g.locals.size = c.maxLocals) (hlen : ∀ sig, parseMethodDescriptor y.desc = some sig → argsL.length = sig.parameters.length)
    (hstack : g.stack = argsL.reverse ++ .ref a :: rest) (hW : 2 * g.monitorRoom + (rest.map fun v => v.category).sum ≤ W) (hd : decode c.code g.pc = .ok (.invokevirtual index, 3)) :
    ∃ v T' L, Stand p l e R s m args below meth c T' (locs ++ L) (cells + rm.cells) (slots + rm.slots) ∧ Q v T'.heap L ∧ ∀ target, Steps p.tables e below (T'.setTop { g with pc := g.pc + 3, stack := v.toList ++ rest }) target → Steps p.tables e below (T.setTop g) target := by
  obtain ⟨cq, kq, qa, qb, qc⟩ := isOf hZ eT E
  obtain ⟨v, vm1, ⟨T', L', k', n'⟩, -, X', ⟨L, hQ, l1, l2, l3⟩, st⟩ := X.virtualBack hx (y := y) (z := z) hown (mvT hZ w1) (mvT hZ w2) nf (mvT hZ w3) (mvT hZ w4) hy (backOf (Q := Q) (W := W) hM hZ w6 w5 hf hl) qa qc hg hsize (Steps.refl _) hlen hstack hW hd (fun _ _ => ⟨rfl, eT, hcc, hss⟩)
  (try dsimp only at X' l1 l2 l3 st hQ)
  subst l1 l2 l3
  exact ⟨v, T', L, X', hQ, fun target k => st.trans k⟩
theorem selPriv {y : MethodName} {n : Nat} (wi : (Cond.instantiable y.cls n).before a0 Z = true) (wp : (Cond.privateMethod y).before a0 Z = true) (wm : (Cond.instanceMethod y).before a0 Z = true) (hy : y.cls ≠ "java/lang/invoke/MethodHandle" ∧ y.cls ≠ "java/lang/invoke/VarHandle") : (Cond.selects y.cls y y).before a0 Z = true := by
  obtain ⟨t, kt, g1, g2, g3, g4, -⟩ := Cond.instantiable_spec wi
  exact selects_self_of_private g1 g2 (Bool.or_eq_false_iff.mp g4).1 (Cond.privateMethod_at wp) wm hy
/-- a private instance method by its contract -/
theorem callPr (X : Stand p l e R s m args below meth c T locs cells slots) (hx : p.tables.exec = Jvm.exec) (hZ : Z.Warmed39 s.vm) {own C : String} {index : Nat} {y : MethodName} {bytes : ByteArray} {maxL : Nat} {ret : Option FieldType} {rm : Room} {Q : Option Value → Heap → List Loc → Prop} {a : Addr} {argsL rest : List Value}
    (hown : s.vm.findClass own = some m.cls) (w1 : (Cond.methodLink own index y).before a0 Z = true) (w2 : (Cond.instanceMethod y).before a0 Z = true) (w3 : (Cond.selects y.cls y y).before a0 Z = true) (w4 : (Cond.privateMethod y).before a0 Z = true) (w5 : (Cond.initialized y.cls).before a0 Z = true) (w6 : (Cond.code y bytes maxL ret).before a0 Z = true) (hy : y.cls ≠ "java/lang/invoke/MethodHandle" ∧ y.cls ≠ "java/lang/invoke/VarHandle")
    (E : Exa Z h a C) (hM : Con l Z y bytes maxL ret [] rm (.ref a :: argsL).toArray h Q) (eT : T.heap = h) (W : Nat) (hf : rm.frames + 1 ≤ R.frames) (hl : W + (maxL + 11) + rm.locals ≤ R.locals) (hcc : cells + rm.cells ≤ R.cells) (hss : slots + rm.slots ≤ R.slots)
    {g : JFrame} (hg : g.method = m) (hsize : g.locals.size = c.maxLocals) (hlen : ∀ sig, parseMethodDescriptor y.desc = some sig → argsL.length = sig.parameters.length)
    (hstack : g.stack = argsL.reverse ++ .ref a :: rest) (hW : 2 * g.monitorRoom + (rest.map fun v => v.category).sum ≤ W) (hd : decode c.code g.pc = .ok (.invokevirtual index, 3)) :
    ∃ v T' L, Stand p l e R s m args below meth c T' (locs ++ L) (cells + rm.cells) (slots + rm.slots) ∧ Q v T'.heap L ∧ ∀ target, Steps p.tables e below (T'.setTop { g with pc := g.pc + 3, stack := v.toList ++ rest }) target → Steps p.tables e below (T.setTop g) target := by
  obtain ⟨cell, q1, q2⟩ := E.cell
  obtain ⟨v, vm1, ⟨T', L', k', n'⟩, -, X', ⟨L, hQ, l1, l2, l3⟩, st⟩ := X.privateBack hx hown (mvT hZ w1) (mvT hZ w2) (mvT hZ w3) (Cond.privateMethod_at (mvP (args := args) hZ w4)) (mvT hZ w6) hy (backOf (Q := Q) (W := W) hM hZ w6 w5 hf hl) hg hsize (Steps.refl _) (by rw [eT]; exact q1) q2 hlen hstack hW hd (fun _ _ => ⟨rfl, eT, hcc, hss⟩)
  (try dsimp only at X' l1 l2 l3 st hQ)
  subst l1 l2 l3
  exact ⟨v, T', L, X', hQ, fun target k => st.trans k⟩
/-- an interface's method by the contract of the body that the receiver's class selects -/
theorem callIf (X : Stand p l e R s m args below meth c T locs cells slots) (hx : p.tables.exec = Jvm.exec) (hZ : Z.Warmed39 s.vm) {own C : String} {index count : Nat} {y z : MethodName} {bytes : ByteArray} {maxL : Nat} {ret : Option FieldType} {rm : Room} {Q : Option Value → Heap → List Loc → Prop} {a : Addr} {argsL rest : List Value}
    (hown : s.vm.findClass own = some m.cls) (w1 : (Cond.methodLink own index y).before a0 Z = true) (w2 : (Cond.declares y).before a0 Z = true) (w3 : (Cond.interfaceMethod y.cls y.cls y.name y.desc).before a0 Z = true) (w4 : (Cond.selects C y z).before a0 Z = true) (w5 : (Cond.instanceMethod z).before a0 Z = true) (w6 : (Cond.publicMethod z).before a0 Z = true) (w7 : (Cond.unhidden C y.name y.desc).before a0 Z = true) (w8 : (Cond.castable C y.cls).before a0 Z = true) (w9 : (Cond.initialized z.cls).before a0 Z = true) (w10 : (Cond.code z bytes maxL ret).before a0 Z = true) (hy : y.cls ≠ "java/lang/invoke/MethodHandle" ∧ y.cls ≠ "java/lang/invoke/VarHandle")
    (E : Exa Z h a C) (hM : Con l Z z bytes maxL ret [] rm (.ref a :: argsL).toArray h Q) (eT : T.heap = h) (W : Nat) (hf : rm.frames + 1 ≤ R.frames) (hl : W + (maxL + 11) + rm.locals ≤ R.locals) (hcc : cells + rm.cells ≤ R.cells) (hss : slots + rm.slots ≤ R.slots)
    {g : JFrame} (hg : g.method = m) (hsize : g.locals.size = c.maxLocals) (hlen : ∀ sig, parseMethodDescriptor y.desc = some sig → argsL.length = sig.parameters.length)
    (hstack : g.stack = argsL.reverse ++ .ref a :: rest) (hW : 2 * g.monitorRoom + (rest.map fun v => v.category).sum ≤ W) (hd : decode c.code g.pc = .ok (.invokeinterface index count, 5)) :
    ∃ v T' L, Stand p l e R s m args below meth c T' (locs ++ L) (cells + rm.cells) (slots + rm.slots) ∧ Q v T'.heap L ∧ ∀ target, Steps p.tables e below (T'.setTop { g with pc := g.pc + 5, stack := v.toList ++ rest }) target → Steps p.tables e below (T.setTop g) target := by
  obtain ⟨cq, kq, qa, qb, qc⟩ := isOf hZ eT E
  obtain ⟨v, vm1, ⟨T', L', k', n'⟩, -, X', ⟨L, hQ, l1, l2, l3⟩, st⟩ := X.interfaceBack hx (xi := y) (y := z) hown (mvT hZ w1) (mvT hZ w2) (mvT hZ w3 (by simp [Cond.onTables, Cond.keepsFace, Cond.faceAtom, Cond.keeps, Cond.steady, hy.1, hy.2])) (mvT hZ w4) (mvT hZ w5) (mvT hZ w6) (mvT hZ w7) (mvT hZ w8) hy (backOf (Q := Q) (W := W) hM hZ w10 w9 hf hl) qa qb qc hg hsize (Steps.refl _) hlen hstack hW hd (fun _ _ => ⟨rfl, eT, hcc, hss⟩)
  (try dsimp only at X' l1 l2 l3 st hQ)
  subst l1 l2 l3
  exact ⟨v, T', L, X', hQ, fun target k => st.trans k⟩
/-- an array whose k-th element is f k -/
def Afn (Z : State) (h : Heap) (a : Addr) (ty : FieldType) (n : Int32) (f : Nat → Value) : Prop := ∃ c : Cell, Arr Z h a c ty ∧ c.slots.size = n.toNatClampNeg ∧ ¬ n < 0 ∧ ∀ k, k < n.toNatClampNeg → c.slots[k]? = some (f k) ∧ fits ty (f k) = true
theorem Afn.lt {h : Heap} {a : Addr} {ty : FieldType} {n : Int32} {f : Nat → Value} (F : Afn Z h a ty n f) : a < h.size := by obtain ⟨c, A, -⟩ := F; exact A.lt
theorem Afn.nn {h : Heap} {a : Addr} {ty : FieldType} {n : Int32} {f : Nat → Value} (F : Afn Z h a ty n f) : ¬ n < 0 := by obtain ⟨c, -, -, q, -⟩ := F; exact q
theorem Afn.ext {h h' : Heap} {a : Addr} {ty : FieldType} {n : Int32} {f : Nat → Value} (F : Afn Z h a ty n f) (E : Ext h h') : Afn Z h' a ty n f := by obtain ⟨c, A, r⟩ := F; exact ⟨c, A.ext E, r⟩
theorem Afn.other {h h' : Heap} {a b : Addr} {ty : FieldType} {n : Int32} {f : Nat → Value} {sl : Nat} {v : Value} (F : Afn Z h b ty n f) (W : Wr h h' a sl v) (q : b ≠ a) : Afn Z h' b ty n f := by obtain ⟨c, A, r⟩ := F; exact ⟨c, A.other W q, r⟩
theorem Afn.keep {h h' : Heap} {a : Addr} {ty : FieldType} {n : Int32} {f : Nat → Value} {ws : List Addr} (F : Afn Z h a ty n f) (K : Keep h h' ws) (q : a ∉ ws) : Afn Z h' a ty n f := by obtain ⟨c, A, r⟩ := F; exact ⟨c, ⟨K.2.1 a c A.1 q, A.2⟩, r⟩
theorem Afn.congr {h : Heap} {a : Addr} {ty : FieldType} {n : Int32} {f g : Nat → Value} (F : Afn Z h a ty n f) (q : ∀ k, k < n.toNatClampNeg → f k = g k) : Afn Z h a ty n g := by
  obtain ⟨c, A, s, m, r⟩ := F
  exact ⟨c, A, s, m, fun k hk => by rw [← q k hk]; exact r k hk⟩
theorem Afn.new {h : Heap} {a : Addr} {ty : FieldType} {n : Int32} {k : ClassId} (A : Arr Z h a (newA k ty n) ty) (q : ¬ n < 0) : Afn Z h a ty n (fun _ => defaultValue ty) := by
  obtain ⟨c, B, -, s, m, H, G⟩ := Arv.new A q
  exact ⟨c, B, s, m, fun j hj => ⟨by simpa using H j (by rw [s]; exact hj), by simpa using G j (by rw [s]; exact hj)⟩⟩
theorem Afn.set {h h' : Heap} {a : Addr} {ty : FieldType} {n : Int32} {f : Nat → Value} {c : Cell} {j : Int32} {v : Value} (A : Arr Z h a c ty) (s : c.slots.size = n.toNatClampNeg) (m : ¬ n < 0) (r : ∀ k, k < n.toNatClampNeg → c.slots[k]? = some (f k) ∧ fits ty (f k) = true) (hv : fits ty v = true) (W : Wr h h' a j.toNatClampNeg v) :
    Afn Z h' a ty n (fun k => if k = j.toNatClampNeg then v else f k) := by
  refine ⟨c.setSlot j.toNatClampNeg v, A.same W, by rw [sz_set]; exact s, m, fun k hk => ?_⟩
  dsimp only
  by_cases q : k = j.toNatClampNeg
  · rw [if_pos q]
    refine ⟨?_, hv⟩
    subst q
    simp [Cell.setSlot, s, hk]
  · rw [if_neg q]
    refine ⟨?_, (r k hk).2⟩
    show (c.slots.setIfInBounds _ _)[k]? = _
    rw [Array.getElem?_setIfInBounds_ne (Ne.symm q)]
    exact (r k hk).1
theorem inbN {n j : Int32} (q : ¬ j < 0 ∧ j < n) : j.toNatClampNeg < n.toNatClampNeg := by
  obtain ⟨h1, h2⟩ := q
  rw [Int32.lt_iff_toInt_lt] at h1 h2
  have e : (0 : Int32).toInt = 0 := rfl
  simp only [Int32.toNatClampNeg]
  omega
theorem Afn.of_arv {h : Heap} {a : Addr} {k : ClassId} {ty : FieldType} {n : Int32} {vs : List Value} {d : Value} (F : Arv Z h a k ty n vs d) : Afn Z h a ty n (fun i => vs.getD i d) := by
  obtain ⟨c, A, -, s, m, H, G⟩ := F
  exact ⟨c, A, s, m, fun i hi => ⟨H i (by rw [s]; exact hi), G i (by rw [s]; exact hi)⟩⟩
theorem ns_root {O K : String} {n : Nat} (w : (Cond.noSuperclass O).before a0 Z = true) (wk : (Cond.instantiable K n).before a0 Z = true) (hn : O ≠ K) : NS Z O K := by
  obtain ⟨c, k, h1, h2, h3, -, -⟩ := Cond.noSuperclass_spec w
  obtain ⟨t, kt, g1, -⟩ := Cond.instantiable_spec wk
  have ne := ids_ne h1 g1 hn
  refine ⟨c, t, h1, g1, fun fuel => ?_⟩
  cases fuel with
  | zero => rfl
  | succ f => simp [Vm.isSubclassAux, ne, h2, h3]
theorem ns_no {C S K : String} {n : Nat} (w : (Cond.superclass C S).before a0 Z = true) (wk : (Cond.instantiable K n).before a0 Z = true) (q : NS Z C K) (hn : C ≠ K) : ∃ c t, Z.vm.findClass C = some c ∧ Z.vm.findClass K = some t ∧ Z.vm.assignable c t = false := by
  obtain ⟨c, t, h0, g0, n3⟩ := q
  obtain ⟨p, k, kp, h1, h2, h3, h4, h5, -, h7⟩ := Cond.superclass_spec h0 w
  obtain ⟨t', kt, g1, g2, g3, g4, -⟩ := Cond.instantiable_spec wk
  cases g0.symm.trans g1
  have g5 : kt.isInterface = false := (Bool.or_eq_false_iff.mp g4).1
  have ne := ids_ne h0 g0 hn
  refine ⟨c, t, h0, g0, ?_⟩
  show Z.vm.assignableAux (255 + 1) c t = false
  simp [Vm.assignableAux, ne, h2, g2, h5, g3, g5, Vm.isSubclass, n3]
end
end Jvm.OwnKit
namespace Jvm.OwnKit
open Sem ClassFile Op Lib Jvm.Stand Jvm.Free Jvm.LawKit Jvm.RoadKit
section
variable {p : Program} {l : Launch} {e : Env} {R : Room} {s : State} {m : MethodId} {args : Array Value} {below : List Frame} {meth : Method} {c : Code} {T : State} {locs : List Loc} {cells slots : Nat} {Z : State} {a0 : Array Value} {h : Heap}
theorem rng_getD (f : Nat → Value) (n k : Nat) (d : Value) (hk : k < n) : ((List.range n).map f).getD k d = f k := by
  rw [List.getD_eq_getElem?_getD]
  simp [hk]
theorem Afn.arv {a : Addr} {ty : FieldType} {n : Int32} {f : Nat → Value} (F : Afn Z h a ty n f) : ∃ k, Arv Z h a k ty n ((List.range n.toNatClampNeg).map f) (.int 0) := by
  obtain ⟨c, A, s, m, r⟩ := F
  refine ⟨_, c, A, rfl, s, m, fun i hi => ?_, fun i hi => ?_⟩
  · rw [rng_getD _ _ _ _ (by rw [← s]; exact hi)]; exact (r i (by rw [← s]; exact hi)).1
  · rw [rng_getD _ _ _ _ (by rw [← s]; exact hi)]; exact (r i (by rw [← s]; exact hi)).2
theorem cp_get (f g : Nat → Value) (z z' sp dp nn k : Nat) (d : Value) (h4 : sp + nn ≤ z) (h5 : dp + nn ≤ z') (hk : k < z') :
    (((List.range z').map g).take dp ++ ((List.range nn).map fun i => ((List.range z).map f).getD (sp + i) d) ++ ((List.range z').map g).drop (dp + nn)).getD k d = if dp ≤ k ∧ k < dp + nn then f (sp + (k - dp)) else g k := by
  have e : ((List.range nn).map fun i => ((List.range z).map f).getD (sp + i) d) = (List.range nn).map fun i => f (sp + i) := by
    apply List.map_congr_left
    intro i hi
    rw [List.mem_range] at hi
    exact rng_getD _ _ _ _ (by omega)
  rw [e, List.getD_eq_getElem?_getD, List.append_assoc, List.getElem?_append]
  simp only [List.length_take, List.length_map, List.length_range]
  have m1 : min dp z' = dp := by omega
  rw [m1]
  by_cases h1 : k < dp
  · rw [if_pos h1, if_neg (by omega), List.getElem?_take]
    simp [h1, hk]
  · rw [if_neg h1, List.getElem?_append]
    simp only [List.length_map, List.length_range]
    by_cases h2 : k - dp < nn
    · rw [if_pos h2, if_pos (by omega)]
      simp [h2]
    · rw [if_neg h2, if_neg (by omega), List.getElem?_drop]
      have : dp + nn + (k - dp - nn) = k := by omega
      rw [this]
      simp [hk]
/-- System.arraycopy over functions -/
theorem cpF (X : Stand p l e R s m args below meth c T locs cells slots) (hx : p.tables.exec = Jvm.exec) (hZ : Z.Warmed39 s.vm) {own : String} {index : Nat} (hown : s.vm.findClass own = some m.cls)
    (w1 : (Cond.methodLink own index Jvm.Stand.acN).before a0 Z = true) (w2 : (Cond.native Jvm.Stand.acN).before a0 Z = true) (w3 : (Cond.static Jvm.Stand.acN).before a0 Z = true) (w4 : (Cond.initialized "java/lang/System").before a0 Z = true) (eT : T.heap = h)
    {a b : Addr} {ty : FieldType} {z z' sp dp nn : Int32} {f f' : Nat → Value} (A : Afn Z h a ty z f) (B : Afn Z h b ty z' f') (hty : refKind ty = false)
    (h1 : ¬ sp < 0) (h2 : ¬ dp < 0) (h3 : ¬ nn < 0) (h4 : sp.toNatClampNeg + nn.toNatClampNeg ≤ z.toNatClampNeg) (h5 : dp.toNatClampNeg + nn.toNatClampNeg ≤ z'.toNatClampNeg) {n0 : Nat} (N : Fr n0 locs) (ge : n0 ≤ b)
    {g : JFrame} (hg : g.method = m) (hsize : g.locals.size = c.maxLocals) {rest : List Value} (hs : g.stack = .int nn :: .int dp :: .ref b :: .int sp :: .ref a :: rest) (hd : decode c.code g.pc = .ok (.invokestatic index, 3))
    (hf : 1 ≤ R.frames) {W : Nat} (hW : 2 * g.monitorRoom + (rest.map fun v => v.category).sum ≤ W) (hlo : W + (nativeFrameWords "java/lang/System" "arraycopy" 5 + 11) ≤ R.locals) :
    ∃ T' h' L, Stand p l e R s m args below meth c T' L cells slots ∧ T'.heap = h' ∧ Fr n0 L ∧ Keep h h' [b] ∧ Afn Z h' b ty z' (fun k => if dp.toNatClampNeg ≤ k ∧ k < dp.toNatClampNeg + nn.toNatClampNeg then f (sp.toNatClampNeg + (k - dp.toNatClampNeg)) else f' k) ∧
      ∀ target, Steps p.tables e below (T'.setTop { g with pc := g.pc + 3, stack := rest }) target → Steps p.tables e below (T.setTop g) target := by
  obtain ⟨ka, Aa⟩ := A.arv
  obtain ⟨kb, Ab⟩ := B.arv
  obtain ⟨T', h', L, X', e', N', K', V', st⟩ := cpA X hx hZ hown w1 w2 w3 w4 eT Aa Ab (Or.inl ⟨rfl, hty⟩) h1 h2 h3 h4 h5 rfl (by simpa using h5) N ge hg hsize hs hd hf hW hlo
  exact ⟨T', h', L, X', e', N', K', (Afn.of_arv V').congr (fun k hk => cp_get f f' _ _ _ _ _ k _ h4 h5 hk), st⟩
end
end Jvm.OwnKit
namespace Jvm.OwnKit
open Sem ClassFile Op Lib Jvm.Stand Jvm.Free Jvm.LawKit Jvm.RoadKit
section
variable {p : Program} {l : Launch} {e : Env} {R : Room} {s : State} {m : MethodId} {args : Array Value} {below : List Frame} {meth : Method} {c : Code} {T : State} {locs : List Loc} {cells slots : Nat} {Z : State} {a0 : Array Value} {h : Heap}
/-- clone of an array over a function -/
theorem cloneF (X : Stand p l e R s m args below meth c T locs cells slots) (hx : p.tables.exec = Jvm.exec) (hZ : Z.Warmed39 s.vm) {own ad : String} {index : Nat} (hown : s.vm.findClass own = some m.cls)
    (w1 : (Cond.methodLink own index ⟨ad, "clone", "()Ljava/lang/Object;"⟩).before a0 Z = true) (w2 : (Cond.sameMethod ad "java/lang/Object" "clone" "()Ljava/lang/Object;").before a0 Z = true) (w3 : (Cond.native ⟨"java/lang/Object", "clone", "()Ljava/lang/Object;"⟩).before a0 Z = true)
    (w4 : (Cond.instanceMethod ⟨"java/lang/Object", "clone", "()Ljava/lang/Object;"⟩).before a0 Z = true) (w5 : (Cond.selects ad ⟨ad, "clone", "()Ljava/lang/Object;"⟩ ⟨"java/lang/Object", "clone", "()Ljava/lang/Object;"⟩).before a0 Z = true) (w6 : (Cond.castable ad "java/lang/Cloneable").before a0 Z = true)
    (eT : T.heap = h) {a : Addr} {ty : FieldType} {n : Int32} {f : Nat → Value} (F : Afn Z h a ty n f) (E : Exa Z h a ad) {g : JFrame} (hg : g.method = m) (hsize : g.locals.size = c.maxLocals) {rest : List Value} (hs : g.stack = .ref a :: rest) (hd : decode c.code g.pc = .ok (.invokevirtual index, 3))
    (hf : 1 ≤ R.frames) {W cap : Nat} (hW : 2 * g.monitorRoom + (rest.map fun v => v.category).sum ≤ W) (hl : W + 14 ≤ R.locals) (hcap : n.toNatClampNeg ≤ cap) (hc : cells + 1 ≤ R.cells) (hsl : slots + cap ≤ R.slots) :
    ∃ T' h', Stand p l e R s m args below meth c T' locs (cells + 1) (slots + cap) ∧ T'.heap = h' ∧ Ext h h' ∧ Afn Z h' h.size ty n f ∧ Exa Z h' h.size ad ∧
      ∀ target, Steps p.tables e below (T'.setTop { g with pc := g.pc + 3, stack := .ref h.size :: rest }) target → Steps p.tables e below (T.setTop g) target := by
  obtain ⟨cl, A, S, mm, r⟩ := F
  have FC : FitC Z cl := fitC_of A fun i hi v hv => by
    have q := r i (by rw [← S]; exact hi)
    rw [q.1] at hv; cases hv; exact q.2
  obtain ⟨T', h', X', e', ex, A', E', st⟩ := cloneA X hx hZ hown w1 w2 w3 w4 w5 w6 eT A E FC hg hsize hs hd hf hW hl (by rw [S]; exact hcap) hc hsl
  exact ⟨T', h', X', e', ex, ⟨cloneOf cl, A', S, mm, r⟩, E', st⟩
end
end Jvm.OwnKit
namespace Jvm.OwnKit
open Sem ClassFile Op Lib Jvm.Stand Jvm.Free Jvm.LawKit Jvm.RoadKit
/-- the invocation of s has returned, perhaps with new entries in the intern table; what the tables book for EL says its text -/
def FineW (Z : State) (EL : List (String × Nat)) (s : State) (below : List Frame) (Q : Option Value → Heap → List Loc → Prop) (kc ks : Nat) (t : State) : Prop := ∃ o, t.status = .running ∧ Ended t below o ∧ ∃ v L, o = .returned v ∧ Q v t.heap L ∧ CHr Z EL s.vm s.heap t.vm t.heap ∧ ReturnedEndW s o t L kc ks
/-- a contract of a method that may load String constants for the first time -/
def ConH (l : Launch) (Z : State) (EL : List (String × Nat)) (y : MethodName) (bytes : ByteArray) (maxL : Nat) (ret : Option FieldType) (ws : List Jvm.Cond) (rm : Room) (as : Array Value) (h0 : Heap) (Q : Option Value → Heap → List Loc → Prop) : Prop :=
  MetFree l y (head1 (Jvm.Cond.code y bytes maxL ret :: ws) rm) (fun a U => a = as ∧ Z.Warmed39 U.vm ∧ U.heap = h0 ∧ CHv Z EL U.vm h0) (fun _ _ _ _ _ => True) (fun _ U o U' => ∃ v L, o = .returned v ∧ Q v U'.heap L ∧ CHr Z EL U.vm U.heap U'.vm U'.heap ∧ ReturnedEndW U o U' L rm.cells rm.slots)
theorem ConH.of {l : Launch} {Z : State} {EL : List (String × Nat)} {y : MethodName} {bytes : ByteArray} {maxL : Nat} {ret : Option FieldType} {ws : List Jvm.Cond} {rm : Room} {as : Array Value} {h0 : Heap} {Q : Option Value → Heap → List Loc → Prop} (hpl : plainFor y = true)
    (body : ∀ (p : Program) (e : Env) (s : State) (m : MethodId) (below : List Frame) (meth : Method) (c : Code) (s₁ : State) (vm0 : Vm) (k0 : Nat), Z.Warmed39 vm0 → s₁.heap = h0 → Stand p l e rm (s.setVm vm0) m as below meth c s₁ [] 0 0 → p.tables.exec = Jvm.exec → c.code = bytes → c.maxLocals = maxL → vm0.findClass y.cls = some m.cls → meth.name = y.name → meth.sig.returnType = ret → meth.locks = false →
      s.Since vm0 k0 → k0 ≤ h0.size → CHv Z EL vm0 h0 → CHr Z EL s.vm s.heap vm0 h0 → Go p.tables e below (FineW Z EL s below Q rm.cells rm.slots) (s₁.setTop (entryFrame m as maxL))) : ConH l Z EL y bytes maxL ret ws rm as h0 Q := by
  refine MetFree.of_bodySF hpl hisR ?_
  intro p e s m args below meth c s₁ Bd hml hP hK
  obtain ⟨rfl, hZ, hh, hCH⟩ := hP
  have e0 : s₁.heap = h0 := by rw [← hh, Bd.state]; rfl
  have X0 : Stand p l e rm (s.setVm s.vm) m args below meth c s₁ [] 0 0 := by rw [State.setVm_self]; exact Stand.of_body Bd
  obtain ⟨t, h1, o, h2, h3, h4⟩ := body p e s m below meth c s₁ s.vm h0.size hZ e0 X0 Bd.exec Bd.bytes hml (findClass_of_methodNamed Bd.named) (name_of_methodNamed Bd.named Bd.method).1 Bd.returns Bd.notSynchronized ((State.WarmedH.refl s).since _) (Nat.le_refl _) hCH (by rw [hh]; exact CHr.refl hCH)
  exact ⟨t, o, h1, h2, h3, h4⟩
section
variable {p : Program} {l : Launch} {e : Env} {R : Room} {s : State} {m : MethodId} {args : Array Value} {below : List Frame} {meth : Method} {c : Code} {T : State} {locs : List Loc} {cells slots : Nat} {Z : State} {a0 : Array Value} {h : Heap} {vm0 : Vm} {k0 : Nat} {EL : List (String × Nat)}
theorem finW {Q : Option Value → Heap → List Loc → Prop} {kc ks : Nat} {v : Option Value} {S : State} (X : Stand p l e R (s.setVm vm0) m args below meth c T locs cells slots) (hZ : Z.Warmed39 vm0) (hS : s.Since vm0 k0) (eT : T.heap = h) (hk : k0 ≤ h.size) (hEL : EW Z a0 EL) (CH : CHv Z EL vm0 h) (CR : CHr Z EL s.vm s.heap vm0 h)
    (hv : meth.sig.returnType = none → v = none) (hlk : meth.locks = false) (hq : Q v T.heap locs) (hc : cells ≤ kc) (hs : slots ≤ ks)
    (st : ∀ fs, (∀ (f : JFrame) (acts : List Action), f.method = m → f.locked = none → f.entered = [] → (doReturn e (T.setTop f) acts v).1 = T.setFrames fs) → Steps p.tables e below S (T.setFrames fs)) : Go p.tables e below (FineW Z EL s below Q kc ks) S := by
  obtain ⟨fs, hr, hrun, hended, hRE⟩ := X.leaveW hS (by rw [eT]; exact hk) hv hlk
  refine ⟨_, st fs hr, _, hrun, hended, v, locs, rfl, hq, ?_, hRE.1, hRE.2.1, hRE.2.2.1, hRE.2.2.2.mono hc hs⟩
  have q := CR.trans (CHv.at X hZ hEL CH)
  rw [← eT] at q
  exact q
theorem endWW {Q : Option Value → Heap → List Loc → Prop} {kc ks : Nat} (X : Stand p l e R (s.setVm vm0) m args below meth c T locs cells slots) (hx : p.tables.exec = Jvm.exec) (hlk : meth.locks = false) (hZ : Z.Warmed39 vm0) (hS : s.Since vm0 k0) (eT : T.heap = h) (hk : k0 ≤ h.size) (hEL : EW Z a0 EL) (CH : CHv Z EL vm0 h) (CR : CHr Z EL s.vm s.heap vm0 h) {pc : Nat} {Ls : Array Slot} {w : Value} {t : FieldType} {i : Instr} {rest : List Value} (hret : meth.sig.returnType = some t) (hn : narrow t w = w)
    (hi : (i = .ireturn ∧ (t = .int ∨ t = .boolean ∨ t = .byte ∨ t = .char ∨ t = .short) ∧ ∃ z, w = .int z) ∨ (i = .lreturn ∧ t = .long ∧ ∃ z, w = .long z) ∨ (i = .dreturn ∧ t = .double ∧ ∃ z, w = .double z) ∨ (i = .freturn ∧ t = .float ∧ ∃ z, w = .float z) ∨ (i = .areturn ∧ t.isReference = true ∧ w.isRef = true))
    (hd : decode c.code pc = .ok (i, 1)) (hq : Q (some w) T.heap locs) (hc : cells ≤ kc) (hs : slots ≤ ks) : Go p.tables e below (FineW Z EL s below Q kc ks) (T.setTop (mkF m pc Ls (w :: rest))) :=
  finW X hZ hS eT hk hEL CH CR (fun h => by rw [hret] at h; cases h) hlk hq hc hs fun fs hr => retOut X hx hret hn hi hd hr
theorem endIW {Q : Option Value → Heap → List Loc → Prop} {kc ks : Nat} (X : Stand p l e R (s.setVm vm0) m args below meth c T locs cells slots) (hx : p.tables.exec = Jvm.exec) (hlk : meth.locks = false) (hZ : Z.Warmed39 vm0) (hS : s.Since vm0 k0) (eT : T.heap = h) (hk : k0 ≤ h.size) (hEL : EW Z a0 EL) (CH : CHv Z EL vm0 h) (CR : CHr Z EL s.vm s.heap vm0 h) {pc : Nat} {Ls : Array Slot} {z : Int32} {rest : List Value} (hret : meth.sig.returnType = some .int)
    (hd : decode c.code pc = .ok (.ireturn, 1)) (hq : Q (some (.int z)) T.heap locs) (hc : cells ≤ kc) (hs : slots ≤ ks) : Go p.tables e below (FineW Z EL s below Q kc ks) (T.setTop (mkF m pc Ls (.int z :: rest))) :=
  endWW X hx hlk hZ hS eT hk hEL CH CR hret rfl (Or.inl ⟨rfl, Or.inl rfl, z, rfl⟩) hd hq hc hs
theorem endRW {Q : Option Value → Heap → List Loc → Prop} {kc ks : Nat} (X : Stand p l e R (s.setVm vm0) m args below meth c T locs cells slots) (hx : p.tables.exec = Jvm.exec) (hlk : meth.locks = false) (hZ : Z.Warmed39 vm0) (hS : s.Since vm0 k0) (eT : T.heap = h) (hk : k0 ≤ h.size) (hEL : EW Z a0 EL) (CH : CHv Z EL vm0 h) (CR : CHr Z EL s.vm s.heap vm0 h) {pc : Nat} {Ls : Array Slot} {w : Value} {t : FieldType} {rest : List Value} (hret : meth.sig.returnType = some t) (ht : t.isReference = true) (hw : w.isRef = true)
    (hd : decode c.code pc = .ok (.areturn, 1)) (hq : Q (some w) T.heap locs) (hc : cells ≤ kc) (hs : slots ≤ ks) : Go p.tables e below (FineW Z EL s below Q kc ks) (T.setTop (mkF m pc Ls (w :: rest))) :=
  endWW X hx hlk hZ hS eT hk hEL CH CR hret (by cases w <;> first | rfl | (cases t <;> first | rfl | cases ht) | cases hw) (Or.inr (Or.inr (Or.inr (Or.inr ⟨rfl, ht, hw⟩)))) hd hq hc hs
theorem endNW {Q : Option Value → Heap → List Loc → Prop} {kc ks : Nat} (X : Stand p l e R (s.setVm vm0) m args below meth c T locs cells slots) (hx : p.tables.exec = Jvm.exec) (hlk : meth.locks = false) (hZ : Z.Warmed39 vm0) (hS : s.Since vm0 k0) (eT : T.heap = h) (hk : k0 ≤ h.size) (hEL : EW Z a0 EL) (CH : CHv Z EL vm0 h) (CR : CHr Z EL s.vm s.heap vm0 h) {pc : Nat} {Ls : Array Slot} {z w : Int32} {t : FieldType} {rest : List Value} (hret : meth.sig.returnType = some t) (ht : t = .boolean ∨ t = .byte ∨ t = .char ∨ t = .short)
    (hd : decode c.code pc = .ok (.ireturn, 1)) (hz : nar t z = w) (hq : Q (some (.int w)) T.heap locs) (hc : cells ≤ kc) (hs : slots ≤ ks) : Go p.tables e below (FineW Z EL s below Q kc ks) (T.setTop (mkF m pc Ls (.int z :: rest))) := by
  subst hz
  exact finW X hZ hS eT hk hEL CH CR (fun h => by rw [hret] at h; cases h) hlk hq hc hs fun fs hr => retN X hx hret ht hd hr
theorem endVW {Q : Option Value → Heap → List Loc → Prop} {kc ks : Nat} (X : Stand p l e R (s.setVm vm0) m args below meth c T locs cells slots) (hx : p.tables.exec = Jvm.exec) (hlk : meth.locks = false) (hZ : Z.Warmed39 vm0) (hS : s.Since vm0 k0) (eT : T.heap = h) (hk : k0 ≤ h.size) (hEL : EW Z a0 EL) (CH : CHv Z EL vm0 h) (CR : CHr Z EL s.vm s.heap vm0 h) {pc : Nat} {Ls : Array Slot} (hret : meth.sig.returnType = none)
    (hd : decode c.code pc = .ok (.return_, 1)) (hq : Q none T.heap locs) (hc : cells ≤ kc) (hs : slots ≤ ks) : Go p.tables e below (FineW Z EL s below Q kc ks) (T.setTop (mkF m pc Ls [])) :=
  finW X hZ hS eT hk hEL CH CR (fun _ => rfl) hlk hq hc hs fun fs hr => X.returnOut hx hret hd hr
theorem callStW (X : Stand p l e R (s.setVm vm0) m args below meth c T locs cells slots) (hx : p.tables.exec = Jvm.exec) (hZ : Z.Warmed39 vm0) {own : String} {index : Nat} {y : MethodName} {bytes : ByteArray} {maxL : Nat} {ret : Option FieldType} {rm : Room} {Q : Option Value → Heap → List Loc → Prop} {argsL rest : List Value}
    (hown : vm0.findClass own = some m.cls) (w1 : (Cond.methodLink own index y).before a0 Z = true) (w2 : (Cond.static y).before a0 Z = true) (w3 : (Cond.initialized y.cls).before a0 Z = true) (w4 : (Cond.code y bytes maxL ret).before a0 Z = true) (hy : y.cls ≠ "java/lang/invoke/MethodHandle" ∧ y.cls ≠ "java/lang/invoke/VarHandle")
    (hM : ConH l Z EL y bytes maxL ret [] rm argsL.toArray h Q) (eT : T.heap = h) (hEL : EW Z a0 EL) (CH : CHv Z EL vm0 h) (hS : s.Since vm0 k0) (hk : k0 ≤ h.size) (W : Nat) (hf : rm.frames + 1 ≤ R.frames) (hl : W + (maxL + 11) + rm.locals ≤ R.locals) (hcc : cells + rm.cells ≤ R.cells) (hss : slots + rm.slots ≤ R.slots)
    {g : JFrame} (hg : g.method = m) (hsize : g.locals.size = c.maxLocals) (hlen : ∀ sig, parseMethodDescriptor y.desc = some sig → argsL.length = sig.parameters.length)
    (hstack : g.stack = argsL.reverse ++ rest) (hW : 2 * g.monitorRoom + (rest.map fun v => v.category).sum ≤ W) (hd : decode c.code g.pc = .ok (.invokestatic index, 3)) :
    ∃ v T' L, Stand p l e R (s.setVm T'.vm) m args below meth c T' (locs ++ L) (cells + rm.cells) (slots + rm.slots) ∧ Q v T'.heap L ∧ CHr Z EL vm0 h T'.vm T'.heap ∧ s.Since T'.vm T'.heap.size ∧ Z.Warmed39 T'.vm ∧ T'.vm.findClass own = some m.cls ∧ ∀ target, Steps p.tables e below (T'.setTop { g with pc := g.pc + 3, stack := v.toList ++ rest }) target → Steps p.tables e below (T.setTop g) target := by
  obtain ⟨v, vm1, ⟨T', L', k', n'⟩, -, X', hS2, hgr, ⟨L, hQ, l1, l2, l3, hC⟩, st⟩ := callSS X hx hown (mvT (s := s.setVm vm0) hZ w1) (mvT (s := s.setVm vm0) hZ w2) (mvT (s := s.setVm vm0) hZ w3) (mvT (s := s.setVm vm0) hZ w4) hy (backOfSH (Q := Q) (W := W) hM hZ w4 w3 hf hl hEL CH) hg hsize hlen hstack hW hd (fun _ _ => ⟨rfl, eT, hcc, hss⟩)
  (try dsimp only at X' l1 l2 l3 st hQ hC hS2 hgr)
  subst l1 l2 l3
  obtain ⟨Y, hS3, hZ3, hown3⟩ := rebS hS (n1 := T.heap.size) (by rw [eT]; exact hk) X' hS2 hgr hZ hown
  exact ⟨v, T', L, Y, hQ, hC, hS3, hZ3, hown3, fun target k => st.trans k⟩
theorem callInW (X : Stand p l e R (s.setVm vm0) m args below meth c T locs cells slots) (hx : p.tables.exec = Jvm.exec) (hZ : Z.Warmed39 vm0) {own : String} {index : Nat} {y : MethodName} {bytes : ByteArray} {maxL : Nat} {rm : Room} {Q : Option Value → Heap → List Loc → Prop} {a : Addr} {argsL rest : List Value} (hy1 : y.name = "<init>")
    (hown : vm0.findClass own = some m.cls) (w1 : (Cond.methodLink own index y).before a0 Z = true) (w2 : (Cond.instanceMethod y).before a0 Z = true) (w3 : (Cond.initialized y.cls).before a0 Z = true) (w4 : (Cond.code y bytes maxL none).before a0 Z = true) (hy : y.cls ≠ "java/lang/invoke/MethodHandle" ∧ y.cls ≠ "java/lang/invoke/VarHandle")
    (hM : ConH l Z EL y bytes maxL none [] rm (.ref a :: argsL).toArray h Q) (eT : T.heap = h) (hEL : EW Z a0 EL) (CH : CHv Z EL vm0 h) (hS : s.Since vm0 k0) (hk : k0 ≤ h.size) (W : Nat) (hf : rm.frames + 1 ≤ R.frames) (hl : W + (maxL + 11) + rm.locals ≤ R.locals) (hcc : cells + rm.cells ≤ R.cells) (hss : slots + rm.slots ≤ R.slots)
    {g : JFrame} (hg : g.method = m) (hsize : g.locals.size = c.maxLocals) (hlen : ∀ sig, parseMethodDescriptor y.desc = some sig → argsL.length = sig.parameters.length)
    (hstack : g.stack = argsL.reverse ++ .ref a :: rest) (hW : 2 * g.monitorRoom + (rest.map fun v => v.category).sum ≤ W) (hd : decode c.code g.pc = .ok (.invokespecial index, 3)) :
    ∃ v T' L, Stand p l e R (s.setVm T'.vm) m args below meth c T' (locs ++ L) (cells + rm.cells) (slots + rm.slots) ∧ Q v T'.heap L ∧ CHr Z EL vm0 h T'.vm T'.heap ∧ s.Since T'.vm T'.heap.size ∧ Z.Warmed39 T'.vm ∧ T'.vm.findClass own = some m.cls ∧ ∀ target, Steps p.tables e below (T'.setTop { g with pc := g.pc + 3, stack := v.toList ++ rest }) target → Steps p.tables e below (T.setTop g) target := by
  obtain ⟨v, vm1, ⟨T', L', k', n'⟩, -, X', hS2, hgr, ⟨L, hQ, l1, l2, l3, hC⟩, st⟩ := X.specialBackS hx hy1 hown (mvT (s := s.setVm vm0) hZ w1) (mvT (s := s.setVm vm0) hZ w2) (mvT (s := s.setVm vm0) hZ w4) hy (backOfSH (Q := Q) (W := W) hM hZ w4 w3 hf hl hEL CH) hg hsize (Steps.refl _) hlen hstack hW hd (fun _ _ => ⟨rfl, eT, hcc, hss⟩)
  (try dsimp only at X' l1 l2 l3 st hQ hC hS2 hgr)
  subst l1 l2 l3
  obtain ⟨Y, hS3, hZ3, hown3⟩ := rebS hS (n1 := T.heap.size) (by rw [eT]; exact hk) X' hS2 hgr hZ hown
  exact ⟨v, T', L, Y, hQ, hC, hS3, hZ3, hown3, fun target k => st.trans k⟩
theorem callViW (X : Stand p l e R (s.setVm vm0) m args below meth c T locs cells slots) (hx : p.tables.exec = Jvm.exec) (hZ : Z.Warmed39 vm0) {own C : String} {index : Nat} {y z : MethodName} {bytes : ByteArray} {maxL : Nat} {ret : Option FieldType} {rm : Room} {Q : Option Value → Heap → List Loc → Prop} {a : Addr} {argsL rest : List Value}
    (hown : vm0.findClass own = some m.cls) (w1 : (Cond.methodLink own index y).before a0 Z = true) (w2 : (Cond.declares y).before a0 Z = true) (nf : NotFace (s.setVm vm0) y) (w3 : (Cond.selects C y z).before a0 Z = true) (w4 : (Cond.instanceMethod z).before a0 Z = true) (w5 : (Cond.initialized z.cls).before a0 Z = true) (w6 : (Cond.code z bytes maxL ret).before a0 Z = true) (hy : y.cls ≠ "java/lang/invoke/MethodHandle" ∧ y.cls ≠ "java/lang/invoke/VarHandle")
    (hyz : z.desc = y.desc) (E : Exa Z h a C) (hM : ConH l Z EL z bytes maxL ret [] rm (.ref a :: argsL).toArray h Q) (eT : T.heap = h) (hEL : EW Z a0 EL) (CH : CHv Z EL vm0 h) (hS : s.Since vm0 k0) (hk : k0 ≤ h.size) (W : Nat) (hf : rm.frames + 1 ≤ R.frames) (hl : W + (maxL + 11) + rm.locals ≤ R.locals) (hcc : cells + rm.cells ≤ R.cells) (hss : slots + rm.slots ≤ R.slots)
    {g : JFrame} (hg : g.method = m) (hsize : g.locals.size = c.maxLocals) (hlen : ∀ sig, parseMethodDescriptor y.desc = some sig → argsL.length = sig.parameters.length)
    (hstack : g.stack = argsL.reverse ++ .ref a :: rest) (hW : 2 * g.monitorRoom + (rest.map fun v => v.category).sum ≤ W) (hd : decode c.code g.pc = .ok (.invokevirtual index, 3)) :
    ∃ v T' L, Stand p l e R (s.setVm T'.vm) m args below meth c T' (locs ++ L) (cells + rm.cells) (slots + rm.slots) ∧ Q v T'.heap L ∧ CHr Z EL vm0 h T'.vm T'.heap ∧ s.Since T'.vm T'.heap.size ∧ Z.Warmed39 T'.vm ∧ T'.vm.findClass own = some m.cls ∧ ∀ target, Steps p.tables e below (T'.setTop { g with pc := g.pc + 3, stack := v.toList ++ rest }) target → Steps p.tables e below (T.setTop g) target := by
  obtain ⟨cq, kq, qa, qb, qc⟩ := isOf (s := s.setVm vm0) hZ eT E
  obtain ⟨v, vm1, ⟨T', L', k', n'⟩, -, X', hS2, hgr, ⟨L, hQ, l1, l2, l3, hC⟩, st⟩ := X.virtualBackS hx (y := y) (z := z) hown (mvT (s := s.setVm vm0) hZ w1) (mvT (s := s.setVm vm0) hZ w2) nf (mvT (s := s.setVm vm0) hZ w3) (mvT (s := s.setVm vm0) hZ w4) hy (backOfSH (Q := Q) (W := W) hM hZ w6 w5 hf hl hEL CH) qa qc hg hsize (Steps.refl _) hlen hstack hW hd (fun _ _ => ⟨rfl, eT, hcc, hss⟩)
  (try dsimp only at X' l1 l2 l3 st hQ hC hS2 hgr)
  subst l1 l2 l3
  obtain ⟨Y, hS3, hZ3, hown3⟩ := rebS hS (n1 := T.heap.size) (by rw [eT]; exact hk) X' hS2 hgr hZ hown
  exact ⟨v, T', L, Y, hQ, hC, hS3, hZ3, hown3, fun target k => st.trans k⟩
end
end Jvm.OwnKit
namespace Jvm.Pilot.@@N@@
open Jvm Jvm.ClassFile Sem Op Lib Jvm.Free Jvm.Stand Jvm.LawKit Jvm.RoadKit Jvm.OwnKit Bundle Jvm.Pilot.@@N@@.Jvm.D
theorem own_nar (x : Int32) (h : 0 ≤ x.toInt ∧ x.toInt ≤ 255) : nar .char x = x := by
  have q := c_i2c x
  apply Int32.toInt_inj.mp
  show (x.toUInt32.toUInt16.toUInt32.toInt32).toInt = x.toInt
  omega
theorem own_ch (z v : Int32) (h : ((z &&& (255 : Int32)).toUInt32.toUInt16.toUInt32.toInt32) = v) : ¬ v < (0 : Int32) ∧ ¬ (255 : Int32) < v ∧ nar .char v = v := by
  have q := c_and z 255 (by decide)
  have e0 : (0 : Int32).toInt = 0 := rfl
  have e5 : (255 : Int32).toInt = 255 := rfl
  have r := c_i2c (z &&& 255)
  rw [h] at r
  have e : 0 ≤ v.toInt ∧ v.toInt ≤ 255 := by omega
  refine ⟨?_, ?_, own_nar _ e⟩ <;> rw [Int32.lt_iff_toInt_lt] <;> omega
def csL (l : List Int32) (k : Nat) : Int32 := l.getD k 0
theorem own_csb (l : List Int32) (h : ∀ x ∈ l, ¬ x < (0 : Int32) ∧ ¬ (255 : Int32) < x) (k : Nat) : ¬ csL l k < (0 : Int32) ∧ ¬ (255 : Int32) < csL l k := by
  unfold csL
  rw [List.getD_eq_getElem?_getD]
  by_cases z : k < l.length
  · rw [List.getElem?_eq_getElem z]
    exact h _ (List.getElem_mem z)
  · rw [List.getElem?_eq_none (Nat.le_of_not_lt z)]
    decide
theorem own_cs5 (x0 x1 x2 x3 x4 : Int32) (h0 : nar .char x0 = x0) (h1 : nar .char x1 = x1) (h2 : nar .char x2 = x2) (h3 : nar .char x3 = x3) (h4 : nar .char x4 = x4) (k : Nat) (hk : k < (5 : Int32).toNatClampNeg) : (if k = (4 : Int32).toNatClampNeg then Value.int (nar .char x4) else (if k = (3 : Int32).toNatClampNeg then Value.int (nar .char x3) else (if k = (2 : Int32).toNatClampNeg then Value.int (nar .char x2) else (if k = (1 : Int32).toNatClampNeg then Value.int (nar .char x1) else (if k = (0 : Int32).toNatClampNeg then Value.int (nar .char x0) else Value.int (0 : Int32)))))) = Value.int (csL [x0, x1, x2, x3, x4] k) := by
  have e0 : (0 : Int32).toNatClampNeg = 0 := rfl
  have e1 : (1 : Int32).toNatClampNeg = 1 := rfl
  have e2 : (2 : Int32).toNatClampNeg = 2 := rfl
  have e3 : (3 : Int32).toNatClampNeg = 3 := rfl
  have e4 : (4 : Int32).toNatClampNeg = 4 := rfl
  have e : (5 : Int32).toNatClampNeg = 5 := rfl
  rw [e] at hk
  have q : k = 0 ∨ k = 1 ∨ k = 2 ∨ k = 3 ∨ k = 4 := by omega
  rcases q with rfl | rfl | rfl | rfl | rfl <;> simp [csL, e0, e1, e2, e3, e4, h0, h1, h2, h3, h4]
theorem own_cs4 (x0 x1 x2 x3 : Int32) (h0 : nar .char x0 = x0) (h1 : nar .char x1 = x1) (h2 : nar .char x2 = x2) (h3 : nar .char x3 = x3) (k : Nat) (hk : k < (4 : Int32).toNatClampNeg) : (if k = (3 : Int32).toNatClampNeg then Value.int (nar .char x3) else (if k = (2 : Int32).toNatClampNeg then Value.int (nar .char x2) else (if k = (1 : Int32).toNatClampNeg then Value.int (nar .char x1) else (if k = (0 : Int32).toNatClampNeg then Value.int (nar .char x0) else Value.int (0 : Int32))))) = Value.int (csL [x0, x1, x2, x3] k) := by
  have e0 : (0 : Int32).toNatClampNeg = 0 := rfl
  have e1 : (1 : Int32).toNatClampNeg = 1 := rfl
  have e2 : (2 : Int32).toNatClampNeg = 2 := rfl
  have e3 : (3 : Int32).toNatClampNeg = 3 := rfl
  have e : (4 : Int32).toNatClampNeg = 4 := rfl
  rw [e] at hk
  have q : k = 0 ∨ k = 1 ∨ k = 2 ∨ k = 3 := by omega
  rcases q with rfl | rfl | rfl | rfl <;> simp [csL, e0, e1, e2, e3, h0, h1, h2, h3]
theorem own_cs3 (x0 x1 x2 : Int32) (h0 : nar .char x0 = x0) (h1 : nar .char x1 = x1) (h2 : nar .char x2 = x2) (k : Nat) (hk : k < (3 : Int32).toNatClampNeg) : (if k = (2 : Int32).toNatClampNeg then Value.int (nar .char x2) else (if k = (1 : Int32).toNatClampNeg then Value.int (nar .char x1) else (if k = (0 : Int32).toNatClampNeg then Value.int (nar .char x0) else Value.int (0 : Int32)))) = Value.int (csL [x0, x1, x2] k) := by
  have e0 : (0 : Int32).toNatClampNeg = 0 := rfl
  have e1 : (1 : Int32).toNatClampNeg = 1 := rfl
  have e2 : (2 : Int32).toNatClampNeg = 2 := rfl
  have e : (3 : Int32).toNatClampNeg = 3 := rfl
  rw [e] at hk
  have q : k = 0 ∨ k = 1 ∨ k = 2 := by omega
  rcases q with rfl | rfl | rfl <;> simp [csL, e0, e1, e2, h0, h1, h2]
theorem own_cs2 (x0 x1 : Int32) (h0 : nar .char x0 = x0) (h1 : nar .char x1 = x1) (k : Nat) (hk : k < (2 : Int32).toNatClampNeg) : (if k = (1 : Int32).toNatClampNeg then Value.int (nar .char x1) else (if k = (0 : Int32).toNatClampNeg then Value.int (nar .char x0) else Value.int (0 : Int32))) = Value.int (csL [x0, x1] k) := by
  have e0 : (0 : Int32).toNatClampNeg = 0 := rfl
  have e1 : (1 : Int32).toNatClampNeg = 1 := rfl
  have e : (2 : Int32).toNatClampNeg = 2 := rfl
  rw [e] at hk
  have q : k = 0 ∨ k = 1 := by omega
  rcases q with rfl | rfl <;> simp [csL, e0, e1, h0, h1]
theorem own_cs1 (x0 : Int32) (h0 : nar .char x0 = x0) (k : Nat) (hk : k < (1 : Int32).toNatClampNeg) : (if k = (0 : Int32).toNatClampNeg then Value.int (nar .char x0) else Value.int (0 : Int32)) = Value.int (csL [x0] k) := by
  have e0 : (0 : Int32).toNatClampNeg = 0 := rfl
  have e : (1 : Int32).toNatClampNeg = 1 := rfl
  rw [e] at hk
  have q : k = 0 := by omega
  rcases q with rfl <;> simp [csL, e0, h0]
theorem own_inc (n i : Int32) (h0 : ¬ i < (0 : Int32)) (h : i < n) : ¬ (i + (1 : Int32)) < (0 : Int32) ∧ ¬ n < (i + (1 : Int32)) ∧ (i + (1 : Int32)).toNatClampNeg = i.toNatClampNeg + 1 ∧ i.toNatClampNeg < n.toNatClampNeg := by
  have q := c_iadd i 1
  have r := rng32 (i + 1)
  have r2 := rng32 n
  have e1 : (1 : Int32).toInt = 1 := rfl
  have e0 : (0 : Int32).toInt = 0 := rfl
  simp only [Int32.lt_iff_toInt_lt, Int32.toNatClampNeg] at *
  omega
theorem own_b8 (x : Int32) : (x.toInt8.toInt32).toInt8.toInt32 = x.toInt8.toInt32 := by rw [Int8.toInt8_toInt32]
theorem own_lf (cf : Nat → Int32) (i : Int32) (k : Nat) : (if k = i.toNatClampNeg then Value.int (((cf i.toNatClampNeg).toInt8.toInt32).toInt8.toInt32) else Value.int (if k < i.toNatClampNeg then (cf k).toInt8.toInt32 else 0)) = Value.int (if k < i.toNatClampNeg + 1 then (cf k).toInt8.toInt32 else 0) := by
  by_cases z : k = i.toNatClampNeg
  · subst z
    simp [own_b8]
  · have q : (k < i.toNatClampNeg + 1) = (k < i.toNatClampNeg) := by simp only [eq_iff_iff]; omega
    simp [z, q]
theorem d19_0 : decode jdk_52_method_21_code 0 = .ok (.iconst 0, 1) := by decide +kernel
theorem d19_1 : decode jdk_52_method_21_code 1 = .ok (.istore 5, 2) := by decide +kernel
theorem d19_3 : decode jdk_52_method_21_code 3 = .ok (.iload 5, 2) := by decide +kernel
theorem d19_5 : decode jdk_52_method_21_code 5 = .ok (.iload 4, 2) := by decide +kernel
theorem d19_7 : decode jdk_52_method_21_code 7 = .ok (.if_icmp .ge 37, 3) := by decide +kernel
theorem d19_10 : decode jdk_52_method_21_code 10 = .ok (.aload_n 0, 1) := by decide +kernel
theorem d19_11 : decode jdk_52_method_21_code 11 = .ok (.iload_n 1, 1) := by decide +kernel
theorem d19_12 : decode jdk_52_method_21_code 12 = .ok (.caload, 1) := by decide +kernel
theorem d19_13 : decode jdk_52_method_21_code 13 = .ok (.istore 6, 2) := by decide +kernel
theorem d19_15 : decode jdk_52_method_21_code 15 = .ok (.iload 6, 2) := by decide +kernel
theorem d19_17 : decode jdk_52_method_21_code 17 = .ok (.sipush 255, 3) := by decide +kernel
theorem d19_20 : decode jdk_52_method_21_code 20 = .ok (.if_icmp .le 6, 3) := by decide +kernel
theorem d19_23 : decode jdk_52_method_21_code 23 = .ok (.iload 5, 2) := by decide +kernel
theorem d19_25 : decode jdk_52_method_21_code 25 = .ok (.ireturn, 1) := by decide +kernel
theorem d19_26 : decode jdk_52_method_21_code 26 = .ok (.aload_n 2, 1) := by decide +kernel
theorem d19_27 : decode jdk_52_method_21_code 27 = .ok (.iload_n 3, 1) := by decide +kernel
theorem d19_28 : decode jdk_52_method_21_code 28 = .ok (.iload 6, 2) := by decide +kernel
theorem d19_30 : decode jdk_52_method_21_code 30 = .ok (.i2b, 1) := by decide +kernel
theorem d19_31 : decode jdk_52_method_21_code 31 = .ok (.bastore, 1) := by decide +kernel
theorem d19_32 : decode jdk_52_method_21_code 32 = .ok (.iinc 1 1, 3) := by decide +kernel
theorem d19_35 : decode jdk_52_method_21_code 35 = .ok (.iinc 3 1, 3) := by decide +kernel
theorem d19_38 : decode jdk_52_method_21_code 38 = .ok (.iinc 5 1, 3) := by decide +kernel
theorem d19_41 : decode jdk_52_method_21_code 41 = .ok (.goto (-38), 3) := by decide +kernel
theorem d19_44 : decode jdk_52_method_21_code 44 = .ok (.iload 4, 2) := by decide +kernel
theorem d19_46 : decode jdk_52_method_21_code 46 = .ok (.ireturn, 1) := by decide +kernel
theorem pn_rm19 : plainName "java/lang/StringUTF16" = true := by first | (simp [plainName, overriddenIn]; done) | decide +kernel
theorem ef_rm19 (m : MethodId) (a1 : Addr) (a3 : Addr) (n : Int32) : entryFrame m #[(.ref a1), (.int (0 : Int32)), (.ref a3), (.int (0 : Int32)), (.int n)] 7 = mkF m 0 #[.val (.ref a1), .val (.int (0 : Int32)), .val (.ref a3), .val (.int (0 : Int32)), .val (.int n), .unset, .unset] [] := by first | (simp [entryFrame, mkF, argsToLocals, Value.category]; done) | rfl
def Q19 (Z : State) (a1 : Addr) (a3 : Addr) (n : Int32) (cf : Nat → Int32) (h0 : Heap) (n0 : Nat) (v : Option Value) (h : Heap) (L : List Loc) : Prop := v = some (.int n) ∧ Fr n0 L ∧ Keep h0 h [a3] ∧ Afn Z h a3 .byte n (fun k => .int ((cf k).toInt8.toInt32))
set_option maxRecDepth 65536 in
set_option maxHeartbeats 40000000 in
theorem rm19 (l : Launch) (Z : State) (a0 : Array Value) (hw : ∀ d ∈ tables_1, d.before a0 Z = true) (ws : List Jvm.Cond) (a1 : Addr) (a3 : Addr) (n : Int32) (cf : Nat → Int32) (h0 : Heap) (n0 : Nat) (Z0 : n0 ≤ h0.size) (V1 : Afn Z h0 a1 .char n (fun k => .int (cf k))) (V3 : Afn Z h0 a3 .byte n (fun _ => .int (0 : Int32))) (hcb : ∀ k, k < n.toNatClampNeg → ¬ cf k < (0 : Int32) ∧ ¬ (255 : Int32) < cf k) (hne : a1 ≠ a3) (g3 : n0 ≤ a3) :
    Con l Z (⟨"java/lang/StringUTF16", "compress", "([CI[BII)I"⟩ : MethodName) jdk_52_method_21_code 7 (some .int) ws ({ frames := 0, cells := 0, slots := 0, locals := 0 } : Room) #[(.ref a1), (.int (0 : Int32)), (.ref a3), (.int (0 : Int32)), (.int n)] h0 (Q19 Z a1 a3 n cf h0 n0) := by
  refine Con.of (plainFor_of_name pn_rm19) ?_
  intro p e s m below meth c s₁ hZ e0 X0 hx hby hml hown hnm hret hlk
  replace hml : c.maxLocals = 7 := hml
  have hown : s.vm.findClass "java/lang/StringUTF16" = some m.cls := hown
  have N0 : Fr n0 [] := Fr.nil n0
  obtain ⟨PP, hPP⟩ : ∃ P, P = Fine s below (Q19 Z a1 a3 n cf h0 n0) ({ frames := 0, cells := 0, slots := 0, locals := 0 } : Room).cells ({ frames := 0, cells := 0, slots := 0, locals := 0 } : Room).slots := ⟨_, rfl⟩
  rw [← hPP]
  refine Go.cast (ef_rm19 m a1 a3 n) ?_
  have K : Keep h0 h0 [a3] := Keep.refl h0 _
  have Zn : n0 ≤ h0.size := Z0
  show Go p.tables e below PP (s₁.setTop (mkF m 0 #[.val (.ref a1), .val (.int (0 : Int32)), .val (.ref a3), .val (.int (0 : Int32)), .val (.int n), .unset, .unset] []))
  refine Go.st (fun t k => XS.iconst X0.here hx rfl (hb hby d19_0) k) ?_
  show Go p.tables e below PP (s₁.setTop (mkF m 1 #[.val (.ref a1), .val (.int (0 : Int32)), .val (.ref a3), .val (.int (0 : Int32)), .val (.int n), .unset, .unset] [(.int (0 : Int32))]))
  refine Go.st (fun t k => XS.istore X0.here hx rfl (hb hby d19_1) rfl (l' := #[.val (.ref a1), .val (.int (0 : Int32)), .val (.ref a3), .val (.int (0 : Int32)), .val (.int n), .val (.int (0 : Int32)), .unset]) rfl k) ?_
  have J3 : ∀ (d1 : Nat) (T1 : State) (L1 : List Loc) (h1 : Heap) (i : Int32) (s6 : Slot), Stand p l e ({ frames := 0, cells := 0, slots := 0, locals := 0 } : Room) s m #[(.ref a1), (.int (0 : Int32)), (.ref a3), (.int (0 : Int32)), (.int n)] below meth c T1 L1 0 0 → T1.heap = h1 → Fr n0 L1 → Afn Z h1 a1 .char n (fun k => .int (cf k)) → Afn Z h1 a3 .byte n (fun k => .int (if k < i.toNatClampNeg then (cf k).toInt8.toInt32 else 0)) → Keep h0 h1 [a3] → n0 ≤ h1.size → (¬ i < (0 : Int32) ∧ ¬ n < i ∧ (s6 = .unset ∨ ∃ z, s6 = .val (.int z))) → n.toNatClampNeg - i.toNatClampNeg = d1 → Go p.tables e below PP (T1.setTop (mkF m 3 #[.val (.ref a1), .val (.int i), .val (.ref a3), .val (.int i), .val (.int n), .val (.int i), s6] [])) := by
    clear V1
    clear V3
    clear Zn K
    intro d1
    induction d1 using Nat.strongRecOn with
    | _ d1 ih1 =>
      intro T1 L1 h1 i s6 X1 e1 N1 V1 V3 K Zn hJ3 hd1
      show Go p.tables e below PP (T1.setTop (mkF m 3 #[.val (.ref a1), .val (.int i), .val (.ref a3), .val (.int i), .val (.int n), .val (.int i), s6] []))
      refine Go.st (fun t k => XS.iload X1.here hx rfl (hb hby d19_3) rfl k) ?_
      show Go p.tables e below PP (T1.setTop (mkF m 5 #[.val (.ref a1), .val (.int i), .val (.ref a3), .val (.int i), .val (.int n), .val (.int i), s6] [(.int i)]))
      refine Go.st (fun t k => XS.iload X1.here hx rfl (hb hby d19_5) rfl k) ?_
      show Go p.tables e below PP (T1.setTop (mkF m 7 #[.val (.ref a1), .val (.int i), .val (.ref a3), .val (.int i), .val (.int n), .val (.int i), s6] [(.int n), (.int i)]))
      by_cases hc7 : i < n
      · --
        refine Go.st (fun t k => XS.icmpNo X1.here hx rfl (hb hby d19_7) rfl (XT.ii_ge_f hc7) k) ?_
        show Go p.tables e below PP (T1.setTop (mkF m 10 #[.val (.ref a1), .val (.int i), .val (.ref a3), .val (.int i), .val (.int n), .val (.int i), s6] []))
        refine Go.st (fun t k => XS.aloadN X1.here hx rfl (hb hby d19_10) rfl rfl k) ?_
        show Go p.tables e below PP (T1.setTop (mkF m 11 #[.val (.ref a1), .val (.int i), .val (.ref a3), .val (.int i), .val (.int n), .val (.int i), s6] [(.ref a1)]))
        refine Go.st (fun t k => XS.iloadN X1.here hx rfl (hb hby d19_11) rfl k) ?_
        show Go p.tables e below PP (T1.setTop (mkF m 12 #[.val (.ref a1), .val (.int i), .val (.ref a3), .val (.int i), .val (.int n), .val (.int i), s6] [(.int i), (.ref a1)]))
        obtain ⟨cl2, Ar2, S2, Nn2, H2⟩ := id V1
        have hin2 : ¬ (i < 0 ∨ cl2.slots.size ≤ (i).toNatClampNeg) := inb_of S2 ⟨hJ3.1, hc7⟩
        refine Go.st (fun t k => X1.caload hx (j := i) (v := (.int (cf i.toNatClampNeg))) (by rw [e1]; exact Ar2.1) (State.isArrayOf_alike hZ.alike Ar2.2.1) Ar2.2.2 hin2 ((H2 _ (inbN ⟨hJ3.1, hc7⟩)).1.trans (congrArg some (rfl))) (g := (mkF m 12 #[.val (.ref a1), .val (.int i), .val (.ref a3), .val (.int i), .val (.int n), .val (.int i), s6] [(.int i), (.ref a1)])) rfl rfl (hb hby d19_12) _ k) ?_
        show Go p.tables e below PP (T1.setTop (mkF m 13 #[.val (.ref a1), .val (.int i), .val (.ref a3), .val (.int i), .val (.int n), .val (.int i), s6] [(.int (cf i.toNatClampNeg))]))
        refine Go.st (fun t k => XS.istore X1.here hx rfl (hb hby d19_13) rfl (l' := #[.val (.ref a1), .val (.int i), .val (.ref a3), .val (.int i), .val (.int n), .val (.int i), .val (.int (cf i.toNatClampNeg))]) (by rcases hJ3.2.2 with rfl | ⟨z, rfl⟩ <;> rfl) k) ?_
        show Go p.tables e below PP (T1.setTop (mkF m 15 #[.val (.ref a1), .val (.int i), .val (.ref a3), .val (.int i), .val (.int n), .val (.int i), .val (.int (cf i.toNatClampNeg))] []))
        refine Go.st (fun t k => XS.iload X1.here hx rfl (hb hby d19_15) rfl k) ?_
        show Go p.tables e below PP (T1.setTop (mkF m 17 #[.val (.ref a1), .val (.int i), .val (.ref a3), .val (.int i), .val (.int n), .val (.int i), .val (.int (cf i.toNatClampNeg))] [(.int (cf i.toNatClampNeg))]))
        refine Go.st (fun t k => XS.sipush X1.here hx rfl (hb hby d19_17) k) ?_
        show Go p.tables e below PP (T1.setTop (mkF m 20 #[.val (.ref a1), .val (.int i), .val (.ref a3), .val (.int i), .val (.int n), .val (.int i), .val (.int (cf i.toNatClampNeg))] [(.int (255 : Int32)), (.int (cf i.toNatClampNeg))]))
        refine Go.st (fun t k => XS.icmpYes X1.here hx rfl (pc0 := 20) (pc' := 26) rfl (hb hby d19_20) rfl (XT.ii_le_t (hcb _ (inbN ⟨hJ3.1, hc7⟩)).2) (by decide) (by decide) k) ?_
        show Go p.tables e below PP (T1.setTop (mkF m 26 #[.val (.ref a1), .val (.int i), .val (.ref a3), .val (.int i), .val (.int n), .val (.int i), .val (.int (cf i.toNatClampNeg))] []))
        refine Go.st (fun t k => XS.aloadN X1.here hx rfl (hb hby d19_26) rfl rfl k) ?_
        show Go p.tables e below PP (T1.setTop (mkF m 27 #[.val (.ref a1), .val (.int i), .val (.ref a3), .val (.int i), .val (.int n), .val (.int i), .val (.int (cf i.toNatClampNeg))] [(.ref a3)]))
        refine Go.st (fun t k => XS.iloadN X1.here hx rfl (hb hby d19_27) rfl k) ?_
        show Go p.tables e below PP (T1.setTop (mkF m 28 #[.val (.ref a1), .val (.int i), .val (.ref a3), .val (.int i), .val (.int n), .val (.int i), .val (.int (cf i.toNatClampNeg))] [(.int i), (.ref a3)]))
        refine Go.st (fun t k => XS.iload X1.here hx rfl (hb hby d19_28) rfl k) ?_
        show Go p.tables e below PP (T1.setTop (mkF m 30 #[.val (.ref a1), .val (.int i), .val (.ref a3), .val (.int i), .val (.int n), .val (.int i), .val (.int (cf i.toNatClampNeg))] [(.int (cf i.toNatClampNeg)), (.int i), (.ref a3)]))
        refine Go.st (fun t k => XS.i2b X1.here hx rfl (hb hby d19_30) rfl k) ?_
        show Go p.tables e below PP (T1.setTop (mkF m 31 #[.val (.ref a1), .val (.int i), .val (.ref a3), .val (.int i), .val (.int n), .val (.int i), .val (.int (cf i.toNatClampNeg))] [(.int ((cf i.toNatClampNeg).toInt8.toInt32)), (.int i), (.ref a3)]))
        obtain ⟨cl3, Ar3, S3, Nn3, H3⟩ := id V3
        have hin3 : ¬ (i < 0 ∨ cl3.slots.size ≤ (i).toNatClampNeg) := inb_of S3 ⟨hJ3.1, hc7⟩
        obtain ⟨T3, h3, X3, e3, W3, st3⟩ := stB X1 hx hZ e1 Ar3 (j := i) hin3 (g := (mkF m 31 #[.val (.ref a1), .val (.int i), .val (.ref a3), .val (.int i), .val (.int n), .val (.int i), .val (.int (cf i.toNatClampNeg))] [(.int ((cf i.toNatClampNeg).toInt8.toInt32)), (.int i), (.ref a3)])) rfl rfl (hb hby d19_31)
        refine Go.st st3 ?_
        have N3 := Fr.snoc X3 N1 g3
        replace V1 := V1.other W3 hne
        replace K := K.wr W3 (Or.inl (List.mem_of_getElem? (i := 0) rfl))
        replace Zn : n0 ≤ h3.size := by rw [W3.size]; exact Zn
        replace V3 := Afn.set Ar3 S3 Nn3 H3 (fits_nar_byte _) W3
        show Go p.tables e below PP (T3.setTop (mkF m 32 #[.val (.ref a1), .val (.int i), .val (.ref a3), .val (.int i), .val (.int n), .val (.int i), .val (.int (cf i.toNatClampNeg))] []))
        refine Go.st (fun t k => XS.iinc X3.here hx rfl (hb hby d19_32) rfl (l' := #[.val (.ref a1), .val (.int (i + (1 : Int32))), .val (.ref a3), .val (.int i), .val (.int n), .val (.int i), .val (.int (cf i.toNatClampNeg))]) rfl k) ?_
        show Go p.tables e below PP (T3.setTop (mkF m 35 #[.val (.ref a1), .val (.int (i + (1 : Int32))), .val (.ref a3), .val (.int i), .val (.int n), .val (.int i), .val (.int (cf i.toNatClampNeg))] []))
        refine Go.st (fun t k => XS.iinc X3.here hx rfl (hb hby d19_35) rfl (l' := #[.val (.ref a1), .val (.int (i + (1 : Int32))), .val (.ref a3), .val (.int (i + (1 : Int32))), .val (.int n), .val (.int i), .val (.int (cf i.toNatClampNeg))]) rfl k) ?_
        show Go p.tables e below PP (T3.setTop (mkF m 38 #[.val (.ref a1), .val (.int (i + (1 : Int32))), .val (.ref a3), .val (.int (i + (1 : Int32))), .val (.int n), .val (.int i), .val (.int (cf i.toNatClampNeg))] []))
        refine Go.st (fun t k => XS.iinc X3.here hx rfl (hb hby d19_38) rfl (l' := #[.val (.ref a1), .val (.int (i + (1 : Int32))), .val (.ref a3), .val (.int (i + (1 : Int32))), .val (.int n), .val (.int (i + (1 : Int32))), .val (.int (cf i.toNatClampNeg))]) rfl k) ?_
        show Go p.tables e below PP (T3.setTop (mkF m 41 #[.val (.ref a1), .val (.int (i + (1 : Int32))), .val (.ref a3), .val (.int (i + (1 : Int32))), .val (.int n), .val (.int (i + (1 : Int32))), .val (.int (cf i.toNatClampNeg))] []))
        refine Go.st (fun t k => XS.goto X3.here hx rfl (pc0 := 41) (pc' := 3) rfl (hb hby d19_41) (by decide) (by decide) k) ?_
        show Go p.tables e below PP (T3.setTop (mkF m 3 #[.val (.ref a1), .val (.int (i + (1 : Int32))), .val (.ref a3), .val (.int (i + (1 : Int32))), .val (.int n), .val (.int (i + (1 : Int32))), .val (.int (cf i.toNatClampNeg))] []))
        exact ih1 _ (by have q := own_inc _ _ hJ3.1 hc7; omega) _ _ _ _ _ X3 e3 N3 (V1) (V3.congr (fun k _ => by have q := (own_inc _ _ hJ3.1 hc7).2.2.1; rw [q]; exact own_lf cf i k)) K Zn (⟨(own_inc _ _ hJ3.1 hc7).1, (own_inc _ _ hJ3.1 hc7).2.1, Or.inr ⟨_, rfl⟩⟩) rfl
      · --
        refine Go.st (fun t k => XS.icmpYes X1.here hx rfl (pc0 := 7) (pc' := 44) rfl (hb hby d19_7) rfl (XT.ii_ge_t hc7) (by decide) (by decide) k) ?_
        show Go p.tables e below PP (T1.setTop (mkF m 44 #[.val (.ref a1), .val (.int i), .val (.ref a3), .val (.int i), .val (.int n), .val (.int i), s6] []))
        refine Go.st (fun t k => XS.iload X1.here hx rfl (hb hby d19_44) rfl k) ?_
        show Go p.tables e below PP (T1.setTop (mkF m 46 #[.val (.ref a1), .val (.int i), .val (.ref a3), .val (.int i), .val (.int n), .val (.int i), s6] [(.int n)]))
        rw [hPP]
        refine endI X1 hx hlk hret (hb hby d19_46) ?_ (by decide) (by decide)
        show Q19 Z a1 a3 n cf h0 n0 (some (.int n)) T1.heap _
        rw [e1]
        exact ⟨rfl, N1, K, V3.congr (fun k hk => by have q : i = n := Int32.toInt_inj.mp (by have a := hJ3.2.1; rw [Int32.lt_iff_toInt_lt] at a hc7; omega); subst q; simp [hk])⟩
  show Go p.tables e below PP (s₁.setTop (mkF m 3 #[.val (.ref a1), .val (.int (0 : Int32)), .val (.ref a3), .val (.int (0 : Int32)), .val (.int n), .val (.int (0 : Int32)), .unset] []))
  exact J3 _ _ _ _ _ _ X0 e0 N0 (V1) (V3.congr (fun k _ => by simp [Int32.toNatClampNeg])) K Zn (⟨by decide, V1.nn, Or.inl rfl⟩) rfl
theorem d18_0 : decode jdk_52_method_16_code 0 = .ok (.iload_n 2, 1) := by decide +kernel
theorem d18_1 : decode jdk_52_method_16_code 1 = .ok (.newarray .byte, 2) := by decide +kernel
theorem d18_3 : decode jdk_52_method_16_code 3 = .ok (.astore_n 3, 1) := by decide +kernel
theorem d18_4 : decode jdk_52_method_16_code 4 = .ok (.aload_n 0, 1) := by decide +kernel
theorem d18_5 : decode jdk_52_method_16_code 5 = .ok (.iload_n 1, 1) := by decide +kernel
theorem d18_6 : decode jdk_52_method_16_code 6 = .ok (.aload_n 3, 1) := by decide +kernel
theorem d18_7 : decode jdk_52_method_16_code 7 = .ok (.iconst 0, 1) := by decide +kernel
theorem d18_8 : decode jdk_52_method_16_code 8 = .ok (.iload_n 2, 1) := by decide +kernel
theorem d18_9 : decode jdk_52_method_16_code 9 = .ok (.invokestatic 115, 3) := by decide +kernel
theorem d18_12 : decode jdk_52_method_16_code 12 = .ok (.istore 4, 2) := by decide +kernel
theorem d18_14 : decode jdk_52_method_16_code 14 = .ok (.iload 4, 2) := by decide +kernel
theorem d18_16 : decode jdk_52_method_16_code 16 = .ok (.iload_n 2, 1) := by decide +kernel
theorem d18_17 : decode jdk_52_method_16_code 17 = .ok (.if_icmp .eq 40, 3) := by decide +kernel
theorem d18_20 : decode jdk_52_method_16_code 20 = .ok (.aload_n 0, 1) := by decide +kernel
theorem d18_21 : decode jdk_52_method_16_code 21 = .ok (.iload_n 1, 1) := by decide +kernel
theorem d18_22 : decode jdk_52_method_16_code 22 = .ok (.iload_n 2, 1) := by decide +kernel
theorem d18_23 : decode jdk_52_method_16_code 23 = .ok (.invokestatic 119, 3) := by decide +kernel
theorem d18_26 : decode jdk_52_method_16_code 26 = .ok (.astore 5, 2) := by decide +kernel
theorem d18_28 : decode jdk_52_method_16_code 28 = .ok (.aload 5, 2) := by decide +kernel
theorem d18_30 : decode jdk_52_method_16_code 30 = .ok (.iload 4, 2) := by decide +kernel
theorem d18_32 : decode jdk_52_method_16_code 32 = .ok (.invokestatic 71, 3) := by decide +kernel
theorem d18_35 : decode jdk_52_method_16_code 35 = .ok (.sipush 255, 3) := by decide +kernel
theorem d18_38 : decode jdk_52_method_16_code 38 = .ok (.if_icmp .gt 16, 3) := by decide +kernel
theorem d18_41 : decode jdk_52_method_16_code 41 = .ok (.aload 5, 2) := by decide +kernel
theorem d18_43 : decode jdk_52_method_16_code 43 = .ok (.iconst 0, 1) := by decide +kernel
theorem d18_44 : decode jdk_52_method_16_code 44 = .ok (.aload_n 3, 1) := by decide +kernel
theorem d18_45 : decode jdk_52_method_16_code 45 = .ok (.iconst 0, 1) := by decide +kernel
theorem d18_46 : decode jdk_52_method_16_code 46 = .ok (.iload_n 2, 1) := by decide +kernel
theorem d18_47 : decode jdk_52_method_16_code 47 = .ok (.invokestatic 123, 3) := by decide +kernel
theorem d18_50 : decode jdk_52_method_16_code 50 = .ok (.iload_n 2, 1) := by decide +kernel
theorem d18_51 : decode jdk_52_method_16_code 51 = .ok (.if_icmp .eq 6, 3) := by decide +kernel
theorem d18_54 : decode jdk_52_method_16_code 54 = .ok (.aload 5, 2) := by decide +kernel
theorem d18_56 : decode jdk_52_method_16_code 56 = .ok (.areturn, 1) := by decide +kernel
theorem d18_57 : decode jdk_52_method_16_code 57 = .ok (.aload_n 3, 1) := by decide +kernel
theorem d18_58 : decode jdk_52_method_16_code 58 = .ok (.areturn, 1) := by decide +kernel
theorem pn_rm18 : plainName "java/lang/StringUTF16" = true := by first | (simp [plainName, overriddenIn]; done) | decide +kernel
theorem ef_rm18 (m : MethodId) (a1 : Addr) (n : Int32) : entryFrame m #[(.ref a1), (.int (0 : Int32)), (.int n)] 6 = mkF m 0 #[.val (.ref a1), .val (.int (0 : Int32)), .val (.int n), .unset, .unset, .unset] [] := by first | (simp [entryFrame, mkF, argsToLocals, Value.category]; done) | rfl
def Q18 (Z : State) (a1 : Addr) (n : Int32) (cf : Nat → Int32) (h0 : Heap) (n0 : Nat) (v : Option Value) (h : Heap) (L : List Loc) : Prop := (∃ b : Addr, v = some (.ref b) ∧ h0.size ≤ b ∧ Afn Z h b .byte n (fun k => .int ((cf k).toInt8.toInt32))) ∧ Fr n0 L ∧ Keep h0 h []
theorem pd_0 : parseMethodDescriptor "([CI[BII)I" = some ⟨[(.array .char), .int, (.array .byte), .int, .int], some .int⟩ := by decide +kernel
set_option maxRecDepth 65536 in
set_option maxHeartbeats 40000000 in
theorem rm18 (l : Launch) (Z : State) (a0 : Array Value) (hw : ∀ d ∈ tables_1, d.before a0 Z = true) (ws : List Jvm.Cond) (a1 : Addr) (n : Int32) (cf : Nat → Int32) (h0 : Heap) (n0 : Nat) (Z0 : n0 ≤ h0.size) (V1 : Afn Z h0 a1 .char n (fun k => .int (cf k))) (hcb : ∀ k, k < n.toNatClampNeg → ¬ cf k < (0 : Int32) ∧ ¬ (255 : Int32) < cf k) (hcap : n.toNatClampNeg ≤ 5) :
    Con l Z (⟨"java/lang/StringUTF16", "compress", "([CII)[B"⟩ : MethodName) jdk_52_method_16_code 6 (some (.array .byte)) ws ({ frames := 1, cells := 1, slots := 5, locals := 20 } : Room) #[(.ref a1), (.int (0 : Int32)), (.int n)] h0 (Q18 Z a1 n cf h0 n0) := by
  refine Con.of (plainFor_of_name pn_rm18) ?_
  intro p e s m below meth c s₁ hZ e0 X0 hx hby hml hown hnm hret hlk
  replace hml : c.maxLocals = 6 := hml
  have hown : s.vm.findClass "java/lang/StringUTF16" = some m.cls := hown
  have N0 : Fr n0 [] := Fr.nil n0
  obtain ⟨PP, hPP⟩ : ∃ P, P = Fine s below (Q18 Z a1 n cf h0 n0) ({ frames := 1, cells := 1, slots := 5, locals := 20 } : Room).cells ({ frames := 1, cells := 1, slots := 5, locals := 20 } : Room).slots := ⟨_, rfl⟩
  rw [← hPP]
  refine Go.cast (ef_rm18 m a1 n) ?_
  have K : Keep h0 h0 [] := Keep.refl h0 _
  have Zn : n0 ≤ h0.size := Z0
  show Go p.tables e below PP (s₁.setTop (mkF m 0 #[.val (.ref a1), .val (.int (0 : Int32)), .val (.int n), .unset, .unset, .unset] []))
  refine Go.st (fun t k => XS.iloadN X0.here hx rfl (hb hby d18_0) rfl k) ?_
  show Go p.tables e below PP (s₁.setTop (mkF m 1 #[.val (.ref a1), .val (.int (0 : Int32)), .val (.int n), .unset, .unset, .unset] [(.int n)]))
  obtain ⟨T1, h1, k1, X1, e1, E1, A1, st1⟩ := newP X0 hx hZ (hw _ (List.mem_of_getElem? (i := 23) rfl)) e0 (g := (mkF m 1 #[.val (.ref a1), .val (.int (0 : Int32)), .val (.int n), .unset, .unset, .unset] [(.int n)])) rfl (hb hby d18_1) rfl V1.nn (cap := 5) hcap (by decide) (by decide) (by decide)
  obtain ⟨b1, gz1⟩ : ∃ z, z = h0.size := ⟨_, rfl⟩
  rw [← gz1] at A1 st1
  have ne_a1_b1 : a1 ≠ b1 := Nat.ne_of_lt (Nat.lt_of_lt_of_le V1.lt (Nat.le_of_eq gz1.symm))
  have g_b1 : n0 ≤ b1 := Nat.le_trans Zn (Nat.le_of_eq gz1.symm)
  have sz_b1 : h0.size ≤ b1 := Nat.le_trans K.1 (Nat.le_of_eq gz1.symm)
  refine Go.st st1 ?_
  replace V1 := V1.ext E1
  replace K := K.ext E1
  replace Zn := Nat.le_trans Zn E1.1
  have V_b1 : Afn Z h1 b1 .byte n (fun _ => (.int (0 : Int32))) := Afn.new A1 V1.nn
  show Go p.tables e below PP (T1.setTop (mkF m 3 #[.val (.ref a1), .val (.int (0 : Int32)), .val (.int n), .unset, .unset, .unset] [(.ref b1)]))
  refine Go.st (fun t k => XS.astoreN X1.here hx rfl (hb hby d18_3) rfl rfl (l' := #[.val (.ref a1), .val (.int (0 : Int32)), .val (.int n), .val (.ref b1), .unset, .unset]) rfl k) ?_
  show Go p.tables e below PP (T1.setTop (mkF m 4 #[.val (.ref a1), .val (.int (0 : Int32)), .val (.int n), .val (.ref b1), .unset, .unset] []))
  refine Go.st (fun t k => XS.aloadN X1.here hx rfl (hb hby d18_4) rfl rfl k) ?_
  show Go p.tables e below PP (T1.setTop (mkF m 5 #[.val (.ref a1), .val (.int (0 : Int32)), .val (.int n), .val (.ref b1), .unset, .unset] [(.ref a1)]))
  refine Go.st (fun t k => XS.iloadN X1.here hx rfl (hb hby d18_5) rfl k) ?_
  show Go p.tables e below PP (T1.setTop (mkF m 6 #[.val (.ref a1), .val (.int (0 : Int32)), .val (.int n), .val (.ref b1), .unset, .unset] [(.int (0 : Int32)), (.ref a1)]))
  refine Go.st (fun t k => XS.aloadN X1.here hx rfl (hb hby d18_6) rfl rfl k) ?_
  show Go p.tables e below PP (T1.setTop (mkF m 7 #[.val (.ref a1), .val (.int (0 : Int32)), .val (.int n), .val (.ref b1), .unset, .unset] [(.ref b1), (.int (0 : Int32)), (.ref a1)]))
  refine Go.st (fun t k => XS.iconst X1.here hx rfl (hb hby d18_7) k) ?_
  show Go p.tables e below PP (T1.setTop (mkF m 8 #[.val (.ref a1), .val (.int (0 : Int32)), .val (.int n), .val (.ref b1), .unset, .unset] [(.int (0 : Int32)), (.ref b1), (.int (0 : Int32)), (.ref a1)]))
  refine Go.st (fun t k => XS.iloadN X1.here hx rfl (hb hby d18_8) rfl k) ?_
  show Go p.tables e below PP (T1.setTop (mkF m 9 #[.val (.ref a1), .val (.int (0 : Int32)), .val (.int n), .val (.ref b1), .unset, .unset] [(.int n), (.int (0 : Int32)), (.ref b1), (.int (0 : Int32)), (.ref a1)]))
  obtain ⟨v2, T2, L2, X2, hQ2, st2⟩ := callSt X1 hx hZ (y := (⟨"java/lang/StringUTF16", "compress", "([CI[BII)I"⟩ : MethodName)) (argsL := [(.ref a1), (.int (0 : Int32)), (.ref b1), (.int (0 : Int32)), (.int n)]) (rest := []) hown (hw _ (List.mem_of_getElem? (i := 85) rfl)) (hw _ (List.mem_of_getElem? (i := 86) rfl)) (hw _ (List.mem_of_getElem? (i := 83) rfl)) (hw _ (List.mem_of_getElem? (i := 87) rfl)) (by decide) (rm19 l Z a0 hw [] a1 b1 n cf h1 n0 Zn V1 V_b1 hcb ne_a1_b1 g_b1) e1 0 (by decide) (by decide) (by decide) (by decide) (g := (mkF m 9 #[.val (.ref a1), .val (.int (0 : Int32)), .val (.int n), .val (.ref b1), .unset, .unset] [(.int n), (.int (0 : Int32)), (.ref b1), (.int (0 : Int32)), (.ref a1)])) rfl (by rw [hml]; rfl) (lenOf pd_0 rfl) rfl (by show 2 * 0 + _ ≤ _; exact Nat.le_of_eq rfl) (hb hby d18_9)
  obtain ⟨h2, e2⟩ : ∃ z, T2.heap = z := ⟨_, rfl⟩
  rw [e2] at hQ2
  obtain ⟨rfl, Nq2, Kq2, Vq2⟩ := hQ2
  have N2 := Fr.app N0 Nq2
  replace V1 := V1.keep Kq2 (ninS ne_a1_b1 nin0)
  clear V_b1
  replace K := K.trans Kq2 (allS (Or.inr sz_b1) all0)
  replace Zn := Nat.le_trans Zn Kq2.1
  have V_b1 := Vq2
  refine Go.st st2 ?_
  show Go p.tables e below PP (T2.setTop (mkF m 12 #[.val (.ref a1), .val (.int (0 : Int32)), .val (.int n), .val (.ref b1), .unset, .unset] [(.int n)]))
  refine Go.st (fun t k => XS.istore X2.here hx rfl (hb hby d18_12) rfl (l' := #[.val (.ref a1), .val (.int (0 : Int32)), .val (.int n), .val (.ref b1), .val (.int n), .unset]) rfl k) ?_
  show Go p.tables e below PP (T2.setTop (mkF m 14 #[.val (.ref a1), .val (.int (0 : Int32)), .val (.int n), .val (.ref b1), .val (.int n), .unset] []))
  refine Go.st (fun t k => XS.iload X2.here hx rfl (hb hby d18_14) rfl k) ?_
  show Go p.tables e below PP (T2.setTop (mkF m 16 #[.val (.ref a1), .val (.int (0 : Int32)), .val (.int n), .val (.ref b1), .val (.int n), .unset] [(.int n)]))
  refine Go.st (fun t k => XS.iloadN X2.here hx rfl (hb hby d18_16) rfl k) ?_
  show Go p.tables e below PP (T2.setTop (mkF m 17 #[.val (.ref a1), .val (.int (0 : Int32)), .val (.int n), .val (.ref b1), .val (.int n), .unset] [(.int n), (.int n)]))
  refine Go.st (fun t k => XS.icmpYes X2.here hx rfl (pc0 := 17) (pc' := 57) rfl (hb hby d18_17) rfl (XT.ii_eq_t rfl) (by decide) (by decide) k) ?_
  show Go p.tables e below PP (T2.setTop (mkF m 57 #[.val (.ref a1), .val (.int (0 : Int32)), .val (.int n), .val (.ref b1), .val (.int n), .unset] []))
  refine Go.st (fun t k => XS.aloadN X2.here hx rfl (hb hby d18_57) rfl rfl k) ?_
  show Go p.tables e below PP (T2.setTop (mkF m 58 #[.val (.ref a1), .val (.int (0 : Int32)), .val (.int n), .val (.ref b1), .val (.int n), .unset] [(.ref b1)]))
  rw [hPP]
  refine endR X2 hx hlk hret rfl rfl (hb hby d18_58) ?_ (by decide) (by decide)
  show Q18 Z a1 n cf h0 n0 (some (.ref b1)) T2.heap _
  rw [e2]
  exact ⟨⟨_, rfl, sz_b1, V_b1⟩, N2, K⟩
theorem d20_0 : decode jdk_52_method_15_code 0 = .ok (.iload_n 1, 1) := by decide +kernel
theorem d20_1 : decode jdk_52_method_15_code 1 = .ok (.aload_n 0, 1) := by decide +kernel
theorem d20_2 : decode jdk_52_method_15_code 2 = .ok (.arraylength, 1) := by decide +kernel
theorem d20_3 : decode jdk_52_method_15_code 3 = .ok (.isub, 1) := by decide +kernel
theorem d20_4 : decode jdk_52_method_15_code 4 = .ok (.bipush 31, 2) := by decide +kernel
theorem d20_6 : decode jdk_52_method_15_code 6 = .ok (.iushr, 1) := by decide +kernel
theorem d20_7 : decode jdk_52_method_15_code 7 = .ok (.i2b, 1) := by decide +kernel
theorem d20_8 : decode jdk_52_method_15_code 8 = .ok (.ireturn, 1) := by decide +kernel
theorem pn_rm20 : plainName "java/lang/StringUTF16" = true := by first | (simp [plainName, overriddenIn]; done) | decide +kernel
theorem ef_rm20 (m : MethodId) (a1 : Addr) (n : Int32) : entryFrame m #[(.ref a1), (.int n)] 2 = mkF m 0 #[.val (.ref a1), .val (.int n)] [] := by first | (simp [entryFrame, mkF, argsToLocals, Value.category]; done) | rfl
def Q20 (Z : State) (a1 : Addr) (n : Int32) (f : Nat → Value) (h0 : Heap) (n0 : Nat) (v : Option Value) (h : Heap) (L : List Loc) : Prop := v = some (.int (0 : Int32)) ∧ L = [] ∧ h = h0
set_option maxRecDepth 65536 in
set_option maxHeartbeats 40000000 in
theorem rm20 (l : Launch) (Z : State) (a0 : Array Value) (hw : ∀ d ∈ tables_1, d.before a0 Z = true) (ws : List Jvm.Cond) (a1 : Addr) (n : Int32) (f : Nat → Value) (h0 : Heap) (n0 : Nat) (Z0 : n0 ≤ h0.size) (V1 : Afn Z h0 a1 .byte n f) :
    Con l Z (⟨"java/lang/StringUTF16", "coderFromArrayLen", "([BI)B"⟩ : MethodName) jdk_52_method_15_code 2 (some .byte) ws ({ frames := 0, cells := 0, slots := 0, locals := 0 } : Room) #[(.ref a1), (.int n)] h0 (Q20 Z a1 n f h0 n0) := by
  refine Con.of (plainFor_of_name pn_rm20) ?_
  intro p e s m below meth c s₁ hZ e0 X0 hx hby hml hown hnm hret hlk
  replace hml : c.maxLocals = 2 := hml
  have hown : s.vm.findClass "java/lang/StringUTF16" = some m.cls := hown
  have N0 : Fr n0 [] := Fr.nil n0
  obtain ⟨PP, hPP⟩ : ∃ P, P = Fine s below (Q20 Z a1 n f h0 n0) ({ frames := 0, cells := 0, slots := 0, locals := 0 } : Room).cells ({ frames := 0, cells := 0, slots := 0, locals := 0 } : Room).slots := ⟨_, rfl⟩
  rw [← hPP]
  refine Go.cast (ef_rm20 m a1 n) ?_
  have Zn : n0 ≤ h0.size := Z0
  show Go p.tables e below PP (s₁.setTop (mkF m 0 #[.val (.ref a1), .val (.int n)] []))
  refine Go.st (fun t k => XS.iloadN X0.here hx rfl (hb hby d20_0) rfl k) ?_
  show Go p.tables e below PP (s₁.setTop (mkF m 1 #[.val (.ref a1), .val (.int n)] [(.int n)]))
  refine Go.st (fun t k => XS.aloadN X0.here hx rfl (hb hby d20_1) rfl rfl k) ?_
  show Go p.tables e below PP (s₁.setTop (mkF m 2 #[.val (.ref a1), .val (.int n)] [(.ref a1), (.int n)]))
  obtain ⟨cl1, Ar1, S1, Nn1, -⟩ := id V1
  refine Go.st (fun t k => X0.arraylength hx (by rw [e0]; exact Ar1.1) (State.isArrayOf_alike hZ.alike Ar1.2.1) (g := (mkF m 2 #[.val (.ref a1), .val (.int n)] [(.ref a1), (.int n)])) rfl rfl (hb hby d20_2) _ k) ?_
  rw [len_of S1 Nn1]
  show Go p.tables e below PP (s₁.setTop (mkF m 3 #[.val (.ref a1), .val (.int n)] [(.int n), (.int n)]))
  refine Go.st (fun t k => XS.isub X0.here hx rfl (hb hby d20_3) rfl k) ?_
  show Go p.tables e below PP (s₁.setTop (mkF m 4 #[.val (.ref a1), .val (.int n)] [(.int (n - n))]))
  refine Go.st (fun t k => XS.bipush X0.here hx rfl (hb hby d20_4) k) ?_
  show Go p.tables e below PP (s₁.setTop (mkF m 6 #[.val (.ref a1), .val (.int n)] [(.int (31 : Int32)), (.int (n - n))]))
  refine Go.st (fun t k => XS.iushr X0.here hx rfl (hb hby d20_6) rfl k) ?_
  show Go p.tables e below PP (s₁.setTop (mkF m 7 #[.val (.ref a1), .val (.int n)] [(.int (((n - n).toUInt32 >>> ((31 : Int32) &&& 31).toUInt32).toInt32))]))
  refine Go.st (fun t k => XS.i2b X0.here hx rfl (hb hby d20_7) rfl k) ?_
  show Go p.tables e below PP (s₁.setTop (mkF m 8 #[.val (.ref a1), .val (.int n)] [(.int ((((n - n).toUInt32 >>> ((31 : Int32) &&& 31).toUInt32).toInt32).toInt8.toInt32))]))
  rw [hPP]
  refine endN X0 hx hlk (t := .byte) hret (by simp) (hb hby d20_8) (w := (0 : Int32)) (by rw [Int32.sub_self]; rfl) ?_ (by decide) (by decide)
  show Q20 Z a1 n f h0 n0 (some (.int (0 : Int32))) s₁.heap _
  rw [e0]
  exact ⟨rfl, rfl, rfl⟩
theorem strA {Z : State} {a0 : Array Value} (hw : ∀ d ∈ tables_1, d.before a0 Z = true) : ∀ d ∈ Bundle.stringAtoms, d.before a0 Z = true := by
  intro d hd
  simp only [Bundle.stringAtoms, List.mem_cons, List.not_mem_nil, or_false] at hd
  rcases hd with rfl | rfl | rfl | rfl | rfl | rfl | rfl
  · exact (hw _ (List.mem_of_getElem? (i := 10) rfl))
  · exact (hw _ (List.mem_of_getElem? (i := 9) rfl))
  · exact (hw _ (List.mem_of_getElem? (i := 23) rfl))
  · exact (hw _ (List.mem_of_getElem? (i := 24) rfl))
  · exact (hw _ (List.mem_of_getElem? (i := 25) rfl))
  · exact (hw _ (List.mem_of_getElem? (i := 26) rfl))
  · exact (hw _ (List.mem_of_getElem? (i := 27) rfl))
theorem safe_str {Z : State} {EL : List (String × Nat)} {vm : Vm} {h : Heap} {a : Addr} (hal : Z.vm.Alike vm) (E : Exa Z h a "java/lang/String") (F : Fld Z h a "java/lang/String" "value" "[B" .null) : Safe Z EL vm h a := by
  rintro ⟨p, hp, u, a', hb, q, hq, B, hy⟩
  obtain ⟨cell, cf, kf, i, f, f1, f2, f3, f4, f5, f6, f7⟩ := F
  obtain ⟨cE, kE, e1, e2, e3, e4, e5⟩ := E
  cases f1.symm.trans e1
  rcases hy with rfl | rfl
  · have ha := B.ha
    obtain ⟨cS, ⟨⟨-, -, -, ⟨c1, k1, i1, g1, -⟩, -, -, -, v1, -⟩, -⟩, -⟩ := B
    have ha' : h[q.sa]? = some q.sC := ha
    cases f1.symm.trans ha'
    obtain ⟨k3, e6, -⟩ := State.fieldFound?_setVm (s := Z) hal f2
    have e7 := (show (Wst Z vm h).fieldFound? _ _ _ = _ from e6).symm.trans g1
    simp only [Option.some.injEq, Prod.mk.injEq] at e7
    rw [← e7.2.2.2, f7] at v1
    cases v1
  · have hd := B.hd
    obtain ⟨cS, -, -, h4, -⟩ := B
    have hd' : h[q.sd]? = some q.SA := hd
    cases f1.symm.trans hd'
    have h5 : vm.findClass "[B" = some q.SA.cls := h4
    rw [hal.findClass] at h5
    exact ids_ne e2 h5 (by decide) rfl
theorem d4_0 : decode jdk_42_method_149_code 0 = .ok (.aload_n 0, 1) := by decide +kernel
theorem d4_1 : decode jdk_42_method_149_code 1 = .ok (.invokespecial 1, 3) := by decide +kernel
theorem d4_4 : decode jdk_42_method_149_code 4 = .ok (.iload_n 3, 1) := by decide +kernel
theorem d4_5 : decode jdk_42_method_149_code 5 = .ok (.ifCond .ne 22, 3) := by decide +kernel
theorem d4_8 : decode jdk_42_method_149_code 8 = .ok (.aload_n 0, 1) := by decide +kernel
theorem d4_9 : decode jdk_42_method_149_code 9 = .ok (.ldc 7, 2) := by decide +kernel
theorem d4_11 : decode jdk_42_method_149_code 11 = .ok (.getfield 9, 3) := by decide +kernel
theorem d4_14 : decode jdk_42_method_149_code 14 = .ok (.putfield 9, 3) := by decide +kernel
theorem d4_17 : decode jdk_42_method_149_code 17 = .ok (.aload_n 0, 1) := by decide +kernel
theorem d4_18 : decode jdk_42_method_149_code 18 = .ok (.ldc 7, 2) := by decide +kernel
theorem d4_20 : decode jdk_42_method_149_code 20 = .ok (.getfield 15, 3) := by decide +kernel
theorem d4_23 : decode jdk_42_method_149_code 23 = .ok (.putfield 15, 3) := by decide +kernel
theorem d4_26 : decode jdk_42_method_149_code 26 = .ok (.return_, 1) := by decide +kernel
theorem d4_27 : decode jdk_42_method_149_code 27 = .ok (.getstatic 38, 3) := by decide +kernel
theorem d4_30 : decode jdk_42_method_149_code 30 = .ok (.ifCond .eq 28, 3) := by decide +kernel
theorem d4_33 : decode jdk_42_method_149_code 33 = .ok (.aload_n 1, 1) := by decide +kernel
theorem d4_34 : decode jdk_42_method_149_code 34 = .ok (.iload_n 2, 1) := by decide +kernel
theorem d4_35 : decode jdk_42_method_149_code 35 = .ok (.iload_n 3, 1) := by decide +kernel
theorem d4_36 : decode jdk_42_method_149_code 36 = .ok (.invokestatic 177, 3) := by decide +kernel
theorem d4_39 : decode jdk_42_method_149_code 39 = .ok (.astore 5, 2) := by decide +kernel
theorem d4_41 : decode jdk_42_method_149_code 41 = .ok (.aload_n 0, 1) := by decide +kernel
theorem d4_42 : decode jdk_42_method_149_code 42 = .ok (.aload 5, 2) := by decide +kernel
theorem d4_44 : decode jdk_42_method_149_code 44 = .ok (.iload_n 3, 1) := by decide +kernel
theorem d4_45 : decode jdk_42_method_149_code 45 = .ok (.invokestatic 47, 3) := by decide +kernel
theorem d4_48 : decode jdk_42_method_149_code 48 = .ok (.putfield 15, 3) := by decide +kernel
theorem d4_51 : decode jdk_42_method_149_code 51 = .ok (.aload_n 0, 1) := by decide +kernel
theorem d4_52 : decode jdk_42_method_149_code 52 = .ok (.aload 5, 2) := by decide +kernel
theorem d4_54 : decode jdk_42_method_149_code 54 = .ok (.putfield 9, 3) := by decide +kernel
theorem d4_57 : decode jdk_42_method_149_code 57 = .ok (.return_, 1) := by decide +kernel
theorem d4_58 : decode jdk_42_method_149_code 58 = .ok (.aload_n 0, 1) := by decide +kernel
theorem d4_59 : decode jdk_42_method_149_code 59 = .ok (.iconst 1, 1) := by decide +kernel
theorem d4_60 : decode jdk_42_method_149_code 60 = .ok (.putfield 15, 3) := by decide +kernel
theorem d4_63 : decode jdk_42_method_149_code 63 = .ok (.aload_n 0, 1) := by decide +kernel
theorem d4_64 : decode jdk_42_method_149_code 64 = .ok (.aload_n 1, 1) := by decide +kernel
theorem d4_65 : decode jdk_42_method_149_code 65 = .ok (.iload_n 2, 1) := by decide +kernel
theorem d4_66 : decode jdk_42_method_149_code 66 = .ok (.iload_n 3, 1) := by decide +kernel
theorem d4_67 : decode jdk_42_method_149_code 67 = .ok (.invokestatic 180, 3) := by decide +kernel
theorem d4_70 : decode jdk_42_method_149_code 70 = .ok (.putfield 9, 3) := by decide +kernel
theorem d4_73 : decode jdk_42_method_149_code 73 = .ok (.return_, 1) := by decide +kernel
theorem pn_rmSI : plainName "java/lang/String" = true := by first | (simp [plainName, overriddenIn]; done) | decide +kernel
theorem ef_rmSI (m : MethodId) (a1 : Addr) (a2 : Addr) (n : Int32) : entryFrame m #[(.ref a1), (.ref a2), (.int (0 : Int32)), (.int n), .null] 6 = mkF m 0 #[.val (.ref a1), .val (.ref a2), .val (.int (0 : Int32)), .val (.int n), .val .null, .unset] [] := by first | (simp [entryFrame, mkF, argsToLocals, Value.category]; done) | rfl
def QSI (Z : State) (a1 : Addr) (a2 : Addr) (n : Int32) (cf : Nat → Int32) (zc : Int32) (h0 : Heap) (n0 : Nat) (v : Option Value) (h : Heap) (L : List Loc) : Prop := v = none ∧ Fr n0 L ∧ Keep h0 h [a1] ∧ Exa Z h a1 "java/lang/String" ∧ Fld Z h a1 "java/lang/String" "coder" "B" (.int (0 : Int32)) ∧ ∃ t : Addr, Fld Z h a1 "java/lang/String" "value" "[B" (.ref t) ∧ Afn Z h t .byte n (fun k => .int ((cf k).toInt8.toInt32))
theorem pd_1 : parseMethodDescriptor "([CII)[B" = some ⟨[(.array .char), .int, .int], some (.array .byte)⟩ := by decide +kernel
theorem pd_2 : parseMethodDescriptor "([BI)B" = some ⟨[(.array .byte), .int], some .byte⟩ := by decide +kernel
set_option maxRecDepth 65536 in
set_option maxHeartbeats 40000000 in
theorem rmSI (l : Launch) (Z : State) (a0 : Array Value) (hw : ∀ d ∈ tables_1, d.before a0 Z = true) (ws : List Jvm.Cond) (a1 : Addr) (a2 : Addr) (n : Int32) (cf : Nat → Int32) (zc : Int32) (h0 : Heap) (n0 : Nat) (Z0 : n0 ≤ h0.size) (hEL : EW Z a0 consts_1) (E_a1 : Exa Z h0 a1 "java/lang/String") (F_value_a1 : Fld Z h0 a1 "java/lang/String" "value" "[B" .null) (F_coder_a1 : Fld Z h0 a1 "java/lang/String" "coder" "B" (.int (0 : Int32))) (g_a1 : n0 ≤ a1) (V2 : Afn Z h0 a2 .char n (fun k => .int (cf k))) (hcb : ∀ k, k < n.toNatClampNeg → ¬ cf k < (0 : Int32) ∧ ¬ (255 : Int32) < cf k) (hcap : n.toNatClampNeg ≤ 5) (hne : a1 ≠ a2) (SC : Sta Z Z.heap "java/lang/String" "COMPACT_STRINGS" "Z" (.int zc)) (hzc : ¬ zc = (0 : Int32)) (O : Old Z n0 h0) :
    ConH l Z consts_1 (⟨"java/lang/String", "<init>", "([CIILjava/lang/Void;)V"⟩ : MethodName) jdk_42_method_149_code 6 none ws ({ frames := 2, cells := 4, slots := 8, locals := 37 } : Room) #[(.ref a1), (.ref a2), (.int (0 : Int32)), (.int n), .null] h0 (QSI Z a1 a2 n cf zc h0 n0) := by
  refine ConH.of (plainFor_of_name pn_rmSI) ?_
  intro p e s m below meth c s₁ vm0 k0 hZ e0 X0 hx hby hml hown hnm hret hlk hS hk CH CR
  replace hml : c.maxLocals = 6 := hml
  have hown : vm0.findClass "java/lang/String" = some m.cls := hown
  have N0 : Fr n0 [] := Fr.nil n0
  obtain ⟨PP, hPP⟩ : ∃ P, P = FineW Z consts_1 s below (QSI Z a1 a2 n cf zc h0 n0) ({ frames := 2, cells := 4, slots := 8, locals := 37 } : Room).cells ({ frames := 2, cells := 4, slots := 8, locals := 37 } : Room).slots := ⟨_, rfl⟩
  rw [← hPP]
  refine Go.cast (ef_rmSI m a1 a2 n) ?_
  have K : Keep h0 h0 [a1] := Keep.refl h0 _
  have Zn : n0 ≤ h0.size := Z0
  have SF_a1 : Safe Z consts_1 vm0 h0 a1 := safe_str hZ.alike E_a1 F_value_a1
  show Go p.tables e below PP (s₁.setTop (mkF m 0 #[.val (.ref a1), .val (.ref a2), .val (.int (0 : Int32)), .val (.int n), .val .null, .unset] []))
  refine Go.st (fun t k => XS.aloadN X0.here hx rfl (hb hby d4_0) rfl rfl k) ?_
  show Go p.tables e below PP (s₁.setTop (mkF m 1 #[.val (.ref a1), .val (.ref a2), .val (.int (0 : Int32)), .val (.int n), .val .null, .unset] [(.ref a1)]))
  obtain ⟨T1, X1, e1, st1⟩ := initO X0 hx hZ hown (hw _ (List.mem_of_getElem? (i := 19) rfl)) (hw _ (List.mem_of_getElem? (i := 20) rfl)) (hw _ (List.mem_of_getElem? (i := 21) rfl)) e0 (g := (mkF m 1 #[.val (.ref a1), .val (.ref a2), .val (.int (0 : Int32)), .val (.int n), .val .null, .unset] [(.ref a1)])) rfl (by rw [hml]; rfl) rfl (hb hby d4_1) (by decide) (W := 0) (by show 2 * 0 + _ ≤ _; exact Nat.le_of_eq rfl) (by decide)
  refine Go.st st1 ?_
  show Go p.tables e below PP (T1.setTop (mkF m 4 #[.val (.ref a1), .val (.ref a2), .val (.int (0 : Int32)), .val (.int n), .val .null, .unset] []))
  refine Go.st (fun t k => XS.iloadN X1.here hx rfl (hb hby d4_4) rfl k) ?_
  show Go p.tables e below PP (T1.setTop (mkF m 5 #[.val (.ref a1), .val (.ref a2), .val (.int (0 : Int32)), .val (.int n), .val .null, .unset] [(.int n)]))
  by_cases hc5 : n = (0 : Int32)
  · --
    refine Go.st (fun t k => XS.ifNo X1.here hx rfl (hb hby d4_5) rfl (XT.i0_ne_f hc5) k) ?_
    show Go p.tables e below PP (T1.setTop (mkF m 8 #[.val (.ref a1), .val (.ref a2), .val (.int (0 : Int32)), .val (.int n), .val .null, .unset] []))
    refine Go.st (fun t k => XS.aloadN X1.here hx rfl (hb hby d4_8) rfl rfl k) ?_
    show Go p.tables e below PP (T1.setTop (mkF m 9 #[.val (.ref a1), .val (.ref a2), .val (.int (0 : Int32)), .val (.int n), .val .null, .unset] [(.ref a1)]))
    obtain ⟨sa2, T2, h2, kk2, sb2, kc2, X2, e2, E2, hS2, hk2, hZ2, hown2, Es2, Fc2, Fv2, As2, -, -, hC2, -, nS2, st2⟩ := ldcCH X1 hx hZ hown (hw _ (List.mem_of_getElem? (i := 22) rfl)) (strA hw) e1 hS hk hEL (List.mem_of_getElem? (i := 0) rfl) CH (vs := []) (z := (0 : Int32)) (by decide) (by decide) (by decide) (g := (mkF m 9 #[.val (.ref a1), .val (.ref a2), .val (.int (0 : Int32)), .val (.int n), .val .null, .unset] [(.ref a1)])) rfl (hb hby d4_9) (n := 0) (by decide) (by decide) (by decide) (by decide)
    have lt_a1 := E_a1.lt
    replace E_a1 := E_a1.ext E2
    replace F_value_a1 := F_value_a1.ext E2
    replace F_coder_a1 := F_coder_a1.ext E2
    replace V2 := V2.ext E2
    replace O := O.ext E2
    replace K := K.ext E2
    replace SF_a1 := hC2.safe lt_a1 SF_a1
    have ne_a1_sa2 : a1 ≠ sa2 := (nS2 _ SF_a1).1
    have ne_a1_sb2 : a1 ≠ sb2 := (nS2 _ SF_a1).2
    replace Zn := Nat.le_trans Zn E2.1
    replace CR := CR.trans hC2
    replace CH := hC2.1
    replace hS := hS2
    replace hk := hk2
    replace hZ := hZ2
    replace hown := hown2
    refine Go.st st2 ?_
    replace As2 := Afn.of_arv As2
    show Go p.tables e below PP (T2.setTop (mkF m 11 #[.val (.ref a1), .val (.ref a2), .val (.int (0 : Int32)), .val (.int n), .val .null, .unset] [(.ref sa2), (.ref a1)]))
    obtain ⟨T3, X3, e3, st3⟩ := getF X2 hx hZ hown (host := "") (Or.inl (hw _ (List.mem_of_getElem? (i := 28) rfl))) Via.refl e2 Fv2 (g := (mkF m 11 #[.val (.ref a1), .val (.ref a2), .val (.int (0 : Int32)), .val (.int n), .val .null, .unset] [(.ref sa2), (.ref a1)])) rfl rfl (hb hby d4_11)
    refine Go.st st3 ?_
    show Go p.tables e below PP (T3.setTop (mkF m 14 #[.val (.ref a1), .val (.ref a2), .val (.int (0 : Int32)), .val (.int n), .val .null, .unset] [(.ref sb2), (.ref a1)]))
    obtain ⟨T4, h4, X4, e4, W4, st4⟩ := putF X3 hx hZ hown (host := "") (Or.inl (hw _ (List.mem_of_getElem? (i := 28) rfl))) Via.refl e3 F_value_a1 E_a1 (Or.inr ⟨(hw _ (List.mem_of_getElem? (i := 24) rfl)), rfl, hnm⟩) (hw _ (List.mem_of_getElem? (i := 9) rfl)) (ty := (.array .byte)) (by decide) rfl rfl (g := (mkF m 14 #[.val (.ref a1), .val (.ref a2), .val (.int (0 : Int32)), .val (.int n), .val .null, .unset] [(.ref sb2), (.ref a1)])) rfl rfl (hb hby d4_14)
    refine Go.st st4 ?_
    have N4 := Fr.snoc X4 N0 g_a1
    replace E_a1 := E_a1.wr W4
    replace F_coder_a1 := F_coder_a1.other W4 (Or.inr (slot_ne (a0 := a0) (Or.inr (hw _ (List.mem_of_getElem? (i := 25) rfl))) (Or.inr (hw _ (List.mem_of_getElem? (i := 24) rfl))) (by decide) (t := .byte) (t' := (.array .byte)) (by decide) (by decide)))
    replace V2 := V2.other W4 (Ne.symm hne)
    replace Es2 := Es2.wr W4
    replace Fc2 := Fc2.other W4 (Or.inl (Ne.symm ne_a1_sa2))
    replace Fv2 := Fv2.other W4 (Or.inl (Ne.symm ne_a1_sa2))
    replace As2 := As2.other W4 (Ne.symm ne_a1_sb2)
    replace CR := CR.trans (CHr.wr W4 SF_a1 CH)
    have CH' := CH.wr W4 SF_a1
    replace SF_a1 := Safe.wr W4 SF_a1 CH SF_a1
    replace CH := CH'
    clear CH'
    replace hk : kk2 ≤ h4.size := by rw [W4.size]; exact hk
    replace O := O.wr W4 g_a1
    replace K := K.wr W4 (Or.inl (List.mem_of_getElem? (i := 0) rfl))
    replace Zn : n0 ≤ h4.size := by rw [W4.size]; exact Zn
    replace F_value_a1 := F_value_a1.same W4
    show Go p.tables e below PP (T4.setTop (mkF m 17 #[.val (.ref a1), .val (.ref a2), .val (.int (0 : Int32)), .val (.int n), .val .null, .unset] []))
    refine Go.st (fun t k => XS.aloadN X4.here hx rfl (hb hby d4_17) rfl rfl k) ?_
    show Go p.tables e below PP (T4.setTop (mkF m 18 #[.val (.ref a1), .val (.ref a2), .val (.int (0 : Int32)), .val (.int n), .val .null, .unset] [(.ref a1)]))
    obtain ⟨sa5, T5, h5, kk5, sb5, kc5, X5, e5, E5, hS5, hk5, hZ5, hown5, Es5, Fc5, Fv5, As5, -, -, hC5, -, nS5, st5⟩ := ldcCH X4 hx hZ hown (hw _ (List.mem_of_getElem? (i := 22) rfl)) (strA hw) e4 hS hk hEL (List.mem_of_getElem? (i := 0) rfl) CH (vs := []) (z := (0 : Int32)) (by decide) (by decide) (by decide) (g := (mkF m 18 #[.val (.ref a1), .val (.ref a2), .val (.int (0 : Int32)), .val (.int n), .val .null, .unset] [(.ref a1)])) rfl (hb hby d4_18) (n := 0) (by decide) (by decide) (by decide) (by decide)
    have lt_a1 := E_a1.lt
    replace E_a1 := E_a1.ext E5
    replace F_value_a1 := F_value_a1.ext E5
    replace F_coder_a1 := F_coder_a1.ext E5
    replace V2 := V2.ext E5
    replace Es2 := Es2.ext E5
    replace Fc2 := Fc2.ext E5
    replace Fv2 := Fv2.ext E5
    replace As2 := As2.ext E5
    replace O := O.ext E5
    replace K := K.ext E5
    replace SF_a1 := hC5.safe lt_a1 SF_a1
    have ne_a1_sa5 : a1 ≠ sa5 := (nS5 _ SF_a1).1
    have ne_a1_sb5 : a1 ≠ sb5 := (nS5 _ SF_a1).2
    replace Zn := Nat.le_trans Zn E5.1
    replace CR := CR.trans hC5
    replace CH := hC5.1
    replace hS := hS5
    replace hk := hk5
    replace hZ := hZ5
    replace hown := hown5
    refine Go.st st5 ?_
    replace As5 := Afn.of_arv As5
    show Go p.tables e below PP (T5.setTop (mkF m 20 #[.val (.ref a1), .val (.ref a2), .val (.int (0 : Int32)), .val (.int n), .val .null, .unset] [(.ref sa5), (.ref a1)]))
    obtain ⟨T6, X6, e6, st6⟩ := getF X5 hx hZ hown (host := "") (Or.inl (hw _ (List.mem_of_getElem? (i := 29) rfl))) Via.refl e5 Fc5 (g := (mkF m 20 #[.val (.ref a1), .val (.ref a2), .val (.int (0 : Int32)), .val (.int n), .val .null, .unset] [(.ref sa5), (.ref a1)])) rfl rfl (hb hby d4_20)
    refine Go.st st6 ?_
    show Go p.tables e below PP (T6.setTop (mkF m 23 #[.val (.ref a1), .val (.ref a2), .val (.int (0 : Int32)), .val (.int n), .val .null, .unset] [(.int (0 : Int32)), (.ref a1)]))
    obtain ⟨T7, h7, X7, e7, W7, st7⟩ := putFN X6 hx hZ hown (hw _ (List.mem_of_getElem? (i := 29) rfl)) Via.refl e6 F_coder_a1 E_a1 (Or.inr ⟨(hw _ (List.mem_of_getElem? (i := 25) rfl)), rfl, hnm⟩) (hw _ (List.mem_of_getElem? (i := 9) rfl)) (ty := .byte) (v' := (.int (0 : Int32))) (by decide) rfl (by decide) (g := (mkF m 23 #[.val (.ref a1), .val (.ref a2), .val (.int (0 : Int32)), .val (.int n), .val .null, .unset] [(.int (0 : Int32)), (.ref a1)])) rfl rfl (hb hby d4_23)
    refine Go.st st7 ?_
    have N7 := Fr.snoc X7 N4 g_a1
    replace E_a1 := E_a1.wr W7
    replace F_value_a1 := F_value_a1.other W7 (Or.inr (slot_ne (a0 := a0) (Or.inr (hw _ (List.mem_of_getElem? (i := 24) rfl))) (Or.inr (hw _ (List.mem_of_getElem? (i := 25) rfl))) (by decide) (t := (.array .byte)) (t' := .byte) (by decide) (by decide)))
    replace V2 := V2.other W7 (Ne.symm hne)
    replace Es2 := Es2.wr W7
    replace Fc2 := Fc2.other W7 (Or.inl (Ne.symm ne_a1_sa2))
    replace Fv2 := Fv2.other W7 (Or.inl (Ne.symm ne_a1_sa2))
    replace As2 := As2.other W7 (Ne.symm ne_a1_sb2)
    replace Es5 := Es5.wr W7
    replace Fc5 := Fc5.other W7 (Or.inl (Ne.symm ne_a1_sa5))
    replace Fv5 := Fv5.other W7 (Or.inl (Ne.symm ne_a1_sa5))
    replace As5 := As5.other W7 (Ne.symm ne_a1_sb5)
    replace CR := CR.trans (CHr.wr W7 SF_a1 CH)
    have CH' := CH.wr W7 SF_a1
    replace SF_a1 := Safe.wr W7 SF_a1 CH SF_a1
    replace CH := CH'
    clear CH'
    replace hk : kk5 ≤ h7.size := by rw [W7.size]; exact hk
    replace O := O.wr W7 g_a1
    replace K := K.wr W7 (Or.inl (List.mem_of_getElem? (i := 0) rfl))
    replace Zn : n0 ≤ h7.size := by rw [W7.size]; exact Zn
    replace F_coder_a1 := F_coder_a1.same W7
    show Go p.tables e below PP (T7.setTop (mkF m 26 #[.val (.ref a1), .val (.ref a2), .val (.int (0 : Int32)), .val (.int n), .val .null, .unset] []))
    rw [hPP]
    refine endVW X7 hx hlk hZ hS e7 hk hEL CH CR hret (hb hby d4_26) ?_ (by decide) (by decide)
    show QSI Z a1 a2 n cf zc h0 n0 none T7.heap _
    rw [e7]
    exact ⟨rfl, N7, K, E_a1, F_coder_a1, _, F_value_a1, (by subst hc5; exact As2.congr (fun k hk => absurd hk (by simp [Int32.toNatClampNeg])))⟩
  · --
    refine Go.st (fun t k => XS.ifYes X1.here hx rfl (pc0 := 5) (pc' := 27) rfl (hb hby d4_5) rfl (XT.i0_ne_t hc5) (by decide) (by decide) k) ?_
    show Go p.tables e below PP (T1.setTop (mkF m 27 #[.val (.ref a1), .val (.ref a2), .val (.int (0 : Int32)), .val (.int n), .val .null, .unset] []))
    obtain ⟨T8, X8, e8, st8⟩ := getS2 X1 hx hZ hown (host := "") (Or.inl (hw _ (List.mem_of_getElem? (i := 52) rfl))) Via.refl e1 (SC.ext O.2) (g := (mkF m 27 #[.val (.ref a1), .val (.ref a2), .val (.int (0 : Int32)), .val (.int n), .val .null, .unset] [])) rfl (hb hby d4_27)
    refine Go.st st8 ?_
    show Go p.tables e below PP (T8.setTop (mkF m 30 #[.val (.ref a1), .val (.ref a2), .val (.int (0 : Int32)), .val (.int n), .val .null, .unset] [(.int zc)]))
    refine Go.st (fun t k => XS.ifNo X8.here hx rfl (hb hby d4_30) rfl (XT.i0_eq_f hzc) k) ?_
    show Go p.tables e below PP (T8.setTop (mkF m 33 #[.val (.ref a1), .val (.ref a2), .val (.int (0 : Int32)), .val (.int n), .val .null, .unset] []))
    refine Go.st (fun t k => XS.aloadN X8.here hx rfl (hb hby d4_33) rfl rfl k) ?_
    show Go p.tables e below PP (T8.setTop (mkF m 34 #[.val (.ref a1), .val (.ref a2), .val (.int (0 : Int32)), .val (.int n), .val .null, .unset] [(.ref a2)]))
    refine Go.st (fun t k => XS.iloadN X8.here hx rfl (hb hby d4_34) rfl k) ?_
    show Go p.tables e below PP (T8.setTop (mkF m 35 #[.val (.ref a1), .val (.ref a2), .val (.int (0 : Int32)), .val (.int n), .val .null, .unset] [(.int (0 : Int32)), (.ref a2)]))
    refine Go.st (fun t k => XS.iloadN X8.here hx rfl (hb hby d4_35) rfl k) ?_
    show Go p.tables e below PP (T8.setTop (mkF m 36 #[.val (.ref a1), .val (.ref a2), .val (.int (0 : Int32)), .val (.int n), .val .null, .unset] [(.int n), (.int (0 : Int32)), (.ref a2)]))
    obtain ⟨v9, T9, L9, X9, hQ9, st9⟩ := callSt X8 hx hZ (y := (⟨"java/lang/StringUTF16", "compress", "([CII)[B"⟩ : MethodName)) (argsL := [(.ref a2), (.int (0 : Int32)), (.int n)]) (rest := []) hown (hw _ (List.mem_of_getElem? (i := 81) rfl)) (hw _ (List.mem_of_getElem? (i := 82) rfl)) (hw _ (List.mem_of_getElem? (i := 83) rfl)) (hw _ (List.mem_of_getElem? (i := 84) rfl)) (by decide) (rm18 l Z a0 hw [] a2 n cf h0 n0 Zn V2 hcb hcap) e8 0 (by decide) (by decide) (by decide) (by decide) (g := (mkF m 36 #[.val (.ref a1), .val (.ref a2), .val (.int (0 : Int32)), .val (.int n), .val .null, .unset] [(.int n), (.int (0 : Int32)), (.ref a2)])) rfl (by rw [hml]; rfl) (lenOf pd_1 rfl) rfl (by show 2 * 0 + _ ≤ _; exact Nat.le_of_eq rfl) (hb hby d4_36)
    obtain ⟨h9, e9⟩ : ∃ z, T9.heap = z := ⟨_, rfl⟩
    rw [e9] at hQ9
    obtain ⟨⟨t9, rfl, sz9, Vq9⟩, Nq9, Kq9⟩ := hQ9
    have N9 := Fr.app N0 Nq9
    have ne_a1_t9 : a1 ≠ t9 := Nat.ne_of_lt (Nat.lt_of_lt_of_le E_a1.lt sz9)
    have ne_a2_t9 : a2 ≠ t9 := Nat.ne_of_lt (Nat.lt_of_lt_of_le V2.lt sz9)
    have g_t9 : n0 ≤ t9 := Nat.le_trans Zn sz9
    have sz_t9 : h0.size ≤ t9 := Nat.le_trans K.1 sz9
    have hsf : ∀ x ∈ ([] : List Addr), Safe Z consts_1 vm0 h0 x := sf0
    replace SF_a1 := Safe.keep Kq9 hsf CH SF_a1
    replace CR := CR.trans (CHr.keep Kq9 hsf CH)
    replace CH := CH.keep Kq9 hsf
    replace hk := Nat.le_trans hk Kq9.1
    clear hsf
    replace E_a1 := E_a1.keep Kq9
    replace F_value_a1 := F_value_a1.keep Kq9 nin0
    replace F_coder_a1 := F_coder_a1.keep Kq9 nin0
    replace V2 := V2.keep Kq9 nin0
    replace O := O.keep Kq9 all0
    replace K := K.trans Kq9 all0
    replace Zn := Nat.le_trans Zn Kq9.1
    refine Go.st st9 ?_
    show Go p.tables e below PP (T9.setTop (mkF m 39 #[.val (.ref a1), .val (.ref a2), .val (.int (0 : Int32)), .val (.int n), .val .null, .unset] [(.ref t9)]))
    refine Go.st (fun t k => XS.astore X9.here hx rfl (hb hby d4_39) rfl rfl (l' := #[.val (.ref a1), .val (.ref a2), .val (.int (0 : Int32)), .val (.int n), .val .null, .val (.ref t9)]) rfl k) ?_
    show Go p.tables e below PP (T9.setTop (mkF m 41 #[.val (.ref a1), .val (.ref a2), .val (.int (0 : Int32)), .val (.int n), .val .null, .val (.ref t9)] []))
    refine Go.st (fun t k => XS.aloadN X9.here hx rfl (hb hby d4_41) rfl rfl k) ?_
    show Go p.tables e below PP (T9.setTop (mkF m 42 #[.val (.ref a1), .val (.ref a2), .val (.int (0 : Int32)), .val (.int n), .val .null, .val (.ref t9)] [(.ref a1)]))
    refine Go.st (fun t k => XS.aload X9.here hx rfl (hb hby d4_42) rfl rfl k) ?_
    show Go p.tables e below PP (T9.setTop (mkF m 44 #[.val (.ref a1), .val (.ref a2), .val (.int (0 : Int32)), .val (.int n), .val .null, .val (.ref t9)] [(.ref t9), (.ref a1)]))
    refine Go.st (fun t k => XS.iloadN X9.here hx rfl (hb hby d4_44) rfl k) ?_
    show Go p.tables e below PP (T9.setTop (mkF m 45 #[.val (.ref a1), .val (.ref a2), .val (.int (0 : Int32)), .val (.int n), .val .null, .val (.ref t9)] [(.int n), (.ref t9), (.ref a1)]))
    obtain ⟨v10, T10, L10, X10, hQ10, st10⟩ := callSt X9 hx hZ (y := (⟨"java/lang/StringUTF16", "coderFromArrayLen", "([BI)B"⟩ : MethodName)) (argsL := [(.ref t9), (.int n)]) (rest := [(.ref a1)]) hown (hw _ (List.mem_of_getElem? (i := 88) rfl)) (hw _ (List.mem_of_getElem? (i := 89) rfl)) (hw _ (List.mem_of_getElem? (i := 83) rfl)) (hw _ (List.mem_of_getElem? (i := 90) rfl)) (by decide) (rm20 l Z a0 hw [] t9 n _ h9 n0 Zn Vq9) e9 1 (by decide) (by decide) (by decide) (by decide) (g := (mkF m 45 #[.val (.ref a1), .val (.ref a2), .val (.int (0 : Int32)), .val (.int n), .val .null, .val (.ref t9)] [(.int n), (.ref t9), (.ref a1)])) rfl (by rw [hml]; rfl) (lenOf pd_2 rfl) rfl (by show 2 * 0 + _ ≤ _; exact Nat.le_of_eq rfl) (hb hby d4_45)
    obtain ⟨rfl, rfl, e10⟩ := hQ10
    rw [List.append_nil] at X10
    refine Go.st st10 ?_
    show Go p.tables e below PP (T10.setTop (mkF m 48 #[.val (.ref a1), .val (.ref a2), .val (.int (0 : Int32)), .val (.int n), .val .null, .val (.ref t9)] [(.int (0 : Int32)), (.ref a1)]))
    obtain ⟨T11, h11, X11, e11, W11, st11⟩ := putFN X10 hx hZ hown (hw _ (List.mem_of_getElem? (i := 29) rfl)) Via.refl e10 F_coder_a1 E_a1 (Or.inr ⟨(hw _ (List.mem_of_getElem? (i := 25) rfl)), rfl, hnm⟩) (hw _ (List.mem_of_getElem? (i := 9) rfl)) (ty := .byte) (v' := (.int (0 : Int32))) (by decide) rfl (by decide) (g := (mkF m 48 #[.val (.ref a1), .val (.ref a2), .val (.int (0 : Int32)), .val (.int n), .val .null, .val (.ref t9)] [(.int (0 : Int32)), (.ref a1)])) rfl rfl (hb hby d4_48)
    refine Go.st st11 ?_
    have N11 := Fr.snoc X11 N9 g_a1
    replace E_a1 := E_a1.wr W11
    replace F_value_a1 := F_value_a1.other W11 (Or.inr (slot_ne (a0 := a0) (Or.inr (hw _ (List.mem_of_getElem? (i := 24) rfl))) (Or.inr (hw _ (List.mem_of_getElem? (i := 25) rfl))) (by decide) (t := (.array .byte)) (t' := .byte) (by decide) (by decide)))
    replace V2 := V2.other W11 (Ne.symm hne)
    replace Vq9 := Vq9.other W11 (Ne.symm ne_a1_t9)
    replace CR := CR.trans (CHr.wr W11 SF_a1 CH)
    have CH' := CH.wr W11 SF_a1
    replace SF_a1 := Safe.wr W11 SF_a1 CH SF_a1
    replace CH := CH'
    clear CH'
    replace hk : k0 ≤ h11.size := by rw [W11.size]; exact hk
    replace O := O.wr W11 g_a1
    replace K := K.wr W11 (Or.inl (List.mem_of_getElem? (i := 0) rfl))
    replace Zn : n0 ≤ h11.size := by rw [W11.size]; exact Zn
    replace F_coder_a1 := F_coder_a1.same W11
    show Go p.tables e below PP (T11.setTop (mkF m 51 #[.val (.ref a1), .val (.ref a2), .val (.int (0 : Int32)), .val (.int n), .val .null, .val (.ref t9)] []))
    refine Go.st (fun t k => XS.aloadN X11.here hx rfl (hb hby d4_51) rfl rfl k) ?_
    show Go p.tables e below PP (T11.setTop (mkF m 52 #[.val (.ref a1), .val (.ref a2), .val (.int (0 : Int32)), .val (.int n), .val .null, .val (.ref t9)] [(.ref a1)]))
    refine Go.st (fun t k => XS.aload X11.here hx rfl (hb hby d4_52) rfl rfl k) ?_
    show Go p.tables e below PP (T11.setTop (mkF m 54 #[.val (.ref a1), .val (.ref a2), .val (.int (0 : Int32)), .val (.int n), .val .null, .val (.ref t9)] [(.ref t9), (.ref a1)]))
    obtain ⟨T12, h12, X12, e12, W12, st12⟩ := putF X11 hx hZ hown (host := "") (Or.inl (hw _ (List.mem_of_getElem? (i := 28) rfl))) Via.refl e11 F_value_a1 E_a1 (Or.inr ⟨(hw _ (List.mem_of_getElem? (i := 24) rfl)), rfl, hnm⟩) (hw _ (List.mem_of_getElem? (i := 9) rfl)) (ty := (.array .byte)) (by decide) rfl rfl (g := (mkF m 54 #[.val (.ref a1), .val (.ref a2), .val (.int (0 : Int32)), .val (.int n), .val .null, .val (.ref t9)] [(.ref t9), (.ref a1)])) rfl rfl (hb hby d4_54)
    refine Go.st st12 ?_
    have N12 := Fr.snoc X12 N11 g_a1
    replace E_a1 := E_a1.wr W12
    replace F_coder_a1 := F_coder_a1.other W12 (Or.inr (slot_ne (a0 := a0) (Or.inr (hw _ (List.mem_of_getElem? (i := 25) rfl))) (Or.inr (hw _ (List.mem_of_getElem? (i := 24) rfl))) (by decide) (t := .byte) (t' := (.array .byte)) (by decide) (by decide)))
    replace V2 := V2.other W12 (Ne.symm hne)
    replace Vq9 := Vq9.other W12 (Ne.symm ne_a1_t9)
    replace CR := CR.trans (CHr.wr W12 SF_a1 CH)
    have CH' := CH.wr W12 SF_a1
    replace SF_a1 := Safe.wr W12 SF_a1 CH SF_a1
    replace CH := CH'
    clear CH'
    replace hk : k0 ≤ h12.size := by rw [W12.size]; exact hk
    replace O := O.wr W12 g_a1
    replace K := K.wr W12 (Or.inl (List.mem_of_getElem? (i := 0) rfl))
    replace Zn : n0 ≤ h12.size := by rw [W12.size]; exact Zn
    replace F_value_a1 := F_value_a1.same W12
    show Go p.tables e below PP (T12.setTop (mkF m 57 #[.val (.ref a1), .val (.ref a2), .val (.int (0 : Int32)), .val (.int n), .val .null, .val (.ref t9)] []))
    rw [hPP]
    refine endVW X12 hx hlk hZ hS e12 hk hEL CH CR hret (hb hby d4_57) ?_ (by decide) (by decide)
    show QSI Z a1 a2 n cf zc h0 n0 none T12.heap _
    rw [e12]
    exact ⟨rfl, N12, K, E_a1, F_coder_a1, _, F_value_a1, Vq9⟩
theorem d3_0 : decode jdk_42_method_3_code 0 = .ok (.aload_n 0, 1) := by decide +kernel
theorem d3_1 : decode jdk_42_method_3_code 1 = .ok (.aload_n 1, 1) := by decide +kernel
theorem d3_2 : decode jdk_42_method_3_code 2 = .ok (.iconst 0, 1) := by decide +kernel
theorem d3_3 : decode jdk_42_method_3_code 3 = .ok (.aload_n 1, 1) := by decide +kernel
theorem d3_4 : decode jdk_42_method_3_code 4 = .ok (.arraylength, 1) := by decide +kernel
theorem d3_5 : decode jdk_42_method_3_code 5 = .ok (.aconst_null, 1) := by decide +kernel
theorem d3_6 : decode jdk_42_method_3_code 6 = .ok (.invokespecial 27, 3) := by decide +kernel
theorem d3_9 : decode jdk_42_method_3_code 9 = .ok (.return_, 1) := by decide +kernel
theorem pn_rmS1 : plainName "java/lang/String" = true := by first | (simp [plainName, overriddenIn]; done) | decide +kernel
theorem ef_rmS1 (m : MethodId) (a1 : Addr) (a2 : Addr) : entryFrame m #[(.ref a1), (.ref a2)] 2 = mkF m 0 #[.val (.ref a1), .val (.ref a2)] [] := by first | (simp [entryFrame, mkF, argsToLocals, Value.category]; done) | rfl
def QS1 (Z : State) (a1 : Addr) (a2 : Addr) (n : Int32) (cf : Nat → Int32) (zc : Int32) (h0 : Heap) (n0 : Nat) (v : Option Value) (h : Heap) (L : List Loc) : Prop := v = none ∧ Fr n0 L ∧ Keep h0 h [a1] ∧ Exa Z h a1 "java/lang/String" ∧ Fld Z h a1 "java/lang/String" "coder" "B" (.int (0 : Int32)) ∧ ∃ t : Addr, Fld Z h a1 "java/lang/String" "value" "[B" (.ref t) ∧ Afn Z h t .byte n (fun k => .int ((cf k).toInt8.toInt32))
theorem pd_3 : parseMethodDescriptor "([CIILjava/lang/Void;)V" = some ⟨[(.array .char), .int, .int, (.object "java/lang/Void")], none⟩ := by decide +kernel
set_option maxRecDepth 65536 in
set_option maxHeartbeats 40000000 in
theorem rmS1 (l : Launch) (Z : State) (a0 : Array Value) (hw : ∀ d ∈ tables_1, d.before a0 Z = true) (ws : List Jvm.Cond) (a1 : Addr) (a2 : Addr) (n : Int32) (cf : Nat → Int32) (zc : Int32) (h0 : Heap) (n0 : Nat) (Z0 : n0 ≤ h0.size) (hEL : EW Z a0 consts_1) (E_a1 : Exa Z h0 a1 "java/lang/String") (F_value_a1 : Fld Z h0 a1 "java/lang/String" "value" "[B" .null) (F_coder_a1 : Fld Z h0 a1 "java/lang/String" "coder" "B" (.int (0 : Int32))) (g_a1 : n0 ≤ a1) (V2 : Afn Z h0 a2 .char n (fun k => .int (cf k))) (hcb : ∀ k, k < n.toNatClampNeg → ¬ cf k < (0 : Int32) ∧ ¬ (255 : Int32) < cf k) (hcap : n.toNatClampNeg ≤ 5) (hne : a1 ≠ a2) (SC : Sta Z Z.heap "java/lang/String" "COMPACT_STRINGS" "Z" (.int zc)) (hzc : ¬ zc = (0 : Int32)) (O : Old Z n0 h0) :
    ConH l Z consts_1 (⟨"java/lang/String", "<init>", "([C)V"⟩ : MethodName) jdk_42_method_3_code 2 none ws ({ frames := 3, cells := 4, slots := 8, locals := 54 } : Room) #[(.ref a1), (.ref a2)] h0 (QS1 Z a1 a2 n cf zc h0 n0) := by
  refine ConH.of (plainFor_of_name pn_rmS1) ?_
  intro p e s m below meth c s₁ vm0 k0 hZ e0 X0 hx hby hml hown hnm hret hlk hS hk CH CR
  replace hml : c.maxLocals = 2 := hml
  have hown : vm0.findClass "java/lang/String" = some m.cls := hown
  have N0 : Fr n0 [] := Fr.nil n0
  obtain ⟨PP, hPP⟩ : ∃ P, P = FineW Z consts_1 s below (QS1 Z a1 a2 n cf zc h0 n0) ({ frames := 3, cells := 4, slots := 8, locals := 54 } : Room).cells ({ frames := 3, cells := 4, slots := 8, locals := 54 } : Room).slots := ⟨_, rfl⟩
  rw [← hPP]
  refine Go.cast (ef_rmS1 m a1 a2) ?_
  have K : Keep h0 h0 [a1] := Keep.refl h0 _
  have Zn : n0 ≤ h0.size := Z0
  have SF_a1 : Safe Z consts_1 vm0 h0 a1 := safe_str hZ.alike E_a1 F_value_a1
  show Go p.tables e below PP (s₁.setTop (mkF m 0 #[.val (.ref a1), .val (.ref a2)] []))
  refine Go.st (fun t k => XS.aloadN X0.here hx rfl (hb hby d3_0) rfl rfl k) ?_
  show Go p.tables e below PP (s₁.setTop (mkF m 1 #[.val (.ref a1), .val (.ref a2)] [(.ref a1)]))
  refine Go.st (fun t k => XS.aloadN X0.here hx rfl (hb hby d3_1) rfl rfl k) ?_
  show Go p.tables e below PP (s₁.setTop (mkF m 2 #[.val (.ref a1), .val (.ref a2)] [(.ref a2), (.ref a1)]))
  refine Go.st (fun t k => XS.iconst X0.here hx rfl (hb hby d3_2) k) ?_
  show Go p.tables e below PP (s₁.setTop (mkF m 3 #[.val (.ref a1), .val (.ref a2)] [(.int (0 : Int32)), (.ref a2), (.ref a1)]))
  refine Go.st (fun t k => XS.aloadN X0.here hx rfl (hb hby d3_3) rfl rfl k) ?_
  show Go p.tables e below PP (s₁.setTop (mkF m 4 #[.val (.ref a1), .val (.ref a2)] [(.ref a2), (.int (0 : Int32)), (.ref a2), (.ref a1)]))
  obtain ⟨cl1, Ar1, S1, Nn1, -⟩ := id V2
  refine Go.st (fun t k => X0.arraylength hx (by rw [e0]; exact Ar1.1) (State.isArrayOf_alike hZ.alike Ar1.2.1) (g := (mkF m 4 #[.val (.ref a1), .val (.ref a2)] [(.ref a2), (.int (0 : Int32)), (.ref a2), (.ref a1)])) rfl rfl (hb hby d3_4) _ k) ?_
  rw [len_of S1 Nn1]
  show Go p.tables e below PP (s₁.setTop (mkF m 5 #[.val (.ref a1), .val (.ref a2)] [(.int n), (.int (0 : Int32)), (.ref a2), (.ref a1)]))
  refine Go.st (fun t k => XS.aconstNull X0.here hx rfl (hb hby d3_5) k) ?_
  show Go p.tables e below PP (s₁.setTop (mkF m 6 #[.val (.ref a1), .val (.ref a2)] [.null, (.int n), (.int (0 : Int32)), (.ref a2), (.ref a1)]))
  have hZ0 := hZ
  have hown0 := hown
  clear hZ hown
  obtain ⟨v2, T2, L2, X2, hQ2, hC2, hSn2, hZ, hown, st2⟩ := callInW X0 hx hZ0 (y := (⟨"java/lang/String", "<init>", "([CIILjava/lang/Void;)V"⟩ : MethodName)) (a := a1) (argsL := [(.ref a2), (.int (0 : Int32)), (.int n), .null]) (rest := []) rfl hown0 (hw _ (List.mem_of_getElem? (i := 15) rfl)) (hw _ (List.mem_of_getElem? (i := 16) rfl)) (hw _ (List.mem_of_getElem? (i := 10) rfl)) (hw _ (List.mem_of_getElem? (i := 18) rfl)) (by decide) (rmSI l Z a0 hw [] a1 a2 n cf zc h0 n0 Zn hEL E_a1 F_value_a1 F_coder_a1 g_a1 V2 hcb hcap hne SC hzc O) e0 hEL CH hS hk 0 (by decide) (by decide) (by decide) (by decide) (g := (mkF m 6 #[.val (.ref a1), .val (.ref a2)] [.null, (.int n), (.int (0 : Int32)), (.ref a2), (.ref a1)])) rfl (by rw [hml]; rfl) (lenOf pd_3 rfl) rfl (by show 2 * 0 + _ ≤ _; exact Nat.le_of_eq rfl) (hb hby d3_6)
  clear hZ0 hown0
  replace hS := hSn2
  obtain ⟨h2, e2⟩ : ∃ z, T2.heap = z := ⟨_, rfl⟩
  rw [e2] at hQ2 hC2
  replace SF_a1 := hC2.safe E_a1.lt SF_a1
  replace CR := CR.trans hC2
  replace CH := hC2.1
  replace hk : T2.heap.size ≤ h2.size := by rw [e2]; exact Nat.le_refl _
  obtain ⟨rfl, Nq2, Kq2, Eq2, Cq2, t2, Fq2, Vq2⟩ := hQ2
  have N2 := Fr.app N0 Nq2
  replace E_a1 := E_a1.keep Kq2
  clear F_value_a1
  clear F_coder_a1
  replace V2 := V2.keep Kq2 (ninS (Ne.symm hne) nin0)
  replace O := O.keep Kq2 (allS g_a1 all0)
  replace K := K.trans Kq2 (allS (Or.inl (List.mem_of_getElem? (i := 0) rfl)) all0)
  replace Zn := Nat.le_trans Zn Kq2.1
  replace E_a1 := Eq2
  have F_value_a1 := Fq2
  have F_coder_a1 := Cq2
  refine Go.st st2 ?_
  show Go p.tables e below PP (T2.setTop (mkF m 9 #[.val (.ref a1), .val (.ref a2)] []))
  rw [hPP]
  refine endVW X2 hx hlk hZ hS e2 hk hEL CH CR hret (hb hby d3_9) ?_ (by decide) (by decide)
  show QS1 Z a1 a2 n cf zc h0 n0 none T2.heap _
  rw [e2]
  exact ⟨rfl, N2, K, E_a1, F_coder_a1, _, F_value_a1, Vq2⟩
theorem d12_0 : decode jdk_42_method_152_code 0 = .ok (.getstatic 38, 3) := by decide +kernel
theorem d12_3 : decode jdk_42_method_152_code 3 = .ok (.ifCond .eq 10, 3) := by decide +kernel
theorem d12_6 : decode jdk_42_method_152_code 6 = .ok (.aload_n 0, 1) := by decide +kernel
theorem d12_7 : decode jdk_42_method_152_code 7 = .ok (.getfield 15, 3) := by decide +kernel
theorem d12_10 : decode jdk_42_method_152_code 10 = .ok (.goto 4, 3) := by decide +kernel
theorem d12_13 : decode jdk_42_method_152_code 13 = .ok (.iconst 1, 1) := by decide +kernel
theorem d12_14 : decode jdk_42_method_152_code 14 = .ok (.ireturn, 1) := by decide +kernel
theorem pn_rm12 : plainName "java/lang/String" = true := by first | (simp [plainName, overriddenIn]; done) | decide +kernel
theorem ef_rm12 (m : MethodId) (a1 : Addr) : entryFrame m #[(.ref a1)] 1 = mkF m 0 #[.val (.ref a1)] [] := by first | (simp [entryFrame, mkF, argsToLocals, Value.category]; done) | rfl
def Q12 (Z : State) (a1 : Addr) (zc : Int32) (h0 : Heap) (n0 : Nat) (v : Option Value) (h : Heap) (L : List Loc) : Prop := v = some (.int (0 : Int32)) ∧ L = [] ∧ h = h0
set_option maxRecDepth 65536 in
set_option maxHeartbeats 40000000 in
theorem rm12 (l : Launch) (Z : State) (a0 : Array Value) (hw : ∀ d ∈ tables_1, d.before a0 Z = true) (ws : List Jvm.Cond) (a1 : Addr) (zc : Int32) (h0 : Heap) (n0 : Nat) (Z0 : n0 ≤ h0.size) (F_coder_a1 : Fld Z h0 a1 "java/lang/String" "coder" "B" (.int (0 : Int32))) (SC : Sta Z Z.heap "java/lang/String" "COMPACT_STRINGS" "Z" (.int zc)) (hzc : ¬ zc = (0 : Int32)) (O : Old Z n0 h0) :
    Con l Z (⟨"java/lang/String", "coder", "()B"⟩ : MethodName) jdk_42_method_152_code 1 (some .byte) ws ({ frames := 0, cells := 0, slots := 0, locals := 0 } : Room) #[(.ref a1)] h0 (Q12 Z a1 zc h0 n0) := by
  refine Con.of (plainFor_of_name pn_rm12) ?_
  intro p e s m below meth c s₁ hZ e0 X0 hx hby hml hown hnm hret hlk
  replace hml : c.maxLocals = 1 := hml
  have hown : s.vm.findClass "java/lang/String" = some m.cls := hown
  have N0 : Fr n0 [] := Fr.nil n0
  obtain ⟨PP, hPP⟩ : ∃ P, P = Fine s below (Q12 Z a1 zc h0 n0) ({ frames := 0, cells := 0, slots := 0, locals := 0 } : Room).cells ({ frames := 0, cells := 0, slots := 0, locals := 0 } : Room).slots := ⟨_, rfl⟩
  rw [← hPP]
  refine Go.cast (ef_rm12 m a1) ?_
  have Zn : n0 ≤ h0.size := Z0
  show Go p.tables e below PP (s₁.setTop (mkF m 0 #[.val (.ref a1)] []))
  obtain ⟨T1, X1, e1, st1⟩ := getS2 X0 hx hZ hown (host := "") (Or.inl (hw _ (List.mem_of_getElem? (i := 52) rfl))) Via.refl e0 (SC.ext O.2) (g := (mkF m 0 #[.val (.ref a1)] [])) rfl (hb hby d12_0)
  refine Go.st st1 ?_
  show Go p.tables e below PP (T1.setTop (mkF m 3 #[.val (.ref a1)] [(.int zc)]))
  refine Go.st (fun t k => XS.ifNo X1.here hx rfl (hb hby d12_3) rfl (XT.i0_eq_f hzc) k) ?_
  show Go p.tables e below PP (T1.setTop (mkF m 6 #[.val (.ref a1)] []))
  refine Go.st (fun t k => XS.aloadN X1.here hx rfl (hb hby d12_6) rfl rfl k) ?_
  show Go p.tables e below PP (T1.setTop (mkF m 7 #[.val (.ref a1)] [(.ref a1)]))
  obtain ⟨T2, X2, e2, st2⟩ := getF X1 hx hZ hown (host := "") (Or.inl (hw _ (List.mem_of_getElem? (i := 29) rfl))) Via.refl e1 F_coder_a1 (g := (mkF m 7 #[.val (.ref a1)] [(.ref a1)])) rfl rfl (hb hby d12_7)
  refine Go.st st2 ?_
  show Go p.tables e below PP (T2.setTop (mkF m 10 #[.val (.ref a1)] [(.int (0 : Int32))]))
  refine Go.st (fun t k => XS.goto X2.here hx rfl (pc0 := 10) (pc' := 14) rfl (hb hby d12_10) (by decide) (by decide) k) ?_
  show Go p.tables e below PP (T2.setTop (mkF m 14 #[.val (.ref a1)] [(.int (0 : Int32))]))
  rw [hPP]
  refine endN X2 hx hlk (t := .byte) hret (by simp) (hb hby d12_14) (w := (0 : Int32)) (rfl) ?_ (by decide) (by decide)
  show Q12 Z a1 zc h0 n0 (some (.int (0 : Int32))) T2.heap _
  rw [e2]
  exact ⟨rfl, rfl, rfl⟩
theorem d10_0 : decode jdk_42_method_154_code 0 = .ok (.getstatic 38, 3) := by decide +kernel
theorem d10_3 : decode jdk_42_method_154_code 3 = .ok (.ifCond .eq 14, 3) := by decide +kernel
theorem d10_6 : decode jdk_42_method_154_code 6 = .ok (.aload_n 0, 1) := by decide +kernel
theorem d10_7 : decode jdk_42_method_154_code 7 = .ok (.getfield 15, 3) := by decide +kernel
theorem d10_10 : decode jdk_42_method_154_code 10 = .ok (.ifCond .ne 7, 3) := by decide +kernel
theorem d10_13 : decode jdk_42_method_154_code 13 = .ok (.iconst 1, 1) := by decide +kernel
theorem d10_14 : decode jdk_42_method_154_code 14 = .ok (.goto 4, 3) := by decide +kernel
theorem d10_17 : decode jdk_42_method_154_code 17 = .ok (.iconst 0, 1) := by decide +kernel
theorem d10_18 : decode jdk_42_method_154_code 18 = .ok (.ireturn, 1) := by decide +kernel
theorem pn_rm10 : plainName "java/lang/String" = true := by first | (simp [plainName, overriddenIn]; done) | decide +kernel
theorem ef_rm10 (m : MethodId) (a1 : Addr) : entryFrame m #[(.ref a1)] 1 = mkF m 0 #[.val (.ref a1)] [] := by first | (simp [entryFrame, mkF, argsToLocals, Value.category]; done) | rfl
def Q10 (Z : State) (a1 : Addr) (zc : Int32) (h0 : Heap) (n0 : Nat) (v : Option Value) (h : Heap) (L : List Loc) : Prop := v = some (.int (1 : Int32)) ∧ L = [] ∧ h = h0
set_option maxRecDepth 65536 in
set_option maxHeartbeats 40000000 in
theorem rm10 (l : Launch) (Z : State) (a0 : Array Value) (hw : ∀ d ∈ tables_1, d.before a0 Z = true) (ws : List Jvm.Cond) (a1 : Addr) (zc : Int32) (h0 : Heap) (n0 : Nat) (Z0 : n0 ≤ h0.size) (F_coder_a1 : Fld Z h0 a1 "java/lang/String" "coder" "B" (.int (0 : Int32))) (SC : Sta Z Z.heap "java/lang/String" "COMPACT_STRINGS" "Z" (.int zc)) (hzc : ¬ zc = (0 : Int32)) (O : Old Z n0 h0) :
    Con l Z (⟨"java/lang/String", "isLatin1", "()Z"⟩ : MethodName) jdk_42_method_154_code 1 (some .boolean) ws ({ frames := 0, cells := 0, slots := 0, locals := 0 } : Room) #[(.ref a1)] h0 (Q10 Z a1 zc h0 n0) := by
  refine Con.of (plainFor_of_name pn_rm10) ?_
  intro p e s m below meth c s₁ hZ e0 X0 hx hby hml hown hnm hret hlk
  replace hml : c.maxLocals = 1 := hml
  have hown : s.vm.findClass "java/lang/String" = some m.cls := hown
  have N0 : Fr n0 [] := Fr.nil n0
  obtain ⟨PP, hPP⟩ : ∃ P, P = Fine s below (Q10 Z a1 zc h0 n0) ({ frames := 0, cells := 0, slots := 0, locals := 0 } : Room).cells ({ frames := 0, cells := 0, slots := 0, locals := 0 } : Room).slots := ⟨_, rfl⟩
  rw [← hPP]
  refine Go.cast (ef_rm10 m a1) ?_
  have Zn : n0 ≤ h0.size := Z0
  show Go p.tables e below PP (s₁.setTop (mkF m 0 #[.val (.ref a1)] []))
  obtain ⟨T1, X1, e1, st1⟩ := getS2 X0 hx hZ hown (host := "") (Or.inl (hw _ (List.mem_of_getElem? (i := 52) rfl))) Via.refl e0 (SC.ext O.2) (g := (mkF m 0 #[.val (.ref a1)] [])) rfl (hb hby d10_0)
  refine Go.st st1 ?_
  show Go p.tables e below PP (T1.setTop (mkF m 3 #[.val (.ref a1)] [(.int zc)]))
  refine Go.st (fun t k => XS.ifNo X1.here hx rfl (hb hby d10_3) rfl (XT.i0_eq_f hzc) k) ?_
  show Go p.tables e below PP (T1.setTop (mkF m 6 #[.val (.ref a1)] []))
  refine Go.st (fun t k => XS.aloadN X1.here hx rfl (hb hby d10_6) rfl rfl k) ?_
  show Go p.tables e below PP (T1.setTop (mkF m 7 #[.val (.ref a1)] [(.ref a1)]))
  obtain ⟨T2, X2, e2, st2⟩ := getF X1 hx hZ hown (host := "") (Or.inl (hw _ (List.mem_of_getElem? (i := 29) rfl))) Via.refl e1 F_coder_a1 (g := (mkF m 7 #[.val (.ref a1)] [(.ref a1)])) rfl rfl (hb hby d10_7)
  refine Go.st st2 ?_
  show Go p.tables e below PP (T2.setTop (mkF m 10 #[.val (.ref a1)] [(.int (0 : Int32))]))
  refine Go.st (fun t k => XS.ifNo X2.here hx rfl (hb hby d10_10) rfl (XT.i0_ne_f (by decide)) k) ?_
  show Go p.tables e below PP (T2.setTop (mkF m 13 #[.val (.ref a1)] []))
  refine Go.st (fun t k => XS.iconst X2.here hx rfl (hb hby d10_13) k) ?_
  show Go p.tables e below PP (T2.setTop (mkF m 14 #[.val (.ref a1)] [(.int (1 : Int32))]))
  refine Go.st (fun t k => XS.goto X2.here hx rfl (pc0 := 14) (pc' := 18) rfl (hb hby d10_14) (by decide) (by decide) k) ?_
  show Go p.tables e below PP (T2.setTop (mkF m 18 #[.val (.ref a1)] [(.int (1 : Int32))]))
  rw [hPP]
  refine endN X2 hx hlk (t := .boolean) hret (by simp) (hb hby d10_18) (w := (1 : Int32)) (rfl) ?_ (by decide) (by decide)
  show Q10 Z a1 zc h0 n0 (some (.int (1 : Int32))) T2.heap _
  rw [e2]
  exact ⟨rfl, rfl, rfl⟩
theorem own_shr0 (n : Int32) : n >>> ((0 : Int32) &&& 31) = n := Int32.toInt_inj.mp (by rw [c_ishr n 0 0 (by decide)]; simp)
theorem d11_0 : decode jdk_42_method_54_code 0 = .ok (.aload_n 0, 1) := by decide +kernel
theorem d11_1 : decode jdk_42_method_54_code 1 = .ok (.getfield 9, 3) := by decide +kernel
theorem d11_4 : decode jdk_42_method_54_code 4 = .ok (.arraylength, 1) := by decide +kernel
theorem d11_5 : decode jdk_42_method_54_code 5 = .ok (.aload_n 0, 1) := by decide +kernel
theorem d11_6 : decode jdk_42_method_54_code 6 = .ok (.invokevirtual 335, 3) := by decide +kernel
theorem d11_9 : decode jdk_42_method_54_code 9 = .ok (.ishr, 1) := by decide +kernel
theorem d11_10 : decode jdk_42_method_54_code 10 = .ok (.ireturn, 1) := by decide +kernel
theorem pn_rm11 : plainName "java/lang/String" = true := by first | (simp [plainName, overriddenIn]; done) | decide +kernel
theorem ef_rm11 (m : MethodId) (a1 : Addr) : entryFrame m #[(.ref a1)] 1 = mkF m 0 #[.val (.ref a1)] [] := by first | (simp [entryFrame, mkF, argsToLocals, Value.category]; done) | rfl
def Q11 (Z : State) (a1 : Addr) (t1 : Addr) (n1 : Int32) (f1 : Nat → Int32) (zc : Int32) (h0 : Heap) (n0 : Nat) (v : Option Value) (h : Heap) (L : List Loc) : Prop := v = some (.int n1) ∧ L = [] ∧ h = h0
theorem pd_4 : parseMethodDescriptor "()B" = some ⟨[], some .byte⟩ := by decide +kernel
set_option maxRecDepth 65536 in
set_option maxHeartbeats 40000000 in
theorem rm11 (l : Launch) (Z : State) (a0 : Array Value) (hw : ∀ d ∈ tables_1, d.before a0 Z = true) (ws : List Jvm.Cond) (a1 : Addr) (t1 : Addr) (n1 : Int32) (f1 : Nat → Int32) (zc : Int32) (h0 : Heap) (n0 : Nat) (Z0 : n0 ≤ h0.size) (F_value_a1 : Fld Z h0 a1 "java/lang/String" "value" "[B" (.ref t1)) (F_coder_a1 : Fld Z h0 a1 "java/lang/String" "coder" "B" (.int (0 : Int32))) (V_t1 : Afn Z h0 t1 .byte n1 (fun k => .int (f1 k))) (E_a1 : Exa Z h0 a1 "java/lang/String") (SC : Sta Z Z.heap "java/lang/String" "COMPACT_STRINGS" "Z" (.int zc)) (hzc : ¬ zc = (0 : Int32)) (O : Old Z n0 h0) :
    Con l Z (⟨"java/lang/String", "length", "()I"⟩ : MethodName) jdk_42_method_54_code 1 (some .int) ws ({ frames := 1, cells := 0, slots := 0, locals := 13 } : Room) #[(.ref a1)] h0 (Q11 Z a1 t1 n1 f1 zc h0 n0) := by
  refine Con.of (plainFor_of_name pn_rm11) ?_
  intro p e s m below meth c s₁ hZ e0 X0 hx hby hml hown hnm hret hlk
  replace hml : c.maxLocals = 1 := hml
  have hown : s.vm.findClass "java/lang/String" = some m.cls := hown
  have N0 : Fr n0 [] := Fr.nil n0
  obtain ⟨PP, hPP⟩ : ∃ P, P = Fine s below (Q11 Z a1 t1 n1 f1 zc h0 n0) ({ frames := 1, cells := 0, slots := 0, locals := 13 } : Room).cells ({ frames := 1, cells := 0, slots := 0, locals := 13 } : Room).slots := ⟨_, rfl⟩
  rw [← hPP]
  refine Go.cast (ef_rm11 m a1) ?_
  have Zn : n0 ≤ h0.size := Z0
  show Go p.tables e below PP (s₁.setTop (mkF m 0 #[.val (.ref a1)] []))
  refine Go.st (fun t k => XS.aloadN X0.here hx rfl (hb hby d11_0) rfl rfl k) ?_
  show Go p.tables e below PP (s₁.setTop (mkF m 1 #[.val (.ref a1)] [(.ref a1)]))
  obtain ⟨T1, X1, e1, st1⟩ := getF X0 hx hZ hown (host := "") (Or.inl (hw _ (List.mem_of_getElem? (i := 28) rfl))) Via.refl e0 F_value_a1 (g := (mkF m 1 #[.val (.ref a1)] [(.ref a1)])) rfl rfl (hb hby d11_1)
  refine Go.st st1 ?_
  show Go p.tables e below PP (T1.setTop (mkF m 4 #[.val (.ref a1)] [(.ref t1)]))
  obtain ⟨cl2, Ar2, S2, Nn2, -⟩ := id V_t1
  refine Go.st (fun t k => X1.arraylength hx (by rw [e1]; exact Ar2.1) (State.isArrayOf_alike hZ.alike Ar2.2.1) (g := (mkF m 4 #[.val (.ref a1)] [(.ref t1)])) rfl rfl (hb hby d11_4) _ k) ?_
  rw [len_of S2 Nn2]
  show Go p.tables e below PP (T1.setTop (mkF m 5 #[.val (.ref a1)] [(.int n1)]))
  refine Go.st (fun t k => XS.aloadN X1.here hx rfl (hb hby d11_5) rfl rfl k) ?_
  show Go p.tables e below PP (T1.setTop (mkF m 6 #[.val (.ref a1)] [(.ref a1), (.int n1)]))
  obtain ⟨v3, T3, L3, X3, hQ3, st3⟩ := callVi X1 hx hZ (C := "java/lang/String") (y := (⟨"java/lang/String", "coder", "()B"⟩ : MethodName)) (z := (⟨"java/lang/String", "coder", "()B"⟩ : MethodName)) (a := a1) (argsL := []) (rest := [(.int n1)]) hown (hw _ (List.mem_of_getElem? (i := 58) rfl)) (hw _ (List.mem_of_getElem? (i := 59) rfl)) (notFace_of_selects (args := #[]) (mvT hZ (hw _ (List.mem_of_getElem? (i := 61) rfl)))) (hw _ (List.mem_of_getElem? (i := 61) rfl)) (hw _ (List.mem_of_getElem? (i := 60) rfl)) (hw _ (List.mem_of_getElem? (i := 10) rfl)) (hw _ (List.mem_of_getElem? (i := 62) rfl)) (by decide) rfl E_a1 (rm12 l Z a0 hw [] a1 zc h0 n0 Zn F_coder_a1 SC hzc O) e1 1 (by decide) (by decide) (by decide) (by decide) (g := (mkF m 6 #[.val (.ref a1)] [(.ref a1), (.int n1)])) rfl (by rw [hml]; rfl) (lenOf pd_4 rfl) rfl (by show 2 * 0 + _ ≤ _; exact Nat.le_of_eq rfl) (hb hby d11_6)
  obtain ⟨rfl, rfl, e3⟩ := hQ3
  rw [List.append_nil] at X3
  refine Go.st st3 ?_
  show Go p.tables e below PP (T3.setTop (mkF m 9 #[.val (.ref a1)] [(.int (0 : Int32)), (.int n1)]))
  refine Go.st (fun t k => XS.ishr X3.here hx rfl (hb hby d11_9) rfl k) ?_
  show Go p.tables e below PP (T3.setTop (mkF m 10 #[.val (.ref a1)] [(.int (n1 >>> ((0 : Int32) &&& 31)))]))
  rw [hPP]
  refine endI X3 hx hlk hret (hb hby d11_10) ?_ (by decide) (by decide)
  show Q11 Z a1 t1 n1 f1 zc h0 n0 (some (.int (n1 >>> ((0 : Int32) &&& 31)))) T3.heap _
  rw [e3]
  exact ⟨by rw [own_shr0], rfl, rfl⟩
theorem d14_0 : decode jdk_43_method_4_code 0 = .ok (.iload_n 0, 1) := by decide +kernel
theorem d14_1 : decode jdk_43_method_4_code 1 = .ok (.ifCond .lt 14, 3) := by decide +kernel
theorem d14_4 : decode jdk_43_method_4_code 4 = .ok (.iload_n 0, 1) := by decide +kernel
theorem d14_5 : decode jdk_43_method_4_code 5 = .ok (.sipush 255, 3) := by decide +kernel
theorem d14_8 : decode jdk_43_method_4_code 8 = .ok (.if_icmp .gt 7, 3) := by decide +kernel
theorem d14_11 : decode jdk_43_method_4_code 11 = .ok (.iconst 1, 1) := by decide +kernel
theorem d14_12 : decode jdk_43_method_4_code 12 = .ok (.goto 4, 3) := by decide +kernel
theorem d14_15 : decode jdk_43_method_4_code 15 = .ok (.iconst 0, 1) := by decide +kernel
theorem d14_16 : decode jdk_43_method_4_code 16 = .ok (.ireturn, 1) := by decide +kernel
theorem pn_rm14 : plainName "java/lang/StringLatin1" = true := by first | (simp [plainName, overriddenIn]; done) | decide +kernel
theorem ef_rm14 (m : MethodId) (p1 : Int32) : entryFrame m #[(.int p1)] 1 = mkF m 0 #[.val (.int p1)] [] := by first | (simp [entryFrame, mkF, argsToLocals, Value.category]; done) | rfl
def Q14 (Z : State) (p1 : Int32) (h0 : Heap) (n0 : Nat) (v : Option Value) (h : Heap) (L : List Loc) : Prop := v = some (.int (bi (¬ p1 < (0 : Int32) ∧ ¬ (255 : Int32) < p1))) ∧ L = [] ∧ h = h0
set_option maxRecDepth 65536 in
set_option maxHeartbeats 40000000 in
theorem rm14 (l : Launch) (Z : State) (a0 : Array Value) (hw : ∀ d ∈ tables_1, d.before a0 Z = true) (ws : List Jvm.Cond) (p1 : Int32) (h0 : Heap) (n0 : Nat) (Z0 : n0 ≤ h0.size) :
    Con l Z (⟨"java/lang/StringLatin1", "canEncode", "(I)Z"⟩ : MethodName) jdk_43_method_4_code 1 (some .boolean) ws ({ frames := 0, cells := 0, slots := 0, locals := 0 } : Room) #[(.int p1)] h0 (Q14 Z p1 h0 n0) := by
  refine Con.of (plainFor_of_name pn_rm14) ?_
  intro p e s m below meth c s₁ hZ e0 X0 hx hby hml hown hnm hret hlk
  replace hml : c.maxLocals = 1 := hml
  have hown : s.vm.findClass "java/lang/StringLatin1" = some m.cls := hown
  have N0 : Fr n0 [] := Fr.nil n0
  obtain ⟨PP, hPP⟩ : ∃ P, P = Fine s below (Q14 Z p1 h0 n0) ({ frames := 0, cells := 0, slots := 0, locals := 0 } : Room).cells ({ frames := 0, cells := 0, slots := 0, locals := 0 } : Room).slots := ⟨_, rfl⟩
  rw [← hPP]
  refine Go.cast (ef_rm14 m p1) ?_
  have Zn : n0 ≤ h0.size := Z0
  show Go p.tables e below PP (s₁.setTop (mkF m 0 #[.val (.int p1)] []))
  refine Go.st (fun t k => XS.iloadN X0.here hx rfl (hb hby d14_0) rfl k) ?_
  show Go p.tables e below PP (s₁.setTop (mkF m 1 #[.val (.int p1)] [(.int p1)]))
  by_cases hc1 : p1 < (0 : Int32)
  · --
    refine Go.st (fun t k => XS.ifYes X0.here hx rfl (pc0 := 1) (pc' := 15) rfl (hb hby d14_1) rfl (XT.i0_lt_t hc1) (by decide) (by decide) k) ?_
    show Go p.tables e below PP (s₁.setTop (mkF m 15 #[.val (.int p1)] []))
    refine Go.st (fun t k => XS.iconst X0.here hx rfl (hb hby d14_15) k) ?_
    show Go p.tables e below PP (s₁.setTop (mkF m 16 #[.val (.int p1)] [(.int (0 : Int32))]))
    rw [hPP]
    refine endN X0 hx hlk (t := .boolean) hret (by simp) (hb hby d14_16) (w := (0 : Int32)) (rfl) ?_ (by decide) (by decide)
    show Q14 Z p1 h0 n0 (some (.int (0 : Int32))) s₁.heap _
    rw [e0]
    exact ⟨by simp [bi, hc1], rfl, rfl⟩
  · --
    refine Go.st (fun t k => XS.ifNo X0.here hx rfl (hb hby d14_1) rfl (XT.i0_lt_f hc1) k) ?_
    show Go p.tables e below PP (s₁.setTop (mkF m 4 #[.val (.int p1)] []))
    refine Go.st (fun t k => XS.iloadN X0.here hx rfl (hb hby d14_4) rfl k) ?_
    show Go p.tables e below PP (s₁.setTop (mkF m 5 #[.val (.int p1)] [(.int p1)]))
    refine Go.st (fun t k => XS.sipush X0.here hx rfl (hb hby d14_5) k) ?_
    show Go p.tables e below PP (s₁.setTop (mkF m 8 #[.val (.int p1)] [(.int (255 : Int32)), (.int p1)]))
    by_cases hc8 : (255 : Int32) < p1
    · --
      refine Go.st (fun t k => XS.icmpYes X0.here hx rfl (pc0 := 8) (pc' := 15) rfl (hb hby d14_8) rfl (XT.ii_gt_t hc8) (by decide) (by decide) k) ?_
      show Go p.tables e below PP (s₁.setTop (mkF m 15 #[.val (.int p1)] []))
      refine Go.st (fun t k => XS.iconst X0.here hx rfl (hb hby d14_15) k) ?_
      show Go p.tables e below PP (s₁.setTop (mkF m 16 #[.val (.int p1)] [(.int (0 : Int32))]))
      rw [hPP]
      refine endN X0 hx hlk (t := .boolean) hret (by simp) (hb hby d14_16) (w := (0 : Int32)) (rfl) ?_ (by decide) (by decide)
      show Q14 Z p1 h0 n0 (some (.int (0 : Int32))) s₁.heap _
      rw [e0]
      exact ⟨by simp [bi, hc1, hc8], rfl, rfl⟩
    · --
      refine Go.st (fun t k => XS.icmpNo X0.here hx rfl (hb hby d14_8) rfl (XT.ii_gt_f hc8) k) ?_
      show Go p.tables e below PP (s₁.setTop (mkF m 11 #[.val (.int p1)] []))
      refine Go.st (fun t k => XS.iconst X0.here hx rfl (hb hby d14_11) k) ?_
      show Go p.tables e below PP (s₁.setTop (mkF m 12 #[.val (.int p1)] [(.int (1 : Int32))]))
      refine Go.st (fun t k => XS.goto X0.here hx rfl (pc0 := 12) (pc' := 16) rfl (hb hby d14_12) (by decide) (by decide) k) ?_
      show Go p.tables e below PP (s₁.setTop (mkF m 16 #[.val (.int p1)] [(.int (1 : Int32))]))
      rw [hPP]
      refine endN X0 hx hlk (t := .boolean) hret (by simp) (hb hby d14_16) (w := (1 : Int32)) (rfl) ?_ (by decide) (by decide)
      show Q14 Z p1 h0 n0 (some (.int (1 : Int32))) s₁.heap _
      rw [e0]
      exact ⟨by simp [bi, hc1, hc8], rfl, rfl⟩
theorem d16_0 : decode jdk_29_method_69_code 0 = .ok (.iload_n 0, 1) := by decide +kernel
theorem d16_1 : decode jdk_29_method_69_code 1 = .ok (.iload_n 1, 1) := by decide +kernel
theorem d16_2 : decode jdk_29_method_69_code 2 = .ok (.if_icmp .gt 7, 3) := by decide +kernel
theorem d16_5 : decode jdk_29_method_69_code 5 = .ok (.iload_n 0, 1) := by decide +kernel
theorem d16_6 : decode jdk_29_method_69_code 6 = .ok (.goto 4, 3) := by decide +kernel
theorem d16_9 : decode jdk_29_method_69_code 9 = .ok (.iload_n 1, 1) := by decide +kernel
theorem d16_10 : decode jdk_29_method_69_code 10 = .ok (.ireturn, 1) := by decide +kernel
theorem pn_rm16 : plainFor (⟨"java/lang/Math", "min", "(II)I"⟩ : MethodName) = true := Jvm.Free.JP.mathPlain rfl (by decide +kernel)
theorem ef_rm16 (m : MethodId) (p1 : Int32) (p2 : Int32) : entryFrame m #[(.int p1), (.int p2)] 2 = mkF m 0 #[.val (.int p1), .val (.int p2)] [] := by first | (simp [entryFrame, mkF, argsToLocals, Value.category]; done) | rfl
def Q16 (Z : State) (p1 : Int32) (p2 : Int32) (h0 : Heap) (n0 : Nat) (v : Option Value) (h : Heap) (L : List Loc) : Prop := v = some (.int (if p2 < p1 then p2 else p1)) ∧ L = [] ∧ h = h0
set_option maxRecDepth 65536 in
set_option maxHeartbeats 40000000 in
theorem rm16 (l : Launch) (Z : State) (a0 : Array Value) (hw : ∀ d ∈ tables_1, d.before a0 Z = true) (ws : List Jvm.Cond) (p1 : Int32) (p2 : Int32) (h0 : Heap) (n0 : Nat) (Z0 : n0 ≤ h0.size) :
    Con l Z (⟨"java/lang/Math", "min", "(II)I"⟩ : MethodName) jdk_29_method_69_code 2 (some .int) ws ({ frames := 0, cells := 0, slots := 0, locals := 0 } : Room) #[(.int p1), (.int p2)] h0 (Q16 Z p1 p2 h0 n0) := by
  refine Con.of pn_rm16 ?_
  intro p e s m below meth c s₁ hZ e0 X0 hx hby hml hown hnm hret hlk
  replace hml : c.maxLocals = 2 := hml
  have hown : s.vm.findClass "java/lang/Math" = some m.cls := hown
  have N0 : Fr n0 [] := Fr.nil n0
  obtain ⟨PP, hPP⟩ : ∃ P, P = Fine s below (Q16 Z p1 p2 h0 n0) ({ frames := 0, cells := 0, slots := 0, locals := 0 } : Room).cells ({ frames := 0, cells := 0, slots := 0, locals := 0 } : Room).slots := ⟨_, rfl⟩
  rw [← hPP]
  refine Go.cast (ef_rm16 m p1 p2) ?_
  have Zn : n0 ≤ h0.size := Z0
  show Go p.tables e below PP (s₁.setTop (mkF m 0 #[.val (.int p1), .val (.int p2)] []))
  refine Go.st (fun t k => XS.iloadN X0.here hx rfl (hb hby d16_0) rfl k) ?_
  show Go p.tables e below PP (s₁.setTop (mkF m 1 #[.val (.int p1), .val (.int p2)] [(.int p1)]))
  refine Go.st (fun t k => XS.iloadN X0.here hx rfl (hb hby d16_1) rfl k) ?_
  show Go p.tables e below PP (s₁.setTop (mkF m 2 #[.val (.int p1), .val (.int p2)] [(.int p2), (.int p1)]))
  by_cases hc2 : p2 < p1
  · --
    refine Go.st (fun t k => XS.icmpYes X0.here hx rfl (pc0 := 2) (pc' := 9) rfl (hb hby d16_2) rfl (XT.ii_gt_t hc2) (by decide) (by decide) k) ?_
    show Go p.tables e below PP (s₁.setTop (mkF m 9 #[.val (.int p1), .val (.int p2)] []))
    refine Go.st (fun t k => XS.iloadN X0.here hx rfl (hb hby d16_9) rfl k) ?_
    show Go p.tables e below PP (s₁.setTop (mkF m 10 #[.val (.int p1), .val (.int p2)] [(.int p2)]))
    rw [hPP]
    refine endI X0 hx hlk hret (hb hby d16_10) ?_ (by decide) (by decide)
    show Q16 Z p1 p2 h0 n0 (some (.int p2)) s₁.heap _
    rw [e0]
    exact ⟨by simp [hc2], rfl, rfl⟩
  · --
    refine Go.st (fun t k => XS.icmpNo X0.here hx rfl (hb hby d16_2) rfl (XT.ii_gt_f hc2) k) ?_
    show Go p.tables e below PP (s₁.setTop (mkF m 5 #[.val (.int p1), .val (.int p2)] []))
    refine Go.st (fun t k => XS.iloadN X0.here hx rfl (hb hby d16_5) rfl k) ?_
    show Go p.tables e below PP (s₁.setTop (mkF m 6 #[.val (.int p1), .val (.int p2)] [(.int p1)]))
    refine Go.st (fun t k => XS.goto X0.here hx rfl (pc0 := 6) (pc' := 10) rfl (hb hby d16_6) (by decide) (by decide) k) ?_
    show Go p.tables e below PP (s₁.setTop (mkF m 10 #[.val (.int p1), .val (.int p2)] [(.int p1)]))
    rw [hPP]
    refine endI X0 hx hlk hret (hb hby d16_10) ?_ (by decide) (by decide)
    show Q16 Z p1 p2 h0 n0 (some (.int p1)) s₁.heap _
    rw [e0]
    exact ⟨by simp [hc2], rfl, rfl⟩
theorem d15_0 : decode jdk_29_method_65_code 0 = .ok (.iload_n 0, 1) := by decide +kernel
theorem d15_1 : decode jdk_29_method_65_code 1 = .ok (.iload_n 1, 1) := by decide +kernel
theorem d15_2 : decode jdk_29_method_65_code 2 = .ok (.if_icmp .lt 7, 3) := by decide +kernel
theorem d15_5 : decode jdk_29_method_65_code 5 = .ok (.iload_n 0, 1) := by decide +kernel
theorem d15_6 : decode jdk_29_method_65_code 6 = .ok (.goto 4, 3) := by decide +kernel
theorem d15_9 : decode jdk_29_method_65_code 9 = .ok (.iload_n 1, 1) := by decide +kernel
theorem d15_10 : decode jdk_29_method_65_code 10 = .ok (.ireturn, 1) := by decide +kernel
theorem pn_rm15 : plainFor (⟨"java/lang/Math", "max", "(II)I"⟩ : MethodName) = true := Jvm.Free.JP.mathPlain rfl (by decide +kernel)
theorem ef_rm15 (m : MethodId) (p1 : Int32) (p2 : Int32) : entryFrame m #[(.int p1), (.int p2)] 2 = mkF m 0 #[.val (.int p1), .val (.int p2)] [] := by first | (simp [entryFrame, mkF, argsToLocals, Value.category]; done) | rfl
def Q15 (Z : State) (p1 : Int32) (p2 : Int32) (h0 : Heap) (n0 : Nat) (v : Option Value) (h : Heap) (L : List Loc) : Prop := v = some (.int (if p1 < p2 then p2 else p1)) ∧ L = [] ∧ h = h0
set_option maxRecDepth 65536 in
set_option maxHeartbeats 40000000 in
theorem rm15 (l : Launch) (Z : State) (a0 : Array Value) (hw : ∀ d ∈ tables_1, d.before a0 Z = true) (ws : List Jvm.Cond) (p1 : Int32) (p2 : Int32) (h0 : Heap) (n0 : Nat) (Z0 : n0 ≤ h0.size) :
    Con l Z (⟨"java/lang/Math", "max", "(II)I"⟩ : MethodName) jdk_29_method_65_code 2 (some .int) ws ({ frames := 0, cells := 0, slots := 0, locals := 0 } : Room) #[(.int p1), (.int p2)] h0 (Q15 Z p1 p2 h0 n0) := by
  refine Con.of pn_rm15 ?_
  intro p e s m below meth c s₁ hZ e0 X0 hx hby hml hown hnm hret hlk
  replace hml : c.maxLocals = 2 := hml
  have hown : s.vm.findClass "java/lang/Math" = some m.cls := hown
  have N0 : Fr n0 [] := Fr.nil n0
  obtain ⟨PP, hPP⟩ : ∃ P, P = Fine s below (Q15 Z p1 p2 h0 n0) ({ frames := 0, cells := 0, slots := 0, locals := 0 } : Room).cells ({ frames := 0, cells := 0, slots := 0, locals := 0 } : Room).slots := ⟨_, rfl⟩
  rw [← hPP]
  refine Go.cast (ef_rm15 m p1 p2) ?_
  have Zn : n0 ≤ h0.size := Z0
  show Go p.tables e below PP (s₁.setTop (mkF m 0 #[.val (.int p1), .val (.int p2)] []))
  refine Go.st (fun t k => XS.iloadN X0.here hx rfl (hb hby d15_0) rfl k) ?_
  show Go p.tables e below PP (s₁.setTop (mkF m 1 #[.val (.int p1), .val (.int p2)] [(.int p1)]))
  refine Go.st (fun t k => XS.iloadN X0.here hx rfl (hb hby d15_1) rfl k) ?_
  show Go p.tables e below PP (s₁.setTop (mkF m 2 #[.val (.int p1), .val (.int p2)] [(.int p2), (.int p1)]))
  by_cases hc2 : p1 < p2
  · --
    refine Go.st (fun t k => XS.icmpYes X0.here hx rfl (pc0 := 2) (pc' := 9) rfl (hb hby d15_2) rfl (XT.ii_lt_t hc2) (by decide) (by decide) k) ?_
    show Go p.tables e below PP (s₁.setTop (mkF m 9 #[.val (.int p1), .val (.int p2)] []))
    refine Go.st (fun t k => XS.iloadN X0.here hx rfl (hb hby d15_9) rfl k) ?_
    show Go p.tables e below PP (s₁.setTop (mkF m 10 #[.val (.int p1), .val (.int p2)] [(.int p2)]))
    rw [hPP]
    refine endI X0 hx hlk hret (hb hby d15_10) ?_ (by decide) (by decide)
    show Q15 Z p1 p2 h0 n0 (some (.int p2)) s₁.heap _
    rw [e0]
    exact ⟨by simp [hc2], rfl, rfl⟩
  · --
    refine Go.st (fun t k => XS.icmpNo X0.here hx rfl (hb hby d15_2) rfl (XT.ii_lt_f hc2) k) ?_
    show Go p.tables e below PP (s₁.setTop (mkF m 5 #[.val (.int p1), .val (.int p2)] []))
    refine Go.st (fun t k => XS.iloadN X0.here hx rfl (hb hby d15_5) rfl k) ?_
    show Go p.tables e below PP (s₁.setTop (mkF m 6 #[.val (.int p1), .val (.int p2)] [(.int p1)]))
    refine Go.st (fun t k => XS.goto X0.here hx rfl (pc0 := 6) (pc' := 10) rfl (hb hby d15_6) (by decide) (by decide) k) ?_
    show Go p.tables e below PP (s₁.setTop (mkF m 10 #[.val (.int p1), .val (.int p2)] [(.int p1)]))
    rw [hPP]
    refine endI X0 hx hlk hret (hb hby d15_10) ?_ (by decide) (by decide)
    show Q15 Z p1 p2 h0 n0 (some (.int p1)) s₁.heap _
    rw [e0]
    exact ⟨by simp [hc2], rfl, rfl⟩
theorem d29_0 : decode jdk_42_method_151_code 0 = .ok (.aload_n 0, 1) := by decide +kernel
theorem d29_1 : decode jdk_42_method_151_code 1 = .ok (.invokespecial 1, 3) := by decide +kernel
theorem d29_4 : decode jdk_42_method_151_code 4 = .ok (.aload_n 0, 1) := by decide +kernel
theorem d29_5 : decode jdk_42_method_151_code 5 = .ok (.aload_n 1, 1) := by decide +kernel
theorem d29_6 : decode jdk_42_method_151_code 6 = .ok (.putfield 9, 3) := by decide +kernel
theorem d29_9 : decode jdk_42_method_151_code 9 = .ok (.aload_n 0, 1) := by decide +kernel
theorem d29_10 : decode jdk_42_method_151_code 10 = .ok (.iload_n 2, 1) := by decide +kernel
theorem d29_11 : decode jdk_42_method_151_code 11 = .ok (.putfield 15, 3) := by decide +kernel
theorem d29_14 : decode jdk_42_method_151_code 14 = .ok (.return_, 1) := by decide +kernel
theorem pn_rm29 : plainName "java/lang/String" = true := by first | (simp [plainName, overriddenIn]; done) | decide +kernel
theorem ef_rm29 (m : MethodId) (a1 : Addr) (a2 : Addr) : entryFrame m #[(.ref a1), (.ref a2), (.int (0 : Int32))] 3 = mkF m 0 #[.val (.ref a1), .val (.ref a2), .val (.int (0 : Int32))] [] := by first | (simp [entryFrame, mkF, argsToLocals, Value.category]; done) | rfl
def Q29 (Z : State) (a1 : Addr) (a2 : Addr) (h0 : Heap) (n0 : Nat) (v : Option Value) (h : Heap) (L : List Loc) : Prop := v = none ∧ Fr n0 L ∧ Keep h0 h [a1] ∧ Fld Z h a1 "java/lang/String" "value" "[B" (.ref a2) ∧ Fld Z h a1 "java/lang/String" "coder" "B" (.int (0 : Int32))
set_option maxRecDepth 65536 in
set_option maxHeartbeats 40000000 in
theorem rm29 (l : Launch) (Z : State) (a0 : Array Value) (hw : ∀ d ∈ tables_1, d.before a0 Z = true) (ws : List Jvm.Cond) (a1 : Addr) (a2 : Addr) (h0 : Heap) (n0 : Nat) (Z0 : n0 ≤ h0.size) (E_a1 : Exa Z h0 a1 "java/lang/String") (F_value_a1 : Fld Z h0 a1 "java/lang/String" "value" "[B" .null) (F_coder_a1 : Fld Z h0 a1 "java/lang/String" "coder" "B" (.int (0 : Int32))) (g_a1 : n0 ≤ a1) :
    Con l Z (⟨"java/lang/String", "<init>", "([BB)V"⟩ : MethodName) jdk_42_method_151_code 3 none ws ({ frames := 1, cells := 0, slots := 0, locals := 12 } : Room) #[(.ref a1), (.ref a2), (.int (0 : Int32))] h0 (Q29 Z a1 a2 h0 n0) := by
  refine Con.of (plainFor_of_name pn_rm29) ?_
  intro p e s m below meth c s₁ hZ e0 X0 hx hby hml hown hnm hret hlk
  replace hml : c.maxLocals = 3 := hml
  have hown : s.vm.findClass "java/lang/String" = some m.cls := hown
  have N0 : Fr n0 [] := Fr.nil n0
  obtain ⟨PP, hPP⟩ : ∃ P, P = Fine s below (Q29 Z a1 a2 h0 n0) ({ frames := 1, cells := 0, slots := 0, locals := 12 } : Room).cells ({ frames := 1, cells := 0, slots := 0, locals := 12 } : Room).slots := ⟨_, rfl⟩
  rw [← hPP]
  refine Go.cast (ef_rm29 m a1 a2) ?_
  have K : Keep h0 h0 [a1] := Keep.refl h0 _
  have Zn : n0 ≤ h0.size := Z0
  show Go p.tables e below PP (s₁.setTop (mkF m 0 #[.val (.ref a1), .val (.ref a2), .val (.int (0 : Int32))] []))
  refine Go.st (fun t k => XS.aloadN X0.here hx rfl (hb hby d29_0) rfl rfl k) ?_
  show Go p.tables e below PP (s₁.setTop (mkF m 1 #[.val (.ref a1), .val (.ref a2), .val (.int (0 : Int32))] [(.ref a1)]))
  obtain ⟨T1, X1, e1, st1⟩ := initO X0 hx hZ hown (hw _ (List.mem_of_getElem? (i := 19) rfl)) (hw _ (List.mem_of_getElem? (i := 20) rfl)) (hw _ (List.mem_of_getElem? (i := 21) rfl)) e0 (g := (mkF m 1 #[.val (.ref a1), .val (.ref a2), .val (.int (0 : Int32))] [(.ref a1)])) rfl (by rw [hml]; rfl) rfl (hb hby d29_1) (by decide) (W := 0) (by show 2 * 0 + _ ≤ _; exact Nat.le_of_eq rfl) (by decide)
  refine Go.st st1 ?_
  show Go p.tables e below PP (T1.setTop (mkF m 4 #[.val (.ref a1), .val (.ref a2), .val (.int (0 : Int32))] []))
  refine Go.st (fun t k => XS.aloadN X1.here hx rfl (hb hby d29_4) rfl rfl k) ?_
  show Go p.tables e below PP (T1.setTop (mkF m 5 #[.val (.ref a1), .val (.ref a2), .val (.int (0 : Int32))] [(.ref a1)]))
  refine Go.st (fun t k => XS.aloadN X1.here hx rfl (hb hby d29_5) rfl rfl k) ?_
  show Go p.tables e below PP (T1.setTop (mkF m 6 #[.val (.ref a1), .val (.ref a2), .val (.int (0 : Int32))] [(.ref a2), (.ref a1)]))
  obtain ⟨T2, h2, X2, e2, W2, st2⟩ := putF X1 hx hZ hown (host := "") (Or.inl (hw _ (List.mem_of_getElem? (i := 28) rfl))) Via.refl e1 F_value_a1 E_a1 (Or.inr ⟨(hw _ (List.mem_of_getElem? (i := 24) rfl)), rfl, hnm⟩) (hw _ (List.mem_of_getElem? (i := 9) rfl)) (ty := (.array .byte)) (by decide) rfl rfl (g := (mkF m 6 #[.val (.ref a1), .val (.ref a2), .val (.int (0 : Int32))] [(.ref a2), (.ref a1)])) rfl rfl (hb hby d29_6)
  refine Go.st st2 ?_
  have N2 := Fr.snoc X2 N0 g_a1
  replace E_a1 := E_a1.wr W2
  replace F_coder_a1 := F_coder_a1.other W2 (Or.inr (slot_ne (a0 := a0) (Or.inr (hw _ (List.mem_of_getElem? (i := 25) rfl))) (Or.inr (hw _ (List.mem_of_getElem? (i := 24) rfl))) (by decide) (t := .byte) (t' := (.array .byte)) (by decide) (by decide)))
  replace K := K.wr W2 (Or.inl (List.mem_of_getElem? (i := 0) rfl))
  replace Zn : n0 ≤ h2.size := by rw [W2.size]; exact Zn
  replace F_value_a1 := F_value_a1.same W2
  show Go p.tables e below PP (T2.setTop (mkF m 9 #[.val (.ref a1), .val (.ref a2), .val (.int (0 : Int32))] []))
  refine Go.st (fun t k => XS.aloadN X2.here hx rfl (hb hby d29_9) rfl rfl k) ?_
  show Go p.tables e below PP (T2.setTop (mkF m 10 #[.val (.ref a1), .val (.ref a2), .val (.int (0 : Int32))] [(.ref a1)]))
  refine Go.st (fun t k => XS.iloadN X2.here hx rfl (hb hby d29_10) rfl k) ?_
  show Go p.tables e below PP (T2.setTop (mkF m 11 #[.val (.ref a1), .val (.ref a2), .val (.int (0 : Int32))] [(.int (0 : Int32)), (.ref a1)]))
  obtain ⟨T3, h3, X3, e3, W3, st3⟩ := putFN X2 hx hZ hown (hw _ (List.mem_of_getElem? (i := 29) rfl)) Via.refl e2 F_coder_a1 E_a1 (Or.inr ⟨(hw _ (List.mem_of_getElem? (i := 25) rfl)), rfl, hnm⟩) (hw _ (List.mem_of_getElem? (i := 9) rfl)) (ty := .byte) (v' := (.int (0 : Int32))) (by decide) rfl (by decide) (g := (mkF m 11 #[.val (.ref a1), .val (.ref a2), .val (.int (0 : Int32))] [(.int (0 : Int32)), (.ref a1)])) rfl rfl (hb hby d29_11)
  refine Go.st st3 ?_
  have N3 := Fr.snoc X3 N2 g_a1
  replace E_a1 := E_a1.wr W3
  replace F_value_a1 := F_value_a1.other W3 (Or.inr (slot_ne (a0 := a0) (Or.inr (hw _ (List.mem_of_getElem? (i := 24) rfl))) (Or.inr (hw _ (List.mem_of_getElem? (i := 25) rfl))) (by decide) (t := (.array .byte)) (t' := .byte) (by decide) (by decide)))
  replace K := K.wr W3 (Or.inl (List.mem_of_getElem? (i := 0) rfl))
  replace Zn : n0 ≤ h3.size := by rw [W3.size]; exact Zn
  replace F_coder_a1 := F_coder_a1.same W3
  show Go p.tables e below PP (T3.setTop (mkF m 14 #[.val (.ref a1), .val (.ref a2), .val (.int (0 : Int32))] []))
  rw [hPP]
  refine endV X3 hx hlk hret (hb hby d29_14) ?_ (by decide) (by decide)
  show Q29 Z a1 a2 h0 n0 none T3.heap _
  rw [e3]
  exact ⟨rfl, N3, K, F_value_a1, F_coder_a1⟩
def firstIx (f : Nat → Int32) (ch : Int32) : Nat → Nat → Int32
  | _, 0 => -1
  | i, r + 1 => if f i = ch then Int32.ofNat i else firstIx f ch (i + 1) r
theorem firstIx_spec (f : Nat → Int32) (ch : Int32) (r i : Nat) : ((∀ k, i ≤ k → k < i + r → ¬ f k = ch) ∧ firstIx f ch i r = -1) ∨ ∃ k, i ≤ k ∧ k < i + r ∧ f k = ch ∧ (∀ j, i ≤ j → j < k → ¬ f j = ch) ∧ firstIx f ch i r = Int32.ofNat k := by
  induction r generalizing i with
  | zero => exact Or.inl ⟨fun k h1 h2 => absurd h2 (by omega), rfl⟩
  | succ r ih =>
    unfold firstIx
    by_cases e : f i = ch
    · rw [if_pos e]
      exact Or.inr ⟨i, Nat.le_refl _, by omega, e, fun j h1 h2 => absurd h2 (by omega), rfl⟩
    · rw [if_neg e]
      rcases ih (i + 1) with ⟨h1, h2⟩ | ⟨k, h1, h2, h3, h4, h5⟩
      · refine Or.inl ⟨fun k q1 q2 => ?_, h2⟩
        by_cases z : k = i
        · rw [z]; exact e
        · exact h1 k (by omega) (by omega)
      · refine Or.inr ⟨k, by omega, by omega, h3, fun j q1 q2 => ?_, h5⟩
        by_cases z : j = i
        · rw [z]; exact e
        · exact h4 j (by omega) q2
theorem firstIx_step {f : Nat → Int32} {ch r : Int32} {i n : Nat} (h : r = firstIx f ch i (n - i)) (hi : i < n) : (f i = ch → r = Int32.ofNat i) ∧ (¬ f i = ch → r = firstIx f ch (i + 1) (n - (i + 1))) := by
  obtain ⟨q, e⟩ : ∃ q, n - i = q + 1 := ⟨n - i - 1, by omega⟩
  rw [e] at h
  unfold firstIx at h
  refine ⟨fun z => by rw [h, if_pos z], fun z => ?_⟩
  rw [h, if_neg z, show n - (i + 1) = q by omega]
theorem own_on (i : Int32) (h : ¬ i < (0 : Int32)) : Int32.ofNat i.toNatClampNeg = i := by
  have e : (0 : Int32).toInt = 0 := rfl
  rw [Int32.lt_iff_toInt_lt, e] at h
  have r := rng32 i
  have t : (i.toNatClampNeg : Int) = i.toInt := by simp only [Int32.toNatClampNeg]; omega
  exact Int32.toInt_inj.mp (by rw [Int32.toInt_ofNat_of_lt (by omega), t])
theorem d21_0 : decode jdk_43_method_23_code 0 = .ok (.iload_n 1, 1) := by decide +kernel
theorem d21_1 : decode jdk_43_method_23_code 1 = .ok (.i2b, 1) := by decide +kernel
theorem d21_2 : decode jdk_43_method_23_code 2 = .ok (.istore 4, 2) := by decide +kernel
theorem d21_4 : decode jdk_43_method_23_code 4 = .ok (.iload_n 2, 1) := by decide +kernel
theorem d21_5 : decode jdk_43_method_23_code 5 = .ok (.istore 5, 2) := by decide +kernel
theorem d21_7 : decode jdk_43_method_23_code 7 = .ok (.iload 5, 2) := by decide +kernel
theorem d21_9 : decode jdk_43_method_23_code 9 = .ok (.iload_n 3, 1) := by decide +kernel
theorem d21_10 : decode jdk_43_method_23_code 10 = .ok (.if_icmp .ge 21, 3) := by decide +kernel
theorem d21_13 : decode jdk_43_method_23_code 13 = .ok (.aload_n 0, 1) := by decide +kernel
theorem d21_14 : decode jdk_43_method_23_code 14 = .ok (.iload 5, 2) := by decide +kernel
theorem d21_16 : decode jdk_43_method_23_code 16 = .ok (.baload, 1) := by decide +kernel
theorem d21_17 : decode jdk_43_method_23_code 17 = .ok (.iload 4, 2) := by decide +kernel
theorem d21_19 : decode jdk_43_method_23_code 19 = .ok (.if_icmp .ne 6, 3) := by decide +kernel
theorem d21_22 : decode jdk_43_method_23_code 22 = .ok (.iload 5, 2) := by decide +kernel
theorem d21_24 : decode jdk_43_method_23_code 24 = .ok (.ireturn, 1) := by decide +kernel
theorem d21_25 : decode jdk_43_method_23_code 25 = .ok (.iinc 5 1, 3) := by decide +kernel
theorem d21_28 : decode jdk_43_method_23_code 28 = .ok (.goto (-21), 3) := by decide +kernel
theorem d21_31 : decode jdk_43_method_23_code 31 = .ok (.iconst (-1), 1) := by decide +kernel
theorem d21_32 : decode jdk_43_method_23_code 32 = .ok (.ireturn, 1) := by decide +kernel
theorem pn_rm21 : plainName "java/lang/StringLatin1" = true := by first | (simp [plainName, overriddenIn]; done) | decide +kernel
theorem ef_rm21 (m : MethodId) (a1 : Addr) (p2 : Int32) (n1 : Int32) : entryFrame m #[(.ref a1), (.int p2), (.int (0 : Int32)), (.int n1)] 6 = mkF m 0 #[.val (.ref a1), .val (.int p2), .val (.int (0 : Int32)), .val (.int n1), .unset, .unset] [] := by first | (simp [entryFrame, mkF, argsToLocals, Value.category]; done) | rfl
def Q21 (Z : State) (a1 : Addr) (p2 : Int32) (n1 : Int32) (f1 : Nat → Int32) (h0 : Heap) (n0 : Nat) (v : Option Value) (h : Heap) (L : List Loc) : Prop := v = some (.int (firstIx f1 (p2.toInt8.toInt32) 0 n1.toNatClampNeg)) ∧ L = [] ∧ h = h0
set_option maxRecDepth 65536 in
set_option maxHeartbeats 40000000 in
theorem rm21 (l : Launch) (Z : State) (a0 : Array Value) (hw : ∀ d ∈ tables_1, d.before a0 Z = true) (ws : List Jvm.Cond) (a1 : Addr) (p2 : Int32) (n1 : Int32) (f1 : Nat → Int32) (h0 : Heap) (n0 : Nat) (Z0 : n0 ≤ h0.size) (V1 : Afn Z h0 a1 .byte n1 (fun k => .int (f1 k))) :
    Con l Z (⟨"java/lang/StringLatin1", "indexOfChar", "([BIII)I"⟩ : MethodName) jdk_43_method_23_code 6 (some .int) ws ({ frames := 0, cells := 0, slots := 0, locals := 0 } : Room) #[(.ref a1), (.int p2), (.int (0 : Int32)), (.int n1)] h0 (Q21 Z a1 p2 n1 f1 h0 n0) := by
  refine Con.of (plainFor_of_name pn_rm21) ?_
  intro p e s m below meth c s₁ hZ e0 X0 hx hby hml hown hnm hret hlk
  replace hml : c.maxLocals = 6 := hml
  have hown : s.vm.findClass "java/lang/StringLatin1" = some m.cls := hown
  have N0 : Fr n0 [] := Fr.nil n0
  obtain ⟨PP, hPP⟩ : ∃ P, P = Fine s below (Q21 Z a1 p2 n1 f1 h0 n0) ({ frames := 0, cells := 0, slots := 0, locals := 0 } : Room).cells ({ frames := 0, cells := 0, slots := 0, locals := 0 } : Room).slots := ⟨_, rfl⟩
  rw [← hPP]
  refine Go.cast (ef_rm21 m a1 p2 n1) ?_
  have Zn : n0 ≤ h0.size := Z0
  show Go p.tables e below PP (s₁.setTop (mkF m 0 #[.val (.ref a1), .val (.int p2), .val (.int (0 : Int32)), .val (.int n1), .unset, .unset] []))
  refine Go.st (fun t k => XS.iloadN X0.here hx rfl (hb hby d21_0) rfl k) ?_
  show Go p.tables e below PP (s₁.setTop (mkF m 1 #[.val (.ref a1), .val (.int p2), .val (.int (0 : Int32)), .val (.int n1), .unset, .unset] [(.int p2)]))
  refine Go.st (fun t k => XS.i2b X0.here hx rfl (hb hby d21_1) rfl k) ?_
  show Go p.tables e below PP (s₁.setTop (mkF m 2 #[.val (.ref a1), .val (.int p2), .val (.int (0 : Int32)), .val (.int n1), .unset, .unset] [(.int (p2.toInt8.toInt32))]))
  refine Go.st (fun t k => XS.istore X0.here hx rfl (hb hby d21_2) rfl (l' := #[.val (.ref a1), .val (.int p2), .val (.int (0 : Int32)), .val (.int n1), .val (.int (p2.toInt8.toInt32)), .unset]) rfl k) ?_
  show Go p.tables e below PP (s₁.setTop (mkF m 4 #[.val (.ref a1), .val (.int p2), .val (.int (0 : Int32)), .val (.int n1), .val (.int (p2.toInt8.toInt32)), .unset] []))
  refine Go.st (fun t k => XS.iloadN X0.here hx rfl (hb hby d21_4) rfl k) ?_
  show Go p.tables e below PP (s₁.setTop (mkF m 5 #[.val (.ref a1), .val (.int p2), .val (.int (0 : Int32)), .val (.int n1), .val (.int (p2.toInt8.toInt32)), .unset] [(.int (0 : Int32))]))
  refine Go.st (fun t k => XS.istore X0.here hx rfl (hb hby d21_5) rfl (l' := #[.val (.ref a1), .val (.int p2), .val (.int (0 : Int32)), .val (.int n1), .val (.int (p2.toInt8.toInt32)), .val (.int (0 : Int32))]) rfl k) ?_
  have J7 : ∀ (d1 : Nat) (T1 : State) (i : Int32), Stand p l e ({ frames := 0, cells := 0, slots := 0, locals := 0 } : Room) s m #[(.ref a1), (.int p2), (.int (0 : Int32)), (.int n1)] below meth c T1 [] 0 0 → T1.heap = h0 → (¬ i < (0 : Int32) ∧ ¬ n1 < i ∧ (firstIx f1 (p2.toInt8.toInt32) 0 n1.toNatClampNeg) = firstIx f1 (p2.toInt8.toInt32) i.toNatClampNeg (n1.toNatClampNeg - i.toNatClampNeg)) → n1.toNatClampNeg - i.toNatClampNeg = d1 → Go p.tables e below PP (T1.setTop (mkF m 7 #[.val (.ref a1), .val (.int p2), .val (.int (0 : Int32)), .val (.int n1), .val (.int (p2.toInt8.toInt32)), .val (.int i)] [])) := by
    intro d1
    induction d1 using Nat.strongRecOn with
    | _ d1 ih1 =>
      intro T1 i X1 e1 hJ7 hd1
      show Go p.tables e below PP (T1.setTop (mkF m 7 #[.val (.ref a1), .val (.int p2), .val (.int (0 : Int32)), .val (.int n1), .val (.int (p2.toInt8.toInt32)), .val (.int i)] []))
      refine Go.st (fun t k => XS.iload X1.here hx rfl (hb hby d21_7) rfl k) ?_
      show Go p.tables e below PP (T1.setTop (mkF m 9 #[.val (.ref a1), .val (.int p2), .val (.int (0 : Int32)), .val (.int n1), .val (.int (p2.toInt8.toInt32)), .val (.int i)] [(.int i)]))
      refine Go.st (fun t k => XS.iloadN X1.here hx rfl (hb hby d21_9) rfl k) ?_
      show Go p.tables e below PP (T1.setTop (mkF m 10 #[.val (.ref a1), .val (.int p2), .val (.int (0 : Int32)), .val (.int n1), .val (.int (p2.toInt8.toInt32)), .val (.int i)] [(.int n1), (.int i)]))
      by_cases hc10 : i < n1
      · --
        refine Go.st (fun t k => XS.icmpNo X1.here hx rfl (hb hby d21_10) rfl (XT.ii_ge_f hc10) k) ?_
        show Go p.tables e below PP (T1.setTop (mkF m 13 #[.val (.ref a1), .val (.int p2), .val (.int (0 : Int32)), .val (.int n1), .val (.int (p2.toInt8.toInt32)), .val (.int i)] []))
        refine Go.st (fun t k => XS.aloadN X1.here hx rfl (hb hby d21_13) rfl rfl k) ?_
        show Go p.tables e below PP (T1.setTop (mkF m 14 #[.val (.ref a1), .val (.int p2), .val (.int (0 : Int32)), .val (.int n1), .val (.int (p2.toInt8.toInt32)), .val (.int i)] [(.ref a1)]))
        refine Go.st (fun t k => XS.iload X1.here hx rfl (hb hby d21_14) rfl k) ?_
        show Go p.tables e below PP (T1.setTop (mkF m 16 #[.val (.ref a1), .val (.int p2), .val (.int (0 : Int32)), .val (.int n1), .val (.int (p2.toInt8.toInt32)), .val (.int i)] [(.int i), (.ref a1)]))
        obtain ⟨cl2, Ar2, S2, Nn2, H2⟩ := id V1
        have hin2 : ¬ (i < 0 ∨ cl2.slots.size ≤ (i).toNatClampNeg) := inb_of S2 ⟨hJ7.1, hc10⟩
        refine Go.st (fun t k => X1.baloadBytes hx (j := i) (v := (.int (f1 i.toNatClampNeg))) (by rw [e1]; exact Ar2.1) (State.isArrayOf_alike hZ.alike Ar2.2.1) Ar2.2.2 hin2 ((H2 _ (inbN ⟨hJ7.1, hc10⟩)).1.trans (congrArg some (rfl))) (g := (mkF m 16 #[.val (.ref a1), .val (.int p2), .val (.int (0 : Int32)), .val (.int n1), .val (.int (p2.toInt8.toInt32)), .val (.int i)] [(.int i), (.ref a1)])) rfl rfl (hb hby d21_16) _ k) ?_
        show Go p.tables e below PP (T1.setTop (mkF m 17 #[.val (.ref a1), .val (.int p2), .val (.int (0 : Int32)), .val (.int n1), .val (.int (p2.toInt8.toInt32)), .val (.int i)] [(.int (f1 i.toNatClampNeg))]))
        refine Go.st (fun t k => XS.iload X1.here hx rfl (hb hby d21_17) rfl k) ?_
        show Go p.tables e below PP (T1.setTop (mkF m 19 #[.val (.ref a1), .val (.int p2), .val (.int (0 : Int32)), .val (.int n1), .val (.int (p2.toInt8.toInt32)), .val (.int i)] [(.int (p2.toInt8.toInt32)), (.int (f1 i.toNatClampNeg))]))
        by_cases hc19 : (f1 i.toNatClampNeg) = (p2.toInt8.toInt32)
        · --
          refine Go.st (fun t k => XS.icmpNo X1.here hx rfl (hb hby d21_19) rfl (XT.ii_ne_f hc19) k) ?_
          show Go p.tables e below PP (T1.setTop (mkF m 22 #[.val (.ref a1), .val (.int p2), .val (.int (0 : Int32)), .val (.int n1), .val (.int (p2.toInt8.toInt32)), .val (.int i)] []))
          refine Go.st (fun t k => XS.iload X1.here hx rfl (hb hby d21_22) rfl k) ?_
          show Go p.tables e below PP (T1.setTop (mkF m 24 #[.val (.ref a1), .val (.int p2), .val (.int (0 : Int32)), .val (.int n1), .val (.int (p2.toInt8.toInt32)), .val (.int i)] [(.int i)]))
          rw [hPP]
          refine endI X1 hx hlk hret (hb hby d21_24) ?_ (by decide) (by decide)
          show Q21 Z a1 p2 n1 f1 h0 n0 (some (.int i)) T1.heap _
          rw [e1]
          exact ⟨congrArg some (congrArg Value.int ((own_on _ hJ7.1).symm.trans ((firstIx_step hJ7.2.2 (own_inc _ _ hJ7.1 hc10).2.2.2).1 hc19).symm)), rfl, rfl⟩
        · --
          refine Go.st (fun t k => XS.icmpYes X1.here hx rfl (pc0 := 19) (pc' := 25) rfl (hb hby d21_19) rfl (XT.ii_ne_t hc19) (by decide) (by decide) k) ?_
          show Go p.tables e below PP (T1.setTop (mkF m 25 #[.val (.ref a1), .val (.int p2), .val (.int (0 : Int32)), .val (.int n1), .val (.int (p2.toInt8.toInt32)), .val (.int i)] []))
          refine Go.st (fun t k => XS.iinc X1.here hx rfl (hb hby d21_25) rfl (l' := #[.val (.ref a1), .val (.int p2), .val (.int (0 : Int32)), .val (.int n1), .val (.int (p2.toInt8.toInt32)), .val (.int (i + (1 : Int32)))]) rfl k) ?_
          show Go p.tables e below PP (T1.setTop (mkF m 28 #[.val (.ref a1), .val (.int p2), .val (.int (0 : Int32)), .val (.int n1), .val (.int (p2.toInt8.toInt32)), .val (.int (i + (1 : Int32)))] []))
          refine Go.st (fun t k => XS.goto X1.here hx rfl (pc0 := 28) (pc' := 7) rfl (hb hby d21_28) (by decide) (by decide) k) ?_
          show Go p.tables e below PP (T1.setTop (mkF m 7 #[.val (.ref a1), .val (.int p2), .val (.int (0 : Int32)), .val (.int n1), .val (.int (p2.toInt8.toInt32)), .val (.int (i + (1 : Int32)))] []))
          exact ih1 _ (by have q := own_inc _ _ hJ7.1 hc10; omega) _ _ X1 e1 (⟨(own_inc _ _ hJ7.1 hc10).1, (own_inc _ _ hJ7.1 hc10).2.1, by rw [(own_inc _ _ hJ7.1 hc10).2.2.1]; exact (firstIx_step hJ7.2.2 (own_inc _ _ hJ7.1 hc10).2.2.2).2 hc19⟩) rfl
      · --
        refine Go.st (fun t k => XS.icmpYes X1.here hx rfl (pc0 := 10) (pc' := 31) rfl (hb hby d21_10) rfl (XT.ii_ge_t hc10) (by decide) (by decide) k) ?_
        show Go p.tables e below PP (T1.setTop (mkF m 31 #[.val (.ref a1), .val (.int p2), .val (.int (0 : Int32)), .val (.int n1), .val (.int (p2.toInt8.toInt32)), .val (.int i)] []))
        refine Go.st (fun t k => XS.iconst X1.here hx rfl (hb hby d21_31) k) ?_
        show Go p.tables e below PP (T1.setTop (mkF m 32 #[.val (.ref a1), .val (.int p2), .val (.int (0 : Int32)), .val (.int n1), .val (.int (p2.toInt8.toInt32)), .val (.int i)] [(.int (-1 : Int32))]))
        rw [hPP]
        refine endI X1 hx hlk hret (hb hby d21_32) ?_ (by decide) (by decide)
        show Q21 Z a1 p2 n1 f1 h0 n0 (some (.int (-1 : Int32))) T1.heap _
        rw [e1]
        exact ⟨by rw [hJ7.2.2, show n1.toNatClampNeg - i.toNatClampNeg = 0 by have a := hJ7.2.1; rw [Int32.lt_iff_toInt_lt] at a hc10; simp only [Int32.toNatClampNeg]; omega]; rfl, rfl, rfl⟩
  show Go p.tables e below PP (s₁.setTop (mkF m 7 #[.val (.ref a1), .val (.int p2), .val (.int (0 : Int32)), .val (.int n1), .val (.int (p2.toInt8.toInt32)), .val (.int (0 : Int32))] []))
  exact J7 _ _ _ X0 e0 (⟨by decide, V1.nn, rfl⟩) rfl
theorem d13_0 : decode jdk_43_method_22_code 0 = .ok (.iload_n 1, 1) := by decide +kernel
theorem d13_1 : decode jdk_43_method_22_code 1 = .ok (.invokestatic 88, 3) := by decide +kernel
theorem d13_4 : decode jdk_43_method_22_code 4 = .ok (.ifCond .ne 5, 3) := by decide +kernel
theorem d13_7 : decode jdk_43_method_22_code 7 = .ok (.iconst (-1), 1) := by decide +kernel
theorem d13_8 : decode jdk_43_method_22_code 8 = .ok (.ireturn, 1) := by decide +kernel
theorem d13_9 : decode jdk_43_method_22_code 9 = .ok (.iload_n 2, 1) := by decide +kernel
theorem d13_10 : decode jdk_43_method_22_code 10 = .ok (.iconst 0, 1) := by decide +kernel
theorem d13_11 : decode jdk_43_method_22_code 11 = .ok (.invokestatic 92, 3) := by decide +kernel
theorem d13_14 : decode jdk_43_method_22_code 14 = .ok (.istore_n 2, 1) := by decide +kernel
theorem d13_15 : decode jdk_43_method_22_code 15 = .ok (.iload_n 3, 1) := by decide +kernel
theorem d13_16 : decode jdk_43_method_22_code 16 = .ok (.aload_n 0, 1) := by decide +kernel
theorem d13_17 : decode jdk_43_method_22_code 17 = .ok (.arraylength, 1) := by decide +kernel
theorem d13_18 : decode jdk_43_method_22_code 18 = .ok (.invokestatic 38, 3) := by decide +kernel
theorem d13_21 : decode jdk_43_method_22_code 21 = .ok (.istore_n 3, 1) := by decide +kernel
theorem d13_22 : decode jdk_43_method_22_code 22 = .ok (.iload_n 2, 1) := by decide +kernel
theorem d13_23 : decode jdk_43_method_22_code 23 = .ok (.iload_n 3, 1) := by decide +kernel
theorem d13_24 : decode jdk_43_method_22_code 24 = .ok (.if_icmp .lt 5, 3) := by decide +kernel
theorem d13_27 : decode jdk_43_method_22_code 27 = .ok (.iconst (-1), 1) := by decide +kernel
theorem d13_28 : decode jdk_43_method_22_code 28 = .ok (.ireturn, 1) := by decide +kernel
theorem d13_29 : decode jdk_43_method_22_code 29 = .ok (.aload_n 0, 1) := by decide +kernel
theorem d13_30 : decode jdk_43_method_22_code 30 = .ok (.iload_n 1, 1) := by decide +kernel
theorem d13_31 : decode jdk_43_method_22_code 31 = .ok (.iload_n 2, 1) := by decide +kernel
theorem d13_32 : decode jdk_43_method_22_code 32 = .ok (.iload_n 3, 1) := by decide +kernel
theorem d13_33 : decode jdk_43_method_22_code 33 = .ok (.invokestatic 95, 3) := by decide +kernel
theorem d13_36 : decode jdk_43_method_22_code 36 = .ok (.ireturn, 1) := by decide +kernel
theorem pn_rm13 : plainName "java/lang/StringLatin1" = true := by first | (simp [plainName, overriddenIn]; done) | decide +kernel
theorem ef_rm13 (m : MethodId) (a1 : Addr) (p2 : Int32) (n1 : Int32) : entryFrame m #[(.ref a1), (.int p2), (.int (0 : Int32)), (.int n1)] 4 = mkF m 0 #[.val (.ref a1), .val (.int p2), .val (.int (0 : Int32)), .val (.int n1)] [] := by first | (simp [entryFrame, mkF, argsToLocals, Value.category]; done) | rfl
def Q13 (Z : State) (a1 : Addr) (p2 : Int32) (n1 : Int32) (f1 : Nat → Int32) (h0 : Heap) (n0 : Nat) (v : Option Value) (h : Heap) (L : List Loc) : Prop := v = some (.int (firstIx f1 (p2.toInt8.toInt32) 0 n1.toNatClampNeg)) ∧ L = [] ∧ h = h0
theorem pd_5 : parseMethodDescriptor "(I)Z" = some ⟨[.int], some .boolean⟩ := by decide +kernel
theorem pd_6 : parseMethodDescriptor "(II)I" = some ⟨[.int, .int], some .int⟩ := by decide +kernel
theorem pd_7 : parseMethodDescriptor "([BIII)I" = some ⟨[(.array .byte), .int, .int, .int], some .int⟩ := by decide +kernel
set_option maxRecDepth 65536 in
set_option maxHeartbeats 40000000 in
theorem rm13 (l : Launch) (Z : State) (a0 : Array Value) (hw : ∀ d ∈ tables_1, d.before a0 Z = true) (ws : List Jvm.Cond) (a1 : Addr) (p2 : Int32) (n1 : Int32) (f1 : Nat → Int32) (h0 : Heap) (n0 : Nat) (Z0 : n0 ≤ h0.size) (V1 : Afn Z h0 a1 .byte n1 (fun k => .int (f1 k))) (hch : ¬ p2 < (0 : Int32) ∧ ¬ (255 : Int32) < p2) :
    Con l Z (⟨"java/lang/StringLatin1", "indexOf", "([BIII)I"⟩ : MethodName) jdk_43_method_22_code 4 (some .int) ws ({ frames := 1, cells := 0, slots := 0, locals := 17 } : Room) #[(.ref a1), (.int p2), (.int (0 : Int32)), (.int n1)] h0 (Q13 Z a1 p2 n1 f1 h0 n0) := by
  refine Con.of (plainFor_of_name pn_rm13) ?_
  intro p e s m below meth c s₁ hZ e0 X0 hx hby hml hown hnm hret hlk
  replace hml : c.maxLocals = 4 := hml
  have hown : s.vm.findClass "java/lang/StringLatin1" = some m.cls := hown
  have N0 : Fr n0 [] := Fr.nil n0
  obtain ⟨PP, hPP⟩ : ∃ P, P = Fine s below (Q13 Z a1 p2 n1 f1 h0 n0) ({ frames := 1, cells := 0, slots := 0, locals := 17 } : Room).cells ({ frames := 1, cells := 0, slots := 0, locals := 17 } : Room).slots := ⟨_, rfl⟩
  rw [← hPP]
  refine Go.cast (ef_rm13 m a1 p2 n1) ?_
  have Zn : n0 ≤ h0.size := Z0
  show Go p.tables e below PP (s₁.setTop (mkF m 0 #[.val (.ref a1), .val (.int p2), .val (.int (0 : Int32)), .val (.int n1)] []))
  refine Go.st (fun t k => XS.iloadN X0.here hx rfl (hb hby d13_0) rfl k) ?_
  show Go p.tables e below PP (s₁.setTop (mkF m 1 #[.val (.ref a1), .val (.int p2), .val (.int (0 : Int32)), .val (.int n1)] [(.int p2)]))
  obtain ⟨v1, T1, L1, X1, hQ1, st1⟩ := callSt X0 hx hZ (y := (⟨"java/lang/StringLatin1", "canEncode", "(I)Z"⟩ : MethodName)) (argsL := [(.int p2)]) (rest := []) hown (hw _ (List.mem_of_getElem? (i := 67) rfl)) (hw _ (List.mem_of_getElem? (i := 68) rfl)) (hw _ (List.mem_of_getElem? (i := 65) rfl)) (hw _ (List.mem_of_getElem? (i := 69) rfl)) (by decide) (rm14 l Z a0 hw [] p2 h0 n0 Zn) e0 0 (by decide) (by decide) (by decide) (by decide) (g := (mkF m 1 #[.val (.ref a1), .val (.int p2), .val (.int (0 : Int32)), .val (.int n1)] [(.int p2)])) rfl (by rw [hml]; rfl) (lenOf pd_5 rfl) rfl (by show 2 * 0 + _ ≤ _; exact Nat.le_of_eq rfl) (hb hby d13_1)
  obtain ⟨rfl, rfl, e1⟩ := hQ1
  rw [List.append_nil] at X1
  refine Go.st st1 ?_
  show Go p.tables e below PP (T1.setTop (mkF m 4 #[.val (.ref a1), .val (.int p2), .val (.int (0 : Int32)), .val (.int n1)] [(.int (bi (¬ p2 < (0 : Int32) ∧ ¬ (255 : Int32) < p2)))]))
  refine Go.st (fun t k => XS.ifYes X1.here hx rfl (pc0 := 4) (pc' := 9) rfl (hb hby d13_4) rfl (XT.i0_ne_t (by rw [bi_t hch]; decide)) (by decide) (by decide) k) ?_
  show Go p.tables e below PP (T1.setTop (mkF m 9 #[.val (.ref a1), .val (.int p2), .val (.int (0 : Int32)), .val (.int n1)] []))
  refine Go.st (fun t k => XS.iloadN X1.here hx rfl (hb hby d13_9) rfl k) ?_
  show Go p.tables e below PP (T1.setTop (mkF m 10 #[.val (.ref a1), .val (.int p2), .val (.int (0 : Int32)), .val (.int n1)] [(.int (0 : Int32))]))
  refine Go.st (fun t k => XS.iconst X1.here hx rfl (hb hby d13_10) k) ?_
  show Go p.tables e below PP (T1.setTop (mkF m 11 #[.val (.ref a1), .val (.int p2), .val (.int (0 : Int32)), .val (.int n1)] [(.int (0 : Int32)), (.int (0 : Int32))]))
  obtain ⟨v2, T2, L2, X2, hQ2, st2⟩ := callSt X1 hx hZ (y := (⟨"java/lang/Math", "max", "(II)I"⟩ : MethodName)) (argsL := [(.int (0 : Int32)), (.int (0 : Int32))]) (rest := []) hown (hw _ (List.mem_of_getElem? (i := 70) rfl)) (hw _ (List.mem_of_getElem? (i := 71) rfl)) (hw _ (List.mem_of_getElem? (i := 72) rfl)) (hw _ (List.mem_of_getElem? (i := 73) rfl)) (by decide) (rm15 l Z a0 hw [] (0 : Int32) (0 : Int32) h0 n0 Zn) e1 0 (by decide) (by decide) (by decide) (by decide) (g := (mkF m 11 #[.val (.ref a1), .val (.int p2), .val (.int (0 : Int32)), .val (.int n1)] [(.int (0 : Int32)), (.int (0 : Int32))])) rfl (by rw [hml]; rfl) (lenOf pd_6 rfl) rfl (by show 2 * 0 + _ ≤ _; exact Nat.le_of_eq rfl) (hb hby d13_11)
  obtain ⟨rfl, rfl, e2⟩ := hQ2
  rw [List.append_nil] at X2
  refine Go.st st2 ?_
  have hz0 : (if (0 : Int32) < (0 : Int32) then (0 : Int32) else (0 : Int32)) = (0 : Int32) := by decide
  rw [hz0]
  show Go p.tables e below PP (T2.setTop (mkF m 14 #[.val (.ref a1), .val (.int p2), .val (.int (0 : Int32)), .val (.int n1)] [(.int (0 : Int32))]))
  refine Go.st (fun t k => XS.istoreN X2.here hx rfl (hb hby d13_14) rfl (l' := #[.val (.ref a1), .val (.int p2), .val (.int (0 : Int32)), .val (.int n1)]) rfl k) ?_
  show Go p.tables e below PP (T2.setTop (mkF m 15 #[.val (.ref a1), .val (.int p2), .val (.int (0 : Int32)), .val (.int n1)] []))
  refine Go.st (fun t k => XS.iloadN X2.here hx rfl (hb hby d13_15) rfl k) ?_
  show Go p.tables e below PP (T2.setTop (mkF m 16 #[.val (.ref a1), .val (.int p2), .val (.int (0 : Int32)), .val (.int n1)] [(.int n1)]))
  refine Go.st (fun t k => XS.aloadN X2.here hx rfl (hb hby d13_16) rfl rfl k) ?_
  show Go p.tables e below PP (T2.setTop (mkF m 17 #[.val (.ref a1), .val (.int p2), .val (.int (0 : Int32)), .val (.int n1)] [(.ref a1), (.int n1)]))
  obtain ⟨cl3, Ar3, S3, Nn3, -⟩ := id V1
  refine Go.st (fun t k => X2.arraylength hx (by rw [e2]; exact Ar3.1) (State.isArrayOf_alike hZ.alike Ar3.2.1) (g := (mkF m 17 #[.val (.ref a1), .val (.int p2), .val (.int (0 : Int32)), .val (.int n1)] [(.ref a1), (.int n1)])) rfl rfl (hb hby d13_17) _ k) ?_
  rw [len_of S3 Nn3]
  show Go p.tables e below PP (T2.setTop (mkF m 18 #[.val (.ref a1), .val (.int p2), .val (.int (0 : Int32)), .val (.int n1)] [(.int n1), (.int n1)]))
  obtain ⟨v4, T4, L4, X4, hQ4, st4⟩ := callSt X2 hx hZ (y := (⟨"java/lang/Math", "min", "(II)I"⟩ : MethodName)) (argsL := [(.int n1), (.int n1)]) (rest := []) hown (hw _ (List.mem_of_getElem? (i := 74) rfl)) (hw _ (List.mem_of_getElem? (i := 75) rfl)) (hw _ (List.mem_of_getElem? (i := 72) rfl)) (hw _ (List.mem_of_getElem? (i := 76) rfl)) (by decide) (rm16 l Z a0 hw [] n1 n1 h0 n0 Zn) e2 0 (by decide) (by decide) (by decide) (by decide) (g := (mkF m 18 #[.val (.ref a1), .val (.int p2), .val (.int (0 : Int32)), .val (.int n1)] [(.int n1), (.int n1)])) rfl (by rw [hml]; rfl) (lenOf pd_6 rfl) rfl (by show 2 * 0 + _ ≤ _; exact Nat.le_of_eq rfl) (hb hby d13_18)
  obtain ⟨rfl, rfl, e4⟩ := hQ4
  rw [List.append_nil] at X4
  refine Go.st st4 ?_
  have hzn : (if n1 < n1 then n1 else n1) = n1 := by split <;> rfl
  rw [hzn]
  show Go p.tables e below PP (T4.setTop (mkF m 21 #[.val (.ref a1), .val (.int p2), .val (.int (0 : Int32)), .val (.int n1)] [(.int n1)]))
  refine Go.st (fun t k => XS.istoreN X4.here hx rfl (hb hby d13_21) rfl (l' := #[.val (.ref a1), .val (.int p2), .val (.int (0 : Int32)), .val (.int n1)]) rfl k) ?_
  show Go p.tables e below PP (T4.setTop (mkF m 22 #[.val (.ref a1), .val (.int p2), .val (.int (0 : Int32)), .val (.int n1)] []))
  refine Go.st (fun t k => XS.iloadN X4.here hx rfl (hb hby d13_22) rfl k) ?_
  show Go p.tables e below PP (T4.setTop (mkF m 23 #[.val (.ref a1), .val (.int p2), .val (.int (0 : Int32)), .val (.int n1)] [(.int (0 : Int32))]))
  refine Go.st (fun t k => XS.iloadN X4.here hx rfl (hb hby d13_23) rfl k) ?_
  show Go p.tables e below PP (T4.setTop (mkF m 24 #[.val (.ref a1), .val (.int p2), .val (.int (0 : Int32)), .val (.int n1)] [(.int n1), (.int (0 : Int32))]))
  by_cases hc24 : (0 : Int32) < n1
  · --
    refine Go.st (fun t k => XS.icmpYes X4.here hx rfl (pc0 := 24) (pc' := 29) rfl (hb hby d13_24) rfl (XT.ii_lt_t hc24) (by decide) (by decide) k) ?_
    show Go p.tables e below PP (T4.setTop (mkF m 29 #[.val (.ref a1), .val (.int p2), .val (.int (0 : Int32)), .val (.int n1)] []))
    refine Go.st (fun t k => XS.aloadN X4.here hx rfl (hb hby d13_29) rfl rfl k) ?_
    show Go p.tables e below PP (T4.setTop (mkF m 30 #[.val (.ref a1), .val (.int p2), .val (.int (0 : Int32)), .val (.int n1)] [(.ref a1)]))
    refine Go.st (fun t k => XS.iloadN X4.here hx rfl (hb hby d13_30) rfl k) ?_
    show Go p.tables e below PP (T4.setTop (mkF m 31 #[.val (.ref a1), .val (.int p2), .val (.int (0 : Int32)), .val (.int n1)] [(.int p2), (.ref a1)]))
    refine Go.st (fun t k => XS.iloadN X4.here hx rfl (hb hby d13_31) rfl k) ?_
    show Go p.tables e below PP (T4.setTop (mkF m 32 #[.val (.ref a1), .val (.int p2), .val (.int (0 : Int32)), .val (.int n1)] [(.int (0 : Int32)), (.int p2), (.ref a1)]))
    refine Go.st (fun t k => XS.iloadN X4.here hx rfl (hb hby d13_32) rfl k) ?_
    show Go p.tables e below PP (T4.setTop (mkF m 33 #[.val (.ref a1), .val (.int p2), .val (.int (0 : Int32)), .val (.int n1)] [(.int n1), (.int (0 : Int32)), (.int p2), (.ref a1)]))
    obtain ⟨v5, T5, L5, X5, hQ5, st5⟩ := callSt X4 hx hZ (y := (⟨"java/lang/StringLatin1", "indexOfChar", "([BIII)I"⟩ : MethodName)) (argsL := [(.ref a1), (.int p2), (.int (0 : Int32)), (.int n1)]) (rest := []) hown (hw _ (List.mem_of_getElem? (i := 91) rfl)) (hw _ (List.mem_of_getElem? (i := 92) rfl)) (hw _ (List.mem_of_getElem? (i := 65) rfl)) (hw _ (List.mem_of_getElem? (i := 93) rfl)) (by decide) (rm21 l Z a0 hw [] a1 p2 n1 f1 h0 n0 Zn V1) e4 0 (by decide) (by decide) (by decide) (by decide) (g := (mkF m 33 #[.val (.ref a1), .val (.int p2), .val (.int (0 : Int32)), .val (.int n1)] [(.int n1), (.int (0 : Int32)), (.int p2), (.ref a1)])) rfl (by rw [hml]; rfl) (lenOf pd_7 rfl) rfl (by show 2 * 0 + _ ≤ _; exact Nat.le_of_eq rfl) (hb hby d13_33)
    obtain ⟨rfl, rfl, e5⟩ := hQ5
    rw [List.append_nil] at X5
    refine Go.st st5 ?_
    show Go p.tables e below PP (T5.setTop (mkF m 36 #[.val (.ref a1), .val (.int p2), .val (.int (0 : Int32)), .val (.int n1)] [(.int (firstIx f1 (p2.toInt8.toInt32) 0 n1.toNatClampNeg))]))
    rw [hPP]
    refine endI X5 hx hlk hret (hb hby d13_36) ?_ (by decide) (by decide)
    show Q13 Z a1 p2 n1 f1 h0 n0 (some (.int (firstIx f1 (p2.toInt8.toInt32) 0 n1.toNatClampNeg))) T5.heap _
    rw [e5]
    exact ⟨rfl, rfl, rfl⟩
  · --
    refine Go.st (fun t k => XS.icmpNo X4.here hx rfl (hb hby d13_24) rfl (XT.ii_lt_f hc24) k) ?_
    show Go p.tables e below PP (T4.setTop (mkF m 27 #[.val (.ref a1), .val (.int p2), .val (.int (0 : Int32)), .val (.int n1)] []))
    refine Go.st (fun t k => XS.iconst X4.here hx rfl (hb hby d13_27) k) ?_
    show Go p.tables e below PP (T4.setTop (mkF m 28 #[.val (.ref a1), .val (.int p2), .val (.int (0 : Int32)), .val (.int n1)] [(.int (-1 : Int32))]))
    rw [hPP]
    refine endI X4 hx hlk hret (hb hby d13_28) ?_ (by decide) (by decide)
    show Q13 Z a1 p2 n1 f1 h0 n0 (some (.int (-1 : Int32))) T4.heap _
    rw [e4]
    exact ⟨by rw [show n1.toNatClampNeg = 0 by have e : (0 : Int32).toInt = 0 := rfl; rw [Int32.lt_iff_toInt_lt] at hc24; simp only [Int32.toNatClampNeg]; omega]; rfl, rfl, rfl⟩
theorem d9_0 : decode jdk_42_method_80_code 0 = .ok (.aload_n 0, 1) := by decide +kernel
theorem d9_1 : decode jdk_42_method_80_code 1 = .ok (.invokevirtual 492, 3) := by decide +kernel
theorem d9_4 : decode jdk_42_method_80_code 4 = .ok (.ifCond .eq 19, 3) := by decide +kernel
theorem d9_7 : decode jdk_42_method_80_code 7 = .ok (.aload_n 0, 1) := by decide +kernel
theorem d9_8 : decode jdk_42_method_80_code 8 = .ok (.getfield 9, 3) := by decide +kernel
theorem d9_11 : decode jdk_42_method_80_code 11 = .ok (.iload_n 1, 1) := by decide +kernel
theorem d9_12 : decode jdk_42_method_80_code 12 = .ok (.iload_n 2, 1) := by decide +kernel
theorem d9_13 : decode jdk_42_method_80_code 13 = .ok (.aload_n 0, 1) := by decide +kernel
theorem d9_14 : decode jdk_42_method_80_code 14 = .ok (.invokevirtual 505, 3) := by decide +kernel
theorem d9_17 : decode jdk_42_method_80_code 17 = .ok (.invokestatic 637, 3) := by decide +kernel
theorem d9_20 : decode jdk_42_method_80_code 20 = .ok (.goto 16, 3) := by decide +kernel
theorem d9_23 : decode jdk_42_method_80_code 23 = .ok (.aload_n 0, 1) := by decide +kernel
theorem d9_24 : decode jdk_42_method_80_code 24 = .ok (.getfield 9, 3) := by decide +kernel
theorem d9_27 : decode jdk_42_method_80_code 27 = .ok (.iload_n 1, 1) := by decide +kernel
theorem d9_28 : decode jdk_42_method_80_code 28 = .ok (.iload_n 2, 1) := by decide +kernel
theorem d9_29 : decode jdk_42_method_80_code 29 = .ok (.aload_n 0, 1) := by decide +kernel
theorem d9_30 : decode jdk_42_method_80_code 30 = .ok (.invokevirtual 505, 3) := by decide +kernel
theorem d9_33 : decode jdk_42_method_80_code 33 = .ok (.invokestatic 640, 3) := by decide +kernel
theorem d9_36 : decode jdk_42_method_80_code 36 = .ok (.ireturn, 1) := by decide +kernel
theorem pn_rm9 : plainName "java/lang/String" = true := by first | (simp [plainName, overriddenIn]; done) | decide +kernel
theorem ef_rm9 (m : MethodId) (a1 : Addr) (p2 : Int32) : entryFrame m #[(.ref a1), (.int p2), (.int (0 : Int32))] 3 = mkF m 0 #[.val (.ref a1), .val (.int p2), .val (.int (0 : Int32))] [] := by first | (simp [entryFrame, mkF, argsToLocals, Value.category]; done) | rfl
def Q9 (Z : State) (a1 : Addr) (p2 : Int32) (t1 : Addr) (n1 : Int32) (f1 : Nat → Int32) (zc : Int32) (h0 : Heap) (n0 : Nat) (v : Option Value) (h : Heap) (L : List Loc) : Prop := v = some (.int (firstIx f1 (p2.toInt8.toInt32) 0 n1.toNatClampNeg)) ∧ L = [] ∧ h = h0
theorem pd_8 : parseMethodDescriptor "()Z" = some ⟨[], some .boolean⟩ := by decide +kernel
theorem pd_9 : parseMethodDescriptor "()I" = some ⟨[], some .int⟩ := by decide +kernel
set_option maxRecDepth 65536 in
set_option maxHeartbeats 40000000 in
theorem rm9 (l : Launch) (Z : State) (a0 : Array Value) (hw : ∀ d ∈ tables_1, d.before a0 Z = true) (ws : List Jvm.Cond) (a1 : Addr) (p2 : Int32) (t1 : Addr) (n1 : Int32) (f1 : Nat → Int32) (zc : Int32) (h0 : Heap) (n0 : Nat) (Z0 : n0 ≤ h0.size) (F_value_a1 : Fld Z h0 a1 "java/lang/String" "value" "[B" (.ref t1)) (F_coder_a1 : Fld Z h0 a1 "java/lang/String" "coder" "B" (.int (0 : Int32))) (V_t1 : Afn Z h0 t1 .byte n1 (fun k => .int (f1 k))) (E_a1 : Exa Z h0 a1 "java/lang/String") (SC : Sta Z Z.heap "java/lang/String" "COMPACT_STRINGS" "Z" (.int zc)) (hzc : ¬ zc = (0 : Int32)) (O : Old Z n0 h0) (hch : ¬ p2 < (0 : Int32) ∧ ¬ (255 : Int32) < p2) :
    Con l Z (⟨"java/lang/String", "indexOf", "(II)I"⟩ : MethodName) jdk_42_method_80_code 3 (some .int) ws ({ frames := 2, cells := 0, slots := 0, locals := 32 } : Room) #[(.ref a1), (.int p2), (.int (0 : Int32))] h0 (Q9 Z a1 p2 t1 n1 f1 zc h0 n0) := by
  refine Con.of (plainFor_of_name pn_rm9) ?_
  intro p e s m below meth c s₁ hZ e0 X0 hx hby hml hown hnm hret hlk
  replace hml : c.maxLocals = 3 := hml
  have hown : s.vm.findClass "java/lang/String" = some m.cls := hown
  have N0 : Fr n0 [] := Fr.nil n0
  obtain ⟨PP, hPP⟩ : ∃ P, P = Fine s below (Q9 Z a1 p2 t1 n1 f1 zc h0 n0) ({ frames := 2, cells := 0, slots := 0, locals := 32 } : Room).cells ({ frames := 2, cells := 0, slots := 0, locals := 32 } : Room).slots := ⟨_, rfl⟩
  rw [← hPP]
  refine Go.cast (ef_rm9 m a1 p2) ?_
  have Zn : n0 ≤ h0.size := Z0
  show Go p.tables e below PP (s₁.setTop (mkF m 0 #[.val (.ref a1), .val (.int p2), .val (.int (0 : Int32))] []))
  refine Go.st (fun t k => XS.aloadN X0.here hx rfl (hb hby d9_0) rfl rfl k) ?_
  show Go p.tables e below PP (s₁.setTop (mkF m 1 #[.val (.ref a1), .val (.int p2), .val (.int (0 : Int32))] [(.ref a1)]))
  obtain ⟨v1, T1, L1, X1, hQ1, st1⟩ := callVi X0 hx hZ (C := "java/lang/String") (y := (⟨"java/lang/String", "isLatin1", "()Z"⟩ : MethodName)) (z := (⟨"java/lang/String", "isLatin1", "()Z"⟩ : MethodName)) (a := a1) (argsL := []) (rest := []) hown (hw _ (List.mem_of_getElem? (i := 47) rfl)) (hw _ (List.mem_of_getElem? (i := 48) rfl)) (notFace_of_selects (args := #[]) (mvT hZ (hw _ (List.mem_of_getElem? (i := 50) rfl)))) (hw _ (List.mem_of_getElem? (i := 50) rfl)) (hw _ (List.mem_of_getElem? (i := 49) rfl)) (hw _ (List.mem_of_getElem? (i := 10) rfl)) (hw _ (List.mem_of_getElem? (i := 51) rfl)) (by decide) rfl E_a1 (rm10 l Z a0 hw [] a1 zc h0 n0 Zn F_coder_a1 SC hzc O) e0 0 (by decide) (by decide) (by decide) (by decide) (g := (mkF m 1 #[.val (.ref a1), .val (.int p2), .val (.int (0 : Int32))] [(.ref a1)])) rfl (by rw [hml]; rfl) (lenOf pd_8 rfl) rfl (by show 2 * 0 + _ ≤ _; exact Nat.le_of_eq rfl) (hb hby d9_1)
  obtain ⟨rfl, rfl, e1⟩ := hQ1
  rw [List.append_nil] at X1
  refine Go.st st1 ?_
  show Go p.tables e below PP (T1.setTop (mkF m 4 #[.val (.ref a1), .val (.int p2), .val (.int (0 : Int32))] [(.int (1 : Int32))]))
  refine Go.st (fun t k => XS.ifNo X1.here hx rfl (hb hby d9_4) rfl (XT.i0_eq_f (by decide)) k) ?_
  show Go p.tables e below PP (T1.setTop (mkF m 7 #[.val (.ref a1), .val (.int p2), .val (.int (0 : Int32))] []))
  refine Go.st (fun t k => XS.aloadN X1.here hx rfl (hb hby d9_7) rfl rfl k) ?_
  show Go p.tables e below PP (T1.setTop (mkF m 8 #[.val (.ref a1), .val (.int p2), .val (.int (0 : Int32))] [(.ref a1)]))
  obtain ⟨T2, X2, e2, st2⟩ := getF X1 hx hZ hown (host := "") (Or.inl (hw _ (List.mem_of_getElem? (i := 28) rfl))) Via.refl e1 F_value_a1 (g := (mkF m 8 #[.val (.ref a1), .val (.int p2), .val (.int (0 : Int32))] [(.ref a1)])) rfl rfl (hb hby d9_8)
  refine Go.st st2 ?_
  show Go p.tables e below PP (T2.setTop (mkF m 11 #[.val (.ref a1), .val (.int p2), .val (.int (0 : Int32))] [(.ref t1)]))
  refine Go.st (fun t k => XS.iloadN X2.here hx rfl (hb hby d9_11) rfl k) ?_
  show Go p.tables e below PP (T2.setTop (mkF m 12 #[.val (.ref a1), .val (.int p2), .val (.int (0 : Int32))] [(.int p2), (.ref t1)]))
  refine Go.st (fun t k => XS.iloadN X2.here hx rfl (hb hby d9_12) rfl k) ?_
  show Go p.tables e below PP (T2.setTop (mkF m 13 #[.val (.ref a1), .val (.int p2), .val (.int (0 : Int32))] [(.int (0 : Int32)), (.int p2), (.ref t1)]))
  refine Go.st (fun t k => XS.aloadN X2.here hx rfl (hb hby d9_13) rfl rfl k) ?_
  show Go p.tables e below PP (T2.setTop (mkF m 14 #[.val (.ref a1), .val (.int p2), .val (.int (0 : Int32))] [(.ref a1), (.int (0 : Int32)), (.int p2), (.ref t1)]))
  obtain ⟨v3, T3, L3, X3, hQ3, st3⟩ := callVi X2 hx hZ (C := "java/lang/String") (y := (⟨"java/lang/String", "length", "()I"⟩ : MethodName)) (z := (⟨"java/lang/String", "length", "()I"⟩ : MethodName)) (a := a1) (argsL := []) (rest := [(.int (0 : Int32)), (.int p2), (.ref t1)]) hown (hw _ (List.mem_of_getElem? (i := 53) rfl)) (hw _ (List.mem_of_getElem? (i := 54) rfl)) (notFace_of_selects (args := #[]) (mvT hZ (hw _ (List.mem_of_getElem? (i := 56) rfl)))) (hw _ (List.mem_of_getElem? (i := 56) rfl)) (hw _ (List.mem_of_getElem? (i := 55) rfl)) (hw _ (List.mem_of_getElem? (i := 10) rfl)) (hw _ (List.mem_of_getElem? (i := 57) rfl)) (by decide) rfl E_a1 (rm11 l Z a0 hw [] a1 t1 n1 f1 zc h0 n0 Zn F_value_a1 F_coder_a1 V_t1 E_a1 SC hzc O) e2 3 (by decide) (by decide) (by decide) (by decide) (g := (mkF m 14 #[.val (.ref a1), .val (.int p2), .val (.int (0 : Int32))] [(.ref a1), (.int (0 : Int32)), (.int p2), (.ref t1)])) rfl (by rw [hml]; rfl) (lenOf pd_9 rfl) rfl (by show 2 * 0 + _ ≤ _; exact Nat.le_of_eq rfl) (hb hby d9_14)
  obtain ⟨rfl, rfl, e3⟩ := hQ3
  rw [List.append_nil] at X3
  refine Go.st st3 ?_
  show Go p.tables e below PP (T3.setTop (mkF m 17 #[.val (.ref a1), .val (.int p2), .val (.int (0 : Int32))] [(.int n1), (.int (0 : Int32)), (.int p2), (.ref t1)]))
  obtain ⟨v4, T4, L4, X4, hQ4, st4⟩ := callSt X3 hx hZ (y := (⟨"java/lang/StringLatin1", "indexOf", "([BIII)I"⟩ : MethodName)) (argsL := [(.ref t1), (.int p2), (.int (0 : Int32)), (.int n1)]) (rest := []) hown (hw _ (List.mem_of_getElem? (i := 63) rfl)) (hw _ (List.mem_of_getElem? (i := 64) rfl)) (hw _ (List.mem_of_getElem? (i := 65) rfl)) (hw _ (List.mem_of_getElem? (i := 66) rfl)) (by decide) (rm13 l Z a0 hw [] t1 p2 n1 f1 h0 n0 Zn V_t1 hch) e3 0 (by decide) (by decide) (by decide) (by decide) (g := (mkF m 17 #[.val (.ref a1), .val (.int p2), .val (.int (0 : Int32))] [(.int n1), (.int (0 : Int32)), (.int p2), (.ref t1)])) rfl (by rw [hml]; rfl) (lenOf pd_7 rfl) rfl (by show 2 * 0 + _ ≤ _; exact Nat.le_of_eq rfl) (hb hby d9_17)
  obtain ⟨rfl, rfl, e4⟩ := hQ4
  rw [List.append_nil] at X4
  refine Go.st st4 ?_
  show Go p.tables e below PP (T4.setTop (mkF m 20 #[.val (.ref a1), .val (.int p2), .val (.int (0 : Int32))] [(.int (firstIx f1 (p2.toInt8.toInt32) 0 n1.toNatClampNeg))]))
  refine Go.st (fun t k => XS.goto X4.here hx rfl (pc0 := 20) (pc' := 36) rfl (hb hby d9_20) (by decide) (by decide) k) ?_
  show Go p.tables e below PP (T4.setTop (mkF m 36 #[.val (.ref a1), .val (.int p2), .val (.int (0 : Int32))] [(.int (firstIx f1 (p2.toInt8.toInt32) 0 n1.toNatClampNeg))]))
  rw [hPP]
  refine endI X4 hx hlk hret (hb hby d9_36) ?_ (by decide) (by decide)
  show Q9 Z a1 p2 t1 n1 f1 zc h0 n0 (some (.int (firstIx f1 (p2.toInt8.toInt32) 0 n1.toNatClampNeg))) T4.heap _
  rw [e4]
  exact ⟨rfl, rfl, rfl⟩
theorem d8_0 : decode jdk_42_method_79_code 0 = .ok (.aload_n 0, 1) := by decide +kernel
theorem d8_1 : decode jdk_42_method_79_code 1 = .ok (.iload_n 1, 1) := by decide +kernel
theorem d8_2 : decode jdk_42_method_79_code 2 = .ok (.iconst 0, 1) := by decide +kernel
theorem d8_3 : decode jdk_42_method_79_code 3 = .ok (.invokevirtual 633, 3) := by decide +kernel
theorem d8_6 : decode jdk_42_method_79_code 6 = .ok (.ireturn, 1) := by decide +kernel
theorem pn_rm8 : plainName "java/lang/String" = true := by first | (simp [plainName, overriddenIn]; done) | decide +kernel
theorem ef_rm8 (m : MethodId) (a1 : Addr) (p2 : Int32) : entryFrame m #[(.ref a1), (.int p2)] 2 = mkF m 0 #[.val (.ref a1), .val (.int p2)] [] := by first | (simp [entryFrame, mkF, argsToLocals, Value.category]; done) | rfl
def Q8 (Z : State) (a1 : Addr) (p2 : Int32) (t1 : Addr) (n1 : Int32) (f1 : Nat → Int32) (zc : Int32) (h0 : Heap) (n0 : Nat) (v : Option Value) (h : Heap) (L : List Loc) : Prop := v = some (.int (firstIx f1 (p2.toInt8.toInt32) 0 n1.toNatClampNeg)) ∧ L = [] ∧ h = h0
set_option maxRecDepth 65536 in
set_option maxHeartbeats 40000000 in
theorem rm8 (l : Launch) (Z : State) (a0 : Array Value) (hw : ∀ d ∈ tables_1, d.before a0 Z = true) (ws : List Jvm.Cond) (a1 : Addr) (p2 : Int32) (t1 : Addr) (n1 : Int32) (f1 : Nat → Int32) (zc : Int32) (h0 : Heap) (n0 : Nat) (Z0 : n0 ≤ h0.size) (F_value_a1 : Fld Z h0 a1 "java/lang/String" "value" "[B" (.ref t1)) (F_coder_a1 : Fld Z h0 a1 "java/lang/String" "coder" "B" (.int (0 : Int32))) (V_t1 : Afn Z h0 t1 .byte n1 (fun k => .int (f1 k))) (E_a1 : Exa Z h0 a1 "java/lang/String") (SC : Sta Z Z.heap "java/lang/String" "COMPACT_STRINGS" "Z" (.int zc)) (hzc : ¬ zc = (0 : Int32)) (O : Old Z n0 h0) (hch : ¬ p2 < (0 : Int32) ∧ ¬ (255 : Int32) < p2) :
    Con l Z (⟨"java/lang/String", "indexOf", "(I)I"⟩ : MethodName) jdk_42_method_79_code 2 (some .int) ws ({ frames := 3, cells := 0, slots := 0, locals := 46 } : Room) #[(.ref a1), (.int p2)] h0 (Q8 Z a1 p2 t1 n1 f1 zc h0 n0) := by
  refine Con.of (plainFor_of_name pn_rm8) ?_
  intro p e s m below meth c s₁ hZ e0 X0 hx hby hml hown hnm hret hlk
  replace hml : c.maxLocals = 2 := hml
  have hown : s.vm.findClass "java/lang/String" = some m.cls := hown
  have N0 : Fr n0 [] := Fr.nil n0
  obtain ⟨PP, hPP⟩ : ∃ P, P = Fine s below (Q8 Z a1 p2 t1 n1 f1 zc h0 n0) ({ frames := 3, cells := 0, slots := 0, locals := 46 } : Room).cells ({ frames := 3, cells := 0, slots := 0, locals := 46 } : Room).slots := ⟨_, rfl⟩
  rw [← hPP]
  refine Go.cast (ef_rm8 m a1 p2) ?_
  have Zn : n0 ≤ h0.size := Z0
  show Go p.tables e below PP (s₁.setTop (mkF m 0 #[.val (.ref a1), .val (.int p2)] []))
  refine Go.st (fun t k => XS.aloadN X0.here hx rfl (hb hby d8_0) rfl rfl k) ?_
  show Go p.tables e below PP (s₁.setTop (mkF m 1 #[.val (.ref a1), .val (.int p2)] [(.ref a1)]))
  refine Go.st (fun t k => XS.iloadN X0.here hx rfl (hb hby d8_1) rfl k) ?_
  show Go p.tables e below PP (s₁.setTop (mkF m 2 #[.val (.ref a1), .val (.int p2)] [(.int p2), (.ref a1)]))
  refine Go.st (fun t k => XS.iconst X0.here hx rfl (hb hby d8_2) k) ?_
  show Go p.tables e below PP (s₁.setTop (mkF m 3 #[.val (.ref a1), .val (.int p2)] [(.int (0 : Int32)), (.int p2), (.ref a1)]))
  obtain ⟨v1, T1, L1, X1, hQ1, st1⟩ := callVi X0 hx hZ (C := "java/lang/String") (y := (⟨"java/lang/String", "indexOf", "(II)I"⟩ : MethodName)) (z := (⟨"java/lang/String", "indexOf", "(II)I"⟩ : MethodName)) (a := a1) (argsL := [(.int p2), (.int (0 : Int32))]) (rest := []) hown (hw _ (List.mem_of_getElem? (i := 42) rfl)) (hw _ (List.mem_of_getElem? (i := 43) rfl)) (notFace_of_selects (args := #[]) (mvT hZ (hw _ (List.mem_of_getElem? (i := 45) rfl)))) (hw _ (List.mem_of_getElem? (i := 45) rfl)) (hw _ (List.mem_of_getElem? (i := 44) rfl)) (hw _ (List.mem_of_getElem? (i := 10) rfl)) (hw _ (List.mem_of_getElem? (i := 46) rfl)) (by decide) rfl E_a1 (rm9 l Z a0 hw [] a1 p2 t1 n1 f1 zc h0 n0 Zn F_value_a1 F_coder_a1 V_t1 E_a1 SC hzc O hch) e0 0 (by decide) (by decide) (by decide) (by decide) (g := (mkF m 3 #[.val (.ref a1), .val (.int p2)] [(.int (0 : Int32)), (.int p2), (.ref a1)])) rfl (by rw [hml]; rfl) (lenOf pd_6 rfl) rfl (by show 2 * 0 + _ ≤ _; exact Nat.le_of_eq rfl) (hb hby d8_3)
  obtain ⟨rfl, rfl, e1⟩ := hQ1
  rw [List.append_nil] at X1
  refine Go.st st1 ?_
  show Go p.tables e below PP (T1.setTop (mkF m 6 #[.val (.ref a1), .val (.int p2)] [(.int (firstIx f1 (p2.toInt8.toInt32) 0 n1.toNatClampNeg))]))
  rw [hPP]
  refine endI X1 hx hlk hret (hb hby d8_6) ?_ (by decide) (by decide)
  show Q8 Z a1 p2 t1 n1 f1 zc h0 n0 (some (.int (firstIx f1 (p2.toInt8.toInt32) 0 n1.toNatClampNeg))) T1.heap _
  rw [e1]
  exact ⟨rfl, rfl, rfl⟩
theorem d24_0 : decode jdk_41_method_12_code 0 = .ok (.iload_n 0, 1) := by decide +kernel
theorem d24_1 : decode jdk_41_method_12_code 1 = .ok (.ifCond .lt 13, 3) := by decide +kernel
theorem d24_4 : decode jdk_41_method_12_code 4 = .ok (.iload_n 0, 1) := by decide +kernel
theorem d24_5 : decode jdk_41_method_12_code 5 = .ok (.iload_n 1, 1) := by decide +kernel
theorem d24_6 : decode jdk_41_method_12_code 6 = .ok (.if_icmp .gt 8, 3) := by decide +kernel
theorem d24_9 : decode jdk_41_method_12_code 9 = .ok (.iload_n 1, 1) := by decide +kernel
theorem d24_10 : decode jdk_41_method_12_code 10 = .ok (.iload_n 2, 1) := by decide +kernel
theorem d24_11 : decode jdk_41_method_12_code 11 = .ok (.if_icmp .le 11, 3) := by decide +kernel
theorem d24_14 : decode jdk_41_method_12_code 14 = .ok (.aload_n 3, 1) := by decide +kernel
theorem d24_15 : decode jdk_41_method_12_code 15 = .ok (.iload_n 0, 1) := by decide +kernel
theorem d24_16 : decode jdk_41_method_12_code 16 = .ok (.iload_n 1, 1) := by decide +kernel
theorem d24_17 : decode jdk_41_method_12_code 17 = .ok (.iload_n 2, 1) := by decide +kernel
theorem d24_18 : decode jdk_41_method_12_code 18 = .ok (.invokestatic 99, 3) := by decide +kernel
theorem d24_21 : decode jdk_41_method_12_code 21 = .ok (.athrow, 1) := by decide +kernel
theorem d24_22 : decode jdk_41_method_12_code 22 = .ok (.iload_n 0, 1) := by decide +kernel
theorem d24_23 : decode jdk_41_method_12_code 23 = .ok (.ireturn, 1) := by decide +kernel
theorem pn_rm24 : plainName "jdk/internal/util/Preconditions" = true := by first | (simp [plainName, overriddenIn]; done) | decide +kernel
theorem ef_rm24 (m : MethodId) (p1 : Int32) (p2 : Int32) (p3 : Int32) (sv : Value) (hr_sv : sv.isRef = true) : entryFrame m #[(.int p1), (.int p2), (.int p3), sv] 4 = mkF m 0 #[.val (.int p1), .val (.int p2), .val (.int p3), .val sv] [] := by cases sv <;> first | (simp [entryFrame, mkF, argsToLocals, Value.category]; done) | rfl | (simp [Value.isRef] at hr_sv; done)
def Q24 (Z : State) (p1 : Int32) (p2 : Int32) (p3 : Int32) (sv : Value) (h0 : Heap) (n0 : Nat) (v : Option Value) (h : Heap) (L : List Loc) : Prop := v = some (.int p1) ∧ L = [] ∧ h = h0
set_option maxRecDepth 65536 in
set_option maxHeartbeats 40000000 in
theorem rm24 (l : Launch) (Z : State) (a0 : Array Value) (hw : ∀ d ∈ tables_1, d.before a0 Z = true) (ws : List Jvm.Cond) (p1 : Int32) (p2 : Int32) (p3 : Int32) (sv : Value) (h0 : Heap) (n0 : Nat) (Z0 : n0 ≤ h0.size) (hr_sv : sv.isRef = true) (hck : ¬ p1 < (0 : Int32) ∧ ¬ p2 < p1 ∧ ¬ p3 < p2) :
    Con l Z (⟨"jdk/internal/util/Preconditions", "checkFromToIndex", "(IIILjava/util/function/BiFunction;)I"⟩ : MethodName) jdk_41_method_12_code 4 (some .int) ws ({ frames := 0, cells := 0, slots := 0, locals := 0 } : Room) #[(.int p1), (.int p2), (.int p3), sv] h0 (Q24 Z p1 p2 p3 sv h0 n0) := by
  refine Con.of (plainFor_of_name pn_rm24) ?_
  intro p e s m below meth c s₁ hZ e0 X0 hx hby hml hown hnm hret hlk
  replace hml : c.maxLocals = 4 := hml
  have hown : s.vm.findClass "jdk/internal/util/Preconditions" = some m.cls := hown
  have N0 : Fr n0 [] := Fr.nil n0
  obtain ⟨PP, hPP⟩ : ∃ P, P = Fine s below (Q24 Z p1 p2 p3 sv h0 n0) ({ frames := 0, cells := 0, slots := 0, locals := 0 } : Room).cells ({ frames := 0, cells := 0, slots := 0, locals := 0 } : Room).slots := ⟨_, rfl⟩
  rw [← hPP]
  refine Go.cast (ef_rm24 m p1 p2 p3 sv hr_sv) ?_
  have Zn : n0 ≤ h0.size := Z0
  show Go p.tables e below PP (s₁.setTop (mkF m 0 #[.val (.int p1), .val (.int p2), .val (.int p3), .val sv] []))
  refine Go.st (fun t k => XS.iloadN X0.here hx rfl (hb hby d24_0) rfl k) ?_
  show Go p.tables e below PP (s₁.setTop (mkF m 1 #[.val (.int p1), .val (.int p2), .val (.int p3), .val sv] [(.int p1)]))
  refine Go.st (fun t k => XS.ifNo X0.here hx rfl (hb hby d24_1) rfl (XT.i0_lt_f hck.1) k) ?_
  show Go p.tables e below PP (s₁.setTop (mkF m 4 #[.val (.int p1), .val (.int p2), .val (.int p3), .val sv] []))
  refine Go.st (fun t k => XS.iloadN X0.here hx rfl (hb hby d24_4) rfl k) ?_
  show Go p.tables e below PP (s₁.setTop (mkF m 5 #[.val (.int p1), .val (.int p2), .val (.int p3), .val sv] [(.int p1)]))
  refine Go.st (fun t k => XS.iloadN X0.here hx rfl (hb hby d24_5) rfl k) ?_
  show Go p.tables e below PP (s₁.setTop (mkF m 6 #[.val (.int p1), .val (.int p2), .val (.int p3), .val sv] [(.int p2), (.int p1)]))
  refine Go.st (fun t k => XS.icmpNo X0.here hx rfl (hb hby d24_6) rfl (XT.ii_gt_f hck.2.1) k) ?_
  show Go p.tables e below PP (s₁.setTop (mkF m 9 #[.val (.int p1), .val (.int p2), .val (.int p3), .val sv] []))
  refine Go.st (fun t k => XS.iloadN X0.here hx rfl (hb hby d24_9) rfl k) ?_
  show Go p.tables e below PP (s₁.setTop (mkF m 10 #[.val (.int p1), .val (.int p2), .val (.int p3), .val sv] [(.int p2)]))
  refine Go.st (fun t k => XS.iloadN X0.here hx rfl (hb hby d24_10) rfl k) ?_
  show Go p.tables e below PP (s₁.setTop (mkF m 11 #[.val (.int p1), .val (.int p2), .val (.int p3), .val sv] [(.int p3), (.int p2)]))
  refine Go.st (fun t k => XS.icmpYes X0.here hx rfl (pc0 := 11) (pc' := 22) rfl (hb hby d24_11) rfl (XT.ii_le_t hck.2.2) (by decide) (by decide) k) ?_
  show Go p.tables e below PP (s₁.setTop (mkF m 22 #[.val (.int p1), .val (.int p2), .val (.int p3), .val sv] []))
  refine Go.st (fun t k => XS.iloadN X0.here hx rfl (hb hby d24_22) rfl k) ?_
  show Go p.tables e below PP (s₁.setTop (mkF m 23 #[.val (.int p1), .val (.int p2), .val (.int p3), .val sv] [(.int p1)]))
  rw [hPP]
  refine endI X0 hx hlk hret (hb hby d24_23) ?_ (by decide) (by decide)
  show Q24 Z p1 p2 p3 sv h0 n0 (some (.int p1)) s₁.heap _
  rw [e0]
  exact ⟨rfl, rfl, rfl⟩
theorem d23_0 : decode jdk_42_method_158_code 0 = .ok (.iload_n 0, 1) := by decide +kernel
theorem d23_1 : decode jdk_42_method_158_code 1 = .ok (.iload_n 1, 1) := by decide +kernel
theorem d23_2 : decode jdk_42_method_158_code 2 = .ok (.iload_n 2, 1) := by decide +kernel
theorem d23_3 : decode jdk_42_method_158_code 3 = .ok (.getstatic 1053, 3) := by decide +kernel
theorem d23_6 : decode jdk_42_method_158_code 6 = .ok (.invokestatic 1062, 3) := by decide +kernel
theorem d23_9 : decode jdk_42_method_158_code 9 = .ok (.pop, 1) := by decide +kernel
theorem d23_10 : decode jdk_42_method_158_code 10 = .ok (.return_, 1) := by decide +kernel
theorem pn_rm23 : plainName "java/lang/String" = true := by first | (simp [plainName, overriddenIn]; done) | decide +kernel
theorem ef_rm23 (m : MethodId) (p1 : Int32) (p2 : Int32) (p3 : Int32) : entryFrame m #[(.int p1), (.int p2), (.int p3)] 3 = mkF m 0 #[.val (.int p1), .val (.int p2), .val (.int p3)] [] := by first | (simp [entryFrame, mkF, argsToLocals, Value.category]; done) | rfl
def Q23 (Z : State) (p1 : Int32) (p2 : Int32) (p3 : Int32) (sv : Value) (h0 : Heap) (n0 : Nat) (v : Option Value) (h : Heap) (L : List Loc) : Prop := v = none ∧ L = [] ∧ h = h0
theorem pd_10 : parseMethodDescriptor "(IIILjava/util/function/BiFunction;)I" = some ⟨[.int, .int, .int, (.object "java/util/function/BiFunction")], some .int⟩ := by decide +kernel
set_option maxRecDepth 65536 in
set_option maxHeartbeats 40000000 in
theorem rm23 (l : Launch) (Z : State) (a0 : Array Value) (hw : ∀ d ∈ tables_1, d.before a0 Z = true) (ws : List Jvm.Cond) (p1 : Int32) (p2 : Int32) (p3 : Int32) (sv : Value) (h0 : Heap) (n0 : Nat) (Z0 : n0 ≤ h0.size) (SV : Sta Z Z.heap "jdk/internal/util/Preconditions" "SIOOBE_FORMATTER" "Ljava/util/function/BiFunction;" sv) (hr_sv : sv.isRef = true) (O : Old Z n0 h0) (hck : ¬ p1 < (0 : Int32) ∧ ¬ p2 < p1 ∧ ¬ p3 < p2) :
    Con l Z (⟨"java/lang/String", "checkBoundsBeginEnd", "(III)V"⟩ : MethodName) jdk_42_method_158_code 3 none ws ({ frames := 1, cells := 0, slots := 0, locals := 15 } : Room) #[(.int p1), (.int p2), (.int p3)] h0 (Q23 Z p1 p2 p3 sv h0 n0) := by
  refine Con.of (plainFor_of_name pn_rm23) ?_
  intro p e s m below meth c s₁ hZ e0 X0 hx hby hml hown hnm hret hlk
  replace hml : c.maxLocals = 3 := hml
  have hown : s.vm.findClass "java/lang/String" = some m.cls := hown
  have N0 : Fr n0 [] := Fr.nil n0
  obtain ⟨PP, hPP⟩ : ∃ P, P = Fine s below (Q23 Z p1 p2 p3 sv h0 n0) ({ frames := 1, cells := 0, slots := 0, locals := 15 } : Room).cells ({ frames := 1, cells := 0, slots := 0, locals := 15 } : Room).slots := ⟨_, rfl⟩
  rw [← hPP]
  refine Go.cast (ef_rm23 m p1 p2 p3) ?_
  have Zn : n0 ≤ h0.size := Z0
  show Go p.tables e below PP (s₁.setTop (mkF m 0 #[.val (.int p1), .val (.int p2), .val (.int p3)] []))
  refine Go.st (fun t k => XS.iloadN X0.here hx rfl (hb hby d23_0) rfl k) ?_
  show Go p.tables e below PP (s₁.setTop (mkF m 1 #[.val (.int p1), .val (.int p2), .val (.int p3)] [(.int p1)]))
  refine Go.st (fun t k => XS.iloadN X0.here hx rfl (hb hby d23_1) rfl k) ?_
  show Go p.tables e below PP (s₁.setTop (mkF m 2 #[.val (.int p1), .val (.int p2), .val (.int p3)] [(.int p2), (.int p1)]))
  refine Go.st (fun t k => XS.iloadN X0.here hx rfl (hb hby d23_2) rfl k) ?_
  show Go p.tables e below PP (s₁.setTop (mkF m 3 #[.val (.int p1), .val (.int p2), .val (.int p3)] [(.int p3), (.int p2), (.int p1)]))
  obtain ⟨T1, X1, e1, st1⟩ := getS2 X0 hx hZ hown (host := "") (Or.inl (hw _ (List.mem_of_getElem? (i := 102) rfl))) Via.refl e0 (SV.ext O.2) (g := (mkF m 3 #[.val (.int p1), .val (.int p2), .val (.int p3)] [(.int p3), (.int p2), (.int p1)])) rfl (hb hby d23_3)
  refine Go.st st1 ?_
  show Go p.tables e below PP (T1.setTop (mkF m 6 #[.val (.int p1), .val (.int p2), .val (.int p3)] [sv, (.int p3), (.int p2), (.int p1)]))
  obtain ⟨v2, T2, L2, X2, hQ2, st2⟩ := callSt X1 hx hZ (y := (⟨"jdk/internal/util/Preconditions", "checkFromToIndex", "(IIILjava/util/function/BiFunction;)I"⟩ : MethodName)) (argsL := [(.int p1), (.int p2), (.int p3), sv]) (rest := []) hown (hw _ (List.mem_of_getElem? (i := 104) rfl)) (hw _ (List.mem_of_getElem? (i := 105) rfl)) (hw _ (List.mem_of_getElem? (i := 103) rfl)) (hw _ (List.mem_of_getElem? (i := 106) rfl)) (by decide) (rm24 l Z a0 hw [] p1 p2 p3 sv h0 n0 Zn hr_sv hck) e1 0 (by decide) (by decide) (by decide) (by decide) (g := (mkF m 6 #[.val (.int p1), .val (.int p2), .val (.int p3)] [sv, (.int p3), (.int p2), (.int p1)])) rfl (by rw [hml]; rfl) (lenOf pd_10 rfl) rfl (by show 2 * 0 + _ ≤ _; exact Nat.le_of_eq rfl) (hb hby d23_6)
  obtain ⟨rfl, rfl, e2⟩ := hQ2
  rw [List.append_nil] at X2
  refine Go.st st2 ?_
  show Go p.tables e below PP (T2.setTop (mkF m 9 #[.val (.int p1), .val (.int p2), .val (.int p3)] [(.int p1)]))
  refine Go.st (fun t k => XS.pop X2.here hx rfl (hb hby d23_9) rfl rfl k) ?_
  show Go p.tables e below PP (T2.setTop (mkF m 10 #[.val (.int p1), .val (.int p2), .val (.int p3)] []))
  rw [hPP]
  refine endV X2 hx hlk hret (hb hby d23_10) ?_ (by decide) (by decide)
  show Q23 Z p1 p2 p3 sv h0 n0 none T2.heap _
  rw [e2]
  exact ⟨rfl, rfl, rfl⟩
theorem d33_0 : decode jdk_41_method_11_code 0 = .ok (.iload_n 0, 1) := by decide +kernel
theorem d33_1 : decode jdk_41_method_11_code 1 = .ok (.ifCond .lt 8, 3) := by decide +kernel
theorem d33_4 : decode jdk_41_method_11_code 4 = .ok (.iload_n 0, 1) := by decide +kernel
theorem d33_5 : decode jdk_41_method_11_code 5 = .ok (.iload_n 1, 1) := by decide +kernel
theorem d33_6 : decode jdk_41_method_11_code 6 = .ok (.if_icmp .lt 10, 3) := by decide +kernel
theorem d33_9 : decode jdk_41_method_11_code 9 = .ok (.aload_n 2, 1) := by decide +kernel
theorem d33_10 : decode jdk_41_method_11_code 10 = .ok (.iload_n 0, 1) := by decide +kernel
theorem d33_11 : decode jdk_41_method_11_code 11 = .ok (.iload_n 1, 1) := by decide +kernel
theorem d33_12 : decode jdk_41_method_11_code 12 = .ok (.invokestatic 95, 3) := by decide +kernel
theorem d33_15 : decode jdk_41_method_11_code 15 = .ok (.athrow, 1) := by decide +kernel
theorem d33_16 : decode jdk_41_method_11_code 16 = .ok (.iload_n 0, 1) := by decide +kernel
theorem d33_17 : decode jdk_41_method_11_code 17 = .ok (.ireturn, 1) := by decide +kernel
theorem pn_rm33 : plainName "jdk/internal/util/Preconditions" = true := by first | (simp [plainName, overriddenIn]; done) | decide +kernel
theorem ef_rm33 (m : MethodId) (p1 : Int32) (p2 : Int32) (sv : Value) (hr_sv : sv.isRef = true) : entryFrame m #[(.int p1), (.int p2), sv] 3 = mkF m 0 #[.val (.int p1), .val (.int p2), .val sv] [] := by cases sv <;> first | (simp [entryFrame, mkF, argsToLocals, Value.category]; done) | rfl | (simp [Value.isRef] at hr_sv; done)
def Q33 (Z : State) (p1 : Int32) (p2 : Int32) (sv : Value) (h0 : Heap) (n0 : Nat) (v : Option Value) (h : Heap) (L : List Loc) : Prop := v = some (.int p1) ∧ L = [] ∧ h = h0
set_option maxRecDepth 65536 in
set_option maxHeartbeats 40000000 in
theorem rm33 (l : Launch) (Z : State) (a0 : Array Value) (hw : ∀ d ∈ tables_1, d.before a0 Z = true) (ws : List Jvm.Cond) (p1 : Int32) (p2 : Int32) (sv : Value) (h0 : Heap) (n0 : Nat) (Z0 : n0 ≤ h0.size) (hr_sv : sv.isRef = true) (hci : ¬ p1 < (0 : Int32) ∧ p1 < p2) :
    Con l Z (⟨"jdk/internal/util/Preconditions", "checkIndex", "(IILjava/util/function/BiFunction;)I"⟩ : MethodName) jdk_41_method_11_code 3 (some .int) ws ({ frames := 0, cells := 0, slots := 0, locals := 0 } : Room) #[(.int p1), (.int p2), sv] h0 (Q33 Z p1 p2 sv h0 n0) := by
  refine Con.of (plainFor_of_name pn_rm33) ?_
  intro p e s m below meth c s₁ hZ e0 X0 hx hby hml hown hnm hret hlk
  replace hml : c.maxLocals = 3 := hml
  have hown : s.vm.findClass "jdk/internal/util/Preconditions" = some m.cls := hown
  have N0 : Fr n0 [] := Fr.nil n0
  obtain ⟨PP, hPP⟩ : ∃ P, P = Fine s below (Q33 Z p1 p2 sv h0 n0) ({ frames := 0, cells := 0, slots := 0, locals := 0 } : Room).cells ({ frames := 0, cells := 0, slots := 0, locals := 0 } : Room).slots := ⟨_, rfl⟩
  rw [← hPP]
  refine Go.cast (ef_rm33 m p1 p2 sv hr_sv) ?_
  have Zn : n0 ≤ h0.size := Z0
  show Go p.tables e below PP (s₁.setTop (mkF m 0 #[.val (.int p1), .val (.int p2), .val sv] []))
  refine Go.st (fun t k => XS.iloadN X0.here hx rfl (hb hby d33_0) rfl k) ?_
  show Go p.tables e below PP (s₁.setTop (mkF m 1 #[.val (.int p1), .val (.int p2), .val sv] [(.int p1)]))
  refine Go.st (fun t k => XS.ifNo X0.here hx rfl (hb hby d33_1) rfl (XT.i0_lt_f hci.1) k) ?_
  show Go p.tables e below PP (s₁.setTop (mkF m 4 #[.val (.int p1), .val (.int p2), .val sv] []))
  refine Go.st (fun t k => XS.iloadN X0.here hx rfl (hb hby d33_4) rfl k) ?_
  show Go p.tables e below PP (s₁.setTop (mkF m 5 #[.val (.int p1), .val (.int p2), .val sv] [(.int p1)]))
  refine Go.st (fun t k => XS.iloadN X0.here hx rfl (hb hby d33_5) rfl k) ?_
  show Go p.tables e below PP (s₁.setTop (mkF m 6 #[.val (.int p1), .val (.int p2), .val sv] [(.int p2), (.int p1)]))
  refine Go.st (fun t k => XS.icmpYes X0.here hx rfl (pc0 := 6) (pc' := 16) rfl (hb hby d33_6) rfl (XT.ii_lt_t hci.2) (by decide) (by decide) k) ?_
  show Go p.tables e below PP (s₁.setTop (mkF m 16 #[.val (.int p1), .val (.int p2), .val sv] []))
  refine Go.st (fun t k => XS.iloadN X0.here hx rfl (hb hby d33_16) rfl k) ?_
  show Go p.tables e below PP (s₁.setTop (mkF m 17 #[.val (.int p1), .val (.int p2), .val sv] [(.int p1)]))
  rw [hPP]
  refine endI X0 hx hlk hret (hb hby d33_17) ?_ (by decide) (by decide)
  show Q33 Z p1 p2 sv h0 n0 (some (.int p1)) s₁.heap _
  rw [e0]
  exact ⟨rfl, rfl, rfl⟩
theorem d32_0 : decode jdk_42_method_155_code 0 = .ok (.iload_n 0, 1) := by decide +kernel
theorem d32_1 : decode jdk_42_method_155_code 1 = .ok (.iload_n 1, 1) := by decide +kernel
theorem d32_2 : decode jdk_42_method_155_code 2 = .ok (.getstatic 1053, 3) := by decide +kernel
theorem d32_5 : decode jdk_42_method_155_code 5 = .ok (.invokestatic 1059, 3) := by decide +kernel
theorem d32_8 : decode jdk_42_method_155_code 8 = .ok (.pop, 1) := by decide +kernel
theorem d32_9 : decode jdk_42_method_155_code 9 = .ok (.return_, 1) := by decide +kernel
theorem pn_rm32 : plainName "java/lang/String" = true := by first | (simp [plainName, overriddenIn]; done) | decide +kernel
theorem ef_rm32 (m : MethodId) (p1 : Int32) (p2 : Int32) : entryFrame m #[(.int p1), (.int p2)] 2 = mkF m 0 #[.val (.int p1), .val (.int p2)] [] := by first | (simp [entryFrame, mkF, argsToLocals, Value.category]; done) | rfl
def Q32 (Z : State) (p1 : Int32) (p2 : Int32) (sv : Value) (h0 : Heap) (n0 : Nat) (v : Option Value) (h : Heap) (L : List Loc) : Prop := v = none ∧ L = [] ∧ h = h0
theorem pd_11 : parseMethodDescriptor "(IILjava/util/function/BiFunction;)I" = some ⟨[.int, .int, (.object "java/util/function/BiFunction")], some .int⟩ := by decide +kernel
set_option maxRecDepth 65536 in
set_option maxHeartbeats 40000000 in
theorem rm32 (l : Launch) (Z : State) (a0 : Array Value) (hw : ∀ d ∈ tables_1, d.before a0 Z = true) (ws : List Jvm.Cond) (p1 : Int32) (p2 : Int32) (sv : Value) (h0 : Heap) (n0 : Nat) (Z0 : n0 ≤ h0.size) (SV : Sta Z Z.heap "jdk/internal/util/Preconditions" "SIOOBE_FORMATTER" "Ljava/util/function/BiFunction;" sv) (hr_sv : sv.isRef = true) (O : Old Z n0 h0) (hci : ¬ p1 < (0 : Int32) ∧ p1 < p2) :
    Con l Z (⟨"java/lang/String", "checkIndex", "(II)V"⟩ : MethodName) jdk_42_method_155_code 2 none ws ({ frames := 1, cells := 0, slots := 0, locals := 14 } : Room) #[(.int p1), (.int p2)] h0 (Q32 Z p1 p2 sv h0 n0) := by
  refine Con.of (plainFor_of_name pn_rm32) ?_
  intro p e s m below meth c s₁ hZ e0 X0 hx hby hml hown hnm hret hlk
  replace hml : c.maxLocals = 2 := hml
  have hown : s.vm.findClass "java/lang/String" = some m.cls := hown
  have N0 : Fr n0 [] := Fr.nil n0
  obtain ⟨PP, hPP⟩ : ∃ P, P = Fine s below (Q32 Z p1 p2 sv h0 n0) ({ frames := 1, cells := 0, slots := 0, locals := 14 } : Room).cells ({ frames := 1, cells := 0, slots := 0, locals := 14 } : Room).slots := ⟨_, rfl⟩
  rw [← hPP]
  refine Go.cast (ef_rm32 m p1 p2) ?_
  have Zn : n0 ≤ h0.size := Z0
  show Go p.tables e below PP (s₁.setTop (mkF m 0 #[.val (.int p1), .val (.int p2)] []))
  refine Go.st (fun t k => XS.iloadN X0.here hx rfl (hb hby d32_0) rfl k) ?_
  show Go p.tables e below PP (s₁.setTop (mkF m 1 #[.val (.int p1), .val (.int p2)] [(.int p1)]))
  refine Go.st (fun t k => XS.iloadN X0.here hx rfl (hb hby d32_1) rfl k) ?_
  show Go p.tables e below PP (s₁.setTop (mkF m 2 #[.val (.int p1), .val (.int p2)] [(.int p2), (.int p1)]))
  obtain ⟨T1, X1, e1, st1⟩ := getS2 X0 hx hZ hown (host := "") (Or.inl (hw _ (List.mem_of_getElem? (i := 102) rfl))) Via.refl e0 (SV.ext O.2) (g := (mkF m 2 #[.val (.int p1), .val (.int p2)] [(.int p2), (.int p1)])) rfl (hb hby d32_2)
  refine Go.st st1 ?_
  show Go p.tables e below PP (T1.setTop (mkF m 5 #[.val (.int p1), .val (.int p2)] [sv, (.int p2), (.int p1)]))
  obtain ⟨v2, T2, L2, X2, hQ2, st2⟩ := callSt X1 hx hZ (y := (⟨"jdk/internal/util/Preconditions", "checkIndex", "(IILjava/util/function/BiFunction;)I"⟩ : MethodName)) (argsL := [(.int p1), (.int p2), sv]) (rest := []) hown (hw _ (List.mem_of_getElem? (i := 140) rfl)) (hw _ (List.mem_of_getElem? (i := 141) rfl)) (hw _ (List.mem_of_getElem? (i := 103) rfl)) (hw _ (List.mem_of_getElem? (i := 142) rfl)) (by decide) (rm33 l Z a0 hw [] p1 p2 sv h0 n0 Zn hr_sv hci) e1 0 (by decide) (by decide) (by decide) (by decide) (g := (mkF m 5 #[.val (.int p1), .val (.int p2)] [sv, (.int p2), (.int p1)])) rfl (by rw [hml]; rfl) (lenOf pd_11 rfl) rfl (by show 2 * 0 + _ ≤ _; exact Nat.le_of_eq rfl) (hb hby d32_5)
  obtain ⟨rfl, rfl, e2⟩ := hQ2
  rw [List.append_nil] at X2
  refine Go.st st2 ?_
  show Go p.tables e below PP (T2.setTop (mkF m 8 #[.val (.int p1), .val (.int p2)] [(.int p1)]))
  refine Go.st (fun t k => XS.pop X2.here hx rfl (hb hby d32_8) rfl rfl k) ?_
  show Go p.tables e below PP (T2.setTop (mkF m 9 #[.val (.int p1), .val (.int p2)] []))
  rw [hPP]
  refine endV X2 hx hlk hret (hb hby d32_9) ?_ (by decide) (by decide)
  show Q32 Z p1 p2 sv h0 n0 none T2.heap _
  rw [e2]
  exact ⟨rfl, rfl, rfl⟩
def chB (b : Int32) : Int32 := nar .char ((b &&& (255 : Int32)).toUInt32.toUInt16.toUInt32.toInt32)
def chC (b : Int32) : Int32 := nar .char (chB b)
theorem d31_0 : decode jdk_43_method_2_code 0 = .ok (.iload_n 1, 1) := by decide +kernel
theorem d31_1 : decode jdk_43_method_2_code 1 = .ok (.aload_n 0, 1) := by decide +kernel
theorem d31_2 : decode jdk_43_method_2_code 2 = .ok (.arraylength, 1) := by decide +kernel
theorem d31_3 : decode jdk_43_method_2_code 3 = .ok (.invokestatic 9, 3) := by decide +kernel
theorem d31_6 : decode jdk_43_method_2_code 6 = .ok (.aload_n 0, 1) := by decide +kernel
theorem d31_7 : decode jdk_43_method_2_code 7 = .ok (.iload_n 1, 1) := by decide +kernel
theorem d31_8 : decode jdk_43_method_2_code 8 = .ok (.baload, 1) := by decide +kernel
theorem d31_9 : decode jdk_43_method_2_code 9 = .ok (.sipush 255, 3) := by decide +kernel
theorem d31_12 : decode jdk_43_method_2_code 12 = .ok (.iand, 1) := by decide +kernel
theorem d31_13 : decode jdk_43_method_2_code 13 = .ok (.i2c, 1) := by decide +kernel
theorem d31_14 : decode jdk_43_method_2_code 14 = .ok (.ireturn, 1) := by decide +kernel
theorem pn_rm31 : plainName "java/lang/StringLatin1" = true := by first | (simp [plainName, overriddenIn]; done) | decide +kernel
theorem ef_rm31 (m : MethodId) (a1 : Addr) (p2 : Int32) : entryFrame m #[(.ref a1), (.int p2)] 2 = mkF m 0 #[.val (.ref a1), .val (.int p2)] [] := by first | (simp [entryFrame, mkF, argsToLocals, Value.category]; done) | rfl
def Q31 (Z : State) (a1 : Addr) (p2 : Int32) (n1 : Int32) (f1 : Nat → Int32) (sv : Value) (h0 : Heap) (n0 : Nat) (v : Option Value) (h : Heap) (L : List Loc) : Prop := v = some (.int (chB (f1 p2.toNatClampNeg))) ∧ L = [] ∧ h = h0
theorem pd_12 : parseMethodDescriptor "(II)V" = some ⟨[.int, .int], none⟩ := by decide +kernel
set_option maxRecDepth 65536 in
set_option maxHeartbeats 40000000 in
theorem rm31 (l : Launch) (Z : State) (a0 : Array Value) (hw : ∀ d ∈ tables_1, d.before a0 Z = true) (ws : List Jvm.Cond) (a1 : Addr) (p2 : Int32) (n1 : Int32) (f1 : Nat → Int32) (sv : Value) (h0 : Heap) (n0 : Nat) (Z0 : n0 ≤ h0.size) (V1 : Afn Z h0 a1 .byte n1 (fun k => .int (f1 k))) (SV : Sta Z Z.heap "jdk/internal/util/Preconditions" "SIOOBE_FORMATTER" "Ljava/util/function/BiFunction;" sv) (hr_sv : sv.isRef = true) (O : Old Z n0 h0) (hci : ¬ p2 < (0 : Int32) ∧ p2 < n1) :
    Con l Z (⟨"java/lang/StringLatin1", "charAt", "([BI)C"⟩ : MethodName) jdk_43_method_2_code 2 (some .char) ws ({ frames := 2, cells := 0, slots := 0, locals := 27 } : Room) #[(.ref a1), (.int p2)] h0 (Q31 Z a1 p2 n1 f1 sv h0 n0) := by
  refine Con.of (plainFor_of_name pn_rm31) ?_
  intro p e s m below meth c s₁ hZ e0 X0 hx hby hml hown hnm hret hlk
  replace hml : c.maxLocals = 2 := hml
  have hown : s.vm.findClass "java/lang/StringLatin1" = some m.cls := hown
  have N0 : Fr n0 [] := Fr.nil n0
  obtain ⟨PP, hPP⟩ : ∃ P, P = Fine s below (Q31 Z a1 p2 n1 f1 sv h0 n0) ({ frames := 2, cells := 0, slots := 0, locals := 27 } : Room).cells ({ frames := 2, cells := 0, slots := 0, locals := 27 } : Room).slots := ⟨_, rfl⟩
  rw [← hPP]
  refine Go.cast (ef_rm31 m a1 p2) ?_
  have Zn : n0 ≤ h0.size := Z0
  show Go p.tables e below PP (s₁.setTop (mkF m 0 #[.val (.ref a1), .val (.int p2)] []))
  refine Go.st (fun t k => XS.iloadN X0.here hx rfl (hb hby d31_0) rfl k) ?_
  show Go p.tables e below PP (s₁.setTop (mkF m 1 #[.val (.ref a1), .val (.int p2)] [(.int p2)]))
  refine Go.st (fun t k => XS.aloadN X0.here hx rfl (hb hby d31_1) rfl rfl k) ?_
  show Go p.tables e below PP (s₁.setTop (mkF m 2 #[.val (.ref a1), .val (.int p2)] [(.ref a1), (.int p2)]))
  obtain ⟨cl1, Ar1, S1, Nn1, -⟩ := id V1
  refine Go.st (fun t k => X0.arraylength hx (by rw [e0]; exact Ar1.1) (State.isArrayOf_alike hZ.alike Ar1.2.1) (g := (mkF m 2 #[.val (.ref a1), .val (.int p2)] [(.ref a1), (.int p2)])) rfl rfl (hb hby d31_2) _ k) ?_
  rw [len_of S1 Nn1]
  show Go p.tables e below PP (s₁.setTop (mkF m 3 #[.val (.ref a1), .val (.int p2)] [(.int n1), (.int p2)]))
  obtain ⟨v2, T2, L2, X2, hQ2, st2⟩ := callSt X0 hx hZ (y := (⟨"java/lang/String", "checkIndex", "(II)V"⟩ : MethodName)) (argsL := [(.int p2), (.int n1)]) (rest := []) hown (hw _ (List.mem_of_getElem? (i := 137) rfl)) (hw _ (List.mem_of_getElem? (i := 138) rfl)) (hw _ (List.mem_of_getElem? (i := 10) rfl)) (hw _ (List.mem_of_getElem? (i := 139) rfl)) (by decide) (rm32 l Z a0 hw [] p2 n1 sv h0 n0 Zn SV hr_sv O hci) e0 0 (by decide) (by decide) (by decide) (by decide) (g := (mkF m 3 #[.val (.ref a1), .val (.int p2)] [(.int n1), (.int p2)])) rfl (by rw [hml]; rfl) (lenOf pd_12 rfl) rfl (by show 2 * 0 + _ ≤ _; exact Nat.le_of_eq rfl) (hb hby d31_3)
  obtain ⟨rfl, rfl, e2⟩ := hQ2
  rw [List.append_nil] at X2
  refine Go.st st2 ?_
  show Go p.tables e below PP (T2.setTop (mkF m 6 #[.val (.ref a1), .val (.int p2)] []))
  refine Go.st (fun t k => XS.aloadN X2.here hx rfl (hb hby d31_6) rfl rfl k) ?_
  show Go p.tables e below PP (T2.setTop (mkF m 7 #[.val (.ref a1), .val (.int p2)] [(.ref a1)]))
  refine Go.st (fun t k => XS.iloadN X2.here hx rfl (hb hby d31_7) rfl k) ?_
  show Go p.tables e below PP (T2.setTop (mkF m 8 #[.val (.ref a1), .val (.int p2)] [(.int p2), (.ref a1)]))
  obtain ⟨cl3, Ar3, S3, Nn3, H3⟩ := id V1
  have hin3 : ¬ (p2 < 0 ∨ cl3.slots.size ≤ (p2).toNatClampNeg) := inb_of S3 hci
  refine Go.st (fun t k => X2.baloadBytes hx (j := p2) (v := (.int (f1 p2.toNatClampNeg))) (by rw [e2]; exact Ar3.1) (State.isArrayOf_alike hZ.alike Ar3.2.1) Ar3.2.2 hin3 ((H3 _ (inbN hci)).1.trans (congrArg some (rfl))) (g := (mkF m 8 #[.val (.ref a1), .val (.int p2)] [(.int p2), (.ref a1)])) rfl rfl (hb hby d31_8) _ k) ?_
  show Go p.tables e below PP (T2.setTop (mkF m 9 #[.val (.ref a1), .val (.int p2)] [(.int (f1 p2.toNatClampNeg))]))
  refine Go.st (fun t k => XS.sipush X2.here hx rfl (hb hby d31_9) k) ?_
  show Go p.tables e below PP (T2.setTop (mkF m 12 #[.val (.ref a1), .val (.int p2)] [(.int (255 : Int32)), (.int (f1 p2.toNatClampNeg))]))
  refine Go.st (fun t k => XS.iand X2.here hx rfl (hb hby d31_12) rfl k) ?_
  show Go p.tables e below PP (T2.setTop (mkF m 13 #[.val (.ref a1), .val (.int p2)] [(.int ((f1 p2.toNatClampNeg) &&& (255 : Int32)))]))
  refine Go.st (fun t k => XS.i2c X2.here hx rfl (hb hby d31_13) rfl k) ?_
  show Go p.tables e below PP (T2.setTop (mkF m 14 #[.val (.ref a1), .val (.int p2)] [(.int (((f1 p2.toNatClampNeg) &&& (255 : Int32)).toUInt32.toUInt16.toUInt32.toInt32))]))
  rw [hPP]
  refine endN X2 hx hlk (t := .char) hret (by simp) (hb hby d31_14) (w := (chB (f1 p2.toNatClampNeg))) (rfl) ?_ (by decide) (by decide)
  show Q31 Z a1 p2 n1 f1 sv h0 n0 (some (.int (chB (f1 p2.toNatClampNeg)))) T2.heap _
  rw [e2]
  exact ⟨rfl, rfl, rfl⟩
theorem d30_0 : decode jdk_42_method_56_code 0 = .ok (.aload_n 0, 1) := by decide +kernel
theorem d30_1 : decode jdk_42_method_56_code 1 = .ok (.invokevirtual 492, 3) := by decide +kernel
theorem d30_4 : decode jdk_42_method_56_code 4 = .ok (.ifCond .eq 12, 3) := by decide +kernel
theorem d30_7 : decode jdk_42_method_56_code 7 = .ok (.aload_n 0, 1) := by decide +kernel
theorem d30_8 : decode jdk_42_method_56_code 8 = .ok (.getfield 9, 3) := by decide +kernel
theorem d30_11 : decode jdk_42_method_56_code 11 = .ok (.iload_n 1, 1) := by decide +kernel
theorem d30_12 : decode jdk_42_method_56_code 12 = .ok (.invokestatic 495, 3) := by decide +kernel
theorem d30_15 : decode jdk_42_method_56_code 15 = .ok (.ireturn, 1) := by decide +kernel
theorem d30_16 : decode jdk_42_method_56_code 16 = .ok (.aload_n 0, 1) := by decide +kernel
theorem d30_17 : decode jdk_42_method_56_code 17 = .ok (.getfield 9, 3) := by decide +kernel
theorem d30_20 : decode jdk_42_method_56_code 20 = .ok (.iload_n 1, 1) := by decide +kernel
theorem d30_21 : decode jdk_42_method_56_code 21 = .ok (.invokestatic 498, 3) := by decide +kernel
theorem d30_24 : decode jdk_42_method_56_code 24 = .ok (.ireturn, 1) := by decide +kernel
theorem pn_rm30 : plainName "java/lang/String" = true := by first | (simp [plainName, overriddenIn]; done) | decide +kernel
theorem ef_rm30 (m : MethodId) (a1 : Addr) (p2 : Int32) : entryFrame m #[(.ref a1), (.int p2)] 2 = mkF m 0 #[.val (.ref a1), .val (.int p2)] [] := by first | (simp [entryFrame, mkF, argsToLocals, Value.category]; done) | rfl
def Q30 (Z : State) (a1 : Addr) (p2 : Int32) (t1 : Addr) (n1 : Int32) (f1 : Nat → Int32) (zc : Int32) (sv : Value) (h0 : Heap) (n0 : Nat) (v : Option Value) (h : Heap) (L : List Loc) : Prop := v = some (.int (chC (f1 p2.toNatClampNeg))) ∧ L = [] ∧ h = h0
theorem pd_13 : parseMethodDescriptor "([BI)C" = some ⟨[(.array .byte), .int], some .char⟩ := by decide +kernel
set_option maxRecDepth 65536 in
set_option maxHeartbeats 40000000 in
theorem rm30 (l : Launch) (Z : State) (a0 : Array Value) (hw : ∀ d ∈ tables_1, d.before a0 Z = true) (ws : List Jvm.Cond) (a1 : Addr) (p2 : Int32) (t1 : Addr) (n1 : Int32) (f1 : Nat → Int32) (zc : Int32) (sv : Value) (h0 : Heap) (n0 : Nat) (Z0 : n0 ≤ h0.size) (F_value_a1 : Fld Z h0 a1 "java/lang/String" "value" "[B" (.ref t1)) (F_coder_a1 : Fld Z h0 a1 "java/lang/String" "coder" "B" (.int (0 : Int32))) (V_t1 : Afn Z h0 t1 .byte n1 (fun k => .int (f1 k))) (E_a1 : Exa Z h0 a1 "java/lang/String") (SC : Sta Z Z.heap "java/lang/String" "COMPACT_STRINGS" "Z" (.int zc)) (hzc : ¬ zc = (0 : Int32)) (O : Old Z n0 h0) (SV : Sta Z Z.heap "jdk/internal/util/Preconditions" "SIOOBE_FORMATTER" "Ljava/util/function/BiFunction;" sv) (hr_sv : sv.isRef = true) (hci : ¬ p2 < (0 : Int32) ∧ p2 < n1) :
    Con l Z (⟨"java/lang/String", "charAt", "(I)C"⟩ : MethodName) jdk_42_method_56_code 2 (some .char) ws ({ frames := 3, cells := 0, slots := 0, locals := 40 } : Room) #[(.ref a1), (.int p2)] h0 (Q30 Z a1 p2 t1 n1 f1 zc sv h0 n0) := by
  refine Con.of (plainFor_of_name pn_rm30) ?_
  intro p e s m below meth c s₁ hZ e0 X0 hx hby hml hown hnm hret hlk
  replace hml : c.maxLocals = 2 := hml
  have hown : s.vm.findClass "java/lang/String" = some m.cls := hown
  have N0 : Fr n0 [] := Fr.nil n0
  obtain ⟨PP, hPP⟩ : ∃ P, P = Fine s below (Q30 Z a1 p2 t1 n1 f1 zc sv h0 n0) ({ frames := 3, cells := 0, slots := 0, locals := 40 } : Room).cells ({ frames := 3, cells := 0, slots := 0, locals := 40 } : Room).slots := ⟨_, rfl⟩
  rw [← hPP]
  refine Go.cast (ef_rm30 m a1 p2) ?_
  have Zn : n0 ≤ h0.size := Z0
  show Go p.tables e below PP (s₁.setTop (mkF m 0 #[.val (.ref a1), .val (.int p2)] []))
  refine Go.st (fun t k => XS.aloadN X0.here hx rfl (hb hby d30_0) rfl rfl k) ?_
  show Go p.tables e below PP (s₁.setTop (mkF m 1 #[.val (.ref a1), .val (.int p2)] [(.ref a1)]))
  obtain ⟨v1, T1, L1, X1, hQ1, st1⟩ := callVi X0 hx hZ (C := "java/lang/String") (y := (⟨"java/lang/String", "isLatin1", "()Z"⟩ : MethodName)) (z := (⟨"java/lang/String", "isLatin1", "()Z"⟩ : MethodName)) (a := a1) (argsL := []) (rest := []) hown (hw _ (List.mem_of_getElem? (i := 47) rfl)) (hw _ (List.mem_of_getElem? (i := 48) rfl)) (notFace_of_selects (args := #[]) (mvT hZ (hw _ (List.mem_of_getElem? (i := 50) rfl)))) (hw _ (List.mem_of_getElem? (i := 50) rfl)) (hw _ (List.mem_of_getElem? (i := 49) rfl)) (hw _ (List.mem_of_getElem? (i := 10) rfl)) (hw _ (List.mem_of_getElem? (i := 51) rfl)) (by decide) rfl E_a1 (rm10 l Z a0 hw [] a1 zc h0 n0 Zn F_coder_a1 SC hzc O) e0 0 (by decide) (by decide) (by decide) (by decide) (g := (mkF m 1 #[.val (.ref a1), .val (.int p2)] [(.ref a1)])) rfl (by rw [hml]; rfl) (lenOf pd_8 rfl) rfl (by show 2 * 0 + _ ≤ _; exact Nat.le_of_eq rfl) (hb hby d30_1)
  obtain ⟨rfl, rfl, e1⟩ := hQ1
  rw [List.append_nil] at X1
  refine Go.st st1 ?_
  show Go p.tables e below PP (T1.setTop (mkF m 4 #[.val (.ref a1), .val (.int p2)] [(.int (1 : Int32))]))
  refine Go.st (fun t k => XS.ifNo X1.here hx rfl (hb hby d30_4) rfl (XT.i0_eq_f (by decide)) k) ?_
  show Go p.tables e below PP (T1.setTop (mkF m 7 #[.val (.ref a1), .val (.int p2)] []))
  refine Go.st (fun t k => XS.aloadN X1.here hx rfl (hb hby d30_7) rfl rfl k) ?_
  show Go p.tables e below PP (T1.setTop (mkF m 8 #[.val (.ref a1), .val (.int p2)] [(.ref a1)]))
  obtain ⟨T2, X2, e2, st2⟩ := getF X1 hx hZ hown (host := "") (Or.inl (hw _ (List.mem_of_getElem? (i := 28) rfl))) Via.refl e1 F_value_a1 (g := (mkF m 8 #[.val (.ref a1), .val (.int p2)] [(.ref a1)])) rfl rfl (hb hby d30_8)
  refine Go.st st2 ?_
  show Go p.tables e below PP (T2.setTop (mkF m 11 #[.val (.ref a1), .val (.int p2)] [(.ref t1)]))
  refine Go.st (fun t k => XS.iloadN X2.here hx rfl (hb hby d30_11) rfl k) ?_
  show Go p.tables e below PP (T2.setTop (mkF m 12 #[.val (.ref a1), .val (.int p2)] [(.int p2), (.ref t1)]))
  obtain ⟨v3, T3, L3, X3, hQ3, st3⟩ := callSt X2 hx hZ (y := (⟨"java/lang/StringLatin1", "charAt", "([BI)C"⟩ : MethodName)) (argsL := [(.ref t1), (.int p2)]) (rest := []) hown (hw _ (List.mem_of_getElem? (i := 134) rfl)) (hw _ (List.mem_of_getElem? (i := 135) rfl)) (hw _ (List.mem_of_getElem? (i := 65) rfl)) (hw _ (List.mem_of_getElem? (i := 136) rfl)) (by decide) (rm31 l Z a0 hw [] t1 p2 n1 f1 sv h0 n0 Zn V_t1 SV hr_sv O hci) e2 0 (by decide) (by decide) (by decide) (by decide) (g := (mkF m 12 #[.val (.ref a1), .val (.int p2)] [(.int p2), (.ref t1)])) rfl (by rw [hml]; rfl) (lenOf pd_13 rfl) rfl (by show 2 * 0 + _ ≤ _; exact Nat.le_of_eq rfl) (hb hby d30_12)
  obtain ⟨rfl, rfl, e3⟩ := hQ3
  rw [List.append_nil] at X3
  refine Go.st st3 ?_
  show Go p.tables e below PP (T3.setTop (mkF m 15 #[.val (.ref a1), .val (.int p2)] [(.int (chB (f1 p2.toNatClampNeg)))]))
  rw [hPP]
  refine endN X3 hx hlk (t := .char) hret (by simp) (hb hby d30_15) (w := (chC (f1 p2.toNatClampNeg))) (rfl) ?_ (by decide) (by decide)
  show Q30 Z a1 p2 t1 n1 f1 zc sv h0 n0 (some (.int (chC (f1 p2.toNatClampNeg)))) T3.heap _
  rw [e3]
  exact ⟨rfl, rfl, rfl⟩
theorem own_ltne {x y : Int32} (h : x < y) : ¬ x = y := by
  rintro rfl
  exact Int32.lt_irrefl h
theorem own_cp (f : Nat → Int32) (n : Int32) (k : Nat) (hk : k < n.toNatClampNeg) (v : Value) : (if (0 : Int32).toNatClampNeg ≤ k ∧ k < (0 : Int32).toNatClampNeg + n.toNatClampNeg then Value.int (f ((0 : Int32).toNatClampNeg + (k - (0 : Int32).toNatClampNeg))) else v) = Value.int (f k) := by
  have e : (0 : Int32).toNatClampNeg = 0 := rfl
  rw [e, if_pos (by omega), Nat.sub_zero, Nat.zero_add]
theorem d28_0 : decode jdk_65_method_131_code 0 = .ok (.iload_n 1, 1) := by decide +kernel
theorem d28_1 : decode jdk_65_method_131_code 1 = .ok (.iload_n 0, 1) := by decide +kernel
theorem d28_2 : decode jdk_65_method_131_code 2 = .ok (.if_icmp .ge 35, 3) := by decide +kernel
theorem d28_5 : decode jdk_65_method_131_code 5 = .ok (.new 43, 3) := by decide +kernel
theorem d28_8 : decode jdk_65_method_131_code 8 = .ok (.dup, 1) := by decide +kernel
theorem d28_9 : decode jdk_65_method_131_code 9 = .ok (.new 45, 3) := by decide +kernel
theorem d28_12 : decode jdk_65_method_131_code 12 = .ok (.dup, 1) := by decide +kernel
theorem d28_13 : decode jdk_65_method_131_code 13 = .ok (.invokespecial 47, 3) := by decide +kernel
theorem d28_16 : decode jdk_65_method_131_code 16 = .ok (.iload_n 0, 1) := by decide +kernel
theorem d28_17 : decode jdk_65_method_131_code 17 = .ok (.invokevirtual 54, 3) := by decide +kernel
theorem d28_20 : decode jdk_65_method_131_code 20 = .ok (.ldc_w 337, 3) := by decide +kernel
theorem d28_23 : decode jdk_65_method_131_code 23 = .ok (.invokevirtual 50, 3) := by decide +kernel
theorem d28_26 : decode jdk_65_method_131_code 26 = .ok (.iload_n 1, 1) := by decide +kernel
theorem d28_27 : decode jdk_65_method_131_code 27 = .ok (.invokevirtual 54, 3) := by decide +kernel
theorem d28_30 : decode jdk_65_method_131_code 30 = .ok (.invokevirtual 61, 3) := by decide +kernel
theorem d28_33 : decode jdk_65_method_131_code 33 = .ok (.invokespecial 65, 3) := by decide +kernel
theorem d28_36 : decode jdk_65_method_131_code 36 = .ok (.athrow, 1) := by decide +kernel
theorem d28_37 : decode jdk_65_method_131_code 37 = .ok (.return_, 1) := by decide +kernel
theorem pn_rm28 : plainName "java/util/Arrays" = true := by first | (simp [plainName, overriddenIn]; done) | decide +kernel
theorem ef_rm28 (m : MethodId) (p1 : Int32) (p2 : Int32) : entryFrame m #[(.int p1), (.int p2)] 2 = mkF m 0 #[.val (.int p1), .val (.int p2)] [] := by first | (simp [entryFrame, mkF, argsToLocals, Value.category]; done) | rfl
def Q28 (Z : State) (p1 : Int32) (p2 : Int32) (h0 : Heap) (n0 : Nat) (v : Option Value) (h : Heap) (L : List Loc) : Prop := v = none ∧ L = [] ∧ h = h0
set_option maxRecDepth 65536 in
set_option maxHeartbeats 40000000 in
theorem rm28 (l : Launch) (Z : State) (a0 : Array Value) (hw : ∀ d ∈ tables_1, d.before a0 Z = true) (ws : List Jvm.Cond) (p1 : Int32) (p2 : Int32) (h0 : Heap) (n0 : Nat) (Z0 : n0 ≤ h0.size) (hcl : ¬ p2 < p1) :
    Con l Z (⟨"java/util/Arrays", "checkLength", "(II)V"⟩ : MethodName) jdk_65_method_131_code 2 none ws ({ frames := 0, cells := 0, slots := 0, locals := 0 } : Room) #[(.int p1), (.int p2)] h0 (Q28 Z p1 p2 h0 n0) := by
  refine Con.of (plainFor_of_name pn_rm28) ?_
  intro p e s m below meth c s₁ hZ e0 X0 hx hby hml hown hnm hret hlk
  replace hml : c.maxLocals = 2 := hml
  have hown : s.vm.findClass "java/util/Arrays" = some m.cls := hown
  have N0 : Fr n0 [] := Fr.nil n0
  obtain ⟨PP, hPP⟩ : ∃ P, P = Fine s below (Q28 Z p1 p2 h0 n0) ({ frames := 0, cells := 0, slots := 0, locals := 0 } : Room).cells ({ frames := 0, cells := 0, slots := 0, locals := 0 } : Room).slots := ⟨_, rfl⟩
  rw [← hPP]
  refine Go.cast (ef_rm28 m p1 p2) ?_
  have Zn : n0 ≤ h0.size := Z0
  show Go p.tables e below PP (s₁.setTop (mkF m 0 #[.val (.int p1), .val (.int p2)] []))
  refine Go.st (fun t k => XS.iloadN X0.here hx rfl (hb hby d28_0) rfl k) ?_
  show Go p.tables e below PP (s₁.setTop (mkF m 1 #[.val (.int p1), .val (.int p2)] [(.int p2)]))
  refine Go.st (fun t k => XS.iloadN X0.here hx rfl (hb hby d28_1) rfl k) ?_
  show Go p.tables e below PP (s₁.setTop (mkF m 2 #[.val (.int p1), .val (.int p2)] [(.int p1), (.int p2)]))
  refine Go.st (fun t k => XS.icmpYes X0.here hx rfl (pc0 := 2) (pc' := 37) rfl (hb hby d28_2) rfl (XT.ii_ge_t hcl) (by decide) (by decide) k) ?_
  show Go p.tables e below PP (s₁.setTop (mkF m 37 #[.val (.int p1), .val (.int p2)] []))
  rw [hPP]
  refine endV X0 hx hlk hret (hb hby d28_37) ?_ (by decide) (by decide)
  show Q28 Z p1 p2 h0 n0 none s₁.heap _
  rw [e0]
  exact ⟨rfl, rfl, rfl⟩
theorem d27_0 : decode jdk_65_method_133_code 0 = .ok (.iload_n 1, 1) := by decide +kernel
theorem d27_1 : decode jdk_65_method_133_code 1 = .ok (.iload_n 2, 1) := by decide +kernel
theorem d27_2 : decode jdk_65_method_133_code 2 = .ok (.invokestatic 343, 3) := by decide +kernel
theorem d27_5 : decode jdk_65_method_133_code 5 = .ok (.iload_n 2, 1) := by decide +kernel
theorem d27_6 : decode jdk_65_method_133_code 6 = .ok (.iload_n 1, 1) := by decide +kernel
theorem d27_7 : decode jdk_65_method_133_code 7 = .ok (.isub, 1) := by decide +kernel
theorem d27_8 : decode jdk_65_method_133_code 8 = .ok (.istore_n 3, 1) := by decide +kernel
theorem d27_9 : decode jdk_65_method_133_code 9 = .ok (.iload_n 3, 1) := by decide +kernel
theorem d27_10 : decode jdk_65_method_133_code 10 = .ok (.newarray .byte, 2) := by decide +kernel
theorem d27_12 : decode jdk_65_method_133_code 12 = .ok (.astore 4, 2) := by decide +kernel
theorem d27_14 : decode jdk_65_method_133_code 14 = .ok (.aload_n 0, 1) := by decide +kernel
theorem d27_15 : decode jdk_65_method_133_code 15 = .ok (.iload_n 1, 1) := by decide +kernel
theorem d27_16 : decode jdk_65_method_133_code 16 = .ok (.aload 4, 2) := by decide +kernel
theorem d27_18 : decode jdk_65_method_133_code 18 = .ok (.iconst 0, 1) := by decide +kernel
theorem d27_19 : decode jdk_65_method_133_code 19 = .ok (.aload_n 0, 1) := by decide +kernel
theorem d27_20 : decode jdk_65_method_133_code 20 = .ok (.arraylength, 1) := by decide +kernel
theorem d27_21 : decode jdk_65_method_133_code 21 = .ok (.iload_n 1, 1) := by decide +kernel
theorem d27_22 : decode jdk_65_method_133_code 22 = .ok (.isub, 1) := by decide +kernel
theorem d27_23 : decode jdk_65_method_133_code 23 = .ok (.iload_n 3, 1) := by decide +kernel
theorem d27_24 : decode jdk_65_method_133_code 24 = .ok (.invokestatic 304, 3) := by decide +kernel
theorem d27_27 : decode jdk_65_method_133_code 27 = .ok (.invokestatic 150, 3) := by decide +kernel
theorem d27_30 : decode jdk_65_method_133_code 30 = .ok (.aload 4, 2) := by decide +kernel
theorem d27_32 : decode jdk_65_method_133_code 32 = .ok (.areturn, 1) := by decide +kernel
theorem pn_rm27 : plainName "java/util/Arrays" = true := by first | (simp [plainName, overriddenIn]; done) | decide +kernel
theorem ef_rm27 (m : MethodId) (a1 : Addr) (p3 : Int32) : entryFrame m #[(.ref a1), (.int (0 : Int32)), (.int p3)] 5 = mkF m 0 #[.val (.ref a1), .val (.int (0 : Int32)), .val (.int p3), .unset, .unset] [] := by first | (simp [entryFrame, mkF, argsToLocals, Value.category]; done) | rfl
def Q27 (Z : State) (a1 : Addr) (p3 : Int32) (n1 : Int32) (f1 : Nat → Int32) (h0 : Heap) (n0 : Nat) (v : Option Value) (h : Heap) (L : List Loc) : Prop := ∃ t : Addr, v = some (.ref t) ∧ Fr n0 L ∧ Keep h0 h [] ∧ h0.size ≤ t ∧ Afn Z h t .byte p3 (fun k => .int (f1 k))
set_option maxRecDepth 65536 in
set_option maxHeartbeats 40000000 in
theorem rm27 (l : Launch) (Z : State) (a0 : Array Value) (hw : ∀ d ∈ tables_1, d.before a0 Z = true) (ws : List Jvm.Cond) (a1 : Addr) (p3 : Int32) (n1 : Int32) (f1 : Nat → Int32) (h0 : Heap) (n0 : Nat) (Z0 : n0 ≤ h0.size) (V1 : Afn Z h0 a1 .byte n1 (fun k => .int (f1 k))) (hp : ¬ p3 < (0 : Int32) ∧ p3 < n1) (hcap : p3.toNatClampNeg ≤ 5) :
    Con l Z (⟨"java/util/Arrays", "copyOfRangeByte", "([BII)[B"⟩ : MethodName) jdk_65_method_133_code 5 (some (.array .byte)) ws ({ frames := 1, cells := 1, slots := 5, locals := 40 } : Room) #[(.ref a1), (.int (0 : Int32)), (.int p3)] h0 (Q27 Z a1 p3 n1 f1 h0 n0) := by
  refine Con.of (plainFor_of_name pn_rm27) ?_
  intro p e s m below meth c s₁ hZ e0 X0 hx hby hml hown hnm hret hlk
  replace hml : c.maxLocals = 5 := hml
  have hown : s.vm.findClass "java/util/Arrays" = some m.cls := hown
  have N0 : Fr n0 [] := Fr.nil n0
  obtain ⟨PP, hPP⟩ : ∃ P, P = Fine s below (Q27 Z a1 p3 n1 f1 h0 n0) ({ frames := 1, cells := 1, slots := 5, locals := 40 } : Room).cells ({ frames := 1, cells := 1, slots := 5, locals := 40 } : Room).slots := ⟨_, rfl⟩
  rw [← hPP]
  refine Go.cast (ef_rm27 m a1 p3) ?_
  have K : Keep h0 h0 [] := Keep.refl h0 _
  have Zn : n0 ≤ h0.size := Z0
  show Go p.tables e below PP (s₁.setTop (mkF m 0 #[.val (.ref a1), .val (.int (0 : Int32)), .val (.int p3), .unset, .unset] []))
  refine Go.st (fun t k => XS.iloadN X0.here hx rfl (hb hby d27_0) rfl k) ?_
  show Go p.tables e below PP (s₁.setTop (mkF m 1 #[.val (.ref a1), .val (.int (0 : Int32)), .val (.int p3), .unset, .unset] [(.int (0 : Int32))]))
  refine Go.st (fun t k => XS.iloadN X0.here hx rfl (hb hby d27_1) rfl k) ?_
  show Go p.tables e below PP (s₁.setTop (mkF m 2 #[.val (.ref a1), .val (.int (0 : Int32)), .val (.int p3), .unset, .unset] [(.int p3), (.int (0 : Int32))]))
  obtain ⟨v1, T1, L1, X1, hQ1, st1⟩ := callSt X0 hx hZ (y := (⟨"java/util/Arrays", "checkLength", "(II)V"⟩ : MethodName)) (argsL := [(.int (0 : Int32)), (.int p3)]) (rest := []) hown (hw _ (List.mem_of_getElem? (i := 118) rfl)) (hw _ (List.mem_of_getElem? (i := 119) rfl)) (hw _ (List.mem_of_getElem? (i := 113) rfl)) (hw _ (List.mem_of_getElem? (i := 120) rfl)) (by decide) (rm28 l Z a0 hw [] (0 : Int32) p3 h0 n0 Zn hp.1) e0 0 (by decide) (by decide) (by decide) (by decide) (g := (mkF m 2 #[.val (.ref a1), .val (.int (0 : Int32)), .val (.int p3), .unset, .unset] [(.int p3), (.int (0 : Int32))])) rfl (by rw [hml]; rfl) (lenOf pd_12 rfl) rfl (by show 2 * 0 + _ ≤ _; exact Nat.le_of_eq rfl) (hb hby d27_2)
  obtain ⟨rfl, rfl, e1⟩ := hQ1
  rw [List.append_nil] at X1
  refine Go.st st1 ?_
  show Go p.tables e below PP (T1.setTop (mkF m 5 #[.val (.ref a1), .val (.int (0 : Int32)), .val (.int p3), .unset, .unset] []))
  refine Go.st (fun t k => XS.iloadN X1.here hx rfl (hb hby d27_5) rfl k) ?_
  show Go p.tables e below PP (T1.setTop (mkF m 6 #[.val (.ref a1), .val (.int (0 : Int32)), .val (.int p3), .unset, .unset] [(.int p3)]))
  refine Go.st (fun t k => XS.iloadN X1.here hx rfl (hb hby d27_6) rfl k) ?_
  show Go p.tables e below PP (T1.setTop (mkF m 7 #[.val (.ref a1), .val (.int (0 : Int32)), .val (.int p3), .unset, .unset] [(.int (0 : Int32)), (.int p3)]))
  refine Go.st (fun t k => XS.isub X1.here hx rfl (hb hby d27_7) rfl k) ?_
  rw [Int32.sub_zero]
  show Go p.tables e below PP (T1.setTop (mkF m 8 #[.val (.ref a1), .val (.int (0 : Int32)), .val (.int p3), .unset, .unset] [(.int p3)]))
  refine Go.st (fun t k => XS.istoreN X1.here hx rfl (hb hby d27_8) rfl (l' := #[.val (.ref a1), .val (.int (0 : Int32)), .val (.int p3), .val (.int p3), .unset]) rfl k) ?_
  show Go p.tables e below PP (T1.setTop (mkF m 9 #[.val (.ref a1), .val (.int (0 : Int32)), .val (.int p3), .val (.int p3), .unset] []))
  refine Go.st (fun t k => XS.iloadN X1.here hx rfl (hb hby d27_9) rfl k) ?_
  show Go p.tables e below PP (T1.setTop (mkF m 10 #[.val (.ref a1), .val (.int (0 : Int32)), .val (.int p3), .val (.int p3), .unset] [(.int p3)]))
  obtain ⟨T2, h2, k2, X2, e2, E2, A2, st2⟩ := newP X1 hx hZ (hw _ (List.mem_of_getElem? (i := 23) rfl)) e1 (g := (mkF m 10 #[.val (.ref a1), .val (.int (0 : Int32)), .val (.int p3), .val (.int p3), .unset] [(.int p3)])) rfl (hb hby d27_10) rfl hp.1 (cap := 5) hcap (by decide) (by decide) (by decide)
  obtain ⟨b2, gz2⟩ : ∃ z, z = h0.size := ⟨_, rfl⟩
  rw [← gz2] at A2 st2
  have ne_a1_b2 : a1 ≠ b2 := Nat.ne_of_lt (Nat.lt_of_lt_of_le V1.lt (Nat.le_of_eq gz2.symm))
  have g_b2 : n0 ≤ b2 := Nat.le_trans Zn (Nat.le_of_eq gz2.symm)
  have sz_b2 : h0.size ≤ b2 := Nat.le_trans K.1 (Nat.le_of_eq gz2.symm)
  refine Go.st st2 ?_
  replace V1 := V1.ext E2
  replace K := K.ext E2
  replace Zn := Nat.le_trans Zn E2.1
  have V_b2 : Afn Z h2 b2 .byte p3 (fun _ => (.int (0 : Int32))) := Afn.new A2 hp.1
  show Go p.tables e below PP (T2.setTop (mkF m 12 #[.val (.ref a1), .val (.int (0 : Int32)), .val (.int p3), .val (.int p3), .unset] [(.ref b2)]))
  refine Go.st (fun t k => XS.astore X2.here hx rfl (hb hby d27_12) rfl rfl (l' := #[.val (.ref a1), .val (.int (0 : Int32)), .val (.int p3), .val (.int p3), .val (.ref b2)]) rfl k) ?_
  show Go p.tables e below PP (T2.setTop (mkF m 14 #[.val (.ref a1), .val (.int (0 : Int32)), .val (.int p3), .val (.int p3), .val (.ref b2)] []))
  refine Go.st (fun t k => XS.aloadN X2.here hx rfl (hb hby d27_14) rfl rfl k) ?_
  show Go p.tables e below PP (T2.setTop (mkF m 15 #[.val (.ref a1), .val (.int (0 : Int32)), .val (.int p3), .val (.int p3), .val (.ref b2)] [(.ref a1)]))
  refine Go.st (fun t k => XS.iloadN X2.here hx rfl (hb hby d27_15) rfl k) ?_
  show Go p.tables e below PP (T2.setTop (mkF m 16 #[.val (.ref a1), .val (.int (0 : Int32)), .val (.int p3), .val (.int p3), .val (.ref b2)] [(.int (0 : Int32)), (.ref a1)]))
  refine Go.st (fun t k => XS.aload X2.here hx rfl (hb hby d27_16) rfl rfl k) ?_
  show Go p.tables e below PP (T2.setTop (mkF m 18 #[.val (.ref a1), .val (.int (0 : Int32)), .val (.int p3), .val (.int p3), .val (.ref b2)] [(.ref b2), (.int (0 : Int32)), (.ref a1)]))
  refine Go.st (fun t k => XS.iconst X2.here hx rfl (hb hby d27_18) k) ?_
  show Go p.tables e below PP (T2.setTop (mkF m 19 #[.val (.ref a1), .val (.int (0 : Int32)), .val (.int p3), .val (.int p3), .val (.ref b2)] [(.int (0 : Int32)), (.ref b2), (.int (0 : Int32)), (.ref a1)]))
  refine Go.st (fun t k => XS.aloadN X2.here hx rfl (hb hby d27_19) rfl rfl k) ?_
  show Go p.tables e below PP (T2.setTop (mkF m 20 #[.val (.ref a1), .val (.int (0 : Int32)), .val (.int p3), .val (.int p3), .val (.ref b2)] [(.ref a1), (.int (0 : Int32)), (.ref b2), (.int (0 : Int32)), (.ref a1)]))
  obtain ⟨cl3, Ar3, S3, Nn3, -⟩ := id V1
  refine Go.st (fun t k => X2.arraylength hx (by rw [e2]; exact Ar3.1) (State.isArrayOf_alike hZ.alike Ar3.2.1) (g := (mkF m 20 #[.val (.ref a1), .val (.int (0 : Int32)), .val (.int p3), .val (.int p3), .val (.ref b2)] [(.ref a1), (.int (0 : Int32)), (.ref b2), (.int (0 : Int32)), (.ref a1)])) rfl rfl (hb hby d27_20) _ k) ?_
  rw [len_of S3 Nn3]
  show Go p.tables e below PP (T2.setTop (mkF m 21 #[.val (.ref a1), .val (.int (0 : Int32)), .val (.int p3), .val (.int p3), .val (.ref b2)] [(.int n1), (.int (0 : Int32)), (.ref b2), (.int (0 : Int32)), (.ref a1)]))
  refine Go.st (fun t k => XS.iloadN X2.here hx rfl (hb hby d27_21) rfl k) ?_
  show Go p.tables e below PP (T2.setTop (mkF m 22 #[.val (.ref a1), .val (.int (0 : Int32)), .val (.int p3), .val (.int p3), .val (.ref b2)] [(.int (0 : Int32)), (.int n1), (.int (0 : Int32)), (.ref b2), (.int (0 : Int32)), (.ref a1)]))
  refine Go.st (fun t k => XS.isub X2.here hx rfl (hb hby d27_22) rfl k) ?_
  rw [Int32.sub_zero]
  show Go p.tables e below PP (T2.setTop (mkF m 23 #[.val (.ref a1), .val (.int (0 : Int32)), .val (.int p3), .val (.int p3), .val (.ref b2)] [(.int n1), (.int (0 : Int32)), (.ref b2), (.int (0 : Int32)), (.ref a1)]))
  refine Go.st (fun t k => XS.iloadN X2.here hx rfl (hb hby d27_23) rfl k) ?_
  show Go p.tables e below PP (T2.setTop (mkF m 24 #[.val (.ref a1), .val (.int (0 : Int32)), .val (.int p3), .val (.int p3), .val (.ref b2)] [(.int p3), (.int n1), (.int (0 : Int32)), (.ref b2), (.int (0 : Int32)), (.ref a1)]))
  obtain ⟨v4, T4, L4, X4, hQ4, st4⟩ := callSt X2 hx hZ (y := (⟨"java/lang/Math", "min", "(II)I"⟩ : MethodName)) (argsL := [(.int n1), (.int p3)]) (rest := [(.int (0 : Int32)), (.ref b2), (.int (0 : Int32)), (.ref a1)]) hown (hw _ (List.mem_of_getElem? (i := 121) rfl)) (hw _ (List.mem_of_getElem? (i := 75) rfl)) (hw _ (List.mem_of_getElem? (i := 72) rfl)) (hw _ (List.mem_of_getElem? (i := 76) rfl)) (by decide) (rm16 l Z a0 hw [] n1 p3 h2 n0 Zn) e2 4 (by decide) (by decide) (by decide) (by decide) (g := (mkF m 24 #[.val (.ref a1), .val (.int (0 : Int32)), .val (.int p3), .val (.int p3), .val (.ref b2)] [(.int p3), (.int n1), (.int (0 : Int32)), (.ref b2), (.int (0 : Int32)), (.ref a1)])) rfl (by rw [hml]; rfl) (lenOf pd_6 rfl) rfl (by show 2 * 0 + _ ≤ _; exact Nat.le_of_eq rfl) (hb hby d27_24)
  obtain ⟨rfl, rfl, e4⟩ := hQ4
  rw [List.append_nil] at X4
  refine Go.st st4 ?_
  rw [if_pos hp.2]
  show Go p.tables e below PP (T4.setTop (mkF m 27 #[.val (.ref a1), .val (.int (0 : Int32)), .val (.int p3), .val (.int p3), .val (.ref b2)] [(.int p3), (.int (0 : Int32)), (.ref b2), (.int (0 : Int32)), (.ref a1)]))
  obtain ⟨T5, h5, L5, X5, e5, N5, Kq5, Vq5, st5⟩ := cpF X4 hx hZ hown (hw _ (List.mem_of_getElem? (i := 122) rfl)) (hw _ (List.mem_of_getElem? (i := 125) rfl)) (hw _ (List.mem_of_getElem? (i := 123) rfl)) (hw _ (List.mem_of_getElem? (i := 124) rfl)) e4 V1 V_b2 rfl (by decide) (by decide) (hp.1) (by have e : (0 : Int32).toNatClampNeg = 0 := rfl; have a := inbN hp; omega) (by have e : (0 : Int32).toNatClampNeg = 0 := rfl; omega) N0 g_b2 (g := (mkF m 27 #[.val (.ref a1), .val (.int (0 : Int32)), .val (.int p3), .val (.int p3), .val (.ref b2)] [(.int p3), (.int (0 : Int32)), (.ref b2), (.int (0 : Int32)), (.ref a1)])) rfl (by rw [hml]; rfl) rfl (hb hby d27_27) (by decide) (W := 0) (by show 2 * 0 + _ ≤ _; exact Nat.le_of_eq rfl) (by decide)
  replace V1 := V1.keep Kq5 (ninS ne_a1_b2 nin0)
  clear V_b2
  replace K := K.trans Kq5 (allS (Or.inr sz_b2) all0)
  replace Zn := Nat.le_trans Zn Kq5.1
  have V_b2 := Vq5
  refine Go.st st5 ?_
  show Go p.tables e below PP (T5.setTop (mkF m 30 #[.val (.ref a1), .val (.int (0 : Int32)), .val (.int p3), .val (.int p3), .val (.ref b2)] []))
  refine Go.st (fun t k => XS.aload X5.here hx rfl (hb hby d27_30) rfl rfl k) ?_
  show Go p.tables e below PP (T5.setTop (mkF m 32 #[.val (.ref a1), .val (.int (0 : Int32)), .val (.int p3), .val (.int p3), .val (.ref b2)] [(.ref b2)]))
  rw [hPP]
  refine endR X5 hx hlk hret rfl rfl (hb hby d27_32) ?_ (by decide) (by decide)
  show Q27 Z a1 p3 n1 f1 h0 n0 (some (.ref b2)) T5.heap _
  rw [e5]
  exact ⟨b2, rfl, N5, K, sz_b2, V_b2.congr (fun k hk => own_cp f1 p3 k hk _)⟩
theorem d26_0 : decode jdk_65_method_132_code 0 = .ok (.iload_n 1, 1) := by decide +kernel
theorem d26_1 : decode jdk_65_method_132_code 1 = .ok (.ifCond .ne 9, 3) := by decide +kernel
theorem d26_4 : decode jdk_65_method_132_code 4 = .ok (.iload_n 2, 1) := by decide +kernel
theorem d26_5 : decode jdk_65_method_132_code 5 = .ok (.aload_n 0, 1) := by decide +kernel
theorem d26_6 : decode jdk_65_method_132_code 6 = .ok (.arraylength, 1) := by decide +kernel
theorem d26_7 : decode jdk_65_method_132_code 7 = .ok (.if_icmp .eq 10, 3) := by decide +kernel
theorem d26_10 : decode jdk_65_method_132_code 10 = .ok (.aload_n 0, 1) := by decide +kernel
theorem d26_11 : decode jdk_65_method_132_code 11 = .ok (.iload_n 1, 1) := by decide +kernel
theorem d26_12 : decode jdk_65_method_132_code 12 = .ok (.iload_n 2, 1) := by decide +kernel
theorem d26_13 : decode jdk_65_method_132_code 13 = .ok (.invokestatic 339, 3) := by decide +kernel
theorem d26_16 : decode jdk_65_method_132_code 16 = .ok (.areturn, 1) := by decide +kernel
theorem d26_17 : decode jdk_65_method_132_code 17 = .ok (.aload_n 0, 1) := by decide +kernel
theorem d26_18 : decode jdk_65_method_132_code 18 = .ok (.invokevirtual 310, 3) := by decide +kernel
theorem d26_21 : decode jdk_65_method_132_code 21 = .ok (.checkcast 311, 3) := by decide +kernel
theorem d26_24 : decode jdk_65_method_132_code 24 = .ok (.areturn, 1) := by decide +kernel
theorem pn_rm26 : plainName "java/util/Arrays" = true := by first | (simp [plainName, overriddenIn]; done) | decide +kernel
theorem ef_rm26 (m : MethodId) (a1 : Addr) (p3 : Int32) : entryFrame m #[(.ref a1), (.int (0 : Int32)), (.int p3)] 3 = mkF m 0 #[.val (.ref a1), .val (.int (0 : Int32)), .val (.int p3)] [] := by first | (simp [entryFrame, mkF, argsToLocals, Value.category]; done) | rfl
def Q26 (Z : State) (a1 : Addr) (p3 : Int32) (n1 : Int32) (f1 : Nat → Int32) (h0 : Heap) (n0 : Nat) (v : Option Value) (h : Heap) (L : List Loc) : Prop := ∃ t : Addr, v = some (.ref t) ∧ Fr n0 L ∧ Keep h0 h [] ∧ h0.size ≤ t ∧ Afn Z h t .byte p3 (fun k => .int (f1 k))
theorem pd_14 : parseMethodDescriptor "([BII)[B" = some ⟨[(.array .byte), .int, .int], some (.array .byte)⟩ := by decide +kernel
set_option maxRecDepth 65536 in
set_option maxHeartbeats 40000000 in
theorem rm26 (l : Launch) (Z : State) (a0 : Array Value) (hw : ∀ d ∈ tables_1, d.before a0 Z = true) (ws : List Jvm.Cond) (a1 : Addr) (p3 : Int32) (n1 : Int32) (f1 : Nat → Int32) (h0 : Heap) (n0 : Nat) (Z0 : n0 ≤ h0.size) (V1 : Afn Z h0 a1 .byte n1 (fun k => .int (f1 k))) (hp : ¬ p3 < (0 : Int32) ∧ p3 < n1) (hcap : p3.toNatClampNeg ≤ 5) :
    Con l Z (⟨"java/util/Arrays", "copyOfRange", "([BII)[B"⟩ : MethodName) jdk_65_method_132_code 3 (some (.array .byte)) ws ({ frames := 2, cells := 1, slots := 5, locals := 56 } : Room) #[(.ref a1), (.int (0 : Int32)), (.int p3)] h0 (Q26 Z a1 p3 n1 f1 h0 n0) := by
  refine Con.of (plainFor_of_name pn_rm26) ?_
  intro p e s m below meth c s₁ hZ e0 X0 hx hby hml hown hnm hret hlk
  replace hml : c.maxLocals = 3 := hml
  have hown : s.vm.findClass "java/util/Arrays" = some m.cls := hown
  have N0 : Fr n0 [] := Fr.nil n0
  obtain ⟨PP, hPP⟩ : ∃ P, P = Fine s below (Q26 Z a1 p3 n1 f1 h0 n0) ({ frames := 2, cells := 1, slots := 5, locals := 56 } : Room).cells ({ frames := 2, cells := 1, slots := 5, locals := 56 } : Room).slots := ⟨_, rfl⟩
  rw [← hPP]
  refine Go.cast (ef_rm26 m a1 p3) ?_
  have K : Keep h0 h0 [] := Keep.refl h0 _
  have Zn : n0 ≤ h0.size := Z0
  show Go p.tables e below PP (s₁.setTop (mkF m 0 #[.val (.ref a1), .val (.int (0 : Int32)), .val (.int p3)] []))
  refine Go.st (fun t k => XS.iloadN X0.here hx rfl (hb hby d26_0) rfl k) ?_
  show Go p.tables e below PP (s₁.setTop (mkF m 1 #[.val (.ref a1), .val (.int (0 : Int32)), .val (.int p3)] [(.int (0 : Int32))]))
  refine Go.st (fun t k => XS.ifNo X0.here hx rfl (hb hby d26_1) rfl (XT.i0_ne_f (by decide)) k) ?_
  show Go p.tables e below PP (s₁.setTop (mkF m 4 #[.val (.ref a1), .val (.int (0 : Int32)), .val (.int p3)] []))
  refine Go.st (fun t k => XS.iloadN X0.here hx rfl (hb hby d26_4) rfl k) ?_
  show Go p.tables e below PP (s₁.setTop (mkF m 5 #[.val (.ref a1), .val (.int (0 : Int32)), .val (.int p3)] [(.int p3)]))
  refine Go.st (fun t k => XS.aloadN X0.here hx rfl (hb hby d26_5) rfl rfl k) ?_
  show Go p.tables e below PP (s₁.setTop (mkF m 6 #[.val (.ref a1), .val (.int (0 : Int32)), .val (.int p3)] [(.ref a1), (.int p3)]))
  obtain ⟨cl1, Ar1, S1, Nn1, -⟩ := id V1
  refine Go.st (fun t k => X0.arraylength hx (by rw [e0]; exact Ar1.1) (State.isArrayOf_alike hZ.alike Ar1.2.1) (g := (mkF m 6 #[.val (.ref a1), .val (.int (0 : Int32)), .val (.int p3)] [(.ref a1), (.int p3)])) rfl rfl (hb hby d26_6) _ k) ?_
  rw [len_of S1 Nn1]
  show Go p.tables e below PP (s₁.setTop (mkF m 7 #[.val (.ref a1), .val (.int (0 : Int32)), .val (.int p3)] [(.int n1), (.int p3)]))
  refine Go.st (fun t k => XS.icmpNo X0.here hx rfl (hb hby d26_7) rfl (XT.ii_eq_f (own_ltne hp.2)) k) ?_
  show Go p.tables e below PP (s₁.setTop (mkF m 10 #[.val (.ref a1), .val (.int (0 : Int32)), .val (.int p3)] []))
  refine Go.st (fun t k => XS.aloadN X0.here hx rfl (hb hby d26_10) rfl rfl k) ?_
  show Go p.tables e below PP (s₁.setTop (mkF m 11 #[.val (.ref a1), .val (.int (0 : Int32)), .val (.int p3)] [(.ref a1)]))
  refine Go.st (fun t k => XS.iloadN X0.here hx rfl (hb hby d26_11) rfl k) ?_
  show Go p.tables e below PP (s₁.setTop (mkF m 12 #[.val (.ref a1), .val (.int (0 : Int32)), .val (.int p3)] [(.int (0 : Int32)), (.ref a1)]))
  refine Go.st (fun t k => XS.iloadN X0.here hx rfl (hb hby d26_12) rfl k) ?_
  show Go p.tables e below PP (s₁.setTop (mkF m 13 #[.val (.ref a1), .val (.int (0 : Int32)), .val (.int p3)] [(.int p3), (.int (0 : Int32)), (.ref a1)]))
  obtain ⟨v2, T2, L2, X2, hQ2, st2⟩ := callSt X0 hx hZ (y := (⟨"java/util/Arrays", "copyOfRangeByte", "([BII)[B"⟩ : MethodName)) (argsL := [(.ref a1), (.int (0 : Int32)), (.int p3)]) (rest := []) hown (hw _ (List.mem_of_getElem? (i := 115) rfl)) (hw _ (List.mem_of_getElem? (i := 116) rfl)) (hw _ (List.mem_of_getElem? (i := 113) rfl)) (hw _ (List.mem_of_getElem? (i := 117) rfl)) (by decide) (rm27 l Z a0 hw [] a1 p3 n1 f1 h0 n0 Zn V1 hp hcap) e0 0 (by decide) (by decide) (by decide) (by decide) (g := (mkF m 13 #[.val (.ref a1), .val (.int (0 : Int32)), .val (.int p3)] [(.int p3), (.int (0 : Int32)), (.ref a1)])) rfl (by rw [hml]; rfl) (lenOf pd_14 rfl) rfl (by show 2 * 0 + _ ≤ _; exact Nat.le_of_eq rfl) (hb hby d26_13)
  obtain ⟨h2, e2⟩ : ∃ z, T2.heap = z := ⟨_, rfl⟩
  rw [e2] at hQ2
  obtain ⟨t_2, rfl, Nq2, Kq2, sq2_t, Fq2_0⟩ := hQ2
  have N2 := Fr.app N0 Nq2
  have ne_a1_t_2 : a1 ≠ t_2 := Nat.ne_of_lt (Nat.lt_of_lt_of_le V1.lt sq2_t)
  have g_t_2 : n0 ≤ t_2 := Nat.le_trans Zn sq2_t
  have sz_t_2 : h0.size ≤ t_2 := Nat.le_trans K.1 sq2_t
  replace V1 := V1.keep Kq2 nin0
  replace K := K.trans Kq2 all0
  replace Zn := Nat.le_trans Zn Kq2.1
  have V_t_2 := Fq2_0
  refine Go.st st2 ?_
  show Go p.tables e below PP (T2.setTop (mkF m 16 #[.val (.ref a1), .val (.int (0 : Int32)), .val (.int p3)] [(.ref t_2)]))
  rw [hPP]
  refine endR X2 hx hlk hret rfl rfl (hb hby d26_16) ?_ (by decide) (by decide)
  show Q26 Z a1 p3 n1 f1 h0 n0 (some (.ref t_2)) T2.heap _
  rw [e2]
  exact ⟨t_2, rfl, N2, K, sz_t_2, V_t_2⟩
theorem d25_0 : decode jdk_43_method_47_code 0 = .ok (.iload_n 2, 1) := by decide +kernel
theorem d25_1 : decode jdk_43_method_47_code 1 = .ok (.ifCond .ne 6, 3) := by decide +kernel
theorem d25_4 : decode jdk_43_method_47_code 4 = .ok (.ldc 151, 2) := by decide +kernel
theorem d25_6 : decode jdk_43_method_47_code 6 = .ok (.areturn, 1) := by decide +kernel
theorem d25_7 : decode jdk_43_method_47_code 7 = .ok (.new 1, 3) := by decide +kernel
theorem d25_10 : decode jdk_43_method_47_code 10 = .ok (.dup, 1) := by decide +kernel
theorem d25_11 : decode jdk_43_method_47_code 11 = .ok (.aload_n 0, 1) := by decide +kernel
theorem d25_12 : decode jdk_43_method_47_code 12 = .ok (.iload_n 1, 1) := by decide +kernel
theorem d25_13 : decode jdk_43_method_47_code 13 = .ok (.iload_n 1, 1) := by decide +kernel
theorem d25_14 : decode jdk_43_method_47_code 14 = .ok (.iload_n 2, 1) := by decide +kernel
theorem d25_15 : decode jdk_43_method_47_code 15 = .ok (.iadd, 1) := by decide +kernel
theorem d25_16 : decode jdk_43_method_47_code 16 = .ok (.invokestatic 232, 3) := by decide +kernel
theorem d25_19 : decode jdk_43_method_47_code 19 = .ok (.iconst 0, 1) := by decide +kernel
theorem d25_20 : decode jdk_43_method_47_code 20 = .ok (.invokespecial 112, 3) := by decide +kernel
theorem d25_23 : decode jdk_43_method_47_code 23 = .ok (.areturn, 1) := by decide +kernel
theorem pn_rm25 : plainName "java/lang/StringLatin1" = true := by first | (simp [plainName, overriddenIn]; done) | decide +kernel
theorem ef_rm25 (m : MethodId) (a1 : Addr) (p3 : Int32) : entryFrame m #[(.ref a1), (.int (0 : Int32)), (.int p3)] 3 = mkF m 0 #[.val (.ref a1), .val (.int (0 : Int32)), .val (.int p3)] [] := by first | (simp [entryFrame, mkF, argsToLocals, Value.category]; done) | rfl
def Q25 (Z : State) (a1 : Addr) (p3 : Int32) (n1 : Int32) (f1 : Nat → Int32) (h0 : Heap) (n0 : Nat) (v : Option Value) (h : Heap) (L : List Loc) : Prop := Fr n0 L ∧ Keep h0 h [] ∧ ∃ (r t : Addr), v = some (.ref r) ∧ Exa Z h r "java/lang/String" ∧ Fld Z h r "java/lang/String" "coder" "B" (.int (0 : Int32)) ∧ Fld Z h r "java/lang/String" "value" "[B" (.ref t) ∧ Afn Z h t .byte p3 (fun k => .int (f1 k))
theorem pd_15 : parseMethodDescriptor "([BB)V" = some ⟨[(.array .byte), .byte], none⟩ := by decide +kernel
set_option maxRecDepth 65536 in
set_option maxHeartbeats 40000000 in
theorem rm25 (l : Launch) (Z : State) (a0 : Array Value) (hw : ∀ d ∈ tables_1, d.before a0 Z = true) (ws : List Jvm.Cond) (a1 : Addr) (p3 : Int32) (n1 : Int32) (f1 : Nat → Int32) (h0 : Heap) (n0 : Nat) (Z0 : n0 ≤ h0.size) (hEL : EW Z a0 consts_1) (V1 : Afn Z h0 a1 .byte n1 (fun k => .int (f1 k))) (hp : ¬ p3 < (0 : Int32) ∧ p3 < n1) (hcap : p3.toNatClampNeg ≤ 5) (O : Old Z n0 h0) :
    ConH l Z consts_1 (⟨"java/lang/StringLatin1", "newString", "([BII)Ljava/lang/String;"⟩ : MethodName) jdk_43_method_47_code 3 (some (.object "java/lang/String")) ws ({ frames := 3, cells := 4, slots := 9, locals := 73 } : Room) #[(.ref a1), (.int (0 : Int32)), (.int p3)] h0 (Q25 Z a1 p3 n1 f1 h0 n0) := by
  refine ConH.of (plainFor_of_name pn_rm25) ?_
  intro p e s m below meth c s₁ vm0 k0 hZ e0 X0 hx hby hml hown hnm hret hlk hS hk CH CR
  replace hml : c.maxLocals = 3 := hml
  have hown : vm0.findClass "java/lang/StringLatin1" = some m.cls := hown
  have N0 : Fr n0 [] := Fr.nil n0
  obtain ⟨PP, hPP⟩ : ∃ P, P = FineW Z consts_1 s below (Q25 Z a1 p3 n1 f1 h0 n0) ({ frames := 3, cells := 4, slots := 9, locals := 73 } : Room).cells ({ frames := 3, cells := 4, slots := 9, locals := 73 } : Room).slots := ⟨_, rfl⟩
  rw [← hPP]
  refine Go.cast (ef_rm25 m a1 p3) ?_
  have K : Keep h0 h0 [] := Keep.refl h0 _
  have Zn : n0 ≤ h0.size := Z0
  show Go p.tables e below PP (s₁.setTop (mkF m 0 #[.val (.ref a1), .val (.int (0 : Int32)), .val (.int p3)] []))
  refine Go.st (fun t k => XS.iloadN X0.here hx rfl (hb hby d25_0) rfl k) ?_
  show Go p.tables e below PP (s₁.setTop (mkF m 1 #[.val (.ref a1), .val (.int (0 : Int32)), .val (.int p3)] [(.int p3)]))
  by_cases hc1 : p3 = (0 : Int32)
  · --
    refine Go.st (fun t k => XS.ifNo X0.here hx rfl (hb hby d25_1) rfl (XT.i0_ne_f hc1) k) ?_
    show Go p.tables e below PP (s₁.setTop (mkF m 4 #[.val (.ref a1), .val (.int (0 : Int32)), .val (.int p3)] []))
    obtain ⟨sa1, T1, h1, kk1, sb1, kc1, X1, e1, E1, hS1, hk1, hZ1, hown1, Es1, Fc1, Fv1, As1, -, -, hC1, -, nS1, st1⟩ := ldcCH X0 hx hZ hown (hw _ (List.mem_of_getElem? (i := 143) rfl)) (strA hw) e0 hS hk hEL (List.mem_of_getElem? (i := 1) rfl) CH (vs := []) (z := (0 : Int32)) (by decide) (by decide) (by decide) (g := (mkF m 4 #[.val (.ref a1), .val (.int (0 : Int32)), .val (.int p3)] [])) rfl (hb hby d25_4) (n := 0) (by decide) (by decide) (by decide) (by decide)
    replace V1 := V1.ext E1
    replace O := O.ext E1
    replace K := K.ext E1
    replace Zn := Nat.le_trans Zn E1.1
    replace CR := CR.trans hC1
    replace CH := hC1.1
    replace hS := hS1
    replace hk := hk1
    replace hZ := hZ1
    replace hown := hown1
    refine Go.st st1 ?_
    replace As1 := Afn.of_arv As1
    show Go p.tables e below PP (T1.setTop (mkF m 6 #[.val (.ref a1), .val (.int (0 : Int32)), .val (.int p3)] [(.ref sa1)]))
    rw [hPP]
    refine endRW X1 hx hlk hZ hS e1 hk hEL CH CR hret rfl rfl (hb hby d25_6) ?_ (by decide) (by decide)
    show Q25 Z a1 p3 n1 f1 h0 n0 (some (.ref sa1)) T1.heap _
    rw [e1]
    exact ⟨N0, K, _, _, rfl, Es1, Fc1, Fv1, by rw [hc1]; exact As1.congr (fun k hk => absurd hk (Nat.not_lt_zero k))⟩
  · --
    refine Go.st (fun t k => XS.ifYes X0.here hx rfl (pc0 := 1) (pc' := 7) rfl (hb hby d25_1) rfl (XT.i0_ne_t hc1) (by decide) (by decide) k) ?_
    show Go p.tables e below PP (s₁.setTop (mkF m 7 #[.val (.ref a1), .val (.int (0 : Int32)), .val (.int p3)] []))
    obtain ⟨T2, h2, X2, e2, E2, A2, D2, U2, st2⟩ := newO X0 hx hZ hown (hw _ (List.mem_of_getElem? (i := 110) rfl)) (hw _ (List.mem_of_getElem? (i := 9) rfl)) (hw _ (List.mem_of_getElem? (i := 10) rfl)) e0 (g := (mkF m 7 #[.val (.ref a1), .val (.int (0 : Int32)), .val (.int p3)] [])) rfl (hb hby d25_7) (by decide) (by decide)
    obtain ⟨b2, gz2⟩ : ∃ z, z = h0.size := ⟨_, rfl⟩
    rw [← gz2] at A2 D2 U2 st2
    have ne_a1_b2 : a1 ≠ b2 := Nat.ne_of_lt (Nat.lt_of_lt_of_le V1.lt (Nat.le_of_eq gz2.symm))
    have g_b2 : n0 ≤ b2 := Nat.le_trans Zn (Nat.le_of_eq gz2.symm)
    have sz_b2 : h0.size ≤ b2 := Nat.le_trans K.1 (Nat.le_of_eq gz2.symm)
    have SF_b2 : Safe Z consts_1 vm0 h0 b2 := Safe.new (Nat.le_of_eq gz2.symm)
    refine Go.st st2 ?_
    replace V1 := V1.ext E2
    replace SF_b2 := Safe.ext E2 CH SF_b2
    replace CR := CR.trans (CHr.ext E2 CH)
    replace CH := CH.ext E2
    replace hk := Nat.le_trans hk E2.1
    replace O := O.ext E2
    replace K := K.ext E2
    replace Zn := Nat.le_trans Zn E2.1
    have E_b2 := A2
    have F_value_b2 : Fld Z h2 b2 "java/lang/String" "value" "[B" .null := D2 (Or.inr (hw _ (List.mem_of_getElem? (i := 24) rfl))) (ty := (.array .byte)) (by decide)
    have F_coder_b2 : Fld Z h2 b2 "java/lang/String" "coder" "B" (.int (0 : Int32)) := D2 (Or.inr (hw _ (List.mem_of_getElem? (i := 25) rfl))) (ty := .byte) (by decide)
    show Go p.tables e below PP (T2.setTop (mkF m 10 #[.val (.ref a1), .val (.int (0 : Int32)), .val (.int p3)] [(.ref b2)]))
    refine Go.st (fun t k => XS.dup X2.here hx rfl (hb hby d25_10) rfl rfl k) ?_
    show Go p.tables e below PP (T2.setTop (mkF m 11 #[.val (.ref a1), .val (.int (0 : Int32)), .val (.int p3)] [(.ref b2), (.ref b2)]))
    refine Go.st (fun t k => XS.aloadN X2.here hx rfl (hb hby d25_11) rfl rfl k) ?_
    show Go p.tables e below PP (T2.setTop (mkF m 12 #[.val (.ref a1), .val (.int (0 : Int32)), .val (.int p3)] [(.ref a1), (.ref b2), (.ref b2)]))
    refine Go.st (fun t k => XS.iloadN X2.here hx rfl (hb hby d25_12) rfl k) ?_
    show Go p.tables e below PP (T2.setTop (mkF m 13 #[.val (.ref a1), .val (.int (0 : Int32)), .val (.int p3)] [(.int (0 : Int32)), (.ref a1), (.ref b2), (.ref b2)]))
    refine Go.st (fun t k => XS.iloadN X2.here hx rfl (hb hby d25_13) rfl k) ?_
    show Go p.tables e below PP (T2.setTop (mkF m 14 #[.val (.ref a1), .val (.int (0 : Int32)), .val (.int p3)] [(.int (0 : Int32)), (.int (0 : Int32)), (.ref a1), (.ref b2), (.ref b2)]))
    refine Go.st (fun t k => XS.iloadN X2.here hx rfl (hb hby d25_14) rfl k) ?_
    show Go p.tables e below PP (T2.setTop (mkF m 15 #[.val (.ref a1), .val (.int (0 : Int32)), .val (.int p3)] [(.int p3), (.int (0 : Int32)), (.int (0 : Int32)), (.ref a1), (.ref b2), (.ref b2)]))
    refine Go.st (fun t k => XS.iadd X2.here hx rfl (hb hby d25_15) rfl k) ?_
    rw [Int32.zero_add]
    show Go p.tables e below PP (T2.setTop (mkF m 16 #[.val (.ref a1), .val (.int (0 : Int32)), .val (.int p3)] [(.int p3), (.int (0 : Int32)), (.ref a1), (.ref b2), (.ref b2)]))
    obtain ⟨v3, T3, L3, X3, hQ3, st3⟩ := callSt X2 hx hZ (y := (⟨"java/util/Arrays", "copyOfRange", "([BII)[B"⟩ : MethodName)) (argsL := [(.ref a1), (.int (0 : Int32)), (.int p3)]) (rest := [(.ref b2), (.ref b2)]) hown (hw _ (List.mem_of_getElem? (i := 111) rfl)) (hw _ (List.mem_of_getElem? (i := 112) rfl)) (hw _ (List.mem_of_getElem? (i := 113) rfl)) (hw _ (List.mem_of_getElem? (i := 114) rfl)) (by decide) (rm26 l Z a0 hw [] a1 p3 n1 f1 h2 n0 Zn V1 hp hcap) e2 2 (by decide) (by decide) (by decide) (by decide) (g := (mkF m 16 #[.val (.ref a1), .val (.int (0 : Int32)), .val (.int p3)] [(.int p3), (.int (0 : Int32)), (.ref a1), (.ref b2), (.ref b2)])) rfl (by rw [hml]; rfl) (lenOf pd_14 rfl) rfl (by show 2 * 0 + _ ≤ _; exact Nat.le_of_eq rfl) (hb hby d25_16)
    obtain ⟨h3, e3⟩ : ∃ z, T3.heap = z := ⟨_, rfl⟩
    rw [e3] at hQ3
    obtain ⟨t_3, rfl, Nq3, Kq3, sq3_t, Fq3_0⟩ := hQ3
    have N3 := Fr.app N0 Nq3
    have ne_a1_t_3 : a1 ≠ t_3 := Nat.ne_of_lt (Nat.lt_of_lt_of_le V1.lt sq3_t)
    have ne_b2_t_3 : b2 ≠ t_3 := Nat.ne_of_lt (Nat.lt_of_lt_of_le E_b2.lt sq3_t)
    have g_t_3 : n0 ≤ t_3 := Nat.le_trans Zn sq3_t
    have sz_t_3 : h0.size ≤ t_3 := Nat.le_trans K.1 sq3_t
    have hsf : ∀ x ∈ ([] : List Addr), Safe Z consts_1 vm0 h2 x := sf0
    replace SF_b2 := Safe.keep Kq3 hsf CH SF_b2
    replace CR := CR.trans (CHr.keep Kq3 hsf CH)
    replace CH := CH.keep Kq3 hsf
    replace hk := Nat.le_trans hk Kq3.1
    clear hsf
    replace V1 := V1.keep Kq3 nin0
    replace E_b2 := E_b2.keep Kq3
    replace F_value_b2 := F_value_b2.keep Kq3 nin0
    replace F_coder_b2 := F_coder_b2.keep Kq3 nin0
    replace O := O.keep Kq3 all0
    replace K := K.trans Kq3 all0
    replace Zn := Nat.le_trans Zn Kq3.1
    have V_t_3 := Fq3_0
    refine Go.st st3 ?_
    show Go p.tables e below PP (T3.setTop (mkF m 19 #[.val (.ref a1), .val (.int (0 : Int32)), .val (.int p3)] [(.ref t_3), (.ref b2), (.ref b2)]))
    refine Go.st (fun t k => XS.iconst X3.here hx rfl (hb hby d25_19) k) ?_
    show Go p.tables e below PP (T3.setTop (mkF m 20 #[.val (.ref a1), .val (.int (0 : Int32)), .val (.int p3)] [(.int (0 : Int32)), (.ref t_3), (.ref b2), (.ref b2)]))
    obtain ⟨v4, T4, L4, X4, hQ4, st4⟩ := callIn X3 hx hZ (y := (⟨"java/lang/String", "<init>", "([BB)V"⟩ : MethodName)) (a := b2) (argsL := [(.ref t_3), (.int (0 : Int32))]) (rest := [(.ref b2)]) rfl hown (hw _ (List.mem_of_getElem? (i := 126) rfl)) (hw _ (List.mem_of_getElem? (i := 127) rfl)) (hw _ (List.mem_of_getElem? (i := 10) rfl)) (hw _ (List.mem_of_getElem? (i := 128) rfl)) (by decide) (rm29 l Z a0 hw [] b2 t_3 h3 n0 Zn E_b2 F_value_b2 F_coder_b2 g_b2) e3 1 (by decide) (by decide) (by decide) (by decide) (g := (mkF m 20 #[.val (.ref a1), .val (.int (0 : Int32)), .val (.int p3)] [(.int (0 : Int32)), (.ref t_3), (.ref b2), (.ref b2)])) rfl (by rw [hml]; rfl) (lenOf pd_15 rfl) rfl (by show 2 * 0 + _ ≤ _; exact Nat.le_of_eq rfl) (hb hby d25_20)
    obtain ⟨h4, e4⟩ : ∃ z, T4.heap = z := ⟨_, rfl⟩
    rw [e4] at hQ4
    obtain ⟨rfl, Nq4, Kq4, Fq4_0, Fq4_1⟩ := hQ4
    have N4 := Fr.app N3 Nq4
    have hsf : ∀ x ∈ [b2], Safe Z consts_1 _ _ x := (sfS SF_b2 sf0)
    replace SF_b2 := Safe.keep Kq4 hsf CH SF_b2
    replace CR := CR.trans (CHr.keep Kq4 hsf CH)
    replace CH := CH.keep Kq4 hsf
    replace hk := Nat.le_trans hk Kq4.1
    clear hsf
    replace V1 := V1.keep Kq4 (ninS ne_a1_b2 nin0)
    replace E_b2 := E_b2.keep Kq4
    clear F_value_b2
    clear F_coder_b2
    replace V_t_3 := V_t_3.keep Kq4 (ninS (Ne.symm ne_b2_t_3) nin0)
    replace O := O.keep Kq4 (allS g_b2 all0)
    replace K := K.trans Kq4 (allS (Or.inr sz_b2) all0)
    replace Zn := Nat.le_trans Zn Kq4.1
    have F_value_b2 := Fq4_0
    have F_coder_b2 := Fq4_1
    refine Go.st st4 ?_
    show Go p.tables e below PP (T4.setTop (mkF m 23 #[.val (.ref a1), .val (.int (0 : Int32)), .val (.int p3)] [(.ref b2)]))
    rw [hPP]
    refine endRW X4 hx hlk hZ hS e4 hk hEL CH CR hret rfl rfl (hb hby d25_23) ?_ (by decide) (by decide)
    show Q25 Z a1 p3 n1 f1 h0 n0 (some (.ref b2)) T4.heap _
    rw [e4]
    exact ⟨N4, K, _, _, rfl, E_b2, F_coder_b2, F_value_b2, V_t_3⟩
theorem d22_0 : decode jdk_42_method_92_code 0 = .ok (.aload_n 0, 1) := by decide +kernel
theorem d22_1 : decode jdk_42_method_92_code 1 = .ok (.invokevirtual 505, 3) := by decide +kernel
theorem d22_4 : decode jdk_42_method_92_code 4 = .ok (.istore_n 3, 1) := by decide +kernel
theorem d22_5 : decode jdk_42_method_92_code 5 = .ok (.iload_n 1, 1) := by decide +kernel
theorem d22_6 : decode jdk_42_method_92_code 6 = .ok (.iload_n 2, 1) := by decide +kernel
theorem d22_7 : decode jdk_42_method_92_code 7 = .ok (.iload_n 3, 1) := by decide +kernel
theorem d22_8 : decode jdk_42_method_92_code 8 = .ok (.invokestatic 521, 3) := by decide +kernel
theorem d22_11 : decode jdk_42_method_92_code 11 = .ok (.iload_n 1, 1) := by decide +kernel
theorem d22_12 : decode jdk_42_method_92_code 12 = .ok (.ifCond .ne 10, 3) := by decide +kernel
theorem d22_15 : decode jdk_42_method_92_code 15 = .ok (.iload_n 2, 1) := by decide +kernel
theorem d22_16 : decode jdk_42_method_92_code 16 = .ok (.iload_n 3, 1) := by decide +kernel
theorem d22_17 : decode jdk_42_method_92_code 17 = .ok (.if_icmp .ne 5, 3) := by decide +kernel
theorem d22_20 : decode jdk_42_method_92_code 20 = .ok (.aload_n 0, 1) := by decide +kernel
theorem d22_21 : decode jdk_42_method_92_code 21 = .ok (.areturn, 1) := by decide +kernel
theorem d22_22 : decode jdk_42_method_92_code 22 = .ok (.iload_n 2, 1) := by decide +kernel
theorem d22_23 : decode jdk_42_method_92_code 23 = .ok (.iload_n 1, 1) := by decide +kernel
theorem d22_24 : decode jdk_42_method_92_code 24 = .ok (.isub, 1) := by decide +kernel
theorem d22_25 : decode jdk_42_method_92_code 25 = .ok (.istore 4, 2) := by decide +kernel
theorem d22_27 : decode jdk_42_method_92_code 27 = .ok (.aload_n 0, 1) := by decide +kernel
theorem d22_28 : decode jdk_42_method_92_code 28 = .ok (.invokevirtual 492, 3) := by decide +kernel
theorem d22_31 : decode jdk_42_method_92_code 31 = .ok (.ifCond .eq 16, 3) := by decide +kernel
theorem d22_34 : decode jdk_42_method_92_code 34 = .ok (.aload_n 0, 1) := by decide +kernel
theorem d22_35 : decode jdk_42_method_92_code 35 = .ok (.getfield 9, 3) := by decide +kernel
theorem d22_38 : decode jdk_42_method_92_code 38 = .ok (.iload_n 1, 1) := by decide +kernel
theorem d22_39 : decode jdk_42_method_92_code 39 = .ok (.iload 4, 2) := by decide +kernel
theorem d22_41 : decode jdk_42_method_92_code 41 = .ok (.invokestatic 685, 3) := by decide +kernel
theorem d22_44 : decode jdk_42_method_92_code 44 = .ok (.goto 13, 3) := by decide +kernel
theorem d22_47 : decode jdk_42_method_92_code 47 = .ok (.aload_n 0, 1) := by decide +kernel
theorem d22_48 : decode jdk_42_method_92_code 48 = .ok (.getfield 9, 3) := by decide +kernel
theorem d22_51 : decode jdk_42_method_92_code 51 = .ok (.iload_n 1, 1) := by decide +kernel
theorem d22_52 : decode jdk_42_method_92_code 52 = .ok (.iload 4, 2) := by decide +kernel
theorem d22_54 : decode jdk_42_method_92_code 54 = .ok (.invokestatic 689, 3) := by decide +kernel
theorem d22_57 : decode jdk_42_method_92_code 57 = .ok (.areturn, 1) := by decide +kernel
theorem pn_rm22 : plainName "java/lang/String" = true := by first | (simp [plainName, overriddenIn]; done) | decide +kernel
theorem ef_rm22 (m : MethodId) (a1 : Addr) (p3 : Int32) : entryFrame m #[(.ref a1), (.int (0 : Int32)), (.int p3)] 5 = mkF m 0 #[.val (.ref a1), .val (.int (0 : Int32)), .val (.int p3), .unset, .unset] [] := by first | (simp [entryFrame, mkF, argsToLocals, Value.category]; done) | rfl
def Q22 (Z : State) (a1 : Addr) (p3 : Int32) (t1 : Addr) (n1 : Int32) (f1 : Nat → Int32) (zc : Int32) (sv : Value) (h0 : Heap) (n0 : Nat) (v : Option Value) (h : Heap) (L : List Loc) : Prop := Fr n0 L ∧ Keep h0 h [] ∧ ∃ (r t : Addr), v = some (.ref r) ∧ Exa Z h r "java/lang/String" ∧ Fld Z h r "java/lang/String" "coder" "B" (.int (0 : Int32)) ∧ Fld Z h r "java/lang/String" "value" "[B" (.ref t) ∧ Afn Z h t .byte p3 (fun k => .int (f1 k))
theorem pd_16 : parseMethodDescriptor "(III)V" = some ⟨[.int, .int, .int], none⟩ := by decide +kernel
theorem pd_17 : parseMethodDescriptor "([BII)Ljava/lang/String;" = some ⟨[(.array .byte), .int, .int], some (.object "java/lang/String")⟩ := by decide +kernel
set_option maxRecDepth 65536 in
set_option maxHeartbeats 40000000 in
theorem rm22 (l : Launch) (Z : State) (a0 : Array Value) (hw : ∀ d ∈ tables_1, d.before a0 Z = true) (ws : List Jvm.Cond) (a1 : Addr) (p3 : Int32) (t1 : Addr) (n1 : Int32) (f1 : Nat → Int32) (zc : Int32) (sv : Value) (h0 : Heap) (n0 : Nat) (Z0 : n0 ≤ h0.size) (hEL : EW Z a0 consts_1) (F_value_a1 : Fld Z h0 a1 "java/lang/String" "value" "[B" (.ref t1)) (F_coder_a1 : Fld Z h0 a1 "java/lang/String" "coder" "B" (.int (0 : Int32))) (V_t1 : Afn Z h0 t1 .byte n1 (fun k => .int (f1 k))) (E_a1 : Exa Z h0 a1 "java/lang/String") (SC : Sta Z Z.heap "java/lang/String" "COMPACT_STRINGS" "Z" (.int zc)) (hzc : ¬ zc = (0 : Int32)) (O : Old Z n0 h0) (SV : Sta Z Z.heap "jdk/internal/util/Preconditions" "SIOOBE_FORMATTER" "Ljava/util/function/BiFunction;" sv) (hr_sv : sv.isRef = true) (hp : ¬ p3 < (0 : Int32) ∧ p3 < n1) (hcap : p3.toNatClampNeg ≤ 5) :
    ConH l Z consts_1 (⟨"java/lang/String", "substring", "(II)Ljava/lang/String;"⟩ : MethodName) jdk_42_method_92_code 5 (some (.object "java/lang/String")) ws ({ frames := 4, cells := 4, slots := 9, locals := 88 } : Room) #[(.ref a1), (.int (0 : Int32)), (.int p3)] h0 (Q22 Z a1 p3 t1 n1 f1 zc sv h0 n0) := by
  refine ConH.of (plainFor_of_name pn_rm22) ?_
  intro p e s m below meth c s₁ vm0 k0 hZ e0 X0 hx hby hml hown hnm hret hlk hS hk CH CR
  replace hml : c.maxLocals = 5 := hml
  have hown : vm0.findClass "java/lang/String" = some m.cls := hown
  have N0 : Fr n0 [] := Fr.nil n0
  obtain ⟨PP, hPP⟩ : ∃ P, P = FineW Z consts_1 s below (Q22 Z a1 p3 t1 n1 f1 zc sv h0 n0) ({ frames := 4, cells := 4, slots := 9, locals := 88 } : Room).cells ({ frames := 4, cells := 4, slots := 9, locals := 88 } : Room).slots := ⟨_, rfl⟩
  rw [← hPP]
  refine Go.cast (ef_rm22 m a1 p3) ?_
  have K : Keep h0 h0 [] := Keep.refl h0 _
  have Zn : n0 ≤ h0.size := Z0
  show Go p.tables e below PP (s₁.setTop (mkF m 0 #[.val (.ref a1), .val (.int (0 : Int32)), .val (.int p3), .unset, .unset] []))
  refine Go.st (fun t k => XS.aloadN X0.here hx rfl (hb hby d22_0) rfl rfl k) ?_
  show Go p.tables e below PP (s₁.setTop (mkF m 1 #[.val (.ref a1), .val (.int (0 : Int32)), .val (.int p3), .unset, .unset] [(.ref a1)]))
  obtain ⟨v1, T1, L1, X1, hQ1, st1⟩ := callVi X0 hx hZ (C := "java/lang/String") (y := (⟨"java/lang/String", "length", "()I"⟩ : MethodName)) (z := (⟨"java/lang/String", "length", "()I"⟩ : MethodName)) (a := a1) (argsL := []) (rest := []) hown (hw _ (List.mem_of_getElem? (i := 53) rfl)) (hw _ (List.mem_of_getElem? (i := 54) rfl)) (notFace_of_selects (args := #[]) (mvT (s := (s.setVm vm0)) hZ (hw _ (List.mem_of_getElem? (i := 56) rfl)))) (hw _ (List.mem_of_getElem? (i := 56) rfl)) (hw _ (List.mem_of_getElem? (i := 55) rfl)) (hw _ (List.mem_of_getElem? (i := 10) rfl)) (hw _ (List.mem_of_getElem? (i := 57) rfl)) (by decide) rfl E_a1 (rm11 l Z a0 hw [] a1 t1 n1 f1 zc h0 n0 Zn F_value_a1 F_coder_a1 V_t1 E_a1 SC hzc O) e0 0 (by decide) (by decide) (by decide) (by decide) (g := (mkF m 1 #[.val (.ref a1), .val (.int (0 : Int32)), .val (.int p3), .unset, .unset] [(.ref a1)])) rfl (by rw [hml]; rfl) (lenOf pd_9 rfl) rfl (by show 2 * 0 + _ ≤ _; exact Nat.le_of_eq rfl) (hb hby d22_1)
  obtain ⟨rfl, rfl, e1⟩ := hQ1
  rw [List.append_nil] at X1
  refine Go.st st1 ?_
  show Go p.tables e below PP (T1.setTop (mkF m 4 #[.val (.ref a1), .val (.int (0 : Int32)), .val (.int p3), .unset, .unset] [(.int n1)]))
  refine Go.st (fun t k => XS.istoreN X1.here hx rfl (hb hby d22_4) rfl (l' := #[.val (.ref a1), .val (.int (0 : Int32)), .val (.int p3), .val (.int n1), .unset]) rfl k) ?_
  show Go p.tables e below PP (T1.setTop (mkF m 5 #[.val (.ref a1), .val (.int (0 : Int32)), .val (.int p3), .val (.int n1), .unset] []))
  refine Go.st (fun t k => XS.iloadN X1.here hx rfl (hb hby d22_5) rfl k) ?_
  show Go p.tables e below PP (T1.setTop (mkF m 6 #[.val (.ref a1), .val (.int (0 : Int32)), .val (.int p3), .val (.int n1), .unset] [(.int (0 : Int32))]))
  refine Go.st (fun t k => XS.iloadN X1.here hx rfl (hb hby d22_6) rfl k) ?_
  show Go p.tables e below PP (T1.setTop (mkF m 7 #[.val (.ref a1), .val (.int (0 : Int32)), .val (.int p3), .val (.int n1), .unset] [(.int p3), (.int (0 : Int32))]))
  refine Go.st (fun t k => XS.iloadN X1.here hx rfl (hb hby d22_7) rfl k) ?_
  show Go p.tables e below PP (T1.setTop (mkF m 8 #[.val (.ref a1), .val (.int (0 : Int32)), .val (.int p3), .val (.int n1), .unset] [(.int n1), (.int p3), (.int (0 : Int32))]))
  obtain ⟨v2, T2, L2, X2, hQ2, st2⟩ := callSt X1 hx hZ (y := (⟨"java/lang/String", "checkBoundsBeginEnd", "(III)V"⟩ : MethodName)) (argsL := [(.int (0 : Int32)), (.int p3), (.int n1)]) (rest := []) hown (hw _ (List.mem_of_getElem? (i := 99) rfl)) (hw _ (List.mem_of_getElem? (i := 100) rfl)) (hw _ (List.mem_of_getElem? (i := 10) rfl)) (hw _ (List.mem_of_getElem? (i := 101) rfl)) (by decide) (rm23 l Z a0 hw [] (0 : Int32) p3 n1 sv h0 n0 Zn SV hr_sv O ⟨by decide, hp.1, fun z => Int32.lt_irrefl (Int32.lt_trans hp.2 z)⟩) e1 0 (by decide) (by decide) (by decide) (by decide) (g := (mkF m 8 #[.val (.ref a1), .val (.int (0 : Int32)), .val (.int p3), .val (.int n1), .unset] [(.int n1), (.int p3), (.int (0 : Int32))])) rfl (by rw [hml]; rfl) (lenOf pd_16 rfl) rfl (by show 2 * 0 + _ ≤ _; exact Nat.le_of_eq rfl) (hb hby d22_8)
  obtain ⟨rfl, rfl, e2⟩ := hQ2
  rw [List.append_nil] at X2
  refine Go.st st2 ?_
  show Go p.tables e below PP (T2.setTop (mkF m 11 #[.val (.ref a1), .val (.int (0 : Int32)), .val (.int p3), .val (.int n1), .unset] []))
  refine Go.st (fun t k => XS.iloadN X2.here hx rfl (hb hby d22_11) rfl k) ?_
  show Go p.tables e below PP (T2.setTop (mkF m 12 #[.val (.ref a1), .val (.int (0 : Int32)), .val (.int p3), .val (.int n1), .unset] [(.int (0 : Int32))]))
  refine Go.st (fun t k => XS.ifNo X2.here hx rfl (hb hby d22_12) rfl (XT.i0_ne_f (by decide)) k) ?_
  show Go p.tables e below PP (T2.setTop (mkF m 15 #[.val (.ref a1), .val (.int (0 : Int32)), .val (.int p3), .val (.int n1), .unset] []))
  refine Go.st (fun t k => XS.iloadN X2.here hx rfl (hb hby d22_15) rfl k) ?_
  show Go p.tables e below PP (T2.setTop (mkF m 16 #[.val (.ref a1), .val (.int (0 : Int32)), .val (.int p3), .val (.int n1), .unset] [(.int p3)]))
  refine Go.st (fun t k => XS.iloadN X2.here hx rfl (hb hby d22_16) rfl k) ?_
  show Go p.tables e below PP (T2.setTop (mkF m 17 #[.val (.ref a1), .val (.int (0 : Int32)), .val (.int p3), .val (.int n1), .unset] [(.int n1), (.int p3)]))
  refine Go.st (fun t k => XS.icmpYes X2.here hx rfl (pc0 := 17) (pc' := 22) rfl (hb hby d22_17) rfl (XT.ii_ne_t (own_ltne hp.2)) (by decide) (by decide) k) ?_
  show Go p.tables e below PP (T2.setTop (mkF m 22 #[.val (.ref a1), .val (.int (0 : Int32)), .val (.int p3), .val (.int n1), .unset] []))
  refine Go.st (fun t k => XS.iloadN X2.here hx rfl (hb hby d22_22) rfl k) ?_
  show Go p.tables e below PP (T2.setTop (mkF m 23 #[.val (.ref a1), .val (.int (0 : Int32)), .val (.int p3), .val (.int n1), .unset] [(.int p3)]))
  refine Go.st (fun t k => XS.iloadN X2.here hx rfl (hb hby d22_23) rfl k) ?_
  show Go p.tables e below PP (T2.setTop (mkF m 24 #[.val (.ref a1), .val (.int (0 : Int32)), .val (.int p3), .val (.int n1), .unset] [(.int (0 : Int32)), (.int p3)]))
  refine Go.st (fun t k => XS.isub X2.here hx rfl (hb hby d22_24) rfl k) ?_
  rw [Int32.sub_zero]
  show Go p.tables e below PP (T2.setTop (mkF m 25 #[.val (.ref a1), .val (.int (0 : Int32)), .val (.int p3), .val (.int n1), .unset] [(.int p3)]))
  refine Go.st (fun t k => XS.istore X2.here hx rfl (hb hby d22_25) rfl (l' := #[.val (.ref a1), .val (.int (0 : Int32)), .val (.int p3), .val (.int n1), .val (.int p3)]) rfl k) ?_
  show Go p.tables e below PP (T2.setTop (mkF m 27 #[.val (.ref a1), .val (.int (0 : Int32)), .val (.int p3), .val (.int n1), .val (.int p3)] []))
  refine Go.st (fun t k => XS.aloadN X2.here hx rfl (hb hby d22_27) rfl rfl k) ?_
  show Go p.tables e below PP (T2.setTop (mkF m 28 #[.val (.ref a1), .val (.int (0 : Int32)), .val (.int p3), .val (.int n1), .val (.int p3)] [(.ref a1)]))
  obtain ⟨v3, T3, L3, X3, hQ3, st3⟩ := callVi X2 hx hZ (C := "java/lang/String") (y := (⟨"java/lang/String", "isLatin1", "()Z"⟩ : MethodName)) (z := (⟨"java/lang/String", "isLatin1", "()Z"⟩ : MethodName)) (a := a1) (argsL := []) (rest := []) hown (hw _ (List.mem_of_getElem? (i := 47) rfl)) (hw _ (List.mem_of_getElem? (i := 48) rfl)) (notFace_of_selects (args := #[]) (mvT (s := (s.setVm vm0)) hZ (hw _ (List.mem_of_getElem? (i := 50) rfl)))) (hw _ (List.mem_of_getElem? (i := 50) rfl)) (hw _ (List.mem_of_getElem? (i := 49) rfl)) (hw _ (List.mem_of_getElem? (i := 10) rfl)) (hw _ (List.mem_of_getElem? (i := 51) rfl)) (by decide) rfl E_a1 (rm10 l Z a0 hw [] a1 zc h0 n0 Zn F_coder_a1 SC hzc O) e2 0 (by decide) (by decide) (by decide) (by decide) (g := (mkF m 28 #[.val (.ref a1), .val (.int (0 : Int32)), .val (.int p3), .val (.int n1), .val (.int p3)] [(.ref a1)])) rfl (by rw [hml]; rfl) (lenOf pd_8 rfl) rfl (by show 2 * 0 + _ ≤ _; exact Nat.le_of_eq rfl) (hb hby d22_28)
  obtain ⟨rfl, rfl, e3⟩ := hQ3
  rw [List.append_nil] at X3
  refine Go.st st3 ?_
  show Go p.tables e below PP (T3.setTop (mkF m 31 #[.val (.ref a1), .val (.int (0 : Int32)), .val (.int p3), .val (.int n1), .val (.int p3)] [(.int (1 : Int32))]))
  refine Go.st (fun t k => XS.ifNo X3.here hx rfl (hb hby d22_31) rfl (XT.i0_eq_f (by decide)) k) ?_
  show Go p.tables e below PP (T3.setTop (mkF m 34 #[.val (.ref a1), .val (.int (0 : Int32)), .val (.int p3), .val (.int n1), .val (.int p3)] []))
  refine Go.st (fun t k => XS.aloadN X3.here hx rfl (hb hby d22_34) rfl rfl k) ?_
  show Go p.tables e below PP (T3.setTop (mkF m 35 #[.val (.ref a1), .val (.int (0 : Int32)), .val (.int p3), .val (.int n1), .val (.int p3)] [(.ref a1)]))
  obtain ⟨T4, X4, e4, st4⟩ := getF X3 hx hZ hown (host := "") (Or.inl (hw _ (List.mem_of_getElem? (i := 28) rfl))) Via.refl e3 F_value_a1 (g := (mkF m 35 #[.val (.ref a1), .val (.int (0 : Int32)), .val (.int p3), .val (.int n1), .val (.int p3)] [(.ref a1)])) rfl rfl (hb hby d22_35)
  refine Go.st st4 ?_
  show Go p.tables e below PP (T4.setTop (mkF m 38 #[.val (.ref a1), .val (.int (0 : Int32)), .val (.int p3), .val (.int n1), .val (.int p3)] [(.ref t1)]))
  refine Go.st (fun t k => XS.iloadN X4.here hx rfl (hb hby d22_38) rfl k) ?_
  show Go p.tables e below PP (T4.setTop (mkF m 39 #[.val (.ref a1), .val (.int (0 : Int32)), .val (.int p3), .val (.int n1), .val (.int p3)] [(.int (0 : Int32)), (.ref t1)]))
  refine Go.st (fun t k => XS.iload X4.here hx rfl (hb hby d22_39) rfl k) ?_
  show Go p.tables e below PP (T4.setTop (mkF m 41 #[.val (.ref a1), .val (.int (0 : Int32)), .val (.int p3), .val (.int n1), .val (.int p3)] [(.int p3), (.int (0 : Int32)), (.ref t1)]))
  have hZ0 := hZ
  have hown0 := hown
  clear hZ hown
  obtain ⟨v5, T5, L5, X5, hQ5, hC5, hSn5, hZ, hown, st5⟩ := callStW X4 hx hZ0 (y := (⟨"java/lang/StringLatin1", "newString", "([BII)Ljava/lang/String;"⟩ : MethodName)) (argsL := [(.ref t1), (.int (0 : Int32)), (.int p3)]) (rest := []) hown0 (hw _ (List.mem_of_getElem? (i := 107) rfl)) (hw _ (List.mem_of_getElem? (i := 108) rfl)) (hw _ (List.mem_of_getElem? (i := 65) rfl)) (hw _ (List.mem_of_getElem? (i := 109) rfl)) (by decide) (rm25 l Z a0 hw [] t1 p3 n1 f1 h0 n0 Zn hEL V_t1 hp hcap O) e4 hEL CH hS hk 0 (by decide) (by decide) (by decide) (by decide) (g := (mkF m 41 #[.val (.ref a1), .val (.int (0 : Int32)), .val (.int p3), .val (.int n1), .val (.int p3)] [(.int p3), (.int (0 : Int32)), (.ref t1)])) rfl (by rw [hml]; rfl) (lenOf pd_17 rfl) rfl (by show 2 * 0 + _ ≤ _; exact Nat.le_of_eq rfl) (hb hby d22_41)
  clear hZ0 hown0
  replace hS := hSn5
  obtain ⟨h5, e5⟩ : ∃ z, T5.heap = z := ⟨_, rfl⟩
  rw [e5] at hQ5 hC5
  replace CR := CR.trans hC5
  replace CH := hC5.1
  replace hk : T5.heap.size ≤ h5.size := by rw [e5]; exact Nat.le_refl _
  obtain ⟨Nq5, Kq5, r5, t5, rfl, Eq5, Cq5, Fq5, Vq5⟩ := hQ5
  have N5 := Fr.app N0 Nq5
  replace F_value_a1 := F_value_a1.keep Kq5 nin0
  replace F_coder_a1 := F_coder_a1.keep Kq5 nin0
  replace V_t1 := V_t1.keep Kq5 nin0
  replace E_a1 := E_a1.keep Kq5
  replace O := O.keep Kq5 all0
  replace K := K.trans Kq5 all0
  replace Zn := Nat.le_trans Zn Kq5.1
  refine Go.st st5 ?_
  show Go p.tables e below PP (T5.setTop (mkF m 44 #[.val (.ref a1), .val (.int (0 : Int32)), .val (.int p3), .val (.int n1), .val (.int p3)] [(.ref r5)]))
  refine Go.st (fun t k => XS.goto X5.here hx rfl (pc0 := 44) (pc' := 57) rfl (hb hby d22_44) (by decide) (by decide) k) ?_
  show Go p.tables e below PP (T5.setTop (mkF m 57 #[.val (.ref a1), .val (.int (0 : Int32)), .val (.int p3), .val (.int n1), .val (.int p3)] [(.ref r5)]))
  rw [hPP]
  refine endRW X5 hx hlk hZ hS e5 hk hEL CH CR hret rfl rfl (hb hby d22_57) ?_ (by decide) (by decide)
  show Q22 Z a1 p3 t1 n1 f1 zc sv h0 n0 (some (.ref r5)) T5.heap _
  rw [e5]
  exact ⟨N5, K, _, _, rfl, Eq5, Cq5, Fq5, Vq5⟩
abbrev Chr (x : Int32) : Prop := ¬ x < (0 : Int32) ∧ ¬ (255 : Int32) < x ∧ nar .char x = x
def drC (x : Int32) : Int32 := if (x &&& (3 : Int32)) = (0 : Int32) then 45 else nar .char (((x.toUInt32 >>> ((2 : Int32) &&& 31).toUInt32).toInt32 &&& (255 : Int32)).toUInt32.toUInt16.toUInt32.toInt32)
theorem own_dr (x v : Int32) (h : drC x = v) : Chr v := by
  unfold drC at h
  split at h
  · subst h; unfold Chr; decide
  · have q := own_ch _ _ (rfl : (((x.toUInt32 >>> ((2 : Int32) &&& 31).toUInt32).toInt32 &&& (255 : Int32)).toUInt32.toUInt16.toUInt32.toInt32) = _)
    rw [q.2.2] at h
    subst h
    exact q
def fdash (n c0 c1 c2 c3 c4 : Int32) : Int32 := if (0 : Int32) < n ∧ c0 = (45 : Int32) then 0 else if (1 : Int32) < n ∧ c1 = (45 : Int32) then 1 else if (2 : Int32) < n ∧ c2 = (45 : Int32) then 2 else if (3 : Int32) < n ∧ c3 = (45 : Int32) then 3 else if (4 : Int32) < n ∧ c4 = (45 : Int32) then 4 else n
def langN (f : Nat → Int32) (n : Int32) : Int32 := if firstIx f ((45 : Int32).toInt8.toInt32) 0 n.toNatClampNeg < (0 : Int32) then n else firstIx f ((45 : Int32).toInt8.toInt32) 0 n.toNatClampNeg
theorem own_i8 (x : Int32) (hx : Chr x) : x.toInt8.toInt32 = ((45 : Int32).toInt8.toInt32) ↔ x = (45 : Int32) := by
  have q := c_i2b x
  obtain ⟨a1, a2, -⟩ := hx
  rw [Int32.lt_iff_toInt_lt] at a1 a2
  have e0 : (0 : Int32).toInt = 0 := rfl
  have e5 : (255 : Int32).toInt = 255 := rfl
  have e6 : ((45 : Int32).toInt8.toInt32).toInt = 45 := rfl
  have e7 : (45 : Int32).toInt = 45 := rfl
  rw [← Int32.toInt_inj, ← Int32.toInt_inj]
  omega
theorem own_ix (f : Nat → Int32) (ch n i : Int32) (hn : ¬ n < (0 : Int32)) (h : firstIx f ch 0 n.toNatClampNeg = i) (h0 : ¬ i < (0 : Int32)) : ¬ i < (0 : Int32) ∧ i < n := by
  refine ⟨h0, ?_⟩
  have r := rng32 n
  have e0 : (0 : Int32).toInt = 0 := rfl
  rcases firstIx_spec f ch n.toNatClampNeg 0 with ⟨-, h2⟩ | ⟨k, -, h2, -, -, h5⟩
  · rw [h] at h2; subst h2; exact absurd (by decide) h0
  · rw [h] at h5
    subst h5
    rw [Int32.lt_iff_toInt_lt] at hn ⊢
    have hN : (n.toNatClampNeg : Int) = n.toInt := by simp only [Int32.toNatClampNeg]; omega
    rw [Int32.toInt_ofNat_of_lt (by omega)]
    omega
theorem own_len (n c0 c1 c2 c3 c4 : Int32) (hn : ¬ n < (0 : Int32) ∧ n.toInt < 6) (h0 : Chr c0) (h1 : Chr c1) (h2 : Chr c2) (h3 : Chr c3) (h4 : Chr c4) : langN (fun k => (csL [c0, c1, c2, c3, c4] k).toInt8.toInt32) n = fdash n c0 c1 c2 c3 c4 := by
  have i0 : (c0.toInt8.toInt32 = (45 : Int32)) ↔ c0 = (45 : Int32) := own_i8 c0 h0
  have i1 : (c1.toInt8.toInt32 = (45 : Int32)) ↔ c1 = (45 : Int32) := own_i8 c1 h1
  have i2 : (c2.toInt8.toInt32 = (45 : Int32)) ↔ c2 = (45 : Int32) := own_i8 c2 h2
  have i3 : (c3.toInt8.toInt32 = (45 : Int32)) ↔ c3 = (45 : Int32) := own_i8 c3 h3
  have i4 : (c4.toInt8.toInt32 = (45 : Int32)) ↔ c4 = (45 : Int32) := own_i8 c4 h4
  have hv : n = 0 ∨ n = 1 ∨ n = 2 ∨ n = 3 ∨ n = 4 ∨ n = 5 := by
    obtain ⟨a, b⟩ := hn
    rw [Int32.lt_iff_toInt_lt] at a
    have e0 : (0 : Int32).toInt = 0 := rfl
    have e1 : (1 : Int32).toInt = 1 := rfl
    have e2 : (2 : Int32).toInt = 2 := rfl
    have e3 : (3 : Int32).toInt = 3 := rfl
    have e4 : (4 : Int32).toInt = 4 := rfl
    have e5 : (5 : Int32).toInt = 5 := rfl
    simp only [← Int32.toInt_inj]
    omega
  have key : ∀ N : Nat, N ≤ 5 → firstIx (fun k => (csL [c0, c1, c2, c3, c4] k).toInt8.toInt32) ((45 : Int32).toInt8.toInt32) 0 N = if 0 < N ∧ c0 = (45 : Int32) then 0 else if 1 < N ∧ c1 = (45 : Int32) then 1 else if 2 < N ∧ c2 = (45 : Int32) then 2 else if 3 < N ∧ c3 = (45 : Int32) then 3 else if 4 < N ∧ c4 = (45 : Int32) then 4 else -1 := by
    intro N hN
    have : N = 0 ∨ N = 1 ∨ N = 2 ∨ N = 3 ∨ N = 4 ∨ N = 5 := by omega
    rcases this with rfl | rfl | rfl | rfl | rfl | rfl <;> simp [firstIx, csL, i0, i1, i2, i3, i4] <;> try rfl
  unfold langN fdash
  rcases hv with rfl | rfl | rfl | rfl | rfl | rfl
  all_goals
    rw [key _ (by decide)]
    by_cases d0 : c0 = (45 : Int32) <;> by_cases d1 : c1 = (45 : Int32) <;> by_cases d2 : c2 = (45 : Int32) <;> by_cases d3 : c3 = (45 : Int32) <;> by_cases d4 : c4 = (45 : Int32) <;> simp only [d0, d1, d2, d3, d4, and_true, and_false, if_false] <;> decide
theorem own_6 (x i : Int32) (hi : ((x &&& (2147483647 : Int32)) % (6 : Int32)) = i) : ¬ i < (0 : Int32) ∧ i.toInt < 6 := by
  have q := c_mask x 2147483647 31 (by decide) (by decide)
  have r := (c_irem (x &&& (2147483647 : Int32)) 6 6 (by decide)).1 (by omega)
  have e0 : (0 : Int32).toInt = 0 := rfl
  rw [hi] at r
  rw [Int32.lt_iff_toInt_lt]
  omega
theorem own_n5 (n : Int32) (h : ¬ n < (0 : Int32) ∧ n.toInt < 6) (h0 : ¬ n = (0 : Int32)) (h1 : ¬ n = (1 : Int32)) (h2 : ¬ n = (2 : Int32)) (h3 : ¬ n = (3 : Int32)) (h4 : ¬ n = (4 : Int32)) : n = (5 : Int32) := by
  rw [← Int32.toInt_inj] at *
  rw [Int32.lt_iff_toInt_lt] at h
  have e0 : (0 : Int32).toInt = 0 := rfl
  have e1 : (1 : Int32).toInt = 1 := rfl
  have e2 : (2 : Int32).toInt = 2 := rfl
  have e3 : (3 : Int32).toInt = 3 := rfl
  have e4 : (4 : Int32).toInt = 4 := rfl
  have e5 : (5 : Int32).toInt = 5 := rfl
  omega
theorem own_pre (x0 x1 x2 x3 x4 : Int32) (k : Nat) : (k < (0 : Int32).toNatClampNeg → ∀ v, v = Value.int ((csL [x0, x1, x2, x3, x4] k).toInt8.toInt32)) ∧ (k < (1 : Int32).toNatClampNeg → csL [x0] k = csL [x0, x1, x2, x3, x4] k) ∧ (k < (2 : Int32).toNatClampNeg → csL [x0, x1] k = csL [x0, x1, x2, x3, x4] k) ∧ (k < (3 : Int32).toNatClampNeg → csL [x0, x1, x2] k = csL [x0, x1, x2, x3, x4] k) ∧ (k < (4 : Int32).toNatClampNeg → csL [x0, x1, x2, x3] k = csL [x0, x1, x2, x3, x4] k) := by
  have e1 : (1 : Int32).toNatClampNeg = 1 := rfl
  have e2 : (2 : Int32).toNatClampNeg = 2 := rfl
  have e3 : (3 : Int32).toNatClampNeg = 3 := rfl
  have e4 : (4 : Int32).toNatClampNeg = 4 := rfl
  rw [e1, e2, e3, e4]
  refine ⟨fun h => absurd h (Nat.not_lt_zero k), fun h => ?_, fun h => ?_, fun h => ?_, fun h => ?_⟩
  · obtain rfl : k = 0 := by omega
    rfl
  · have : k = 0 ∨ k = 1 := by omega
    rcases this with rfl | rfl <;> rfl
  · have : k = 0 ∨ k = 1 ∨ k = 2 := by omega
    rcases this with rfl | rfl | rfl <;> rfl
  · have : k = 0 ∨ k = 1 ∨ k = 2 ∨ k = 3 := by omega
    rcases this with rfl | rfl | rfl | rfl <;> rfl
theorem d1_0 : decode method_2_code 0 = .ok (.iload_n 0, 1) := by decide +kernel
theorem d1_1 : decode method_2_code 1 = .ok (.iconst 3, 1) := by decide +kernel
theorem d1_2 : decode method_2_code 2 = .ok (.iand, 1) := by decide +kernel
theorem d1_3 : decode method_2_code 3 = .ok (.ifCond .ne 6, 3) := by decide +kernel
theorem d1_6 : decode method_2_code 6 = .ok (.bipush 45, 2) := by decide +kernel
theorem d1_8 : decode method_2_code 8 = .ok (.ireturn, 1) := by decide +kernel
theorem d1_9 : decode method_2_code 9 = .ok (.iload_n 0, 1) := by decide +kernel
theorem d1_10 : decode method_2_code 10 = .ok (.iconst 2, 1) := by decide +kernel
theorem d1_11 : decode method_2_code 11 = .ok (.iushr, 1) := by decide +kernel
theorem d1_12 : decode method_2_code 12 = .ok (.sipush 255, 3) := by decide +kernel
theorem d1_15 : decode method_2_code 15 = .ok (.iand, 1) := by decide +kernel
theorem d1_16 : decode method_2_code 16 = .ok (.i2c, 1) := by decide +kernel
theorem d1_17 : decode method_2_code 17 = .ok (.ireturn, 1) := by decide +kernel
theorem pn_rm1 : plainName "com/example/facet_hierarchy_store/facethierarchystore/label/LanguageTagLanguagePinLaw" = true := by first | (simp [plainName, overriddenIn]; done) | decide +kernel
theorem ef_rm1 (m : MethodId) (p1 : Int32) : entryFrame m #[(.int p1)] 1 = mkF m 0 #[.val (.int p1)] [] := by first | (simp [entryFrame, mkF, argsToLocals, Value.category]; done) | rfl
def Q1 (Z : State) (p1 : Int32) (h0 : Heap) (n0 : Nat) (v : Option Value) (h : Heap) (L : List Loc) : Prop := v = some (.int (drC p1)) ∧ L = [] ∧ h = h0
set_option maxRecDepth 65536 in
set_option maxHeartbeats 40000000 in
theorem rm1 (l : Launch) (Z : State) (a0 : Array Value) (hw : ∀ d ∈ tables_1, d.before a0 Z = true) (ws : List Jvm.Cond) (p1 : Int32) (h0 : Heap) (n0 : Nat) (Z0 : n0 ≤ h0.size) :
    Con l Z (⟨"com/example/facet_hierarchy_store/facethierarchystore/label/LanguageTagLanguagePinLaw", "draw", "(I)C"⟩ : MethodName) method_2_code 1 (some .char) ws ({ frames := 0, cells := 0, slots := 0, locals := 0 } : Room) #[(.int p1)] h0 (Q1 Z p1 h0 n0) := by
  refine Con.of (plainFor_of_name pn_rm1) ?_
  intro p e s m below meth c s₁ hZ e0 X0 hx hby hml hown hnm hret hlk
  replace hml : c.maxLocals = 1 := hml
  have hown : s.vm.findClass "com/example/facet_hierarchy_store/facethierarchystore/label/LanguageTagLanguagePinLaw" = some m.cls := hown
  have N0 : Fr n0 [] := Fr.nil n0
  obtain ⟨PP, hPP⟩ : ∃ P, P = Fine s below (Q1 Z p1 h0 n0) ({ frames := 0, cells := 0, slots := 0, locals := 0 } : Room).cells ({ frames := 0, cells := 0, slots := 0, locals := 0 } : Room).slots := ⟨_, rfl⟩
  rw [← hPP]
  refine Go.cast (ef_rm1 m p1) ?_
  have Zn : n0 ≤ h0.size := Z0
  show Go p.tables e below PP (s₁.setTop (mkF m 0 #[.val (.int p1)] []))
  refine Go.st (fun t k => XS.iloadN X0.here hx rfl (hb hby d1_0) rfl k) ?_
  show Go p.tables e below PP (s₁.setTop (mkF m 1 #[.val (.int p1)] [(.int p1)]))
  refine Go.st (fun t k => XS.iconst X0.here hx rfl (hb hby d1_1) k) ?_
  show Go p.tables e below PP (s₁.setTop (mkF m 2 #[.val (.int p1)] [(.int (3 : Int32)), (.int p1)]))
  refine Go.st (fun t k => XS.iand X0.here hx rfl (hb hby d1_2) rfl k) ?_
  show Go p.tables e below PP (s₁.setTop (mkF m 3 #[.val (.int p1)] [(.int (p1 &&& (3 : Int32)))]))
  by_cases hc3 : (p1 &&& (3 : Int32)) = (0 : Int32)
  · --
    refine Go.st (fun t k => XS.ifNo X0.here hx rfl (hb hby d1_3) rfl (XT.i0_ne_f hc3) k) ?_
    show Go p.tables e below PP (s₁.setTop (mkF m 6 #[.val (.int p1)] []))
    refine Go.st (fun t k => XS.bipush X0.here hx rfl (hb hby d1_6) k) ?_
    show Go p.tables e below PP (s₁.setTop (mkF m 8 #[.val (.int p1)] [(.int (45 : Int32))]))
    rw [hPP]
    refine endN X0 hx hlk (t := .char) hret (by simp) (hb hby d1_8) (w := (45 : Int32)) (rfl) ?_ (by decide) (by decide)
    show Q1 Z p1 h0 n0 (some (.int (45 : Int32))) s₁.heap _
    rw [e0]
    exact ⟨by unfold drC; rw [if_pos hc3], rfl, rfl⟩
  · --
    refine Go.st (fun t k => XS.ifYes X0.here hx rfl (pc0 := 3) (pc' := 9) rfl (hb hby d1_3) rfl (XT.i0_ne_t hc3) (by decide) (by decide) k) ?_
    show Go p.tables e below PP (s₁.setTop (mkF m 9 #[.val (.int p1)] []))
    refine Go.st (fun t k => XS.iloadN X0.here hx rfl (hb hby d1_9) rfl k) ?_
    show Go p.tables e below PP (s₁.setTop (mkF m 10 #[.val (.int p1)] [(.int p1)]))
    refine Go.st (fun t k => XS.iconst X0.here hx rfl (hb hby d1_10) k) ?_
    show Go p.tables e below PP (s₁.setTop (mkF m 11 #[.val (.int p1)] [(.int (2 : Int32)), (.int p1)]))
    refine Go.st (fun t k => XS.iushr X0.here hx rfl (hb hby d1_11) rfl k) ?_
    show Go p.tables e below PP (s₁.setTop (mkF m 12 #[.val (.int p1)] [(.int ((p1.toUInt32 >>> ((2 : Int32) &&& 31).toUInt32).toInt32))]))
    refine Go.st (fun t k => XS.sipush X0.here hx rfl (hb hby d1_12) k) ?_
    show Go p.tables e below PP (s₁.setTop (mkF m 15 #[.val (.int p1)] [(.int (255 : Int32)), (.int ((p1.toUInt32 >>> ((2 : Int32) &&& 31).toUInt32).toInt32))]))
    refine Go.st (fun t k => XS.iand X0.here hx rfl (hb hby d1_15) rfl k) ?_
    show Go p.tables e below PP (s₁.setTop (mkF m 16 #[.val (.int p1)] [(.int (((p1.toUInt32 >>> ((2 : Int32) &&& 31).toUInt32).toInt32) &&& (255 : Int32)))]))
    refine Go.st (fun t k => XS.i2c X0.here hx rfl (hb hby d1_16) rfl k) ?_
    show Go p.tables e below PP (s₁.setTop (mkF m 17 #[.val (.int p1)] [(.int ((((p1.toUInt32 >>> ((2 : Int32) &&& 31).toUInt32).toInt32) &&& (255 : Int32)).toUInt32.toUInt16.toUInt32.toInt32))]))
    rw [hPP]
    refine endN X0 hx hlk (t := .char) hret (by simp) (hb hby d1_17) (w := (nar .char ((((p1.toUInt32 >>> ((2 : Int32) &&& 31).toUInt32).toInt32) &&& (255 : Int32)).toUInt32.toUInt16.toUInt32.toInt32))) (rfl) ?_ (by decide) (by decide)
    show Q1 Z p1 h0 n0 (some (.int (nar .char ((((p1.toUInt32 >>> ((2 : Int32) &&& 31).toUInt32).toInt32) &&& (255 : Int32)).toUInt32.toUInt16.toUInt32.toInt32)))) s₁.heap _
    rw [e0]
    exact ⟨by unfold drC; rw [if_neg hc3], rfl, rfl⟩
theorem d6_0 : decode method_4_code 0 = .ok (.iload_n 0, 1) := by decide +kernel
theorem d6_1 : decode method_4_code 1 = .ok (.ifCond .le 11, 3) := by decide +kernel
theorem d6_4 : decode method_4_code 4 = .ok (.iload_n 1, 1) := by decide +kernel
theorem d6_5 : decode method_4_code 5 = .ok (.bipush 45, 2) := by decide +kernel
theorem d6_7 : decode method_4_code 7 = .ok (.if_icmp .ne 5, 3) := by decide +kernel
theorem d6_10 : decode method_4_code 10 = .ok (.iconst 0, 1) := by decide +kernel
theorem d6_11 : decode method_4_code 11 = .ok (.ireturn, 1) := by decide +kernel
theorem d6_12 : decode method_4_code 12 = .ok (.iload_n 0, 1) := by decide +kernel
theorem d6_13 : decode method_4_code 13 = .ok (.iconst 1, 1) := by decide +kernel
theorem d6_14 : decode method_4_code 14 = .ok (.if_icmp .le 11, 3) := by decide +kernel
theorem d6_17 : decode method_4_code 17 = .ok (.iload_n 2, 1) := by decide +kernel
theorem d6_18 : decode method_4_code 18 = .ok (.bipush 45, 2) := by decide +kernel
theorem d6_20 : decode method_4_code 20 = .ok (.if_icmp .ne 5, 3) := by decide +kernel
theorem d6_23 : decode method_4_code 23 = .ok (.iconst 1, 1) := by decide +kernel
theorem d6_24 : decode method_4_code 24 = .ok (.ireturn, 1) := by decide +kernel
theorem d6_25 : decode method_4_code 25 = .ok (.iload_n 0, 1) := by decide +kernel
theorem d6_26 : decode method_4_code 26 = .ok (.iconst 2, 1) := by decide +kernel
theorem d6_27 : decode method_4_code 27 = .ok (.if_icmp .le 11, 3) := by decide +kernel
theorem d6_30 : decode method_4_code 30 = .ok (.iload_n 3, 1) := by decide +kernel
theorem d6_31 : decode method_4_code 31 = .ok (.bipush 45, 2) := by decide +kernel
theorem d6_33 : decode method_4_code 33 = .ok (.if_icmp .ne 5, 3) := by decide +kernel
theorem d6_36 : decode method_4_code 36 = .ok (.iconst 2, 1) := by decide +kernel
theorem d6_37 : decode method_4_code 37 = .ok (.ireturn, 1) := by decide +kernel
theorem d6_38 : decode method_4_code 38 = .ok (.iload_n 0, 1) := by decide +kernel
theorem d6_39 : decode method_4_code 39 = .ok (.iconst 3, 1) := by decide +kernel
theorem d6_40 : decode method_4_code 40 = .ok (.if_icmp .le 12, 3) := by decide +kernel
theorem d6_43 : decode method_4_code 43 = .ok (.iload 4, 2) := by decide +kernel
theorem d6_45 : decode method_4_code 45 = .ok (.bipush 45, 2) := by decide +kernel
theorem d6_47 : decode method_4_code 47 = .ok (.if_icmp .ne 5, 3) := by decide +kernel
theorem d6_50 : decode method_4_code 50 = .ok (.iconst 3, 1) := by decide +kernel
theorem d6_51 : decode method_4_code 51 = .ok (.ireturn, 1) := by decide +kernel
theorem d6_52 : decode method_4_code 52 = .ok (.iload_n 0, 1) := by decide +kernel
theorem d6_53 : decode method_4_code 53 = .ok (.iconst 4, 1) := by decide +kernel
theorem d6_54 : decode method_4_code 54 = .ok (.if_icmp .le 12, 3) := by decide +kernel
theorem d6_57 : decode method_4_code 57 = .ok (.iload 5, 2) := by decide +kernel
theorem d6_59 : decode method_4_code 59 = .ok (.bipush 45, 2) := by decide +kernel
theorem d6_61 : decode method_4_code 61 = .ok (.if_icmp .ne 5, 3) := by decide +kernel
theorem d6_64 : decode method_4_code 64 = .ok (.iconst 4, 1) := by decide +kernel
theorem d6_65 : decode method_4_code 65 = .ok (.ireturn, 1) := by decide +kernel
theorem d6_66 : decode method_4_code 66 = .ok (.iload_n 0, 1) := by decide +kernel
theorem d6_67 : decode method_4_code 67 = .ok (.ireturn, 1) := by decide +kernel
theorem pn_rm6 : plainName "com/example/facet_hierarchy_store/facethierarchystore/label/LanguageTagLanguagePinLaw" = true := by first | (simp [plainName, overriddenIn]; done) | decide +kernel
theorem ef_rm6 (m : MethodId) (p1 : Int32) (p2 : Int32) (p3 : Int32) (p4 : Int32) (p5 : Int32) (p6 : Int32) : entryFrame m #[(.int p1), (.int p2), (.int p3), (.int p4), (.int p5), (.int p6)] 6 = mkF m 0 #[.val (.int p1), .val (.int p2), .val (.int p3), .val (.int p4), .val (.int p5), .val (.int p6)] [] := by first | (simp [entryFrame, mkF, argsToLocals, Value.category]; done) | rfl
def Q6 (Z : State) (p1 : Int32) (p2 : Int32) (p3 : Int32) (p4 : Int32) (p5 : Int32) (p6 : Int32) (h0 : Heap) (n0 : Nat) (v : Option Value) (h : Heap) (L : List Loc) : Prop := v = some (.int (fdash p1 p2 p3 p4 p5 p6)) ∧ L = [] ∧ h = h0
set_option maxRecDepth 65536 in
set_option maxHeartbeats 40000000 in
theorem rm6 (l : Launch) (Z : State) (a0 : Array Value) (hw : ∀ d ∈ tables_1, d.before a0 Z = true) (ws : List Jvm.Cond) (p1 : Int32) (p2 : Int32) (p3 : Int32) (p4 : Int32) (p5 : Int32) (p6 : Int32) (h0 : Heap) (n0 : Nat) (Z0 : n0 ≤ h0.size) :
    Con l Z (⟨"com/example/facet_hierarchy_store/facethierarchystore/label/LanguageTagLanguagePinLaw", "firstDash", "(ICCCCC)I"⟩ : MethodName) method_4_code 6 (some .int) ws ({ frames := 0, cells := 0, slots := 0, locals := 0 } : Room) #[(.int p1), (.int p2), (.int p3), (.int p4), (.int p5), (.int p6)] h0 (Q6 Z p1 p2 p3 p4 p5 p6 h0 n0) := by
  refine Con.of (plainFor_of_name pn_rm6) ?_
  intro p e s m below meth c s₁ hZ e0 X0 hx hby hml hown hnm hret hlk
  replace hml : c.maxLocals = 6 := hml
  have hown : s.vm.findClass "com/example/facet_hierarchy_store/facethierarchystore/label/LanguageTagLanguagePinLaw" = some m.cls := hown
  have N0 : Fr n0 [] := Fr.nil n0
  obtain ⟨PP, hPP⟩ : ∃ P, P = Fine s below (Q6 Z p1 p2 p3 p4 p5 p6 h0 n0) ({ frames := 0, cells := 0, slots := 0, locals := 0 } : Room).cells ({ frames := 0, cells := 0, slots := 0, locals := 0 } : Room).slots := ⟨_, rfl⟩
  rw [← hPP]
  refine Go.cast (ef_rm6 m p1 p2 p3 p4 p5 p6) ?_
  have Zn : n0 ≤ h0.size := Z0
  show Go p.tables e below PP (s₁.setTop (mkF m 0 #[.val (.int p1), .val (.int p2), .val (.int p3), .val (.int p4), .val (.int p5), .val (.int p6)] []))
  refine Go.st (fun t k => XS.iloadN X0.here hx rfl (hb hby d6_0) rfl k) ?_
  show Go p.tables e below PP (s₁.setTop (mkF m 1 #[.val (.int p1), .val (.int p2), .val (.int p3), .val (.int p4), .val (.int p5), .val (.int p6)] [(.int p1)]))
  by_cases hc1 : (0 : Int32) < p1
  · --
    refine Go.st (fun t k => XS.ifNo X0.here hx rfl (hb hby d6_1) rfl (XT.i0_le_f hc1) k) ?_
    show Go p.tables e below PP (s₁.setTop (mkF m 4 #[.val (.int p1), .val (.int p2), .val (.int p3), .val (.int p4), .val (.int p5), .val (.int p6)] []))
    refine Go.st (fun t k => XS.iloadN X0.here hx rfl (hb hby d6_4) rfl k) ?_
    show Go p.tables e below PP (s₁.setTop (mkF m 5 #[.val (.int p1), .val (.int p2), .val (.int p3), .val (.int p4), .val (.int p5), .val (.int p6)] [(.int p2)]))
    refine Go.st (fun t k => XS.bipush X0.here hx rfl (hb hby d6_5) k) ?_
    show Go p.tables e below PP (s₁.setTop (mkF m 7 #[.val (.int p1), .val (.int p2), .val (.int p3), .val (.int p4), .val (.int p5), .val (.int p6)] [(.int (45 : Int32)), (.int p2)]))
    by_cases hc7 : p2 = (45 : Int32)
    · --
      refine Go.st (fun t k => XS.icmpNo X0.here hx rfl (hb hby d6_7) rfl (XT.ii_ne_f hc7) k) ?_
      show Go p.tables e below PP (s₁.setTop (mkF m 10 #[.val (.int p1), .val (.int p2), .val (.int p3), .val (.int p4), .val (.int p5), .val (.int p6)] []))
      refine Go.st (fun t k => XS.iconst X0.here hx rfl (hb hby d6_10) k) ?_
      show Go p.tables e below PP (s₁.setTop (mkF m 11 #[.val (.int p1), .val (.int p2), .val (.int p3), .val (.int p4), .val (.int p5), .val (.int p6)] [(.int (0 : Int32))]))
      rw [hPP]
      refine endI X0 hx hlk hret (hb hby d6_11) ?_ (by decide) (by decide)
      show Q6 Z p1 p2 p3 p4 p5 p6 h0 n0 (some (.int (0 : Int32))) s₁.heap _
      rw [e0]
      exact ⟨by simp [fdash, hc1, hc7], rfl, rfl⟩
    · --
      refine Go.st (fun t k => XS.icmpYes X0.here hx rfl (pc0 := 7) (pc' := 12) rfl (hb hby d6_7) rfl (XT.ii_ne_t hc7) (by decide) (by decide) k) ?_
      show Go p.tables e below PP (s₁.setTop (mkF m 12 #[.val (.int p1), .val (.int p2), .val (.int p3), .val (.int p4), .val (.int p5), .val (.int p6)] []))
      refine Go.st (fun t k => XS.iloadN X0.here hx rfl (hb hby d6_12) rfl k) ?_
      show Go p.tables e below PP (s₁.setTop (mkF m 13 #[.val (.int p1), .val (.int p2), .val (.int p3), .val (.int p4), .val (.int p5), .val (.int p6)] [(.int p1)]))
      refine Go.st (fun t k => XS.iconst X0.here hx rfl (hb hby d6_13) k) ?_
      show Go p.tables e below PP (s₁.setTop (mkF m 14 #[.val (.int p1), .val (.int p2), .val (.int p3), .val (.int p4), .val (.int p5), .val (.int p6)] [(.int (1 : Int32)), (.int p1)]))
      by_cases hc14 : (1 : Int32) < p1
      · --
        refine Go.st (fun t k => XS.icmpNo X0.here hx rfl (hb hby d6_14) rfl (XT.ii_le_f hc14) k) ?_
        show Go p.tables e below PP (s₁.setTop (mkF m 17 #[.val (.int p1), .val (.int p2), .val (.int p3), .val (.int p4), .val (.int p5), .val (.int p6)] []))
        refine Go.st (fun t k => XS.iloadN X0.here hx rfl (hb hby d6_17) rfl k) ?_
        show Go p.tables e below PP (s₁.setTop (mkF m 18 #[.val (.int p1), .val (.int p2), .val (.int p3), .val (.int p4), .val (.int p5), .val (.int p6)] [(.int p3)]))
        refine Go.st (fun t k => XS.bipush X0.here hx rfl (hb hby d6_18) k) ?_
        show Go p.tables e below PP (s₁.setTop (mkF m 20 #[.val (.int p1), .val (.int p2), .val (.int p3), .val (.int p4), .val (.int p5), .val (.int p6)] [(.int (45 : Int32)), (.int p3)]))
        by_cases hc20 : p3 = (45 : Int32)
        · --
          refine Go.st (fun t k => XS.icmpNo X0.here hx rfl (hb hby d6_20) rfl (XT.ii_ne_f hc20) k) ?_
          show Go p.tables e below PP (s₁.setTop (mkF m 23 #[.val (.int p1), .val (.int p2), .val (.int p3), .val (.int p4), .val (.int p5), .val (.int p6)] []))
          refine Go.st (fun t k => XS.iconst X0.here hx rfl (hb hby d6_23) k) ?_
          show Go p.tables e below PP (s₁.setTop (mkF m 24 #[.val (.int p1), .val (.int p2), .val (.int p3), .val (.int p4), .val (.int p5), .val (.int p6)] [(.int (1 : Int32))]))
          rw [hPP]
          refine endI X0 hx hlk hret (hb hby d6_24) ?_ (by decide) (by decide)
          show Q6 Z p1 p2 p3 p4 p5 p6 h0 n0 (some (.int (1 : Int32))) s₁.heap _
          rw [e0]
          exact ⟨by simp [fdash, hc1, hc7, hc14, hc20], rfl, rfl⟩
        · --
          refine Go.st (fun t k => XS.icmpYes X0.here hx rfl (pc0 := 20) (pc' := 25) rfl (hb hby d6_20) rfl (XT.ii_ne_t hc20) (by decide) (by decide) k) ?_
          show Go p.tables e below PP (s₁.setTop (mkF m 25 #[.val (.int p1), .val (.int p2), .val (.int p3), .val (.int p4), .val (.int p5), .val (.int p6)] []))
          refine Go.st (fun t k => XS.iloadN X0.here hx rfl (hb hby d6_25) rfl k) ?_
          show Go p.tables e below PP (s₁.setTop (mkF m 26 #[.val (.int p1), .val (.int p2), .val (.int p3), .val (.int p4), .val (.int p5), .val (.int p6)] [(.int p1)]))
          refine Go.st (fun t k => XS.iconst X0.here hx rfl (hb hby d6_26) k) ?_
          show Go p.tables e below PP (s₁.setTop (mkF m 27 #[.val (.int p1), .val (.int p2), .val (.int p3), .val (.int p4), .val (.int p5), .val (.int p6)] [(.int (2 : Int32)), (.int p1)]))
          by_cases hc27 : (2 : Int32) < p1
          · --
            refine Go.st (fun t k => XS.icmpNo X0.here hx rfl (hb hby d6_27) rfl (XT.ii_le_f hc27) k) ?_
            show Go p.tables e below PP (s₁.setTop (mkF m 30 #[.val (.int p1), .val (.int p2), .val (.int p3), .val (.int p4), .val (.int p5), .val (.int p6)] []))
            refine Go.st (fun t k => XS.iloadN X0.here hx rfl (hb hby d6_30) rfl k) ?_
            show Go p.tables e below PP (s₁.setTop (mkF m 31 #[.val (.int p1), .val (.int p2), .val (.int p3), .val (.int p4), .val (.int p5), .val (.int p6)] [(.int p4)]))
            refine Go.st (fun t k => XS.bipush X0.here hx rfl (hb hby d6_31) k) ?_
            show Go p.tables e below PP (s₁.setTop (mkF m 33 #[.val (.int p1), .val (.int p2), .val (.int p3), .val (.int p4), .val (.int p5), .val (.int p6)] [(.int (45 : Int32)), (.int p4)]))
            by_cases hc33 : p4 = (45 : Int32)
            · --
              refine Go.st (fun t k => XS.icmpNo X0.here hx rfl (hb hby d6_33) rfl (XT.ii_ne_f hc33) k) ?_
              show Go p.tables e below PP (s₁.setTop (mkF m 36 #[.val (.int p1), .val (.int p2), .val (.int p3), .val (.int p4), .val (.int p5), .val (.int p6)] []))
              refine Go.st (fun t k => XS.iconst X0.here hx rfl (hb hby d6_36) k) ?_
              show Go p.tables e below PP (s₁.setTop (mkF m 37 #[.val (.int p1), .val (.int p2), .val (.int p3), .val (.int p4), .val (.int p5), .val (.int p6)] [(.int (2 : Int32))]))
              rw [hPP]
              refine endI X0 hx hlk hret (hb hby d6_37) ?_ (by decide) (by decide)
              show Q6 Z p1 p2 p3 p4 p5 p6 h0 n0 (some (.int (2 : Int32))) s₁.heap _
              rw [e0]
              exact ⟨by simp [fdash, hc1, hc7, hc14, hc20, hc27, hc33], rfl, rfl⟩
            · --
              refine Go.st (fun t k => XS.icmpYes X0.here hx rfl (pc0 := 33) (pc' := 38) rfl (hb hby d6_33) rfl (XT.ii_ne_t hc33) (by decide) (by decide) k) ?_
              show Go p.tables e below PP (s₁.setTop (mkF m 38 #[.val (.int p1), .val (.int p2), .val (.int p3), .val (.int p4), .val (.int p5), .val (.int p6)] []))
              refine Go.st (fun t k => XS.iloadN X0.here hx rfl (hb hby d6_38) rfl k) ?_
              show Go p.tables e below PP (s₁.setTop (mkF m 39 #[.val (.int p1), .val (.int p2), .val (.int p3), .val (.int p4), .val (.int p5), .val (.int p6)] [(.int p1)]))
              refine Go.st (fun t k => XS.iconst X0.here hx rfl (hb hby d6_39) k) ?_
              show Go p.tables e below PP (s₁.setTop (mkF m 40 #[.val (.int p1), .val (.int p2), .val (.int p3), .val (.int p4), .val (.int p5), .val (.int p6)] [(.int (3 : Int32)), (.int p1)]))
              by_cases hc40 : (3 : Int32) < p1
              · --
                refine Go.st (fun t k => XS.icmpNo X0.here hx rfl (hb hby d6_40) rfl (XT.ii_le_f hc40) k) ?_
                show Go p.tables e below PP (s₁.setTop (mkF m 43 #[.val (.int p1), .val (.int p2), .val (.int p3), .val (.int p4), .val (.int p5), .val (.int p6)] []))
                refine Go.st (fun t k => XS.iload X0.here hx rfl (hb hby d6_43) rfl k) ?_
                show Go p.tables e below PP (s₁.setTop (mkF m 45 #[.val (.int p1), .val (.int p2), .val (.int p3), .val (.int p4), .val (.int p5), .val (.int p6)] [(.int p5)]))
                refine Go.st (fun t k => XS.bipush X0.here hx rfl (hb hby d6_45) k) ?_
                show Go p.tables e below PP (s₁.setTop (mkF m 47 #[.val (.int p1), .val (.int p2), .val (.int p3), .val (.int p4), .val (.int p5), .val (.int p6)] [(.int (45 : Int32)), (.int p5)]))
                by_cases hc47 : p5 = (45 : Int32)
                · --
                  refine Go.st (fun t k => XS.icmpNo X0.here hx rfl (hb hby d6_47) rfl (XT.ii_ne_f hc47) k) ?_
                  show Go p.tables e below PP (s₁.setTop (mkF m 50 #[.val (.int p1), .val (.int p2), .val (.int p3), .val (.int p4), .val (.int p5), .val (.int p6)] []))
                  refine Go.st (fun t k => XS.iconst X0.here hx rfl (hb hby d6_50) k) ?_
                  show Go p.tables e below PP (s₁.setTop (mkF m 51 #[.val (.int p1), .val (.int p2), .val (.int p3), .val (.int p4), .val (.int p5), .val (.int p6)] [(.int (3 : Int32))]))
                  rw [hPP]
                  refine endI X0 hx hlk hret (hb hby d6_51) ?_ (by decide) (by decide)
                  show Q6 Z p1 p2 p3 p4 p5 p6 h0 n0 (some (.int (3 : Int32))) s₁.heap _
                  rw [e0]
                  exact ⟨by simp [fdash, hc1, hc7, hc14, hc20, hc27, hc33, hc40, hc47], rfl, rfl⟩
                · --
                  refine Go.st (fun t k => XS.icmpYes X0.here hx rfl (pc0 := 47) (pc' := 52) rfl (hb hby d6_47) rfl (XT.ii_ne_t hc47) (by decide) (by decide) k) ?_
                  show Go p.tables e below PP (s₁.setTop (mkF m 52 #[.val (.int p1), .val (.int p2), .val (.int p3), .val (.int p4), .val (.int p5), .val (.int p6)] []))
                  refine Go.st (fun t k => XS.iloadN X0.here hx rfl (hb hby d6_52) rfl k) ?_
                  show Go p.tables e below PP (s₁.setTop (mkF m 53 #[.val (.int p1), .val (.int p2), .val (.int p3), .val (.int p4), .val (.int p5), .val (.int p6)] [(.int p1)]))
                  refine Go.st (fun t k => XS.iconst X0.here hx rfl (hb hby d6_53) k) ?_
                  show Go p.tables e below PP (s₁.setTop (mkF m 54 #[.val (.int p1), .val (.int p2), .val (.int p3), .val (.int p4), .val (.int p5), .val (.int p6)] [(.int (4 : Int32)), (.int p1)]))
                  by_cases hc54 : (4 : Int32) < p1
                  · --
                    refine Go.st (fun t k => XS.icmpNo X0.here hx rfl (hb hby d6_54) rfl (XT.ii_le_f hc54) k) ?_
                    show Go p.tables e below PP (s₁.setTop (mkF m 57 #[.val (.int p1), .val (.int p2), .val (.int p3), .val (.int p4), .val (.int p5), .val (.int p6)] []))
                    refine Go.st (fun t k => XS.iload X0.here hx rfl (hb hby d6_57) rfl k) ?_
                    show Go p.tables e below PP (s₁.setTop (mkF m 59 #[.val (.int p1), .val (.int p2), .val (.int p3), .val (.int p4), .val (.int p5), .val (.int p6)] [(.int p6)]))
                    refine Go.st (fun t k => XS.bipush X0.here hx rfl (hb hby d6_59) k) ?_
                    show Go p.tables e below PP (s₁.setTop (mkF m 61 #[.val (.int p1), .val (.int p2), .val (.int p3), .val (.int p4), .val (.int p5), .val (.int p6)] [(.int (45 : Int32)), (.int p6)]))
                    by_cases hc61 : p6 = (45 : Int32)
                    · --
                      refine Go.st (fun t k => XS.icmpNo X0.here hx rfl (hb hby d6_61) rfl (XT.ii_ne_f hc61) k) ?_
                      show Go p.tables e below PP (s₁.setTop (mkF m 64 #[.val (.int p1), .val (.int p2), .val (.int p3), .val (.int p4), .val (.int p5), .val (.int p6)] []))
                      refine Go.st (fun t k => XS.iconst X0.here hx rfl (hb hby d6_64) k) ?_
                      show Go p.tables e below PP (s₁.setTop (mkF m 65 #[.val (.int p1), .val (.int p2), .val (.int p3), .val (.int p4), .val (.int p5), .val (.int p6)] [(.int (4 : Int32))]))
                      rw [hPP]
                      refine endI X0 hx hlk hret (hb hby d6_65) ?_ (by decide) (by decide)
                      show Q6 Z p1 p2 p3 p4 p5 p6 h0 n0 (some (.int (4 : Int32))) s₁.heap _
                      rw [e0]
                      exact ⟨by simp [fdash, hc1, hc7, hc14, hc20, hc27, hc33, hc40, hc47, hc54, hc61], rfl, rfl⟩
                    · --
                      refine Go.st (fun t k => XS.icmpYes X0.here hx rfl (pc0 := 61) (pc' := 66) rfl (hb hby d6_61) rfl (XT.ii_ne_t hc61) (by decide) (by decide) k) ?_
                      show Go p.tables e below PP (s₁.setTop (mkF m 66 #[.val (.int p1), .val (.int p2), .val (.int p3), .val (.int p4), .val (.int p5), .val (.int p6)] []))
                      refine Go.st (fun t k => XS.iloadN X0.here hx rfl (hb hby d6_66) rfl k) ?_
                      show Go p.tables e below PP (s₁.setTop (mkF m 67 #[.val (.int p1), .val (.int p2), .val (.int p3), .val (.int p4), .val (.int p5), .val (.int p6)] [(.int p1)]))
                      rw [hPP]
                      refine endI X0 hx hlk hret (hb hby d6_67) ?_ (by decide) (by decide)
                      show Q6 Z p1 p2 p3 p4 p5 p6 h0 n0 (some (.int p1)) s₁.heap _
                      rw [e0]
                      exact ⟨by simp [fdash, hc1, hc7, hc14, hc20, hc27, hc33, hc40, hc47, hc54, hc61], rfl, rfl⟩
                  · --
                    refine Go.st (fun t k => XS.icmpYes X0.here hx rfl (pc0 := 54) (pc' := 66) rfl (hb hby d6_54) rfl (XT.ii_le_t hc54) (by decide) (by decide) k) ?_
                    show Go p.tables e below PP (s₁.setTop (mkF m 66 #[.val (.int p1), .val (.int p2), .val (.int p3), .val (.int p4), .val (.int p5), .val (.int p6)] []))
                    refine Go.st (fun t k => XS.iloadN X0.here hx rfl (hb hby d6_66) rfl k) ?_
                    show Go p.tables e below PP (s₁.setTop (mkF m 67 #[.val (.int p1), .val (.int p2), .val (.int p3), .val (.int p4), .val (.int p5), .val (.int p6)] [(.int p1)]))
                    rw [hPP]
                    refine endI X0 hx hlk hret (hb hby d6_67) ?_ (by decide) (by decide)
                    show Q6 Z p1 p2 p3 p4 p5 p6 h0 n0 (some (.int p1)) s₁.heap _
                    rw [e0]
                    exact ⟨by simp [fdash, hc1, hc7, hc14, hc20, hc27, hc33, hc40, hc47, hc54], rfl, rfl⟩
              · --
                refine Go.st (fun t k => XS.icmpYes X0.here hx rfl (pc0 := 40) (pc' := 52) rfl (hb hby d6_40) rfl (XT.ii_le_t hc40) (by decide) (by decide) k) ?_
                show Go p.tables e below PP (s₁.setTop (mkF m 52 #[.val (.int p1), .val (.int p2), .val (.int p3), .val (.int p4), .val (.int p5), .val (.int p6)] []))
                refine Go.st (fun t k => XS.iloadN X0.here hx rfl (hb hby d6_52) rfl k) ?_
                show Go p.tables e below PP (s₁.setTop (mkF m 53 #[.val (.int p1), .val (.int p2), .val (.int p3), .val (.int p4), .val (.int p5), .val (.int p6)] [(.int p1)]))
                refine Go.st (fun t k => XS.iconst X0.here hx rfl (hb hby d6_53) k) ?_
                show Go p.tables e below PP (s₁.setTop (mkF m 54 #[.val (.int p1), .val (.int p2), .val (.int p3), .val (.int p4), .val (.int p5), .val (.int p6)] [(.int (4 : Int32)), (.int p1)]))
                by_cases hc54 : (4 : Int32) < p1
                · --
                  refine Go.st (fun t k => XS.icmpNo X0.here hx rfl (hb hby d6_54) rfl (XT.ii_le_f hc54) k) ?_
                  show Go p.tables e below PP (s₁.setTop (mkF m 57 #[.val (.int p1), .val (.int p2), .val (.int p3), .val (.int p4), .val (.int p5), .val (.int p6)] []))
                  refine Go.st (fun t k => XS.iload X0.here hx rfl (hb hby d6_57) rfl k) ?_
                  show Go p.tables e below PP (s₁.setTop (mkF m 59 #[.val (.int p1), .val (.int p2), .val (.int p3), .val (.int p4), .val (.int p5), .val (.int p6)] [(.int p6)]))
                  refine Go.st (fun t k => XS.bipush X0.here hx rfl (hb hby d6_59) k) ?_
                  show Go p.tables e below PP (s₁.setTop (mkF m 61 #[.val (.int p1), .val (.int p2), .val (.int p3), .val (.int p4), .val (.int p5), .val (.int p6)] [(.int (45 : Int32)), (.int p6)]))
                  by_cases hc61 : p6 = (45 : Int32)
                  · --
                    refine Go.st (fun t k => XS.icmpNo X0.here hx rfl (hb hby d6_61) rfl (XT.ii_ne_f hc61) k) ?_
                    show Go p.tables e below PP (s₁.setTop (mkF m 64 #[.val (.int p1), .val (.int p2), .val (.int p3), .val (.int p4), .val (.int p5), .val (.int p6)] []))
                    refine Go.st (fun t k => XS.iconst X0.here hx rfl (hb hby d6_64) k) ?_
                    show Go p.tables e below PP (s₁.setTop (mkF m 65 #[.val (.int p1), .val (.int p2), .val (.int p3), .val (.int p4), .val (.int p5), .val (.int p6)] [(.int (4 : Int32))]))
                    rw [hPP]
                    refine endI X0 hx hlk hret (hb hby d6_65) ?_ (by decide) (by decide)
                    show Q6 Z p1 p2 p3 p4 p5 p6 h0 n0 (some (.int (4 : Int32))) s₁.heap _
                    rw [e0]
                    exact ⟨by simp [fdash, hc1, hc7, hc14, hc20, hc27, hc33, hc40, hc54, hc61], rfl, rfl⟩
                  · --
                    refine Go.st (fun t k => XS.icmpYes X0.here hx rfl (pc0 := 61) (pc' := 66) rfl (hb hby d6_61) rfl (XT.ii_ne_t hc61) (by decide) (by decide) k) ?_
                    show Go p.tables e below PP (s₁.setTop (mkF m 66 #[.val (.int p1), .val (.int p2), .val (.int p3), .val (.int p4), .val (.int p5), .val (.int p6)] []))
                    refine Go.st (fun t k => XS.iloadN X0.here hx rfl (hb hby d6_66) rfl k) ?_
                    show Go p.tables e below PP (s₁.setTop (mkF m 67 #[.val (.int p1), .val (.int p2), .val (.int p3), .val (.int p4), .val (.int p5), .val (.int p6)] [(.int p1)]))
                    rw [hPP]
                    refine endI X0 hx hlk hret (hb hby d6_67) ?_ (by decide) (by decide)
                    show Q6 Z p1 p2 p3 p4 p5 p6 h0 n0 (some (.int p1)) s₁.heap _
                    rw [e0]
                    exact ⟨by simp [fdash, hc1, hc7, hc14, hc20, hc27, hc33, hc40, hc54, hc61], rfl, rfl⟩
                · --
                  refine Go.st (fun t k => XS.icmpYes X0.here hx rfl (pc0 := 54) (pc' := 66) rfl (hb hby d6_54) rfl (XT.ii_le_t hc54) (by decide) (by decide) k) ?_
                  show Go p.tables e below PP (s₁.setTop (mkF m 66 #[.val (.int p1), .val (.int p2), .val (.int p3), .val (.int p4), .val (.int p5), .val (.int p6)] []))
                  refine Go.st (fun t k => XS.iloadN X0.here hx rfl (hb hby d6_66) rfl k) ?_
                  show Go p.tables e below PP (s₁.setTop (mkF m 67 #[.val (.int p1), .val (.int p2), .val (.int p3), .val (.int p4), .val (.int p5), .val (.int p6)] [(.int p1)]))
                  rw [hPP]
                  refine endI X0 hx hlk hret (hb hby d6_67) ?_ (by decide) (by decide)
                  show Q6 Z p1 p2 p3 p4 p5 p6 h0 n0 (some (.int p1)) s₁.heap _
                  rw [e0]
                  exact ⟨by simp [fdash, hc1, hc7, hc14, hc20, hc27, hc33, hc40, hc54], rfl, rfl⟩
          · --
            refine Go.st (fun t k => XS.icmpYes X0.here hx rfl (pc0 := 27) (pc' := 38) rfl (hb hby d6_27) rfl (XT.ii_le_t hc27) (by decide) (by decide) k) ?_
            show Go p.tables e below PP (s₁.setTop (mkF m 38 #[.val (.int p1), .val (.int p2), .val (.int p3), .val (.int p4), .val (.int p5), .val (.int p6)] []))
            refine Go.st (fun t k => XS.iloadN X0.here hx rfl (hb hby d6_38) rfl k) ?_
            show Go p.tables e below PP (s₁.setTop (mkF m 39 #[.val (.int p1), .val (.int p2), .val (.int p3), .val (.int p4), .val (.int p5), .val (.int p6)] [(.int p1)]))
            refine Go.st (fun t k => XS.iconst X0.here hx rfl (hb hby d6_39) k) ?_
            show Go p.tables e below PP (s₁.setTop (mkF m 40 #[.val (.int p1), .val (.int p2), .val (.int p3), .val (.int p4), .val (.int p5), .val (.int p6)] [(.int (3 : Int32)), (.int p1)]))
            by_cases hc40 : (3 : Int32) < p1
            · --
              refine Go.st (fun t k => XS.icmpNo X0.here hx rfl (hb hby d6_40) rfl (XT.ii_le_f hc40) k) ?_
              show Go p.tables e below PP (s₁.setTop (mkF m 43 #[.val (.int p1), .val (.int p2), .val (.int p3), .val (.int p4), .val (.int p5), .val (.int p6)] []))
              refine Go.st (fun t k => XS.iload X0.here hx rfl (hb hby d6_43) rfl k) ?_
              show Go p.tables e below PP (s₁.setTop (mkF m 45 #[.val (.int p1), .val (.int p2), .val (.int p3), .val (.int p4), .val (.int p5), .val (.int p6)] [(.int p5)]))
              refine Go.st (fun t k => XS.bipush X0.here hx rfl (hb hby d6_45) k) ?_
              show Go p.tables e below PP (s₁.setTop (mkF m 47 #[.val (.int p1), .val (.int p2), .val (.int p3), .val (.int p4), .val (.int p5), .val (.int p6)] [(.int (45 : Int32)), (.int p5)]))
              by_cases hc47 : p5 = (45 : Int32)
              · --
                refine Go.st (fun t k => XS.icmpNo X0.here hx rfl (hb hby d6_47) rfl (XT.ii_ne_f hc47) k) ?_
                show Go p.tables e below PP (s₁.setTop (mkF m 50 #[.val (.int p1), .val (.int p2), .val (.int p3), .val (.int p4), .val (.int p5), .val (.int p6)] []))
                refine Go.st (fun t k => XS.iconst X0.here hx rfl (hb hby d6_50) k) ?_
                show Go p.tables e below PP (s₁.setTop (mkF m 51 #[.val (.int p1), .val (.int p2), .val (.int p3), .val (.int p4), .val (.int p5), .val (.int p6)] [(.int (3 : Int32))]))
                rw [hPP]
                refine endI X0 hx hlk hret (hb hby d6_51) ?_ (by decide) (by decide)
                show Q6 Z p1 p2 p3 p4 p5 p6 h0 n0 (some (.int (3 : Int32))) s₁.heap _
                rw [e0]
                exact ⟨by simp [fdash, hc1, hc7, hc14, hc20, hc27, hc40, hc47], rfl, rfl⟩
              · --
                refine Go.st (fun t k => XS.icmpYes X0.here hx rfl (pc0 := 47) (pc' := 52) rfl (hb hby d6_47) rfl (XT.ii_ne_t hc47) (by decide) (by decide) k) ?_
                show Go p.tables e below PP (s₁.setTop (mkF m 52 #[.val (.int p1), .val (.int p2), .val (.int p3), .val (.int p4), .val (.int p5), .val (.int p6)] []))
                refine Go.st (fun t k => XS.iloadN X0.here hx rfl (hb hby d6_52) rfl k) ?_
                show Go p.tables e below PP (s₁.setTop (mkF m 53 #[.val (.int p1), .val (.int p2), .val (.int p3), .val (.int p4), .val (.int p5), .val (.int p6)] [(.int p1)]))
                refine Go.st (fun t k => XS.iconst X0.here hx rfl (hb hby d6_53) k) ?_
                show Go p.tables e below PP (s₁.setTop (mkF m 54 #[.val (.int p1), .val (.int p2), .val (.int p3), .val (.int p4), .val (.int p5), .val (.int p6)] [(.int (4 : Int32)), (.int p1)]))
                by_cases hc54 : (4 : Int32) < p1
                · --
                  refine Go.st (fun t k => XS.icmpNo X0.here hx rfl (hb hby d6_54) rfl (XT.ii_le_f hc54) k) ?_
                  show Go p.tables e below PP (s₁.setTop (mkF m 57 #[.val (.int p1), .val (.int p2), .val (.int p3), .val (.int p4), .val (.int p5), .val (.int p6)] []))
                  refine Go.st (fun t k => XS.iload X0.here hx rfl (hb hby d6_57) rfl k) ?_
                  show Go p.tables e below PP (s₁.setTop (mkF m 59 #[.val (.int p1), .val (.int p2), .val (.int p3), .val (.int p4), .val (.int p5), .val (.int p6)] [(.int p6)]))
                  refine Go.st (fun t k => XS.bipush X0.here hx rfl (hb hby d6_59) k) ?_
                  show Go p.tables e below PP (s₁.setTop (mkF m 61 #[.val (.int p1), .val (.int p2), .val (.int p3), .val (.int p4), .val (.int p5), .val (.int p6)] [(.int (45 : Int32)), (.int p6)]))
                  by_cases hc61 : p6 = (45 : Int32)
                  · --
                    refine Go.st (fun t k => XS.icmpNo X0.here hx rfl (hb hby d6_61) rfl (XT.ii_ne_f hc61) k) ?_
                    show Go p.tables e below PP (s₁.setTop (mkF m 64 #[.val (.int p1), .val (.int p2), .val (.int p3), .val (.int p4), .val (.int p5), .val (.int p6)] []))
                    refine Go.st (fun t k => XS.iconst X0.here hx rfl (hb hby d6_64) k) ?_
                    show Go p.tables e below PP (s₁.setTop (mkF m 65 #[.val (.int p1), .val (.int p2), .val (.int p3), .val (.int p4), .val (.int p5), .val (.int p6)] [(.int (4 : Int32))]))
                    rw [hPP]
                    refine endI X0 hx hlk hret (hb hby d6_65) ?_ (by decide) (by decide)
                    show Q6 Z p1 p2 p3 p4 p5 p6 h0 n0 (some (.int (4 : Int32))) s₁.heap _
                    rw [e0]
                    exact ⟨by simp [fdash, hc1, hc7, hc14, hc20, hc27, hc40, hc47, hc54, hc61], rfl, rfl⟩
                  · --
                    refine Go.st (fun t k => XS.icmpYes X0.here hx rfl (pc0 := 61) (pc' := 66) rfl (hb hby d6_61) rfl (XT.ii_ne_t hc61) (by decide) (by decide) k) ?_
                    show Go p.tables e below PP (s₁.setTop (mkF m 66 #[.val (.int p1), .val (.int p2), .val (.int p3), .val (.int p4), .val (.int p5), .val (.int p6)] []))
                    refine Go.st (fun t k => XS.iloadN X0.here hx rfl (hb hby d6_66) rfl k) ?_
                    show Go p.tables e below PP (s₁.setTop (mkF m 67 #[.val (.int p1), .val (.int p2), .val (.int p3), .val (.int p4), .val (.int p5), .val (.int p6)] [(.int p1)]))
                    rw [hPP]
                    refine endI X0 hx hlk hret (hb hby d6_67) ?_ (by decide) (by decide)
                    show Q6 Z p1 p2 p3 p4 p5 p6 h0 n0 (some (.int p1)) s₁.heap _
                    rw [e0]
                    exact ⟨by simp [fdash, hc1, hc7, hc14, hc20, hc27, hc40, hc47, hc54, hc61], rfl, rfl⟩
                · --
                  refine Go.st (fun t k => XS.icmpYes X0.here hx rfl (pc0 := 54) (pc' := 66) rfl (hb hby d6_54) rfl (XT.ii_le_t hc54) (by decide) (by decide) k) ?_
                  show Go p.tables e below PP (s₁.setTop (mkF m 66 #[.val (.int p1), .val (.int p2), .val (.int p3), .val (.int p4), .val (.int p5), .val (.int p6)] []))
                  refine Go.st (fun t k => XS.iloadN X0.here hx rfl (hb hby d6_66) rfl k) ?_
                  show Go p.tables e below PP (s₁.setTop (mkF m 67 #[.val (.int p1), .val (.int p2), .val (.int p3), .val (.int p4), .val (.int p5), .val (.int p6)] [(.int p1)]))
                  rw [hPP]
                  refine endI X0 hx hlk hret (hb hby d6_67) ?_ (by decide) (by decide)
                  show Q6 Z p1 p2 p3 p4 p5 p6 h0 n0 (some (.int p1)) s₁.heap _
                  rw [e0]
                  exact ⟨by simp [fdash, hc1, hc7, hc14, hc20, hc27, hc40, hc47, hc54], rfl, rfl⟩
            · --
              refine Go.st (fun t k => XS.icmpYes X0.here hx rfl (pc0 := 40) (pc' := 52) rfl (hb hby d6_40) rfl (XT.ii_le_t hc40) (by decide) (by decide) k) ?_
              show Go p.tables e below PP (s₁.setTop (mkF m 52 #[.val (.int p1), .val (.int p2), .val (.int p3), .val (.int p4), .val (.int p5), .val (.int p6)] []))
              refine Go.st (fun t k => XS.iloadN X0.here hx rfl (hb hby d6_52) rfl k) ?_
              show Go p.tables e below PP (s₁.setTop (mkF m 53 #[.val (.int p1), .val (.int p2), .val (.int p3), .val (.int p4), .val (.int p5), .val (.int p6)] [(.int p1)]))
              refine Go.st (fun t k => XS.iconst X0.here hx rfl (hb hby d6_53) k) ?_
              show Go p.tables e below PP (s₁.setTop (mkF m 54 #[.val (.int p1), .val (.int p2), .val (.int p3), .val (.int p4), .val (.int p5), .val (.int p6)] [(.int (4 : Int32)), (.int p1)]))
              by_cases hc54 : (4 : Int32) < p1
              · --
                refine Go.st (fun t k => XS.icmpNo X0.here hx rfl (hb hby d6_54) rfl (XT.ii_le_f hc54) k) ?_
                show Go p.tables e below PP (s₁.setTop (mkF m 57 #[.val (.int p1), .val (.int p2), .val (.int p3), .val (.int p4), .val (.int p5), .val (.int p6)] []))
                refine Go.st (fun t k => XS.iload X0.here hx rfl (hb hby d6_57) rfl k) ?_
                show Go p.tables e below PP (s₁.setTop (mkF m 59 #[.val (.int p1), .val (.int p2), .val (.int p3), .val (.int p4), .val (.int p5), .val (.int p6)] [(.int p6)]))
                refine Go.st (fun t k => XS.bipush X0.here hx rfl (hb hby d6_59) k) ?_
                show Go p.tables e below PP (s₁.setTop (mkF m 61 #[.val (.int p1), .val (.int p2), .val (.int p3), .val (.int p4), .val (.int p5), .val (.int p6)] [(.int (45 : Int32)), (.int p6)]))
                by_cases hc61 : p6 = (45 : Int32)
                · --
                  refine Go.st (fun t k => XS.icmpNo X0.here hx rfl (hb hby d6_61) rfl (XT.ii_ne_f hc61) k) ?_
                  show Go p.tables e below PP (s₁.setTop (mkF m 64 #[.val (.int p1), .val (.int p2), .val (.int p3), .val (.int p4), .val (.int p5), .val (.int p6)] []))
                  refine Go.st (fun t k => XS.iconst X0.here hx rfl (hb hby d6_64) k) ?_
                  show Go p.tables e below PP (s₁.setTop (mkF m 65 #[.val (.int p1), .val (.int p2), .val (.int p3), .val (.int p4), .val (.int p5), .val (.int p6)] [(.int (4 : Int32))]))
                  rw [hPP]
                  refine endI X0 hx hlk hret (hb hby d6_65) ?_ (by decide) (by decide)
                  show Q6 Z p1 p2 p3 p4 p5 p6 h0 n0 (some (.int (4 : Int32))) s₁.heap _
                  rw [e0]
                  exact ⟨by simp [fdash, hc1, hc7, hc14, hc20, hc27, hc40, hc54, hc61], rfl, rfl⟩
                · --
                  refine Go.st (fun t k => XS.icmpYes X0.here hx rfl (pc0 := 61) (pc' := 66) rfl (hb hby d6_61) rfl (XT.ii_ne_t hc61) (by decide) (by decide) k) ?_
                  show Go p.tables e below PP (s₁.setTop (mkF m 66 #[.val (.int p1), .val (.int p2), .val (.int p3), .val (.int p4), .val (.int p5), .val (.int p6)] []))
                  refine Go.st (fun t k => XS.iloadN X0.here hx rfl (hb hby d6_66) rfl k) ?_
                  show Go p.tables e below PP (s₁.setTop (mkF m 67 #[.val (.int p1), .val (.int p2), .val (.int p3), .val (.int p4), .val (.int p5), .val (.int p6)] [(.int p1)]))
                  rw [hPP]
                  refine endI X0 hx hlk hret (hb hby d6_67) ?_ (by decide) (by decide)
                  show Q6 Z p1 p2 p3 p4 p5 p6 h0 n0 (some (.int p1)) s₁.heap _
                  rw [e0]
                  exact ⟨by simp [fdash, hc1, hc7, hc14, hc20, hc27, hc40, hc54, hc61], rfl, rfl⟩
              · --
                refine Go.st (fun t k => XS.icmpYes X0.here hx rfl (pc0 := 54) (pc' := 66) rfl (hb hby d6_54) rfl (XT.ii_le_t hc54) (by decide) (by decide) k) ?_
                show Go p.tables e below PP (s₁.setTop (mkF m 66 #[.val (.int p1), .val (.int p2), .val (.int p3), .val (.int p4), .val (.int p5), .val (.int p6)] []))
                refine Go.st (fun t k => XS.iloadN X0.here hx rfl (hb hby d6_66) rfl k) ?_
                show Go p.tables e below PP (s₁.setTop (mkF m 67 #[.val (.int p1), .val (.int p2), .val (.int p3), .val (.int p4), .val (.int p5), .val (.int p6)] [(.int p1)]))
                rw [hPP]
                refine endI X0 hx hlk hret (hb hby d6_67) ?_ (by decide) (by decide)
                show Q6 Z p1 p2 p3 p4 p5 p6 h0 n0 (some (.int p1)) s₁.heap _
                rw [e0]
                exact ⟨by simp [fdash, hc1, hc7, hc14, hc20, hc27, hc40, hc54], rfl, rfl⟩
      · --
        refine Go.st (fun t k => XS.icmpYes X0.here hx rfl (pc0 := 14) (pc' := 25) rfl (hb hby d6_14) rfl (XT.ii_le_t hc14) (by decide) (by decide) k) ?_
        show Go p.tables e below PP (s₁.setTop (mkF m 25 #[.val (.int p1), .val (.int p2), .val (.int p3), .val (.int p4), .val (.int p5), .val (.int p6)] []))
        refine Go.st (fun t k => XS.iloadN X0.here hx rfl (hb hby d6_25) rfl k) ?_
        show Go p.tables e below PP (s₁.setTop (mkF m 26 #[.val (.int p1), .val (.int p2), .val (.int p3), .val (.int p4), .val (.int p5), .val (.int p6)] [(.int p1)]))
        refine Go.st (fun t k => XS.iconst X0.here hx rfl (hb hby d6_26) k) ?_
        show Go p.tables e below PP (s₁.setTop (mkF m 27 #[.val (.int p1), .val (.int p2), .val (.int p3), .val (.int p4), .val (.int p5), .val (.int p6)] [(.int (2 : Int32)), (.int p1)]))
        by_cases hc27 : (2 : Int32) < p1
        · --
          refine Go.st (fun t k => XS.icmpNo X0.here hx rfl (hb hby d6_27) rfl (XT.ii_le_f hc27) k) ?_
          show Go p.tables e below PP (s₁.setTop (mkF m 30 #[.val (.int p1), .val (.int p2), .val (.int p3), .val (.int p4), .val (.int p5), .val (.int p6)] []))
          refine Go.st (fun t k => XS.iloadN X0.here hx rfl (hb hby d6_30) rfl k) ?_
          show Go p.tables e below PP (s₁.setTop (mkF m 31 #[.val (.int p1), .val (.int p2), .val (.int p3), .val (.int p4), .val (.int p5), .val (.int p6)] [(.int p4)]))
          refine Go.st (fun t k => XS.bipush X0.here hx rfl (hb hby d6_31) k) ?_
          show Go p.tables e below PP (s₁.setTop (mkF m 33 #[.val (.int p1), .val (.int p2), .val (.int p3), .val (.int p4), .val (.int p5), .val (.int p6)] [(.int (45 : Int32)), (.int p4)]))
          by_cases hc33 : p4 = (45 : Int32)
          · --
            refine Go.st (fun t k => XS.icmpNo X0.here hx rfl (hb hby d6_33) rfl (XT.ii_ne_f hc33) k) ?_
            show Go p.tables e below PP (s₁.setTop (mkF m 36 #[.val (.int p1), .val (.int p2), .val (.int p3), .val (.int p4), .val (.int p5), .val (.int p6)] []))
            refine Go.st (fun t k => XS.iconst X0.here hx rfl (hb hby d6_36) k) ?_
            show Go p.tables e below PP (s₁.setTop (mkF m 37 #[.val (.int p1), .val (.int p2), .val (.int p3), .val (.int p4), .val (.int p5), .val (.int p6)] [(.int (2 : Int32))]))
            rw [hPP]
            refine endI X0 hx hlk hret (hb hby d6_37) ?_ (by decide) (by decide)
            show Q6 Z p1 p2 p3 p4 p5 p6 h0 n0 (some (.int (2 : Int32))) s₁.heap _
            rw [e0]
            exact ⟨by simp [fdash, hc1, hc7, hc14, hc27, hc33], rfl, rfl⟩
          · --
            refine Go.st (fun t k => XS.icmpYes X0.here hx rfl (pc0 := 33) (pc' := 38) rfl (hb hby d6_33) rfl (XT.ii_ne_t hc33) (by decide) (by decide) k) ?_
            show Go p.tables e below PP (s₁.setTop (mkF m 38 #[.val (.int p1), .val (.int p2), .val (.int p3), .val (.int p4), .val (.int p5), .val (.int p6)] []))
            refine Go.st (fun t k => XS.iloadN X0.here hx rfl (hb hby d6_38) rfl k) ?_
            show Go p.tables e below PP (s₁.setTop (mkF m 39 #[.val (.int p1), .val (.int p2), .val (.int p3), .val (.int p4), .val (.int p5), .val (.int p6)] [(.int p1)]))
            refine Go.st (fun t k => XS.iconst X0.here hx rfl (hb hby d6_39) k) ?_
            show Go p.tables e below PP (s₁.setTop (mkF m 40 #[.val (.int p1), .val (.int p2), .val (.int p3), .val (.int p4), .val (.int p5), .val (.int p6)] [(.int (3 : Int32)), (.int p1)]))
            by_cases hc40 : (3 : Int32) < p1
            · --
              refine Go.st (fun t k => XS.icmpNo X0.here hx rfl (hb hby d6_40) rfl (XT.ii_le_f hc40) k) ?_
              show Go p.tables e below PP (s₁.setTop (mkF m 43 #[.val (.int p1), .val (.int p2), .val (.int p3), .val (.int p4), .val (.int p5), .val (.int p6)] []))
              refine Go.st (fun t k => XS.iload X0.here hx rfl (hb hby d6_43) rfl k) ?_
              show Go p.tables e below PP (s₁.setTop (mkF m 45 #[.val (.int p1), .val (.int p2), .val (.int p3), .val (.int p4), .val (.int p5), .val (.int p6)] [(.int p5)]))
              refine Go.st (fun t k => XS.bipush X0.here hx rfl (hb hby d6_45) k) ?_
              show Go p.tables e below PP (s₁.setTop (mkF m 47 #[.val (.int p1), .val (.int p2), .val (.int p3), .val (.int p4), .val (.int p5), .val (.int p6)] [(.int (45 : Int32)), (.int p5)]))
              by_cases hc47 : p5 = (45 : Int32)
              · --
                refine Go.st (fun t k => XS.icmpNo X0.here hx rfl (hb hby d6_47) rfl (XT.ii_ne_f hc47) k) ?_
                show Go p.tables e below PP (s₁.setTop (mkF m 50 #[.val (.int p1), .val (.int p2), .val (.int p3), .val (.int p4), .val (.int p5), .val (.int p6)] []))
                refine Go.st (fun t k => XS.iconst X0.here hx rfl (hb hby d6_50) k) ?_
                show Go p.tables e below PP (s₁.setTop (mkF m 51 #[.val (.int p1), .val (.int p2), .val (.int p3), .val (.int p4), .val (.int p5), .val (.int p6)] [(.int (3 : Int32))]))
                rw [hPP]
                refine endI X0 hx hlk hret (hb hby d6_51) ?_ (by decide) (by decide)
                show Q6 Z p1 p2 p3 p4 p5 p6 h0 n0 (some (.int (3 : Int32))) s₁.heap _
                rw [e0]
                exact ⟨by simp [fdash, hc1, hc7, hc14, hc27, hc33, hc40, hc47], rfl, rfl⟩
              · --
                refine Go.st (fun t k => XS.icmpYes X0.here hx rfl (pc0 := 47) (pc' := 52) rfl (hb hby d6_47) rfl (XT.ii_ne_t hc47) (by decide) (by decide) k) ?_
                show Go p.tables e below PP (s₁.setTop (mkF m 52 #[.val (.int p1), .val (.int p2), .val (.int p3), .val (.int p4), .val (.int p5), .val (.int p6)] []))
                refine Go.st (fun t k => XS.iloadN X0.here hx rfl (hb hby d6_52) rfl k) ?_
                show Go p.tables e below PP (s₁.setTop (mkF m 53 #[.val (.int p1), .val (.int p2), .val (.int p3), .val (.int p4), .val (.int p5), .val (.int p6)] [(.int p1)]))
                refine Go.st (fun t k => XS.iconst X0.here hx rfl (hb hby d6_53) k) ?_
                show Go p.tables e below PP (s₁.setTop (mkF m 54 #[.val (.int p1), .val (.int p2), .val (.int p3), .val (.int p4), .val (.int p5), .val (.int p6)] [(.int (4 : Int32)), (.int p1)]))
                by_cases hc54 : (4 : Int32) < p1
                · --
                  refine Go.st (fun t k => XS.icmpNo X0.here hx rfl (hb hby d6_54) rfl (XT.ii_le_f hc54) k) ?_
                  show Go p.tables e below PP (s₁.setTop (mkF m 57 #[.val (.int p1), .val (.int p2), .val (.int p3), .val (.int p4), .val (.int p5), .val (.int p6)] []))
                  refine Go.st (fun t k => XS.iload X0.here hx rfl (hb hby d6_57) rfl k) ?_
                  show Go p.tables e below PP (s₁.setTop (mkF m 59 #[.val (.int p1), .val (.int p2), .val (.int p3), .val (.int p4), .val (.int p5), .val (.int p6)] [(.int p6)]))
                  refine Go.st (fun t k => XS.bipush X0.here hx rfl (hb hby d6_59) k) ?_
                  show Go p.tables e below PP (s₁.setTop (mkF m 61 #[.val (.int p1), .val (.int p2), .val (.int p3), .val (.int p4), .val (.int p5), .val (.int p6)] [(.int (45 : Int32)), (.int p6)]))
                  by_cases hc61 : p6 = (45 : Int32)
                  · --
                    refine Go.st (fun t k => XS.icmpNo X0.here hx rfl (hb hby d6_61) rfl (XT.ii_ne_f hc61) k) ?_
                    show Go p.tables e below PP (s₁.setTop (mkF m 64 #[.val (.int p1), .val (.int p2), .val (.int p3), .val (.int p4), .val (.int p5), .val (.int p6)] []))
                    refine Go.st (fun t k => XS.iconst X0.here hx rfl (hb hby d6_64) k) ?_
                    show Go p.tables e below PP (s₁.setTop (mkF m 65 #[.val (.int p1), .val (.int p2), .val (.int p3), .val (.int p4), .val (.int p5), .val (.int p6)] [(.int (4 : Int32))]))
                    rw [hPP]
                    refine endI X0 hx hlk hret (hb hby d6_65) ?_ (by decide) (by decide)
                    show Q6 Z p1 p2 p3 p4 p5 p6 h0 n0 (some (.int (4 : Int32))) s₁.heap _
                    rw [e0]
                    exact ⟨by simp [fdash, hc1, hc7, hc14, hc27, hc33, hc40, hc47, hc54, hc61], rfl, rfl⟩
                  · --
                    refine Go.st (fun t k => XS.icmpYes X0.here hx rfl (pc0 := 61) (pc' := 66) rfl (hb hby d6_61) rfl (XT.ii_ne_t hc61) (by decide) (by decide) k) ?_
                    show Go p.tables e below PP (s₁.setTop (mkF m 66 #[.val (.int p1), .val (.int p2), .val (.int p3), .val (.int p4), .val (.int p5), .val (.int p6)] []))
                    refine Go.st (fun t k => XS.iloadN X0.here hx rfl (hb hby d6_66) rfl k) ?_
                    show Go p.tables e below PP (s₁.setTop (mkF m 67 #[.val (.int p1), .val (.int p2), .val (.int p3), .val (.int p4), .val (.int p5), .val (.int p6)] [(.int p1)]))
                    rw [hPP]
                    refine endI X0 hx hlk hret (hb hby d6_67) ?_ (by decide) (by decide)
                    show Q6 Z p1 p2 p3 p4 p5 p6 h0 n0 (some (.int p1)) s₁.heap _
                    rw [e0]
                    exact ⟨by simp [fdash, hc1, hc7, hc14, hc27, hc33, hc40, hc47, hc54, hc61], rfl, rfl⟩
                · --
                  refine Go.st (fun t k => XS.icmpYes X0.here hx rfl (pc0 := 54) (pc' := 66) rfl (hb hby d6_54) rfl (XT.ii_le_t hc54) (by decide) (by decide) k) ?_
                  show Go p.tables e below PP (s₁.setTop (mkF m 66 #[.val (.int p1), .val (.int p2), .val (.int p3), .val (.int p4), .val (.int p5), .val (.int p6)] []))
                  refine Go.st (fun t k => XS.iloadN X0.here hx rfl (hb hby d6_66) rfl k) ?_
                  show Go p.tables e below PP (s₁.setTop (mkF m 67 #[.val (.int p1), .val (.int p2), .val (.int p3), .val (.int p4), .val (.int p5), .val (.int p6)] [(.int p1)]))
                  rw [hPP]
                  refine endI X0 hx hlk hret (hb hby d6_67) ?_ (by decide) (by decide)
                  show Q6 Z p1 p2 p3 p4 p5 p6 h0 n0 (some (.int p1)) s₁.heap _
                  rw [e0]
                  exact ⟨by simp [fdash, hc1, hc7, hc14, hc27, hc33, hc40, hc47, hc54], rfl, rfl⟩
            · --
              refine Go.st (fun t k => XS.icmpYes X0.here hx rfl (pc0 := 40) (pc' := 52) rfl (hb hby d6_40) rfl (XT.ii_le_t hc40) (by decide) (by decide) k) ?_
              show Go p.tables e below PP (s₁.setTop (mkF m 52 #[.val (.int p1), .val (.int p2), .val (.int p3), .val (.int p4), .val (.int p5), .val (.int p6)] []))
              refine Go.st (fun t k => XS.iloadN X0.here hx rfl (hb hby d6_52) rfl k) ?_
              show Go p.tables e below PP (s₁.setTop (mkF m 53 #[.val (.int p1), .val (.int p2), .val (.int p3), .val (.int p4), .val (.int p5), .val (.int p6)] [(.int p1)]))
              refine Go.st (fun t k => XS.iconst X0.here hx rfl (hb hby d6_53) k) ?_
              show Go p.tables e below PP (s₁.setTop (mkF m 54 #[.val (.int p1), .val (.int p2), .val (.int p3), .val (.int p4), .val (.int p5), .val (.int p6)] [(.int (4 : Int32)), (.int p1)]))
              by_cases hc54 : (4 : Int32) < p1
              · --
                refine Go.st (fun t k => XS.icmpNo X0.here hx rfl (hb hby d6_54) rfl (XT.ii_le_f hc54) k) ?_
                show Go p.tables e below PP (s₁.setTop (mkF m 57 #[.val (.int p1), .val (.int p2), .val (.int p3), .val (.int p4), .val (.int p5), .val (.int p6)] []))
                refine Go.st (fun t k => XS.iload X0.here hx rfl (hb hby d6_57) rfl k) ?_
                show Go p.tables e below PP (s₁.setTop (mkF m 59 #[.val (.int p1), .val (.int p2), .val (.int p3), .val (.int p4), .val (.int p5), .val (.int p6)] [(.int p6)]))
                refine Go.st (fun t k => XS.bipush X0.here hx rfl (hb hby d6_59) k) ?_
                show Go p.tables e below PP (s₁.setTop (mkF m 61 #[.val (.int p1), .val (.int p2), .val (.int p3), .val (.int p4), .val (.int p5), .val (.int p6)] [(.int (45 : Int32)), (.int p6)]))
                by_cases hc61 : p6 = (45 : Int32)
                · --
                  refine Go.st (fun t k => XS.icmpNo X0.here hx rfl (hb hby d6_61) rfl (XT.ii_ne_f hc61) k) ?_
                  show Go p.tables e below PP (s₁.setTop (mkF m 64 #[.val (.int p1), .val (.int p2), .val (.int p3), .val (.int p4), .val (.int p5), .val (.int p6)] []))
                  refine Go.st (fun t k => XS.iconst X0.here hx rfl (hb hby d6_64) k) ?_
                  show Go p.tables e below PP (s₁.setTop (mkF m 65 #[.val (.int p1), .val (.int p2), .val (.int p3), .val (.int p4), .val (.int p5), .val (.int p6)] [(.int (4 : Int32))]))
                  rw [hPP]
                  refine endI X0 hx hlk hret (hb hby d6_65) ?_ (by decide) (by decide)
                  show Q6 Z p1 p2 p3 p4 p5 p6 h0 n0 (some (.int (4 : Int32))) s₁.heap _
                  rw [e0]
                  exact ⟨by simp [fdash, hc1, hc7, hc14, hc27, hc33, hc40, hc54, hc61], rfl, rfl⟩
                · --
                  refine Go.st (fun t k => XS.icmpYes X0.here hx rfl (pc0 := 61) (pc' := 66) rfl (hb hby d6_61) rfl (XT.ii_ne_t hc61) (by decide) (by decide) k) ?_
                  show Go p.tables e below PP (s₁.setTop (mkF m 66 #[.val (.int p1), .val (.int p2), .val (.int p3), .val (.int p4), .val (.int p5), .val (.int p6)] []))
                  refine Go.st (fun t k => XS.iloadN X0.here hx rfl (hb hby d6_66) rfl k) ?_
                  show Go p.tables e below PP (s₁.setTop (mkF m 67 #[.val (.int p1), .val (.int p2), .val (.int p3), .val (.int p4), .val (.int p5), .val (.int p6)] [(.int p1)]))
                  rw [hPP]
                  refine endI X0 hx hlk hret (hb hby d6_67) ?_ (by decide) (by decide)
                  show Q6 Z p1 p2 p3 p4 p5 p6 h0 n0 (some (.int p1)) s₁.heap _
                  rw [e0]
                  exact ⟨by simp [fdash, hc1, hc7, hc14, hc27, hc33, hc40, hc54, hc61], rfl, rfl⟩
              · --
                refine Go.st (fun t k => XS.icmpYes X0.here hx rfl (pc0 := 54) (pc' := 66) rfl (hb hby d6_54) rfl (XT.ii_le_t hc54) (by decide) (by decide) k) ?_
                show Go p.tables e below PP (s₁.setTop (mkF m 66 #[.val (.int p1), .val (.int p2), .val (.int p3), .val (.int p4), .val (.int p5), .val (.int p6)] []))
                refine Go.st (fun t k => XS.iloadN X0.here hx rfl (hb hby d6_66) rfl k) ?_
                show Go p.tables e below PP (s₁.setTop (mkF m 67 #[.val (.int p1), .val (.int p2), .val (.int p3), .val (.int p4), .val (.int p5), .val (.int p6)] [(.int p1)]))
                rw [hPP]
                refine endI X0 hx hlk hret (hb hby d6_67) ?_ (by decide) (by decide)
                show Q6 Z p1 p2 p3 p4 p5 p6 h0 n0 (some (.int p1)) s₁.heap _
                rw [e0]
                exact ⟨by simp [fdash, hc1, hc7, hc14, hc27, hc33, hc40, hc54], rfl, rfl⟩
        · --
          refine Go.st (fun t k => XS.icmpYes X0.here hx rfl (pc0 := 27) (pc' := 38) rfl (hb hby d6_27) rfl (XT.ii_le_t hc27) (by decide) (by decide) k) ?_
          show Go p.tables e below PP (s₁.setTop (mkF m 38 #[.val (.int p1), .val (.int p2), .val (.int p3), .val (.int p4), .val (.int p5), .val (.int p6)] []))
          refine Go.st (fun t k => XS.iloadN X0.here hx rfl (hb hby d6_38) rfl k) ?_
          show Go p.tables e below PP (s₁.setTop (mkF m 39 #[.val (.int p1), .val (.int p2), .val (.int p3), .val (.int p4), .val (.int p5), .val (.int p6)] [(.int p1)]))
          refine Go.st (fun t k => XS.iconst X0.here hx rfl (hb hby d6_39) k) ?_
          show Go p.tables e below PP (s₁.setTop (mkF m 40 #[.val (.int p1), .val (.int p2), .val (.int p3), .val (.int p4), .val (.int p5), .val (.int p6)] [(.int (3 : Int32)), (.int p1)]))
          by_cases hc40 : (3 : Int32) < p1
          · --
            refine Go.st (fun t k => XS.icmpNo X0.here hx rfl (hb hby d6_40) rfl (XT.ii_le_f hc40) k) ?_
            show Go p.tables e below PP (s₁.setTop (mkF m 43 #[.val (.int p1), .val (.int p2), .val (.int p3), .val (.int p4), .val (.int p5), .val (.int p6)] []))
            refine Go.st (fun t k => XS.iload X0.here hx rfl (hb hby d6_43) rfl k) ?_
            show Go p.tables e below PP (s₁.setTop (mkF m 45 #[.val (.int p1), .val (.int p2), .val (.int p3), .val (.int p4), .val (.int p5), .val (.int p6)] [(.int p5)]))
            refine Go.st (fun t k => XS.bipush X0.here hx rfl (hb hby d6_45) k) ?_
            show Go p.tables e below PP (s₁.setTop (mkF m 47 #[.val (.int p1), .val (.int p2), .val (.int p3), .val (.int p4), .val (.int p5), .val (.int p6)] [(.int (45 : Int32)), (.int p5)]))
            by_cases hc47 : p5 = (45 : Int32)
            · --
              refine Go.st (fun t k => XS.icmpNo X0.here hx rfl (hb hby d6_47) rfl (XT.ii_ne_f hc47) k) ?_
              show Go p.tables e below PP (s₁.setTop (mkF m 50 #[.val (.int p1), .val (.int p2), .val (.int p3), .val (.int p4), .val (.int p5), .val (.int p6)] []))
              refine Go.st (fun t k => XS.iconst X0.here hx rfl (hb hby d6_50) k) ?_
              show Go p.tables e below PP (s₁.setTop (mkF m 51 #[.val (.int p1), .val (.int p2), .val (.int p3), .val (.int p4), .val (.int p5), .val (.int p6)] [(.int (3 : Int32))]))
              rw [hPP]
              refine endI X0 hx hlk hret (hb hby d6_51) ?_ (by decide) (by decide)
              show Q6 Z p1 p2 p3 p4 p5 p6 h0 n0 (some (.int (3 : Int32))) s₁.heap _
              rw [e0]
              exact ⟨by simp [fdash, hc1, hc7, hc14, hc27, hc40, hc47], rfl, rfl⟩
            · --
              refine Go.st (fun t k => XS.icmpYes X0.here hx rfl (pc0 := 47) (pc' := 52) rfl (hb hby d6_47) rfl (XT.ii_ne_t hc47) (by decide) (by decide) k) ?_
              show Go p.tables e below PP (s₁.setTop (mkF m 52 #[.val (.int p1), .val (.int p2), .val (.int p3), .val (.int p4), .val (.int p5), .val (.int p6)] []))
              refine Go.st (fun t k => XS.iloadN X0.here hx rfl (hb hby d6_52) rfl k) ?_
              show Go p.tables e below PP (s₁.setTop (mkF m 53 #[.val (.int p1), .val (.int p2), .val (.int p3), .val (.int p4), .val (.int p5), .val (.int p6)] [(.int p1)]))
              refine Go.st (fun t k => XS.iconst X0.here hx rfl (hb hby d6_53) k) ?_
              show Go p.tables e below PP (s₁.setTop (mkF m 54 #[.val (.int p1), .val (.int p2), .val (.int p3), .val (.int p4), .val (.int p5), .val (.int p6)] [(.int (4 : Int32)), (.int p1)]))
              by_cases hc54 : (4 : Int32) < p1
              · --
                refine Go.st (fun t k => XS.icmpNo X0.here hx rfl (hb hby d6_54) rfl (XT.ii_le_f hc54) k) ?_
                show Go p.tables e below PP (s₁.setTop (mkF m 57 #[.val (.int p1), .val (.int p2), .val (.int p3), .val (.int p4), .val (.int p5), .val (.int p6)] []))
                refine Go.st (fun t k => XS.iload X0.here hx rfl (hb hby d6_57) rfl k) ?_
                show Go p.tables e below PP (s₁.setTop (mkF m 59 #[.val (.int p1), .val (.int p2), .val (.int p3), .val (.int p4), .val (.int p5), .val (.int p6)] [(.int p6)]))
                refine Go.st (fun t k => XS.bipush X0.here hx rfl (hb hby d6_59) k) ?_
                show Go p.tables e below PP (s₁.setTop (mkF m 61 #[.val (.int p1), .val (.int p2), .val (.int p3), .val (.int p4), .val (.int p5), .val (.int p6)] [(.int (45 : Int32)), (.int p6)]))
                by_cases hc61 : p6 = (45 : Int32)
                · --
                  refine Go.st (fun t k => XS.icmpNo X0.here hx rfl (hb hby d6_61) rfl (XT.ii_ne_f hc61) k) ?_
                  show Go p.tables e below PP (s₁.setTop (mkF m 64 #[.val (.int p1), .val (.int p2), .val (.int p3), .val (.int p4), .val (.int p5), .val (.int p6)] []))
                  refine Go.st (fun t k => XS.iconst X0.here hx rfl (hb hby d6_64) k) ?_
                  show Go p.tables e below PP (s₁.setTop (mkF m 65 #[.val (.int p1), .val (.int p2), .val (.int p3), .val (.int p4), .val (.int p5), .val (.int p6)] [(.int (4 : Int32))]))
                  rw [hPP]
                  refine endI X0 hx hlk hret (hb hby d6_65) ?_ (by decide) (by decide)
                  show Q6 Z p1 p2 p3 p4 p5 p6 h0 n0 (some (.int (4 : Int32))) s₁.heap _
                  rw [e0]
                  exact ⟨by simp [fdash, hc1, hc7, hc14, hc27, hc40, hc47, hc54, hc61], rfl, rfl⟩
                · --
                  refine Go.st (fun t k => XS.icmpYes X0.here hx rfl (pc0 := 61) (pc' := 66) rfl (hb hby d6_61) rfl (XT.ii_ne_t hc61) (by decide) (by decide) k) ?_
                  show Go p.tables e below PP (s₁.setTop (mkF m 66 #[.val (.int p1), .val (.int p2), .val (.int p3), .val (.int p4), .val (.int p5), .val (.int p6)] []))
                  refine Go.st (fun t k => XS.iloadN X0.here hx rfl (hb hby d6_66) rfl k) ?_
                  show Go p.tables e below PP (s₁.setTop (mkF m 67 #[.val (.int p1), .val (.int p2), .val (.int p3), .val (.int p4), .val (.int p5), .val (.int p6)] [(.int p1)]))
                  rw [hPP]
                  refine endI X0 hx hlk hret (hb hby d6_67) ?_ (by decide) (by decide)
                  show Q6 Z p1 p2 p3 p4 p5 p6 h0 n0 (some (.int p1)) s₁.heap _
                  rw [e0]
                  exact ⟨by simp [fdash, hc1, hc7, hc14, hc27, hc40, hc47, hc54, hc61], rfl, rfl⟩
              · --
                refine Go.st (fun t k => XS.icmpYes X0.here hx rfl (pc0 := 54) (pc' := 66) rfl (hb hby d6_54) rfl (XT.ii_le_t hc54) (by decide) (by decide) k) ?_
                show Go p.tables e below PP (s₁.setTop (mkF m 66 #[.val (.int p1), .val (.int p2), .val (.int p3), .val (.int p4), .val (.int p5), .val (.int p6)] []))
                refine Go.st (fun t k => XS.iloadN X0.here hx rfl (hb hby d6_66) rfl k) ?_
                show Go p.tables e below PP (s₁.setTop (mkF m 67 #[.val (.int p1), .val (.int p2), .val (.int p3), .val (.int p4), .val (.int p5), .val (.int p6)] [(.int p1)]))
                rw [hPP]
                refine endI X0 hx hlk hret (hb hby d6_67) ?_ (by decide) (by decide)
                show Q6 Z p1 p2 p3 p4 p5 p6 h0 n0 (some (.int p1)) s₁.heap _
                rw [e0]
                exact ⟨by simp [fdash, hc1, hc7, hc14, hc27, hc40, hc47, hc54], rfl, rfl⟩
          · --
            refine Go.st (fun t k => XS.icmpYes X0.here hx rfl (pc0 := 40) (pc' := 52) rfl (hb hby d6_40) rfl (XT.ii_le_t hc40) (by decide) (by decide) k) ?_
            show Go p.tables e below PP (s₁.setTop (mkF m 52 #[.val (.int p1), .val (.int p2), .val (.int p3), .val (.int p4), .val (.int p5), .val (.int p6)] []))
            refine Go.st (fun t k => XS.iloadN X0.here hx rfl (hb hby d6_52) rfl k) ?_
            show Go p.tables e below PP (s₁.setTop (mkF m 53 #[.val (.int p1), .val (.int p2), .val (.int p3), .val (.int p4), .val (.int p5), .val (.int p6)] [(.int p1)]))
            refine Go.st (fun t k => XS.iconst X0.here hx rfl (hb hby d6_53) k) ?_
            show Go p.tables e below PP (s₁.setTop (mkF m 54 #[.val (.int p1), .val (.int p2), .val (.int p3), .val (.int p4), .val (.int p5), .val (.int p6)] [(.int (4 : Int32)), (.int p1)]))
            by_cases hc54 : (4 : Int32) < p1
            · --
              refine Go.st (fun t k => XS.icmpNo X0.here hx rfl (hb hby d6_54) rfl (XT.ii_le_f hc54) k) ?_
              show Go p.tables e below PP (s₁.setTop (mkF m 57 #[.val (.int p1), .val (.int p2), .val (.int p3), .val (.int p4), .val (.int p5), .val (.int p6)] []))
              refine Go.st (fun t k => XS.iload X0.here hx rfl (hb hby d6_57) rfl k) ?_
              show Go p.tables e below PP (s₁.setTop (mkF m 59 #[.val (.int p1), .val (.int p2), .val (.int p3), .val (.int p4), .val (.int p5), .val (.int p6)] [(.int p6)]))
              refine Go.st (fun t k => XS.bipush X0.here hx rfl (hb hby d6_59) k) ?_
              show Go p.tables e below PP (s₁.setTop (mkF m 61 #[.val (.int p1), .val (.int p2), .val (.int p3), .val (.int p4), .val (.int p5), .val (.int p6)] [(.int (45 : Int32)), (.int p6)]))
              by_cases hc61 : p6 = (45 : Int32)
              · --
                refine Go.st (fun t k => XS.icmpNo X0.here hx rfl (hb hby d6_61) rfl (XT.ii_ne_f hc61) k) ?_
                show Go p.tables e below PP (s₁.setTop (mkF m 64 #[.val (.int p1), .val (.int p2), .val (.int p3), .val (.int p4), .val (.int p5), .val (.int p6)] []))
                refine Go.st (fun t k => XS.iconst X0.here hx rfl (hb hby d6_64) k) ?_
                show Go p.tables e below PP (s₁.setTop (mkF m 65 #[.val (.int p1), .val (.int p2), .val (.int p3), .val (.int p4), .val (.int p5), .val (.int p6)] [(.int (4 : Int32))]))
                rw [hPP]
                refine endI X0 hx hlk hret (hb hby d6_65) ?_ (by decide) (by decide)
                show Q6 Z p1 p2 p3 p4 p5 p6 h0 n0 (some (.int (4 : Int32))) s₁.heap _
                rw [e0]
                exact ⟨by simp [fdash, hc1, hc7, hc14, hc27, hc40, hc54, hc61], rfl, rfl⟩
              · --
                refine Go.st (fun t k => XS.icmpYes X0.here hx rfl (pc0 := 61) (pc' := 66) rfl (hb hby d6_61) rfl (XT.ii_ne_t hc61) (by decide) (by decide) k) ?_
                show Go p.tables e below PP (s₁.setTop (mkF m 66 #[.val (.int p1), .val (.int p2), .val (.int p3), .val (.int p4), .val (.int p5), .val (.int p6)] []))
                refine Go.st (fun t k => XS.iloadN X0.here hx rfl (hb hby d6_66) rfl k) ?_
                show Go p.tables e below PP (s₁.setTop (mkF m 67 #[.val (.int p1), .val (.int p2), .val (.int p3), .val (.int p4), .val (.int p5), .val (.int p6)] [(.int p1)]))
                rw [hPP]
                refine endI X0 hx hlk hret (hb hby d6_67) ?_ (by decide) (by decide)
                show Q6 Z p1 p2 p3 p4 p5 p6 h0 n0 (some (.int p1)) s₁.heap _
                rw [e0]
                exact ⟨by simp [fdash, hc1, hc7, hc14, hc27, hc40, hc54, hc61], rfl, rfl⟩
            · --
              refine Go.st (fun t k => XS.icmpYes X0.here hx rfl (pc0 := 54) (pc' := 66) rfl (hb hby d6_54) rfl (XT.ii_le_t hc54) (by decide) (by decide) k) ?_
              show Go p.tables e below PP (s₁.setTop (mkF m 66 #[.val (.int p1), .val (.int p2), .val (.int p3), .val (.int p4), .val (.int p5), .val (.int p6)] []))
              refine Go.st (fun t k => XS.iloadN X0.here hx rfl (hb hby d6_66) rfl k) ?_
              show Go p.tables e below PP (s₁.setTop (mkF m 67 #[.val (.int p1), .val (.int p2), .val (.int p3), .val (.int p4), .val (.int p5), .val (.int p6)] [(.int p1)]))
              rw [hPP]
              refine endI X0 hx hlk hret (hb hby d6_67) ?_ (by decide) (by decide)
              show Q6 Z p1 p2 p3 p4 p5 p6 h0 n0 (some (.int p1)) s₁.heap _
              rw [e0]
              exact ⟨by simp [fdash, hc1, hc7, hc14, hc27, hc40, hc54], rfl, rfl⟩
  · --
    refine Go.st (fun t k => XS.ifYes X0.here hx rfl (pc0 := 1) (pc' := 12) rfl (hb hby d6_1) rfl (XT.i0_le_t hc1) (by decide) (by decide) k) ?_
    show Go p.tables e below PP (s₁.setTop (mkF m 12 #[.val (.int p1), .val (.int p2), .val (.int p3), .val (.int p4), .val (.int p5), .val (.int p6)] []))
    refine Go.st (fun t k => XS.iloadN X0.here hx rfl (hb hby d6_12) rfl k) ?_
    show Go p.tables e below PP (s₁.setTop (mkF m 13 #[.val (.int p1), .val (.int p2), .val (.int p3), .val (.int p4), .val (.int p5), .val (.int p6)] [(.int p1)]))
    refine Go.st (fun t k => XS.iconst X0.here hx rfl (hb hby d6_13) k) ?_
    show Go p.tables e below PP (s₁.setTop (mkF m 14 #[.val (.int p1), .val (.int p2), .val (.int p3), .val (.int p4), .val (.int p5), .val (.int p6)] [(.int (1 : Int32)), (.int p1)]))
    by_cases hc14 : (1 : Int32) < p1
    · --
      refine Go.st (fun t k => XS.icmpNo X0.here hx rfl (hb hby d6_14) rfl (XT.ii_le_f hc14) k) ?_
      show Go p.tables e below PP (s₁.setTop (mkF m 17 #[.val (.int p1), .val (.int p2), .val (.int p3), .val (.int p4), .val (.int p5), .val (.int p6)] []))
      refine Go.st (fun t k => XS.iloadN X0.here hx rfl (hb hby d6_17) rfl k) ?_
      show Go p.tables e below PP (s₁.setTop (mkF m 18 #[.val (.int p1), .val (.int p2), .val (.int p3), .val (.int p4), .val (.int p5), .val (.int p6)] [(.int p3)]))
      refine Go.st (fun t k => XS.bipush X0.here hx rfl (hb hby d6_18) k) ?_
      show Go p.tables e below PP (s₁.setTop (mkF m 20 #[.val (.int p1), .val (.int p2), .val (.int p3), .val (.int p4), .val (.int p5), .val (.int p6)] [(.int (45 : Int32)), (.int p3)]))
      by_cases hc20 : p3 = (45 : Int32)
      · --
        refine Go.st (fun t k => XS.icmpNo X0.here hx rfl (hb hby d6_20) rfl (XT.ii_ne_f hc20) k) ?_
        show Go p.tables e below PP (s₁.setTop (mkF m 23 #[.val (.int p1), .val (.int p2), .val (.int p3), .val (.int p4), .val (.int p5), .val (.int p6)] []))
        refine Go.st (fun t k => XS.iconst X0.here hx rfl (hb hby d6_23) k) ?_
        show Go p.tables e below PP (s₁.setTop (mkF m 24 #[.val (.int p1), .val (.int p2), .val (.int p3), .val (.int p4), .val (.int p5), .val (.int p6)] [(.int (1 : Int32))]))
        rw [hPP]
        refine endI X0 hx hlk hret (hb hby d6_24) ?_ (by decide) (by decide)
        show Q6 Z p1 p2 p3 p4 p5 p6 h0 n0 (some (.int (1 : Int32))) s₁.heap _
        rw [e0]
        exact ⟨by simp [fdash, hc1, hc14, hc20], rfl, rfl⟩
      · --
        refine Go.st (fun t k => XS.icmpYes X0.here hx rfl (pc0 := 20) (pc' := 25) rfl (hb hby d6_20) rfl (XT.ii_ne_t hc20) (by decide) (by decide) k) ?_
        show Go p.tables e below PP (s₁.setTop (mkF m 25 #[.val (.int p1), .val (.int p2), .val (.int p3), .val (.int p4), .val (.int p5), .val (.int p6)] []))
        refine Go.st (fun t k => XS.iloadN X0.here hx rfl (hb hby d6_25) rfl k) ?_
        show Go p.tables e below PP (s₁.setTop (mkF m 26 #[.val (.int p1), .val (.int p2), .val (.int p3), .val (.int p4), .val (.int p5), .val (.int p6)] [(.int p1)]))
        refine Go.st (fun t k => XS.iconst X0.here hx rfl (hb hby d6_26) k) ?_
        show Go p.tables e below PP (s₁.setTop (mkF m 27 #[.val (.int p1), .val (.int p2), .val (.int p3), .val (.int p4), .val (.int p5), .val (.int p6)] [(.int (2 : Int32)), (.int p1)]))
        by_cases hc27 : (2 : Int32) < p1
        · --
          refine Go.st (fun t k => XS.icmpNo X0.here hx rfl (hb hby d6_27) rfl (XT.ii_le_f hc27) k) ?_
          show Go p.tables e below PP (s₁.setTop (mkF m 30 #[.val (.int p1), .val (.int p2), .val (.int p3), .val (.int p4), .val (.int p5), .val (.int p6)] []))
          refine Go.st (fun t k => XS.iloadN X0.here hx rfl (hb hby d6_30) rfl k) ?_
          show Go p.tables e below PP (s₁.setTop (mkF m 31 #[.val (.int p1), .val (.int p2), .val (.int p3), .val (.int p4), .val (.int p5), .val (.int p6)] [(.int p4)]))
          refine Go.st (fun t k => XS.bipush X0.here hx rfl (hb hby d6_31) k) ?_
          show Go p.tables e below PP (s₁.setTop (mkF m 33 #[.val (.int p1), .val (.int p2), .val (.int p3), .val (.int p4), .val (.int p5), .val (.int p6)] [(.int (45 : Int32)), (.int p4)]))
          by_cases hc33 : p4 = (45 : Int32)
          · --
            refine Go.st (fun t k => XS.icmpNo X0.here hx rfl (hb hby d6_33) rfl (XT.ii_ne_f hc33) k) ?_
            show Go p.tables e below PP (s₁.setTop (mkF m 36 #[.val (.int p1), .val (.int p2), .val (.int p3), .val (.int p4), .val (.int p5), .val (.int p6)] []))
            refine Go.st (fun t k => XS.iconst X0.here hx rfl (hb hby d6_36) k) ?_
            show Go p.tables e below PP (s₁.setTop (mkF m 37 #[.val (.int p1), .val (.int p2), .val (.int p3), .val (.int p4), .val (.int p5), .val (.int p6)] [(.int (2 : Int32))]))
            rw [hPP]
            refine endI X0 hx hlk hret (hb hby d6_37) ?_ (by decide) (by decide)
            show Q6 Z p1 p2 p3 p4 p5 p6 h0 n0 (some (.int (2 : Int32))) s₁.heap _
            rw [e0]
            exact ⟨by simp [fdash, hc1, hc14, hc20, hc27, hc33], rfl, rfl⟩
          · --
            refine Go.st (fun t k => XS.icmpYes X0.here hx rfl (pc0 := 33) (pc' := 38) rfl (hb hby d6_33) rfl (XT.ii_ne_t hc33) (by decide) (by decide) k) ?_
            show Go p.tables e below PP (s₁.setTop (mkF m 38 #[.val (.int p1), .val (.int p2), .val (.int p3), .val (.int p4), .val (.int p5), .val (.int p6)] []))
            refine Go.st (fun t k => XS.iloadN X0.here hx rfl (hb hby d6_38) rfl k) ?_
            show Go p.tables e below PP (s₁.setTop (mkF m 39 #[.val (.int p1), .val (.int p2), .val (.int p3), .val (.int p4), .val (.int p5), .val (.int p6)] [(.int p1)]))
            refine Go.st (fun t k => XS.iconst X0.here hx rfl (hb hby d6_39) k) ?_
            show Go p.tables e below PP (s₁.setTop (mkF m 40 #[.val (.int p1), .val (.int p2), .val (.int p3), .val (.int p4), .val (.int p5), .val (.int p6)] [(.int (3 : Int32)), (.int p1)]))
            by_cases hc40 : (3 : Int32) < p1
            · --
              refine Go.st (fun t k => XS.icmpNo X0.here hx rfl (hb hby d6_40) rfl (XT.ii_le_f hc40) k) ?_
              show Go p.tables e below PP (s₁.setTop (mkF m 43 #[.val (.int p1), .val (.int p2), .val (.int p3), .val (.int p4), .val (.int p5), .val (.int p6)] []))
              refine Go.st (fun t k => XS.iload X0.here hx rfl (hb hby d6_43) rfl k) ?_
              show Go p.tables e below PP (s₁.setTop (mkF m 45 #[.val (.int p1), .val (.int p2), .val (.int p3), .val (.int p4), .val (.int p5), .val (.int p6)] [(.int p5)]))
              refine Go.st (fun t k => XS.bipush X0.here hx rfl (hb hby d6_45) k) ?_
              show Go p.tables e below PP (s₁.setTop (mkF m 47 #[.val (.int p1), .val (.int p2), .val (.int p3), .val (.int p4), .val (.int p5), .val (.int p6)] [(.int (45 : Int32)), (.int p5)]))
              by_cases hc47 : p5 = (45 : Int32)
              · --
                refine Go.st (fun t k => XS.icmpNo X0.here hx rfl (hb hby d6_47) rfl (XT.ii_ne_f hc47) k) ?_
                show Go p.tables e below PP (s₁.setTop (mkF m 50 #[.val (.int p1), .val (.int p2), .val (.int p3), .val (.int p4), .val (.int p5), .val (.int p6)] []))
                refine Go.st (fun t k => XS.iconst X0.here hx rfl (hb hby d6_50) k) ?_
                show Go p.tables e below PP (s₁.setTop (mkF m 51 #[.val (.int p1), .val (.int p2), .val (.int p3), .val (.int p4), .val (.int p5), .val (.int p6)] [(.int (3 : Int32))]))
                rw [hPP]
                refine endI X0 hx hlk hret (hb hby d6_51) ?_ (by decide) (by decide)
                show Q6 Z p1 p2 p3 p4 p5 p6 h0 n0 (some (.int (3 : Int32))) s₁.heap _
                rw [e0]
                exact ⟨by simp [fdash, hc1, hc14, hc20, hc27, hc33, hc40, hc47], rfl, rfl⟩
              · --
                refine Go.st (fun t k => XS.icmpYes X0.here hx rfl (pc0 := 47) (pc' := 52) rfl (hb hby d6_47) rfl (XT.ii_ne_t hc47) (by decide) (by decide) k) ?_
                show Go p.tables e below PP (s₁.setTop (mkF m 52 #[.val (.int p1), .val (.int p2), .val (.int p3), .val (.int p4), .val (.int p5), .val (.int p6)] []))
                refine Go.st (fun t k => XS.iloadN X0.here hx rfl (hb hby d6_52) rfl k) ?_
                show Go p.tables e below PP (s₁.setTop (mkF m 53 #[.val (.int p1), .val (.int p2), .val (.int p3), .val (.int p4), .val (.int p5), .val (.int p6)] [(.int p1)]))
                refine Go.st (fun t k => XS.iconst X0.here hx rfl (hb hby d6_53) k) ?_
                show Go p.tables e below PP (s₁.setTop (mkF m 54 #[.val (.int p1), .val (.int p2), .val (.int p3), .val (.int p4), .val (.int p5), .val (.int p6)] [(.int (4 : Int32)), (.int p1)]))
                by_cases hc54 : (4 : Int32) < p1
                · --
                  refine Go.st (fun t k => XS.icmpNo X0.here hx rfl (hb hby d6_54) rfl (XT.ii_le_f hc54) k) ?_
                  show Go p.tables e below PP (s₁.setTop (mkF m 57 #[.val (.int p1), .val (.int p2), .val (.int p3), .val (.int p4), .val (.int p5), .val (.int p6)] []))
                  refine Go.st (fun t k => XS.iload X0.here hx rfl (hb hby d6_57) rfl k) ?_
                  show Go p.tables e below PP (s₁.setTop (mkF m 59 #[.val (.int p1), .val (.int p2), .val (.int p3), .val (.int p4), .val (.int p5), .val (.int p6)] [(.int p6)]))
                  refine Go.st (fun t k => XS.bipush X0.here hx rfl (hb hby d6_59) k) ?_
                  show Go p.tables e below PP (s₁.setTop (mkF m 61 #[.val (.int p1), .val (.int p2), .val (.int p3), .val (.int p4), .val (.int p5), .val (.int p6)] [(.int (45 : Int32)), (.int p6)]))
                  by_cases hc61 : p6 = (45 : Int32)
                  · --
                    refine Go.st (fun t k => XS.icmpNo X0.here hx rfl (hb hby d6_61) rfl (XT.ii_ne_f hc61) k) ?_
                    show Go p.tables e below PP (s₁.setTop (mkF m 64 #[.val (.int p1), .val (.int p2), .val (.int p3), .val (.int p4), .val (.int p5), .val (.int p6)] []))
                    refine Go.st (fun t k => XS.iconst X0.here hx rfl (hb hby d6_64) k) ?_
                    show Go p.tables e below PP (s₁.setTop (mkF m 65 #[.val (.int p1), .val (.int p2), .val (.int p3), .val (.int p4), .val (.int p5), .val (.int p6)] [(.int (4 : Int32))]))
                    rw [hPP]
                    refine endI X0 hx hlk hret (hb hby d6_65) ?_ (by decide) (by decide)
                    show Q6 Z p1 p2 p3 p4 p5 p6 h0 n0 (some (.int (4 : Int32))) s₁.heap _
                    rw [e0]
                    exact ⟨by simp [fdash, hc1, hc14, hc20, hc27, hc33, hc40, hc47, hc54, hc61], rfl, rfl⟩
                  · --
                    refine Go.st (fun t k => XS.icmpYes X0.here hx rfl (pc0 := 61) (pc' := 66) rfl (hb hby d6_61) rfl (XT.ii_ne_t hc61) (by decide) (by decide) k) ?_
                    show Go p.tables e below PP (s₁.setTop (mkF m 66 #[.val (.int p1), .val (.int p2), .val (.int p3), .val (.int p4), .val (.int p5), .val (.int p6)] []))
                    refine Go.st (fun t k => XS.iloadN X0.here hx rfl (hb hby d6_66) rfl k) ?_
                    show Go p.tables e below PP (s₁.setTop (mkF m 67 #[.val (.int p1), .val (.int p2), .val (.int p3), .val (.int p4), .val (.int p5), .val (.int p6)] [(.int p1)]))
                    rw [hPP]
                    refine endI X0 hx hlk hret (hb hby d6_67) ?_ (by decide) (by decide)
                    show Q6 Z p1 p2 p3 p4 p5 p6 h0 n0 (some (.int p1)) s₁.heap _
                    rw [e0]
                    exact ⟨by simp [fdash, hc1, hc14, hc20, hc27, hc33, hc40, hc47, hc54, hc61], rfl, rfl⟩
                · --
                  refine Go.st (fun t k => XS.icmpYes X0.here hx rfl (pc0 := 54) (pc' := 66) rfl (hb hby d6_54) rfl (XT.ii_le_t hc54) (by decide) (by decide) k) ?_
                  show Go p.tables e below PP (s₁.setTop (mkF m 66 #[.val (.int p1), .val (.int p2), .val (.int p3), .val (.int p4), .val (.int p5), .val (.int p6)] []))
                  refine Go.st (fun t k => XS.iloadN X0.here hx rfl (hb hby d6_66) rfl k) ?_
                  show Go p.tables e below PP (s₁.setTop (mkF m 67 #[.val (.int p1), .val (.int p2), .val (.int p3), .val (.int p4), .val (.int p5), .val (.int p6)] [(.int p1)]))
                  rw [hPP]
                  refine endI X0 hx hlk hret (hb hby d6_67) ?_ (by decide) (by decide)
                  show Q6 Z p1 p2 p3 p4 p5 p6 h0 n0 (some (.int p1)) s₁.heap _
                  rw [e0]
                  exact ⟨by simp [fdash, hc1, hc14, hc20, hc27, hc33, hc40, hc47, hc54], rfl, rfl⟩
            · --
              refine Go.st (fun t k => XS.icmpYes X0.here hx rfl (pc0 := 40) (pc' := 52) rfl (hb hby d6_40) rfl (XT.ii_le_t hc40) (by decide) (by decide) k) ?_
              show Go p.tables e below PP (s₁.setTop (mkF m 52 #[.val (.int p1), .val (.int p2), .val (.int p3), .val (.int p4), .val (.int p5), .val (.int p6)] []))
              refine Go.st (fun t k => XS.iloadN X0.here hx rfl (hb hby d6_52) rfl k) ?_
              show Go p.tables e below PP (s₁.setTop (mkF m 53 #[.val (.int p1), .val (.int p2), .val (.int p3), .val (.int p4), .val (.int p5), .val (.int p6)] [(.int p1)]))
              refine Go.st (fun t k => XS.iconst X0.here hx rfl (hb hby d6_53) k) ?_
              show Go p.tables e below PP (s₁.setTop (mkF m 54 #[.val (.int p1), .val (.int p2), .val (.int p3), .val (.int p4), .val (.int p5), .val (.int p6)] [(.int (4 : Int32)), (.int p1)]))
              by_cases hc54 : (4 : Int32) < p1
              · --
                refine Go.st (fun t k => XS.icmpNo X0.here hx rfl (hb hby d6_54) rfl (XT.ii_le_f hc54) k) ?_
                show Go p.tables e below PP (s₁.setTop (mkF m 57 #[.val (.int p1), .val (.int p2), .val (.int p3), .val (.int p4), .val (.int p5), .val (.int p6)] []))
                refine Go.st (fun t k => XS.iload X0.here hx rfl (hb hby d6_57) rfl k) ?_
                show Go p.tables e below PP (s₁.setTop (mkF m 59 #[.val (.int p1), .val (.int p2), .val (.int p3), .val (.int p4), .val (.int p5), .val (.int p6)] [(.int p6)]))
                refine Go.st (fun t k => XS.bipush X0.here hx rfl (hb hby d6_59) k) ?_
                show Go p.tables e below PP (s₁.setTop (mkF m 61 #[.val (.int p1), .val (.int p2), .val (.int p3), .val (.int p4), .val (.int p5), .val (.int p6)] [(.int (45 : Int32)), (.int p6)]))
                by_cases hc61 : p6 = (45 : Int32)
                · --
                  refine Go.st (fun t k => XS.icmpNo X0.here hx rfl (hb hby d6_61) rfl (XT.ii_ne_f hc61) k) ?_
                  show Go p.tables e below PP (s₁.setTop (mkF m 64 #[.val (.int p1), .val (.int p2), .val (.int p3), .val (.int p4), .val (.int p5), .val (.int p6)] []))
                  refine Go.st (fun t k => XS.iconst X0.here hx rfl (hb hby d6_64) k) ?_
                  show Go p.tables e below PP (s₁.setTop (mkF m 65 #[.val (.int p1), .val (.int p2), .val (.int p3), .val (.int p4), .val (.int p5), .val (.int p6)] [(.int (4 : Int32))]))
                  rw [hPP]
                  refine endI X0 hx hlk hret (hb hby d6_65) ?_ (by decide) (by decide)
                  show Q6 Z p1 p2 p3 p4 p5 p6 h0 n0 (some (.int (4 : Int32))) s₁.heap _
                  rw [e0]
                  exact ⟨by simp [fdash, hc1, hc14, hc20, hc27, hc33, hc40, hc54, hc61], rfl, rfl⟩
                · --
                  refine Go.st (fun t k => XS.icmpYes X0.here hx rfl (pc0 := 61) (pc' := 66) rfl (hb hby d6_61) rfl (XT.ii_ne_t hc61) (by decide) (by decide) k) ?_
                  show Go p.tables e below PP (s₁.setTop (mkF m 66 #[.val (.int p1), .val (.int p2), .val (.int p3), .val (.int p4), .val (.int p5), .val (.int p6)] []))
                  refine Go.st (fun t k => XS.iloadN X0.here hx rfl (hb hby d6_66) rfl k) ?_
                  show Go p.tables e below PP (s₁.setTop (mkF m 67 #[.val (.int p1), .val (.int p2), .val (.int p3), .val (.int p4), .val (.int p5), .val (.int p6)] [(.int p1)]))
                  rw [hPP]
                  refine endI X0 hx hlk hret (hb hby d6_67) ?_ (by decide) (by decide)
                  show Q6 Z p1 p2 p3 p4 p5 p6 h0 n0 (some (.int p1)) s₁.heap _
                  rw [e0]
                  exact ⟨by simp [fdash, hc1, hc14, hc20, hc27, hc33, hc40, hc54, hc61], rfl, rfl⟩
              · --
                refine Go.st (fun t k => XS.icmpYes X0.here hx rfl (pc0 := 54) (pc' := 66) rfl (hb hby d6_54) rfl (XT.ii_le_t hc54) (by decide) (by decide) k) ?_
                show Go p.tables e below PP (s₁.setTop (mkF m 66 #[.val (.int p1), .val (.int p2), .val (.int p3), .val (.int p4), .val (.int p5), .val (.int p6)] []))
                refine Go.st (fun t k => XS.iloadN X0.here hx rfl (hb hby d6_66) rfl k) ?_
                show Go p.tables e below PP (s₁.setTop (mkF m 67 #[.val (.int p1), .val (.int p2), .val (.int p3), .val (.int p4), .val (.int p5), .val (.int p6)] [(.int p1)]))
                rw [hPP]
                refine endI X0 hx hlk hret (hb hby d6_67) ?_ (by decide) (by decide)
                show Q6 Z p1 p2 p3 p4 p5 p6 h0 n0 (some (.int p1)) s₁.heap _
                rw [e0]
                exact ⟨by simp [fdash, hc1, hc14, hc20, hc27, hc33, hc40, hc54], rfl, rfl⟩
        · --
          refine Go.st (fun t k => XS.icmpYes X0.here hx rfl (pc0 := 27) (pc' := 38) rfl (hb hby d6_27) rfl (XT.ii_le_t hc27) (by decide) (by decide) k) ?_
          show Go p.tables e below PP (s₁.setTop (mkF m 38 #[.val (.int p1), .val (.int p2), .val (.int p3), .val (.int p4), .val (.int p5), .val (.int p6)] []))
          refine Go.st (fun t k => XS.iloadN X0.here hx rfl (hb hby d6_38) rfl k) ?_
          show Go p.tables e below PP (s₁.setTop (mkF m 39 #[.val (.int p1), .val (.int p2), .val (.int p3), .val (.int p4), .val (.int p5), .val (.int p6)] [(.int p1)]))
          refine Go.st (fun t k => XS.iconst X0.here hx rfl (hb hby d6_39) k) ?_
          show Go p.tables e below PP (s₁.setTop (mkF m 40 #[.val (.int p1), .val (.int p2), .val (.int p3), .val (.int p4), .val (.int p5), .val (.int p6)] [(.int (3 : Int32)), (.int p1)]))
          by_cases hc40 : (3 : Int32) < p1
          · --
            refine Go.st (fun t k => XS.icmpNo X0.here hx rfl (hb hby d6_40) rfl (XT.ii_le_f hc40) k) ?_
            show Go p.tables e below PP (s₁.setTop (mkF m 43 #[.val (.int p1), .val (.int p2), .val (.int p3), .val (.int p4), .val (.int p5), .val (.int p6)] []))
            refine Go.st (fun t k => XS.iload X0.here hx rfl (hb hby d6_43) rfl k) ?_
            show Go p.tables e below PP (s₁.setTop (mkF m 45 #[.val (.int p1), .val (.int p2), .val (.int p3), .val (.int p4), .val (.int p5), .val (.int p6)] [(.int p5)]))
            refine Go.st (fun t k => XS.bipush X0.here hx rfl (hb hby d6_45) k) ?_
            show Go p.tables e below PP (s₁.setTop (mkF m 47 #[.val (.int p1), .val (.int p2), .val (.int p3), .val (.int p4), .val (.int p5), .val (.int p6)] [(.int (45 : Int32)), (.int p5)]))
            by_cases hc47 : p5 = (45 : Int32)
            · --
              refine Go.st (fun t k => XS.icmpNo X0.here hx rfl (hb hby d6_47) rfl (XT.ii_ne_f hc47) k) ?_
              show Go p.tables e below PP (s₁.setTop (mkF m 50 #[.val (.int p1), .val (.int p2), .val (.int p3), .val (.int p4), .val (.int p5), .val (.int p6)] []))
              refine Go.st (fun t k => XS.iconst X0.here hx rfl (hb hby d6_50) k) ?_
              show Go p.tables e below PP (s₁.setTop (mkF m 51 #[.val (.int p1), .val (.int p2), .val (.int p3), .val (.int p4), .val (.int p5), .val (.int p6)] [(.int (3 : Int32))]))
              rw [hPP]
              refine endI X0 hx hlk hret (hb hby d6_51) ?_ (by decide) (by decide)
              show Q6 Z p1 p2 p3 p4 p5 p6 h0 n0 (some (.int (3 : Int32))) s₁.heap _
              rw [e0]
              exact ⟨by simp [fdash, hc1, hc14, hc20, hc27, hc40, hc47], rfl, rfl⟩
            · --
              refine Go.st (fun t k => XS.icmpYes X0.here hx rfl (pc0 := 47) (pc' := 52) rfl (hb hby d6_47) rfl (XT.ii_ne_t hc47) (by decide) (by decide) k) ?_
              show Go p.tables e below PP (s₁.setTop (mkF m 52 #[.val (.int p1), .val (.int p2), .val (.int p3), .val (.int p4), .val (.int p5), .val (.int p6)] []))
              refine Go.st (fun t k => XS.iloadN X0.here hx rfl (hb hby d6_52) rfl k) ?_
              show Go p.tables e below PP (s₁.setTop (mkF m 53 #[.val (.int p1), .val (.int p2), .val (.int p3), .val (.int p4), .val (.int p5), .val (.int p6)] [(.int p1)]))
              refine Go.st (fun t k => XS.iconst X0.here hx rfl (hb hby d6_53) k) ?_
              show Go p.tables e below PP (s₁.setTop (mkF m 54 #[.val (.int p1), .val (.int p2), .val (.int p3), .val (.int p4), .val (.int p5), .val (.int p6)] [(.int (4 : Int32)), (.int p1)]))
              by_cases hc54 : (4 : Int32) < p1
              · --
                refine Go.st (fun t k => XS.icmpNo X0.here hx rfl (hb hby d6_54) rfl (XT.ii_le_f hc54) k) ?_
                show Go p.tables e below PP (s₁.setTop (mkF m 57 #[.val (.int p1), .val (.int p2), .val (.int p3), .val (.int p4), .val (.int p5), .val (.int p6)] []))
                refine Go.st (fun t k => XS.iload X0.here hx rfl (hb hby d6_57) rfl k) ?_
                show Go p.tables e below PP (s₁.setTop (mkF m 59 #[.val (.int p1), .val (.int p2), .val (.int p3), .val (.int p4), .val (.int p5), .val (.int p6)] [(.int p6)]))
                refine Go.st (fun t k => XS.bipush X0.here hx rfl (hb hby d6_59) k) ?_
                show Go p.tables e below PP (s₁.setTop (mkF m 61 #[.val (.int p1), .val (.int p2), .val (.int p3), .val (.int p4), .val (.int p5), .val (.int p6)] [(.int (45 : Int32)), (.int p6)]))
                by_cases hc61 : p6 = (45 : Int32)
                · --
                  refine Go.st (fun t k => XS.icmpNo X0.here hx rfl (hb hby d6_61) rfl (XT.ii_ne_f hc61) k) ?_
                  show Go p.tables e below PP (s₁.setTop (mkF m 64 #[.val (.int p1), .val (.int p2), .val (.int p3), .val (.int p4), .val (.int p5), .val (.int p6)] []))
                  refine Go.st (fun t k => XS.iconst X0.here hx rfl (hb hby d6_64) k) ?_
                  show Go p.tables e below PP (s₁.setTop (mkF m 65 #[.val (.int p1), .val (.int p2), .val (.int p3), .val (.int p4), .val (.int p5), .val (.int p6)] [(.int (4 : Int32))]))
                  rw [hPP]
                  refine endI X0 hx hlk hret (hb hby d6_65) ?_ (by decide) (by decide)
                  show Q6 Z p1 p2 p3 p4 p5 p6 h0 n0 (some (.int (4 : Int32))) s₁.heap _
                  rw [e0]
                  exact ⟨by simp [fdash, hc1, hc14, hc20, hc27, hc40, hc47, hc54, hc61], rfl, rfl⟩
                · --
                  refine Go.st (fun t k => XS.icmpYes X0.here hx rfl (pc0 := 61) (pc' := 66) rfl (hb hby d6_61) rfl (XT.ii_ne_t hc61) (by decide) (by decide) k) ?_
                  show Go p.tables e below PP (s₁.setTop (mkF m 66 #[.val (.int p1), .val (.int p2), .val (.int p3), .val (.int p4), .val (.int p5), .val (.int p6)] []))
                  refine Go.st (fun t k => XS.iloadN X0.here hx rfl (hb hby d6_66) rfl k) ?_
                  show Go p.tables e below PP (s₁.setTop (mkF m 67 #[.val (.int p1), .val (.int p2), .val (.int p3), .val (.int p4), .val (.int p5), .val (.int p6)] [(.int p1)]))
                  rw [hPP]
                  refine endI X0 hx hlk hret (hb hby d6_67) ?_ (by decide) (by decide)
                  show Q6 Z p1 p2 p3 p4 p5 p6 h0 n0 (some (.int p1)) s₁.heap _
                  rw [e0]
                  exact ⟨by simp [fdash, hc1, hc14, hc20, hc27, hc40, hc47, hc54, hc61], rfl, rfl⟩
              · --
                refine Go.st (fun t k => XS.icmpYes X0.here hx rfl (pc0 := 54) (pc' := 66) rfl (hb hby d6_54) rfl (XT.ii_le_t hc54) (by decide) (by decide) k) ?_
                show Go p.tables e below PP (s₁.setTop (mkF m 66 #[.val (.int p1), .val (.int p2), .val (.int p3), .val (.int p4), .val (.int p5), .val (.int p6)] []))
                refine Go.st (fun t k => XS.iloadN X0.here hx rfl (hb hby d6_66) rfl k) ?_
                show Go p.tables e below PP (s₁.setTop (mkF m 67 #[.val (.int p1), .val (.int p2), .val (.int p3), .val (.int p4), .val (.int p5), .val (.int p6)] [(.int p1)]))
                rw [hPP]
                refine endI X0 hx hlk hret (hb hby d6_67) ?_ (by decide) (by decide)
                show Q6 Z p1 p2 p3 p4 p5 p6 h0 n0 (some (.int p1)) s₁.heap _
                rw [e0]
                exact ⟨by simp [fdash, hc1, hc14, hc20, hc27, hc40, hc47, hc54], rfl, rfl⟩
          · --
            refine Go.st (fun t k => XS.icmpYes X0.here hx rfl (pc0 := 40) (pc' := 52) rfl (hb hby d6_40) rfl (XT.ii_le_t hc40) (by decide) (by decide) k) ?_
            show Go p.tables e below PP (s₁.setTop (mkF m 52 #[.val (.int p1), .val (.int p2), .val (.int p3), .val (.int p4), .val (.int p5), .val (.int p6)] []))
            refine Go.st (fun t k => XS.iloadN X0.here hx rfl (hb hby d6_52) rfl k) ?_
            show Go p.tables e below PP (s₁.setTop (mkF m 53 #[.val (.int p1), .val (.int p2), .val (.int p3), .val (.int p4), .val (.int p5), .val (.int p6)] [(.int p1)]))
            refine Go.st (fun t k => XS.iconst X0.here hx rfl (hb hby d6_53) k) ?_
            show Go p.tables e below PP (s₁.setTop (mkF m 54 #[.val (.int p1), .val (.int p2), .val (.int p3), .val (.int p4), .val (.int p5), .val (.int p6)] [(.int (4 : Int32)), (.int p1)]))
            by_cases hc54 : (4 : Int32) < p1
            · --
              refine Go.st (fun t k => XS.icmpNo X0.here hx rfl (hb hby d6_54) rfl (XT.ii_le_f hc54) k) ?_
              show Go p.tables e below PP (s₁.setTop (mkF m 57 #[.val (.int p1), .val (.int p2), .val (.int p3), .val (.int p4), .val (.int p5), .val (.int p6)] []))
              refine Go.st (fun t k => XS.iload X0.here hx rfl (hb hby d6_57) rfl k) ?_
              show Go p.tables e below PP (s₁.setTop (mkF m 59 #[.val (.int p1), .val (.int p2), .val (.int p3), .val (.int p4), .val (.int p5), .val (.int p6)] [(.int p6)]))
              refine Go.st (fun t k => XS.bipush X0.here hx rfl (hb hby d6_59) k) ?_
              show Go p.tables e below PP (s₁.setTop (mkF m 61 #[.val (.int p1), .val (.int p2), .val (.int p3), .val (.int p4), .val (.int p5), .val (.int p6)] [(.int (45 : Int32)), (.int p6)]))
              by_cases hc61 : p6 = (45 : Int32)
              · --
                refine Go.st (fun t k => XS.icmpNo X0.here hx rfl (hb hby d6_61) rfl (XT.ii_ne_f hc61) k) ?_
                show Go p.tables e below PP (s₁.setTop (mkF m 64 #[.val (.int p1), .val (.int p2), .val (.int p3), .val (.int p4), .val (.int p5), .val (.int p6)] []))
                refine Go.st (fun t k => XS.iconst X0.here hx rfl (hb hby d6_64) k) ?_
                show Go p.tables e below PP (s₁.setTop (mkF m 65 #[.val (.int p1), .val (.int p2), .val (.int p3), .val (.int p4), .val (.int p5), .val (.int p6)] [(.int (4 : Int32))]))
                rw [hPP]
                refine endI X0 hx hlk hret (hb hby d6_65) ?_ (by decide) (by decide)
                show Q6 Z p1 p2 p3 p4 p5 p6 h0 n0 (some (.int (4 : Int32))) s₁.heap _
                rw [e0]
                exact ⟨by simp [fdash, hc1, hc14, hc20, hc27, hc40, hc54, hc61], rfl, rfl⟩
              · --
                refine Go.st (fun t k => XS.icmpYes X0.here hx rfl (pc0 := 61) (pc' := 66) rfl (hb hby d6_61) rfl (XT.ii_ne_t hc61) (by decide) (by decide) k) ?_
                show Go p.tables e below PP (s₁.setTop (mkF m 66 #[.val (.int p1), .val (.int p2), .val (.int p3), .val (.int p4), .val (.int p5), .val (.int p6)] []))
                refine Go.st (fun t k => XS.iloadN X0.here hx rfl (hb hby d6_66) rfl k) ?_
                show Go p.tables e below PP (s₁.setTop (mkF m 67 #[.val (.int p1), .val (.int p2), .val (.int p3), .val (.int p4), .val (.int p5), .val (.int p6)] [(.int p1)]))
                rw [hPP]
                refine endI X0 hx hlk hret (hb hby d6_67) ?_ (by decide) (by decide)
                show Q6 Z p1 p2 p3 p4 p5 p6 h0 n0 (some (.int p1)) s₁.heap _
                rw [e0]
                exact ⟨by simp [fdash, hc1, hc14, hc20, hc27, hc40, hc54, hc61], rfl, rfl⟩
            · --
              refine Go.st (fun t k => XS.icmpYes X0.here hx rfl (pc0 := 54) (pc' := 66) rfl (hb hby d6_54) rfl (XT.ii_le_t hc54) (by decide) (by decide) k) ?_
              show Go p.tables e below PP (s₁.setTop (mkF m 66 #[.val (.int p1), .val (.int p2), .val (.int p3), .val (.int p4), .val (.int p5), .val (.int p6)] []))
              refine Go.st (fun t k => XS.iloadN X0.here hx rfl (hb hby d6_66) rfl k) ?_
              show Go p.tables e below PP (s₁.setTop (mkF m 67 #[.val (.int p1), .val (.int p2), .val (.int p3), .val (.int p4), .val (.int p5), .val (.int p6)] [(.int p1)]))
              rw [hPP]
              refine endI X0 hx hlk hret (hb hby d6_67) ?_ (by decide) (by decide)
              show Q6 Z p1 p2 p3 p4 p5 p6 h0 n0 (some (.int p1)) s₁.heap _
              rw [e0]
              exact ⟨by simp [fdash, hc1, hc14, hc20, hc27, hc40, hc54], rfl, rfl⟩
    · --
      refine Go.st (fun t k => XS.icmpYes X0.here hx rfl (pc0 := 14) (pc' := 25) rfl (hb hby d6_14) rfl (XT.ii_le_t hc14) (by decide) (by decide) k) ?_
      show Go p.tables e below PP (s₁.setTop (mkF m 25 #[.val (.int p1), .val (.int p2), .val (.int p3), .val (.int p4), .val (.int p5), .val (.int p6)] []))
      refine Go.st (fun t k => XS.iloadN X0.here hx rfl (hb hby d6_25) rfl k) ?_
      show Go p.tables e below PP (s₁.setTop (mkF m 26 #[.val (.int p1), .val (.int p2), .val (.int p3), .val (.int p4), .val (.int p5), .val (.int p6)] [(.int p1)]))
      refine Go.st (fun t k => XS.iconst X0.here hx rfl (hb hby d6_26) k) ?_
      show Go p.tables e below PP (s₁.setTop (mkF m 27 #[.val (.int p1), .val (.int p2), .val (.int p3), .val (.int p4), .val (.int p5), .val (.int p6)] [(.int (2 : Int32)), (.int p1)]))
      by_cases hc27 : (2 : Int32) < p1
      · --
        refine Go.st (fun t k => XS.icmpNo X0.here hx rfl (hb hby d6_27) rfl (XT.ii_le_f hc27) k) ?_
        show Go p.tables e below PP (s₁.setTop (mkF m 30 #[.val (.int p1), .val (.int p2), .val (.int p3), .val (.int p4), .val (.int p5), .val (.int p6)] []))
        refine Go.st (fun t k => XS.iloadN X0.here hx rfl (hb hby d6_30) rfl k) ?_
        show Go p.tables e below PP (s₁.setTop (mkF m 31 #[.val (.int p1), .val (.int p2), .val (.int p3), .val (.int p4), .val (.int p5), .val (.int p6)] [(.int p4)]))
        refine Go.st (fun t k => XS.bipush X0.here hx rfl (hb hby d6_31) k) ?_
        show Go p.tables e below PP (s₁.setTop (mkF m 33 #[.val (.int p1), .val (.int p2), .val (.int p3), .val (.int p4), .val (.int p5), .val (.int p6)] [(.int (45 : Int32)), (.int p4)]))
        by_cases hc33 : p4 = (45 : Int32)
        · --
          refine Go.st (fun t k => XS.icmpNo X0.here hx rfl (hb hby d6_33) rfl (XT.ii_ne_f hc33) k) ?_
          show Go p.tables e below PP (s₁.setTop (mkF m 36 #[.val (.int p1), .val (.int p2), .val (.int p3), .val (.int p4), .val (.int p5), .val (.int p6)] []))
          refine Go.st (fun t k => XS.iconst X0.here hx rfl (hb hby d6_36) k) ?_
          show Go p.tables e below PP (s₁.setTop (mkF m 37 #[.val (.int p1), .val (.int p2), .val (.int p3), .val (.int p4), .val (.int p5), .val (.int p6)] [(.int (2 : Int32))]))
          rw [hPP]
          refine endI X0 hx hlk hret (hb hby d6_37) ?_ (by decide) (by decide)
          show Q6 Z p1 p2 p3 p4 p5 p6 h0 n0 (some (.int (2 : Int32))) s₁.heap _
          rw [e0]
          exact ⟨by simp [fdash, hc1, hc14, hc27, hc33], rfl, rfl⟩
        · --
          refine Go.st (fun t k => XS.icmpYes X0.here hx rfl (pc0 := 33) (pc' := 38) rfl (hb hby d6_33) rfl (XT.ii_ne_t hc33) (by decide) (by decide) k) ?_
          show Go p.tables e below PP (s₁.setTop (mkF m 38 #[.val (.int p1), .val (.int p2), .val (.int p3), .val (.int p4), .val (.int p5), .val (.int p6)] []))
          refine Go.st (fun t k => XS.iloadN X0.here hx rfl (hb hby d6_38) rfl k) ?_
          show Go p.tables e below PP (s₁.setTop (mkF m 39 #[.val (.int p1), .val (.int p2), .val (.int p3), .val (.int p4), .val (.int p5), .val (.int p6)] [(.int p1)]))
          refine Go.st (fun t k => XS.iconst X0.here hx rfl (hb hby d6_39) k) ?_
          show Go p.tables e below PP (s₁.setTop (mkF m 40 #[.val (.int p1), .val (.int p2), .val (.int p3), .val (.int p4), .val (.int p5), .val (.int p6)] [(.int (3 : Int32)), (.int p1)]))
          by_cases hc40 : (3 : Int32) < p1
          · --
            refine Go.st (fun t k => XS.icmpNo X0.here hx rfl (hb hby d6_40) rfl (XT.ii_le_f hc40) k) ?_
            show Go p.tables e below PP (s₁.setTop (mkF m 43 #[.val (.int p1), .val (.int p2), .val (.int p3), .val (.int p4), .val (.int p5), .val (.int p6)] []))
            refine Go.st (fun t k => XS.iload X0.here hx rfl (hb hby d6_43) rfl k) ?_
            show Go p.tables e below PP (s₁.setTop (mkF m 45 #[.val (.int p1), .val (.int p2), .val (.int p3), .val (.int p4), .val (.int p5), .val (.int p6)] [(.int p5)]))
            refine Go.st (fun t k => XS.bipush X0.here hx rfl (hb hby d6_45) k) ?_
            show Go p.tables e below PP (s₁.setTop (mkF m 47 #[.val (.int p1), .val (.int p2), .val (.int p3), .val (.int p4), .val (.int p5), .val (.int p6)] [(.int (45 : Int32)), (.int p5)]))
            by_cases hc47 : p5 = (45 : Int32)
            · --
              refine Go.st (fun t k => XS.icmpNo X0.here hx rfl (hb hby d6_47) rfl (XT.ii_ne_f hc47) k) ?_
              show Go p.tables e below PP (s₁.setTop (mkF m 50 #[.val (.int p1), .val (.int p2), .val (.int p3), .val (.int p4), .val (.int p5), .val (.int p6)] []))
              refine Go.st (fun t k => XS.iconst X0.here hx rfl (hb hby d6_50) k) ?_
              show Go p.tables e below PP (s₁.setTop (mkF m 51 #[.val (.int p1), .val (.int p2), .val (.int p3), .val (.int p4), .val (.int p5), .val (.int p6)] [(.int (3 : Int32))]))
              rw [hPP]
              refine endI X0 hx hlk hret (hb hby d6_51) ?_ (by decide) (by decide)
              show Q6 Z p1 p2 p3 p4 p5 p6 h0 n0 (some (.int (3 : Int32))) s₁.heap _
              rw [e0]
              exact ⟨by simp [fdash, hc1, hc14, hc27, hc33, hc40, hc47], rfl, rfl⟩
            · --
              refine Go.st (fun t k => XS.icmpYes X0.here hx rfl (pc0 := 47) (pc' := 52) rfl (hb hby d6_47) rfl (XT.ii_ne_t hc47) (by decide) (by decide) k) ?_
              show Go p.tables e below PP (s₁.setTop (mkF m 52 #[.val (.int p1), .val (.int p2), .val (.int p3), .val (.int p4), .val (.int p5), .val (.int p6)] []))
              refine Go.st (fun t k => XS.iloadN X0.here hx rfl (hb hby d6_52) rfl k) ?_
              show Go p.tables e below PP (s₁.setTop (mkF m 53 #[.val (.int p1), .val (.int p2), .val (.int p3), .val (.int p4), .val (.int p5), .val (.int p6)] [(.int p1)]))
              refine Go.st (fun t k => XS.iconst X0.here hx rfl (hb hby d6_53) k) ?_
              show Go p.tables e below PP (s₁.setTop (mkF m 54 #[.val (.int p1), .val (.int p2), .val (.int p3), .val (.int p4), .val (.int p5), .val (.int p6)] [(.int (4 : Int32)), (.int p1)]))
              by_cases hc54 : (4 : Int32) < p1
              · --
                refine Go.st (fun t k => XS.icmpNo X0.here hx rfl (hb hby d6_54) rfl (XT.ii_le_f hc54) k) ?_
                show Go p.tables e below PP (s₁.setTop (mkF m 57 #[.val (.int p1), .val (.int p2), .val (.int p3), .val (.int p4), .val (.int p5), .val (.int p6)] []))
                refine Go.st (fun t k => XS.iload X0.here hx rfl (hb hby d6_57) rfl k) ?_
                show Go p.tables e below PP (s₁.setTop (mkF m 59 #[.val (.int p1), .val (.int p2), .val (.int p3), .val (.int p4), .val (.int p5), .val (.int p6)] [(.int p6)]))
                refine Go.st (fun t k => XS.bipush X0.here hx rfl (hb hby d6_59) k) ?_
                show Go p.tables e below PP (s₁.setTop (mkF m 61 #[.val (.int p1), .val (.int p2), .val (.int p3), .val (.int p4), .val (.int p5), .val (.int p6)] [(.int (45 : Int32)), (.int p6)]))
                by_cases hc61 : p6 = (45 : Int32)
                · --
                  refine Go.st (fun t k => XS.icmpNo X0.here hx rfl (hb hby d6_61) rfl (XT.ii_ne_f hc61) k) ?_
                  show Go p.tables e below PP (s₁.setTop (mkF m 64 #[.val (.int p1), .val (.int p2), .val (.int p3), .val (.int p4), .val (.int p5), .val (.int p6)] []))
                  refine Go.st (fun t k => XS.iconst X0.here hx rfl (hb hby d6_64) k) ?_
                  show Go p.tables e below PP (s₁.setTop (mkF m 65 #[.val (.int p1), .val (.int p2), .val (.int p3), .val (.int p4), .val (.int p5), .val (.int p6)] [(.int (4 : Int32))]))
                  rw [hPP]
                  refine endI X0 hx hlk hret (hb hby d6_65) ?_ (by decide) (by decide)
                  show Q6 Z p1 p2 p3 p4 p5 p6 h0 n0 (some (.int (4 : Int32))) s₁.heap _
                  rw [e0]
                  exact ⟨by simp [fdash, hc1, hc14, hc27, hc33, hc40, hc47, hc54, hc61], rfl, rfl⟩
                · --
                  refine Go.st (fun t k => XS.icmpYes X0.here hx rfl (pc0 := 61) (pc' := 66) rfl (hb hby d6_61) rfl (XT.ii_ne_t hc61) (by decide) (by decide) k) ?_
                  show Go p.tables e below PP (s₁.setTop (mkF m 66 #[.val (.int p1), .val (.int p2), .val (.int p3), .val (.int p4), .val (.int p5), .val (.int p6)] []))
                  refine Go.st (fun t k => XS.iloadN X0.here hx rfl (hb hby d6_66) rfl k) ?_
                  show Go p.tables e below PP (s₁.setTop (mkF m 67 #[.val (.int p1), .val (.int p2), .val (.int p3), .val (.int p4), .val (.int p5), .val (.int p6)] [(.int p1)]))
                  rw [hPP]
                  refine endI X0 hx hlk hret (hb hby d6_67) ?_ (by decide) (by decide)
                  show Q6 Z p1 p2 p3 p4 p5 p6 h0 n0 (some (.int p1)) s₁.heap _
                  rw [e0]
                  exact ⟨by simp [fdash, hc1, hc14, hc27, hc33, hc40, hc47, hc54, hc61], rfl, rfl⟩
              · --
                refine Go.st (fun t k => XS.icmpYes X0.here hx rfl (pc0 := 54) (pc' := 66) rfl (hb hby d6_54) rfl (XT.ii_le_t hc54) (by decide) (by decide) k) ?_
                show Go p.tables e below PP (s₁.setTop (mkF m 66 #[.val (.int p1), .val (.int p2), .val (.int p3), .val (.int p4), .val (.int p5), .val (.int p6)] []))
                refine Go.st (fun t k => XS.iloadN X0.here hx rfl (hb hby d6_66) rfl k) ?_
                show Go p.tables e below PP (s₁.setTop (mkF m 67 #[.val (.int p1), .val (.int p2), .val (.int p3), .val (.int p4), .val (.int p5), .val (.int p6)] [(.int p1)]))
                rw [hPP]
                refine endI X0 hx hlk hret (hb hby d6_67) ?_ (by decide) (by decide)
                show Q6 Z p1 p2 p3 p4 p5 p6 h0 n0 (some (.int p1)) s₁.heap _
                rw [e0]
                exact ⟨by simp [fdash, hc1, hc14, hc27, hc33, hc40, hc47, hc54], rfl, rfl⟩
          · --
            refine Go.st (fun t k => XS.icmpYes X0.here hx rfl (pc0 := 40) (pc' := 52) rfl (hb hby d6_40) rfl (XT.ii_le_t hc40) (by decide) (by decide) k) ?_
            show Go p.tables e below PP (s₁.setTop (mkF m 52 #[.val (.int p1), .val (.int p2), .val (.int p3), .val (.int p4), .val (.int p5), .val (.int p6)] []))
            refine Go.st (fun t k => XS.iloadN X0.here hx rfl (hb hby d6_52) rfl k) ?_
            show Go p.tables e below PP (s₁.setTop (mkF m 53 #[.val (.int p1), .val (.int p2), .val (.int p3), .val (.int p4), .val (.int p5), .val (.int p6)] [(.int p1)]))
            refine Go.st (fun t k => XS.iconst X0.here hx rfl (hb hby d6_53) k) ?_
            show Go p.tables e below PP (s₁.setTop (mkF m 54 #[.val (.int p1), .val (.int p2), .val (.int p3), .val (.int p4), .val (.int p5), .val (.int p6)] [(.int (4 : Int32)), (.int p1)]))
            by_cases hc54 : (4 : Int32) < p1
            · --
              refine Go.st (fun t k => XS.icmpNo X0.here hx rfl (hb hby d6_54) rfl (XT.ii_le_f hc54) k) ?_
              show Go p.tables e below PP (s₁.setTop (mkF m 57 #[.val (.int p1), .val (.int p2), .val (.int p3), .val (.int p4), .val (.int p5), .val (.int p6)] []))
              refine Go.st (fun t k => XS.iload X0.here hx rfl (hb hby d6_57) rfl k) ?_
              show Go p.tables e below PP (s₁.setTop (mkF m 59 #[.val (.int p1), .val (.int p2), .val (.int p3), .val (.int p4), .val (.int p5), .val (.int p6)] [(.int p6)]))
              refine Go.st (fun t k => XS.bipush X0.here hx rfl (hb hby d6_59) k) ?_
              show Go p.tables e below PP (s₁.setTop (mkF m 61 #[.val (.int p1), .val (.int p2), .val (.int p3), .val (.int p4), .val (.int p5), .val (.int p6)] [(.int (45 : Int32)), (.int p6)]))
              by_cases hc61 : p6 = (45 : Int32)
              · --
                refine Go.st (fun t k => XS.icmpNo X0.here hx rfl (hb hby d6_61) rfl (XT.ii_ne_f hc61) k) ?_
                show Go p.tables e below PP (s₁.setTop (mkF m 64 #[.val (.int p1), .val (.int p2), .val (.int p3), .val (.int p4), .val (.int p5), .val (.int p6)] []))
                refine Go.st (fun t k => XS.iconst X0.here hx rfl (hb hby d6_64) k) ?_
                show Go p.tables e below PP (s₁.setTop (mkF m 65 #[.val (.int p1), .val (.int p2), .val (.int p3), .val (.int p4), .val (.int p5), .val (.int p6)] [(.int (4 : Int32))]))
                rw [hPP]
                refine endI X0 hx hlk hret (hb hby d6_65) ?_ (by decide) (by decide)
                show Q6 Z p1 p2 p3 p4 p5 p6 h0 n0 (some (.int (4 : Int32))) s₁.heap _
                rw [e0]
                exact ⟨by simp [fdash, hc1, hc14, hc27, hc33, hc40, hc54, hc61], rfl, rfl⟩
              · --
                refine Go.st (fun t k => XS.icmpYes X0.here hx rfl (pc0 := 61) (pc' := 66) rfl (hb hby d6_61) rfl (XT.ii_ne_t hc61) (by decide) (by decide) k) ?_
                show Go p.tables e below PP (s₁.setTop (mkF m 66 #[.val (.int p1), .val (.int p2), .val (.int p3), .val (.int p4), .val (.int p5), .val (.int p6)] []))
                refine Go.st (fun t k => XS.iloadN X0.here hx rfl (hb hby d6_66) rfl k) ?_
                show Go p.tables e below PP (s₁.setTop (mkF m 67 #[.val (.int p1), .val (.int p2), .val (.int p3), .val (.int p4), .val (.int p5), .val (.int p6)] [(.int p1)]))
                rw [hPP]
                refine endI X0 hx hlk hret (hb hby d6_67) ?_ (by decide) (by decide)
                show Q6 Z p1 p2 p3 p4 p5 p6 h0 n0 (some (.int p1)) s₁.heap _
                rw [e0]
                exact ⟨by simp [fdash, hc1, hc14, hc27, hc33, hc40, hc54, hc61], rfl, rfl⟩
            · --
              refine Go.st (fun t k => XS.icmpYes X0.here hx rfl (pc0 := 54) (pc' := 66) rfl (hb hby d6_54) rfl (XT.ii_le_t hc54) (by decide) (by decide) k) ?_
              show Go p.tables e below PP (s₁.setTop (mkF m 66 #[.val (.int p1), .val (.int p2), .val (.int p3), .val (.int p4), .val (.int p5), .val (.int p6)] []))
              refine Go.st (fun t k => XS.iloadN X0.here hx rfl (hb hby d6_66) rfl k) ?_
              show Go p.tables e below PP (s₁.setTop (mkF m 67 #[.val (.int p1), .val (.int p2), .val (.int p3), .val (.int p4), .val (.int p5), .val (.int p6)] [(.int p1)]))
              rw [hPP]
              refine endI X0 hx hlk hret (hb hby d6_67) ?_ (by decide) (by decide)
              show Q6 Z p1 p2 p3 p4 p5 p6 h0 n0 (some (.int p1)) s₁.heap _
              rw [e0]
              exact ⟨by simp [fdash, hc1, hc14, hc27, hc33, hc40, hc54], rfl, rfl⟩
      · --
        refine Go.st (fun t k => XS.icmpYes X0.here hx rfl (pc0 := 27) (pc' := 38) rfl (hb hby d6_27) rfl (XT.ii_le_t hc27) (by decide) (by decide) k) ?_
        show Go p.tables e below PP (s₁.setTop (mkF m 38 #[.val (.int p1), .val (.int p2), .val (.int p3), .val (.int p4), .val (.int p5), .val (.int p6)] []))
        refine Go.st (fun t k => XS.iloadN X0.here hx rfl (hb hby d6_38) rfl k) ?_
        show Go p.tables e below PP (s₁.setTop (mkF m 39 #[.val (.int p1), .val (.int p2), .val (.int p3), .val (.int p4), .val (.int p5), .val (.int p6)] [(.int p1)]))
        refine Go.st (fun t k => XS.iconst X0.here hx rfl (hb hby d6_39) k) ?_
        show Go p.tables e below PP (s₁.setTop (mkF m 40 #[.val (.int p1), .val (.int p2), .val (.int p3), .val (.int p4), .val (.int p5), .val (.int p6)] [(.int (3 : Int32)), (.int p1)]))
        by_cases hc40 : (3 : Int32) < p1
        · --
          refine Go.st (fun t k => XS.icmpNo X0.here hx rfl (hb hby d6_40) rfl (XT.ii_le_f hc40) k) ?_
          show Go p.tables e below PP (s₁.setTop (mkF m 43 #[.val (.int p1), .val (.int p2), .val (.int p3), .val (.int p4), .val (.int p5), .val (.int p6)] []))
          refine Go.st (fun t k => XS.iload X0.here hx rfl (hb hby d6_43) rfl k) ?_
          show Go p.tables e below PP (s₁.setTop (mkF m 45 #[.val (.int p1), .val (.int p2), .val (.int p3), .val (.int p4), .val (.int p5), .val (.int p6)] [(.int p5)]))
          refine Go.st (fun t k => XS.bipush X0.here hx rfl (hb hby d6_45) k) ?_
          show Go p.tables e below PP (s₁.setTop (mkF m 47 #[.val (.int p1), .val (.int p2), .val (.int p3), .val (.int p4), .val (.int p5), .val (.int p6)] [(.int (45 : Int32)), (.int p5)]))
          by_cases hc47 : p5 = (45 : Int32)
          · --
            refine Go.st (fun t k => XS.icmpNo X0.here hx rfl (hb hby d6_47) rfl (XT.ii_ne_f hc47) k) ?_
            show Go p.tables e below PP (s₁.setTop (mkF m 50 #[.val (.int p1), .val (.int p2), .val (.int p3), .val (.int p4), .val (.int p5), .val (.int p6)] []))
            refine Go.st (fun t k => XS.iconst X0.here hx rfl (hb hby d6_50) k) ?_
            show Go p.tables e below PP (s₁.setTop (mkF m 51 #[.val (.int p1), .val (.int p2), .val (.int p3), .val (.int p4), .val (.int p5), .val (.int p6)] [(.int (3 : Int32))]))
            rw [hPP]
            refine endI X0 hx hlk hret (hb hby d6_51) ?_ (by decide) (by decide)
            show Q6 Z p1 p2 p3 p4 p5 p6 h0 n0 (some (.int (3 : Int32))) s₁.heap _
            rw [e0]
            exact ⟨by simp [fdash, hc1, hc14, hc27, hc40, hc47], rfl, rfl⟩
          · --
            refine Go.st (fun t k => XS.icmpYes X0.here hx rfl (pc0 := 47) (pc' := 52) rfl (hb hby d6_47) rfl (XT.ii_ne_t hc47) (by decide) (by decide) k) ?_
            show Go p.tables e below PP (s₁.setTop (mkF m 52 #[.val (.int p1), .val (.int p2), .val (.int p3), .val (.int p4), .val (.int p5), .val (.int p6)] []))
            refine Go.st (fun t k => XS.iloadN X0.here hx rfl (hb hby d6_52) rfl k) ?_
            show Go p.tables e below PP (s₁.setTop (mkF m 53 #[.val (.int p1), .val (.int p2), .val (.int p3), .val (.int p4), .val (.int p5), .val (.int p6)] [(.int p1)]))
            refine Go.st (fun t k => XS.iconst X0.here hx rfl (hb hby d6_53) k) ?_
            show Go p.tables e below PP (s₁.setTop (mkF m 54 #[.val (.int p1), .val (.int p2), .val (.int p3), .val (.int p4), .val (.int p5), .val (.int p6)] [(.int (4 : Int32)), (.int p1)]))
            by_cases hc54 : (4 : Int32) < p1
            · --
              refine Go.st (fun t k => XS.icmpNo X0.here hx rfl (hb hby d6_54) rfl (XT.ii_le_f hc54) k) ?_
              show Go p.tables e below PP (s₁.setTop (mkF m 57 #[.val (.int p1), .val (.int p2), .val (.int p3), .val (.int p4), .val (.int p5), .val (.int p6)] []))
              refine Go.st (fun t k => XS.iload X0.here hx rfl (hb hby d6_57) rfl k) ?_
              show Go p.tables e below PP (s₁.setTop (mkF m 59 #[.val (.int p1), .val (.int p2), .val (.int p3), .val (.int p4), .val (.int p5), .val (.int p6)] [(.int p6)]))
              refine Go.st (fun t k => XS.bipush X0.here hx rfl (hb hby d6_59) k) ?_
              show Go p.tables e below PP (s₁.setTop (mkF m 61 #[.val (.int p1), .val (.int p2), .val (.int p3), .val (.int p4), .val (.int p5), .val (.int p6)] [(.int (45 : Int32)), (.int p6)]))
              by_cases hc61 : p6 = (45 : Int32)
              · --
                refine Go.st (fun t k => XS.icmpNo X0.here hx rfl (hb hby d6_61) rfl (XT.ii_ne_f hc61) k) ?_
                show Go p.tables e below PP (s₁.setTop (mkF m 64 #[.val (.int p1), .val (.int p2), .val (.int p3), .val (.int p4), .val (.int p5), .val (.int p6)] []))
                refine Go.st (fun t k => XS.iconst X0.here hx rfl (hb hby d6_64) k) ?_
                show Go p.tables e below PP (s₁.setTop (mkF m 65 #[.val (.int p1), .val (.int p2), .val (.int p3), .val (.int p4), .val (.int p5), .val (.int p6)] [(.int (4 : Int32))]))
                rw [hPP]
                refine endI X0 hx hlk hret (hb hby d6_65) ?_ (by decide) (by decide)
                show Q6 Z p1 p2 p3 p4 p5 p6 h0 n0 (some (.int (4 : Int32))) s₁.heap _
                rw [e0]
                exact ⟨by simp [fdash, hc1, hc14, hc27, hc40, hc47, hc54, hc61], rfl, rfl⟩
              · --
                refine Go.st (fun t k => XS.icmpYes X0.here hx rfl (pc0 := 61) (pc' := 66) rfl (hb hby d6_61) rfl (XT.ii_ne_t hc61) (by decide) (by decide) k) ?_
                show Go p.tables e below PP (s₁.setTop (mkF m 66 #[.val (.int p1), .val (.int p2), .val (.int p3), .val (.int p4), .val (.int p5), .val (.int p6)] []))
                refine Go.st (fun t k => XS.iloadN X0.here hx rfl (hb hby d6_66) rfl k) ?_
                show Go p.tables e below PP (s₁.setTop (mkF m 67 #[.val (.int p1), .val (.int p2), .val (.int p3), .val (.int p4), .val (.int p5), .val (.int p6)] [(.int p1)]))
                rw [hPP]
                refine endI X0 hx hlk hret (hb hby d6_67) ?_ (by decide) (by decide)
                show Q6 Z p1 p2 p3 p4 p5 p6 h0 n0 (some (.int p1)) s₁.heap _
                rw [e0]
                exact ⟨by simp [fdash, hc1, hc14, hc27, hc40, hc47, hc54, hc61], rfl, rfl⟩
            · --
              refine Go.st (fun t k => XS.icmpYes X0.here hx rfl (pc0 := 54) (pc' := 66) rfl (hb hby d6_54) rfl (XT.ii_le_t hc54) (by decide) (by decide) k) ?_
              show Go p.tables e below PP (s₁.setTop (mkF m 66 #[.val (.int p1), .val (.int p2), .val (.int p3), .val (.int p4), .val (.int p5), .val (.int p6)] []))
              refine Go.st (fun t k => XS.iloadN X0.here hx rfl (hb hby d6_66) rfl k) ?_
              show Go p.tables e below PP (s₁.setTop (mkF m 67 #[.val (.int p1), .val (.int p2), .val (.int p3), .val (.int p4), .val (.int p5), .val (.int p6)] [(.int p1)]))
              rw [hPP]
              refine endI X0 hx hlk hret (hb hby d6_67) ?_ (by decide) (by decide)
              show Q6 Z p1 p2 p3 p4 p5 p6 h0 n0 (some (.int p1)) s₁.heap _
              rw [e0]
              exact ⟨by simp [fdash, hc1, hc14, hc27, hc40, hc47, hc54], rfl, rfl⟩
        · --
          refine Go.st (fun t k => XS.icmpYes X0.here hx rfl (pc0 := 40) (pc' := 52) rfl (hb hby d6_40) rfl (XT.ii_le_t hc40) (by decide) (by decide) k) ?_
          show Go p.tables e below PP (s₁.setTop (mkF m 52 #[.val (.int p1), .val (.int p2), .val (.int p3), .val (.int p4), .val (.int p5), .val (.int p6)] []))
          refine Go.st (fun t k => XS.iloadN X0.here hx rfl (hb hby d6_52) rfl k) ?_
          show Go p.tables e below PP (s₁.setTop (mkF m 53 #[.val (.int p1), .val (.int p2), .val (.int p3), .val (.int p4), .val (.int p5), .val (.int p6)] [(.int p1)]))
          refine Go.st (fun t k => XS.iconst X0.here hx rfl (hb hby d6_53) k) ?_
          show Go p.tables e below PP (s₁.setTop (mkF m 54 #[.val (.int p1), .val (.int p2), .val (.int p3), .val (.int p4), .val (.int p5), .val (.int p6)] [(.int (4 : Int32)), (.int p1)]))
          by_cases hc54 : (4 : Int32) < p1
          · --
            refine Go.st (fun t k => XS.icmpNo X0.here hx rfl (hb hby d6_54) rfl (XT.ii_le_f hc54) k) ?_
            show Go p.tables e below PP (s₁.setTop (mkF m 57 #[.val (.int p1), .val (.int p2), .val (.int p3), .val (.int p4), .val (.int p5), .val (.int p6)] []))
            refine Go.st (fun t k => XS.iload X0.here hx rfl (hb hby d6_57) rfl k) ?_
            show Go p.tables e below PP (s₁.setTop (mkF m 59 #[.val (.int p1), .val (.int p2), .val (.int p3), .val (.int p4), .val (.int p5), .val (.int p6)] [(.int p6)]))
            refine Go.st (fun t k => XS.bipush X0.here hx rfl (hb hby d6_59) k) ?_
            show Go p.tables e below PP (s₁.setTop (mkF m 61 #[.val (.int p1), .val (.int p2), .val (.int p3), .val (.int p4), .val (.int p5), .val (.int p6)] [(.int (45 : Int32)), (.int p6)]))
            by_cases hc61 : p6 = (45 : Int32)
            · --
              refine Go.st (fun t k => XS.icmpNo X0.here hx rfl (hb hby d6_61) rfl (XT.ii_ne_f hc61) k) ?_
              show Go p.tables e below PP (s₁.setTop (mkF m 64 #[.val (.int p1), .val (.int p2), .val (.int p3), .val (.int p4), .val (.int p5), .val (.int p6)] []))
              refine Go.st (fun t k => XS.iconst X0.here hx rfl (hb hby d6_64) k) ?_
              show Go p.tables e below PP (s₁.setTop (mkF m 65 #[.val (.int p1), .val (.int p2), .val (.int p3), .val (.int p4), .val (.int p5), .val (.int p6)] [(.int (4 : Int32))]))
              rw [hPP]
              refine endI X0 hx hlk hret (hb hby d6_65) ?_ (by decide) (by decide)
              show Q6 Z p1 p2 p3 p4 p5 p6 h0 n0 (some (.int (4 : Int32))) s₁.heap _
              rw [e0]
              exact ⟨by simp [fdash, hc1, hc14, hc27, hc40, hc54, hc61], rfl, rfl⟩
            · --
              refine Go.st (fun t k => XS.icmpYes X0.here hx rfl (pc0 := 61) (pc' := 66) rfl (hb hby d6_61) rfl (XT.ii_ne_t hc61) (by decide) (by decide) k) ?_
              show Go p.tables e below PP (s₁.setTop (mkF m 66 #[.val (.int p1), .val (.int p2), .val (.int p3), .val (.int p4), .val (.int p5), .val (.int p6)] []))
              refine Go.st (fun t k => XS.iloadN X0.here hx rfl (hb hby d6_66) rfl k) ?_
              show Go p.tables e below PP (s₁.setTop (mkF m 67 #[.val (.int p1), .val (.int p2), .val (.int p3), .val (.int p4), .val (.int p5), .val (.int p6)] [(.int p1)]))
              rw [hPP]
              refine endI X0 hx hlk hret (hb hby d6_67) ?_ (by decide) (by decide)
              show Q6 Z p1 p2 p3 p4 p5 p6 h0 n0 (some (.int p1)) s₁.heap _
              rw [e0]
              exact ⟨by simp [fdash, hc1, hc14, hc27, hc40, hc54, hc61], rfl, rfl⟩
          · --
            refine Go.st (fun t k => XS.icmpYes X0.here hx rfl (pc0 := 54) (pc' := 66) rfl (hb hby d6_54) rfl (XT.ii_le_t hc54) (by decide) (by decide) k) ?_
            show Go p.tables e below PP (s₁.setTop (mkF m 66 #[.val (.int p1), .val (.int p2), .val (.int p3), .val (.int p4), .val (.int p5), .val (.int p6)] []))
            refine Go.st (fun t k => XS.iloadN X0.here hx rfl (hb hby d6_66) rfl k) ?_
            show Go p.tables e below PP (s₁.setTop (mkF m 67 #[.val (.int p1), .val (.int p2), .val (.int p3), .val (.int p4), .val (.int p5), .val (.int p6)] [(.int p1)]))
            rw [hPP]
            refine endI X0 hx hlk hret (hb hby d6_67) ?_ (by decide) (by decide)
            show Q6 Z p1 p2 p3 p4 p5 p6 h0 n0 (some (.int p1)) s₁.heap _
            rw [e0]
            exact ⟨by simp [fdash, hc1, hc14, hc27, hc40, hc54], rfl, rfl⟩
theorem d2_0 : decode method_3_code 0 = .ok (.iload_n 0, 1) := by decide +kernel
theorem d2_1 : decode method_3_code 1 = .ok (.ifCond .ne 14, 3) := by decide +kernel
theorem d2_4 : decode method_3_code 4 = .ok (.new 7, 3) := by decide +kernel
theorem d2_7 : decode method_3_code 7 = .ok (.dup, 1) := by decide +kernel
theorem d2_8 : decode method_3_code 8 = .ok (.iconst 0, 1) := by decide +kernel
theorem d2_9 : decode method_3_code 9 = .ok (.newarray .char, 2) := by decide +kernel
theorem d2_11 : decode method_3_code 11 = .ok (.invokespecial 9, 3) := by decide +kernel
theorem d2_14 : decode method_3_code 14 = .ok (.areturn, 1) := by decide +kernel
theorem d2_15 : decode method_3_code 15 = .ok (.iload_n 0, 1) := by decide +kernel
theorem d2_16 : decode method_3_code 16 = .ok (.iconst 1, 1) := by decide +kernel
theorem d2_17 : decode method_3_code 17 = .ok (.if_icmp .ne 18, 3) := by decide +kernel
theorem d2_20 : decode method_3_code 20 = .ok (.new 7, 3) := by decide +kernel
theorem d2_23 : decode method_3_code 23 = .ok (.dup, 1) := by decide +kernel
theorem d2_24 : decode method_3_code 24 = .ok (.iconst 1, 1) := by decide +kernel
theorem d2_25 : decode method_3_code 25 = .ok (.newarray .char, 2) := by decide +kernel
theorem d2_27 : decode method_3_code 27 = .ok (.dup, 1) := by decide +kernel
theorem d2_28 : decode method_3_code 28 = .ok (.iconst 0, 1) := by decide +kernel
theorem d2_29 : decode method_3_code 29 = .ok (.iload_n 1, 1) := by decide +kernel
theorem d2_30 : decode method_3_code 30 = .ok (.castore, 1) := by decide +kernel
theorem d2_31 : decode method_3_code 31 = .ok (.invokespecial 9, 3) := by decide +kernel
theorem d2_34 : decode method_3_code 34 = .ok (.areturn, 1) := by decide +kernel
theorem d2_35 : decode method_3_code 35 = .ok (.iload_n 0, 1) := by decide +kernel
theorem d2_36 : decode method_3_code 36 = .ok (.iconst 2, 1) := by decide +kernel
theorem d2_37 : decode method_3_code 37 = .ok (.if_icmp .ne 22, 3) := by decide +kernel
theorem d2_40 : decode method_3_code 40 = .ok (.new 7, 3) := by decide +kernel
theorem d2_43 : decode method_3_code 43 = .ok (.dup, 1) := by decide +kernel
theorem d2_44 : decode method_3_code 44 = .ok (.iconst 2, 1) := by decide +kernel
theorem d2_45 : decode method_3_code 45 = .ok (.newarray .char, 2) := by decide +kernel
theorem d2_47 : decode method_3_code 47 = .ok (.dup, 1) := by decide +kernel
theorem d2_48 : decode method_3_code 48 = .ok (.iconst 0, 1) := by decide +kernel
theorem d2_49 : decode method_3_code 49 = .ok (.iload_n 1, 1) := by decide +kernel
theorem d2_50 : decode method_3_code 50 = .ok (.castore, 1) := by decide +kernel
theorem d2_51 : decode method_3_code 51 = .ok (.dup, 1) := by decide +kernel
theorem d2_52 : decode method_3_code 52 = .ok (.iconst 1, 1) := by decide +kernel
theorem d2_53 : decode method_3_code 53 = .ok (.iload_n 2, 1) := by decide +kernel
theorem d2_54 : decode method_3_code 54 = .ok (.castore, 1) := by decide +kernel
theorem d2_55 : decode method_3_code 55 = .ok (.invokespecial 9, 3) := by decide +kernel
theorem d2_58 : decode method_3_code 58 = .ok (.areturn, 1) := by decide +kernel
theorem d2_59 : decode method_3_code 59 = .ok (.iload_n 0, 1) := by decide +kernel
theorem d2_60 : decode method_3_code 60 = .ok (.iconst 3, 1) := by decide +kernel
theorem d2_61 : decode method_3_code 61 = .ok (.if_icmp .ne 26, 3) := by decide +kernel
theorem d2_64 : decode method_3_code 64 = .ok (.new 7, 3) := by decide +kernel
theorem d2_67 : decode method_3_code 67 = .ok (.dup, 1) := by decide +kernel
theorem d2_68 : decode method_3_code 68 = .ok (.iconst 3, 1) := by decide +kernel
theorem d2_69 : decode method_3_code 69 = .ok (.newarray .char, 2) := by decide +kernel
theorem d2_71 : decode method_3_code 71 = .ok (.dup, 1) := by decide +kernel
theorem d2_72 : decode method_3_code 72 = .ok (.iconst 0, 1) := by decide +kernel
theorem d2_73 : decode method_3_code 73 = .ok (.iload_n 1, 1) := by decide +kernel
theorem d2_74 : decode method_3_code 74 = .ok (.castore, 1) := by decide +kernel
theorem d2_75 : decode method_3_code 75 = .ok (.dup, 1) := by decide +kernel
theorem d2_76 : decode method_3_code 76 = .ok (.iconst 1, 1) := by decide +kernel
theorem d2_77 : decode method_3_code 77 = .ok (.iload_n 2, 1) := by decide +kernel
theorem d2_78 : decode method_3_code 78 = .ok (.castore, 1) := by decide +kernel
theorem d2_79 : decode method_3_code 79 = .ok (.dup, 1) := by decide +kernel
theorem d2_80 : decode method_3_code 80 = .ok (.iconst 2, 1) := by decide +kernel
theorem d2_81 : decode method_3_code 81 = .ok (.iload_n 3, 1) := by decide +kernel
theorem d2_82 : decode method_3_code 82 = .ok (.castore, 1) := by decide +kernel
theorem d2_83 : decode method_3_code 83 = .ok (.invokespecial 9, 3) := by decide +kernel
theorem d2_86 : decode method_3_code 86 = .ok (.areturn, 1) := by decide +kernel
theorem d2_87 : decode method_3_code 87 = .ok (.iload_n 0, 1) := by decide +kernel
theorem d2_88 : decode method_3_code 88 = .ok (.iconst 4, 1) := by decide +kernel
theorem d2_89 : decode method_3_code 89 = .ok (.if_icmp .ne 31, 3) := by decide +kernel
theorem d2_92 : decode method_3_code 92 = .ok (.new 7, 3) := by decide +kernel
theorem d2_95 : decode method_3_code 95 = .ok (.dup, 1) := by decide +kernel
theorem d2_96 : decode method_3_code 96 = .ok (.iconst 4, 1) := by decide +kernel
theorem d2_97 : decode method_3_code 97 = .ok (.newarray .char, 2) := by decide +kernel
theorem d2_99 : decode method_3_code 99 = .ok (.dup, 1) := by decide +kernel
theorem d2_100 : decode method_3_code 100 = .ok (.iconst 0, 1) := by decide +kernel
theorem d2_101 : decode method_3_code 101 = .ok (.iload_n 1, 1) := by decide +kernel
theorem d2_102 : decode method_3_code 102 = .ok (.castore, 1) := by decide +kernel
theorem d2_103 : decode method_3_code 103 = .ok (.dup, 1) := by decide +kernel
theorem d2_104 : decode method_3_code 104 = .ok (.iconst 1, 1) := by decide +kernel
theorem d2_105 : decode method_3_code 105 = .ok (.iload_n 2, 1) := by decide +kernel
theorem d2_106 : decode method_3_code 106 = .ok (.castore, 1) := by decide +kernel
theorem d2_107 : decode method_3_code 107 = .ok (.dup, 1) := by decide +kernel
theorem d2_108 : decode method_3_code 108 = .ok (.iconst 2, 1) := by decide +kernel
theorem d2_109 : decode method_3_code 109 = .ok (.iload_n 3, 1) := by decide +kernel
theorem d2_110 : decode method_3_code 110 = .ok (.castore, 1) := by decide +kernel
theorem d2_111 : decode method_3_code 111 = .ok (.dup, 1) := by decide +kernel
theorem d2_112 : decode method_3_code 112 = .ok (.iconst 3, 1) := by decide +kernel
theorem d2_113 : decode method_3_code 113 = .ok (.iload 4, 2) := by decide +kernel
theorem d2_115 : decode method_3_code 115 = .ok (.castore, 1) := by decide +kernel
theorem d2_116 : decode method_3_code 116 = .ok (.invokespecial 9, 3) := by decide +kernel
theorem d2_119 : decode method_3_code 119 = .ok (.areturn, 1) := by decide +kernel
theorem d2_120 : decode method_3_code 120 = .ok (.new 7, 3) := by decide +kernel
theorem d2_123 : decode method_3_code 123 = .ok (.dup, 1) := by decide +kernel
theorem d2_124 : decode method_3_code 124 = .ok (.iconst 5, 1) := by decide +kernel
theorem d2_125 : decode method_3_code 125 = .ok (.newarray .char, 2) := by decide +kernel
theorem d2_127 : decode method_3_code 127 = .ok (.dup, 1) := by decide +kernel
theorem d2_128 : decode method_3_code 128 = .ok (.iconst 0, 1) := by decide +kernel
theorem d2_129 : decode method_3_code 129 = .ok (.iload_n 1, 1) := by decide +kernel
theorem d2_130 : decode method_3_code 130 = .ok (.castore, 1) := by decide +kernel
theorem d2_131 : decode method_3_code 131 = .ok (.dup, 1) := by decide +kernel
theorem d2_132 : decode method_3_code 132 = .ok (.iconst 1, 1) := by decide +kernel
theorem d2_133 : decode method_3_code 133 = .ok (.iload_n 2, 1) := by decide +kernel
theorem d2_134 : decode method_3_code 134 = .ok (.castore, 1) := by decide +kernel
theorem d2_135 : decode method_3_code 135 = .ok (.dup, 1) := by decide +kernel
theorem d2_136 : decode method_3_code 136 = .ok (.iconst 2, 1) := by decide +kernel
theorem d2_137 : decode method_3_code 137 = .ok (.iload_n 3, 1) := by decide +kernel
theorem d2_138 : decode method_3_code 138 = .ok (.castore, 1) := by decide +kernel
theorem d2_139 : decode method_3_code 139 = .ok (.dup, 1) := by decide +kernel
theorem d2_140 : decode method_3_code 140 = .ok (.iconst 3, 1) := by decide +kernel
theorem d2_141 : decode method_3_code 141 = .ok (.iload 4, 2) := by decide +kernel
theorem d2_143 : decode method_3_code 143 = .ok (.castore, 1) := by decide +kernel
theorem d2_144 : decode method_3_code 144 = .ok (.dup, 1) := by decide +kernel
theorem d2_145 : decode method_3_code 145 = .ok (.iconst 4, 1) := by decide +kernel
theorem d2_146 : decode method_3_code 146 = .ok (.iload 5, 2) := by decide +kernel
theorem d2_148 : decode method_3_code 148 = .ok (.castore, 1) := by decide +kernel
theorem d2_149 : decode method_3_code 149 = .ok (.invokespecial 9, 3) := by decide +kernel
theorem d2_152 : decode method_3_code 152 = .ok (.areturn, 1) := by decide +kernel
theorem pn_rm2 : plainName "com/example/facet_hierarchy_store/facethierarchystore/label/LanguageTagLanguagePinLaw" = true := by first | (simp [plainName, overriddenIn]; done) | decide +kernel
theorem ef_rm2 (m : MethodId) (p1 : Int32) (p2 : Int32) (p3 : Int32) (p4 : Int32) (p5 : Int32) (p6 : Int32) : entryFrame m #[(.int p1), (.int p2), (.int p3), (.int p4), (.int p5), (.int p6)] 6 = mkF m 0 #[.val (.int p1), .val (.int p2), .val (.int p3), .val (.int p4), .val (.int p5), .val (.int p6)] [] := by first | (simp [entryFrame, mkF, argsToLocals, Value.category]; done) | rfl
def Q2 (Z : State) (p1 : Int32) (p2 : Int32) (p3 : Int32) (p4 : Int32) (p5 : Int32) (p6 : Int32) (zc : Int32) (h0 : Heap) (n0 : Nat) (v : Option Value) (h : Heap) (L : List Loc) : Prop := Fr n0 L ∧ Keep h0 h [] ∧ ∃ (r t : Addr), v = some (.ref r) ∧ Exa Z h r "java/lang/String" ∧ Fld Z h r "java/lang/String" "coder" "B" (.int (0 : Int32)) ∧ Fld Z h r "java/lang/String" "value" "[B" (.ref t) ∧ Afn Z h t .byte p1 (fun k => .int ((fun k => (csL [p2, p3, p4, p5, p6] k).toInt8.toInt32) k))
theorem pd_18 : parseMethodDescriptor "([C)V" = some ⟨[(.array .char)], none⟩ := by decide +kernel
set_option maxRecDepth 65536 in
set_option maxHeartbeats 40000000 in
theorem rm2 (l : Launch) (Z : State) (a0 : Array Value) (hw : ∀ d ∈ tables_1, d.before a0 Z = true) (ws : List Jvm.Cond) (p1 : Int32) (p2 : Int32) (p3 : Int32) (p4 : Int32) (p5 : Int32) (p6 : Int32) (zc : Int32) (h0 : Heap) (n0 : Nat) (Z0 : n0 ≤ h0.size) (hEL : EW Z a0 consts_1) (SC : Sta Z Z.heap "java/lang/String" "COMPACT_STRINGS" "Z" (.int zc)) (hzc : ¬ zc = (0 : Int32)) (O : Old Z n0 h0) (hn : ¬ p1 < (0 : Int32) ∧ p1.toInt < 6) (hp2 : Chr p2) (hp3 : Chr p3) (hp4 : Chr p4) (hp5 : Chr p5) (hp6 : Chr p6) :
    ConH l Z consts_1 (⟨"com/example/facet_hierarchy_store/facethierarchystore/label/LanguageTagLanguagePinLaw", "make", "(ICCCCC)Ljava/lang/String;"⟩ : MethodName) method_3_code 6 (some (.object "java/lang/String")) ws ({ frames := 4, cells := 6, slots := 20, locals := 68 } : Room) #[(.int p1), (.int p2), (.int p3), (.int p4), (.int p5), (.int p6)] h0 (Q2 Z p1 p2 p3 p4 p5 p6 zc h0 n0) := by
  refine ConH.of (plainFor_of_name pn_rm2) ?_
  intro p e s m below meth c s₁ vm0 k0 hZ e0 X0 hx hby hml hown hnm hret hlk hS hk CH CR
  replace hml : c.maxLocals = 6 := hml
  have hown : vm0.findClass "com/example/facet_hierarchy_store/facethierarchystore/label/LanguageTagLanguagePinLaw" = some m.cls := hown
  have N0 : Fr n0 [] := Fr.nil n0
  obtain ⟨PP, hPP⟩ : ∃ P, P = FineW Z consts_1 s below (Q2 Z p1 p2 p3 p4 p5 p6 zc h0 n0) ({ frames := 4, cells := 6, slots := 20, locals := 68 } : Room).cells ({ frames := 4, cells := 6, slots := 20, locals := 68 } : Room).slots := ⟨_, rfl⟩
  rw [← hPP]
  refine Go.cast (ef_rm2 m p1 p2 p3 p4 p5 p6) ?_
  have K : Keep h0 h0 [] := Keep.refl h0 _
  have Zn : n0 ≤ h0.size := Z0
  show Go p.tables e below PP (s₁.setTop (mkF m 0 #[.val (.int p1), .val (.int p2), .val (.int p3), .val (.int p4), .val (.int p5), .val (.int p6)] []))
  refine Go.st (fun t k => XS.iloadN X0.here hx rfl (hb hby d2_0) rfl k) ?_
  show Go p.tables e below PP (s₁.setTop (mkF m 1 #[.val (.int p1), .val (.int p2), .val (.int p3), .val (.int p4), .val (.int p5), .val (.int p6)] [(.int p1)]))
  by_cases hc1 : p1 = (0 : Int32)
  · --
    refine Go.st (fun t k => XS.ifNo X0.here hx rfl (hb hby d2_1) rfl (XT.i0_ne_f hc1) k) ?_
    show Go p.tables e below PP (s₁.setTop (mkF m 4 #[.val (.int p1), .val (.int p2), .val (.int p3), .val (.int p4), .val (.int p5), .val (.int p6)] []))
    obtain ⟨T1, h1, X1, e1, E1, A1, D1, U1, st1⟩ := newO X0 hx hZ hown (hw _ (List.mem_of_getElem? (i := 8) rfl)) (hw _ (List.mem_of_getElem? (i := 9) rfl)) (hw _ (List.mem_of_getElem? (i := 10) rfl)) e0 (g := (mkF m 4 #[.val (.int p1), .val (.int p2), .val (.int p3), .val (.int p4), .val (.int p5), .val (.int p6)] [])) rfl (hb hby d2_4) (by decide) (by decide)
    obtain ⟨b1, gz1⟩ : ∃ z, z = h0.size := ⟨_, rfl⟩
    rw [← gz1] at A1 D1 U1 st1
    have g_b1 : n0 ≤ b1 := Nat.le_trans Zn (Nat.le_of_eq gz1.symm)
    have sz_b1 : h0.size ≤ b1 := Nat.le_trans K.1 (Nat.le_of_eq gz1.symm)
    have SF_b1 : Safe Z consts_1 vm0 h0 b1 := Safe.new (Nat.le_of_eq gz1.symm)
    refine Go.st st1 ?_
    replace SF_b1 := Safe.ext E1 CH SF_b1
    replace CR := CR.trans (CHr.ext E1 CH)
    replace CH := CH.ext E1
    replace hk := Nat.le_trans hk E1.1
    replace O := O.ext E1
    replace K := K.ext E1
    replace Zn := Nat.le_trans Zn E1.1
    have E_b1 := A1
    have F_value_b1 : Fld Z h1 b1 "java/lang/String" "value" "[B" .null := D1 (Or.inr (hw _ (List.mem_of_getElem? (i := 24) rfl))) (ty := (.array .byte)) (by decide)
    have F_coder_b1 : Fld Z h1 b1 "java/lang/String" "coder" "B" (.int (0 : Int32)) := D1 (Or.inr (hw _ (List.mem_of_getElem? (i := 25) rfl))) (ty := .byte) (by decide)
    show Go p.tables e below PP (T1.setTop (mkF m 7 #[.val (.int p1), .val (.int p2), .val (.int p3), .val (.int p4), .val (.int p5), .val (.int p6)] [(.ref b1)]))
    refine Go.st (fun t k => XS.dup X1.here hx rfl (hb hby d2_7) rfl rfl k) ?_
    show Go p.tables e below PP (T1.setTop (mkF m 8 #[.val (.int p1), .val (.int p2), .val (.int p3), .val (.int p4), .val (.int p5), .val (.int p6)] [(.ref b1), (.ref b1)]))
    refine Go.st (fun t k => XS.iconst X1.here hx rfl (hb hby d2_8) k) ?_
    show Go p.tables e below PP (T1.setTop (mkF m 9 #[.val (.int p1), .val (.int p2), .val (.int p3), .val (.int p4), .val (.int p5), .val (.int p6)] [(.int (0 : Int32)), (.ref b1), (.ref b1)]))
    obtain ⟨T2, h2, k2, X2, e2, E2, A2, st2⟩ := newP X1 hx hZ (hw _ (List.mem_of_getElem? (i := 11) rfl)) e1 (g := (mkF m 9 #[.val (.int p1), .val (.int p2), .val (.int p3), .val (.int p4), .val (.int p5), .val (.int p6)] [(.int (0 : Int32)), (.ref b1), (.ref b1)])) rfl (hb hby d2_9) rfl (by decide) (cap := 0) (by decide) (by decide) (by decide) (by decide)
    obtain ⟨b2, gz2⟩ : ∃ z, z = h1.size := ⟨_, rfl⟩
    rw [← gz2] at A2 st2
    have ne_b1_b2 : b1 ≠ b2 := Nat.ne_of_lt (Nat.lt_of_lt_of_le E_b1.lt (Nat.le_of_eq gz2.symm))
    have g_b2 : n0 ≤ b2 := Nat.le_trans Zn (Nat.le_of_eq gz2.symm)
    have sz_b2 : h0.size ≤ b2 := Nat.le_trans K.1 (Nat.le_of_eq gz2.symm)
    have SF_b2 : Safe Z consts_1 vm0 h1 b2 := Safe.new (Nat.le_of_eq gz2.symm)
    refine Go.st st2 ?_
    replace E_b1 := E_b1.ext E2
    replace F_value_b1 := F_value_b1.ext E2
    replace F_coder_b1 := F_coder_b1.ext E2
    replace SF_b1 := Safe.ext E2 CH SF_b1
    replace SF_b2 := Safe.ext E2 CH SF_b2
    replace CR := CR.trans (CHr.ext E2 CH)
    replace CH := CH.ext E2
    replace hk := Nat.le_trans hk E2.1
    replace O := O.ext E2
    replace K := K.ext E2
    replace Zn := Nat.le_trans Zn E2.1
    have V_b2 : Afn Z h2 b2 .char (0 : Int32) (fun _ => (.int (0 : Int32))) := Afn.new A2 (by decide)
    obtain ⟨csv, hcsv⟩ : ∃ f : Nat → Int32, f = csL [] := ⟨_, rfl⟩
    have hcb : ∀ k, k < (0 : Int32).toNatClampNeg → ¬ csv k < (0 : Int32) ∧ ¬ (255 : Int32) < csv k := fun k _ => by rw [hcsv]; exact own_csb _ (fun x hm => absurd hm (List.not_mem_nil)) k
    replace V_b2 := V_b2.congr (g := fun k => .int (csv k)) (fun k hk => by rw [hcsv]; exact absurd hk (Nat.not_lt_zero k))
    show Go p.tables e below PP (T2.setTop (mkF m 11 #[.val (.int p1), .val (.int p2), .val (.int p3), .val (.int p4), .val (.int p5), .val (.int p6)] [(.ref b2), (.ref b1), (.ref b1)]))
    have hZ0 := hZ
    have hown0 := hown
    clear hZ hown
    obtain ⟨v3, T3, L3, X3, hQ3, hC3, hSn3, hZ, hown, st3⟩ := callInW X2 hx hZ0 (y := (⟨"java/lang/String", "<init>", "([C)V"⟩ : MethodName)) (a := b1) (argsL := [(.ref b2)]) (rest := [(.ref b1)]) rfl hown0 (hw _ (List.mem_of_getElem? (i := 12) rfl)) (hw _ (List.mem_of_getElem? (i := 13) rfl)) (hw _ (List.mem_of_getElem? (i := 10) rfl)) (hw _ (List.mem_of_getElem? (i := 14) rfl)) (by decide) (rmS1 l Z a0 hw [] b1 b2 (0 : Int32) csv zc h2 n0 Zn hEL E_b1 F_value_b1 F_coder_b1 g_b1 V_b2 hcb (by decide) ne_b1_b2 SC hzc O) e2 hEL CH hS hk 1 (by decide) (by decide) (by decide) (by decide) (g := (mkF m 11 #[.val (.int p1), .val (.int p2), .val (.int p3), .val (.int p4), .val (.int p5), .val (.int p6)] [(.ref b2), (.ref b1), (.ref b1)])) rfl (by rw [hml]; rfl) (lenOf pd_18 rfl) rfl (by show 2 * 0 + _ ≤ _; exact Nat.le_of_eq rfl) (hb hby d2_11)
    clear hZ0 hown0
    replace hS := hSn3
    obtain ⟨h3, e3⟩ : ∃ z, T3.heap = z := ⟨_, rfl⟩
    rw [e3] at hQ3 hC3
    replace SF_b1 := hC3.safe E_b1.lt SF_b1
    replace SF_b2 := hC3.safe V_b2.lt SF_b2
    replace CR := CR.trans hC3
    replace CH := hC3.1
    replace hk : T3.heap.size ≤ h3.size := by rw [e3]; exact Nat.le_refl _
    obtain ⟨rfl, Nq3, Kq3, Eq3, Cq3, t3, Fq3, Vq3⟩ := hQ3
    have N3 := Fr.app N0 Nq3
    replace E_b1 := E_b1.keep Kq3
    clear F_value_b1
    clear F_coder_b1
    replace V_b2 := V_b2.keep Kq3 (ninS (Ne.symm ne_b1_b2) nin0)
    replace O := O.keep Kq3 (allS g_b1 all0)
    replace K := K.trans Kq3 (allS (Or.inr sz_b1) all0)
    replace Zn := Nat.le_trans Zn Kq3.1
    replace E_b1 := Eq3
    have F_value_b1 := Fq3
    have F_coder_b1 := Cq3
    refine Go.st st3 ?_
    show Go p.tables e below PP (T3.setTop (mkF m 14 #[.val (.int p1), .val (.int p2), .val (.int p3), .val (.int p4), .val (.int p5), .val (.int p6)] [(.ref b1)]))
    rw [hPP]
    refine endRW X3 hx hlk hZ hS e3 hk hEL CH CR hret rfl rfl (hb hby d2_14) ?_ (by decide) (by decide)
    show Q2 Z p1 p2 p3 p4 p5 p6 zc h0 n0 (some (.ref b1)) T3.heap _
    rw [e3]
    exact ⟨N3, K, _, _, rfl, E_b1, F_coder_b1, F_value_b1, by rw [hc1]; exact Vq3.congr (fun k hk => (own_pre p2 p3 p4 p5 p6 k).1 hk _)⟩
  · --
    refine Go.st (fun t k => XS.ifYes X0.here hx rfl (pc0 := 1) (pc' := 15) rfl (hb hby d2_1) rfl (XT.i0_ne_t hc1) (by decide) (by decide) k) ?_
    show Go p.tables e below PP (s₁.setTop (mkF m 15 #[.val (.int p1), .val (.int p2), .val (.int p3), .val (.int p4), .val (.int p5), .val (.int p6)] []))
    refine Go.st (fun t k => XS.iloadN X0.here hx rfl (hb hby d2_15) rfl k) ?_
    show Go p.tables e below PP (s₁.setTop (mkF m 16 #[.val (.int p1), .val (.int p2), .val (.int p3), .val (.int p4), .val (.int p5), .val (.int p6)] [(.int p1)]))
    refine Go.st (fun t k => XS.iconst X0.here hx rfl (hb hby d2_16) k) ?_
    show Go p.tables e below PP (s₁.setTop (mkF m 17 #[.val (.int p1), .val (.int p2), .val (.int p3), .val (.int p4), .val (.int p5), .val (.int p6)] [(.int (1 : Int32)), (.int p1)]))
    by_cases hc17 : p1 = (1 : Int32)
    · --
      refine Go.st (fun t k => XS.icmpNo X0.here hx rfl (hb hby d2_17) rfl (XT.ii_ne_f hc17) k) ?_
      show Go p.tables e below PP (s₁.setTop (mkF m 20 #[.val (.int p1), .val (.int p2), .val (.int p3), .val (.int p4), .val (.int p5), .val (.int p6)] []))
      obtain ⟨T4, h4, X4, e4, E4, A4, D4, U4, st4⟩ := newO X0 hx hZ hown (hw _ (List.mem_of_getElem? (i := 8) rfl)) (hw _ (List.mem_of_getElem? (i := 9) rfl)) (hw _ (List.mem_of_getElem? (i := 10) rfl)) e0 (g := (mkF m 20 #[.val (.int p1), .val (.int p2), .val (.int p3), .val (.int p4), .val (.int p5), .val (.int p6)] [])) rfl (hb hby d2_20) (by decide) (by decide)
      obtain ⟨b4, gz4⟩ : ∃ z, z = h0.size := ⟨_, rfl⟩
      rw [← gz4] at A4 D4 U4 st4
      have g_b4 : n0 ≤ b4 := Nat.le_trans Zn (Nat.le_of_eq gz4.symm)
      have sz_b4 : h0.size ≤ b4 := Nat.le_trans K.1 (Nat.le_of_eq gz4.symm)
      have SF_b4 : Safe Z consts_1 vm0 h0 b4 := Safe.new (Nat.le_of_eq gz4.symm)
      refine Go.st st4 ?_
      replace SF_b4 := Safe.ext E4 CH SF_b4
      replace CR := CR.trans (CHr.ext E4 CH)
      replace CH := CH.ext E4
      replace hk := Nat.le_trans hk E4.1
      replace O := O.ext E4
      replace K := K.ext E4
      replace Zn := Nat.le_trans Zn E4.1
      have E_b4 := A4
      have F_value_b4 : Fld Z h4 b4 "java/lang/String" "value" "[B" .null := D4 (Or.inr (hw _ (List.mem_of_getElem? (i := 24) rfl))) (ty := (.array .byte)) (by decide)
      have F_coder_b4 : Fld Z h4 b4 "java/lang/String" "coder" "B" (.int (0 : Int32)) := D4 (Or.inr (hw _ (List.mem_of_getElem? (i := 25) rfl))) (ty := .byte) (by decide)
      show Go p.tables e below PP (T4.setTop (mkF m 23 #[.val (.int p1), .val (.int p2), .val (.int p3), .val (.int p4), .val (.int p5), .val (.int p6)] [(.ref b4)]))
      refine Go.st (fun t k => XS.dup X4.here hx rfl (hb hby d2_23) rfl rfl k) ?_
      show Go p.tables e below PP (T4.setTop (mkF m 24 #[.val (.int p1), .val (.int p2), .val (.int p3), .val (.int p4), .val (.int p5), .val (.int p6)] [(.ref b4), (.ref b4)]))
      refine Go.st (fun t k => XS.iconst X4.here hx rfl (hb hby d2_24) k) ?_
      show Go p.tables e below PP (T4.setTop (mkF m 25 #[.val (.int p1), .val (.int p2), .val (.int p3), .val (.int p4), .val (.int p5), .val (.int p6)] [(.int (1 : Int32)), (.ref b4), (.ref b4)]))
      obtain ⟨T5, h5, k5, X5, e5, E5, A5, st5⟩ := newP X4 hx hZ (hw _ (List.mem_of_getElem? (i := 11) rfl)) e4 (g := (mkF m 25 #[.val (.int p1), .val (.int p2), .val (.int p3), .val (.int p4), .val (.int p5), .val (.int p6)] [(.int (1 : Int32)), (.ref b4), (.ref b4)])) rfl (hb hby d2_25) rfl (by decide) (cap := 1) (by decide) (by decide) (by decide) (by decide)
      obtain ⟨b5, gz5⟩ : ∃ z, z = h4.size := ⟨_, rfl⟩
      rw [← gz5] at A5 st5
      have ne_b4_b5 : b4 ≠ b5 := Nat.ne_of_lt (Nat.lt_of_lt_of_le E_b4.lt (Nat.le_of_eq gz5.symm))
      have g_b5 : n0 ≤ b5 := Nat.le_trans Zn (Nat.le_of_eq gz5.symm)
      have sz_b5 : h0.size ≤ b5 := Nat.le_trans K.1 (Nat.le_of_eq gz5.symm)
      have SF_b5 : Safe Z consts_1 vm0 h4 b5 := Safe.new (Nat.le_of_eq gz5.symm)
      refine Go.st st5 ?_
      replace E_b4 := E_b4.ext E5
      replace F_value_b4 := F_value_b4.ext E5
      replace F_coder_b4 := F_coder_b4.ext E5
      replace SF_b4 := Safe.ext E5 CH SF_b4
      replace SF_b5 := Safe.ext E5 CH SF_b5
      replace CR := CR.trans (CHr.ext E5 CH)
      replace CH := CH.ext E5
      replace hk := Nat.le_trans hk E5.1
      replace O := O.ext E5
      replace K := K.ext E5
      replace Zn := Nat.le_trans Zn E5.1
      have V_b5 : Afn Z h5 b5 .char (1 : Int32) (fun _ => (.int (0 : Int32))) := Afn.new A5 (by decide)
      show Go p.tables e below PP (T5.setTop (mkF m 27 #[.val (.int p1), .val (.int p2), .val (.int p3), .val (.int p4), .val (.int p5), .val (.int p6)] [(.ref b5), (.ref b4), (.ref b4)]))
      refine Go.st (fun t k => XS.dup X5.here hx rfl (hb hby d2_27) rfl rfl k) ?_
      show Go p.tables e below PP (T5.setTop (mkF m 28 #[.val (.int p1), .val (.int p2), .val (.int p3), .val (.int p4), .val (.int p5), .val (.int p6)] [(.ref b5), (.ref b5), (.ref b4), (.ref b4)]))
      refine Go.st (fun t k => XS.iconst X5.here hx rfl (hb hby d2_28) k) ?_
      show Go p.tables e below PP (T5.setTop (mkF m 29 #[.val (.int p1), .val (.int p2), .val (.int p3), .val (.int p4), .val (.int p5), .val (.int p6)] [(.int (0 : Int32)), (.ref b5), (.ref b5), (.ref b4), (.ref b4)]))
      refine Go.st (fun t k => XS.iloadN X5.here hx rfl (hb hby d2_29) rfl k) ?_
      show Go p.tables e below PP (T5.setTop (mkF m 30 #[.val (.int p1), .val (.int p2), .val (.int p3), .val (.int p4), .val (.int p5), .val (.int p6)] [(.int p2), (.int (0 : Int32)), (.ref b5), (.ref b5), (.ref b4), (.ref b4)]))
      obtain ⟨cl6, Ar6, S6, Nn6, H6⟩ := id V_b5
      have hin6 : ¬ ((0 : Int32) < 0 ∨ cl6.slots.size ≤ ((0 : Int32)).toNatClampNeg) := inb_of S6 ⟨by decide, by decide⟩
      obtain ⟨T6, h6, X6, e6, W6, st6⟩ := stC X5 hx hZ e5 Ar6 (j := (0 : Int32)) hin6 (g := (mkF m 30 #[.val (.int p1), .val (.int p2), .val (.int p3), .val (.int p4), .val (.int p5), .val (.int p6)] [(.int p2), (.int (0 : Int32)), (.ref b5), (.ref b5), (.ref b4), (.ref b4)])) rfl rfl (hb hby d2_30)
      refine Go.st st6 ?_
      have N6 := Fr.snoc X6 N0 g_b5
      replace E_b4 := E_b4.wr W6
      replace F_value_b4 := F_value_b4.other W6 (Or.inl ne_b4_b5)
      replace F_coder_b4 := F_coder_b4.other W6 (Or.inl ne_b4_b5)
      replace SF_b4 := Safe.wr W6 SF_b5 CH SF_b4
      replace CR := CR.trans (CHr.wr W6 SF_b5 CH)
      have CH' := CH.wr W6 SF_b5
      replace SF_b5 := Safe.wr W6 SF_b5 CH SF_b5
      replace CH := CH'
      clear CH'
      replace hk : k0 ≤ h6.size := by rw [W6.size]; exact hk
      replace O := O.wr W6 g_b5
      replace K := K.wr W6 (Or.inr sz_b5)
      replace Zn : n0 ≤ h6.size := by rw [W6.size]; exact Zn
      replace V_b5 := Afn.set Ar6 S6 Nn6 H6 (fits_nar_char _) W6
      obtain ⟨csv, hcsv⟩ : ∃ f : Nat → Int32, f = csL [p2] := ⟨_, rfl⟩
      have hcb : ∀ k, k < (1 : Int32).toNatClampNeg → ¬ csv k < (0 : Int32) ∧ ¬ (255 : Int32) < csv k := fun k _ => by rw [hcsv]; exact own_csb _ (fun x hm => by simp only [List.mem_cons, List.not_mem_nil, or_false] at hm; rcases hm with rfl <;> first | exact ⟨hp2.1, hp2.2.1⟩) k
      replace V_b5 := V_b5.congr (g := fun k => .int (csv k)) (fun k hk => by rw [hcsv]; exact own_cs1 p2 hp2.2.2 k hk)
      show Go p.tables e below PP (T6.setTop (mkF m 31 #[.val (.int p1), .val (.int p2), .val (.int p3), .val (.int p4), .val (.int p5), .val (.int p6)] [(.ref b5), (.ref b4), (.ref b4)]))
      have hZ0 := hZ
      have hown0 := hown
      clear hZ hown
      obtain ⟨v7, T7, L7, X7, hQ7, hC7, hSn7, hZ, hown, st7⟩ := callInW X6 hx hZ0 (y := (⟨"java/lang/String", "<init>", "([C)V"⟩ : MethodName)) (a := b4) (argsL := [(.ref b5)]) (rest := [(.ref b4)]) rfl hown0 (hw _ (List.mem_of_getElem? (i := 12) rfl)) (hw _ (List.mem_of_getElem? (i := 13) rfl)) (hw _ (List.mem_of_getElem? (i := 10) rfl)) (hw _ (List.mem_of_getElem? (i := 14) rfl)) (by decide) (rmS1 l Z a0 hw [] b4 b5 (1 : Int32) csv zc h6 n0 Zn hEL E_b4 F_value_b4 F_coder_b4 g_b4 V_b5 hcb (by decide) ne_b4_b5 SC hzc O) e6 hEL CH hS hk 1 (by decide) (by decide) (by decide) (by decide) (g := (mkF m 31 #[.val (.int p1), .val (.int p2), .val (.int p3), .val (.int p4), .val (.int p5), .val (.int p6)] [(.ref b5), (.ref b4), (.ref b4)])) rfl (by rw [hml]; rfl) (lenOf pd_18 rfl) rfl (by show 2 * 0 + _ ≤ _; exact Nat.le_of_eq rfl) (hb hby d2_31)
      clear hZ0 hown0
      replace hS := hSn7
      obtain ⟨h7, e7⟩ : ∃ z, T7.heap = z := ⟨_, rfl⟩
      rw [e7] at hQ7 hC7
      replace SF_b4 := hC7.safe E_b4.lt SF_b4
      replace SF_b5 := hC7.safe V_b5.lt SF_b5
      replace CR := CR.trans hC7
      replace CH := hC7.1
      replace hk : T7.heap.size ≤ h7.size := by rw [e7]; exact Nat.le_refl _
      obtain ⟨rfl, Nq7, Kq7, Eq7, Cq7, t7, Fq7, Vq7⟩ := hQ7
      have N7 := Fr.app N6 Nq7
      replace E_b4 := E_b4.keep Kq7
      clear F_value_b4
      clear F_coder_b4
      replace V_b5 := V_b5.keep Kq7 (ninS (Ne.symm ne_b4_b5) nin0)
      replace O := O.keep Kq7 (allS g_b4 all0)
      replace K := K.trans Kq7 (allS (Or.inr sz_b4) all0)
      replace Zn := Nat.le_trans Zn Kq7.1
      replace E_b4 := Eq7
      have F_value_b4 := Fq7
      have F_coder_b4 := Cq7
      refine Go.st st7 ?_
      show Go p.tables e below PP (T7.setTop (mkF m 34 #[.val (.int p1), .val (.int p2), .val (.int p3), .val (.int p4), .val (.int p5), .val (.int p6)] [(.ref b4)]))
      rw [hPP]
      refine endRW X7 hx hlk hZ hS e7 hk hEL CH CR hret rfl rfl (hb hby d2_34) ?_ (by decide) (by decide)
      show Q2 Z p1 p2 p3 p4 p5 p6 zc h0 n0 (some (.ref b4)) T7.heap _
      rw [e7]
      exact ⟨N7, K, _, _, rfl, E_b4, F_coder_b4, F_value_b4, by rw [hc17]; rw [hcsv] at Vq7; exact Vq7.congr (fun k hk => by rw [(own_pre p2 p3 p4 p5 p6 k).2.1 hk])⟩
    · --
      refine Go.st (fun t k => XS.icmpYes X0.here hx rfl (pc0 := 17) (pc' := 35) rfl (hb hby d2_17) rfl (XT.ii_ne_t hc17) (by decide) (by decide) k) ?_
      show Go p.tables e below PP (s₁.setTop (mkF m 35 #[.val (.int p1), .val (.int p2), .val (.int p3), .val (.int p4), .val (.int p5), .val (.int p6)] []))
      refine Go.st (fun t k => XS.iloadN X0.here hx rfl (hb hby d2_35) rfl k) ?_
      show Go p.tables e below PP (s₁.setTop (mkF m 36 #[.val (.int p1), .val (.int p2), .val (.int p3), .val (.int p4), .val (.int p5), .val (.int p6)] [(.int p1)]))
      refine Go.st (fun t k => XS.iconst X0.here hx rfl (hb hby d2_36) k) ?_
      show Go p.tables e below PP (s₁.setTop (mkF m 37 #[.val (.int p1), .val (.int p2), .val (.int p3), .val (.int p4), .val (.int p5), .val (.int p6)] [(.int (2 : Int32)), (.int p1)]))
      by_cases hc37 : p1 = (2 : Int32)
      · --
        refine Go.st (fun t k => XS.icmpNo X0.here hx rfl (hb hby d2_37) rfl (XT.ii_ne_f hc37) k) ?_
        show Go p.tables e below PP (s₁.setTop (mkF m 40 #[.val (.int p1), .val (.int p2), .val (.int p3), .val (.int p4), .val (.int p5), .val (.int p6)] []))
        obtain ⟨T8, h8, X8, e8, E8, A8, D8, U8, st8⟩ := newO X0 hx hZ hown (hw _ (List.mem_of_getElem? (i := 8) rfl)) (hw _ (List.mem_of_getElem? (i := 9) rfl)) (hw _ (List.mem_of_getElem? (i := 10) rfl)) e0 (g := (mkF m 40 #[.val (.int p1), .val (.int p2), .val (.int p3), .val (.int p4), .val (.int p5), .val (.int p6)] [])) rfl (hb hby d2_40) (by decide) (by decide)
        obtain ⟨b8, gz8⟩ : ∃ z, z = h0.size := ⟨_, rfl⟩
        rw [← gz8] at A8 D8 U8 st8
        have g_b8 : n0 ≤ b8 := Nat.le_trans Zn (Nat.le_of_eq gz8.symm)
        have sz_b8 : h0.size ≤ b8 := Nat.le_trans K.1 (Nat.le_of_eq gz8.symm)
        have SF_b8 : Safe Z consts_1 vm0 h0 b8 := Safe.new (Nat.le_of_eq gz8.symm)
        refine Go.st st8 ?_
        replace SF_b8 := Safe.ext E8 CH SF_b8
        replace CR := CR.trans (CHr.ext E8 CH)
        replace CH := CH.ext E8
        replace hk := Nat.le_trans hk E8.1
        replace O := O.ext E8
        replace K := K.ext E8
        replace Zn := Nat.le_trans Zn E8.1
        have E_b8 := A8
        have F_value_b8 : Fld Z h8 b8 "java/lang/String" "value" "[B" .null := D8 (Or.inr (hw _ (List.mem_of_getElem? (i := 24) rfl))) (ty := (.array .byte)) (by decide)
        have F_coder_b8 : Fld Z h8 b8 "java/lang/String" "coder" "B" (.int (0 : Int32)) := D8 (Or.inr (hw _ (List.mem_of_getElem? (i := 25) rfl))) (ty := .byte) (by decide)
        show Go p.tables e below PP (T8.setTop (mkF m 43 #[.val (.int p1), .val (.int p2), .val (.int p3), .val (.int p4), .val (.int p5), .val (.int p6)] [(.ref b8)]))
        refine Go.st (fun t k => XS.dup X8.here hx rfl (hb hby d2_43) rfl rfl k) ?_
        show Go p.tables e below PP (T8.setTop (mkF m 44 #[.val (.int p1), .val (.int p2), .val (.int p3), .val (.int p4), .val (.int p5), .val (.int p6)] [(.ref b8), (.ref b8)]))
        refine Go.st (fun t k => XS.iconst X8.here hx rfl (hb hby d2_44) k) ?_
        show Go p.tables e below PP (T8.setTop (mkF m 45 #[.val (.int p1), .val (.int p2), .val (.int p3), .val (.int p4), .val (.int p5), .val (.int p6)] [(.int (2 : Int32)), (.ref b8), (.ref b8)]))
        obtain ⟨T9, h9, k9, X9, e9, E9, A9, st9⟩ := newP X8 hx hZ (hw _ (List.mem_of_getElem? (i := 11) rfl)) e8 (g := (mkF m 45 #[.val (.int p1), .val (.int p2), .val (.int p3), .val (.int p4), .val (.int p5), .val (.int p6)] [(.int (2 : Int32)), (.ref b8), (.ref b8)])) rfl (hb hby d2_45) rfl (by decide) (cap := 2) (by decide) (by decide) (by decide) (by decide)
        obtain ⟨b9, gz9⟩ : ∃ z, z = h8.size := ⟨_, rfl⟩
        rw [← gz9] at A9 st9
        have ne_b8_b9 : b8 ≠ b9 := Nat.ne_of_lt (Nat.lt_of_lt_of_le E_b8.lt (Nat.le_of_eq gz9.symm))
        have g_b9 : n0 ≤ b9 := Nat.le_trans Zn (Nat.le_of_eq gz9.symm)
        have sz_b9 : h0.size ≤ b9 := Nat.le_trans K.1 (Nat.le_of_eq gz9.symm)
        have SF_b9 : Safe Z consts_1 vm0 h8 b9 := Safe.new (Nat.le_of_eq gz9.symm)
        refine Go.st st9 ?_
        replace E_b8 := E_b8.ext E9
        replace F_value_b8 := F_value_b8.ext E9
        replace F_coder_b8 := F_coder_b8.ext E9
        replace SF_b8 := Safe.ext E9 CH SF_b8
        replace SF_b9 := Safe.ext E9 CH SF_b9
        replace CR := CR.trans (CHr.ext E9 CH)
        replace CH := CH.ext E9
        replace hk := Nat.le_trans hk E9.1
        replace O := O.ext E9
        replace K := K.ext E9
        replace Zn := Nat.le_trans Zn E9.1
        have V_b9 : Afn Z h9 b9 .char (2 : Int32) (fun _ => (.int (0 : Int32))) := Afn.new A9 (by decide)
        show Go p.tables e below PP (T9.setTop (mkF m 47 #[.val (.int p1), .val (.int p2), .val (.int p3), .val (.int p4), .val (.int p5), .val (.int p6)] [(.ref b9), (.ref b8), (.ref b8)]))
        refine Go.st (fun t k => XS.dup X9.here hx rfl (hb hby d2_47) rfl rfl k) ?_
        show Go p.tables e below PP (T9.setTop (mkF m 48 #[.val (.int p1), .val (.int p2), .val (.int p3), .val (.int p4), .val (.int p5), .val (.int p6)] [(.ref b9), (.ref b9), (.ref b8), (.ref b8)]))
        refine Go.st (fun t k => XS.iconst X9.here hx rfl (hb hby d2_48) k) ?_
        show Go p.tables e below PP (T9.setTop (mkF m 49 #[.val (.int p1), .val (.int p2), .val (.int p3), .val (.int p4), .val (.int p5), .val (.int p6)] [(.int (0 : Int32)), (.ref b9), (.ref b9), (.ref b8), (.ref b8)]))
        refine Go.st (fun t k => XS.iloadN X9.here hx rfl (hb hby d2_49) rfl k) ?_
        show Go p.tables e below PP (T9.setTop (mkF m 50 #[.val (.int p1), .val (.int p2), .val (.int p3), .val (.int p4), .val (.int p5), .val (.int p6)] [(.int p2), (.int (0 : Int32)), (.ref b9), (.ref b9), (.ref b8), (.ref b8)]))
        obtain ⟨cl10, Ar10, S10, Nn10, H10⟩ := id V_b9
        have hin10 : ¬ ((0 : Int32) < 0 ∨ cl10.slots.size ≤ ((0 : Int32)).toNatClampNeg) := inb_of S10 ⟨by decide, by decide⟩
        obtain ⟨T10, h10, X10, e10, W10, st10⟩ := stC X9 hx hZ e9 Ar10 (j := (0 : Int32)) hin10 (g := (mkF m 50 #[.val (.int p1), .val (.int p2), .val (.int p3), .val (.int p4), .val (.int p5), .val (.int p6)] [(.int p2), (.int (0 : Int32)), (.ref b9), (.ref b9), (.ref b8), (.ref b8)])) rfl rfl (hb hby d2_50)
        refine Go.st st10 ?_
        have N10 := Fr.snoc X10 N0 g_b9
        replace E_b8 := E_b8.wr W10
        replace F_value_b8 := F_value_b8.other W10 (Or.inl ne_b8_b9)
        replace F_coder_b8 := F_coder_b8.other W10 (Or.inl ne_b8_b9)
        replace SF_b8 := Safe.wr W10 SF_b9 CH SF_b8
        replace CR := CR.trans (CHr.wr W10 SF_b9 CH)
        have CH' := CH.wr W10 SF_b9
        replace SF_b9 := Safe.wr W10 SF_b9 CH SF_b9
        replace CH := CH'
        clear CH'
        replace hk : k0 ≤ h10.size := by rw [W10.size]; exact hk
        replace O := O.wr W10 g_b9
        replace K := K.wr W10 (Or.inr sz_b9)
        replace Zn : n0 ≤ h10.size := by rw [W10.size]; exact Zn
        replace V_b9 := Afn.set Ar10 S10 Nn10 H10 (fits_nar_char _) W10
        show Go p.tables e below PP (T10.setTop (mkF m 51 #[.val (.int p1), .val (.int p2), .val (.int p3), .val (.int p4), .val (.int p5), .val (.int p6)] [(.ref b9), (.ref b8), (.ref b8)]))
        refine Go.st (fun t k => XS.dup X10.here hx rfl (hb hby d2_51) rfl rfl k) ?_
        show Go p.tables e below PP (T10.setTop (mkF m 52 #[.val (.int p1), .val (.int p2), .val (.int p3), .val (.int p4), .val (.int p5), .val (.int p6)] [(.ref b9), (.ref b9), (.ref b8), (.ref b8)]))
        refine Go.st (fun t k => XS.iconst X10.here hx rfl (hb hby d2_52) k) ?_
        show Go p.tables e below PP (T10.setTop (mkF m 53 #[.val (.int p1), .val (.int p2), .val (.int p3), .val (.int p4), .val (.int p5), .val (.int p6)] [(.int (1 : Int32)), (.ref b9), (.ref b9), (.ref b8), (.ref b8)]))
        refine Go.st (fun t k => XS.iloadN X10.here hx rfl (hb hby d2_53) rfl k) ?_
        show Go p.tables e below PP (T10.setTop (mkF m 54 #[.val (.int p1), .val (.int p2), .val (.int p3), .val (.int p4), .val (.int p5), .val (.int p6)] [(.int p3), (.int (1 : Int32)), (.ref b9), (.ref b9), (.ref b8), (.ref b8)]))
        obtain ⟨cl11, Ar11, S11, Nn11, H11⟩ := id V_b9
        have hin11 : ¬ ((1 : Int32) < 0 ∨ cl11.slots.size ≤ ((1 : Int32)).toNatClampNeg) := inb_of S11 ⟨by decide, by decide⟩
        obtain ⟨T11, h11, X11, e11, W11, st11⟩ := stC X10 hx hZ e10 Ar11 (j := (1 : Int32)) hin11 (g := (mkF m 54 #[.val (.int p1), .val (.int p2), .val (.int p3), .val (.int p4), .val (.int p5), .val (.int p6)] [(.int p3), (.int (1 : Int32)), (.ref b9), (.ref b9), (.ref b8), (.ref b8)])) rfl rfl (hb hby d2_54)
        refine Go.st st11 ?_
        have N11 := Fr.snoc X11 N10 g_b9
        replace E_b8 := E_b8.wr W11
        replace F_value_b8 := F_value_b8.other W11 (Or.inl ne_b8_b9)
        replace F_coder_b8 := F_coder_b8.other W11 (Or.inl ne_b8_b9)
        replace SF_b8 := Safe.wr W11 SF_b9 CH SF_b8
        replace CR := CR.trans (CHr.wr W11 SF_b9 CH)
        have CH' := CH.wr W11 SF_b9
        replace SF_b9 := Safe.wr W11 SF_b9 CH SF_b9
        replace CH := CH'
        clear CH'
        replace hk : k0 ≤ h11.size := by rw [W11.size]; exact hk
        replace O := O.wr W11 g_b9
        replace K := K.wr W11 (Or.inr sz_b9)
        replace Zn : n0 ≤ h11.size := by rw [W11.size]; exact Zn
        replace V_b9 := Afn.set Ar11 S11 Nn11 H11 (fits_nar_char _) W11
        obtain ⟨csv, hcsv⟩ : ∃ f : Nat → Int32, f = csL [p2, p3] := ⟨_, rfl⟩
        have hcb : ∀ k, k < (2 : Int32).toNatClampNeg → ¬ csv k < (0 : Int32) ∧ ¬ (255 : Int32) < csv k := fun k _ => by rw [hcsv]; exact own_csb _ (fun x hm => by simp only [List.mem_cons, List.not_mem_nil, or_false] at hm; rcases hm with rfl | rfl <;> first | exact ⟨hp2.1, hp2.2.1⟩ | exact ⟨hp3.1, hp3.2.1⟩) k
        replace V_b9 := V_b9.congr (g := fun k => .int (csv k)) (fun k hk => by rw [hcsv]; exact own_cs2 p2 p3 hp2.2.2 hp3.2.2 k hk)
        show Go p.tables e below PP (T11.setTop (mkF m 55 #[.val (.int p1), .val (.int p2), .val (.int p3), .val (.int p4), .val (.int p5), .val (.int p6)] [(.ref b9), (.ref b8), (.ref b8)]))
        have hZ0 := hZ
        have hown0 := hown
        clear hZ hown
        obtain ⟨v12, T12, L12, X12, hQ12, hC12, hSn12, hZ, hown, st12⟩ := callInW X11 hx hZ0 (y := (⟨"java/lang/String", "<init>", "([C)V"⟩ : MethodName)) (a := b8) (argsL := [(.ref b9)]) (rest := [(.ref b8)]) rfl hown0 (hw _ (List.mem_of_getElem? (i := 12) rfl)) (hw _ (List.mem_of_getElem? (i := 13) rfl)) (hw _ (List.mem_of_getElem? (i := 10) rfl)) (hw _ (List.mem_of_getElem? (i := 14) rfl)) (by decide) (rmS1 l Z a0 hw [] b8 b9 (2 : Int32) csv zc h11 n0 Zn hEL E_b8 F_value_b8 F_coder_b8 g_b8 V_b9 hcb (by decide) ne_b8_b9 SC hzc O) e11 hEL CH hS hk 1 (by decide) (by decide) (by decide) (by decide) (g := (mkF m 55 #[.val (.int p1), .val (.int p2), .val (.int p3), .val (.int p4), .val (.int p5), .val (.int p6)] [(.ref b9), (.ref b8), (.ref b8)])) rfl (by rw [hml]; rfl) (lenOf pd_18 rfl) rfl (by show 2 * 0 + _ ≤ _; exact Nat.le_of_eq rfl) (hb hby d2_55)
        clear hZ0 hown0
        replace hS := hSn12
        obtain ⟨h12, e12⟩ : ∃ z, T12.heap = z := ⟨_, rfl⟩
        rw [e12] at hQ12 hC12
        replace SF_b8 := hC12.safe E_b8.lt SF_b8
        replace SF_b9 := hC12.safe V_b9.lt SF_b9
        replace CR := CR.trans hC12
        replace CH := hC12.1
        replace hk : T12.heap.size ≤ h12.size := by rw [e12]; exact Nat.le_refl _
        obtain ⟨rfl, Nq12, Kq12, Eq12, Cq12, t12, Fq12, Vq12⟩ := hQ12
        have N12 := Fr.app N11 Nq12
        replace E_b8 := E_b8.keep Kq12
        clear F_value_b8
        clear F_coder_b8
        replace V_b9 := V_b9.keep Kq12 (ninS (Ne.symm ne_b8_b9) nin0)
        replace O := O.keep Kq12 (allS g_b8 all0)
        replace K := K.trans Kq12 (allS (Or.inr sz_b8) all0)
        replace Zn := Nat.le_trans Zn Kq12.1
        replace E_b8 := Eq12
        have F_value_b8 := Fq12
        have F_coder_b8 := Cq12
        refine Go.st st12 ?_
        show Go p.tables e below PP (T12.setTop (mkF m 58 #[.val (.int p1), .val (.int p2), .val (.int p3), .val (.int p4), .val (.int p5), .val (.int p6)] [(.ref b8)]))
        rw [hPP]
        refine endRW X12 hx hlk hZ hS e12 hk hEL CH CR hret rfl rfl (hb hby d2_58) ?_ (by decide) (by decide)
        show Q2 Z p1 p2 p3 p4 p5 p6 zc h0 n0 (some (.ref b8)) T12.heap _
        rw [e12]
        exact ⟨N12, K, _, _, rfl, E_b8, F_coder_b8, F_value_b8, by rw [hc37]; rw [hcsv] at Vq12; exact Vq12.congr (fun k hk => by rw [(own_pre p2 p3 p4 p5 p6 k).2.2.1 hk])⟩
      · --
        refine Go.st (fun t k => XS.icmpYes X0.here hx rfl (pc0 := 37) (pc' := 59) rfl (hb hby d2_37) rfl (XT.ii_ne_t hc37) (by decide) (by decide) k) ?_
        show Go p.tables e below PP (s₁.setTop (mkF m 59 #[.val (.int p1), .val (.int p2), .val (.int p3), .val (.int p4), .val (.int p5), .val (.int p6)] []))
        refine Go.st (fun t k => XS.iloadN X0.here hx rfl (hb hby d2_59) rfl k) ?_
        show Go p.tables e below PP (s₁.setTop (mkF m 60 #[.val (.int p1), .val (.int p2), .val (.int p3), .val (.int p4), .val (.int p5), .val (.int p6)] [(.int p1)]))
        refine Go.st (fun t k => XS.iconst X0.here hx rfl (hb hby d2_60) k) ?_
        show Go p.tables e below PP (s₁.setTop (mkF m 61 #[.val (.int p1), .val (.int p2), .val (.int p3), .val (.int p4), .val (.int p5), .val (.int p6)] [(.int (3 : Int32)), (.int p1)]))
        by_cases hc61 : p1 = (3 : Int32)
        · --
          refine Go.st (fun t k => XS.icmpNo X0.here hx rfl (hb hby d2_61) rfl (XT.ii_ne_f hc61) k) ?_
          show Go p.tables e below PP (s₁.setTop (mkF m 64 #[.val (.int p1), .val (.int p2), .val (.int p3), .val (.int p4), .val (.int p5), .val (.int p6)] []))
          obtain ⟨T13, h13, X13, e13, E13, A13, D13, U13, st13⟩ := newO X0 hx hZ hown (hw _ (List.mem_of_getElem? (i := 8) rfl)) (hw _ (List.mem_of_getElem? (i := 9) rfl)) (hw _ (List.mem_of_getElem? (i := 10) rfl)) e0 (g := (mkF m 64 #[.val (.int p1), .val (.int p2), .val (.int p3), .val (.int p4), .val (.int p5), .val (.int p6)] [])) rfl (hb hby d2_64) (by decide) (by decide)
          obtain ⟨b13, gz13⟩ : ∃ z, z = h0.size := ⟨_, rfl⟩
          rw [← gz13] at A13 D13 U13 st13
          have g_b13 : n0 ≤ b13 := Nat.le_trans Zn (Nat.le_of_eq gz13.symm)
          have sz_b13 : h0.size ≤ b13 := Nat.le_trans K.1 (Nat.le_of_eq gz13.symm)
          have SF_b13 : Safe Z consts_1 vm0 h0 b13 := Safe.new (Nat.le_of_eq gz13.symm)
          refine Go.st st13 ?_
          replace SF_b13 := Safe.ext E13 CH SF_b13
          replace CR := CR.trans (CHr.ext E13 CH)
          replace CH := CH.ext E13
          replace hk := Nat.le_trans hk E13.1
          replace O := O.ext E13
          replace K := K.ext E13
          replace Zn := Nat.le_trans Zn E13.1
          have E_b13 := A13
          have F_value_b13 : Fld Z h13 b13 "java/lang/String" "value" "[B" .null := D13 (Or.inr (hw _ (List.mem_of_getElem? (i := 24) rfl))) (ty := (.array .byte)) (by decide)
          have F_coder_b13 : Fld Z h13 b13 "java/lang/String" "coder" "B" (.int (0 : Int32)) := D13 (Or.inr (hw _ (List.mem_of_getElem? (i := 25) rfl))) (ty := .byte) (by decide)
          show Go p.tables e below PP (T13.setTop (mkF m 67 #[.val (.int p1), .val (.int p2), .val (.int p3), .val (.int p4), .val (.int p5), .val (.int p6)] [(.ref b13)]))
          refine Go.st (fun t k => XS.dup X13.here hx rfl (hb hby d2_67) rfl rfl k) ?_
          show Go p.tables e below PP (T13.setTop (mkF m 68 #[.val (.int p1), .val (.int p2), .val (.int p3), .val (.int p4), .val (.int p5), .val (.int p6)] [(.ref b13), (.ref b13)]))
          refine Go.st (fun t k => XS.iconst X13.here hx rfl (hb hby d2_68) k) ?_
          show Go p.tables e below PP (T13.setTop (mkF m 69 #[.val (.int p1), .val (.int p2), .val (.int p3), .val (.int p4), .val (.int p5), .val (.int p6)] [(.int (3 : Int32)), (.ref b13), (.ref b13)]))
          obtain ⟨T14, h14, k14, X14, e14, E14, A14, st14⟩ := newP X13 hx hZ (hw _ (List.mem_of_getElem? (i := 11) rfl)) e13 (g := (mkF m 69 #[.val (.int p1), .val (.int p2), .val (.int p3), .val (.int p4), .val (.int p5), .val (.int p6)] [(.int (3 : Int32)), (.ref b13), (.ref b13)])) rfl (hb hby d2_69) rfl (by decide) (cap := 3) (by decide) (by decide) (by decide) (by decide)
          obtain ⟨b14, gz14⟩ : ∃ z, z = h13.size := ⟨_, rfl⟩
          rw [← gz14] at A14 st14
          have ne_b13_b14 : b13 ≠ b14 := Nat.ne_of_lt (Nat.lt_of_lt_of_le E_b13.lt (Nat.le_of_eq gz14.symm))
          have g_b14 : n0 ≤ b14 := Nat.le_trans Zn (Nat.le_of_eq gz14.symm)
          have sz_b14 : h0.size ≤ b14 := Nat.le_trans K.1 (Nat.le_of_eq gz14.symm)
          have SF_b14 : Safe Z consts_1 vm0 h13 b14 := Safe.new (Nat.le_of_eq gz14.symm)
          refine Go.st st14 ?_
          replace E_b13 := E_b13.ext E14
          replace F_value_b13 := F_value_b13.ext E14
          replace F_coder_b13 := F_coder_b13.ext E14
          replace SF_b13 := Safe.ext E14 CH SF_b13
          replace SF_b14 := Safe.ext E14 CH SF_b14
          replace CR := CR.trans (CHr.ext E14 CH)
          replace CH := CH.ext E14
          replace hk := Nat.le_trans hk E14.1
          replace O := O.ext E14
          replace K := K.ext E14
          replace Zn := Nat.le_trans Zn E14.1
          have V_b14 : Afn Z h14 b14 .char (3 : Int32) (fun _ => (.int (0 : Int32))) := Afn.new A14 (by decide)
          show Go p.tables e below PP (T14.setTop (mkF m 71 #[.val (.int p1), .val (.int p2), .val (.int p3), .val (.int p4), .val (.int p5), .val (.int p6)] [(.ref b14), (.ref b13), (.ref b13)]))
          refine Go.st (fun t k => XS.dup X14.here hx rfl (hb hby d2_71) rfl rfl k) ?_
          show Go p.tables e below PP (T14.setTop (mkF m 72 #[.val (.int p1), .val (.int p2), .val (.int p3), .val (.int p4), .val (.int p5), .val (.int p6)] [(.ref b14), (.ref b14), (.ref b13), (.ref b13)]))
          refine Go.st (fun t k => XS.iconst X14.here hx rfl (hb hby d2_72) k) ?_
          show Go p.tables e below PP (T14.setTop (mkF m 73 #[.val (.int p1), .val (.int p2), .val (.int p3), .val (.int p4), .val (.int p5), .val (.int p6)] [(.int (0 : Int32)), (.ref b14), (.ref b14), (.ref b13), (.ref b13)]))
          refine Go.st (fun t k => XS.iloadN X14.here hx rfl (hb hby d2_73) rfl k) ?_
          show Go p.tables e below PP (T14.setTop (mkF m 74 #[.val (.int p1), .val (.int p2), .val (.int p3), .val (.int p4), .val (.int p5), .val (.int p6)] [(.int p2), (.int (0 : Int32)), (.ref b14), (.ref b14), (.ref b13), (.ref b13)]))
          obtain ⟨cl15, Ar15, S15, Nn15, H15⟩ := id V_b14
          have hin15 : ¬ ((0 : Int32) < 0 ∨ cl15.slots.size ≤ ((0 : Int32)).toNatClampNeg) := inb_of S15 ⟨by decide, by decide⟩
          obtain ⟨T15, h15, X15, e15, W15, st15⟩ := stC X14 hx hZ e14 Ar15 (j := (0 : Int32)) hin15 (g := (mkF m 74 #[.val (.int p1), .val (.int p2), .val (.int p3), .val (.int p4), .val (.int p5), .val (.int p6)] [(.int p2), (.int (0 : Int32)), (.ref b14), (.ref b14), (.ref b13), (.ref b13)])) rfl rfl (hb hby d2_74)
          refine Go.st st15 ?_
          have N15 := Fr.snoc X15 N0 g_b14
          replace E_b13 := E_b13.wr W15
          replace F_value_b13 := F_value_b13.other W15 (Or.inl ne_b13_b14)
          replace F_coder_b13 := F_coder_b13.other W15 (Or.inl ne_b13_b14)
          replace SF_b13 := Safe.wr W15 SF_b14 CH SF_b13
          replace CR := CR.trans (CHr.wr W15 SF_b14 CH)
          have CH' := CH.wr W15 SF_b14
          replace SF_b14 := Safe.wr W15 SF_b14 CH SF_b14
          replace CH := CH'
          clear CH'
          replace hk : k0 ≤ h15.size := by rw [W15.size]; exact hk
          replace O := O.wr W15 g_b14
          replace K := K.wr W15 (Or.inr sz_b14)
          replace Zn : n0 ≤ h15.size := by rw [W15.size]; exact Zn
          replace V_b14 := Afn.set Ar15 S15 Nn15 H15 (fits_nar_char _) W15
          show Go p.tables e below PP (T15.setTop (mkF m 75 #[.val (.int p1), .val (.int p2), .val (.int p3), .val (.int p4), .val (.int p5), .val (.int p6)] [(.ref b14), (.ref b13), (.ref b13)]))
          refine Go.st (fun t k => XS.dup X15.here hx rfl (hb hby d2_75) rfl rfl k) ?_
          show Go p.tables e below PP (T15.setTop (mkF m 76 #[.val (.int p1), .val (.int p2), .val (.int p3), .val (.int p4), .val (.int p5), .val (.int p6)] [(.ref b14), (.ref b14), (.ref b13), (.ref b13)]))
          refine Go.st (fun t k => XS.iconst X15.here hx rfl (hb hby d2_76) k) ?_
          show Go p.tables e below PP (T15.setTop (mkF m 77 #[.val (.int p1), .val (.int p2), .val (.int p3), .val (.int p4), .val (.int p5), .val (.int p6)] [(.int (1 : Int32)), (.ref b14), (.ref b14), (.ref b13), (.ref b13)]))
          refine Go.st (fun t k => XS.iloadN X15.here hx rfl (hb hby d2_77) rfl k) ?_
          show Go p.tables e below PP (T15.setTop (mkF m 78 #[.val (.int p1), .val (.int p2), .val (.int p3), .val (.int p4), .val (.int p5), .val (.int p6)] [(.int p3), (.int (1 : Int32)), (.ref b14), (.ref b14), (.ref b13), (.ref b13)]))
          obtain ⟨cl16, Ar16, S16, Nn16, H16⟩ := id V_b14
          have hin16 : ¬ ((1 : Int32) < 0 ∨ cl16.slots.size ≤ ((1 : Int32)).toNatClampNeg) := inb_of S16 ⟨by decide, by decide⟩
          obtain ⟨T16, h16, X16, e16, W16, st16⟩ := stC X15 hx hZ e15 Ar16 (j := (1 : Int32)) hin16 (g := (mkF m 78 #[.val (.int p1), .val (.int p2), .val (.int p3), .val (.int p4), .val (.int p5), .val (.int p6)] [(.int p3), (.int (1 : Int32)), (.ref b14), (.ref b14), (.ref b13), (.ref b13)])) rfl rfl (hb hby d2_78)
          refine Go.st st16 ?_
          have N16 := Fr.snoc X16 N15 g_b14
          replace E_b13 := E_b13.wr W16
          replace F_value_b13 := F_value_b13.other W16 (Or.inl ne_b13_b14)
          replace F_coder_b13 := F_coder_b13.other W16 (Or.inl ne_b13_b14)
          replace SF_b13 := Safe.wr W16 SF_b14 CH SF_b13
          replace CR := CR.trans (CHr.wr W16 SF_b14 CH)
          have CH' := CH.wr W16 SF_b14
          replace SF_b14 := Safe.wr W16 SF_b14 CH SF_b14
          replace CH := CH'
          clear CH'
          replace hk : k0 ≤ h16.size := by rw [W16.size]; exact hk
          replace O := O.wr W16 g_b14
          replace K := K.wr W16 (Or.inr sz_b14)
          replace Zn : n0 ≤ h16.size := by rw [W16.size]; exact Zn
          replace V_b14 := Afn.set Ar16 S16 Nn16 H16 (fits_nar_char _) W16
          show Go p.tables e below PP (T16.setTop (mkF m 79 #[.val (.int p1), .val (.int p2), .val (.int p3), .val (.int p4), .val (.int p5), .val (.int p6)] [(.ref b14), (.ref b13), (.ref b13)]))
          refine Go.st (fun t k => XS.dup X16.here hx rfl (hb hby d2_79) rfl rfl k) ?_
          show Go p.tables e below PP (T16.setTop (mkF m 80 #[.val (.int p1), .val (.int p2), .val (.int p3), .val (.int p4), .val (.int p5), .val (.int p6)] [(.ref b14), (.ref b14), (.ref b13), (.ref b13)]))
          refine Go.st (fun t k => XS.iconst X16.here hx rfl (hb hby d2_80) k) ?_
          show Go p.tables e below PP (T16.setTop (mkF m 81 #[.val (.int p1), .val (.int p2), .val (.int p3), .val (.int p4), .val (.int p5), .val (.int p6)] [(.int (2 : Int32)), (.ref b14), (.ref b14), (.ref b13), (.ref b13)]))
          refine Go.st (fun t k => XS.iloadN X16.here hx rfl (hb hby d2_81) rfl k) ?_
          show Go p.tables e below PP (T16.setTop (mkF m 82 #[.val (.int p1), .val (.int p2), .val (.int p3), .val (.int p4), .val (.int p5), .val (.int p6)] [(.int p4), (.int (2 : Int32)), (.ref b14), (.ref b14), (.ref b13), (.ref b13)]))
          obtain ⟨cl17, Ar17, S17, Nn17, H17⟩ := id V_b14
          have hin17 : ¬ ((2 : Int32) < 0 ∨ cl17.slots.size ≤ ((2 : Int32)).toNatClampNeg) := inb_of S17 ⟨by decide, by decide⟩
          obtain ⟨T17, h17, X17, e17, W17, st17⟩ := stC X16 hx hZ e16 Ar17 (j := (2 : Int32)) hin17 (g := (mkF m 82 #[.val (.int p1), .val (.int p2), .val (.int p3), .val (.int p4), .val (.int p5), .val (.int p6)] [(.int p4), (.int (2 : Int32)), (.ref b14), (.ref b14), (.ref b13), (.ref b13)])) rfl rfl (hb hby d2_82)
          refine Go.st st17 ?_
          have N17 := Fr.snoc X17 N16 g_b14
          replace E_b13 := E_b13.wr W17
          replace F_value_b13 := F_value_b13.other W17 (Or.inl ne_b13_b14)
          replace F_coder_b13 := F_coder_b13.other W17 (Or.inl ne_b13_b14)
          replace SF_b13 := Safe.wr W17 SF_b14 CH SF_b13
          replace CR := CR.trans (CHr.wr W17 SF_b14 CH)
          have CH' := CH.wr W17 SF_b14
          replace SF_b14 := Safe.wr W17 SF_b14 CH SF_b14
          replace CH := CH'
          clear CH'
          replace hk : k0 ≤ h17.size := by rw [W17.size]; exact hk
          replace O := O.wr W17 g_b14
          replace K := K.wr W17 (Or.inr sz_b14)
          replace Zn : n0 ≤ h17.size := by rw [W17.size]; exact Zn
          replace V_b14 := Afn.set Ar17 S17 Nn17 H17 (fits_nar_char _) W17
          obtain ⟨csv, hcsv⟩ : ∃ f : Nat → Int32, f = csL [p2, p3, p4] := ⟨_, rfl⟩
          have hcb : ∀ k, k < (3 : Int32).toNatClampNeg → ¬ csv k < (0 : Int32) ∧ ¬ (255 : Int32) < csv k := fun k _ => by rw [hcsv]; exact own_csb _ (fun x hm => by simp only [List.mem_cons, List.not_mem_nil, or_false] at hm; rcases hm with rfl | rfl | rfl <;> first | exact ⟨hp2.1, hp2.2.1⟩ | exact ⟨hp3.1, hp3.2.1⟩ | exact ⟨hp4.1, hp4.2.1⟩) k
          replace V_b14 := V_b14.congr (g := fun k => .int (csv k)) (fun k hk => by rw [hcsv]; exact own_cs3 p2 p3 p4 hp2.2.2 hp3.2.2 hp4.2.2 k hk)
          show Go p.tables e below PP (T17.setTop (mkF m 83 #[.val (.int p1), .val (.int p2), .val (.int p3), .val (.int p4), .val (.int p5), .val (.int p6)] [(.ref b14), (.ref b13), (.ref b13)]))
          have hZ0 := hZ
          have hown0 := hown
          clear hZ hown
          obtain ⟨v18, T18, L18, X18, hQ18, hC18, hSn18, hZ, hown, st18⟩ := callInW X17 hx hZ0 (y := (⟨"java/lang/String", "<init>", "([C)V"⟩ : MethodName)) (a := b13) (argsL := [(.ref b14)]) (rest := [(.ref b13)]) rfl hown0 (hw _ (List.mem_of_getElem? (i := 12) rfl)) (hw _ (List.mem_of_getElem? (i := 13) rfl)) (hw _ (List.mem_of_getElem? (i := 10) rfl)) (hw _ (List.mem_of_getElem? (i := 14) rfl)) (by decide) (rmS1 l Z a0 hw [] b13 b14 (3 : Int32) csv zc h17 n0 Zn hEL E_b13 F_value_b13 F_coder_b13 g_b13 V_b14 hcb (by decide) ne_b13_b14 SC hzc O) e17 hEL CH hS hk 1 (by decide) (by decide) (by decide) (by decide) (g := (mkF m 83 #[.val (.int p1), .val (.int p2), .val (.int p3), .val (.int p4), .val (.int p5), .val (.int p6)] [(.ref b14), (.ref b13), (.ref b13)])) rfl (by rw [hml]; rfl) (lenOf pd_18 rfl) rfl (by show 2 * 0 + _ ≤ _; exact Nat.le_of_eq rfl) (hb hby d2_83)
          clear hZ0 hown0
          replace hS := hSn18
          obtain ⟨h18, e18⟩ : ∃ z, T18.heap = z := ⟨_, rfl⟩
          rw [e18] at hQ18 hC18
          replace SF_b13 := hC18.safe E_b13.lt SF_b13
          replace SF_b14 := hC18.safe V_b14.lt SF_b14
          replace CR := CR.trans hC18
          replace CH := hC18.1
          replace hk : T18.heap.size ≤ h18.size := by rw [e18]; exact Nat.le_refl _
          obtain ⟨rfl, Nq18, Kq18, Eq18, Cq18, t18, Fq18, Vq18⟩ := hQ18
          have N18 := Fr.app N17 Nq18
          replace E_b13 := E_b13.keep Kq18
          clear F_value_b13
          clear F_coder_b13
          replace V_b14 := V_b14.keep Kq18 (ninS (Ne.symm ne_b13_b14) nin0)
          replace O := O.keep Kq18 (allS g_b13 all0)
          replace K := K.trans Kq18 (allS (Or.inr sz_b13) all0)
          replace Zn := Nat.le_trans Zn Kq18.1
          replace E_b13 := Eq18
          have F_value_b13 := Fq18
          have F_coder_b13 := Cq18
          refine Go.st st18 ?_
          show Go p.tables e below PP (T18.setTop (mkF m 86 #[.val (.int p1), .val (.int p2), .val (.int p3), .val (.int p4), .val (.int p5), .val (.int p6)] [(.ref b13)]))
          rw [hPP]
          refine endRW X18 hx hlk hZ hS e18 hk hEL CH CR hret rfl rfl (hb hby d2_86) ?_ (by decide) (by decide)
          show Q2 Z p1 p2 p3 p4 p5 p6 zc h0 n0 (some (.ref b13)) T18.heap _
          rw [e18]
          exact ⟨N18, K, _, _, rfl, E_b13, F_coder_b13, F_value_b13, by rw [hc61]; rw [hcsv] at Vq18; exact Vq18.congr (fun k hk => by rw [(own_pre p2 p3 p4 p5 p6 k).2.2.2.1 hk])⟩
        · --
          refine Go.st (fun t k => XS.icmpYes X0.here hx rfl (pc0 := 61) (pc' := 87) rfl (hb hby d2_61) rfl (XT.ii_ne_t hc61) (by decide) (by decide) k) ?_
          show Go p.tables e below PP (s₁.setTop (mkF m 87 #[.val (.int p1), .val (.int p2), .val (.int p3), .val (.int p4), .val (.int p5), .val (.int p6)] []))
          refine Go.st (fun t k => XS.iloadN X0.here hx rfl (hb hby d2_87) rfl k) ?_
          show Go p.tables e below PP (s₁.setTop (mkF m 88 #[.val (.int p1), .val (.int p2), .val (.int p3), .val (.int p4), .val (.int p5), .val (.int p6)] [(.int p1)]))
          refine Go.st (fun t k => XS.iconst X0.here hx rfl (hb hby d2_88) k) ?_
          show Go p.tables e below PP (s₁.setTop (mkF m 89 #[.val (.int p1), .val (.int p2), .val (.int p3), .val (.int p4), .val (.int p5), .val (.int p6)] [(.int (4 : Int32)), (.int p1)]))
          by_cases hc89 : p1 = (4 : Int32)
          · --
            refine Go.st (fun t k => XS.icmpNo X0.here hx rfl (hb hby d2_89) rfl (XT.ii_ne_f hc89) k) ?_
            show Go p.tables e below PP (s₁.setTop (mkF m 92 #[.val (.int p1), .val (.int p2), .val (.int p3), .val (.int p4), .val (.int p5), .val (.int p6)] []))
            obtain ⟨T19, h19, X19, e19, E19, A19, D19, U19, st19⟩ := newO X0 hx hZ hown (hw _ (List.mem_of_getElem? (i := 8) rfl)) (hw _ (List.mem_of_getElem? (i := 9) rfl)) (hw _ (List.mem_of_getElem? (i := 10) rfl)) e0 (g := (mkF m 92 #[.val (.int p1), .val (.int p2), .val (.int p3), .val (.int p4), .val (.int p5), .val (.int p6)] [])) rfl (hb hby d2_92) (by decide) (by decide)
            obtain ⟨b19, gz19⟩ : ∃ z, z = h0.size := ⟨_, rfl⟩
            rw [← gz19] at A19 D19 U19 st19
            have g_b19 : n0 ≤ b19 := Nat.le_trans Zn (Nat.le_of_eq gz19.symm)
            have sz_b19 : h0.size ≤ b19 := Nat.le_trans K.1 (Nat.le_of_eq gz19.symm)
            have SF_b19 : Safe Z consts_1 vm0 h0 b19 := Safe.new (Nat.le_of_eq gz19.symm)
            refine Go.st st19 ?_
            replace SF_b19 := Safe.ext E19 CH SF_b19
            replace CR := CR.trans (CHr.ext E19 CH)
            replace CH := CH.ext E19
            replace hk := Nat.le_trans hk E19.1
            replace O := O.ext E19
            replace K := K.ext E19
            replace Zn := Nat.le_trans Zn E19.1
            have E_b19 := A19
            have F_value_b19 : Fld Z h19 b19 "java/lang/String" "value" "[B" .null := D19 (Or.inr (hw _ (List.mem_of_getElem? (i := 24) rfl))) (ty := (.array .byte)) (by decide)
            have F_coder_b19 : Fld Z h19 b19 "java/lang/String" "coder" "B" (.int (0 : Int32)) := D19 (Or.inr (hw _ (List.mem_of_getElem? (i := 25) rfl))) (ty := .byte) (by decide)
            show Go p.tables e below PP (T19.setTop (mkF m 95 #[.val (.int p1), .val (.int p2), .val (.int p3), .val (.int p4), .val (.int p5), .val (.int p6)] [(.ref b19)]))
            refine Go.st (fun t k => XS.dup X19.here hx rfl (hb hby d2_95) rfl rfl k) ?_
            show Go p.tables e below PP (T19.setTop (mkF m 96 #[.val (.int p1), .val (.int p2), .val (.int p3), .val (.int p4), .val (.int p5), .val (.int p6)] [(.ref b19), (.ref b19)]))
            refine Go.st (fun t k => XS.iconst X19.here hx rfl (hb hby d2_96) k) ?_
            show Go p.tables e below PP (T19.setTop (mkF m 97 #[.val (.int p1), .val (.int p2), .val (.int p3), .val (.int p4), .val (.int p5), .val (.int p6)] [(.int (4 : Int32)), (.ref b19), (.ref b19)]))
            obtain ⟨T20, h20, k20, X20, e20, E20, A20, st20⟩ := newP X19 hx hZ (hw _ (List.mem_of_getElem? (i := 11) rfl)) e19 (g := (mkF m 97 #[.val (.int p1), .val (.int p2), .val (.int p3), .val (.int p4), .val (.int p5), .val (.int p6)] [(.int (4 : Int32)), (.ref b19), (.ref b19)])) rfl (hb hby d2_97) rfl (by decide) (cap := 4) (by decide) (by decide) (by decide) (by decide)
            obtain ⟨b20, gz20⟩ : ∃ z, z = h19.size := ⟨_, rfl⟩
            rw [← gz20] at A20 st20
            have ne_b19_b20 : b19 ≠ b20 := Nat.ne_of_lt (Nat.lt_of_lt_of_le E_b19.lt (Nat.le_of_eq gz20.symm))
            have g_b20 : n0 ≤ b20 := Nat.le_trans Zn (Nat.le_of_eq gz20.symm)
            have sz_b20 : h0.size ≤ b20 := Nat.le_trans K.1 (Nat.le_of_eq gz20.symm)
            have SF_b20 : Safe Z consts_1 vm0 h19 b20 := Safe.new (Nat.le_of_eq gz20.symm)
            refine Go.st st20 ?_
            replace E_b19 := E_b19.ext E20
            replace F_value_b19 := F_value_b19.ext E20
            replace F_coder_b19 := F_coder_b19.ext E20
            replace SF_b19 := Safe.ext E20 CH SF_b19
            replace SF_b20 := Safe.ext E20 CH SF_b20
            replace CR := CR.trans (CHr.ext E20 CH)
            replace CH := CH.ext E20
            replace hk := Nat.le_trans hk E20.1
            replace O := O.ext E20
            replace K := K.ext E20
            replace Zn := Nat.le_trans Zn E20.1
            have V_b20 : Afn Z h20 b20 .char (4 : Int32) (fun _ => (.int (0 : Int32))) := Afn.new A20 (by decide)
            show Go p.tables e below PP (T20.setTop (mkF m 99 #[.val (.int p1), .val (.int p2), .val (.int p3), .val (.int p4), .val (.int p5), .val (.int p6)] [(.ref b20), (.ref b19), (.ref b19)]))
            refine Go.st (fun t k => XS.dup X20.here hx rfl (hb hby d2_99) rfl rfl k) ?_
            show Go p.tables e below PP (T20.setTop (mkF m 100 #[.val (.int p1), .val (.int p2), .val (.int p3), .val (.int p4), .val (.int p5), .val (.int p6)] [(.ref b20), (.ref b20), (.ref b19), (.ref b19)]))
            refine Go.st (fun t k => XS.iconst X20.here hx rfl (hb hby d2_100) k) ?_
            show Go p.tables e below PP (T20.setTop (mkF m 101 #[.val (.int p1), .val (.int p2), .val (.int p3), .val (.int p4), .val (.int p5), .val (.int p6)] [(.int (0 : Int32)), (.ref b20), (.ref b20), (.ref b19), (.ref b19)]))
            refine Go.st (fun t k => XS.iloadN X20.here hx rfl (hb hby d2_101) rfl k) ?_
            show Go p.tables e below PP (T20.setTop (mkF m 102 #[.val (.int p1), .val (.int p2), .val (.int p3), .val (.int p4), .val (.int p5), .val (.int p6)] [(.int p2), (.int (0 : Int32)), (.ref b20), (.ref b20), (.ref b19), (.ref b19)]))
            obtain ⟨cl21, Ar21, S21, Nn21, H21⟩ := id V_b20
            have hin21 : ¬ ((0 : Int32) < 0 ∨ cl21.slots.size ≤ ((0 : Int32)).toNatClampNeg) := inb_of S21 ⟨by decide, by decide⟩
            obtain ⟨T21, h21, X21, e21, W21, st21⟩ := stC X20 hx hZ e20 Ar21 (j := (0 : Int32)) hin21 (g := (mkF m 102 #[.val (.int p1), .val (.int p2), .val (.int p3), .val (.int p4), .val (.int p5), .val (.int p6)] [(.int p2), (.int (0 : Int32)), (.ref b20), (.ref b20), (.ref b19), (.ref b19)])) rfl rfl (hb hby d2_102)
            refine Go.st st21 ?_
            have N21 := Fr.snoc X21 N0 g_b20
            replace E_b19 := E_b19.wr W21
            replace F_value_b19 := F_value_b19.other W21 (Or.inl ne_b19_b20)
            replace F_coder_b19 := F_coder_b19.other W21 (Or.inl ne_b19_b20)
            replace SF_b19 := Safe.wr W21 SF_b20 CH SF_b19
            replace CR := CR.trans (CHr.wr W21 SF_b20 CH)
            have CH' := CH.wr W21 SF_b20
            replace SF_b20 := Safe.wr W21 SF_b20 CH SF_b20
            replace CH := CH'
            clear CH'
            replace hk : k0 ≤ h21.size := by rw [W21.size]; exact hk
            replace O := O.wr W21 g_b20
            replace K := K.wr W21 (Or.inr sz_b20)
            replace Zn : n0 ≤ h21.size := by rw [W21.size]; exact Zn
            replace V_b20 := Afn.set Ar21 S21 Nn21 H21 (fits_nar_char _) W21
            show Go p.tables e below PP (T21.setTop (mkF m 103 #[.val (.int p1), .val (.int p2), .val (.int p3), .val (.int p4), .val (.int p5), .val (.int p6)] [(.ref b20), (.ref b19), (.ref b19)]))
            refine Go.st (fun t k => XS.dup X21.here hx rfl (hb hby d2_103) rfl rfl k) ?_
            show Go p.tables e below PP (T21.setTop (mkF m 104 #[.val (.int p1), .val (.int p2), .val (.int p3), .val (.int p4), .val (.int p5), .val (.int p6)] [(.ref b20), (.ref b20), (.ref b19), (.ref b19)]))
            refine Go.st (fun t k => XS.iconst X21.here hx rfl (hb hby d2_104) k) ?_
            show Go p.tables e below PP (T21.setTop (mkF m 105 #[.val (.int p1), .val (.int p2), .val (.int p3), .val (.int p4), .val (.int p5), .val (.int p6)] [(.int (1 : Int32)), (.ref b20), (.ref b20), (.ref b19), (.ref b19)]))
            refine Go.st (fun t k => XS.iloadN X21.here hx rfl (hb hby d2_105) rfl k) ?_
            show Go p.tables e below PP (T21.setTop (mkF m 106 #[.val (.int p1), .val (.int p2), .val (.int p3), .val (.int p4), .val (.int p5), .val (.int p6)] [(.int p3), (.int (1 : Int32)), (.ref b20), (.ref b20), (.ref b19), (.ref b19)]))
            obtain ⟨cl22, Ar22, S22, Nn22, H22⟩ := id V_b20
            have hin22 : ¬ ((1 : Int32) < 0 ∨ cl22.slots.size ≤ ((1 : Int32)).toNatClampNeg) := inb_of S22 ⟨by decide, by decide⟩
            obtain ⟨T22, h22, X22, e22, W22, st22⟩ := stC X21 hx hZ e21 Ar22 (j := (1 : Int32)) hin22 (g := (mkF m 106 #[.val (.int p1), .val (.int p2), .val (.int p3), .val (.int p4), .val (.int p5), .val (.int p6)] [(.int p3), (.int (1 : Int32)), (.ref b20), (.ref b20), (.ref b19), (.ref b19)])) rfl rfl (hb hby d2_106)
            refine Go.st st22 ?_
            have N22 := Fr.snoc X22 N21 g_b20
            replace E_b19 := E_b19.wr W22
            replace F_value_b19 := F_value_b19.other W22 (Or.inl ne_b19_b20)
            replace F_coder_b19 := F_coder_b19.other W22 (Or.inl ne_b19_b20)
            replace SF_b19 := Safe.wr W22 SF_b20 CH SF_b19
            replace CR := CR.trans (CHr.wr W22 SF_b20 CH)
            have CH' := CH.wr W22 SF_b20
            replace SF_b20 := Safe.wr W22 SF_b20 CH SF_b20
            replace CH := CH'
            clear CH'
            replace hk : k0 ≤ h22.size := by rw [W22.size]; exact hk
            replace O := O.wr W22 g_b20
            replace K := K.wr W22 (Or.inr sz_b20)
            replace Zn : n0 ≤ h22.size := by rw [W22.size]; exact Zn
            replace V_b20 := Afn.set Ar22 S22 Nn22 H22 (fits_nar_char _) W22
            show Go p.tables e below PP (T22.setTop (mkF m 107 #[.val (.int p1), .val (.int p2), .val (.int p3), .val (.int p4), .val (.int p5), .val (.int p6)] [(.ref b20), (.ref b19), (.ref b19)]))
            refine Go.st (fun t k => XS.dup X22.here hx rfl (hb hby d2_107) rfl rfl k) ?_
            show Go p.tables e below PP (T22.setTop (mkF m 108 #[.val (.int p1), .val (.int p2), .val (.int p3), .val (.int p4), .val (.int p5), .val (.int p6)] [(.ref b20), (.ref b20), (.ref b19), (.ref b19)]))
            refine Go.st (fun t k => XS.iconst X22.here hx rfl (hb hby d2_108) k) ?_
            show Go p.tables e below PP (T22.setTop (mkF m 109 #[.val (.int p1), .val (.int p2), .val (.int p3), .val (.int p4), .val (.int p5), .val (.int p6)] [(.int (2 : Int32)), (.ref b20), (.ref b20), (.ref b19), (.ref b19)]))
            refine Go.st (fun t k => XS.iloadN X22.here hx rfl (hb hby d2_109) rfl k) ?_
            show Go p.tables e below PP (T22.setTop (mkF m 110 #[.val (.int p1), .val (.int p2), .val (.int p3), .val (.int p4), .val (.int p5), .val (.int p6)] [(.int p4), (.int (2 : Int32)), (.ref b20), (.ref b20), (.ref b19), (.ref b19)]))
            obtain ⟨cl23, Ar23, S23, Nn23, H23⟩ := id V_b20
            have hin23 : ¬ ((2 : Int32) < 0 ∨ cl23.slots.size ≤ ((2 : Int32)).toNatClampNeg) := inb_of S23 ⟨by decide, by decide⟩
            obtain ⟨T23, h23, X23, e23, W23, st23⟩ := stC X22 hx hZ e22 Ar23 (j := (2 : Int32)) hin23 (g := (mkF m 110 #[.val (.int p1), .val (.int p2), .val (.int p3), .val (.int p4), .val (.int p5), .val (.int p6)] [(.int p4), (.int (2 : Int32)), (.ref b20), (.ref b20), (.ref b19), (.ref b19)])) rfl rfl (hb hby d2_110)
            refine Go.st st23 ?_
            have N23 := Fr.snoc X23 N22 g_b20
            replace E_b19 := E_b19.wr W23
            replace F_value_b19 := F_value_b19.other W23 (Or.inl ne_b19_b20)
            replace F_coder_b19 := F_coder_b19.other W23 (Or.inl ne_b19_b20)
            replace SF_b19 := Safe.wr W23 SF_b20 CH SF_b19
            replace CR := CR.trans (CHr.wr W23 SF_b20 CH)
            have CH' := CH.wr W23 SF_b20
            replace SF_b20 := Safe.wr W23 SF_b20 CH SF_b20
            replace CH := CH'
            clear CH'
            replace hk : k0 ≤ h23.size := by rw [W23.size]; exact hk
            replace O := O.wr W23 g_b20
            replace K := K.wr W23 (Or.inr sz_b20)
            replace Zn : n0 ≤ h23.size := by rw [W23.size]; exact Zn
            replace V_b20 := Afn.set Ar23 S23 Nn23 H23 (fits_nar_char _) W23
            show Go p.tables e below PP (T23.setTop (mkF m 111 #[.val (.int p1), .val (.int p2), .val (.int p3), .val (.int p4), .val (.int p5), .val (.int p6)] [(.ref b20), (.ref b19), (.ref b19)]))
            refine Go.st (fun t k => XS.dup X23.here hx rfl (hb hby d2_111) rfl rfl k) ?_
            show Go p.tables e below PP (T23.setTop (mkF m 112 #[.val (.int p1), .val (.int p2), .val (.int p3), .val (.int p4), .val (.int p5), .val (.int p6)] [(.ref b20), (.ref b20), (.ref b19), (.ref b19)]))
            refine Go.st (fun t k => XS.iconst X23.here hx rfl (hb hby d2_112) k) ?_
            show Go p.tables e below PP (T23.setTop (mkF m 113 #[.val (.int p1), .val (.int p2), .val (.int p3), .val (.int p4), .val (.int p5), .val (.int p6)] [(.int (3 : Int32)), (.ref b20), (.ref b20), (.ref b19), (.ref b19)]))
            refine Go.st (fun t k => XS.iload X23.here hx rfl (hb hby d2_113) rfl k) ?_
            show Go p.tables e below PP (T23.setTop (mkF m 115 #[.val (.int p1), .val (.int p2), .val (.int p3), .val (.int p4), .val (.int p5), .val (.int p6)] [(.int p5), (.int (3 : Int32)), (.ref b20), (.ref b20), (.ref b19), (.ref b19)]))
            obtain ⟨cl24, Ar24, S24, Nn24, H24⟩ := id V_b20
            have hin24 : ¬ ((3 : Int32) < 0 ∨ cl24.slots.size ≤ ((3 : Int32)).toNatClampNeg) := inb_of S24 ⟨by decide, by decide⟩
            obtain ⟨T24, h24, X24, e24, W24, st24⟩ := stC X23 hx hZ e23 Ar24 (j := (3 : Int32)) hin24 (g := (mkF m 115 #[.val (.int p1), .val (.int p2), .val (.int p3), .val (.int p4), .val (.int p5), .val (.int p6)] [(.int p5), (.int (3 : Int32)), (.ref b20), (.ref b20), (.ref b19), (.ref b19)])) rfl rfl (hb hby d2_115)
            refine Go.st st24 ?_
            have N24 := Fr.snoc X24 N23 g_b20
            replace E_b19 := E_b19.wr W24
            replace F_value_b19 := F_value_b19.other W24 (Or.inl ne_b19_b20)
            replace F_coder_b19 := F_coder_b19.other W24 (Or.inl ne_b19_b20)
            replace SF_b19 := Safe.wr W24 SF_b20 CH SF_b19
            replace CR := CR.trans (CHr.wr W24 SF_b20 CH)
            have CH' := CH.wr W24 SF_b20
            replace SF_b20 := Safe.wr W24 SF_b20 CH SF_b20
            replace CH := CH'
            clear CH'
            replace hk : k0 ≤ h24.size := by rw [W24.size]; exact hk
            replace O := O.wr W24 g_b20
            replace K := K.wr W24 (Or.inr sz_b20)
            replace Zn : n0 ≤ h24.size := by rw [W24.size]; exact Zn
            replace V_b20 := Afn.set Ar24 S24 Nn24 H24 (fits_nar_char _) W24
            obtain ⟨csv, hcsv⟩ : ∃ f : Nat → Int32, f = csL [p2, p3, p4, p5] := ⟨_, rfl⟩
            have hcb : ∀ k, k < (4 : Int32).toNatClampNeg → ¬ csv k < (0 : Int32) ∧ ¬ (255 : Int32) < csv k := fun k _ => by rw [hcsv]; exact own_csb _ (fun x hm => by simp only [List.mem_cons, List.not_mem_nil, or_false] at hm; rcases hm with rfl | rfl | rfl | rfl <;> first | exact ⟨hp2.1, hp2.2.1⟩ | exact ⟨hp3.1, hp3.2.1⟩ | exact ⟨hp4.1, hp4.2.1⟩ | exact ⟨hp5.1, hp5.2.1⟩) k
            replace V_b20 := V_b20.congr (g := fun k => .int (csv k)) (fun k hk => by rw [hcsv]; exact own_cs4 p2 p3 p4 p5 hp2.2.2 hp3.2.2 hp4.2.2 hp5.2.2 k hk)
            show Go p.tables e below PP (T24.setTop (mkF m 116 #[.val (.int p1), .val (.int p2), .val (.int p3), .val (.int p4), .val (.int p5), .val (.int p6)] [(.ref b20), (.ref b19), (.ref b19)]))
            have hZ0 := hZ
            have hown0 := hown
            clear hZ hown
            obtain ⟨v25, T25, L25, X25, hQ25, hC25, hSn25, hZ, hown, st25⟩ := callInW X24 hx hZ0 (y := (⟨"java/lang/String", "<init>", "([C)V"⟩ : MethodName)) (a := b19) (argsL := [(.ref b20)]) (rest := [(.ref b19)]) rfl hown0 (hw _ (List.mem_of_getElem? (i := 12) rfl)) (hw _ (List.mem_of_getElem? (i := 13) rfl)) (hw _ (List.mem_of_getElem? (i := 10) rfl)) (hw _ (List.mem_of_getElem? (i := 14) rfl)) (by decide) (rmS1 l Z a0 hw [] b19 b20 (4 : Int32) csv zc h24 n0 Zn hEL E_b19 F_value_b19 F_coder_b19 g_b19 V_b20 hcb (by decide) ne_b19_b20 SC hzc O) e24 hEL CH hS hk 1 (by decide) (by decide) (by decide) (by decide) (g := (mkF m 116 #[.val (.int p1), .val (.int p2), .val (.int p3), .val (.int p4), .val (.int p5), .val (.int p6)] [(.ref b20), (.ref b19), (.ref b19)])) rfl (by rw [hml]; rfl) (lenOf pd_18 rfl) rfl (by show 2 * 0 + _ ≤ _; exact Nat.le_of_eq rfl) (hb hby d2_116)
            clear hZ0 hown0
            replace hS := hSn25
            obtain ⟨h25, e25⟩ : ∃ z, T25.heap = z := ⟨_, rfl⟩
            rw [e25] at hQ25 hC25
            replace SF_b19 := hC25.safe E_b19.lt SF_b19
            replace SF_b20 := hC25.safe V_b20.lt SF_b20
            replace CR := CR.trans hC25
            replace CH := hC25.1
            replace hk : T25.heap.size ≤ h25.size := by rw [e25]; exact Nat.le_refl _
            obtain ⟨rfl, Nq25, Kq25, Eq25, Cq25, t25, Fq25, Vq25⟩ := hQ25
            have N25 := Fr.app N24 Nq25
            replace E_b19 := E_b19.keep Kq25
            clear F_value_b19
            clear F_coder_b19
            replace V_b20 := V_b20.keep Kq25 (ninS (Ne.symm ne_b19_b20) nin0)
            replace O := O.keep Kq25 (allS g_b19 all0)
            replace K := K.trans Kq25 (allS (Or.inr sz_b19) all0)
            replace Zn := Nat.le_trans Zn Kq25.1
            replace E_b19 := Eq25
            have F_value_b19 := Fq25
            have F_coder_b19 := Cq25
            refine Go.st st25 ?_
            show Go p.tables e below PP (T25.setTop (mkF m 119 #[.val (.int p1), .val (.int p2), .val (.int p3), .val (.int p4), .val (.int p5), .val (.int p6)] [(.ref b19)]))
            rw [hPP]
            refine endRW X25 hx hlk hZ hS e25 hk hEL CH CR hret rfl rfl (hb hby d2_119) ?_ (by decide) (by decide)
            show Q2 Z p1 p2 p3 p4 p5 p6 zc h0 n0 (some (.ref b19)) T25.heap _
            rw [e25]
            exact ⟨N25, K, _, _, rfl, E_b19, F_coder_b19, F_value_b19, by rw [hc89]; rw [hcsv] at Vq25; exact Vq25.congr (fun k hk => by rw [(own_pre p2 p3 p4 p5 p6 k).2.2.2.2 hk])⟩
          · --
            refine Go.st (fun t k => XS.icmpYes X0.here hx rfl (pc0 := 89) (pc' := 120) rfl (hb hby d2_89) rfl (XT.ii_ne_t hc89) (by decide) (by decide) k) ?_
            show Go p.tables e below PP (s₁.setTop (mkF m 120 #[.val (.int p1), .val (.int p2), .val (.int p3), .val (.int p4), .val (.int p5), .val (.int p6)] []))
            obtain ⟨T26, h26, X26, e26, E26, A26, D26, U26, st26⟩ := newO X0 hx hZ hown (hw _ (List.mem_of_getElem? (i := 8) rfl)) (hw _ (List.mem_of_getElem? (i := 9) rfl)) (hw _ (List.mem_of_getElem? (i := 10) rfl)) e0 (g := (mkF m 120 #[.val (.int p1), .val (.int p2), .val (.int p3), .val (.int p4), .val (.int p5), .val (.int p6)] [])) rfl (hb hby d2_120) (by decide) (by decide)
            obtain ⟨b26, gz26⟩ : ∃ z, z = h0.size := ⟨_, rfl⟩
            rw [← gz26] at A26 D26 U26 st26
            have g_b26 : n0 ≤ b26 := Nat.le_trans Zn (Nat.le_of_eq gz26.symm)
            have sz_b26 : h0.size ≤ b26 := Nat.le_trans K.1 (Nat.le_of_eq gz26.symm)
            have SF_b26 : Safe Z consts_1 vm0 h0 b26 := Safe.new (Nat.le_of_eq gz26.symm)
            refine Go.st st26 ?_
            replace SF_b26 := Safe.ext E26 CH SF_b26
            replace CR := CR.trans (CHr.ext E26 CH)
            replace CH := CH.ext E26
            replace hk := Nat.le_trans hk E26.1
            replace O := O.ext E26
            replace K := K.ext E26
            replace Zn := Nat.le_trans Zn E26.1
            have E_b26 := A26
            have F_value_b26 : Fld Z h26 b26 "java/lang/String" "value" "[B" .null := D26 (Or.inr (hw _ (List.mem_of_getElem? (i := 24) rfl))) (ty := (.array .byte)) (by decide)
            have F_coder_b26 : Fld Z h26 b26 "java/lang/String" "coder" "B" (.int (0 : Int32)) := D26 (Or.inr (hw _ (List.mem_of_getElem? (i := 25) rfl))) (ty := .byte) (by decide)
            show Go p.tables e below PP (T26.setTop (mkF m 123 #[.val (.int p1), .val (.int p2), .val (.int p3), .val (.int p4), .val (.int p5), .val (.int p6)] [(.ref b26)]))
            refine Go.st (fun t k => XS.dup X26.here hx rfl (hb hby d2_123) rfl rfl k) ?_
            show Go p.tables e below PP (T26.setTop (mkF m 124 #[.val (.int p1), .val (.int p2), .val (.int p3), .val (.int p4), .val (.int p5), .val (.int p6)] [(.ref b26), (.ref b26)]))
            refine Go.st (fun t k => XS.iconst X26.here hx rfl (hb hby d2_124) k) ?_
            show Go p.tables e below PP (T26.setTop (mkF m 125 #[.val (.int p1), .val (.int p2), .val (.int p3), .val (.int p4), .val (.int p5), .val (.int p6)] [(.int (5 : Int32)), (.ref b26), (.ref b26)]))
            obtain ⟨T27, h27, k27, X27, e27, E27, A27, st27⟩ := newP X26 hx hZ (hw _ (List.mem_of_getElem? (i := 11) rfl)) e26 (g := (mkF m 125 #[.val (.int p1), .val (.int p2), .val (.int p3), .val (.int p4), .val (.int p5), .val (.int p6)] [(.int (5 : Int32)), (.ref b26), (.ref b26)])) rfl (hb hby d2_125) rfl (by decide) (cap := 5) (by decide) (by decide) (by decide) (by decide)
            obtain ⟨b27, gz27⟩ : ∃ z, z = h26.size := ⟨_, rfl⟩
            rw [← gz27] at A27 st27
            have ne_b26_b27 : b26 ≠ b27 := Nat.ne_of_lt (Nat.lt_of_lt_of_le E_b26.lt (Nat.le_of_eq gz27.symm))
            have g_b27 : n0 ≤ b27 := Nat.le_trans Zn (Nat.le_of_eq gz27.symm)
            have sz_b27 : h0.size ≤ b27 := Nat.le_trans K.1 (Nat.le_of_eq gz27.symm)
            have SF_b27 : Safe Z consts_1 vm0 h26 b27 := Safe.new (Nat.le_of_eq gz27.symm)
            refine Go.st st27 ?_
            replace E_b26 := E_b26.ext E27
            replace F_value_b26 := F_value_b26.ext E27
            replace F_coder_b26 := F_coder_b26.ext E27
            replace SF_b26 := Safe.ext E27 CH SF_b26
            replace SF_b27 := Safe.ext E27 CH SF_b27
            replace CR := CR.trans (CHr.ext E27 CH)
            replace CH := CH.ext E27
            replace hk := Nat.le_trans hk E27.1
            replace O := O.ext E27
            replace K := K.ext E27
            replace Zn := Nat.le_trans Zn E27.1
            have V_b27 : Afn Z h27 b27 .char (5 : Int32) (fun _ => (.int (0 : Int32))) := Afn.new A27 (by decide)
            show Go p.tables e below PP (T27.setTop (mkF m 127 #[.val (.int p1), .val (.int p2), .val (.int p3), .val (.int p4), .val (.int p5), .val (.int p6)] [(.ref b27), (.ref b26), (.ref b26)]))
            refine Go.st (fun t k => XS.dup X27.here hx rfl (hb hby d2_127) rfl rfl k) ?_
            show Go p.tables e below PP (T27.setTop (mkF m 128 #[.val (.int p1), .val (.int p2), .val (.int p3), .val (.int p4), .val (.int p5), .val (.int p6)] [(.ref b27), (.ref b27), (.ref b26), (.ref b26)]))
            refine Go.st (fun t k => XS.iconst X27.here hx rfl (hb hby d2_128) k) ?_
            show Go p.tables e below PP (T27.setTop (mkF m 129 #[.val (.int p1), .val (.int p2), .val (.int p3), .val (.int p4), .val (.int p5), .val (.int p6)] [(.int (0 : Int32)), (.ref b27), (.ref b27), (.ref b26), (.ref b26)]))
            refine Go.st (fun t k => XS.iloadN X27.here hx rfl (hb hby d2_129) rfl k) ?_
            show Go p.tables e below PP (T27.setTop (mkF m 130 #[.val (.int p1), .val (.int p2), .val (.int p3), .val (.int p4), .val (.int p5), .val (.int p6)] [(.int p2), (.int (0 : Int32)), (.ref b27), (.ref b27), (.ref b26), (.ref b26)]))
            obtain ⟨cl28, Ar28, S28, Nn28, H28⟩ := id V_b27
            have hin28 : ¬ ((0 : Int32) < 0 ∨ cl28.slots.size ≤ ((0 : Int32)).toNatClampNeg) := inb_of S28 ⟨by decide, by decide⟩
            obtain ⟨T28, h28, X28, e28, W28, st28⟩ := stC X27 hx hZ e27 Ar28 (j := (0 : Int32)) hin28 (g := (mkF m 130 #[.val (.int p1), .val (.int p2), .val (.int p3), .val (.int p4), .val (.int p5), .val (.int p6)] [(.int p2), (.int (0 : Int32)), (.ref b27), (.ref b27), (.ref b26), (.ref b26)])) rfl rfl (hb hby d2_130)
            refine Go.st st28 ?_
            have N28 := Fr.snoc X28 N0 g_b27
            replace E_b26 := E_b26.wr W28
            replace F_value_b26 := F_value_b26.other W28 (Or.inl ne_b26_b27)
            replace F_coder_b26 := F_coder_b26.other W28 (Or.inl ne_b26_b27)
            replace SF_b26 := Safe.wr W28 SF_b27 CH SF_b26
            replace CR := CR.trans (CHr.wr W28 SF_b27 CH)
            have CH' := CH.wr W28 SF_b27
            replace SF_b27 := Safe.wr W28 SF_b27 CH SF_b27
            replace CH := CH'
            clear CH'
            replace hk : k0 ≤ h28.size := by rw [W28.size]; exact hk
            replace O := O.wr W28 g_b27
            replace K := K.wr W28 (Or.inr sz_b27)
            replace Zn : n0 ≤ h28.size := by rw [W28.size]; exact Zn
            replace V_b27 := Afn.set Ar28 S28 Nn28 H28 (fits_nar_char _) W28
            show Go p.tables e below PP (T28.setTop (mkF m 131 #[.val (.int p1), .val (.int p2), .val (.int p3), .val (.int p4), .val (.int p5), .val (.int p6)] [(.ref b27), (.ref b26), (.ref b26)]))
            refine Go.st (fun t k => XS.dup X28.here hx rfl (hb hby d2_131) rfl rfl k) ?_
            show Go p.tables e below PP (T28.setTop (mkF m 132 #[.val (.int p1), .val (.int p2), .val (.int p3), .val (.int p4), .val (.int p5), .val (.int p6)] [(.ref b27), (.ref b27), (.ref b26), (.ref b26)]))
            refine Go.st (fun t k => XS.iconst X28.here hx rfl (hb hby d2_132) k) ?_
            show Go p.tables e below PP (T28.setTop (mkF m 133 #[.val (.int p1), .val (.int p2), .val (.int p3), .val (.int p4), .val (.int p5), .val (.int p6)] [(.int (1 : Int32)), (.ref b27), (.ref b27), (.ref b26), (.ref b26)]))
            refine Go.st (fun t k => XS.iloadN X28.here hx rfl (hb hby d2_133) rfl k) ?_
            show Go p.tables e below PP (T28.setTop (mkF m 134 #[.val (.int p1), .val (.int p2), .val (.int p3), .val (.int p4), .val (.int p5), .val (.int p6)] [(.int p3), (.int (1 : Int32)), (.ref b27), (.ref b27), (.ref b26), (.ref b26)]))
            obtain ⟨cl29, Ar29, S29, Nn29, H29⟩ := id V_b27
            have hin29 : ¬ ((1 : Int32) < 0 ∨ cl29.slots.size ≤ ((1 : Int32)).toNatClampNeg) := inb_of S29 ⟨by decide, by decide⟩
            obtain ⟨T29, h29, X29, e29, W29, st29⟩ := stC X28 hx hZ e28 Ar29 (j := (1 : Int32)) hin29 (g := (mkF m 134 #[.val (.int p1), .val (.int p2), .val (.int p3), .val (.int p4), .val (.int p5), .val (.int p6)] [(.int p3), (.int (1 : Int32)), (.ref b27), (.ref b27), (.ref b26), (.ref b26)])) rfl rfl (hb hby d2_134)
            refine Go.st st29 ?_
            have N29 := Fr.snoc X29 N28 g_b27
            replace E_b26 := E_b26.wr W29
            replace F_value_b26 := F_value_b26.other W29 (Or.inl ne_b26_b27)
            replace F_coder_b26 := F_coder_b26.other W29 (Or.inl ne_b26_b27)
            replace SF_b26 := Safe.wr W29 SF_b27 CH SF_b26
            replace CR := CR.trans (CHr.wr W29 SF_b27 CH)
            have CH' := CH.wr W29 SF_b27
            replace SF_b27 := Safe.wr W29 SF_b27 CH SF_b27
            replace CH := CH'
            clear CH'
            replace hk : k0 ≤ h29.size := by rw [W29.size]; exact hk
            replace O := O.wr W29 g_b27
            replace K := K.wr W29 (Or.inr sz_b27)
            replace Zn : n0 ≤ h29.size := by rw [W29.size]; exact Zn
            replace V_b27 := Afn.set Ar29 S29 Nn29 H29 (fits_nar_char _) W29
            show Go p.tables e below PP (T29.setTop (mkF m 135 #[.val (.int p1), .val (.int p2), .val (.int p3), .val (.int p4), .val (.int p5), .val (.int p6)] [(.ref b27), (.ref b26), (.ref b26)]))
            refine Go.st (fun t k => XS.dup X29.here hx rfl (hb hby d2_135) rfl rfl k) ?_
            show Go p.tables e below PP (T29.setTop (mkF m 136 #[.val (.int p1), .val (.int p2), .val (.int p3), .val (.int p4), .val (.int p5), .val (.int p6)] [(.ref b27), (.ref b27), (.ref b26), (.ref b26)]))
            refine Go.st (fun t k => XS.iconst X29.here hx rfl (hb hby d2_136) k) ?_
            show Go p.tables e below PP (T29.setTop (mkF m 137 #[.val (.int p1), .val (.int p2), .val (.int p3), .val (.int p4), .val (.int p5), .val (.int p6)] [(.int (2 : Int32)), (.ref b27), (.ref b27), (.ref b26), (.ref b26)]))
            refine Go.st (fun t k => XS.iloadN X29.here hx rfl (hb hby d2_137) rfl k) ?_
            show Go p.tables e below PP (T29.setTop (mkF m 138 #[.val (.int p1), .val (.int p2), .val (.int p3), .val (.int p4), .val (.int p5), .val (.int p6)] [(.int p4), (.int (2 : Int32)), (.ref b27), (.ref b27), (.ref b26), (.ref b26)]))
            obtain ⟨cl30, Ar30, S30, Nn30, H30⟩ := id V_b27
            have hin30 : ¬ ((2 : Int32) < 0 ∨ cl30.slots.size ≤ ((2 : Int32)).toNatClampNeg) := inb_of S30 ⟨by decide, by decide⟩
            obtain ⟨T30, h30, X30, e30, W30, st30⟩ := stC X29 hx hZ e29 Ar30 (j := (2 : Int32)) hin30 (g := (mkF m 138 #[.val (.int p1), .val (.int p2), .val (.int p3), .val (.int p4), .val (.int p5), .val (.int p6)] [(.int p4), (.int (2 : Int32)), (.ref b27), (.ref b27), (.ref b26), (.ref b26)])) rfl rfl (hb hby d2_138)
            refine Go.st st30 ?_
            have N30 := Fr.snoc X30 N29 g_b27
            replace E_b26 := E_b26.wr W30
            replace F_value_b26 := F_value_b26.other W30 (Or.inl ne_b26_b27)
            replace F_coder_b26 := F_coder_b26.other W30 (Or.inl ne_b26_b27)
            replace SF_b26 := Safe.wr W30 SF_b27 CH SF_b26
            replace CR := CR.trans (CHr.wr W30 SF_b27 CH)
            have CH' := CH.wr W30 SF_b27
            replace SF_b27 := Safe.wr W30 SF_b27 CH SF_b27
            replace CH := CH'
            clear CH'
            replace hk : k0 ≤ h30.size := by rw [W30.size]; exact hk
            replace O := O.wr W30 g_b27
            replace K := K.wr W30 (Or.inr sz_b27)
            replace Zn : n0 ≤ h30.size := by rw [W30.size]; exact Zn
            replace V_b27 := Afn.set Ar30 S30 Nn30 H30 (fits_nar_char _) W30
            show Go p.tables e below PP (T30.setTop (mkF m 139 #[.val (.int p1), .val (.int p2), .val (.int p3), .val (.int p4), .val (.int p5), .val (.int p6)] [(.ref b27), (.ref b26), (.ref b26)]))
            refine Go.st (fun t k => XS.dup X30.here hx rfl (hb hby d2_139) rfl rfl k) ?_
            show Go p.tables e below PP (T30.setTop (mkF m 140 #[.val (.int p1), .val (.int p2), .val (.int p3), .val (.int p4), .val (.int p5), .val (.int p6)] [(.ref b27), (.ref b27), (.ref b26), (.ref b26)]))
            refine Go.st (fun t k => XS.iconst X30.here hx rfl (hb hby d2_140) k) ?_
            show Go p.tables e below PP (T30.setTop (mkF m 141 #[.val (.int p1), .val (.int p2), .val (.int p3), .val (.int p4), .val (.int p5), .val (.int p6)] [(.int (3 : Int32)), (.ref b27), (.ref b27), (.ref b26), (.ref b26)]))
            refine Go.st (fun t k => XS.iload X30.here hx rfl (hb hby d2_141) rfl k) ?_
            show Go p.tables e below PP (T30.setTop (mkF m 143 #[.val (.int p1), .val (.int p2), .val (.int p3), .val (.int p4), .val (.int p5), .val (.int p6)] [(.int p5), (.int (3 : Int32)), (.ref b27), (.ref b27), (.ref b26), (.ref b26)]))
            obtain ⟨cl31, Ar31, S31, Nn31, H31⟩ := id V_b27
            have hin31 : ¬ ((3 : Int32) < 0 ∨ cl31.slots.size ≤ ((3 : Int32)).toNatClampNeg) := inb_of S31 ⟨by decide, by decide⟩
            obtain ⟨T31, h31, X31, e31, W31, st31⟩ := stC X30 hx hZ e30 Ar31 (j := (3 : Int32)) hin31 (g := (mkF m 143 #[.val (.int p1), .val (.int p2), .val (.int p3), .val (.int p4), .val (.int p5), .val (.int p6)] [(.int p5), (.int (3 : Int32)), (.ref b27), (.ref b27), (.ref b26), (.ref b26)])) rfl rfl (hb hby d2_143)
            refine Go.st st31 ?_
            have N31 := Fr.snoc X31 N30 g_b27
            replace E_b26 := E_b26.wr W31
            replace F_value_b26 := F_value_b26.other W31 (Or.inl ne_b26_b27)
            replace F_coder_b26 := F_coder_b26.other W31 (Or.inl ne_b26_b27)
            replace SF_b26 := Safe.wr W31 SF_b27 CH SF_b26
            replace CR := CR.trans (CHr.wr W31 SF_b27 CH)
            have CH' := CH.wr W31 SF_b27
            replace SF_b27 := Safe.wr W31 SF_b27 CH SF_b27
            replace CH := CH'
            clear CH'
            replace hk : k0 ≤ h31.size := by rw [W31.size]; exact hk
            replace O := O.wr W31 g_b27
            replace K := K.wr W31 (Or.inr sz_b27)
            replace Zn : n0 ≤ h31.size := by rw [W31.size]; exact Zn
            replace V_b27 := Afn.set Ar31 S31 Nn31 H31 (fits_nar_char _) W31
            show Go p.tables e below PP (T31.setTop (mkF m 144 #[.val (.int p1), .val (.int p2), .val (.int p3), .val (.int p4), .val (.int p5), .val (.int p6)] [(.ref b27), (.ref b26), (.ref b26)]))
            refine Go.st (fun t k => XS.dup X31.here hx rfl (hb hby d2_144) rfl rfl k) ?_
            show Go p.tables e below PP (T31.setTop (mkF m 145 #[.val (.int p1), .val (.int p2), .val (.int p3), .val (.int p4), .val (.int p5), .val (.int p6)] [(.ref b27), (.ref b27), (.ref b26), (.ref b26)]))
            refine Go.st (fun t k => XS.iconst X31.here hx rfl (hb hby d2_145) k) ?_
            show Go p.tables e below PP (T31.setTop (mkF m 146 #[.val (.int p1), .val (.int p2), .val (.int p3), .val (.int p4), .val (.int p5), .val (.int p6)] [(.int (4 : Int32)), (.ref b27), (.ref b27), (.ref b26), (.ref b26)]))
            refine Go.st (fun t k => XS.iload X31.here hx rfl (hb hby d2_146) rfl k) ?_
            show Go p.tables e below PP (T31.setTop (mkF m 148 #[.val (.int p1), .val (.int p2), .val (.int p3), .val (.int p4), .val (.int p5), .val (.int p6)] [(.int p6), (.int (4 : Int32)), (.ref b27), (.ref b27), (.ref b26), (.ref b26)]))
            obtain ⟨cl32, Ar32, S32, Nn32, H32⟩ := id V_b27
            have hin32 : ¬ ((4 : Int32) < 0 ∨ cl32.slots.size ≤ ((4 : Int32)).toNatClampNeg) := inb_of S32 ⟨by decide, by decide⟩
            obtain ⟨T32, h32, X32, e32, W32, st32⟩ := stC X31 hx hZ e31 Ar32 (j := (4 : Int32)) hin32 (g := (mkF m 148 #[.val (.int p1), .val (.int p2), .val (.int p3), .val (.int p4), .val (.int p5), .val (.int p6)] [(.int p6), (.int (4 : Int32)), (.ref b27), (.ref b27), (.ref b26), (.ref b26)])) rfl rfl (hb hby d2_148)
            refine Go.st st32 ?_
            have N32 := Fr.snoc X32 N31 g_b27
            replace E_b26 := E_b26.wr W32
            replace F_value_b26 := F_value_b26.other W32 (Or.inl ne_b26_b27)
            replace F_coder_b26 := F_coder_b26.other W32 (Or.inl ne_b26_b27)
            replace SF_b26 := Safe.wr W32 SF_b27 CH SF_b26
            replace CR := CR.trans (CHr.wr W32 SF_b27 CH)
            have CH' := CH.wr W32 SF_b27
            replace SF_b27 := Safe.wr W32 SF_b27 CH SF_b27
            replace CH := CH'
            clear CH'
            replace hk : k0 ≤ h32.size := by rw [W32.size]; exact hk
            replace O := O.wr W32 g_b27
            replace K := K.wr W32 (Or.inr sz_b27)
            replace Zn : n0 ≤ h32.size := by rw [W32.size]; exact Zn
            replace V_b27 := Afn.set Ar32 S32 Nn32 H32 (fits_nar_char _) W32
            obtain ⟨csv, hcsv⟩ : ∃ f : Nat → Int32, f = csL [p2, p3, p4, p5, p6] := ⟨_, rfl⟩
            have hcb : ∀ k, k < (5 : Int32).toNatClampNeg → ¬ csv k < (0 : Int32) ∧ ¬ (255 : Int32) < csv k := fun k _ => by rw [hcsv]; exact own_csb _ (fun x hm => by simp only [List.mem_cons, List.not_mem_nil, or_false] at hm; rcases hm with rfl | rfl | rfl | rfl | rfl <;> first | exact ⟨hp2.1, hp2.2.1⟩ | exact ⟨hp3.1, hp3.2.1⟩ | exact ⟨hp4.1, hp4.2.1⟩ | exact ⟨hp5.1, hp5.2.1⟩ | exact ⟨hp6.1, hp6.2.1⟩) k
            replace V_b27 := V_b27.congr (g := fun k => .int (csv k)) (fun k hk => by rw [hcsv]; exact own_cs5 p2 p3 p4 p5 p6 hp2.2.2 hp3.2.2 hp4.2.2 hp5.2.2 hp6.2.2 k hk)
            show Go p.tables e below PP (T32.setTop (mkF m 149 #[.val (.int p1), .val (.int p2), .val (.int p3), .val (.int p4), .val (.int p5), .val (.int p6)] [(.ref b27), (.ref b26), (.ref b26)]))
            have hZ0 := hZ
            have hown0 := hown
            clear hZ hown
            obtain ⟨v33, T33, L33, X33, hQ33, hC33, hSn33, hZ, hown, st33⟩ := callInW X32 hx hZ0 (y := (⟨"java/lang/String", "<init>", "([C)V"⟩ : MethodName)) (a := b26) (argsL := [(.ref b27)]) (rest := [(.ref b26)]) rfl hown0 (hw _ (List.mem_of_getElem? (i := 12) rfl)) (hw _ (List.mem_of_getElem? (i := 13) rfl)) (hw _ (List.mem_of_getElem? (i := 10) rfl)) (hw _ (List.mem_of_getElem? (i := 14) rfl)) (by decide) (rmS1 l Z a0 hw [] b26 b27 (5 : Int32) csv zc h32 n0 Zn hEL E_b26 F_value_b26 F_coder_b26 g_b26 V_b27 hcb (by decide) ne_b26_b27 SC hzc O) e32 hEL CH hS hk 1 (by decide) (by decide) (by decide) (by decide) (g := (mkF m 149 #[.val (.int p1), .val (.int p2), .val (.int p3), .val (.int p4), .val (.int p5), .val (.int p6)] [(.ref b27), (.ref b26), (.ref b26)])) rfl (by rw [hml]; rfl) (lenOf pd_18 rfl) rfl (by show 2 * 0 + _ ≤ _; exact Nat.le_of_eq rfl) (hb hby d2_149)
            clear hZ0 hown0
            replace hS := hSn33
            obtain ⟨h33, e33⟩ : ∃ z, T33.heap = z := ⟨_, rfl⟩
            rw [e33] at hQ33 hC33
            replace SF_b26 := hC33.safe E_b26.lt SF_b26
            replace SF_b27 := hC33.safe V_b27.lt SF_b27
            replace CR := CR.trans hC33
            replace CH := hC33.1
            replace hk : T33.heap.size ≤ h33.size := by rw [e33]; exact Nat.le_refl _
            obtain ⟨rfl, Nq33, Kq33, Eq33, Cq33, t33, Fq33, Vq33⟩ := hQ33
            have N33 := Fr.app N32 Nq33
            replace E_b26 := E_b26.keep Kq33
            clear F_value_b26
            clear F_coder_b26
            replace V_b27 := V_b27.keep Kq33 (ninS (Ne.symm ne_b26_b27) nin0)
            replace O := O.keep Kq33 (allS g_b26 all0)
            replace K := K.trans Kq33 (allS (Or.inr sz_b26) all0)
            replace Zn := Nat.le_trans Zn Kq33.1
            replace E_b26 := Eq33
            have F_value_b26 := Fq33
            have F_coder_b26 := Cq33
            refine Go.st st33 ?_
            show Go p.tables e below PP (T33.setTop (mkF m 152 #[.val (.int p1), .val (.int p2), .val (.int p3), .val (.int p4), .val (.int p5), .val (.int p6)] [(.ref b26)]))
            rw [hPP]
            refine endRW X33 hx hlk hZ hS e33 hk hEL CH CR hret rfl rfl (hb hby d2_152) ?_ (by decide) (by decide)
            show Q2 Z p1 p2 p3 p4 p5 p6 zc h0 n0 (some (.ref b26)) T33.heap _
            rw [e33]
            exact ⟨N33, K, _, _, rfl, E_b26, F_coder_b26, F_value_b26, by rw [own_n5 p1 hn hc1 hc17 hc37 hc61 hc89]; rw [hcsv] at Vq33; exact Vq33⟩
theorem d7_0 : decode prog_22_method_4_code 0 = .ok (.aload_n 0, 1) := by decide +kernel
theorem d7_1 : decode prog_22_method_4_code 1 = .ok (.bipush 45, 2) := by decide +kernel
theorem d7_3 : decode prog_22_method_4_code 3 = .ok (.invokevirtual 130, 3) := by decide +kernel
theorem d7_6 : decode prog_22_method_4_code 6 = .ok (.istore_n 1, 1) := by decide +kernel
theorem d7_7 : decode prog_22_method_4_code 7 = .ok (.iload_n 1, 1) := by decide +kernel
theorem d7_8 : decode prog_22_method_4_code 8 = .ok (.ifCond .ge 7, 3) := by decide +kernel
theorem d7_11 : decode prog_22_method_4_code 11 = .ok (.aload_n 0, 1) := by decide +kernel
theorem d7_12 : decode prog_22_method_4_code 12 = .ok (.goto 9, 3) := by decide +kernel
theorem d7_15 : decode prog_22_method_4_code 15 = .ok (.aload_n 0, 1) := by decide +kernel
theorem d7_16 : decode prog_22_method_4_code 16 = .ok (.iconst 0, 1) := by decide +kernel
theorem d7_17 : decode prog_22_method_4_code 17 = .ok (.iload_n 1, 1) := by decide +kernel
theorem d7_18 : decode prog_22_method_4_code 18 = .ok (.invokevirtual 134, 3) := by decide +kernel
theorem d7_21 : decode prog_22_method_4_code 21 = .ok (.areturn, 1) := by decide +kernel
theorem pn_rm7 : plainName "com/example/facet_hierarchy_store/facethierarchystore/label/LanguageTag" = true := by first | (simp [plainName, overriddenIn]; done) | decide +kernel
theorem ef_rm7 (m : MethodId) (a1 : Addr) : entryFrame m #[(.ref a1)] 2 = mkF m 0 #[.val (.ref a1), .unset] [] := by first | (simp [entryFrame, mkF, argsToLocals, Value.category]; done) | rfl
def Q7 (Z : State) (a1 : Addr) (t1 : Addr) (n1 : Int32) (f1 : Nat → Int32) (zc : Int32) (sv : Value) (h0 : Heap) (n0 : Nat) (v : Option Value) (h : Heap) (L : List Loc) : Prop := Fr n0 L ∧ Keep h0 h [] ∧ ∃ (r t : Addr), v = some (.ref r) ∧ Exa Z h r "java/lang/String" ∧ Fld Z h r "java/lang/String" "coder" "B" (.int (0 : Int32)) ∧ Fld Z h r "java/lang/String" "value" "[B" (.ref t) ∧ Afn Z h t .byte (langN f1 n1) (fun k => .int (f1 k))
theorem pd_19 : parseMethodDescriptor "(I)I" = some ⟨[.int], some .int⟩ := by decide +kernel
theorem pd_20 : parseMethodDescriptor "(II)Ljava/lang/String;" = some ⟨[.int, .int], some (.object "java/lang/String")⟩ := by decide +kernel
set_option maxRecDepth 65536 in
set_option maxHeartbeats 40000000 in
theorem rm7 (l : Launch) (Z : State) (a0 : Array Value) (hw : ∀ d ∈ tables_1, d.before a0 Z = true) (ws : List Jvm.Cond) (a1 : Addr) (t1 : Addr) (n1 : Int32) (f1 : Nat → Int32) (zc : Int32) (sv : Value) (h0 : Heap) (n0 : Nat) (Z0 : n0 ≤ h0.size) (hEL : EW Z a0 consts_1) (F_value_a1 : Fld Z h0 a1 "java/lang/String" "value" "[B" (.ref t1)) (F_coder_a1 : Fld Z h0 a1 "java/lang/String" "coder" "B" (.int (0 : Int32))) (V_t1 : Afn Z h0 t1 .byte n1 (fun k => .int (f1 k))) (E_a1 : Exa Z h0 a1 "java/lang/String") (SC : Sta Z Z.heap "java/lang/String" "COMPACT_STRINGS" "Z" (.int zc)) (hzc : ¬ zc = (0 : Int32)) (O : Old Z n0 h0) (SV : Sta Z Z.heap "jdk/internal/util/Preconditions" "SIOOBE_FORMATTER" "Ljava/util/function/BiFunction;" sv) (hr_sv : sv.isRef = true) (hcap : n1.toNatClampNeg ≤ 5) :
    ConH l Z consts_1 (⟨"com/example/facet_hierarchy_store/facethierarchystore/label/LanguageTag", "language", "(Ljava/lang/String;)Ljava/lang/String;"⟩ : MethodName) prog_22_method_4_code 2 (some (.object "java/lang/String")) ws ({ frames := 5, cells := 4, slots := 12, locals := 104 } : Room) #[(.ref a1)] h0 (Q7 Z a1 t1 n1 f1 zc sv h0 n0) := by
  refine ConH.of (plainFor_of_name pn_rm7) ?_
  intro p e s m below meth c s₁ vm0 k0 hZ e0 X0 hx hby hml hown hnm hret hlk hS hk CH CR
  replace hml : c.maxLocals = 2 := hml
  have hown : vm0.findClass "com/example/facet_hierarchy_store/facethierarchystore/label/LanguageTag" = some m.cls := hown
  have N0 : Fr n0 [] := Fr.nil n0
  obtain ⟨PP, hPP⟩ : ∃ P, P = FineW Z consts_1 s below (Q7 Z a1 t1 n1 f1 zc sv h0 n0) ({ frames := 5, cells := 4, slots := 12, locals := 104 } : Room).cells ({ frames := 5, cells := 4, slots := 12, locals := 104 } : Room).slots := ⟨_, rfl⟩
  rw [← hPP]
  refine Go.cast (ef_rm7 m a1) ?_
  have K : Keep h0 h0 [] := Keep.refl h0 _
  have Zn : n0 ≤ h0.size := Z0
  show Go p.tables e below PP (s₁.setTop (mkF m 0 #[.val (.ref a1), .unset] []))
  refine Go.st (fun t k => XS.aloadN X0.here hx rfl (hb hby d7_0) rfl rfl k) ?_
  show Go p.tables e below PP (s₁.setTop (mkF m 1 #[.val (.ref a1), .unset] [(.ref a1)]))
  refine Go.st (fun t k => XS.bipush X0.here hx rfl (hb hby d7_1) k) ?_
  show Go p.tables e below PP (s₁.setTop (mkF m 3 #[.val (.ref a1), .unset] [(.int (45 : Int32)), (.ref a1)]))
  obtain ⟨v1, T1, L1, X1, hQ1, st1⟩ := callVi X0 hx hZ (C := "java/lang/String") (y := (⟨"java/lang/String", "indexOf", "(I)I"⟩ : MethodName)) (z := (⟨"java/lang/String", "indexOf", "(I)I"⟩ : MethodName)) (a := a1) (argsL := [(.int (45 : Int32))]) (rest := []) hown (hw _ (List.mem_of_getElem? (i := 37) rfl)) (hw _ (List.mem_of_getElem? (i := 38) rfl)) (notFace_of_selects (args := #[]) (mvT (s := (s.setVm vm0)) hZ (hw _ (List.mem_of_getElem? (i := 40) rfl)))) (hw _ (List.mem_of_getElem? (i := 40) rfl)) (hw _ (List.mem_of_getElem? (i := 39) rfl)) (hw _ (List.mem_of_getElem? (i := 10) rfl)) (hw _ (List.mem_of_getElem? (i := 41) rfl)) (by decide) rfl E_a1 (rm8 l Z a0 hw [] a1 (45 : Int32) t1 n1 f1 zc h0 n0 Zn F_value_a1 F_coder_a1 V_t1 E_a1 SC hzc O (by decide)) e0 0 (by decide) (by decide) (by decide) (by decide) (g := (mkF m 3 #[.val (.ref a1), .unset] [(.int (45 : Int32)), (.ref a1)])) rfl (by rw [hml]; rfl) (lenOf pd_19 rfl) rfl (by show 2 * 0 + _ ≤ _; exact Nat.le_of_eq rfl) (hb hby d7_3)
  obtain ⟨rfl, rfl, e1⟩ := hQ1
  rw [List.append_nil] at X1
  refine Go.st st1 ?_
  generalize hix : (firstIx f1 ((45 : Int32).toInt8.toInt32) 0 n1.toNatClampNeg) = ix
  show Go p.tables e below PP (T1.setTop (mkF m 6 #[.val (.ref a1), .unset] [(.int ix)]))
  refine Go.st (fun t k => XS.istoreN X1.here hx rfl (hb hby d7_6) rfl (l' := #[.val (.ref a1), .val (.int ix)]) rfl k) ?_
  show Go p.tables e below PP (T1.setTop (mkF m 7 #[.val (.ref a1), .val (.int ix)] []))
  refine Go.st (fun t k => XS.iloadN X1.here hx rfl (hb hby d7_7) rfl k) ?_
  show Go p.tables e below PP (T1.setTop (mkF m 8 #[.val (.ref a1), .val (.int ix)] [(.int ix)]))
  by_cases hc8 : ix < (0 : Int32)
  · --
    refine Go.st (fun t k => XS.ifNo X1.here hx rfl (hb hby d7_8) rfl (XT.i0_ge_f hc8) k) ?_
    show Go p.tables e below PP (T1.setTop (mkF m 11 #[.val (.ref a1), .val (.int ix)] []))
    refine Go.st (fun t k => XS.aloadN X1.here hx rfl (hb hby d7_11) rfl rfl k) ?_
    show Go p.tables e below PP (T1.setTop (mkF m 12 #[.val (.ref a1), .val (.int ix)] [(.ref a1)]))
    refine Go.st (fun t k => XS.goto X1.here hx rfl (pc0 := 12) (pc' := 21) rfl (hb hby d7_12) (by decide) (by decide) k) ?_
    show Go p.tables e below PP (T1.setTop (mkF m 21 #[.val (.ref a1), .val (.int ix)] [(.ref a1)]))
    rw [hPP]
    refine endRW X1 hx hlk hZ hS e1 hk hEL CH CR hret rfl rfl (hb hby d7_21) ?_ (by decide) (by decide)
    show Q7 Z a1 t1 n1 f1 zc sv h0 n0 (some (.ref a1)) T1.heap _
    rw [e1]
    exact ⟨N0, K, _, _, rfl, E_a1, F_coder_a1, F_value_a1, by unfold langN; rw [hix, if_pos hc8]; exact V_t1⟩
  · --
    refine Go.st (fun t k => XS.ifYes X1.here hx rfl (pc0 := 8) (pc' := 15) rfl (hb hby d7_8) rfl (XT.i0_ge_t hc8) (by decide) (by decide) k) ?_
    show Go p.tables e below PP (T1.setTop (mkF m 15 #[.val (.ref a1), .val (.int ix)] []))
    refine Go.st (fun t k => XS.aloadN X1.here hx rfl (hb hby d7_15) rfl rfl k) ?_
    show Go p.tables e below PP (T1.setTop (mkF m 16 #[.val (.ref a1), .val (.int ix)] [(.ref a1)]))
    refine Go.st (fun t k => XS.iconst X1.here hx rfl (hb hby d7_16) k) ?_
    show Go p.tables e below PP (T1.setTop (mkF m 17 #[.val (.ref a1), .val (.int ix)] [(.int (0 : Int32)), (.ref a1)]))
    refine Go.st (fun t k => XS.iloadN X1.here hx rfl (hb hby d7_17) rfl k) ?_
    show Go p.tables e below PP (T1.setTop (mkF m 18 #[.val (.ref a1), .val (.int ix)] [(.int ix), (.int (0 : Int32)), (.ref a1)]))
    have hZ0 := hZ
    have hown0 := hown
    clear hZ hown
    obtain ⟨v2, T2, L2, X2, hQ2, hC2, hSn2, hZ, hown, st2⟩ := callViW X1 hx hZ0 (C := "java/lang/String") (y := (⟨"java/lang/String", "substring", "(II)Ljava/lang/String;"⟩ : MethodName)) (z := (⟨"java/lang/String", "substring", "(II)Ljava/lang/String;"⟩ : MethodName)) (a := a1) (argsL := [(.int (0 : Int32)), (.int ix)]) (rest := []) hown0 (hw _ (List.mem_of_getElem? (i := 94) rfl)) (hw _ (List.mem_of_getElem? (i := 95) rfl)) (notFace_of_selects (args := #[]) (mvT (s := (s.setVm vm0)) hZ0 (hw _ (List.mem_of_getElem? (i := 97) rfl)))) (hw _ (List.mem_of_getElem? (i := 97) rfl)) (hw _ (List.mem_of_getElem? (i := 96) rfl)) (hw _ (List.mem_of_getElem? (i := 10) rfl)) (hw _ (List.mem_of_getElem? (i := 98) rfl)) (by decide) rfl E_a1 (rm22 l Z a0 hw [] a1 ix t1 n1 f1 zc sv h0 n0 Zn hEL F_value_a1 F_coder_a1 V_t1 E_a1 SC hzc O SV hr_sv (own_ix f1 _ n1 ix V_t1.nn hix hc8) (Nat.le_trans (Nat.le_of_lt (inbN (own_ix f1 _ n1 ix V_t1.nn hix hc8))) hcap)) e1 hEL CH hS hk 0 (by decide) (by decide) (by decide) (by decide) (g := (mkF m 18 #[.val (.ref a1), .val (.int ix)] [(.int ix), (.int (0 : Int32)), (.ref a1)])) rfl (by rw [hml]; rfl) (lenOf pd_20 rfl) rfl (by show 2 * 0 + _ ≤ _; exact Nat.le_of_eq rfl) (hb hby d7_18)
    clear hZ0 hown0
    replace hS := hSn2
    obtain ⟨h2, e2⟩ : ∃ z, T2.heap = z := ⟨_, rfl⟩
    rw [e2] at hQ2 hC2
    replace CR := CR.trans hC2
    replace CH := hC2.1
    replace hk : T2.heap.size ≤ h2.size := by rw [e2]; exact Nat.le_refl _
    obtain ⟨Nq2, Kq2, r2, t2, rfl, Eq2, Cq2, Fq2, Vq2⟩ := hQ2
    have N2 := Fr.app N0 Nq2
    replace F_value_a1 := F_value_a1.keep Kq2 nin0
    replace F_coder_a1 := F_coder_a1.keep Kq2 nin0
    replace V_t1 := V_t1.keep Kq2 nin0
    replace E_a1 := E_a1.keep Kq2
    replace O := O.keep Kq2 all0
    replace K := K.trans Kq2 all0
    replace Zn := Nat.le_trans Zn Kq2.1
    refine Go.st st2 ?_
    show Go p.tables e below PP (T2.setTop (mkF m 21 #[.val (.ref a1), .val (.int ix)] [(.ref r2)]))
    rw [hPP]
    refine endRW X2 hx hlk hZ hS e2 hk hEL CH CR hret rfl rfl (hb hby d7_21) ?_ (by decide) (by decide)
    show Q7 Z a1 t1 n1 f1 zc sv h0 n0 (some (.ref r2)) T2.heap _
    rw [e2]
    exact ⟨N2, K, _, _, rfl, Eq2, Cq2, Fq2, by unfold langN; rw [hix, if_neg hc8]; exact Vq2⟩
theorem d17_0 : decode method_5_code 0 = .ok (.iload_n 2, 1) := by decide +kernel
theorem d17_1 : decode method_5_code 1 = .ok (.iload_n 3, 1) := by decide +kernel
theorem d17_2 : decode method_5_code 2 = .ok (.if_icmp .ge 16, 3) := by decide +kernel
theorem d17_5 : decode method_5_code 5 = .ok (.aload_n 0, 1) := by decide +kernel
theorem d17_6 : decode method_5_code 6 = .ok (.iload_n 2, 1) := by decide +kernel
theorem d17_7 : decode method_5_code 7 = .ok (.invokevirtual 12, 3) := by decide +kernel
theorem d17_10 : decode method_5_code 10 = .ok (.aload_n 1, 1) := by decide +kernel
theorem d17_11 : decode method_5_code 11 = .ok (.iload_n 2, 1) := by decide +kernel
theorem d17_12 : decode method_5_code 12 = .ok (.invokevirtual 12, 3) := by decide +kernel
theorem d17_15 : decode method_5_code 15 = .ok (.if_icmp .ne 7, 3) := by decide +kernel
theorem d17_18 : decode method_5_code 18 = .ok (.iconst 1, 1) := by decide +kernel
theorem d17_19 : decode method_5_code 19 = .ok (.goto 4, 3) := by decide +kernel
theorem d17_22 : decode method_5_code 22 = .ok (.iconst 0, 1) := by decide +kernel
theorem d17_23 : decode method_5_code 23 = .ok (.ireturn, 1) := by decide +kernel
theorem pn_rm17 : plainName "com/example/facet_hierarchy_store/facethierarchystore/label/LanguageTagLanguagePinLaw" = true := by first | (simp [plainName, overriddenIn]; done) | decide +kernel
theorem ef_rm17 (m : MethodId) (a1 : Addr) (a2 : Addr) (p3 : Int32) (p4 : Int32) : entryFrame m #[(.ref a1), (.ref a2), (.int p3), (.int p4)] 4 = mkF m 0 #[.val (.ref a1), .val (.ref a2), .val (.int p3), .val (.int p4)] [] := by first | (simp [entryFrame, mkF, argsToLocals, Value.category]; done) | rfl
def Q17 (Z : State) (a1 : Addr) (a2 : Addr) (p3 : Int32) (p4 : Int32) (t1 : Addr) (n1 : Int32) (f1 : Nat → Int32) (t2 : Addr) (n2 : Int32) (f2 : Nat → Int32) (zc : Int32) (sv : Value) (h0 : Heap) (n0 : Nat) (v : Option Value) (h : Heap) (L : List Loc) : Prop := v = some (.int (1 : Int32)) ∧ L = [] ∧ h = h0
theorem pd_21 : parseMethodDescriptor "(I)C" = some ⟨[.int], some .char⟩ := by decide +kernel
set_option maxRecDepth 65536 in
set_option maxHeartbeats 40000000 in
theorem rm17 (l : Launch) (Z : State) (a0 : Array Value) (hw : ∀ d ∈ tables_1, d.before a0 Z = true) (ws : List Jvm.Cond) (a1 : Addr) (a2 : Addr) (p3 : Int32) (p4 : Int32) (t1 : Addr) (n1 : Int32) (f1 : Nat → Int32) (t2 : Addr) (n2 : Int32) (f2 : Nat → Int32) (zc : Int32) (sv : Value) (h0 : Heap) (n0 : Nat) (Z0 : n0 ≤ h0.size) (F_value_a1 : Fld Z h0 a1 "java/lang/String" "value" "[B" (.ref t1)) (F_coder_a1 : Fld Z h0 a1 "java/lang/String" "coder" "B" (.int (0 : Int32))) (V_t1 : Afn Z h0 t1 .byte n1 (fun k => .int (f1 k))) (E_a1 : Exa Z h0 a1 "java/lang/String") (F_value_a2 : Fld Z h0 a2 "java/lang/String" "value" "[B" (.ref t2)) (F_coder_a2 : Fld Z h0 a2 "java/lang/String" "coder" "B" (.int (0 : Int32))) (V_t2 : Afn Z h0 t2 .byte n2 (fun k => .int (f2 k))) (E_a2 : Exa Z h0 a2 "java/lang/String") (SC : Sta Z Z.heap "java/lang/String" "COMPACT_STRINGS" "Z" (.int zc)) (hzc : ¬ zc = (0 : Int32)) (O : Old Z n0 h0) (SV : Sta Z Z.heap "jdk/internal/util/Preconditions" "SIOOBE_FORMATTER" "Ljava/util/function/BiFunction;" sv) (hr_sv : sv.isRef = true) (hag : p3 < p4 → (¬ p3 < (0 : Int32) ∧ p3 < n1 ∧ p3 < n2 ∧ f1 p3.toNatClampNeg = f2 p3.toNatClampNeg)) :
    Con l Z (⟨"com/example/facet_hierarchy_store/facethierarchystore/label/LanguageTagLanguagePinLaw", "agree", "(Ljava/lang/String;Ljava/lang/String;II)Z"⟩ : MethodName) method_5_code 4 (some .boolean) ws ({ frames := 4, cells := 0, slots := 0, locals := 54 } : Room) #[(.ref a1), (.ref a2), (.int p3), (.int p4)] h0 (Q17 Z a1 a2 p3 p4 t1 n1 f1 t2 n2 f2 zc sv h0 n0) := by
  refine Con.of (plainFor_of_name pn_rm17) ?_
  intro p e s m below meth c s₁ hZ e0 X0 hx hby hml hown hnm hret hlk
  replace hml : c.maxLocals = 4 := hml
  have hown : s.vm.findClass "com/example/facet_hierarchy_store/facethierarchystore/label/LanguageTagLanguagePinLaw" = some m.cls := hown
  have N0 : Fr n0 [] := Fr.nil n0
  obtain ⟨PP, hPP⟩ : ∃ P, P = Fine s below (Q17 Z a1 a2 p3 p4 t1 n1 f1 t2 n2 f2 zc sv h0 n0) ({ frames := 4, cells := 0, slots := 0, locals := 54 } : Room).cells ({ frames := 4, cells := 0, slots := 0, locals := 54 } : Room).slots := ⟨_, rfl⟩
  rw [← hPP]
  refine Go.cast (ef_rm17 m a1 a2 p3 p4) ?_
  have Zn : n0 ≤ h0.size := Z0
  show Go p.tables e below PP (s₁.setTop (mkF m 0 #[.val (.ref a1), .val (.ref a2), .val (.int p3), .val (.int p4)] []))
  refine Go.st (fun t k => XS.iloadN X0.here hx rfl (hb hby d17_0) rfl k) ?_
  show Go p.tables e below PP (s₁.setTop (mkF m 1 #[.val (.ref a1), .val (.ref a2), .val (.int p3), .val (.int p4)] [(.int p3)]))
  refine Go.st (fun t k => XS.iloadN X0.here hx rfl (hb hby d17_1) rfl k) ?_
  show Go p.tables e below PP (s₁.setTop (mkF m 2 #[.val (.ref a1), .val (.ref a2), .val (.int p3), .val (.int p4)] [(.int p4), (.int p3)]))
  by_cases hc2 : p3 < p4
  · --
    refine Go.st (fun t k => XS.icmpNo X0.here hx rfl (hb hby d17_2) rfl (XT.ii_ge_f hc2) k) ?_
    show Go p.tables e below PP (s₁.setTop (mkF m 5 #[.val (.ref a1), .val (.ref a2), .val (.int p3), .val (.int p4)] []))
    refine Go.st (fun t k => XS.aloadN X0.here hx rfl (hb hby d17_5) rfl rfl k) ?_
    show Go p.tables e below PP (s₁.setTop (mkF m 6 #[.val (.ref a1), .val (.ref a2), .val (.int p3), .val (.int p4)] [(.ref a1)]))
    refine Go.st (fun t k => XS.iloadN X0.here hx rfl (hb hby d17_6) rfl k) ?_
    show Go p.tables e below PP (s₁.setTop (mkF m 7 #[.val (.ref a1), .val (.ref a2), .val (.int p3), .val (.int p4)] [(.int p3), (.ref a1)]))
    obtain ⟨v1, T1, L1, X1, hQ1, st1⟩ := callVi X0 hx hZ (C := "java/lang/String") (y := (⟨"java/lang/String", "charAt", "(I)C"⟩ : MethodName)) (z := (⟨"java/lang/String", "charAt", "(I)C"⟩ : MethodName)) (a := a1) (argsL := [(.int p3)]) (rest := []) hown (hw _ (List.mem_of_getElem? (i := 129) rfl)) (hw _ (List.mem_of_getElem? (i := 130) rfl)) (notFace_of_selects (args := #[]) (mvT hZ (hw _ (List.mem_of_getElem? (i := 132) rfl)))) (hw _ (List.mem_of_getElem? (i := 132) rfl)) (hw _ (List.mem_of_getElem? (i := 131) rfl)) (hw _ (List.mem_of_getElem? (i := 10) rfl)) (hw _ (List.mem_of_getElem? (i := 133) rfl)) (by decide) rfl E_a1 (rm30 l Z a0 hw [] a1 p3 t1 n1 f1 zc sv h0 n0 Zn F_value_a1 F_coder_a1 V_t1 E_a1 SC hzc O SV hr_sv ⟨(hag hc2).1, (hag hc2).2.1⟩) e0 0 (by decide) (by decide) (by decide) (by decide) (g := (mkF m 7 #[.val (.ref a1), .val (.ref a2), .val (.int p3), .val (.int p4)] [(.int p3), (.ref a1)])) rfl (by rw [hml]; rfl) (lenOf pd_21 rfl) rfl (by show 2 * 0 + _ ≤ _; exact Nat.le_of_eq rfl) (hb hby d17_7)
    obtain ⟨rfl, rfl, e1⟩ := hQ1
    rw [List.append_nil] at X1
    refine Go.st st1 ?_
    show Go p.tables e below PP (T1.setTop (mkF m 10 #[.val (.ref a1), .val (.ref a2), .val (.int p3), .val (.int p4)] [(.int (chC (f1 p3.toNatClampNeg)))]))
    refine Go.st (fun t k => XS.aloadN X1.here hx rfl (hb hby d17_10) rfl rfl k) ?_
    show Go p.tables e below PP (T1.setTop (mkF m 11 #[.val (.ref a1), .val (.ref a2), .val (.int p3), .val (.int p4)] [(.ref a2), (.int (chC (f1 p3.toNatClampNeg)))]))
    refine Go.st (fun t k => XS.iloadN X1.here hx rfl (hb hby d17_11) rfl k) ?_
    show Go p.tables e below PP (T1.setTop (mkF m 12 #[.val (.ref a1), .val (.ref a2), .val (.int p3), .val (.int p4)] [(.int p3), (.ref a2), (.int (chC (f1 p3.toNatClampNeg)))]))
    obtain ⟨v2, T2, L2, X2, hQ2, st2⟩ := callVi X1 hx hZ (C := "java/lang/String") (y := (⟨"java/lang/String", "charAt", "(I)C"⟩ : MethodName)) (z := (⟨"java/lang/String", "charAt", "(I)C"⟩ : MethodName)) (a := a2) (argsL := [(.int p3)]) (rest := [(.int (chC (f1 p3.toNatClampNeg)))]) hown (hw _ (List.mem_of_getElem? (i := 129) rfl)) (hw _ (List.mem_of_getElem? (i := 130) rfl)) (notFace_of_selects (args := #[]) (mvT hZ (hw _ (List.mem_of_getElem? (i := 132) rfl)))) (hw _ (List.mem_of_getElem? (i := 132) rfl)) (hw _ (List.mem_of_getElem? (i := 131) rfl)) (hw _ (List.mem_of_getElem? (i := 10) rfl)) (hw _ (List.mem_of_getElem? (i := 133) rfl)) (by decide) rfl E_a2 (rm30 l Z a0 hw [] a2 p3 t2 n2 f2 zc sv h0 n0 Zn F_value_a2 F_coder_a2 V_t2 E_a2 SC hzc O SV hr_sv ⟨(hag hc2).1, (hag hc2).2.2.1⟩) e1 1 (by decide) (by decide) (by decide) (by decide) (g := (mkF m 12 #[.val (.ref a1), .val (.ref a2), .val (.int p3), .val (.int p4)] [(.int p3), (.ref a2), (.int (chC (f1 p3.toNatClampNeg)))])) rfl (by rw [hml]; rfl) (lenOf pd_21 rfl) rfl (by show 2 * 0 + _ ≤ _; exact Nat.le_of_eq rfl) (hb hby d17_12)
    obtain ⟨rfl, rfl, e2⟩ := hQ2
    rw [List.append_nil] at X2
    refine Go.st st2 ?_
    show Go p.tables e below PP (T2.setTop (mkF m 15 #[.val (.ref a1), .val (.ref a2), .val (.int p3), .val (.int p4)] [(.int (chC (f2 p3.toNatClampNeg))), (.int (chC (f1 p3.toNatClampNeg)))]))
    refine Go.st (fun t k => XS.icmpNo X2.here hx rfl (hb hby d17_15) rfl (XT.ii_ne_f (by rw [(hag hc2).2.2.2])) k) ?_
    show Go p.tables e below PP (T2.setTop (mkF m 18 #[.val (.ref a1), .val (.ref a2), .val (.int p3), .val (.int p4)] []))
    refine Go.st (fun t k => XS.iconst X2.here hx rfl (hb hby d17_18) k) ?_
    show Go p.tables e below PP (T2.setTop (mkF m 19 #[.val (.ref a1), .val (.ref a2), .val (.int p3), .val (.int p4)] [(.int (1 : Int32))]))
    refine Go.st (fun t k => XS.goto X2.here hx rfl (pc0 := 19) (pc' := 23) rfl (hb hby d17_19) (by decide) (by decide) k) ?_
    show Go p.tables e below PP (T2.setTop (mkF m 23 #[.val (.ref a1), .val (.ref a2), .val (.int p3), .val (.int p4)] [(.int (1 : Int32))]))
    rw [hPP]
    refine endN X2 hx hlk (t := .boolean) hret (by simp) (hb hby d17_23) (w := (1 : Int32)) (rfl) ?_ (by decide) (by decide)
    show Q17 Z a1 a2 p3 p4 t1 n1 f1 t2 n2 f2 zc sv h0 n0 (some (.int (1 : Int32))) T2.heap _
    rw [e2]
    exact ⟨rfl, rfl, rfl⟩
  · --
    refine Go.st (fun t k => XS.icmpYes X0.here hx rfl (pc0 := 2) (pc' := 18) rfl (hb hby d17_2) rfl (XT.ii_ge_t hc2) (by decide) (by decide) k) ?_
    show Go p.tables e below PP (s₁.setTop (mkF m 18 #[.val (.ref a1), .val (.ref a2), .val (.int p3), .val (.int p4)] []))
    refine Go.st (fun t k => XS.iconst X0.here hx rfl (hb hby d17_18) k) ?_
    show Go p.tables e below PP (s₁.setTop (mkF m 19 #[.val (.ref a1), .val (.ref a2), .val (.int p3), .val (.int p4)] [(.int (1 : Int32))]))
    refine Go.st (fun t k => XS.goto X0.here hx rfl (pc0 := 19) (pc' := 23) rfl (hb hby d17_19) (by decide) (by decide) k) ?_
    show Go p.tables e below PP (s₁.setTop (mkF m 23 #[.val (.ref a1), .val (.ref a2), .val (.int p3), .val (.int p4)] [(.int (1 : Int32))]))
    rw [hPP]
    refine endN X0 hx hlk (t := .boolean) hret (by simp) (hb hby d17_23) (w := (1 : Int32)) (rfl) ?_ (by decide) (by decide)
    show Q17 Z a1 a2 p3 p4 t1 n1 f1 t2 n2 f2 zc sv h0 n0 (some (.int (1 : Int32))) s₁.heap _
    rw [e0]
    exact ⟨rfl, rfl, rfl⟩
theorem own_ag (i k n : Int32) (h0 : ¬ i < (0 : Int32)) (hk : ¬ n < k) (f : Nat → Int32) : i < k → (¬ i < (0 : Int32) ∧ i < k ∧ i < n ∧ f i.toNatClampNeg = f i.toNatClampNeg) := fun h => ⟨h0, h, by rw [Int32.lt_iff_toInt_lt] at *; omega, rfl⟩
theorem own_lk (f : Nat → Int32) (n : Int32) (hn : ¬ n < (0 : Int32)) : ¬ n < langN f n := by
  unfold langN
  by_cases z : firstIx f ((45 : Int32).toInt8.toInt32) 0 n.toNatClampNeg < (0 : Int32)
  · rw [if_pos z]; exact Int32.lt_irrefl
  · rw [if_neg z]
    have q := (own_ix f _ n _ hn rfl z).2
    exact fun w => Int32.lt_irrefl (Int32.lt_trans q w)
theorem pn_rm0 : plainName "com/example/facet_hierarchy_store/facethierarchystore/label/LanguageTagLanguagePinLaw" = true := by first | (simp [plainName, overriddenIn]; done) | decide +kernel
theorem ef_rm0 (m : MethodId) (p1 : Int32) (p2 : Int32) (p3 : Int32) (p4 : Int32) (p5 : Int32) (p6 : Int32) : entryFrame m #[(.int p1), (.int p2), (.int p3), (.int p4), (.int p5), (.int p6)] maxLocals = mkF m 0 #[.val (.int p1), .val (.int p2), .val (.int p3), .val (.int p4), .val (.int p5), .val (.int p6), .unset, .unset, .unset, .unset, .unset, .unset, .unset, .unset, .unset] [] := by first | (simp [entryFrame, mkF, argsToLocals, Value.category, maxLocals]; done) | rfl
def Q0 (Z : State) (p1 : Int32) (p2 : Int32) (p3 : Int32) (p4 : Int32) (p5 : Int32) (p6 : Int32) (zc : Int32) (sv : Value) (h0 : Heap) (n0 : Nat) (v : Option Value) (h : Heap) (L : List Loc) : Prop := v = some (.int 1) ∧ Fr n0 L
theorem pd_22 : parseMethodDescriptor "(ICCCCC)Ljava/lang/String;" = some ⟨[.int, .char, .char, .char, .char, .char], some (.object "java/lang/String")⟩ := by decide +kernel
theorem pd_23 : parseMethodDescriptor "(ICCCCC)I" = some ⟨[.int, .char, .char, .char, .char, .char], some .int⟩ := by decide +kernel
theorem pd_24 : parseMethodDescriptor "(Ljava/lang/String;)Ljava/lang/String;" = some ⟨[(.object "java/lang/String")], some (.object "java/lang/String")⟩ := by decide +kernel
theorem pd_25 : parseMethodDescriptor "(Ljava/lang/String;Ljava/lang/String;II)Z" = some ⟨[(.object "java/lang/String"), (.object "java/lang/String"), .int, .int], some .boolean⟩ := by decide +kernel
set_option maxRecDepth 65536 in
set_option maxHeartbeats 40000000 in
theorem rm0 (l : Launch) (Z : State) (a0 : Array Value) (hw : ∀ d ∈ tables_1, d.before a0 Z = true) (ws : List Jvm.Cond) (p1 : Int32) (p2 : Int32) (p3 : Int32) (p4 : Int32) (p5 : Int32) (p6 : Int32) (zc : Int32) (sv : Value) (h0 : Heap) (n0 : Nat) (Z0 : n0 ≤ h0.size) (hEL : EW Z a0 consts_1) (SC : Sta Z Z.heap "java/lang/String" "COMPACT_STRINGS" "Z" (.int zc)) (hzc : ¬ zc = (0 : Int32)) (O : Old Z n0 h0) (SV : Sta Z Z.heap "jdk/internal/util/Preconditions" "SIOOBE_FORMATTER" "Ljava/util/function/BiFunction;" sv) (hr_sv : sv.isRef = true) :
    ConH l Z consts_1 x code maxLocals ret ws room_1 #[(.int p1), (.int p2), (.int p3), (.int p4), (.int p5), (.int p6)] h0 (Q0 Z p1 p2 p3 p4 p5 p6 zc sv h0 n0) := by
  refine ConH.of (plainFor_of_name pn_rm0) ?_
  intro p e s m below meth c s₁ vm0 k0 hZ e0 X0 hx hby hml hown hnm hret hlk hS hk CH CR
  replace hml : c.maxLocals = 15 := hml
  have hown : vm0.findClass "com/example/facet_hierarchy_store/facethierarchystore/label/LanguageTagLanguagePinLaw" = some m.cls := hown
  have N0 : Fr n0 [] := Fr.nil n0
  obtain ⟨PP, hPP⟩ : ∃ P, P = FineW Z consts_1 s below (Q0 Z p1 p2 p3 p4 p5 p6 zc sv h0 n0) room_1.cells room_1.slots := ⟨_, rfl⟩
  rw [← hPP]
  refine Go.cast (ef_rm0 m p1 p2 p3 p4 p5 p6) ?_
  have Zn : n0 ≤ h0.size := Z0
  show Go p.tables e below PP (s₁.setTop (mkF m 0 #[.val (.int p1), .val (.int p2), .val (.int p3), .val (.int p4), .val (.int p5), .val (.int p6), .unset, .unset, .unset, .unset, .unset, .unset, .unset, .unset, .unset] []))
  refine Go.st (fun t k => XS.iloadN X0.here hx rfl (hb hby at_0) rfl k) ?_
  show Go p.tables e below PP (s₁.setTop (mkF m 1 #[.val (.int p1), .val (.int p2), .val (.int p3), .val (.int p4), .val (.int p5), .val (.int p6), .unset, .unset, .unset, .unset, .unset, .unset, .unset, .unset, .unset] [(.int p1)]))
  refine Go.st (fun t k => X0.ldcI hx hown (mvT hZ (hw _ (List.mem_of_getElem? (i := 0) rfl))) (g := (mkF m 1 #[.val (.int p1), .val (.int p2), .val (.int p3), .val (.int p4), .val (.int p5), .val (.int p6), .unset, .unset, .unset, .unset, .unset, .unset, .unset, .unset, .unset] [(.int p1)])) rfl (hb hby at_1) k) ?_
  show Go p.tables e below PP (s₁.setTop (mkF m 3 #[.val (.int p1), .val (.int p2), .val (.int p3), .val (.int p4), .val (.int p5), .val (.int p6), .unset, .unset, .unset, .unset, .unset, .unset, .unset, .unset, .unset] [(.int (2147483647 : Int32)), (.int p1)]))
  refine Go.st (fun t k => XS.iand X0.here hx rfl (hb hby at_3) rfl k) ?_
  show Go p.tables e below PP (s₁.setTop (mkF m 4 #[.val (.int p1), .val (.int p2), .val (.int p3), .val (.int p4), .val (.int p5), .val (.int p6), .unset, .unset, .unset, .unset, .unset, .unset, .unset, .unset, .unset] [(.int (p1 &&& (2147483647 : Int32)))]))
  refine Go.st (fun t k => XS.bipush X0.here hx rfl (hb hby at_4) k) ?_
  show Go p.tables e below PP (s₁.setTop (mkF m 6 #[.val (.int p1), .val (.int p2), .val (.int p3), .val (.int p4), .val (.int p5), .val (.int p6), .unset, .unset, .unset, .unset, .unset, .unset, .unset, .unset, .unset] [(.int (6 : Int32)), (.int (p1 &&& (2147483647 : Int32)))]))
  refine Go.st (fun t k => iremM X0 hx rfl (hb hby at_6) rfl (by decide) k) ?_
  generalize hln : ((p1 &&& (2147483647 : Int32)) % (6 : Int32)) = ln
  replace hln := own_6 _ _ hln
  show Go p.tables e below PP (s₁.setTop (mkF m 7 #[.val (.int p1), .val (.int p2), .val (.int p3), .val (.int p4), .val (.int p5), .val (.int p6), .unset, .unset, .unset, .unset, .unset, .unset, .unset, .unset, .unset] [(.int ln)]))
  refine Go.st (fun t k => XS.istore X0.here hx rfl (hb hby at_7) rfl (l' := #[.val (.int p1), .val (.int p2), .val (.int p3), .val (.int p4), .val (.int p5), .val (.int p6), .val (.int ln), .unset, .unset, .unset, .unset, .unset, .unset, .unset, .unset]) rfl k) ?_
  show Go p.tables e below PP (s₁.setTop (mkF m 9 #[.val (.int p1), .val (.int p2), .val (.int p3), .val (.int p4), .val (.int p5), .val (.int p6), .val (.int ln), .unset, .unset, .unset, .unset, .unset, .unset, .unset, .unset] []))
  refine Go.st (fun t k => XS.iloadN X0.here hx rfl (hb hby at_9) rfl k) ?_
  show Go p.tables e below PP (s₁.setTop (mkF m 10 #[.val (.int p1), .val (.int p2), .val (.int p3), .val (.int p4), .val (.int p5), .val (.int p6), .val (.int ln), .unset, .unset, .unset, .unset, .unset, .unset, .unset, .unset] [(.int p2)]))
  obtain ⟨v1, T1, L1, X1, hQ1, st1⟩ := callSt X0 hx hZ (y := (⟨"com/example/facet_hierarchy_store/facethierarchystore/label/LanguageTagLanguagePinLaw", "draw", "(I)C"⟩ : MethodName)) (argsL := [(.int p2)]) (rest := []) hown (hw _ (List.mem_of_getElem? (i := 1) rfl)) (hw _ (List.mem_of_getElem? (i := 2) rfl)) (hw _ (List.mem_of_getElem? (i := 3) rfl)) (hw _ (List.mem_of_getElem? (i := 4) rfl)) (by decide) (rm1 l Z a0 hw [] p2 h0 n0 Zn) e0 0 (by decide) (by decide) (by decide) (by decide) (g := (mkF m 10 #[.val (.int p1), .val (.int p2), .val (.int p3), .val (.int p4), .val (.int p5), .val (.int p6), .val (.int ln), .unset, .unset, .unset, .unset, .unset, .unset, .unset, .unset] [(.int p2)])) rfl (by rw [hml]; rfl) (lenOf pd_21 rfl) rfl (by show 2 * 0 + _ ≤ _; exact Nat.le_of_eq rfl) (hb hby at_10)
  obtain ⟨rfl, rfl, e1⟩ := hQ1
  rw [List.append_nil] at X1
  refine Go.st st1 ?_
  generalize hc0v : (drC p2) = c0v
  replace hc0v := own_dr _ _ hc0v
  show Go p.tables e below PP (T1.setTop (mkF m 13 #[.val (.int p1), .val (.int p2), .val (.int p3), .val (.int p4), .val (.int p5), .val (.int p6), .val (.int ln), .unset, .unset, .unset, .unset, .unset, .unset, .unset, .unset] [(.int c0v)]))
  refine Go.st (fun t k => XS.istore X1.here hx rfl (hb hby at_13) rfl (l' := #[.val (.int p1), .val (.int p2), .val (.int p3), .val (.int p4), .val (.int p5), .val (.int p6), .val (.int ln), .val (.int c0v), .unset, .unset, .unset, .unset, .unset, .unset, .unset]) rfl k) ?_
  show Go p.tables e below PP (T1.setTop (mkF m 15 #[.val (.int p1), .val (.int p2), .val (.int p3), .val (.int p4), .val (.int p5), .val (.int p6), .val (.int ln), .val (.int c0v), .unset, .unset, .unset, .unset, .unset, .unset, .unset] []))
  refine Go.st (fun t k => XS.iloadN X1.here hx rfl (hb hby at_15) rfl k) ?_
  show Go p.tables e below PP (T1.setTop (mkF m 16 #[.val (.int p1), .val (.int p2), .val (.int p3), .val (.int p4), .val (.int p5), .val (.int p6), .val (.int ln), .val (.int c0v), .unset, .unset, .unset, .unset, .unset, .unset, .unset] [(.int p3)]))
  obtain ⟨v2, T2, L2, X2, hQ2, st2⟩ := callSt X1 hx hZ (y := (⟨"com/example/facet_hierarchy_store/facethierarchystore/label/LanguageTagLanguagePinLaw", "draw", "(I)C"⟩ : MethodName)) (argsL := [(.int p3)]) (rest := []) hown (hw _ (List.mem_of_getElem? (i := 1) rfl)) (hw _ (List.mem_of_getElem? (i := 2) rfl)) (hw _ (List.mem_of_getElem? (i := 3) rfl)) (hw _ (List.mem_of_getElem? (i := 4) rfl)) (by decide) (rm1 l Z a0 hw [] p3 h0 n0 Zn) e1 0 (by decide) (by decide) (by decide) (by decide) (g := (mkF m 16 #[.val (.int p1), .val (.int p2), .val (.int p3), .val (.int p4), .val (.int p5), .val (.int p6), .val (.int ln), .val (.int c0v), .unset, .unset, .unset, .unset, .unset, .unset, .unset] [(.int p3)])) rfl (by rw [hml]; rfl) (lenOf pd_21 rfl) rfl (by show 2 * 0 + _ ≤ _; exact Nat.le_of_eq rfl) (hb hby at_16)
  obtain ⟨rfl, rfl, e2⟩ := hQ2
  rw [List.append_nil] at X2
  refine Go.st st2 ?_
  generalize hc1v : (drC p3) = c1v
  replace hc1v := own_dr _ _ hc1v
  show Go p.tables e below PP (T2.setTop (mkF m 19 #[.val (.int p1), .val (.int p2), .val (.int p3), .val (.int p4), .val (.int p5), .val (.int p6), .val (.int ln), .val (.int c0v), .unset, .unset, .unset, .unset, .unset, .unset, .unset] [(.int c1v)]))
  refine Go.st (fun t k => XS.istore X2.here hx rfl (hb hby at_19) rfl (l' := #[.val (.int p1), .val (.int p2), .val (.int p3), .val (.int p4), .val (.int p5), .val (.int p6), .val (.int ln), .val (.int c0v), .val (.int c1v), .unset, .unset, .unset, .unset, .unset, .unset]) rfl k) ?_
  show Go p.tables e below PP (T2.setTop (mkF m 21 #[.val (.int p1), .val (.int p2), .val (.int p3), .val (.int p4), .val (.int p5), .val (.int p6), .val (.int ln), .val (.int c0v), .val (.int c1v), .unset, .unset, .unset, .unset, .unset, .unset] []))
  refine Go.st (fun t k => XS.iloadN X2.here hx rfl (hb hby at_21) rfl k) ?_
  show Go p.tables e below PP (T2.setTop (mkF m 22 #[.val (.int p1), .val (.int p2), .val (.int p3), .val (.int p4), .val (.int p5), .val (.int p6), .val (.int ln), .val (.int c0v), .val (.int c1v), .unset, .unset, .unset, .unset, .unset, .unset] [(.int p4)]))
  obtain ⟨v3, T3, L3, X3, hQ3, st3⟩ := callSt X2 hx hZ (y := (⟨"com/example/facet_hierarchy_store/facethierarchystore/label/LanguageTagLanguagePinLaw", "draw", "(I)C"⟩ : MethodName)) (argsL := [(.int p4)]) (rest := []) hown (hw _ (List.mem_of_getElem? (i := 1) rfl)) (hw _ (List.mem_of_getElem? (i := 2) rfl)) (hw _ (List.mem_of_getElem? (i := 3) rfl)) (hw _ (List.mem_of_getElem? (i := 4) rfl)) (by decide) (rm1 l Z a0 hw [] p4 h0 n0 Zn) e2 0 (by decide) (by decide) (by decide) (by decide) (g := (mkF m 22 #[.val (.int p1), .val (.int p2), .val (.int p3), .val (.int p4), .val (.int p5), .val (.int p6), .val (.int ln), .val (.int c0v), .val (.int c1v), .unset, .unset, .unset, .unset, .unset, .unset] [(.int p4)])) rfl (by rw [hml]; rfl) (lenOf pd_21 rfl) rfl (by show 2 * 0 + _ ≤ _; exact Nat.le_of_eq rfl) (hb hby at_22)
  obtain ⟨rfl, rfl, e3⟩ := hQ3
  rw [List.append_nil] at X3
  refine Go.st st3 ?_
  generalize hc2v : (drC p4) = c2v
  replace hc2v := own_dr _ _ hc2v
  show Go p.tables e below PP (T3.setTop (mkF m 25 #[.val (.int p1), .val (.int p2), .val (.int p3), .val (.int p4), .val (.int p5), .val (.int p6), .val (.int ln), .val (.int c0v), .val (.int c1v), .unset, .unset, .unset, .unset, .unset, .unset] [(.int c2v)]))
  refine Go.st (fun t k => XS.istore X3.here hx rfl (hb hby at_25) rfl (l' := #[.val (.int p1), .val (.int p2), .val (.int p3), .val (.int p4), .val (.int p5), .val (.int p6), .val (.int ln), .val (.int c0v), .val (.int c1v), .val (.int c2v), .unset, .unset, .unset, .unset, .unset]) rfl k) ?_
  show Go p.tables e below PP (T3.setTop (mkF m 27 #[.val (.int p1), .val (.int p2), .val (.int p3), .val (.int p4), .val (.int p5), .val (.int p6), .val (.int ln), .val (.int c0v), .val (.int c1v), .val (.int c2v), .unset, .unset, .unset, .unset, .unset] []))
  refine Go.st (fun t k => XS.iload X3.here hx rfl (hb hby at_27) rfl k) ?_
  show Go p.tables e below PP (T3.setTop (mkF m 29 #[.val (.int p1), .val (.int p2), .val (.int p3), .val (.int p4), .val (.int p5), .val (.int p6), .val (.int ln), .val (.int c0v), .val (.int c1v), .val (.int c2v), .unset, .unset, .unset, .unset, .unset] [(.int p5)]))
  obtain ⟨v4, T4, L4, X4, hQ4, st4⟩ := callSt X3 hx hZ (y := (⟨"com/example/facet_hierarchy_store/facethierarchystore/label/LanguageTagLanguagePinLaw", "draw", "(I)C"⟩ : MethodName)) (argsL := [(.int p5)]) (rest := []) hown (hw _ (List.mem_of_getElem? (i := 1) rfl)) (hw _ (List.mem_of_getElem? (i := 2) rfl)) (hw _ (List.mem_of_getElem? (i := 3) rfl)) (hw _ (List.mem_of_getElem? (i := 4) rfl)) (by decide) (rm1 l Z a0 hw [] p5 h0 n0 Zn) e3 0 (by decide) (by decide) (by decide) (by decide) (g := (mkF m 29 #[.val (.int p1), .val (.int p2), .val (.int p3), .val (.int p4), .val (.int p5), .val (.int p6), .val (.int ln), .val (.int c0v), .val (.int c1v), .val (.int c2v), .unset, .unset, .unset, .unset, .unset] [(.int p5)])) rfl (by rw [hml]; rfl) (lenOf pd_21 rfl) rfl (by show 2 * 0 + _ ≤ _; exact Nat.le_of_eq rfl) (hb hby at_29)
  obtain ⟨rfl, rfl, e4⟩ := hQ4
  rw [List.append_nil] at X4
  refine Go.st st4 ?_
  generalize hc3v : (drC p5) = c3v
  replace hc3v := own_dr _ _ hc3v
  show Go p.tables e below PP (T4.setTop (mkF m 32 #[.val (.int p1), .val (.int p2), .val (.int p3), .val (.int p4), .val (.int p5), .val (.int p6), .val (.int ln), .val (.int c0v), .val (.int c1v), .val (.int c2v), .unset, .unset, .unset, .unset, .unset] [(.int c3v)]))
  refine Go.st (fun t k => XS.istore X4.here hx rfl (hb hby at_32) rfl (l' := #[.val (.int p1), .val (.int p2), .val (.int p3), .val (.int p4), .val (.int p5), .val (.int p6), .val (.int ln), .val (.int c0v), .val (.int c1v), .val (.int c2v), .val (.int c3v), .unset, .unset, .unset, .unset]) rfl k) ?_
  show Go p.tables e below PP (T4.setTop (mkF m 34 #[.val (.int p1), .val (.int p2), .val (.int p3), .val (.int p4), .val (.int p5), .val (.int p6), .val (.int ln), .val (.int c0v), .val (.int c1v), .val (.int c2v), .val (.int c3v), .unset, .unset, .unset, .unset] []))
  refine Go.st (fun t k => XS.iload X4.here hx rfl (hb hby at_34) rfl k) ?_
  show Go p.tables e below PP (T4.setTop (mkF m 36 #[.val (.int p1), .val (.int p2), .val (.int p3), .val (.int p4), .val (.int p5), .val (.int p6), .val (.int ln), .val (.int c0v), .val (.int c1v), .val (.int c2v), .val (.int c3v), .unset, .unset, .unset, .unset] [(.int p6)]))
  obtain ⟨v5, T5, L5, X5, hQ5, st5⟩ := callSt X4 hx hZ (y := (⟨"com/example/facet_hierarchy_store/facethierarchystore/label/LanguageTagLanguagePinLaw", "draw", "(I)C"⟩ : MethodName)) (argsL := [(.int p6)]) (rest := []) hown (hw _ (List.mem_of_getElem? (i := 1) rfl)) (hw _ (List.mem_of_getElem? (i := 2) rfl)) (hw _ (List.mem_of_getElem? (i := 3) rfl)) (hw _ (List.mem_of_getElem? (i := 4) rfl)) (by decide) (rm1 l Z a0 hw [] p6 h0 n0 Zn) e4 0 (by decide) (by decide) (by decide) (by decide) (g := (mkF m 36 #[.val (.int p1), .val (.int p2), .val (.int p3), .val (.int p4), .val (.int p5), .val (.int p6), .val (.int ln), .val (.int c0v), .val (.int c1v), .val (.int c2v), .val (.int c3v), .unset, .unset, .unset, .unset] [(.int p6)])) rfl (by rw [hml]; rfl) (lenOf pd_21 rfl) rfl (by show 2 * 0 + _ ≤ _; exact Nat.le_of_eq rfl) (hb hby at_36)
  obtain ⟨rfl, rfl, e5⟩ := hQ5
  rw [List.append_nil] at X5
  refine Go.st st5 ?_
  generalize hc4v : (drC p6) = c4v
  replace hc4v := own_dr _ _ hc4v
  show Go p.tables e below PP (T5.setTop (mkF m 39 #[.val (.int p1), .val (.int p2), .val (.int p3), .val (.int p4), .val (.int p5), .val (.int p6), .val (.int ln), .val (.int c0v), .val (.int c1v), .val (.int c2v), .val (.int c3v), .unset, .unset, .unset, .unset] [(.int c4v)]))
  refine Go.st (fun t k => XS.istore X5.here hx rfl (hb hby at_39) rfl (l' := #[.val (.int p1), .val (.int p2), .val (.int p3), .val (.int p4), .val (.int p5), .val (.int p6), .val (.int ln), .val (.int c0v), .val (.int c1v), .val (.int c2v), .val (.int c3v), .val (.int c4v), .unset, .unset, .unset]) rfl k) ?_
  show Go p.tables e below PP (T5.setTop (mkF m 41 #[.val (.int p1), .val (.int p2), .val (.int p3), .val (.int p4), .val (.int p5), .val (.int p6), .val (.int ln), .val (.int c0v), .val (.int c1v), .val (.int c2v), .val (.int c3v), .val (.int c4v), .unset, .unset, .unset] []))
  refine Go.st (fun t k => XS.iload X5.here hx rfl (hb hby at_41) rfl k) ?_
  show Go p.tables e below PP (T5.setTop (mkF m 43 #[.val (.int p1), .val (.int p2), .val (.int p3), .val (.int p4), .val (.int p5), .val (.int p6), .val (.int ln), .val (.int c0v), .val (.int c1v), .val (.int c2v), .val (.int c3v), .val (.int c4v), .unset, .unset, .unset] [(.int ln)]))
  refine Go.st (fun t k => XS.iload X5.here hx rfl (hb hby at_43) rfl k) ?_
  show Go p.tables e below PP (T5.setTop (mkF m 45 #[.val (.int p1), .val (.int p2), .val (.int p3), .val (.int p4), .val (.int p5), .val (.int p6), .val (.int ln), .val (.int c0v), .val (.int c1v), .val (.int c2v), .val (.int c3v), .val (.int c4v), .unset, .unset, .unset] [(.int c0v), (.int ln)]))
  refine Go.st (fun t k => XS.iload X5.here hx rfl (hb hby at_45) rfl k) ?_
  show Go p.tables e below PP (T5.setTop (mkF m 47 #[.val (.int p1), .val (.int p2), .val (.int p3), .val (.int p4), .val (.int p5), .val (.int p6), .val (.int ln), .val (.int c0v), .val (.int c1v), .val (.int c2v), .val (.int c3v), .val (.int c4v), .unset, .unset, .unset] [(.int c1v), (.int c0v), (.int ln)]))
  refine Go.st (fun t k => XS.iload X5.here hx rfl (hb hby at_47) rfl k) ?_
  show Go p.tables e below PP (T5.setTop (mkF m 49 #[.val (.int p1), .val (.int p2), .val (.int p3), .val (.int p4), .val (.int p5), .val (.int p6), .val (.int ln), .val (.int c0v), .val (.int c1v), .val (.int c2v), .val (.int c3v), .val (.int c4v), .unset, .unset, .unset] [(.int c2v), (.int c1v), (.int c0v), (.int ln)]))
  refine Go.st (fun t k => XS.iload X5.here hx rfl (hb hby at_49) rfl k) ?_
  show Go p.tables e below PP (T5.setTop (mkF m 51 #[.val (.int p1), .val (.int p2), .val (.int p3), .val (.int p4), .val (.int p5), .val (.int p6), .val (.int ln), .val (.int c0v), .val (.int c1v), .val (.int c2v), .val (.int c3v), .val (.int c4v), .unset, .unset, .unset] [(.int c3v), (.int c2v), (.int c1v), (.int c0v), (.int ln)]))
  refine Go.st (fun t k => XS.iload X5.here hx rfl (hb hby at_51) rfl k) ?_
  show Go p.tables e below PP (T5.setTop (mkF m 53 #[.val (.int p1), .val (.int p2), .val (.int p3), .val (.int p4), .val (.int p5), .val (.int p6), .val (.int ln), .val (.int c0v), .val (.int c1v), .val (.int c2v), .val (.int c3v), .val (.int c4v), .unset, .unset, .unset] [(.int c4v), (.int c3v), (.int c2v), (.int c1v), (.int c0v), (.int ln)]))
  have hZ0 := hZ
  have hown0 := hown
  clear hZ hown
  obtain ⟨v6, T6, L6, X6, hQ6, hC6, hSn6, hZ, hown, st6⟩ := callStW X5 hx hZ0 (y := (⟨"com/example/facet_hierarchy_store/facethierarchystore/label/LanguageTagLanguagePinLaw", "make", "(ICCCCC)Ljava/lang/String;"⟩ : MethodName)) (argsL := [(.int ln), (.int c0v), (.int c1v), (.int c2v), (.int c3v), (.int c4v)]) (rest := []) hown0 (hw _ (List.mem_of_getElem? (i := 5) rfl)) (hw _ (List.mem_of_getElem? (i := 6) rfl)) (hw _ (List.mem_of_getElem? (i := 3) rfl)) (hw _ (List.mem_of_getElem? (i := 7) rfl)) (by decide) (rm2 l Z a0 hw [] ln c0v c1v c2v c3v c4v zc h0 n0 Zn hEL SC hzc O hln hc0v hc1v hc2v hc3v hc4v) e5 hEL CH hS hk 0 (by decide) (by decide) (by decide) (by decide) (g := (mkF m 53 #[.val (.int p1), .val (.int p2), .val (.int p3), .val (.int p4), .val (.int p5), .val (.int p6), .val (.int ln), .val (.int c0v), .val (.int c1v), .val (.int c2v), .val (.int c3v), .val (.int c4v), .unset, .unset, .unset] [(.int c4v), (.int c3v), (.int c2v), (.int c1v), (.int c0v), (.int ln)])) rfl (by rw [hml]; rfl) (lenOf pd_22 rfl) rfl (by show 2 * 0 + _ ≤ _; exact Nat.le_of_eq rfl) (hb hby at_53)
  clear hZ0 hown0
  replace hS := hSn6
  obtain ⟨h6, e6⟩ : ∃ z, T6.heap = z := ⟨_, rfl⟩
  rw [e6] at hQ6 hC6
  replace CR := CR.trans hC6
  replace CH := hC6.1
  replace hk : T6.heap.size ≤ h6.size := by rw [e6]; exact Nat.le_refl _
  obtain ⟨Nq6, Kq6, r6, t6, rfl, Eq6, Cq6, Fq6, Vq6⟩ := hQ6
  have N6 := Fr.app N0 Nq6
  replace O := O.keep Kq6 all0
  replace Zn := Nat.le_trans Zn Kq6.1
  refine Go.st st6 ?_
  show Go p.tables e below PP (T6.setTop (mkF m 56 #[.val (.int p1), .val (.int p2), .val (.int p3), .val (.int p4), .val (.int p5), .val (.int p6), .val (.int ln), .val (.int c0v), .val (.int c1v), .val (.int c2v), .val (.int c3v), .val (.int c4v), .unset, .unset, .unset] [(.ref r6)]))
  refine Go.st (fun t k => XS.astore X6.here hx rfl (hb hby at_56) rfl rfl (l' := #[.val (.int p1), .val (.int p2), .val (.int p3), .val (.int p4), .val (.int p5), .val (.int p6), .val (.int ln), .val (.int c0v), .val (.int c1v), .val (.int c2v), .val (.int c3v), .val (.int c4v), .val (.ref r6), .unset, .unset]) rfl k) ?_
  show Go p.tables e below PP (T6.setTop (mkF m 58 #[.val (.int p1), .val (.int p2), .val (.int p3), .val (.int p4), .val (.int p5), .val (.int p6), .val (.int ln), .val (.int c0v), .val (.int c1v), .val (.int c2v), .val (.int c3v), .val (.int c4v), .val (.ref r6), .unset, .unset] []))
  refine Go.st (fun t k => XS.iload X6.here hx rfl (hb hby at_58) rfl k) ?_
  show Go p.tables e below PP (T6.setTop (mkF m 60 #[.val (.int p1), .val (.int p2), .val (.int p3), .val (.int p4), .val (.int p5), .val (.int p6), .val (.int ln), .val (.int c0v), .val (.int c1v), .val (.int c2v), .val (.int c3v), .val (.int c4v), .val (.ref r6), .unset, .unset] [(.int ln)]))
  refine Go.st (fun t k => XS.iload X6.here hx rfl (hb hby at_60) rfl k) ?_
  show Go p.tables e below PP (T6.setTop (mkF m 62 #[.val (.int p1), .val (.int p2), .val (.int p3), .val (.int p4), .val (.int p5), .val (.int p6), .val (.int ln), .val (.int c0v), .val (.int c1v), .val (.int c2v), .val (.int c3v), .val (.int c4v), .val (.ref r6), .unset, .unset] [(.int c0v), (.int ln)]))
  refine Go.st (fun t k => XS.iload X6.here hx rfl (hb hby at_62) rfl k) ?_
  show Go p.tables e below PP (T6.setTop (mkF m 64 #[.val (.int p1), .val (.int p2), .val (.int p3), .val (.int p4), .val (.int p5), .val (.int p6), .val (.int ln), .val (.int c0v), .val (.int c1v), .val (.int c2v), .val (.int c3v), .val (.int c4v), .val (.ref r6), .unset, .unset] [(.int c1v), (.int c0v), (.int ln)]))
  refine Go.st (fun t k => XS.iload X6.here hx rfl (hb hby at_64) rfl k) ?_
  show Go p.tables e below PP (T6.setTop (mkF m 66 #[.val (.int p1), .val (.int p2), .val (.int p3), .val (.int p4), .val (.int p5), .val (.int p6), .val (.int ln), .val (.int c0v), .val (.int c1v), .val (.int c2v), .val (.int c3v), .val (.int c4v), .val (.ref r6), .unset, .unset] [(.int c2v), (.int c1v), (.int c0v), (.int ln)]))
  refine Go.st (fun t k => XS.iload X6.here hx rfl (hb hby at_66) rfl k) ?_
  show Go p.tables e below PP (T6.setTop (mkF m 68 #[.val (.int p1), .val (.int p2), .val (.int p3), .val (.int p4), .val (.int p5), .val (.int p6), .val (.int ln), .val (.int c0v), .val (.int c1v), .val (.int c2v), .val (.int c3v), .val (.int c4v), .val (.ref r6), .unset, .unset] [(.int c3v), (.int c2v), (.int c1v), (.int c0v), (.int ln)]))
  refine Go.st (fun t k => XS.iload X6.here hx rfl (hb hby at_68) rfl k) ?_
  show Go p.tables e below PP (T6.setTop (mkF m 70 #[.val (.int p1), .val (.int p2), .val (.int p3), .val (.int p4), .val (.int p5), .val (.int p6), .val (.int ln), .val (.int c0v), .val (.int c1v), .val (.int c2v), .val (.int c3v), .val (.int c4v), .val (.ref r6), .unset, .unset] [(.int c4v), (.int c3v), (.int c2v), (.int c1v), (.int c0v), (.int ln)]))
  obtain ⟨v7, T7, L7, X7, hQ7, st7⟩ := callSt X6 hx hZ (y := (⟨"com/example/facet_hierarchy_store/facethierarchystore/label/LanguageTagLanguagePinLaw", "firstDash", "(ICCCCC)I"⟩ : MethodName)) (argsL := [(.int ln), (.int c0v), (.int c1v), (.int c2v), (.int c3v), (.int c4v)]) (rest := []) hown (hw _ (List.mem_of_getElem? (i := 30) rfl)) (hw _ (List.mem_of_getElem? (i := 31) rfl)) (hw _ (List.mem_of_getElem? (i := 3) rfl)) (hw _ (List.mem_of_getElem? (i := 32) rfl)) (by decide) (rm6 l Z a0 hw [] ln c0v c1v c2v c3v c4v h6 n0 Zn) e6 0 (by decide) (by decide) (by decide) (by decide) (g := (mkF m 70 #[.val (.int p1), .val (.int p2), .val (.int p3), .val (.int p4), .val (.int p5), .val (.int p6), .val (.int ln), .val (.int c0v), .val (.int c1v), .val (.int c2v), .val (.int c3v), .val (.int c4v), .val (.ref r6), .unset, .unset] [(.int c4v), (.int c3v), (.int c2v), (.int c1v), (.int c0v), (.int ln)])) rfl (by rw [hml]; rfl) (lenOf pd_23 rfl) rfl (by show 2 * 0 + _ ≤ _; exact Nat.le_of_eq rfl) (hb hby at_70)
  obtain ⟨rfl, rfl, e7⟩ := hQ7
  rw [List.append_nil] at X7
  refine Go.st st7 ?_
  have hlg := own_len ln c0v c1v c2v c3v c4v hln hc0v hc1v hc2v hc3v hc4v
  generalize hkd : (fdash ln c0v c1v c2v c3v c4v) = kk
  rw [hkd] at hlg
  have hkk : ¬ ln < kk := hlg ▸ own_lk _ ln hln.1
  show Go p.tables e below PP (T7.setTop (mkF m 73 #[.val (.int p1), .val (.int p2), .val (.int p3), .val (.int p4), .val (.int p5), .val (.int p6), .val (.int ln), .val (.int c0v), .val (.int c1v), .val (.int c2v), .val (.int c3v), .val (.int c4v), .val (.ref r6), .unset, .unset] [(.int kk)]))
  refine Go.st (fun t k => XS.istore X7.here hx rfl (hb hby at_73) rfl (l' := #[.val (.int p1), .val (.int p2), .val (.int p3), .val (.int p4), .val (.int p5), .val (.int p6), .val (.int ln), .val (.int c0v), .val (.int c1v), .val (.int c2v), .val (.int c3v), .val (.int c4v), .val (.ref r6), .val (.int kk), .unset]) rfl k) ?_
  show Go p.tables e below PP (T7.setTop (mkF m 75 #[.val (.int p1), .val (.int p2), .val (.int p3), .val (.int p4), .val (.int p5), .val (.int p6), .val (.int ln), .val (.int c0v), .val (.int c1v), .val (.int c2v), .val (.int c3v), .val (.int c4v), .val (.ref r6), .val (.int kk), .unset] []))
  refine Go.st (fun t k => XS.aload X7.here hx rfl (hb hby at_75) rfl rfl k) ?_
  show Go p.tables e below PP (T7.setTop (mkF m 77 #[.val (.int p1), .val (.int p2), .val (.int p3), .val (.int p4), .val (.int p5), .val (.int p6), .val (.int ln), .val (.int c0v), .val (.int c1v), .val (.int c2v), .val (.int c3v), .val (.int c4v), .val (.ref r6), .val (.int kk), .unset] [(.ref r6)]))
  have hZ0 := hZ
  have hown0 := hown
  clear hZ hown
  obtain ⟨v8, T8, L8, X8, hQ8, hC8, hSn8, hZ, hown, st8⟩ := callStW X7 hx hZ0 (y := (⟨"com/example/facet_hierarchy_store/facethierarchystore/label/LanguageTag", "language", "(Ljava/lang/String;)Ljava/lang/String;"⟩ : MethodName)) (argsL := [(.ref r6)]) (rest := []) hown0 (hw _ (List.mem_of_getElem? (i := 33) rfl)) (hw _ (List.mem_of_getElem? (i := 34) rfl)) (hw _ (List.mem_of_getElem? (i := 35) rfl)) (hw _ (List.mem_of_getElem? (i := 36) rfl)) (by decide) (rm7 l Z a0 hw [] r6 t6 ln (fun k => (fun k => (csL [c0v, c1v, c2v, c3v, c4v] k).toInt8.toInt32) k) zc sv h6 n0 Zn hEL Fq6 Cq6 Vq6 Eq6 SC hzc O SV hr_sv (by have a := hln.2; simp only [Int32.toNatClampNeg]; omega)) e7 hEL CH hS hk 0 (by decide) (by decide) (by decide) (by decide) (g := (mkF m 77 #[.val (.int p1), .val (.int p2), .val (.int p3), .val (.int p4), .val (.int p5), .val (.int p6), .val (.int ln), .val (.int c0v), .val (.int c1v), .val (.int c2v), .val (.int c3v), .val (.int c4v), .val (.ref r6), .val (.int kk), .unset] [(.ref r6)])) rfl (by rw [hml]; rfl) (lenOf pd_24 rfl) rfl (by show 2 * 0 + _ ≤ _; exact Nat.le_of_eq rfl) (hb hby at_77)
  clear hZ0 hown0
  replace hS := hSn8
  obtain ⟨h8, e8⟩ : ∃ z, T8.heap = z := ⟨_, rfl⟩
  rw [e8] at hQ8 hC8
  replace CR := CR.trans hC8
  replace CH := hC8.1
  replace hk : T8.heap.size ≤ h8.size := by rw [e8]; exact Nat.le_refl _
  obtain ⟨Nq8, Kq8, r8, t8, rfl, Eq8, Cq8, Fq8, Vq8⟩ := hQ8
  have N8 := Fr.app N6 Nq8
  replace Eq6 := Eq6.keep Kq8
  replace Cq6 := Cq6.keep Kq8 nin0
  replace Fq6 := Fq6.keep Kq8 nin0
  replace Vq6 := Vq6.keep Kq8 nin0
  replace O := O.keep Kq8 all0
  replace Zn := Nat.le_trans Zn Kq8.1
  refine Go.st st8 ?_
  rw [hlg] at Vq8
  show Go p.tables e below PP (T8.setTop (mkF m 80 #[.val (.int p1), .val (.int p2), .val (.int p3), .val (.int p4), .val (.int p5), .val (.int p6), .val (.int ln), .val (.int c0v), .val (.int c1v), .val (.int c2v), .val (.int c3v), .val (.int c4v), .val (.ref r6), .val (.int kk), .unset] [(.ref r8)]))
  refine Go.st (fun t k => XS.astore X8.here hx rfl (hb hby at_80) rfl rfl (l' := #[.val (.int p1), .val (.int p2), .val (.int p3), .val (.int p4), .val (.int p5), .val (.int p6), .val (.int ln), .val (.int c0v), .val (.int c1v), .val (.int c2v), .val (.int c3v), .val (.int c4v), .val (.ref r6), .val (.int kk), .val (.ref r8)]) rfl k) ?_
  show Go p.tables e below PP (T8.setTop (mkF m 82 #[.val (.int p1), .val (.int p2), .val (.int p3), .val (.int p4), .val (.int p5), .val (.int p6), .val (.int ln), .val (.int c0v), .val (.int c1v), .val (.int c2v), .val (.int c3v), .val (.int c4v), .val (.ref r6), .val (.int kk), .val (.ref r8)] []))
  refine Go.st (fun t k => XS.aload X8.here hx rfl (hb hby at_82) rfl rfl k) ?_
  show Go p.tables e below PP (T8.setTop (mkF m 84 #[.val (.int p1), .val (.int p2), .val (.int p3), .val (.int p4), .val (.int p5), .val (.int p6), .val (.int ln), .val (.int c0v), .val (.int c1v), .val (.int c2v), .val (.int c3v), .val (.int c4v), .val (.ref r6), .val (.int kk), .val (.ref r8)] [(.ref r8)]))
  refine Go.st (fun t k => XS.ifnullNo X8.here hx rfl (hb hby at_84) rfl k) ?_
  show Go p.tables e below PP (T8.setTop (mkF m 87 #[.val (.int p1), .val (.int p2), .val (.int p3), .val (.int p4), .val (.int p5), .val (.int p6), .val (.int ln), .val (.int c0v), .val (.int c1v), .val (.int c2v), .val (.int c3v), .val (.int c4v), .val (.ref r6), .val (.int kk), .val (.ref r8)] []))
  refine Go.st (fun t k => XS.aload X8.here hx rfl (hb hby at_87) rfl rfl k) ?_
  show Go p.tables e below PP (T8.setTop (mkF m 89 #[.val (.int p1), .val (.int p2), .val (.int p3), .val (.int p4), .val (.int p5), .val (.int p6), .val (.int ln), .val (.int c0v), .val (.int c1v), .val (.int c2v), .val (.int c3v), .val (.int c4v), .val (.ref r6), .val (.int kk), .val (.ref r8)] [(.ref r8)]))
  obtain ⟨v9, T9, L9, X9, hQ9, st9⟩ := callVi X8 hx hZ (C := "java/lang/String") (y := (⟨"java/lang/String", "length", "()I"⟩ : MethodName)) (z := (⟨"java/lang/String", "length", "()I"⟩ : MethodName)) (a := r8) (argsL := []) (rest := []) hown (hw _ (List.mem_of_getElem? (i := 77) rfl)) (hw _ (List.mem_of_getElem? (i := 54) rfl)) (notFace_of_selects (args := #[]) (mvT (s := (s.setVm T8.vm)) hZ (hw _ (List.mem_of_getElem? (i := 56) rfl)))) (hw _ (List.mem_of_getElem? (i := 56) rfl)) (hw _ (List.mem_of_getElem? (i := 55) rfl)) (hw _ (List.mem_of_getElem? (i := 10) rfl)) (hw _ (List.mem_of_getElem? (i := 57) rfl)) (by decide) rfl Eq8 (rm11 l Z a0 hw [] r8 t8 kk (fun k => (fun k => (fun k => (csL [c0v, c1v, c2v, c3v, c4v] k).toInt8.toInt32) k) k) zc h8 n0 Zn Fq8 Cq8 Vq8 Eq8 SC hzc O) e8 0 (by decide) (by decide) (by decide) (by decide) (g := (mkF m 89 #[.val (.int p1), .val (.int p2), .val (.int p3), .val (.int p4), .val (.int p5), .val (.int p6), .val (.int ln), .val (.int c0v), .val (.int c1v), .val (.int c2v), .val (.int c3v), .val (.int c4v), .val (.ref r6), .val (.int kk), .val (.ref r8)] [(.ref r8)])) rfl (by rw [hml]; rfl) (lenOf pd_9 rfl) rfl (by show 2 * 0 + _ ≤ _; exact Nat.le_of_eq rfl) (hb hby at_89)
  obtain ⟨rfl, rfl, e9⟩ := hQ9
  rw [List.append_nil] at X9
  refine Go.st st9 ?_
  show Go p.tables e below PP (T9.setTop (mkF m 92 #[.val (.int p1), .val (.int p2), .val (.int p3), .val (.int p4), .val (.int p5), .val (.int p6), .val (.int ln), .val (.int c0v), .val (.int c1v), .val (.int c2v), .val (.int c3v), .val (.int c4v), .val (.ref r6), .val (.int kk), .val (.ref r8)] [(.int kk)]))
  refine Go.st (fun t k => XS.iload X9.here hx rfl (hb hby at_92) rfl k) ?_
  show Go p.tables e below PP (T9.setTop (mkF m 94 #[.val (.int p1), .val (.int p2), .val (.int p3), .val (.int p4), .val (.int p5), .val (.int p6), .val (.int ln), .val (.int c0v), .val (.int c1v), .val (.int c2v), .val (.int c3v), .val (.int c4v), .val (.ref r6), .val (.int kk), .val (.ref r8)] [(.int kk), (.int kk)]))
  refine Go.st (fun t k => XS.icmpYes X9.here hx rfl (pc0 := 94) (pc' := 99) rfl (hb hby at_94) rfl (XT.ii_eq_t rfl) (by decide) (by decide) k) ?_
  show Go p.tables e below PP (T9.setTop (mkF m 99 #[.val (.int p1), .val (.int p2), .val (.int p3), .val (.int p4), .val (.int p5), .val (.int p6), .val (.int ln), .val (.int c0v), .val (.int c1v), .val (.int c2v), .val (.int c3v), .val (.int c4v), .val (.ref r6), .val (.int kk), .val (.ref r8)] []))
  refine Go.st (fun t k => XS.aload X9.here hx rfl (hb hby at_99) rfl rfl k) ?_
  show Go p.tables e below PP (T9.setTop (mkF m 101 #[.val (.int p1), .val (.int p2), .val (.int p3), .val (.int p4), .val (.int p5), .val (.int p6), .val (.int ln), .val (.int c0v), .val (.int c1v), .val (.int c2v), .val (.int c3v), .val (.int c4v), .val (.ref r6), .val (.int kk), .val (.ref r8)] [(.ref r8)]))
  refine Go.st (fun t k => XS.aload X9.here hx rfl (hb hby at_101) rfl rfl k) ?_
  show Go p.tables e below PP (T9.setTop (mkF m 103 #[.val (.int p1), .val (.int p2), .val (.int p3), .val (.int p4), .val (.int p5), .val (.int p6), .val (.int ln), .val (.int c0v), .val (.int c1v), .val (.int c2v), .val (.int c3v), .val (.int c4v), .val (.ref r6), .val (.int kk), .val (.ref r8)] [(.ref r6), (.ref r8)]))
  refine Go.st (fun t k => XS.iconst X9.here hx rfl (hb hby at_103) k) ?_
  show Go p.tables e below PP (T9.setTop (mkF m 104 #[.val (.int p1), .val (.int p2), .val (.int p3), .val (.int p4), .val (.int p5), .val (.int p6), .val (.int ln), .val (.int c0v), .val (.int c1v), .val (.int c2v), .val (.int c3v), .val (.int c4v), .val (.ref r6), .val (.int kk), .val (.ref r8)] [(.int (0 : Int32)), (.ref r6), (.ref r8)]))
  refine Go.st (fun t k => XS.iload X9.here hx rfl (hb hby at_104) rfl k) ?_
  show Go p.tables e below PP (T9.setTop (mkF m 106 #[.val (.int p1), .val (.int p2), .val (.int p3), .val (.int p4), .val (.int p5), .val (.int p6), .val (.int ln), .val (.int c0v), .val (.int c1v), .val (.int c2v), .val (.int c3v), .val (.int c4v), .val (.ref r6), .val (.int kk), .val (.ref r8)] [(.int kk), (.int (0 : Int32)), (.ref r6), (.ref r8)]))
  obtain ⟨v10, T10, L10, X10, hQ10, st10⟩ := callSt X9 hx hZ (y := (⟨"com/example/facet_hierarchy_store/facethierarchystore/label/LanguageTagLanguagePinLaw", "agree", "(Ljava/lang/String;Ljava/lang/String;II)Z"⟩ : MethodName)) (argsL := [(.ref r8), (.ref r6), (.int (0 : Int32)), (.int kk)]) (rest := []) hown (hw _ (List.mem_of_getElem? (i := 78) rfl)) (hw _ (List.mem_of_getElem? (i := 79) rfl)) (hw _ (List.mem_of_getElem? (i := 3) rfl)) (hw _ (List.mem_of_getElem? (i := 80) rfl)) (by decide) (rm17 l Z a0 hw [] r8 r6 (0 : Int32) kk t8 kk (fun k => (fun k => (fun k => (csL [c0v, c1v, c2v, c3v, c4v] k).toInt8.toInt32) k) k) t6 ln (fun k => (fun k => (csL [c0v, c1v, c2v, c3v, c4v] k).toInt8.toInt32) k) zc sv h8 n0 Zn Fq8 Cq8 Vq8 Eq8 Fq6 Cq6 Vq6 Eq6 SC hzc O SV hr_sv (own_ag (0 : Int32) kk ln (by decide) hkk _)) e9 0 (by decide) (by decide) (by decide) (by decide) (g := (mkF m 106 #[.val (.int p1), .val (.int p2), .val (.int p3), .val (.int p4), .val (.int p5), .val (.int p6), .val (.int ln), .val (.int c0v), .val (.int c1v), .val (.int c2v), .val (.int c3v), .val (.int c4v), .val (.ref r6), .val (.int kk), .val (.ref r8)] [(.int kk), (.int (0 : Int32)), (.ref r6), (.ref r8)])) rfl (by rw [hml]; rfl) (lenOf pd_25 rfl) rfl (by show 2 * 0 + _ ≤ _; exact Nat.le_of_eq rfl) (hb hby at_106)
  obtain ⟨rfl, rfl, e10⟩ := hQ10
  rw [List.append_nil] at X10
  refine Go.st st10 ?_
  show Go p.tables e below PP (T10.setTop (mkF m 109 #[.val (.int p1), .val (.int p2), .val (.int p3), .val (.int p4), .val (.int p5), .val (.int p6), .val (.int ln), .val (.int c0v), .val (.int c1v), .val (.int c2v), .val (.int c3v), .val (.int c4v), .val (.ref r6), .val (.int kk), .val (.ref r8)] [(.int (1 : Int32))]))
  refine Go.st (fun t k => XS.ifNo X10.here hx rfl (hb hby at_109) rfl (XT.i0_eq_f (by decide)) k) ?_
  show Go p.tables e below PP (T10.setTop (mkF m 112 #[.val (.int p1), .val (.int p2), .val (.int p3), .val (.int p4), .val (.int p5), .val (.int p6), .val (.int ln), .val (.int c0v), .val (.int c1v), .val (.int c2v), .val (.int c3v), .val (.int c4v), .val (.ref r6), .val (.int kk), .val (.ref r8)] []))
  refine Go.st (fun t k => XS.aload X10.here hx rfl (hb hby at_112) rfl rfl k) ?_
  show Go p.tables e below PP (T10.setTop (mkF m 114 #[.val (.int p1), .val (.int p2), .val (.int p3), .val (.int p4), .val (.int p5), .val (.int p6), .val (.int ln), .val (.int c0v), .val (.int c1v), .val (.int c2v), .val (.int c3v), .val (.int c4v), .val (.ref r6), .val (.int kk), .val (.ref r8)] [(.ref r8)]))
  refine Go.st (fun t k => XS.aload X10.here hx rfl (hb hby at_114) rfl rfl k) ?_
  show Go p.tables e below PP (T10.setTop (mkF m 116 #[.val (.int p1), .val (.int p2), .val (.int p3), .val (.int p4), .val (.int p5), .val (.int p6), .val (.int ln), .val (.int c0v), .val (.int c1v), .val (.int c2v), .val (.int c3v), .val (.int c4v), .val (.ref r6), .val (.int kk), .val (.ref r8)] [(.ref r6), (.ref r8)]))
  refine Go.st (fun t k => XS.iconst X10.here hx rfl (hb hby at_116) k) ?_
  show Go p.tables e below PP (T10.setTop (mkF m 117 #[.val (.int p1), .val (.int p2), .val (.int p3), .val (.int p4), .val (.int p5), .val (.int p6), .val (.int ln), .val (.int c0v), .val (.int c1v), .val (.int c2v), .val (.int c3v), .val (.int c4v), .val (.ref r6), .val (.int kk), .val (.ref r8)] [(.int (1 : Int32)), (.ref r6), (.ref r8)]))
  refine Go.st (fun t k => XS.iload X10.here hx rfl (hb hby at_117) rfl k) ?_
  show Go p.tables e below PP (T10.setTop (mkF m 119 #[.val (.int p1), .val (.int p2), .val (.int p3), .val (.int p4), .val (.int p5), .val (.int p6), .val (.int ln), .val (.int c0v), .val (.int c1v), .val (.int c2v), .val (.int c3v), .val (.int c4v), .val (.ref r6), .val (.int kk), .val (.ref r8)] [(.int kk), (.int (1 : Int32)), (.ref r6), (.ref r8)]))
  obtain ⟨v11, T11, L11, X11, hQ11, st11⟩ := callSt X10 hx hZ (y := (⟨"com/example/facet_hierarchy_store/facethierarchystore/label/LanguageTagLanguagePinLaw", "agree", "(Ljava/lang/String;Ljava/lang/String;II)Z"⟩ : MethodName)) (argsL := [(.ref r8), (.ref r6), (.int (1 : Int32)), (.int kk)]) (rest := []) hown (hw _ (List.mem_of_getElem? (i := 78) rfl)) (hw _ (List.mem_of_getElem? (i := 79) rfl)) (hw _ (List.mem_of_getElem? (i := 3) rfl)) (hw _ (List.mem_of_getElem? (i := 80) rfl)) (by decide) (rm17 l Z a0 hw [] r8 r6 (1 : Int32) kk t8 kk (fun k => (fun k => (fun k => (csL [c0v, c1v, c2v, c3v, c4v] k).toInt8.toInt32) k) k) t6 ln (fun k => (fun k => (csL [c0v, c1v, c2v, c3v, c4v] k).toInt8.toInt32) k) zc sv h8 n0 Zn Fq8 Cq8 Vq8 Eq8 Fq6 Cq6 Vq6 Eq6 SC hzc O SV hr_sv (own_ag (1 : Int32) kk ln (by decide) hkk _)) e10 0 (by decide) (by decide) (by decide) (by decide) (g := (mkF m 119 #[.val (.int p1), .val (.int p2), .val (.int p3), .val (.int p4), .val (.int p5), .val (.int p6), .val (.int ln), .val (.int c0v), .val (.int c1v), .val (.int c2v), .val (.int c3v), .val (.int c4v), .val (.ref r6), .val (.int kk), .val (.ref r8)] [(.int kk), (.int (1 : Int32)), (.ref r6), (.ref r8)])) rfl (by rw [hml]; rfl) (lenOf pd_25 rfl) rfl (by show 2 * 0 + _ ≤ _; exact Nat.le_of_eq rfl) (hb hby at_119)
  obtain ⟨rfl, rfl, e11⟩ := hQ11
  rw [List.append_nil] at X11
  refine Go.st st11 ?_
  show Go p.tables e below PP (T11.setTop (mkF m 122 #[.val (.int p1), .val (.int p2), .val (.int p3), .val (.int p4), .val (.int p5), .val (.int p6), .val (.int ln), .val (.int c0v), .val (.int c1v), .val (.int c2v), .val (.int c3v), .val (.int c4v), .val (.ref r6), .val (.int kk), .val (.ref r8)] [(.int (1 : Int32))]))
  refine Go.st (fun t k => XS.ifNo X11.here hx rfl (hb hby at_122) rfl (XT.i0_eq_f (by decide)) k) ?_
  show Go p.tables e below PP (T11.setTop (mkF m 125 #[.val (.int p1), .val (.int p2), .val (.int p3), .val (.int p4), .val (.int p5), .val (.int p6), .val (.int ln), .val (.int c0v), .val (.int c1v), .val (.int c2v), .val (.int c3v), .val (.int c4v), .val (.ref r6), .val (.int kk), .val (.ref r8)] []))
  refine Go.st (fun t k => XS.aload X11.here hx rfl (hb hby at_125) rfl rfl k) ?_
  show Go p.tables e below PP (T11.setTop (mkF m 127 #[.val (.int p1), .val (.int p2), .val (.int p3), .val (.int p4), .val (.int p5), .val (.int p6), .val (.int ln), .val (.int c0v), .val (.int c1v), .val (.int c2v), .val (.int c3v), .val (.int c4v), .val (.ref r6), .val (.int kk), .val (.ref r8)] [(.ref r8)]))
  refine Go.st (fun t k => XS.aload X11.here hx rfl (hb hby at_127) rfl rfl k) ?_
  show Go p.tables e below PP (T11.setTop (mkF m 129 #[.val (.int p1), .val (.int p2), .val (.int p3), .val (.int p4), .val (.int p5), .val (.int p6), .val (.int ln), .val (.int c0v), .val (.int c1v), .val (.int c2v), .val (.int c3v), .val (.int c4v), .val (.ref r6), .val (.int kk), .val (.ref r8)] [(.ref r6), (.ref r8)]))
  refine Go.st (fun t k => XS.iconst X11.here hx rfl (hb hby at_129) k) ?_
  show Go p.tables e below PP (T11.setTop (mkF m 130 #[.val (.int p1), .val (.int p2), .val (.int p3), .val (.int p4), .val (.int p5), .val (.int p6), .val (.int ln), .val (.int c0v), .val (.int c1v), .val (.int c2v), .val (.int c3v), .val (.int c4v), .val (.ref r6), .val (.int kk), .val (.ref r8)] [(.int (2 : Int32)), (.ref r6), (.ref r8)]))
  refine Go.st (fun t k => XS.iload X11.here hx rfl (hb hby at_130) rfl k) ?_
  show Go p.tables e below PP (T11.setTop (mkF m 132 #[.val (.int p1), .val (.int p2), .val (.int p3), .val (.int p4), .val (.int p5), .val (.int p6), .val (.int ln), .val (.int c0v), .val (.int c1v), .val (.int c2v), .val (.int c3v), .val (.int c4v), .val (.ref r6), .val (.int kk), .val (.ref r8)] [(.int kk), (.int (2 : Int32)), (.ref r6), (.ref r8)]))
  obtain ⟨v12, T12, L12, X12, hQ12, st12⟩ := callSt X11 hx hZ (y := (⟨"com/example/facet_hierarchy_store/facethierarchystore/label/LanguageTagLanguagePinLaw", "agree", "(Ljava/lang/String;Ljava/lang/String;II)Z"⟩ : MethodName)) (argsL := [(.ref r8), (.ref r6), (.int (2 : Int32)), (.int kk)]) (rest := []) hown (hw _ (List.mem_of_getElem? (i := 78) rfl)) (hw _ (List.mem_of_getElem? (i := 79) rfl)) (hw _ (List.mem_of_getElem? (i := 3) rfl)) (hw _ (List.mem_of_getElem? (i := 80) rfl)) (by decide) (rm17 l Z a0 hw [] r8 r6 (2 : Int32) kk t8 kk (fun k => (fun k => (fun k => (csL [c0v, c1v, c2v, c3v, c4v] k).toInt8.toInt32) k) k) t6 ln (fun k => (fun k => (csL [c0v, c1v, c2v, c3v, c4v] k).toInt8.toInt32) k) zc sv h8 n0 Zn Fq8 Cq8 Vq8 Eq8 Fq6 Cq6 Vq6 Eq6 SC hzc O SV hr_sv (own_ag (2 : Int32) kk ln (by decide) hkk _)) e11 0 (by decide) (by decide) (by decide) (by decide) (g := (mkF m 132 #[.val (.int p1), .val (.int p2), .val (.int p3), .val (.int p4), .val (.int p5), .val (.int p6), .val (.int ln), .val (.int c0v), .val (.int c1v), .val (.int c2v), .val (.int c3v), .val (.int c4v), .val (.ref r6), .val (.int kk), .val (.ref r8)] [(.int kk), (.int (2 : Int32)), (.ref r6), (.ref r8)])) rfl (by rw [hml]; rfl) (lenOf pd_25 rfl) rfl (by show 2 * 0 + _ ≤ _; exact Nat.le_of_eq rfl) (hb hby at_132)
  obtain ⟨rfl, rfl, e12⟩ := hQ12
  rw [List.append_nil] at X12
  refine Go.st st12 ?_
  show Go p.tables e below PP (T12.setTop (mkF m 135 #[.val (.int p1), .val (.int p2), .val (.int p3), .val (.int p4), .val (.int p5), .val (.int p6), .val (.int ln), .val (.int c0v), .val (.int c1v), .val (.int c2v), .val (.int c3v), .val (.int c4v), .val (.ref r6), .val (.int kk), .val (.ref r8)] [(.int (1 : Int32))]))
  refine Go.st (fun t k => XS.ifNo X12.here hx rfl (hb hby at_135) rfl (XT.i0_eq_f (by decide)) k) ?_
  show Go p.tables e below PP (T12.setTop (mkF m 138 #[.val (.int p1), .val (.int p2), .val (.int p3), .val (.int p4), .val (.int p5), .val (.int p6), .val (.int ln), .val (.int c0v), .val (.int c1v), .val (.int c2v), .val (.int c3v), .val (.int c4v), .val (.ref r6), .val (.int kk), .val (.ref r8)] []))
  refine Go.st (fun t k => XS.aload X12.here hx rfl (hb hby at_138) rfl rfl k) ?_
  show Go p.tables e below PP (T12.setTop (mkF m 140 #[.val (.int p1), .val (.int p2), .val (.int p3), .val (.int p4), .val (.int p5), .val (.int p6), .val (.int ln), .val (.int c0v), .val (.int c1v), .val (.int c2v), .val (.int c3v), .val (.int c4v), .val (.ref r6), .val (.int kk), .val (.ref r8)] [(.ref r8)]))
  refine Go.st (fun t k => XS.aload X12.here hx rfl (hb hby at_140) rfl rfl k) ?_
  show Go p.tables e below PP (T12.setTop (mkF m 142 #[.val (.int p1), .val (.int p2), .val (.int p3), .val (.int p4), .val (.int p5), .val (.int p6), .val (.int ln), .val (.int c0v), .val (.int c1v), .val (.int c2v), .val (.int c3v), .val (.int c4v), .val (.ref r6), .val (.int kk), .val (.ref r8)] [(.ref r6), (.ref r8)]))
  refine Go.st (fun t k => XS.iconst X12.here hx rfl (hb hby at_142) k) ?_
  show Go p.tables e below PP (T12.setTop (mkF m 143 #[.val (.int p1), .val (.int p2), .val (.int p3), .val (.int p4), .val (.int p5), .val (.int p6), .val (.int ln), .val (.int c0v), .val (.int c1v), .val (.int c2v), .val (.int c3v), .val (.int c4v), .val (.ref r6), .val (.int kk), .val (.ref r8)] [(.int (3 : Int32)), (.ref r6), (.ref r8)]))
  refine Go.st (fun t k => XS.iload X12.here hx rfl (hb hby at_143) rfl k) ?_
  show Go p.tables e below PP (T12.setTop (mkF m 145 #[.val (.int p1), .val (.int p2), .val (.int p3), .val (.int p4), .val (.int p5), .val (.int p6), .val (.int ln), .val (.int c0v), .val (.int c1v), .val (.int c2v), .val (.int c3v), .val (.int c4v), .val (.ref r6), .val (.int kk), .val (.ref r8)] [(.int kk), (.int (3 : Int32)), (.ref r6), (.ref r8)]))
  obtain ⟨v13, T13, L13, X13, hQ13, st13⟩ := callSt X12 hx hZ (y := (⟨"com/example/facet_hierarchy_store/facethierarchystore/label/LanguageTagLanguagePinLaw", "agree", "(Ljava/lang/String;Ljava/lang/String;II)Z"⟩ : MethodName)) (argsL := [(.ref r8), (.ref r6), (.int (3 : Int32)), (.int kk)]) (rest := []) hown (hw _ (List.mem_of_getElem? (i := 78) rfl)) (hw _ (List.mem_of_getElem? (i := 79) rfl)) (hw _ (List.mem_of_getElem? (i := 3) rfl)) (hw _ (List.mem_of_getElem? (i := 80) rfl)) (by decide) (rm17 l Z a0 hw [] r8 r6 (3 : Int32) kk t8 kk (fun k => (fun k => (fun k => (csL [c0v, c1v, c2v, c3v, c4v] k).toInt8.toInt32) k) k) t6 ln (fun k => (fun k => (csL [c0v, c1v, c2v, c3v, c4v] k).toInt8.toInt32) k) zc sv h8 n0 Zn Fq8 Cq8 Vq8 Eq8 Fq6 Cq6 Vq6 Eq6 SC hzc O SV hr_sv (own_ag (3 : Int32) kk ln (by decide) hkk _)) e12 0 (by decide) (by decide) (by decide) (by decide) (g := (mkF m 145 #[.val (.int p1), .val (.int p2), .val (.int p3), .val (.int p4), .val (.int p5), .val (.int p6), .val (.int ln), .val (.int c0v), .val (.int c1v), .val (.int c2v), .val (.int c3v), .val (.int c4v), .val (.ref r6), .val (.int kk), .val (.ref r8)] [(.int kk), (.int (3 : Int32)), (.ref r6), (.ref r8)])) rfl (by rw [hml]; rfl) (lenOf pd_25 rfl) rfl (by show 2 * 0 + _ ≤ _; exact Nat.le_of_eq rfl) (hb hby at_145)
  obtain ⟨rfl, rfl, e13⟩ := hQ13
  rw [List.append_nil] at X13
  refine Go.st st13 ?_
  show Go p.tables e below PP (T13.setTop (mkF m 148 #[.val (.int p1), .val (.int p2), .val (.int p3), .val (.int p4), .val (.int p5), .val (.int p6), .val (.int ln), .val (.int c0v), .val (.int c1v), .val (.int c2v), .val (.int c3v), .val (.int c4v), .val (.ref r6), .val (.int kk), .val (.ref r8)] [(.int (1 : Int32))]))
  refine Go.st (fun t k => XS.ifNo X13.here hx rfl (hb hby at_148) rfl (XT.i0_eq_f (by decide)) k) ?_
  show Go p.tables e below PP (T13.setTop (mkF m 151 #[.val (.int p1), .val (.int p2), .val (.int p3), .val (.int p4), .val (.int p5), .val (.int p6), .val (.int ln), .val (.int c0v), .val (.int c1v), .val (.int c2v), .val (.int c3v), .val (.int c4v), .val (.ref r6), .val (.int kk), .val (.ref r8)] []))
  refine Go.st (fun t k => XS.aload X13.here hx rfl (hb hby at_151) rfl rfl k) ?_
  show Go p.tables e below PP (T13.setTop (mkF m 153 #[.val (.int p1), .val (.int p2), .val (.int p3), .val (.int p4), .val (.int p5), .val (.int p6), .val (.int ln), .val (.int c0v), .val (.int c1v), .val (.int c2v), .val (.int c3v), .val (.int c4v), .val (.ref r6), .val (.int kk), .val (.ref r8)] [(.ref r8)]))
  refine Go.st (fun t k => XS.aload X13.here hx rfl (hb hby at_153) rfl rfl k) ?_
  show Go p.tables e below PP (T13.setTop (mkF m 155 #[.val (.int p1), .val (.int p2), .val (.int p3), .val (.int p4), .val (.int p5), .val (.int p6), .val (.int ln), .val (.int c0v), .val (.int c1v), .val (.int c2v), .val (.int c3v), .val (.int c4v), .val (.ref r6), .val (.int kk), .val (.ref r8)] [(.ref r6), (.ref r8)]))
  refine Go.st (fun t k => XS.iconst X13.here hx rfl (hb hby at_155) k) ?_
  show Go p.tables e below PP (T13.setTop (mkF m 156 #[.val (.int p1), .val (.int p2), .val (.int p3), .val (.int p4), .val (.int p5), .val (.int p6), .val (.int ln), .val (.int c0v), .val (.int c1v), .val (.int c2v), .val (.int c3v), .val (.int c4v), .val (.ref r6), .val (.int kk), .val (.ref r8)] [(.int (4 : Int32)), (.ref r6), (.ref r8)]))
  refine Go.st (fun t k => XS.iload X13.here hx rfl (hb hby at_156) rfl k) ?_
  show Go p.tables e below PP (T13.setTop (mkF m 158 #[.val (.int p1), .val (.int p2), .val (.int p3), .val (.int p4), .val (.int p5), .val (.int p6), .val (.int ln), .val (.int c0v), .val (.int c1v), .val (.int c2v), .val (.int c3v), .val (.int c4v), .val (.ref r6), .val (.int kk), .val (.ref r8)] [(.int kk), (.int (4 : Int32)), (.ref r6), (.ref r8)]))
  obtain ⟨v14, T14, L14, X14, hQ14, st14⟩ := callSt X13 hx hZ (y := (⟨"com/example/facet_hierarchy_store/facethierarchystore/label/LanguageTagLanguagePinLaw", "agree", "(Ljava/lang/String;Ljava/lang/String;II)Z"⟩ : MethodName)) (argsL := [(.ref r8), (.ref r6), (.int (4 : Int32)), (.int kk)]) (rest := []) hown (hw _ (List.mem_of_getElem? (i := 78) rfl)) (hw _ (List.mem_of_getElem? (i := 79) rfl)) (hw _ (List.mem_of_getElem? (i := 3) rfl)) (hw _ (List.mem_of_getElem? (i := 80) rfl)) (by decide) (rm17 l Z a0 hw [] r8 r6 (4 : Int32) kk t8 kk (fun k => (fun k => (fun k => (csL [c0v, c1v, c2v, c3v, c4v] k).toInt8.toInt32) k) k) t6 ln (fun k => (fun k => (csL [c0v, c1v, c2v, c3v, c4v] k).toInt8.toInt32) k) zc sv h8 n0 Zn Fq8 Cq8 Vq8 Eq8 Fq6 Cq6 Vq6 Eq6 SC hzc O SV hr_sv (own_ag (4 : Int32) kk ln (by decide) hkk _)) e13 0 (by decide) (by decide) (by decide) (by decide) (g := (mkF m 158 #[.val (.int p1), .val (.int p2), .val (.int p3), .val (.int p4), .val (.int p5), .val (.int p6), .val (.int ln), .val (.int c0v), .val (.int c1v), .val (.int c2v), .val (.int c3v), .val (.int c4v), .val (.ref r6), .val (.int kk), .val (.ref r8)] [(.int kk), (.int (4 : Int32)), (.ref r6), (.ref r8)])) rfl (by rw [hml]; rfl) (lenOf pd_25 rfl) rfl (by show 2 * 0 + _ ≤ _; exact Nat.le_of_eq rfl) (hb hby at_158)
  obtain ⟨rfl, rfl, e14⟩ := hQ14
  rw [List.append_nil] at X14
  refine Go.st st14 ?_
  show Go p.tables e below PP (T14.setTop (mkF m 161 #[.val (.int p1), .val (.int p2), .val (.int p3), .val (.int p4), .val (.int p5), .val (.int p6), .val (.int ln), .val (.int c0v), .val (.int c1v), .val (.int c2v), .val (.int c3v), .val (.int c4v), .val (.ref r6), .val (.int kk), .val (.ref r8)] [(.int (1 : Int32))]))
  refine Go.st (fun t k => XS.ifNo X14.here hx rfl (hb hby at_161) rfl (XT.i0_eq_f (by decide)) k) ?_
  show Go p.tables e below PP (T14.setTop (mkF m 164 #[.val (.int p1), .val (.int p2), .val (.int p3), .val (.int p4), .val (.int p5), .val (.int p6), .val (.int ln), .val (.int c0v), .val (.int c1v), .val (.int c2v), .val (.int c3v), .val (.int c4v), .val (.ref r6), .val (.int kk), .val (.ref r8)] []))
  refine Go.st (fun t k => XS.iconst X14.here hx rfl (hb hby at_164) k) ?_
  show Go p.tables e below PP (T14.setTop (mkF m 165 #[.val (.int p1), .val (.int p2), .val (.int p3), .val (.int p4), .val (.int p5), .val (.int p6), .val (.int ln), .val (.int c0v), .val (.int c1v), .val (.int c2v), .val (.int c3v), .val (.int c4v), .val (.ref r6), .val (.int kk), .val (.ref r8)] [(.int (1 : Int32))]))
  refine Go.st (fun t k => XS.goto X14.here hx rfl (pc0 := 165) (pc' := 169) rfl (hb hby at_165) (by decide) (by decide) k) ?_
  show Go p.tables e below PP (T14.setTop (mkF m 169 #[.val (.int p1), .val (.int p2), .val (.int p3), .val (.int p4), .val (.int p5), .val (.int p6), .val (.int ln), .val (.int c0v), .val (.int c1v), .val (.int c2v), .val (.int c3v), .val (.int c4v), .val (.ref r6), .val (.int kk), .val (.ref r8)] [(.int (1 : Int32))]))
  rw [hPP]
  refine endNW X14 hx hlk hZ hS e14 hk hEL CH CR (t := .boolean) hret (by simp) (hb hby at_169) (w := (1 : Int32)) (rfl) ?_ (by decide) (by decide)
  show Q0 Z p1 p2 p3 p4 p5 p6 zc sv h0 n0 (some (.int (1 : Int32))) T14.heap _
  rw [e14]
  exact ⟨rfl, N8⟩
set_option maxRecDepth 65536 in
set_option maxHeartbeats 40000000 in
theorem comes_1 {Post : Tables → Env → Array Value → State → Outcome → State → Prop} (hpost : ∀ tb e args s v u, (limb_1_1.after args s (.returned v) u = true ∧ limb_1_2.after args s (.returned v) u = true ∧ True) → ReturnedEndW s (.returned v) u (Jvm.fieldLocs frame_1_writes args s ++ Jvm.arrayLocs frame_1_arrays args s ++ Jvm.staticLocs frame_1_statics s) 24 2176 → Post tb e args s (.returned v) u) :
    ArmFor flags0 classFile x code maxLocals ret World_1 tables_1 room_1 Calls_1 rest_1 Pre_1 Post := by
  intro l hfl _ _ p e ha hc hk s m args below hf hA hF happ hP
  obtain ⟨hcalls, hrest, hpre⟩ := hP
  obtain ⟨-, -, -, hnamed, -, -, -, hat⟩ := (Spec.applies_iff hf).mp happ
  obtain ⟨hg, hn⟩ := and_e (Cond.before_iff.mp (show (Jvm.Cond.and given_1 narrow_1).before args s = true from hpre))
  obtain ⟨g1, g2⟩ := and_e hg
  obtain ⟨g3, g4⟩ := and_e g2
  obtain ⟨g5, g6⟩ := and_e g4
  obtain ⟨g7, g8⟩ := and_e g6
  obtain ⟨g9, g10⟩ := and_e g8
  obtain ⟨g11, g12⟩ := and_e g10
  obtain ⟨w0, w1, w2, w3, w4, w5, rfl⟩ : ∃ w0 w1 w2 w3 w4 w5 : Value, args = #[w0, w1, w2, w3, w4, w5] := by
    have hs : args.size = 6 := by simpa [Cond.value, given_1] using g1
    obtain ⟨L⟩ := args
    match L, hs with
    | [w0, w1, w2, w3, w4, w5], _ => exact ⟨w0, w1, w2, w3, w4, w5, rfl⟩
  have hw := fun d (hd : d ∈ tables_1) => atoms_spec (ws := Jvm.Cond.code x code maxLocals ret :: tables_1) hat d (List.mem_cons_of_mem _ hd)
  have hfit : Fit s := fun {y c} hc i hi => by
    obtain ⟨ha, rfl⟩ := Array.getElem?_eq_some_iff.mp hc
    have q := List.all_eq_true.mp ((Array.all_eq_true_iff_forall_mem.mp hF) _ (Array.getElem_mem ha)) i (List.mem_range.mpr hi)
    simpa [Array.getElem?_eq_getElem hi] using q
  obtain ⟨hsets, hown0⟩ := atoms_of _ (rest_1_c_eq ▸ (show rest_1_c.before _ s = true from hrest))
  have hr0 := Cond.before_iff.mp hown0
  obtain ⟨i0, ei0⟩ := is_v g3
  obtain rfl : w0 = (.int i0) := Option.some.inj ei0
  obtain ⟨i1, ei1⟩ := is_v g5
  obtain rfl : w1 = (.int i1) := Option.some.inj ei1
  obtain ⟨i2, ei2⟩ := is_v g7
  obtain rfl : w2 = (.int i2) := Option.some.inj ei2
  obtain ⟨i3, ei3⟩ := is_v g9
  obtain rfl : w3 = (.int i3) := Option.some.inj ei3
  obtain ⟨i4, ei4⟩ := is_v g11
  obtain rfl : w4 = (.int i4) := Option.some.inj ei4
  obtain ⟨i5, ei5⟩ := is_v g12
  obtain rfl : w5 = (.int i5) := Option.some.inj ei5
  have hEL : EW s _ consts_1 := (EW.cons (hw _ (List.mem_of_getElem? (i := 22) rfl)) (by decide) (EW.cons (hw _ (List.mem_of_getElem? (i := 143) rfl)) (by decide) EW.nil))
  have CH : CHv s consts_1 s.vm s.heap := CHv.start hEL (fun p hp => hcalls.1 p hp) (hsets _ (List.mem_of_getElem? (i := 2) rfl)) (hw _ (List.mem_of_getElem? (i := 23) rfl)) (hw _ (List.mem_of_getElem? (i := 9) rfl))
  obtain ⟨zc, evC⟩ := is_v (Cond.before_iff.mp (hsets _ (List.mem_of_getElem? (i := 1) rfl)))
  have SC := Sta.start evC (Or.inl (hsets _ (List.mem_of_getElem? (i := 0) rfl)))
  have hzc : ¬ zc = (0 : Int32) := gotF (Cond.eq_ints evC rfl) (not_v (Cond.before_iff.mp (hsets _ (List.mem_of_getElem? (i := 2) rfl))))
  have O := Old.start s
  obtain ⟨sv, evV, hr_sv⟩ := isR_v (Cond.before_iff.mp (hsets _ (List.mem_of_getElem? (i := 8) rfl)))
  have SV := Sta.start evV (Or.inl (hsets _ (List.mem_of_getElem? (i := 7) rfl)))
  obtain ⟨n, o, h1, h2, h3, _, L, rfl, ⟨rfl, N⟩, hCR, hq⟩ := rm0 l s _ hw tables_1 i0 i1 i2 i3 i4 i5 zc sv s.heap s.heap.size (Nat.le_refl _) hEL SC hzc O SV hr_sv p e ha hc hk s m _ below hf ((Spec.applies_iff_loose hf).mp happ).1 ⟨rfl, State.Warmed39.refl s, rfl, CH⟩ trivial
  refine ⟨n, _, h1, h2, h3, hpost _ _ _ _ _ _ ⟨Cond.after_iff.mpr rfl, Cond.after_iff.mpr (eq_i res_at (Term.int_eval (1)) rfl), trivial⟩ ⟨hq.1, hq.2.1, hq.2.2.1, (hq.2.2.2.sift fun y hy => Or.inr (N y hy)).mono (by decide) (by decide)⟩⟩
theorem main_1_1 : Claimed_1_1 := comes_1 fun _ _ _ _ _ _ h hF => ⟨h.1, hF⟩
theorem main_1_2 : Claimed_1_2 := comes_1 fun _ _ _ _ _ _ h hF => ⟨h.2.1, hF⟩
end Jvm.Pilot.@@N@@
namespace Jvm.Pilot.@@N@@
open Jvm Jvm.ClassFile Sem Op Lib Jvm.Free Jvm.Stand Jvm.Pilot.@@N@@.Jvm.D
/-! MADE BY PROGRAM (witnessworld.py) out of the Statement's table words and the real class files: 23 classes; the members and pool entries that the words name. The judged class is class 1, her method 5. -/
namespace start1
open Jvm.ClassFile
def u (s : String) : CpInfo := .utf8 (stringToUtf16 s)
/-- a pool by its gaps: so many unusable entries, then the entry; so many at the end -/
def gap : Nat → List CpInfo → List CpInfo
  | 0, r => r
  | n + 1, r => .unusable :: gap n r
def poolList (es : List (Nat × CpInfo)) (last : Nat) : List CpInfo := es.foldr (fun e r => gap e.1 (e.2 :: r)) (gap last [])
def pool (es : List (Nat × CpInfo)) (last : Nat) : Array CpInfo := ⟨poolList es last⟩
def fileOf (pool : Array CpInfo) (this : Nat) (attrs : Array Attribute := #[]) (ms : Array MethodInfo := #[]) (fl : Nat := 33) (sup : Nat := 0) (ifs : Array Nat := #[]) (fds : Array FieldInfo := #[]) : ClassFile where
  minorVersion := 0
  majorVersion := 65
  constantPool := pool
  accessFlags := fl
  thisClass := this
  superClass := sup
  interfaces := ifs
  fields := fds
  methods := ms
  attributes := attrs
def plain (name : String) (sup : Option ClassId) : Class where
  name := name
  kind := .ordinary
  loader := none
  accessFlags := 33
  super := sup
  interfaces := #[]
  cf := none
  fields := #[]
  methods := #[]
  instanceTypes := #[]
  staticTypes := #[]
  resolved := #[]
  callSites := []
  init := .initialized
  statics := none
  mirror := none

def pool0 : Array CpInfo := pool [(5, u "<init>"), (0, u "()V"), (1, .class_ 10), (1, u "java/lang/Object")] 113

def k0c0 : Code := { maxStack := 0, maxLocals := 1, code := object_method_1_code, exceptionTable := #[], attributes := #[] }
def k0m0 : Method := { name := "<init>", desc := "()V", sig := { parameters := [], returnType := none }, accessFlags := 1, code := some k0c0 }
/-- java/lang/Object -/
def k0 : Class := { plain "java/lang/Object" none with
  accessFlags := 33
  interfaces := #[]
  cf := some (fileOf pool0 8 #[] #[{ accessFlags := 1, nameIndex := 5, descriptorIndex := 6, attributes := #[] }] 33 0 #[] #[])
  fields := #[]
  methods := #[k0m0]
  instanceTypes := #[]
  staticTypes := #[]
  resolved := Array.replicate 124 none
  statics := none }

def pool1 : Array CpInfo := pool [(2, .class_ 4), (1, u "java/lang/Object"), (0, u "<init>"), (0, u "()V"), (0, .class_ 8), (0, u "java/lang/String"), (0, .methodref 7 10), (0, .nameAndType 5 11), (0, u "([C)V"), (0, .methodref 7 13), (0, .nameAndType 14 15), (0, u "charAt"), (0, u "(I)C"), (0, .integer 2147483647), (0, .methodref 18 19), (0, .class_ 20), (0, .nameAndType 21 15), (0, u "com/example/facet_hierarchy_store/facethierarchystore/label/LanguageTagLanguagePinLaw"), (0, u "draw"), (0, .methodref 18 23), (0, .nameAndType 24 25), (0, u "make"), (0, u "(ICCCCC)Ljava/lang/String;"), (0, .methodref 18 27), (0, .nameAndType 28 29), (0, u "firstDash"), (0, u "(ICCCCC)I"), (0, .methodref 31 32), (0, .class_ 33), (0, .nameAndType 34 35), (0, u "com/example/facet_hierarchy_store/facethierarchystore/label/LanguageTag"), (0, u "language"), (0, u "(Ljava/lang/String;)Ljava/lang/String;"), (0, .methodref 7 37), (0, .nameAndType 38 39), (0, u "length"), (0, u "()I"), (0, .methodref 18 41), (0, .nameAndType 42 43), (0, u "agree"), (0, u "(Ljava/lang/String;Ljava/lang/String;II)Z"), (3, u "law"), (0, u "(IIIIII)Z")] 2

def k1m0 : Method := { name := "<init>", desc := "()V", sig := { parameters := [], returnType := none }, accessFlags := 2, code := none }
def k1c1 : Code := { maxStack := 2, maxLocals := 1, code := method_2_code, exceptionTable := #[], attributes := #[] }
def k1m1 : Method := { name := "draw", desc := "(I)C", sig := { parameters := [.int], returnType := some .char }, accessFlags := 10, code := some k1c1 }
def k1c2 : Code := { maxStack := 6, maxLocals := 6, code := method_3_code, exceptionTable := #[], attributes := #[] }
def k1m2 : Method := { name := "make", desc := "(ICCCCC)Ljava/lang/String;", sig := { parameters := [.int, .char, .char, .char, .char, .char], returnType := some (.object "java/lang/String") }, accessFlags := 10, code := some k1c2 }
def k1c3 : Code := { maxStack := 2, maxLocals := 6, code := method_4_code, exceptionTable := #[], attributes := #[] }
def k1m3 : Method := { name := "firstDash", desc := "(ICCCCC)I", sig := { parameters := [.int, .char, .char, .char, .char, .char], returnType := some .int }, accessFlags := 10, code := some k1c3 }
def k1c4 : Code := { maxStack := 3, maxLocals := 4, code := method_5_code, exceptionTable := #[], attributes := #[] }
def k1m4 : Method := { name := "agree", desc := "(Ljava/lang/String;Ljava/lang/String;II)Z", sig := { parameters := [(.object "java/lang/String"), (.object "java/lang/String"), .int, .int], returnType := some .boolean }, accessFlags := 10, code := some k1c4 }
def k1c5 : Code := { maxStack := 6, maxLocals := 15, code := code, exceptionTable := #[], attributes := #[] }
def k1m5 : Method := { name := "law", desc := "(IIIIII)Z", sig := { parameters := [.int, .int, .int, .int, .int, .int], returnType := some .boolean }, accessFlags := 9, code := some k1c5 }
/-- com/example/facet_hierarchy_store/facethierarchystore/label/LanguageTagLanguagePinLaw -/
def k1 : Class := { plain "com/example/facet_hierarchy_store/facethierarchystore/label/LanguageTagLanguagePinLaw" (some 0) with
  accessFlags := 49
  interfaces := #[]
  cf := some (fileOf pool1 18 #[] #[{ accessFlags := 2, nameIndex := 5, descriptorIndex := 6, attributes := #[] }, { accessFlags := 10, nameIndex := 21, descriptorIndex := 15, attributes := #[] }, { accessFlags := 10, nameIndex := 24, descriptorIndex := 25, attributes := #[] }, { accessFlags := 10, nameIndex := 28, descriptorIndex := 29, attributes := #[] }, { accessFlags := 10, nameIndex := 42, descriptorIndex := 43, attributes := #[] }, { accessFlags := 9, nameIndex := 47, descriptorIndex := 48, attributes := #[] }] 49 2 #[] #[])
  fields := #[]
  methods := #[k1m0, k1m1, k1m2, k1m3, k1m4, k1m5]
  instanceTypes := #[]
  staticTypes := #[]
  resolved := Array.replicate 51 none
  statics := none }

def pool2 : Array CpInfo := pool [(1, .class_ 2), (0, u "java/io/Serializable"), (0, .class_ 4), (0, u "java/lang/Object")] 2

/-- java/io/Serializable -/
def k2 : Class := { plain "java/io/Serializable" (some 0) with
  accessFlags := 1537
  interfaces := #[]
  cf := some (fileOf pool2 1 #[] #[] 1537 3 #[] #[])
  fields := #[]
  methods := #[]
  instanceTypes := #[]
  staticTypes := #[]
  resolved := Array.replicate 7 none
  statics := none }

def pool3 : Array CpInfo := pool [(1, .class_ 2), (0, u "java/lang/Comparable"), (0, .class_ 4), (0, u "java/lang/Object")] 7

/-- java/lang/Comparable -/
def k3 : Class := { plain "java/lang/Comparable" (some 0) with
  accessFlags := 1537
  interfaces := #[]
  cf := some (fileOf pool3 1 #[] #[] 1537 3 #[] #[])
  fields := #[]
  methods := #[]
  instanceTypes := #[]
  staticTypes := #[]
  resolved := Array.replicate 12 none
  statics := none }

def pool4 : Array CpInfo := pool [(2, .class_ 4), (1, u "java/lang/CharSequence"), (42, .class_ 48), (0, u "java/lang/CharSequence$1CodePointIterator"), (10, .class_ 60), (0, u "java/lang/CharSequence$1CharIterator"), (5, .class_ 67), (0, u "java/lang/Object")] 63

/-- java/lang/CharSequence -/
def k4 : Class := { plain "java/lang/CharSequence" (some 0) with
  accessFlags := 1537
  interfaces := #[]
  cf := some (fileOf pool4 2 #[.nestMembers #[47, 59]] #[] 1537 66 #[] #[])
  fields := #[]
  methods := #[]
  instanceTypes := #[]
  staticTypes := #[]
  resolved := Array.replicate 131 none
  statics := none }

def pool5 : Array CpInfo := pool [(1, .class_ 2), (0, u "java/lang/constant/Constable"), (0, .class_ 4), (0, u "java/lang/Object")] 6

/-- java/lang/constant/Constable -/
def k5 : Class := { plain "java/lang/constant/Constable" (some 0) with
  accessFlags := 1537
  interfaces := #[]
  cf := some (fileOf pool5 1 #[] #[] 1537 3 #[] #[])
  fields := #[]
  methods := #[]
  instanceTypes := #[]
  staticTypes := #[]
  resolved := Array.replicate 11 none
  statics := none }

def pool6 : Array CpInfo := pool [(1, .class_ 2), (0, u "java/lang/constant/ConstantDesc"), (0, .class_ 4), (0, u "java/lang/Object")] 32

/-- java/lang/constant/ConstantDesc -/
def k6 : Class := { plain "java/lang/constant/ConstantDesc" (some 0) with
  accessFlags := 1537
  interfaces := #[]
  cf := some (fileOf pool6 1 #[] #[] 1537 3 #[] #[])
  fields := #[]
  methods := #[]
  instanceTypes := #[]
  staticTypes := #[]
  resolved := Array.replicate 37 none
  statics := none }

def pool7 : Array CpInfo := pool [(1, .methodref 2 3), (0, .class_ 4), (0, .nameAndType 5 6), (0, u "java/lang/Object"), (0, u "<init>"), (0, u "()V"), (0, .string 8), (0, u ""), (0, .fieldref 10 11), (0, .class_ 12), (0, .nameAndType 13 14), (0, u "java/lang/String"), (0, u "value"), (0, u "[B"), (0, .fieldref 10 16), (0, .nameAndType 17 18), (0, u "coder"), (0, u "B"), (2, u "hash"), (0, u "I"), (2, u "hashIsZero"), (0, u "Z"), (0, .methodref 10 28), (0, .nameAndType 5 29), (0, u "([CIILjava/lang/Void;)V"), (8, .fieldref 10 39), (0, .nameAndType 40 26), (0, u "COMPACT_STRINGS"), (1, .class_ 44), (1, u "java/lang/StringUTF16"), (0, u "compress"), (1, .methodref 42 48), (0, .nameAndType 49 50), (0, u "coderFromArrayLen"), (0, u "([BI)B"), (56, .class_ 109), (1, u "java/lang/StringLatin1"), (32, u "()Z"), (34, .methodref 42 178), (0, .nameAndType 45 179), (0, u "([CII)[B"), (31, u "([BB)V"), (122, u "()I"), (0, .methodref 10 336), (0, .nameAndType 17 337), (0, u "()B"), (25, u "([BI)C"), (27, u "(II)V"), (35, u "(I)C"), (64, .methodref 10 493), (0, .nameAndType 494 142), (0, u "isLatin1"), (0, .methodref 107 496), (0, .nameAndType 497 363), (0, u "charAt"), (3, u "checkIndex"), (3, .methodref 10 506), (0, .nameAndType 507 334), (0, u "length"), (5, u "checkFromToIndex"), (7, .methodref 10 522), (0, .nameAndType 523 524), (0, u "checkBoundsBeginEnd"), (0, u "(III)V"), (50, .class_ 576), (0, u "java/lang/CharSequence"), (22, u "CASE_INSENSITIVE_ORDER"), (0, u "Ljava/util/Comparator;"), (32, .methodref 10 634), (0, .nameAndType 635 636), (0, u "indexOf"), (0, u "(II)I"), (0, .methodref 107 638), (0, .nameAndType 635 639), (0, u "([BIII)I"), (43, u "substring"), (0, u "(II)Ljava/lang/String;"), (0, .methodref 107 686), (0, .nameAndType 687 688), (0, u "newString"), (0, u "([BII)Ljava/lang/String;"), (76, u "(I)I"), (244, u "([C)V"), (42, .fieldref 1054 1055), (0, .class_ 1056), (0, .nameAndType 1057 1058), (0, u "jdk/internal/util/Preconditions"), (0, u "SIOOBE_FORMATTER"), (0, u "Ljava/util/function/BiFunction;"), (0, .methodref 1054 1060), (0, .nameAndType 501 1061), (0, u "(IILjava/util/function/BiFunction;)I"), (0, .methodref 1054 1063), (0, .nameAndType 513 1064), (0, u "(IIILjava/util/function/BiFunction;)I"), (36, u "serialPersistentFields"), (0, u "[Ljava/io/ObjectStreamField;"), (0, .class_ 1104), (0, u "java/lang/String$CaseInsensitiveComparator"), (1, .class_ 1107), (0, u "java/io/Serializable"), (0, .class_ 1109), (0, u "java/lang/Comparable"), (0, .class_ 1111), (0, u "java/lang/constant/Constable"), (0, .class_ 1113), (0, u "java/lang/constant/ConstantDesc"), (2, u "serialVersionUID"), (0, u "J"), (3, u "REPL"), (0, u "C"), (2, u "LATIN1"), (1, u "UTF16")] 323

def k7m0 : Method := { name := "<init>", desc := "()V", sig := { parameters := [], returnType := none }, accessFlags := 1, code := none }
def k7c1 : Code := { maxStack := 5, maxLocals := 2, code := jdk_42_method_3_code, exceptionTable := #[], attributes := #[] }
def k7m1 : Method := { name := "<init>", desc := "([C)V", sig := { parameters := [(.array .char)], returnType := none }, accessFlags := 1, code := some k7c1 }
def k7c2 : Code := { maxStack := 2, maxLocals := 1, code := jdk_42_method_54_code, exceptionTable := #[], attributes := #[] }
def k7m2 : Method := { name := "length", desc := "()I", sig := { parameters := [], returnType := some .int }, accessFlags := 1, code := some k7c2 }
def k7c3 : Code := { maxStack := 2, maxLocals := 2, code := jdk_42_method_56_code, exceptionTable := #[], attributes := #[] }
def k7m3 : Method := { name := "charAt", desc := "(I)C", sig := { parameters := [.int], returnType := some .char }, accessFlags := 1, code := some k7c3 }
def k7c4 : Code := { maxStack := 3, maxLocals := 2, code := jdk_42_method_79_code, exceptionTable := #[], attributes := #[] }
def k7m4 : Method := { name := "indexOf", desc := "(I)I", sig := { parameters := [.int], returnType := some .int }, accessFlags := 1, code := some k7c4 }
def k7c5 : Code := { maxStack := 4, maxLocals := 3, code := jdk_42_method_80_code, exceptionTable := #[], attributes := #[] }
def k7m5 : Method := { name := "indexOf", desc := "(II)I", sig := { parameters := [.int, .int], returnType := some .int }, accessFlags := 1, code := some k7c5 }
def k7c6 : Code := { maxStack := 3, maxLocals := 5, code := jdk_42_method_92_code, exceptionTable := #[], attributes := #[] }
def k7m6 : Method := { name := "substring", desc := "(II)Ljava/lang/String;", sig := { parameters := [.int, .int], returnType := some (.object "java/lang/String") }, accessFlags := 1, code := some k7c6 }
def k7c7 : Code := { maxStack := 4, maxLocals := 6, code := jdk_42_method_149_code, exceptionTable := #[], attributes := #[] }
def k7m7 : Method := { name := "<init>", desc := "([CIILjava/lang/Void;)V", sig := { parameters := [(.array .char), .int, .int, (.object "java/lang/Void")], returnType := none }, accessFlags := 2, code := some k7c7 }
def k7c8 : Code := { maxStack := 2, maxLocals := 3, code := jdk_42_method_151_code, exceptionTable := #[], attributes := #[] }
def k7m8 : Method := { name := "<init>", desc := "([BB)V", sig := { parameters := [(.array .byte), .byte], returnType := none }, accessFlags := 0, code := some k7c8 }
def k7c9 : Code := { maxStack := 1, maxLocals := 1, code := jdk_42_method_152_code, exceptionTable := #[], attributes := #[] }
def k7m9 : Method := { name := "coder", desc := "()B", sig := { parameters := [], returnType := some .byte }, accessFlags := 0, code := some k7c9 }
def k7c10 : Code := { maxStack := 1, maxLocals := 1, code := jdk_42_method_154_code, exceptionTable := #[], attributes := #[] }
def k7m10 : Method := { name := "isLatin1", desc := "()Z", sig := { parameters := [], returnType := some .boolean }, accessFlags := 0, code := some k7c10 }
def k7c11 : Code := { maxStack := 3, maxLocals := 2, code := jdk_42_method_155_code, exceptionTable := #[], attributes := #[] }
def k7m11 : Method := { name := "checkIndex", desc := "(II)V", sig := { parameters := [.int, .int], returnType := none }, accessFlags := 8, code := some k7c11 }
def k7c12 : Code := { maxStack := 4, maxLocals := 3, code := jdk_42_method_158_code, exceptionTable := #[], attributes := #[] }
def k7m12 : Method := { name := "checkBoundsBeginEnd", desc := "(III)V", sig := { parameters := [.int, .int, .int], returnType := none }, accessFlags := 8, code := some k7c12 }
/-- java/lang/String -/
def k7 : Class := { plain "java/lang/String" (some 0) with
  accessFlags := 49
  interfaces := #[2, 3, 4, 5, 6]
  cf := some (fileOf pool7 10 #[.nestMembers #[1103]] #[{ accessFlags := 1, nameIndex := 5, descriptorIndex := 6, attributes := #[] }, { accessFlags := 1, nameIndex := 5, descriptorIndex := 1010, attributes := #[] }, { accessFlags := 1, nameIndex := 507, descriptorIndex := 334, attributes := #[] }, { accessFlags := 1, nameIndex := 497, descriptorIndex := 427, attributes := #[] }, { accessFlags := 1, nameIndex := 635, descriptorIndex := 765, attributes := #[] }, { accessFlags := 1, nameIndex := 635, descriptorIndex := 636, attributes := #[] }, { accessFlags := 1, nameIndex := 683, descriptorIndex := 684, attributes := #[] }, { accessFlags := 2, nameIndex := 5, descriptorIndex := 29, attributes := #[] }, { accessFlags := 0, nameIndex := 5, descriptorIndex := 211, attributes := #[] }, { accessFlags := 0, nameIndex := 17, descriptorIndex := 337, attributes := #[] }, { accessFlags := 0, nameIndex := 494, descriptorIndex := 142, attributes := #[] }, { accessFlags := 8, nameIndex := 501, descriptorIndex := 391, attributes := #[] }, { accessFlags := 8, nameIndex := 523, descriptorIndex := 524, attributes := #[] }] 49 2 #[1106, 1108, 575, 1110, 1112] #[{ accessFlags := 18, nameIndex := 13, descriptorIndex := 14, attributes := #[] }, { accessFlags := 18, nameIndex := 17, descriptorIndex := 18, attributes := #[] }, { accessFlags := 2, nameIndex := 21, descriptorIndex := 22, attributes := #[] }, { accessFlags := 2, nameIndex := 25, descriptorIndex := 26, attributes := #[] }, { accessFlags := 26, nameIndex := 1116, descriptorIndex := 1117, attributes := #[] }, { accessFlags := 24, nameIndex := 40, descriptorIndex := 26, attributes := #[] }, { accessFlags := 26, nameIndex := 1101, descriptorIndex := 1102, attributes := #[] }, { accessFlags := 26, nameIndex := 1121, descriptorIndex := 1122, attributes := #[] }, { accessFlags := 25, nameIndex := 599, descriptorIndex := 600, attributes := #[] }, { accessFlags := 24, nameIndex := 1125, descriptorIndex := 18, attributes := #[] }, { accessFlags := 24, nameIndex := 1127, descriptorIndex := 18, attributes := #[] }])
  fields := #[{ name := "value", type := (.array .byte), accessFlags := 18, slot := 0, constantValue := 0 }, { name := "coder", type := .byte, accessFlags := 18, slot := 1, constantValue := 0 }, { name := "hash", type := .int, accessFlags := 2, slot := 2, constantValue := 0 }, { name := "hashIsZero", type := .boolean, accessFlags := 2, slot := 3, constantValue := 0 }, { name := "serialVersionUID", type := .long, accessFlags := 26, slot := 0, constantValue := 0 }, { name := "COMPACT_STRINGS", type := .boolean, accessFlags := 24, slot := 1, constantValue := 0 }, { name := "serialPersistentFields", type := (.array (.object "java/io/ObjectStreamField")), accessFlags := 26, slot := 2, constantValue := 0 }, { name := "REPL", type := .char, accessFlags := 26, slot := 3, constantValue := 0 }, { name := "CASE_INSENSITIVE_ORDER", type := (.object "java/util/Comparator"), accessFlags := 25, slot := 4, constantValue := 0 }, { name := "LATIN1", type := .byte, accessFlags := 24, slot := 5, constantValue := 0 }, { name := "UTF16", type := .byte, accessFlags := 24, slot := 6, constantValue := 0 }]
  methods := #[k7m0, k7m1, k7m2, k7m3, k7m4, k7m5, k7m6, k7m7, k7m8, k7m9, k7m10, k7m11, k7m12]
  instanceTypes := #[(.array .byte), .byte, .int, .boolean]
  staticTypes := #[.long, .boolean, (.array (.object "java/io/ObjectStreamField")), .char, (.object "java/util/Comparator"), .byte, .byte]
  resolved := Array.replicate 1451 none
  statics := some 0 }

def pool8 : Array CpInfo := pool [(2, .class_ 4), (1, u "java/lang/Object"), (0, u "<init>"), (0, u "()V"), (1, .class_ 10), (1, u "com/example/facet_hierarchy_store/facethierarchystore/label/LanguageTag"), (15, .class_ 28), (1, u "java/lang/String"), (16, u "IRREGULAR"), (0, u "Ljava/util/Set;"), (83, .methodref 26 131), (0, .nameAndType 132 133), (0, u "indexOf"), (0, u "(I)I"), (0, .methodref 26 135), (0, .nameAndType 136 137), (0, u "substring"), (0, u "(II)Ljava/lang/String;"), (125, u "language"), (0, u "(Ljava/lang/String;)Ljava/lang/String;")] 51

def k8m0 : Method := { name := "<init>", desc := "()V", sig := { parameters := [], returnType := none }, accessFlags := 2, code := none }
def k8c1 : Code := { maxStack := 3, maxLocals := 2, code := prog_22_method_4_code, exceptionTable := #[], attributes := #[] }
def k8m1 : Method := { name := "language", desc := "(Ljava/lang/String;)Ljava/lang/String;", sig := { parameters := [(.object "java/lang/String")], returnType := some (.object "java/lang/String") }, accessFlags := 9, code := some k8c1 }
/-- com/example/facet_hierarchy_store/facethierarchystore/label/LanguageTag -/
def k8 : Class := { plain "com/example/facet_hierarchy_store/facethierarchystore/label/LanguageTag" (some 0) with
  accessFlags := 33
  interfaces := #[]
  cf := some (fileOf pool8 8 #[] #[{ accessFlags := 2, nameIndex := 5, descriptorIndex := 6, attributes := #[] }, { accessFlags := 9, nameIndex := 263, descriptorIndex := 264, attributes := #[] }] 33 2 #[] #[{ accessFlags := 26, nameIndex := 45, descriptorIndex := 46, attributes := #[] }])
  fields := #[{ name := "IRREGULAR", type := (.object "java/util/Set"), accessFlags := 26, slot := 0, constantValue := 0 }]
  methods := #[k8m0, k8m1]
  instanceTypes := #[]
  staticTypes := #[(.object "java/util/Set")]
  resolved := Array.replicate 316 none
  statics := none }

def pool9 : Array CpInfo := pool [(1, .class_ 2), (0, u "java/lang/String"), (1, .class_ 6), (1, u "java/lang/Object"), (0, u "<init>"), (0, u "()V"), (0, .methodref 1 10), (0, .nameAndType 11 12), (0, u "checkIndex"), (0, u "(II)V"), (1, .class_ 16), (1, u "java/lang/StringLatin1"), (21, .methodref 39 40), (0, .class_ 41), (0, .nameAndType 42 43), (0, u "java/lang/Math"), (0, u "min"), (0, u "(II)I"), (9, u "([BI)C"), (34, .methodref 14 89), (0, .nameAndType 90 91), (0, u "canEncode"), (0, u "(I)Z"), (0, .methodref 39 93), (0, .nameAndType 94 43), (0, u "max"), (0, .methodref 14 96), (0, .nameAndType 97 98), (0, u "indexOfChar"), (0, u "([BIII)I"), (2, u "indexOf"), (10, .methodref 1 113), (0, .nameAndType 7 114), (0, u "([BB)V"), (6, u "$assertionsDisabled"), (0, u "Z"), (8, .class_ 133), (1, u "java/util/Arrays"), (17, .string 152), (0, u ""), (43, u "newString"), (0, u "([BII)Ljava/lang/String;"), (23, .class_ 223), (1, u "java/lang/StringLatin1$LinesSpliterator"), (8, .methodref 131 233), (0, .nameAndType 234 235), (0, u "copyOfRange"), (0, u "([BII)[B"), (16, u "charAt"), (137, .class_ 391), (0, u "java/lang/StringLatin1$CharsSpliterator")] 3

def k9m0 : Method := { name := "<init>", desc := "()V", sig := { parameters := [], returnType := none }, accessFlags := 0, code := none }
def k9c1 : Code := { maxStack := 2, maxLocals := 2, code := jdk_43_method_2_code, exceptionTable := #[], attributes := #[] }
def k9m1 : Method := { name := "charAt", desc := "([BI)C", sig := { parameters := [(.array .byte), .int], returnType := some .char }, accessFlags := 9, code := some k9c1 }
def k9c2 : Code := { maxStack := 2, maxLocals := 1, code := jdk_43_method_4_code, exceptionTable := #[], attributes := #[] }
def k9m2 : Method := { name := "canEncode", desc := "(I)Z", sig := { parameters := [.int], returnType := some .boolean }, accessFlags := 9, code := some k9c2 }
def k9c3 : Code := { maxStack := 4, maxLocals := 4, code := jdk_43_method_22_code, exceptionTable := #[], attributes := #[] }
def k9m3 : Method := { name := "indexOf", desc := "([BIII)I", sig := { parameters := [(.array .byte), .int, .int, .int], returnType := some .int }, accessFlags := 9, code := some k9c3 }
def k9c4 : Code := { maxStack := 2, maxLocals := 6, code := jdk_43_method_23_code, exceptionTable := #[], attributes := #[] }
def k9m4 : Method := { name := "indexOfChar", desc := "([BIII)I", sig := { parameters := [(.array .byte), .int, .int, .int], returnType := some .int }, accessFlags := 10, code := some k9c4 }
def k9c5 : Code := { maxStack := 6, maxLocals := 3, code := jdk_43_method_47_code, exceptionTable := #[], attributes := #[] }
def k9m5 : Method := { name := "newString", desc := "([BII)Ljava/lang/String;", sig := { parameters := [(.array .byte), .int, .int], returnType := some (.object "java/lang/String") }, accessFlags := 9, code := some k9c5 }
/-- java/lang/StringLatin1 -/
def k9 : Class := { plain "java/lang/StringLatin1" (some 0) with
  accessFlags := 48
  interfaces := #[]
  cf := some (fileOf pool9 14 #[.nestMembers #[390, 221]] #[{ accessFlags := 0, nameIndex := 7, descriptorIndex := 8, attributes := #[] }, { accessFlags := 9, nameIndex := 252, descriptorIndex := 53, attributes := #[] }, { accessFlags := 9, nameIndex := 90, descriptorIndex := 91, attributes := #[] }, { accessFlags := 9, nameIndex := 101, descriptorIndex := 98, attributes := #[] }, { accessFlags := 10, nameIndex := 97, descriptorIndex := 98, attributes := #[] }, { accessFlags := 9, nameIndex := 196, descriptorIndex := 197, attributes := #[] }] 48 4 #[] #[{ accessFlags := 4120, nameIndex := 121, descriptorIndex := 122, attributes := #[] }])
  fields := #[{ name := "$assertionsDisabled", type := .boolean, accessFlags := 4120, slot := 0, constantValue := 0 }]
  methods := #[k9m0, k9m1, k9m2, k9m3, k9m4, k9m5]
  instanceTypes := #[]
  staticTypes := #[.boolean]
  resolved := Array.replicate 395 none
  statics := none }

def pool10 : Array CpInfo := pool [(1, .class_ 2), (0, u "java/lang/Math"), (1, .class_ 6), (1, u "java/lang/Object"), (0, u "<init>"), (0, u "()V"), (89, .class_ 100), (1, u "java/lang/Math$RandomNumberGeneratorHolder"), (71, u "negativeZeroFloatBits"), (0, u "J"), (2, u "negativeZeroDoubleBits"), (21, u "max"), (2, u "min"), (43, u "$assertionsDisabled"), (0, u "Z"), (88, u "(II)I"), (2, u "twoToTheDoubleScaleDown"), (0, u "D"), (4, u "twoToTheDoubleScaleUp"), (9, u "E"), (3, u "PI"), (2, u "TAU"), (2, u "DEGREES_TO_RADIANS"), (0, u "RADIANS_TO_DEGREES")] 94

def k10m0 : Method := { name := "<init>", desc := "()V", sig := { parameters := [], returnType := none }, accessFlags := 2, code := none }
def k10c1 : Code := { maxStack := 2, maxLocals := 2, code := jdk_29_method_65_code, exceptionTable := #[], attributes := #[] }
def k10m1 : Method := { name := "max", desc := "(II)I", sig := { parameters := [.int, .int], returnType := some .int }, accessFlags := 9, code := some k10c1 }
def k10c2 : Code := { maxStack := 2, maxLocals := 2, code := jdk_29_method_69_code, exceptionTable := #[], attributes := #[] }
def k10m2 : Method := { name := "min", desc := "(II)I", sig := { parameters := [.int, .int], returnType := some .int }, accessFlags := 9, code := some k10c2 }
/-- java/lang/Math -/
def k10 : Class := { plain "java/lang/Math" (some 0) with
  accessFlags := 49
  interfaces := #[]
  cf := some (fileOf pool10 1 #[.nestMembers #[98]] #[{ accessFlags := 2, nameIndex := 7, descriptorIndex := 8, attributes := #[] }, { accessFlags := 9, nameIndex := 198, descriptorIndex := 335, attributes := #[] }, { accessFlags := 9, nameIndex := 201, descriptorIndex := 335, attributes := #[] }] 49 4 #[] #[{ accessFlags := 25, nameIndex := 354, descriptorIndex := 339, attributes := #[] }, { accessFlags := 25, nameIndex := 358, descriptorIndex := 339, attributes := #[] }, { accessFlags := 25, nameIndex := 361, descriptorIndex := 339, attributes := #[] }, { accessFlags := 26, nameIndex := 364, descriptorIndex := 339, attributes := #[] }, { accessFlags := 26, nameIndex := 365, descriptorIndex := 339, attributes := #[] }, { accessFlags := 26, nameIndex := 172, descriptorIndex := 173, attributes := #[] }, { accessFlags := 26, nameIndex := 176, descriptorIndex := 173, attributes := #[] }, { accessFlags := 8, nameIndex := 344, descriptorIndex := 339, attributes := #[] }, { accessFlags := 8, nameIndex := 338, descriptorIndex := 339, attributes := #[] }, { accessFlags := 4120, nameIndex := 245, descriptorIndex := 246, attributes := #[] }])
  fields := #[{ name := "E", type := .double, accessFlags := 25, slot := 0, constantValue := 0 }, { name := "PI", type := .double, accessFlags := 25, slot := 1, constantValue := 0 }, { name := "TAU", type := .double, accessFlags := 25, slot := 2, constantValue := 0 }, { name := "DEGREES_TO_RADIANS", type := .double, accessFlags := 26, slot := 3, constantValue := 0 }, { name := "RADIANS_TO_DEGREES", type := .double, accessFlags := 26, slot := 4, constantValue := 0 }, { name := "negativeZeroFloatBits", type := .long, accessFlags := 26, slot := 5, constantValue := 0 }, { name := "negativeZeroDoubleBits", type := .long, accessFlags := 26, slot := 6, constantValue := 0 }, { name := "twoToTheDoubleScaleUp", type := .double, accessFlags := 8, slot := 7, constantValue := 0 }, { name := "twoToTheDoubleScaleDown", type := .double, accessFlags := 8, slot := 8, constantValue := 0 }, { name := "$assertionsDisabled", type := .boolean, accessFlags := 4120, slot := 9, constantValue := 0 }]
  methods := #[k10m0, k10m1, k10m2]
  instanceTypes := #[]
  staticTypes := #[.double, .double, .double, .double, .double, .long, .long, .double, .double, .boolean]
  resolved := Array.replicate 460 none
  statics := none }

def pool11 : Array CpInfo := pool [(6, .class_ 8), (1, u "java/lang/Object"), (0, u "<init>"), (0, u "()V"), (1, .class_ 14), (1, u "java/lang/StringUTF16"), (31, u "$assertionsDisabled"), (0, u "Z"), (13, u "HI_BYTE_SHIFT"), (0, u "I"), (2, u "LO_BYTE_SHIFT"), (49, .methodref 12 116), (0, .nameAndType 117 118), (0, u "compress"), (0, u "([CI[BII)I"), (3, u "([CII)[B"), (138, u "coderFromArrayLen"), (0, u "([BI)B"), (106, .class_ 371), (1, u "java/lang/StringUTF16$LinesSpliterator"), (58, u "MAX_LENGTH"), (196, .class_ 628), (0, u "java/lang/StringUTF16$CodePointsSpliterator"), (0, .class_ 630), (0, u "java/lang/StringUTF16$CharsSpliterator")] 4

def k11m0 : Method := { name := "<init>", desc := "()V", sig := { parameters := [], returnType := none }, accessFlags := 0, code := none }
def k11c1 : Code := { maxStack := 2, maxLocals := 2, code := jdk_52_method_15_code, exceptionTable := #[], attributes := #[] }
def k11m1 : Method := { name := "coderFromArrayLen", desc := "([BI)B", sig := { parameters := [(.array .byte), .int], returnType := some .byte }, accessFlags := 8, code := some k11c1 }
def k11c2 : Code := { maxStack := 5, maxLocals := 6, code := jdk_52_method_16_code, exceptionTable := #[], attributes := #[] }
def k11m2 : Method := { name := "compress", desc := "([CII)[B", sig := { parameters := [(.array .char), .int, .int], returnType := some (.array .byte) }, accessFlags := 9, code := some k11c2 }
def k11c3 : Code := { maxStack := 3, maxLocals := 7, code := jdk_52_method_21_code, exceptionTable := #[], attributes := #[] }
def k11m3 : Method := { name := "compress", desc := "([CI[BII)I", sig := { parameters := [(.array .char), .int, (.array .byte), .int, .int], returnType := some .int }, accessFlags := 9, code := some k11c3 }
/-- java/lang/StringUTF16 -/
def k11 : Class := { plain "java/lang/StringUTF16" (some 0) with
  accessFlags := 48
  interfaces := #[]
  cf := some (fileOf pool11 12 #[.nestMembers #[627, 629, 369]] #[{ accessFlags := 0, nameIndex := 9, descriptorIndex := 10, attributes := #[] }, { accessFlags := 8, nameIndex := 261, descriptorIndex := 262, attributes := #[] }, { accessFlags := 9, nameIndex := 117, descriptorIndex := 122, attributes := #[] }, { accessFlags := 9, nameIndex := 117, descriptorIndex := 118, attributes := #[] }] 48 6 #[] #[{ accessFlags := 26, nameIndex := 61, descriptorIndex := 62, attributes := #[] }, { accessFlags := 26, nameIndex := 65, descriptorIndex := 62, attributes := #[] }, { accessFlags := 24, nameIndex := 430, descriptorIndex := 62, attributes := #[] }, { accessFlags := 4120, nameIndex := 46, descriptorIndex := 47, attributes := #[] }])
  fields := #[{ name := "HI_BYTE_SHIFT", type := .int, accessFlags := 26, slot := 0, constantValue := 0 }, { name := "LO_BYTE_SHIFT", type := .int, accessFlags := 26, slot := 1, constantValue := 0 }, { name := "MAX_LENGTH", type := .int, accessFlags := 24, slot := 2, constantValue := 0 }, { name := "$assertionsDisabled", type := .boolean, accessFlags := 4120, slot := 3, constantValue := 0 }]
  methods := #[k11m0, k11m1, k11m2, k11m3]
  instanceTypes := #[]
  staticTypes := #[.int, .int, .int, .boolean]
  resolved := Array.replicate 635 none
  statics := none }

def pool12 : Array CpInfo := pool [(2, .class_ 4), (1, u "java/lang/Object"), (0, u "<init>"), (0, u "()V"), (17, .class_ 26), (1, u "jdk/internal/util/Preconditions"), (6, u "checkIndex"), (13, u "checkFromToIndex"), (7, .class_ 56), (0, u "jdk/internal/util/Preconditions$4"), (57, .class_ 115), (0, u "jdk/internal/util/Preconditions$1"), (7, u "SIOOBE_FORMATTER"), (0, u "Ljava/util/function/BiFunction;"), (0, .class_ 126), (0, u "jdk/internal/util/Preconditions$2"), (3, u "AIOOBE_FORMATTER"), (0, .class_ 132), (0, u "jdk/internal/util/Preconditions$3"), (3, u "IOOBE_FORMATTER"), (41, u "(IILjava/util/function/BiFunction;)I"), (4, u "(IIILjava/util/function/BiFunction;)I")] 10

def k12m0 : Method := { name := "<init>", desc := "()V", sig := { parameters := [], returnType := none }, accessFlags := 1, code := none }
def k12c1 : Code := { maxStack := 3, maxLocals := 3, code := jdk_41_method_11_code, exceptionTable := #[], attributes := #[] }
def k12m1 : Method := { name := "checkIndex", desc := "(IILjava/util/function/BiFunction;)I", sig := { parameters := [.int, .int, (.object "java/util/function/BiFunction")], returnType := some .int }, accessFlags := 9, code := some k12c1 }
def k12c2 : Code := { maxStack := 4, maxLocals := 4, code := jdk_41_method_12_code, exceptionTable := #[], attributes := #[] }
def k12m2 : Method := { name := "checkFromToIndex", desc := "(IIILjava/util/function/BiFunction;)I", sig := { parameters := [.int, .int, .int, (.object "java/util/function/BiFunction")], returnType := some .int }, accessFlags := 9, code := some k12c2 }
/-- jdk/internal/util/Preconditions -/
def k12 : Class := { plain "jdk/internal/util/Preconditions" (some 0) with
  accessFlags := 33
  interfaces := #[]
  cf := some (fileOf pool12 24 #[.nestMembers #[55, 131, 125, 114]] #[{ accessFlags := 1, nameIndex := 5, descriptorIndex := 6, attributes := #[] }, { accessFlags := 9, nameIndex := 33, descriptorIndex := 178, attributes := #[] }, { accessFlags := 9, nameIndex := 47, descriptorIndex := 183, attributes := #[] }] 33 2 #[] #[{ accessFlags := 25, nameIndex := 123, descriptorIndex := 124, attributes := #[] }, { accessFlags := 25, nameIndex := 130, descriptorIndex := 124, attributes := #[] }, { accessFlags := 25, nameIndex := 136, descriptorIndex := 124, attributes := #[] }])
  fields := #[{ name := "SIOOBE_FORMATTER", type := (.object "java/util/function/BiFunction"), accessFlags := 25, slot := 0, constantValue := 0 }, { name := "AIOOBE_FORMATTER", type := (.object "java/util/function/BiFunction"), accessFlags := 25, slot := 1, constantValue := 0 }, { name := "IOOBE_FORMATTER", type := (.object "java/util/function/BiFunction"), accessFlags := 25, slot := 2, constantValue := 0 }]
  methods := #[k12m0, k12m1, k12m2]
  instanceTypes := #[]
  staticTypes := #[(.object "java/util/function/BiFunction"), (.object "java/util/function/BiFunction"), (.object "java/util/function/BiFunction")]
  resolved := Array.replicate 194 none
  statics := some 1 }

def pool13 : Array CpInfo := pool [(2, .class_ 4), (1, u "java/lang/Object"), (0, u "<init>"), (0, u "()V"), (7, .class_ 16), (1, u "java/util/Arrays"), (57, .class_ 76), (1, u "java/util/Arrays$NaturalOrder"), (36, .class_ 115), (1, u "java/util/Arrays$LegacyMergeSort"), (1, u "Z"), (21, u "copyOfRange"), (10, .methodref 151 152), (0, .class_ 153), (0, .nameAndType 154 155), (0, u "java/lang/System"), (0, u "arraycopy"), (0, u "(Ljava/lang/Object;ILjava/lang/Object;II)V"), (148, .methodref 305 306), (0, .class_ 307), (0, .nameAndType 308 309), (0, u "java/lang/Math"), (0, u "min"), (0, u "(II)I"), (29, .methodref 14 340), (0, .nameAndType 341 342), (0, u "copyOfRangeByte"), (0, u "([BII)[B"), (0, .methodref 14 344), (0, .nameAndType 345 346), (0, u "checkLength"), (0, u "(II)V"), (28, .class_ 376), (0, u "java/util/Arrays$ArrayList"), (68, u "$assertionsDisabled"), (269, u "MIN_ARRAY_SORT_GRAN"), (0, u "I"), (2, u "INSERTIONSORT_THRESHOLD"), (255, .class_ 976), (0, u "java/util/Arrays$ArrayItr")] 52

def k13m0 : Method := { name := "<init>", desc := "()V", sig := { parameters := [], returnType := none }, accessFlags := 2, code := none }
def k13c1 : Code := { maxStack := 4, maxLocals := 2, code := jdk_65_method_131_code, exceptionTable := #[], attributes := #[] }
def k13m1 : Method := { name := "checkLength", desc := "(II)V", sig := { parameters := [.int, .int], returnType := none }, accessFlags := 10, code := some k13c1 }
def k13c2 : Code := { maxStack := 3, maxLocals := 3, code := jdk_65_method_132_code, exceptionTable := #[], attributes := #[] }
def k13m2 : Method := { name := "copyOfRange", desc := "([BII)[B", sig := { parameters := [(.array .byte), .int, .int], returnType := some (.array .byte) }, accessFlags := 9, code := some k13c2 }
def k13c3 : Code := { maxStack := 6, maxLocals := 5, code := jdk_65_method_133_code, exceptionTable := #[], attributes := #[] }
def k13m3 : Method := { name := "copyOfRangeByte", desc := "([BII)[B", sig := { parameters := [(.array .byte), .int, .int], returnType := some (.array .byte) }, accessFlags := 10, code := some k13c3 }
/-- java/util/Arrays -/
def k13 : Class := { plain "java/util/Arrays" (some 0) with
  accessFlags := 49
  interfaces := #[]
  cf := some (fileOf pool13 14 #[.nestMembers #[975, 375, 113, 74]] #[{ accessFlags := 2, nameIndex := 5, descriptorIndex := 6, attributes := #[] }, { accessFlags := 10, nameIndex := 345, descriptorIndex := 346, attributes := #[] }, { accessFlags := 9, nameIndex := 139, descriptorIndex := 342, attributes := #[] }, { accessFlags := 10, nameIndex := 341, descriptorIndex := 342, attributes := #[] }] 49 2 #[] #[{ accessFlags := 26, nameIndex := 715, descriptorIndex := 716, attributes := #[] }, { accessFlags := 26, nameIndex := 719, descriptorIndex := 716, attributes := #[] }, { accessFlags := 4120, nameIndex := 445, descriptorIndex := 117, attributes := #[] }])
  fields := #[{ name := "MIN_ARRAY_SORT_GRAN", type := .int, accessFlags := 26, slot := 0, constantValue := 0 }, { name := "INSERTIONSORT_THRESHOLD", type := .int, accessFlags := 26, slot := 1, constantValue := 0 }, { name := "$assertionsDisabled", type := .boolean, accessFlags := 4120, slot := 2, constantValue := 0 }]
  methods := #[k13m0, k13m1, k13m2, k13m3]
  instanceTypes := #[]
  staticTypes := #[.int, .int, .boolean]
  resolved := Array.replicate 1029 none
  statics := none }

def pool14 : Array CpInfo := pool [(2, .class_ 4), (1, u "java/lang/Object"), (0, u "<init>"), (0, u "()V"), (1, .class_ 10), (1, u "java/lang/System"), (0, u "allowSecurityManager"), (0, u "I"), (16, u "cons"), (0, u "Ljava/io/Console;"), (77, .class_ 110), (1, u "java/lang/System$CallersHolder"), (43, u "initialErrStream"), (0, u "Ljava/io/PrintStream;"), (19, u "security"), (0, u "Ljava/lang/SecurityManager;"), (31, .class_ 209), (0, u "java/lang/System$1"), (7, u "props"), (0, u "Ljava/util/Properties;"), (2, u "lineSeparator"), (0, u "Ljava/lang/String;"), (96, .class_ 321), (1, u "java/lang/System$LoggerFinder"), (5, .class_ 328), (0, u "java/lang/System$Logger"), (67, u "err"), (2, u "out"), (91, u "notSupportedJnuEncoding"), (15, u "in"), (17, u "initialIn"), (0, u "Ljava/io/InputStream;"), (35, u "bootLayer"), (0, u "Ljava/lang/ModuleLayer;"), (99, .class_ 664), (0, u "java/lang/System$2"), (9, u "NEVER"), (2, u "MAYBE"), (49, u "arraycopy"), (0, u "(Ljava/lang/Object;ILjava/lang/Object;II)V"), (72, .class_ 802), (0, u "java/lang/System$Logger$Level")] 31

def k14m0 : Method := { name := "<init>", desc := "()V", sig := { parameters := [], returnType := none }, accessFlags := 2, code := none }
def k14m1 : Method := { name := "arraycopy", desc := "(Ljava/lang/Object;ILjava/lang/Object;II)V", sig := { parameters := [(.object "java/lang/Object"), .int, (.object "java/lang/Object"), .int, .int], returnType := none }, accessFlags := 265, code := none }
/-- java/lang/System -/
def k14 : Class := { plain "java/lang/System" (some 0) with
  accessFlags := 49
  interfaces := #[]
  cf := some (fileOf pool14 8 #[.nestMembers #[319, 327, 801, 108, 663, 208]] #[{ accessFlags := 2, nameIndex := 5, descriptorIndex := 6, attributes := #[] }, { accessFlags := 265, nameIndex := 727, descriptorIndex := 728, attributes := #[] }] 49 2 #[] #[{ accessFlags := 25, nameIndex := 507, descriptorIndex := 526, attributes := #[] }, { accessFlags := 25, nameIndex := 399, descriptorIndex := 155, attributes := #[] }, { accessFlags := 25, nameIndex := 396, descriptorIndex := 155, attributes := #[] }, { accessFlags := 10, nameIndex := 525, descriptorIndex := 526, attributes := #[] }, { accessFlags := 26, nameIndex := 674, descriptorIndex := 12, attributes := #[] }, { accessFlags := 26, nameIndex := 677, descriptorIndex := 12, attributes := #[] }, { accessFlags := 10, nameIndex := 11, descriptorIndex := 12, attributes := #[] }, { accessFlags := 74, nameIndex := 175, descriptorIndex := 176, attributes := #[] }, { accessFlags := 10, nameIndex := 491, descriptorIndex := 222, attributes := #[] }, { accessFlags := 74, nameIndex := 29, descriptorIndex := 30, attributes := #[] }, { accessFlags := 74, nameIndex := 154, descriptorIndex := 155, attributes := #[] }, { accessFlags := 10, nameIndex := 217, descriptorIndex := 218, attributes := #[] }, { accessFlags := 10, nameIndex := 221, descriptorIndex := 222, attributes := #[] }, { accessFlags := 8, nameIndex := 562, descriptorIndex := 563, attributes := #[] }])
  fields := #[{ name := "in", type := (.object "java/io/InputStream"), accessFlags := 25, slot := 0, constantValue := 0 }, { name := "out", type := (.object "java/io/PrintStream"), accessFlags := 25, slot := 1, constantValue := 0 }, { name := "err", type := (.object "java/io/PrintStream"), accessFlags := 25, slot := 2, constantValue := 0 }, { name := "initialIn", type := (.object "java/io/InputStream"), accessFlags := 10, slot := 3, constantValue := 0 }, { name := "NEVER", type := .int, accessFlags := 26, slot := 4, constantValue := 0 }, { name := "MAYBE", type := .int, accessFlags := 26, slot := 5, constantValue := 0 }, { name := "allowSecurityManager", type := .int, accessFlags := 10, slot := 6, constantValue := 0 }, { name := "security", type := (.object "java/lang/SecurityManager"), accessFlags := 74, slot := 7, constantValue := 0 }, { name := "notSupportedJnuEncoding", type := (.object "java/lang/String"), accessFlags := 10, slot := 8, constantValue := 0 }, { name := "cons", type := (.object "java/io/Console"), accessFlags := 74, slot := 9, constantValue := 0 }, { name := "initialErrStream", type := (.object "java/io/PrintStream"), accessFlags := 74, slot := 10, constantValue := 0 }, { name := "props", type := (.object "java/util/Properties"), accessFlags := 10, slot := 11, constantValue := 0 }, { name := "lineSeparator", type := (.object "java/lang/String"), accessFlags := 10, slot := 12, constantValue := 0 }, { name := "bootLayer", type := (.object "java/lang/ModuleLayer"), accessFlags := 8, slot := 13, constantValue := 0 }]
  methods := #[k14m0, k14m1]
  instanceTypes := #[]
  staticTypes := #[(.object "java/io/InputStream"), (.object "java/io/PrintStream"), (.object "java/io/PrintStream"), (.object "java/io/InputStream"), .int, .int, .int, (.object "java/lang/SecurityManager"), (.object "java/lang/String"), (.object "java/io/Console"), (.object "java/io/PrintStream"), (.object "java/util/Properties"), (.object "java/lang/String"), (.object "java/lang/ModuleLayer")]
  resolved := Array.replicate 834 none
  statics := none }

def pool15 : Array CpInfo := pool [(9, u "<init>"), (6, .class_ 18), (1, u "java/lang/Object"), (0, u "()V"), (1, .class_ 23), (1, u "jdk/internal/util/ArraysSupport"), (0, u "LOG2_ARRAY_LONG_INDEX_SCALE"), (0, u "I"), (2, u "U"), (0, u "Ljdk/internal/misc/Unsafe;"), (8, u "BIG_ENDIAN"), (0, u "Z"), (8, u "LOG2_BYTE_BIT_SIZE"), (4, u "LOG2_ARRAY_INT_INDEX_SCALE"), (54, u "JLA"), (0, u "Ljdk/internal/access/JavaLangAccess;"), (11, u "LOG2_ARRAY_BOOLEAN_INDEX_SCALE"), (9, u "LOG2_ARRAY_BYTE_INDEX_SCALE"), (5, u "LOG2_ARRAY_CHAR_INDEX_SCALE"), (5, u "LOG2_ARRAY_SHORT_INDEX_SCALE"), (18, u "LOG2_ARRAY_FLOAT_INDEX_SCALE"), (24, u "LOG2_ARRAY_DOUBLE_INDEX_SCALE"), (89, u "T_BOOLEAN"), (2, u "T_CHAR"), (1, u "T_FLOAT"), (1, u "T_DOUBLE"), (1, u "T_BYTE"), (1, u "T_SHORT"), (1, u "T_INT"), (1, u "T_LONG"), (1, u "SOFT_MAX_ARRAY_LENGTH")] 83

def k15m0 : Method := { name := "<init>", desc := "()V", sig := { parameters := [], returnType := none }, accessFlags := 2, code := none }
/-- jdk/internal/util/ArraysSupport -/
def k15 : Class := { plain "jdk/internal/util/ArraysSupport" (some 0) with
  accessFlags := 33
  interfaces := #[]
  cf := some (fileOf pool15 21 #[] #[{ accessFlags := 2, nameIndex := 9, descriptorIndex := 19, attributes := #[] }] 33 16 #[] #[{ accessFlags := 24, nameIndex := 28, descriptorIndex := 29, attributes := #[] }, { accessFlags := 26, nameIndex := 38, descriptorIndex := 39, attributes := #[] }, { accessFlags := 25, nameIndex := 121, descriptorIndex := 25, attributes := #[] }, { accessFlags := 25, nameIndex := 131, descriptorIndex := 25, attributes := #[] }, { accessFlags := 25, nameIndex := 137, descriptorIndex := 25, attributes := #[] }, { accessFlags := 25, nameIndex := 143, descriptorIndex := 25, attributes := #[] }, { accessFlags := 25, nameIndex := 53, descriptorIndex := 25, attributes := #[] }, { accessFlags := 25, nameIndex := 24, descriptorIndex := 25, attributes := #[] }, { accessFlags := 25, nameIndex := 162, descriptorIndex := 25, attributes := #[] }, { accessFlags := 25, nameIndex := 187, descriptorIndex := 25, attributes := #[] }, { accessFlags := 26, nameIndex := 48, descriptorIndex := 25, attributes := #[] }, { accessFlags := 25, nameIndex := 277, descriptorIndex := 25, attributes := #[] }, { accessFlags := 25, nameIndex := 280, descriptorIndex := 25, attributes := #[] }, { accessFlags := 25, nameIndex := 282, descriptorIndex := 25, attributes := #[] }, { accessFlags := 25, nameIndex := 284, descriptorIndex := 25, attributes := #[] }, { accessFlags := 25, nameIndex := 286, descriptorIndex := 25, attributes := #[] }, { accessFlags := 25, nameIndex := 288, descriptorIndex := 25, attributes := #[] }, { accessFlags := 25, nameIndex := 290, descriptorIndex := 25, attributes := #[] }, { accessFlags := 25, nameIndex := 292, descriptorIndex := 25, attributes := #[] }, { accessFlags := 26, nameIndex := 108, descriptorIndex := 109, attributes := #[] }, { accessFlags := 25, nameIndex := 294, descriptorIndex := 25, attributes := #[] }])
  fields := #[{ name := "U", type := (.object "jdk/internal/misc/Unsafe"), accessFlags := 24, slot := 0, constantValue := 0 }, { name := "BIG_ENDIAN", type := .boolean, accessFlags := 26, slot := 1, constantValue := 0 }, { name := "LOG2_ARRAY_BOOLEAN_INDEX_SCALE", type := .int, accessFlags := 25, slot := 2, constantValue := 0 }, { name := "LOG2_ARRAY_BYTE_INDEX_SCALE", type := .int, accessFlags := 25, slot := 3, constantValue := 0 }, { name := "LOG2_ARRAY_CHAR_INDEX_SCALE", type := .int, accessFlags := 25, slot := 4, constantValue := 0 }, { name := "LOG2_ARRAY_SHORT_INDEX_SCALE", type := .int, accessFlags := 25, slot := 5, constantValue := 0 }, { name := "LOG2_ARRAY_INT_INDEX_SCALE", type := .int, accessFlags := 25, slot := 6, constantValue := 0 }, { name := "LOG2_ARRAY_LONG_INDEX_SCALE", type := .int, accessFlags := 25, slot := 7, constantValue := 0 }, { name := "LOG2_ARRAY_FLOAT_INDEX_SCALE", type := .int, accessFlags := 25, slot := 8, constantValue := 0 }, { name := "LOG2_ARRAY_DOUBLE_INDEX_SCALE", type := .int, accessFlags := 25, slot := 9, constantValue := 0 }, { name := "LOG2_BYTE_BIT_SIZE", type := .int, accessFlags := 26, slot := 10, constantValue := 0 }, { name := "T_BOOLEAN", type := .int, accessFlags := 25, slot := 11, constantValue := 0 }, { name := "T_CHAR", type := .int, accessFlags := 25, slot := 12, constantValue := 0 }, { name := "T_FLOAT", type := .int, accessFlags := 25, slot := 13, constantValue := 0 }, { name := "T_DOUBLE", type := .int, accessFlags := 25, slot := 14, constantValue := 0 }, { name := "T_BYTE", type := .int, accessFlags := 25, slot := 15, constantValue := 0 }, { name := "T_SHORT", type := .int, accessFlags := 25, slot := 16, constantValue := 0 }, { name := "T_INT", type := .int, accessFlags := 25, slot := 17, constantValue := 0 }, { name := "T_LONG", type := .int, accessFlags := 25, slot := 18, constantValue := 0 }, { name := "JLA", type := (.object "jdk/internal/access/JavaLangAccess"), accessFlags := 26, slot := 19, constantValue := 0 }, { name := "SOFT_MAX_ARRAY_LENGTH", type := .int, accessFlags := 25, slot := 20, constantValue := 0 }]
  methods := #[k15m0]
  instanceTypes := #[]
  staticTypes := #[(.object "jdk/internal/misc/Unsafe"), .boolean, .int, .int, .int, .int, .int, .int, .int, .int, .int, .int, .int, .int, .int, .int, .int, .int, .int, (.object "jdk/internal/access/JavaLangAccess"), .int]
  resolved := Array.replicate 378 none
  statics := none }

def pool16 : Array CpInfo := pool [(1, u "java/lang/Cloneable"), (0, .class_ 1), (0, u "java/lang/Object"), (0, .class_ 3)] 3

/-- java/lang/Cloneable -/
def k16 : Class := { plain "java/lang/Cloneable" (some 0) with
  accessFlags := 1537
  interfaces := #[]
  cf := some (fileOf pool16 2 #[] #[] 1537 4 #[] #[])
  fields := #[]
  methods := #[]
  instanceTypes := #[]
  staticTypes := #[]
  resolved := Array.replicate 8 none
  statics := none }

/-- the primitive byte -/
def k17 : Class := { plain "byte" none with kind := .primitive 'B', accessFlags := 0x411 }
/-- [B -/
def k18 : Class := { plain "[B" (some 0) with kind := .array 17 .byte, interfaces := #[16, 2], accessFlags := 1041 }

/-- the primitive char -/
def k19 : Class := { plain "char" none with kind := .primitive 'C', accessFlags := 0x411 }
/-- [C -/
def k20 : Class := { plain "[C" (some 0) with kind := .array 19 .char, interfaces := #[16, 2], accessFlags := 1041 }

/-- the primitive int -/
def k21 : Class := { plain "int" none with kind := .primitive 'I', accessFlags := 0x411 }
/-- [I -/
def k22 : Class := { plain "[I" (some 0) with kind := .array 21 .int, interfaces := #[16, 2], accessFlags := 1041 }

def heap : Heap := #[{ cls := 7, slots := #[.long 0, .int 1, .null, .int 0, .null, .int 0, .int 0], vm := .statics 7 },
  { cls := 12, slots := #[.null, .null, .null], vm := .statics 12 }]
def classes : Array Class := #[k0, k1, k2, k3, k4, k5, k6, k7, k8, k9, k10, k11, k12, k13, k14, k15, k16, k17, k18, k19, k20, k21, k22]
def interned : List (Array UInt16 × Addr) := []
def slotsUsed : Nat := 10
def theMethod : MethodId := ⟨1, 5⟩
def args0 : Array Value := #[.int 1, .int 2, .int 3, .int 4, .int 5, .int 6]
def aboutOver (below : List Frame) : State where
  vm := { classes := classes, interned := interned.toArray }
  heap := heap
  slotsUsed := slotsUsed
  threads := #[{ frames := .invoking theMethod args0 :: below }]
def below0 : List Frame := [.native { method := ⟨0, 0⟩, args := #[] }]
def about1 : State := aboutOver below0
def p0 : Program := .bare "" "" ""
def e0 : Env := launch0.env 0 0 0
theorem w_frames : about1.frames = Frame.invoking theMethod args0 :: below0 := rfl
set_option maxRecDepth 65536 in
theorem w_args : argsFit about1.vm theMethod args0 = true := by decide +kernel
set_option maxRecDepth 65536 in
theorem w_heap : heapFits about1 = true := by decide +kernel
set_option maxRecDepth 65536 in
theorem w_runnable : about1.curStatus? = some .runnable := by decide +kernel
set_option maxRecDepth 65536 in
theorem w_alone : about1.alone = true := by decide +kernel
set_option maxRecDepth 65536 in
theorem w_named : about1.methodNamed? x = some theMethod := by decide +kernel
set_option maxRecDepth 65536 in
theorem w_hears : about1.hears theMethod below0 = true := by decide +kernel
set_option maxRecDepth 65536 in
theorem w_ripe : about1.ripe theMethod args0 below0 = true := by decide +kernel
theorem w_running : about1.status = .running := rfl
set_option maxRecDepth 65536 in
theorem w_room : about1.hasRoom e0.platform room_1 = true :=
  launch0.hasRoom_least _ room_1 (by decide +kernel) (by decide +kernel) (by decide +kernel) (by decide +kernel) (by decide +kernel) (by decide +kernel)
theorem allAtoms_all (ts : List Jvm.Cond) (a : Array Jvm.Value) (st : Jvm.State) : (allAtoms ts).before a st = ts.all (fun c => c.before a st) := by
  induction ts with
  | nil => rfl
  | cons c t ih =>
    show (Jvm.Cond.and c (allAtoms t)).before a st = _
    rw [Jvm.Cond.before_and, ih, List.all_cons]
def words1 : List Jvm.Cond := Jvm.Cond.code x code maxLocals ret :: tables_1
/-- a 'code' word, met by the world's own term for the bytes: nothing is compared byte by byte -/
theorem code_word {y : MethodName} {bytes : ByteArray} {mx : Nat} {rt : Option FieldType} {a : Array Value} {s : State} {m : MethodId} {meth : Method} {c : Code} (h1 : s.methodNamed? y = some m) (h2 : s.vm.method? m = some meth) (h3 : meth.code = some c) (h4 : c.code = bytes)
    (h5 : (c.maxLocals == mx && c.exceptionTable.isEmpty && decide (c.maxStack ≤ mostOperands) && decide (meth.sig.returnType = rt) && !meth.locks && decide (parseMethodDescriptor y.desc = some meth.sig)) = true) : (Jvm.Cond.code y bytes mx rt).before a s = true := by
  simp only [Bool.and_eq_true, beq_iff_eq, Bool.not_eq_true', decide_eq_true_eq] at h5
  obtain ⟨⟨⟨⟨⟨g1, g2⟩, g3⟩, g4⟩, g5⟩, g6⟩ := h5
  simp [Cond.before, Cond.holds, Cond.value, h1, h2, h3, h4, g1, g2, g3, g4, g5, g6]
def isCode : Jvm.Cond → Bool
  | .code _ _ _ _ => true
  | _ => false
theorem all_split {L : List Jvm.Cond} {P : Jvm.Cond → Bool} (h1 : L.all (fun c => isCode c || P c) = true) (h2 : ∀ c ∈ L.filter isCode, P c = true) : L.all P = true := by
  refine List.all_eq_true.mpr fun c hc => ?_
  have h := List.all_eq_true.mp h1 c hc
  rcases Bool.eq_false_or_eq_true (isCode c) with hi | hi
  · exact h2 c (List.mem_filter.mpr ⟨hc, hi⟩)
  · simpa [hi] using h
set_option maxRecDepth 65536 in
theorem w_c0 : (Jvm.Cond.code x code maxLocals ret).before args0 about1 = true := code_word (m := ⟨1, 5⟩) (meth := k1m5) (c := k1c5) (by decide +kernel) rfl rfl rfl (by decide +kernel)
set_option maxRecDepth 65536 in
theorem w_c1 : (Jvm.Cond.code ({ cls := "com/example/facet_hierarchy_store/facethierarchystore/label/LanguageTagLanguagePinLaw", name := "draw", desc := "(I)C" } : Jvm.MethodName) method_2_code (1 : Nat) (Option.some Jvm.ClassFile.FieldType.char)).before args0 about1 = true := code_word (m := ⟨1, 1⟩) (meth := k1m1) (c := k1c1) (by decide +kernel) rfl rfl rfl (by decide +kernel)
set_option maxRecDepth 65536 in
theorem w_c2 : (Jvm.Cond.code ({ cls := "com/example/facet_hierarchy_store/facethierarchystore/label/LanguageTagLanguagePinLaw", name := "make", desc := "(ICCCCC)Ljava/lang/String;" } : Jvm.MethodName) method_3_code (6 : Nat) (Option.some (Jvm.ClassFile.FieldType.object "java/lang/String"))).before args0 about1 = true := code_word (m := ⟨1, 2⟩) (meth := k1m2) (c := k1c2) (by decide +kernel) rfl rfl rfl (by decide +kernel)
set_option maxRecDepth 65536 in
theorem w_c3 : (Jvm.Cond.code ({ cls := "java/lang/String", name := "<init>", desc := "([C)V" } : Jvm.MethodName) jdk_42_method_3_code (2 : Nat) (Option.none : Option Jvm.ClassFile.FieldType)).before args0 about1 = true := code_word (m := ⟨7, 1⟩) (meth := k7m1) (c := k7c1) (by decide +kernel) rfl rfl rfl (by decide +kernel)
set_option maxRecDepth 65536 in
theorem w_c4 : (Jvm.Cond.code ({ cls := "java/lang/String", name := "<init>", desc := "([CIILjava/lang/Void;)V" } : Jvm.MethodName) jdk_42_method_149_code (6 : Nat) (Option.none : Option Jvm.ClassFile.FieldType)).before args0 about1 = true := code_word (m := ⟨7, 7⟩) (meth := k7m7) (c := k7c7) (by decide +kernel) rfl rfl rfl (by decide +kernel)
set_option maxRecDepth 65536 in
theorem w_c5 : (Jvm.Cond.code ({ cls := "java/lang/Object", name := "<init>", desc := "()V" } : Jvm.MethodName) object_method_1_code (1 : Nat) (Option.none : Option Jvm.ClassFile.FieldType)).before args0 about1 = true := code_word (m := ⟨0, 0⟩) (meth := k0m0) (c := k0c0) (by decide +kernel) rfl rfl rfl (by decide +kernel)
set_option maxRecDepth 65536 in
theorem w_c6 : (Jvm.Cond.code ({ cls := "com/example/facet_hierarchy_store/facethierarchystore/label/LanguageTagLanguagePinLaw", name := "firstDash", desc := "(ICCCCC)I" } : Jvm.MethodName) method_4_code (6 : Nat) (Option.some Jvm.ClassFile.FieldType.int)).before args0 about1 = true := code_word (m := ⟨1, 3⟩) (meth := k1m3) (c := k1c3) (by decide +kernel) rfl rfl rfl (by decide +kernel)
set_option maxRecDepth 65536 in
theorem w_c7 : (Jvm.Cond.code ({ cls := "com/example/facet_hierarchy_store/facethierarchystore/label/LanguageTag", name := "language", desc := "(Ljava/lang/String;)Ljava/lang/String;" } : Jvm.MethodName) prog_22_method_4_code (2 : Nat) (Option.some (Jvm.ClassFile.FieldType.object "java/lang/String"))).before args0 about1 = true := code_word (m := ⟨8, 1⟩) (meth := k8m1) (c := k8c1) (by decide +kernel) rfl rfl rfl (by decide +kernel)
set_option maxRecDepth 65536 in
theorem w_c8 : (Jvm.Cond.code ({ cls := "java/lang/String", name := "indexOf", desc := "(I)I" } : Jvm.MethodName) jdk_42_method_79_code (2 : Nat) (Option.some Jvm.ClassFile.FieldType.int)).before args0 about1 = true := code_word (m := ⟨7, 4⟩) (meth := k7m4) (c := k7c4) (by decide +kernel) rfl rfl rfl (by decide +kernel)
set_option maxRecDepth 65536 in
theorem w_c9 : (Jvm.Cond.code ({ cls := "java/lang/String", name := "indexOf", desc := "(II)I" } : Jvm.MethodName) jdk_42_method_80_code (3 : Nat) (Option.some Jvm.ClassFile.FieldType.int)).before args0 about1 = true := code_word (m := ⟨7, 5⟩) (meth := k7m5) (c := k7c5) (by decide +kernel) rfl rfl rfl (by decide +kernel)
set_option maxRecDepth 65536 in
theorem w_c10 : (Jvm.Cond.code ({ cls := "java/lang/String", name := "isLatin1", desc := "()Z" } : Jvm.MethodName) jdk_42_method_154_code (1 : Nat) (Option.some Jvm.ClassFile.FieldType.boolean)).before args0 about1 = true := code_word (m := ⟨7, 10⟩) (meth := k7m10) (c := k7c10) (by decide +kernel) rfl rfl rfl (by decide +kernel)
set_option maxRecDepth 65536 in
theorem w_c11 : (Jvm.Cond.code ({ cls := "java/lang/String", name := "length", desc := "()I" } : Jvm.MethodName) jdk_42_method_54_code (1 : Nat) (Option.some Jvm.ClassFile.FieldType.int)).before args0 about1 = true := code_word (m := ⟨7, 2⟩) (meth := k7m2) (c := k7c2) (by decide +kernel) rfl rfl rfl (by decide +kernel)
set_option maxRecDepth 65536 in
theorem w_c12 : (Jvm.Cond.code ({ cls := "java/lang/String", name := "coder", desc := "()B" } : Jvm.MethodName) jdk_42_method_152_code (1 : Nat) (Option.some Jvm.ClassFile.FieldType.byte)).before args0 about1 = true := code_word (m := ⟨7, 9⟩) (meth := k7m9) (c := k7c9) (by decide +kernel) rfl rfl rfl (by decide +kernel)
set_option maxRecDepth 65536 in
theorem w_c13 : (Jvm.Cond.code ({ cls := "java/lang/StringLatin1", name := "indexOf", desc := "([BIII)I" } : Jvm.MethodName) jdk_43_method_22_code (4 : Nat) (Option.some Jvm.ClassFile.FieldType.int)).before args0 about1 = true := code_word (m := ⟨9, 3⟩) (meth := k9m3) (c := k9c3) (by decide +kernel) rfl rfl rfl (by decide +kernel)
set_option maxRecDepth 65536 in
theorem w_c14 : (Jvm.Cond.code ({ cls := "java/lang/StringLatin1", name := "canEncode", desc := "(I)Z" } : Jvm.MethodName) jdk_43_method_4_code (1 : Nat) (Option.some Jvm.ClassFile.FieldType.boolean)).before args0 about1 = true := code_word (m := ⟨9, 2⟩) (meth := k9m2) (c := k9c2) (by decide +kernel) rfl rfl rfl (by decide +kernel)
set_option maxRecDepth 65536 in
theorem w_c15 : (Jvm.Cond.code ({ cls := "java/lang/Math", name := "max", desc := "(II)I" } : Jvm.MethodName) jdk_29_method_65_code (2 : Nat) (Option.some Jvm.ClassFile.FieldType.int)).before args0 about1 = true := code_word (m := ⟨10, 1⟩) (meth := k10m1) (c := k10c1) (by decide +kernel) rfl rfl rfl (by decide +kernel)
set_option maxRecDepth 65536 in
theorem w_c16 : (Jvm.Cond.code ({ cls := "java/lang/Math", name := "min", desc := "(II)I" } : Jvm.MethodName) jdk_29_method_69_code (2 : Nat) (Option.some Jvm.ClassFile.FieldType.int)).before args0 about1 = true := code_word (m := ⟨10, 2⟩) (meth := k10m2) (c := k10c2) (by decide +kernel) rfl rfl rfl (by decide +kernel)
set_option maxRecDepth 65536 in
theorem w_c17 : (Jvm.Cond.code ({ cls := "com/example/facet_hierarchy_store/facethierarchystore/label/LanguageTagLanguagePinLaw", name := "agree", desc := "(Ljava/lang/String;Ljava/lang/String;II)Z" } : Jvm.MethodName) method_5_code (4 : Nat) (Option.some Jvm.ClassFile.FieldType.boolean)).before args0 about1 = true := code_word (m := ⟨1, 4⟩) (meth := k1m4) (c := k1c4) (by decide +kernel) rfl rfl rfl (by decide +kernel)
set_option maxRecDepth 65536 in
theorem w_c18 : (Jvm.Cond.code ({ cls := "java/lang/StringUTF16", name := "compress", desc := "([CII)[B" } : Jvm.MethodName) jdk_52_method_16_code (6 : Nat) (Option.some (Jvm.ClassFile.FieldType.array Jvm.ClassFile.FieldType.byte))).before args0 about1 = true := code_word (m := ⟨11, 2⟩) (meth := k11m2) (c := k11c2) (by decide +kernel) rfl rfl rfl (by decide +kernel)
set_option maxRecDepth 65536 in
theorem w_c19 : (Jvm.Cond.code ({ cls := "java/lang/StringUTF16", name := "compress", desc := "([CI[BII)I" } : Jvm.MethodName) jdk_52_method_21_code (7 : Nat) (Option.some Jvm.ClassFile.FieldType.int)).before args0 about1 = true := code_word (m := ⟨11, 3⟩) (meth := k11m3) (c := k11c3) (by decide +kernel) rfl rfl rfl (by decide +kernel)
set_option maxRecDepth 65536 in
theorem w_c20 : (Jvm.Cond.code ({ cls := "java/lang/StringUTF16", name := "coderFromArrayLen", desc := "([BI)B" } : Jvm.MethodName) jdk_52_method_15_code (2 : Nat) (Option.some Jvm.ClassFile.FieldType.byte)).before args0 about1 = true := code_word (m := ⟨11, 1⟩) (meth := k11m1) (c := k11c1) (by decide +kernel) rfl rfl rfl (by decide +kernel)
set_option maxRecDepth 65536 in
theorem w_c21 : (Jvm.Cond.code ({ cls := "java/lang/StringLatin1", name := "indexOfChar", desc := "([BIII)I" } : Jvm.MethodName) jdk_43_method_23_code (6 : Nat) (Option.some Jvm.ClassFile.FieldType.int)).before args0 about1 = true := code_word (m := ⟨9, 4⟩) (meth := k9m4) (c := k9c4) (by decide +kernel) rfl rfl rfl (by decide +kernel)
set_option maxRecDepth 65536 in
theorem w_c22 : (Jvm.Cond.code ({ cls := "java/lang/String", name := "substring", desc := "(II)Ljava/lang/String;" } : Jvm.MethodName) jdk_42_method_92_code (5 : Nat) (Option.some (Jvm.ClassFile.FieldType.object "java/lang/String"))).before args0 about1 = true := code_word (m := ⟨7, 6⟩) (meth := k7m6) (c := k7c6) (by decide +kernel) rfl rfl rfl (by decide +kernel)
set_option maxRecDepth 65536 in
theorem w_c23 : (Jvm.Cond.code ({ cls := "java/lang/String", name := "checkBoundsBeginEnd", desc := "(III)V" } : Jvm.MethodName) jdk_42_method_158_code (3 : Nat) (Option.none : Option Jvm.ClassFile.FieldType)).before args0 about1 = true := code_word (m := ⟨7, 12⟩) (meth := k7m12) (c := k7c12) (by decide +kernel) rfl rfl rfl (by decide +kernel)
set_option maxRecDepth 65536 in
theorem w_c24 : (Jvm.Cond.code ({ cls := "jdk/internal/util/Preconditions", name := "checkFromToIndex", desc := "(IIILjava/util/function/BiFunction;)I" } : Jvm.MethodName) jdk_41_method_12_code (4 : Nat) (Option.some Jvm.ClassFile.FieldType.int)).before args0 about1 = true := code_word (m := ⟨12, 2⟩) (meth := k12m2) (c := k12c2) (by decide +kernel) rfl rfl rfl (by decide +kernel)
set_option maxRecDepth 65536 in
theorem w_c25 : (Jvm.Cond.code ({ cls := "java/lang/StringLatin1", name := "newString", desc := "([BII)Ljava/lang/String;" } : Jvm.MethodName) jdk_43_method_47_code (3 : Nat) (Option.some (Jvm.ClassFile.FieldType.object "java/lang/String"))).before args0 about1 = true := code_word (m := ⟨9, 5⟩) (meth := k9m5) (c := k9c5) (by decide +kernel) rfl rfl rfl (by decide +kernel)
set_option maxRecDepth 65536 in
theorem w_c26 : (Jvm.Cond.code ({ cls := "java/util/Arrays", name := "copyOfRange", desc := "([BII)[B" } : Jvm.MethodName) jdk_65_method_132_code (3 : Nat) (Option.some (Jvm.ClassFile.FieldType.array Jvm.ClassFile.FieldType.byte))).before args0 about1 = true := code_word (m := ⟨13, 2⟩) (meth := k13m2) (c := k13c2) (by decide +kernel) rfl rfl rfl (by decide +kernel)
set_option maxRecDepth 65536 in
theorem w_c27 : (Jvm.Cond.code ({ cls := "java/util/Arrays", name := "copyOfRangeByte", desc := "([BII)[B" } : Jvm.MethodName) jdk_65_method_133_code (5 : Nat) (Option.some (Jvm.ClassFile.FieldType.array Jvm.ClassFile.FieldType.byte))).before args0 about1 = true := code_word (m := ⟨13, 3⟩) (meth := k13m3) (c := k13c3) (by decide +kernel) rfl rfl rfl (by decide +kernel)
set_option maxRecDepth 65536 in
theorem w_c28 : (Jvm.Cond.code ({ cls := "java/util/Arrays", name := "checkLength", desc := "(II)V" } : Jvm.MethodName) jdk_65_method_131_code (2 : Nat) (Option.none : Option Jvm.ClassFile.FieldType)).before args0 about1 = true := code_word (m := ⟨13, 1⟩) (meth := k13m1) (c := k13c1) (by decide +kernel) rfl rfl rfl (by decide +kernel)
set_option maxRecDepth 65536 in
theorem w_c29 : (Jvm.Cond.code ({ cls := "java/lang/String", name := "<init>", desc := "([BB)V" } : Jvm.MethodName) jdk_42_method_151_code (3 : Nat) (Option.none : Option Jvm.ClassFile.FieldType)).before args0 about1 = true := code_word (m := ⟨7, 8⟩) (meth := k7m8) (c := k7c8) (by decide +kernel) rfl rfl rfl (by decide +kernel)
set_option maxRecDepth 65536 in
theorem w_c30 : (Jvm.Cond.code ({ cls := "java/lang/String", name := "charAt", desc := "(I)C" } : Jvm.MethodName) jdk_42_method_56_code (2 : Nat) (Option.some Jvm.ClassFile.FieldType.char)).before args0 about1 = true := code_word (m := ⟨7, 3⟩) (meth := k7m3) (c := k7c3) (by decide +kernel) rfl rfl rfl (by decide +kernel)
set_option maxRecDepth 65536 in
theorem w_c31 : (Jvm.Cond.code ({ cls := "java/lang/StringLatin1", name := "charAt", desc := "([BI)C" } : Jvm.MethodName) jdk_43_method_2_code (2 : Nat) (Option.some Jvm.ClassFile.FieldType.char)).before args0 about1 = true := code_word (m := ⟨9, 1⟩) (meth := k9m1) (c := k9c1) (by decide +kernel) rfl rfl rfl (by decide +kernel)
set_option maxRecDepth 65536 in
theorem w_c32 : (Jvm.Cond.code ({ cls := "java/lang/String", name := "checkIndex", desc := "(II)V" } : Jvm.MethodName) jdk_42_method_155_code (2 : Nat) (Option.none : Option Jvm.ClassFile.FieldType)).before args0 about1 = true := code_word (m := ⟨7, 11⟩) (meth := k7m11) (c := k7c11) (by decide +kernel) rfl rfl rfl (by decide +kernel)
set_option maxRecDepth 65536 in
theorem w_c33 : (Jvm.Cond.code ({ cls := "jdk/internal/util/Preconditions", name := "checkIndex", desc := "(IILjava/util/function/BiFunction;)I" } : Jvm.MethodName) jdk_41_method_11_code (3 : Nat) (Option.some Jvm.ClassFile.FieldType.int)).before args0 about1 = true := code_word (m := ⟨12, 1⟩) (meth := k12m1) (c := k12c1) (by decide +kernel) rfl rfl rfl (by decide +kernel)
def codes1 : List Jvm.Cond := [Jvm.Cond.code x code maxLocals ret, Jvm.Cond.code ({ cls := "com/example/facet_hierarchy_store/facethierarchystore/label/LanguageTagLanguagePinLaw", name := "draw", desc := "(I)C" } : Jvm.MethodName) method_2_code (1 : Nat) (Option.some Jvm.ClassFile.FieldType.char), Jvm.Cond.code ({ cls := "com/example/facet_hierarchy_store/facethierarchystore/label/LanguageTagLanguagePinLaw", name := "make", desc := "(ICCCCC)Ljava/lang/String;" } : Jvm.MethodName) method_3_code (6 : Nat) (Option.some (Jvm.ClassFile.FieldType.object "java/lang/String")), Jvm.Cond.code ({ cls := "java/lang/String", name := "<init>", desc := "([C)V" } : Jvm.MethodName) jdk_42_method_3_code (2 : Nat) (Option.none : Option Jvm.ClassFile.FieldType), Jvm.Cond.code ({ cls := "java/lang/String", name := "<init>", desc := "([CIILjava/lang/Void;)V" } : Jvm.MethodName) jdk_42_method_149_code (6 : Nat) (Option.none : Option Jvm.ClassFile.FieldType), Jvm.Cond.code ({ cls := "java/lang/Object", name := "<init>", desc := "()V" } : Jvm.MethodName) object_method_1_code (1 : Nat) (Option.none : Option Jvm.ClassFile.FieldType), Jvm.Cond.code ({ cls := "com/example/facet_hierarchy_store/facethierarchystore/label/LanguageTagLanguagePinLaw", name := "firstDash", desc := "(ICCCCC)I" } : Jvm.MethodName) method_4_code (6 : Nat) (Option.some Jvm.ClassFile.FieldType.int), Jvm.Cond.code ({ cls := "com/example/facet_hierarchy_store/facethierarchystore/label/LanguageTag", name := "language", desc := "(Ljava/lang/String;)Ljava/lang/String;" } : Jvm.MethodName) prog_22_method_4_code (2 : Nat) (Option.some (Jvm.ClassFile.FieldType.object "java/lang/String")), Jvm.Cond.code ({ cls := "java/lang/String", name := "indexOf", desc := "(I)I" } : Jvm.MethodName) jdk_42_method_79_code (2 : Nat) (Option.some Jvm.ClassFile.FieldType.int), Jvm.Cond.code ({ cls := "java/lang/String", name := "indexOf", desc := "(II)I" } : Jvm.MethodName) jdk_42_method_80_code (3 : Nat) (Option.some Jvm.ClassFile.FieldType.int), Jvm.Cond.code ({ cls := "java/lang/String", name := "isLatin1", desc := "()Z" } : Jvm.MethodName) jdk_42_method_154_code (1 : Nat) (Option.some Jvm.ClassFile.FieldType.boolean), Jvm.Cond.code ({ cls := "java/lang/String", name := "length", desc := "()I" } : Jvm.MethodName) jdk_42_method_54_code (1 : Nat) (Option.some Jvm.ClassFile.FieldType.int), Jvm.Cond.code ({ cls := "java/lang/String", name := "coder", desc := "()B" } : Jvm.MethodName) jdk_42_method_152_code (1 : Nat) (Option.some Jvm.ClassFile.FieldType.byte), Jvm.Cond.code ({ cls := "java/lang/StringLatin1", name := "indexOf", desc := "([BIII)I" } : Jvm.MethodName) jdk_43_method_22_code (4 : Nat) (Option.some Jvm.ClassFile.FieldType.int), Jvm.Cond.code ({ cls := "java/lang/StringLatin1", name := "canEncode", desc := "(I)Z" } : Jvm.MethodName) jdk_43_method_4_code (1 : Nat) (Option.some Jvm.ClassFile.FieldType.boolean), Jvm.Cond.code ({ cls := "java/lang/Math", name := "max", desc := "(II)I" } : Jvm.MethodName) jdk_29_method_65_code (2 : Nat) (Option.some Jvm.ClassFile.FieldType.int), Jvm.Cond.code ({ cls := "java/lang/Math", name := "min", desc := "(II)I" } : Jvm.MethodName) jdk_29_method_69_code (2 : Nat) (Option.some Jvm.ClassFile.FieldType.int), Jvm.Cond.code ({ cls := "com/example/facet_hierarchy_store/facethierarchystore/label/LanguageTagLanguagePinLaw", name := "agree", desc := "(Ljava/lang/String;Ljava/lang/String;II)Z" } : Jvm.MethodName) method_5_code (4 : Nat) (Option.some Jvm.ClassFile.FieldType.boolean), Jvm.Cond.code ({ cls := "java/lang/StringUTF16", name := "compress", desc := "([CII)[B" } : Jvm.MethodName) jdk_52_method_16_code (6 : Nat) (Option.some (Jvm.ClassFile.FieldType.array Jvm.ClassFile.FieldType.byte)), Jvm.Cond.code ({ cls := "java/lang/StringUTF16", name := "compress", desc := "([CI[BII)I" } : Jvm.MethodName) jdk_52_method_21_code (7 : Nat) (Option.some Jvm.ClassFile.FieldType.int), Jvm.Cond.code ({ cls := "java/lang/StringUTF16", name := "coderFromArrayLen", desc := "([BI)B" } : Jvm.MethodName) jdk_52_method_15_code (2 : Nat) (Option.some Jvm.ClassFile.FieldType.byte), Jvm.Cond.code ({ cls := "java/lang/StringLatin1", name := "indexOfChar", desc := "([BIII)I" } : Jvm.MethodName) jdk_43_method_23_code (6 : Nat) (Option.some Jvm.ClassFile.FieldType.int), Jvm.Cond.code ({ cls := "java/lang/String", name := "substring", desc := "(II)Ljava/lang/String;" } : Jvm.MethodName) jdk_42_method_92_code (5 : Nat) (Option.some (Jvm.ClassFile.FieldType.object "java/lang/String")), Jvm.Cond.code ({ cls := "java/lang/String", name := "checkBoundsBeginEnd", desc := "(III)V" } : Jvm.MethodName) jdk_42_method_158_code (3 : Nat) (Option.none : Option Jvm.ClassFile.FieldType), Jvm.Cond.code ({ cls := "jdk/internal/util/Preconditions", name := "checkFromToIndex", desc := "(IIILjava/util/function/BiFunction;)I" } : Jvm.MethodName) jdk_41_method_12_code (4 : Nat) (Option.some Jvm.ClassFile.FieldType.int), Jvm.Cond.code ({ cls := "java/lang/StringLatin1", name := "newString", desc := "([BII)Ljava/lang/String;" } : Jvm.MethodName) jdk_43_method_47_code (3 : Nat) (Option.some (Jvm.ClassFile.FieldType.object "java/lang/String")), Jvm.Cond.code ({ cls := "java/util/Arrays", name := "copyOfRange", desc := "([BII)[B" } : Jvm.MethodName) jdk_65_method_132_code (3 : Nat) (Option.some (Jvm.ClassFile.FieldType.array Jvm.ClassFile.FieldType.byte)), Jvm.Cond.code ({ cls := "java/util/Arrays", name := "copyOfRangeByte", desc := "([BII)[B" } : Jvm.MethodName) jdk_65_method_133_code (5 : Nat) (Option.some (Jvm.ClassFile.FieldType.array Jvm.ClassFile.FieldType.byte)), Jvm.Cond.code ({ cls := "java/util/Arrays", name := "checkLength", desc := "(II)V" } : Jvm.MethodName) jdk_65_method_131_code (2 : Nat) (Option.none : Option Jvm.ClassFile.FieldType), Jvm.Cond.code ({ cls := "java/lang/String", name := "<init>", desc := "([BB)V" } : Jvm.MethodName) jdk_42_method_151_code (3 : Nat) (Option.none : Option Jvm.ClassFile.FieldType), Jvm.Cond.code ({ cls := "java/lang/String", name := "charAt", desc := "(I)C" } : Jvm.MethodName) jdk_42_method_56_code (2 : Nat) (Option.some Jvm.ClassFile.FieldType.char), Jvm.Cond.code ({ cls := "java/lang/StringLatin1", name := "charAt", desc := "([BI)C" } : Jvm.MethodName) jdk_43_method_2_code (2 : Nat) (Option.some Jvm.ClassFile.FieldType.char), Jvm.Cond.code ({ cls := "java/lang/String", name := "checkIndex", desc := "(II)V" } : Jvm.MethodName) jdk_42_method_155_code (2 : Nat) (Option.none : Option Jvm.ClassFile.FieldType), Jvm.Cond.code ({ cls := "jdk/internal/util/Preconditions", name := "checkIndex", desc := "(IILjava/util/function/BiFunction;)I" } : Jvm.MethodName) jdk_41_method_11_code (3 : Nat) (Option.some Jvm.ClassFile.FieldType.int)]
set_option maxRecDepth 65536 in
theorem codes_eq : words1.filter isCode = codes1 := rfl
theorem w_codes : ∀ c ∈ words1.filter isCode, c.before args0 about1 = true := by
  rw [codes_eq]
  intro c hc
  simp only [codes1, List.mem_cons, List.not_mem_nil, or_false] at hc
  rcases hc with rfl | rfl | rfl | rfl | rfl | rfl | rfl | rfl | rfl | rfl | rfl | rfl | rfl | rfl | rfl | rfl | rfl | rfl | rfl | rfl | rfl | rfl | rfl | rfl | rfl | rfl | rfl | rfl | rfl | rfl | rfl | rfl | rfl | rfl
  · exact w_c0
  · exact w_c1
  · exact w_c2
  · exact w_c3
  · exact w_c4
  · exact w_c5
  · exact w_c6
  · exact w_c7
  · exact w_c8
  · exact w_c9
  · exact w_c10
  · exact w_c11
  · exact w_c12
  · exact w_c13
  · exact w_c14
  · exact w_c15
  · exact w_c16
  · exact w_c17
  · exact w_c18
  · exact w_c19
  · exact w_c20
  · exact w_c21
  · exact w_c22
  · exact w_c23
  · exact w_c24
  · exact w_c25
  · exact w_c26
  · exact w_c27
  · exact w_c28
  · exact w_c29
  · exact w_c30
  · exact w_c31
  · exact w_c32
  · exact w_c33
set_option maxRecDepth 65536 in
theorem w_t1 : (words1.take 24).all (fun c => isCode c || c.before args0 about1) = true := by decide +kernel
set_option maxRecDepth 65536 in
theorem w_t2 : ((words1.drop 24).take 24).all (fun c => isCode c || c.before args0 about1) = true := by decide +kernel
set_option maxRecDepth 65536 in
theorem w_t3 : (((words1.drop 24).drop 24).take 24).all (fun c => isCode c || c.before args0 about1) = true := by decide +kernel
set_option maxRecDepth 65536 in
theorem w_t4 : ((((words1.drop 24).drop 24).drop 24).take 24).all (fun c => isCode c || c.before args0 about1) = true := by decide +kernel
set_option maxRecDepth 65536 in
theorem w_t5 : (((((words1.drop 24).drop 24).drop 24).drop 24).take 24).all (fun c => isCode c || c.before args0 about1) = true := by decide +kernel
set_option maxRecDepth 65536 in
theorem w_t6 : ((((((words1.drop 24).drop 24).drop 24).drop 24).drop 24).take 24).all (fun c => isCode c || c.before args0 about1) = true := by decide +kernel
set_option maxRecDepth 65536 in
theorem w_t7 : ((((((words1.drop 24).drop 24).drop 24).drop 24).drop 24).drop 24).all (fun c => isCode c || c.before args0 about1) = true := by decide +kernel
theorem w_tables : (allAtoms (Jvm.Cond.code x code maxLocals ret :: tables_1)).before args0 about1 = true := by
  rw [allAtoms_all]
  show words1.all (fun c => c.before args0 about1) = true
  refine all_split ?_ w_codes
  rw [← List.take_append_drop 24 words1, List.all_append, w_t1, ← List.take_append_drop 24 (words1.drop 24), List.all_append, w_t2, ← List.take_append_drop 24 ((words1.drop 24).drop 24), List.all_append, w_t3, ← List.take_append_drop 24 (((words1.drop 24).drop 24).drop 24), List.all_append, w_t4, ← List.take_append_drop 24 ((((words1.drop 24).drop 24).drop 24).drop 24), List.all_append, w_t5, ← List.take_append_drop 24 (((((words1.drop 24).drop 24).drop 24).drop 24).drop 24), List.all_append, w_t6, w_t7]
  rfl
set_option maxRecDepth 65536 in
theorem w_rest : rest_1_c.before args0 about1 = true := by decide +kernel
set_option maxRecDepth 65536 in
theorem w_case : (Jvm.Cond.and given_1 narrow_1).before args0 about1 = true := by decide +kernel
set_option maxRecDepth 65536 in
theorem w_consts : constsHeld consts_1 about1 := Jvm.Lit.constsHeldB_iff.mp (by decide +kernel)
theorem w_applies : (headSpec (Jvm.Cond.code x code maxLocals ret :: tables_1) room_1).applies x e0.platform about1 = true :=
  (Spec.applies_iff w_frames).mpr ⟨w_running, w_runnable, w_alone, w_named, w_hears, w_ripe, w_room, w_tables⟩
theorem atStart : AtStart classFile x code maxLocals ret World_1 tables_1 room_1 Calls_1 rest_1 Pre_1 launch0 p0 e0 about1 theMethod args0 below0 :=
  ⟨lists_1, trivial, launch0.admits_env _ _ _, launch0.least_env, fairChoices_fair.cas, fairChoices_fair.clock, w_frames, w_args, w_heap, w_applies, ⟨w_consts, trivial⟩, w_rest, w_case⟩
end start1
theorem witness_1 : WitnessClaimed_1 := ⟨start1.p0, start1.e0, start1.about1, start1.theMethod, start1.args0, start1.below0, start1.atStart⟩
end Jvm.Pilot.@@N@@
