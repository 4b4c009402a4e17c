import JvmDerived
import JvmDerived.Pilot.@@N@@Statement
import JvmDerived.Pilot.@@N@@Code
set_option linter.unusedVariables false
set_option linter.unusedSimpArgs false
namespace Jvm.OwnKit
open Sem ClassFile Op Lib Jvm.Stand Jvm.Free Jvm.LawKit Jvm.RoadKit
/-- from S the run comes to a state of which P holds -/
def Go (tb : Tables) (e : Env) (below : List Frame) (P : State → Prop) (S : State) : Prop := ∃ t, Steps tb e below S t ∧ P t
theorem Go.st {tb : Tables} {e : Env} {below : List Frame} {P : State → Prop} {S S' : State} (h : ∀ t, Steps tb e below S' t → Steps tb e below S t) (g : Go tb e below P S') : Go tb e below P S := by
  obtain ⟨t, h1, h2⟩ := g
  exact ⟨t, h t h1, h2⟩
theorem Go.cast {tb : Tables} {e : Env} {below : List Frame} {P : State → Prop} {T : State} {g g' : JFrame} (q : g = g') (k : Go tb e below P (T.setTop g')) : Go tb e below P (T.setTop g) := q ▸ k
/-- the invocation of s has returned, and Q says what -/
def Fine (s : State) (below : List Frame) (Q : Option Value → Heap → List Loc → Prop) (kc ks : Nat) (t : State) : Prop := ∃ o, t.status = .running ∧ Ended t below o ∧ ∃ v L, o = .returned v ∧ Q v t.heap L ∧ FrameEnd s o t L kc ks
/-- a method's contract, over the tables of the start Z: called with 'as' at the heap h0 it returns, and Q says what -/
def Con (l : Launch) (Z : State) (y : MethodName) (bytes : ByteArray) (maxL : Nat) (ret : Option FieldType) (ws : List Jvm.Cond) (rm : Room) (as : Array Value) (h0 : Heap) (Q : Option Value → Heap → List Loc → Prop) : Prop :=
  MetFree l y (head1 (Jvm.Cond.code y bytes maxL ret :: ws) rm) (fun a U => a = as ∧ Z.Warmed39 U.vm ∧ U.heap = h0) (fun _ _ _ _ _ => True) (fun _ U o U' => ∃ v L, o = .returned v ∧ Q v U'.heap L ∧ FrameEnd U o U' L rm.cells rm.slots)
theorem Con.of {l : Launch} {Z : State} {y : MethodName} {bytes : ByteArray} {maxL : Nat} {ret : Option FieldType} {ws : List Jvm.Cond} {rm : Room} {as : Array Value} {h0 : Heap} {Q : Option Value → Heap → List Loc → Prop} (hpl : plainFor y = true)
    (body : ∀ (p : Program) (e : Env) (s : State) (m : MethodId) (below : List Frame) (meth : Method) (c : Code) (s₁ : State), Z.Warmed39 s.vm → s₁.heap = h0 → Stand p l e rm s m as below meth c s₁ [] 0 0 → p.tables.exec = Jvm.exec → c.code = bytes → c.maxLocals = maxL → s.vm.findClass y.cls = some m.cls → meth.name = y.name → meth.sig.returnType = ret → meth.locks = false →
      Go p.tables e below (Fine s below Q rm.cells rm.slots) (s₁.setTop (entryFrame m as maxL))) : Con l Z y bytes maxL ret ws rm as h0 Q := by
  refine MetFree.of_bodySF hpl hisR ?_
  intro p e s m args below meth c s₁ Bd hml hP hK
  obtain ⟨rfl, hZ, hh⟩ := hP
  have e0 : s₁.heap = h0 := by rw [← hh, Bd.state]; rfl
  obtain ⟨t, h1, o, h2, h3, h4⟩ := body p e s m below meth c s₁ hZ e0 (Stand.of_body Bd) Bd.exec Bd.bytes hml (findClass_of_methodNamed Bd.named) (name_of_methodNamed Bd.named Bd.method).1 Bd.returns Bd.notSynchronized
  exact ⟨t, o, h1, h2, h3, h4⟩
def bi (P : Prop) [Decidable P] : Int32 := if P then 1 else 0
theorem bi_t {P : Prop} [Decidable P] (h : P) : bi P = 1 := if_pos h
theorem bi_f {P : Prop} [Decidable P] (h : ¬ P) : bi P = 0 := if_neg h
theorem eqL_v {args : Array Value} {first s : State} {o : Option Outcome} {idx : List Nat} {t : Term} {k : Int64} (h : (Cond.eq t (.long k)).value args first o s idx = some true) : t.eval args first o idx s = some (.long k) := by
  obtain ⟨x, y, ev, ey, -, hk⟩ := cmp_v (Or.inl h)
  obtain rfl : Value.long k = y := Option.some.inj ey
  obtain ⟨z, rfl⟩ := hk
  obtain rfl : z = k := gotT (eq_L ev ey) h
  exact ev
theorem eqI_v {args : Array Value} {first s : State} {o : Option Outcome} {idx : List Nat} {t : Term} {k : Int32} (h : (Cond.eq t (.int k)).value args first o s idx = some true) : t.eval args first o idx s = some (.int k) := by
  obtain ⟨x, y, ev, ey, -, hk⟩ := cmp_v (Or.inl h)
  obtain rfl : Value.int k = y := Option.some.inj ey
  obtain ⟨z, rfl⟩ := hk
  have q : (Cond.eq t (.int k)).value args first o s idx = some (decide (z = k)) := by simp [Cond.value, ev, ey]
  obtain rfl : z = k := gotT q h
  exact ev
section
variable {p : Program} {l : Launch} {e : Env} {R : Room} {s : State} {m : MethodId} {args : Array Value} {below : List Frame} {meth : Method} {c : Code} {T : State} {locs : List Loc} {cells slots : Nat} {Z : State} {a0 : Array Value} {h : Heap}
theorem fin {Q : Option Value → Heap → List Loc → Prop} {kc ks : Nat} {v : Option Value} {S : State} (X : Stand p l e R s m args below meth c T locs cells slots) (hv : meth.sig.returnType = none → v = none) (hlk : meth.locks = false) (hq : Q v T.heap locs) (hc : cells ≤ kc) (hs : slots ≤ ks)
    (st : ∀ fs, (∀ (f : JFrame) (acts : List Action), f.method = m → f.locked = none → f.entered = [] → (doReturn e (T.setTop f) acts v).1 = T.setFrames fs) → Steps p.tables e below S (T.setFrames fs)) : Go p.tables e below (Fine s below Q kc ks) S := by
  obtain ⟨fs, hr, hrun, hended, hW, hsame⟩ := X.leave (v := v) hv hlk
  exact ⟨_, st fs hr, _, hrun, hended, v, locs, rfl, hq, ⟨_, rfl⟩, hW, hsame.mono hc hs⟩
/-- return of an int, a long, a reference (no narrowing) -/
theorem endW {Q : Option Value → Heap → List Loc → Prop} {kc ks : Nat} (X : Stand p l e R s m args below meth c T locs cells slots) (hx : p.tables.exec = Jvm.exec) (hlk : meth.locks = false) {pc : Nat} {Ls : Array Slot} {w : Value} {t : FieldType} {i : Instr} {rest : List Value} (hret : meth.sig.returnType = some t) (hn : narrow t w = w)
    (hi : (i = .ireturn ∧ (t = .int ∨ t = .boolean ∨ t = .byte ∨ t = .char ∨ t = .short) ∧ ∃ z, w = .int z) ∨ (i = .lreturn ∧ t = .long ∧ ∃ z, w = .long z) ∨ (i = .dreturn ∧ t = .double ∧ ∃ z, w = .double z) ∨ (i = .freturn ∧ t = .float ∧ ∃ z, w = .float z) ∨ (i = .areturn ∧ t.isReference = true ∧ w.isRef = true))
    (hd : decode c.code pc = .ok (i, 1)) (hq : Q (some w) T.heap locs) (hc : cells ≤ kc) (hs : slots ≤ ks) : Go p.tables e below (Fine s below Q kc ks) (T.setTop (mkF m pc Ls (w :: rest))) :=
  fin X (fun h => by rw [hret] at h; cases h) hlk hq hc hs fun fs hr => retOut X hx hret hn hi hd hr
theorem endI {Q : Option Value → Heap → List Loc → Prop} {kc ks : Nat} (X : Stand p l e R s m args below meth c T locs cells slots) (hx : p.tables.exec = Jvm.exec) (hlk : meth.locks = false) {pc : Nat} {Ls : Array Slot} {z : Int32} {rest : List Value} (hret : meth.sig.returnType = some .int)
    (hd : decode c.code pc = .ok (.ireturn, 1)) (hq : Q (some (.int z)) T.heap locs) (hc : cells ≤ kc) (hs : slots ≤ ks) : Go p.tables e below (Fine s below Q kc ks) (T.setTop (mkF m pc Ls (.int z :: rest))) :=
  endW X hx hlk hret rfl (Or.inl ⟨rfl, Or.inl rfl, z, rfl⟩) hd hq hc hs
theorem endJ {Q : Option Value → Heap → List Loc → Prop} {kc ks : Nat} (X : Stand p l e R s m args below meth c T locs cells slots) (hx : p.tables.exec = Jvm.exec) (hlk : meth.locks = false) {pc : Nat} {Ls : Array Slot} {z : Int64} {rest : List Value} (hret : meth.sig.returnType = some .long)
    (hd : decode c.code pc = .ok (.lreturn, 1)) (hq : Q (some (.long z)) T.heap locs) (hc : cells ≤ kc) (hs : slots ≤ ks) : Go p.tables e below (Fine s below Q kc ks) (T.setTop (mkF m pc Ls (.long z :: rest))) :=
  endW X hx hlk hret rfl (Or.inr (Or.inl ⟨rfl, rfl, z, rfl⟩)) hd hq hc hs
theorem endD {Q : Option Value → Heap → List Loc → Prop} {kc ks : Nat} (X : Stand p l e R s m args below meth c T locs cells slots) (hx : p.tables.exec = Jvm.exec) (hlk : meth.locks = false) {pc : Nat} {Ls : Array Slot} {z : UInt64} {rest : List Value} (hret : meth.sig.returnType = some .double)
    (hd : decode c.code pc = .ok (.dreturn, 1)) (hq : Q (some (.double z)) T.heap locs) (hc : cells ≤ kc) (hs : slots ≤ ks) : Go p.tables e below (Fine s below Q kc ks) (T.setTop (mkF m pc Ls (.double z :: rest))) :=
  endW X hx hlk hret rfl (Or.inr (Or.inr (Or.inl ⟨rfl, rfl, z, rfl⟩))) hd hq hc hs
theorem endR {Q : Option Value → Heap → List Loc → Prop} {kc ks : Nat} (X : Stand p l e R s m args below meth c T locs cells slots) (hx : p.tables.exec = Jvm.exec) (hlk : meth.locks = false) {pc : Nat} {Ls : Array Slot} {w : Value} {t : FieldType} {rest : List Value} (hret : meth.sig.returnType = some t) (ht : t.isReference = true) (hw : w.isRef = true)
    (hd : decode c.code pc = .ok (.areturn, 1)) (hq : Q (some w) T.heap locs) (hc : cells ≤ kc) (hs : slots ≤ ks) : Go p.tables e below (Fine s below Q kc ks) (T.setTop (mkF m pc Ls (w :: rest))) :=
  endW X hx hlk hret (by cases w <;> first | rfl | (cases t <;> first | rfl | cases ht) | cases hw) (Or.inr (Or.inr (Or.inr (Or.inr ⟨rfl, ht, hw⟩)))) hd hq hc hs
/-- return of a boolean, byte, char or short: narrowed -/
theorem endN {Q : Option Value → Heap → List Loc → Prop} {kc ks : Nat} (X : Stand p l e R s m args below meth c T locs cells slots) (hx : p.tables.exec = Jvm.exec) (hlk : meth.locks = false) {pc : Nat} {Ls : Array Slot} {z w : Int32} {t : FieldType} {rest : List Value} (hret : meth.sig.returnType = some t) (ht : t = .boolean ∨ t = .byte ∨ t = .char ∨ t = .short)
    (hd : decode c.code pc = .ok (.ireturn, 1)) (hz : nar t z = w) (hq : Q (some (.int w)) T.heap locs) (hc : cells ≤ kc) (hs : slots ≤ ks) : Go p.tables e below (Fine s below Q kc ks) (T.setTop (mkF m pc Ls (.int z :: rest))) := by
  subst hz
  exact fin X (fun h => by rw [hret] at h; cases h) hlk hq hc hs fun fs hr => retN X hx hret ht hd hr
theorem endV {Q : Option Value → Heap → List Loc → Prop} {kc ks : Nat} (X : Stand p l e R s m args below meth c T locs cells slots) (hx : p.tables.exec = Jvm.exec) (hlk : meth.locks = false) {pc : Nat} {Ls : Array Slot} (hret : meth.sig.returnType = none)
    (hd : decode c.code pc = .ok (.return_, 1)) (hq : Q none T.heap locs) (hc : cells ≤ kc) (hs : slots ≤ ks) : Go p.tables e below (Fine s below Q kc ks) (T.setTop (mkF m pc Ls [])) :=
  fin X (fun _ => rfl) hlk hq hc hs fun fs hr => X.returnOut hx hret hd hr
theorem lremM {g : JFrame} {target : State} (X : Stand p l e R s m args below meth c T locs cells slots) (hx : p.tables.exec = Jvm.exec) (hg : g.method = m) {x y : Int64} {rest : List Value} (hd : decode c.code g.pc = .ok (.lrem, 1)) (hs : g.stack = .long y :: .long x :: rest) (hy : y ≠ 0)
    (hr : Steps p.tables e below (T.setTop { g with pc := g.pc + 1, stack := .long (x % y) :: rest }) target) : Steps p.tables e below (T.setTop g) target := by
  have q : x - x / y * y = x % y := lrem_mod x y
  exact XS.lrem X.here hx hg hd hs hy (by rw [q]; exact hr)
/-- a static call by its contract -/
theorem callSt (X : Stand p l e R s m args below meth c T locs cells slots) (hx : p.tables.exec = Jvm.exec) (hZ : Z.Warmed39 s.vm) {own : String} {index : Nat} {y : MethodName} {bytes : ByteArray} {maxL : Nat} {ret : Option FieldType} {rm : Room} {Q : Option Value → Heap → List Loc → Prop} {argsL rest : List Value}
    (hown : s.vm.findClass own = some m.cls) (w1 : (Cond.methodLink own index y).before a0 Z = true) (w2 : (Cond.static y).before a0 Z = true) (w3 : (Cond.initialized y.cls).before a0 Z = true) (w4 : (Cond.code y bytes maxL ret).before a0 Z = true) (hy : y.cls ≠ "java/lang/invoke/MethodHandle" ∧ y.cls ≠ "java/lang/invoke/VarHandle")
    (hM : Con l Z y bytes maxL ret [] rm argsL.toArray h Q) (eT : T.heap = h) (W : Nat) (hf : rm.frames + 1 ≤ R.frames) (hl : W + (maxL + 11) + rm.locals ≤ R.locals) (hcc : cells + rm.cells ≤ R.cells) (hss : slots + rm.slots ≤ R.slots)
    {g : JFrame} (hg : g.method = m) (hsize : g.locals.size = c.maxLocals) (hlen : ∀ sig, parseMethodDescriptor y.desc = some sig → argsL.length = sig.parameters.length)
    (hstack : g.stack = argsL.reverse ++ rest) (hW : 2 * g.monitorRoom + (rest.map fun v => v.category).sum ≤ W) (hd : decode c.code g.pc = .ok (.invokestatic index, 3)) :
    ∃ v T' L, Stand p l e R s m args below meth c T' (locs ++ L) (cells + rm.cells) (slots + rm.slots) ∧ Q v T'.heap L ∧ ∀ target, Steps p.tables e below (T'.setTop { g with pc := g.pc + 3, stack := v.toList ++ rest }) target → Steps p.tables e below (T.setTop g) target := by
  obtain ⟨v, vm1, ⟨T', L', k', n'⟩, -, X', ⟨L, hQ, l1, l2, l3⟩, st⟩ := Jvm.LawKit.callS X hx hown (mvT hZ w1) (mvT hZ w2) (mvT hZ w3) (mvT hZ w4) hy (backOf (Q := Q) (W := W) hM hZ w4 w3 hf hl) hg hsize hlen hstack hW hd (fun _ _ => ⟨rfl, eT, hcc, hss⟩)
  (try dsimp only at X' l1 l2 l3 st hQ)
  subst l1 l2 l3
  exact ⟨v, T', L, X', hQ, st⟩
/-- a constructor by its contract -/
theorem callIn (X : Stand p l e R s m args below meth c T locs cells slots) (hx : p.tables.exec = Jvm.exec) (hZ : Z.Warmed39 s.vm) {own : String} {index : Nat} {y : MethodName} {bytes : ByteArray} {maxL : Nat} {rm : Room} {Q : Option Value → Heap → List Loc → Prop} {a : Addr} {argsL rest : List Value} (hy1 : y.name = "<init>")
    (hown : s.vm.findClass own = some m.cls) (w1 : (Cond.methodLink own index y).before a0 Z = true) (w2 : (Cond.instanceMethod y).before a0 Z = true) (w3 : (Cond.initialized y.cls).before a0 Z = true) (w4 : (Cond.code y bytes maxL none).before a0 Z = true) (hy : y.cls ≠ "java/lang/invoke/MethodHandle" ∧ y.cls ≠ "java/lang/invoke/VarHandle")
    (hM : Con l Z y bytes maxL none [] rm (.ref a :: argsL).toArray h Q) (eT : T.heap = h) (W : Nat) (hf : rm.frames + 1 ≤ R.frames) (hl : W + (maxL + 11) + rm.locals ≤ R.locals) (hcc : cells + rm.cells ≤ R.cells) (hss : slots + rm.slots ≤ R.slots)
    {g : JFrame} (hg : g.method = m) (hsize : g.locals.size = c.maxLocals) (hlen : ∀ sig, parseMethodDescriptor y.desc = some sig → argsL.length = sig.parameters.length)
    (hstack : g.stack = argsL.reverse ++ .ref a :: rest) (hW : 2 * g.monitorRoom + (rest.map fun v => v.category).sum ≤ W) (hd : decode c.code g.pc = .ok (.invokespecial index, 3)) :
    ∃ v T' L, Stand p l e R s m args below meth c T' (locs ++ L) (cells + rm.cells) (slots + rm.slots) ∧ Q v T'.heap L ∧ ∀ target, Steps p.tables e below (T'.setTop { g with pc := g.pc + 3, stack := v.toList ++ rest }) target → Steps p.tables e below (T.setTop g) target := by
  obtain ⟨v, vm1, ⟨T', L', k', n'⟩, -, X', ⟨L, hQ, l1, l2, l3⟩, st⟩ := X.specialBack hx hy1 hown (mvT hZ w1) (mvT hZ w2) (mvT hZ w4) hy (backOf (Q := Q) (W := W) hM hZ w4 w3 hf hl) hg hsize (Steps.refl _) hlen hstack hW hd (fun _ _ => ⟨rfl, eT, hcc, hss⟩)
  (try dsimp only at X' l1 l2 l3 st hQ)
  subst l1 l2 l3
  exact ⟨v, T', L, X', hQ, fun target k => st.trans k⟩
theorem mvM {s : State} {a0 args : Array Value} {own host : String} {y : MethodName} {index : Nat} (hZ : Z.Warmed39 s.vm) (w : (Cond.methodLinkNest own index y host).before a0 Z = true) : (Cond.methodLinkNest own index y host).before args s = true := (Cond.methodLinkNest_wide hZ w :)
/-- a nest mate's constructor by its contract -/
theorem callInN (X : Stand p l e R s m args below meth c T locs cells slots) (hx : p.tables.exec = Jvm.exec) (hZ : Z.Warmed39 s.vm) {own host : String} {index : Nat} {y : MethodName} {bytes : ByteArray} {maxL : Nat} {rm : Room} {Q : Option Value → Heap → List Loc → Prop} {a : Addr} {argsL rest : List Value} (hy1 : y.name = "<init>")
    (hown : s.vm.findClass own = some m.cls) (w1 : (Cond.methodLinkNest own index y host).before a0 Z = true) (w2 : (Cond.instanceMethod y).before a0 Z = true) (w3 : (Cond.initialized y.cls).before a0 Z = true) (w4 : (Cond.code y bytes maxL none).before a0 Z = true) (hy : y.cls ≠ "java/lang/invoke/MethodHandle" ∧ y.cls ≠ "java/lang/invoke/VarHandle")
    (hM : Con l Z y bytes maxL none [] rm (.ref a :: argsL).toArray h Q) (eT : T.heap = h) (W : Nat) (hf : rm.frames + 1 ≤ R.frames) (hl : W + (maxL + 11) + rm.locals ≤ R.locals) (hcc : cells + rm.cells ≤ R.cells) (hss : slots + rm.slots ≤ R.slots)
    {g : JFrame} (hg : g.method = m) (hsize : g.locals.size = c.maxLocals) (hlen : ∀ sig, parseMethodDescriptor y.desc = some sig → argsL.length = sig.parameters.length)
    (hstack : g.stack = argsL.reverse ++ .ref a :: rest) (hW : 2 * g.monitorRoom + (rest.map fun v => v.category).sum ≤ W) (hd : decode c.code g.pc = .ok (.invokespecial index, 3)) :
    ∃ v T' L, Stand p l e R s m args below meth c T' (locs ++ L) (cells + rm.cells) (slots + rm.slots) ∧ Q v T'.heap L ∧ ∀ target, Steps p.tables e below (T'.setTop { g with pc := g.pc + 3, stack := v.toList ++ rest }) target → Steps p.tables e below (T.setTop g) target := by
  obtain ⟨v, vm1, ⟨T', L', k', n'⟩, -, X', ⟨L, hQ, l1, l2, l3⟩, st⟩ := X.specialBackNest hx hy1 hown (mvM hZ w1) (mvT hZ w2) (mvT hZ w4) hy (backOf (Q := Q) (W := W) hM hZ w4 w3 hf hl) hg hsize (Steps.refl _) hlen hstack hW hd (fun _ _ => ⟨rfl, eT, hcc, hss⟩)
  (try dsimp only at X' l1 l2 l3 st hQ)
  subst l1 l2 l3
  exact ⟨v, T', L, X', hQ, fun target k => st.trans k⟩
/-- an instance method by the contract of the body that the receiver's class selects -/
theorem callVi (X : Stand p l e R s m args below meth c T locs cells slots) (hx : p.tables.exec = Jvm.exec) (hZ : Z.Warmed39 s.vm) {own C : String} {index : Nat} {y z : MethodName} {bytes : ByteArray} {maxL : Nat} {ret : Option FieldType} {rm : Room} {Q : Option Value → Heap → List Loc → Prop} {a : Addr} {argsL rest : List Value}
    (hown : s.vm.findClass own = some m.cls) (w1 : (Cond.methodLink own index y).before a0 Z = true) (w2 : (Cond.declares y).before a0 Z = true) (nf : NotFace s y) (w3 : (Cond.selects C y z).before a0 Z = true) (w4 : (Cond.instanceMethod z).before a0 Z = true) (w5 : (Cond.initialized z.cls).before a0 Z = true) (w6 : (Cond.code z bytes maxL ret).before a0 Z = true) (hy : y.cls ≠ "java/lang/invoke/MethodHandle" ∧ y.cls ≠ "java/lang/invoke/VarHandle")
    (hyz : z.desc = y.desc) (E : Exa Z h a C) (hM : Con l Z z bytes maxL ret [] rm (.ref a :: argsL).toArray h Q) (eT : T.heap = h) (W : Nat) (hf : rm.frames + 1 ≤ R.frames) (hl : W + (maxL + 11) + rm.locals ≤ R.locals) (hcc : cells + rm.cells ≤ R.cells) (hss : slots + rm.slots ≤ R.slots)
    {g : JFrame} (hg : g.method = m) (hsize : g.locals.size = c.maxLocals) (hlen : ∀ sig, parseMethodDescriptor y.desc = some sig → argsL.length = sig.parameters.length)
    (hstack : g.stack = argsL.reverse ++ .ref a :: rest) (hW : 2 * g.monitorRoom + (rest.map fun v => v.category).sum ≤ W) (hd : decode c.code g.pc = .ok (.invokevirtual index, 3)) :
    ∃ v T' L, Stand p l e R s m args below meth c T' (locs ++ L) (cells + rm.cells) (slots + rm.slots) ∧ Q v T'.heap L ∧ ∀ target, Steps p.tables e below (T'.setTop { g with pc := g.pc + 3, stack := v.toList ++ rest }) target → Steps p.tables e below (T.setTop g) target := by
  obtain ⟨cq, kq, qa, qb, qc⟩ := isOf hZ eT E
  obtain ⟨v, vm1, ⟨T', L', k', n'⟩, -, X', ⟨L, hQ, l1, l2, l3⟩, st⟩ := X.virtualBack hx (y := y) (z := z) hown (mvT hZ w1) (mvT hZ w2) nf (mvT hZ w3) (mvT hZ w4) hy (backOf (Q := Q) (W := W) hM hZ w6 w5 hf hl) qa qc hg hsize (Steps.refl _) hlen hstack hW hd (fun _ _ => ⟨rfl, eT, hcc, hss⟩)
  (try dsimp only at X' l1 l2 l3 st hQ)
  subst l1 l2 l3
  exact ⟨v, T', L, X', hQ, fun target k => st.trans k⟩
/-- a private instance method by its contract -/
theorem callPr (X : Stand p l e R s m args below meth c T locs cells slots) (hx : p.tables.exec = Jvm.exec) (hZ : Z.Warmed39 s.vm) {own C : String} {index : Nat} {y : MethodName} {bytes : ByteArray} {maxL : Nat} {ret : Option FieldType} {rm : Room} {Q : Option Value → Heap → List Loc → Prop} {a : Addr} {argsL rest : List Value}
    (hown : s.vm.findClass own = some m.cls) (w1 : (Cond.methodLink own index y).before a0 Z = true) (w2 : (Cond.instanceMethod y).before a0 Z = true) (w3 : (Cond.selects y.cls y y).before a0 Z = true) (w4 : (Cond.privateMethod y).before a0 Z = true) (w5 : (Cond.initialized y.cls).before a0 Z = true) (w6 : (Cond.code y bytes maxL ret).before a0 Z = true) (hy : y.cls ≠ "java/lang/invoke/MethodHandle" ∧ y.cls ≠ "java/lang/invoke/VarHandle")
    (E : Exa Z h a C) (hM : Con l Z y bytes maxL ret [] rm (.ref a :: argsL).toArray h Q) (eT : T.heap = h) (W : Nat) (hf : rm.frames + 1 ≤ R.frames) (hl : W + (maxL + 11) + rm.locals ≤ R.locals) (hcc : cells + rm.cells ≤ R.cells) (hss : slots + rm.slots ≤ R.slots)
    {g : JFrame} (hg : g.method = m) (hsize : g.locals.size = c.maxLocals) (hlen : ∀ sig, parseMethodDescriptor y.desc = some sig → argsL.length = sig.parameters.length)
    (hstack : g.stack = argsL.reverse ++ .ref a :: rest) (hW : 2 * g.monitorRoom + (rest.map fun v => v.category).sum ≤ W) (hd : decode c.code g.pc = .ok (.invokevirtual index, 3)) :
    ∃ v T' L, Stand p l e R s m args below meth c T' (locs ++ L) (cells + rm.cells) (slots + rm.slots) ∧ Q v T'.heap L ∧ ∀ target, Steps p.tables e below (T'.setTop { g with pc := g.pc + 3, stack := v.toList ++ rest }) target → Steps p.tables e below (T.setTop g) target := by
  obtain ⟨cell, q1, q2⟩ := E.cell
  obtain ⟨v, vm1, ⟨T', L', k', n'⟩, -, X', ⟨L, hQ, l1, l2, l3⟩, st⟩ := X.privateBack hx hown (mvT hZ w1) (mvT hZ w2) (mvT hZ w3) (Cond.privateMethod_at (mvP (args := args) hZ w4)) (mvT hZ w6) hy (backOf (Q := Q) (W := W) hM hZ w6 w5 hf hl) hg hsize (Steps.refl _) (by rw [eT]; exact q1) q2 hlen hstack hW hd (fun _ _ => ⟨rfl, eT, hcc, hss⟩)
  (try dsimp only at X' l1 l2 l3 st hQ)
  subst l1 l2 l3
  exact ⟨v, T', L, X', hQ, fun target k => st.trans k⟩
/-- an interface's method by the contract of the body that the receiver's class selects -/
theorem callIf (X : Stand p l e R s m args below meth c T locs cells slots) (hx : p.tables.exec = Jvm.exec) (hZ : Z.Warmed39 s.vm) {own C : String} {index count : Nat} {y z : MethodName} {bytes : ByteArray} {maxL : Nat} {ret : Option FieldType} {rm : Room} {Q : Option Value → Heap → List Loc → Prop} {a : Addr} {argsL rest : List Value}
    (hown : s.vm.findClass own = some m.cls) (w1 : (Cond.methodLink own index y).before a0 Z = true) (w2 : (Cond.declares y).before a0 Z = true) (w3 : (Cond.interfaceMethod y.cls y.cls y.name y.desc).before a0 Z = true) (w4 : (Cond.selects C y z).before a0 Z = true) (w5 : (Cond.instanceMethod z).before a0 Z = true) (w6 : (Cond.publicMethod z).before a0 Z = true) (w7 : (Cond.unhidden C y.name y.desc).before a0 Z = true) (w8 : (Cond.castable C y.cls).before a0 Z = true) (w9 : (Cond.initialized z.cls).before a0 Z = true) (w10 : (Cond.code z bytes maxL ret).before a0 Z = true) (hy : y.cls ≠ "java/lang/invoke/MethodHandle" ∧ y.cls ≠ "java/lang/invoke/VarHandle")
    (E : Exa Z h a C) (hM : Con l Z z bytes maxL ret [] rm (.ref a :: argsL).toArray h Q) (eT : T.heap = h) (W : Nat) (hf : rm.frames + 1 ≤ R.frames) (hl : W + (maxL + 11) + rm.locals ≤ R.locals) (hcc : cells + rm.cells ≤ R.cells) (hss : slots + rm.slots ≤ R.slots)
    {g : JFrame} (hg : g.method = m) (hsize : g.locals.size = c.maxLocals) (hlen : ∀ sig, parseMethodDescriptor y.desc = some sig → argsL.length = sig.parameters.length)
    (hstack : g.stack = argsL.reverse ++ .ref a :: rest) (hW : 2 * g.monitorRoom + (rest.map fun v => v.category).sum ≤ W) (hd : decode c.code g.pc = .ok (.invokeinterface index count, 5)) :
    ∃ v T' L, Stand p l e R s m args below meth c T' (locs ++ L) (cells + rm.cells) (slots + rm.slots) ∧ Q v T'.heap L ∧ ∀ target, Steps p.tables e below (T'.setTop { g with pc := g.pc + 5, stack := v.toList ++ rest }) target → Steps p.tables e below (T.setTop g) target := by
  obtain ⟨cq, kq, qa, qb, qc⟩ := isOf hZ eT E
  obtain ⟨v, vm1, ⟨T', L', k', n'⟩, -, X', ⟨L, hQ, l1, l2, l3⟩, st⟩ := X.interfaceBack hx (xi := y) (y := z) hown (mvT hZ w1) (mvT hZ w2) (mvT hZ w3 (by simp [Cond.onTables, Cond.keepsFace, Cond.faceAtom, Cond.keeps, Cond.steady, hy.1, hy.2])) (mvT hZ w4) (mvT hZ w5) (mvT hZ w6) (mvT hZ w7) (mvT hZ w8) hy (backOf (Q := Q) (W := W) hM hZ w10 w9 hf hl) qa qb qc hg hsize (Steps.refl _) hlen hstack hW hd (fun _ _ => ⟨rfl, eT, hcc, hss⟩)
  (try dsimp only at X' l1 l2 l3 st hQ)
  subst l1 l2 l3
  exact ⟨v, T', L, X', hQ, fun target k => st.trans k⟩
/-- an array whose k-th element is f k -/
def Afn (Z : State) (h : Heap) (a : Addr) (ty : FieldType) (n : Int32) (f : Nat → Value) : Prop := ∃ c : Cell, Arr Z h a c ty ∧ c.slots.size = n.toNatClampNeg ∧ ¬ n < 0 ∧ ∀ k, k < n.toNatClampNeg → c.slots[k]? = some (f k) ∧ fits ty (f k) = true
theorem Afn.lt {h : Heap} {a : Addr} {ty : FieldType} {n : Int32} {f : Nat → Value} (F : Afn Z h a ty n f) : a < h.size := by obtain ⟨c, A, -⟩ := F; exact A.lt
theorem Afn.nn {h : Heap} {a : Addr} {ty : FieldType} {n : Int32} {f : Nat → Value} (F : Afn Z h a ty n f) : ¬ n < 0 := by obtain ⟨c, -, -, q, -⟩ := F; exact q
theorem Afn.ext {h h' : Heap} {a : Addr} {ty : FieldType} {n : Int32} {f : Nat → Value} (F : Afn Z h a ty n f) (E : Ext h h') : Afn Z h' a ty n f := by obtain ⟨c, A, r⟩ := F; exact ⟨c, A.ext E, r⟩
theorem Afn.other {h h' : Heap} {a b : Addr} {ty : FieldType} {n : Int32} {f : Nat → Value} {sl : Nat} {v : Value} (F : Afn Z h b ty n f) (W : Wr h h' a sl v) (q : b ≠ a) : Afn Z h' b ty n f := by obtain ⟨c, A, r⟩ := F; exact ⟨c, A.other W q, r⟩
theorem Afn.keep {h h' : Heap} {a : Addr} {ty : FieldType} {n : Int32} {f : Nat → Value} {ws : List Addr} (F : Afn Z h a ty n f) (K : Keep h h' ws) (q : a ∉ ws) : Afn Z h' a ty n f := by obtain ⟨c, A, r⟩ := F; exact ⟨c, ⟨K.2.1 a c A.1 q, A.2⟩, r⟩
theorem Afn.congr {h : Heap} {a : Addr} {ty : FieldType} {n : Int32} {f g : Nat → Value} (F : Afn Z h a ty n f) (q : ∀ k, k < n.toNatClampNeg → f k = g k) : Afn Z h a ty n g := by
  obtain ⟨c, A, s, m, r⟩ := F
  exact ⟨c, A, s, m, fun k hk => by rw [← q k hk]; exact r k hk⟩
theorem Afn.new {h : Heap} {a : Addr} {ty : FieldType} {n : Int32} {k : ClassId} (A : Arr Z h a (newA k ty n) ty) (q : ¬ n < 0) : Afn Z h a ty n (fun _ => defaultValue ty) := by
  obtain ⟨c, B, -, s, m, H, G⟩ := Arv.new A q
  exact ⟨c, B, s, m, fun j hj => ⟨by simpa using H j (by rw [s]; exact hj), by simpa using G j (by rw [s]; exact hj)⟩⟩
theorem Afn.set {h h' : Heap} {a : Addr} {ty : FieldType} {n : Int32} {f : Nat → Value} {c : Cell} {j : Int32} {v : Value} (A : Arr Z h a c ty) (s : c.slots.size = n.toNatClampNeg) (m : ¬ n < 0) (r : ∀ k, k < n.toNatClampNeg → c.slots[k]? = some (f k) ∧ fits ty (f k) = true) (hv : fits ty v = true) (W : Wr h h' a j.toNatClampNeg v) :
    Afn Z h' a ty n (fun k => if k = j.toNatClampNeg then v else f k) := by
  refine ⟨c.setSlot j.toNatClampNeg v, A.same W, by rw [sz_set]; exact s, m, fun k hk => ?_⟩
  dsimp only
  by_cases q : k = j.toNatClampNeg
  · rw [if_pos q]
    refine ⟨?_, hv⟩
    subst q
    simp [Cell.setSlot, s, hk]
  · rw [if_neg q]
    refine ⟨?_, (r k hk).2⟩
    show (c.slots.setIfInBounds _ _)[k]? = _
    rw [Array.getElem?_setIfInBounds_ne (Ne.symm q)]
    exact (r k hk).1
theorem inbN {n j : Int32} (q : ¬ j < 0 ∧ j < n) : j.toNatClampNeg < n.toNatClampNeg := by
  obtain ⟨h1, h2⟩ := q
  rw [Int32.lt_iff_toInt_lt] at h1 h2
  have e : (0 : Int32).toInt = 0 := rfl
  simp only [Int32.toNatClampNeg]
  omega
theorem Afn.of_arv {h : Heap} {a : Addr} {k : ClassId} {ty : FieldType} {n : Int32} {vs : List Value} {d : Value} (F : Arv Z h a k ty n vs d) : Afn Z h a ty n (fun i => vs.getD i d) := by
  obtain ⟨c, A, -, s, m, H, G⟩ := F
  exact ⟨c, A, s, m, fun i hi => ⟨H i (by rw [s]; exact hi), G i (by rw [s]; exact hi)⟩⟩
theorem ns_root {O K : String} {n : Nat} (w : (Cond.noSuperclass O).before a0 Z = true) (wk : (Cond.instantiable K n).before a0 Z = true) (hn : O ≠ K) : NS Z O K := by
  obtain ⟨c, k, h1, h2, h3, -, -⟩ := Cond.noSuperclass_spec w
  obtain ⟨t, kt, g1, -⟩ := Cond.instantiable_spec wk
  have ne := ids_ne h1 g1 hn
  refine ⟨c, t, h1, g1, fun fuel => ?_⟩
  cases fuel with
  | zero => rfl
  | succ f => simp [Vm.isSubclassAux, ne, h2, h3]
theorem ns_no {C S K : String} {n : Nat} (w : (Cond.superclass C S).before a0 Z = true) (wk : (Cond.instantiable K n).before a0 Z = true) (q : NS Z C K) (hn : C ≠ K) : ∃ c t, Z.vm.findClass C = some c ∧ Z.vm.findClass K = some t ∧ Z.vm.assignable c t = false := by
  obtain ⟨c, t, h0, g0, n3⟩ := q
  obtain ⟨p, k, kp, h1, h2, h3, h4, h5, -, h7⟩ := Cond.superclass_spec h0 w
  obtain ⟨t', kt, g1, g2, g3, g4, -⟩ := Cond.instantiable_spec wk
  cases g0.symm.trans g1
  have g5 : kt.isInterface = false := (Bool.or_eq_false_iff.mp g4).1
  have ne := ids_ne h0 g0 hn
  refine ⟨c, t, h0, g0, ?_⟩
  show Z.vm.assignableAux (255 + 1) c t = false
  simp [Vm.assignableAux, ne, h2, g2, h5, g3, g5, Vm.isSubclass, n3]
end
end Jvm.OwnKit
namespace Jvm.OwnKit
open Sem ClassFile Op Lib Jvm.Stand Jvm.Free Jvm.LawKit Jvm.RoadKit
/-- the invocation of s has returned, perhaps with new entries in the intern table; what the tables book for EL says its text -/
def FineW (Z : State) (EL : List (String × Nat)) (s : State) (below : List Frame) (Q : Option Value → Heap → List Loc → Prop) (kc ks : Nat) (t : State) : Prop := ∃ o, t.status = .running ∧ Ended t below o ∧ ∃ v L, o = .returned v ∧ Q v t.heap L ∧ CHr Z EL s.vm s.heap t.vm t.heap ∧ ReturnedEndW s o t L kc ks
/-- a contract of a method that may load String constants for the first time -/
def ConH (l : Launch) (Z : State) (EL : List (String × Nat)) (y : MethodName) (bytes : ByteArray) (maxL : Nat) (ret : Option FieldType) (ws : List Jvm.Cond) (rm : Room) (as : Array Value) (h0 : Heap) (Q : Option Value → Heap → List Loc → Prop) : Prop :=
  MetFree l y (head1 (Jvm.Cond.code y bytes maxL ret :: ws) rm) (fun a U => a = as ∧ Z.Warmed39 U.vm ∧ U.heap = h0 ∧ CHv Z EL U.vm h0) (fun _ _ _ _ _ => True) (fun _ U o U' => ∃ v L, o = .returned v ∧ Q v U'.heap L ∧ CHr Z EL U.vm U.heap U'.vm U'.heap ∧ ReturnedEndW U o U' L rm.cells rm.slots)
theorem ConH.of {l : Launch} {Z : State} {EL : List (String × Nat)} {y : MethodName} {bytes : ByteArray} {maxL : Nat} {ret : Option FieldType} {ws : List Jvm.Cond} {rm : Room} {as : Array Value} {h0 : Heap} {Q : Option Value → Heap → List Loc → Prop} (hpl : plainFor y = true)
    (body : ∀ (p : Program) (e : Env) (s : State) (m : MethodId) (below : List Frame) (meth : Method) (c : Code) (s₁ : State) (vm0 : Vm) (k0 : Nat), Z.Warmed39 vm0 → s₁.heap = h0 → Stand p l e rm (s.setVm vm0) m as below meth c s₁ [] 0 0 → p.tables.exec = Jvm.exec → c.code = bytes → c.maxLocals = maxL → vm0.findClass y.cls = some m.cls → meth.name = y.name → meth.sig.returnType = ret → meth.locks = false →
      s.Since vm0 k0 → k0 ≤ h0.size → CHv Z EL vm0 h0 → CHr Z EL s.vm s.heap vm0 h0 → Go p.tables e below (FineW Z EL s below Q rm.cells rm.slots) (s₁.setTop (entryFrame m as maxL))) : ConH l Z EL y bytes maxL ret ws rm as h0 Q := by
  refine MetFree.of_bodySF hpl hisR ?_
  intro p e s m args below meth c s₁ Bd hml hP hK
  obtain ⟨rfl, hZ, hh, hCH⟩ := hP
  have e0 : s₁.heap = h0 := by rw [← hh, Bd.state]; rfl
  have X0 : Stand p l e rm (s.setVm s.vm) m args below meth c s₁ [] 0 0 := by rw [State.setVm_self]; exact Stand.of_body Bd
  obtain ⟨t, h1, o, h2, h3, h4⟩ := body p e s m below meth c s₁ s.vm h0.size hZ e0 X0 Bd.exec Bd.bytes hml (findClass_of_methodNamed Bd.named) (name_of_methodNamed Bd.named Bd.method).1 Bd.returns Bd.notSynchronized ((State.WarmedH.refl s).since _) (Nat.le_refl _) hCH (by rw [hh]; exact CHr.refl hCH)
  exact ⟨t, o, h1, h2, h3, h4⟩
section
variable {p : Program} {l : Launch} {e : Env} {R : Room} {s : State} {m : MethodId} {args : Array Value} {below : List Frame} {meth : Method} {c : Code} {T : State} {locs : List Loc} {cells slots : Nat} {Z : State} {a0 : Array Value} {h : Heap} {vm0 : Vm} {k0 : Nat} {EL : List (String × Nat)}
theorem finW {Q : Option Value → Heap → List Loc → Prop} {kc ks : Nat} {v : Option Value} {S : State} (X : Stand p l e R (s.setVm vm0) m args below meth c T locs cells slots) (hZ : Z.Warmed39 vm0) (hS : s.Since vm0 k0) (eT : T.heap = h) (hk : k0 ≤ h.size) (hEL : EW Z a0 EL) (CH : CHv Z EL vm0 h) (CR : CHr Z EL s.vm s.heap vm0 h)
    (hv : meth.sig.returnType = none → v = none) (hlk : meth.locks = false) (hq : Q v T.heap locs) (hc : cells ≤ kc) (hs : slots ≤ ks)
    (st : ∀ fs, (∀ (f : JFrame) (acts : List Action), f.method = m → f.locked = none → f.entered = [] → (doReturn e (T.setTop f) acts v).1 = T.setFrames fs) → Steps p.tables e below S (T.setFrames fs)) : Go p.tables e below (FineW Z EL s below Q kc ks) S := by
  obtain ⟨fs, hr, hrun, hended, hRE⟩ := X.leaveW hS (by rw [eT]; exact hk) hv hlk
  refine ⟨_, st fs hr, _, hrun, hended, v, locs, rfl, hq, ?_, hRE.1, hRE.2.1, hRE.2.2.1, hRE.2.2.2.mono hc hs⟩
  have q := CR.trans (CHv.at X hZ hEL CH)
  rw [← eT] at q
  exact q
theorem endWW {Q : Option Value → Heap → List Loc → Prop} {kc ks : Nat} (X : Stand p l e R (s.setVm vm0) m args below meth c T locs cells slots) (hx : p.tables.exec = Jvm.exec) (hlk : meth.locks = false) (hZ : Z.Warmed39 vm0) (hS : s.Since vm0 k0) (eT : T.heap = h) (hk : k0 ≤ h.size) (hEL : EW Z a0 EL) (CH : CHv Z EL vm0 h) (CR : CHr Z EL s.vm s.heap vm0 h) {pc : Nat} {Ls : Array Slot} {w : Value} {t : FieldType} {i : Instr} {rest : List Value} (hret : meth.sig.returnType = some t) (hn : narrow t w = w)
    (hi : (i = .ireturn ∧ (t = .int ∨ t = .boolean ∨ t = .byte ∨ t = .char ∨ t = .short) ∧ ∃ z, w = .int z) ∨ (i = .lreturn ∧ t = .long ∧ ∃ z, w = .long z) ∨ (i = .dreturn ∧ t = .double ∧ ∃ z, w = .double z) ∨ (i = .freturn ∧ t = .float ∧ ∃ z, w = .float z) ∨ (i = .areturn ∧ t.isReference = true ∧ w.isRef = true))
    (hd : decode c.code pc = .ok (i, 1)) (hq : Q (some w) T.heap locs) (hc : cells ≤ kc) (hs : slots ≤ ks) : Go p.tables e below (FineW Z EL s below Q kc ks) (T.setTop (mkF m pc Ls (w :: rest))) :=
  finW X hZ hS eT hk hEL CH CR (fun h => by rw [hret] at h; cases h) hlk hq hc hs fun fs hr => retOut X hx hret hn hi hd hr
theorem endIW {Q : Option Value → Heap → List Loc → Prop} {kc ks : Nat} (X : Stand p l e R (s.setVm vm0) m args below meth c T locs cells slots) (hx : p.tables.exec = Jvm.exec) (hlk : meth.locks = false) (hZ : Z.Warmed39 vm0) (hS : s.Since vm0 k0) (eT : T.heap = h) (hk : k0 ≤ h.size) (hEL : EW Z a0 EL) (CH : CHv Z EL vm0 h) (CR : CHr Z EL s.vm s.heap vm0 h) {pc : Nat} {Ls : Array Slot} {z : Int32} {rest : List Value} (hret : meth.sig.returnType = some .int)
    (hd : decode c.code pc = .ok (.ireturn, 1)) (hq : Q (some (.int z)) T.heap locs) (hc : cells ≤ kc) (hs : slots ≤ ks) : Go p.tables e below (FineW Z EL s below Q kc ks) (T.setTop (mkF m pc Ls (.int z :: rest))) :=
  endWW X hx hlk hZ hS eT hk hEL CH CR hret rfl (Or.inl ⟨rfl, Or.inl rfl, z, rfl⟩) hd hq hc hs
theorem endRW {Q : Option Value → Heap → List Loc → Prop} {kc ks : Nat} (X : Stand p l e R (s.setVm vm0) m args below meth c T locs cells slots) (hx : p.tables.exec = Jvm.exec) (hlk : meth.locks = false) (hZ : Z.Warmed39 vm0) (hS : s.Since vm0 k0) (eT : T.heap = h) (hk : k0 ≤ h.size) (hEL : EW Z a0 EL) (CH : CHv Z EL vm0 h) (CR : CHr Z EL s.vm s.heap vm0 h) {pc : Nat} {Ls : Array Slot} {w : Value} {t : FieldType} {rest : List Value} (hret : meth.sig.returnType = some t) (ht : t.isReference = true) (hw : w.isRef = true)
    (hd : decode c.code pc = .ok (.areturn, 1)) (hq : Q (some w) T.heap locs) (hc : cells ≤ kc) (hs : slots ≤ ks) : Go p.tables e below (FineW Z EL s below Q kc ks) (T.setTop (mkF m pc Ls (w :: rest))) :=
  endWW X hx hlk hZ hS eT hk hEL CH CR hret (by cases w <;> first | rfl | (cases t <;> first | rfl | cases ht) | cases hw) (Or.inr (Or.inr (Or.inr (Or.inr ⟨rfl, ht, hw⟩)))) hd hq hc hs
theorem endNW {Q : Option Value → Heap → List Loc → Prop} {kc ks : Nat} (X : Stand p l e R (s.setVm vm0) m args below meth c T locs cells slots) (hx : p.tables.exec = Jvm.exec) (hlk : meth.locks = false) (hZ : Z.Warmed39 vm0) (hS : s.Since vm0 k0) (eT : T.heap = h) (hk : k0 ≤ h.size) (hEL : EW Z a0 EL) (CH : CHv Z EL vm0 h) (CR : CHr Z EL s.vm s.heap vm0 h) {pc : Nat} {Ls : Array Slot} {z w : Int32} {t : FieldType} {rest : List Value} (hret : meth.sig.returnType = some t) (ht : t = .boolean ∨ t = .byte ∨ t = .char ∨ t = .short)
    (hd : decode c.code pc = .ok (.ireturn, 1)) (hz : nar t z = w) (hq : Q (some (.int w)) T.heap locs) (hc : cells ≤ kc) (hs : slots ≤ ks) : Go p.tables e below (FineW Z EL s below Q kc ks) (T.setTop (mkF m pc Ls (.int z :: rest))) := by
  subst hz
  exact finW X hZ hS eT hk hEL CH CR (fun h => by rw [hret] at h; cases h) hlk hq hc hs fun fs hr => retN X hx hret ht hd hr
theorem endVW {Q : Option Value → Heap → List Loc → Prop} {kc ks : Nat} (X : Stand p l e R (s.setVm vm0) m args below meth c T locs cells slots) (hx : p.tables.exec = Jvm.exec) (hlk : meth.locks = false) (hZ : Z.Warmed39 vm0) (hS : s.Since vm0 k0) (eT : T.heap = h) (hk : k0 ≤ h.size) (hEL : EW Z a0 EL) (CH : CHv Z EL vm0 h) (CR : CHr Z EL s.vm s.heap vm0 h) {pc : Nat} {Ls : Array Slot} (hret : meth.sig.returnType = none)
    (hd : decode c.code pc = .ok (.return_, 1)) (hq : Q none T.heap locs) (hc : cells ≤ kc) (hs : slots ≤ ks) : Go p.tables e below (FineW Z EL s below Q kc ks) (T.setTop (mkF m pc Ls [])) :=
  finW X hZ hS eT hk hEL CH CR (fun _ => rfl) hlk hq hc hs fun fs hr => X.returnOut hx hret hd hr
theorem callStW (X : Stand p l e R (s.setVm vm0) m args below meth c T locs cells slots) (hx : p.tables.exec = Jvm.exec) (hZ : Z.Warmed39 vm0) {own : String} {index : Nat} {y : MethodName} {bytes : ByteArray} {maxL : Nat} {ret : Option FieldType} {rm : Room} {Q : Option Value → Heap → List Loc → Prop} {argsL rest : List Value}
    (hown : vm0.findClass own = some m.cls) (w1 : (Cond.methodLink own index y).before a0 Z = true) (w2 : (Cond.static y).before a0 Z = true) (w3 : (Cond.initialized y.cls).before a0 Z = true) (w4 : (Cond.code y bytes maxL ret).before a0 Z = true) (hy : y.cls ≠ "java/lang/invoke/MethodHandle" ∧ y.cls ≠ "java/lang/invoke/VarHandle")
    (hM : ConH l Z EL y bytes maxL ret [] rm argsL.toArray h Q) (eT : T.heap = h) (hEL : EW Z a0 EL) (CH : CHv Z EL vm0 h) (hS : s.Since vm0 k0) (hk : k0 ≤ h.size) (W : Nat) (hf : rm.frames + 1 ≤ R.frames) (hl : W + (maxL + 11) + rm.locals ≤ R.locals) (hcc : cells + rm.cells ≤ R.cells) (hss : slots + rm.slots ≤ R.slots)
    {g : JFrame} (hg : g.method = m) (hsize : g.locals.size = c.maxLocals) (hlen : ∀ sig, parseMethodDescriptor y.desc = some sig → argsL.length = sig.parameters.length)
    (hstack : g.stack = argsL.reverse ++ rest) (hW : 2 * g.monitorRoom + (rest.map fun v => v.category).sum ≤ W) (hd : decode c.code g.pc = .ok (.invokestatic index, 3)) :
    ∃ v T' L, Stand p l e R (s.setVm T'.vm) m args below meth c T' (locs ++ L) (cells + rm.cells) (slots + rm.slots) ∧ Q v T'.heap L ∧ CHr Z EL vm0 h T'.vm T'.heap ∧ s.Since T'.vm T'.heap.size ∧ Z.Warmed39 T'.vm ∧ T'.vm.findClass own = some m.cls ∧ ∀ target, Steps p.tables e below (T'.setTop { g with pc := g.pc + 3, stack := v.toList ++ rest }) target → Steps p.tables e below (T.setTop g) target := by
  obtain ⟨v, vm1, ⟨T', L', k', n'⟩, -, X', hS2, hgr, ⟨L, hQ, l1, l2, l3, hC⟩, st⟩ := callSS X hx hown (mvT (s := s.setVm vm0) hZ w1) (mvT (s := s.setVm vm0) hZ w2) (mvT (s := s.setVm vm0) hZ w3) (mvT (s := s.setVm vm0) hZ w4) hy (backOfSH (Q := Q) (W := W) hM hZ w4 w3 hf hl hEL CH) hg hsize hlen hstack hW hd (fun _ _ => ⟨rfl, eT, hcc, hss⟩)
  (try dsimp only at X' l1 l2 l3 st hQ hC hS2 hgr)
  subst l1 l2 l3
  obtain ⟨Y, hS3, hZ3, hown3⟩ := rebS hS (n1 := T.heap.size) (by rw [eT]; exact hk) X' hS2 hgr hZ hown
  exact ⟨v, T', L, Y, hQ, hC, hS3, hZ3, hown3, fun target k => st.trans k⟩
theorem callInW (X : Stand p l e R (s.setVm vm0) m args below meth c T locs cells slots) (hx : p.tables.exec = Jvm.exec) (hZ : Z.Warmed39 vm0) {own : String} {index : Nat} {y : MethodName} {bytes : ByteArray} {maxL : Nat} {rm : Room} {Q : Option Value → Heap → List Loc → Prop} {a : Addr} {argsL rest : List Value} (hy1 : y.name = "<init>")
    (hown : vm0.findClass own = some m.cls) (w1 : (Cond.methodLink own index y).before a0 Z = true) (w2 : (Cond.instanceMethod y).before a0 Z = true) (w3 : (Cond.initialized y.cls).before a0 Z = true) (w4 : (Cond.code y bytes maxL none).before a0 Z = true) (hy : y.cls ≠ "java/lang/invoke/MethodHandle" ∧ y.cls ≠ "java/lang/invoke/VarHandle")
    (hM : ConH l Z EL y bytes maxL none [] rm (.ref a :: argsL).toArray h Q) (eT : T.heap = h) (hEL : EW Z a0 EL) (CH : CHv Z EL vm0 h) (hS : s.Since vm0 k0) (hk : k0 ≤ h.size) (W : Nat) (hf : rm.frames + 1 ≤ R.frames) (hl : W + (maxL + 11) + rm.locals ≤ R.locals) (hcc : cells + rm.cells ≤ R.cells) (hss : slots + rm.slots ≤ R.slots)
    {g : JFrame} (hg : g.method = m) (hsize : g.locals.size = c.maxLocals) (hlen : ∀ sig, parseMethodDescriptor y.desc = some sig → argsL.length = sig.parameters.length)
    (hstack : g.stack = argsL.reverse ++ .ref a :: rest) (hW : 2 * g.monitorRoom + (rest.map fun v => v.category).sum ≤ W) (hd : decode c.code g.pc = .ok (.invokespecial index, 3)) :
    ∃ v T' L, Stand p l e R (s.setVm T'.vm) m args below meth c T' (locs ++ L) (cells + rm.cells) (slots + rm.slots) ∧ Q v T'.heap L ∧ CHr Z EL vm0 h T'.vm T'.heap ∧ s.Since T'.vm T'.heap.size ∧ Z.Warmed39 T'.vm ∧ T'.vm.findClass own = some m.cls ∧ ∀ target, Steps p.tables e below (T'.setTop { g with pc := g.pc + 3, stack := v.toList ++ rest }) target → Steps p.tables e below (T.setTop g) target := by
  obtain ⟨v, vm1, ⟨T', L', k', n'⟩, -, X', hS2, hgr, ⟨L, hQ, l1, l2, l3, hC⟩, st⟩ := X.specialBackS hx hy1 hown (mvT (s := s.setVm vm0) hZ w1) (mvT (s := s.setVm vm0) hZ w2) (mvT (s := s.setVm vm0) hZ w4) hy (backOfSH (Q := Q) (W := W) hM hZ w4 w3 hf hl hEL CH) hg hsize (Steps.refl _) hlen hstack hW hd (fun _ _ => ⟨rfl, eT, hcc, hss⟩)
  (try dsimp only at X' l1 l2 l3 st hQ hC hS2 hgr)
  subst l1 l2 l3
  obtain ⟨Y, hS3, hZ3, hown3⟩ := rebS hS (n1 := T.heap.size) (by rw [eT]; exact hk) X' hS2 hgr hZ hown
  exact ⟨v, T', L, Y, hQ, hC, hS3, hZ3, hown3, fun target k => st.trans k⟩
theorem callViW (X : Stand p l e R (s.setVm vm0) m args below meth c T locs cells slots) (hx : p.tables.exec = Jvm.exec) (hZ : Z.Warmed39 vm0) {own C : String} {index : Nat} {y z : MethodName} {bytes : ByteArray} {maxL : Nat} {ret : Option FieldType} {rm : Room} {Q : Option Value → Heap → List Loc → Prop} {a : Addr} {argsL rest : List Value}
    (hown : vm0.findClass own = some m.cls) (w1 : (Cond.methodLink own index y).before a0 Z = true) (w2 : (Cond.declares y).before a0 Z = true) (nf : NotFace (s.setVm vm0) y) (w3 : (Cond.selects C y z).before a0 Z = true) (w4 : (Cond.instanceMethod z).before a0 Z = true) (w5 : (Cond.initialized z.cls).before a0 Z = true) (w6 : (Cond.code z bytes maxL ret).before a0 Z = true) (hy : y.cls ≠ "java/lang/invoke/MethodHandle" ∧ y.cls ≠ "java/lang/invoke/VarHandle")
    (hyz : z.desc = y.desc) (E : Exa Z h a C) (hM : ConH l Z EL z bytes maxL ret [] rm (.ref a :: argsL).toArray h Q) (eT : T.heap = h) (hEL : EW Z a0 EL) (CH : CHv Z EL vm0 h) (hS : s.Since vm0 k0) (hk : k0 ≤ h.size) (W : Nat) (hf : rm.frames + 1 ≤ R.frames) (hl : W + (maxL + 11) + rm.locals ≤ R.locals) (hcc : cells + rm.cells ≤ R.cells) (hss : slots + rm.slots ≤ R.slots)
    {g : JFrame} (hg : g.method = m) (hsize : g.locals.size = c.maxLocals) (hlen : ∀ sig, parseMethodDescriptor y.desc = some sig → argsL.length = sig.parameters.length)
    (hstack : g.stack = argsL.reverse ++ .ref a :: rest) (hW : 2 * g.monitorRoom + (rest.map fun v => v.category).sum ≤ W) (hd : decode c.code g.pc = .ok (.invokevirtual index, 3)) :
    ∃ v T' L, Stand p l e R (s.setVm T'.vm) m args below meth c T' (locs ++ L) (cells + rm.cells) (slots + rm.slots) ∧ Q v T'.heap L ∧ CHr Z EL vm0 h T'.vm T'.heap ∧ s.Since T'.vm T'.heap.size ∧ Z.Warmed39 T'.vm ∧ T'.vm.findClass own = some m.cls ∧ ∀ target, Steps p.tables e below (T'.setTop { g with pc := g.pc + 3, stack := v.toList ++ rest }) target → Steps p.tables e below (T.setTop g) target := by
  obtain ⟨cq, kq, qa, qb, qc⟩ := isOf (s := s.setVm vm0) hZ eT E
  obtain ⟨v, vm1, ⟨T', L', k', n'⟩, -, X', hS2, hgr, ⟨L, hQ, l1, l2, l3, hC⟩, st⟩ := X.virtualBackS hx (y := y) (z := z) hown (mvT (s := s.setVm vm0) hZ w1) (mvT (s := s.setVm vm0) hZ w2) nf (mvT (s := s.setVm vm0) hZ w3) (mvT (s := s.setVm vm0) hZ w4) hy (backOfSH (Q := Q) (W := W) hM hZ w6 w5 hf hl hEL CH) qa qc hg hsize (Steps.refl _) hlen hstack hW hd (fun _ _ => ⟨rfl, eT, hcc, hss⟩)
  (try dsimp only at X' l1 l2 l3 st hQ hC hS2 hgr)
  subst l1 l2 l3
  obtain ⟨Y, hS3, hZ3, hown3⟩ := rebS hS (n1 := T.heap.size) (by rw [eT]; exact hk) X' hS2 hgr hZ hown
  exact ⟨v, T', L, Y, hQ, hC, hS3, hZ3, hown3, fun target k => st.trans k⟩
end
end Jvm.OwnKit
namespace Jvm.Pilot.@@N@@
open Jvm Jvm.ClassFile Sem Op Lib Jvm.Free Jvm.Stand Jvm.LawKit Jvm.RoadKit Jvm.OwnKit Bundle Jvm.Pilot.@@N@@.Jvm.D
theorem own_nar (x : Int32) (h : 0 ≤ x.toInt ∧ x.toInt ≤ 255) : nar .char x = x := by
  have q := c_i2c x
  apply Int32.toInt_inj.mp
  show (x.toUInt32.toUInt16.toUInt32.toInt32).toInt = x.toInt
  omega
theorem own_ch (z v : Int32) (h : ((z &&& (255 : Int32)).toUInt32.toUInt16.toUInt32.toInt32) = v) : ¬ v < (0 : Int32) ∧ ¬ (255 : Int32) < v ∧ nar .char v = v := by
  have q := c_and z 255 (by decide)
  have e0 : (0 : Int32).toInt = 0 := rfl
  have e5 : (255 : Int32).toInt = 255 := rfl
  have r := c_i2c (z &&& 255)
  rw [h] at r
  have e : 0 ≤ v.toInt ∧ v.toInt ≤ 255 := by omega
  refine ⟨?_, ?_, own_nar _ e⟩ <;> rw [Int32.lt_iff_toInt_lt] <;> omega
def csL (l : List Int32) (k : Nat) : Int32 := l.getD k 0
theorem own_csb (l : List Int32) (h : ∀ x ∈ l, ¬ x < (0 : Int32) ∧ ¬ (255 : Int32) < x) (k : Nat) : ¬ csL l k < (0 : Int32) ∧ ¬ (255 : Int32) < csL l k := by
  unfold csL
  rw [List.getD_eq_getElem?_getD]
  by_cases z : k < l.length
  · rw [List.getElem?_eq_getElem z]
    exact h _ (List.getElem_mem z)
  · rw [List.getElem?_eq_none (Nat.le_of_not_lt z)]
    decide
theorem own_cs5 (x0 x1 x2 x3 x4 : Int32) (h0 : nar .char x0 = x0) (h1 : nar .char x1 = x1) (h2 : nar .char x2 = x2) (h3 : nar .char x3 = x3) (h4 : nar .char x4 = x4) (k : Nat) (hk : k < (5 : Int32).toNatClampNeg) : (if k = (4 : Int32).toNatClampNeg then Value.int (nar .char x4) else (if k = (3 : Int32).toNatClampNeg then Value.int (nar .char x3) else (if k = (2 : Int32).toNatClampNeg then Value.int (nar .char x2) else (if k = (1 : Int32).toNatClampNeg then Value.int (nar .char x1) else (if k = (0 : Int32).toNatClampNeg then Value.int (nar .char x0) else Value.int (0 : Int32)))))) = Value.int (csL [x0, x1, x2, x3, x4] k) := by
  have e0 : (0 : Int32).toNatClampNeg = 0 := rfl
  have e1 : (1 : Int32).toNatClampNeg = 1 := rfl
  have e2 : (2 : Int32).toNatClampNeg = 2 := rfl
  have e3 : (3 : Int32).toNatClampNeg = 3 := rfl
  have e4 : (4 : Int32).toNatClampNeg = 4 := rfl
  have e : (5 : Int32).toNatClampNeg = 5 := rfl
  rw [e] at hk
  have q : k = 0 ∨ k = 1 ∨ k = 2 ∨ k = 3 ∨ k = 4 := by omega
  rcases q with rfl | rfl | rfl | rfl | rfl <;> simp [csL, e0, e1, e2, e3, e4, h0, h1, h2, h3, h4]
theorem own_cs4 (x0 x1 x2 x3 : Int32) (h0 : nar .char x0 = x0) (h1 : nar .char x1 = x1) (h2 : nar .char x2 = x2) (h3 : nar .char x3 = x3) (k : Nat) (hk : k < (4 : Int32).toNatClampNeg) : (if k = (3 : Int32).toNatClampNeg then Value.int (nar .char x3) else (if k = (2 : Int32).toNatClampNeg then Value.int (nar .char x2) else (if k = (1 : Int32).toNatClampNeg then Value.int (nar .char x1) else (if k = (0 : Int32).toNatClampNeg then Value.int (nar .char x0) else Value.int (0 : Int32))))) = Value.int (csL [x0, x1, x2, x3] k) := by
  have e0 : (0 : Int32).toNatClampNeg = 0 := rfl
  have e1 : (1 : Int32).toNatClampNeg = 1 := rfl
  have e2 : (2 : Int32).toNatClampNeg = 2 := rfl
  have e3 : (3 : Int32).toNatClampNeg = 3 := rfl
  have e : (4 : Int32).toNatClampNeg = 4 := rfl
  rw [e] at hk
  have q : k = 0 ∨ k = 1 ∨ k = 2 ∨ k = 3 := by omega
  rcases q with rfl | rfl | rfl | rfl <;> simp [csL, e0, e1, e2, e3, h0, h1, h2, h3]
theorem own_cs3 (x0 x1 x2 : Int32) (h0 : nar .char x0 = x0) (h1 : nar .char x1 = x1) (h2 : nar .char x2 = x2) (k : Nat) (hk : k < (3 : Int32).toNatClampNeg) : (if k = (2 : Int32).toNatClampNeg then Value.int (nar .char x2) else (if k = (1 : Int32).toNatClampNeg then Value.int (nar .char x1) else (if k = (0 : Int32).toNatClampNeg then Value.int (nar .char x0) else Value.int (0 : Int32)))) = Value.int (csL [x0, x1, x2] k) := by
  have e0 : (0 : Int32).toNatClampNeg = 0 := rfl
  have e1 : (1 : Int32).toNatClampNeg = 1 := rfl
  have e2 : (2 : Int32).toNatClampNeg = 2 := rfl
  have e : (3 : Int32).toNatClampNeg = 3 := rfl
  rw [e] at hk
  have q : k = 0 ∨ k = 1 ∨ k = 2 := by omega
  rcases q with rfl | rfl | rfl <;> simp [csL, e0, e1, e2, h0, h1, h2]
theorem own_cs2 (x0 x1 : Int32) (h0 : nar .char x0 = x0) (h1 : nar .char x1 = x1) (k : Nat) (hk : k < (2 : Int32).toNatClampNeg) : (if k = (1 : Int32).toNatClampNeg then Value.int (nar .char x1) else (if k = (0 : Int32).toNatClampNeg then Value.int (nar .char x0) else Value.int (0 : Int32))) = Value.int (csL [x0, x1] k) := by
  have e0 : (0 : Int32).toNatClampNeg = 0 := rfl
  have e1 : (1 : Int32).toNatClampNeg = 1 := rfl
  have e : (2 : Int32).toNatClampNeg = 2 := rfl
  rw [e] at hk
  have q : k = 0 ∨ k = 1 := by omega
  rcases q with rfl | rfl <;> simp [csL, e0, e1, h0, h1]
theorem own_inc (n i : Int32) (h0 : ¬ i < (0 : Int32)) (h : i < n) : ¬ (i + (1 : Int32)) < (0 : Int32) ∧ ¬ n < (i + (1 : Int32)) ∧ (i + (1 : Int32)).toNatClampNeg = i.toNatClampNeg + 1 ∧ i.toNatClampNeg < n.toNatClampNeg := by
  have q := c_iadd i 1
  have r := rng32 (i + 1)
  have r2 := rng32 n
  have e1 : (1 : Int32).toInt = 1 := rfl
  have e0 : (0 : Int32).toInt = 0 := rfl
  simp only [Int32.lt_iff_toInt_lt, Int32.toNatClampNeg] at *
  omega
theorem own_b8 (x : Int32) : (x.toInt8.toInt32).toInt8.toInt32 = x.toInt8.toInt32 := by rw [Int8.toInt8_toInt32]
theorem own_lf (cf : Nat → Int32) (i : Int32) (k : Nat) : (if k = i.toNatClampNeg then Value.int (((cf i.toNatClampNeg).toInt8.toInt32).toInt8.toInt32) else Value.int (if k < i.toNatClampNeg then (cf k).toInt8.toInt32 else 0)) = Value.int (if k < i.toNatClampNeg + 1 then (cf k).toInt8.toInt32 else 0) := by
  by_cases z : k = i.toNatClampNeg
  · subst z
    simp [own_b8]
  · have q : (k < i.toNatClampNeg + 1) = (k < i.toNatClampNeg) := by simp only [eq_iff_iff]; omega
    simp [z, q]
theorem d10_0 : decode jdk_52_method_21_code 0 = .ok (.iconst 0, 1) := by decide +kernel
theorem d10_1 : decode jdk_52_method_21_code 1 = .ok (.istore 5, 2) := by decide +kernel
theorem d10_3 : decode jdk_52_method_21_code 3 = .ok (.iload 5, 2) := by decide +kernel
theorem d10_5 : decode jdk_52_method_21_code 5 = .ok (.iload 4, 2) := by decide +kernel
theorem d10_7 : decode jdk_52_method_21_code 7 = .ok (.if_icmp .ge 37, 3) := by decide +kernel
theorem d10_10 : decode jdk_52_method_21_code 10 = .ok (.aload_n 0, 1) := by decide +kernel
theorem d10_11 : decode jdk_52_method_21_code 11 = .ok (.iload_n 1, 1) := by decide +kernel
theorem d10_12 : decode jdk_52_method_21_code 12 = .ok (.caload, 1) := by decide +kernel
theorem d10_13 : decode jdk_52_method_21_code 13 = .ok (.istore 6, 2) := by decide +kernel
theorem d10_15 : decode jdk_52_method_21_code 15 = .ok (.iload 6, 2) := by decide +kernel
theorem d10_17 : decode jdk_52_method_21_code 17 = .ok (.sipush 255, 3) := by decide +kernel
theorem d10_20 : decode jdk_52_method_21_code 20 = .ok (.if_icmp .le 6, 3) := by decide +kernel
theorem d10_23 : decode jdk_52_method_21_code 23 = .ok (.iload 5, 2) := by decide +kernel
theorem d10_25 : decode jdk_52_method_21_code 25 = .ok (.ireturn, 1) := by decide +kernel
theorem d10_26 : decode jdk_52_method_21_code 26 = .ok (.aload_n 2, 1) := by decide +kernel
theorem d10_27 : decode jdk_52_method_21_code 27 = .ok (.iload_n 3, 1) := by decide +kernel
theorem d10_28 : decode jdk_52_method_21_code 28 = .ok (.iload 6, 2) := by decide +kernel
theorem d10_30 : decode jdk_52_method_21_code 30 = .ok (.i2b, 1) := by decide +kernel
theorem d10_31 : decode jdk_52_method_21_code 31 = .ok (.bastore, 1) := by decide +kernel
theorem d10_32 : decode jdk_52_method_21_code 32 = .ok (.iinc 1 1, 3) := by decide +kernel
theorem d10_35 : decode jdk_52_method_21_code 35 = .ok (.iinc 3 1, 3) := by decide +kernel
theorem d10_38 : decode jdk_52_method_21_code 38 = .ok (.iinc 5 1, 3) := by decide +kernel
theorem d10_41 : decode jdk_52_method_21_code 41 = .ok (.goto (-38), 3) := by decide +kernel
theorem d10_44 : decode jdk_52_method_21_code 44 = .ok (.iload 4, 2) := by decide +kernel
theorem d10_46 : decode jdk_52_method_21_code 46 = .ok (.ireturn, 1) := by decide +kernel
theorem pn_rm10 : plainName "java/lang/StringUTF16" = true := by first | (simp [plainName, overriddenIn]; done) | decide +kernel
theorem ef_rm10 (m : MethodId) (a1 : Addr) (a3 : Addr) (n : Int32) : entryFrame m #[(.ref a1), (.int (0 : Int32)), (.ref a3), (.int (0 : Int32)), (.int n)] 7 = mkF m 0 #[.val (.ref a1), .val (.int (0 : Int32)), .val (.ref a3), .val (.int (0 : Int32)), .val (.int n), .unset, .unset] [] := by first | (simp [entryFrame, mkF, argsToLocals, Value.category]; done) | rfl
def Q10 (Z : State) (a1 : Addr) (a3 : Addr) (n : Int32) (cf : Nat → Int32) (h0 : Heap) (n0 : Nat) (v : Option Value) (h : Heap) (L : List Loc) : Prop := v = some (.int n) ∧ Fr n0 L ∧ Keep h0 h [a3] ∧ Afn Z h a3 .byte n (fun k => .int ((cf k).toInt8.toInt32))
set_option maxRecDepth 65536 in
set_option maxHeartbeats 40000000 in
theorem rm10 (l : Launch) (Z : State) (a0 : Array Value) (hw : ∀ d ∈ tables_1, d.before a0 Z = true) (ws : List Jvm.Cond) (a1 : Addr) (a3 : Addr) (n : Int32) (cf : Nat → Int32) (h0 : Heap) (n0 : Nat) (Z0 : n0 ≤ h0.size) (V1 : Afn Z h0 a1 .char n (fun k => .int (cf k))) (V3 : Afn Z h0 a3 .byte n (fun _ => .int (0 : Int32))) (hcb : ∀ k, k < n.toNatClampNeg → ¬ cf k < (0 : Int32) ∧ ¬ (255 : Int32) < cf k) (hne : a1 ≠ a3) (g3 : n0 ≤ a3) :
    Con l Z (⟨"java/lang/StringUTF16", "compress", "([CI[BII)I"⟩ : MethodName) jdk_52_method_21_code 7 (some .int) ws ({ frames := 0, cells := 0, slots := 0, locals := 0 } : Room) #[(.ref a1), (.int (0 : Int32)), (.ref a3), (.int (0 : Int32)), (.int n)] h0 (Q10 Z a1 a3 n cf h0 n0) := by
  refine Con.of (plainFor_of_name pn_rm10) ?_
  intro p e s m below meth c s₁ hZ e0 X0 hx hby hml hown hnm hret hlk
  replace hml : c.maxLocals = 7 := hml
  have hown : s.vm.findClass "java/lang/StringUTF16" = some m.cls := hown
  have N0 : Fr n0 [] := Fr.nil n0
  obtain ⟨PP, hPP⟩ : ∃ P, P = Fine s below (Q10 Z a1 a3 n cf h0 n0) ({ frames := 0, cells := 0, slots := 0, locals := 0 } : Room).cells ({ frames := 0, cells := 0, slots := 0, locals := 0 } : Room).slots := ⟨_, rfl⟩
  rw [← hPP]
  refine Go.cast (ef_rm10 m a1 a3 n) ?_
  have K : Keep h0 h0 [a3] := Keep.refl h0 _
  have Zn : n0 ≤ h0.size := Z0
  show Go p.tables e below PP (s₁.setTop (mkF m 0 #[.val (.ref a1), .val (.int (0 : Int32)), .val (.ref a3), .val (.int (0 : Int32)), .val (.int n), .unset, .unset] []))
  refine Go.st (fun t k => XS.iconst X0.here hx rfl (hb hby d10_0) k) ?_
  show Go p.tables e below PP (s₁.setTop (mkF m 1 #[.val (.ref a1), .val (.int (0 : Int32)), .val (.ref a3), .val (.int (0 : Int32)), .val (.int n), .unset, .unset] [(.int (0 : Int32))]))
  refine Go.st (fun t k => XS.istore X0.here hx rfl (hb hby d10_1) rfl (l' := #[.val (.ref a1), .val (.int (0 : Int32)), .val (.ref a3), .val (.int (0 : Int32)), .val (.int n), .val (.int (0 : Int32)), .unset]) rfl k) ?_
  have J3 : ∀ (d1 : Nat) (T1 : State) (L1 : List Loc) (h1 : Heap) (i : Int32) (s6 : Slot), Stand p l e ({ frames := 0, cells := 0, slots := 0, locals := 0 } : Room) s m #[(.ref a1), (.int (0 : Int32)), (.ref a3), (.int (0 : Int32)), (.int n)] below meth c T1 L1 0 0 → T1.heap = h1 → Fr n0 L1 → Afn Z h1 a1 .char n (fun k => .int (cf k)) → Afn Z h1 a3 .byte n (fun k => .int (if k < i.toNatClampNeg then (cf k).toInt8.toInt32 else 0)) → Keep h0 h1 [a3] → n0 ≤ h1.size → (¬ i < (0 : Int32) ∧ ¬ n < i ∧ (s6 = .unset ∨ ∃ z, s6 = .val (.int z))) → n.toNatClampNeg - i.toNatClampNeg = d1 → Go p.tables e below PP (T1.setTop (mkF m 3 #[.val (.ref a1), .val (.int i), .val (.ref a3), .val (.int i), .val (.int n), .val (.int i), s6] [])) := by
    clear V1
    clear V3
    clear Zn K
    intro d1
    induction d1 using Nat.strongRecOn with
    | _ d1 ih1 =>
      intro T1 L1 h1 i s6 X1 e1 N1 V1 V3 K Zn hJ3 hd1
      show Go p.tables e below PP (T1.setTop (mkF m 3 #[.val (.ref a1), .val (.int i), .val (.ref a3), .val (.int i), .val (.int n), .val (.int i), s6] []))
      refine Go.st (fun t k => XS.iload X1.here hx rfl (hb hby d10_3) rfl k) ?_
      show Go p.tables e below PP (T1.setTop (mkF m 5 #[.val (.ref a1), .val (.int i), .val (.ref a3), .val (.int i), .val (.int n), .val (.int i), s6] [(.int i)]))
      refine Go.st (fun t k => XS.iload X1.here hx rfl (hb hby d10_5) rfl k) ?_
      show Go p.tables e below PP (T1.setTop (mkF m 7 #[.val (.ref a1), .val (.int i), .val (.ref a3), .val (.int i), .val (.int n), .val (.int i), s6] [(.int n), (.int i)]))
      by_cases hc7 : i < n
      · --
        refine Go.st (fun t k => XS.icmpNo X1.here hx rfl (hb hby d10_7) rfl (XT.ii_ge_f hc7) k) ?_
        show Go p.tables e below PP (T1.setTop (mkF m 10 #[.val (.ref a1), .val (.int i), .val (.ref a3), .val (.int i), .val (.int n), .val (.int i), s6] []))
        refine Go.st (fun t k => XS.aloadN X1.here hx rfl (hb hby d10_10) rfl rfl k) ?_
        show Go p.tables e below PP (T1.setTop (mkF m 11 #[.val (.ref a1), .val (.int i), .val (.ref a3), .val (.int i), .val (.int n), .val (.int i), s6] [(.ref a1)]))
        refine Go.st (fun t k => XS.iloadN X1.here hx rfl (hb hby d10_11) rfl k) ?_
        show Go p.tables e below PP (T1.setTop (mkF m 12 #[.val (.ref a1), .val (.int i), .val (.ref a3), .val (.int i), .val (.int n), .val (.int i), s6] [(.int i), (.ref a1)]))
        obtain ⟨cl2, Ar2, S2, Nn2, H2⟩ := id V1
        have hin2 : ¬ (i < 0 ∨ cl2.slots.size ≤ (i).toNatClampNeg) := inb_of S2 ⟨hJ3.1, hc7⟩
        refine Go.st (fun t k => X1.caload hx (j := i) (v := (.int (cf i.toNatClampNeg))) (by rw [e1]; exact Ar2.1) (State.isArrayOf_alike hZ.alike Ar2.2.1) Ar2.2.2 hin2 ((H2 _ (inbN ⟨hJ3.1, hc7⟩)).1.trans (congrArg some (rfl))) (g := (mkF m 12 #[.val (.ref a1), .val (.int i), .val (.ref a3), .val (.int i), .val (.int n), .val (.int i), s6] [(.int i), (.ref a1)])) rfl rfl (hb hby d10_12) _ k) ?_
        show Go p.tables e below PP (T1.setTop (mkF m 13 #[.val (.ref a1), .val (.int i), .val (.ref a3), .val (.int i), .val (.int n), .val (.int i), s6] [(.int (cf i.toNatClampNeg))]))
        refine Go.st (fun t k => XS.istore X1.here hx rfl (hb hby d10_13) rfl (l' := #[.val (.ref a1), .val (.int i), .val (.ref a3), .val (.int i), .val (.int n), .val (.int i), .val (.int (cf i.toNatClampNeg))]) (by rcases hJ3.2.2 with rfl | ⟨z, rfl⟩ <;> rfl) k) ?_
        show Go p.tables e below PP (T1.setTop (mkF m 15 #[.val (.ref a1), .val (.int i), .val (.ref a3), .val (.int i), .val (.int n), .val (.int i), .val (.int (cf i.toNatClampNeg))] []))
        refine Go.st (fun t k => XS.iload X1.here hx rfl (hb hby d10_15) rfl k) ?_
        show Go p.tables e below PP (T1.setTop (mkF m 17 #[.val (.ref a1), .val (.int i), .val (.ref a3), .val (.int i), .val (.int n), .val (.int i), .val (.int (cf i.toNatClampNeg))] [(.int (cf i.toNatClampNeg))]))
        refine Go.st (fun t k => XS.sipush X1.here hx rfl (hb hby d10_17) k) ?_
        show Go p.tables e below PP (T1.setTop (mkF m 20 #[.val (.ref a1), .val (.int i), .val (.ref a3), .val (.int i), .val (.int n), .val (.int i), .val (.int (cf i.toNatClampNeg))] [(.int (255 : Int32)), (.int (cf i.toNatClampNeg))]))
        refine Go.st (fun t k => XS.icmpYes X1.here hx rfl (pc0 := 20) (pc' := 26) rfl (hb hby d10_20) rfl (XT.ii_le_t (hcb _ (inbN ⟨hJ3.1, hc7⟩)).2) (by decide) (by decide) k) ?_
        show Go p.tables e below PP (T1.setTop (mkF m 26 #[.val (.ref a1), .val (.int i), .val (.ref a3), .val (.int i), .val (.int n), .val (.int i), .val (.int (cf i.toNatClampNeg))] []))
        refine Go.st (fun t k => XS.aloadN X1.here hx rfl (hb hby d10_26) rfl rfl k) ?_
        show Go p.tables e below PP (T1.setTop (mkF m 27 #[.val (.ref a1), .val (.int i), .val (.ref a3), .val (.int i), .val (.int n), .val (.int i), .val (.int (cf i.toNatClampNeg))] [(.ref a3)]))
        refine Go.st (fun t k => XS.iloadN X1.here hx rfl (hb hby d10_27) rfl k) ?_
        show Go p.tables e below PP (T1.setTop (mkF m 28 #[.val (.ref a1), .val (.int i), .val (.ref a3), .val (.int i), .val (.int n), .val (.int i), .val (.int (cf i.toNatClampNeg))] [(.int i), (.ref a3)]))
        refine Go.st (fun t k => XS.iload X1.here hx rfl (hb hby d10_28) rfl k) ?_
        show Go p.tables e below PP (T1.setTop (mkF m 30 #[.val (.ref a1), .val (.int i), .val (.ref a3), .val (.int i), .val (.int n), .val (.int i), .val (.int (cf i.toNatClampNeg))] [(.int (cf i.toNatClampNeg)), (.int i), (.ref a3)]))
        refine Go.st (fun t k => XS.i2b X1.here hx rfl (hb hby d10_30) rfl k) ?_
        show Go p.tables e below PP (T1.setTop (mkF m 31 #[.val (.ref a1), .val (.int i), .val (.ref a3), .val (.int i), .val (.int n), .val (.int i), .val (.int (cf i.toNatClampNeg))] [(.int ((cf i.toNatClampNeg).toInt8.toInt32)), (.int i), (.ref a3)]))
        obtain ⟨cl3, Ar3, S3, Nn3, H3⟩ := id V3
        have hin3 : ¬ (i < 0 ∨ cl3.slots.size ≤ (i).toNatClampNeg) := inb_of S3 ⟨hJ3.1, hc7⟩
        obtain ⟨T3, h3, X3, e3, W3, st3⟩ := stB X1 hx hZ e1 Ar3 (j := i) hin3 (g := (mkF m 31 #[.val (.ref a1), .val (.int i), .val (.ref a3), .val (.int i), .val (.int n), .val (.int i), .val (.int (cf i.toNatClampNeg))] [(.int ((cf i.toNatClampNeg).toInt8.toInt32)), (.int i), (.ref a3)])) rfl rfl (hb hby d10_31)
        refine Go.st st3 ?_
        have N3 := Fr.snoc X3 N1 g3
        replace V1 := V1.other W3 hne
        replace K := K.wr W3 (Or.inl (List.mem_of_getElem? (i := 0) rfl))
        replace Zn : n0 ≤ h3.size := by rw [W3.size]; exact Zn
        replace V3 := Afn.set Ar3 S3 Nn3 H3 (fits_nar_byte _) W3
        show Go p.tables e below PP (T3.setTop (mkF m 32 #[.val (.ref a1), .val (.int i), .val (.ref a3), .val (.int i), .val (.int n), .val (.int i), .val (.int (cf i.toNatClampNeg))] []))
        refine Go.st (fun t k => XS.iinc X3.here hx rfl (hb hby d10_32) rfl (l' := #[.val (.ref a1), .val (.int (i + (1 : Int32))), .val (.ref a3), .val (.int i), .val (.int n), .val (.int i), .val (.int (cf i.toNatClampNeg))]) rfl k) ?_
        show Go p.tables e below PP (T3.setTop (mkF m 35 #[.val (.ref a1), .val (.int (i + (1 : Int32))), .val (.ref a3), .val (.int i), .val (.int n), .val (.int i), .val (.int (cf i.toNatClampNeg))] []))
        refine Go.st (fun t k => XS.iinc X3.here hx rfl (hb hby d10_35) rfl (l' := #[.val (.ref a1), .val (.int (i + (1 : Int32))), .val (.ref a3), .val (.int (i + (1 : Int32))), .val (.int n), .val (.int i), .val (.int (cf i.toNatClampNeg))]) rfl k) ?_
        show Go p.tables e below PP (T3.setTop (mkF m 38 #[.val (.ref a1), .val (.int (i + (1 : Int32))), .val (.ref a3), .val (.int (i + (1 : Int32))), .val (.int n), .val (.int i), .val (.int (cf i.toNatClampNeg))] []))
        refine Go.st (fun t k => XS.iinc X3.here hx rfl (hb hby d10_38) rfl (l' := #[.val (.ref a1), .val (.int (i + (1 : Int32))), .val (.ref a3), .val (.int (i + (1 : Int32))), .val (.int n), .val (.int (i + (1 : Int32))), .val (.int (cf i.toNatClampNeg))]) rfl k) ?_
        show Go p.tables e below PP (T3.setTop (mkF m 41 #[.val (.ref a1), .val (.int (i + (1 : Int32))), .val (.ref a3), .val (.int (i + (1 : Int32))), .val (.int n), .val (.int (i + (1 : Int32))), .val (.int (cf i.toNatClampNeg))] []))
        refine Go.st (fun t k => XS.goto X3.here hx rfl (pc0 := 41) (pc' := 3) rfl (hb hby d10_41) (by decide) (by decide) k) ?_
        show Go p.tables e below PP (T3.setTop (mkF m 3 #[.val (.ref a1), .val (.int (i + (1 : Int32))), .val (.ref a3), .val (.int (i + (1 : Int32))), .val (.int n), .val (.int (i + (1 : Int32))), .val (.int (cf i.toNatClampNeg))] []))
        exact ih1 _ (by have q := own_inc _ _ hJ3.1 hc7; omega) _ _ _ _ _ X3 e3 N3 (V1) (V3.congr (fun k _ => by have q := (own_inc _ _ hJ3.1 hc7).2.2.1; rw [q]; exact own_lf cf i k)) K Zn (⟨(own_inc _ _ hJ3.1 hc7).1, (own_inc _ _ hJ3.1 hc7).2.1, Or.inr ⟨_, rfl⟩⟩) rfl
      · --
        refine Go.st (fun t k => XS.icmpYes X1.here hx rfl (pc0 := 7) (pc' := 44) rfl (hb hby d10_7) rfl (XT.ii_ge_t hc7) (by decide) (by decide) k) ?_
        show Go p.tables e below PP (T1.setTop (mkF m 44 #[.val (.ref a1), .val (.int i), .val (.ref a3), .val (.int i), .val (.int n), .val (.int i), s6] []))
        refine Go.st (fun t k => XS.iload X1.here hx rfl (hb hby d10_44) rfl k) ?_
        show Go p.tables e below PP (T1.setTop (mkF m 46 #[.val (.ref a1), .val (.int i), .val (.ref a3), .val (.int i), .val (.int n), .val (.int i), s6] [(.int n)]))
        rw [hPP]
        refine endI X1 hx hlk hret (hb hby d10_46) ?_ (by decide) (by decide)
        show Q10 Z a1 a3 n cf h0 n0 (some (.int n)) T1.heap _
        rw [e1]
        exact ⟨rfl, N1, K, V3.congr (fun k hk => by have q : i = n := Int32.toInt_inj.mp (by have a := hJ3.2.1; rw [Int32.lt_iff_toInt_lt] at a hc7; omega); subst q; simp [hk])⟩
  show Go p.tables e below PP (s₁.setTop (mkF m 3 #[.val (.ref a1), .val (.int (0 : Int32)), .val (.ref a3), .val (.int (0 : Int32)), .val (.int n), .val (.int (0 : Int32)), .unset] []))
  exact J3 _ _ _ _ _ _ X0 e0 N0 (V1) (V3.congr (fun k _ => by simp [Int32.toNatClampNeg])) K Zn (⟨by decide, V1.nn, Or.inl rfl⟩) rfl
theorem d9_0 : decode jdk_52_method_16_code 0 = .ok (.iload_n 2, 1) := by decide +kernel
theorem d9_1 : decode jdk_52_method_16_code 1 = .ok (.newarray .byte, 2) := by decide +kernel
theorem d9_3 : decode jdk_52_method_16_code 3 = .ok (.astore_n 3, 1) := by decide +kernel
theorem d9_4 : decode jdk_52_method_16_code 4 = .ok (.aload_n 0, 1) := by decide +kernel
theorem d9_5 : decode jdk_52_method_16_code 5 = .ok (.iload_n 1, 1) := by decide +kernel
theorem d9_6 : decode jdk_52_method_16_code 6 = .ok (.aload_n 3, 1) := by decide +kernel
theorem d9_7 : decode jdk_52_method_16_code 7 = .ok (.iconst 0, 1) := by decide +kernel
theorem d9_8 : decode jdk_52_method_16_code 8 = .ok (.iload_n 2, 1) := by decide +kernel
theorem d9_9 : decode jdk_52_method_16_code 9 = .ok (.invokestatic 115, 3) := by decide +kernel
theorem d9_12 : decode jdk_52_method_16_code 12 = .ok (.istore 4, 2) := by decide +kernel
theorem d9_14 : decode jdk_52_method_16_code 14 = .ok (.iload 4, 2) := by decide +kernel
theorem d9_16 : decode jdk_52_method_16_code 16 = .ok (.iload_n 2, 1) := by decide +kernel
theorem d9_17 : decode jdk_52_method_16_code 17 = .ok (.if_icmp .eq 40, 3) := by decide +kernel
theorem d9_20 : decode jdk_52_method_16_code 20 = .ok (.aload_n 0, 1) := by decide +kernel
theorem d9_21 : decode jdk_52_method_16_code 21 = .ok (.iload_n 1, 1) := by decide +kernel
theorem d9_22 : decode jdk_52_method_16_code 22 = .ok (.iload_n 2, 1) := by decide +kernel
theorem d9_23 : decode jdk_52_method_16_code 23 = .ok (.invokestatic 119, 3) := by decide +kernel
theorem d9_26 : decode jdk_52_method_16_code 26 = .ok (.astore 5, 2) := by decide +kernel
theorem d9_28 : decode jdk_52_method_16_code 28 = .ok (.aload 5, 2) := by decide +kernel
theorem d9_30 : decode jdk_52_method_16_code 30 = .ok (.iload 4, 2) := by decide +kernel
theorem d9_32 : decode jdk_52_method_16_code 32 = .ok (.invokestatic 71, 3) := by decide +kernel
theorem d9_35 : decode jdk_52_method_16_code 35 = .ok (.sipush 255, 3) := by decide +kernel
theorem d9_38 : decode jdk_52_method_16_code 38 = .ok (.if_icmp .gt 16, 3) := by decide +kernel
theorem d9_41 : decode jdk_52_method_16_code 41 = .ok (.aload 5, 2) := by decide +kernel
theorem d9_43 : decode jdk_52_method_16_code 43 = .ok (.iconst 0, 1) := by decide +kernel
theorem d9_44 : decode jdk_52_method_16_code 44 = .ok (.aload_n 3, 1) := by decide +kernel
theorem d9_45 : decode jdk_52_method_16_code 45 = .ok (.iconst 0, 1) := by decide +kernel
theorem d9_46 : decode jdk_52_method_16_code 46 = .ok (.iload_n 2, 1) := by decide +kernel
theorem d9_47 : decode jdk_52_method_16_code 47 = .ok (.invokestatic 123, 3) := by decide +kernel
theorem d9_50 : decode jdk_52_method_16_code 50 = .ok (.iload_n 2, 1) := by decide +kernel
theorem d9_51 : decode jdk_52_method_16_code 51 = .ok (.if_icmp .eq 6, 3) := by decide +kernel
theorem d9_54 : decode jdk_52_method_16_code 54 = .ok (.aload 5, 2) := by decide +kernel
theorem d9_56 : decode jdk_52_method_16_code 56 = .ok (.areturn, 1) := by decide +kernel
theorem d9_57 : decode jdk_52_method_16_code 57 = .ok (.aload_n 3, 1) := by decide +kernel
theorem d9_58 : decode jdk_52_method_16_code 58 = .ok (.areturn, 1) := by decide +kernel
theorem pn_rm9 : plainName "java/lang/StringUTF16" = true := by first | (simp [plainName, overriddenIn]; done) | decide +kernel
theorem ef_rm9 (m : MethodId) (a1 : Addr) (n : Int32) : entryFrame m #[(.ref a1), (.int (0 : Int32)), (.int n)] 6 = mkF m 0 #[.val (.ref a1), .val (.int (0 : Int32)), .val (.int n), .unset, .unset, .unset] [] := by first | (simp [entryFrame, mkF, argsToLocals, Value.category]; done) | rfl
def Q9 (Z : State) (a1 : Addr) (n : Int32) (cf : Nat → Int32) (h0 : Heap) (n0 : Nat) (v : Option Value) (h : Heap) (L : List Loc) : Prop := (∃ b : Addr, v = some (.ref b) ∧ h0.size ≤ b ∧ Afn Z h b .byte n (fun k => .int ((cf k).toInt8.toInt32))) ∧ Fr n0 L ∧ Keep h0 h []
theorem pd_0 : parseMethodDescriptor "([CI[BII)I" = some ⟨[(.array .char), .int, (.array .byte), .int, .int], some .int⟩ := by decide +kernel
set_option maxRecDepth 65536 in
set_option maxHeartbeats 40000000 in
theorem rm9 (l : Launch) (Z : State) (a0 : Array Value) (hw : ∀ d ∈ tables_1, d.before a0 Z = true) (ws : List Jvm.Cond) (a1 : Addr) (n : Int32) (cf : Nat → Int32) (h0 : Heap) (n0 : Nat) (Z0 : n0 ≤ h0.size) (V1 : Afn Z h0 a1 .char n (fun k => .int (cf k))) (hcb : ∀ k, k < n.toNatClampNeg → ¬ cf k < (0 : Int32) ∧ ¬ (255 : Int32) < cf k) (hcap : n.toNatClampNeg ≤ 2) :
    Con l Z (⟨"java/lang/StringUTF16", "compress", "([CII)[B"⟩ : MethodName) jdk_52_method_16_code 6 (some (.array .byte)) ws ({ frames := 1, cells := 1, slots := 2, locals := 20 } : Room) #[(.ref a1), (.int (0 : Int32)), (.int n)] h0 (Q9 Z a1 n cf h0 n0) := by
  refine Con.of (plainFor_of_name pn_rm9) ?_
  intro p e s m below meth c s₁ hZ e0 X0 hx hby hml hown hnm hret hlk
  replace hml : c.maxLocals = 6 := hml
  have hown : s.vm.findClass "java/lang/StringUTF16" = some m.cls := hown
  have N0 : Fr n0 [] := Fr.nil n0
  obtain ⟨PP, hPP⟩ : ∃ P, P = Fine s below (Q9 Z a1 n cf h0 n0) ({ frames := 1, cells := 1, slots := 2, locals := 20 } : Room).cells ({ frames := 1, cells := 1, slots := 2, locals := 20 } : Room).slots := ⟨_, rfl⟩
  rw [← hPP]
  refine Go.cast (ef_rm9 m a1 n) ?_
  have K : Keep h0 h0 [] := Keep.refl h0 _
  have Zn : n0 ≤ h0.size := Z0
  show Go p.tables e below PP (s₁.setTop (mkF m 0 #[.val (.ref a1), .val (.int (0 : Int32)), .val (.int n), .unset, .unset, .unset] []))
  refine Go.st (fun t k => XS.iloadN X0.here hx rfl (hb hby d9_0) rfl k) ?_
  show Go p.tables e below PP (s₁.setTop (mkF m 1 #[.val (.ref a1), .val (.int (0 : Int32)), .val (.int n), .unset, .unset, .unset] [(.int n)]))
  obtain ⟨T1, h1, k1, X1, e1, E1, A1, st1⟩ := newP X0 hx hZ (hw _ (List.mem_of_getElem? (i := 25) rfl)) e0 (g := (mkF m 1 #[.val (.ref a1), .val (.int (0 : Int32)), .val (.int n), .unset, .unset, .unset] [(.int n)])) rfl (hb hby d9_1) rfl V1.nn (cap := 2) hcap (by decide) (by decide) (by decide)
  obtain ⟨b1, gz1⟩ : ∃ z, z = h0.size := ⟨_, rfl⟩
  rw [← gz1] at A1 st1
  have ne_a1_b1 : a1 ≠ b1 := Nat.ne_of_lt (Nat.lt_of_lt_of_le V1.lt (Nat.le_of_eq gz1.symm))
  have g_b1 : n0 ≤ b1 := Nat.le_trans Zn (Nat.le_of_eq gz1.symm)
  have sz_b1 : h0.size ≤ b1 := Nat.le_trans K.1 (Nat.le_of_eq gz1.symm)
  refine Go.st st1 ?_
  replace V1 := V1.ext E1
  replace K := K.ext E1
  replace Zn := Nat.le_trans Zn E1.1
  have V_b1 : Afn Z h1 b1 .byte n (fun _ => (.int (0 : Int32))) := Afn.new A1 V1.nn
  show Go p.tables e below PP (T1.setTop (mkF m 3 #[.val (.ref a1), .val (.int (0 : Int32)), .val (.int n), .unset, .unset, .unset] [(.ref b1)]))
  refine Go.st (fun t k => XS.astoreN X1.here hx rfl (hb hby d9_3) rfl rfl (l' := #[.val (.ref a1), .val (.int (0 : Int32)), .val (.int n), .val (.ref b1), .unset, .unset]) rfl k) ?_
  show Go p.tables e below PP (T1.setTop (mkF m 4 #[.val (.ref a1), .val (.int (0 : Int32)), .val (.int n), .val (.ref b1), .unset, .unset] []))
  refine Go.st (fun t k => XS.aloadN X1.here hx rfl (hb hby d9_4) rfl rfl k) ?_
  show Go p.tables e below PP (T1.setTop (mkF m 5 #[.val (.ref a1), .val (.int (0 : Int32)), .val (.int n), .val (.ref b1), .unset, .unset] [(.ref a1)]))
  refine Go.st (fun t k => XS.iloadN X1.here hx rfl (hb hby d9_5) rfl k) ?_
  show Go p.tables e below PP (T1.setTop (mkF m 6 #[.val (.ref a1), .val (.int (0 : Int32)), .val (.int n), .val (.ref b1), .unset, .unset] [(.int (0 : Int32)), (.ref a1)]))
  refine Go.st (fun t k => XS.aloadN X1.here hx rfl (hb hby d9_6) rfl rfl k) ?_
  show Go p.tables e below PP (T1.setTop (mkF m 7 #[.val (.ref a1), .val (.int (0 : Int32)), .val (.int n), .val (.ref b1), .unset, .unset] [(.ref b1), (.int (0 : Int32)), (.ref a1)]))
  refine Go.st (fun t k => XS.iconst X1.here hx rfl (hb hby d9_7) k) ?_
  show Go p.tables e below PP (T1.setTop (mkF m 8 #[.val (.ref a1), .val (.int (0 : Int32)), .val (.int n), .val (.ref b1), .unset, .unset] [(.int (0 : Int32)), (.ref b1), (.int (0 : Int32)), (.ref a1)]))
  refine Go.st (fun t k => XS.iloadN X1.here hx rfl (hb hby d9_8) rfl k) ?_
  show Go p.tables e below PP (T1.setTop (mkF m 9 #[.val (.ref a1), .val (.int (0 : Int32)), .val (.int n), .val (.ref b1), .unset, .unset] [(.int n), (.int (0 : Int32)), (.ref b1), (.int (0 : Int32)), (.ref a1)]))
  obtain ⟨v2, T2, L2, X2, hQ2, st2⟩ := callSt X1 hx hZ (y := (⟨"java/lang/StringUTF16", "compress", "([CI[BII)I"⟩ : MethodName)) (argsL := [(.ref a1), (.int (0 : Int32)), (.ref b1), (.int (0 : Int32)), (.int n)]) (rest := []) hown (hw _ (List.mem_of_getElem? (i := 62) rfl)) (hw _ (List.mem_of_getElem? (i := 63) rfl)) (hw _ (List.mem_of_getElem? (i := 60) rfl)) (hw _ (List.mem_of_getElem? (i := 64) rfl)) (by decide) (rm10 l Z a0 hw [] a1 b1 n cf h1 n0 Zn V1 V_b1 hcb ne_a1_b1 g_b1) e1 0 (by decide) (by decide) (by decide) (by decide) (g := (mkF m 9 #[.val (.ref a1), .val (.int (0 : Int32)), .val (.int n), .val (.ref b1), .unset, .unset] [(.int n), (.int (0 : Int32)), (.ref b1), (.int (0 : Int32)), (.ref a1)])) rfl (by rw [hml]; rfl) (lenOf pd_0 rfl) rfl (by show 2 * 0 + _ ≤ _; exact Nat.le_of_eq rfl) (hb hby d9_9)
  obtain ⟨h2, e2⟩ : ∃ z, T2.heap = z := ⟨_, rfl⟩
  rw [e2] at hQ2
  obtain ⟨rfl, Nq2, Kq2, Vq2⟩ := hQ2
  have N2 := Fr.app N0 Nq2
  replace V1 := V1.keep Kq2 (ninS ne_a1_b1 nin0)
  clear V_b1
  replace K := K.trans Kq2 (allS (Or.inr sz_b1) all0)
  replace Zn := Nat.le_trans Zn Kq2.1
  have V_b1 := Vq2
  refine Go.st st2 ?_
  show Go p.tables e below PP (T2.setTop (mkF m 12 #[.val (.ref a1), .val (.int (0 : Int32)), .val (.int n), .val (.ref b1), .unset, .unset] [(.int n)]))
  refine Go.st (fun t k => XS.istore X2.here hx rfl (hb hby d9_12) rfl (l' := #[.val (.ref a1), .val (.int (0 : Int32)), .val (.int n), .val (.ref b1), .val (.int n), .unset]) rfl k) ?_
  show Go p.tables e below PP (T2.setTop (mkF m 14 #[.val (.ref a1), .val (.int (0 : Int32)), .val (.int n), .val (.ref b1), .val (.int n), .unset] []))
  refine Go.st (fun t k => XS.iload X2.here hx rfl (hb hby d9_14) rfl k) ?_
  show Go p.tables e below PP (T2.setTop (mkF m 16 #[.val (.ref a1), .val (.int (0 : Int32)), .val (.int n), .val (.ref b1), .val (.int n), .unset] [(.int n)]))
  refine Go.st (fun t k => XS.iloadN X2.here hx rfl (hb hby d9_16) rfl k) ?_
  show Go p.tables e below PP (T2.setTop (mkF m 17 #[.val (.ref a1), .val (.int (0 : Int32)), .val (.int n), .val (.ref b1), .val (.int n), .unset] [(.int n), (.int n)]))
  refine Go.st (fun t k => XS.icmpYes X2.here hx rfl (pc0 := 17) (pc' := 57) rfl (hb hby d9_17) rfl (XT.ii_eq_t rfl) (by decide) (by decide) k) ?_
  show Go p.tables e below PP (T2.setTop (mkF m 57 #[.val (.ref a1), .val (.int (0 : Int32)), .val (.int n), .val (.ref b1), .val (.int n), .unset] []))
  refine Go.st (fun t k => XS.aloadN X2.here hx rfl (hb hby d9_57) rfl rfl k) ?_
  show Go p.tables e below PP (T2.setTop (mkF m 58 #[.val (.ref a1), .val (.int (0 : Int32)), .val (.int n), .val (.ref b1), .val (.int n), .unset] [(.ref b1)]))
  rw [hPP]
  refine endR X2 hx hlk hret rfl rfl (hb hby d9_58) ?_ (by decide) (by decide)
  show Q9 Z a1 n cf h0 n0 (some (.ref b1)) T2.heap _
  rw [e2]
  exact ⟨⟨_, rfl, sz_b1, V_b1⟩, N2, K⟩
theorem d11_0 : decode jdk_52_method_15_code 0 = .ok (.iload_n 1, 1) := by decide +kernel
theorem d11_1 : decode jdk_52_method_15_code 1 = .ok (.aload_n 0, 1) := by decide +kernel
theorem d11_2 : decode jdk_52_method_15_code 2 = .ok (.arraylength, 1) := by decide +kernel
theorem d11_3 : decode jdk_52_method_15_code 3 = .ok (.isub, 1) := by decide +kernel
theorem d11_4 : decode jdk_52_method_15_code 4 = .ok (.bipush 31, 2) := by decide +kernel
theorem d11_6 : decode jdk_52_method_15_code 6 = .ok (.iushr, 1) := by decide +kernel
theorem d11_7 : decode jdk_52_method_15_code 7 = .ok (.i2b, 1) := by decide +kernel
theorem d11_8 : decode jdk_52_method_15_code 8 = .ok (.ireturn, 1) := by decide +kernel
theorem pn_rm11 : plainName "java/lang/StringUTF16" = true := by first | (simp [plainName, overriddenIn]; done) | decide +kernel
theorem ef_rm11 (m : MethodId) (a1 : Addr) (n : Int32) : entryFrame m #[(.ref a1), (.int n)] 2 = mkF m 0 #[.val (.ref a1), .val (.int n)] [] := by first | (simp [entryFrame, mkF, argsToLocals, Value.category]; done) | rfl
def Q11 (Z : State) (a1 : Addr) (n : Int32) (f : Nat → Value) (h0 : Heap) (n0 : Nat) (v : Option Value) (h : Heap) (L : List Loc) : Prop := v = some (.int (0 : Int32)) ∧ L = [] ∧ h = h0
set_option maxRecDepth 65536 in
set_option maxHeartbeats 40000000 in
theorem rm11 (l : Launch) (Z : State) (a0 : Array Value) (hw : ∀ d ∈ tables_1, d.before a0 Z = true) (ws : List Jvm.Cond) (a1 : Addr) (n : Int32) (f : Nat → Value) (h0 : Heap) (n0 : Nat) (Z0 : n0 ≤ h0.size) (V1 : Afn Z h0 a1 .byte n f) :
    Con l Z (⟨"java/lang/StringUTF16", "coderFromArrayLen", "([BI)B"⟩ : MethodName) jdk_52_method_15_code 2 (some .byte) ws ({ frames := 0, cells := 0, slots := 0, locals := 0 } : Room) #[(.ref a1), (.int n)] h0 (Q11 Z a1 n f h0 n0) := by
  refine Con.of (plainFor_of_name pn_rm11) ?_
  intro p e s m below meth c s₁ hZ e0 X0 hx hby hml hown hnm hret hlk
  replace hml : c.maxLocals = 2 := hml
  have hown : s.vm.findClass "java/lang/StringUTF16" = some m.cls := hown
  have N0 : Fr n0 [] := Fr.nil n0
  obtain ⟨PP, hPP⟩ : ∃ P, P = Fine s below (Q11 Z a1 n f h0 n0) ({ frames := 0, cells := 0, slots := 0, locals := 0 } : Room).cells ({ frames := 0, cells := 0, slots := 0, locals := 0 } : Room).slots := ⟨_, rfl⟩
  rw [← hPP]
  refine Go.cast (ef_rm11 m a1 n) ?_
  have Zn : n0 ≤ h0.size := Z0
  show Go p.tables e below PP (s₁.setTop (mkF m 0 #[.val (.ref a1), .val (.int n)] []))
  refine Go.st (fun t k => XS.iloadN X0.here hx rfl (hb hby d11_0) rfl k) ?_
  show Go p.tables e below PP (s₁.setTop (mkF m 1 #[.val (.ref a1), .val (.int n)] [(.int n)]))
  refine Go.st (fun t k => XS.aloadN X0.here hx rfl (hb hby d11_1) rfl rfl k) ?_
  show Go p.tables e below PP (s₁.setTop (mkF m 2 #[.val (.ref a1), .val (.int n)] [(.ref a1), (.int n)]))
  obtain ⟨cl1, Ar1, S1, Nn1, -⟩ := id V1
  refine Go.st (fun t k => X0.arraylength hx (by rw [e0]; exact Ar1.1) (State.isArrayOf_alike hZ.alike Ar1.2.1) (g := (mkF m 2 #[.val (.ref a1), .val (.int n)] [(.ref a1), (.int n)])) rfl rfl (hb hby d11_2) _ k) ?_
  rw [len_of S1 Nn1]
  show Go p.tables e below PP (s₁.setTop (mkF m 3 #[.val (.ref a1), .val (.int n)] [(.int n), (.int n)]))
  refine Go.st (fun t k => XS.isub X0.here hx rfl (hb hby d11_3) rfl k) ?_
  show Go p.tables e below PP (s₁.setTop (mkF m 4 #[.val (.ref a1), .val (.int n)] [(.int (n - n))]))
  refine Go.st (fun t k => XS.bipush X0.here hx rfl (hb hby d11_4) k) ?_
  show Go p.tables e below PP (s₁.setTop (mkF m 6 #[.val (.ref a1), .val (.int n)] [(.int (31 : Int32)), (.int (n - n))]))
  refine Go.st (fun t k => XS.iushr X0.here hx rfl (hb hby d11_6) rfl k) ?_
  show Go p.tables e below PP (s₁.setTop (mkF m 7 #[.val (.ref a1), .val (.int n)] [(.int (((n - n).toUInt32 >>> ((31 : Int32) &&& 31).toUInt32).toInt32))]))
  refine Go.st (fun t k => XS.i2b X0.here hx rfl (hb hby d11_7) rfl k) ?_
  show Go p.tables e below PP (s₁.setTop (mkF m 8 #[.val (.ref a1), .val (.int n)] [(.int ((((n - n).toUInt32 >>> ((31 : Int32) &&& 31).toUInt32).toInt32).toInt8.toInt32))]))
  rw [hPP]
  refine endN X0 hx hlk (t := .byte) hret (by simp) (hb hby d11_8) (w := (0 : Int32)) (by rw [Int32.sub_self]; rfl) ?_ (by decide) (by decide)
  show Q11 Z a1 n f h0 n0 (some (.int (0 : Int32))) s₁.heap _
  rw [e0]
  exact ⟨rfl, rfl, rfl⟩
theorem strA {Z : State} {a0 : Array Value} (hw : ∀ d ∈ tables_1, d.before a0 Z = true) : ∀ d ∈ Bundle.stringAtoms, d.before a0 Z = true := by
  intro d hd
  simp only [Bundle.stringAtoms, List.mem_cons, List.not_mem_nil, or_false] at hd
  rcases hd with rfl | rfl | rfl | rfl | rfl | rfl | rfl
  · exact (hw _ (List.mem_of_getElem? (i := 12) rfl))
  · exact (hw _ (List.mem_of_getElem? (i := 11) rfl))
  · exact (hw _ (List.mem_of_getElem? (i := 25) rfl))
  · exact (hw _ (List.mem_of_getElem? (i := 26) rfl))
  · exact (hw _ (List.mem_of_getElem? (i := 27) rfl))
  · exact (hw _ (List.mem_of_getElem? (i := 28) rfl))
  · exact (hw _ (List.mem_of_getElem? (i := 29) rfl))
theorem safe_str {Z : State} {EL : List (String × Nat)} {vm : Vm} {h : Heap} {a : Addr} (hal : Z.vm.Alike vm) (E : Exa Z h a "java/lang/String") (F : Fld Z h a "java/lang/String" "value" "[B" .null) : Safe Z EL vm h a := by
  rintro ⟨p, hp, u, a', hb, q, hq, B, hy⟩
  obtain ⟨cell, cf, kf, i, f, f1, f2, f3, f4, f5, f6, f7⟩ := F
  obtain ⟨cE, kE, e1, e2, e3, e4, e5⟩ := E
  cases f1.symm.trans e1
  rcases hy with rfl | rfl
  · have ha := B.ha
    obtain ⟨cS, ⟨⟨-, -, -, ⟨c1, k1, i1, g1, -⟩, -, -, -, v1, -⟩, -⟩, -⟩ := B
    have ha' : h[q.sa]? = some q.sC := ha
    cases f1.symm.trans ha'
    obtain ⟨k3, e6, -⟩ := State.fieldFound?_setVm (s := Z) hal f2
    have e7 := (show (Wst Z vm h).fieldFound? _ _ _ = _ from e6).symm.trans g1
    simp only [Option.some.injEq, Prod.mk.injEq] at e7
    rw [← e7.2.2.2, f7] at v1
    cases v1
  · have hd := B.hd
    obtain ⟨cS, -, -, h4, -⟩ := B
    have hd' : h[q.sd]? = some q.SA := hd
    cases f1.symm.trans hd'
    have h5 : vm.findClass "[B" = some q.SA.cls := h4
    rw [hal.findClass] at h5
    exact ids_ne e2 h5 (by decide) rfl
theorem d4_0 : decode jdk_42_method_149_code 0 = .ok (.aload_n 0, 1) := by decide +kernel
theorem d4_1 : decode jdk_42_method_149_code 1 = .ok (.invokespecial 1, 3) := by decide +kernel
theorem d4_4 : decode jdk_42_method_149_code 4 = .ok (.iload_n 3, 1) := by decide +kernel
theorem d4_5 : decode jdk_42_method_149_code 5 = .ok (.ifCond .ne 22, 3) := by decide +kernel
theorem d4_8 : decode jdk_42_method_149_code 8 = .ok (.aload_n 0, 1) := by decide +kernel
theorem d4_9 : decode jdk_42_method_149_code 9 = .ok (.ldc 7, 2) := by decide +kernel
theorem d4_11 : decode jdk_42_method_149_code 11 = .ok (.getfield 9, 3) := by decide +kernel
theorem d4_14 : decode jdk_42_method_149_code 14 = .ok (.putfield 9, 3) := by decide +kernel
theorem d4_17 : decode jdk_42_method_149_code 17 = .ok (.aload_n 0, 1) := by decide +kernel
theorem d4_18 : decode jdk_42_method_149_code 18 = .ok (.ldc 7, 2) := by decide +kernel
theorem d4_20 : decode jdk_42_method_149_code 20 = .ok (.getfield 15, 3) := by decide +kernel
theorem d4_23 : decode jdk_42_method_149_code 23 = .ok (.putfield 15, 3) := by decide +kernel
theorem d4_26 : decode jdk_42_method_149_code 26 = .ok (.return_, 1) := by decide +kernel
theorem d4_27 : decode jdk_42_method_149_code 27 = .ok (.getstatic 38, 3) := by decide +kernel
theorem d4_30 : decode jdk_42_method_149_code 30 = .ok (.ifCond .eq 28, 3) := by decide +kernel
theorem d4_33 : decode jdk_42_method_149_code 33 = .ok (.aload_n 1, 1) := by decide +kernel
theorem d4_34 : decode jdk_42_method_149_code 34 = .ok (.iload_n 2, 1) := by decide +kernel
theorem d4_35 : decode jdk_42_method_149_code 35 = .ok (.iload_n 3, 1) := by decide +kernel
theorem d4_36 : decode jdk_42_method_149_code 36 = .ok (.invokestatic 177, 3) := by decide +kernel
theorem d4_39 : decode jdk_42_method_149_code 39 = .ok (.astore 5, 2) := by decide +kernel
theorem d4_41 : decode jdk_42_method_149_code 41 = .ok (.aload_n 0, 1) := by decide +kernel
theorem d4_42 : decode jdk_42_method_149_code 42 = .ok (.aload 5, 2) := by decide +kernel
theorem d4_44 : decode jdk_42_method_149_code 44 = .ok (.iload_n 3, 1) := by decide +kernel
theorem d4_45 : decode jdk_42_method_149_code 45 = .ok (.invokestatic 47, 3) := by decide +kernel
theorem d4_48 : decode jdk_42_method_149_code 48 = .ok (.putfield 15, 3) := by decide +kernel
theorem d4_51 : decode jdk_42_method_149_code 51 = .ok (.aload_n 0, 1) := by decide +kernel
theorem d4_52 : decode jdk_42_method_149_code 52 = .ok (.aload 5, 2) := by decide +kernel
theorem d4_54 : decode jdk_42_method_149_code 54 = .ok (.putfield 9, 3) := by decide +kernel
theorem d4_57 : decode jdk_42_method_149_code 57 = .ok (.return_, 1) := by decide +kernel
theorem d4_58 : decode jdk_42_method_149_code 58 = .ok (.aload_n 0, 1) := by decide +kernel
theorem d4_59 : decode jdk_42_method_149_code 59 = .ok (.iconst 1, 1) := by decide +kernel
theorem d4_60 : decode jdk_42_method_149_code 60 = .ok (.putfield 15, 3) := by decide +kernel
theorem d4_63 : decode jdk_42_method_149_code 63 = .ok (.aload_n 0, 1) := by decide +kernel
theorem d4_64 : decode jdk_42_method_149_code 64 = .ok (.aload_n 1, 1) := by decide +kernel
theorem d4_65 : decode jdk_42_method_149_code 65 = .ok (.iload_n 2, 1) := by decide +kernel
theorem d4_66 : decode jdk_42_method_149_code 66 = .ok (.iload_n 3, 1) := by decide +kernel
theorem d4_67 : decode jdk_42_method_149_code 67 = .ok (.invokestatic 180, 3) := by decide +kernel
theorem d4_70 : decode jdk_42_method_149_code 70 = .ok (.putfield 9, 3) := by decide +kernel
theorem d4_73 : decode jdk_42_method_149_code 73 = .ok (.return_, 1) := by decide +kernel
theorem pn_rmSI : plainName "java/lang/String" = true := by first | (simp [plainName, overriddenIn]; done) | decide +kernel
theorem ef_rmSI (m : MethodId) (a1 : Addr) (a2 : Addr) (n : Int32) : entryFrame m #[(.ref a1), (.ref a2), (.int (0 : Int32)), (.int n), .null] 6 = mkF m 0 #[.val (.ref a1), .val (.ref a2), .val (.int (0 : Int32)), .val (.int n), .val .null, .unset] [] := by first | (simp [entryFrame, mkF, argsToLocals, Value.category]; done) | rfl
def QSI (Z : State) (a1 : Addr) (a2 : Addr) (n : Int32) (cf : Nat → Int32) (zc : Int32) (h0 : Heap) (n0 : Nat) (v : Option Value) (h : Heap) (L : List Loc) : Prop := v = none ∧ Fr n0 L ∧ Keep h0 h [a1] ∧ Exa Z h a1 "java/lang/String" ∧ Fld Z h a1 "java/lang/String" "coder" "B" (.int (0 : Int32)) ∧ ∃ t : Addr, Fld Z h a1 "java/lang/String" "value" "[B" (.ref t) ∧ Afn Z h t .byte n (fun k => .int ((cf k).toInt8.toInt32))
theorem pd_1 : parseMethodDescriptor "([CII)[B" = some ⟨[(.array .char), .int, .int], some (.array .byte)⟩ := by decide +kernel
theorem pd_2 : parseMethodDescriptor "([BI)B" = some ⟨[(.array .byte), .int], some .byte⟩ := by decide +kernel
set_option maxRecDepth 65536 in
set_option maxHeartbeats 40000000 in
theorem rmSI (l : Launch) (Z : State) (a0 : Array Value) (hw : ∀ d ∈ tables_1, d.before a0 Z = true) (ws : List Jvm.Cond) (a1 : Addr) (a2 : Addr) (n : Int32) (cf : Nat → Int32) (zc : Int32) (h0 : Heap) (n0 : Nat) (Z0 : n0 ≤ h0.size) (hEL : EW Z a0 consts_1) (E_a1 : Exa Z h0 a1 "java/lang/String") (F_value_a1 : Fld Z h0 a1 "java/lang/String" "value" "[B" .null) (F_coder_a1 : Fld Z h0 a1 "java/lang/String" "coder" "B" (.int (0 : Int32))) (g_a1 : n0 ≤ a1) (V2 : Afn Z h0 a2 .char n (fun k => .int (cf k))) (hcb : ∀ k, k < n.toNatClampNeg → ¬ cf k < (0 : Int32) ∧ ¬ (255 : Int32) < cf k) (hcap : n.toNatClampNeg ≤ 2) (hne : a1 ≠ a2) (SC : Sta Z Z.heap "java/lang/String" "COMPACT_STRINGS" "Z" (.int zc)) (hzc : ¬ zc = (0 : Int32)) (O : Old Z n0 h0) :
    ConH l Z consts_1 (⟨"java/lang/String", "<init>", "([CIILjava/lang/Void;)V"⟩ : MethodName) jdk_42_method_149_code 6 none ws ({ frames := 2, cells := 4, slots := 8, locals := 37 } : Room) #[(.ref a1), (.ref a2), (.int (0 : Int32)), (.int n), .null] h0 (QSI Z a1 a2 n cf zc h0 n0) := by
  refine ConH.of (plainFor_of_name pn_rmSI) ?_
  intro p e s m below meth c s₁ vm0 k0 hZ e0 X0 hx hby hml hown hnm hret hlk hS hk CH CR
  replace hml : c.maxLocals = 6 := hml
  have hown : vm0.findClass "java/lang/String" = some m.cls := hown
  have N0 : Fr n0 [] := Fr.nil n0
  obtain ⟨PP, hPP⟩ : ∃ P, P = FineW Z consts_1 s below (QSI Z a1 a2 n cf zc h0 n0) ({ frames := 2, cells := 4, slots := 8, locals := 37 } : Room).cells ({ frames := 2, cells := 4, slots := 8, locals := 37 } : Room).slots := ⟨_, rfl⟩
  rw [← hPP]
  refine Go.cast (ef_rmSI m a1 a2 n) ?_
  have K : Keep h0 h0 [a1] := Keep.refl h0 _
  have Zn : n0 ≤ h0.size := Z0
  have SF_a1 : Safe Z consts_1 vm0 h0 a1 := safe_str hZ.alike E_a1 F_value_a1
  show Go p.tables e below PP (s₁.setTop (mkF m 0 #[.val (.ref a1), .val (.ref a2), .val (.int (0 : Int32)), .val (.int n), .val .null, .unset] []))
  refine Go.st (fun t k => XS.aloadN X0.here hx rfl (hb hby d4_0) rfl rfl k) ?_
  show Go p.tables e below PP (s₁.setTop (mkF m 1 #[.val (.ref a1), .val (.ref a2), .val (.int (0 : Int32)), .val (.int n), .val .null, .unset] [(.ref a1)]))
  obtain ⟨T1, X1, e1, st1⟩ := initO X0 hx hZ hown (hw _ (List.mem_of_getElem? (i := 21) rfl)) (hw _ (List.mem_of_getElem? (i := 22) rfl)) (hw _ (List.mem_of_getElem? (i := 23) rfl)) e0 (g := (mkF m 1 #[.val (.ref a1), .val (.ref a2), .val (.int (0 : Int32)), .val (.int n), .val .null, .unset] [(.ref a1)])) rfl (by rw [hml]; rfl) rfl (hb hby d4_1) (by decide) (W := 0) (by show 2 * 0 + _ ≤ _; exact Nat.le_of_eq rfl) (by decide)
  refine Go.st st1 ?_
  show Go p.tables e below PP (T1.setTop (mkF m 4 #[.val (.ref a1), .val (.ref a2), .val (.int (0 : Int32)), .val (.int n), .val .null, .unset] []))
  refine Go.st (fun t k => XS.iloadN X1.here hx rfl (hb hby d4_4) rfl k) ?_
  show Go p.tables e below PP (T1.setTop (mkF m 5 #[.val (.ref a1), .val (.ref a2), .val (.int (0 : Int32)), .val (.int n), .val .null, .unset] [(.int n)]))
  by_cases hc5 : n = (0 : Int32)
  · --
    refine Go.st (fun t k => XS.ifNo X1.here hx rfl (hb hby d4_5) rfl (XT.i0_ne_f hc5) k) ?_
    show Go p.tables e below PP (T1.setTop (mkF m 8 #[.val (.ref a1), .val (.ref a2), .val (.int (0 : Int32)), .val (.int n), .val .null, .unset] []))
    refine Go.st (fun t k => XS.aloadN X1.here hx rfl (hb hby d4_8) rfl rfl k) ?_
    show Go p.tables e below PP (T1.setTop (mkF m 9 #[.val (.ref a1), .val (.ref a2), .val (.int (0 : Int32)), .val (.int n), .val .null, .unset] [(.ref a1)]))
    obtain ⟨sa2, T2, h2, kk2, sb2, kc2, X2, e2, E2, hS2, hk2, hZ2, hown2, Es2, Fc2, Fv2, As2, -, -, hC2, -, nS2, st2⟩ := ldcCH X1 hx hZ hown (hw _ (List.mem_of_getElem? (i := 24) rfl)) (strA hw) e1 hS hk hEL (List.mem_of_getElem? (i := 1) rfl) CH (vs := []) (z := (0 : Int32)) (by decide) (by decide) (by decide) (g := (mkF m 9 #[.val (.ref a1), .val (.ref a2), .val (.int (0 : Int32)), .val (.int n), .val .null, .unset] [(.ref a1)])) rfl (hb hby d4_9) (n := 0) (by decide) (by decide) (by decide) (by decide)
    have lt_a1 := E_a1.lt
    replace E_a1 := E_a1.ext E2
    replace F_value_a1 := F_value_a1.ext E2
    replace F_coder_a1 := F_coder_a1.ext E2
    replace V2 := V2.ext E2
    replace O := O.ext E2
    replace K := K.ext E2
    replace SF_a1 := hC2.safe lt_a1 SF_a1
    have ne_a1_sa2 : a1 ≠ sa2 := (nS2 _ SF_a1).1
    have ne_a1_sb2 : a1 ≠ sb2 := (nS2 _ SF_a1).2
    replace Zn := Nat.le_trans Zn E2.1
    replace CR := CR.trans hC2
    replace CH := hC2.1
    replace hS := hS2
    replace hk := hk2
    replace hZ := hZ2
    replace hown := hown2
    refine Go.st st2 ?_
    replace As2 := Afn.of_arv As2
    show Go p.tables e below PP (T2.setTop (mkF m 11 #[.val (.ref a1), .val (.ref a2), .val (.int (0 : Int32)), .val (.int n), .val .null, .unset] [(.ref sa2), (.ref a1)]))
    obtain ⟨T3, X3, e3, st3⟩ := getF X2 hx hZ hown (host := "") (Or.inl (hw _ (List.mem_of_getElem? (i := 30) rfl))) Via.refl e2 Fv2 (g := (mkF m 11 #[.val (.ref a1), .val (.ref a2), .val (.int (0 : Int32)), .val (.int n), .val .null, .unset] [(.ref sa2), (.ref a1)])) rfl rfl (hb hby d4_11)
    refine Go.st st3 ?_
    show Go p.tables e below PP (T3.setTop (mkF m 14 #[.val (.ref a1), .val (.ref a2), .val (.int (0 : Int32)), .val (.int n), .val .null, .unset] [(.ref sb2), (.ref a1)]))
    obtain ⟨T4, h4, X4, e4, W4, st4⟩ := putF X3 hx hZ hown (host := "") (Or.inl (hw _ (List.mem_of_getElem? (i := 30) rfl))) Via.refl e3 F_value_a1 E_a1 (Or.inr ⟨(hw _ (List.mem_of_getElem? (i := 26) rfl)), rfl, hnm⟩) (hw _ (List.mem_of_getElem? (i := 11) rfl)) (ty := (.array .byte)) (by decide) rfl rfl (g := (mkF m 14 #[.val (.ref a1), .val (.ref a2), .val (.int (0 : Int32)), .val (.int n), .val .null, .unset] [(.ref sb2), (.ref a1)])) rfl rfl (hb hby d4_14)
    refine Go.st st4 ?_
    have N4 := Fr.snoc X4 N0 g_a1
    replace E_a1 := E_a1.wr W4
    replace F_coder_a1 := F_coder_a1.other W4 (Or.inr (slot_ne (a0 := a0) (Or.inr (hw _ (List.mem_of_getElem? (i := 27) rfl))) (Or.inr (hw _ (List.mem_of_getElem? (i := 26) rfl))) (by decide) (t := .byte) (t' := (.array .byte)) (by decide) (by decide)))
    replace V2 := V2.other W4 (Ne.symm hne)
    replace Es2 := Es2.wr W4
    replace Fc2 := Fc2.other W4 (Or.inl (Ne.symm ne_a1_sa2))
    replace Fv2 := Fv2.other W4 (Or.inl (Ne.symm ne_a1_sa2))
    replace As2 := As2.other W4 (Ne.symm ne_a1_sb2)
    replace CR := CR.trans (CHr.wr W4 SF_a1 CH)
    have CH' := CH.wr W4 SF_a1
    replace SF_a1 := Safe.wr W4 SF_a1 CH SF_a1
    replace CH := CH'
    clear CH'
    replace hk : kk2 ≤ h4.size := by rw [W4.size]; exact hk
    replace O := O.wr W4 g_a1
    replace K := K.wr W4 (Or.inl (List.mem_of_getElem? (i := 0) rfl))
    replace Zn : n0 ≤ h4.size := by rw [W4.size]; exact Zn
    replace F_value_a1 := F_value_a1.same W4
    show Go p.tables e below PP (T4.setTop (mkF m 17 #[.val (.ref a1), .val (.ref a2), .val (.int (0 : Int32)), .val (.int n), .val .null, .unset] []))
    refine Go.st (fun t k => XS.aloadN X4.here hx rfl (hb hby d4_17) rfl rfl k) ?_
    show Go p.tables e below PP (T4.setTop (mkF m 18 #[.val (.ref a1), .val (.ref a2), .val (.int (0 : Int32)), .val (.int n), .val .null, .unset] [(.ref a1)]))
    obtain ⟨sa5, T5, h5, kk5, sb5, kc5, X5, e5, E5, hS5, hk5, hZ5, hown5, Es5, Fc5, Fv5, As5, -, -, hC5, -, nS5, st5⟩ := ldcCH X4 hx hZ hown (hw _ (List.mem_of_getElem? (i := 24) rfl)) (strA hw) e4 hS hk hEL (List.mem_of_getElem? (i := 1) rfl) CH (vs := []) (z := (0 : Int32)) (by decide) (by decide) (by decide) (g := (mkF m 18 #[.val (.ref a1), .val (.ref a2), .val (.int (0 : Int32)), .val (.int n), .val .null, .unset] [(.ref a1)])) rfl (hb hby d4_18) (n := 0) (by decide) (by decide) (by decide) (by decide)
    have lt_a1 := E_a1.lt
    replace E_a1 := E_a1.ext E5
    replace F_value_a1 := F_value_a1.ext E5
    replace F_coder_a1 := F_coder_a1.ext E5
    replace V2 := V2.ext E5
    replace Es2 := Es2.ext E5
    replace Fc2 := Fc2.ext E5
    replace Fv2 := Fv2.ext E5
    replace As2 := As2.ext E5
    replace O := O.ext E5
    replace K := K.ext E5
    replace SF_a1 := hC5.safe lt_a1 SF_a1
    have ne_a1_sa5 : a1 ≠ sa5 := (nS5 _ SF_a1).1
    have ne_a1_sb5 : a1 ≠ sb5 := (nS5 _ SF_a1).2
    replace Zn := Nat.le_trans Zn E5.1
    replace CR := CR.trans hC5
    replace CH := hC5.1
    replace hS := hS5
    replace hk := hk5
    replace hZ := hZ5
    replace hown := hown5
    refine Go.st st5 ?_
    replace As5 := Afn.of_arv As5
    show Go p.tables e below PP (T5.setTop (mkF m 20 #[.val (.ref a1), .val (.ref a2), .val (.int (0 : Int32)), .val (.int n), .val .null, .unset] [(.ref sa5), (.ref a1)]))
    obtain ⟨T6, X6, e6, st6⟩ := getF X5 hx hZ hown (host := "") (Or.inl (hw _ (List.mem_of_getElem? (i := 31) rfl))) Via.refl e5 Fc5 (g := (mkF m 20 #[.val (.ref a1), .val (.ref a2), .val (.int (0 : Int32)), .val (.int n), .val .null, .unset] [(.ref sa5), (.ref a1)])) rfl rfl (hb hby d4_20)
    refine Go.st st6 ?_
    show Go p.tables e below PP (T6.setTop (mkF m 23 #[.val (.ref a1), .val (.ref a2), .val (.int (0 : Int32)), .val (.int n), .val .null, .unset] [(.int (0 : Int32)), (.ref a1)]))
    obtain ⟨T7, h7, X7, e7, W7, st7⟩ := putFN X6 hx hZ hown (hw _ (List.mem_of_getElem? (i := 31) rfl)) Via.refl e6 F_coder_a1 E_a1 (Or.inr ⟨(hw _ (List.mem_of_getElem? (i := 27) rfl)), rfl, hnm⟩) (hw _ (List.mem_of_getElem? (i := 11) rfl)) (ty := .byte) (v' := (.int (0 : Int32))) (by decide) rfl (by decide) (g := (mkF m 23 #[.val (.ref a1), .val (.ref a2), .val (.int (0 : Int32)), .val (.int n), .val .null, .unset] [(.int (0 : Int32)), (.ref a1)])) rfl rfl (hb hby d4_23)
    refine Go.st st7 ?_
    have N7 := Fr.snoc X7 N4 g_a1
    replace E_a1 := E_a1.wr W7
    replace F_value_a1 := F_value_a1.other W7 (Or.inr (slot_ne (a0 := a0) (Or.inr (hw _ (List.mem_of_getElem? (i := 26) rfl))) (Or.inr (hw _ (List.mem_of_getElem? (i := 27) rfl))) (by decide) (t := (.array .byte)) (t' := .byte) (by decide) (by decide)))
    replace V2 := V2.other W7 (Ne.symm hne)
    replace Es2 := Es2.wr W7
    replace Fc2 := Fc2.other W7 (Or.inl (Ne.symm ne_a1_sa2))
    replace Fv2 := Fv2.other W7 (Or.inl (Ne.symm ne_a1_sa2))
    replace As2 := As2.other W7 (Ne.symm ne_a1_sb2)
    replace Es5 := Es5.wr W7
    replace Fc5 := Fc5.other W7 (Or.inl (Ne.symm ne_a1_sa5))
    replace Fv5 := Fv5.other W7 (Or.inl (Ne.symm ne_a1_sa5))
    replace As5 := As5.other W7 (Ne.symm ne_a1_sb5)
    replace CR := CR.trans (CHr.wr W7 SF_a1 CH)
    have CH' := CH.wr W7 SF_a1
    replace SF_a1 := Safe.wr W7 SF_a1 CH SF_a1
    replace CH := CH'
    clear CH'
    replace hk : kk5 ≤ h7.size := by rw [W7.size]; exact hk
    replace O := O.wr W7 g_a1
    replace K := K.wr W7 (Or.inl (List.mem_of_getElem? (i := 0) rfl))
    replace Zn : n0 ≤ h7.size := by rw [W7.size]; exact Zn
    replace F_coder_a1 := F_coder_a1.same W7
    show Go p.tables e below PP (T7.setTop (mkF m 26 #[.val (.ref a1), .val (.ref a2), .val (.int (0 : Int32)), .val (.int n), .val .null, .unset] []))
    rw [hPP]
    refine endVW X7 hx hlk hZ hS e7 hk hEL CH CR hret (hb hby d4_26) ?_ (by decide) (by decide)
    show QSI Z a1 a2 n cf zc h0 n0 none T7.heap _
    rw [e7]
    exact ⟨rfl, N7, K, E_a1, F_coder_a1, _, F_value_a1, (by subst hc5; exact As2.congr (fun k hk => absurd hk (by simp [Int32.toNatClampNeg])))⟩
  · --
    refine Go.st (fun t k => XS.ifYes X1.here hx rfl (pc0 := 5) (pc' := 27) rfl (hb hby d4_5) rfl (XT.i0_ne_t hc5) (by decide) (by decide) k) ?_
    show Go p.tables e below PP (T1.setTop (mkF m 27 #[.val (.ref a1), .val (.ref a2), .val (.int (0 : Int32)), .val (.int n), .val .null, .unset] []))
    obtain ⟨T8, X8, e8, st8⟩ := getS2 X1 hx hZ hown (host := "") (Or.inl (hw _ (List.mem_of_getElem? (i := 57) rfl))) Via.refl e1 (SC.ext O.2) (g := (mkF m 27 #[.val (.ref a1), .val (.ref a2), .val (.int (0 : Int32)), .val (.int n), .val .null, .unset] [])) rfl (hb hby d4_27)
    refine Go.st st8 ?_
    show Go p.tables e below PP (T8.setTop (mkF m 30 #[.val (.ref a1), .val (.ref a2), .val (.int (0 : Int32)), .val (.int n), .val .null, .unset] [(.int zc)]))
    refine Go.st (fun t k => XS.ifNo X8.here hx rfl (hb hby d4_30) rfl (XT.i0_eq_f hzc) k) ?_
    show Go p.tables e below PP (T8.setTop (mkF m 33 #[.val (.ref a1), .val (.ref a2), .val (.int (0 : Int32)), .val (.int n), .val .null, .unset] []))
    refine Go.st (fun t k => XS.aloadN X8.here hx rfl (hb hby d4_33) rfl rfl k) ?_
    show Go p.tables e below PP (T8.setTop (mkF m 34 #[.val (.ref a1), .val (.ref a2), .val (.int (0 : Int32)), .val (.int n), .val .null, .unset] [(.ref a2)]))
    refine Go.st (fun t k => XS.iloadN X8.here hx rfl (hb hby d4_34) rfl k) ?_
    show Go p.tables e below PP (T8.setTop (mkF m 35 #[.val (.ref a1), .val (.ref a2), .val (.int (0 : Int32)), .val (.int n), .val .null, .unset] [(.int (0 : Int32)), (.ref a2)]))
    refine Go.st (fun t k => XS.iloadN X8.here hx rfl (hb hby d4_35) rfl k) ?_
    show Go p.tables e below PP (T8.setTop (mkF m 36 #[.val (.ref a1), .val (.ref a2), .val (.int (0 : Int32)), .val (.int n), .val .null, .unset] [(.int n), (.int (0 : Int32)), (.ref a2)]))
    obtain ⟨v9, T9, L9, X9, hQ9, st9⟩ := callSt X8 hx hZ (y := (⟨"java/lang/StringUTF16", "compress", "([CII)[B"⟩ : MethodName)) (argsL := [(.ref a2), (.int (0 : Int32)), (.int n)]) (rest := []) hown (hw _ (List.mem_of_getElem? (i := 58) rfl)) (hw _ (List.mem_of_getElem? (i := 59) rfl)) (hw _ (List.mem_of_getElem? (i := 60) rfl)) (hw _ (List.mem_of_getElem? (i := 61) rfl)) (by decide) (rm9 l Z a0 hw [] a2 n cf h0 n0 Zn V2 hcb hcap) e8 0 (by decide) (by decide) (by decide) (by decide) (g := (mkF m 36 #[.val (.ref a1), .val (.ref a2), .val (.int (0 : Int32)), .val (.int n), .val .null, .unset] [(.int n), (.int (0 : Int32)), (.ref a2)])) rfl (by rw [hml]; rfl) (lenOf pd_1 rfl) rfl (by show 2 * 0 + _ ≤ _; exact Nat.le_of_eq rfl) (hb hby d4_36)
    obtain ⟨h9, e9⟩ : ∃ z, T9.heap = z := ⟨_, rfl⟩
    rw [e9] at hQ9
    obtain ⟨⟨t9, rfl, sz9, Vq9⟩, Nq9, Kq9⟩ := hQ9
    have N9 := Fr.app N0 Nq9
    have ne_a1_t9 : a1 ≠ t9 := Nat.ne_of_lt (Nat.lt_of_lt_of_le E_a1.lt sz9)
    have ne_a2_t9 : a2 ≠ t9 := Nat.ne_of_lt (Nat.lt_of_lt_of_le V2.lt sz9)
    have g_t9 : n0 ≤ t9 := Nat.le_trans Zn sz9
    have sz_t9 : h0.size ≤ t9 := Nat.le_trans K.1 sz9
    have hsf : ∀ x ∈ ([] : List Addr), Safe Z consts_1 vm0 h0 x := sf0
    replace SF_a1 := Safe.keep Kq9 hsf CH SF_a1
    replace CR := CR.trans (CHr.keep Kq9 hsf CH)
    replace CH := CH.keep Kq9 hsf
    replace hk := Nat.le_trans hk Kq9.1
    clear hsf
    replace E_a1 := E_a1.keep Kq9
    replace F_value_a1 := F_value_a1.keep Kq9 nin0
    replace F_coder_a1 := F_coder_a1.keep Kq9 nin0
    replace V2 := V2.keep Kq9 nin0
    replace O := O.keep Kq9 all0
    replace K := K.trans Kq9 all0
    replace Zn := Nat.le_trans Zn Kq9.1
    refine Go.st st9 ?_
    show Go p.tables e below PP (T9.setTop (mkF m 39 #[.val (.ref a1), .val (.ref a2), .val (.int (0 : Int32)), .val (.int n), .val .null, .unset] [(.ref t9)]))
    refine Go.st (fun t k => XS.astore X9.here hx rfl (hb hby d4_39) rfl rfl (l' := #[.val (.ref a1), .val (.ref a2), .val (.int (0 : Int32)), .val (.int n), .val .null, .val (.ref t9)]) rfl k) ?_
    show Go p.tables e below PP (T9.setTop (mkF m 41 #[.val (.ref a1), .val (.ref a2), .val (.int (0 : Int32)), .val (.int n), .val .null, .val (.ref t9)] []))
    refine Go.st (fun t k => XS.aloadN X9.here hx rfl (hb hby d4_41) rfl rfl k) ?_
    show Go p.tables e below PP (T9.setTop (mkF m 42 #[.val (.ref a1), .val (.ref a2), .val (.int (0 : Int32)), .val (.int n), .val .null, .val (.ref t9)] [(.ref a1)]))
    refine Go.st (fun t k => XS.aload X9.here hx rfl (hb hby d4_42) rfl rfl k) ?_
    show Go p.tables e below PP (T9.setTop (mkF m 44 #[.val (.ref a1), .val (.ref a2), .val (.int (0 : Int32)), .val (.int n), .val .null, .val (.ref t9)] [(.ref t9), (.ref a1)]))
    refine Go.st (fun t k => XS.iloadN X9.here hx rfl (hb hby d4_44) rfl k) ?_
    show Go p.tables e below PP (T9.setTop (mkF m 45 #[.val (.ref a1), .val (.ref a2), .val (.int (0 : Int32)), .val (.int n), .val .null, .val (.ref t9)] [(.int n), (.ref t9), (.ref a1)]))
    obtain ⟨v10, T10, L10, X10, hQ10, st10⟩ := callSt X9 hx hZ (y := (⟨"java/lang/StringUTF16", "coderFromArrayLen", "([BI)B"⟩ : MethodName)) (argsL := [(.ref t9), (.int n)]) (rest := [(.ref a1)]) hown (hw _ (List.mem_of_getElem? (i := 65) rfl)) (hw _ (List.mem_of_getElem? (i := 66) rfl)) (hw _ (List.mem_of_getElem? (i := 60) rfl)) (hw _ (List.mem_of_getElem? (i := 67) rfl)) (by decide) (rm11 l Z a0 hw [] t9 n _ h9 n0 Zn Vq9) e9 1 (by decide) (by decide) (by decide) (by decide) (g := (mkF m 45 #[.val (.ref a1), .val (.ref a2), .val (.int (0 : Int32)), .val (.int n), .val .null, .val (.ref t9)] [(.int n), (.ref t9), (.ref a1)])) rfl (by rw [hml]; rfl) (lenOf pd_2 rfl) rfl (by show 2 * 0 + _ ≤ _; exact Nat.le_of_eq rfl) (hb hby d4_45)
    obtain ⟨rfl, rfl, e10⟩ := hQ10
    rw [List.append_nil] at X10
    refine Go.st st10 ?_
    show Go p.tables e below PP (T10.setTop (mkF m 48 #[.val (.ref a1), .val (.ref a2), .val (.int (0 : Int32)), .val (.int n), .val .null, .val (.ref t9)] [(.int (0 : Int32)), (.ref a1)]))
    obtain ⟨T11, h11, X11, e11, W11, st11⟩ := putFN X10 hx hZ hown (hw _ (List.mem_of_getElem? (i := 31) rfl)) Via.refl e10 F_coder_a1 E_a1 (Or.inr ⟨(hw _ (List.mem_of_getElem? (i := 27) rfl)), rfl, hnm⟩) (hw _ (List.mem_of_getElem? (i := 11) rfl)) (ty := .byte) (v' := (.int (0 : Int32))) (by decide) rfl (by decide) (g := (mkF m 48 #[.val (.ref a1), .val (.ref a2), .val (.int (0 : Int32)), .val (.int n), .val .null, .val (.ref t9)] [(.int (0 : Int32)), (.ref a1)])) rfl rfl (hb hby d4_48)
    refine Go.st st11 ?_
    have N11 := Fr.snoc X11 N9 g_a1
    replace E_a1 := E_a1.wr W11
    replace F_value_a1 := F_value_a1.other W11 (Or.inr (slot_ne (a0 := a0) (Or.inr (hw _ (List.mem_of_getElem? (i := 26) rfl))) (Or.inr (hw _ (List.mem_of_getElem? (i := 27) rfl))) (by decide) (t := (.array .byte)) (t' := .byte) (by decide) (by decide)))
    replace V2 := V2.other W11 (Ne.symm hne)
    replace Vq9 := Vq9.other W11 (Ne.symm ne_a1_t9)
    replace CR := CR.trans (CHr.wr W11 SF_a1 CH)
    have CH' := CH.wr W11 SF_a1
    replace SF_a1 := Safe.wr W11 SF_a1 CH SF_a1
    replace CH := CH'
    clear CH'
    replace hk : k0 ≤ h11.size := by rw [W11.size]; exact hk
    replace O := O.wr W11 g_a1
    replace K := K.wr W11 (Or.inl (List.mem_of_getElem? (i := 0) rfl))
    replace Zn : n0 ≤ h11.size := by rw [W11.size]; exact Zn
    replace F_coder_a1 := F_coder_a1.same W11
    show Go p.tables e below PP (T11.setTop (mkF m 51 #[.val (.ref a1), .val (.ref a2), .val (.int (0 : Int32)), .val (.int n), .val .null, .val (.ref t9)] []))
    refine Go.st (fun t k => XS.aloadN X11.here hx rfl (hb hby d4_51) rfl rfl k) ?_
    show Go p.tables e below PP (T11.setTop (mkF m 52 #[.val (.ref a1), .val (.ref a2), .val (.int (0 : Int32)), .val (.int n), .val .null, .val (.ref t9)] [(.ref a1)]))
    refine Go.st (fun t k => XS.aload X11.here hx rfl (hb hby d4_52) rfl rfl k) ?_
    show Go p.tables e below PP (T11.setTop (mkF m 54 #[.val (.ref a1), .val (.ref a2), .val (.int (0 : Int32)), .val (.int n), .val .null, .val (.ref t9)] [(.ref t9), (.ref a1)]))
    obtain ⟨T12, h12, X12, e12, W12, st12⟩ := putF X11 hx hZ hown (host := "") (Or.inl (hw _ (List.mem_of_getElem? (i := 30) rfl))) Via.refl e11 F_value_a1 E_a1 (Or.inr ⟨(hw _ (List.mem_of_getElem? (i := 26) rfl)), rfl, hnm⟩) (hw _ (List.mem_of_getElem? (i := 11) rfl)) (ty := (.array .byte)) (by decide) rfl rfl (g := (mkF m 54 #[.val (.ref a1), .val (.ref a2), .val (.int (0 : Int32)), .val (.int n), .val .null, .val (.ref t9)] [(.ref t9), (.ref a1)])) rfl rfl (hb hby d4_54)
    refine Go.st st12 ?_
    have N12 := Fr.snoc X12 N11 g_a1
    replace E_a1 := E_a1.wr W12
    replace F_coder_a1 := F_coder_a1.other W12 (Or.inr (slot_ne (a0 := a0) (Or.inr (hw _ (List.mem_of_getElem? (i := 27) rfl))) (Or.inr (hw _ (List.mem_of_getElem? (i := 26) rfl))) (by decide) (t := .byte) (t' := (.array .byte)) (by decide) (by decide)))
    replace V2 := V2.other W12 (Ne.symm hne)
    replace Vq9 := Vq9.other W12 (Ne.symm ne_a1_t9)
    replace CR := CR.trans (CHr.wr W12 SF_a1 CH)
    have CH' := CH.wr W12 SF_a1
    replace SF_a1 := Safe.wr W12 SF_a1 CH SF_a1
    replace CH := CH'
    clear CH'
    replace hk : k0 ≤ h12.size := by rw [W12.size]; exact hk
    replace O := O.wr W12 g_a1
    replace K := K.wr W12 (Or.inl (List.mem_of_getElem? (i := 0) rfl))
    replace Zn : n0 ≤ h12.size := by rw [W12.size]; exact Zn
    replace F_value_a1 := F_value_a1.same W12
    show Go p.tables e below PP (T12.setTop (mkF m 57 #[.val (.ref a1), .val (.ref a2), .val (.int (0 : Int32)), .val (.int n), .val .null, .val (.ref t9)] []))
    rw [hPP]
    refine endVW X12 hx hlk hZ hS e12 hk hEL CH CR hret (hb hby d4_57) ?_ (by decide) (by decide)
    show QSI Z a1 a2 n cf zc h0 n0 none T12.heap _
    rw [e12]
    exact ⟨rfl, N12, K, E_a1, F_coder_a1, _, F_value_a1, Vq9⟩
theorem d3_0 : decode jdk_42_method_3_code 0 = .ok (.aload_n 0, 1) := by decide +kernel
theorem d3_1 : decode jdk_42_method_3_code 1 = .ok (.aload_n 1, 1) := by decide +kernel
theorem d3_2 : decode jdk_42_method_3_code 2 = .ok (.iconst 0, 1) := by decide +kernel
theorem d3_3 : decode jdk_42_method_3_code 3 = .ok (.aload_n 1, 1) := by decide +kernel
theorem d3_4 : decode jdk_42_method_3_code 4 = .ok (.arraylength, 1) := by decide +kernel
theorem d3_5 : decode jdk_42_method_3_code 5 = .ok (.aconst_null, 1) := by decide +kernel
theorem d3_6 : decode jdk_42_method_3_code 6 = .ok (.invokespecial 27, 3) := by decide +kernel
theorem d3_9 : decode jdk_42_method_3_code 9 = .ok (.return_, 1) := by decide +kernel
theorem pn_rmS1 : plainName "java/lang/String" = true := by first | (simp [plainName, overriddenIn]; done) | decide +kernel
theorem ef_rmS1 (m : MethodId) (a1 : Addr) (a2 : Addr) : entryFrame m #[(.ref a1), (.ref a2)] 2 = mkF m 0 #[.val (.ref a1), .val (.ref a2)] [] := by first | (simp [entryFrame, mkF, argsToLocals, Value.category]; done) | rfl
def QS1 (Z : State) (a1 : Addr) (a2 : Addr) (n : Int32) (cf : Nat → Int32) (zc : Int32) (h0 : Heap) (n0 : Nat) (v : Option Value) (h : Heap) (L : List Loc) : Prop := v = none ∧ Fr n0 L ∧ Keep h0 h [a1] ∧ Exa Z h a1 "java/lang/String" ∧ Fld Z h a1 "java/lang/String" "coder" "B" (.int (0 : Int32)) ∧ ∃ t : Addr, Fld Z h a1 "java/lang/String" "value" "[B" (.ref t) ∧ Afn Z h t .byte n (fun k => .int ((cf k).toInt8.toInt32))
theorem pd_3 : parseMethodDescriptor "([CIILjava/lang/Void;)V" = some ⟨[(.array .char), .int, .int, (.object "java/lang/Void")], none⟩ := by decide +kernel
set_option maxRecDepth 65536 in
set_option maxHeartbeats 40000000 in
theorem rmS1 (l : Launch) (Z : State) (a0 : Array Value) (hw : ∀ d ∈ tables_1, d.before a0 Z = true) (ws : List Jvm.Cond) (a1 : Addr) (a2 : Addr) (n : Int32) (cf : Nat → Int32) (zc : Int32) (h0 : Heap) (n0 : Nat) (Z0 : n0 ≤ h0.size) (hEL : EW Z a0 consts_1) (E_a1 : Exa Z h0 a1 "java/lang/String") (F_value_a1 : Fld Z h0 a1 "java/lang/String" "value" "[B" .null) (F_coder_a1 : Fld Z h0 a1 "java/lang/String" "coder" "B" (.int (0 : Int32))) (g_a1 : n0 ≤ a1) (V2 : Afn Z h0 a2 .char n (fun k => .int (cf k))) (hcb : ∀ k, k < n.toNatClampNeg → ¬ cf k < (0 : Int32) ∧ ¬ (255 : Int32) < cf k) (hcap : n.toNatClampNeg ≤ 2) (hne : a1 ≠ a2) (SC : Sta Z Z.heap "java/lang/String" "COMPACT_STRINGS" "Z" (.int zc)) (hzc : ¬ zc = (0 : Int32)) (O : Old Z n0 h0) :
    ConH l Z consts_1 (⟨"java/lang/String", "<init>", "([C)V"⟩ : MethodName) jdk_42_method_3_code 2 none ws ({ frames := 3, cells := 4, slots := 8, locals := 54 } : Room) #[(.ref a1), (.ref a2)] h0 (QS1 Z a1 a2 n cf zc h0 n0) := by
  refine ConH.of (plainFor_of_name pn_rmS1) ?_
  intro p e s m below meth c s₁ vm0 k0 hZ e0 X0 hx hby hml hown hnm hret hlk hS hk CH CR
  replace hml : c.maxLocals = 2 := hml
  have hown : vm0.findClass "java/lang/String" = some m.cls := hown
  have N0 : Fr n0 [] := Fr.nil n0
  obtain ⟨PP, hPP⟩ : ∃ P, P = FineW Z consts_1 s below (QS1 Z a1 a2 n cf zc h0 n0) ({ frames := 3, cells := 4, slots := 8, locals := 54 } : Room).cells ({ frames := 3, cells := 4, slots := 8, locals := 54 } : Room).slots := ⟨_, rfl⟩
  rw [← hPP]
  refine Go.cast (ef_rmS1 m a1 a2) ?_
  have K : Keep h0 h0 [a1] := Keep.refl h0 _
  have Zn : n0 ≤ h0.size := Z0
  have SF_a1 : Safe Z consts_1 vm0 h0 a1 := safe_str hZ.alike E_a1 F_value_a1
  show Go p.tables e below PP (s₁.setTop (mkF m 0 #[.val (.ref a1), .val (.ref a2)] []))
  refine Go.st (fun t k => XS.aloadN X0.here hx rfl (hb hby d3_0) rfl rfl k) ?_
  show Go p.tables e below PP (s₁.setTop (mkF m 1 #[.val (.ref a1), .val (.ref a2)] [(.ref a1)]))
  refine Go.st (fun t k => XS.aloadN X0.here hx rfl (hb hby d3_1) rfl rfl k) ?_
  show Go p.tables e below PP (s₁.setTop (mkF m 2 #[.val (.ref a1), .val (.ref a2)] [(.ref a2), (.ref a1)]))
  refine Go.st (fun t k => XS.iconst X0.here hx rfl (hb hby d3_2) k) ?_
  show Go p.tables e below PP (s₁.setTop (mkF m 3 #[.val (.ref a1), .val (.ref a2)] [(.int (0 : Int32)), (.ref a2), (.ref a1)]))
  refine Go.st (fun t k => XS.aloadN X0.here hx rfl (hb hby d3_3) rfl rfl k) ?_
  show Go p.tables e below PP (s₁.setTop (mkF m 4 #[.val (.ref a1), .val (.ref a2)] [(.ref a2), (.int (0 : Int32)), (.ref a2), (.ref a1)]))
  obtain ⟨cl1, Ar1, S1, Nn1, -⟩ := id V2
  refine Go.st (fun t k => X0.arraylength hx (by rw [e0]; exact Ar1.1) (State.isArrayOf_alike hZ.alike Ar1.2.1) (g := (mkF m 4 #[.val (.ref a1), .val (.ref a2)] [(.ref a2), (.int (0 : Int32)), (.ref a2), (.ref a1)])) rfl rfl (hb hby d3_4) _ k) ?_
  rw [len_of S1 Nn1]
  show Go p.tables e below PP (s₁.setTop (mkF m 5 #[.val (.ref a1), .val (.ref a2)] [(.int n), (.int (0 : Int32)), (.ref a2), (.ref a1)]))
  refine Go.st (fun t k => XS.aconstNull X0.here hx rfl (hb hby d3_5) k) ?_
  show Go p.tables e below PP (s₁.setTop (mkF m 6 #[.val (.ref a1), .val (.ref a2)] [.null, (.int n), (.int (0 : Int32)), (.ref a2), (.ref a1)]))
  have hZ0 := hZ
  have hown0 := hown
  clear hZ hown
  obtain ⟨v2, T2, L2, X2, hQ2, hC2, hSn2, hZ, hown, st2⟩ := callInW X0 hx hZ0 (y := (⟨"java/lang/String", "<init>", "([CIILjava/lang/Void;)V"⟩ : MethodName)) (a := a1) (argsL := [(.ref a2), (.int (0 : Int32)), (.int n), .null]) (rest := []) rfl hown0 (hw _ (List.mem_of_getElem? (i := 17) rfl)) (hw _ (List.mem_of_getElem? (i := 18) rfl)) (hw _ (List.mem_of_getElem? (i := 12) rfl)) (hw _ (List.mem_of_getElem? (i := 20) rfl)) (by decide) (rmSI l Z a0 hw [] a1 a2 n cf zc h0 n0 Zn hEL E_a1 F_value_a1 F_coder_a1 g_a1 V2 hcb hcap hne SC hzc O) e0 hEL CH hS hk 0 (by decide) (by decide) (by decide) (by decide) (g := (mkF m 6 #[.val (.ref a1), .val (.ref a2)] [.null, (.int n), (.int (0 : Int32)), (.ref a2), (.ref a1)])) rfl (by rw [hml]; rfl) (lenOf pd_3 rfl) rfl (by show 2 * 0 + _ ≤ _; exact Nat.le_of_eq rfl) (hb hby d3_6)
  clear hZ0 hown0
  replace hS := hSn2
  obtain ⟨h2, e2⟩ : ∃ z, T2.heap = z := ⟨_, rfl⟩
  rw [e2] at hQ2 hC2
  replace SF_a1 := hC2.safe E_a1.lt SF_a1
  replace CR := CR.trans hC2
  replace CH := hC2.1
  replace hk : T2.heap.size ≤ h2.size := by rw [e2]; exact Nat.le_refl _
  obtain ⟨rfl, Nq2, Kq2, Eq2, Cq2, t2, Fq2, Vq2⟩ := hQ2
  have N2 := Fr.app N0 Nq2
  replace E_a1 := E_a1.keep Kq2
  clear F_value_a1
  clear F_coder_a1
  replace V2 := V2.keep Kq2 (ninS (Ne.symm hne) nin0)
  replace O := O.keep Kq2 (allS g_a1 all0)
  replace K := K.trans Kq2 (allS (Or.inl (List.mem_of_getElem? (i := 0) rfl)) all0)
  replace Zn := Nat.le_trans Zn Kq2.1
  replace E_a1 := Eq2
  have F_value_a1 := Fq2
  have F_coder_a1 := Cq2
  refine Go.st st2 ?_
  show Go p.tables e below PP (T2.setTop (mkF m 9 #[.val (.ref a1), .val (.ref a2)] []))
  rw [hPP]
  refine endVW X2 hx hlk hZ hS e2 hk hEL CH CR hret (hb hby d3_9) ?_ (by decide) (by decide)
  show QS1 Z a1 a2 n cf zc h0 n0 none T2.heap _
  rw [e2]
  exact ⟨rfl, N2, K, E_a1, F_coder_a1, _, F_value_a1, Vq2⟩
theorem d17_0 : decode jdk_42_method_151_code 0 = .ok (.aload_n 0, 1) := by decide +kernel
theorem d17_1 : decode jdk_42_method_151_code 1 = .ok (.invokespecial 1, 3) := by decide +kernel
theorem d17_4 : decode jdk_42_method_151_code 4 = .ok (.aload_n 0, 1) := by decide +kernel
theorem d17_5 : decode jdk_42_method_151_code 5 = .ok (.aload_n 1, 1) := by decide +kernel
theorem d17_6 : decode jdk_42_method_151_code 6 = .ok (.putfield 9, 3) := by decide +kernel
theorem d17_9 : decode jdk_42_method_151_code 9 = .ok (.aload_n 0, 1) := by decide +kernel
theorem d17_10 : decode jdk_42_method_151_code 10 = .ok (.iload_n 2, 1) := by decide +kernel
theorem d17_11 : decode jdk_42_method_151_code 11 = .ok (.putfield 15, 3) := by decide +kernel
theorem d17_14 : decode jdk_42_method_151_code 14 = .ok (.return_, 1) := by decide +kernel
theorem pn_rm17 : plainName "java/lang/String" = true := by first | (simp [plainName, overriddenIn]; done) | decide +kernel
theorem ef_rm17 (m : MethodId) (a1 : Addr) (a2 : Addr) : entryFrame m #[(.ref a1), (.ref a2), (.int (0 : Int32))] 3 = mkF m 0 #[.val (.ref a1), .val (.ref a2), .val (.int (0 : Int32))] [] := by first | (simp [entryFrame, mkF, argsToLocals, Value.category]; done) | rfl
def Q17 (Z : State) (a1 : Addr) (a2 : Addr) (h0 : Heap) (n0 : Nat) (v : Option Value) (h : Heap) (L : List Loc) : Prop := v = none ∧ Fr n0 L ∧ Keep h0 h [a1] ∧ Fld Z h a1 "java/lang/String" "value" "[B" (.ref a2) ∧ Fld Z h a1 "java/lang/String" "coder" "B" (.int (0 : Int32))
set_option maxRecDepth 65536 in
set_option maxHeartbeats 40000000 in
theorem rm17 (l : Launch) (Z : State) (a0 : Array Value) (hw : ∀ d ∈ tables_1, d.before a0 Z = true) (ws : List Jvm.Cond) (a1 : Addr) (a2 : Addr) (h0 : Heap) (n0 : Nat) (Z0 : n0 ≤ h0.size) (E_a1 : Exa Z h0 a1 "java/lang/String") (F_value_a1 : Fld Z h0 a1 "java/lang/String" "value" "[B" .null) (F_coder_a1 : Fld Z h0 a1 "java/lang/String" "coder" "B" (.int (0 : Int32))) (g_a1 : n0 ≤ a1) :
    Con l Z (⟨"java/lang/String", "<init>", "([BB)V"⟩ : MethodName) jdk_42_method_151_code 3 none ws ({ frames := 1, cells := 0, slots := 0, locals := 12 } : Room) #[(.ref a1), (.ref a2), (.int (0 : Int32))] h0 (Q17 Z a1 a2 h0 n0) := by
  refine Con.of (plainFor_of_name pn_rm17) ?_
  intro p e s m below meth c s₁ hZ e0 X0 hx hby hml hown hnm hret hlk
  replace hml : c.maxLocals = 3 := hml
  have hown : s.vm.findClass "java/lang/String" = some m.cls := hown
  have N0 : Fr n0 [] := Fr.nil n0
  obtain ⟨PP, hPP⟩ : ∃ P, P = Fine s below (Q17 Z a1 a2 h0 n0) ({ frames := 1, cells := 0, slots := 0, locals := 12 } : Room).cells ({ frames := 1, cells := 0, slots := 0, locals := 12 } : Room).slots := ⟨_, rfl⟩
  rw [← hPP]
  refine Go.cast (ef_rm17 m a1 a2) ?_
  have K : Keep h0 h0 [a1] := Keep.refl h0 _
  have Zn : n0 ≤ h0.size := Z0
  show Go p.tables e below PP (s₁.setTop (mkF m 0 #[.val (.ref a1), .val (.ref a2), .val (.int (0 : Int32))] []))
  refine Go.st (fun t k => XS.aloadN X0.here hx rfl (hb hby d17_0) rfl rfl k) ?_
  show Go p.tables e below PP (s₁.setTop (mkF m 1 #[.val (.ref a1), .val (.ref a2), .val (.int (0 : Int32))] [(.ref a1)]))
  obtain ⟨T1, X1, e1, st1⟩ := initO X0 hx hZ hown (hw _ (List.mem_of_getElem? (i := 21) rfl)) (hw _ (List.mem_of_getElem? (i := 22) rfl)) (hw _ (List.mem_of_getElem? (i := 23) rfl)) e0 (g := (mkF m 1 #[.val (.ref a1), .val (.ref a2), .val (.int (0 : Int32))] [(.ref a1)])) rfl (by rw [hml]; rfl) rfl (hb hby d17_1) (by decide) (W := 0) (by show 2 * 0 + _ ≤ _; exact Nat.le_of_eq rfl) (by decide)
  refine Go.st st1 ?_
  show Go p.tables e below PP (T1.setTop (mkF m 4 #[.val (.ref a1), .val (.ref a2), .val (.int (0 : Int32))] []))
  refine Go.st (fun t k => XS.aloadN X1.here hx rfl (hb hby d17_4) rfl rfl k) ?_
  show Go p.tables e below PP (T1.setTop (mkF m 5 #[.val (.ref a1), .val (.ref a2), .val (.int (0 : Int32))] [(.ref a1)]))
  refine Go.st (fun t k => XS.aloadN X1.here hx rfl (hb hby d17_5) rfl rfl k) ?_
  show Go p.tables e below PP (T1.setTop (mkF m 6 #[.val (.ref a1), .val (.ref a2), .val (.int (0 : Int32))] [(.ref a2), (.ref a1)]))
  obtain ⟨T2, h2, X2, e2, W2, st2⟩ := putF X1 hx hZ hown (host := "") (Or.inl (hw _ (List.mem_of_getElem? (i := 30) rfl))) Via.refl e1 F_value_a1 E_a1 (Or.inr ⟨(hw _ (List.mem_of_getElem? (i := 26) rfl)), rfl, hnm⟩) (hw _ (List.mem_of_getElem? (i := 11) rfl)) (ty := (.array .byte)) (by decide) rfl rfl (g := (mkF m 6 #[.val (.ref a1), .val (.ref a2), .val (.int (0 : Int32))] [(.ref a2), (.ref a1)])) rfl rfl (hb hby d17_6)
  refine Go.st st2 ?_
  have N2 := Fr.snoc X2 N0 g_a1
  replace E_a1 := E_a1.wr W2
  replace F_coder_a1 := F_coder_a1.other W2 (Or.inr (slot_ne (a0 := a0) (Or.inr (hw _ (List.mem_of_getElem? (i := 27) rfl))) (Or.inr (hw _ (List.mem_of_getElem? (i := 26) rfl))) (by decide) (t := .byte) (t' := (.array .byte)) (by decide) (by decide)))
  replace K := K.wr W2 (Or.inl (List.mem_of_getElem? (i := 0) rfl))
  replace Zn : n0 ≤ h2.size := by rw [W2.size]; exact Zn
  replace F_value_a1 := F_value_a1.same W2
  show Go p.tables e below PP (T2.setTop (mkF m 9 #[.val (.ref a1), .val (.ref a2), .val (.int (0 : Int32))] []))
  refine Go.st (fun t k => XS.aloadN X2.here hx rfl (hb hby d17_9) rfl rfl k) ?_
  show Go p.tables e below PP (T2.setTop (mkF m 10 #[.val (.ref a1), .val (.ref a2), .val (.int (0 : Int32))] [(.ref a1)]))
  refine Go.st (fun t k => XS.iloadN X2.here hx rfl (hb hby d17_10) rfl k) ?_
  show Go p.tables e below PP (T2.setTop (mkF m 11 #[.val (.ref a1), .val (.ref a2), .val (.int (0 : Int32))] [(.int (0 : Int32)), (.ref a1)]))
  obtain ⟨T3, h3, X3, e3, W3, st3⟩ := putFN X2 hx hZ hown (hw _ (List.mem_of_getElem? (i := 31) rfl)) Via.refl e2 F_coder_a1 E_a1 (Or.inr ⟨(hw _ (List.mem_of_getElem? (i := 27) rfl)), rfl, hnm⟩) (hw _ (List.mem_of_getElem? (i := 11) rfl)) (ty := .byte) (v' := (.int (0 : Int32))) (by decide) rfl (by decide) (g := (mkF m 11 #[.val (.ref a1), .val (.ref a2), .val (.int (0 : Int32))] [(.int (0 : Int32)), (.ref a1)])) rfl rfl (hb hby d17_11)
  refine Go.st st3 ?_
  have N3 := Fr.snoc X3 N2 g_a1
  replace E_a1 := E_a1.wr W3
  replace F_value_a1 := F_value_a1.other W3 (Or.inr (slot_ne (a0 := a0) (Or.inr (hw _ (List.mem_of_getElem? (i := 26) rfl))) (Or.inr (hw _ (List.mem_of_getElem? (i := 27) rfl))) (by decide) (t := (.array .byte)) (t' := .byte) (by decide) (by decide)))
  replace K := K.wr W3 (Or.inl (List.mem_of_getElem? (i := 0) rfl))
  replace Zn : n0 ≤ h3.size := by rw [W3.size]; exact Zn
  replace F_coder_a1 := F_coder_a1.same W3
  show Go p.tables e below PP (T3.setTop (mkF m 14 #[.val (.ref a1), .val (.ref a2), .val (.int (0 : Int32))] []))
  rw [hPP]
  refine endV X3 hx hlk hret (hb hby d17_14) ?_ (by decide) (by decide)
  show Q17 Z a1 a2 h0 n0 none T3.heap _
  rw [e3]
  exact ⟨rfl, N3, K, F_value_a1, F_coder_a1⟩
theorem d15_0 : decode jdk_43_method_3_code 0 = .ok (.iload_n 0, 1) := by decide +kernel
theorem d15_1 : decode jdk_43_method_3_code 1 = .ok (.sipush 255, 3) := by decide +kernel
theorem d15_4 : decode jdk_43_method_3_code 4 = .ok (.if_icmp .gt 7, 3) := by decide +kernel
theorem d15_7 : decode jdk_43_method_3_code 7 = .ok (.iconst 1, 1) := by decide +kernel
theorem d15_8 : decode jdk_43_method_3_code 8 = .ok (.goto 4, 3) := by decide +kernel
theorem d15_11 : decode jdk_43_method_3_code 11 = .ok (.iconst 0, 1) := by decide +kernel
theorem d15_12 : decode jdk_43_method_3_code 12 = .ok (.ireturn, 1) := by decide +kernel
theorem pn_rm15 : plainName "java/lang/StringLatin1" = true := by first | (simp [plainName, overriddenIn]; done) | decide +kernel
theorem ef_rm15 (m : MethodId) (p1 : Int32) : entryFrame m #[(.int p1)] 1 = mkF m 0 #[.val (.int p1)] [] := by first | (simp [entryFrame, mkF, argsToLocals, Value.category]; done) | rfl
def Q15 (Z : State) (p1 : Int32) (h0 : Heap) (n0 : Nat) (v : Option Value) (h : Heap) (L : List Loc) : Prop := v = some (.int (bi (¬ (255 : Int32) < p1))) ∧ L = [] ∧ h = h0
set_option maxRecDepth 65536 in
set_option maxHeartbeats 40000000 in
theorem rm15 (l : Launch) (Z : State) (a0 : Array Value) (hw : ∀ d ∈ tables_1, d.before a0 Z = true) (ws : List Jvm.Cond) (p1 : Int32) (h0 : Heap) (n0 : Nat) (Z0 : n0 ≤ h0.size) :
    Con l Z (⟨"java/lang/StringLatin1", "canEncode", "(C)Z"⟩ : MethodName) jdk_43_method_3_code 1 (some .boolean) ws ({ frames := 0, cells := 0, slots := 0, locals := 0 } : Room) #[(.int p1)] h0 (Q15 Z p1 h0 n0) := by
  refine Con.of (plainFor_of_name pn_rm15) ?_
  intro p e s m below meth c s₁ hZ e0 X0 hx hby hml hown hnm hret hlk
  replace hml : c.maxLocals = 1 := hml
  have hown : s.vm.findClass "java/lang/StringLatin1" = some m.cls := hown
  have N0 : Fr n0 [] := Fr.nil n0
  obtain ⟨PP, hPP⟩ : ∃ P, P = Fine s below (Q15 Z p1 h0 n0) ({ frames := 0, cells := 0, slots := 0, locals := 0 } : Room).cells ({ frames := 0, cells := 0, slots := 0, locals := 0 } : Room).slots := ⟨_, rfl⟩
  rw [← hPP]
  refine Go.cast (ef_rm15 m p1) ?_
  have Zn : n0 ≤ h0.size := Z0
  show Go p.tables e below PP (s₁.setTop (mkF m 0 #[.val (.int p1)] []))
  refine Go.st (fun t k => XS.iloadN X0.here hx rfl (hb hby d15_0) rfl k) ?_
  show Go p.tables e below PP (s₁.setTop (mkF m 1 #[.val (.int p1)] [(.int p1)]))
  refine Go.st (fun t k => XS.sipush X0.here hx rfl (hb hby d15_1) k) ?_
  show Go p.tables e below PP (s₁.setTop (mkF m 4 #[.val (.int p1)] [(.int (255 : Int32)), (.int p1)]))
  by_cases hc4 : (255 : Int32) < p1
  · --
    refine Go.st (fun t k => XS.icmpYes X0.here hx rfl (pc0 := 4) (pc' := 11) rfl (hb hby d15_4) rfl (XT.ii_gt_t hc4) (by decide) (by decide) k) ?_
    show Go p.tables e below PP (s₁.setTop (mkF m 11 #[.val (.int p1)] []))
    refine Go.st (fun t k => XS.iconst X0.here hx rfl (hb hby d15_11) k) ?_
    show Go p.tables e below PP (s₁.setTop (mkF m 12 #[.val (.int p1)] [(.int (0 : Int32))]))
    rw [hPP]
    refine endN X0 hx hlk (t := .boolean) hret (by simp) (hb hby d15_12) (w := (0 : Int32)) (rfl) ?_ (by decide) (by decide)
    show Q15 Z p1 h0 n0 (some (.int (0 : Int32))) s₁.heap _
    rw [e0]
    exact ⟨by simp [bi, hc4], rfl, rfl⟩
  · --
    refine Go.st (fun t k => XS.icmpNo X0.here hx rfl (hb hby d15_4) rfl (XT.ii_gt_f hc4) k) ?_
    show Go p.tables e below PP (s₁.setTop (mkF m 7 #[.val (.int p1)] []))
    refine Go.st (fun t k => XS.iconst X0.here hx rfl (hb hby d15_7) k) ?_
    show Go p.tables e below PP (s₁.setTop (mkF m 8 #[.val (.int p1)] [(.int (1 : Int32))]))
    refine Go.st (fun t k => XS.goto X0.here hx rfl (pc0 := 8) (pc' := 12) rfl (hb hby d15_8) (by decide) (by decide) k) ?_
    show Go p.tables e below PP (s₁.setTop (mkF m 12 #[.val (.int p1)] [(.int (1 : Int32))]))
    rw [hPP]
    refine endN X0 hx hlk (t := .boolean) hret (by simp) (hb hby d15_12) (w := (1 : Int32)) (rfl) ?_ (by decide) (by decide)
    show Q15 Z p1 h0 n0 (some (.int (1 : Int32))) s₁.heap _
    rw [e0]
    exact ⟨by simp [bi, hc4], rfl, rfl⟩
theorem own_tb (x : Int32) (k : Nat) (hk : k < (1 : Int32).toNatClampNeg) : (if k = (0 : Int32).toNatClampNeg then Value.int ((x.toInt8.toInt32).toInt8.toInt32) else Value.int (0 : Int32)) = Value.int ((csL [x] k).toInt8.toInt32) := by
  have e : (1 : Int32).toNatClampNeg = 1 := rfl
  have e0 : (0 : Int32).toNatClampNeg = 0 := rfl
  rw [e] at hk
  obtain rfl : k = 0 := by omega
  simp [csL, e0]
theorem d16_0 : decode jdk_43_method_46_code 0 = .ok (.iconst 1, 1) := by decide +kernel
theorem d16_1 : decode jdk_43_method_46_code 1 = .ok (.newarray .byte, 2) := by decide +kernel
theorem d16_3 : decode jdk_43_method_46_code 3 = .ok (.dup, 1) := by decide +kernel
theorem d16_4 : decode jdk_43_method_46_code 4 = .ok (.iconst 0, 1) := by decide +kernel
theorem d16_5 : decode jdk_43_method_46_code 5 = .ok (.iload_n 0, 1) := by decide +kernel
theorem d16_6 : decode jdk_43_method_46_code 6 = .ok (.i2b, 1) := by decide +kernel
theorem d16_7 : decode jdk_43_method_46_code 7 = .ok (.bastore, 1) := by decide +kernel
theorem d16_8 : decode jdk_43_method_46_code 8 = .ok (.areturn, 1) := by decide +kernel
theorem pn_rm16 : plainName "java/lang/StringLatin1" = true := by first | (simp [plainName, overriddenIn]; done) | decide +kernel
theorem ef_rm16 (m : MethodId) (p1 : Int32) : entryFrame m #[(.int p1)] 1 = mkF m 0 #[.val (.int p1)] [] := by first | (simp [entryFrame, mkF, argsToLocals, Value.category]; done) | rfl
def Q16 (Z : State) (p1 : Int32) (h0 : Heap) (n0 : Nat) (v : Option Value) (h : Heap) (L : List Loc) : Prop := ∃ t : Addr, v = some (.ref t) ∧ Fr n0 L ∧ Keep h0 h [] ∧ h0.size ≤ t ∧ Afn Z h t .byte (1 : Int32) (fun k => .int ((csL [p1] k).toInt8.toInt32))
set_option maxRecDepth 65536 in
set_option maxHeartbeats 40000000 in
theorem rm16 (l : Launch) (Z : State) (a0 : Array Value) (hw : ∀ d ∈ tables_1, d.before a0 Z = true) (ws : List Jvm.Cond) (p1 : Int32) (h0 : Heap) (n0 : Nat) (Z0 : n0 ≤ h0.size) :
    Con l Z (⟨"java/lang/StringLatin1", "toBytes", "(C)[B"⟩ : MethodName) jdk_43_method_46_code 1 (some (.array .byte)) ws ({ frames := 0, cells := 1, slots := 1, locals := 0 } : Room) #[(.int p1)] h0 (Q16 Z p1 h0 n0) := by
  refine Con.of (plainFor_of_name pn_rm16) ?_
  intro p e s m below meth c s₁ hZ e0 X0 hx hby hml hown hnm hret hlk
  replace hml : c.maxLocals = 1 := hml
  have hown : s.vm.findClass "java/lang/StringLatin1" = some m.cls := hown
  have N0 : Fr n0 [] := Fr.nil n0
  obtain ⟨PP, hPP⟩ : ∃ P, P = Fine s below (Q16 Z p1 h0 n0) ({ frames := 0, cells := 1, slots := 1, locals := 0 } : Room).cells ({ frames := 0, cells := 1, slots := 1, locals := 0 } : Room).slots := ⟨_, rfl⟩
  rw [← hPP]
  refine Go.cast (ef_rm16 m p1) ?_
  have K : Keep h0 h0 [] := Keep.refl h0 _
  have Zn : n0 ≤ h0.size := Z0
  show Go p.tables e below PP (s₁.setTop (mkF m 0 #[.val (.int p1)] []))
  refine Go.st (fun t k => XS.iconst X0.here hx rfl (hb hby d16_0) k) ?_
  show Go p.tables e below PP (s₁.setTop (mkF m 1 #[.val (.int p1)] [(.int (1 : Int32))]))
  obtain ⟨T1, h1, k1, X1, e1, E1, A1, st1⟩ := newP X0 hx hZ (hw _ (List.mem_of_getElem? (i := 25) rfl)) e0 (g := (mkF m 1 #[.val (.int p1)] [(.int (1 : Int32))])) rfl (hb hby d16_1) rfl (by decide) (cap := 1) (by decide) (by decide) (by decide) (by decide)
  obtain ⟨b1, gz1⟩ : ∃ z, z = h0.size := ⟨_, rfl⟩
  rw [← gz1] at A1 st1
  have g_b1 : n0 ≤ b1 := Nat.le_trans Zn (Nat.le_of_eq gz1.symm)
  have sz_b1 : h0.size ≤ b1 := Nat.le_trans K.1 (Nat.le_of_eq gz1.symm)
  refine Go.st st1 ?_
  replace K := K.ext E1
  replace Zn := Nat.le_trans Zn E1.1
  have V_b1 : Afn Z h1 b1 .byte (1 : Int32) (fun _ => (.int (0 : Int32))) := Afn.new A1 (by decide)
  show Go p.tables e below PP (T1.setTop (mkF m 3 #[.val (.int p1)] [(.ref b1)]))
  refine Go.st (fun t k => XS.dup X1.here hx rfl (hb hby d16_3) rfl rfl k) ?_
  show Go p.tables e below PP (T1.setTop (mkF m 4 #[.val (.int p1)] [(.ref b1), (.ref b1)]))
  refine Go.st (fun t k => XS.iconst X1.here hx rfl (hb hby d16_4) k) ?_
  show Go p.tables e below PP (T1.setTop (mkF m 5 #[.val (.int p1)] [(.int (0 : Int32)), (.ref b1), (.ref b1)]))
  refine Go.st (fun t k => XS.iloadN X1.here hx rfl (hb hby d16_5) rfl k) ?_
  show Go p.tables e below PP (T1.setTop (mkF m 6 #[.val (.int p1)] [(.int p1), (.int (0 : Int32)), (.ref b1), (.ref b1)]))
  refine Go.st (fun t k => XS.i2b X1.here hx rfl (hb hby d16_6) rfl k) ?_
  show Go p.tables e below PP (T1.setTop (mkF m 7 #[.val (.int p1)] [(.int (p1.toInt8.toInt32)), (.int (0 : Int32)), (.ref b1), (.ref b1)]))
  obtain ⟨cl2, Ar2, S2, Nn2, H2⟩ := id V_b1
  have hin2 : ¬ ((0 : Int32) < 0 ∨ cl2.slots.size ≤ ((0 : Int32)).toNatClampNeg) := inb_of S2 ⟨by decide, by decide⟩
  obtain ⟨T2, h2, X2, e2, W2, st2⟩ := stB X1 hx hZ e1 Ar2 (j := (0 : Int32)) hin2 (g := (mkF m 7 #[.val (.int p1)] [(.int (p1.toInt8.toInt32)), (.int (0 : Int32)), (.ref b1), (.ref b1)])) rfl rfl (hb hby d16_7)
  refine Go.st st2 ?_
  have N2 := Fr.snoc X2 N0 g_b1
  replace K := K.wr W2 (Or.inr sz_b1)
  replace Zn : n0 ≤ h2.size := by rw [W2.size]; exact Zn
  replace V_b1 := Afn.set Ar2 S2 Nn2 H2 (fits_nar_byte _) W2
  show Go p.tables e below PP (T2.setTop (mkF m 8 #[.val (.int p1)] [(.ref b1)]))
  rw [hPP]
  refine endR X2 hx hlk hret rfl rfl (hb hby d16_8) ?_ (by decide) (by decide)
  show Q16 Z p1 h0 n0 (some (.ref b1)) T2.heap _
  rw [e2]
  exact ⟨b1, rfl, N2, K, sz_b1, V_b1.congr (fun k hk => own_tb p1 k hk)⟩
theorem d14_0 : decode jdk_42_method_139_code 0 = .ok (.getstatic 38, 3) := by decide +kernel
theorem d14_3 : decode jdk_42_method_139_code 3 = .ok (.ifCond .eq 23, 3) := by decide +kernel
theorem d14_6 : decode jdk_42_method_139_code 6 = .ok (.iload_n 0, 1) := by decide +kernel
theorem d14_7 : decode jdk_42_method_139_code 7 = .ok (.invokestatic 1015, 3) := by decide +kernel
theorem d14_10 : decode jdk_42_method_139_code 10 = .ok (.ifCond .eq 16, 3) := by decide +kernel
theorem d14_13 : decode jdk_42_method_139_code 13 = .ok (.new 10, 3) := by decide +kernel
theorem d14_16 : decode jdk_42_method_139_code 16 = .ok (.dup, 1) := by decide +kernel
theorem d14_17 : decode jdk_42_method_139_code 17 = .ok (.iload_n 0, 1) := by decide +kernel
theorem d14_18 : decode jdk_42_method_139_code 18 = .ok (.invokestatic 1018, 3) := by decide +kernel
theorem d14_21 : decode jdk_42_method_139_code 21 = .ok (.iconst 0, 1) := by decide +kernel
theorem d14_22 : decode jdk_42_method_139_code 22 = .ok (.invokespecial 209, 3) := by decide +kernel
theorem d14_25 : decode jdk_42_method_139_code 25 = .ok (.areturn, 1) := by decide +kernel
theorem d14_26 : decode jdk_42_method_139_code 26 = .ok (.new 10, 3) := by decide +kernel
theorem d14_29 : decode jdk_42_method_139_code 29 = .ok (.dup, 1) := by decide +kernel
theorem d14_30 : decode jdk_42_method_139_code 30 = .ok (.iload_n 0, 1) := by decide +kernel
theorem d14_31 : decode jdk_42_method_139_code 31 = .ok (.invokestatic 1021, 3) := by decide +kernel
theorem d14_34 : decode jdk_42_method_139_code 34 = .ok (.iconst 1, 1) := by decide +kernel
theorem d14_35 : decode jdk_42_method_139_code 35 = .ok (.invokespecial 209, 3) := by decide +kernel
theorem d14_38 : decode jdk_42_method_139_code 38 = .ok (.areturn, 1) := by decide +kernel
theorem pn_rm14 : plainName "java/lang/String" = true := by first | (simp [plainName, overriddenIn]; done) | decide +kernel
theorem ef_rm14 (m : MethodId) (p1 : Int32) : entryFrame m #[(.int p1)] 1 = mkF m 0 #[.val (.int p1)] [] := by first | (simp [entryFrame, mkF, argsToLocals, Value.category]; done) | rfl
def Q14 (Z : State) (p1 : Int32) (zc : Int32) (h0 : Heap) (n0 : Nat) (v : Option Value) (h : Heap) (L : List Loc) : Prop := ∃ r t : Addr, v = some (.ref r) ∧ Fr n0 L ∧ Keep h0 h [] ∧ h0.size ≤ r ∧ h0.size ≤ t ∧ Exa Z h r "java/lang/String" ∧ Fld Z h r "java/lang/String" "coder" "B" (.int (0 : Int32)) ∧ Fld Z h r "java/lang/String" "value" "[B" (.ref t) ∧ Afn Z h t .byte (1 : Int32) (fun k => .int ((csL [p1] k).toInt8.toInt32))
theorem pd_4 : parseMethodDescriptor "(C)Z" = some ⟨[.char], some .boolean⟩ := by decide +kernel
theorem pd_5 : parseMethodDescriptor "(C)[B" = some ⟨[.char], some (.array .byte)⟩ := by decide +kernel
theorem pd_6 : parseMethodDescriptor "([BB)V" = some ⟨[(.array .byte), .byte], none⟩ := by decide +kernel
set_option maxRecDepth 65536 in
set_option maxHeartbeats 40000000 in
theorem rm14 (l : Launch) (Z : State) (a0 : Array Value) (hw : ∀ d ∈ tables_1, d.before a0 Z = true) (ws : List Jvm.Cond) (p1 : Int32) (zc : Int32) (h0 : Heap) (n0 : Nat) (Z0 : n0 ≤ h0.size) (SC : Sta Z Z.heap "java/lang/String" "COMPACT_STRINGS" "Z" (.int zc)) (hzc : ¬ zc = (0 : Int32)) (O : Old Z n0 h0) (hlo : ¬ (255 : Int32) < p1) :
    Con l Z (⟨"java/lang/String", "valueOf", "(C)Ljava/lang/String;"⟩ : MethodName) jdk_42_method_139_code 1 (some (.object "java/lang/String")) ws ({ frames := 2, cells := 2, slots := 5, locals := 27 } : Room) #[(.int p1)] h0 (Q14 Z p1 zc h0 n0) := by
  refine Con.of (plainFor_of_name pn_rm14) ?_
  intro p e s m below meth c s₁ hZ e0 X0 hx hby hml hown hnm hret hlk
  replace hml : c.maxLocals = 1 := hml
  have hown : s.vm.findClass "java/lang/String" = some m.cls := hown
  have N0 : Fr n0 [] := Fr.nil n0
  obtain ⟨PP, hPP⟩ : ∃ P, P = Fine s below (Q14 Z p1 zc h0 n0) ({ frames := 2, cells := 2, slots := 5, locals := 27 } : Room).cells ({ frames := 2, cells := 2, slots := 5, locals := 27 } : Room).slots := ⟨_, rfl⟩
  rw [← hPP]
  refine Go.cast (ef_rm14 m p1) ?_
  have K : Keep h0 h0 [] := Keep.refl h0 _
  have Zn : n0 ≤ h0.size := Z0
  show Go p.tables e below PP (s₁.setTop (mkF m 0 #[.val (.int p1)] []))
  obtain ⟨T1, X1, e1, st1⟩ := getS2 X0 hx hZ hown (host := "") (Or.inl (hw _ (List.mem_of_getElem? (i := 57) rfl))) Via.refl e0 (SC.ext O.2) (g := (mkF m 0 #[.val (.int p1)] [])) rfl (hb hby d14_0)
  refine Go.st st1 ?_
  show Go p.tables e below PP (T1.setTop (mkF m 3 #[.val (.int p1)] [(.int zc)]))
  refine Go.st (fun t k => XS.ifNo X1.here hx rfl (hb hby d14_3) rfl (XT.i0_eq_f hzc) k) ?_
  show Go p.tables e below PP (T1.setTop (mkF m 6 #[.val (.int p1)] []))
  refine Go.st (fun t k => XS.iloadN X1.here hx rfl (hb hby d14_6) rfl k) ?_
  show Go p.tables e below PP (T1.setTop (mkF m 7 #[.val (.int p1)] [(.int p1)]))
  obtain ⟨v2, T2, L2, X2, hQ2, st2⟩ := callSt X1 hx hZ (y := (⟨"java/lang/StringLatin1", "canEncode", "(C)Z"⟩ : MethodName)) (argsL := [(.int p1)]) (rest := []) hown (hw _ (List.mem_of_getElem? (i := 82) rfl)) (hw _ (List.mem_of_getElem? (i := 83) rfl)) (hw _ (List.mem_of_getElem? (i := 77) rfl)) (hw _ (List.mem_of_getElem? (i := 84) rfl)) (by decide) (rm15 l Z a0 hw [] p1 h0 n0 Zn) e1 0 (by decide) (by decide) (by decide) (by decide) (g := (mkF m 7 #[.val (.int p1)] [(.int p1)])) rfl (by rw [hml]; rfl) (lenOf pd_4 rfl) rfl (by show 2 * 0 + _ ≤ _; exact Nat.le_of_eq rfl) (hb hby d14_7)
  obtain ⟨rfl, rfl, e2⟩ := hQ2
  rw [List.append_nil] at X2
  refine Go.st st2 ?_
  show Go p.tables e below PP (T2.setTop (mkF m 10 #[.val (.int p1)] [(.int (bi (¬ (255 : Int32) < p1)))]))
  refine Go.st (fun t k => XS.ifNo X2.here hx rfl (hb hby d14_10) rfl (XT.i0_eq_f (by rw [bi_t hlo]; decide)) k) ?_
  show Go p.tables e below PP (T2.setTop (mkF m 13 #[.val (.int p1)] []))
  obtain ⟨T3, h3, X3, e3, E3, A3, D3, -, st3⟩ := newO X2 hx hZ hown (hw _ (List.mem_of_getElem? (i := 74) rfl)) (hw _ (List.mem_of_getElem? (i := 11) rfl)) (hw _ (List.mem_of_getElem? (i := 12) rfl)) e2 (g := (mkF m 13 #[.val (.int p1)] [])) rfl (hb hby d14_13) (by decide) (by decide)
  obtain ⟨b3, gz3⟩ : ∃ z, z = h0.size := ⟨_, rfl⟩
  rw [← gz3] at A3 D3 st3
  have g_b3 : n0 ≤ b3 := Nat.le_trans Zn (Nat.le_of_eq gz3.symm)
  have sz_b3 : h0.size ≤ b3 := Nat.le_trans K.1 (Nat.le_of_eq gz3.symm)
  refine Go.st st3 ?_
  replace O := O.ext E3
  replace K := K.ext E3
  replace Zn := Nat.le_trans Zn E3.1
  have E_b3 := A3
  have F_value_b3 : Fld Z h3 b3 "java/lang/String" "value" "[B" .null := D3 (Or.inr (hw _ (List.mem_of_getElem? (i := 26) rfl))) (ty := (.array .byte)) (by decide)
  have F_coder_b3 : Fld Z h3 b3 "java/lang/String" "coder" "B" (.int (0 : Int32)) := D3 (Or.inr (hw _ (List.mem_of_getElem? (i := 27) rfl))) (ty := .byte) (by decide)
  show Go p.tables e below PP (T3.setTop (mkF m 16 #[.val (.int p1)] [(.ref b3)]))
  refine Go.st (fun t k => XS.dup X3.here hx rfl (hb hby d14_16) rfl rfl k) ?_
  show Go p.tables e below PP (T3.setTop (mkF m 17 #[.val (.int p1)] [(.ref b3), (.ref b3)]))
  refine Go.st (fun t k => XS.iloadN X3.here hx rfl (hb hby d14_17) rfl k) ?_
  show Go p.tables e below PP (T3.setTop (mkF m 18 #[.val (.int p1)] [(.int p1), (.ref b3), (.ref b3)]))
  obtain ⟨v4, T4, L4, X4, hQ4, st4⟩ := callSt X3 hx hZ (y := (⟨"java/lang/StringLatin1", "toBytes", "(C)[B"⟩ : MethodName)) (argsL := [(.int p1)]) (rest := [(.ref b3), (.ref b3)]) hown (hw _ (List.mem_of_getElem? (i := 85) rfl)) (hw _ (List.mem_of_getElem? (i := 86) rfl)) (hw _ (List.mem_of_getElem? (i := 77) rfl)) (hw _ (List.mem_of_getElem? (i := 87) rfl)) (by decide) (rm16 l Z a0 hw [] p1 h3 n0 Zn) e3 2 (by decide) (by decide) (by decide) (by decide) (g := (mkF m 18 #[.val (.int p1)] [(.int p1), (.ref b3), (.ref b3)])) rfl (by rw [hml]; rfl) (lenOf pd_5 rfl) rfl (by show 2 * 0 + _ ≤ _; exact Nat.le_of_eq rfl) (hb hby d14_18)
  obtain ⟨h4, e4⟩ : ∃ z, T4.heap = z := ⟨_, rfl⟩
  rw [e4] at hQ4
  obtain ⟨t_4, rfl, Nq4, Kq4, sq4_t, Fq4_0⟩ := hQ4
  have N4 := Fr.app N0 Nq4
  have ne_b3_t_4 : b3 ≠ t_4 := Nat.ne_of_lt (Nat.lt_of_lt_of_le E_b3.lt sq4_t)
  have g_t_4 : n0 ≤ t_4 := Nat.le_trans Zn sq4_t
  have sz_t_4 : h0.size ≤ t_4 := Nat.le_trans K.1 sq4_t
  replace E_b3 := E_b3.keep Kq4
  replace F_value_b3 := F_value_b3.keep Kq4 nin0
  replace F_coder_b3 := F_coder_b3.keep Kq4 nin0
  replace O := O.keep Kq4 all0
  replace K := K.trans Kq4 all0
  replace Zn := Nat.le_trans Zn Kq4.1
  have V_t_4 := Fq4_0
  refine Go.st st4 ?_
  show Go p.tables e below PP (T4.setTop (mkF m 21 #[.val (.int p1)] [(.ref t_4), (.ref b3), (.ref b3)]))
  refine Go.st (fun t k => XS.iconst X4.here hx rfl (hb hby d14_21) k) ?_
  show Go p.tables e below PP (T4.setTop (mkF m 22 #[.val (.int p1)] [(.int (0 : Int32)), (.ref t_4), (.ref b3), (.ref b3)]))
  obtain ⟨v5, T5, L5, X5, hQ5, st5⟩ := callIn X4 hx hZ (y := (⟨"java/lang/String", "<init>", "([BB)V"⟩ : MethodName)) (a := b3) (argsL := [(.ref t_4), (.int (0 : Int32))]) (rest := [(.ref b3)]) rfl hown (hw _ (List.mem_of_getElem? (i := 88) rfl)) (hw _ (List.mem_of_getElem? (i := 89) rfl)) (hw _ (List.mem_of_getElem? (i := 12) rfl)) (hw _ (List.mem_of_getElem? (i := 90) rfl)) (by decide) (rm17 l Z a0 hw [] b3 t_4 h4 n0 Zn E_b3 F_value_b3 F_coder_b3 g_b3) e4 1 (by decide) (by decide) (by decide) (by decide) (g := (mkF m 22 #[.val (.int p1)] [(.int (0 : Int32)), (.ref t_4), (.ref b3), (.ref b3)])) rfl (by rw [hml]; rfl) (lenOf pd_6 rfl) rfl (by show 2 * 0 + _ ≤ _; exact Nat.le_of_eq rfl) (hb hby d14_22)
  obtain ⟨h5, e5⟩ : ∃ z, T5.heap = z := ⟨_, rfl⟩
  rw [e5] at hQ5
  obtain ⟨rfl, Nq5, Kq5, Fq5_0, Fq5_1⟩ := hQ5
  have N5 := Fr.app N4 Nq5
  replace E_b3 := E_b3.keep Kq5
  clear F_value_b3
  clear F_coder_b3
  replace V_t_4 := V_t_4.keep Kq5 (ninS (Ne.symm ne_b3_t_4) nin0)
  replace O := O.keep Kq5 (allS g_b3 all0)
  replace K := K.trans Kq5 (allS (Or.inr sz_b3) all0)
  replace Zn := Nat.le_trans Zn Kq5.1
  have F_value_b3 := Fq5_0
  have F_coder_b3 := Fq5_1
  refine Go.st st5 ?_
  show Go p.tables e below PP (T5.setTop (mkF m 25 #[.val (.int p1)] [(.ref b3)]))
  rw [hPP]
  refine endR X5 hx hlk hret rfl rfl (hb hby d14_25) ?_ (by decide) (by decide)
  show Q14 Z p1 zc h0 n0 (some (.ref b3)) T5.heap _
  rw [e5]
  exact ⟨b3, t_4, rfl, N5, K, sz_b3, sz_t_4, E_b3, F_coder_b3, F_value_b3, V_t_4⟩
theorem d1_0 : decode jdk_29_method_65_code 0 = .ok (.iload_n 0, 1) := by decide +kernel
theorem d1_1 : decode jdk_29_method_65_code 1 = .ok (.iload_n 1, 1) := by decide +kernel
theorem d1_2 : decode jdk_29_method_65_code 2 = .ok (.if_icmp .lt 7, 3) := by decide +kernel
theorem d1_5 : decode jdk_29_method_65_code 5 = .ok (.iload_n 0, 1) := by decide +kernel
theorem d1_6 : decode jdk_29_method_65_code 6 = .ok (.goto 4, 3) := by decide +kernel
theorem d1_9 : decode jdk_29_method_65_code 9 = .ok (.iload_n 1, 1) := by decide +kernel
theorem d1_10 : decode jdk_29_method_65_code 10 = .ok (.ireturn, 1) := by decide +kernel
theorem pn_rm1 : plainFor (⟨"java/lang/Math", "max", "(II)I"⟩ : MethodName) = true := Jvm.Free.JP.mathPlain rfl (by decide +kernel)
theorem ef_rm1 (m : MethodId) (p1 : Int32) (p2 : Int32) : entryFrame m #[(.int p1), (.int p2)] 2 = mkF m 0 #[.val (.int p1), .val (.int p2)] [] := by first | (simp [entryFrame, mkF, argsToLocals, Value.category]; done) | rfl
def Q1 (Z : State) (p1 : Int32) (p2 : Int32) (h0 : Heap) (n0 : Nat) (v : Option Value) (h : Heap) (L : List Loc) : Prop := v = some (.int (if p1 < p2 then p2 else p1)) ∧ L = [] ∧ h = h0
set_option maxRecDepth 65536 in
set_option maxHeartbeats 40000000 in
theorem rm1 (l : Launch) (Z : State) (a0 : Array Value) (hw : ∀ d ∈ tables_1, d.before a0 Z = true) (ws : List Jvm.Cond) (p1 : Int32) (p2 : Int32) (h0 : Heap) (n0 : Nat) (Z0 : n0 ≤ h0.size) :
    Con l Z (⟨"java/lang/Math", "max", "(II)I"⟩ : MethodName) jdk_29_method_65_code 2 (some .int) ws ({ frames := 0, cells := 0, slots := 0, locals := 0 } : Room) #[(.int p1), (.int p2)] h0 (Q1 Z p1 p2 h0 n0) := by
  refine Con.of pn_rm1 ?_
  intro p e s m below meth c s₁ hZ e0 X0 hx hby hml hown hnm hret hlk
  replace hml : c.maxLocals = 2 := hml
  have hown : s.vm.findClass "java/lang/Math" = some m.cls := hown
  have N0 : Fr n0 [] := Fr.nil n0
  obtain ⟨PP, hPP⟩ : ∃ P, P = Fine s below (Q1 Z p1 p2 h0 n0) ({ frames := 0, cells := 0, slots := 0, locals := 0 } : Room).cells ({ frames := 0, cells := 0, slots := 0, locals := 0 } : Room).slots := ⟨_, rfl⟩
  rw [← hPP]
  refine Go.cast (ef_rm1 m p1 p2) ?_
  have Zn : n0 ≤ h0.size := Z0
  show Go p.tables e below PP (s₁.setTop (mkF m 0 #[.val (.int p1), .val (.int p2)] []))
  refine Go.st (fun t k => XS.iloadN X0.here hx rfl (hb hby d1_0) rfl k) ?_
  show Go p.tables e below PP (s₁.setTop (mkF m 1 #[.val (.int p1), .val (.int p2)] [(.int p1)]))
  refine Go.st (fun t k => XS.iloadN X0.here hx rfl (hb hby d1_1) rfl k) ?_
  show Go p.tables e below PP (s₁.setTop (mkF m 2 #[.val (.int p1), .val (.int p2)] [(.int p2), (.int p1)]))
  by_cases hc2 : p1 < p2
  · --
    refine Go.st (fun t k => XS.icmpYes X0.here hx rfl (pc0 := 2) (pc' := 9) rfl (hb hby d1_2) rfl (XT.ii_lt_t hc2) (by decide) (by decide) k) ?_
    show Go p.tables e below PP (s₁.setTop (mkF m 9 #[.val (.int p1), .val (.int p2)] []))
    refine Go.st (fun t k => XS.iloadN X0.here hx rfl (hb hby d1_9) rfl k) ?_
    show Go p.tables e below PP (s₁.setTop (mkF m 10 #[.val (.int p1), .val (.int p2)] [(.int p2)]))
    rw [hPP]
    refine endI X0 hx hlk hret (hb hby d1_10) ?_ (by decide) (by decide)
    show Q1 Z p1 p2 h0 n0 (some (.int p2)) s₁.heap _
    rw [e0]
    exact ⟨by simp [hc2], rfl, rfl⟩
  · --
    refine Go.st (fun t k => XS.icmpNo X0.here hx rfl (hb hby d1_2) rfl (XT.ii_lt_f hc2) k) ?_
    show Go p.tables e below PP (s₁.setTop (mkF m 5 #[.val (.int p1), .val (.int p2)] []))
    refine Go.st (fun t k => XS.iloadN X0.here hx rfl (hb hby d1_5) rfl k) ?_
    show Go p.tables e below PP (s₁.setTop (mkF m 6 #[.val (.int p1), .val (.int p2)] [(.int p1)]))
    refine Go.st (fun t k => XS.goto X0.here hx rfl (pc0 := 6) (pc' := 10) rfl (hb hby d1_6) (by decide) (by decide) k) ?_
    show Go p.tables e below PP (s₁.setTop (mkF m 10 #[.val (.int p1), .val (.int p2)] [(.int p1)]))
    rw [hPP]
    refine endI X0 hx hlk hret (hb hby d1_10) ?_ (by decide) (by decide)
    show Q1 Z p1 p2 h0 n0 (some (.int p1)) s₁.heap _
    rw [e0]
    exact ⟨by simp [hc2], rfl, rfl⟩
theorem safe_cls {Z : State} {EL : List (String × Nat)} {vm : Vm} {h : Heap} {a : Addr} {K : String} (hal : Z.vm.Alike vm) (E : Exa Z h a K) (n1 : K ≠ "java/lang/String") (n2 : K ≠ "[B") : Safe Z EL vm h a := by
  rintro ⟨p, hp, u, a', hb, q, hq, B, hy⟩
  obtain ⟨cE, kE, e1, e2, e3, e4, e5⟩ := E
  rcases hy with rfl | rfl
  · have ha' : h[q.sa]? = some q.sC := B.ha
    obtain ⟨cS, ⟨-, h6, h7⟩, -⟩ := B
    cases e1.symm.trans ha'
    have h5 : vm.findClass "java/lang/String" = some cS := h6
    rw [hal.findClass] at h5
    exact ids_ne e2 h5 n1 h7
  · have hd' : h[q.sd]? = some q.SA := B.hd
    obtain ⟨cS, -, -, h4, -⟩ := B
    cases e1.symm.trans hd'
    have h5 : vm.findClass "[B" = some q.SA.cls := h4
    rw [hal.findClass] at h5
    exact ids_ne e2 h5 n2 rfl
abbrev EqB (f g : Nat → Int32) (n n' : Int32) : Prop := n = n' ∧ ∀ k, k < n.toNatClampNeg → f k = g k
theorem d13_0 : decode jdk_43_method_13_code 0 = .ok (.aload_n 0, 1) := by decide +kernel
theorem d13_1 : decode jdk_43_method_13_code 1 = .ok (.arraylength, 1) := by decide +kernel
theorem d13_2 : decode jdk_43_method_13_code 2 = .ok (.aload_n 1, 1) := by decide +kernel
theorem d13_3 : decode jdk_43_method_13_code 3 = .ok (.arraylength, 1) := by decide +kernel
theorem d13_4 : decode jdk_43_method_13_code 4 = .ok (.if_icmp .ne 30, 3) := by decide +kernel
theorem d13_7 : decode jdk_43_method_13_code 7 = .ok (.iconst 0, 1) := by decide +kernel
theorem d13_8 : decode jdk_43_method_13_code 8 = .ok (.istore_n 2, 1) := by decide +kernel
theorem d13_9 : decode jdk_43_method_13_code 9 = .ok (.iload_n 2, 1) := by decide +kernel
theorem d13_10 : decode jdk_43_method_13_code 10 = .ok (.aload_n 0, 1) := by decide +kernel
theorem d13_11 : decode jdk_43_method_13_code 11 = .ok (.arraylength, 1) := by decide +kernel
theorem d13_12 : decode jdk_43_method_13_code 12 = .ok (.if_icmp .ge 20, 3) := by decide +kernel
theorem d13_15 : decode jdk_43_method_13_code 15 = .ok (.aload_n 0, 1) := by decide +kernel
theorem d13_16 : decode jdk_43_method_13_code 16 = .ok (.iload_n 2, 1) := by decide +kernel
theorem d13_17 : decode jdk_43_method_13_code 17 = .ok (.baload, 1) := by decide +kernel
theorem d13_18 : decode jdk_43_method_13_code 18 = .ok (.aload_n 1, 1) := by decide +kernel
theorem d13_19 : decode jdk_43_method_13_code 19 = .ok (.iload_n 2, 1) := by decide +kernel
theorem d13_20 : decode jdk_43_method_13_code 20 = .ok (.baload, 1) := by decide +kernel
theorem d13_21 : decode jdk_43_method_13_code 21 = .ok (.if_icmp .eq 5, 3) := by decide +kernel
theorem d13_24 : decode jdk_43_method_13_code 24 = .ok (.iconst 0, 1) := by decide +kernel
theorem d13_25 : decode jdk_43_method_13_code 25 = .ok (.ireturn, 1) := by decide +kernel
theorem d13_26 : decode jdk_43_method_13_code 26 = .ok (.iinc 2 1, 3) := by decide +kernel
theorem d13_29 : decode jdk_43_method_13_code 29 = .ok (.goto (-20), 3) := by decide +kernel
theorem d13_32 : decode jdk_43_method_13_code 32 = .ok (.iconst 1, 1) := by decide +kernel
theorem d13_33 : decode jdk_43_method_13_code 33 = .ok (.ireturn, 1) := by decide +kernel
theorem d13_34 : decode jdk_43_method_13_code 34 = .ok (.iconst 0, 1) := by decide +kernel
theorem d13_35 : decode jdk_43_method_13_code 35 = .ok (.ireturn, 1) := by decide +kernel
theorem pn_rm13 : plainName "java/lang/StringLatin1" = true := by first | (simp [plainName, overriddenIn]; done) | decide +kernel
theorem ef_rm13 (m : MethodId) (a1 : Addr) (a2 : Addr) : entryFrame m #[(.ref a1), (.ref a2)] 3 = mkF m 0 #[.val (.ref a1), .val (.ref a2), .unset] [] := by first | (simp [entryFrame, mkF, argsToLocals, Value.category]; done) | rfl
def Q13 (Z : State) (a1 : Addr) (a2 : Addr) (n1 : Int32) (f1 : Nat → Int32) (n2 : Int32) (f2 : Nat → Int32) (h0 : Heap) (n0 : Nat) (v : Option Value) (h : Heap) (L : List Loc) : Prop := v = some (.int (bi (EqB f1 f2 n1 n2))) ∧ L = [] ∧ h = h0
set_option maxRecDepth 65536 in
set_option maxHeartbeats 40000000 in
theorem rm13 (l : Launch) (Z : State) (a0 : Array Value) (hw : ∀ d ∈ tables_1, d.before a0 Z = true) (ws : List Jvm.Cond) (a1 : Addr) (a2 : Addr) (n1 : Int32) (f1 : Nat → Int32) (n2 : Int32) (f2 : Nat → Int32) (h0 : Heap) (n0 : Nat) (Z0 : n0 ≤ h0.size) (V1 : Afn Z h0 a1 .byte n1 (fun k => .int (f1 k))) (V2 : Afn Z h0 a2 .byte n2 (fun k => .int (f2 k))) :
    Con l Z (⟨"java/lang/StringLatin1", "equals", "([B[B)Z"⟩ : MethodName) jdk_43_method_13_code 3 (some .boolean) ws ({ frames := 0, cells := 0, slots := 0, locals := 0 } : Room) #[(.ref a1), (.ref a2)] h0 (Q13 Z a1 a2 n1 f1 n2 f2 h0 n0) := by
  refine Con.of (plainFor_of_name pn_rm13) ?_
  intro p e s m below meth c s₁ hZ e0 X0 hx hby hml hown hnm hret hlk
  replace hml : c.maxLocals = 3 := hml
  have hown : s.vm.findClass "java/lang/StringLatin1" = some m.cls := hown
  have N0 : Fr n0 [] := Fr.nil n0
  obtain ⟨PP, hPP⟩ : ∃ P, P = Fine s below (Q13 Z a1 a2 n1 f1 n2 f2 h0 n0) ({ frames := 0, cells := 0, slots := 0, locals := 0 } : Room).cells ({ frames := 0, cells := 0, slots := 0, locals := 0 } : Room).slots := ⟨_, rfl⟩
  rw [← hPP]
  refine Go.cast (ef_rm13 m a1 a2) ?_
  have Zn : n0 ≤ h0.size := Z0
  show Go p.tables e below PP (s₁.setTop (mkF m 0 #[.val (.ref a1), .val (.ref a2), .unset] []))
  refine Go.st (fun t k => XS.aloadN X0.here hx rfl (hb hby d13_0) rfl rfl k) ?_
  show Go p.tables e below PP (s₁.setTop (mkF m 1 #[.val (.ref a1), .val (.ref a2), .unset] [(.ref a1)]))
  obtain ⟨cl1, Ar1, S1, Nn1, -⟩ := id V1
  refine Go.st (fun t k => X0.arraylength hx (by rw [e0]; exact Ar1.1) (State.isArrayOf_alike hZ.alike Ar1.2.1) (g := (mkF m 1 #[.val (.ref a1), .val (.ref a2), .unset] [(.ref a1)])) rfl rfl (hb hby d13_1) _ k) ?_
  rw [len_of S1 Nn1]
  show Go p.tables e below PP (s₁.setTop (mkF m 2 #[.val (.ref a1), .val (.ref a2), .unset] [(.int n1)]))
  refine Go.st (fun t k => XS.aloadN X0.here hx rfl (hb hby d13_2) rfl rfl k) ?_
  show Go p.tables e below PP (s₁.setTop (mkF m 3 #[.val (.ref a1), .val (.ref a2), .unset] [(.ref a2), (.int n1)]))
  obtain ⟨cl2, Ar2, S2, Nn2, -⟩ := id V2
  refine Go.st (fun t k => X0.arraylength hx (by rw [e0]; exact Ar2.1) (State.isArrayOf_alike hZ.alike Ar2.2.1) (g := (mkF m 3 #[.val (.ref a1), .val (.ref a2), .unset] [(.ref a2), (.int n1)])) rfl rfl (hb hby d13_3) _ k) ?_
  rw [len_of S2 Nn2]
  show Go p.tables e below PP (s₁.setTop (mkF m 4 #[.val (.ref a1), .val (.ref a2), .unset] [(.int n2), (.int n1)]))
  by_cases hc4 : n1 = n2
  · --
    refine Go.st (fun t k => XS.icmpNo X0.here hx rfl (hb hby d13_4) rfl (XT.ii_ne_f hc4) k) ?_
    show Go p.tables e below PP (s₁.setTop (mkF m 7 #[.val (.ref a1), .val (.ref a2), .unset] []))
    refine Go.st (fun t k => XS.iconst X0.here hx rfl (hb hby d13_7) k) ?_
    show Go p.tables e below PP (s₁.setTop (mkF m 8 #[.val (.ref a1), .val (.ref a2), .unset] [(.int (0 : Int32))]))
    refine Go.st (fun t k => XS.istoreN X0.here hx rfl (hb hby d13_8) rfl (l' := #[.val (.ref a1), .val (.ref a2), .val (.int (0 : Int32))]) rfl k) ?_
    have J9 : ∀ (d3 : Nat) (T3 : State) (i : Int32), Stand p l e ({ frames := 0, cells := 0, slots := 0, locals := 0 } : Room) s m #[(.ref a1), (.ref a2)] below meth c T3 [] 0 0 → T3.heap = h0 → (¬ i < (0 : Int32) ∧ ¬ n1 < i ∧ ∀ k, k < i.toNatClampNeg → f1 k = f2 k) → n1.toNatClampNeg - i.toNatClampNeg = d3 → Go p.tables e below PP (T3.setTop (mkF m 9 #[.val (.ref a1), .val (.ref a2), .val (.int i)] [])) := by
      intro d3
      induction d3 using Nat.strongRecOn with
      | _ d3 ih3 =>
        intro T3 i X3 e3 hJ9 hd3
        show Go p.tables e below PP (T3.setTop (mkF m 9 #[.val (.ref a1), .val (.ref a2), .val (.int i)] []))
        refine Go.st (fun t k => XS.iloadN X3.here hx rfl (hb hby d13_9) rfl k) ?_
        show Go p.tables e below PP (T3.setTop (mkF m 10 #[.val (.ref a1), .val (.ref a2), .val (.int i)] [(.int i)]))
        refine Go.st (fun t k => XS.aloadN X3.here hx rfl (hb hby d13_10) rfl rfl k) ?_
        show Go p.tables e below PP (T3.setTop (mkF m 11 #[.val (.ref a1), .val (.ref a2), .val (.int i)] [(.ref a1), (.int i)]))
        obtain ⟨cl4, Ar4, S4, Nn4, -⟩ := id V1
        refine Go.st (fun t k => X3.arraylength hx (by rw [e3]; exact Ar4.1) (State.isArrayOf_alike hZ.alike Ar4.2.1) (g := (mkF m 11 #[.val (.ref a1), .val (.ref a2), .val (.int i)] [(.ref a1), (.int i)])) rfl rfl (hb hby d13_11) _ k) ?_
        rw [len_of S4 Nn4]
        show Go p.tables e below PP (T3.setTop (mkF m 12 #[.val (.ref a1), .val (.ref a2), .val (.int i)] [(.int n1), (.int i)]))
        by_cases hc12 : i < n1
        · --
          refine Go.st (fun t k => XS.icmpNo X3.here hx rfl (hb hby d13_12) rfl (XT.ii_ge_f hc12) k) ?_
          show Go p.tables e below PP (T3.setTop (mkF m 15 #[.val (.ref a1), .val (.ref a2), .val (.int i)] []))
          refine Go.st (fun t k => XS.aloadN X3.here hx rfl (hb hby d13_15) rfl rfl k) ?_
          show Go p.tables e below PP (T3.setTop (mkF m 16 #[.val (.ref a1), .val (.ref a2), .val (.int i)] [(.ref a1)]))
          refine Go.st (fun t k => XS.iloadN X3.here hx rfl (hb hby d13_16) rfl k) ?_
          show Go p.tables e below PP (T3.setTop (mkF m 17 #[.val (.ref a1), .val (.ref a2), .val (.int i)] [(.int i), (.ref a1)]))
          obtain ⟨cl5, Ar5, S5, Nn5, H5⟩ := id V1
          have hin5 : ¬ (i < 0 ∨ cl5.slots.size ≤ (i).toNatClampNeg) := inb_of S5 ⟨hJ9.1, hc12⟩
          refine Go.st (fun t k => X3.baloadBytes hx (j := i) (v := (.int (f1 i.toNatClampNeg))) (by rw [e3]; exact Ar5.1) (State.isArrayOf_alike hZ.alike Ar5.2.1) Ar5.2.2 hin5 ((H5 _ (inbN ⟨hJ9.1, hc12⟩)).1.trans (congrArg some (rfl))) (g := (mkF m 17 #[.val (.ref a1), .val (.ref a2), .val (.int i)] [(.int i), (.ref a1)])) rfl rfl (hb hby d13_17) _ k) ?_
          show Go p.tables e below PP (T3.setTop (mkF m 18 #[.val (.ref a1), .val (.ref a2), .val (.int i)] [(.int (f1 i.toNatClampNeg))]))
          refine Go.st (fun t k => XS.aloadN X3.here hx rfl (hb hby d13_18) rfl rfl k) ?_
          show Go p.tables e below PP (T3.setTop (mkF m 19 #[.val (.ref a1), .val (.ref a2), .val (.int i)] [(.ref a2), (.int (f1 i.toNatClampNeg))]))
          refine Go.st (fun t k => XS.iloadN X3.here hx rfl (hb hby d13_19) rfl k) ?_
          show Go p.tables e below PP (T3.setTop (mkF m 20 #[.val (.ref a1), .val (.ref a2), .val (.int i)] [(.int i), (.ref a2), (.int (f1 i.toNatClampNeg))]))
          obtain ⟨cl6, Ar6, S6, Nn6, H6⟩ := id V2
          have hin6 : ¬ (i < 0 ∨ cl6.slots.size ≤ (i).toNatClampNeg) := inb_of S6 ⟨hJ9.1, hc4 ▸ hc12⟩
          refine Go.st (fun t k => X3.baloadBytes hx (j := i) (v := (.int (f2 i.toNatClampNeg))) (by rw [e3]; exact Ar6.1) (State.isArrayOf_alike hZ.alike Ar6.2.1) Ar6.2.2 hin6 ((H6 _ (inbN ⟨hJ9.1, hc4 ▸ hc12⟩)).1.trans (congrArg some (rfl))) (g := (mkF m 20 #[.val (.ref a1), .val (.ref a2), .val (.int i)] [(.int i), (.ref a2), (.int (f1 i.toNatClampNeg))])) rfl rfl (hb hby d13_20) _ k) ?_
          show Go p.tables e below PP (T3.setTop (mkF m 21 #[.val (.ref a1), .val (.ref a2), .val (.int i)] [(.int (f2 i.toNatClampNeg)), (.int (f1 i.toNatClampNeg))]))
          by_cases hc21 : (f1 i.toNatClampNeg) = (f2 i.toNatClampNeg)
          · --
            refine Go.st (fun t k => XS.icmpYes X3.here hx rfl (pc0 := 21) (pc' := 26) rfl (hb hby d13_21) rfl (XT.ii_eq_t hc21) (by decide) (by decide) k) ?_
            show Go p.tables e below PP (T3.setTop (mkF m 26 #[.val (.ref a1), .val (.ref a2), .val (.int i)] []))
            refine Go.st (fun t k => XS.iinc X3.here hx rfl (hb hby d13_26) rfl (l' := #[.val (.ref a1), .val (.ref a2), .val (.int (i + (1 : Int32)))]) rfl k) ?_
            show Go p.tables e below PP (T3.setTop (mkF m 29 #[.val (.ref a1), .val (.ref a2), .val (.int (i + (1 : Int32)))] []))
            refine Go.st (fun t k => XS.goto X3.here hx rfl (pc0 := 29) (pc' := 9) rfl (hb hby d13_29) (by decide) (by decide) k) ?_
            show Go p.tables e below PP (T3.setTop (mkF m 9 #[.val (.ref a1), .val (.ref a2), .val (.int (i + (1 : Int32)))] []))
            exact ih3 _ (by have q := own_inc _ _ hJ9.1 hc12; omega) _ _ X3 e3 (⟨(own_inc _ _ hJ9.1 hc12).1, (own_inc _ _ hJ9.1 hc12).2.1, fun k hk => by rw [(own_inc _ _ hJ9.1 hc12).2.2.1] at hk; by_cases z : k = i.toNatClampNeg <;> first | (rw [z]; exact hc21) | exact hJ9.2.2 k (by omega)⟩) rfl
          · --
            refine Go.st (fun t k => XS.icmpNo X3.here hx rfl (hb hby d13_21) rfl (XT.ii_eq_f hc21) k) ?_
            show Go p.tables e below PP (T3.setTop (mkF m 24 #[.val (.ref a1), .val (.ref a2), .val (.int i)] []))
            refine Go.st (fun t k => XS.iconst X3.here hx rfl (hb hby d13_24) k) ?_
            show Go p.tables e below PP (T3.setTop (mkF m 25 #[.val (.ref a1), .val (.ref a2), .val (.int i)] [(.int (0 : Int32))]))
            rw [hPP]
            refine endN X3 hx hlk (t := .boolean) hret (by simp) (hb hby d13_25) (w := (0 : Int32)) (rfl) ?_ (by decide) (by decide)
            show Q13 Z a1 a2 n1 f1 n2 f2 h0 n0 (some (.int (0 : Int32))) T3.heap _
            rw [e3]
            exact ⟨by rw [bi_f (fun z => hc21 (z.2 _ (own_inc _ _ hJ9.1 hc12).2.2.2))], rfl, rfl⟩
        · --
          refine Go.st (fun t k => XS.icmpYes X3.here hx rfl (pc0 := 12) (pc' := 32) rfl (hb hby d13_12) rfl (XT.ii_ge_t hc12) (by decide) (by decide) k) ?_
          show Go p.tables e below PP (T3.setTop (mkF m 32 #[.val (.ref a1), .val (.ref a2), .val (.int i)] []))
          refine Go.st (fun t k => XS.iconst X3.here hx rfl (hb hby d13_32) k) ?_
          show Go p.tables e below PP (T3.setTop (mkF m 33 #[.val (.ref a1), .val (.ref a2), .val (.int i)] [(.int (1 : Int32))]))
          rw [hPP]
          refine endN X3 hx hlk (t := .boolean) hret (by simp) (hb hby d13_33) (w := (1 : Int32)) (rfl) ?_ (by decide) (by decide)
          show Q13 Z a1 a2 n1 f1 n2 f2 h0 n0 (some (.int (1 : Int32))) T3.heap _
          rw [e3]
          exact ⟨by rw [bi_t ⟨hc4, fun k hk => hJ9.2.2 k (by have e : i = n1 := Int32.toInt_inj.mp (by have a := hJ9.2.1; rw [Int32.lt_iff_toInt_lt] at a hc12; omega); rw [e]; exact hk)⟩], rfl, rfl⟩
    show Go p.tables e below PP (s₁.setTop (mkF m 9 #[.val (.ref a1), .val (.ref a2), .val (.int (0 : Int32))] []))
    exact J9 _ _ _ X0 e0 (⟨by decide, V1.nn, fun k hk => absurd hk (Nat.not_lt_zero k)⟩) rfl
  · --
    refine Go.st (fun t k => XS.icmpYes X0.here hx rfl (pc0 := 4) (pc' := 34) rfl (hb hby d13_4) rfl (XT.ii_ne_t hc4) (by decide) (by decide) k) ?_
    show Go p.tables e below PP (s₁.setTop (mkF m 34 #[.val (.ref a1), .val (.ref a2), .unset] []))
    refine Go.st (fun t k => XS.iconst X0.here hx rfl (hb hby d13_34) k) ?_
    show Go p.tables e below PP (s₁.setTop (mkF m 35 #[.val (.ref a1), .val (.ref a2), .unset] [(.int (0 : Int32))]))
    rw [hPP]
    refine endN X0 hx hlk (t := .boolean) hret (by simp) (hb hby d13_35) (w := (0 : Int32)) (rfl) ?_ (by decide) (by decide)
    show Q13 Z a1 a2 n1 f1 n2 f2 h0 n0 (some (.int (0 : Int32))) s₁.heap _
    rw [e0]
    exact ⟨by rw [bi_f (fun z => hc4 z.1)], rfl, rfl⟩
theorem d12_0 : decode jdk_42_method_66_code 0 = .ok (.aload_n 0, 1) := by decide +kernel
theorem d12_1 : decode jdk_42_method_66_code 1 = .ok (.aload_n 1, 1) := by decide +kernel
theorem d12_2 : decode jdk_42_method_66_code 2 = .ok (.if_acmp .ne 5, 3) := by decide +kernel
theorem d12_5 : decode jdk_42_method_66_code 5 = .ok (.iconst 1, 1) := by decide +kernel
theorem d12_6 : decode jdk_42_method_66_code 6 = .ok (.ireturn, 1) := by decide +kernel
theorem d12_7 : decode jdk_42_method_66_code 7 = .ok (.aload_n 1, 1) := by decide +kernel
theorem d12_8 : decode jdk_42_method_66_code 8 = .ok (.instanceof 10, 3) := by decide +kernel
theorem d12_11 : decode jdk_42_method_66_code 11 = .ok (.ifCond .eq 43, 3) := by decide +kernel
theorem d12_14 : decode jdk_42_method_66_code 14 = .ok (.aload_n 1, 1) := by decide +kernel
theorem d12_15 : decode jdk_42_method_66_code 15 = .ok (.checkcast 10, 3) := by decide +kernel
theorem d12_18 : decode jdk_42_method_66_code 18 = .ok (.astore_n 2, 1) := by decide +kernel
theorem d12_19 : decode jdk_42_method_66_code 19 = .ok (.getstatic 38, 3) := by decide +kernel
theorem d12_22 : decode jdk_42_method_66_code 22 = .ok (.ifCond .eq 14, 3) := by decide +kernel
theorem d12_25 : decode jdk_42_method_66_code 25 = .ok (.aload_n 0, 1) := by decide +kernel
theorem d12_26 : decode jdk_42_method_66_code 26 = .ok (.getfield 15, 3) := by decide +kernel
theorem d12_29 : decode jdk_42_method_66_code 29 = .ok (.aload_n 2, 1) := by decide +kernel
theorem d12_30 : decode jdk_42_method_66_code 30 = .ok (.getfield 15, 3) := by decide +kernel
theorem d12_33 : decode jdk_42_method_66_code 33 = .ok (.if_icmp .ne 21, 3) := by decide +kernel
theorem d12_36 : decode jdk_42_method_66_code 36 = .ok (.aload_n 0, 1) := by decide +kernel
theorem d12_37 : decode jdk_42_method_66_code 37 = .ok (.getfield 9, 3) := by decide +kernel
theorem d12_40 : decode jdk_42_method_66_code 40 = .ok (.aload_n 2, 1) := by decide +kernel
theorem d12_41 : decode jdk_42_method_66_code 41 = .ok (.getfield 9, 3) := by decide +kernel
theorem d12_44 : decode jdk_42_method_66_code 44 = .ok (.invokestatic 541, 3) := by decide +kernel
theorem d12_47 : decode jdk_42_method_66_code 47 = .ok (.ifCond .eq 7, 3) := by decide +kernel
theorem d12_50 : decode jdk_42_method_66_code 50 = .ok (.iconst 1, 1) := by decide +kernel
theorem d12_51 : decode jdk_42_method_66_code 51 = .ok (.goto 4, 3) := by decide +kernel
theorem d12_54 : decode jdk_42_method_66_code 54 = .ok (.iconst 0, 1) := by decide +kernel
theorem d12_55 : decode jdk_42_method_66_code 55 = .ok (.ireturn, 1) := by decide +kernel
theorem pn_rm12 : plainName "java/lang/String" = true := by first | (simp [plainName, overriddenIn]; done) | decide +kernel
theorem ef_rm12 (m : MethodId) (a1 : Addr) (a2 : Addr) : entryFrame m #[(.ref a1), (.ref a2)] 3 = mkF m 0 #[.val (.ref a1), .val (.ref a2), .unset] [] := by first | (simp [entryFrame, mkF, argsToLocals, Value.category]; done) | rfl
def Q12 (Z : State) (a1 : Addr) (a2 : Addr) (t1 : Addr) (t2 : Addr) (n1 : Int32) (f1 : Nat → Int32) (n2 : Int32) (f2 : Nat → Int32) (zc : Int32) (h0 : Heap) (n0 : Nat) (v : Option Value) (h : Heap) (L : List Loc) : Prop := v = some (.int (bi (EqB f1 f2 n1 n2))) ∧ L = [] ∧ h = h0
theorem pd_7 : parseMethodDescriptor "([B[B)Z" = some ⟨[(.array .byte), (.array .byte)], some .boolean⟩ := by decide +kernel
set_option maxRecDepth 65536 in
set_option maxHeartbeats 40000000 in
theorem rm12 (l : Launch) (Z : State) (a0 : Array Value) (hw : ∀ d ∈ tables_1, d.before a0 Z = true) (ws : List Jvm.Cond) (a1 : Addr) (a2 : Addr) (t1 : Addr) (t2 : Addr) (n1 : Int32) (f1 : Nat → Int32) (n2 : Int32) (f2 : Nat → Int32) (zc : Int32) (h0 : Heap) (n0 : Nat) (Z0 : n0 ≤ h0.size) (F_value_a1 : Fld Z h0 a1 "java/lang/String" "value" "[B" (.ref t1)) (F_coder_a1 : Fld Z h0 a1 "java/lang/String" "coder" "B" (.int (0 : Int32))) (V_t1 : Afn Z h0 t1 .byte n1 (fun k => .int (f1 k))) (E_a1 : Exa Z h0 a1 "java/lang/String") (F_value_a2 : Fld Z h0 a2 "java/lang/String" "value" "[B" (.ref t2)) (F_coder_a2 : Fld Z h0 a2 "java/lang/String" "coder" "B" (.int (0 : Int32))) (V_t2 : Afn Z h0 t2 .byte n2 (fun k => .int (f2 k))) (E_a2 : Exa Z h0 a2 "java/lang/String") (hne : a1 ≠ a2) (SC : Sta Z Z.heap "java/lang/String" "COMPACT_STRINGS" "Z" (.int zc)) (hzc : ¬ zc = (0 : Int32)) (O : Old Z n0 h0) :
    Con l Z (⟨"java/lang/String", "equals", "(Ljava/lang/Object;)Z"⟩ : MethodName) jdk_42_method_66_code 3 (some .boolean) ws ({ frames := 1, cells := 0, slots := 0, locals := 14 } : Room) #[(.ref a1), (.ref a2)] h0 (Q12 Z a1 a2 t1 t2 n1 f1 n2 f2 zc h0 n0) := by
  refine Con.of (plainFor_of_name pn_rm12) ?_
  intro p e s m below meth c s₁ hZ e0 X0 hx hby hml hown hnm hret hlk
  replace hml : c.maxLocals = 3 := hml
  have hown : s.vm.findClass "java/lang/String" = some m.cls := hown
  have N0 : Fr n0 [] := Fr.nil n0
  obtain ⟨PP, hPP⟩ : ∃ P, P = Fine s below (Q12 Z a1 a2 t1 t2 n1 f1 n2 f2 zc h0 n0) ({ frames := 1, cells := 0, slots := 0, locals := 14 } : Room).cells ({ frames := 1, cells := 0, slots := 0, locals := 14 } : Room).slots := ⟨_, rfl⟩
  rw [← hPP]
  refine Go.cast (ef_rm12 m a1 a2) ?_
  have Zn : n0 ≤ h0.size := Z0
  show Go p.tables e below PP (s₁.setTop (mkF m 0 #[.val (.ref a1), .val (.ref a2), .unset] []))
  refine Go.st (fun t k => XS.aloadN X0.here hx rfl (hb hby d12_0) rfl rfl k) ?_
  show Go p.tables e below PP (s₁.setTop (mkF m 1 #[.val (.ref a1), .val (.ref a2), .unset] [(.ref a1)]))
  refine Go.st (fun t k => XS.aloadN X0.here hx rfl (hb hby d12_1) rfl rfl k) ?_
  show Go p.tables e below PP (s₁.setTop (mkF m 2 #[.val (.ref a1), .val (.ref a2), .unset] [(.ref a2), (.ref a1)]))
  refine Go.st (fun t k => Jvm.RoadKit.acmp (g := (mkF m 2 #[.val (.ref a1), .val (.ref a2), .unset] [(.ref a2), (.ref a1)])) X0 hx rfl rfl rfl (pc0 := 2) (pc' := 7) (same := false) rfl (hb hby d12_2) rfl (decide_eq_false fun q => hne (Value.ref.inj q)) (by decide) (by decide) k) ?_
  show Go p.tables e below PP (s₁.setTop (mkF m 7 #[.val (.ref a1), .val (.ref a2), .unset] []))
  refine Go.st (fun t k => XS.aloadN X0.here hx rfl (hb hby d12_7) rfl rfl k) ?_
  show Go p.tables e below PP (s₁.setTop (mkF m 8 #[.val (.ref a1), .val (.ref a2), .unset] [(.ref a2)]))
  obtain ⟨T1, X1, e1, st1⟩ := instY X0 hx hZ hown (hw _ (List.mem_of_getElem? (i := 74) rfl)) e0 (Ins.self E_a2) (g := (mkF m 8 #[.val (.ref a1), .val (.ref a2), .unset] [(.ref a2)])) rfl rfl (hb hby d12_8)
  refine Go.st st1 ?_
  show Go p.tables e below PP (T1.setTop (mkF m 11 #[.val (.ref a1), .val (.ref a2), .unset] [(.int (1 : Int32))]))
  refine Go.st (fun t k => XS.ifNo X1.here hx rfl (hb hby d12_11) rfl (XT.i0_eq_f (by decide)) k) ?_
  show Go p.tables e below PP (T1.setTop (mkF m 14 #[.val (.ref a1), .val (.ref a2), .unset] []))
  refine Go.st (fun t k => XS.aloadN X1.here hx rfl (hb hby d12_14) rfl rfl k) ?_
  show Go p.tables e below PP (T1.setTop (mkF m 15 #[.val (.ref a1), .val (.ref a2), .unset] [(.ref a2)]))
  obtain ⟨T2, X2, e2, st2⟩ := castY X1 hx hZ hown (hw _ (List.mem_of_getElem? (i := 74) rfl)) e1 (Ins.self E_a2) (g := (mkF m 15 #[.val (.ref a1), .val (.ref a2), .unset] [(.ref a2)])) rfl rfl (hb hby d12_15)
  refine Go.st st2 ?_
  show Go p.tables e below PP (T2.setTop (mkF m 18 #[.val (.ref a1), .val (.ref a2), .unset] [(.ref a2)]))
  refine Go.st (fun t k => XS.astoreN X2.here hx rfl (hb hby d12_18) rfl rfl (l' := #[.val (.ref a1), .val (.ref a2), .val (.ref a2)]) rfl k) ?_
  show Go p.tables e below PP (T2.setTop (mkF m 19 #[.val (.ref a1), .val (.ref a2), .val (.ref a2)] []))
  obtain ⟨T3, X3, e3, st3⟩ := getS2 X2 hx hZ hown (host := "") (Or.inl (hw _ (List.mem_of_getElem? (i := 57) rfl))) Via.refl e2 (SC.ext O.2) (g := (mkF m 19 #[.val (.ref a1), .val (.ref a2), .val (.ref a2)] [])) rfl (hb hby d12_19)
  refine Go.st st3 ?_
  show Go p.tables e below PP (T3.setTop (mkF m 22 #[.val (.ref a1), .val (.ref a2), .val (.ref a2)] [(.int zc)]))
  refine Go.st (fun t k => XS.ifNo X3.here hx rfl (hb hby d12_22) rfl (XT.i0_eq_f hzc) k) ?_
  show Go p.tables e below PP (T3.setTop (mkF m 25 #[.val (.ref a1), .val (.ref a2), .val (.ref a2)] []))
  refine Go.st (fun t k => XS.aloadN X3.here hx rfl (hb hby d12_25) rfl rfl k) ?_
  show Go p.tables e below PP (T3.setTop (mkF m 26 #[.val (.ref a1), .val (.ref a2), .val (.ref a2)] [(.ref a1)]))
  obtain ⟨T4, X4, e4, st4⟩ := getF X3 hx hZ hown (host := "") (Or.inl (hw _ (List.mem_of_getElem? (i := 31) rfl))) Via.refl e3 F_coder_a1 (g := (mkF m 26 #[.val (.ref a1), .val (.ref a2), .val (.ref a2)] [(.ref a1)])) rfl rfl (hb hby d12_26)
  refine Go.st st4 ?_
  show Go p.tables e below PP (T4.setTop (mkF m 29 #[.val (.ref a1), .val (.ref a2), .val (.ref a2)] [(.int (0 : Int32))]))
  refine Go.st (fun t k => XS.aloadN X4.here hx rfl (hb hby d12_29) rfl rfl k) ?_
  show Go p.tables e below PP (T4.setTop (mkF m 30 #[.val (.ref a1), .val (.ref a2), .val (.ref a2)] [(.ref a2), (.int (0 : Int32))]))
  obtain ⟨T5, X5, e5, st5⟩ := getF X4 hx hZ hown (host := "") (Or.inl (hw _ (List.mem_of_getElem? (i := 31) rfl))) Via.refl e4 F_coder_a2 (g := (mkF m 30 #[.val (.ref a1), .val (.ref a2), .val (.ref a2)] [(.ref a2), (.int (0 : Int32))])) rfl rfl (hb hby d12_30)
  refine Go.st st5 ?_
  show Go p.tables e below PP (T5.setTop (mkF m 33 #[.val (.ref a1), .val (.ref a2), .val (.ref a2)] [(.int (0 : Int32)), (.int (0 : Int32))]))
  refine Go.st (fun t k => XS.icmpNo X5.here hx rfl (hb hby d12_33) rfl (XT.ii_ne_f (by decide)) k) ?_
  show Go p.tables e below PP (T5.setTop (mkF m 36 #[.val (.ref a1), .val (.ref a2), .val (.ref a2)] []))
  refine Go.st (fun t k => XS.aloadN X5.here hx rfl (hb hby d12_36) rfl rfl k) ?_
  show Go p.tables e below PP (T5.setTop (mkF m 37 #[.val (.ref a1), .val (.ref a2), .val (.ref a2)] [(.ref a1)]))
  obtain ⟨T6, X6, e6, st6⟩ := getF X5 hx hZ hown (host := "") (Or.inl (hw _ (List.mem_of_getElem? (i := 30) rfl))) Via.refl e5 F_value_a1 (g := (mkF m 37 #[.val (.ref a1), .val (.ref a2), .val (.ref a2)] [(.ref a1)])) rfl rfl (hb hby d12_37)
  refine Go.st st6 ?_
  show Go p.tables e below PP (T6.setTop (mkF m 40 #[.val (.ref a1), .val (.ref a2), .val (.ref a2)] [(.ref t1)]))
  refine Go.st (fun t k => XS.aloadN X6.here hx rfl (hb hby d12_40) rfl rfl k) ?_
  show Go p.tables e below PP (T6.setTop (mkF m 41 #[.val (.ref a1), .val (.ref a2), .val (.ref a2)] [(.ref a2), (.ref t1)]))
  obtain ⟨T7, X7, e7, st7⟩ := getF X6 hx hZ hown (host := "") (Or.inl (hw _ (List.mem_of_getElem? (i := 30) rfl))) Via.refl e6 F_value_a2 (g := (mkF m 41 #[.val (.ref a1), .val (.ref a2), .val (.ref a2)] [(.ref a2), (.ref t1)])) rfl rfl (hb hby d12_41)
  refine Go.st st7 ?_
  show Go p.tables e below PP (T7.setTop (mkF m 44 #[.val (.ref a1), .val (.ref a2), .val (.ref a2)] [(.ref t2), (.ref t1)]))
  obtain ⟨v8, T8, L8, X8, hQ8, st8⟩ := callSt X7 hx hZ (y := (⟨"java/lang/StringLatin1", "equals", "([B[B)Z"⟩ : MethodName)) (argsL := [(.ref t1), (.ref t2)]) (rest := []) hown (hw _ (List.mem_of_getElem? (i := 75) rfl)) (hw _ (List.mem_of_getElem? (i := 76) rfl)) (hw _ (List.mem_of_getElem? (i := 77) rfl)) (hw _ (List.mem_of_getElem? (i := 78) rfl)) (by decide) (rm13 l Z a0 hw [] t1 t2 n1 f1 n2 f2 h0 n0 Zn V_t1 V_t2) e7 0 (by decide) (by decide) (by decide) (by decide) (g := (mkF m 44 #[.val (.ref a1), .val (.ref a2), .val (.ref a2)] [(.ref t2), (.ref t1)])) rfl (by rw [hml]; rfl) (lenOf pd_7 rfl) rfl (by show 2 * 0 + _ ≤ _; exact Nat.le_of_eq rfl) (hb hby d12_44)
  obtain ⟨rfl, rfl, e8⟩ := hQ8
  rw [List.append_nil] at X8
  refine Go.st st8 ?_
  show Go p.tables e below PP (T8.setTop (mkF m 47 #[.val (.ref a1), .val (.ref a2), .val (.ref a2)] [(.int (bi (EqB f1 f2 n1 n2)))]))
  by_cases hc47 : (bi (EqB f1 f2 n1 n2)) = (0 : Int32)
  · --
    refine Go.st (fun t k => XS.ifYes X8.here hx rfl (pc0 := 47) (pc' := 54) rfl (hb hby d12_47) rfl (XT.i0_eq_t hc47) (by decide) (by decide) k) ?_
    show Go p.tables e below PP (T8.setTop (mkF m 54 #[.val (.ref a1), .val (.ref a2), .val (.ref a2)] []))
    refine Go.st (fun t k => XS.iconst X8.here hx rfl (hb hby d12_54) k) ?_
    show Go p.tables e below PP (T8.setTop (mkF m 55 #[.val (.ref a1), .val (.ref a2), .val (.ref a2)] [(.int (0 : Int32))]))
    rw [hPP]
    refine endN X8 hx hlk (t := .boolean) hret (by simp) (hb hby d12_55) (w := (0 : Int32)) (rfl) ?_ (by decide) (by decide)
    show Q12 Z a1 a2 t1 t2 n1 f1 n2 f2 zc h0 n0 (some (.int (0 : Int32))) T8.heap _
    rw [e8]
    exact ⟨by rw [bi_f (fun z => absurd hc47 (by rw [bi_t z]; decide))], rfl, rfl⟩
  · --
    refine Go.st (fun t k => XS.ifNo X8.here hx rfl (hb hby d12_47) rfl (XT.i0_eq_f hc47) k) ?_
    show Go p.tables e below PP (T8.setTop (mkF m 50 #[.val (.ref a1), .val (.ref a2), .val (.ref a2)] []))
    refine Go.st (fun t k => XS.iconst X8.here hx rfl (hb hby d12_50) k) ?_
    show Go p.tables e below PP (T8.setTop (mkF m 51 #[.val (.ref a1), .val (.ref a2), .val (.ref a2)] [(.int (1 : Int32))]))
    refine Go.st (fun t k => XS.goto X8.here hx rfl (pc0 := 51) (pc' := 55) rfl (hb hby d12_51) (by decide) (by decide) k) ?_
    show Go p.tables e below PP (T8.setTop (mkF m 55 #[.val (.ref a1), .val (.ref a2), .val (.ref a2)] [(.int (1 : Int32))]))
    rw [hPP]
    refine endN X8 hx hlk (t := .boolean) hret (by simp) (hb hby d12_55) (w := (1 : Int32)) (rfl) ?_ (by decide) (by decide)
    show Q12 Z a1 a2 t1 t2 n1 f1 n2 f2 zc h0 n0 (some (.int (1 : Int32))) T8.heap _
    rw [e8]
    exact ⟨by rw [bi_t (Decidable.byContradiction fun z => hc47 (bi_f z))], rfl, rfl⟩
abbrev Chr (x : Int32) : Prop := ¬ x < (0 : Int32) ∧ ¬ (255 : Int32) < x ∧ nar .char x = x
theorem own_c0 (x y : Int32) (k : Nat) (hk : k < (0 : Int32).toNatClampNeg) (v : Value) : v = Value.int ((csL [x, y] k).toInt8.toInt32) := absurd hk (Nat.not_lt_zero k)
theorem own_c1 (x y : Int32) (k : Nat) (hk : k < (1 : Int32).toNatClampNeg) : Value.int ((csL [x] k).toInt8.toInt32) = Value.int ((csL [x, y] k).toInt8.toInt32) := by
  have e : (1 : Int32).toNatClampNeg = 1 := rfl
  rw [e] at hk
  obtain rfl : k = 0 := by omega
  rfl
theorem own_2 {x : Int32} (h : x = (0 : Int32) ∨ x = (1 : Int32) ∨ x = (2 : Int32)) (h0 : ¬ x = (0 : Int32)) (h1 : ¬ x = (1 : Int32)) : x = (2 : Int32) := by
  rcases h with h | h | h
  · exact absurd h h0
  · exact absurd h h1
  · exact h
theorem own_3 (x i : Int32) (hi : ((x &&& (65535 : Int32)) % (3 : Int32)) = i) : i = (0 : Int32) ∨ i = (1 : Int32) ∨ i = (2 : Int32) := by
  have q := c_mask x 65535 16 (by decide) (by decide)
  have r := (c_irem (x &&& (65535 : Int32)) 3 3 (by decide)).1 (by omega)
  rw [hi] at r
  have e0 : (0 : Int32).toInt = 0 := rfl
  have e1 : (1 : Int32).toInt = 1 := rfl
  have e2 : (2 : Int32).toInt = 2 := rfl
  rw [← Int32.toInt_inj, ← Int32.toInt_inj, ← Int32.toInt_inj]
  omega
theorem own_mx (y : Int32) : ¬ (if (1 : Int32) < y then y else (1 : Int32)) < (1 : Int32) := by
  split
  · rename_i h; rw [Int32.lt_iff_toInt_lt] at *; omega
  · decide
theorem own_i8 (x y : Int32) (hx : Chr x) (hy : Chr y) : x.toInt8.toInt32 = y.toInt8.toInt32 ↔ x = y := by
  have q := c_i2b x
  have r := c_i2b y
  obtain ⟨a1, a2, -⟩ := hx
  obtain ⟨b1, b2, -⟩ := hy
  rw [Int32.lt_iff_toInt_lt] at a1 a2 b1 b2
  have e0 : (0 : Int32).toInt = 0 := rfl
  have e5 : (255 : Int32).toInt = 255 := rfl
  rw [← Int32.toInt_inj, ← Int32.toInt_inj]
  omega
theorem own_nm (la lb ca ce da de : Int32) (hla : la = (0 : Int32) ∨ la = (1 : Int32) ∨ la = (2 : Int32)) (h1 : Chr ca) (h2 : Chr ce) (h3 : Chr da) (h4 : Chr de) :
    EqB (fun k => (csL [ca, ce] k).toInt8.toInt32) (fun k => (csL [da, de] k).toInt8.toInt32) la lb ↔ (la = lb ∧ (la < (1 : Int32) ∨ ca = da) ∧ (la < (2 : Int32) ∨ ce = de)) := by
  unfold EqB
  refine and_congr_right fun _ => ?_
  have z1 : ¬ ((1 : Int32) < 1) := by decide
  have z2 : ¬ ((2 : Int32) < 1) := by decide
  have z3 : ¬ ((2 : Int32) < 2) := by decide
  have z4 : (0 : Int32) < 1 := by decide
  have z5 : (0 : Int32) < 2 := by decide
  have z6 : (1 : Int32) < 2 := by decide
  rcases hla with rfl | rfl | rfl
  · exact ⟨fun _ => ⟨Or.inl z4, Or.inl z5⟩, fun _ k hk => absurd hk (Nat.not_lt_zero k)⟩
  · constructor
    · intro h; exact ⟨Or.inr ((own_i8 _ _ h1 h3).mp (h 0 (by decide))), Or.inl z6⟩
    · rintro ⟨h, -⟩ k hk
      have e : (1 : Int32).toNatClampNeg = 1 := rfl
      rw [e] at hk
      obtain rfl : k = 0 := by omega
      exact (own_i8 _ _ h1 h3).mpr (h.resolve_left z1)
  · constructor
    · intro h; exact ⟨Or.inr ((own_i8 _ _ h1 h3).mp (h 0 (by decide))), Or.inr ((own_i8 _ _ h2 h4).mp (h 1 (by decide)))⟩
    · rintro ⟨h, h'⟩ k hk
      have e : (2 : Int32).toNatClampNeg = 2 := rfl
      rw [e] at hk
      have : k = 0 ∨ k = 1 := by omega
      rcases this with rfl | rfl
      · exact (own_i8 _ _ h1 h3).mpr (h.resolve_left z2)
      · exact (own_i8 _ _ h2 h4).mpr (h'.resolve_left z3)
theorem own_bi {P Q : Prop} [Decidable P] [Decidable Q] (h : P ↔ Q) : bi P = bi Q := by unfold bi; simp only [h]
theorem own_e1 (la lb ca ce da de lA lB b19 b20 : Int32) (hla : la = (0 : Int32) ∨ la = (1 : Int32) ∨ la = (2 : Int32)) (hlb : lb = (0 : Int32) ∨ lb = (1 : Int32) ∨ lb = (2 : Int32)) (h1 : Chr ca) (h2 : Chr ce) (h3 : Chr da) (h4 : Chr de)
    (h19 : b19 = bi (la = lb ∧ (la < (1 : Int32) ∨ ca = da) ∧ (la < (2 : Int32) ∨ ce = de))) (h20 : b20 = bi (¬ b19 = (0 : Int32) ∧ lA = lB)) :
    bi (lA = lB ∧ EqB (fun k => (csL [ca, ce] k).toInt8.toInt32) (fun k => (csL [da, de] k).toInt8.toInt32) la lb) = b20 ∧ bi (lB = lA ∧ EqB (fun k => (csL [da, de] k).toInt8.toInt32) (fun k => (csL [ca, ce] k).toInt8.toInt32) lb la) = b20 := by
  have k1 := own_nm la lb ca ce da de hla h1 h2 h3 h4
  have k2 : EqB (fun k => (csL [da, de] k).toInt8.toInt32) (fun k => (csL [ca, ce] k).toInt8.toInt32) lb la ↔ EqB (fun k => (csL [ca, ce] k).toInt8.toInt32) (fun k => (csL [da, de] k).toInt8.toInt32) la lb := by
    constructor
    · rintro ⟨rfl, z⟩; exact ⟨rfl, fun k hk => (z k hk).symm⟩
    · rintro ⟨rfl, z⟩; exact ⟨rfl, fun k hk => (z k hk).symm⟩
  have k3 : (¬ b19 = (0 : Int32)) ↔ (la = lb ∧ (la < (1 : Int32) ∨ ca = da) ∧ (la < (2 : Int32) ∨ ce = de)) := by
    rw [h19]
    constructor
    · intro z; exact Decidable.byContradiction fun y => z (bi_f y)
    · intro z; rw [bi_t z]; decide
  rw [h20]
  refine ⟨own_bi ?_, own_bi ?_⟩
  · rw [k1, k3]; exact and_comm
  · rw [k2, k1, k3, eq_comm (a := lB)]; exact and_comm
theorem d7_0 : decode jdk_31_method_11_code 0 = .ok (.aload_n 0, 1) := by decide +kernel
theorem d7_1 : decode jdk_31_method_11_code 1 = .ok (.ifnonnull 12, 3) := by decide +kernel
theorem d7_4 : decode jdk_31_method_11_code 4 = .ok (.new 84, 3) := by decide +kernel
theorem d7_7 : decode jdk_31_method_11_code 7 = .ok (.dup, 1) := by decide +kernel
theorem d7_8 : decode jdk_31_method_11_code 8 = .ok (.aload_n 1, 1) := by decide +kernel
theorem d7_9 : decode jdk_31_method_11_code 9 = .ok (.invokespecial 87, 3) := by decide +kernel
theorem d7_12 : decode jdk_31_method_11_code 12 = .ok (.athrow, 1) := by decide +kernel
theorem d7_13 : decode jdk_31_method_11_code 13 = .ok (.aload_n 0, 1) := by decide +kernel
theorem d7_14 : decode jdk_31_method_11_code 14 = .ok (.areturn, 1) := by decide +kernel
theorem pn_rm7 : plainName "java/util/Objects" = true := by first | (simp [plainName, overriddenIn]; done) | decide +kernel
theorem ef_rm7 (m : MethodId) (a1 : Addr) (a2 : Addr) : entryFrame m #[(.ref a1), (.ref a2)] 2 = mkF m 0 #[.val (.ref a1), .val (.ref a2)] [] := by first | (simp [entryFrame, mkF, argsToLocals, Value.category]; done) | rfl
def Q7 (Z : State) (a1 : Addr) (a2 : Addr) (h0 : Heap) (n0 : Nat) (v : Option Value) (h : Heap) (L : List Loc) : Prop := v = some (.ref a1) ∧ L = [] ∧ h = h0
set_option maxRecDepth 65536 in
set_option maxHeartbeats 40000000 in
theorem rm7 (l : Launch) (Z : State) (a0 : Array Value) (hw : ∀ d ∈ tables_1, d.before a0 Z = true) (ws : List Jvm.Cond) (a1 : Addr) (a2 : Addr) (h0 : Heap) (n0 : Nat) (Z0 : n0 ≤ h0.size) :
    Con l Z (⟨"java/util/Objects", "requireNonNull", "(Ljava/lang/Object;Ljava/lang/String;)Ljava/lang/Object;"⟩ : MethodName) jdk_31_method_11_code 2 (some (.object "java/lang/Object")) ws ({ frames := 0, cells := 0, slots := 0, locals := 0 } : Room) #[(.ref a1), (.ref a2)] h0 (Q7 Z a1 a2 h0 n0) := by
  refine Con.of (plainFor_of_name pn_rm7) ?_
  intro p e s m below meth c s₁ hZ e0 X0 hx hby hml hown hnm hret hlk
  replace hml : c.maxLocals = 2 := hml
  have hown : s.vm.findClass "java/util/Objects" = some m.cls := hown
  have N0 : Fr n0 [] := Fr.nil n0
  obtain ⟨PP, hPP⟩ : ∃ P, P = Fine s below (Q7 Z a1 a2 h0 n0) ({ frames := 0, cells := 0, slots := 0, locals := 0 } : Room).cells ({ frames := 0, cells := 0, slots := 0, locals := 0 } : Room).slots := ⟨_, rfl⟩
  rw [← hPP]
  refine Go.cast (ef_rm7 m a1 a2) ?_
  have Zn : n0 ≤ h0.size := Z0
  show Go p.tables e below PP (s₁.setTop (mkF m 0 #[.val (.ref a1), .val (.ref a2)] []))
  refine Go.st (fun t k => XS.aloadN X0.here hx rfl (hb hby d7_0) rfl rfl k) ?_
  show Go p.tables e below PP (s₁.setTop (mkF m 1 #[.val (.ref a1), .val (.ref a2)] [(.ref a1)]))
  refine Go.st (fun t k => XS.ifnonnullYes X0.here hx rfl (pc0 := 1) (pc' := 13) rfl (hb hby d7_1) rfl (by decide) (by decide) k) ?_
  show Go p.tables e below PP (s₁.setTop (mkF m 13 #[.val (.ref a1), .val (.ref a2)] []))
  refine Go.st (fun t k => XS.aloadN X0.here hx rfl (hb hby d7_13) rfl rfl k) ?_
  show Go p.tables e below PP (s₁.setTop (mkF m 14 #[.val (.ref a1), .val (.ref a2)] [(.ref a1)]))
  rw [hPP]
  refine endR X0 hx hlk hret rfl rfl (hb hby d7_14) ?_ (by decide) (by decide)
  show Q7 Z a1 a2 h0 n0 (some (.ref a1)) s₁.heap _
  rw [e0]
  exact ⟨rfl, rfl, rfl⟩
theorem d6_0 : decode prog_39_method_1_code 0 = .ok (.aload_n 0, 1) := by decide +kernel
theorem d6_1 : decode prog_39_method_1_code 1 = .ok (.invokespecial 1, 3) := by decide +kernel
theorem d6_4 : decode prog_39_method_1_code 4 = .ok (.iload_n 2, 1) := by decide +kernel
theorem d6_5 : decode prog_39_method_1_code 5 = .ok (.iconst 1, 1) := by decide +kernel
theorem d6_6 : decode prog_39_method_1_code 6 = .ok (.if_icmp .ge 17, 3) := by decide +kernel
theorem d6_9 : decode prog_39_method_1_code 9 = .ok (.new 7, 3) := by decide +kernel
theorem d6_12 : decode prog_39_method_1_code 12 = .ok (.dup, 1) := by decide +kernel
theorem d6_13 : decode prog_39_method_1_code 13 = .ok (.iload_n 2, 1) := by decide +kernel
theorem d6_14 : decode prog_39_method_1_code 14 = .ok (.invokedynamic 9, 5) := by decide +kernel
theorem d6_19 : decode prog_39_method_1_code 19 = .ok (.invokespecial 13, 3) := by decide +kernel
theorem d6_22 : decode prog_39_method_1_code 22 = .ok (.athrow, 1) := by decide +kernel
theorem d6_23 : decode prog_39_method_1_code 23 = .ok (.aload_n 0, 1) := by decide +kernel
theorem d6_24 : decode prog_39_method_1_code 24 = .ok (.aload_n 1, 1) := by decide +kernel
theorem d6_25 : decode prog_39_method_1_code 25 = .ok (.ldc 16, 2) := by decide +kernel
theorem d6_27 : decode prog_39_method_1_code 27 = .ok (.invokestatic 18, 3) := by decide +kernel
theorem d6_30 : decode prog_39_method_1_code 30 = .ok (.checkcast 24, 3) := by decide +kernel
theorem d6_33 : decode prog_39_method_1_code 33 = .ok (.putfield 26, 3) := by decide +kernel
theorem d6_36 : decode prog_39_method_1_code 36 = .ok (.aload_n 0, 1) := by decide +kernel
theorem d6_37 : decode prog_39_method_1_code 37 = .ok (.iload_n 2, 1) := by decide +kernel
theorem d6_38 : decode prog_39_method_1_code 38 = .ok (.putfield 31, 3) := by decide +kernel
theorem d6_41 : decode prog_39_method_1_code 41 = .ok (.return_, 1) := by decide +kernel
theorem pn_rm6 : plainName "com/example/strict_roles/strictroles/SourceLine" = true := by first | (simp [plainName, overriddenIn]; done) | decide +kernel
theorem ef_rm6 (m : MethodId) (a1 : Addr) (a2 : Addr) (p3 : Int32) : entryFrame m #[(.ref a1), (.ref a2), (.int p3)] 3 = mkF m 0 #[.val (.ref a1), .val (.ref a2), .val (.int p3)] [] := by first | (simp [entryFrame, mkF, argsToLocals, Value.category]; done) | rfl
def Q6 (Z : State) (a1 : Addr) (a2 : Addr) (p3 : Int32) (h0 : Heap) (n0 : Nat) (v : Option Value) (h : Heap) (L : List Loc) : Prop := v = none ∧ Fr n0 L ∧ Keep h0 h [a1] ∧ Fld Z h a1 "com/example/strict_roles/strictroles/SourceLine" "sourceName" "Ljava/lang/String;" (.ref a2) ∧ Fld Z h a1 "com/example/strict_roles/strictroles/SourceLine" "line" "I" (.int p3)
theorem pd_8 : parseMethodDescriptor "(Ljava/lang/Object;Ljava/lang/String;)Ljava/lang/Object;" = some ⟨[(.object "java/lang/Object"), (.object "java/lang/String")], some (.object "java/lang/Object")⟩ := by decide +kernel
set_option maxRecDepth 65536 in
set_option maxHeartbeats 40000000 in
theorem rm6 (l : Launch) (Z : State) (a0 : Array Value) (hw : ∀ d ∈ tables_1, d.before a0 Z = true) (ws : List Jvm.Cond) (a1 : Addr) (a2 : Addr) (p3 : Int32) (h0 : Heap) (n0 : Nat) (Z0 : n0 ≤ h0.size) (hEL : EW Z a0 consts_1) (F_sourceName_a1 : Fld Z h0 a1 "com/example/strict_roles/strictroles/SourceLine" "sourceName" "Ljava/lang/String;" .null) (F_line_a1 : Fld Z h0 a1 "com/example/strict_roles/strictroles/SourceLine" "line" "I" (.int (0 : Int32))) (E_a1 : Exa Z h0 a1 "com/example/strict_roles/strictroles/SourceLine") (E_a2 : Exa Z h0 a2 "java/lang/String") (g_a1 : n0 ≤ a1) (hp : ¬ p3 < (1 : Int32)) (O : Old Z n0 h0) :
    ConH l Z consts_1 (⟨"com/example/strict_roles/strictroles/SourceLine", "<init>", "(Ljava/lang/String;I)V"⟩ : MethodName) prog_39_method_1_code 3 none ws ({ frames := 1, cells := 2, slots := 44, locals := 14 } : Room) #[(.ref a1), (.ref a2), (.int p3)] h0 (Q6 Z a1 a2 p3 h0 n0) := by
  refine ConH.of (plainFor_of_name pn_rm6) ?_
  intro p e s m below meth c s₁ vm0 k0 hZ e0 X0 hx hby hml hown hnm hret hlk hS hk CH CR
  replace hml : c.maxLocals = 3 := hml
  have hown : vm0.findClass "com/example/strict_roles/strictroles/SourceLine" = some m.cls := hown
  have N0 : Fr n0 [] := Fr.nil n0
  obtain ⟨PP, hPP⟩ : ∃ P, P = FineW Z consts_1 s below (Q6 Z a1 a2 p3 h0 n0) ({ frames := 1, cells := 2, slots := 44, locals := 14 } : Room).cells ({ frames := 1, cells := 2, slots := 44, locals := 14 } : Room).slots := ⟨_, rfl⟩
  rw [← hPP]
  refine Go.cast (ef_rm6 m a1 a2 p3) ?_
  have K : Keep h0 h0 [a1] := Keep.refl h0 _
  have Zn : n0 ≤ h0.size := Z0
  have SF_a1 : Safe Z consts_1 vm0 h0 a1 := safe_cls hZ.alike E_a1 (by decide) (by decide)
  show Go p.tables e below PP (s₁.setTop (mkF m 0 #[.val (.ref a1), .val (.ref a2), .val (.int p3)] []))
  refine Go.st (fun t k => XS.aloadN X0.here hx rfl (hb hby d6_0) rfl rfl k) ?_
  show Go p.tables e below PP (s₁.setTop (mkF m 1 #[.val (.ref a1), .val (.ref a2), .val (.int p3)] [(.ref a1)]))
  obtain ⟨T1, X1, e1, st1⟩ := initO X0 hx hZ hown (hw _ (List.mem_of_getElem? (i := 38) rfl)) (hw _ (List.mem_of_getElem? (i := 22) rfl)) (hw _ (List.mem_of_getElem? (i := 23) rfl)) e0 (g := (mkF m 1 #[.val (.ref a1), .val (.ref a2), .val (.int p3)] [(.ref a1)])) rfl (by rw [hml]; rfl) rfl (hb hby d6_1) (by decide) (W := 0) (by show 2 * 0 + _ ≤ _; exact Nat.le_of_eq rfl) (by decide)
  refine Go.st st1 ?_
  show Go p.tables e below PP (T1.setTop (mkF m 4 #[.val (.ref a1), .val (.ref a2), .val (.int p3)] []))
  refine Go.st (fun t k => XS.iloadN X1.here hx rfl (hb hby d6_4) rfl k) ?_
  show Go p.tables e below PP (T1.setTop (mkF m 5 #[.val (.ref a1), .val (.ref a2), .val (.int p3)] [(.int p3)]))
  refine Go.st (fun t k => XS.iconst X1.here hx rfl (hb hby d6_5) k) ?_
  show Go p.tables e below PP (T1.setTop (mkF m 6 #[.val (.ref a1), .val (.ref a2), .val (.int p3)] [(.int (1 : Int32)), (.int p3)]))
  refine Go.st (fun t k => XS.icmpYes X1.here hx rfl (pc0 := 6) (pc' := 23) rfl (hb hby d6_6) rfl (XT.ii_ge_t hp) (by decide) (by decide) k) ?_
  show Go p.tables e below PP (T1.setTop (mkF m 23 #[.val (.ref a1), .val (.ref a2), .val (.int p3)] []))
  refine Go.st (fun t k => XS.aloadN X1.here hx rfl (hb hby d6_23) rfl rfl k) ?_
  show Go p.tables e below PP (T1.setTop (mkF m 24 #[.val (.ref a1), .val (.ref a2), .val (.int p3)] [(.ref a1)]))
  refine Go.st (fun t k => XS.aloadN X1.here hx rfl (hb hby d6_24) rfl rfl k) ?_
  show Go p.tables e below PP (T1.setTop (mkF m 25 #[.val (.ref a1), .val (.ref a2), .val (.int p3)] [(.ref a2), (.ref a1)]))
  obtain ⟨sa2, T2, h2, kk2, sb2, kc2, X2, e2, E2, hS2, hk2, hZ2, hown2, Es2, Fc2, Fv2, As2, -, -, hC2, -, nS2, st2⟩ := ldcCH X1 hx hZ hown (hw _ (List.mem_of_getElem? (i := 39) rfl)) (strA hw) e1 hS hk hEL (List.mem_of_getElem? (i := 0) rfl) CH (vs := [(.int (115 : Int32)), (.int (111 : Int32)), (.int (117 : Int32)), (.int (114 : Int32)), (.int (99 : Int32)), (.int (101 : Int32)), (.int (78 : Int32)), (.int (97 : Int32)), (.int (109 : Int32)), (.int (101 : Int32))]) (z := (10 : Int32)) (by decide) (by decide) (by decide) (g := (mkF m 25 #[.val (.ref a1), .val (.ref a2), .val (.int p3)] [(.ref a2), (.ref a1)])) rfl (hb hby d6_25) (n := 40) (by decide) (by decide) (by decide) (by decide)
  have lt_a1 := F_sourceName_a1.lt
  replace F_sourceName_a1 := F_sourceName_a1.ext E2
  replace F_line_a1 := F_line_a1.ext E2
  replace E_a1 := E_a1.ext E2
  replace E_a2 := E_a2.ext E2
  replace O := O.ext E2
  replace K := K.ext E2
  replace SF_a1 := hC2.safe lt_a1 SF_a1
  have ne_a1_sa2 : a1 ≠ sa2 := (nS2 _ SF_a1).1
  have ne_a1_sb2 : a1 ≠ sb2 := (nS2 _ SF_a1).2
  replace Zn := Nat.le_trans Zn E2.1
  replace CR := CR.trans hC2
  replace CH := hC2.1
  replace hS := hS2
  replace hk := hk2
  replace hZ := hZ2
  replace hown := hown2
  refine Go.st st2 ?_
  show Go p.tables e below PP (T2.setTop (mkF m 27 #[.val (.ref a1), .val (.ref a2), .val (.int p3)] [(.ref sa2), (.ref a2), (.ref a1)]))
  obtain ⟨v3, T3, L3, X3, hQ3, st3⟩ := callSt X2 hx hZ (y := (⟨"java/util/Objects", "requireNonNull", "(Ljava/lang/Object;Ljava/lang/String;)Ljava/lang/Object;"⟩ : MethodName)) (argsL := [(.ref a2), (.ref sa2)]) (rest := [(.ref a1)]) hown (hw _ (List.mem_of_getElem? (i := 40) rfl)) (hw _ (List.mem_of_getElem? (i := 41) rfl)) (hw _ (List.mem_of_getElem? (i := 42) rfl)) (hw _ (List.mem_of_getElem? (i := 43) rfl)) (by decide) (rm7 l Z a0 hw [] a2 sa2 h2 n0 Zn) e2 1 (by decide) (by decide) (by decide) (by decide) (g := (mkF m 27 #[.val (.ref a1), .val (.ref a2), .val (.int p3)] [(.ref sa2), (.ref a2), (.ref a1)])) rfl (by rw [hml]; rfl) (lenOf pd_8 rfl) rfl (by show 2 * 0 + _ ≤ _; exact Nat.le_of_eq rfl) (hb hby d6_27)
  obtain ⟨rfl, rfl, e3⟩ := hQ3
  rw [List.append_nil] at X3
  refine Go.st st3 ?_
  show Go p.tables e below PP (T3.setTop (mkF m 30 #[.val (.ref a1), .val (.ref a2), .val (.int p3)] [(.ref a2), (.ref a1)]))
  obtain ⟨T4, X4, e4, st4⟩ := castY X3 hx hZ hown (hw _ (List.mem_of_getElem? (i := 44) rfl)) e3 (Ins.self E_a2) (g := (mkF m 30 #[.val (.ref a1), .val (.ref a2), .val (.int p3)] [(.ref a2), (.ref a1)])) rfl rfl (hb hby d6_30)
  refine Go.st st4 ?_
  show Go p.tables e below PP (T4.setTop (mkF m 33 #[.val (.ref a1), .val (.ref a2), .val (.int p3)] [(.ref a2), (.ref a1)]))
  obtain ⟨T5, h5, X5, e5, W5, st5⟩ := putF X4 hx hZ hown (host := "") (Or.inl (hw _ (List.mem_of_getElem? (i := 45) rfl))) Via.refl e4 F_sourceName_a1 E_a1 (Or.inr ⟨(hw _ (List.mem_of_getElem? (i := 46) rfl)), rfl, hnm⟩) (hw _ (List.mem_of_getElem? (i := 33) rfl)) (ty := (.object "java/lang/String")) (by decide) rfl rfl (g := (mkF m 33 #[.val (.ref a1), .val (.ref a2), .val (.int p3)] [(.ref a2), (.ref a1)])) rfl rfl (hb hby d6_33)
  refine Go.st st5 ?_
  have N5 := Fr.snoc X5 N0 g_a1
  replace F_line_a1 := F_line_a1.other W5 (Or.inr (slot_ne (a0 := a0) (Or.inr (hw _ (List.mem_of_getElem? (i := 48) rfl))) (Or.inr (hw _ (List.mem_of_getElem? (i := 46) rfl))) (by decide) (t := .int) (t' := (.object "java/lang/String")) (by decide) (by decide)))
  replace E_a1 := E_a1.wr W5
  replace E_a2 := E_a2.wr W5
  replace Es2 := Es2.wr W5
  replace Fc2 := Fc2.other W5 (Or.inl (Ne.symm ne_a1_sa2))
  replace Fv2 := Fv2.other W5 (Or.inl (Ne.symm ne_a1_sa2))
  replace As2 := As2.other W5 (Ne.symm ne_a1_sb2)
  replace CR := CR.trans (CHr.wr W5 SF_a1 CH)
  have CH' := CH.wr W5 SF_a1
  replace SF_a1 := Safe.wr W5 SF_a1 CH SF_a1
  replace CH := CH'
  clear CH'
  replace hk : kk2 ≤ h5.size := by rw [W5.size]; exact hk
  replace O := O.wr W5 g_a1
  replace K := K.wr W5 (Or.inl (List.mem_of_getElem? (i := 0) rfl))
  replace Zn : n0 ≤ h5.size := by rw [W5.size]; exact Zn
  replace F_sourceName_a1 := F_sourceName_a1.same W5
  show Go p.tables e below PP (T5.setTop (mkF m 36 #[.val (.ref a1), .val (.ref a2), .val (.int p3)] []))
  refine Go.st (fun t k => XS.aloadN X5.here hx rfl (hb hby d6_36) rfl rfl k) ?_
  show Go p.tables e below PP (T5.setTop (mkF m 37 #[.val (.ref a1), .val (.ref a2), .val (.int p3)] [(.ref a1)]))
  refine Go.st (fun t k => XS.iloadN X5.here hx rfl (hb hby d6_37) rfl k) ?_
  show Go p.tables e below PP (T5.setTop (mkF m 38 #[.val (.ref a1), .val (.ref a2), .val (.int p3)] [(.int p3), (.ref a1)]))
  obtain ⟨T6, h6, X6, e6, W6, st6⟩ := putF X5 hx hZ hown (host := "") (Or.inl (hw _ (List.mem_of_getElem? (i := 47) rfl))) Via.refl e5 F_line_a1 E_a1 (Or.inr ⟨(hw _ (List.mem_of_getElem? (i := 48) rfl)), rfl, hnm⟩) (hw _ (List.mem_of_getElem? (i := 33) rfl)) (ty := .int) (by decide) rfl rfl (g := (mkF m 38 #[.val (.ref a1), .val (.ref a2), .val (.int p3)] [(.int p3), (.ref a1)])) rfl rfl (hb hby d6_38)
  refine Go.st st6 ?_
  have N6 := Fr.snoc X6 N5 g_a1
  replace F_sourceName_a1 := F_sourceName_a1.other W6 (Or.inr (slot_ne (a0 := a0) (Or.inr (hw _ (List.mem_of_getElem? (i := 46) rfl))) (Or.inr (hw _ (List.mem_of_getElem? (i := 48) rfl))) (by decide) (t := (.object "java/lang/String")) (t' := .int) (by decide) (by decide)))
  replace E_a1 := E_a1.wr W6
  replace E_a2 := E_a2.wr W6
  replace Es2 := Es2.wr W6
  replace Fc2 := Fc2.other W6 (Or.inl (Ne.symm ne_a1_sa2))
  replace Fv2 := Fv2.other W6 (Or.inl (Ne.symm ne_a1_sa2))
  replace As2 := As2.other W6 (Ne.symm ne_a1_sb2)
  replace CR := CR.trans (CHr.wr W6 SF_a1 CH)
  have CH' := CH.wr W6 SF_a1
  replace SF_a1 := Safe.wr W6 SF_a1 CH SF_a1
  replace CH := CH'
  clear CH'
  replace hk : kk2 ≤ h6.size := by rw [W6.size]; exact hk
  replace O := O.wr W6 g_a1
  replace K := K.wr W6 (Or.inl (List.mem_of_getElem? (i := 0) rfl))
  replace Zn : n0 ≤ h6.size := by rw [W6.size]; exact Zn
  replace F_line_a1 := F_line_a1.same W6
  show Go p.tables e below PP (T6.setTop (mkF m 41 #[.val (.ref a1), .val (.ref a2), .val (.int p3)] []))
  rw [hPP]
  refine endVW X6 hx hlk hZ hS e6 hk hEL CH CR hret (hb hby d6_41) ?_ (by decide) (by decide)
  show Q6 Z a1 a2 p3 h0 n0 none T6.heap _
  rw [e6]
  exact ⟨rfl, N6, K, F_sourceName_a1, F_line_a1⟩
theorem d8_0 : decode prog_39_method_4_code 0 = .ok (.aload_n 0, 1) := by decide +kernel
theorem d8_1 : decode prog_39_method_4_code 1 = .ok (.aload_n 1, 1) := by decide +kernel
theorem d8_2 : decode prog_39_method_4_code 2 = .ok (.if_acmp .ne 5, 3) := by decide +kernel
theorem d8_5 : decode prog_39_method_4_code 5 = .ok (.iconst 1, 1) := by decide +kernel
theorem d8_6 : decode prog_39_method_4_code 6 = .ok (.ireturn, 1) := by decide +kernel
theorem d8_7 : decode prog_39_method_4_code 7 = .ok (.aload_n 1, 1) := by decide +kernel
theorem d8_8 : decode prog_39_method_4_code 8 = .ok (.instanceof 27, 3) := by decide +kernel
theorem d8_11 : decode prog_39_method_4_code 11 = .ok (.ifCond .eq 11, 3) := by decide +kernel
theorem d8_14 : decode prog_39_method_4_code 14 = .ok (.aload_n 1, 1) := by decide +kernel
theorem d8_15 : decode prog_39_method_4_code 15 = .ok (.checkcast 27, 3) := by decide +kernel
theorem d8_18 : decode prog_39_method_4_code 18 = .ok (.astore_n 2, 1) := by decide +kernel
theorem d8_19 : decode prog_39_method_4_code 19 = .ok (.goto 5, 3) := by decide +kernel
theorem d8_22 : decode prog_39_method_4_code 22 = .ok (.iconst 0, 1) := by decide +kernel
theorem d8_23 : decode prog_39_method_4_code 23 = .ok (.ireturn, 1) := by decide +kernel
theorem d8_24 : decode prog_39_method_4_code 24 = .ok (.aload_n 0, 1) := by decide +kernel
theorem d8_25 : decode prog_39_method_4_code 25 = .ok (.getfield 31, 3) := by decide +kernel
theorem d8_28 : decode prog_39_method_4_code 28 = .ok (.aload_n 2, 1) := by decide +kernel
theorem d8_29 : decode prog_39_method_4_code 29 = .ok (.getfield 31, 3) := by decide +kernel
theorem d8_32 : decode prog_39_method_4_code 32 = .ok (.if_icmp .ne 21, 3) := by decide +kernel
theorem d8_35 : decode prog_39_method_4_code 35 = .ok (.aload_n 0, 1) := by decide +kernel
theorem d8_36 : decode prog_39_method_4_code 36 = .ok (.getfield 26, 3) := by decide +kernel
theorem d8_39 : decode prog_39_method_4_code 39 = .ok (.aload_n 2, 1) := by decide +kernel
theorem d8_40 : decode prog_39_method_4_code 40 = .ok (.getfield 26, 3) := by decide +kernel
theorem d8_43 : decode prog_39_method_4_code 43 = .ok (.invokevirtual 35, 3) := by decide +kernel
theorem d8_46 : decode prog_39_method_4_code 46 = .ok (.ifCond .eq 7, 3) := by decide +kernel
theorem d8_49 : decode prog_39_method_4_code 49 = .ok (.iconst 1, 1) := by decide +kernel
theorem d8_50 : decode prog_39_method_4_code 50 = .ok (.goto 4, 3) := by decide +kernel
theorem d8_53 : decode prog_39_method_4_code 53 = .ok (.iconst 0, 1) := by decide +kernel
theorem d8_54 : decode prog_39_method_4_code 54 = .ok (.ireturn, 1) := by decide +kernel
theorem pn_rmEs : plainName "com/example/strict_roles/strictroles/SourceLine" = true := by first | (simp [plainName, overriddenIn]; done) | decide +kernel
theorem ef_rmEs (m : MethodId) (a1 : Addr) : entryFrame m #[(.ref a1), (.ref a1)] 3 = mkF m 0 #[.val (.ref a1), .val (.ref a1), .unset] [] := by first | (simp [entryFrame, mkF, argsToLocals, Value.category]; done) | rfl
def QEs (Z : State) (a1 : Addr) (h0 : Heap) (n0 : Nat) (v : Option Value) (h : Heap) (L : List Loc) : Prop := v = some (.int (1 : Int32)) ∧ L = [] ∧ h = h0
set_option maxRecDepth 65536 in
set_option maxHeartbeats 40000000 in
theorem rmEs (l : Launch) (Z : State) (a0 : Array Value) (hw : ∀ d ∈ tables_1, d.before a0 Z = true) (ws : List Jvm.Cond) (a1 : Addr) (h0 : Heap) (n0 : Nat) (Z0 : n0 ≤ h0.size) :
    Con l Z (⟨"com/example/strict_roles/strictroles/SourceLine", "equals", "(Ljava/lang/Object;)Z"⟩ : MethodName) prog_39_method_4_code 3 (some .boolean) ws ({ frames := 0, cells := 0, slots := 0, locals := 0 } : Room) #[(.ref a1), (.ref a1)] h0 (QEs Z a1 h0 n0) := by
  refine Con.of (plainFor_of_name pn_rmEs) ?_
  intro p e s m below meth c s₁ hZ e0 X0 hx hby hml hown hnm hret hlk
  replace hml : c.maxLocals = 3 := hml
  have hown : s.vm.findClass "com/example/strict_roles/strictroles/SourceLine" = some m.cls := hown
  have N0 : Fr n0 [] := Fr.nil n0
  obtain ⟨PP, hPP⟩ : ∃ P, P = Fine s below (QEs Z a1 h0 n0) ({ frames := 0, cells := 0, slots := 0, locals := 0 } : Room).cells ({ frames := 0, cells := 0, slots := 0, locals := 0 } : Room).slots := ⟨_, rfl⟩
  rw [← hPP]
  refine Go.cast (ef_rmEs m a1) ?_
  have Zn : n0 ≤ h0.size := Z0
  show Go p.tables e below PP (s₁.setTop (mkF m 0 #[.val (.ref a1), .val (.ref a1), .unset] []))
  refine Go.st (fun t k => XS.aloadN X0.here hx rfl (hb hby d8_0) rfl rfl k) ?_
  show Go p.tables e below PP (s₁.setTop (mkF m 1 #[.val (.ref a1), .val (.ref a1), .unset] [(.ref a1)]))
  refine Go.st (fun t k => XS.aloadN X0.here hx rfl (hb hby d8_1) rfl rfl k) ?_
  show Go p.tables e below PP (s₁.setTop (mkF m 2 #[.val (.ref a1), .val (.ref a1), .unset] [(.ref a1), (.ref a1)]))
  refine Go.st (fun t k => Jvm.RoadKit.acmp (g := (mkF m 2 #[.val (.ref a1), .val (.ref a1), .unset] [(.ref a1), (.ref a1)])) X0 hx rfl rfl rfl (pc0 := 2) (pc' := 5) (same := true) rfl (hb hby d8_2) rfl (decide_eq_true rfl) (by decide) (by decide) k) ?_
  show Go p.tables e below PP (s₁.setTop (mkF m 5 #[.val (.ref a1), .val (.ref a1), .unset] []))
  refine Go.st (fun t k => XS.iconst X0.here hx rfl (hb hby d8_5) k) ?_
  show Go p.tables e below PP (s₁.setTop (mkF m 6 #[.val (.ref a1), .val (.ref a1), .unset] [(.int (1 : Int32))]))
  rw [hPP]
  refine endN X0 hx hlk (t := .boolean) hret (by simp) (hb hby d8_6) (w := (1 : Int32)) (rfl) ?_ (by decide) (by decide)
  show QEs Z a1 h0 n0 (some (.int (1 : Int32))) s₁.heap _
  rw [e0]
  exact ⟨rfl, rfl, rfl⟩
theorem pn_rmEn : plainName "com/example/strict_roles/strictroles/SourceLine" = true := by first | (simp [plainName, overriddenIn]; done) | decide +kernel
theorem ef_rmEn (m : MethodId) (a1 : Addr) : entryFrame m #[(.ref a1), .null] 3 = mkF m 0 #[.val (.ref a1), .val .null, .unset] [] := by first | (simp [entryFrame, mkF, argsToLocals, Value.category]; done) | rfl
def QEn (Z : State) (a1 : Addr) (h0 : Heap) (n0 : Nat) (v : Option Value) (h : Heap) (L : List Loc) : Prop := v = some (.int (0 : Int32)) ∧ L = [] ∧ h = h0
set_option maxRecDepth 65536 in
set_option maxHeartbeats 40000000 in
theorem rmEn (l : Launch) (Z : State) (a0 : Array Value) (hw : ∀ d ∈ tables_1, d.before a0 Z = true) (ws : List Jvm.Cond) (a1 : Addr) (h0 : Heap) (n0 : Nat) (Z0 : n0 ≤ h0.size) :
    Con l Z (⟨"com/example/strict_roles/strictroles/SourceLine", "equals", "(Ljava/lang/Object;)Z"⟩ : MethodName) prog_39_method_4_code 3 (some .boolean) ws ({ frames := 0, cells := 0, slots := 0, locals := 0 } : Room) #[(.ref a1), .null] h0 (QEn Z a1 h0 n0) := by
  refine Con.of (plainFor_of_name pn_rmEn) ?_
  intro p e s m below meth c s₁ hZ e0 X0 hx hby hml hown hnm hret hlk
  replace hml : c.maxLocals = 3 := hml
  have hown : s.vm.findClass "com/example/strict_roles/strictroles/SourceLine" = some m.cls := hown
  have N0 : Fr n0 [] := Fr.nil n0
  obtain ⟨PP, hPP⟩ : ∃ P, P = Fine s below (QEn Z a1 h0 n0) ({ frames := 0, cells := 0, slots := 0, locals := 0 } : Room).cells ({ frames := 0, cells := 0, slots := 0, locals := 0 } : Room).slots := ⟨_, rfl⟩
  rw [← hPP]
  refine Go.cast (ef_rmEn m a1) ?_
  have Zn : n0 ≤ h0.size := Z0
  show Go p.tables e below PP (s₁.setTop (mkF m 0 #[.val (.ref a1), .val .null, .unset] []))
  refine Go.st (fun t k => XS.aloadN X0.here hx rfl (hb hby d8_0) rfl rfl k) ?_
  show Go p.tables e below PP (s₁.setTop (mkF m 1 #[.val (.ref a1), .val .null, .unset] [(.ref a1)]))
  refine Go.st (fun t k => XS.aloadN X0.here hx rfl (hb hby d8_1) rfl rfl k) ?_
  show Go p.tables e below PP (s₁.setTop (mkF m 2 #[.val (.ref a1), .val .null, .unset] [.null, (.ref a1)]))
  refine Go.st (fun t k => Jvm.RoadKit.acmp (g := (mkF m 2 #[.val (.ref a1), .val .null, .unset] [.null, (.ref a1)])) X0 hx rfl rfl rfl (pc0 := 2) (pc' := 7) (same := false) rfl (hb hby d8_2) rfl (decide_eq_false nofun) (by decide) (by decide) k) ?_
  show Go p.tables e below PP (s₁.setTop (mkF m 7 #[.val (.ref a1), .val .null, .unset] []))
  refine Go.st (fun t k => XS.aloadN X0.here hx rfl (hb hby d8_7) rfl rfl k) ?_
  show Go p.tables e below PP (s₁.setTop (mkF m 8 #[.val (.ref a1), .val .null, .unset] [.null]))
  refine Go.st (fun t k => X0.instanceofNull hx (g := (mkF m 8 #[.val (.ref a1), .val .null, .unset] [.null])) rfl rfl (hb hby d8_8) _ k) ?_
  show Go p.tables e below PP (s₁.setTop (mkF m 11 #[.val (.ref a1), .val .null, .unset] [(.int (0 : Int32))]))
  refine Go.st (fun t k => XS.ifYes X0.here hx rfl (pc0 := 11) (pc' := 22) rfl (hb hby d8_11) rfl (XT.i0_eq_t (by decide)) (by decide) (by decide) k) ?_
  show Go p.tables e below PP (s₁.setTop (mkF m 22 #[.val (.ref a1), .val .null, .unset] []))
  refine Go.st (fun t k => XS.iconst X0.here hx rfl (hb hby d8_22) k) ?_
  show Go p.tables e below PP (s₁.setTop (mkF m 23 #[.val (.ref a1), .val .null, .unset] [(.int (0 : Int32))]))
  rw [hPP]
  refine endN X0 hx hlk (t := .boolean) hret (by simp) (hb hby d8_23) (w := (0 : Int32)) (rfl) ?_ (by decide) (by decide)
  show QEn Z a1 h0 n0 (some (.int (0 : Int32))) s₁.heap _
  rw [e0]
  exact ⟨rfl, rfl, rfl⟩
theorem pn_rmEi : plainName "com/example/strict_roles/strictroles/SourceLine" = true := by first | (simp [plainName, overriddenIn]; done) | decide +kernel
theorem ef_rmEi (m : MethodId) (a1 : Addr) (a2 : Addr) : entryFrame m #[(.ref a1), (.ref a2)] 3 = mkF m 0 #[.val (.ref a1), .val (.ref a2), .unset] [] := by first | (simp [entryFrame, mkF, argsToLocals, Value.category]; done) | rfl
def QEi (Z : State) (a1 : Addr) (a2 : Addr) (h0 : Heap) (n0 : Nat) (v : Option Value) (h : Heap) (L : List Loc) : Prop := v = some (.int (0 : Int32)) ∧ L = [] ∧ h = h0
set_option maxRecDepth 65536 in
set_option maxHeartbeats 40000000 in
theorem rmEi (l : Launch) (Z : State) (a0 : Array Value) (hw : ∀ d ∈ tables_1, d.before a0 Z = true) (ws : List Jvm.Cond) (a1 : Addr) (a2 : Addr) (h0 : Heap) (n0 : Nat) (Z0 : n0 ≤ h0.size) (E_a2 : Exa Z h0 a2 "java/lang/String") (hne : a1 ≠ a2) :
    Con l Z (⟨"com/example/strict_roles/strictroles/SourceLine", "equals", "(Ljava/lang/Object;)Z"⟩ : MethodName) prog_39_method_4_code 3 (some .boolean) ws ({ frames := 0, cells := 0, slots := 0, locals := 0 } : Room) #[(.ref a1), (.ref a2)] h0 (QEi Z a1 a2 h0 n0) := by
  refine Con.of (plainFor_of_name pn_rmEi) ?_
  intro p e s m below meth c s₁ hZ e0 X0 hx hby hml hown hnm hret hlk
  replace hml : c.maxLocals = 3 := hml
  have hown : s.vm.findClass "com/example/strict_roles/strictroles/SourceLine" = some m.cls := hown
  have N0 : Fr n0 [] := Fr.nil n0
  obtain ⟨PP, hPP⟩ : ∃ P, P = Fine s below (QEi Z a1 a2 h0 n0) ({ frames := 0, cells := 0, slots := 0, locals := 0 } : Room).cells ({ frames := 0, cells := 0, slots := 0, locals := 0 } : Room).slots := ⟨_, rfl⟩
  rw [← hPP]
  refine Go.cast (ef_rmEi m a1 a2) ?_
  have Zn : n0 ≤ h0.size := Z0
  show Go p.tables e below PP (s₁.setTop (mkF m 0 #[.val (.ref a1), .val (.ref a2), .unset] []))
  refine Go.st (fun t k => XS.aloadN X0.here hx rfl (hb hby d8_0) rfl rfl k) ?_
  show Go p.tables e below PP (s₁.setTop (mkF m 1 #[.val (.ref a1), .val (.ref a2), .unset] [(.ref a1)]))
  refine Go.st (fun t k => XS.aloadN X0.here hx rfl (hb hby d8_1) rfl rfl k) ?_
  show Go p.tables e below PP (s₁.setTop (mkF m 2 #[.val (.ref a1), .val (.ref a2), .unset] [(.ref a2), (.ref a1)]))
  refine Go.st (fun t k => Jvm.RoadKit.acmp (g := (mkF m 2 #[.val (.ref a1), .val (.ref a2), .unset] [(.ref a2), (.ref a1)])) X0 hx rfl rfl rfl (pc0 := 2) (pc' := 7) (same := false) rfl (hb hby d8_2) rfl (decide_eq_false fun q => hne (Value.ref.inj q)) (by decide) (by decide) k) ?_
  show Go p.tables e below PP (s₁.setTop (mkF m 7 #[.val (.ref a1), .val (.ref a2), .unset] []))
  refine Go.st (fun t k => XS.aloadN X0.here hx rfl (hb hby d8_7) rfl rfl k) ?_
  show Go p.tables e below PP (s₁.setTop (mkF m 8 #[.val (.ref a1), .val (.ref a2), .unset] [(.ref a2)]))
  obtain ⟨T1, X1, e1, st1⟩ := instNo X0 hx hZ hown (hw _ (List.mem_of_getElem? (i := 54) rfl)) e0 E_a2 (ns_no (hw _ (List.mem_of_getElem? (i := 55) rfl)) (hw _ (List.mem_of_getElem? (i := 33) rfl)) (NS.step (hw _ (List.mem_of_getElem? (i := 55) rfl)) (ns_root (hw _ (List.mem_of_getElem? (i := 56) rfl)) (hw _ (List.mem_of_getElem? (i := 33) rfl)) (by decide)) (by decide)) (by decide)) (g := (mkF m 8 #[.val (.ref a1), .val (.ref a2), .unset] [(.ref a2)])) rfl rfl (hb hby d8_8)
  refine Go.st st1 ?_
  show Go p.tables e below PP (T1.setTop (mkF m 11 #[.val (.ref a1), .val (.ref a2), .unset] [(.int (0 : Int32))]))
  refine Go.st (fun t k => XS.ifYes X1.here hx rfl (pc0 := 11) (pc' := 22) rfl (hb hby d8_11) rfl (XT.i0_eq_t (by decide)) (by decide) (by decide) k) ?_
  show Go p.tables e below PP (T1.setTop (mkF m 22 #[.val (.ref a1), .val (.ref a2), .unset] []))
  refine Go.st (fun t k => XS.iconst X1.here hx rfl (hb hby d8_22) k) ?_
  show Go p.tables e below PP (T1.setTop (mkF m 23 #[.val (.ref a1), .val (.ref a2), .unset] [(.int (0 : Int32))]))
  rw [hPP]
  refine endN X1 hx hlk (t := .boolean) hret (by simp) (hb hby d8_23) (w := (0 : Int32)) (rfl) ?_ (by decide) (by decide)
  show QEi Z a1 a2 h0 n0 (some (.int (0 : Int32))) T1.heap _
  rw [e1]
  exact ⟨rfl, rfl, rfl⟩
theorem pn_rmEo : plainName "com/example/strict_roles/strictroles/SourceLine" = true := by first | (simp [plainName, overriddenIn]; done) | decide +kernel
theorem ef_rmEo (m : MethodId) (a1 : Addr) (a2 : Addr) : entryFrame m #[(.ref a1), (.ref a2)] 3 = mkF m 0 #[.val (.ref a1), .val (.ref a2), .unset] [] := by first | (simp [entryFrame, mkF, argsToLocals, Value.category]; done) | rfl
def QEo (Z : State) (a1 : Addr) (a2 : Addr) (l1 : Int32) (l2 : Int32) (r1 : Addr) (r2 : Addr) (t1 : Addr) (t2 : Addr) (n1 : Int32) (f1 : Nat → Int32) (n2 : Int32) (f2 : Nat → Int32) (zc : Int32) (h0 : Heap) (n0 : Nat) (v : Option Value) (h : Heap) (L : List Loc) : Prop := v = some (.int (bi (l1 = l2 ∧ EqB f1 f2 n1 n2))) ∧ L = [] ∧ h = h0
theorem pd_9 : parseMethodDescriptor "(Ljava/lang/Object;)Z" = some ⟨[(.object "java/lang/Object")], some .boolean⟩ := by decide +kernel
set_option maxRecDepth 65536 in
set_option maxHeartbeats 40000000 in
theorem rmEo (l : Launch) (Z : State) (a0 : Array Value) (hw : ∀ d ∈ tables_1, d.before a0 Z = true) (ws : List Jvm.Cond) (a1 : Addr) (a2 : Addr) (l1 : Int32) (l2 : Int32) (r1 : Addr) (r2 : Addr) (t1 : Addr) (t2 : Addr) (n1 : Int32) (f1 : Nat → Int32) (n2 : Int32) (f2 : Nat → Int32) (zc : Int32) (h0 : Heap) (n0 : Nat) (Z0 : n0 ≤ h0.size) (F_line_a1 : Fld Z h0 a1 "com/example/strict_roles/strictroles/SourceLine" "line" "I" (.int l1)) (F_line_a2 : Fld Z h0 a2 "com/example/strict_roles/strictroles/SourceLine" "line" "I" (.int l2)) (F_sourceName_a1 : Fld Z h0 a1 "com/example/strict_roles/strictroles/SourceLine" "sourceName" "Ljava/lang/String;" (.ref r1)) (F_sourceName_a2 : Fld Z h0 a2 "com/example/strict_roles/strictroles/SourceLine" "sourceName" "Ljava/lang/String;" (.ref r2)) (E_a2 : Exa Z h0 a2 "com/example/strict_roles/strictroles/SourceLine") (F_value_r1 : Fld Z h0 r1 "java/lang/String" "value" "[B" (.ref t1)) (F_coder_r1 : Fld Z h0 r1 "java/lang/String" "coder" "B" (.int (0 : Int32))) (V_t1 : Afn Z h0 t1 .byte n1 (fun k => .int (f1 k))) (E_r1 : Exa Z h0 r1 "java/lang/String") (F_value_r2 : Fld Z h0 r2 "java/lang/String" "value" "[B" (.ref t2)) (F_coder_r2 : Fld Z h0 r2 "java/lang/String" "coder" "B" (.int (0 : Int32))) (V_t2 : Afn Z h0 t2 .byte n2 (fun k => .int (f2 k))) (E_r2 : Exa Z h0 r2 "java/lang/String") (hne : a1 ≠ a2) (hnr : r1 ≠ r2) (SC : Sta Z Z.heap "java/lang/String" "COMPACT_STRINGS" "Z" (.int zc)) (hzc : ¬ zc = (0 : Int32)) (O : Old Z n0 h0) :
    Con l Z (⟨"com/example/strict_roles/strictroles/SourceLine", "equals", "(Ljava/lang/Object;)Z"⟩ : MethodName) prog_39_method_4_code 3 (some .boolean) ws ({ frames := 2, cells := 0, slots := 0, locals := 28 } : Room) #[(.ref a1), (.ref a2)] h0 (QEo Z a1 a2 l1 l2 r1 r2 t1 t2 n1 f1 n2 f2 zc h0 n0) := by
  refine Con.of (plainFor_of_name pn_rmEo) ?_
  intro p e s m below meth c s₁ hZ e0 X0 hx hby hml hown hnm hret hlk
  replace hml : c.maxLocals = 3 := hml
  have hown : s.vm.findClass "com/example/strict_roles/strictroles/SourceLine" = some m.cls := hown
  have N0 : Fr n0 [] := Fr.nil n0
  obtain ⟨PP, hPP⟩ : ∃ P, P = Fine s below (QEo Z a1 a2 l1 l2 r1 r2 t1 t2 n1 f1 n2 f2 zc h0 n0) ({ frames := 2, cells := 0, slots := 0, locals := 28 } : Room).cells ({ frames := 2, cells := 0, slots := 0, locals := 28 } : Room).slots := ⟨_, rfl⟩
  rw [← hPP]
  refine Go.cast (ef_rmEo m a1 a2) ?_
  have Zn : n0 ≤ h0.size := Z0
  show Go p.tables e below PP (s₁.setTop (mkF m 0 #[.val (.ref a1), .val (.ref a2), .unset] []))
  refine Go.st (fun t k => XS.aloadN X0.here hx rfl (hb hby d8_0) rfl rfl k) ?_
  show Go p.tables e below PP (s₁.setTop (mkF m 1 #[.val (.ref a1), .val (.ref a2), .unset] [(.ref a1)]))
  refine Go.st (fun t k => XS.aloadN X0.here hx rfl (hb hby d8_1) rfl rfl k) ?_
  show Go p.tables e below PP (s₁.setTop (mkF m 2 #[.val (.ref a1), .val (.ref a2), .unset] [(.ref a2), (.ref a1)]))
  refine Go.st (fun t k => Jvm.RoadKit.acmp (g := (mkF m 2 #[.val (.ref a1), .val (.ref a2), .unset] [(.ref a2), (.ref a1)])) X0 hx rfl rfl rfl (pc0 := 2) (pc' := 7) (same := false) rfl (hb hby d8_2) rfl (decide_eq_false fun q => hne (Value.ref.inj q)) (by decide) (by decide) k) ?_
  show Go p.tables e below PP (s₁.setTop (mkF m 7 #[.val (.ref a1), .val (.ref a2), .unset] []))
  refine Go.st (fun t k => XS.aloadN X0.here hx rfl (hb hby d8_7) rfl rfl k) ?_
  show Go p.tables e below PP (s₁.setTop (mkF m 8 #[.val (.ref a1), .val (.ref a2), .unset] [(.ref a2)]))
  obtain ⟨T1, X1, e1, st1⟩ := instY X0 hx hZ hown (hw _ (List.mem_of_getElem? (i := 54) rfl)) e0 (Ins.self E_a2) (g := (mkF m 8 #[.val (.ref a1), .val (.ref a2), .unset] [(.ref a2)])) rfl rfl (hb hby d8_8)
  refine Go.st st1 ?_
  show Go p.tables e below PP (T1.setTop (mkF m 11 #[.val (.ref a1), .val (.ref a2), .unset] [(.int (1 : Int32))]))
  refine Go.st (fun t k => XS.ifNo X1.here hx rfl (hb hby d8_11) rfl (XT.i0_eq_f (by decide)) k) ?_
  show Go p.tables e below PP (T1.setTop (mkF m 14 #[.val (.ref a1), .val (.ref a2), .unset] []))
  refine Go.st (fun t k => XS.aloadN X1.here hx rfl (hb hby d8_14) rfl rfl k) ?_
  show Go p.tables e below PP (T1.setTop (mkF m 15 #[.val (.ref a1), .val (.ref a2), .unset] [(.ref a2)]))
  obtain ⟨T2, X2, e2, st2⟩ := castY X1 hx hZ hown (hw _ (List.mem_of_getElem? (i := 54) rfl)) e1 (Ins.self E_a2) (g := (mkF m 15 #[.val (.ref a1), .val (.ref a2), .unset] [(.ref a2)])) rfl rfl (hb hby d8_15)
  refine Go.st st2 ?_
  show Go p.tables e below PP (T2.setTop (mkF m 18 #[.val (.ref a1), .val (.ref a2), .unset] [(.ref a2)]))
  refine Go.st (fun t k => XS.astoreN X2.here hx rfl (hb hby d8_18) rfl rfl (l' := #[.val (.ref a1), .val (.ref a2), .val (.ref a2)]) rfl k) ?_
  show Go p.tables e below PP (T2.setTop (mkF m 19 #[.val (.ref a1), .val (.ref a2), .val (.ref a2)] []))
  refine Go.st (fun t k => XS.goto X2.here hx rfl (pc0 := 19) (pc' := 24) rfl (hb hby d8_19) (by decide) (by decide) k) ?_
  show Go p.tables e below PP (T2.setTop (mkF m 24 #[.val (.ref a1), .val (.ref a2), .val (.ref a2)] []))
  refine Go.st (fun t k => XS.aloadN X2.here hx rfl (hb hby d8_24) rfl rfl k) ?_
  show Go p.tables e below PP (T2.setTop (mkF m 25 #[.val (.ref a1), .val (.ref a2), .val (.ref a2)] [(.ref a1)]))
  obtain ⟨T3, X3, e3, st3⟩ := getF X2 hx hZ hown (host := "") (Or.inl (hw _ (List.mem_of_getElem? (i := 47) rfl))) Via.refl e2 F_line_a1 (g := (mkF m 25 #[.val (.ref a1), .val (.ref a2), .val (.ref a2)] [(.ref a1)])) rfl rfl (hb hby d8_25)
  refine Go.st st3 ?_
  show Go p.tables e below PP (T3.setTop (mkF m 28 #[.val (.ref a1), .val (.ref a2), .val (.ref a2)] [(.int l1)]))
  refine Go.st (fun t k => XS.aloadN X3.here hx rfl (hb hby d8_28) rfl rfl k) ?_
  show Go p.tables e below PP (T3.setTop (mkF m 29 #[.val (.ref a1), .val (.ref a2), .val (.ref a2)] [(.ref a2), (.int l1)]))
  obtain ⟨T4, X4, e4, st4⟩ := getF X3 hx hZ hown (host := "") (Or.inl (hw _ (List.mem_of_getElem? (i := 47) rfl))) Via.refl e3 F_line_a2 (g := (mkF m 29 #[.val (.ref a1), .val (.ref a2), .val (.ref a2)] [(.ref a2), (.int l1)])) rfl rfl (hb hby d8_29)
  refine Go.st st4 ?_
  show Go p.tables e below PP (T4.setTop (mkF m 32 #[.val (.ref a1), .val (.ref a2), .val (.ref a2)] [(.int l2), (.int l1)]))
  by_cases hc32 : l1 = l2
  · --
    refine Go.st (fun t k => XS.icmpNo X4.here hx rfl (hb hby d8_32) rfl (XT.ii_ne_f hc32) k) ?_
    show Go p.tables e below PP (T4.setTop (mkF m 35 #[.val (.ref a1), .val (.ref a2), .val (.ref a2)] []))
    refine Go.st (fun t k => XS.aloadN X4.here hx rfl (hb hby d8_35) rfl rfl k) ?_
    show Go p.tables e below PP (T4.setTop (mkF m 36 #[.val (.ref a1), .val (.ref a2), .val (.ref a2)] [(.ref a1)]))
    obtain ⟨T5, X5, e5, st5⟩ := getF X4 hx hZ hown (host := "") (Or.inl (hw _ (List.mem_of_getElem? (i := 45) rfl))) Via.refl e4 F_sourceName_a1 (g := (mkF m 36 #[.val (.ref a1), .val (.ref a2), .val (.ref a2)] [(.ref a1)])) rfl rfl (hb hby d8_36)
    refine Go.st st5 ?_
    show Go p.tables e below PP (T5.setTop (mkF m 39 #[.val (.ref a1), .val (.ref a2), .val (.ref a2)] [(.ref r1)]))
    refine Go.st (fun t k => XS.aloadN X5.here hx rfl (hb hby d8_39) rfl rfl k) ?_
    show Go p.tables e below PP (T5.setTop (mkF m 40 #[.val (.ref a1), .val (.ref a2), .val (.ref a2)] [(.ref a2), (.ref r1)]))
    obtain ⟨T6, X6, e6, st6⟩ := getF X5 hx hZ hown (host := "") (Or.inl (hw _ (List.mem_of_getElem? (i := 45) rfl))) Via.refl e5 F_sourceName_a2 (g := (mkF m 40 #[.val (.ref a1), .val (.ref a2), .val (.ref a2)] [(.ref a2), (.ref r1)])) rfl rfl (hb hby d8_40)
    refine Go.st st6 ?_
    show Go p.tables e below PP (T6.setTop (mkF m 43 #[.val (.ref a1), .val (.ref a2), .val (.ref a2)] [(.ref r2), (.ref r1)]))
    obtain ⟨v7, T7, L7, X7, hQ7, st7⟩ := callVi X6 hx hZ (C := "java/lang/String") (y := (⟨"java/lang/String", "equals", "(Ljava/lang/Object;)Z"⟩ : MethodName)) (z := (⟨"java/lang/String", "equals", "(Ljava/lang/Object;)Z"⟩ : MethodName)) (a := r1) (argsL := [(.ref r2)]) (rest := []) hown (hw _ (List.mem_of_getElem? (i := 69) rfl)) (hw _ (List.mem_of_getElem? (i := 70) rfl)) (notFace_of_selects (args := #[]) (mvT hZ (hw _ (List.mem_of_getElem? (i := 72) rfl)))) (hw _ (List.mem_of_getElem? (i := 72) rfl)) (hw _ (List.mem_of_getElem? (i := 71) rfl)) (hw _ (List.mem_of_getElem? (i := 12) rfl)) (hw _ (List.mem_of_getElem? (i := 73) rfl)) (by decide) rfl E_r1 (rm12 l Z a0 hw [] r1 r2 t1 t2 n1 f1 n2 f2 zc h0 n0 Zn F_value_r1 F_coder_r1 V_t1 E_r1 F_value_r2 F_coder_r2 V_t2 E_r2 hnr SC hzc O) e6 0 (by decide) (by decide) (by decide) (by decide) (g := (mkF m 43 #[.val (.ref a1), .val (.ref a2), .val (.ref a2)] [(.ref r2), (.ref r1)])) rfl (by rw [hml]; rfl) (lenOf pd_9 rfl) rfl (by show 2 * 0 + _ ≤ _; exact Nat.le_of_eq rfl) (hb hby d8_43)
    obtain ⟨rfl, rfl, e7⟩ := hQ7
    rw [List.append_nil] at X7
    refine Go.st st7 ?_
    show Go p.tables e below PP (T7.setTop (mkF m 46 #[.val (.ref a1), .val (.ref a2), .val (.ref a2)] [(.int (bi (EqB f1 f2 n1 n2)))]))
    by_cases hc46 : (bi (EqB f1 f2 n1 n2)) = (0 : Int32)
    · --
      refine Go.st (fun t k => XS.ifYes X7.here hx rfl (pc0 := 46) (pc' := 53) rfl (hb hby d8_46) rfl (XT.i0_eq_t hc46) (by decide) (by decide) k) ?_
      show Go p.tables e below PP (T7.setTop (mkF m 53 #[.val (.ref a1), .val (.ref a2), .val (.ref a2)] []))
      refine Go.st (fun t k => XS.iconst X7.here hx rfl (hb hby d8_53) k) ?_
      show Go p.tables e below PP (T7.setTop (mkF m 54 #[.val (.ref a1), .val (.ref a2), .val (.ref a2)] [(.int (0 : Int32))]))
      rw [hPP]
      refine endN X7 hx hlk (t := .boolean) hret (by simp) (hb hby d8_54) (w := (0 : Int32)) (rfl) ?_ (by decide) (by decide)
      show QEo Z a1 a2 l1 l2 r1 r2 t1 t2 n1 f1 n2 f2 zc h0 n0 (some (.int (0 : Int32))) T7.heap _
      rw [e7]
      exact ⟨by rw [bi_f (fun z => absurd hc46 (by rw [bi_t z.2]; decide))], rfl, rfl⟩
    · --
      refine Go.st (fun t k => XS.ifNo X7.here hx rfl (hb hby d8_46) rfl (XT.i0_eq_f hc46) k) ?_
      show Go p.tables e below PP (T7.setTop (mkF m 49 #[.val (.ref a1), .val (.ref a2), .val (.ref a2)] []))
      refine Go.st (fun t k => XS.iconst X7.here hx rfl (hb hby d8_49) k) ?_
      show Go p.tables e below PP (T7.setTop (mkF m 50 #[.val (.ref a1), .val (.ref a2), .val (.ref a2)] [(.int (1 : Int32))]))
      refine Go.st (fun t k => XS.goto X7.here hx rfl (pc0 := 50) (pc' := 54) rfl (hb hby d8_50) (by decide) (by decide) k) ?_
      show Go p.tables e below PP (T7.setTop (mkF m 54 #[.val (.ref a1), .val (.ref a2), .val (.ref a2)] [(.int (1 : Int32))]))
      rw [hPP]
      refine endN X7 hx hlk (t := .boolean) hret (by simp) (hb hby d8_54) (w := (1 : Int32)) (rfl) ?_ (by decide) (by decide)
      show QEo Z a1 a2 l1 l2 r1 r2 t1 t2 n1 f1 n2 f2 zc h0 n0 (some (.int (1 : Int32))) T7.heap _
      rw [e7]
      exact ⟨by rw [bi_t ⟨hc32, Decidable.byContradiction fun z => hc46 (bi_f z)⟩], rfl, rfl⟩
  · --
    refine Go.st (fun t k => XS.icmpYes X4.here hx rfl (pc0 := 32) (pc' := 53) rfl (hb hby d8_32) rfl (XT.ii_ne_t hc32) (by decide) (by decide) k) ?_
    show Go p.tables e below PP (T4.setTop (mkF m 53 #[.val (.ref a1), .val (.ref a2), .val (.ref a2)] []))
    refine Go.st (fun t k => XS.iconst X4.here hx rfl (hb hby d8_53) k) ?_
    show Go p.tables e below PP (T4.setTop (mkF m 54 #[.val (.ref a1), .val (.ref a2), .val (.ref a2)] [(.int (0 : Int32))]))
    rw [hPP]
    refine endN X4 hx hlk (t := .boolean) hret (by simp) (hb hby d8_54) (w := (0 : Int32)) (rfl) ?_ (by decide) (by decide)
    show QEo Z a1 a2 l1 l2 r1 r2 t1 t2 n1 f1 n2 f2 zc h0 n0 (some (.int (0 : Int32))) T4.heap _
    rw [e4]
    exact ⟨by rw [bi_f (fun z => hc32 z.1)], rfl, rfl⟩
theorem d2_0 : decode method_2_code 0 = .ok (.iload_n 0, 1) := by decide +kernel
theorem d2_1 : decode method_2_code 1 = .ok (.ifCond .ne 14, 3) := by decide +kernel
theorem d2_4 : decode method_2_code 4 = .ok (.new 7, 3) := by decide +kernel
theorem d2_7 : decode method_2_code 7 = .ok (.dup, 1) := by decide +kernel
theorem d2_8 : decode method_2_code 8 = .ok (.iconst 0, 1) := by decide +kernel
theorem d2_9 : decode method_2_code 9 = .ok (.newarray .char, 2) := by decide +kernel
theorem d2_11 : decode method_2_code 11 = .ok (.invokespecial 9, 3) := by decide +kernel
theorem d2_14 : decode method_2_code 14 = .ok (.areturn, 1) := by decide +kernel
theorem d2_15 : decode method_2_code 15 = .ok (.iload_n 0, 1) := by decide +kernel
theorem d2_16 : decode method_2_code 16 = .ok (.iconst 1, 1) := by decide +kernel
theorem d2_17 : decode method_2_code 17 = .ok (.if_icmp .ne 8, 3) := by decide +kernel
theorem d2_20 : decode method_2_code 20 = .ok (.iload_n 1, 1) := by decide +kernel
theorem d2_21 : decode method_2_code 21 = .ok (.invokestatic 12, 3) := by decide +kernel
theorem d2_24 : decode method_2_code 24 = .ok (.areturn, 1) := by decide +kernel
theorem d2_25 : decode method_2_code 25 = .ok (.iconst 2, 1) := by decide +kernel
theorem d2_26 : decode method_2_code 26 = .ok (.newarray .char, 2) := by decide +kernel
theorem d2_28 : decode method_2_code 28 = .ok (.astore_n 3, 1) := by decide +kernel
theorem d2_29 : decode method_2_code 29 = .ok (.aload_n 3, 1) := by decide +kernel
theorem d2_30 : decode method_2_code 30 = .ok (.iconst 0, 1) := by decide +kernel
theorem d2_31 : decode method_2_code 31 = .ok (.iload_n 1, 1) := by decide +kernel
theorem d2_32 : decode method_2_code 32 = .ok (.castore, 1) := by decide +kernel
theorem d2_33 : decode method_2_code 33 = .ok (.aload_n 3, 1) := by decide +kernel
theorem d2_34 : decode method_2_code 34 = .ok (.iconst 1, 1) := by decide +kernel
theorem d2_35 : decode method_2_code 35 = .ok (.iload_n 2, 1) := by decide +kernel
theorem d2_36 : decode method_2_code 36 = .ok (.castore, 1) := by decide +kernel
theorem d2_37 : decode method_2_code 37 = .ok (.new 7, 3) := by decide +kernel
theorem d2_40 : decode method_2_code 40 = .ok (.dup, 1) := by decide +kernel
theorem d2_41 : decode method_2_code 41 = .ok (.aload_n 3, 1) := by decide +kernel
theorem d2_42 : decode method_2_code 42 = .ok (.invokespecial 9, 3) := by decide +kernel
theorem d2_45 : decode method_2_code 45 = .ok (.areturn, 1) := by decide +kernel
theorem pn_rm2 : plainName "com/example/strict_roles/strictroles/SourceLineEqualsPinLaw" = true := by first | (simp [plainName, overriddenIn]; done) | decide +kernel
theorem ef_rm2 (m : MethodId) (p1 : Int32) (p2 : Int32) (p3 : Int32) : entryFrame m #[(.int p1), (.int p2), (.int p3)] 4 = mkF m 0 #[.val (.int p1), .val (.int p2), .val (.int p3), .unset] [] := by first | (simp [entryFrame, mkF, argsToLocals, Value.category]; done) | rfl
def Q2 (Z : State) (p1 : Int32) (p2 : Int32) (p3 : Int32) (zc : Int32) (h0 : Heap) (n0 : Nat) (v : Option Value) (h : Heap) (L : List Loc) : Prop := ∃ (r t : Addr), v = some (.ref r) ∧ Fr n0 L ∧ Keep h0 h [] ∧ h0.size ≤ r ∧ Exa Z h r "java/lang/String" ∧ Fld Z h r "java/lang/String" "coder" "B" (.int (0 : Int32)) ∧ Fld Z h r "java/lang/String" "value" "[B" (.ref t) ∧ Afn Z h t .byte p1 (fun k => .int ((csL [p2, p3] k).toInt8.toInt32))
theorem pd_10 : parseMethodDescriptor "([C)V" = some ⟨[(.array .char)], none⟩ := by decide +kernel
theorem pd_11 : parseMethodDescriptor "(C)Ljava/lang/String;" = some ⟨[.char], some (.object "java/lang/String")⟩ := by decide +kernel
set_option maxRecDepth 65536 in
set_option maxHeartbeats 40000000 in
theorem rm2 (l : Launch) (Z : State) (a0 : Array Value) (hw : ∀ d ∈ tables_1, d.before a0 Z = true) (ws : List Jvm.Cond) (p1 : Int32) (p2 : Int32) (p3 : Int32) (zc : Int32) (h0 : Heap) (n0 : Nat) (Z0 : n0 ≤ h0.size) (hEL : EW Z a0 consts_1) (SC : Sta Z Z.heap "java/lang/String" "COMPACT_STRINGS" "Z" (.int zc)) (hzc : ¬ zc = (0 : Int32)) (O : Old Z n0 h0) (hn : p1 = (0 : Int32) ∨ p1 = (1 : Int32) ∨ p1 = (2 : Int32)) (h2 : Chr p2) (h3 : Chr p3) :
    ConH l Z consts_1 (⟨"com/example/strict_roles/strictroles/SourceLineEqualsPinLaw", "mk", "(ICC)Ljava/lang/String;"⟩ : MethodName) method_2_code 4 (some (.object "java/lang/String")) ws ({ frames := 4, cells := 6, slots := 16, locals := 68 } : Room) #[(.int p1), (.int p2), (.int p3)] h0 (Q2 Z p1 p2 p3 zc h0 n0) := by
  refine ConH.of (plainFor_of_name pn_rm2) ?_
  intro p e s m below meth c s₁ vm0 k0 hZ e0 X0 hx hby hml hown hnm hret hlk hS hk CH CR
  replace hml : c.maxLocals = 4 := hml
  have hown : vm0.findClass "com/example/strict_roles/strictroles/SourceLineEqualsPinLaw" = some m.cls := hown
  have N0 : Fr n0 [] := Fr.nil n0
  obtain ⟨PP, hPP⟩ : ∃ P, P = FineW Z consts_1 s below (Q2 Z p1 p2 p3 zc h0 n0) ({ frames := 4, cells := 6, slots := 16, locals := 68 } : Room).cells ({ frames := 4, cells := 6, slots := 16, locals := 68 } : Room).slots := ⟨_, rfl⟩
  rw [← hPP]
  refine Go.cast (ef_rm2 m p1 p2 p3) ?_
  have K : Keep h0 h0 [] := Keep.refl h0 _
  have Zn : n0 ≤ h0.size := Z0
  show Go p.tables e below PP (s₁.setTop (mkF m 0 #[.val (.int p1), .val (.int p2), .val (.int p3), .unset] []))
  refine Go.st (fun t k => XS.iloadN X0.here hx rfl (hb hby d2_0) rfl k) ?_
  show Go p.tables e below PP (s₁.setTop (mkF m 1 #[.val (.int p1), .val (.int p2), .val (.int p3), .unset] [(.int p1)]))
  by_cases hc1 : p1 = (0 : Int32)
  · --
    refine Go.st (fun t k => XS.ifNo X0.here hx rfl (hb hby d2_1) rfl (XT.i0_ne_f hc1) k) ?_
    show Go p.tables e below PP (s₁.setTop (mkF m 4 #[.val (.int p1), .val (.int p2), .val (.int p3), .unset] []))
    obtain ⟨T1, h1, X1, e1, E1, A1, D1, -, st1⟩ := newO X0 hx hZ hown (hw _ (List.mem_of_getElem? (i := 10) rfl)) (hw _ (List.mem_of_getElem? (i := 11) rfl)) (hw _ (List.mem_of_getElem? (i := 12) rfl)) e0 (g := (mkF m 4 #[.val (.int p1), .val (.int p2), .val (.int p3), .unset] [])) rfl (hb hby d2_4) (by decide) (by decide)
    obtain ⟨b1, gz1⟩ : ∃ z, z = h0.size := ⟨_, rfl⟩
    rw [← gz1] at A1 D1 st1
    have g_b1 : n0 ≤ b1 := Nat.le_trans Zn (Nat.le_of_eq gz1.symm)
    have sz_b1 : h0.size ≤ b1 := Nat.le_trans K.1 (Nat.le_of_eq gz1.symm)
    have SF_b1 : Safe Z consts_1 vm0 h0 b1 := Safe.new (Nat.le_of_eq gz1.symm)
    refine Go.st st1 ?_
    replace SF_b1 := Safe.ext E1 CH SF_b1
    replace CR := CR.trans (CHr.ext E1 CH)
    replace CH := CH.ext E1
    replace hk := Nat.le_trans hk E1.1
    replace O := O.ext E1
    replace K := K.ext E1
    replace Zn := Nat.le_trans Zn E1.1
    have E_b1 := A1
    have F_value_b1 : Fld Z h1 b1 "java/lang/String" "value" "[B" .null := D1 (Or.inr (hw _ (List.mem_of_getElem? (i := 26) rfl))) (ty := (.array .byte)) (by decide)
    have F_coder_b1 : Fld Z h1 b1 "java/lang/String" "coder" "B" (.int (0 : Int32)) := D1 (Or.inr (hw _ (List.mem_of_getElem? (i := 27) rfl))) (ty := .byte) (by decide)
    show Go p.tables e below PP (T1.setTop (mkF m 7 #[.val (.int p1), .val (.int p2), .val (.int p3), .unset] [(.ref b1)]))
    refine Go.st (fun t k => XS.dup X1.here hx rfl (hb hby d2_7) rfl rfl k) ?_
    show Go p.tables e below PP (T1.setTop (mkF m 8 #[.val (.int p1), .val (.int p2), .val (.int p3), .unset] [(.ref b1), (.ref b1)]))
    refine Go.st (fun t k => XS.iconst X1.here hx rfl (hb hby d2_8) k) ?_
    show Go p.tables e below PP (T1.setTop (mkF m 9 #[.val (.int p1), .val (.int p2), .val (.int p3), .unset] [(.int (0 : Int32)), (.ref b1), (.ref b1)]))
    obtain ⟨T2, h2, k2, X2, e2, E2, A2, st2⟩ := newP X1 hx hZ (hw _ (List.mem_of_getElem? (i := 13) rfl)) e1 (g := (mkF m 9 #[.val (.int p1), .val (.int p2), .val (.int p3), .unset] [(.int (0 : Int32)), (.ref b1), (.ref b1)])) rfl (hb hby d2_9) rfl (by decide) (cap := 0) (by decide) (by decide) (by decide) (by decide)
    obtain ⟨b2, gz2⟩ : ∃ z, z = h1.size := ⟨_, rfl⟩
    rw [← gz2] at A2 st2
    have ne_b1_b2 : b1 ≠ b2 := Nat.ne_of_lt (Nat.lt_of_lt_of_le E_b1.lt (Nat.le_of_eq gz2.symm))
    have g_b2 : n0 ≤ b2 := Nat.le_trans Zn (Nat.le_of_eq gz2.symm)
    have sz_b2 : h0.size ≤ b2 := Nat.le_trans K.1 (Nat.le_of_eq gz2.symm)
    have SF_b2 : Safe Z consts_1 vm0 h1 b2 := Safe.new (Nat.le_of_eq gz2.symm)
    refine Go.st st2 ?_
    replace E_b1 := E_b1.ext E2
    replace F_value_b1 := F_value_b1.ext E2
    replace F_coder_b1 := F_coder_b1.ext E2
    replace SF_b1 := Safe.ext E2 CH SF_b1
    replace SF_b2 := Safe.ext E2 CH SF_b2
    replace CR := CR.trans (CHr.ext E2 CH)
    replace CH := CH.ext E2
    replace hk := Nat.le_trans hk E2.1
    replace O := O.ext E2
    replace K := K.ext E2
    replace Zn := Nat.le_trans Zn E2.1
    have V_b2 : Afn Z h2 b2 .char (0 : Int32) (fun _ => (.int (0 : Int32))) := Afn.new A2 (by decide)
    obtain ⟨csv, hcsv⟩ : ∃ f : Nat → Int32, f = csL [] := ⟨_, rfl⟩
    have hcb : ∀ k, k < (0 : Int32).toNatClampNeg → ¬ csv k < (0 : Int32) ∧ ¬ (255 : Int32) < csv k := fun k _ => by rw [hcsv]; exact own_csb _ (fun x hm => absurd hm (List.not_mem_nil)) k
    replace V_b2 := V_b2.congr (g := fun k => .int (csv k)) (fun k hk => by rw [hcsv]; exact absurd hk (Nat.not_lt_zero k))
    show Go p.tables e below PP (T2.setTop (mkF m 11 #[.val (.int p1), .val (.int p2), .val (.int p3), .unset] [(.ref b2), (.ref b1), (.ref b1)]))
    have hZ0 := hZ
    have hown0 := hown
    clear hZ hown
    obtain ⟨v3, T3, L3, X3, hQ3, hC3, hSn3, hZ, hown, st3⟩ := callInW X2 hx hZ0 (y := (⟨"java/lang/String", "<init>", "([C)V"⟩ : MethodName)) (a := b1) (argsL := [(.ref b2)]) (rest := [(.ref b1)]) rfl hown0 (hw _ (List.mem_of_getElem? (i := 14) rfl)) (hw _ (List.mem_of_getElem? (i := 15) rfl)) (hw _ (List.mem_of_getElem? (i := 12) rfl)) (hw _ (List.mem_of_getElem? (i := 16) rfl)) (by decide) (rmS1 l Z a0 hw [] b1 b2 (0 : Int32) csv zc h2 n0 Zn hEL E_b1 F_value_b1 F_coder_b1 g_b1 V_b2 hcb (by decide) ne_b1_b2 SC hzc O) e2 hEL CH hS hk 1 (by decide) (by decide) (by decide) (by decide) (g := (mkF m 11 #[.val (.int p1), .val (.int p2), .val (.int p3), .unset] [(.ref b2), (.ref b1), (.ref b1)])) rfl (by rw [hml]; rfl) (lenOf pd_10 rfl) rfl (by show 2 * 0 + _ ≤ _; exact Nat.le_of_eq rfl) (hb hby d2_11)
    clear hZ0 hown0
    replace hS := hSn3
    obtain ⟨h3, e3⟩ : ∃ z, T3.heap = z := ⟨_, rfl⟩
    rw [e3] at hQ3 hC3
    replace SF_b1 := hC3.safe E_b1.lt SF_b1
    replace SF_b2 := hC3.safe V_b2.lt SF_b2
    replace CR := CR.trans hC3
    replace CH := hC3.1
    replace hk : T3.heap.size ≤ h3.size := by rw [e3]; exact Nat.le_refl _
    obtain ⟨rfl, Nq3, Kq3, Eq3, Cq3, t3, Fq3, Vq3⟩ := hQ3
    have N3 := Fr.app N0 Nq3
    replace E_b1 := E_b1.keep Kq3
    clear F_value_b1
    clear F_coder_b1
    replace V_b2 := V_b2.keep Kq3 (ninS (Ne.symm ne_b1_b2) nin0)
    replace O := O.keep Kq3 (allS g_b1 all0)
    replace K := K.trans Kq3 (allS (Or.inr sz_b1) all0)
    replace Zn := Nat.le_trans Zn Kq3.1
    replace E_b1 := Eq3
    have F_value_b1 := Fq3
    have F_coder_b1 := Cq3
    refine Go.st st3 ?_
    show Go p.tables e below PP (T3.setTop (mkF m 14 #[.val (.int p1), .val (.int p2), .val (.int p3), .unset] [(.ref b1)]))
    rw [hPP]
    refine endRW X3 hx hlk hZ hS e3 hk hEL CH CR hret rfl rfl (hb hby d2_14) ?_ (by decide) (by decide)
    show Q2 Z p1 p2 p3 zc h0 n0 (some (.ref b1)) T3.heap _
    rw [e3]
    exact ⟨_, _, rfl, N3, K, sz_b1, E_b1, F_coder_b1, F_value_b1, by rw [hc1]; exact Vq3.congr (fun k hk => own_c0 p2 p3 k hk _)⟩
  · --
    refine Go.st (fun t k => XS.ifYes X0.here hx rfl (pc0 := 1) (pc' := 15) rfl (hb hby d2_1) rfl (XT.i0_ne_t hc1) (by decide) (by decide) k) ?_
    show Go p.tables e below PP (s₁.setTop (mkF m 15 #[.val (.int p1), .val (.int p2), .val (.int p3), .unset] []))
    refine Go.st (fun t k => XS.iloadN X0.here hx rfl (hb hby d2_15) rfl k) ?_
    show Go p.tables e below PP (s₁.setTop (mkF m 16 #[.val (.int p1), .val (.int p2), .val (.int p3), .unset] [(.int p1)]))
    refine Go.st (fun t k => XS.iconst X0.here hx rfl (hb hby d2_16) k) ?_
    show Go p.tables e below PP (s₁.setTop (mkF m 17 #[.val (.int p1), .val (.int p2), .val (.int p3), .unset] [(.int (1 : Int32)), (.int p1)]))
    by_cases hc17 : p1 = (1 : Int32)
    · --
      refine Go.st (fun t k => XS.icmpNo X0.here hx rfl (hb hby d2_17) rfl (XT.ii_ne_f hc17) k) ?_
      show Go p.tables e below PP (s₁.setTop (mkF m 20 #[.val (.int p1), .val (.int p2), .val (.int p3), .unset] []))
      refine Go.st (fun t k => XS.iloadN X0.here hx rfl (hb hby d2_20) rfl k) ?_
      show Go p.tables e below PP (s₁.setTop (mkF m 21 #[.val (.int p1), .val (.int p2), .val (.int p3), .unset] [(.int p2)]))
      obtain ⟨v4, T4, L4, X4, hQ4, st4⟩ := callSt X0 hx hZ (y := (⟨"java/lang/String", "valueOf", "(C)Ljava/lang/String;"⟩ : MethodName)) (argsL := [(.int p2)]) (rest := []) hown (hw _ (List.mem_of_getElem? (i := 79) rfl)) (hw _ (List.mem_of_getElem? (i := 80) rfl)) (hw _ (List.mem_of_getElem? (i := 12) rfl)) (hw _ (List.mem_of_getElem? (i := 81) rfl)) (by decide) (rm14 l Z a0 hw [] p2 zc h0 n0 Zn SC hzc O h2.2.1) e0 0 (by decide) (by decide) (by decide) (by decide) (g := (mkF m 21 #[.val (.int p1), .val (.int p2), .val (.int p3), .unset] [(.int p2)])) rfl (by rw [hml]; rfl) (lenOf pd_11 rfl) rfl (by show 2 * 0 + _ ≤ _; exact Nat.le_of_eq rfl) (hb hby d2_21)
      obtain ⟨h4, e4⟩ : ∃ z, T4.heap = z := ⟨_, rfl⟩
      rw [e4] at hQ4
      obtain ⟨r_4, t_4, rfl, Nq4, Kq4, sq4_r, sq4_t, Fq4_0, Fq4_1, Fq4_2, Fq4_3⟩ := hQ4
      have N4 := Fr.app N0 Nq4
      have g_r_4 : n0 ≤ r_4 := Nat.le_trans Zn sq4_r
      have sz_r_4 : h0.size ≤ r_4 := Nat.le_trans K.1 sq4_r
      have g_t_4 : n0 ≤ t_4 := Nat.le_trans Zn sq4_t
      have sz_t_4 : h0.size ≤ t_4 := Nat.le_trans K.1 sq4_t
      have hsf : ∀ x ∈ ([] : List Addr), Safe Z consts_1 vm0 h0 x := sf0
      replace CR := CR.trans (CHr.keep Kq4 hsf CH)
      replace CH := CH.keep Kq4 hsf
      replace hk := Nat.le_trans hk Kq4.1
      clear hsf
      replace O := O.keep Kq4 all0
      replace K := K.trans Kq4 all0
      replace Zn := Nat.le_trans Zn Kq4.1
      have E_r_4 := Fq4_0
      have F_coder_r_4 := Fq4_1
      have F_value_r_4 := Fq4_2
      have V_t_4 := Fq4_3
      refine Go.st st4 ?_
      show Go p.tables e below PP (T4.setTop (mkF m 24 #[.val (.int p1), .val (.int p2), .val (.int p3), .unset] [(.ref r_4)]))
      rw [hPP]
      refine endRW X4 hx hlk hZ hS e4 hk hEL CH CR hret rfl rfl (hb hby d2_24) ?_ (by decide) (by decide)
      show Q2 Z p1 p2 p3 zc h0 n0 (some (.ref r_4)) T4.heap _
      rw [e4]
      exact ⟨_, _, rfl, N4, K, sz_r_4, E_r_4, F_coder_r_4, F_value_r_4, by rw [hc17]; exact V_t_4.congr (fun k hk => own_c1 p2 p3 k hk)⟩
    · --
      refine Go.st (fun t k => XS.icmpYes X0.here hx rfl (pc0 := 17) (pc' := 25) rfl (hb hby d2_17) rfl (XT.ii_ne_t hc17) (by decide) (by decide) k) ?_
      show Go p.tables e below PP (s₁.setTop (mkF m 25 #[.val (.int p1), .val (.int p2), .val (.int p3), .unset] []))
      refine Go.st (fun t k => XS.iconst X0.here hx rfl (hb hby d2_25) k) ?_
      show Go p.tables e below PP (s₁.setTop (mkF m 26 #[.val (.int p1), .val (.int p2), .val (.int p3), .unset] [(.int (2 : Int32))]))
      obtain ⟨T5, h5, k5, X5, e5, E5, A5, st5⟩ := newP X0 hx hZ (hw _ (List.mem_of_getElem? (i := 13) rfl)) e0 (g := (mkF m 26 #[.val (.int p1), .val (.int p2), .val (.int p3), .unset] [(.int (2 : Int32))])) rfl (hb hby d2_26) rfl (by decide) (cap := 2) (by decide) (by decide) (by decide) (by decide)
      obtain ⟨b5, gz5⟩ : ∃ z, z = h0.size := ⟨_, rfl⟩
      rw [← gz5] at A5 st5
      have g_b5 : n0 ≤ b5 := Nat.le_trans Zn (Nat.le_of_eq gz5.symm)
      have sz_b5 : h0.size ≤ b5 := Nat.le_trans K.1 (Nat.le_of_eq gz5.symm)
      have SF_b5 : Safe Z consts_1 vm0 h0 b5 := Safe.new (Nat.le_of_eq gz5.symm)
      refine Go.st st5 ?_
      replace SF_b5 := Safe.ext E5 CH SF_b5
      replace CR := CR.trans (CHr.ext E5 CH)
      replace CH := CH.ext E5
      replace hk := Nat.le_trans hk E5.1
      replace O := O.ext E5
      replace K := K.ext E5
      replace Zn := Nat.le_trans Zn E5.1
      have V_b5 : Afn Z h5 b5 .char (2 : Int32) (fun _ => (.int (0 : Int32))) := Afn.new A5 (by decide)
      show Go p.tables e below PP (T5.setTop (mkF m 28 #[.val (.int p1), .val (.int p2), .val (.int p3), .unset] [(.ref b5)]))
      refine Go.st (fun t k => XS.astoreN X5.here hx rfl (hb hby d2_28) rfl rfl (l' := #[.val (.int p1), .val (.int p2), .val (.int p3), .val (.ref b5)]) rfl k) ?_
      show Go p.tables e below PP (T5.setTop (mkF m 29 #[.val (.int p1), .val (.int p2), .val (.int p3), .val (.ref b5)] []))
      refine Go.st (fun t k => XS.aloadN X5.here hx rfl (hb hby d2_29) rfl rfl k) ?_
      show Go p.tables e below PP (T5.setTop (mkF m 30 #[.val (.int p1), .val (.int p2), .val (.int p3), .val (.ref b5)] [(.ref b5)]))
      refine Go.st (fun t k => XS.iconst X5.here hx rfl (hb hby d2_30) k) ?_
      show Go p.tables e below PP (T5.setTop (mkF m 31 #[.val (.int p1), .val (.int p2), .val (.int p3), .val (.ref b5)] [(.int (0 : Int32)), (.ref b5)]))
      refine Go.st (fun t k => XS.iloadN X5.here hx rfl (hb hby d2_31) rfl k) ?_
      show Go p.tables e below PP (T5.setTop (mkF m 32 #[.val (.int p1), .val (.int p2), .val (.int p3), .val (.ref b5)] [(.int p2), (.int (0 : Int32)), (.ref b5)]))
      obtain ⟨cl6, Ar6, S6, Nn6, H6⟩ := id V_b5
      have hin6 : ¬ ((0 : Int32) < 0 ∨ cl6.slots.size ≤ ((0 : Int32)).toNatClampNeg) := inb_of S6 ⟨by decide, by decide⟩
      obtain ⟨T6, h6, X6, e6, W6, st6⟩ := stC X5 hx hZ e5 Ar6 (j := (0 : Int32)) hin6 (g := (mkF m 32 #[.val (.int p1), .val (.int p2), .val (.int p3), .val (.ref b5)] [(.int p2), (.int (0 : Int32)), (.ref b5)])) rfl rfl (hb hby d2_32)
      refine Go.st st6 ?_
      have N6 := Fr.snoc X6 N0 g_b5
      replace CR := CR.trans (CHr.wr W6 SF_b5 CH)
      have CH' := CH.wr W6 SF_b5
      replace SF_b5 := Safe.wr W6 SF_b5 CH SF_b5
      replace CH := CH'
      clear CH'
      replace hk : k0 ≤ h6.size := by rw [W6.size]; exact hk
      replace O := O.wr W6 g_b5
      replace K := K.wr W6 (Or.inr sz_b5)
      replace Zn : n0 ≤ h6.size := by rw [W6.size]; exact Zn
      replace V_b5 := Afn.set Ar6 S6 Nn6 H6 (fits_nar_char _) W6
      show Go p.tables e below PP (T6.setTop (mkF m 33 #[.val (.int p1), .val (.int p2), .val (.int p3), .val (.ref b5)] []))
      refine Go.st (fun t k => XS.aloadN X6.here hx rfl (hb hby d2_33) rfl rfl k) ?_
      show Go p.tables e below PP (T6.setTop (mkF m 34 #[.val (.int p1), .val (.int p2), .val (.int p3), .val (.ref b5)] [(.ref b5)]))
      refine Go.st (fun t k => XS.iconst X6.here hx rfl (hb hby d2_34) k) ?_
      show Go p.tables e below PP (T6.setTop (mkF m 35 #[.val (.int p1), .val (.int p2), .val (.int p3), .val (.ref b5)] [(.int (1 : Int32)), (.ref b5)]))
      refine Go.st (fun t k => XS.iloadN X6.here hx rfl (hb hby d2_35) rfl k) ?_
      show Go p.tables e below PP (T6.setTop (mkF m 36 #[.val (.int p1), .val (.int p2), .val (.int p3), .val (.ref b5)] [(.int p3), (.int (1 : Int32)), (.ref b5)]))
      obtain ⟨cl7, Ar7, S7, Nn7, H7⟩ := id V_b5
      have hin7 : ¬ ((1 : Int32) < 0 ∨ cl7.slots.size ≤ ((1 : Int32)).toNatClampNeg) := inb_of S7 ⟨by decide, by decide⟩
      obtain ⟨T7, h7, X7, e7, W7, st7⟩ := stC X6 hx hZ e6 Ar7 (j := (1 : Int32)) hin7 (g := (mkF m 36 #[.val (.int p1), .val (.int p2), .val (.int p3), .val (.ref b5)] [(.int p3), (.int (1 : Int32)), (.ref b5)])) rfl rfl (hb hby d2_36)
      refine Go.st st7 ?_
      have N7 := Fr.snoc X7 N6 g_b5
      replace CR := CR.trans (CHr.wr W7 SF_b5 CH)
      have CH' := CH.wr W7 SF_b5
      replace SF_b5 := Safe.wr W7 SF_b5 CH SF_b5
      replace CH := CH'
      clear CH'
      replace hk : k0 ≤ h7.size := by rw [W7.size]; exact hk
      replace O := O.wr W7 g_b5
      replace K := K.wr W7 (Or.inr sz_b5)
      replace Zn : n0 ≤ h7.size := by rw [W7.size]; exact Zn
      replace V_b5 := Afn.set Ar7 S7 Nn7 H7 (fits_nar_char _) W7
      show Go p.tables e below PP (T7.setTop (mkF m 37 #[.val (.int p1), .val (.int p2), .val (.int p3), .val (.ref b5)] []))
      obtain ⟨T8, h8, X8, e8, E8, A8, D8, -, st8⟩ := newO X7 hx hZ hown (hw _ (List.mem_of_getElem? (i := 10) rfl)) (hw _ (List.mem_of_getElem? (i := 11) rfl)) (hw _ (List.mem_of_getElem? (i := 12) rfl)) e7 (g := (mkF m 37 #[.val (.int p1), .val (.int p2), .val (.int p3), .val (.ref b5)] [])) rfl (hb hby d2_37) (by decide) (by decide)
      obtain ⟨b8, gz8⟩ : ∃ z, z = h7.size := ⟨_, rfl⟩
      rw [← gz8] at A8 D8 st8
      have ne_b5_b8 : b5 ≠ b8 := Nat.ne_of_lt (Nat.lt_of_lt_of_le V_b5.lt (Nat.le_of_eq gz8.symm))
      have g_b8 : n0 ≤ b8 := Nat.le_trans Zn (Nat.le_of_eq gz8.symm)
      have sz_b8 : h0.size ≤ b8 := Nat.le_trans K.1 (Nat.le_of_eq gz8.symm)
      have SF_b8 : Safe Z consts_1 vm0 h7 b8 := Safe.new (Nat.le_of_eq gz8.symm)
      refine Go.st st8 ?_
      replace V_b5 := V_b5.ext E8
      replace SF_b5 := Safe.ext E8 CH SF_b5
      replace SF_b8 := Safe.ext E8 CH SF_b8
      replace CR := CR.trans (CHr.ext E8 CH)
      replace CH := CH.ext E8
      replace hk := Nat.le_trans hk E8.1
      replace O := O.ext E8
      replace K := K.ext E8
      replace Zn := Nat.le_trans Zn E8.1
      have E_b8 := A8
      have F_value_b8 : Fld Z h8 b8 "java/lang/String" "value" "[B" .null := D8 (Or.inr (hw _ (List.mem_of_getElem? (i := 26) rfl))) (ty := (.array .byte)) (by decide)
      have F_coder_b8 : Fld Z h8 b8 "java/lang/String" "coder" "B" (.int (0 : Int32)) := D8 (Or.inr (hw _ (List.mem_of_getElem? (i := 27) rfl))) (ty := .byte) (by decide)
      show Go p.tables e below PP (T8.setTop (mkF m 40 #[.val (.int p1), .val (.int p2), .val (.int p3), .val (.ref b5)] [(.ref b8)]))
      refine Go.st (fun t k => XS.dup X8.here hx rfl (hb hby d2_40) rfl rfl k) ?_
      show Go p.tables e below PP (T8.setTop (mkF m 41 #[.val (.int p1), .val (.int p2), .val (.int p3), .val (.ref b5)] [(.ref b8), (.ref b8)]))
      refine Go.st (fun t k => XS.aloadN X8.here hx rfl (hb hby d2_41) rfl rfl k) ?_
      obtain ⟨csv, hcsv⟩ : ∃ f : Nat → Int32, f = csL [p2, p3] := ⟨_, rfl⟩
      have hcb : ∀ k, k < (2 : Int32).toNatClampNeg → ¬ csv k < (0 : Int32) ∧ ¬ (255 : Int32) < csv k := fun k _ => by rw [hcsv]; exact own_csb _ (fun x hm => by simp only [List.mem_cons, List.not_mem_nil, or_false] at hm; rcases hm with rfl | rfl <;> first | exact ⟨h2.1, h2.2.1⟩ | exact ⟨h3.1, h3.2.1⟩) k
      replace V_b5 := V_b5.congr (g := fun k => .int (csv k)) (fun k hk => by rw [hcsv]; exact own_cs2 p2 p3 h2.2.2 h3.2.2 k hk)
      show Go p.tables e below PP (T8.setTop (mkF m 42 #[.val (.int p1), .val (.int p2), .val (.int p3), .val (.ref b5)] [(.ref b5), (.ref b8), (.ref b8)]))
      have hZ0 := hZ
      have hown0 := hown
      clear hZ hown
      obtain ⟨v9, T9, L9, X9, hQ9, hC9, hSn9, hZ, hown, st9⟩ := callInW X8 hx hZ0 (y := (⟨"java/lang/String", "<init>", "([C)V"⟩ : MethodName)) (a := b8) (argsL := [(.ref b5)]) (rest := [(.ref b8)]) rfl hown0 (hw _ (List.mem_of_getElem? (i := 14) rfl)) (hw _ (List.mem_of_getElem? (i := 15) rfl)) (hw _ (List.mem_of_getElem? (i := 12) rfl)) (hw _ (List.mem_of_getElem? (i := 16) rfl)) (by decide) (rmS1 l Z a0 hw [] b8 b5 (2 : Int32) csv zc h8 n0 Zn hEL E_b8 F_value_b8 F_coder_b8 g_b8 V_b5 hcb (by decide) (Ne.symm ne_b5_b8) SC hzc O) e8 hEL CH hS hk 1 (by decide) (by decide) (by decide) (by decide) (g := (mkF m 42 #[.val (.int p1), .val (.int p2), .val (.int p3), .val (.ref b5)] [(.ref b5), (.ref b8), (.ref b8)])) rfl (by rw [hml]; rfl) (lenOf pd_10 rfl) rfl (by show 2 * 0 + _ ≤ _; exact Nat.le_of_eq rfl) (hb hby d2_42)
      clear hZ0 hown0
      replace hS := hSn9
      obtain ⟨h9, e9⟩ : ∃ z, T9.heap = z := ⟨_, rfl⟩
      rw [e9] at hQ9 hC9
      replace SF_b5 := hC9.safe V_b5.lt SF_b5
      replace SF_b8 := hC9.safe E_b8.lt SF_b8
      replace CR := CR.trans hC9
      replace CH := hC9.1
      replace hk : T9.heap.size ≤ h9.size := by rw [e9]; exact Nat.le_refl _
      obtain ⟨rfl, Nq9, Kq9, Eq9, Cq9, t9, Fq9, Vq9⟩ := hQ9
      have N9 := Fr.app N7 Nq9
      replace V_b5 := V_b5.keep Kq9 (ninS ne_b5_b8 nin0)
      replace E_b8 := E_b8.keep Kq9
      clear F_value_b8
      clear F_coder_b8
      replace O := O.keep Kq9 (allS g_b8 all0)
      replace K := K.trans Kq9 (allS (Or.inr sz_b8) all0)
      replace Zn := Nat.le_trans Zn Kq9.1
      replace E_b8 := Eq9
      have F_value_b8 := Fq9
      have F_coder_b8 := Cq9
      refine Go.st st9 ?_
      show Go p.tables e below PP (T9.setTop (mkF m 45 #[.val (.int p1), .val (.int p2), .val (.int p3), .val (.ref b5)] [(.ref b8)]))
      rw [hPP]
      refine endRW X9 hx hlk hZ hS e9 hk hEL CH CR hret rfl rfl (hb hby d2_45) ?_ (by decide) (by decide)
      show Q2 Z p1 p2 p3 zc h0 n0 (some (.ref b8)) T9.heap _
      rw [e9]
      exact ⟨_, _, rfl, N9, K, sz_b8, E_b8, F_coder_b8, F_value_b8, by rw [own_2 hn hc1 hc17]; rw [hcsv] at Vq9; exact Vq9⟩
theorem pn_rm0 : plainName "com/example/strict_roles/strictroles/SourceLineEqualsPinLaw" = true := by first | (simp [plainName, overriddenIn]; done) | decide +kernel
theorem ef_rm0 (m : MethodId) (p1 : Int32) (p2 : Int32) (p3 : Int32) (p4 : Int32) (p5 : Int32) : entryFrame m #[(.int p1), (.int p2), (.int p3), (.int p4), (.int p5)] maxLocals = mkF m 0 #[.val (.int p1), .val (.int p2), .val (.int p3), .val (.int p4), .val (.int p5), .unset, .unset, .unset, .unset, .unset, .unset, .unset, .unset, .unset, .unset, .unset, .unset, .unset, .unset, .unset, .unset] [] := by first | (simp [entryFrame, mkF, argsToLocals, Value.category, maxLocals]; done) | rfl
def Q0 (Z : State) (p1 : Int32) (p2 : Int32) (p3 : Int32) (p4 : Int32) (p5 : Int32) (zc : Int32) (h0 : Heap) (n0 : Nat) (v : Option Value) (h : Heap) (L : List Loc) : Prop := v = some (.int 1) ∧ Fr n0 L
theorem pd_12 : parseMethodDescriptor "(ICC)Ljava/lang/String;" = some ⟨[.int, .char, .char], some (.object "java/lang/String")⟩ := by decide +kernel
theorem pd_13 : parseMethodDescriptor "(Ljava/lang/String;I)V" = some ⟨[(.object "java/lang/String"), .int], none⟩ := by decide +kernel
theorem pd_14 : parseMethodDescriptor "(II)I" = some ⟨[.int, .int], some .int⟩ := by decide +kernel
set_option maxRecDepth 65536 in
set_option maxHeartbeats 40000000 in
theorem rm0 (l : Launch) (Z : State) (a0 : Array Value) (hw : ∀ d ∈ tables_1, d.before a0 Z = true) (ws : List Jvm.Cond) (p1 : Int32) (p2 : Int32) (p3 : Int32) (p4 : Int32) (p5 : Int32) (zc : Int32) (h0 : Heap) (n0 : Nat) (Z0 : n0 ≤ h0.size) (hEL : EW Z a0 consts_1) (SC : Sta Z Z.heap "java/lang/String" "COMPACT_STRINGS" "Z" (.int zc)) (hzc : ¬ zc = (0 : Int32)) (O : Old Z n0 h0) :
    ConH l Z consts_1 x code maxLocals ret ws room_1 #[(.int p1), (.int p2), (.int p3), (.int p4), (.int p5)] h0 (Q0 Z p1 p2 p3 p4 p5 zc h0 n0) := by
  refine ConH.of (plainFor_of_name pn_rm0) ?_
  intro p e s m below meth c s₁ vm0 k0 hZ e0 X0 hx hby hml hown hnm hret hlk hS hk CH CR
  replace hml : c.maxLocals = 21 := hml
  have hown : vm0.findClass "com/example/strict_roles/strictroles/SourceLineEqualsPinLaw" = some m.cls := hown
  have N0 : Fr n0 [] := Fr.nil n0
  obtain ⟨PP, hPP⟩ : ∃ P, P = FineW Z consts_1 s below (Q0 Z p1 p2 p3 p4 p5 zc h0 n0) room_1.cells room_1.slots := ⟨_, rfl⟩
  rw [← hPP]
  refine Go.cast (ef_rm0 m p1 p2 p3 p4 p5) ?_
  have Zn : n0 ≤ h0.size := Z0
  show Go p.tables e below PP (s₁.setTop (mkF m 0 #[.val (.int p1), .val (.int p2), .val (.int p3), .val (.int p4), .val (.int p5), .unset, .unset, .unset, .unset, .unset, .unset, .unset, .unset, .unset, .unset, .unset, .unset, .unset, .unset, .unset, .unset] []))
  refine Go.st (fun t k => XS.iloadN X0.here hx rfl (hb hby at_0) rfl k) ?_
  show Go p.tables e below PP (s₁.setTop (mkF m 1 #[.val (.int p1), .val (.int p2), .val (.int p3), .val (.int p4), .val (.int p5), .unset, .unset, .unset, .unset, .unset, .unset, .unset, .unset, .unset, .unset, .unset, .unset, .unset, .unset, .unset, .unset] [(.int p1)]))
  refine Go.st (fun t k => XS.bipush X0.here hx rfl (hb hby at_1) k) ?_
  show Go p.tables e below PP (s₁.setTop (mkF m 3 #[.val (.int p1), .val (.int p2), .val (.int p3), .val (.int p4), .val (.int p5), .unset, .unset, .unset, .unset, .unset, .unset, .unset, .unset, .unset, .unset, .unset, .unset, .unset, .unset, .unset, .unset] [(.int (16 : Int32)), (.int p1)]))
  refine Go.st (fun t k => XS.iushr X0.here hx rfl (hb hby at_3) rfl k) ?_
  show Go p.tables e below PP (s₁.setTop (mkF m 4 #[.val (.int p1), .val (.int p2), .val (.int p3), .val (.int p4), .val (.int p5), .unset, .unset, .unset, .unset, .unset, .unset, .unset, .unset, .unset, .unset, .unset, .unset, .unset, .unset, .unset, .unset] [(.int ((p1.toUInt32 >>> ((16 : Int32) &&& 31).toUInt32).toInt32))]))
  refine Go.st (fun t k => X0.ldcI hx hown (mvT hZ (hw _ (List.mem_of_getElem? (i := 0) rfl))) (g := (mkF m 4 #[.val (.int p1), .val (.int p2), .val (.int p3), .val (.int p4), .val (.int p5), .unset, .unset, .unset, .unset, .unset, .unset, .unset, .unset, .unset, .unset, .unset, .unset, .unset, .unset, .unset, .unset] [(.int ((p1.toUInt32 >>> ((16 : Int32) &&& 31).toUInt32).toInt32))])) rfl (hb hby at_4) k) ?_
  show Go p.tables e below PP (s₁.setTop (mkF m 6 #[.val (.int p1), .val (.int p2), .val (.int p3), .val (.int p4), .val (.int p5), .unset, .unset, .unset, .unset, .unset, .unset, .unset, .unset, .unset, .unset, .unset, .unset, .unset, .unset, .unset, .unset] [(.int (65535 : Int32)), (.int ((p1.toUInt32 >>> ((16 : Int32) &&& 31).toUInt32).toInt32))]))
  refine Go.st (fun t k => XS.iand X0.here hx rfl (hb hby at_6) rfl k) ?_
  show Go p.tables e below PP (s₁.setTop (mkF m 7 #[.val (.int p1), .val (.int p2), .val (.int p3), .val (.int p4), .val (.int p5), .unset, .unset, .unset, .unset, .unset, .unset, .unset, .unset, .unset, .unset, .unset, .unset, .unset, .unset, .unset, .unset] [(.int (((p1.toUInt32 >>> ((16 : Int32) &&& 31).toUInt32).toInt32) &&& (65535 : Int32)))]))
  refine Go.st (fun t k => XS.iconst X0.here hx rfl (hb hby at_7) k) ?_
  show Go p.tables e below PP (s₁.setTop (mkF m 8 #[.val (.int p1), .val (.int p2), .val (.int p3), .val (.int p4), .val (.int p5), .unset, .unset, .unset, .unset, .unset, .unset, .unset, .unset, .unset, .unset, .unset, .unset, .unset, .unset, .unset, .unset] [(.int (3 : Int32)), (.int (((p1.toUInt32 >>> ((16 : Int32) &&& 31).toUInt32).toInt32) &&& (65535 : Int32)))]))
  refine Go.st (fun t k => iremM X0 hx rfl (hb hby at_8) rfl (by decide) k) ?_
  generalize hla : ((((p1.toUInt32 >>> ((16 : Int32) &&& 31).toUInt32).toInt32) &&& (65535 : Int32)) % (3 : Int32)) = la
  replace hla := own_3 _ _ hla
  show Go p.tables e below PP (s₁.setTop (mkF m 9 #[.val (.int p1), .val (.int p2), .val (.int p3), .val (.int p4), .val (.int p5), .unset, .unset, .unset, .unset, .unset, .unset, .unset, .unset, .unset, .unset, .unset, .unset, .unset, .unset, .unset, .unset] [(.int la)]))
  refine Go.st (fun t k => XS.istore X0.here hx rfl (hb hby at_9) rfl (l' := #[.val (.int p1), .val (.int p2), .val (.int p3), .val (.int p4), .val (.int p5), .val (.int la), .unset, .unset, .unset, .unset, .unset, .unset, .unset, .unset, .unset, .unset, .unset, .unset, .unset, .unset, .unset]) rfl k) ?_
  show Go p.tables e below PP (s₁.setTop (mkF m 11 #[.val (.int p1), .val (.int p2), .val (.int p3), .val (.int p4), .val (.int p5), .val (.int la), .unset, .unset, .unset, .unset, .unset, .unset, .unset, .unset, .unset, .unset, .unset, .unset, .unset, .unset, .unset] []))
  refine Go.st (fun t k => XS.iloadN X0.here hx rfl (hb hby at_11) rfl k) ?_
  show Go p.tables e below PP (s₁.setTop (mkF m 12 #[.val (.int p1), .val (.int p2), .val (.int p3), .val (.int p4), .val (.int p5), .val (.int la), .unset, .unset, .unset, .unset, .unset, .unset, .unset, .unset, .unset, .unset, .unset, .unset, .unset, .unset, .unset] [(.int p1)]))
  refine Go.st (fun t k => XS.sipush X0.here hx rfl (hb hby at_12) k) ?_
  show Go p.tables e below PP (s₁.setTop (mkF m 15 #[.val (.int p1), .val (.int p2), .val (.int p3), .val (.int p4), .val (.int p5), .val (.int la), .unset, .unset, .unset, .unset, .unset, .unset, .unset, .unset, .unset, .unset, .unset, .unset, .unset, .unset, .unset] [(.int (255 : Int32)), (.int p1)]))
  refine Go.st (fun t k => XS.iand X0.here hx rfl (hb hby at_15) rfl k) ?_
  show Go p.tables e below PP (s₁.setTop (mkF m 16 #[.val (.int p1), .val (.int p2), .val (.int p3), .val (.int p4), .val (.int p5), .val (.int la), .unset, .unset, .unset, .unset, .unset, .unset, .unset, .unset, .unset, .unset, .unset, .unset, .unset, .unset, .unset] [(.int (p1 &&& (255 : Int32)))]))
  refine Go.st (fun t k => XS.i2c X0.here hx rfl (hb hby at_16) rfl k) ?_
  generalize hca : ((p1 &&& (255 : Int32)).toUInt32.toUInt16.toUInt32.toInt32) = ca
  replace hca := own_ch _ _ hca
  show Go p.tables e below PP (s₁.setTop (mkF m 17 #[.val (.int p1), .val (.int p2), .val (.int p3), .val (.int p4), .val (.int p5), .val (.int la), .unset, .unset, .unset, .unset, .unset, .unset, .unset, .unset, .unset, .unset, .unset, .unset, .unset, .unset, .unset] [(.int ca)]))
  refine Go.st (fun t k => XS.istore X0.here hx rfl (hb hby at_17) rfl (l' := #[.val (.int p1), .val (.int p2), .val (.int p3), .val (.int p4), .val (.int p5), .val (.int la), .val (.int ca), .unset, .unset, .unset, .unset, .unset, .unset, .unset, .unset, .unset, .unset, .unset, .unset, .unset, .unset]) rfl k) ?_
  show Go p.tables e below PP (s₁.setTop (mkF m 19 #[.val (.int p1), .val (.int p2), .val (.int p3), .val (.int p4), .val (.int p5), .val (.int la), .val (.int ca), .unset, .unset, .unset, .unset, .unset, .unset, .unset, .unset, .unset, .unset, .unset, .unset, .unset, .unset] []))
  refine Go.st (fun t k => XS.iloadN X0.here hx rfl (hb hby at_19) rfl k) ?_
  show Go p.tables e below PP (s₁.setTop (mkF m 20 #[.val (.int p1), .val (.int p2), .val (.int p3), .val (.int p4), .val (.int p5), .val (.int la), .val (.int ca), .unset, .unset, .unset, .unset, .unset, .unset, .unset, .unset, .unset, .unset, .unset, .unset, .unset, .unset] [(.int p1)]))
  refine Go.st (fun t k => XS.bipush X0.here hx rfl (hb hby at_20) k) ?_
  show Go p.tables e below PP (s₁.setTop (mkF m 22 #[.val (.int p1), .val (.int p2), .val (.int p3), .val (.int p4), .val (.int p5), .val (.int la), .val (.int ca), .unset, .unset, .unset, .unset, .unset, .unset, .unset, .unset, .unset, .unset, .unset, .unset, .unset, .unset] [(.int (8 : Int32)), (.int p1)]))
  refine Go.st (fun t k => XS.iushr X0.here hx rfl (hb hby at_22) rfl k) ?_
  show Go p.tables e below PP (s₁.setTop (mkF m 23 #[.val (.int p1), .val (.int p2), .val (.int p3), .val (.int p4), .val (.int p5), .val (.int la), .val (.int ca), .unset, .unset, .unset, .unset, .unset, .unset, .unset, .unset, .unset, .unset, .unset, .unset, .unset, .unset] [(.int ((p1.toUInt32 >>> ((8 : Int32) &&& 31).toUInt32).toInt32))]))
  refine Go.st (fun t k => XS.sipush X0.here hx rfl (hb hby at_23) k) ?_
  show Go p.tables e below PP (s₁.setTop (mkF m 26 #[.val (.int p1), .val (.int p2), .val (.int p3), .val (.int p4), .val (.int p5), .val (.int la), .val (.int ca), .unset, .unset, .unset, .unset, .unset, .unset, .unset, .unset, .unset, .unset, .unset, .unset, .unset, .unset] [(.int (255 : Int32)), (.int ((p1.toUInt32 >>> ((8 : Int32) &&& 31).toUInt32).toInt32))]))
  refine Go.st (fun t k => XS.iand X0.here hx rfl (hb hby at_26) rfl k) ?_
  show Go p.tables e below PP (s₁.setTop (mkF m 27 #[.val (.int p1), .val (.int p2), .val (.int p3), .val (.int p4), .val (.int p5), .val (.int la), .val (.int ca), .unset, .unset, .unset, .unset, .unset, .unset, .unset, .unset, .unset, .unset, .unset, .unset, .unset, .unset] [(.int (((p1.toUInt32 >>> ((8 : Int32) &&& 31).toUInt32).toInt32) &&& (255 : Int32)))]))
  refine Go.st (fun t k => XS.i2c X0.here hx rfl (hb hby at_27) rfl k) ?_
  generalize hce : ((((p1.toUInt32 >>> ((8 : Int32) &&& 31).toUInt32).toInt32) &&& (255 : Int32)).toUInt32.toUInt16.toUInt32.toInt32) = ce
  replace hce := own_ch _ _ hce
  show Go p.tables e below PP (s₁.setTop (mkF m 28 #[.val (.int p1), .val (.int p2), .val (.int p3), .val (.int p4), .val (.int p5), .val (.int la), .val (.int ca), .unset, .unset, .unset, .unset, .unset, .unset, .unset, .unset, .unset, .unset, .unset, .unset, .unset, .unset] [(.int ce)]))
  refine Go.st (fun t k => XS.istore X0.here hx rfl (hb hby at_28) rfl (l' := #[.val (.int p1), .val (.int p2), .val (.int p3), .val (.int p4), .val (.int p5), .val (.int la), .val (.int ca), .val (.int ce), .unset, .unset, .unset, .unset, .unset, .unset, .unset, .unset, .unset, .unset, .unset, .unset, .unset]) rfl k) ?_
  have J136 : ∀ (T1 : State) (L1 : List Loc) (sn : Int32) (lb : Int32) (da : Int32) (de : Int32) (lA : Int32) (lB : Int32), Stand p l e room_1 (s.setVm vm0) m #[(.int p1), (.int p2), (.int p3), (.int p4), (.int p5)] below meth c T1 L1 0 0 → T1.heap = h0 → Fr n0 L1 → ((lb = (0 : Int32) ∨ lb = (1 : Int32) ∨ lb = (2 : Int32)) ∧ Chr da ∧ Chr de ∧ ¬ lA < (1 : Int32) ∧ ¬ lB < (1 : Int32)) → Go p.tables e below PP (T1.setTop (mkF m 136 #[.val (.int p1), .val (.int p2), .val (.int p3), .val (.int p4), .val (.int p5), .val (.int la), .val (.int ca), .val (.int ce), .val (.int sn), .val (.int lb), .val (.int da), .val (.int de), .val (.int lA), .val (.int lB), .unset, .unset, .unset, .unset, .unset, .unset, .unset] [])) := by
    intro T1 L1 sn lb da de lA lB X1 e1 N1 hJ136
    show Go p.tables e below PP (T1.setTop (mkF m 136 #[.val (.int p1), .val (.int p2), .val (.int p3), .val (.int p4), .val (.int p5), .val (.int la), .val (.int ca), .val (.int ce), .val (.int sn), .val (.int lb), .val (.int da), .val (.int de), .val (.int lA), .val (.int lB), .unset, .unset, .unset, .unset, .unset, .unset, .unset] []))
    refine Go.st (fun t k => XS.iload X1.here hx rfl (hb hby at_136) rfl k) ?_
    show Go p.tables e below PP (T1.setTop (mkF m 138 #[.val (.int p1), .val (.int p2), .val (.int p3), .val (.int p4), .val (.int p5), .val (.int la), .val (.int ca), .val (.int ce), .val (.int sn), .val (.int lb), .val (.int da), .val (.int de), .val (.int lA), .val (.int lB), .unset, .unset, .unset, .unset, .unset, .unset, .unset] [(.int la)]))
    refine Go.st (fun t k => XS.iload X1.here hx rfl (hb hby at_138) rfl k) ?_
    show Go p.tables e below PP (T1.setTop (mkF m 140 #[.val (.int p1), .val (.int p2), .val (.int p3), .val (.int p4), .val (.int p5), .val (.int la), .val (.int ca), .val (.int ce), .val (.int sn), .val (.int lb), .val (.int da), .val (.int de), .val (.int lA), .val (.int lB), .unset, .unset, .unset, .unset, .unset, .unset, .unset] [(.int ca), (.int la)]))
    refine Go.st (fun t k => XS.iload X1.here hx rfl (hb hby at_140) rfl k) ?_
    show Go p.tables e below PP (T1.setTop (mkF m 142 #[.val (.int p1), .val (.int p2), .val (.int p3), .val (.int p4), .val (.int p5), .val (.int la), .val (.int ca), .val (.int ce), .val (.int sn), .val (.int lb), .val (.int da), .val (.int de), .val (.int lA), .val (.int lB), .unset, .unset, .unset, .unset, .unset, .unset, .unset] [(.int ce), (.int ca), (.int la)]))
    have hZ0 := hZ
    have hown0 := hown
    clear hZ hown
    obtain ⟨v2, T2, L2, X2, hQ2, hC2, hSn2, hZ, hown, st2⟩ := callStW X1 hx hZ0 (y := (⟨"com/example/strict_roles/strictroles/SourceLineEqualsPinLaw", "mk", "(ICC)Ljava/lang/String;"⟩ : MethodName)) (argsL := [(.int la), (.int ca), (.int ce)]) (rest := []) hown0 (hw _ (List.mem_of_getElem? (i := 6) rfl)) (hw _ (List.mem_of_getElem? (i := 7) rfl)) (hw _ (List.mem_of_getElem? (i := 8) rfl)) (hw _ (List.mem_of_getElem? (i := 9) rfl)) (by decide) (rm2 l Z a0 hw [] la ca ce zc h0 n0 Zn hEL SC hzc O hla hca hce) e1 hEL CH hS hk 0 (by decide) (by decide) (by decide) (by decide) (g := (mkF m 142 #[.val (.int p1), .val (.int p2), .val (.int p3), .val (.int p4), .val (.int p5), .val (.int la), .val (.int ca), .val (.int ce), .val (.int sn), .val (.int lb), .val (.int da), .val (.int de), .val (.int lA), .val (.int lB), .unset, .unset, .unset, .unset, .unset, .unset, .unset] [(.int ce), (.int ca), (.int la)])) rfl (by rw [hml]; rfl) (lenOf pd_12 rfl) rfl (by show 2 * 0 + _ ≤ _; exact Nat.le_of_eq rfl) (hb hby at_142)
    clear hZ0 hown0
    replace hS := hSn2
    obtain ⟨h2, e2⟩ : ∃ z, T2.heap = z := ⟨_, rfl⟩
    rw [e2] at hQ2 hC2
    replace CR := CR.trans hC2
    replace CH := hC2.1
    replace hk : T2.heap.size ≤ h2.size := by rw [e2]; exact Nat.le_refl _
    obtain ⟨r2, t2, rfl, Nq2, Kq2, sq2, Eq2, Cq2, Fq2, Vq2⟩ := hQ2
    have N2 := Fr.app N1 Nq2
    replace O := O.keep Kq2 all0
    replace Zn := Nat.le_trans Zn Kq2.1
    refine Go.st st2 ?_
    show Go p.tables e below PP (T2.setTop (mkF m 145 #[.val (.int p1), .val (.int p2), .val (.int p3), .val (.int p4), .val (.int p5), .val (.int la), .val (.int ca), .val (.int ce), .val (.int sn), .val (.int lb), .val (.int da), .val (.int de), .val (.int lA), .val (.int lB), .unset, .unset, .unset, .unset, .unset, .unset, .unset] [(.ref r2)]))
    refine Go.st (fun t k => XS.astore X2.here hx rfl (hb hby at_145) rfl rfl (l' := #[.val (.int p1), .val (.int p2), .val (.int p3), .val (.int p4), .val (.int p5), .val (.int la), .val (.int ca), .val (.int ce), .val (.int sn), .val (.int lb), .val (.int da), .val (.int de), .val (.int lA), .val (.int lB), .val (.ref r2), .unset, .unset, .unset, .unset, .unset, .unset]) rfl k) ?_
    show Go p.tables e below PP (T2.setTop (mkF m 147 #[.val (.int p1), .val (.int p2), .val (.int p3), .val (.int p4), .val (.int p5), .val (.int la), .val (.int ca), .val (.int ce), .val (.int sn), .val (.int lb), .val (.int da), .val (.int de), .val (.int lA), .val (.int lB), .val (.ref r2), .unset, .unset, .unset, .unset, .unset, .unset] []))
    refine Go.st (fun t k => XS.iload X2.here hx rfl (hb hby at_147) rfl k) ?_
    show Go p.tables e below PP (T2.setTop (mkF m 149 #[.val (.int p1), .val (.int p2), .val (.int p3), .val (.int p4), .val (.int p5), .val (.int la), .val (.int ca), .val (.int ce), .val (.int sn), .val (.int lb), .val (.int da), .val (.int de), .val (.int lA), .val (.int lB), .val (.ref r2), .unset, .unset, .unset, .unset, .unset, .unset] [(.int lb)]))
    refine Go.st (fun t k => XS.iload X2.here hx rfl (hb hby at_149) rfl k) ?_
    show Go p.tables e below PP (T2.setTop (mkF m 151 #[.val (.int p1), .val (.int p2), .val (.int p3), .val (.int p4), .val (.int p5), .val (.int la), .val (.int ca), .val (.int ce), .val (.int sn), .val (.int lb), .val (.int da), .val (.int de), .val (.int lA), .val (.int lB), .val (.ref r2), .unset, .unset, .unset, .unset, .unset, .unset] [(.int da), (.int lb)]))
    refine Go.st (fun t k => XS.iload X2.here hx rfl (hb hby at_151) rfl k) ?_
    show Go p.tables e below PP (T2.setTop (mkF m 153 #[.val (.int p1), .val (.int p2), .val (.int p3), .val (.int p4), .val (.int p5), .val (.int la), .val (.int ca), .val (.int ce), .val (.int sn), .val (.int lb), .val (.int da), .val (.int de), .val (.int lA), .val (.int lB), .val (.ref r2), .unset, .unset, .unset, .unset, .unset, .unset] [(.int de), (.int da), (.int lb)]))
    have hZ0 := hZ
    have hown0 := hown
    clear hZ hown
    obtain ⟨v3, T3, L3, X3, hQ3, hC3, hSn3, hZ, hown, st3⟩ := callStW X2 hx hZ0 (y := (⟨"com/example/strict_roles/strictroles/SourceLineEqualsPinLaw", "mk", "(ICC)Ljava/lang/String;"⟩ : MethodName)) (argsL := [(.int lb), (.int da), (.int de)]) (rest := []) hown0 (hw _ (List.mem_of_getElem? (i := 6) rfl)) (hw _ (List.mem_of_getElem? (i := 7) rfl)) (hw _ (List.mem_of_getElem? (i := 8) rfl)) (hw _ (List.mem_of_getElem? (i := 9) rfl)) (by decide) (rm2 l Z a0 hw [] lb da de zc h2 n0 Zn hEL SC hzc O hJ136.1 hJ136.2.1 hJ136.2.2.1) e2 hEL CH hS hk 0 (by decide) (by decide) (by decide) (by decide) (g := (mkF m 153 #[.val (.int p1), .val (.int p2), .val (.int p3), .val (.int p4), .val (.int p5), .val (.int la), .val (.int ca), .val (.int ce), .val (.int sn), .val (.int lb), .val (.int da), .val (.int de), .val (.int lA), .val (.int lB), .val (.ref r2), .unset, .unset, .unset, .unset, .unset, .unset] [(.int de), (.int da), (.int lb)])) rfl (by rw [hml]; rfl) (lenOf pd_12 rfl) rfl (by show 2 * 0 + _ ≤ _; exact Nat.le_of_eq rfl) (hb hby at_153)
    clear hZ0 hown0
    replace hS := hSn3
    obtain ⟨h3, e3⟩ : ∃ z, T3.heap = z := ⟨_, rfl⟩
    rw [e3] at hQ3 hC3
    replace CR := CR.trans hC3
    replace CH := hC3.1
    replace hk : T3.heap.size ≤ h3.size := by rw [e3]; exact Nat.le_refl _
    obtain ⟨r3, t3, rfl, Nq3, Kq3, sq3, Eq3, Cq3, Fq3, Vq3⟩ := hQ3
    have N3 := Fr.app N2 Nq3
    have ne_r2_r3 : r2 ≠ r3 := Nat.ne_of_lt (Nat.lt_of_lt_of_le Eq2.lt sq3)
    have ne_t2_r3 : t2 ≠ r3 := Nat.ne_of_lt (Nat.lt_of_lt_of_le Vq2.lt sq3)
    replace Eq2 := Eq2.keep Kq3
    replace Cq2 := Cq2.keep Kq3 nin0
    replace Fq2 := Fq2.keep Kq3 nin0
    replace Vq2 := Vq2.keep Kq3 nin0
    replace O := O.keep Kq3 all0
    replace Zn := Nat.le_trans Zn Kq3.1
    refine Go.st st3 ?_
    show Go p.tables e below PP (T3.setTop (mkF m 156 #[.val (.int p1), .val (.int p2), .val (.int p3), .val (.int p4), .val (.int p5), .val (.int la), .val (.int ca), .val (.int ce), .val (.int sn), .val (.int lb), .val (.int da), .val (.int de), .val (.int lA), .val (.int lB), .val (.ref r2), .unset, .unset, .unset, .unset, .unset, .unset] [(.ref r3)]))
    refine Go.st (fun t k => XS.astore X3.here hx rfl (hb hby at_156) rfl rfl (l' := #[.val (.int p1), .val (.int p2), .val (.int p3), .val (.int p4), .val (.int p5), .val (.int la), .val (.int ca), .val (.int ce), .val (.int sn), .val (.int lb), .val (.int da), .val (.int de), .val (.int lA), .val (.int lB), .val (.ref r2), .val (.ref r3), .unset, .unset, .unset, .unset, .unset]) rfl k) ?_
    show Go p.tables e below PP (T3.setTop (mkF m 158 #[.val (.int p1), .val (.int p2), .val (.int p3), .val (.int p4), .val (.int p5), .val (.int la), .val (.int ca), .val (.int ce), .val (.int sn), .val (.int lb), .val (.int da), .val (.int de), .val (.int lA), .val (.int lB), .val (.ref r2), .val (.ref r3), .unset, .unset, .unset, .unset, .unset] []))
    obtain ⟨T4, h4, X4, e4, E4, A4, D4, -, st4⟩ := newO X3 hx hZ hown (hw _ (List.mem_of_getElem? (i := 32) rfl)) (hw _ (List.mem_of_getElem? (i := 33) rfl)) (hw _ (List.mem_of_getElem? (i := 34) rfl)) e3 (g := (mkF m 158 #[.val (.int p1), .val (.int p2), .val (.int p3), .val (.int p4), .val (.int p5), .val (.int la), .val (.int ca), .val (.int ce), .val (.int sn), .val (.int lb), .val (.int da), .val (.int de), .val (.int lA), .val (.int lB), .val (.ref r2), .val (.ref r3), .unset, .unset, .unset, .unset, .unset] [])) rfl (hb hby at_158) (by decide) (by decide)
    obtain ⟨b4, gz4⟩ : ∃ z, z = h3.size := ⟨_, rfl⟩
    rw [← gz4] at A4 D4 st4
    have ne_r2_b4 : r2 ≠ b4 := Nat.ne_of_lt (Nat.lt_of_lt_of_le Eq2.lt (Nat.le_of_eq gz4.symm))
    have ne_t2_b4 : t2 ≠ b4 := Nat.ne_of_lt (Nat.lt_of_lt_of_le Vq2.lt (Nat.le_of_eq gz4.symm))
    have ne_r3_b4 : r3 ≠ b4 := Nat.ne_of_lt (Nat.lt_of_lt_of_le Eq3.lt (Nat.le_of_eq gz4.symm))
    have ne_t3_b4 : t3 ≠ b4 := Nat.ne_of_lt (Nat.lt_of_lt_of_le Vq3.lt (Nat.le_of_eq gz4.symm))
    have g_b4 : n0 ≤ b4 := Nat.le_trans Zn (Nat.le_of_eq gz4.symm)
    have SF_b4 : Safe Z consts_1 T3.vm h3 b4 := Safe.new (Nat.le_of_eq gz4.symm)
    refine Go.st st4 ?_
    replace Eq2 := Eq2.ext E4
    replace Cq2 := Cq2.ext E4
    replace Fq2 := Fq2.ext E4
    replace Vq2 := Vq2.ext E4
    replace Eq3 := Eq3.ext E4
    replace Cq3 := Cq3.ext E4
    replace Fq3 := Fq3.ext E4
    replace Vq3 := Vq3.ext E4
    replace SF_b4 := Safe.ext E4 CH SF_b4
    replace CR := CR.trans (CHr.ext E4 CH)
    replace CH := CH.ext E4
    replace hk := Nat.le_trans hk E4.1
    replace O := O.ext E4
    replace Zn := Nat.le_trans Zn E4.1
    have E_b4 := A4
    have F_sourceName_b4 : Fld Z h4 b4 "com/example/strict_roles/strictroles/SourceLine" "sourceName" "Ljava/lang/String;" .null := D4 (Or.inr (hw _ (List.mem_of_getElem? (i := 46) rfl))) (ty := (.object "java/lang/String")) (by decide)
    have F_line_b4 : Fld Z h4 b4 "com/example/strict_roles/strictroles/SourceLine" "line" "I" (.int (0 : Int32)) := D4 (Or.inr (hw _ (List.mem_of_getElem? (i := 48) rfl))) (ty := .int) (by decide)
    show Go p.tables e below PP (T4.setTop (mkF m 161 #[.val (.int p1), .val (.int p2), .val (.int p3), .val (.int p4), .val (.int p5), .val (.int la), .val (.int ca), .val (.int ce), .val (.int sn), .val (.int lb), .val (.int da), .val (.int de), .val (.int lA), .val (.int lB), .val (.ref r2), .val (.ref r3), .unset, .unset, .unset, .unset, .unset] [(.ref b4)]))
    refine Go.st (fun t k => XS.dup X4.here hx rfl (hb hby at_161) rfl rfl k) ?_
    show Go p.tables e below PP (T4.setTop (mkF m 162 #[.val (.int p1), .val (.int p2), .val (.int p3), .val (.int p4), .val (.int p5), .val (.int la), .val (.int ca), .val (.int ce), .val (.int sn), .val (.int lb), .val (.int da), .val (.int de), .val (.int lA), .val (.int lB), .val (.ref r2), .val (.ref r3), .unset, .unset, .unset, .unset, .unset] [(.ref b4), (.ref b4)]))
    refine Go.st (fun t k => XS.aload X4.here hx rfl (hb hby at_162) rfl rfl k) ?_
    show Go p.tables e below PP (T4.setTop (mkF m 164 #[.val (.int p1), .val (.int p2), .val (.int p3), .val (.int p4), .val (.int p5), .val (.int la), .val (.int ca), .val (.int ce), .val (.int sn), .val (.int lb), .val (.int da), .val (.int de), .val (.int lA), .val (.int lB), .val (.ref r2), .val (.ref r3), .unset, .unset, .unset, .unset, .unset] [(.ref r2), (.ref b4), (.ref b4)]))
    refine Go.st (fun t k => XS.iload X4.here hx rfl (hb hby at_164) rfl k) ?_
    show Go p.tables e below PP (T4.setTop (mkF m 166 #[.val (.int p1), .val (.int p2), .val (.int p3), .val (.int p4), .val (.int p5), .val (.int la), .val (.int ca), .val (.int ce), .val (.int sn), .val (.int lb), .val (.int da), .val (.int de), .val (.int lA), .val (.int lB), .val (.ref r2), .val (.ref r3), .unset, .unset, .unset, .unset, .unset] [(.int lA), (.ref r2), (.ref b4), (.ref b4)]))
    have hZ0 := hZ
    have hown0 := hown
    clear hZ hown
    obtain ⟨v5, T5, L5, X5, hQ5, hC5, hSn5, hZ, hown, st5⟩ := callInW X4 hx hZ0 (y := (⟨"com/example/strict_roles/strictroles/SourceLine", "<init>", "(Ljava/lang/String;I)V"⟩ : MethodName)) (a := b4) (argsL := [(.ref r2), (.int lA)]) (rest := [(.ref b4)]) rfl hown0 (hw _ (List.mem_of_getElem? (i := 35) rfl)) (hw _ (List.mem_of_getElem? (i := 36) rfl)) (hw _ (List.mem_of_getElem? (i := 34) rfl)) (hw _ (List.mem_of_getElem? (i := 37) rfl)) (by decide) (rm6 l Z a0 hw [] b4 r2 lA h4 n0 Zn hEL F_sourceName_b4 F_line_b4 E_b4 Eq2 g_b4 hJ136.2.2.2.1 O) e4 hEL CH hS hk 1 (by decide) (by decide) (by decide) (by decide) (g := (mkF m 166 #[.val (.int p1), .val (.int p2), .val (.int p3), .val (.int p4), .val (.int p5), .val (.int la), .val (.int ca), .val (.int ce), .val (.int sn), .val (.int lb), .val (.int da), .val (.int de), .val (.int lA), .val (.int lB), .val (.ref r2), .val (.ref r3), .unset, .unset, .unset, .unset, .unset] [(.int lA), (.ref r2), (.ref b4), (.ref b4)])) rfl (by rw [hml]; rfl) (lenOf pd_13 rfl) rfl (by show 2 * 0 + _ ≤ _; exact Nat.le_of_eq rfl) (hb hby at_166)
    clear hZ0 hown0
    replace hS := hSn5
    obtain ⟨h5, e5⟩ : ∃ z, T5.heap = z := ⟨_, rfl⟩
    rw [e5] at hQ5 hC5
    replace SF_b4 := hC5.safe E_b4.lt SF_b4
    replace CR := CR.trans hC5
    replace CH := hC5.1
    replace hk : T5.heap.size ≤ h5.size := by rw [e5]; exact Nat.le_refl _
    obtain ⟨rfl, Nq5, Kq5, Fq5_0, Fq5_1⟩ := hQ5
    have N5 := Fr.app N3 Nq5
    replace Eq2 := Eq2.keep Kq5
    replace Cq2 := Cq2.keep Kq5 (ninS ne_r2_b4 nin0)
    replace Fq2 := Fq2.keep Kq5 (ninS ne_r2_b4 nin0)
    replace Vq2 := Vq2.keep Kq5 (ninS ne_t2_b4 nin0)
    replace Eq3 := Eq3.keep Kq5
    replace Cq3 := Cq3.keep Kq5 (ninS ne_r3_b4 nin0)
    replace Fq3 := Fq3.keep Kq5 (ninS ne_r3_b4 nin0)
    replace Vq3 := Vq3.keep Kq5 (ninS ne_t3_b4 nin0)
    replace E_b4 := E_b4.keep Kq5
    clear F_sourceName_b4
    clear F_line_b4
    replace O := O.keep Kq5 (allS g_b4 all0)
    replace Zn := Nat.le_trans Zn Kq5.1
    have F_sourceName_b4 := Fq5_0
    have F_line_b4 := Fq5_1
    refine Go.st st5 ?_
    show Go p.tables e below PP (T5.setTop (mkF m 169 #[.val (.int p1), .val (.int p2), .val (.int p3), .val (.int p4), .val (.int p5), .val (.int la), .val (.int ca), .val (.int ce), .val (.int sn), .val (.int lb), .val (.int da), .val (.int de), .val (.int lA), .val (.int lB), .val (.ref r2), .val (.ref r3), .unset, .unset, .unset, .unset, .unset] [(.ref b4)]))
    refine Go.st (fun t k => XS.astore X5.here hx rfl (hb hby at_169) rfl rfl (l' := #[.val (.int p1), .val (.int p2), .val (.int p3), .val (.int p4), .val (.int p5), .val (.int la), .val (.int ca), .val (.int ce), .val (.int sn), .val (.int lb), .val (.int da), .val (.int de), .val (.int lA), .val (.int lB), .val (.ref r2), .val (.ref r3), .val (.ref b4), .unset, .unset, .unset, .unset]) rfl k) ?_
    show Go p.tables e below PP (T5.setTop (mkF m 171 #[.val (.int p1), .val (.int p2), .val (.int p3), .val (.int p4), .val (.int p5), .val (.int la), .val (.int ca), .val (.int ce), .val (.int sn), .val (.int lb), .val (.int da), .val (.int de), .val (.int lA), .val (.int lB), .val (.ref r2), .val (.ref r3), .val (.ref b4), .unset, .unset, .unset, .unset] []))
    refine Go.st (fun t k => XS.iload X5.here hx rfl (hb hby at_171) rfl k) ?_
    show Go p.tables e below PP (T5.setTop (mkF m 173 #[.val (.int p1), .val (.int p2), .val (.int p3), .val (.int p4), .val (.int p5), .val (.int la), .val (.int ca), .val (.int ce), .val (.int sn), .val (.int lb), .val (.int da), .val (.int de), .val (.int lA), .val (.int lB), .val (.ref r2), .val (.ref r3), .val (.ref b4), .unset, .unset, .unset, .unset] [(.int p5)]))
    refine Go.st (fun t k => XS.iconst X5.here hx rfl (hb hby at_173) k) ?_
    show Go p.tables e below PP (T5.setTop (mkF m 174 #[.val (.int p1), .val (.int p2), .val (.int p3), .val (.int p4), .val (.int p5), .val (.int la), .val (.int ca), .val (.int ce), .val (.int sn), .val (.int lb), .val (.int da), .val (.int de), .val (.int lA), .val (.int lB), .val (.ref r2), .val (.ref r3), .val (.ref b4), .unset, .unset, .unset, .unset] [(.int (2 : Int32)), (.int p5)]))
    refine Go.st (fun t k => XS.iushr X5.here hx rfl (hb hby at_174) rfl k) ?_
    show Go p.tables e below PP (T5.setTop (mkF m 175 #[.val (.int p1), .val (.int p2), .val (.int p3), .val (.int p4), .val (.int p5), .val (.int la), .val (.int ca), .val (.int ce), .val (.int sn), .val (.int lb), .val (.int da), .val (.int de), .val (.int lA), .val (.int lB), .val (.ref r2), .val (.ref r3), .val (.ref b4), .unset, .unset, .unset, .unset] [(.int ((p5.toUInt32 >>> ((2 : Int32) &&& 31).toUInt32).toInt32))]))
    refine Go.st (fun t k => XS.iconst X5.here hx rfl (hb hby at_175) k) ?_
    show Go p.tables e below PP (T5.setTop (mkF m 176 #[.val (.int p1), .val (.int p2), .val (.int p3), .val (.int p4), .val (.int p5), .val (.int la), .val (.int ca), .val (.int ce), .val (.int sn), .val (.int lb), .val (.int da), .val (.int de), .val (.int lA), .val (.int lB), .val (.ref r2), .val (.ref r3), .val (.ref b4), .unset, .unset, .unset, .unset] [(.int (3 : Int32)), (.int ((p5.toUInt32 >>> ((2 : Int32) &&& 31).toUInt32).toInt32))]))
    refine Go.st (fun t k => XS.iand X5.here hx rfl (hb hby at_176) rfl k) ?_
    generalize hkd : (((p5.toUInt32 >>> ((2 : Int32) &&& 31).toUInt32).toInt32) &&& (3 : Int32)) = kd
    show Go p.tables e below PP (T5.setTop (mkF m 177 #[.val (.int p1), .val (.int p2), .val (.int p3), .val (.int p4), .val (.int p5), .val (.int la), .val (.int ca), .val (.int ce), .val (.int sn), .val (.int lb), .val (.int da), .val (.int de), .val (.int lA), .val (.int lB), .val (.ref r2), .val (.ref r3), .val (.ref b4), .unset, .unset, .unset, .unset] [(.int kd)]))
    refine Go.st (fun t k => XS.istore X5.here hx rfl (hb hby at_177) rfl (l' := #[.val (.int p1), .val (.int p2), .val (.int p3), .val (.int p4), .val (.int p5), .val (.int la), .val (.int ca), .val (.int ce), .val (.int sn), .val (.int lb), .val (.int da), .val (.int de), .val (.int lA), .val (.int lB), .val (.ref r2), .val (.ref r3), .val (.ref b4), .val (.int kd), .unset, .unset, .unset]) rfl k) ?_
    show Go p.tables e below PP (T5.setTop (mkF m 179 #[.val (.int p1), .val (.int p2), .val (.int p3), .val (.int p4), .val (.int p5), .val (.int la), .val (.int ca), .val (.int ce), .val (.int sn), .val (.int lb), .val (.int da), .val (.int de), .val (.int lA), .val (.int lB), .val (.ref r2), .val (.ref r3), .val (.ref b4), .val (.int kd), .unset, .unset, .unset] []))
    refine Go.st (fun t k => XS.iload X5.here hx rfl (hb hby at_179) rfl k) ?_
    show Go p.tables e below PP (T5.setTop (mkF m 181 #[.val (.int p1), .val (.int p2), .val (.int p3), .val (.int p4), .val (.int p5), .val (.int la), .val (.int ca), .val (.int ce), .val (.int sn), .val (.int lb), .val (.int da), .val (.int de), .val (.int lA), .val (.int lB), .val (.ref r2), .val (.ref r3), .val (.ref b4), .val (.int kd), .unset, .unset, .unset] [(.int kd)]))
    by_cases hc181 : kd = (0 : Int32)
    · --
      refine Go.st (fun t k => XS.ifNo X5.here hx rfl (hb hby at_181) rfl (XT.i0_ne_f hc181) k) ?_
      show Go p.tables e below PP (T5.setTop (mkF m 184 #[.val (.int p1), .val (.int p2), .val (.int p3), .val (.int p4), .val (.int p5), .val (.int la), .val (.int ca), .val (.int ce), .val (.int sn), .val (.int lb), .val (.int da), .val (.int de), .val (.int lA), .val (.int lB), .val (.ref r2), .val (.ref r3), .val (.ref b4), .val (.int kd), .unset, .unset, .unset] []))
      refine Go.st (fun t k => XS.aload X5.here hx rfl (hb hby at_184) rfl rfl k) ?_
      show Go p.tables e below PP (T5.setTop (mkF m 186 #[.val (.int p1), .val (.int p2), .val (.int p3), .val (.int p4), .val (.int p5), .val (.int la), .val (.int ca), .val (.int ce), .val (.int sn), .val (.int lb), .val (.int da), .val (.int de), .val (.int lA), .val (.int lB), .val (.ref r2), .val (.ref r3), .val (.ref b4), .val (.int kd), .unset, .unset, .unset] [(.ref b4)]))
      refine Go.st (fun t k => XS.aload X5.here hx rfl (hb hby at_186) rfl rfl k) ?_
      show Go p.tables e below PP (T5.setTop (mkF m 188 #[.val (.int p1), .val (.int p2), .val (.int p3), .val (.int p4), .val (.int p5), .val (.int la), .val (.int ca), .val (.int ce), .val (.int sn), .val (.int lb), .val (.int da), .val (.int de), .val (.int lA), .val (.int lB), .val (.ref r2), .val (.ref r3), .val (.ref b4), .val (.int kd), .unset, .unset, .unset] [(.ref b4), (.ref b4)]))
      obtain ⟨v6, T6, L6, X6, hQ6, st6⟩ := callVi X5 hx hZ (C := "com/example/strict_roles/strictroles/SourceLine") (y := (⟨"com/example/strict_roles/strictroles/SourceLine", "equals", "(Ljava/lang/Object;)Z"⟩ : MethodName)) (z := (⟨"com/example/strict_roles/strictroles/SourceLine", "equals", "(Ljava/lang/Object;)Z"⟩ : MethodName)) (a := b4) (argsL := [(.ref b4)]) (rest := []) hown (hw _ (List.mem_of_getElem? (i := 49) rfl)) (hw _ (List.mem_of_getElem? (i := 50) rfl)) (notFace_of_selects (args := #[]) (mvT (s := (s.setVm T5.vm)) hZ (hw _ (List.mem_of_getElem? (i := 52) rfl)))) (hw _ (List.mem_of_getElem? (i := 52) rfl)) (hw _ (List.mem_of_getElem? (i := 51) rfl)) (hw _ (List.mem_of_getElem? (i := 34) rfl)) (hw _ (List.mem_of_getElem? (i := 53) rfl)) (by decide) rfl E_b4 (rmEs l Z a0 hw [] b4 h5 n0 Zn) e5 0 (by decide) (by decide) (by decide) (by decide) (g := (mkF m 188 #[.val (.int p1), .val (.int p2), .val (.int p3), .val (.int p4), .val (.int p5), .val (.int la), .val (.int ca), .val (.int ce), .val (.int sn), .val (.int lb), .val (.int da), .val (.int de), .val (.int lA), .val (.int lB), .val (.ref r2), .val (.ref r3), .val (.ref b4), .val (.int kd), .unset, .unset, .unset] [(.ref b4), (.ref b4)])) rfl (by rw [hml]; rfl) (lenOf pd_9 rfl) rfl (by show 2 * 0 + _ ≤ _; exact Nat.le_of_eq rfl) (hb hby at_188)
      obtain ⟨rfl, rfl, e6⟩ := hQ6
      rw [List.append_nil] at X6
      refine Go.st st6 ?_
      show Go p.tables e below PP (T6.setTop (mkF m 191 #[.val (.int p1), .val (.int p2), .val (.int p3), .val (.int p4), .val (.int p5), .val (.int la), .val (.int ca), .val (.int ce), .val (.int sn), .val (.int lb), .val (.int da), .val (.int de), .val (.int lA), .val (.int lB), .val (.ref r2), .val (.ref r3), .val (.ref b4), .val (.int kd), .unset, .unset, .unset] [(.int (1 : Int32))]))
      rw [hPP]
      refine endNW X6 hx hlk hZ hS e6 hk hEL CH CR (t := .boolean) hret (by simp) (hb hby at_191) (w := (1 : Int32)) (rfl) ?_ (by decide) (by decide)
      show Q0 Z p1 p2 p3 p4 p5 zc h0 n0 (some (.int (1 : Int32))) T6.heap _
      rw [e6]
      exact ⟨rfl, N5⟩
    · --
      refine Go.st (fun t k => XS.ifYes X5.here hx rfl (pc0 := 181) (pc' := 192) rfl (hb hby at_181) rfl (XT.i0_ne_t hc181) (by decide) (by decide) k) ?_
      show Go p.tables e below PP (T5.setTop (mkF m 192 #[.val (.int p1), .val (.int p2), .val (.int p3), .val (.int p4), .val (.int p5), .val (.int la), .val (.int ca), .val (.int ce), .val (.int sn), .val (.int lb), .val (.int da), .val (.int de), .val (.int lA), .val (.int lB), .val (.ref r2), .val (.ref r3), .val (.ref b4), .val (.int kd), .unset, .unset, .unset] []))
      refine Go.st (fun t k => XS.iload X5.here hx rfl (hb hby at_192) rfl k) ?_
      show Go p.tables e below PP (T5.setTop (mkF m 194 #[.val (.int p1), .val (.int p2), .val (.int p3), .val (.int p4), .val (.int p5), .val (.int la), .val (.int ca), .val (.int ce), .val (.int sn), .val (.int lb), .val (.int da), .val (.int de), .val (.int lA), .val (.int lB), .val (.ref r2), .val (.ref r3), .val (.ref b4), .val (.int kd), .unset, .unset, .unset] [(.int kd)]))
      refine Go.st (fun t k => XS.iconst X5.here hx rfl (hb hby at_194) k) ?_
      show Go p.tables e below PP (T5.setTop (mkF m 195 #[.val (.int p1), .val (.int p2), .val (.int p3), .val (.int p4), .val (.int p5), .val (.int la), .val (.int ca), .val (.int ce), .val (.int sn), .val (.int lb), .val (.int da), .val (.int de), .val (.int lA), .val (.int lB), .val (.ref r2), .val (.ref r3), .val (.ref b4), .val (.int kd), .unset, .unset, .unset] [(.int (1 : Int32)), (.int kd)]))
      by_cases hc195 : kd = (1 : Int32)
      · --
        refine Go.st (fun t k => XS.icmpNo X5.here hx rfl (hb hby at_195) rfl (XT.ii_ne_f hc195) k) ?_
        show Go p.tables e below PP (T5.setTop (mkF m 198 #[.val (.int p1), .val (.int p2), .val (.int p3), .val (.int p4), .val (.int p5), .val (.int la), .val (.int ca), .val (.int ce), .val (.int sn), .val (.int lb), .val (.int da), .val (.int de), .val (.int lA), .val (.int lB), .val (.ref r2), .val (.ref r3), .val (.ref b4), .val (.int kd), .unset, .unset, .unset] []))
        refine Go.st (fun t k => XS.aload X5.here hx rfl (hb hby at_198) rfl rfl k) ?_
        show Go p.tables e below PP (T5.setTop (mkF m 200 #[.val (.int p1), .val (.int p2), .val (.int p3), .val (.int p4), .val (.int p5), .val (.int la), .val (.int ca), .val (.int ce), .val (.int sn), .val (.int lb), .val (.int da), .val (.int de), .val (.int lA), .val (.int lB), .val (.ref r2), .val (.ref r3), .val (.ref b4), .val (.int kd), .unset, .unset, .unset] [(.ref b4)]))
        refine Go.st (fun t k => XS.aconstNull X5.here hx rfl (hb hby at_200) k) ?_
        show Go p.tables e below PP (T5.setTop (mkF m 201 #[.val (.int p1), .val (.int p2), .val (.int p3), .val (.int p4), .val (.int p5), .val (.int la), .val (.int ca), .val (.int ce), .val (.int sn), .val (.int lb), .val (.int da), .val (.int de), .val (.int lA), .val (.int lB), .val (.ref r2), .val (.ref r3), .val (.ref b4), .val (.int kd), .unset, .unset, .unset] [.null, (.ref b4)]))
        obtain ⟨v7, T7, L7, X7, hQ7, st7⟩ := callVi X5 hx hZ (C := "com/example/strict_roles/strictroles/SourceLine") (y := (⟨"com/example/strict_roles/strictroles/SourceLine", "equals", "(Ljava/lang/Object;)Z"⟩ : MethodName)) (z := (⟨"com/example/strict_roles/strictroles/SourceLine", "equals", "(Ljava/lang/Object;)Z"⟩ : MethodName)) (a := b4) (argsL := [.null]) (rest := []) hown (hw _ (List.mem_of_getElem? (i := 49) rfl)) (hw _ (List.mem_of_getElem? (i := 50) rfl)) (notFace_of_selects (args := #[]) (mvT (s := (s.setVm T5.vm)) hZ (hw _ (List.mem_of_getElem? (i := 52) rfl)))) (hw _ (List.mem_of_getElem? (i := 52) rfl)) (hw _ (List.mem_of_getElem? (i := 51) rfl)) (hw _ (List.mem_of_getElem? (i := 34) rfl)) (hw _ (List.mem_of_getElem? (i := 53) rfl)) (by decide) rfl E_b4 (rmEn l Z a0 hw [] b4 h5 n0 Zn) e5 0 (by decide) (by decide) (by decide) (by decide) (g := (mkF m 201 #[.val (.int p1), .val (.int p2), .val (.int p3), .val (.int p4), .val (.int p5), .val (.int la), .val (.int ca), .val (.int ce), .val (.int sn), .val (.int lb), .val (.int da), .val (.int de), .val (.int lA), .val (.int lB), .val (.ref r2), .val (.ref r3), .val (.ref b4), .val (.int kd), .unset, .unset, .unset] [.null, (.ref b4)])) rfl (by rw [hml]; rfl) (lenOf pd_9 rfl) rfl (by show 2 * 0 + _ ≤ _; exact Nat.le_of_eq rfl) (hb hby at_201)
        obtain ⟨rfl, rfl, e7⟩ := hQ7
        rw [List.append_nil] at X7
        refine Go.st st7 ?_
        show Go p.tables e below PP (T7.setTop (mkF m 204 #[.val (.int p1), .val (.int p2), .val (.int p3), .val (.int p4), .val (.int p5), .val (.int la), .val (.int ca), .val (.int ce), .val (.int sn), .val (.int lb), .val (.int da), .val (.int de), .val (.int lA), .val (.int lB), .val (.ref r2), .val (.ref r3), .val (.ref b4), .val (.int kd), .unset, .unset, .unset] [(.int (0 : Int32))]))
        refine Go.st (fun t k => XS.ifNo X7.here hx rfl (hb hby at_204) rfl (XT.i0_ne_f (by decide)) k) ?_
        show Go p.tables e below PP (T7.setTop (mkF m 207 #[.val (.int p1), .val (.int p2), .val (.int p3), .val (.int p4), .val (.int p5), .val (.int la), .val (.int ca), .val (.int ce), .val (.int sn), .val (.int lb), .val (.int da), .val (.int de), .val (.int lA), .val (.int lB), .val (.ref r2), .val (.ref r3), .val (.ref b4), .val (.int kd), .unset, .unset, .unset] []))
        refine Go.st (fun t k => XS.iconst X7.here hx rfl (hb hby at_207) k) ?_
        show Go p.tables e below PP (T7.setTop (mkF m 208 #[.val (.int p1), .val (.int p2), .val (.int p3), .val (.int p4), .val (.int p5), .val (.int la), .val (.int ca), .val (.int ce), .val (.int sn), .val (.int lb), .val (.int da), .val (.int de), .val (.int lA), .val (.int lB), .val (.ref r2), .val (.ref r3), .val (.ref b4), .val (.int kd), .unset, .unset, .unset] [(.int (1 : Int32))]))
        refine Go.st (fun t k => XS.goto X7.here hx rfl (pc0 := 208) (pc' := 212) rfl (hb hby at_208) (by decide) (by decide) k) ?_
        show Go p.tables e below PP (T7.setTop (mkF m 212 #[.val (.int p1), .val (.int p2), .val (.int p3), .val (.int p4), .val (.int p5), .val (.int la), .val (.int ca), .val (.int ce), .val (.int sn), .val (.int lb), .val (.int da), .val (.int de), .val (.int lA), .val (.int lB), .val (.ref r2), .val (.ref r3), .val (.ref b4), .val (.int kd), .unset, .unset, .unset] [(.int (1 : Int32))]))
        rw [hPP]
        refine endNW X7 hx hlk hZ hS e7 hk hEL CH CR (t := .boolean) hret (by simp) (hb hby at_212) (w := (1 : Int32)) (rfl) ?_ (by decide) (by decide)
        show Q0 Z p1 p2 p3 p4 p5 zc h0 n0 (some (.int (1 : Int32))) T7.heap _
        rw [e7]
        exact ⟨rfl, N5⟩
      · --
        refine Go.st (fun t k => XS.icmpYes X5.here hx rfl (pc0 := 195) (pc' := 213) rfl (hb hby at_195) rfl (XT.ii_ne_t hc195) (by decide) (by decide) k) ?_
        show Go p.tables e below PP (T5.setTop (mkF m 213 #[.val (.int p1), .val (.int p2), .val (.int p3), .val (.int p4), .val (.int p5), .val (.int la), .val (.int ca), .val (.int ce), .val (.int sn), .val (.int lb), .val (.int da), .val (.int de), .val (.int lA), .val (.int lB), .val (.ref r2), .val (.ref r3), .val (.ref b4), .val (.int kd), .unset, .unset, .unset] []))
        refine Go.st (fun t k => XS.iload X5.here hx rfl (hb hby at_213) rfl k) ?_
        show Go p.tables e below PP (T5.setTop (mkF m 215 #[.val (.int p1), .val (.int p2), .val (.int p3), .val (.int p4), .val (.int p5), .val (.int la), .val (.int ca), .val (.int ce), .val (.int sn), .val (.int lb), .val (.int da), .val (.int de), .val (.int lA), .val (.int lB), .val (.ref r2), .val (.ref r3), .val (.ref b4), .val (.int kd), .unset, .unset, .unset] [(.int kd)]))
        refine Go.st (fun t k => XS.iconst X5.here hx rfl (hb hby at_215) k) ?_
        show Go p.tables e below PP (T5.setTop (mkF m 216 #[.val (.int p1), .val (.int p2), .val (.int p3), .val (.int p4), .val (.int p5), .val (.int la), .val (.int ca), .val (.int ce), .val (.int sn), .val (.int lb), .val (.int da), .val (.int de), .val (.int lA), .val (.int lB), .val (.ref r2), .val (.ref r3), .val (.ref b4), .val (.int kd), .unset, .unset, .unset] [(.int (2 : Int32)), (.int kd)]))
        by_cases hc216 : kd = (2 : Int32)
        · --
          refine Go.st (fun t k => XS.icmpNo X5.here hx rfl (hb hby at_216) rfl (XT.ii_ne_f hc216) k) ?_
          show Go p.tables e below PP (T5.setTop (mkF m 219 #[.val (.int p1), .val (.int p2), .val (.int p3), .val (.int p4), .val (.int p5), .val (.int la), .val (.int ca), .val (.int ce), .val (.int sn), .val (.int lb), .val (.int da), .val (.int de), .val (.int lA), .val (.int lB), .val (.ref r2), .val (.ref r3), .val (.ref b4), .val (.int kd), .unset, .unset, .unset] []))
          refine Go.st (fun t k => XS.aload X5.here hx rfl (hb hby at_219) rfl rfl k) ?_
          show Go p.tables e below PP (T5.setTop (mkF m 221 #[.val (.int p1), .val (.int p2), .val (.int p3), .val (.int p4), .val (.int p5), .val (.int la), .val (.int ca), .val (.int ce), .val (.int sn), .val (.int lb), .val (.int da), .val (.int de), .val (.int lA), .val (.int lB), .val (.ref r2), .val (.ref r3), .val (.ref b4), .val (.int kd), .unset, .unset, .unset] [(.ref b4)]))
          refine Go.st (fun t k => XS.aload X5.here hx rfl (hb hby at_221) rfl rfl k) ?_
          show Go p.tables e below PP (T5.setTop (mkF m 223 #[.val (.int p1), .val (.int p2), .val (.int p3), .val (.int p4), .val (.int p5), .val (.int la), .val (.int ca), .val (.int ce), .val (.int sn), .val (.int lb), .val (.int da), .val (.int de), .val (.int lA), .val (.int lB), .val (.ref r2), .val (.ref r3), .val (.ref b4), .val (.int kd), .unset, .unset, .unset] [(.ref r3), (.ref b4)]))
          obtain ⟨v8, T8, L8, X8, hQ8, st8⟩ := callVi X5 hx hZ (C := "com/example/strict_roles/strictroles/SourceLine") (y := (⟨"com/example/strict_roles/strictroles/SourceLine", "equals", "(Ljava/lang/Object;)Z"⟩ : MethodName)) (z := (⟨"com/example/strict_roles/strictroles/SourceLine", "equals", "(Ljava/lang/Object;)Z"⟩ : MethodName)) (a := b4) (argsL := [(.ref r3)]) (rest := []) hown (hw _ (List.mem_of_getElem? (i := 49) rfl)) (hw _ (List.mem_of_getElem? (i := 50) rfl)) (notFace_of_selects (args := #[]) (mvT (s := (s.setVm T5.vm)) hZ (hw _ (List.mem_of_getElem? (i := 52) rfl)))) (hw _ (List.mem_of_getElem? (i := 52) rfl)) (hw _ (List.mem_of_getElem? (i := 51) rfl)) (hw _ (List.mem_of_getElem? (i := 34) rfl)) (hw _ (List.mem_of_getElem? (i := 53) rfl)) (by decide) rfl E_b4 (rmEi l Z a0 hw [] b4 r3 h5 n0 Zn Eq3 (Ne.symm ne_r3_b4)) e5 0 (by decide) (by decide) (by decide) (by decide) (g := (mkF m 223 #[.val (.int p1), .val (.int p2), .val (.int p3), .val (.int p4), .val (.int p5), .val (.int la), .val (.int ca), .val (.int ce), .val (.int sn), .val (.int lb), .val (.int da), .val (.int de), .val (.int lA), .val (.int lB), .val (.ref r2), .val (.ref r3), .val (.ref b4), .val (.int kd), .unset, .unset, .unset] [(.ref r3), (.ref b4)])) rfl (by rw [hml]; rfl) (lenOf pd_9 rfl) rfl (by show 2 * 0 + _ ≤ _; exact Nat.le_of_eq rfl) (hb hby at_223)
          obtain ⟨rfl, rfl, e8⟩ := hQ8
          rw [List.append_nil] at X8
          refine Go.st st8 ?_
          show Go p.tables e below PP (T8.setTop (mkF m 226 #[.val (.int p1), .val (.int p2), .val (.int p3), .val (.int p4), .val (.int p5), .val (.int la), .val (.int ca), .val (.int ce), .val (.int sn), .val (.int lb), .val (.int da), .val (.int de), .val (.int lA), .val (.int lB), .val (.ref r2), .val (.ref r3), .val (.ref b4), .val (.int kd), .unset, .unset, .unset] [(.int (0 : Int32))]))
          refine Go.st (fun t k => XS.ifNo X8.here hx rfl (hb hby at_226) rfl (XT.i0_ne_f (by decide)) k) ?_
          show Go p.tables e below PP (T8.setTop (mkF m 229 #[.val (.int p1), .val (.int p2), .val (.int p3), .val (.int p4), .val (.int p5), .val (.int la), .val (.int ca), .val (.int ce), .val (.int sn), .val (.int lb), .val (.int da), .val (.int de), .val (.int lA), .val (.int lB), .val (.ref r2), .val (.ref r3), .val (.ref b4), .val (.int kd), .unset, .unset, .unset] []))
          refine Go.st (fun t k => XS.iconst X8.here hx rfl (hb hby at_229) k) ?_
          show Go p.tables e below PP (T8.setTop (mkF m 230 #[.val (.int p1), .val (.int p2), .val (.int p3), .val (.int p4), .val (.int p5), .val (.int la), .val (.int ca), .val (.int ce), .val (.int sn), .val (.int lb), .val (.int da), .val (.int de), .val (.int lA), .val (.int lB), .val (.ref r2), .val (.ref r3), .val (.ref b4), .val (.int kd), .unset, .unset, .unset] [(.int (1 : Int32))]))
          refine Go.st (fun t k => XS.goto X8.here hx rfl (pc0 := 230) (pc' := 234) rfl (hb hby at_230) (by decide) (by decide) k) ?_
          show Go p.tables e below PP (T8.setTop (mkF m 234 #[.val (.int p1), .val (.int p2), .val (.int p3), .val (.int p4), .val (.int p5), .val (.int la), .val (.int ca), .val (.int ce), .val (.int sn), .val (.int lb), .val (.int da), .val (.int de), .val (.int lA), .val (.int lB), .val (.ref r2), .val (.ref r3), .val (.ref b4), .val (.int kd), .unset, .unset, .unset] [(.int (1 : Int32))]))
          rw [hPP]
          refine endNW X8 hx hlk hZ hS e8 hk hEL CH CR (t := .boolean) hret (by simp) (hb hby at_234) (w := (1 : Int32)) (rfl) ?_ (by decide) (by decide)
          show Q0 Z p1 p2 p3 p4 p5 zc h0 n0 (some (.int (1 : Int32))) T8.heap _
          rw [e8]
          exact ⟨rfl, N5⟩
        · --
          refine Go.st (fun t k => XS.icmpYes X5.here hx rfl (pc0 := 216) (pc' := 235) rfl (hb hby at_216) rfl (XT.ii_ne_t hc216) (by decide) (by decide) k) ?_
          show Go p.tables e below PP (T5.setTop (mkF m 235 #[.val (.int p1), .val (.int p2), .val (.int p3), .val (.int p4), .val (.int p5), .val (.int la), .val (.int ca), .val (.int ce), .val (.int sn), .val (.int lb), .val (.int da), .val (.int de), .val (.int lA), .val (.int lB), .val (.ref r2), .val (.ref r3), .val (.ref b4), .val (.int kd), .unset, .unset, .unset] []))
          obtain ⟨T9, h9, X9, e9, E9, A9, D9, -, st9⟩ := newO X5 hx hZ hown (hw _ (List.mem_of_getElem? (i := 32) rfl)) (hw _ (List.mem_of_getElem? (i := 33) rfl)) (hw _ (List.mem_of_getElem? (i := 34) rfl)) e5 (g := (mkF m 235 #[.val (.int p1), .val (.int p2), .val (.int p3), .val (.int p4), .val (.int p5), .val (.int la), .val (.int ca), .val (.int ce), .val (.int sn), .val (.int lb), .val (.int da), .val (.int de), .val (.int lA), .val (.int lB), .val (.ref r2), .val (.ref r3), .val (.ref b4), .val (.int kd), .unset, .unset, .unset] [])) rfl (hb hby at_235) (by decide) (by decide)
          obtain ⟨b9, gz9⟩ : ∃ z, z = h5.size := ⟨_, rfl⟩
          rw [← gz9] at A9 D9 st9
          have ne_r2_b9 : r2 ≠ b9 := Nat.ne_of_lt (Nat.lt_of_lt_of_le Eq2.lt (Nat.le_of_eq gz9.symm))
          have ne_t2_b9 : t2 ≠ b9 := Nat.ne_of_lt (Nat.lt_of_lt_of_le Vq2.lt (Nat.le_of_eq gz9.symm))
          have ne_r3_b9 : r3 ≠ b9 := Nat.ne_of_lt (Nat.lt_of_lt_of_le Eq3.lt (Nat.le_of_eq gz9.symm))
          have ne_t3_b9 : t3 ≠ b9 := Nat.ne_of_lt (Nat.lt_of_lt_of_le Vq3.lt (Nat.le_of_eq gz9.symm))
          have ne_b4_b9 : b4 ≠ b9 := Nat.ne_of_lt (Nat.lt_of_lt_of_le E_b4.lt (Nat.le_of_eq gz9.symm))
          have g_b9 : n0 ≤ b9 := Nat.le_trans Zn (Nat.le_of_eq gz9.symm)
          have SF_b9 : Safe Z consts_1 T5.vm h5 b9 := Safe.new (Nat.le_of_eq gz9.symm)
          refine Go.st st9 ?_
          replace Eq2 := Eq2.ext E9
          replace Cq2 := Cq2.ext E9
          replace Fq2 := Fq2.ext E9
          replace Vq2 := Vq2.ext E9
          replace Eq3 := Eq3.ext E9
          replace Cq3 := Cq3.ext E9
          replace Fq3 := Fq3.ext E9
          replace Vq3 := Vq3.ext E9
          replace E_b4 := E_b4.ext E9
          replace F_sourceName_b4 := F_sourceName_b4.ext E9
          replace F_line_b4 := F_line_b4.ext E9
          replace SF_b4 := Safe.ext E9 CH SF_b4
          replace SF_b9 := Safe.ext E9 CH SF_b9
          replace CR := CR.trans (CHr.ext E9 CH)
          replace CH := CH.ext E9
          replace hk := Nat.le_trans hk E9.1
          replace O := O.ext E9
          replace Zn := Nat.le_trans Zn E9.1
          have E_b9 := A9
          have F_sourceName_b9 : Fld Z h9 b9 "com/example/strict_roles/strictroles/SourceLine" "sourceName" "Ljava/lang/String;" .null := D9 (Or.inr (hw _ (List.mem_of_getElem? (i := 46) rfl))) (ty := (.object "java/lang/String")) (by decide)
          have F_line_b9 : Fld Z h9 b9 "com/example/strict_roles/strictroles/SourceLine" "line" "I" (.int (0 : Int32)) := D9 (Or.inr (hw _ (List.mem_of_getElem? (i := 48) rfl))) (ty := .int) (by decide)
          show Go p.tables e below PP (T9.setTop (mkF m 238 #[.val (.int p1), .val (.int p2), .val (.int p3), .val (.int p4), .val (.int p5), .val (.int la), .val (.int ca), .val (.int ce), .val (.int sn), .val (.int lb), .val (.int da), .val (.int de), .val (.int lA), .val (.int lB), .val (.ref r2), .val (.ref r3), .val (.ref b4), .val (.int kd), .unset, .unset, .unset] [(.ref b9)]))
          refine Go.st (fun t k => XS.dup X9.here hx rfl (hb hby at_238) rfl rfl k) ?_
          show Go p.tables e below PP (T9.setTop (mkF m 239 #[.val (.int p1), .val (.int p2), .val (.int p3), .val (.int p4), .val (.int p5), .val (.int la), .val (.int ca), .val (.int ce), .val (.int sn), .val (.int lb), .val (.int da), .val (.int de), .val (.int lA), .val (.int lB), .val (.ref r2), .val (.ref r3), .val (.ref b4), .val (.int kd), .unset, .unset, .unset] [(.ref b9), (.ref b9)]))
          refine Go.st (fun t k => XS.aload X9.here hx rfl (hb hby at_239) rfl rfl k) ?_
          show Go p.tables e below PP (T9.setTop (mkF m 241 #[.val (.int p1), .val (.int p2), .val (.int p3), .val (.int p4), .val (.int p5), .val (.int la), .val (.int ca), .val (.int ce), .val (.int sn), .val (.int lb), .val (.int da), .val (.int de), .val (.int lA), .val (.int lB), .val (.ref r2), .val (.ref r3), .val (.ref b4), .val (.int kd), .unset, .unset, .unset] [(.ref r3), (.ref b9), (.ref b9)]))
          refine Go.st (fun t k => XS.iload X9.here hx rfl (hb hby at_241) rfl k) ?_
          show Go p.tables e below PP (T9.setTop (mkF m 243 #[.val (.int p1), .val (.int p2), .val (.int p3), .val (.int p4), .val (.int p5), .val (.int la), .val (.int ca), .val (.int ce), .val (.int sn), .val (.int lb), .val (.int da), .val (.int de), .val (.int lA), .val (.int lB), .val (.ref r2), .val (.ref r3), .val (.ref b4), .val (.int kd), .unset, .unset, .unset] [(.int lB), (.ref r3), (.ref b9), (.ref b9)]))
          have hZ0 := hZ
          have hown0 := hown
          clear hZ hown
          obtain ⟨v10, T10, L10, X10, hQ10, hC10, hSn10, hZ, hown, st10⟩ := callInW X9 hx hZ0 (y := (⟨"com/example/strict_roles/strictroles/SourceLine", "<init>", "(Ljava/lang/String;I)V"⟩ : MethodName)) (a := b9) (argsL := [(.ref r3), (.int lB)]) (rest := [(.ref b9)]) rfl hown0 (hw _ (List.mem_of_getElem? (i := 35) rfl)) (hw _ (List.mem_of_getElem? (i := 36) rfl)) (hw _ (List.mem_of_getElem? (i := 34) rfl)) (hw _ (List.mem_of_getElem? (i := 37) rfl)) (by decide) (rm6 l Z a0 hw [] b9 r3 lB h9 n0 Zn hEL F_sourceName_b9 F_line_b9 E_b9 Eq3 g_b9 hJ136.2.2.2.2 O) e9 hEL CH hS hk 1 (by decide) (by decide) (by decide) (by decide) (g := (mkF m 243 #[.val (.int p1), .val (.int p2), .val (.int p3), .val (.int p4), .val (.int p5), .val (.int la), .val (.int ca), .val (.int ce), .val (.int sn), .val (.int lb), .val (.int da), .val (.int de), .val (.int lA), .val (.int lB), .val (.ref r2), .val (.ref r3), .val (.ref b4), .val (.int kd), .unset, .unset, .unset] [(.int lB), (.ref r3), (.ref b9), (.ref b9)])) rfl (by rw [hml]; rfl) (lenOf pd_13 rfl) rfl (by show 2 * 0 + _ ≤ _; exact Nat.le_of_eq rfl) (hb hby at_243)
          clear hZ0 hown0
          replace hS := hSn10
          obtain ⟨h10, e10⟩ : ∃ z, T10.heap = z := ⟨_, rfl⟩
          rw [e10] at hQ10 hC10
          replace SF_b4 := hC10.safe E_b4.lt SF_b4
          replace SF_b9 := hC10.safe E_b9.lt SF_b9
          replace CR := CR.trans hC10
          replace CH := hC10.1
          replace hk : T10.heap.size ≤ h10.size := by rw [e10]; exact Nat.le_refl _
          obtain ⟨rfl, Nq10, Kq10, Fq10_0, Fq10_1⟩ := hQ10
          have N10 := Fr.app N5 Nq10
          replace Eq2 := Eq2.keep Kq10
          replace Cq2 := Cq2.keep Kq10 (ninS ne_r2_b9 nin0)
          replace Fq2 := Fq2.keep Kq10 (ninS ne_r2_b9 nin0)
          replace Vq2 := Vq2.keep Kq10 (ninS ne_t2_b9 nin0)
          replace Eq3 := Eq3.keep Kq10
          replace Cq3 := Cq3.keep Kq10 (ninS ne_r3_b9 nin0)
          replace Fq3 := Fq3.keep Kq10 (ninS ne_r3_b9 nin0)
          replace Vq3 := Vq3.keep Kq10 (ninS ne_t3_b9 nin0)
          replace E_b4 := E_b4.keep Kq10
          replace F_sourceName_b4 := F_sourceName_b4.keep Kq10 (ninS ne_b4_b9 nin0)
          replace F_line_b4 := F_line_b4.keep Kq10 (ninS ne_b4_b9 nin0)
          replace E_b9 := E_b9.keep Kq10
          clear F_sourceName_b9
          clear F_line_b9
          replace O := O.keep Kq10 (allS g_b9 all0)
          replace Zn := Nat.le_trans Zn Kq10.1
          have F_sourceName_b9 := Fq10_0
          have F_line_b9 := Fq10_1
          refine Go.st st10 ?_
          show Go p.tables e below PP (T10.setTop (mkF m 246 #[.val (.int p1), .val (.int p2), .val (.int p3), .val (.int p4), .val (.int p5), .val (.int la), .val (.int ca), .val (.int ce), .val (.int sn), .val (.int lb), .val (.int da), .val (.int de), .val (.int lA), .val (.int lB), .val (.ref r2), .val (.ref r3), .val (.ref b4), .val (.int kd), .unset, .unset, .unset] [(.ref b9)]))
          refine Go.st (fun t k => XS.astore X10.here hx rfl (hb hby at_246) rfl rfl (l' := #[.val (.int p1), .val (.int p2), .val (.int p3), .val (.int p4), .val (.int p5), .val (.int la), .val (.int ca), .val (.int ce), .val (.int sn), .val (.int lb), .val (.int da), .val (.int de), .val (.int lA), .val (.int lB), .val (.ref r2), .val (.ref r3), .val (.ref b4), .val (.int kd), .val (.ref b9), .unset, .unset]) rfl k) ?_
          have J286 : ∀ (T11 : State) (L11 : List Loc) (b19 : Int32), Stand p l e room_1 (s.setVm T10.vm) m #[(.int p1), (.int p2), (.int p3), (.int p4), (.int p5)] below meth c T11 L11 18 124 → T11.heap = h10 → Fr n0 L11 → b19 = bi (la = lb ∧ (la < (1 : Int32) ∨ ca = da) ∧ (la < (2 : Int32) ∨ ce = de)) → Go p.tables e below PP (T11.setTop (mkF m 286 #[.val (.int p1), .val (.int p2), .val (.int p3), .val (.int p4), .val (.int p5), .val (.int la), .val (.int ca), .val (.int ce), .val (.int sn), .val (.int lb), .val (.int da), .val (.int de), .val (.int lA), .val (.int lB), .val (.ref r2), .val (.ref r3), .val (.ref b4), .val (.int kd), .val (.ref b9), .unset, .unset] [(.int b19)])) := by
            intro T11 L11 b19 X11 e11 N11 hJ286
            show Go p.tables e below PP (T11.setTop (mkF m 286 #[.val (.int p1), .val (.int p2), .val (.int p3), .val (.int p4), .val (.int p5), .val (.int la), .val (.int ca), .val (.int ce), .val (.int sn), .val (.int lb), .val (.int da), .val (.int de), .val (.int lA), .val (.int lB), .val (.ref r2), .val (.ref r3), .val (.ref b4), .val (.int kd), .val (.ref b9), .unset, .unset] [(.int b19)]))
            refine Go.st (fun t k => XS.istore X11.here hx rfl (hb hby at_286) rfl (l' := #[.val (.int p1), .val (.int p2), .val (.int p3), .val (.int p4), .val (.int p5), .val (.int la), .val (.int ca), .val (.int ce), .val (.int sn), .val (.int lb), .val (.int da), .val (.int de), .val (.int lA), .val (.int lB), .val (.ref r2), .val (.ref r3), .val (.ref b4), .val (.int kd), .val (.ref b9), .val (.int b19), .unset]) rfl k) ?_
            have J305 : ∀ (T12 : State) (L12 : List Loc) (b20 : Int32), Stand p l e room_1 (s.setVm T10.vm) m #[(.int p1), (.int p2), (.int p3), (.int p4), (.int p5)] below meth c T12 L12 18 124 → T12.heap = h10 → Fr n0 L12 → b20 = bi (¬ b19 = (0 : Int32) ∧ lA = lB) → Go p.tables e below PP (T12.setTop (mkF m 305 #[.val (.int p1), .val (.int p2), .val (.int p3), .val (.int p4), .val (.int p5), .val (.int la), .val (.int ca), .val (.int ce), .val (.int sn), .val (.int lb), .val (.int da), .val (.int de), .val (.int lA), .val (.int lB), .val (.ref r2), .val (.ref r3), .val (.ref b4), .val (.int kd), .val (.ref b9), .val (.int b19), .unset] [(.int b20)])) := by
              intro T12 L12 b20 X12 e12 N12 hJ305
              show Go p.tables e below PP (T12.setTop (mkF m 305 #[.val (.int p1), .val (.int p2), .val (.int p3), .val (.int p4), .val (.int p5), .val (.int la), .val (.int ca), .val (.int ce), .val (.int sn), .val (.int lb), .val (.int da), .val (.int de), .val (.int lA), .val (.int lB), .val (.ref r2), .val (.ref r3), .val (.ref b4), .val (.int kd), .val (.ref b9), .val (.int b19), .unset] [(.int b20)]))
              refine Go.st (fun t k => XS.istore X12.here hx rfl (hb hby at_305) rfl (l' := #[.val (.int p1), .val (.int p2), .val (.int p3), .val (.int p4), .val (.int p5), .val (.int la), .val (.int ca), .val (.int ce), .val (.int sn), .val (.int lb), .val (.int da), .val (.int de), .val (.int lA), .val (.int lB), .val (.ref r2), .val (.ref r3), .val (.ref b4), .val (.int kd), .val (.ref b9), .val (.int b19), .val (.int b20)]) rfl k) ?_
              show Go p.tables e below PP (T12.setTop (mkF m 307 #[.val (.int p1), .val (.int p2), .val (.int p3), .val (.int p4), .val (.int p5), .val (.int la), .val (.int ca), .val (.int ce), .val (.int sn), .val (.int lb), .val (.int da), .val (.int de), .val (.int lA), .val (.int lB), .val (.ref r2), .val (.ref r3), .val (.ref b4), .val (.int kd), .val (.ref b9), .val (.int b19), .val (.int b20)] []))
              refine Go.st (fun t k => XS.aload X12.here hx rfl (hb hby at_307) rfl rfl k) ?_
              show Go p.tables e below PP (T12.setTop (mkF m 309 #[.val (.int p1), .val (.int p2), .val (.int p3), .val (.int p4), .val (.int p5), .val (.int la), .val (.int ca), .val (.int ce), .val (.int sn), .val (.int lb), .val (.int da), .val (.int de), .val (.int lA), .val (.int lB), .val (.ref r2), .val (.ref r3), .val (.ref b4), .val (.int kd), .val (.ref b9), .val (.int b19), .val (.int b20)] [(.ref b4)]))
              refine Go.st (fun t k => XS.aload X12.here hx rfl (hb hby at_309) rfl rfl k) ?_
              show Go p.tables e below PP (T12.setTop (mkF m 311 #[.val (.int p1), .val (.int p2), .val (.int p3), .val (.int p4), .val (.int p5), .val (.int la), .val (.int ca), .val (.int ce), .val (.int sn), .val (.int lb), .val (.int da), .val (.int de), .val (.int lA), .val (.int lB), .val (.ref r2), .val (.ref r3), .val (.ref b4), .val (.int kd), .val (.ref b9), .val (.int b19), .val (.int b20)] [(.ref b9), (.ref b4)]))
              obtain ⟨v13, T13, L13, X13, hQ13, st13⟩ := callVi X12 hx hZ (C := "com/example/strict_roles/strictroles/SourceLine") (y := (⟨"com/example/strict_roles/strictroles/SourceLine", "equals", "(Ljava/lang/Object;)Z"⟩ : MethodName)) (z := (⟨"com/example/strict_roles/strictroles/SourceLine", "equals", "(Ljava/lang/Object;)Z"⟩ : MethodName)) (a := b4) (argsL := [(.ref b9)]) (rest := []) hown (hw _ (List.mem_of_getElem? (i := 49) rfl)) (hw _ (List.mem_of_getElem? (i := 50) rfl)) (notFace_of_selects (args := #[]) (mvT (s := (s.setVm T10.vm)) hZ (hw _ (List.mem_of_getElem? (i := 52) rfl)))) (hw _ (List.mem_of_getElem? (i := 52) rfl)) (hw _ (List.mem_of_getElem? (i := 51) rfl)) (hw _ (List.mem_of_getElem? (i := 34) rfl)) (hw _ (List.mem_of_getElem? (i := 53) rfl)) (by decide) rfl E_b4 (rmEo l Z a0 hw [] b4 b9 lA lB r2 r3 t2 t3 la (fun k => (csL [ca, ce] k).toInt8.toInt32) lb (fun k => (csL [da, de] k).toInt8.toInt32) zc h10 n0 Zn F_line_b4 F_line_b9 F_sourceName_b4 F_sourceName_b9 E_b9 Fq2 Cq2 Vq2 Eq2 Fq3 Cq3 Vq3 Eq3 ne_b4_b9 ne_r2_r3 SC hzc O) e12 0 (by decide) (by decide) (by decide) (by decide) (g := (mkF m 311 #[.val (.int p1), .val (.int p2), .val (.int p3), .val (.int p4), .val (.int p5), .val (.int la), .val (.int ca), .val (.int ce), .val (.int sn), .val (.int lb), .val (.int da), .val (.int de), .val (.int lA), .val (.int lB), .val (.ref r2), .val (.ref r3), .val (.ref b4), .val (.int kd), .val (.ref b9), .val (.int b19), .val (.int b20)] [(.ref b9), (.ref b4)])) rfl (by rw [hml]; rfl) (lenOf pd_9 rfl) rfl (by show 2 * 0 + _ ≤ _; exact Nat.le_of_eq rfl) (hb hby at_311)
              obtain ⟨rfl, rfl, e13⟩ := hQ13
              rw [List.append_nil] at X13
              refine Go.st st13 ?_
              show Go p.tables e below PP (T13.setTop (mkF m 314 #[.val (.int p1), .val (.int p2), .val (.int p3), .val (.int p4), .val (.int p5), .val (.int la), .val (.int ca), .val (.int ce), .val (.int sn), .val (.int lb), .val (.int da), .val (.int de), .val (.int lA), .val (.int lB), .val (.ref r2), .val (.ref r3), .val (.ref b4), .val (.int kd), .val (.ref b9), .val (.int b19), .val (.int b20)] [(.int (bi (lA = lB ∧ EqB (fun k => (csL [ca, ce] k).toInt8.toInt32) (fun k => (csL [da, de] k).toInt8.toInt32) la lb)))]))
              refine Go.st (fun t k => XS.iload X13.here hx rfl (hb hby at_314) rfl k) ?_
              show Go p.tables e below PP (T13.setTop (mkF m 316 #[.val (.int p1), .val (.int p2), .val (.int p3), .val (.int p4), .val (.int p5), .val (.int la), .val (.int ca), .val (.int ce), .val (.int sn), .val (.int lb), .val (.int da), .val (.int de), .val (.int lA), .val (.int lB), .val (.ref r2), .val (.ref r3), .val (.ref b4), .val (.int kd), .val (.ref b9), .val (.int b19), .val (.int b20)] [(.int b20), (.int (bi (lA = lB ∧ EqB (fun k => (csL [ca, ce] k).toInt8.toInt32) (fun k => (csL [da, de] k).toInt8.toInt32) la lb)))]))
              refine Go.st (fun t k => XS.icmpNo X13.here hx rfl (hb hby at_316) rfl (XT.ii_ne_f (own_e1 la lb ca ce da de lA lB b19 b20 hla hJ136.1 hca hce hJ136.2.1 hJ136.2.2.1 hJ286 hJ305).1) k) ?_
              show Go p.tables e below PP (T13.setTop (mkF m 319 #[.val (.int p1), .val (.int p2), .val (.int p3), .val (.int p4), .val (.int p5), .val (.int la), .val (.int ca), .val (.int ce), .val (.int sn), .val (.int lb), .val (.int da), .val (.int de), .val (.int lA), .val (.int lB), .val (.ref r2), .val (.ref r3), .val (.ref b4), .val (.int kd), .val (.ref b9), .val (.int b19), .val (.int b20)] []))
              refine Go.st (fun t k => XS.aload X13.here hx rfl (hb hby at_319) rfl rfl k) ?_
              show Go p.tables e below PP (T13.setTop (mkF m 321 #[.val (.int p1), .val (.int p2), .val (.int p3), .val (.int p4), .val (.int p5), .val (.int la), .val (.int ca), .val (.int ce), .val (.int sn), .val (.int lb), .val (.int da), .val (.int de), .val (.int lA), .val (.int lB), .val (.ref r2), .val (.ref r3), .val (.ref b4), .val (.int kd), .val (.ref b9), .val (.int b19), .val (.int b20)] [(.ref b9)]))
              refine Go.st (fun t k => XS.aload X13.here hx rfl (hb hby at_321) rfl rfl k) ?_
              show Go p.tables e below PP (T13.setTop (mkF m 323 #[.val (.int p1), .val (.int p2), .val (.int p3), .val (.int p4), .val (.int p5), .val (.int la), .val (.int ca), .val (.int ce), .val (.int sn), .val (.int lb), .val (.int da), .val (.int de), .val (.int lA), .val (.int lB), .val (.ref r2), .val (.ref r3), .val (.ref b4), .val (.int kd), .val (.ref b9), .val (.int b19), .val (.int b20)] [(.ref b4), (.ref b9)]))
              obtain ⟨v14, T14, L14, X14, hQ14, st14⟩ := callVi X13 hx hZ (C := "com/example/strict_roles/strictroles/SourceLine") (y := (⟨"com/example/strict_roles/strictroles/SourceLine", "equals", "(Ljava/lang/Object;)Z"⟩ : MethodName)) (z := (⟨"com/example/strict_roles/strictroles/SourceLine", "equals", "(Ljava/lang/Object;)Z"⟩ : MethodName)) (a := b9) (argsL := [(.ref b4)]) (rest := []) hown (hw _ (List.mem_of_getElem? (i := 49) rfl)) (hw _ (List.mem_of_getElem? (i := 50) rfl)) (notFace_of_selects (args := #[]) (mvT (s := (s.setVm T10.vm)) hZ (hw _ (List.mem_of_getElem? (i := 52) rfl)))) (hw _ (List.mem_of_getElem? (i := 52) rfl)) (hw _ (List.mem_of_getElem? (i := 51) rfl)) (hw _ (List.mem_of_getElem? (i := 34) rfl)) (hw _ (List.mem_of_getElem? (i := 53) rfl)) (by decide) rfl E_b9 (rmEo l Z a0 hw [] b9 b4 lB lA r3 r2 t3 t2 lb (fun k => (csL [da, de] k).toInt8.toInt32) la (fun k => (csL [ca, ce] k).toInt8.toInt32) zc h10 n0 Zn F_line_b9 F_line_b4 F_sourceName_b9 F_sourceName_b4 E_b4 Fq3 Cq3 Vq3 Eq3 Fq2 Cq2 Vq2 Eq2 (Ne.symm ne_b4_b9) (Ne.symm ne_r2_r3) SC hzc O) e13 0 (by decide) (by decide) (by decide) (by decide) (g := (mkF m 323 #[.val (.int p1), .val (.int p2), .val (.int p3), .val (.int p4), .val (.int p5), .val (.int la), .val (.int ca), .val (.int ce), .val (.int sn), .val (.int lb), .val (.int da), .val (.int de), .val (.int lA), .val (.int lB), .val (.ref r2), .val (.ref r3), .val (.ref b4), .val (.int kd), .val (.ref b9), .val (.int b19), .val (.int b20)] [(.ref b4), (.ref b9)])) rfl (by rw [hml]; rfl) (lenOf pd_9 rfl) rfl (by show 2 * 0 + _ ≤ _; exact Nat.le_of_eq rfl) (hb hby at_323)
              obtain ⟨rfl, rfl, e14⟩ := hQ14
              rw [List.append_nil] at X14
              refine Go.st st14 ?_
              show Go p.tables e below PP (T14.setTop (mkF m 326 #[.val (.int p1), .val (.int p2), .val (.int p3), .val (.int p4), .val (.int p5), .val (.int la), .val (.int ca), .val (.int ce), .val (.int sn), .val (.int lb), .val (.int da), .val (.int de), .val (.int lA), .val (.int lB), .val (.ref r2), .val (.ref r3), .val (.ref b4), .val (.int kd), .val (.ref b9), .val (.int b19), .val (.int b20)] [(.int (bi (lB = lA ∧ EqB (fun k => (csL [da, de] k).toInt8.toInt32) (fun k => (csL [ca, ce] k).toInt8.toInt32) lb la)))]))
              refine Go.st (fun t k => XS.iload X14.here hx rfl (hb hby at_326) rfl k) ?_
              show Go p.tables e below PP (T14.setTop (mkF m 328 #[.val (.int p1), .val (.int p2), .val (.int p3), .val (.int p4), .val (.int p5), .val (.int la), .val (.int ca), .val (.int ce), .val (.int sn), .val (.int lb), .val (.int da), .val (.int de), .val (.int lA), .val (.int lB), .val (.ref r2), .val (.ref r3), .val (.ref b4), .val (.int kd), .val (.ref b9), .val (.int b19), .val (.int b20)] [(.int b20), (.int (bi (lB = lA ∧ EqB (fun k => (csL [da, de] k).toInt8.toInt32) (fun k => (csL [ca, ce] k).toInt8.toInt32) lb la)))]))
              refine Go.st (fun t k => XS.icmpNo X14.here hx rfl (hb hby at_328) rfl (XT.ii_ne_f (own_e1 la lb ca ce da de lA lB b19 b20 hla hJ136.1 hca hce hJ136.2.1 hJ136.2.2.1 hJ286 hJ305).2) k) ?_
              show Go p.tables e below PP (T14.setTop (mkF m 331 #[.val (.int p1), .val (.int p2), .val (.int p3), .val (.int p4), .val (.int p5), .val (.int la), .val (.int ca), .val (.int ce), .val (.int sn), .val (.int lb), .val (.int da), .val (.int de), .val (.int lA), .val (.int lB), .val (.ref r2), .val (.ref r3), .val (.ref b4), .val (.int kd), .val (.ref b9), .val (.int b19), .val (.int b20)] []))
              refine Go.st (fun t k => XS.iconst X14.here hx rfl (hb hby at_331) k) ?_
              show Go p.tables e below PP (T14.setTop (mkF m 332 #[.val (.int p1), .val (.int p2), .val (.int p3), .val (.int p4), .val (.int p5), .val (.int la), .val (.int ca), .val (.int ce), .val (.int sn), .val (.int lb), .val (.int da), .val (.int de), .val (.int lA), .val (.int lB), .val (.ref r2), .val (.ref r3), .val (.ref b4), .val (.int kd), .val (.ref b9), .val (.int b19), .val (.int b20)] [(.int (1 : Int32))]))
              refine Go.st (fun t k => XS.goto X14.here hx rfl (pc0 := 332) (pc' := 336) rfl (hb hby at_332) (by decide) (by decide) k) ?_
              show Go p.tables e below PP (T14.setTop (mkF m 336 #[.val (.int p1), .val (.int p2), .val (.int p3), .val (.int p4), .val (.int p5), .val (.int la), .val (.int ca), .val (.int ce), .val (.int sn), .val (.int lb), .val (.int da), .val (.int de), .val (.int lA), .val (.int lB), .val (.ref r2), .val (.ref r3), .val (.ref b4), .val (.int kd), .val (.ref b9), .val (.int b19), .val (.int b20)] [(.int (1 : Int32))]))
              rw [hPP]
              refine endNW X14 hx hlk hZ hS e14 hk hEL CH CR (t := .boolean) hret (by simp) (hb hby at_336) (w := (1 : Int32)) (rfl) ?_ (by decide) (by decide)
              show Q0 Z p1 p2 p3 p4 p5 zc h0 n0 (some (.int (1 : Int32))) T14.heap _
              rw [e14]
              exact ⟨rfl, N12⟩
            show Go p.tables e below PP (T11.setTop (mkF m 288 #[.val (.int p1), .val (.int p2), .val (.int p3), .val (.int p4), .val (.int p5), .val (.int la), .val (.int ca), .val (.int ce), .val (.int sn), .val (.int lb), .val (.int da), .val (.int de), .val (.int lA), .val (.int lB), .val (.ref r2), .val (.ref r3), .val (.ref b4), .val (.int kd), .val (.ref b9), .val (.int b19), .unset] []))
            refine Go.st (fun t k => XS.iload X11.here hx rfl (hb hby at_288) rfl k) ?_
            show Go p.tables e below PP (T11.setTop (mkF m 290 #[.val (.int p1), .val (.int p2), .val (.int p3), .val (.int p4), .val (.int p5), .val (.int la), .val (.int ca), .val (.int ce), .val (.int sn), .val (.int lb), .val (.int da), .val (.int de), .val (.int lA), .val (.int lB), .val (.ref r2), .val (.ref r3), .val (.ref b4), .val (.int kd), .val (.ref b9), .val (.int b19), .unset] [(.int b19)]))
            by_cases hc290 : b19 = (0 : Int32)
            · --
              refine Go.st (fun t k => XS.ifYes X11.here hx rfl (pc0 := 290) (pc' := 304) rfl (hb hby at_290) rfl (XT.i0_eq_t hc290) (by decide) (by decide) k) ?_
              show Go p.tables e below PP (T11.setTop (mkF m 304 #[.val (.int p1), .val (.int p2), .val (.int p3), .val (.int p4), .val (.int p5), .val (.int la), .val (.int ca), .val (.int ce), .val (.int sn), .val (.int lb), .val (.int da), .val (.int de), .val (.int lA), .val (.int lB), .val (.ref r2), .val (.ref r3), .val (.ref b4), .val (.int kd), .val (.ref b9), .val (.int b19), .unset] []))
              refine Go.st (fun t k => XS.iconst X11.here hx rfl (hb hby at_304) k) ?_
              show Go p.tables e below PP (T11.setTop (mkF m 305 #[.val (.int p1), .val (.int p2), .val (.int p3), .val (.int p4), .val (.int p5), .val (.int la), .val (.int ca), .val (.int ce), .val (.int sn), .val (.int lb), .val (.int da), .val (.int de), .val (.int lA), .val (.int lB), .val (.ref r2), .val (.ref r3), .val (.ref b4), .val (.int kd), .val (.ref b9), .val (.int b19), .unset] [(.int (0 : Int32))]))
              exact J305 _ _ _ X11 e11 N11 (by simp [bi, hc181, hc195, hc216, hc290])
            · --
              refine Go.st (fun t k => XS.ifNo X11.here hx rfl (hb hby at_290) rfl (XT.i0_eq_f hc290) k) ?_
              show Go p.tables e below PP (T11.setTop (mkF m 293 #[.val (.int p1), .val (.int p2), .val (.int p3), .val (.int p4), .val (.int p5), .val (.int la), .val (.int ca), .val (.int ce), .val (.int sn), .val (.int lb), .val (.int da), .val (.int de), .val (.int lA), .val (.int lB), .val (.ref r2), .val (.ref r3), .val (.ref b4), .val (.int kd), .val (.ref b9), .val (.int b19), .unset] []))
              refine Go.st (fun t k => XS.iload X11.here hx rfl (hb hby at_293) rfl k) ?_
              show Go p.tables e below PP (T11.setTop (mkF m 295 #[.val (.int p1), .val (.int p2), .val (.int p3), .val (.int p4), .val (.int p5), .val (.int la), .val (.int ca), .val (.int ce), .val (.int sn), .val (.int lb), .val (.int da), .val (.int de), .val (.int lA), .val (.int lB), .val (.ref r2), .val (.ref r3), .val (.ref b4), .val (.int kd), .val (.ref b9), .val (.int b19), .unset] [(.int lA)]))
              refine Go.st (fun t k => XS.iload X11.here hx rfl (hb hby at_295) rfl k) ?_
              show Go p.tables e below PP (T11.setTop (mkF m 297 #[.val (.int p1), .val (.int p2), .val (.int p3), .val (.int p4), .val (.int p5), .val (.int la), .val (.int ca), .val (.int ce), .val (.int sn), .val (.int lb), .val (.int da), .val (.int de), .val (.int lA), .val (.int lB), .val (.ref r2), .val (.ref r3), .val (.ref b4), .val (.int kd), .val (.ref b9), .val (.int b19), .unset] [(.int lB), (.int lA)]))
              by_cases hc297 : lA = lB
              · --
                refine Go.st (fun t k => XS.icmpNo X11.here hx rfl (hb hby at_297) rfl (XT.ii_ne_f hc297) k) ?_
                show Go p.tables e below PP (T11.setTop (mkF m 300 #[.val (.int p1), .val (.int p2), .val (.int p3), .val (.int p4), .val (.int p5), .val (.int la), .val (.int ca), .val (.int ce), .val (.int sn), .val (.int lb), .val (.int da), .val (.int de), .val (.int lA), .val (.int lB), .val (.ref r2), .val (.ref r3), .val (.ref b4), .val (.int kd), .val (.ref b9), .val (.int b19), .unset] []))
                refine Go.st (fun t k => XS.iconst X11.here hx rfl (hb hby at_300) k) ?_
                show Go p.tables e below PP (T11.setTop (mkF m 301 #[.val (.int p1), .val (.int p2), .val (.int p3), .val (.int p4), .val (.int p5), .val (.int la), .val (.int ca), .val (.int ce), .val (.int sn), .val (.int lb), .val (.int da), .val (.int de), .val (.int lA), .val (.int lB), .val (.ref r2), .val (.ref r3), .val (.ref b4), .val (.int kd), .val (.ref b9), .val (.int b19), .unset] [(.int (1 : Int32))]))
                refine Go.st (fun t k => XS.goto X11.here hx rfl (pc0 := 301) (pc' := 305) rfl (hb hby at_301) (by decide) (by decide) k) ?_
                show Go p.tables e below PP (T11.setTop (mkF m 305 #[.val (.int p1), .val (.int p2), .val (.int p3), .val (.int p4), .val (.int p5), .val (.int la), .val (.int ca), .val (.int ce), .val (.int sn), .val (.int lb), .val (.int da), .val (.int de), .val (.int lA), .val (.int lB), .val (.ref r2), .val (.ref r3), .val (.ref b4), .val (.int kd), .val (.ref b9), .val (.int b19), .unset] [(.int (1 : Int32))]))
                exact J305 _ _ _ X11 e11 N11 (by simp [bi, hc181, hc195, hc216, hc290, hc297])
              · --
                refine Go.st (fun t k => XS.icmpYes X11.here hx rfl (pc0 := 297) (pc' := 304) rfl (hb hby at_297) rfl (XT.ii_ne_t hc297) (by decide) (by decide) k) ?_
                show Go p.tables e below PP (T11.setTop (mkF m 304 #[.val (.int p1), .val (.int p2), .val (.int p3), .val (.int p4), .val (.int p5), .val (.int la), .val (.int ca), .val (.int ce), .val (.int sn), .val (.int lb), .val (.int da), .val (.int de), .val (.int lA), .val (.int lB), .val (.ref r2), .val (.ref r3), .val (.ref b4), .val (.int kd), .val (.ref b9), .val (.int b19), .unset] []))
                refine Go.st (fun t k => XS.iconst X11.here hx rfl (hb hby at_304) k) ?_
                show Go p.tables e below PP (T11.setTop (mkF m 305 #[.val (.int p1), .val (.int p2), .val (.int p3), .val (.int p4), .val (.int p5), .val (.int la), .val (.int ca), .val (.int ce), .val (.int sn), .val (.int lb), .val (.int da), .val (.int de), .val (.int lA), .val (.int lB), .val (.ref r2), .val (.ref r3), .val (.ref b4), .val (.int kd), .val (.ref b9), .val (.int b19), .unset] [(.int (0 : Int32))]))
                exact J305 _ _ _ X11 e11 N11 (by simp [bi, hc181, hc195, hc216, hc290, hc297])
          show Go p.tables e below PP (T10.setTop (mkF m 248 #[.val (.int p1), .val (.int p2), .val (.int p3), .val (.int p4), .val (.int p5), .val (.int la), .val (.int ca), .val (.int ce), .val (.int sn), .val (.int lb), .val (.int da), .val (.int de), .val (.int lA), .val (.int lB), .val (.ref r2), .val (.ref r3), .val (.ref b4), .val (.int kd), .val (.ref b9), .unset, .unset] []))
          refine Go.st (fun t k => XS.iload X10.here hx rfl (hb hby at_248) rfl k) ?_
          show Go p.tables e below PP (T10.setTop (mkF m 250 #[.val (.int p1), .val (.int p2), .val (.int p3), .val (.int p4), .val (.int p5), .val (.int la), .val (.int ca), .val (.int ce), .val (.int sn), .val (.int lb), .val (.int da), .val (.int de), .val (.int lA), .val (.int lB), .val (.ref r2), .val (.ref r3), .val (.ref b4), .val (.int kd), .val (.ref b9), .unset, .unset] [(.int la)]))
          refine Go.st (fun t k => XS.iload X10.here hx rfl (hb hby at_250) rfl k) ?_
          show Go p.tables e below PP (T10.setTop (mkF m 252 #[.val (.int p1), .val (.int p2), .val (.int p3), .val (.int p4), .val (.int p5), .val (.int la), .val (.int ca), .val (.int ce), .val (.int sn), .val (.int lb), .val (.int da), .val (.int de), .val (.int lA), .val (.int lB), .val (.ref r2), .val (.ref r3), .val (.ref b4), .val (.int kd), .val (.ref b9), .unset, .unset] [(.int lb), (.int la)]))
          by_cases hc252 : la = lb
          · --
            refine Go.st (fun t k => XS.icmpNo X10.here hx rfl (hb hby at_252) rfl (XT.ii_ne_f hc252) k) ?_
            show Go p.tables e below PP (T10.setTop (mkF m 255 #[.val (.int p1), .val (.int p2), .val (.int p3), .val (.int p4), .val (.int p5), .val (.int la), .val (.int ca), .val (.int ce), .val (.int sn), .val (.int lb), .val (.int da), .val (.int de), .val (.int lA), .val (.int lB), .val (.ref r2), .val (.ref r3), .val (.ref b4), .val (.int kd), .val (.ref b9), .unset, .unset] []))
            refine Go.st (fun t k => XS.iload X10.here hx rfl (hb hby at_255) rfl k) ?_
            show Go p.tables e below PP (T10.setTop (mkF m 257 #[.val (.int p1), .val (.int p2), .val (.int p3), .val (.int p4), .val (.int p5), .val (.int la), .val (.int ca), .val (.int ce), .val (.int sn), .val (.int lb), .val (.int da), .val (.int de), .val (.int lA), .val (.int lB), .val (.ref r2), .val (.ref r3), .val (.ref b4), .val (.int kd), .val (.ref b9), .unset, .unset] [(.int la)]))
            refine Go.st (fun t k => XS.iconst X10.here hx rfl (hb hby at_257) k) ?_
            show Go p.tables e below PP (T10.setTop (mkF m 258 #[.val (.int p1), .val (.int p2), .val (.int p3), .val (.int p4), .val (.int p5), .val (.int la), .val (.int ca), .val (.int ce), .val (.int sn), .val (.int lb), .val (.int da), .val (.int de), .val (.int lA), .val (.int lB), .val (.ref r2), .val (.ref r3), .val (.ref b4), .val (.int kd), .val (.ref b9), .unset, .unset] [(.int (1 : Int32)), (.int la)]))
            by_cases hc258 : la < (1 : Int32)
            · --
              refine Go.st (fun t k => XS.icmpYes X10.here hx rfl (pc0 := 258) (pc' := 268) rfl (hb hby at_258) rfl (XT.ii_lt_t hc258) (by decide) (by decide) k) ?_
              show Go p.tables e below PP (T10.setTop (mkF m 268 #[.val (.int p1), .val (.int p2), .val (.int p3), .val (.int p4), .val (.int p5), .val (.int la), .val (.int ca), .val (.int ce), .val (.int sn), .val (.int lb), .val (.int da), .val (.int de), .val (.int lA), .val (.int lB), .val (.ref r2), .val (.ref r3), .val (.ref b4), .val (.int kd), .val (.ref b9), .unset, .unset] []))
              refine Go.st (fun t k => XS.iload X10.here hx rfl (hb hby at_268) rfl k) ?_
              show Go p.tables e below PP (T10.setTop (mkF m 270 #[.val (.int p1), .val (.int p2), .val (.int p3), .val (.int p4), .val (.int p5), .val (.int la), .val (.int ca), .val (.int ce), .val (.int sn), .val (.int lb), .val (.int da), .val (.int de), .val (.int lA), .val (.int lB), .val (.ref r2), .val (.ref r3), .val (.ref b4), .val (.int kd), .val (.ref b9), .unset, .unset] [(.int la)]))
              refine Go.st (fun t k => XS.iconst X10.here hx rfl (hb hby at_270) k) ?_
              show Go p.tables e below PP (T10.setTop (mkF m 271 #[.val (.int p1), .val (.int p2), .val (.int p3), .val (.int p4), .val (.int p5), .val (.int la), .val (.int ca), .val (.int ce), .val (.int sn), .val (.int lb), .val (.int da), .val (.int de), .val (.int lA), .val (.int lB), .val (.ref r2), .val (.ref r3), .val (.ref b4), .val (.int kd), .val (.ref b9), .unset, .unset] [(.int (2 : Int32)), (.int la)]))
              by_cases hc271 : la < (2 : Int32)
              · --
                refine Go.st (fun t k => XS.icmpYes X10.here hx rfl (pc0 := 271) (pc' := 281) rfl (hb hby at_271) rfl (XT.ii_lt_t hc271) (by decide) (by decide) k) ?_
                show Go p.tables e below PP (T10.setTop (mkF m 281 #[.val (.int p1), .val (.int p2), .val (.int p3), .val (.int p4), .val (.int p5), .val (.int la), .val (.int ca), .val (.int ce), .val (.int sn), .val (.int lb), .val (.int da), .val (.int de), .val (.int lA), .val (.int lB), .val (.ref r2), .val (.ref r3), .val (.ref b4), .val (.int kd), .val (.ref b9), .unset, .unset] []))
                refine Go.st (fun t k => XS.iconst X10.here hx rfl (hb hby at_281) k) ?_
                show Go p.tables e below PP (T10.setTop (mkF m 282 #[.val (.int p1), .val (.int p2), .val (.int p3), .val (.int p4), .val (.int p5), .val (.int la), .val (.int ca), .val (.int ce), .val (.int sn), .val (.int lb), .val (.int da), .val (.int de), .val (.int lA), .val (.int lB), .val (.ref r2), .val (.ref r3), .val (.ref b4), .val (.int kd), .val (.ref b9), .unset, .unset] [(.int (1 : Int32))]))
                refine Go.st (fun t k => XS.goto X10.here hx rfl (pc0 := 282) (pc' := 286) rfl (hb hby at_282) (by decide) (by decide) k) ?_
                show Go p.tables e below PP (T10.setTop (mkF m 286 #[.val (.int p1), .val (.int p2), .val (.int p3), .val (.int p4), .val (.int p5), .val (.int la), .val (.int ca), .val (.int ce), .val (.int sn), .val (.int lb), .val (.int da), .val (.int de), .val (.int lA), .val (.int lB), .val (.ref r2), .val (.ref r3), .val (.ref b4), .val (.int kd), .val (.ref b9), .unset, .unset] [(.int (1 : Int32))]))
                exact J286 _ _ _ X10 e10 N10 ((bi_t ⟨hc252, Or.inl hc258, Or.inl hc271⟩).symm)
              · --
                refine Go.st (fun t k => XS.icmpNo X10.here hx rfl (hb hby at_271) rfl (XT.ii_lt_f hc271) k) ?_
                show Go p.tables e below PP (T10.setTop (mkF m 274 #[.val (.int p1), .val (.int p2), .val (.int p3), .val (.int p4), .val (.int p5), .val (.int la), .val (.int ca), .val (.int ce), .val (.int sn), .val (.int lb), .val (.int da), .val (.int de), .val (.int lA), .val (.int lB), .val (.ref r2), .val (.ref r3), .val (.ref b4), .val (.int kd), .val (.ref b9), .unset, .unset] []))
                refine Go.st (fun t k => XS.iload X10.here hx rfl (hb hby at_274) rfl k) ?_
                show Go p.tables e below PP (T10.setTop (mkF m 276 #[.val (.int p1), .val (.int p2), .val (.int p3), .val (.int p4), .val (.int p5), .val (.int la), .val (.int ca), .val (.int ce), .val (.int sn), .val (.int lb), .val (.int da), .val (.int de), .val (.int lA), .val (.int lB), .val (.ref r2), .val (.ref r3), .val (.ref b4), .val (.int kd), .val (.ref b9), .unset, .unset] [(.int ce)]))
                refine Go.st (fun t k => XS.iload X10.here hx rfl (hb hby at_276) rfl k) ?_
                show Go p.tables e below PP (T10.setTop (mkF m 278 #[.val (.int p1), .val (.int p2), .val (.int p3), .val (.int p4), .val (.int p5), .val (.int la), .val (.int ca), .val (.int ce), .val (.int sn), .val (.int lb), .val (.int da), .val (.int de), .val (.int lA), .val (.int lB), .val (.ref r2), .val (.ref r3), .val (.ref b4), .val (.int kd), .val (.ref b9), .unset, .unset] [(.int de), (.int ce)]))
                by_cases hc278 : ce = de
                · --
                  refine Go.st (fun t k => XS.icmpNo X10.here hx rfl (hb hby at_278) rfl (XT.ii_ne_f hc278) k) ?_
                  show Go p.tables e below PP (T10.setTop (mkF m 281 #[.val (.int p1), .val (.int p2), .val (.int p3), .val (.int p4), .val (.int p5), .val (.int la), .val (.int ca), .val (.int ce), .val (.int sn), .val (.int lb), .val (.int da), .val (.int de), .val (.int lA), .val (.int lB), .val (.ref r2), .val (.ref r3), .val (.ref b4), .val (.int kd), .val (.ref b9), .unset, .unset] []))
                  refine Go.st (fun t k => XS.iconst X10.here hx rfl (hb hby at_281) k) ?_
                  show Go p.tables e below PP (T10.setTop (mkF m 282 #[.val (.int p1), .val (.int p2), .val (.int p3), .val (.int p4), .val (.int p5), .val (.int la), .val (.int ca), .val (.int ce), .val (.int sn), .val (.int lb), .val (.int da), .val (.int de), .val (.int lA), .val (.int lB), .val (.ref r2), .val (.ref r3), .val (.ref b4), .val (.int kd), .val (.ref b9), .unset, .unset] [(.int (1 : Int32))]))
                  refine Go.st (fun t k => XS.goto X10.here hx rfl (pc0 := 282) (pc' := 286) rfl (hb hby at_282) (by decide) (by decide) k) ?_
                  show Go p.tables e below PP (T10.setTop (mkF m 286 #[.val (.int p1), .val (.int p2), .val (.int p3), .val (.int p4), .val (.int p5), .val (.int la), .val (.int ca), .val (.int ce), .val (.int sn), .val (.int lb), .val (.int da), .val (.int de), .val (.int lA), .val (.int lB), .val (.ref r2), .val (.ref r3), .val (.ref b4), .val (.int kd), .val (.ref b9), .unset, .unset] [(.int (1 : Int32))]))
                  exact J286 _ _ _ X10 e10 N10 ((bi_t ⟨hc252, Or.inl hc258, Or.inr hc278⟩).symm)
                · --
                  refine Go.st (fun t k => XS.icmpYes X10.here hx rfl (pc0 := 278) (pc' := 285) rfl (hb hby at_278) rfl (XT.ii_ne_t hc278) (by decide) (by decide) k) ?_
                  show Go p.tables e below PP (T10.setTop (mkF m 285 #[.val (.int p1), .val (.int p2), .val (.int p3), .val (.int p4), .val (.int p5), .val (.int la), .val (.int ca), .val (.int ce), .val (.int sn), .val (.int lb), .val (.int da), .val (.int de), .val (.int lA), .val (.int lB), .val (.ref r2), .val (.ref r3), .val (.ref b4), .val (.int kd), .val (.ref b9), .unset, .unset] []))
                  refine Go.st (fun t k => XS.iconst X10.here hx rfl (hb hby at_285) k) ?_
                  show Go p.tables e below PP (T10.setTop (mkF m 286 #[.val (.int p1), .val (.int p2), .val (.int p3), .val (.int p4), .val (.int p5), .val (.int la), .val (.int ca), .val (.int ce), .val (.int sn), .val (.int lb), .val (.int da), .val (.int de), .val (.int lA), .val (.int lB), .val (.ref r2), .val (.ref r3), .val (.ref b4), .val (.int kd), .val (.ref b9), .unset, .unset] [(.int (0 : Int32))]))
                  exact J286 _ _ _ X10 e10 N10 ((bi_f fun z => z.2.2.elim hc271 hc278).symm)
            · --
              refine Go.st (fun t k => XS.icmpNo X10.here hx rfl (hb hby at_258) rfl (XT.ii_lt_f hc258) k) ?_
              show Go p.tables e below PP (T10.setTop (mkF m 261 #[.val (.int p1), .val (.int p2), .val (.int p3), .val (.int p4), .val (.int p5), .val (.int la), .val (.int ca), .val (.int ce), .val (.int sn), .val (.int lb), .val (.int da), .val (.int de), .val (.int lA), .val (.int lB), .val (.ref r2), .val (.ref r3), .val (.ref b4), .val (.int kd), .val (.ref b9), .unset, .unset] []))
              refine Go.st (fun t k => XS.iload X10.here hx rfl (hb hby at_261) rfl k) ?_
              show Go p.tables e below PP (T10.setTop (mkF m 263 #[.val (.int p1), .val (.int p2), .val (.int p3), .val (.int p4), .val (.int p5), .val (.int la), .val (.int ca), .val (.int ce), .val (.int sn), .val (.int lb), .val (.int da), .val (.int de), .val (.int lA), .val (.int lB), .val (.ref r2), .val (.ref r3), .val (.ref b4), .val (.int kd), .val (.ref b9), .unset, .unset] [(.int ca)]))
              refine Go.st (fun t k => XS.iload X10.here hx rfl (hb hby at_263) rfl k) ?_
              show Go p.tables e below PP (T10.setTop (mkF m 265 #[.val (.int p1), .val (.int p2), .val (.int p3), .val (.int p4), .val (.int p5), .val (.int la), .val (.int ca), .val (.int ce), .val (.int sn), .val (.int lb), .val (.int da), .val (.int de), .val (.int lA), .val (.int lB), .val (.ref r2), .val (.ref r3), .val (.ref b4), .val (.int kd), .val (.ref b9), .unset, .unset] [(.int da), (.int ca)]))
              by_cases hc265 : ca = da
              · --
                refine Go.st (fun t k => XS.icmpNo X10.here hx rfl (hb hby at_265) rfl (XT.ii_ne_f hc265) k) ?_
                show Go p.tables e below PP (T10.setTop (mkF m 268 #[.val (.int p1), .val (.int p2), .val (.int p3), .val (.int p4), .val (.int p5), .val (.int la), .val (.int ca), .val (.int ce), .val (.int sn), .val (.int lb), .val (.int da), .val (.int de), .val (.int lA), .val (.int lB), .val (.ref r2), .val (.ref r3), .val (.ref b4), .val (.int kd), .val (.ref b9), .unset, .unset] []))
                refine Go.st (fun t k => XS.iload X10.here hx rfl (hb hby at_268) rfl k) ?_
                show Go p.tables e below PP (T10.setTop (mkF m 270 #[.val (.int p1), .val (.int p2), .val (.int p3), .val (.int p4), .val (.int p5), .val (.int la), .val (.int ca), .val (.int ce), .val (.int sn), .val (.int lb), .val (.int da), .val (.int de), .val (.int lA), .val (.int lB), .val (.ref r2), .val (.ref r3), .val (.ref b4), .val (.int kd), .val (.ref b9), .unset, .unset] [(.int la)]))
                refine Go.st (fun t k => XS.iconst X10.here hx rfl (hb hby at_270) k) ?_
                show Go p.tables e below PP (T10.setTop (mkF m 271 #[.val (.int p1), .val (.int p2), .val (.int p3), .val (.int p4), .val (.int p5), .val (.int la), .val (.int ca), .val (.int ce), .val (.int sn), .val (.int lb), .val (.int da), .val (.int de), .val (.int lA), .val (.int lB), .val (.ref r2), .val (.ref r3), .val (.ref b4), .val (.int kd), .val (.ref b9), .unset, .unset] [(.int (2 : Int32)), (.int la)]))
                by_cases hc271 : la < (2 : Int32)
                · --
                  refine Go.st (fun t k => XS.icmpYes X10.here hx rfl (pc0 := 271) (pc' := 281) rfl (hb hby at_271) rfl (XT.ii_lt_t hc271) (by decide) (by decide) k) ?_
                  show Go p.tables e below PP (T10.setTop (mkF m 281 #[.val (.int p1), .val (.int p2), .val (.int p3), .val (.int p4), .val (.int p5), .val (.int la), .val (.int ca), .val (.int ce), .val (.int sn), .val (.int lb), .val (.int da), .val (.int de), .val (.int lA), .val (.int lB), .val (.ref r2), .val (.ref r3), .val (.ref b4), .val (.int kd), .val (.ref b9), .unset, .unset] []))
                  refine Go.st (fun t k => XS.iconst X10.here hx rfl (hb hby at_281) k) ?_
                  show Go p.tables e below PP (T10.setTop (mkF m 282 #[.val (.int p1), .val (.int p2), .val (.int p3), .val (.int p4), .val (.int p5), .val (.int la), .val (.int ca), .val (.int ce), .val (.int sn), .val (.int lb), .val (.int da), .val (.int de), .val (.int lA), .val (.int lB), .val (.ref r2), .val (.ref r3), .val (.ref b4), .val (.int kd), .val (.ref b9), .unset, .unset] [(.int (1 : Int32))]))
                  refine Go.st (fun t k => XS.goto X10.here hx rfl (pc0 := 282) (pc' := 286) rfl (hb hby at_282) (by decide) (by decide) k) ?_
                  show Go p.tables e below PP (T10.setTop (mkF m 286 #[.val (.int p1), .val (.int p2), .val (.int p3), .val (.int p4), .val (.int p5), .val (.int la), .val (.int ca), .val (.int ce), .val (.int sn), .val (.int lb), .val (.int da), .val (.int de), .val (.int lA), .val (.int lB), .val (.ref r2), .val (.ref r3), .val (.ref b4), .val (.int kd), .val (.ref b9), .unset, .unset] [(.int (1 : Int32))]))
                  exact J286 _ _ _ X10 e10 N10 ((bi_t ⟨hc252, Or.inr hc265, Or.inl hc271⟩).symm)
                · --
                  refine Go.st (fun t k => XS.icmpNo X10.here hx rfl (hb hby at_271) rfl (XT.ii_lt_f hc271) k) ?_
                  show Go p.tables e below PP (T10.setTop (mkF m 274 #[.val (.int p1), .val (.int p2), .val (.int p3), .val (.int p4), .val (.int p5), .val (.int la), .val (.int ca), .val (.int ce), .val (.int sn), .val (.int lb), .val (.int da), .val (.int de), .val (.int lA), .val (.int lB), .val (.ref r2), .val (.ref r3), .val (.ref b4), .val (.int kd), .val (.ref b9), .unset, .unset] []))
                  refine Go.st (fun t k => XS.iload X10.here hx rfl (hb hby at_274) rfl k) ?_
                  show Go p.tables e below PP (T10.setTop (mkF m 276 #[.val (.int p1), .val (.int p2), .val (.int p3), .val (.int p4), .val (.int p5), .val (.int la), .val (.int ca), .val (.int ce), .val (.int sn), .val (.int lb), .val (.int da), .val (.int de), .val (.int lA), .val (.int lB), .val (.ref r2), .val (.ref r3), .val (.ref b4), .val (.int kd), .val (.ref b9), .unset, .unset] [(.int ce)]))
                  refine Go.st (fun t k => XS.iload X10.here hx rfl (hb hby at_276) rfl k) ?_
                  show Go p.tables e below PP (T10.setTop (mkF m 278 #[.val (.int p1), .val (.int p2), .val (.int p3), .val (.int p4), .val (.int p5), .val (.int la), .val (.int ca), .val (.int ce), .val (.int sn), .val (.int lb), .val (.int da), .val (.int de), .val (.int lA), .val (.int lB), .val (.ref r2), .val (.ref r3), .val (.ref b4), .val (.int kd), .val (.ref b9), .unset, .unset] [(.int de), (.int ce)]))
                  by_cases hc278 : ce = de
                  · --
                    refine Go.st (fun t k => XS.icmpNo X10.here hx rfl (hb hby at_278) rfl (XT.ii_ne_f hc278) k) ?_
                    show Go p.tables e below PP (T10.setTop (mkF m 281 #[.val (.int p1), .val (.int p2), .val (.int p3), .val (.int p4), .val (.int p5), .val (.int la), .val (.int ca), .val (.int ce), .val (.int sn), .val (.int lb), .val (.int da), .val (.int de), .val (.int lA), .val (.int lB), .val (.ref r2), .val (.ref r3), .val (.ref b4), .val (.int kd), .val (.ref b9), .unset, .unset] []))
                    refine Go.st (fun t k => XS.iconst X10.here hx rfl (hb hby at_281) k) ?_
                    show Go p.tables e below PP (T10.setTop (mkF m 282 #[.val (.int p1), .val (.int p2), .val (.int p3), .val (.int p4), .val (.int p5), .val (.int la), .val (.int ca), .val (.int ce), .val (.int sn), .val (.int lb), .val (.int da), .val (.int de), .val (.int lA), .val (.int lB), .val (.ref r2), .val (.ref r3), .val (.ref b4), .val (.int kd), .val (.ref b9), .unset, .unset] [(.int (1 : Int32))]))
                    refine Go.st (fun t k => XS.goto X10.here hx rfl (pc0 := 282) (pc' := 286) rfl (hb hby at_282) (by decide) (by decide) k) ?_
                    show Go p.tables e below PP (T10.setTop (mkF m 286 #[.val (.int p1), .val (.int p2), .val (.int p3), .val (.int p4), .val (.int p5), .val (.int la), .val (.int ca), .val (.int ce), .val (.int sn), .val (.int lb), .val (.int da), .val (.int de), .val (.int lA), .val (.int lB), .val (.ref r2), .val (.ref r3), .val (.ref b4), .val (.int kd), .val (.ref b9), .unset, .unset] [(.int (1 : Int32))]))
                    exact J286 _ _ _ X10 e10 N10 ((bi_t ⟨hc252, Or.inr hc265, Or.inr hc278⟩).symm)
                  · --
                    refine Go.st (fun t k => XS.icmpYes X10.here hx rfl (pc0 := 278) (pc' := 285) rfl (hb hby at_278) rfl (XT.ii_ne_t hc278) (by decide) (by decide) k) ?_
                    show Go p.tables e below PP (T10.setTop (mkF m 285 #[.val (.int p1), .val (.int p2), .val (.int p3), .val (.int p4), .val (.int p5), .val (.int la), .val (.int ca), .val (.int ce), .val (.int sn), .val (.int lb), .val (.int da), .val (.int de), .val (.int lA), .val (.int lB), .val (.ref r2), .val (.ref r3), .val (.ref b4), .val (.int kd), .val (.ref b9), .unset, .unset] []))
                    refine Go.st (fun t k => XS.iconst X10.here hx rfl (hb hby at_285) k) ?_
                    show Go p.tables e below PP (T10.setTop (mkF m 286 #[.val (.int p1), .val (.int p2), .val (.int p3), .val (.int p4), .val (.int p5), .val (.int la), .val (.int ca), .val (.int ce), .val (.int sn), .val (.int lb), .val (.int da), .val (.int de), .val (.int lA), .val (.int lB), .val (.ref r2), .val (.ref r3), .val (.ref b4), .val (.int kd), .val (.ref b9), .unset, .unset] [(.int (0 : Int32))]))
                    exact J286 _ _ _ X10 e10 N10 ((bi_f fun z => z.2.2.elim hc271 hc278).symm)
              · --
                refine Go.st (fun t k => XS.icmpYes X10.here hx rfl (pc0 := 265) (pc' := 285) rfl (hb hby at_265) rfl (XT.ii_ne_t hc265) (by decide) (by decide) k) ?_
                show Go p.tables e below PP (T10.setTop (mkF m 285 #[.val (.int p1), .val (.int p2), .val (.int p3), .val (.int p4), .val (.int p5), .val (.int la), .val (.int ca), .val (.int ce), .val (.int sn), .val (.int lb), .val (.int da), .val (.int de), .val (.int lA), .val (.int lB), .val (.ref r2), .val (.ref r3), .val (.ref b4), .val (.int kd), .val (.ref b9), .unset, .unset] []))
                refine Go.st (fun t k => XS.iconst X10.here hx rfl (hb hby at_285) k) ?_
                show Go p.tables e below PP (T10.setTop (mkF m 286 #[.val (.int p1), .val (.int p2), .val (.int p3), .val (.int p4), .val (.int p5), .val (.int la), .val (.int ca), .val (.int ce), .val (.int sn), .val (.int lb), .val (.int da), .val (.int de), .val (.int lA), .val (.int lB), .val (.ref r2), .val (.ref r3), .val (.ref b4), .val (.int kd), .val (.ref b9), .unset, .unset] [(.int (0 : Int32))]))
                exact J286 _ _ _ X10 e10 N10 ((bi_f fun z => z.2.1.elim hc258 hc265).symm)
          · --
            refine Go.st (fun t k => XS.icmpYes X10.here hx rfl (pc0 := 252) (pc' := 285) rfl (hb hby at_252) rfl (XT.ii_ne_t hc252) (by decide) (by decide) k) ?_
            show Go p.tables e below PP (T10.setTop (mkF m 285 #[.val (.int p1), .val (.int p2), .val (.int p3), .val (.int p4), .val (.int p5), .val (.int la), .val (.int ca), .val (.int ce), .val (.int sn), .val (.int lb), .val (.int da), .val (.int de), .val (.int lA), .val (.int lB), .val (.ref r2), .val (.ref r3), .val (.ref b4), .val (.int kd), .val (.ref b9), .unset, .unset] []))
            refine Go.st (fun t k => XS.iconst X10.here hx rfl (hb hby at_285) k) ?_
            show Go p.tables e below PP (T10.setTop (mkF m 286 #[.val (.int p1), .val (.int p2), .val (.int p3), .val (.int p4), .val (.int p5), .val (.int la), .val (.int ca), .val (.int ce), .val (.int sn), .val (.int lb), .val (.int da), .val (.int de), .val (.int lA), .val (.int lB), .val (.ref r2), .val (.ref r3), .val (.ref b4), .val (.int kd), .val (.ref b9), .unset, .unset] [(.int (0 : Int32))]))
            exact J286 _ _ _ X10 e10 N10 ((bi_f fun z => hc252 z.1).symm)
  show Go p.tables e below PP (s₁.setTop (mkF m 30 #[.val (.int p1), .val (.int p2), .val (.int p3), .val (.int p4), .val (.int p5), .val (.int la), .val (.int ca), .val (.int ce), .unset, .unset, .unset, .unset, .unset, .unset, .unset, .unset, .unset, .unset, .unset, .unset, .unset] []))
  refine Go.st (fun t k => XS.iload X0.here hx rfl (hb hby at_30) rfl k) ?_
  show Go p.tables e below PP (s₁.setTop (mkF m 32 #[.val (.int p1), .val (.int p2), .val (.int p3), .val (.int p4), .val (.int p5), .val (.int la), .val (.int ca), .val (.int ce), .unset, .unset, .unset, .unset, .unset, .unset, .unset, .unset, .unset, .unset, .unset, .unset, .unset] [(.int p5)]))
  refine Go.st (fun t k => XS.iconst X0.here hx rfl (hb hby at_32) k) ?_
  show Go p.tables e below PP (s₁.setTop (mkF m 33 #[.val (.int p1), .val (.int p2), .val (.int p3), .val (.int p4), .val (.int p5), .val (.int la), .val (.int ca), .val (.int ce), .unset, .unset, .unset, .unset, .unset, .unset, .unset, .unset, .unset, .unset, .unset, .unset, .unset] [(.int (1 : Int32)), (.int p5)]))
  refine Go.st (fun t k => XS.iand X0.here hx rfl (hb hby at_33) rfl k) ?_
  show Go p.tables e below PP (s₁.setTop (mkF m 34 #[.val (.int p1), .val (.int p2), .val (.int p3), .val (.int p4), .val (.int p5), .val (.int la), .val (.int ca), .val (.int ce), .unset, .unset, .unset, .unset, .unset, .unset, .unset, .unset, .unset, .unset, .unset, .unset, .unset] [(.int (p5 &&& (1 : Int32)))]))
  by_cases hc34 : (p5 &&& (1 : Int32)) = (0 : Int32)
  · --
    refine Go.st (fun t k => XS.ifYes X0.here hx rfl (pc0 := 34) (pc' := 41) rfl (hb hby at_34) rfl (XT.i0_eq_t hc34) (by decide) (by decide) k) ?_
    show Go p.tables e below PP (s₁.setTop (mkF m 41 #[.val (.int p1), .val (.int p2), .val (.int p3), .val (.int p4), .val (.int p5), .val (.int la), .val (.int ca), .val (.int ce), .unset, .unset, .unset, .unset, .unset, .unset, .unset, .unset, .unset, .unset, .unset, .unset, .unset] []))
    refine Go.st (fun t k => XS.iconst X0.here hx rfl (hb hby at_41) k) ?_
    show Go p.tables e below PP (s₁.setTop (mkF m 42 #[.val (.int p1), .val (.int p2), .val (.int p3), .val (.int p4), .val (.int p5), .val (.int la), .val (.int ca), .val (.int ce), .unset, .unset, .unset, .unset, .unset, .unset, .unset, .unset, .unset, .unset, .unset, .unset, .unset] [(.int (0 : Int32))]))
    refine Go.st (fun t k => XS.istore X0.here hx rfl (hb hby at_42) rfl (l' := #[.val (.int p1), .val (.int p2), .val (.int p3), .val (.int p4), .val (.int p5), .val (.int la), .val (.int ca), .val (.int ce), .val (.int (0 : Int32)), .unset, .unset, .unset, .unset, .unset, .unset, .unset, .unset, .unset, .unset, .unset, .unset]) rfl k) ?_
    show Go p.tables e below PP (s₁.setTop (mkF m 44 #[.val (.int p1), .val (.int p2), .val (.int p3), .val (.int p4), .val (.int p5), .val (.int la), .val (.int ca), .val (.int ce), .val (.int (0 : Int32)), .unset, .unset, .unset, .unset, .unset, .unset, .unset, .unset, .unset, .unset, .unset, .unset] []))
    refine Go.st (fun t k => XS.iload X0.here hx rfl (hb hby at_44) rfl k) ?_
    show Go p.tables e below PP (s₁.setTop (mkF m 46 #[.val (.int p1), .val (.int p2), .val (.int p3), .val (.int p4), .val (.int p5), .val (.int la), .val (.int ca), .val (.int ce), .val (.int (0 : Int32)), .unset, .unset, .unset, .unset, .unset, .unset, .unset, .unset, .unset, .unset, .unset, .unset] [(.int (0 : Int32))]))
    refine Go.st (fun t k => XS.ifYes X0.here hx rfl (pc0 := 46) (pc' := 54) rfl (hb hby at_46) rfl (XT.i0_eq_t (by decide)) (by decide) (by decide) k) ?_
    show Go p.tables e below PP (s₁.setTop (mkF m 54 #[.val (.int p1), .val (.int p2), .val (.int p3), .val (.int p4), .val (.int p5), .val (.int la), .val (.int ca), .val (.int ce), .val (.int (0 : Int32)), .unset, .unset, .unset, .unset, .unset, .unset, .unset, .unset, .unset, .unset, .unset, .unset] []))
    refine Go.st (fun t k => XS.iloadN X0.here hx rfl (hb hby at_54) rfl k) ?_
    show Go p.tables e below PP (s₁.setTop (mkF m 55 #[.val (.int p1), .val (.int p2), .val (.int p3), .val (.int p4), .val (.int p5), .val (.int la), .val (.int ca), .val (.int ce), .val (.int (0 : Int32)), .unset, .unset, .unset, .unset, .unset, .unset, .unset, .unset, .unset, .unset, .unset, .unset] [(.int p2)]))
    refine Go.st (fun t k => XS.bipush X0.here hx rfl (hb hby at_55) k) ?_
    show Go p.tables e below PP (s₁.setTop (mkF m 57 #[.val (.int p1), .val (.int p2), .val (.int p3), .val (.int p4), .val (.int p5), .val (.int la), .val (.int ca), .val (.int ce), .val (.int (0 : Int32)), .unset, .unset, .unset, .unset, .unset, .unset, .unset, .unset, .unset, .unset, .unset, .unset] [(.int (16 : Int32)), (.int p2)]))
    refine Go.st (fun t k => XS.iushr X0.here hx rfl (hb hby at_57) rfl k) ?_
    show Go p.tables e below PP (s₁.setTop (mkF m 58 #[.val (.int p1), .val (.int p2), .val (.int p3), .val (.int p4), .val (.int p5), .val (.int la), .val (.int ca), .val (.int ce), .val (.int (0 : Int32)), .unset, .unset, .unset, .unset, .unset, .unset, .unset, .unset, .unset, .unset, .unset, .unset] [(.int ((p2.toUInt32 >>> ((16 : Int32) &&& 31).toUInt32).toInt32))]))
    refine Go.st (fun t k => X0.ldcI hx hown (mvT hZ (hw _ (List.mem_of_getElem? (i := 0) rfl))) (g := (mkF m 58 #[.val (.int p1), .val (.int p2), .val (.int p3), .val (.int p4), .val (.int p5), .val (.int la), .val (.int ca), .val (.int ce), .val (.int (0 : Int32)), .unset, .unset, .unset, .unset, .unset, .unset, .unset, .unset, .unset, .unset, .unset, .unset] [(.int ((p2.toUInt32 >>> ((16 : Int32) &&& 31).toUInt32).toInt32))])) rfl (hb hby at_58) k) ?_
    show Go p.tables e below PP (s₁.setTop (mkF m 60 #[.val (.int p1), .val (.int p2), .val (.int p3), .val (.int p4), .val (.int p5), .val (.int la), .val (.int ca), .val (.int ce), .val (.int (0 : Int32)), .unset, .unset, .unset, .unset, .unset, .unset, .unset, .unset, .unset, .unset, .unset, .unset] [(.int (65535 : Int32)), (.int ((p2.toUInt32 >>> ((16 : Int32) &&& 31).toUInt32).toInt32))]))
    refine Go.st (fun t k => XS.iand X0.here hx rfl (hb hby at_60) rfl k) ?_
    show Go p.tables e below PP (s₁.setTop (mkF m 61 #[.val (.int p1), .val (.int p2), .val (.int p3), .val (.int p4), .val (.int p5), .val (.int la), .val (.int ca), .val (.int ce), .val (.int (0 : Int32)), .unset, .unset, .unset, .unset, .unset, .unset, .unset, .unset, .unset, .unset, .unset, .unset] [(.int (((p2.toUInt32 >>> ((16 : Int32) &&& 31).toUInt32).toInt32) &&& (65535 : Int32)))]))
    refine Go.st (fun t k => XS.iconst X0.here hx rfl (hb hby at_61) k) ?_
    show Go p.tables e below PP (s₁.setTop (mkF m 62 #[.val (.int p1), .val (.int p2), .val (.int p3), .val (.int p4), .val (.int p5), .val (.int la), .val (.int ca), .val (.int ce), .val (.int (0 : Int32)), .unset, .unset, .unset, .unset, .unset, .unset, .unset, .unset, .unset, .unset, .unset, .unset] [(.int (3 : Int32)), (.int (((p2.toUInt32 >>> ((16 : Int32) &&& 31).toUInt32).toInt32) &&& (65535 : Int32)))]))
    refine Go.st (fun t k => iremM X0 hx rfl (hb hby at_62) rfl (by decide) k) ?_
    show Go p.tables e below PP (s₁.setTop (mkF m 63 #[.val (.int p1), .val (.int p2), .val (.int p3), .val (.int p4), .val (.int p5), .val (.int la), .val (.int ca), .val (.int ce), .val (.int (0 : Int32)), .unset, .unset, .unset, .unset, .unset, .unset, .unset, .unset, .unset, .unset, .unset, .unset] [(.int ((((p2.toUInt32 >>> ((16 : Int32) &&& 31).toUInt32).toInt32) &&& (65535 : Int32)) % (3 : Int32)))]))
    refine Go.st (fun t k => XS.istore X0.here hx rfl (hb hby at_63) rfl (l' := #[.val (.int p1), .val (.int p2), .val (.int p3), .val (.int p4), .val (.int p5), .val (.int la), .val (.int ca), .val (.int ce), .val (.int (0 : Int32)), .val (.int ((((p2.toUInt32 >>> ((16 : Int32) &&& 31).toUInt32).toInt32) &&& (65535 : Int32)) % (3 : Int32))), .unset, .unset, .unset, .unset, .unset, .unset, .unset, .unset, .unset, .unset, .unset]) rfl k) ?_
    show Go p.tables e below PP (s₁.setTop (mkF m 65 #[.val (.int p1), .val (.int p2), .val (.int p3), .val (.int p4), .val (.int p5), .val (.int la), .val (.int ca), .val (.int ce), .val (.int (0 : Int32)), .val (.int ((((p2.toUInt32 >>> ((16 : Int32) &&& 31).toUInt32).toInt32) &&& (65535 : Int32)) % (3 : Int32))), .unset, .unset, .unset, .unset, .unset, .unset, .unset, .unset, .unset, .unset, .unset] []))
    refine Go.st (fun t k => XS.iload X0.here hx rfl (hb hby at_65) rfl k) ?_
    show Go p.tables e below PP (s₁.setTop (mkF m 67 #[.val (.int p1), .val (.int p2), .val (.int p3), .val (.int p4), .val (.int p5), .val (.int la), .val (.int ca), .val (.int ce), .val (.int (0 : Int32)), .val (.int ((((p2.toUInt32 >>> ((16 : Int32) &&& 31).toUInt32).toInt32) &&& (65535 : Int32)) % (3 : Int32))), .unset, .unset, .unset, .unset, .unset, .unset, .unset, .unset, .unset, .unset, .unset] [(.int (0 : Int32))]))
    refine Go.st (fun t k => XS.ifYes X0.here hx rfl (pc0 := 67) (pc' := 75) rfl (hb hby at_67) rfl (XT.i0_eq_t (by decide)) (by decide) (by decide) k) ?_
    show Go p.tables e below PP (s₁.setTop (mkF m 75 #[.val (.int p1), .val (.int p2), .val (.int p3), .val (.int p4), .val (.int p5), .val (.int la), .val (.int ca), .val (.int ce), .val (.int (0 : Int32)), .val (.int ((((p2.toUInt32 >>> ((16 : Int32) &&& 31).toUInt32).toInt32) &&& (65535 : Int32)) % (3 : Int32))), .unset, .unset, .unset, .unset, .unset, .unset, .unset, .unset, .unset, .unset, .unset] []))
    refine Go.st (fun t k => XS.iloadN X0.here hx rfl (hb hby at_75) rfl k) ?_
    show Go p.tables e below PP (s₁.setTop (mkF m 76 #[.val (.int p1), .val (.int p2), .val (.int p3), .val (.int p4), .val (.int p5), .val (.int la), .val (.int ca), .val (.int ce), .val (.int (0 : Int32)), .val (.int ((((p2.toUInt32 >>> ((16 : Int32) &&& 31).toUInt32).toInt32) &&& (65535 : Int32)) % (3 : Int32))), .unset, .unset, .unset, .unset, .unset, .unset, .unset, .unset, .unset, .unset, .unset] [(.int p2)]))
    refine Go.st (fun t k => XS.sipush X0.here hx rfl (hb hby at_76) k) ?_
    show Go p.tables e below PP (s₁.setTop (mkF m 79 #[.val (.int p1), .val (.int p2), .val (.int p3), .val (.int p4), .val (.int p5), .val (.int la), .val (.int ca), .val (.int ce), .val (.int (0 : Int32)), .val (.int ((((p2.toUInt32 >>> ((16 : Int32) &&& 31).toUInt32).toInt32) &&& (65535 : Int32)) % (3 : Int32))), .unset, .unset, .unset, .unset, .unset, .unset, .unset, .unset, .unset, .unset, .unset] [(.int (255 : Int32)), (.int p2)]))
    refine Go.st (fun t k => XS.iand X0.here hx rfl (hb hby at_79) rfl k) ?_
    show Go p.tables e below PP (s₁.setTop (mkF m 80 #[.val (.int p1), .val (.int p2), .val (.int p3), .val (.int p4), .val (.int p5), .val (.int la), .val (.int ca), .val (.int ce), .val (.int (0 : Int32)), .val (.int ((((p2.toUInt32 >>> ((16 : Int32) &&& 31).toUInt32).toInt32) &&& (65535 : Int32)) % (3 : Int32))), .unset, .unset, .unset, .unset, .unset, .unset, .unset, .unset, .unset, .unset, .unset] [(.int (p2 &&& (255 : Int32)))]))
    refine Go.st (fun t k => XS.i2c X0.here hx rfl (hb hby at_80) rfl k) ?_
    show Go p.tables e below PP (s₁.setTop (mkF m 81 #[.val (.int p1), .val (.int p2), .val (.int p3), .val (.int p4), .val (.int p5), .val (.int la), .val (.int ca), .val (.int ce), .val (.int (0 : Int32)), .val (.int ((((p2.toUInt32 >>> ((16 : Int32) &&& 31).toUInt32).toInt32) &&& (65535 : Int32)) % (3 : Int32))), .unset, .unset, .unset, .unset, .unset, .unset, .unset, .unset, .unset, .unset, .unset] [(.int ((p2 &&& (255 : Int32)).toUInt32.toUInt16.toUInt32.toInt32))]))
    refine Go.st (fun t k => XS.istore X0.here hx rfl (hb hby at_81) rfl (l' := #[.val (.int p1), .val (.int p2), .val (.int p3), .val (.int p4), .val (.int p5), .val (.int la), .val (.int ca), .val (.int ce), .val (.int (0 : Int32)), .val (.int ((((p2.toUInt32 >>> ((16 : Int32) &&& 31).toUInt32).toInt32) &&& (65535 : Int32)) % (3 : Int32))), .val (.int ((p2 &&& (255 : Int32)).toUInt32.toUInt16.toUInt32.toInt32)), .unset, .unset, .unset, .unset, .unset, .unset, .unset, .unset, .unset, .unset]) rfl k) ?_
    show Go p.tables e below PP (s₁.setTop (mkF m 83 #[.val (.int p1), .val (.int p2), .val (.int p3), .val (.int p4), .val (.int p5), .val (.int la), .val (.int ca), .val (.int ce), .val (.int (0 : Int32)), .val (.int ((((p2.toUInt32 >>> ((16 : Int32) &&& 31).toUInt32).toInt32) &&& (65535 : Int32)) % (3 : Int32))), .val (.int ((p2 &&& (255 : Int32)).toUInt32.toUInt16.toUInt32.toInt32)), .unset, .unset, .unset, .unset, .unset, .unset, .unset, .unset, .unset, .unset] []))
    refine Go.st (fun t k => XS.iload X0.here hx rfl (hb hby at_83) rfl k) ?_
    show Go p.tables e below PP (s₁.setTop (mkF m 85 #[.val (.int p1), .val (.int p2), .val (.int p3), .val (.int p4), .val (.int p5), .val (.int la), .val (.int ca), .val (.int ce), .val (.int (0 : Int32)), .val (.int ((((p2.toUInt32 >>> ((16 : Int32) &&& 31).toUInt32).toInt32) &&& (65535 : Int32)) % (3 : Int32))), .val (.int ((p2 &&& (255 : Int32)).toUInt32.toUInt16.toUInt32.toInt32)), .unset, .unset, .unset, .unset, .unset, .unset, .unset, .unset, .unset, .unset] [(.int (0 : Int32))]))
    refine Go.st (fun t k => XS.ifYes X0.here hx rfl (pc0 := 85) (pc' := 93) rfl (hb hby at_85) rfl (XT.i0_eq_t (by decide)) (by decide) (by decide) k) ?_
    show Go p.tables e below PP (s₁.setTop (mkF m 93 #[.val (.int p1), .val (.int p2), .val (.int p3), .val (.int p4), .val (.int p5), .val (.int la), .val (.int ca), .val (.int ce), .val (.int (0 : Int32)), .val (.int ((((p2.toUInt32 >>> ((16 : Int32) &&& 31).toUInt32).toInt32) &&& (65535 : Int32)) % (3 : Int32))), .val (.int ((p2 &&& (255 : Int32)).toUInt32.toUInt16.toUInt32.toInt32)), .unset, .unset, .unset, .unset, .unset, .unset, .unset, .unset, .unset, .unset] []))
    refine Go.st (fun t k => XS.iloadN X0.here hx rfl (hb hby at_93) rfl k) ?_
    show Go p.tables e below PP (s₁.setTop (mkF m 94 #[.val (.int p1), .val (.int p2), .val (.int p3), .val (.int p4), .val (.int p5), .val (.int la), .val (.int ca), .val (.int ce), .val (.int (0 : Int32)), .val (.int ((((p2.toUInt32 >>> ((16 : Int32) &&& 31).toUInt32).toInt32) &&& (65535 : Int32)) % (3 : Int32))), .val (.int ((p2 &&& (255 : Int32)).toUInt32.toUInt16.toUInt32.toInt32)), .unset, .unset, .unset, .unset, .unset, .unset, .unset, .unset, .unset, .unset] [(.int p2)]))
    refine Go.st (fun t k => XS.bipush X0.here hx rfl (hb hby at_94) k) ?_
    show Go p.tables e below PP (s₁.setTop (mkF m 96 #[.val (.int p1), .val (.int p2), .val (.int p3), .val (.int p4), .val (.int p5), .val (.int la), .val (.int ca), .val (.int ce), .val (.int (0 : Int32)), .val (.int ((((p2.toUInt32 >>> ((16 : Int32) &&& 31).toUInt32).toInt32) &&& (65535 : Int32)) % (3 : Int32))), .val (.int ((p2 &&& (255 : Int32)).toUInt32.toUInt16.toUInt32.toInt32)), .unset, .unset, .unset, .unset, .unset, .unset, .unset, .unset, .unset, .unset] [(.int (8 : Int32)), (.int p2)]))
    refine Go.st (fun t k => XS.iushr X0.here hx rfl (hb hby at_96) rfl k) ?_
    show Go p.tables e below PP (s₁.setTop (mkF m 97 #[.val (.int p1), .val (.int p2), .val (.int p3), .val (.int p4), .val (.int p5), .val (.int la), .val (.int ca), .val (.int ce), .val (.int (0 : Int32)), .val (.int ((((p2.toUInt32 >>> ((16 : Int32) &&& 31).toUInt32).toInt32) &&& (65535 : Int32)) % (3 : Int32))), .val (.int ((p2 &&& (255 : Int32)).toUInt32.toUInt16.toUInt32.toInt32)), .unset, .unset, .unset, .unset, .unset, .unset, .unset, .unset, .unset, .unset] [(.int ((p2.toUInt32 >>> ((8 : Int32) &&& 31).toUInt32).toInt32))]))
    refine Go.st (fun t k => XS.sipush X0.here hx rfl (hb hby at_97) k) ?_
    show Go p.tables e below PP (s₁.setTop (mkF m 100 #[.val (.int p1), .val (.int p2), .val (.int p3), .val (.int p4), .val (.int p5), .val (.int la), .val (.int ca), .val (.int ce), .val (.int (0 : Int32)), .val (.int ((((p2.toUInt32 >>> ((16 : Int32) &&& 31).toUInt32).toInt32) &&& (65535 : Int32)) % (3 : Int32))), .val (.int ((p2 &&& (255 : Int32)).toUInt32.toUInt16.toUInt32.toInt32)), .unset, .unset, .unset, .unset, .unset, .unset, .unset, .unset, .unset, .unset] [(.int (255 : Int32)), (.int ((p2.toUInt32 >>> ((8 : Int32) &&& 31).toUInt32).toInt32))]))
    refine Go.st (fun t k => XS.iand X0.here hx rfl (hb hby at_100) rfl k) ?_
    show Go p.tables e below PP (s₁.setTop (mkF m 101 #[.val (.int p1), .val (.int p2), .val (.int p3), .val (.int p4), .val (.int p5), .val (.int la), .val (.int ca), .val (.int ce), .val (.int (0 : Int32)), .val (.int ((((p2.toUInt32 >>> ((16 : Int32) &&& 31).toUInt32).toInt32) &&& (65535 : Int32)) % (3 : Int32))), .val (.int ((p2 &&& (255 : Int32)).toUInt32.toUInt16.toUInt32.toInt32)), .unset, .unset, .unset, .unset, .unset, .unset, .unset, .unset, .unset, .unset] [(.int (((p2.toUInt32 >>> ((8 : Int32) &&& 31).toUInt32).toInt32) &&& (255 : Int32)))]))
    refine Go.st (fun t k => XS.i2c X0.here hx rfl (hb hby at_101) rfl k) ?_
    show Go p.tables e below PP (s₁.setTop (mkF m 102 #[.val (.int p1), .val (.int p2), .val (.int p3), .val (.int p4), .val (.int p5), .val (.int la), .val (.int ca), .val (.int ce), .val (.int (0 : Int32)), .val (.int ((((p2.toUInt32 >>> ((16 : Int32) &&& 31).toUInt32).toInt32) &&& (65535 : Int32)) % (3 : Int32))), .val (.int ((p2 &&& (255 : Int32)).toUInt32.toUInt16.toUInt32.toInt32)), .unset, .unset, .unset, .unset, .unset, .unset, .unset, .unset, .unset, .unset] [(.int ((((p2.toUInt32 >>> ((8 : Int32) &&& 31).toUInt32).toInt32) &&& (255 : Int32)).toUInt32.toUInt16.toUInt32.toInt32))]))
    refine Go.st (fun t k => XS.istore X0.here hx rfl (hb hby at_102) rfl (l' := #[.val (.int p1), .val (.int p2), .val (.int p3), .val (.int p4), .val (.int p5), .val (.int la), .val (.int ca), .val (.int ce), .val (.int (0 : Int32)), .val (.int ((((p2.toUInt32 >>> ((16 : Int32) &&& 31).toUInt32).toInt32) &&& (65535 : Int32)) % (3 : Int32))), .val (.int ((p2 &&& (255 : Int32)).toUInt32.toUInt16.toUInt32.toInt32)), .val (.int ((((p2.toUInt32 >>> ((8 : Int32) &&& 31).toUInt32).toInt32) &&& (255 : Int32)).toUInt32.toUInt16.toUInt32.toInt32)), .unset, .unset, .unset, .unset, .unset, .unset, .unset, .unset, .unset]) rfl k) ?_
    show Go p.tables e below PP (s₁.setTop (mkF m 104 #[.val (.int p1), .val (.int p2), .val (.int p3), .val (.int p4), .val (.int p5), .val (.int la), .val (.int ca), .val (.int ce), .val (.int (0 : Int32)), .val (.int ((((p2.toUInt32 >>> ((16 : Int32) &&& 31).toUInt32).toInt32) &&& (65535 : Int32)) % (3 : Int32))), .val (.int ((p2 &&& (255 : Int32)).toUInt32.toUInt16.toUInt32.toInt32)), .val (.int ((((p2.toUInt32 >>> ((8 : Int32) &&& 31).toUInt32).toInt32) &&& (255 : Int32)).toUInt32.toUInt16.toUInt32.toInt32)), .unset, .unset, .unset, .unset, .unset, .unset, .unset, .unset, .unset] []))
    refine Go.st (fun t k => XS.iconst X0.here hx rfl (hb hby at_104) k) ?_
    show Go p.tables e below PP (s₁.setTop (mkF m 105 #[.val (.int p1), .val (.int p2), .val (.int p3), .val (.int p4), .val (.int p5), .val (.int la), .val (.int ca), .val (.int ce), .val (.int (0 : Int32)), .val (.int ((((p2.toUInt32 >>> ((16 : Int32) &&& 31).toUInt32).toInt32) &&& (65535 : Int32)) % (3 : Int32))), .val (.int ((p2 &&& (255 : Int32)).toUInt32.toUInt16.toUInt32.toInt32)), .val (.int ((((p2.toUInt32 >>> ((8 : Int32) &&& 31).toUInt32).toInt32) &&& (255 : Int32)).toUInt32.toUInt16.toUInt32.toInt32)), .unset, .unset, .unset, .unset, .unset, .unset, .unset, .unset, .unset] [(.int (1 : Int32))]))
    refine Go.st (fun t k => XS.iloadN X0.here hx rfl (hb hby at_105) rfl k) ?_
    show Go p.tables e below PP (s₁.setTop (mkF m 106 #[.val (.int p1), .val (.int p2), .val (.int p3), .val (.int p4), .val (.int p5), .val (.int la), .val (.int ca), .val (.int ce), .val (.int (0 : Int32)), .val (.int ((((p2.toUInt32 >>> ((16 : Int32) &&& 31).toUInt32).toInt32) &&& (65535 : Int32)) % (3 : Int32))), .val (.int ((p2 &&& (255 : Int32)).toUInt32.toUInt16.toUInt32.toInt32)), .val (.int ((((p2.toUInt32 >>> ((8 : Int32) &&& 31).toUInt32).toInt32) &&& (255 : Int32)).toUInt32.toUInt16.toUInt32.toInt32)), .unset, .unset, .unset, .unset, .unset, .unset, .unset, .unset, .unset] [(.int p3), (.int (1 : Int32))]))
    refine Go.st (fun t k => X0.ldcI hx hown (mvT hZ (hw _ (List.mem_of_getElem? (i := 1) rfl))) (g := (mkF m 106 #[.val (.int p1), .val (.int p2), .val (.int p3), .val (.int p4), .val (.int p5), .val (.int la), .val (.int ca), .val (.int ce), .val (.int (0 : Int32)), .val (.int ((((p2.toUInt32 >>> ((16 : Int32) &&& 31).toUInt32).toInt32) &&& (65535 : Int32)) % (3 : Int32))), .val (.int ((p2 &&& (255 : Int32)).toUInt32.toUInt16.toUInt32.toInt32)), .val (.int ((((p2.toUInt32 >>> ((8 : Int32) &&& 31).toUInt32).toInt32) &&& (255 : Int32)).toUInt32.toUInt16.toUInt32.toInt32)), .unset, .unset, .unset, .unset, .unset, .unset, .unset, .unset, .unset] [(.int p3), (.int (1 : Int32))])) rfl (hb hby at_106) k) ?_
    show Go p.tables e below PP (s₁.setTop (mkF m 108 #[.val (.int p1), .val (.int p2), .val (.int p3), .val (.int p4), .val (.int p5), .val (.int la), .val (.int ca), .val (.int ce), .val (.int (0 : Int32)), .val (.int ((((p2.toUInt32 >>> ((16 : Int32) &&& 31).toUInt32).toInt32) &&& (65535 : Int32)) % (3 : Int32))), .val (.int ((p2 &&& (255 : Int32)).toUInt32.toUInt16.toUInt32.toInt32)), .val (.int ((((p2.toUInt32 >>> ((8 : Int32) &&& 31).toUInt32).toInt32) &&& (255 : Int32)).toUInt32.toUInt16.toUInt32.toInt32)), .unset, .unset, .unset, .unset, .unset, .unset, .unset, .unset, .unset] [(.int (2147483647 : Int32)), (.int p3), (.int (1 : Int32))]))
    refine Go.st (fun t k => XS.iand X0.here hx rfl (hb hby at_108) rfl k) ?_
    show Go p.tables e below PP (s₁.setTop (mkF m 109 #[.val (.int p1), .val (.int p2), .val (.int p3), .val (.int p4), .val (.int p5), .val (.int la), .val (.int ca), .val (.int ce), .val (.int (0 : Int32)), .val (.int ((((p2.toUInt32 >>> ((16 : Int32) &&& 31).toUInt32).toInt32) &&& (65535 : Int32)) % (3 : Int32))), .val (.int ((p2 &&& (255 : Int32)).toUInt32.toUInt16.toUInt32.toInt32)), .val (.int ((((p2.toUInt32 >>> ((8 : Int32) &&& 31).toUInt32).toInt32) &&& (255 : Int32)).toUInt32.toUInt16.toUInt32.toInt32)), .unset, .unset, .unset, .unset, .unset, .unset, .unset, .unset, .unset] [(.int (p3 &&& (2147483647 : Int32))), (.int (1 : Int32))]))
    obtain ⟨v15, T15, L15, X15, hQ15, st15⟩ := callSt X0 hx hZ (y := (⟨"java/lang/Math", "max", "(II)I"⟩ : MethodName)) (argsL := [(.int (1 : Int32)), (.int (p3 &&& (2147483647 : Int32)))]) (rest := []) hown (hw _ (List.mem_of_getElem? (i := 2) rfl)) (hw _ (List.mem_of_getElem? (i := 3) rfl)) (hw _ (List.mem_of_getElem? (i := 4) rfl)) (hw _ (List.mem_of_getElem? (i := 5) rfl)) (by decide) (rm1 l Z a0 hw [] (1 : Int32) (p3 &&& (2147483647 : Int32)) h0 n0 Zn) e0 0 (by decide) (by decide) (by decide) (by decide) (g := (mkF m 109 #[.val (.int p1), .val (.int p2), .val (.int p3), .val (.int p4), .val (.int p5), .val (.int la), .val (.int ca), .val (.int ce), .val (.int (0 : Int32)), .val (.int ((((p2.toUInt32 >>> ((16 : Int32) &&& 31).toUInt32).toInt32) &&& (65535 : Int32)) % (3 : Int32))), .val (.int ((p2 &&& (255 : Int32)).toUInt32.toUInt16.toUInt32.toInt32)), .val (.int ((((p2.toUInt32 >>> ((8 : Int32) &&& 31).toUInt32).toInt32) &&& (255 : Int32)).toUInt32.toUInt16.toUInt32.toInt32)), .unset, .unset, .unset, .unset, .unset, .unset, .unset, .unset, .unset] [(.int (p3 &&& (2147483647 : Int32))), (.int (1 : Int32))])) rfl (by rw [hml]; rfl) (lenOf pd_14 rfl) rfl (by show 2 * 0 + _ ≤ _; exact Nat.le_of_eq rfl) (hb hby at_109)
    obtain ⟨rfl, rfl, e15⟩ := hQ15
    rw [List.append_nil] at X15
    refine Go.st st15 ?_
    show Go p.tables e below PP (T15.setTop (mkF m 112 #[.val (.int p1), .val (.int p2), .val (.int p3), .val (.int p4), .val (.int p5), .val (.int la), .val (.int ca), .val (.int ce), .val (.int (0 : Int32)), .val (.int ((((p2.toUInt32 >>> ((16 : Int32) &&& 31).toUInt32).toInt32) &&& (65535 : Int32)) % (3 : Int32))), .val (.int ((p2 &&& (255 : Int32)).toUInt32.toUInt16.toUInt32.toInt32)), .val (.int ((((p2.toUInt32 >>> ((8 : Int32) &&& 31).toUInt32).toInt32) &&& (255 : Int32)).toUInt32.toUInt16.toUInt32.toInt32)), .unset, .unset, .unset, .unset, .unset, .unset, .unset, .unset, .unset] [(.int (if (1 : Int32) < (p3 &&& (2147483647 : Int32)) then (p3 &&& (2147483647 : Int32)) else (1 : Int32)))]))
    refine Go.st (fun t k => XS.istore X15.here hx rfl (hb hby at_112) rfl (l' := #[.val (.int p1), .val (.int p2), .val (.int p3), .val (.int p4), .val (.int p5), .val (.int la), .val (.int ca), .val (.int ce), .val (.int (0 : Int32)), .val (.int ((((p2.toUInt32 >>> ((16 : Int32) &&& 31).toUInt32).toInt32) &&& (65535 : Int32)) % (3 : Int32))), .val (.int ((p2 &&& (255 : Int32)).toUInt32.toUInt16.toUInt32.toInt32)), .val (.int ((((p2.toUInt32 >>> ((8 : Int32) &&& 31).toUInt32).toInt32) &&& (255 : Int32)).toUInt32.toUInt16.toUInt32.toInt32)), .val (.int (if (1 : Int32) < (p3 &&& (2147483647 : Int32)) then (p3 &&& (2147483647 : Int32)) else (1 : Int32))), .unset, .unset, .unset, .unset, .unset, .unset, .unset, .unset]) rfl k) ?_
    show Go p.tables e below PP (T15.setTop (mkF m 114 #[.val (.int p1), .val (.int p2), .val (.int p3), .val (.int p4), .val (.int p5), .val (.int la), .val (.int ca), .val (.int ce), .val (.int (0 : Int32)), .val (.int ((((p2.toUInt32 >>> ((16 : Int32) &&& 31).toUInt32).toInt32) &&& (65535 : Int32)) % (3 : Int32))), .val (.int ((p2 &&& (255 : Int32)).toUInt32.toUInt16.toUInt32.toInt32)), .val (.int ((((p2.toUInt32 >>> ((8 : Int32) &&& 31).toUInt32).toInt32) &&& (255 : Int32)).toUInt32.toUInt16.toUInt32.toInt32)), .val (.int (if (1 : Int32) < (p3 &&& (2147483647 : Int32)) then (p3 &&& (2147483647 : Int32)) else (1 : Int32))), .unset, .unset, .unset, .unset, .unset, .unset, .unset, .unset] []))
    refine Go.st (fun t k => XS.iload X15.here hx rfl (hb hby at_114) rfl k) ?_
    show Go p.tables e below PP (T15.setTop (mkF m 116 #[.val (.int p1), .val (.int p2), .val (.int p3), .val (.int p4), .val (.int p5), .val (.int la), .val (.int ca), .val (.int ce), .val (.int (0 : Int32)), .val (.int ((((p2.toUInt32 >>> ((16 : Int32) &&& 31).toUInt32).toInt32) &&& (65535 : Int32)) % (3 : Int32))), .val (.int ((p2 &&& (255 : Int32)).toUInt32.toUInt16.toUInt32.toInt32)), .val (.int ((((p2.toUInt32 >>> ((8 : Int32) &&& 31).toUInt32).toInt32) &&& (255 : Int32)).toUInt32.toUInt16.toUInt32.toInt32)), .val (.int (if (1 : Int32) < (p3 &&& (2147483647 : Int32)) then (p3 &&& (2147483647 : Int32)) else (1 : Int32))), .unset, .unset, .unset, .unset, .unset, .unset, .unset, .unset] [(.int p5)]))
    refine Go.st (fun t k => XS.iconst X15.here hx rfl (hb hby at_116) k) ?_
    show Go p.tables e below PP (T15.setTop (mkF m 117 #[.val (.int p1), .val (.int p2), .val (.int p3), .val (.int p4), .val (.int p5), .val (.int la), .val (.int ca), .val (.int ce), .val (.int (0 : Int32)), .val (.int ((((p2.toUInt32 >>> ((16 : Int32) &&& 31).toUInt32).toInt32) &&& (65535 : Int32)) % (3 : Int32))), .val (.int ((p2 &&& (255 : Int32)).toUInt32.toUInt16.toUInt32.toInt32)), .val (.int ((((p2.toUInt32 >>> ((8 : Int32) &&& 31).toUInt32).toInt32) &&& (255 : Int32)).toUInt32.toUInt16.toUInt32.toInt32)), .val (.int (if (1 : Int32) < (p3 &&& (2147483647 : Int32)) then (p3 &&& (2147483647 : Int32)) else (1 : Int32))), .unset, .unset, .unset, .unset, .unset, .unset, .unset, .unset] [(.int (2 : Int32)), (.int p5)]))
    refine Go.st (fun t k => XS.iand X15.here hx rfl (hb hby at_117) rfl k) ?_
    show Go p.tables e below PP (T15.setTop (mkF m 118 #[.val (.int p1), .val (.int p2), .val (.int p3), .val (.int p4), .val (.int p5), .val (.int la), .val (.int ca), .val (.int ce), .val (.int (0 : Int32)), .val (.int ((((p2.toUInt32 >>> ((16 : Int32) &&& 31).toUInt32).toInt32) &&& (65535 : Int32)) % (3 : Int32))), .val (.int ((p2 &&& (255 : Int32)).toUInt32.toUInt16.toUInt32.toInt32)), .val (.int ((((p2.toUInt32 >>> ((8 : Int32) &&& 31).toUInt32).toInt32) &&& (255 : Int32)).toUInt32.toUInt16.toUInt32.toInt32)), .val (.int (if (1 : Int32) < (p3 &&& (2147483647 : Int32)) then (p3 &&& (2147483647 : Int32)) else (1 : Int32))), .unset, .unset, .unset, .unset, .unset, .unset, .unset, .unset] [(.int (p5 &&& (2 : Int32)))]))
    by_cases hc118 : (p5 &&& (2 : Int32)) = (0 : Int32)
    · --
      refine Go.st (fun t k => XS.ifYes X15.here hx rfl (pc0 := 118) (pc' := 126) rfl (hb hby at_118) rfl (XT.i0_eq_t hc118) (by decide) (by decide) k) ?_
      show Go p.tables e below PP (T15.setTop (mkF m 126 #[.val (.int p1), .val (.int p2), .val (.int p3), .val (.int p4), .val (.int p5), .val (.int la), .val (.int ca), .val (.int ce), .val (.int (0 : Int32)), .val (.int ((((p2.toUInt32 >>> ((16 : Int32) &&& 31).toUInt32).toInt32) &&& (65535 : Int32)) % (3 : Int32))), .val (.int ((p2 &&& (255 : Int32)).toUInt32.toUInt16.toUInt32.toInt32)), .val (.int ((((p2.toUInt32 >>> ((8 : Int32) &&& 31).toUInt32).toInt32) &&& (255 : Int32)).toUInt32.toUInt16.toUInt32.toInt32)), .val (.int (if (1 : Int32) < (p3 &&& (2147483647 : Int32)) then (p3 &&& (2147483647 : Int32)) else (1 : Int32))), .unset, .unset, .unset, .unset, .unset, .unset, .unset, .unset] []))
      refine Go.st (fun t k => XS.iconst X15.here hx rfl (hb hby at_126) k) ?_
      show Go p.tables e below PP (T15.setTop (mkF m 127 #[.val (.int p1), .val (.int p2), .val (.int p3), .val (.int p4), .val (.int p5), .val (.int la), .val (.int ca), .val (.int ce), .val (.int (0 : Int32)), .val (.int ((((p2.toUInt32 >>> ((16 : Int32) &&& 31).toUInt32).toInt32) &&& (65535 : Int32)) % (3 : Int32))), .val (.int ((p2 &&& (255 : Int32)).toUInt32.toUInt16.toUInt32.toInt32)), .val (.int ((((p2.toUInt32 >>> ((8 : Int32) &&& 31).toUInt32).toInt32) &&& (255 : Int32)).toUInt32.toUInt16.toUInt32.toInt32)), .val (.int (if (1 : Int32) < (p3 &&& (2147483647 : Int32)) then (p3 &&& (2147483647 : Int32)) else (1 : Int32))), .unset, .unset, .unset, .unset, .unset, .unset, .unset, .unset] [(.int (1 : Int32))]))
      refine Go.st (fun t k => XS.iloadN X15.here hx rfl (hb hby at_127) rfl k) ?_
      show Go p.tables e below PP (T15.setTop (mkF m 128 #[.val (.int p1), .val (.int p2), .val (.int p3), .val (.int p4), .val (.int p5), .val (.int la), .val (.int ca), .val (.int ce), .val (.int (0 : Int32)), .val (.int ((((p2.toUInt32 >>> ((16 : Int32) &&& 31).toUInt32).toInt32) &&& (65535 : Int32)) % (3 : Int32))), .val (.int ((p2 &&& (255 : Int32)).toUInt32.toUInt16.toUInt32.toInt32)), .val (.int ((((p2.toUInt32 >>> ((8 : Int32) &&& 31).toUInt32).toInt32) &&& (255 : Int32)).toUInt32.toUInt16.toUInt32.toInt32)), .val (.int (if (1 : Int32) < (p3 &&& (2147483647 : Int32)) then (p3 &&& (2147483647 : Int32)) else (1 : Int32))), .unset, .unset, .unset, .unset, .unset, .unset, .unset, .unset] [(.int p4), (.int (1 : Int32))]))
      refine Go.st (fun t k => X15.ldcI hx hown (mvT hZ (hw _ (List.mem_of_getElem? (i := 1) rfl))) (g := (mkF m 128 #[.val (.int p1), .val (.int p2), .val (.int p3), .val (.int p4), .val (.int p5), .val (.int la), .val (.int ca), .val (.int ce), .val (.int (0 : Int32)), .val (.int ((((p2.toUInt32 >>> ((16 : Int32) &&& 31).toUInt32).toInt32) &&& (65535 : Int32)) % (3 : Int32))), .val (.int ((p2 &&& (255 : Int32)).toUInt32.toUInt16.toUInt32.toInt32)), .val (.int ((((p2.toUInt32 >>> ((8 : Int32) &&& 31).toUInt32).toInt32) &&& (255 : Int32)).toUInt32.toUInt16.toUInt32.toInt32)), .val (.int (if (1 : Int32) < (p3 &&& (2147483647 : Int32)) then (p3 &&& (2147483647 : Int32)) else (1 : Int32))), .unset, .unset, .unset, .unset, .unset, .unset, .unset, .unset] [(.int p4), (.int (1 : Int32))])) rfl (hb hby at_128) k) ?_
      show Go p.tables e below PP (T15.setTop (mkF m 130 #[.val (.int p1), .val (.int p2), .val (.int p3), .val (.int p4), .val (.int p5), .val (.int la), .val (.int ca), .val (.int ce), .val (.int (0 : Int32)), .val (.int ((((p2.toUInt32 >>> ((16 : Int32) &&& 31).toUInt32).toInt32) &&& (65535 : Int32)) % (3 : Int32))), .val (.int ((p2 &&& (255 : Int32)).toUInt32.toUInt16.toUInt32.toInt32)), .val (.int ((((p2.toUInt32 >>> ((8 : Int32) &&& 31).toUInt32).toInt32) &&& (255 : Int32)).toUInt32.toUInt16.toUInt32.toInt32)), .val (.int (if (1 : Int32) < (p3 &&& (2147483647 : Int32)) then (p3 &&& (2147483647 : Int32)) else (1 : Int32))), .unset, .unset, .unset, .unset, .unset, .unset, .unset, .unset] [(.int (2147483647 : Int32)), (.int p4), (.int (1 : Int32))]))
      refine Go.st (fun t k => XS.iand X15.here hx rfl (hb hby at_130) rfl k) ?_
      show Go p.tables e below PP (T15.setTop (mkF m 131 #[.val (.int p1), .val (.int p2), .val (.int p3), .val (.int p4), .val (.int p5), .val (.int la), .val (.int ca), .val (.int ce), .val (.int (0 : Int32)), .val (.int ((((p2.toUInt32 >>> ((16 : Int32) &&& 31).toUInt32).toInt32) &&& (65535 : Int32)) % (3 : Int32))), .val (.int ((p2 &&& (255 : Int32)).toUInt32.toUInt16.toUInt32.toInt32)), .val (.int ((((p2.toUInt32 >>> ((8 : Int32) &&& 31).toUInt32).toInt32) &&& (255 : Int32)).toUInt32.toUInt16.toUInt32.toInt32)), .val (.int (if (1 : Int32) < (p3 &&& (2147483647 : Int32)) then (p3 &&& (2147483647 : Int32)) else (1 : Int32))), .unset, .unset, .unset, .unset, .unset, .unset, .unset, .unset] [(.int (p4 &&& (2147483647 : Int32))), (.int (1 : Int32))]))
      obtain ⟨v16, T16, L16, X16, hQ16, st16⟩ := callSt X15 hx hZ (y := (⟨"java/lang/Math", "max", "(II)I"⟩ : MethodName)) (argsL := [(.int (1 : Int32)), (.int (p4 &&& (2147483647 : Int32)))]) (rest := []) hown (hw _ (List.mem_of_getElem? (i := 2) rfl)) (hw _ (List.mem_of_getElem? (i := 3) rfl)) (hw _ (List.mem_of_getElem? (i := 4) rfl)) (hw _ (List.mem_of_getElem? (i := 5) rfl)) (by decide) (rm1 l Z a0 hw [] (1 : Int32) (p4 &&& (2147483647 : Int32)) h0 n0 Zn) e15 0 (by decide) (by decide) (by decide) (by decide) (g := (mkF m 131 #[.val (.int p1), .val (.int p2), .val (.int p3), .val (.int p4), .val (.int p5), .val (.int la), .val (.int ca), .val (.int ce), .val (.int (0 : Int32)), .val (.int ((((p2.toUInt32 >>> ((16 : Int32) &&& 31).toUInt32).toInt32) &&& (65535 : Int32)) % (3 : Int32))), .val (.int ((p2 &&& (255 : Int32)).toUInt32.toUInt16.toUInt32.toInt32)), .val (.int ((((p2.toUInt32 >>> ((8 : Int32) &&& 31).toUInt32).toInt32) &&& (255 : Int32)).toUInt32.toUInt16.toUInt32.toInt32)), .val (.int (if (1 : Int32) < (p3 &&& (2147483647 : Int32)) then (p3 &&& (2147483647 : Int32)) else (1 : Int32))), .unset, .unset, .unset, .unset, .unset, .unset, .unset, .unset] [(.int (p4 &&& (2147483647 : Int32))), (.int (1 : Int32))])) rfl (by rw [hml]; rfl) (lenOf pd_14 rfl) rfl (by show 2 * 0 + _ ≤ _; exact Nat.le_of_eq rfl) (hb hby at_131)
      obtain ⟨rfl, rfl, e16⟩ := hQ16
      rw [List.append_nil] at X16
      refine Go.st st16 ?_
      show Go p.tables e below PP (T16.setTop (mkF m 134 #[.val (.int p1), .val (.int p2), .val (.int p3), .val (.int p4), .val (.int p5), .val (.int la), .val (.int ca), .val (.int ce), .val (.int (0 : Int32)), .val (.int ((((p2.toUInt32 >>> ((16 : Int32) &&& 31).toUInt32).toInt32) &&& (65535 : Int32)) % (3 : Int32))), .val (.int ((p2 &&& (255 : Int32)).toUInt32.toUInt16.toUInt32.toInt32)), .val (.int ((((p2.toUInt32 >>> ((8 : Int32) &&& 31).toUInt32).toInt32) &&& (255 : Int32)).toUInt32.toUInt16.toUInt32.toInt32)), .val (.int (if (1 : Int32) < (p3 &&& (2147483647 : Int32)) then (p3 &&& (2147483647 : Int32)) else (1 : Int32))), .unset, .unset, .unset, .unset, .unset, .unset, .unset, .unset] [(.int (if (1 : Int32) < (p4 &&& (2147483647 : Int32)) then (p4 &&& (2147483647 : Int32)) else (1 : Int32)))]))
      refine Go.st (fun t k => XS.istore X16.here hx rfl (hb hby at_134) rfl (l' := #[.val (.int p1), .val (.int p2), .val (.int p3), .val (.int p4), .val (.int p5), .val (.int la), .val (.int ca), .val (.int ce), .val (.int (0 : Int32)), .val (.int ((((p2.toUInt32 >>> ((16 : Int32) &&& 31).toUInt32).toInt32) &&& (65535 : Int32)) % (3 : Int32))), .val (.int ((p2 &&& (255 : Int32)).toUInt32.toUInt16.toUInt32.toInt32)), .val (.int ((((p2.toUInt32 >>> ((8 : Int32) &&& 31).toUInt32).toInt32) &&& (255 : Int32)).toUInt32.toUInt16.toUInt32.toInt32)), .val (.int (if (1 : Int32) < (p3 &&& (2147483647 : Int32)) then (p3 &&& (2147483647 : Int32)) else (1 : Int32))), .val (.int (if (1 : Int32) < (p4 &&& (2147483647 : Int32)) then (p4 &&& (2147483647 : Int32)) else (1 : Int32))), .unset, .unset, .unset, .unset, .unset, .unset, .unset]) rfl k) ?_
      show Go p.tables e below PP (T16.setTop (mkF m 136 #[.val (.int p1), .val (.int p2), .val (.int p3), .val (.int p4), .val (.int p5), .val (.int la), .val (.int ca), .val (.int ce), .val (.int (0 : Int32)), .val (.int ((((p2.toUInt32 >>> ((16 : Int32) &&& 31).toUInt32).toInt32) &&& (65535 : Int32)) % (3 : Int32))), .val (.int ((p2 &&& (255 : Int32)).toUInt32.toUInt16.toUInt32.toInt32)), .val (.int ((((p2.toUInt32 >>> ((8 : Int32) &&& 31).toUInt32).toInt32) &&& (255 : Int32)).toUInt32.toUInt16.toUInt32.toInt32)), .val (.int (if (1 : Int32) < (p3 &&& (2147483647 : Int32)) then (p3 &&& (2147483647 : Int32)) else (1 : Int32))), .val (.int (if (1 : Int32) < (p4 &&& (2147483647 : Int32)) then (p4 &&& (2147483647 : Int32)) else (1 : Int32))), .unset, .unset, .unset, .unset, .unset, .unset, .unset] []))
      exact J136 _ _ _ _ _ _ _ _ X16 e16 N0 (⟨own_3 _ _ rfl, own_ch _ _ rfl, own_ch _ _ rfl, own_mx _, own_mx _⟩)
    · --
      refine Go.st (fun t k => XS.ifNo X15.here hx rfl (hb hby at_118) rfl (XT.i0_eq_f hc118) k) ?_
      show Go p.tables e below PP (T15.setTop (mkF m 121 #[.val (.int p1), .val (.int p2), .val (.int p3), .val (.int p4), .val (.int p5), .val (.int la), .val (.int ca), .val (.int ce), .val (.int (0 : Int32)), .val (.int ((((p2.toUInt32 >>> ((16 : Int32) &&& 31).toUInt32).toInt32) &&& (65535 : Int32)) % (3 : Int32))), .val (.int ((p2 &&& (255 : Int32)).toUInt32.toUInt16.toUInt32.toInt32)), .val (.int ((((p2.toUInt32 >>> ((8 : Int32) &&& 31).toUInt32).toInt32) &&& (255 : Int32)).toUInt32.toUInt16.toUInt32.toInt32)), .val (.int (if (1 : Int32) < (p3 &&& (2147483647 : Int32)) then (p3 &&& (2147483647 : Int32)) else (1 : Int32))), .unset, .unset, .unset, .unset, .unset, .unset, .unset, .unset] []))
      refine Go.st (fun t k => XS.iload X15.here hx rfl (hb hby at_121) rfl k) ?_
      show Go p.tables e below PP (T15.setTop (mkF m 123 #[.val (.int p1), .val (.int p2), .val (.int p3), .val (.int p4), .val (.int p5), .val (.int la), .val (.int ca), .val (.int ce), .val (.int (0 : Int32)), .val (.int ((((p2.toUInt32 >>> ((16 : Int32) &&& 31).toUInt32).toInt32) &&& (65535 : Int32)) % (3 : Int32))), .val (.int ((p2 &&& (255 : Int32)).toUInt32.toUInt16.toUInt32.toInt32)), .val (.int ((((p2.toUInt32 >>> ((8 : Int32) &&& 31).toUInt32).toInt32) &&& (255 : Int32)).toUInt32.toUInt16.toUInt32.toInt32)), .val (.int (if (1 : Int32) < (p3 &&& (2147483647 : Int32)) then (p3 &&& (2147483647 : Int32)) else (1 : Int32))), .unset, .unset, .unset, .unset, .unset, .unset, .unset, .unset] [(.int (if (1 : Int32) < (p3 &&& (2147483647 : Int32)) then (p3 &&& (2147483647 : Int32)) else (1 : Int32)))]))
      refine Go.st (fun t k => XS.goto X15.here hx rfl (pc0 := 123) (pc' := 134) rfl (hb hby at_123) (by decide) (by decide) k) ?_
      show Go p.tables e below PP (T15.setTop (mkF m 134 #[.val (.int p1), .val (.int p2), .val (.int p3), .val (.int p4), .val (.int p5), .val (.int la), .val (.int ca), .val (.int ce), .val (.int (0 : Int32)), .val (.int ((((p2.toUInt32 >>> ((16 : Int32) &&& 31).toUInt32).toInt32) &&& (65535 : Int32)) % (3 : Int32))), .val (.int ((p2 &&& (255 : Int32)).toUInt32.toUInt16.toUInt32.toInt32)), .val (.int ((((p2.toUInt32 >>> ((8 : Int32) &&& 31).toUInt32).toInt32) &&& (255 : Int32)).toUInt32.toUInt16.toUInt32.toInt32)), .val (.int (if (1 : Int32) < (p3 &&& (2147483647 : Int32)) then (p3 &&& (2147483647 : Int32)) else (1 : Int32))), .unset, .unset, .unset, .unset, .unset, .unset, .unset, .unset] [(.int (if (1 : Int32) < (p3 &&& (2147483647 : Int32)) then (p3 &&& (2147483647 : Int32)) else (1 : Int32)))]))
      refine Go.st (fun t k => XS.istore X15.here hx rfl (hb hby at_134) rfl (l' := #[.val (.int p1), .val (.int p2), .val (.int p3), .val (.int p4), .val (.int p5), .val (.int la), .val (.int ca), .val (.int ce), .val (.int (0 : Int32)), .val (.int ((((p2.toUInt32 >>> ((16 : Int32) &&& 31).toUInt32).toInt32) &&& (65535 : Int32)) % (3 : Int32))), .val (.int ((p2 &&& (255 : Int32)).toUInt32.toUInt16.toUInt32.toInt32)), .val (.int ((((p2.toUInt32 >>> ((8 : Int32) &&& 31).toUInt32).toInt32) &&& (255 : Int32)).toUInt32.toUInt16.toUInt32.toInt32)), .val (.int (if (1 : Int32) < (p3 &&& (2147483647 : Int32)) then (p3 &&& (2147483647 : Int32)) else (1 : Int32))), .val (.int (if (1 : Int32) < (p3 &&& (2147483647 : Int32)) then (p3 &&& (2147483647 : Int32)) else (1 : Int32))), .unset, .unset, .unset, .unset, .unset, .unset, .unset]) rfl k) ?_
      show Go p.tables e below PP (T15.setTop (mkF m 136 #[.val (.int p1), .val (.int p2), .val (.int p3), .val (.int p4), .val (.int p5), .val (.int la), .val (.int ca), .val (.int ce), .val (.int (0 : Int32)), .val (.int ((((p2.toUInt32 >>> ((16 : Int32) &&& 31).toUInt32).toInt32) &&& (65535 : Int32)) % (3 : Int32))), .val (.int ((p2 &&& (255 : Int32)).toUInt32.toUInt16.toUInt32.toInt32)), .val (.int ((((p2.toUInt32 >>> ((8 : Int32) &&& 31).toUInt32).toInt32) &&& (255 : Int32)).toUInt32.toUInt16.toUInt32.toInt32)), .val (.int (if (1 : Int32) < (p3 &&& (2147483647 : Int32)) then (p3 &&& (2147483647 : Int32)) else (1 : Int32))), .val (.int (if (1 : Int32) < (p3 &&& (2147483647 : Int32)) then (p3 &&& (2147483647 : Int32)) else (1 : Int32))), .unset, .unset, .unset, .unset, .unset, .unset, .unset] []))
      exact J136 _ _ _ _ _ _ _ _ X15 e15 N0 (⟨own_3 _ _ rfl, own_ch _ _ rfl, own_ch _ _ rfl, own_mx _, own_mx _⟩)
  · --
    refine Go.st (fun t k => XS.ifNo X0.here hx rfl (hb hby at_34) rfl (XT.i0_eq_f hc34) k) ?_
    show Go p.tables e below PP (s₁.setTop (mkF m 37 #[.val (.int p1), .val (.int p2), .val (.int p3), .val (.int p4), .val (.int p5), .val (.int la), .val (.int ca), .val (.int ce), .unset, .unset, .unset, .unset, .unset, .unset, .unset, .unset, .unset, .unset, .unset, .unset, .unset] []))
    refine Go.st (fun t k => XS.iconst X0.here hx rfl (hb hby at_37) k) ?_
    show Go p.tables e below PP (s₁.setTop (mkF m 38 #[.val (.int p1), .val (.int p2), .val (.int p3), .val (.int p4), .val (.int p5), .val (.int la), .val (.int ca), .val (.int ce), .unset, .unset, .unset, .unset, .unset, .unset, .unset, .unset, .unset, .unset, .unset, .unset, .unset] [(.int (1 : Int32))]))
    refine Go.st (fun t k => XS.goto X0.here hx rfl (pc0 := 38) (pc' := 42) rfl (hb hby at_38) (by decide) (by decide) k) ?_
    show Go p.tables e below PP (s₁.setTop (mkF m 42 #[.val (.int p1), .val (.int p2), .val (.int p3), .val (.int p4), .val (.int p5), .val (.int la), .val (.int ca), .val (.int ce), .unset, .unset, .unset, .unset, .unset, .unset, .unset, .unset, .unset, .unset, .unset, .unset, .unset] [(.int (1 : Int32))]))
    refine Go.st (fun t k => XS.istore X0.here hx rfl (hb hby at_42) rfl (l' := #[.val (.int p1), .val (.int p2), .val (.int p3), .val (.int p4), .val (.int p5), .val (.int la), .val (.int ca), .val (.int ce), .val (.int (1 : Int32)), .unset, .unset, .unset, .unset, .unset, .unset, .unset, .unset, .unset, .unset, .unset, .unset]) rfl k) ?_
    show Go p.tables e below PP (s₁.setTop (mkF m 44 #[.val (.int p1), .val (.int p2), .val (.int p3), .val (.int p4), .val (.int p5), .val (.int la), .val (.int ca), .val (.int ce), .val (.int (1 : Int32)), .unset, .unset, .unset, .unset, .unset, .unset, .unset, .unset, .unset, .unset, .unset, .unset] []))
    refine Go.st (fun t k => XS.iload X0.here hx rfl (hb hby at_44) rfl k) ?_
    show Go p.tables e below PP (s₁.setTop (mkF m 46 #[.val (.int p1), .val (.int p2), .val (.int p3), .val (.int p4), .val (.int p5), .val (.int la), .val (.int ca), .val (.int ce), .val (.int (1 : Int32)), .unset, .unset, .unset, .unset, .unset, .unset, .unset, .unset, .unset, .unset, .unset, .unset] [(.int (1 : Int32))]))
    refine Go.st (fun t k => XS.ifNo X0.here hx rfl (hb hby at_46) rfl (XT.i0_eq_f (by decide)) k) ?_
    show Go p.tables e below PP (s₁.setTop (mkF m 49 #[.val (.int p1), .val (.int p2), .val (.int p3), .val (.int p4), .val (.int p5), .val (.int la), .val (.int ca), .val (.int ce), .val (.int (1 : Int32)), .unset, .unset, .unset, .unset, .unset, .unset, .unset, .unset, .unset, .unset, .unset, .unset] []))
    refine Go.st (fun t k => XS.iload X0.here hx rfl (hb hby at_49) rfl k) ?_
    show Go p.tables e below PP (s₁.setTop (mkF m 51 #[.val (.int p1), .val (.int p2), .val (.int p3), .val (.int p4), .val (.int p5), .val (.int la), .val (.int ca), .val (.int ce), .val (.int (1 : Int32)), .unset, .unset, .unset, .unset, .unset, .unset, .unset, .unset, .unset, .unset, .unset, .unset] [(.int la)]))
    refine Go.st (fun t k => XS.goto X0.here hx rfl (pc0 := 51) (pc' := 63) rfl (hb hby at_51) (by decide) (by decide) k) ?_
    show Go p.tables e below PP (s₁.setTop (mkF m 63 #[.val (.int p1), .val (.int p2), .val (.int p3), .val (.int p4), .val (.int p5), .val (.int la), .val (.int ca), .val (.int ce), .val (.int (1 : Int32)), .unset, .unset, .unset, .unset, .unset, .unset, .unset, .unset, .unset, .unset, .unset, .unset] [(.int la)]))
    refine Go.st (fun t k => XS.istore X0.here hx rfl (hb hby at_63) rfl (l' := #[.val (.int p1), .val (.int p2), .val (.int p3), .val (.int p4), .val (.int p5), .val (.int la), .val (.int ca), .val (.int ce), .val (.int (1 : Int32)), .val (.int la), .unset, .unset, .unset, .unset, .unset, .unset, .unset, .unset, .unset, .unset, .unset]) rfl k) ?_
    show Go p.tables e below PP (s₁.setTop (mkF m 65 #[.val (.int p1), .val (.int p2), .val (.int p3), .val (.int p4), .val (.int p5), .val (.int la), .val (.int ca), .val (.int ce), .val (.int (1 : Int32)), .val (.int la), .unset, .unset, .unset, .unset, .unset, .unset, .unset, .unset, .unset, .unset, .unset] []))
    refine Go.st (fun t k => XS.iload X0.here hx rfl (hb hby at_65) rfl k) ?_
    show Go p.tables e below PP (s₁.setTop (mkF m 67 #[.val (.int p1), .val (.int p2), .val (.int p3), .val (.int p4), .val (.int p5), .val (.int la), .val (.int ca), .val (.int ce), .val (.int (1 : Int32)), .val (.int la), .unset, .unset, .unset, .unset, .unset, .unset, .unset, .unset, .unset, .unset, .unset] [(.int (1 : Int32))]))
    refine Go.st (fun t k => XS.ifNo X0.here hx rfl (hb hby at_67) rfl (XT.i0_eq_f (by decide)) k) ?_
    show Go p.tables e below PP (s₁.setTop (mkF m 70 #[.val (.int p1), .val (.int p2), .val (.int p3), .val (.int p4), .val (.int p5), .val (.int la), .val (.int ca), .val (.int ce), .val (.int (1 : Int32)), .val (.int la), .unset, .unset, .unset, .unset, .unset, .unset, .unset, .unset, .unset, .unset, .unset] []))
    refine Go.st (fun t k => XS.iload X0.here hx rfl (hb hby at_70) rfl k) ?_
    show Go p.tables e below PP (s₁.setTop (mkF m 72 #[.val (.int p1), .val (.int p2), .val (.int p3), .val (.int p4), .val (.int p5), .val (.int la), .val (.int ca), .val (.int ce), .val (.int (1 : Int32)), .val (.int la), .unset, .unset, .unset, .unset, .unset, .unset, .unset, .unset, .unset, .unset, .unset] [(.int ca)]))
    refine Go.st (fun t k => XS.goto X0.here hx rfl (pc0 := 72) (pc' := 81) rfl (hb hby at_72) (by decide) (by decide) k) ?_
    show Go p.tables e below PP (s₁.setTop (mkF m 81 #[.val (.int p1), .val (.int p2), .val (.int p3), .val (.int p4), .val (.int p5), .val (.int la), .val (.int ca), .val (.int ce), .val (.int (1 : Int32)), .val (.int la), .unset, .unset, .unset, .unset, .unset, .unset, .unset, .unset, .unset, .unset, .unset] [(.int ca)]))
    refine Go.st (fun t k => XS.istore X0.here hx rfl (hb hby at_81) rfl (l' := #[.val (.int p1), .val (.int p2), .val (.int p3), .val (.int p4), .val (.int p5), .val (.int la), .val (.int ca), .val (.int ce), .val (.int (1 : Int32)), .val (.int la), .val (.int ca), .unset, .unset, .unset, .unset, .unset, .unset, .unset, .unset, .unset, .unset]) rfl k) ?_
    show Go p.tables e below PP (s₁.setTop (mkF m 83 #[.val (.int p1), .val (.int p2), .val (.int p3), .val (.int p4), .val (.int p5), .val (.int la), .val (.int ca), .val (.int ce), .val (.int (1 : Int32)), .val (.int la), .val (.int ca), .unset, .unset, .unset, .unset, .unset, .unset, .unset, .unset, .unset, .unset] []))
    refine Go.st (fun t k => XS.iload X0.here hx rfl (hb hby at_83) rfl k) ?_
    show Go p.tables e below PP (s₁.setTop (mkF m 85 #[.val (.int p1), .val (.int p2), .val (.int p3), .val (.int p4), .val (.int p5), .val (.int la), .val (.int ca), .val (.int ce), .val (.int (1 : Int32)), .val (.int la), .val (.int ca), .unset, .unset, .unset, .unset, .unset, .unset, .unset, .unset, .unset, .unset] [(.int (1 : Int32))]))
    refine Go.st (fun t k => XS.ifNo X0.here hx rfl (hb hby at_85) rfl (XT.i0_eq_f (by decide)) k) ?_
    show Go p.tables e below PP (s₁.setTop (mkF m 88 #[.val (.int p1), .val (.int p2), .val (.int p3), .val (.int p4), .val (.int p5), .val (.int la), .val (.int ca), .val (.int ce), .val (.int (1 : Int32)), .val (.int la), .val (.int ca), .unset, .unset, .unset, .unset, .unset, .unset, .unset, .unset, .unset, .unset] []))
    refine Go.st (fun t k => XS.iload X0.here hx rfl (hb hby at_88) rfl k) ?_
    show Go p.tables e below PP (s₁.setTop (mkF m 90 #[.val (.int p1), .val (.int p2), .val (.int p3), .val (.int p4), .val (.int p5), .val (.int la), .val (.int ca), .val (.int ce), .val (.int (1 : Int32)), .val (.int la), .val (.int ca), .unset, .unset, .unset, .unset, .unset, .unset, .unset, .unset, .unset, .unset] [(.int ce)]))
    refine Go.st (fun t k => XS.goto X0.here hx rfl (pc0 := 90) (pc' := 102) rfl (hb hby at_90) (by decide) (by decide) k) ?_
    show Go p.tables e below PP (s₁.setTop (mkF m 102 #[.val (.int p1), .val (.int p2), .val (.int p3), .val (.int p4), .val (.int p5), .val (.int la), .val (.int ca), .val (.int ce), .val (.int (1 : Int32)), .val (.int la), .val (.int ca), .unset, .unset, .unset, .unset, .unset, .unset, .unset, .unset, .unset, .unset] [(.int ce)]))
    refine Go.st (fun t k => XS.istore X0.here hx rfl (hb hby at_102) rfl (l' := #[.val (.int p1), .val (.int p2), .val (.int p3), .val (.int p4), .val (.int p5), .val (.int la), .val (.int ca), .val (.int ce), .val (.int (1 : Int32)), .val (.int la), .val (.int ca), .val (.int ce), .unset, .unset, .unset, .unset, .unset, .unset, .unset, .unset, .unset]) rfl k) ?_
    show Go p.tables e below PP (s₁.setTop (mkF m 104 #[.val (.int p1), .val (.int p2), .val (.int p3), .val (.int p4), .val (.int p5), .val (.int la), .val (.int ca), .val (.int ce), .val (.int (1 : Int32)), .val (.int la), .val (.int ca), .val (.int ce), .unset, .unset, .unset, .unset, .unset, .unset, .unset, .unset, .unset] []))
    refine Go.st (fun t k => XS.iconst X0.here hx rfl (hb hby at_104) k) ?_
    show Go p.tables e below PP (s₁.setTop (mkF m 105 #[.val (.int p1), .val (.int p2), .val (.int p3), .val (.int p4), .val (.int p5), .val (.int la), .val (.int ca), .val (.int ce), .val (.int (1 : Int32)), .val (.int la), .val (.int ca), .val (.int ce), .unset, .unset, .unset, .unset, .unset, .unset, .unset, .unset, .unset] [(.int (1 : Int32))]))
    refine Go.st (fun t k => XS.iloadN X0.here hx rfl (hb hby at_105) rfl k) ?_
    show Go p.tables e below PP (s₁.setTop (mkF m 106 #[.val (.int p1), .val (.int p2), .val (.int p3), .val (.int p4), .val (.int p5), .val (.int la), .val (.int ca), .val (.int ce), .val (.int (1 : Int32)), .val (.int la), .val (.int ca), .val (.int ce), .unset, .unset, .unset, .unset, .unset, .unset, .unset, .unset, .unset] [(.int p3), (.int (1 : Int32))]))
    refine Go.st (fun t k => X0.ldcI hx hown (mvT hZ (hw _ (List.mem_of_getElem? (i := 1) rfl))) (g := (mkF m 106 #[.val (.int p1), .val (.int p2), .val (.int p3), .val (.int p4), .val (.int p5), .val (.int la), .val (.int ca), .val (.int ce), .val (.int (1 : Int32)), .val (.int la), .val (.int ca), .val (.int ce), .unset, .unset, .unset, .unset, .unset, .unset, .unset, .unset, .unset] [(.int p3), (.int (1 : Int32))])) rfl (hb hby at_106) k) ?_
    show Go p.tables e below PP (s₁.setTop (mkF m 108 #[.val (.int p1), .val (.int p2), .val (.int p3), .val (.int p4), .val (.int p5), .val (.int la), .val (.int ca), .val (.int ce), .val (.int (1 : Int32)), .val (.int la), .val (.int ca), .val (.int ce), .unset, .unset, .unset, .unset, .unset, .unset, .unset, .unset, .unset] [(.int (2147483647 : Int32)), (.int p3), (.int (1 : Int32))]))
    refine Go.st (fun t k => XS.iand X0.here hx rfl (hb hby at_108) rfl k) ?_
    show Go p.tables e below PP (s₁.setTop (mkF m 109 #[.val (.int p1), .val (.int p2), .val (.int p3), .val (.int p4), .val (.int p5), .val (.int la), .val (.int ca), .val (.int ce), .val (.int (1 : Int32)), .val (.int la), .val (.int ca), .val (.int ce), .unset, .unset, .unset, .unset, .unset, .unset, .unset, .unset, .unset] [(.int (p3 &&& (2147483647 : Int32))), (.int (1 : Int32))]))
    obtain ⟨v17, T17, L17, X17, hQ17, st17⟩ := callSt X0 hx hZ (y := (⟨"java/lang/Math", "max", "(II)I"⟩ : MethodName)) (argsL := [(.int (1 : Int32)), (.int (p3 &&& (2147483647 : Int32)))]) (rest := []) hown (hw _ (List.mem_of_getElem? (i := 2) rfl)) (hw _ (List.mem_of_getElem? (i := 3) rfl)) (hw _ (List.mem_of_getElem? (i := 4) rfl)) (hw _ (List.mem_of_getElem? (i := 5) rfl)) (by decide) (rm1 l Z a0 hw [] (1 : Int32) (p3 &&& (2147483647 : Int32)) h0 n0 Zn) e0 0 (by decide) (by decide) (by decide) (by decide) (g := (mkF m 109 #[.val (.int p1), .val (.int p2), .val (.int p3), .val (.int p4), .val (.int p5), .val (.int la), .val (.int ca), .val (.int ce), .val (.int (1 : Int32)), .val (.int la), .val (.int ca), .val (.int ce), .unset, .unset, .unset, .unset, .unset, .unset, .unset, .unset, .unset] [(.int (p3 &&& (2147483647 : Int32))), (.int (1 : Int32))])) rfl (by rw [hml]; rfl) (lenOf pd_14 rfl) rfl (by show 2 * 0 + _ ≤ _; exact Nat.le_of_eq rfl) (hb hby at_109)
    obtain ⟨rfl, rfl, e17⟩ := hQ17
    rw [List.append_nil] at X17
    refine Go.st st17 ?_
    show Go p.tables e below PP (T17.setTop (mkF m 112 #[.val (.int p1), .val (.int p2), .val (.int p3), .val (.int p4), .val (.int p5), .val (.int la), .val (.int ca), .val (.int ce), .val (.int (1 : Int32)), .val (.int la), .val (.int ca), .val (.int ce), .unset, .unset, .unset, .unset, .unset, .unset, .unset, .unset, .unset] [(.int (if (1 : Int32) < (p3 &&& (2147483647 : Int32)) then (p3 &&& (2147483647 : Int32)) else (1 : Int32)))]))
    refine Go.st (fun t k => XS.istore X17.here hx rfl (hb hby at_112) rfl (l' := #[.val (.int p1), .val (.int p2), .val (.int p3), .val (.int p4), .val (.int p5), .val (.int la), .val (.int ca), .val (.int ce), .val (.int (1 : Int32)), .val (.int la), .val (.int ca), .val (.int ce), .val (.int (if (1 : Int32) < (p3 &&& (2147483647 : Int32)) then (p3 &&& (2147483647 : Int32)) else (1 : Int32))), .unset, .unset, .unset, .unset, .unset, .unset, .unset, .unset]) rfl k) ?_
    show Go p.tables e below PP (T17.setTop (mkF m 114 #[.val (.int p1), .val (.int p2), .val (.int p3), .val (.int p4), .val (.int p5), .val (.int la), .val (.int ca), .val (.int ce), .val (.int (1 : Int32)), .val (.int la), .val (.int ca), .val (.int ce), .val (.int (if (1 : Int32) < (p3 &&& (2147483647 : Int32)) then (p3 &&& (2147483647 : Int32)) else (1 : Int32))), .unset, .unset, .unset, .unset, .unset, .unset, .unset, .unset] []))
    refine Go.st (fun t k => XS.iload X17.here hx rfl (hb hby at_114) rfl k) ?_
    show Go p.tables e below PP (T17.setTop (mkF m 116 #[.val (.int p1), .val (.int p2), .val (.int p3), .val (.int p4), .val (.int p5), .val (.int la), .val (.int ca), .val (.int ce), .val (.int (1 : Int32)), .val (.int la), .val (.int ca), .val (.int ce), .val (.int (if (1 : Int32) < (p3 &&& (2147483647 : Int32)) then (p3 &&& (2147483647 : Int32)) else (1 : Int32))), .unset, .unset, .unset, .unset, .unset, .unset, .unset, .unset] [(.int p5)]))
    refine Go.st (fun t k => XS.iconst X17.here hx rfl (hb hby at_116) k) ?_
    show Go p.tables e below PP (T17.setTop (mkF m 117 #[.val (.int p1), .val (.int p2), .val (.int p3), .val (.int p4), .val (.int p5), .val (.int la), .val (.int ca), .val (.int ce), .val (.int (1 : Int32)), .val (.int la), .val (.int ca), .val (.int ce), .val (.int (if (1 : Int32) < (p3 &&& (2147483647 : Int32)) then (p3 &&& (2147483647 : Int32)) else (1 : Int32))), .unset, .unset, .unset, .unset, .unset, .unset, .unset, .unset] [(.int (2 : Int32)), (.int p5)]))
    refine Go.st (fun t k => XS.iand X17.here hx rfl (hb hby at_117) rfl k) ?_
    show Go p.tables e below PP (T17.setTop (mkF m 118 #[.val (.int p1), .val (.int p2), .val (.int p3), .val (.int p4), .val (.int p5), .val (.int la), .val (.int ca), .val (.int ce), .val (.int (1 : Int32)), .val (.int la), .val (.int ca), .val (.int ce), .val (.int (if (1 : Int32) < (p3 &&& (2147483647 : Int32)) then (p3 &&& (2147483647 : Int32)) else (1 : Int32))), .unset, .unset, .unset, .unset, .unset, .unset, .unset, .unset] [(.int (p5 &&& (2 : Int32)))]))
    by_cases hc118 : (p5 &&& (2 : Int32)) = (0 : Int32)
    · --
      refine Go.st (fun t k => XS.ifYes X17.here hx rfl (pc0 := 118) (pc' := 126) rfl (hb hby at_118) rfl (XT.i0_eq_t hc118) (by decide) (by decide) k) ?_
      show Go p.tables e below PP (T17.setTop (mkF m 126 #[.val (.int p1), .val (.int p2), .val (.int p3), .val (.int p4), .val (.int p5), .val (.int la), .val (.int ca), .val (.int ce), .val (.int (1 : Int32)), .val (.int la), .val (.int ca), .val (.int ce), .val (.int (if (1 : Int32) < (p3 &&& (2147483647 : Int32)) then (p3 &&& (2147483647 : Int32)) else (1 : Int32))), .unset, .unset, .unset, .unset, .unset, .unset, .unset, .unset] []))
      refine Go.st (fun t k => XS.iconst X17.here hx rfl (hb hby at_126) k) ?_
      show Go p.tables e below PP (T17.setTop (mkF m 127 #[.val (.int p1), .val (.int p2), .val (.int p3), .val (.int p4), .val (.int p5), .val (.int la), .val (.int ca), .val (.int ce), .val (.int (1 : Int32)), .val (.int la), .val (.int ca), .val (.int ce), .val (.int (if (1 : Int32) < (p3 &&& (2147483647 : Int32)) then (p3 &&& (2147483647 : Int32)) else (1 : Int32))), .unset, .unset, .unset, .unset, .unset, .unset, .unset, .unset] [(.int (1 : Int32))]))
      refine Go.st (fun t k => XS.iloadN X17.here hx rfl (hb hby at_127) rfl k) ?_
      show Go p.tables e below PP (T17.setTop (mkF m 128 #[.val (.int p1), .val (.int p2), .val (.int p3), .val (.int p4), .val (.int p5), .val (.int la), .val (.int ca), .val (.int ce), .val (.int (1 : Int32)), .val (.int la), .val (.int ca), .val (.int ce), .val (.int (if (1 : Int32) < (p3 &&& (2147483647 : Int32)) then (p3 &&& (2147483647 : Int32)) else (1 : Int32))), .unset, .unset, .unset, .unset, .unset, .unset, .unset, .unset] [(.int p4), (.int (1 : Int32))]))
      refine Go.st (fun t k => X17.ldcI hx hown (mvT hZ (hw _ (List.mem_of_getElem? (i := 1) rfl))) (g := (mkF m 128 #[.val (.int p1), .val (.int p2), .val (.int p3), .val (.int p4), .val (.int p5), .val (.int la), .val (.int ca), .val (.int ce), .val (.int (1 : Int32)), .val (.int la), .val (.int ca), .val (.int ce), .val (.int (if (1 : Int32) < (p3 &&& (2147483647 : Int32)) then (p3 &&& (2147483647 : Int32)) else (1 : Int32))), .unset, .unset, .unset, .unset, .unset, .unset, .unset, .unset] [(.int p4), (.int (1 : Int32))])) rfl (hb hby at_128) k) ?_
      show Go p.tables e below PP (T17.setTop (mkF m 130 #[.val (.int p1), .val (.int p2), .val (.int p3), .val (.int p4), .val (.int p5), .val (.int la), .val (.int ca), .val (.int ce), .val (.int (1 : Int32)), .val (.int la), .val (.int ca), .val (.int ce), .val (.int (if (1 : Int32) < (p3 &&& (2147483647 : Int32)) then (p3 &&& (2147483647 : Int32)) else (1 : Int32))), .unset, .unset, .unset, .unset, .unset, .unset, .unset, .unset] [(.int (2147483647 : Int32)), (.int p4), (.int (1 : Int32))]))
      refine Go.st (fun t k => XS.iand X17.here hx rfl (hb hby at_130) rfl k) ?_
      show Go p.tables e below PP (T17.setTop (mkF m 131 #[.val (.int p1), .val (.int p2), .val (.int p3), .val (.int p4), .val (.int p5), .val (.int la), .val (.int ca), .val (.int ce), .val (.int (1 : Int32)), .val (.int la), .val (.int ca), .val (.int ce), .val (.int (if (1 : Int32) < (p3 &&& (2147483647 : Int32)) then (p3 &&& (2147483647 : Int32)) else (1 : Int32))), .unset, .unset, .unset, .unset, .unset, .unset, .unset, .unset] [(.int (p4 &&& (2147483647 : Int32))), (.int (1 : Int32))]))
      obtain ⟨v18, T18, L18, X18, hQ18, st18⟩ := callSt X17 hx hZ (y := (⟨"java/lang/Math", "max", "(II)I"⟩ : MethodName)) (argsL := [(.int (1 : Int32)), (.int (p4 &&& (2147483647 : Int32)))]) (rest := []) hown (hw _ (List.mem_of_getElem? (i := 2) rfl)) (hw _ (List.mem_of_getElem? (i := 3) rfl)) (hw _ (List.mem_of_getElem? (i := 4) rfl)) (hw _ (List.mem_of_getElem? (i := 5) rfl)) (by decide) (rm1 l Z a0 hw [] (1 : Int32) (p4 &&& (2147483647 : Int32)) h0 n0 Zn) e17 0 (by decide) (by decide) (by decide) (by decide) (g := (mkF m 131 #[.val (.int p1), .val (.int p2), .val (.int p3), .val (.int p4), .val (.int p5), .val (.int la), .val (.int ca), .val (.int ce), .val (.int (1 : Int32)), .val (.int la), .val (.int ca), .val (.int ce), .val (.int (if (1 : Int32) < (p3 &&& (2147483647 : Int32)) then (p3 &&& (2147483647 : Int32)) else (1 : Int32))), .unset, .unset, .unset, .unset, .unset, .unset, .unset, .unset] [(.int (p4 &&& (2147483647 : Int32))), (.int (1 : Int32))])) rfl (by rw [hml]; rfl) (lenOf pd_14 rfl) rfl (by show 2 * 0 + _ ≤ _; exact Nat.le_of_eq rfl) (hb hby at_131)
      obtain ⟨rfl, rfl, e18⟩ := hQ18
      rw [List.append_nil] at X18
      refine Go.st st18 ?_
      show Go p.tables e below PP (T18.setTop (mkF m 134 #[.val (.int p1), .val (.int p2), .val (.int p3), .val (.int p4), .val (.int p5), .val (.int la), .val (.int ca), .val (.int ce), .val (.int (1 : Int32)), .val (.int la), .val (.int ca), .val (.int ce), .val (.int (if (1 : Int32) < (p3 &&& (2147483647 : Int32)) then (p3 &&& (2147483647 : Int32)) else (1 : Int32))), .unset, .unset, .unset, .unset, .unset, .unset, .unset, .unset] [(.int (if (1 : Int32) < (p4 &&& (2147483647 : Int32)) then (p4 &&& (2147483647 : Int32)) else (1 : Int32)))]))
      refine Go.st (fun t k => XS.istore X18.here hx rfl (hb hby at_134) rfl (l' := #[.val (.int p1), .val (.int p2), .val (.int p3), .val (.int p4), .val (.int p5), .val (.int la), .val (.int ca), .val (.int ce), .val (.int (1 : Int32)), .val (.int la), .val (.int ca), .val (.int ce), .val (.int (if (1 : Int32) < (p3 &&& (2147483647 : Int32)) then (p3 &&& (2147483647 : Int32)) else (1 : Int32))), .val (.int (if (1 : Int32) < (p4 &&& (2147483647 : Int32)) then (p4 &&& (2147483647 : Int32)) else (1 : Int32))), .unset, .unset, .unset, .unset, .unset, .unset, .unset]) rfl k) ?_
      show Go p.tables e below PP (T18.setTop (mkF m 136 #[.val (.int p1), .val (.int p2), .val (.int p3), .val (.int p4), .val (.int p5), .val (.int la), .val (.int ca), .val (.int ce), .val (.int (1 : Int32)), .val (.int la), .val (.int ca), .val (.int ce), .val (.int (if (1 : Int32) < (p3 &&& (2147483647 : Int32)) then (p3 &&& (2147483647 : Int32)) else (1 : Int32))), .val (.int (if (1 : Int32) < (p4 &&& (2147483647 : Int32)) then (p4 &&& (2147483647 : Int32)) else (1 : Int32))), .unset, .unset, .unset, .unset, .unset, .unset, .unset] []))
      exact J136 _ _ _ _ _ _ _ _ X18 e18 N0 (⟨hla, hca, hce, own_mx _, own_mx _⟩)
    · --
      refine Go.st (fun t k => XS.ifNo X17.here hx rfl (hb hby at_118) rfl (XT.i0_eq_f hc118) k) ?_
      show Go p.tables e below PP (T17.setTop (mkF m 121 #[.val (.int p1), .val (.int p2), .val (.int p3), .val (.int p4), .val (.int p5), .val (.int la), .val (.int ca), .val (.int ce), .val (.int (1 : Int32)), .val (.int la), .val (.int ca), .val (.int ce), .val (.int (if (1 : Int32) < (p3 &&& (2147483647 : Int32)) then (p3 &&& (2147483647 : Int32)) else (1 : Int32))), .unset, .unset, .unset, .unset, .unset, .unset, .unset, .unset] []))
      refine Go.st (fun t k => XS.iload X17.here hx rfl (hb hby at_121) rfl k) ?_
      show Go p.tables e below PP (T17.setTop (mkF m 123 #[.val (.int p1), .val (.int p2), .val (.int p3), .val (.int p4), .val (.int p5), .val (.int la), .val (.int ca), .val (.int ce), .val (.int (1 : Int32)), .val (.int la), .val (.int ca), .val (.int ce), .val (.int (if (1 : Int32) < (p3 &&& (2147483647 : Int32)) then (p3 &&& (2147483647 : Int32)) else (1 : Int32))), .unset, .unset, .unset, .unset, .unset, .unset, .unset, .unset] [(.int (if (1 : Int32) < (p3 &&& (2147483647 : Int32)) then (p3 &&& (2147483647 : Int32)) else (1 : Int32)))]))
      refine Go.st (fun t k => XS.goto X17.here hx rfl (pc0 := 123) (pc' := 134) rfl (hb hby at_123) (by decide) (by decide) k) ?_
      show Go p.tables e below PP (T17.setTop (mkF m 134 #[.val (.int p1), .val (.int p2), .val (.int p3), .val (.int p4), .val (.int p5), .val (.int la), .val (.int ca), .val (.int ce), .val (.int (1 : Int32)), .val (.int la), .val (.int ca), .val (.int ce), .val (.int (if (1 : Int32) < (p3 &&& (2147483647 : Int32)) then (p3 &&& (2147483647 : Int32)) else (1 : Int32))), .unset, .unset, .unset, .unset, .unset, .unset, .unset, .unset] [(.int (if (1 : Int32) < (p3 &&& (2147483647 : Int32)) then (p3 &&& (2147483647 : Int32)) else (1 : Int32)))]))
      refine Go.st (fun t k => XS.istore X17.here hx rfl (hb hby at_134) rfl (l' := #[.val (.int p1), .val (.int p2), .val (.int p3), .val (.int p4), .val (.int p5), .val (.int la), .val (.int ca), .val (.int ce), .val (.int (1 : Int32)), .val (.int la), .val (.int ca), .val (.int ce), .val (.int (if (1 : Int32) < (p3 &&& (2147483647 : Int32)) then (p3 &&& (2147483647 : Int32)) else (1 : Int32))), .val (.int (if (1 : Int32) < (p3 &&& (2147483647 : Int32)) then (p3 &&& (2147483647 : Int32)) else (1 : Int32))), .unset, .unset, .unset, .unset, .unset, .unset, .unset]) rfl k) ?_
      show Go p.tables e below PP (T17.setTop (mkF m 136 #[.val (.int p1), .val (.int p2), .val (.int p3), .val (.int p4), .val (.int p5), .val (.int la), .val (.int ca), .val (.int ce), .val (.int (1 : Int32)), .val (.int la), .val (.int ca), .val (.int ce), .val (.int (if (1 : Int32) < (p3 &&& (2147483647 : Int32)) then (p3 &&& (2147483647 : Int32)) else (1 : Int32))), .val (.int (if (1 : Int32) < (p3 &&& (2147483647 : Int32)) then (p3 &&& (2147483647 : Int32)) else (1 : Int32))), .unset, .unset, .unset, .unset, .unset, .unset, .unset] []))
      exact J136 _ _ _ _ _ _ _ _ X17 e17 N0 (⟨hla, hca, hce, own_mx _, own_mx _⟩)
set_option maxRecDepth 65536 in
set_option maxHeartbeats 40000000 in
theorem comes_1 {Post : Tables → Env → Array Value → State → Outcome → State → Prop} (hpost : ∀ tb e args s v u, (limb_1_1.after args s (.returned v) u = true ∧ limb_1_2.after args s (.returned v) u = true ∧ True) → ReturnedEndW s (.returned v) u (Jvm.fieldLocs frame_1_writes args s ++ Jvm.arrayLocs frame_1_arrays args s ++ Jvm.staticLocs frame_1_statics s) 32 2176 → Post tb e args s (.returned v) u) :
    ArmFor flags0 classFile x code maxLocals ret World_1 tables_1 room_1 Calls_1 rest_1 Pre_1 Post := by
  intro l hfl _ _ p e ha hc hk s m args below hf hA hF happ hP
  obtain ⟨hcalls, hrest, hpre⟩ := hP
  obtain ⟨-, -, -, hnamed, -, -, -, hat⟩ := (Spec.applies_iff hf).mp happ
  obtain ⟨hg, hn⟩ := and_e (Cond.before_iff.mp (show (Jvm.Cond.and given_1 narrow_1).before args s = true from hpre))
  obtain ⟨g1, g2⟩ := and_e hg
  obtain ⟨g3, g4⟩ := and_e g2
  obtain ⟨g5, g6⟩ := and_e g4
  obtain ⟨g7, g8⟩ := and_e g6
  obtain ⟨g9, g10⟩ := and_e g8
  obtain ⟨w0, w1, w2, w3, w4, rfl⟩ : ∃ w0 w1 w2 w3 w4 : Value, args = #[w0, w1, w2, w3, w4] := by
    have hs : args.size = 5 := by simpa [Cond.value, given_1] using g1
    obtain ⟨L⟩ := args
    match L, hs with
    | [w0, w1, w2, w3, w4], _ => exact ⟨w0, w1, w2, w3, w4, rfl⟩
  have hw := fun d (hd : d ∈ tables_1) => atoms_spec (ws := Jvm.Cond.code x code maxLocals ret :: tables_1) hat d (List.mem_cons_of_mem _ hd)
  have hfit : Fit s := fun {y c} hc i hi => by
    obtain ⟨ha, rfl⟩ := Array.getElem?_eq_some_iff.mp hc
    have q := List.all_eq_true.mp ((Array.all_eq_true_iff_forall_mem.mp hF) _ (Array.getElem_mem ha)) i (List.mem_range.mpr hi)
    simpa [Array.getElem?_eq_getElem hi] using q
  obtain ⟨hsets, hown0⟩ := atoms_of _ (rest_1_c_eq ▸ (show rest_1_c.before _ s = true from hrest))
  have hr0 := Cond.before_iff.mp hown0
  obtain ⟨i0, ei0⟩ := is_v g3
  obtain rfl : w0 = (.int i0) := Option.some.inj ei0
  obtain ⟨i1, ei1⟩ := is_v g5
  obtain rfl : w1 = (.int i1) := Option.some.inj ei1
  obtain ⟨i2, ei2⟩ := is_v g7
  obtain rfl : w2 = (.int i2) := Option.some.inj ei2
  obtain ⟨i3, ei3⟩ := is_v g9
  obtain rfl : w3 = (.int i3) := Option.some.inj ei3
  obtain ⟨i4, ei4⟩ := is_v g10
  obtain rfl : w4 = (.int i4) := Option.some.inj ei4
  have hEL : EW s _ consts_1 := (EW.cons (hw _ (List.mem_of_getElem? (i := 39) rfl)) (by decide) (EW.cons (hw _ (List.mem_of_getElem? (i := 24) rfl)) (by decide) EW.nil))
  have CH : CHv s consts_1 s.vm s.heap := CHv.start hEL (fun p hp => hcalls.1 p hp) (hsets _ (List.mem_of_getElem? (i := 2) rfl)) (hw _ (List.mem_of_getElem? (i := 25) rfl)) (hw _ (List.mem_of_getElem? (i := 11) rfl))
  obtain ⟨zc, evC⟩ := is_v (Cond.before_iff.mp (hsets _ (List.mem_of_getElem? (i := 1) rfl)))
  have SC := Sta.start evC (Or.inl (hsets _ (List.mem_of_getElem? (i := 0) rfl)))
  have hzc : ¬ zc = (0 : Int32) := gotF (Cond.eq_ints evC rfl) (not_v (Cond.before_iff.mp (hsets _ (List.mem_of_getElem? (i := 2) rfl))))
  have O := Old.start s
  obtain ⟨n, o, h1, h2, h3, _, L, rfl, ⟨rfl, N⟩, hCR, hq⟩ := rm0 l s _ hw tables_1 i0 i1 i2 i3 i4 zc s.heap s.heap.size (Nat.le_refl _) hEL SC hzc O p e ha hc hk s m _ below hf ((Spec.applies_iff_loose hf).mp happ).1 ⟨rfl, State.Warmed39.refl s, rfl, CH⟩ trivial
  refine ⟨n, _, h1, h2, h3, hpost _ _ _ _ _ _ ⟨Cond.after_iff.mpr rfl, Cond.after_iff.mpr (eq_i res_at (Term.int_eval (1)) rfl), trivial⟩ ⟨hq.1, hq.2.1, hq.2.2.1, (hq.2.2.2.sift fun y hy => Or.inr (N y hy)).mono (by decide) (by decide)⟩⟩
theorem main_1_1 : Claimed_1_1 := comes_1 fun _ _ _ _ _ _ h hF => ⟨h.1, hF⟩
theorem main_1_2 : Claimed_1_2 := comes_1 fun _ _ _ _ _ _ h hF => ⟨h.2.1, hF⟩
end Jvm.Pilot.@@N@@
namespace Jvm.Pilot.@@N@@
open Jvm Jvm.ClassFile Sem Op Lib Jvm.Free Jvm.Stand Jvm.Pilot.@@N@@.Jvm.D
/-! MADE BY PROGRAM (witnessworld.py) out of the Statement's table words and the real class files: 22 classes; the members and pool entries that the words name. The judged class is class 1, her method 2. -/
namespace start1
open Jvm.ClassFile
def u (s : String) : CpInfo := .utf8 (stringToUtf16 s)
/-- a pool by its gaps: so many unusable entries, then the entry; so many at the end -/
def gap : Nat → List CpInfo → List CpInfo
  | 0, r => r
  | n + 1, r => .unusable :: gap n r
def poolList (es : List (Nat × CpInfo)) (last : Nat) : List CpInfo := es.foldr (fun e r => gap e.1 (e.2 :: r)) (gap last [])
def pool (es : List (Nat × CpInfo)) (last : Nat) : Array CpInfo := ⟨poolList es last⟩
def fileOf (pool : Array CpInfo) (this : Nat) (attrs : Array Attribute := #[]) (ms : Array MethodInfo := #[]) (fl : Nat := 33) (sup : Nat := 0) (ifs : Array Nat := #[]) (fds : Array FieldInfo := #[]) : ClassFile where
  minorVersion := 0
  majorVersion := 65
  constantPool := pool
  accessFlags := fl
  thisClass := this
  superClass := sup
  interfaces := ifs
  fields := fds
  methods := ms
  attributes := attrs
def plain (name : String) (sup : Option ClassId) : Class where
  name := name
  kind := .ordinary
  loader := none
  accessFlags := 33
  super := sup
  interfaces := #[]
  cf := none
  fields := #[]
  methods := #[]
  instanceTypes := #[]
  staticTypes := #[]
  resolved := #[]
  callSites := []
  init := .initialized
  statics := none
  mirror := none

def pool0 : Array CpInfo := pool [(5, u "<init>"), (0, u "()V"), (1, .class_ 10), (1, u "java/lang/Object")] 113

def k0c0 : Code := { maxStack := 0, maxLocals := 1, code := object_method_1_code, exceptionTable := #[], attributes := #[] }
def k0m0 : Method := { name := "<init>", desc := "()V", sig := { parameters := [], returnType := none }, accessFlags := 1, code := some k0c0 }
/-- java/lang/Object -/
def k0 : Class := { plain "java/lang/Object" none with
  accessFlags := 33
  interfaces := #[]
  cf := some (fileOf pool0 8 #[] #[{ accessFlags := 1, nameIndex := 5, descriptorIndex := 6, attributes := #[] }] 33 0 #[] #[])
  fields := #[]
  methods := #[k0m0]
  instanceTypes := #[]
  staticTypes := #[]
  resolved := Array.replicate 124 none
  statics := none }

def pool1 : Array CpInfo := pool [(2, .class_ 4), (1, u "java/lang/Object"), (0, u "<init>"), (0, u "()V"), (0, .class_ 8), (0, u "java/lang/String"), (0, .methodref 7 10), (0, .nameAndType 5 11), (0, u "([C)V"), (0, .methodref 7 13), (0, .nameAndType 14 15), (0, u "valueOf"), (0, u "(C)Ljava/lang/String;"), (0, .integer 65535), (0, .integer 2147483647), (0, .methodref 19 20), (0, .class_ 21), (0, .nameAndType 22 23), (0, u "java/lang/Math"), (0, u "max"), (0, u "(II)I"), (0, .methodref 25 26), (0, .class_ 27), (0, .nameAndType 28 29), (0, u "com/example/strict_roles/strictroles/SourceLineEqualsPinLaw"), (0, u "mk"), (0, u "(ICC)Ljava/lang/String;"), (0, .class_ 31), (0, u "com/example/strict_roles/strictroles/SourceLine"), (0, .methodref 30 33), (0, .nameAndType 5 34), (0, u "(Ljava/lang/String;I)V"), (0, .methodref 30 36), (0, .nameAndType 37 38), (0, u "equals"), (0, u "(Ljava/lang/Object;)Z"), (3, u "law"), (0, u "(IIIII)Z")] 2

def k1m0 : Method := { name := "<init>", desc := "()V", sig := { parameters := [], returnType := none }, accessFlags := 1, code := none }
def k1c1 : Code := { maxStack := 3, maxLocals := 4, code := method_2_code, exceptionTable := #[], attributes := #[] }
def k1m1 : Method := { name := "mk", desc := "(ICC)Ljava/lang/String;", sig := { parameters := [.int, .char, .char], returnType := some (.object "java/lang/String") }, accessFlags := 10, code := some k1c1 }
def k1c2 : Code := { maxStack := 4, maxLocals := 21, code := code, exceptionTable := #[], attributes := #[] }
def k1m2 : Method := { name := "law", desc := "(IIIII)Z", sig := { parameters := [.int, .int, .int, .int, .int], returnType := some .boolean }, accessFlags := 9, code := some k1c2 }
/-- com/example/strict_roles/strictroles/SourceLineEqualsPinLaw -/
def k1 : Class := { plain "com/example/strict_roles/strictroles/SourceLineEqualsPinLaw" (some 0) with
  accessFlags := 49
  interfaces := #[]
  cf := some (fileOf pool1 25 #[] #[{ accessFlags := 1, nameIndex := 5, descriptorIndex := 6, attributes := #[] }, { accessFlags := 10, nameIndex := 28, descriptorIndex := 29, attributes := #[] }, { accessFlags := 9, nameIndex := 42, descriptorIndex := 43, attributes := #[] }] 49 2 #[] #[])
  fields := #[]
  methods := #[k1m0, k1m1, k1m2]
  instanceTypes := #[]
  staticTypes := #[]
  resolved := Array.replicate 46 none
  statics := none }

def pool2 : Array CpInfo := pool [(1, .class_ 2), (0, u "java/lang/Math"), (1, .class_ 6), (1, u "java/lang/Object"), (0, u "<init>"), (0, u "()V"), (89, .class_ 100), (1, u "java/lang/Math$RandomNumberGeneratorHolder"), (71, u "negativeZeroFloatBits"), (0, u "J"), (2, u "negativeZeroDoubleBits"), (21, u "max"), (46, u "$assertionsDisabled"), (0, u "Z"), (88, u "(II)I"), (2, u "twoToTheDoubleScaleDown"), (0, u "D"), (4, u "twoToTheDoubleScaleUp"), (9, u "E"), (3, u "PI"), (2, u "TAU"), (2, u "DEGREES_TO_RADIANS"), (0, u "RADIANS_TO_DEGREES")] 94

def k2m0 : Method := { name := "<init>", desc := "()V", sig := { parameters := [], returnType := none }, accessFlags := 2, code := none }
def k2c1 : Code := { maxStack := 2, maxLocals := 2, code := jdk_29_method_65_code, exceptionTable := #[], attributes := #[] }
def k2m1 : Method := { name := "max", desc := "(II)I", sig := { parameters := [.int, .int], returnType := some .int }, accessFlags := 9, code := some k2c1 }
/-- java/lang/Math -/
def k2 : Class := { plain "java/lang/Math" (some 0) with
  accessFlags := 49
  interfaces := #[]
  cf := some (fileOf pool2 1 #[.nestMembers #[98]] #[{ accessFlags := 2, nameIndex := 7, descriptorIndex := 8, attributes := #[] }, { accessFlags := 9, nameIndex := 198, descriptorIndex := 335, attributes := #[] }] 49 4 #[] #[{ accessFlags := 25, nameIndex := 354, descriptorIndex := 339, attributes := #[] }, { accessFlags := 25, nameIndex := 358, descriptorIndex := 339, attributes := #[] }, { accessFlags := 25, nameIndex := 361, descriptorIndex := 339, attributes := #[] }, { accessFlags := 26, nameIndex := 364, descriptorIndex := 339, attributes := #[] }, { accessFlags := 26, nameIndex := 365, descriptorIndex := 339, attributes := #[] }, { accessFlags := 26, nameIndex := 172, descriptorIndex := 173, attributes := #[] }, { accessFlags := 26, nameIndex := 176, descriptorIndex := 173, attributes := #[] }, { accessFlags := 8, nameIndex := 344, descriptorIndex := 339, attributes := #[] }, { accessFlags := 8, nameIndex := 338, descriptorIndex := 339, attributes := #[] }, { accessFlags := 4120, nameIndex := 245, descriptorIndex := 246, attributes := #[] }])
  fields := #[{ name := "E", type := .double, accessFlags := 25, slot := 0, constantValue := 0 }, { name := "PI", type := .double, accessFlags := 25, slot := 1, constantValue := 0 }, { name := "TAU", type := .double, accessFlags := 25, slot := 2, constantValue := 0 }, { name := "DEGREES_TO_RADIANS", type := .double, accessFlags := 26, slot := 3, constantValue := 0 }, { name := "RADIANS_TO_DEGREES", type := .double, accessFlags := 26, slot := 4, constantValue := 0 }, { name := "negativeZeroFloatBits", type := .long, accessFlags := 26, slot := 5, constantValue := 0 }, { name := "negativeZeroDoubleBits", type := .long, accessFlags := 26, slot := 6, constantValue := 0 }, { name := "twoToTheDoubleScaleUp", type := .double, accessFlags := 8, slot := 7, constantValue := 0 }, { name := "twoToTheDoubleScaleDown", type := .double, accessFlags := 8, slot := 8, constantValue := 0 }, { name := "$assertionsDisabled", type := .boolean, accessFlags := 4120, slot := 9, constantValue := 0 }]
  methods := #[k2m0, k2m1]
  instanceTypes := #[]
  staticTypes := #[.double, .double, .double, .double, .double, .long, .long, .double, .double, .boolean]
  resolved := Array.replicate 460 none
  statics := none }

def pool3 : Array CpInfo := pool [(1, .class_ 2), (0, u "java/io/Serializable"), (0, .class_ 4), (0, u "java/lang/Object")] 2

/-- java/io/Serializable -/
def k3 : Class := { plain "java/io/Serializable" (some 0) with
  accessFlags := 1537
  interfaces := #[]
  cf := some (fileOf pool3 1 #[] #[] 1537 3 #[] #[])
  fields := #[]
  methods := #[]
  instanceTypes := #[]
  staticTypes := #[]
  resolved := Array.replicate 7 none
  statics := none }

def pool4 : Array CpInfo := pool [(1, .class_ 2), (0, u "java/lang/Comparable"), (0, .class_ 4), (0, u "java/lang/Object")] 7

/-- java/lang/Comparable -/
def k4 : Class := { plain "java/lang/Comparable" (some 0) with
  accessFlags := 1537
  interfaces := #[]
  cf := some (fileOf pool4 1 #[] #[] 1537 3 #[] #[])
  fields := #[]
  methods := #[]
  instanceTypes := #[]
  staticTypes := #[]
  resolved := Array.replicate 12 none
  statics := none }

def pool5 : Array CpInfo := pool [(2, .class_ 4), (1, u "java/lang/CharSequence"), (42, .class_ 48), (0, u "java/lang/CharSequence$1CodePointIterator"), (10, .class_ 60), (0, u "java/lang/CharSequence$1CharIterator"), (5, .class_ 67), (0, u "java/lang/Object")] 63

/-- java/lang/CharSequence -/
def k5 : Class := { plain "java/lang/CharSequence" (some 0) with
  accessFlags := 1537
  interfaces := #[]
  cf := some (fileOf pool5 2 #[.nestMembers #[47, 59]] #[] 1537 66 #[] #[])
  fields := #[]
  methods := #[]
  instanceTypes := #[]
  staticTypes := #[]
  resolved := Array.replicate 131 none
  statics := none }

def pool6 : Array CpInfo := pool [(1, .class_ 2), (0, u "java/lang/constant/Constable"), (0, .class_ 4), (0, u "java/lang/Object")] 6

/-- java/lang/constant/Constable -/
def k6 : Class := { plain "java/lang/constant/Constable" (some 0) with
  accessFlags := 1537
  interfaces := #[]
  cf := some (fileOf pool6 1 #[] #[] 1537 3 #[] #[])
  fields := #[]
  methods := #[]
  instanceTypes := #[]
  staticTypes := #[]
  resolved := Array.replicate 11 none
  statics := none }

def pool7 : Array CpInfo := pool [(1, .class_ 2), (0, u "java/lang/constant/ConstantDesc"), (0, .class_ 4), (0, u "java/lang/Object")] 32

/-- java/lang/constant/ConstantDesc -/
def k7 : Class := { plain "java/lang/constant/ConstantDesc" (some 0) with
  accessFlags := 1537
  interfaces := #[]
  cf := some (fileOf pool7 1 #[] #[] 1537 3 #[] #[])
  fields := #[]
  methods := #[]
  instanceTypes := #[]
  staticTypes := #[]
  resolved := Array.replicate 37 none
  statics := none }

def pool8 : Array CpInfo := pool [(1, .methodref 2 3), (0, .class_ 4), (0, .nameAndType 5 6), (0, u "java/lang/Object"), (0, u "<init>"), (0, u "()V"), (0, .string 8), (0, u ""), (0, .fieldref 10 11), (0, .class_ 12), (0, .nameAndType 13 14), (0, u "java/lang/String"), (0, u "value"), (0, u "[B"), (0, .fieldref 10 16), (0, .nameAndType 17 18), (0, u "coder"), (0, u "B"), (2, u "hash"), (0, u "I"), (2, u "hashIsZero"), (0, u "Z"), (0, .methodref 10 28), (0, .nameAndType 5 29), (0, u "([CIILjava/lang/Void;)V"), (8, .fieldref 10 39), (0, .nameAndType 40 26), (0, u "COMPACT_STRINGS"), (1, .class_ 44), (1, u "java/lang/StringUTF16"), (0, u "compress"), (1, .methodref 42 48), (0, .nameAndType 49 50), (0, u "coderFromArrayLen"), (0, u "([BI)B"), (2, u "toBytes"), (53, .class_ 109), (1, u "java/lang/StringLatin1"), (67, .methodref 42 178), (0, .nameAndType 45 179), (0, u "([CII)[B"), (29, .methodref 10 210), (0, .nameAndType 5 211), (0, u "([BB)V"), (157, u "(C)Z"), (171, .methodref 107 542), (0, .nameAndType 543 544), (0, u "equals"), (0, u "([B[B)Z"), (28, u "(Ljava/lang/Object;)Z"), (1, .class_ 576), (0, u "java/lang/CharSequence"), (22, u "CASE_INSENSITIVE_ORDER"), (0, u "Ljava/util/Comparator;"), (181, u "valueOf"), (0, u "(C)Ljava/lang/String;"), (226, u "([C)V"), (4, .methodref 107 1016), (0, .nameAndType 1017 369), (0, u "canEncode"), (0, .methodref 107 1019), (0, .nameAndType 53 1020), (0, u "(C)[B"), (80, u "serialPersistentFields"), (0, u "[Ljava/io/ObjectStreamField;"), (0, .class_ 1104), (0, u "java/lang/String$CaseInsensitiveComparator"), (1, .class_ 1107), (0, u "java/io/Serializable"), (0, .class_ 1109), (0, u "java/lang/Comparable"), (0, .class_ 1111), (0, u "java/lang/constant/Constable"), (0, .class_ 1113), (0, u "java/lang/constant/ConstantDesc"), (2, u "serialVersionUID"), (0, u "J"), (3, u "REPL"), (0, u "C"), (2, u "LATIN1"), (1, u "UTF16")] 323

def k8m0 : Method := { name := "<init>", desc := "()V", sig := { parameters := [], returnType := none }, accessFlags := 1, code := none }
def k8c1 : Code := { maxStack := 5, maxLocals := 2, code := jdk_42_method_3_code, exceptionTable := #[], attributes := #[] }
def k8m1 : Method := { name := "<init>", desc := "([C)V", sig := { parameters := [(.array .char)], returnType := none }, accessFlags := 1, code := some k8c1 }
def k8c2 : Code := { maxStack := 2, maxLocals := 3, code := jdk_42_method_66_code, exceptionTable := #[], attributes := #[] }
def k8m2 : Method := { name := "equals", desc := "(Ljava/lang/Object;)Z", sig := { parameters := [(.object "java/lang/Object")], returnType := some .boolean }, accessFlags := 1, code := some k8c2 }
def k8c3 : Code := { maxStack := 4, maxLocals := 1, code := jdk_42_method_139_code, exceptionTable := #[], attributes := #[] }
def k8m3 : Method := { name := "valueOf", desc := "(C)Ljava/lang/String;", sig := { parameters := [.char], returnType := some (.object "java/lang/String") }, accessFlags := 9, code := some k8c3 }
def k8c4 : Code := { maxStack := 4, maxLocals := 6, code := jdk_42_method_149_code, exceptionTable := #[], attributes := #[] }
def k8m4 : Method := { name := "<init>", desc := "([CIILjava/lang/Void;)V", sig := { parameters := [(.array .char), .int, .int, (.object "java/lang/Void")], returnType := none }, accessFlags := 2, code := some k8c4 }
def k8c5 : Code := { maxStack := 2, maxLocals := 3, code := jdk_42_method_151_code, exceptionTable := #[], attributes := #[] }
def k8m5 : Method := { name := "<init>", desc := "([BB)V", sig := { parameters := [(.array .byte), .byte], returnType := none }, accessFlags := 0, code := some k8c5 }
/-- java/lang/String -/
def k8 : Class := { plain "java/lang/String" (some 0) with
  accessFlags := 49
  interfaces := #[3, 4, 5, 6, 7]
  cf := some (fileOf pool8 10 #[.nestMembers #[1103]] #[{ accessFlags := 1, nameIndex := 5, descriptorIndex := 6, attributes := #[] }, { accessFlags := 1, nameIndex := 5, descriptorIndex := 1010, attributes := #[] }, { accessFlags := 1, nameIndex := 543, descriptorIndex := 573, attributes := #[] }, { accessFlags := 9, nameIndex := 782, descriptorIndex := 783, attributes := #[] }, { accessFlags := 2, nameIndex := 5, descriptorIndex := 29, attributes := #[] }, { accessFlags := 0, nameIndex := 5, descriptorIndex := 211, attributes := #[] }] 49 2 #[1106, 1108, 575, 1110, 1112] #[{ accessFlags := 18, nameIndex := 13, descriptorIndex := 14, attributes := #[] }, { accessFlags := 18, nameIndex := 17, descriptorIndex := 18, attributes := #[] }, { accessFlags := 2, nameIndex := 21, descriptorIndex := 22, attributes := #[] }, { accessFlags := 2, nameIndex := 25, descriptorIndex := 26, attributes := #[] }, { accessFlags := 26, nameIndex := 1116, descriptorIndex := 1117, attributes := #[] }, { accessFlags := 24, nameIndex := 40, descriptorIndex := 26, attributes := #[] }, { accessFlags := 26, nameIndex := 1101, descriptorIndex := 1102, attributes := #[] }, { accessFlags := 26, nameIndex := 1121, descriptorIndex := 1122, attributes := #[] }, { accessFlags := 25, nameIndex := 599, descriptorIndex := 600, attributes := #[] }, { accessFlags := 24, nameIndex := 1125, descriptorIndex := 18, attributes := #[] }, { accessFlags := 24, nameIndex := 1127, descriptorIndex := 18, attributes := #[] }])
  fields := #[{ name := "value", type := (.array .byte), accessFlags := 18, slot := 0, constantValue := 0 }, { name := "coder", type := .byte, accessFlags := 18, slot := 1, constantValue := 0 }, { name := "hash", type := .int, accessFlags := 2, slot := 2, constantValue := 0 }, { name := "hashIsZero", type := .boolean, accessFlags := 2, slot := 3, constantValue := 0 }, { name := "serialVersionUID", type := .long, accessFlags := 26, slot := 0, constantValue := 0 }, { name := "COMPACT_STRINGS", type := .boolean, accessFlags := 24, slot := 1, constantValue := 0 }, { name := "serialPersistentFields", type := (.array (.object "java/io/ObjectStreamField")), accessFlags := 26, slot := 2, constantValue := 0 }, { name := "REPL", type := .char, accessFlags := 26, slot := 3, constantValue := 0 }, { name := "CASE_INSENSITIVE_ORDER", type := (.object "java/util/Comparator"), accessFlags := 25, slot := 4, constantValue := 0 }, { name := "LATIN1", type := .byte, accessFlags := 24, slot := 5, constantValue := 0 }, { name := "UTF16", type := .byte, accessFlags := 24, slot := 6, constantValue := 0 }]
  methods := #[k8m0, k8m1, k8m2, k8m3, k8m4, k8m5]
  instanceTypes := #[(.array .byte), .byte, .int, .boolean]
  staticTypes := #[.long, .boolean, (.array (.object "java/io/ObjectStreamField")), .char, (.object "java/util/Comparator"), .byte, .byte]
  resolved := Array.replicate 1451 none
  statics := some 0 }

def pool9 : Array CpInfo := pool [(1, .methodref 2 3), (0, .class_ 4), (0, .nameAndType 5 6), (0, u "java/lang/Object"), (0, u "<init>"), (0, u "()V"), (9, .string 17), (0, u "sourceName"), (0, .methodref 19 20), (0, .class_ 21), (0, .nameAndType 22 23), (0, u "java/util/Objects"), (0, u "requireNonNull"), (0, u "(Ljava/lang/Object;Ljava/lang/String;)Ljava/lang/Object;"), (0, .class_ 25), (0, u "java/lang/String"), (0, .fieldref 27 28), (0, .class_ 29), (0, .nameAndType 17 30), (0, u "com/example/strict_roles/strictroles/SourceLine"), (0, u "Ljava/lang/String;"), (0, .fieldref 27 32), (0, .nameAndType 33 34), (0, u "line"), (0, u "I"), (0, .methodref 24 36), (0, .nameAndType 37 38), (0, u "equals"), (0, u "(Ljava/lang/Object;)Z"), (13, u "(Ljava/lang/String;I)V")] 28

def k9c0 : Code := { maxStack := 3, maxLocals := 3, code := prog_39_method_1_code, exceptionTable := #[], attributes := #[] }
def k9m0 : Method := { name := "<init>", desc := "(Ljava/lang/String;I)V", sig := { parameters := [(.object "java/lang/String"), .int], returnType := none }, accessFlags := 1, code := some k9c0 }
def k9c1 : Code := { maxStack := 2, maxLocals := 3, code := prog_39_method_4_code, exceptionTable := #[], attributes := #[] }
def k9m1 : Method := { name := "equals", desc := "(Ljava/lang/Object;)Z", sig := { parameters := [(.object "java/lang/Object")], returnType := some .boolean }, accessFlags := 1, code := some k9c1 }
/-- com/example/strict_roles/strictroles/SourceLine -/
def k9 : Class := { plain "com/example/strict_roles/strictroles/SourceLine" (some 0) with
  accessFlags := 49
  interfaces := #[]
  cf := some (fileOf pool9 27 #[] #[{ accessFlags := 1, nameIndex := 5, descriptorIndex := 52, attributes := #[] }, { accessFlags := 1, nameIndex := 37, descriptorIndex := 38, attributes := #[] }] 49 2 #[] #[{ accessFlags := 18, nameIndex := 17, descriptorIndex := 30, attributes := #[] }, { accessFlags := 18, nameIndex := 33, descriptorIndex := 34, attributes := #[] }])
  fields := #[{ name := "sourceName", type := (.object "java/lang/String"), accessFlags := 18, slot := 0, constantValue := 0 }, { name := "line", type := .int, accessFlags := 18, slot := 1, constantValue := 0 }]
  methods := #[k9m0, k9m1]
  instanceTypes := #[(.object "java/lang/String"), .int]
  staticTypes := #[]
  resolved := Array.replicate 81 none
  statics := none }

def pool10 : Array CpInfo := pool [(2, .class_ 4), (1, u "java/lang/Object"), (0, u "<init>"), (0, u "()V"), (35, .class_ 44), (1, u "java/util/Objects"), (0, u "requireNonNull"), (48, u "(Ljava/lang/Object;Ljava/lang/String;)Ljava/lang/Object;")] 89

def k10m0 : Method := { name := "<init>", desc := "()V", sig := { parameters := [], returnType := none }, accessFlags := 2, code := none }
def k10c1 : Code := { maxStack := 3, maxLocals := 2, code := jdk_31_method_11_code, exceptionTable := #[], attributes := #[] }
def k10m1 : Method := { name := "requireNonNull", desc := "(Ljava/lang/Object;Ljava/lang/String;)Ljava/lang/Object;", sig := { parameters := [(.object "java/lang/Object"), (.object "java/lang/String")], returnType := some (.object "java/lang/Object") }, accessFlags := 9, code := some k10c1 }
/-- java/util/Objects -/
def k10 : Class := { plain "java/util/Objects" (some 0) with
  accessFlags := 49
  interfaces := #[]
  cf := some (fileOf pool10 42 #[] #[{ accessFlags := 2, nameIndex := 5, descriptorIndex := 6, attributes := #[] }, { accessFlags := 9, nameIndex := 45, descriptorIndex := 94, attributes := #[] }] 49 2 #[] #[])
  fields := #[]
  methods := #[k10m0, k10m1]
  instanceTypes := #[]
  staticTypes := #[]
  resolved := Array.replicate 184 none
  statics := none }

def pool11 : Array CpInfo := pool [(6, .class_ 8), (1, u "java/lang/Object"), (0, u "<init>"), (0, u "()V"), (1, .class_ 14), (1, u "java/lang/StringUTF16"), (31, u "$assertionsDisabled"), (0, u "Z"), (13, u "HI_BYTE_SHIFT"), (0, u "I"), (2, u "LO_BYTE_SHIFT"), (49, .methodref 12 116), (0, .nameAndType 117 118), (0, u "compress"), (0, u "([CI[BII)I"), (3, u "([CII)[B"), (138, u "coderFromArrayLen"), (0, u "([BI)B"), (106, .class_ 371), (1, u "java/lang/StringUTF16$LinesSpliterator"), (58, u "MAX_LENGTH"), (196, .class_ 628), (0, u "java/lang/StringUTF16$CodePointsSpliterator"), (0, .class_ 630), (0, u "java/lang/StringUTF16$CharsSpliterator")] 4

def k11m0 : Method := { name := "<init>", desc := "()V", sig := { parameters := [], returnType := none }, accessFlags := 0, code := none }
def k11c1 : Code := { maxStack := 2, maxLocals := 2, code := jdk_52_method_15_code, exceptionTable := #[], attributes := #[] }
def k11m1 : Method := { name := "coderFromArrayLen", desc := "([BI)B", sig := { parameters := [(.array .byte), .int], returnType := some .byte }, accessFlags := 8, code := some k11c1 }
def k11c2 : Code := { maxStack := 5, maxLocals := 6, code := jdk_52_method_16_code, exceptionTable := #[], attributes := #[] }
def k11m2 : Method := { name := "compress", desc := "([CII)[B", sig := { parameters := [(.array .char), .int, .int], returnType := some (.array .byte) }, accessFlags := 9, code := some k11c2 }
def k11c3 : Code := { maxStack := 3, maxLocals := 7, code := jdk_52_method_21_code, exceptionTable := #[], attributes := #[] }
def k11m3 : Method := { name := "compress", desc := "([CI[BII)I", sig := { parameters := [(.array .char), .int, (.array .byte), .int, .int], returnType := some .int }, accessFlags := 9, code := some k11c3 }
/-- java/lang/StringUTF16 -/
def k11 : Class := { plain "java/lang/StringUTF16" (some 0) with
  accessFlags := 48
  interfaces := #[]
  cf := some (fileOf pool11 12 #[.nestMembers #[627, 629, 369]] #[{ accessFlags := 0, nameIndex := 9, descriptorIndex := 10, attributes := #[] }, { accessFlags := 8, nameIndex := 261, descriptorIndex := 262, attributes := #[] }, { accessFlags := 9, nameIndex := 117, descriptorIndex := 122, attributes := #[] }, { accessFlags := 9, nameIndex := 117, descriptorIndex := 118, attributes := #[] }] 48 6 #[] #[{ accessFlags := 26, nameIndex := 61, descriptorIndex := 62, attributes := #[] }, { accessFlags := 26, nameIndex := 65, descriptorIndex := 62, attributes := #[] }, { accessFlags := 24, nameIndex := 430, descriptorIndex := 62, attributes := #[] }, { accessFlags := 4120, nameIndex := 46, descriptorIndex := 47, attributes := #[] }])
  fields := #[{ name := "HI_BYTE_SHIFT", type := .int, accessFlags := 26, slot := 0, constantValue := 0 }, { name := "LO_BYTE_SHIFT", type := .int, accessFlags := 26, slot := 1, constantValue := 0 }, { name := "MAX_LENGTH", type := .int, accessFlags := 24, slot := 2, constantValue := 0 }, { name := "$assertionsDisabled", type := .boolean, accessFlags := 4120, slot := 3, constantValue := 0 }]
  methods := #[k11m0, k11m1, k11m2, k11m3]
  instanceTypes := #[]
  staticTypes := #[.int, .int, .int, .boolean]
  resolved := Array.replicate 635 none
  statics := none }

def pool12 : Array CpInfo := pool [(4, .class_ 6), (1, u "java/lang/Object"), (0, u "<init>"), (0, u "()V"), (5, .class_ 16), (1, u "java/lang/StringLatin1"), (73, u "canEncode"), (14, u "(C)Z"), (15, u "$assertionsDisabled"), (0, u "Z"), (98, .class_ 223), (1, u "java/lang/StringLatin1$LinesSpliterator"), (57, u "equals"), (0, u "([B[B)Z"), (97, u "toBytes"), (1, u "(C)[B"), (7, .class_ 391), (0, u "java/lang/StringLatin1$CharsSpliterator")] 3

def k12m0 : Method := { name := "<init>", desc := "()V", sig := { parameters := [], returnType := none }, accessFlags := 0, code := none }
def k12c1 : Code := { maxStack := 2, maxLocals := 1, code := jdk_43_method_3_code, exceptionTable := #[], attributes := #[] }
def k12m1 : Method := { name := "canEncode", desc := "(C)Z", sig := { parameters := [.char], returnType := some .boolean }, accessFlags := 9, code := some k12c1 }
def k12c2 : Code := { maxStack := 3, maxLocals := 3, code := jdk_43_method_13_code, exceptionTable := #[], attributes := #[] }
def k12m2 : Method := { name := "equals", desc := "([B[B)Z", sig := { parameters := [(.array .byte), (.array .byte)], returnType := some .boolean }, accessFlags := 9, code := some k12c2 }
def k12c3 : Code := { maxStack := 4, maxLocals := 1, code := jdk_43_method_46_code, exceptionTable := #[], attributes := #[] }
def k12m3 : Method := { name := "toBytes", desc := "(C)[B", sig := { parameters := [.char], returnType := some (.array .byte) }, accessFlags := 9, code := some k12c3 }
/-- java/lang/StringLatin1 -/
def k12 : Class := { plain "java/lang/StringLatin1" (some 0) with
  accessFlags := 48
  interfaces := #[]
  cf := some (fileOf pool12 14 #[.nestMembers #[390, 221]] #[{ accessFlags := 0, nameIndex := 7, descriptorIndex := 8, attributes := #[] }, { accessFlags := 9, nameIndex := 90, descriptorIndex := 105, attributes := #[] }, { accessFlags := 9, nameIndex := 281, descriptorIndex := 282, attributes := #[] }, { accessFlags := 9, nameIndex := 380, descriptorIndex := 382, attributes := #[] }] 48 4 #[] #[{ accessFlags := 4120, nameIndex := 121, descriptorIndex := 122, attributes := #[] }])
  fields := #[{ name := "$assertionsDisabled", type := .boolean, accessFlags := 4120, slot := 0, constantValue := 0 }]
  methods := #[k12m0, k12m1, k12m2, k12m3]
  instanceTypes := #[]
  staticTypes := #[.boolean]
  resolved := Array.replicate 395 none
  statics := none }

def pool13 : Array CpInfo := pool [(2, .class_ 4), (1, u "java/lang/Object"), (0, u "<init>"), (0, u "()V"), (17, .class_ 26), (1, u "jdk/internal/util/Preconditions"), (28, .class_ 56), (0, u "jdk/internal/util/Preconditions$4"), (57, .class_ 115), (0, u "jdk/internal/util/Preconditions$1"), (7, u "SIOOBE_FORMATTER"), (0, u "Ljava/util/function/BiFunction;"), (0, .class_ 126), (0, u "jdk/internal/util/Preconditions$2"), (3, u "AIOOBE_FORMATTER"), (0, .class_ 132), (0, u "jdk/internal/util/Preconditions$3"), (3, u "IOOBE_FORMATTER")] 57

def k13m0 : Method := { name := "<init>", desc := "()V", sig := { parameters := [], returnType := none }, accessFlags := 1, code := none }
/-- jdk/internal/util/Preconditions -/
def k13 : Class := { plain "jdk/internal/util/Preconditions" (some 0) with
  accessFlags := 33
  interfaces := #[]
  cf := some (fileOf pool13 24 #[.nestMembers #[55, 131, 125, 114]] #[{ accessFlags := 1, nameIndex := 5, descriptorIndex := 6, attributes := #[] }] 33 2 #[] #[{ accessFlags := 25, nameIndex := 123, descriptorIndex := 124, attributes := #[] }, { accessFlags := 25, nameIndex := 130, descriptorIndex := 124, attributes := #[] }, { accessFlags := 25, nameIndex := 136, descriptorIndex := 124, attributes := #[] }])
  fields := #[{ name := "SIOOBE_FORMATTER", type := (.object "java/util/function/BiFunction"), accessFlags := 25, slot := 0, constantValue := 0 }, { name := "AIOOBE_FORMATTER", type := (.object "java/util/function/BiFunction"), accessFlags := 25, slot := 1, constantValue := 0 }, { name := "IOOBE_FORMATTER", type := (.object "java/util/function/BiFunction"), accessFlags := 25, slot := 2, constantValue := 0 }]
  methods := #[k13m0]
  instanceTypes := #[]
  staticTypes := #[(.object "java/util/function/BiFunction"), (.object "java/util/function/BiFunction"), (.object "java/util/function/BiFunction")]
  resolved := Array.replicate 194 none
  statics := some 1 }

def pool14 : Array CpInfo := pool [(9, u "<init>"), (6, .class_ 18), (1, u "java/lang/Object"), (0, u "()V"), (1, .class_ 23), (1, u "jdk/internal/util/ArraysSupport"), (0, u "LOG2_ARRAY_LONG_INDEX_SCALE"), (0, u "I"), (2, u "U"), (0, u "Ljdk/internal/misc/Unsafe;"), (8, u "BIG_ENDIAN"), (0, u "Z"), (8, u "LOG2_BYTE_BIT_SIZE"), (4, u "LOG2_ARRAY_INT_INDEX_SCALE"), (54, u "JLA"), (0, u "Ljdk/internal/access/JavaLangAccess;"), (11, u "LOG2_ARRAY_BOOLEAN_INDEX_SCALE"), (9, u "LOG2_ARRAY_BYTE_INDEX_SCALE"), (5, u "LOG2_ARRAY_CHAR_INDEX_SCALE"), (5, u "LOG2_ARRAY_SHORT_INDEX_SCALE"), (18, u "LOG2_ARRAY_FLOAT_INDEX_SCALE"), (24, u "LOG2_ARRAY_DOUBLE_INDEX_SCALE"), (89, u "T_BOOLEAN"), (2, u "T_CHAR"), (1, u "T_FLOAT"), (1, u "T_DOUBLE"), (1, u "T_BYTE"), (1, u "T_SHORT"), (1, u "T_INT"), (1, u "T_LONG"), (1, u "SOFT_MAX_ARRAY_LENGTH")] 83

def k14m0 : Method := { name := "<init>", desc := "()V", sig := { parameters := [], returnType := none }, accessFlags := 2, code := none }
/-- jdk/internal/util/ArraysSupport -/
def k14 : Class := { plain "jdk/internal/util/ArraysSupport" (some 0) with
  accessFlags := 33
  interfaces := #[]
  cf := some (fileOf pool14 21 #[] #[{ accessFlags := 2, nameIndex := 9, descriptorIndex := 19, attributes := #[] }] 33 16 #[] #[{ accessFlags := 24, nameIndex := 28, descriptorIndex := 29, attributes := #[] }, { accessFlags := 26, nameIndex := 38, descriptorIndex := 39, attributes := #[] }, { accessFlags := 25, nameIndex := 121, descriptorIndex := 25, attributes := #[] }, { accessFlags := 25, nameIndex := 131, descriptorIndex := 25, attributes := #[] }, { accessFlags := 25, nameIndex := 137, descriptorIndex := 25, attributes := #[] }, { accessFlags := 25, nameIndex := 143, descriptorIndex := 25, attributes := #[] }, { accessFlags := 25, nameIndex := 53, descriptorIndex := 25, attributes := #[] }, { accessFlags := 25, nameIndex := 24, descriptorIndex := 25, attributes := #[] }, { accessFlags := 25, nameIndex := 162, descriptorIndex := 25, attributes := #[] }, { accessFlags := 25, nameIndex := 187, descriptorIndex := 25, attributes := #[] }, { accessFlags := 26, nameIndex := 48, descriptorIndex := 25, attributes := #[] }, { accessFlags := 25, nameIndex := 277, descriptorIndex := 25, attributes := #[] }, { accessFlags := 25, nameIndex := 280, descriptorIndex := 25, attributes := #[] }, { accessFlags := 25, nameIndex := 282, descriptorIndex := 25, attributes := #[] }, { accessFlags := 25, nameIndex := 284, descriptorIndex := 25, attributes := #[] }, { accessFlags := 25, nameIndex := 286, descriptorIndex := 25, attributes := #[] }, { accessFlags := 25, nameIndex := 288, descriptorIndex := 25, attributes := #[] }, { accessFlags := 25, nameIndex := 290, descriptorIndex := 25, attributes := #[] }, { accessFlags := 25, nameIndex := 292, descriptorIndex := 25, attributes := #[] }, { accessFlags := 26, nameIndex := 108, descriptorIndex := 109, attributes := #[] }, { accessFlags := 25, nameIndex := 294, descriptorIndex := 25, attributes := #[] }])
  fields := #[{ name := "U", type := (.object "jdk/internal/misc/Unsafe"), accessFlags := 24, slot := 0, constantValue := 0 }, { name := "BIG_ENDIAN", type := .boolean, accessFlags := 26, slot := 1, constantValue := 0 }, { name := "LOG2_ARRAY_BOOLEAN_INDEX_SCALE", type := .int, accessFlags := 25, slot := 2, constantValue := 0 }, { name := "LOG2_ARRAY_BYTE_INDEX_SCALE", type := .int, accessFlags := 25, slot := 3, constantValue := 0 }, { name := "LOG2_ARRAY_CHAR_INDEX_SCALE", type := .int, accessFlags := 25, slot := 4, constantValue := 0 }, { name := "LOG2_ARRAY_SHORT_INDEX_SCALE", type := .int, accessFlags := 25, slot := 5, constantValue := 0 }, { name := "LOG2_ARRAY_INT_INDEX_SCALE", type := .int, accessFlags := 25, slot := 6, constantValue := 0 }, { name := "LOG2_ARRAY_LONG_INDEX_SCALE", type := .int, accessFlags := 25, slot := 7, constantValue := 0 }, { name := "LOG2_ARRAY_FLOAT_INDEX_SCALE", type := .int, accessFlags := 25, slot := 8, constantValue := 0 }, { name := "LOG2_ARRAY_DOUBLE_INDEX_SCALE", type := .int, accessFlags := 25, slot := 9, constantValue := 0 }, { name := "LOG2_BYTE_BIT_SIZE", type := .int, accessFlags := 26, slot := 10, constantValue := 0 }, { name := "T_BOOLEAN", type := .int, accessFlags := 25, slot := 11, constantValue := 0 }, { name := "T_CHAR", type := .int, accessFlags := 25, slot := 12, constantValue := 0 }, { name := "T_FLOAT", type := .int, accessFlags := 25, slot := 13, constantValue := 0 }, { name := "T_DOUBLE", type := .int, accessFlags := 25, slot := 14, constantValue := 0 }, { name := "T_BYTE", type := .int, accessFlags := 25, slot := 15, constantValue := 0 }, { name := "T_SHORT", type := .int, accessFlags := 25, slot := 16, constantValue := 0 }, { name := "T_INT", type := .int, accessFlags := 25, slot := 17, constantValue := 0 }, { name := "T_LONG", type := .int, accessFlags := 25, slot := 18, constantValue := 0 }, { name := "JLA", type := (.object "jdk/internal/access/JavaLangAccess"), accessFlags := 26, slot := 19, constantValue := 0 }, { name := "SOFT_MAX_ARRAY_LENGTH", type := .int, accessFlags := 25, slot := 20, constantValue := 0 }]
  methods := #[k14m0]
  instanceTypes := #[]
  staticTypes := #[(.object "jdk/internal/misc/Unsafe"), .boolean, .int, .int, .int, .int, .int, .int, .int, .int, .int, .int, .int, .int, .int, .int, .int, .int, .int, (.object "jdk/internal/access/JavaLangAccess"), .int]
  resolved := Array.replicate 378 none
  statics := none }

def pool15 : Array CpInfo := pool [(1, u "java/lang/Cloneable"), (0, .class_ 1), (0, u "java/lang/Object"), (0, .class_ 3)] 3

/-- java/lang/Cloneable -/
def k15 : Class := { plain "java/lang/Cloneable" (some 0) with
  accessFlags := 1537
  interfaces := #[]
  cf := some (fileOf pool15 2 #[] #[] 1537 4 #[] #[])
  fields := #[]
  methods := #[]
  instanceTypes := #[]
  staticTypes := #[]
  resolved := Array.replicate 8 none
  statics := none }

/-- the primitive byte -/
def k16 : Class := { plain "byte" none with kind := .primitive 'B', accessFlags := 0x411 }
/-- [B -/
def k17 : Class := { plain "[B" (some 0) with kind := .array 16 .byte, interfaces := #[15, 3], accessFlags := 1041 }

/-- the primitive char -/
def k18 : Class := { plain "char" none with kind := .primitive 'C', accessFlags := 0x411 }
/-- [C -/
def k19 : Class := { plain "[C" (some 0) with kind := .array 18 .char, interfaces := #[15, 3], accessFlags := 1041 }

/-- the primitive int -/
def k20 : Class := { plain "int" none with kind := .primitive 'I', accessFlags := 0x411 }
/-- [I -/
def k21 : Class := { plain "[I" (some 0) with kind := .array 20 .int, interfaces := #[15, 3], accessFlags := 1041 }

def heap : Heap := #[{ cls := 8, slots := #[.long 0, .int 1, .null, .int 0, .null, .int 0, .int 0], vm := .statics 8 },
  { cls := 13, slots := #[.null, .null, .null], vm := .statics 13 }]
def classes : Array Class := #[k0, k1, k2, k3, k4, k5, k6, k7, k8, k9, k10, k11, k12, k13, k14, k15, k16, k17, k18, k19, k20, k21]
def interned : List (Array UInt16 × Addr) := []
def slotsUsed : Nat := 10
def theMethod : MethodId := ⟨1, 2⟩
def args0 : Array Value := #[.int 1, .int 2, .int 3, .int 4, .int 5]
def aboutOver (below : List Frame) : State where
  vm := { classes := classes, interned := interned.toArray }
  heap := heap
  slotsUsed := slotsUsed
  threads := #[{ frames := .invoking theMethod args0 :: below }]
def below0 : List Frame := [.native { method := ⟨0, 0⟩, args := #[] }]
def about1 : State := aboutOver below0
def p0 : Program := .bare "" "" ""
def e0 : Env := launch0.env 0 0 0
theorem w_frames : about1.frames = Frame.invoking theMethod args0 :: below0 := rfl
set_option maxRecDepth 65536 in
theorem w_args : argsFit about1.vm theMethod args0 = true := by decide +kernel
set_option maxRecDepth 65536 in
theorem w_heap : heapFits about1 = true := by decide +kernel
set_option maxRecDepth 65536 in
theorem w_runnable : about1.curStatus? = some .runnable := by decide +kernel
set_option maxRecDepth 65536 in
theorem w_alone : about1.alone = true := by decide +kernel
set_option maxRecDepth 65536 in
theorem w_named : about1.methodNamed? x = some theMethod := by decide +kernel
set_option maxRecDepth 65536 in
theorem w_hears : about1.hears theMethod below0 = true := by decide +kernel
set_option maxRecDepth 65536 in
theorem w_ripe : about1.ripe theMethod args0 below0 = true := by decide +kernel
theorem w_running : about1.status = .running := rfl
set_option maxRecDepth 65536 in
theorem w_room : about1.hasRoom e0.platform room_1 = true :=
  launch0.hasRoom_least _ room_1 (by decide +kernel) (by decide +kernel) (by decide +kernel) (by decide +kernel) (by decide +kernel) (by decide +kernel)
theorem allAtoms_all (ts : List Jvm.Cond) (a : Array Jvm.Value) (st : Jvm.State) : (allAtoms ts).before a st = ts.all (fun c => c.before a st) := by
  induction ts with
  | nil => rfl
  | cons c t ih =>
    show (Jvm.Cond.and c (allAtoms t)).before a st = _
    rw [Jvm.Cond.before_and, ih, List.all_cons]
def words1 : List Jvm.Cond := Jvm.Cond.code x code maxLocals ret :: tables_1
/-- a 'code' word, met by the world's own term for the bytes: nothing is compared byte by byte -/
theorem code_word {y : MethodName} {bytes : ByteArray} {mx : Nat} {rt : Option FieldType} {a : Array Value} {s : State} {m : MethodId} {meth : Method} {c : Code} (h1 : s.methodNamed? y = some m) (h2 : s.vm.method? m = some meth) (h3 : meth.code = some c) (h4 : c.code = bytes)
    (h5 : (c.maxLocals == mx && c.exceptionTable.isEmpty && decide (c.maxStack ≤ mostOperands) && decide (meth.sig.returnType = rt) && !meth.locks && decide (parseMethodDescriptor y.desc = some meth.sig)) = true) : (Jvm.Cond.code y bytes mx rt).before a s = true := by
  simp only [Bool.and_eq_true, beq_iff_eq, Bool.not_eq_true', decide_eq_true_eq] at h5
  obtain ⟨⟨⟨⟨⟨g1, g2⟩, g3⟩, g4⟩, g5⟩, g6⟩ := h5
  simp [Cond.before, Cond.holds, Cond.value, h1, h2, h3, h4, g1, g2, g3, g4, g5, g6]
def isCode : Jvm.Cond → Bool
  | .code _ _ _ _ => true
  | _ => false
theorem all_split {L : List Jvm.Cond} {P : Jvm.Cond → Bool} (h1 : L.all (fun c => isCode c || P c) = true) (h2 : ∀ c ∈ L.filter isCode, P c = true) : L.all P = true := by
  refine List.all_eq_true.mpr fun c hc => ?_
  have h := List.all_eq_true.mp h1 c hc
  rcases Bool.eq_false_or_eq_true (isCode c) with hi | hi
  · exact h2 c (List.mem_filter.mpr ⟨hc, hi⟩)
  · simpa [hi] using h
set_option maxRecDepth 65536 in
theorem w_c0 : (Jvm.Cond.code x code maxLocals ret).before args0 about1 = true := code_word (m := ⟨1, 2⟩) (meth := k1m2) (c := k1c2) (by decide +kernel) rfl rfl rfl (by decide +kernel)
set_option maxRecDepth 65536 in
theorem w_c1 : (Jvm.Cond.code ({ cls := "java/lang/Math", name := "max", desc := "(II)I" } : Jvm.MethodName) jdk_29_method_65_code (2 : Nat) (Option.some Jvm.ClassFile.FieldType.int)).before args0 about1 = true := code_word (m := ⟨2, 1⟩) (meth := k2m1) (c := k2c1) (by decide +kernel) rfl rfl rfl (by decide +kernel)
set_option maxRecDepth 65536 in
theorem w_c2 : (Jvm.Cond.code ({ cls := "com/example/strict_roles/strictroles/SourceLineEqualsPinLaw", name := "mk", desc := "(ICC)Ljava/lang/String;" } : Jvm.MethodName) method_2_code (4 : Nat) (Option.some (Jvm.ClassFile.FieldType.object "java/lang/String"))).before args0 about1 = true := code_word (m := ⟨1, 1⟩) (meth := k1m1) (c := k1c1) (by decide +kernel) rfl rfl rfl (by decide +kernel)
set_option maxRecDepth 65536 in
theorem w_c3 : (Jvm.Cond.code ({ cls := "java/lang/String", name := "<init>", desc := "([C)V" } : Jvm.MethodName) jdk_42_method_3_code (2 : Nat) (Option.none : Option Jvm.ClassFile.FieldType)).before args0 about1 = true := code_word (m := ⟨8, 1⟩) (meth := k8m1) (c := k8c1) (by decide +kernel) rfl rfl rfl (by decide +kernel)
set_option maxRecDepth 65536 in
theorem w_c4 : (Jvm.Cond.code ({ cls := "java/lang/String", name := "<init>", desc := "([CIILjava/lang/Void;)V" } : Jvm.MethodName) jdk_42_method_149_code (6 : Nat) (Option.none : Option Jvm.ClassFile.FieldType)).before args0 about1 = true := code_word (m := ⟨8, 4⟩) (meth := k8m4) (c := k8c4) (by decide +kernel) rfl rfl rfl (by decide +kernel)
set_option maxRecDepth 65536 in
theorem w_c5 : (Jvm.Cond.code ({ cls := "java/lang/Object", name := "<init>", desc := "()V" } : Jvm.MethodName) object_method_1_code (1 : Nat) (Option.none : Option Jvm.ClassFile.FieldType)).before args0 about1 = true := code_word (m := ⟨0, 0⟩) (meth := k0m0) (c := k0c0) (by decide +kernel) rfl rfl rfl (by decide +kernel)
set_option maxRecDepth 65536 in
theorem w_c6 : (Jvm.Cond.code ({ cls := "com/example/strict_roles/strictroles/SourceLine", name := "<init>", desc := "(Ljava/lang/String;I)V" } : Jvm.MethodName) prog_39_method_1_code (3 : Nat) (Option.none : Option Jvm.ClassFile.FieldType)).before args0 about1 = true := code_word (m := ⟨9, 0⟩) (meth := k9m0) (c := k9c0) (by decide +kernel) rfl rfl rfl (by decide +kernel)
set_option maxRecDepth 65536 in
theorem w_c7 : (Jvm.Cond.code ({ cls := "java/util/Objects", name := "requireNonNull", desc := "(Ljava/lang/Object;Ljava/lang/String;)Ljava/lang/Object;" } : Jvm.MethodName) jdk_31_method_11_code (2 : Nat) (Option.some (Jvm.ClassFile.FieldType.object "java/lang/Object"))).before args0 about1 = true := code_word (m := ⟨10, 1⟩) (meth := k10m1) (c := k10c1) (by decide +kernel) rfl rfl rfl (by decide +kernel)
set_option maxRecDepth 65536 in
theorem w_c8 : (Jvm.Cond.code ({ cls := "com/example/strict_roles/strictroles/SourceLine", name := "equals", desc := "(Ljava/lang/Object;)Z" } : Jvm.MethodName) prog_39_method_4_code (3 : Nat) (Option.some Jvm.ClassFile.FieldType.boolean)).before args0 about1 = true := code_word (m := ⟨9, 1⟩) (meth := k9m1) (c := k9c1) (by decide +kernel) rfl rfl rfl (by decide +kernel)
set_option maxRecDepth 65536 in
theorem w_c9 : (Jvm.Cond.code ({ cls := "java/lang/StringUTF16", name := "compress", desc := "([CII)[B" } : Jvm.MethodName) jdk_52_method_16_code (6 : Nat) (Option.some (Jvm.ClassFile.FieldType.array Jvm.ClassFile.FieldType.byte))).before args0 about1 = true := code_word (m := ⟨11, 2⟩) (meth := k11m2) (c := k11c2) (by decide +kernel) rfl rfl rfl (by decide +kernel)
set_option maxRecDepth 65536 in
theorem w_c10 : (Jvm.Cond.code ({ cls := "java/lang/StringUTF16", name := "compress", desc := "([CI[BII)I" } : Jvm.MethodName) jdk_52_method_21_code (7 : Nat) (Option.some Jvm.ClassFile.FieldType.int)).before args0 about1 = true := code_word (m := ⟨11, 3⟩) (meth := k11m3) (c := k11c3) (by decide +kernel) rfl rfl rfl (by decide +kernel)
set_option maxRecDepth 65536 in
theorem w_c11 : (Jvm.Cond.code ({ cls := "java/lang/StringUTF16", name := "coderFromArrayLen", desc := "([BI)B" } : Jvm.MethodName) jdk_52_method_15_code (2 : Nat) (Option.some Jvm.ClassFile.FieldType.byte)).before args0 about1 = true := code_word (m := ⟨11, 1⟩) (meth := k11m1) (c := k11c1) (by decide +kernel) rfl rfl rfl (by decide +kernel)
set_option maxRecDepth 65536 in
theorem w_c12 : (Jvm.Cond.code ({ cls := "java/lang/String", name := "equals", desc := "(Ljava/lang/Object;)Z" } : Jvm.MethodName) jdk_42_method_66_code (3 : Nat) (Option.some Jvm.ClassFile.FieldType.boolean)).before args0 about1 = true := code_word (m := ⟨8, 2⟩) (meth := k8m2) (c := k8c2) (by decide +kernel) rfl rfl rfl (by decide +kernel)
set_option maxRecDepth 65536 in
theorem w_c13 : (Jvm.Cond.code ({ cls := "java/lang/StringLatin1", name := "equals", desc := "([B[B)Z" } : Jvm.MethodName) jdk_43_method_13_code (3 : Nat) (Option.some Jvm.ClassFile.FieldType.boolean)).before args0 about1 = true := code_word (m := ⟨12, 2⟩) (meth := k12m2) (c := k12c2) (by decide +kernel) rfl rfl rfl (by decide +kernel)
set_option maxRecDepth 65536 in
theorem w_c14 : (Jvm.Cond.code ({ cls := "java/lang/String", name := "valueOf", desc := "(C)Ljava/lang/String;" } : Jvm.MethodName) jdk_42_method_139_code (1 : Nat) (Option.some (Jvm.ClassFile.FieldType.object "java/lang/String"))).before args0 about1 = true := code_word (m := ⟨8, 3⟩) (meth := k8m3) (c := k8c3) (by decide +kernel) rfl rfl rfl (by decide +kernel)
set_option maxRecDepth 65536 in
theorem w_c15 : (Jvm.Cond.code ({ cls := "java/lang/StringLatin1", name := "canEncode", desc := "(C)Z" } : Jvm.MethodName) jdk_43_method_3_code (1 : Nat) (Option.some Jvm.ClassFile.FieldType.boolean)).before args0 about1 = true := code_word (m := ⟨12, 1⟩) (meth := k12m1) (c := k12c1) (by decide +kernel) rfl rfl rfl (by decide +kernel)
set_option maxRecDepth 65536 in
theorem w_c16 : (Jvm.Cond.code ({ cls := "java/lang/StringLatin1", name := "toBytes", desc := "(C)[B" } : Jvm.MethodName) jdk_43_method_46_code (1 : Nat) (Option.some (Jvm.ClassFile.FieldType.array Jvm.ClassFile.FieldType.byte))).before args0 about1 = true := code_word (m := ⟨12, 3⟩) (meth := k12m3) (c := k12c3) (by decide +kernel) rfl rfl rfl (by decide +kernel)
set_option maxRecDepth 65536 in
theorem w_c17 : (Jvm.Cond.code ({ cls := "java/lang/String", name := "<init>", desc := "([BB)V" } : Jvm.MethodName) jdk_42_method_151_code (3 : Nat) (Option.none : Option Jvm.ClassFile.FieldType)).before args0 about1 = true := code_word (m := ⟨8, 5⟩) (meth := k8m5) (c := k8c5) (by decide +kernel) rfl rfl rfl (by decide +kernel)
def codes1 : List Jvm.Cond := [Jvm.Cond.code x code maxLocals ret, Jvm.Cond.code ({ cls := "java/lang/Math", name := "max", desc := "(II)I" } : Jvm.MethodName) jdk_29_method_65_code (2 : Nat) (Option.some Jvm.ClassFile.FieldType.int), Jvm.Cond.code ({ cls := "com/example/strict_roles/strictroles/SourceLineEqualsPinLaw", name := "mk", desc := "(ICC)Ljava/lang/String;" } : Jvm.MethodName) method_2_code (4 : Nat) (Option.some (Jvm.ClassFile.FieldType.object "java/lang/String")), Jvm.Cond.code ({ cls := "java/lang/String", name := "<init>", desc := "([C)V" } : Jvm.MethodName) jdk_42_method_3_code (2 : Nat) (Option.none : Option Jvm.ClassFile.FieldType), Jvm.Cond.code ({ cls := "java/lang/String", name := "<init>", desc := "([CIILjava/lang/Void;)V" } : Jvm.MethodName) jdk_42_method_149_code (6 : Nat) (Option.none : Option Jvm.ClassFile.FieldType), Jvm.Cond.code ({ cls := "java/lang/Object", name := "<init>", desc := "()V" } : Jvm.MethodName) object_method_1_code (1 : Nat) (Option.none : Option Jvm.ClassFile.FieldType), Jvm.Cond.code ({ cls := "com/example/strict_roles/strictroles/SourceLine", name := "<init>", desc := "(Ljava/lang/String;I)V" } : Jvm.MethodName) prog_39_method_1_code (3 : Nat) (Option.none : Option Jvm.ClassFile.FieldType), Jvm.Cond.code ({ cls := "java/util/Objects", name := "requireNonNull", desc := "(Ljava/lang/Object;Ljava/lang/String;)Ljava/lang/Object;" } : Jvm.MethodName) jdk_31_method_11_code (2 : Nat) (Option.some (Jvm.ClassFile.FieldType.object "java/lang/Object")), Jvm.Cond.code ({ cls := "com/example/strict_roles/strictroles/SourceLine", name := "equals", desc := "(Ljava/lang/Object;)Z" } : Jvm.MethodName) prog_39_method_4_code (3 : Nat) (Option.some Jvm.ClassFile.FieldType.boolean), Jvm.Cond.code ({ cls := "java/lang/StringUTF16", name := "compress", desc := "([CII)[B" } : Jvm.MethodName) jdk_52_method_16_code (6 : Nat) (Option.some (Jvm.ClassFile.FieldType.array Jvm.ClassFile.FieldType.byte)), Jvm.Cond.code ({ cls := "java/lang/StringUTF16", name := "compress", desc := "([CI[BII)I" } : Jvm.MethodName) jdk_52_method_21_code (7 : Nat) (Option.some Jvm.ClassFile.FieldType.int), Jvm.Cond.code ({ cls := "java/lang/StringUTF16", name := "coderFromArrayLen", desc := "([BI)B" } : Jvm.MethodName) jdk_52_method_15_code (2 : Nat) (Option.some Jvm.ClassFile.FieldType.byte), Jvm.Cond.code ({ cls := "java/lang/String", name := "equals", desc := "(Ljava/lang/Object;)Z" } : Jvm.MethodName) jdk_42_method_66_code (3 : Nat) (Option.some Jvm.ClassFile.FieldType.boolean), Jvm.Cond.code ({ cls := "java/lang/StringLatin1", name := "equals", desc := "([B[B)Z" } : Jvm.MethodName) jdk_43_method_13_code (3 : Nat) (Option.some Jvm.ClassFile.FieldType.boolean), Jvm.Cond.code ({ cls := "java/lang/String", name := "valueOf", desc := "(C)Ljava/lang/String;" } : Jvm.MethodName) jdk_42_method_139_code (1 : Nat) (Option.some (Jvm.ClassFile.FieldType.object "java/lang/String")), Jvm.Cond.code ({ cls := "java/lang/StringLatin1", name := "canEncode", desc := "(C)Z" } : Jvm.MethodName) jdk_43_method_3_code (1 : Nat) (Option.some Jvm.ClassFile.FieldType.boolean), Jvm.Cond.code ({ cls := "java/lang/StringLatin1", name := "toBytes", desc := "(C)[B" } : Jvm.MethodName) jdk_43_method_46_code (1 : Nat) (Option.some (Jvm.ClassFile.FieldType.array Jvm.ClassFile.FieldType.byte)), Jvm.Cond.code ({ cls := "java/lang/String", name := "<init>", desc := "([BB)V" } : Jvm.MethodName) jdk_42_method_151_code (3 : Nat) (Option.none : Option Jvm.ClassFile.FieldType)]
set_option maxRecDepth 65536 in
theorem codes_eq : words1.filter isCode = codes1 := rfl
theorem w_codes : ∀ c ∈ words1.filter isCode, c.before args0 about1 = true := by
  rw [codes_eq]
  intro c hc
  simp only [codes1, List.mem_cons, List.not_mem_nil, or_false] at hc
  rcases hc with rfl | rfl | rfl | rfl | rfl | rfl | rfl | rfl | rfl | rfl | rfl | rfl | rfl | rfl | rfl | rfl | rfl | rfl
  · exact w_c0
  · exact w_c1
  · exact w_c2
  · exact w_c3
  · exact w_c4
  · exact w_c5
  · exact w_c6
  · exact w_c7
  · exact w_c8
  · exact w_c9
  · exact w_c10
  · exact w_c11
  · exact w_c12
  · exact w_c13
  · exact w_c14
  · exact w_c15
  · exact w_c16
  · exact w_c17
set_option maxRecDepth 65536 in
theorem w_t1 : (words1.take 24).all (fun c => isCode c || c.before args0 about1) = true := by decide +kernel
set_option maxRecDepth 65536 in
theorem w_t2 : ((words1.drop 24).take 24).all (fun c => isCode c || c.before args0 about1) = true := by decide +kernel
set_option maxRecDepth 65536 in
theorem w_t3 : (((words1.drop 24).drop 24).take 24).all (fun c => isCode c || c.before args0 about1) = true := by decide +kernel
set_option maxRecDepth 65536 in
theorem w_t4 : (((words1.drop 24).drop 24).drop 24).all (fun c => isCode c || c.before args0 about1) = true := by decide +kernel
theorem w_tables : (allAtoms (Jvm.Cond.code x code maxLocals ret :: tables_1)).before args0 about1 = true := by
  rw [allAtoms_all]
  show words1.all (fun c => c.before args0 about1) = true
  refine all_split ?_ w_codes
  rw [← List.take_append_drop 24 words1, List.all_append, w_t1, ← List.take_append_drop 24 (words1.drop 24), List.all_append, w_t2, ← List.take_append_drop 24 ((words1.drop 24).drop 24), List.all_append, w_t3, w_t4]
  rfl
set_option maxRecDepth 65536 in
theorem w_rest : rest_1_c.before args0 about1 = true := by decide +kernel
set_option maxRecDepth 65536 in
theorem w_case : (Jvm.Cond.and given_1 narrow_1).before args0 about1 = true := by decide +kernel
set_option maxRecDepth 65536 in
theorem w_consts : constsHeld consts_1 about1 := Jvm.Lit.constsHeldB_iff.mp (by decide +kernel)
theorem w_applies : (headSpec (Jvm.Cond.code x code maxLocals ret :: tables_1) room_1).applies x e0.platform about1 = true :=
  (Spec.applies_iff w_frames).mpr ⟨w_running, w_runnable, w_alone, w_named, w_hears, w_ripe, w_room, w_tables⟩
theorem atStart : AtStart classFile x code maxLocals ret World_1 tables_1 room_1 Calls_1 rest_1 Pre_1 launch0 p0 e0 about1 theMethod args0 below0 :=
  ⟨lists_1, trivial, launch0.admits_env _ _ _, launch0.least_env, fairChoices_fair.cas, fairChoices_fair.clock, w_frames, w_args, w_heap, w_applies, ⟨w_consts, trivial⟩, w_rest, w_case⟩
end start1
theorem witness_1 : WitnessClaimed_1 := ⟨start1.p0, start1.e0, start1.about1, start1.theMethod, start1.args0, start1.below0, start1.atStart⟩
end Jvm.Pilot.@@N@@
