import JvmDerived
import JvmDerived.Pilot.@@N@@Statement
import JvmDerived.Pilot.@@N@@Code
set_option linter.unusedVariables false
set_option linter.unusedSimpArgs false
namespace Jvm.OwnKit
open Sem ClassFile Op Lib Jvm.Stand Jvm.Free Jvm.LawKit Jvm.RoadKit
/-- from S the run comes to a state of which P holds -/
def Go (tb : Tables) (e : Env) (below : List Frame) (P : State → Prop) (S : State) : Prop := ∃ t, Steps tb e below S t ∧ P t
theorem Go.st {tb : Tables} {e : Env} {below : List Frame} {P : State → Prop} {S S' : State} (h : ∀ t, Steps tb e below S' t → Steps tb e below S t) (g : Go tb e below P S') : Go tb e below P S := by
  obtain ⟨t, h1, h2⟩ := g
  exact ⟨t, h t h1, h2⟩
theorem Go.cast {tb : Tables} {e : Env} {below : List Frame} {P : State → Prop} {T : State} {g g' : JFrame} (q : g = g') (k : Go tb e below P (T.setTop g')) : Go tb e below P (T.setTop g) := q ▸ k
/-- the invocation of s has returned, and Q says what -/
def Fine (s : State) (below : List Frame) (Q : Option Value → Heap → List Loc → Prop) (kc ks : Nat) (t : State) : Prop := ∃ o, t.status = .running ∧ Ended t below o ∧ ∃ v L, o = .returned v ∧ Q v t.heap L ∧ FrameEnd s o t L kc ks
/-- a method's contract, over the tables of the start Z: called with 'as' at the heap h0 it returns, and Q says what -/
def Con (l : Launch) (Z : State) (y : MethodName) (bytes : ByteArray) (maxL : Nat) (ret : Option FieldType) (ws : List Jvm.Cond) (rm : Room) (as : Array Value) (h0 : Heap) (Q : Option Value → Heap → List Loc → Prop) : Prop :=
  MetFree l y (head1 (Jvm.Cond.code y bytes maxL ret :: ws) rm) (fun a U => a = as ∧ Z.Warmed39 U.vm ∧ U.heap = h0) (fun _ _ _ _ _ => True) (fun _ U o U' => ∃ v L, o = .returned v ∧ Q v U'.heap L ∧ FrameEnd U o U' L rm.cells rm.slots)
theorem Con.of {l : Launch} {Z : State} {y : MethodName} {bytes : ByteArray} {maxL : Nat} {ret : Option FieldType} {ws : List Jvm.Cond} {rm : Room} {as : Array Value} {h0 : Heap} {Q : Option Value → Heap → List Loc → Prop} (hpl : plainFor y = true)
    (body : ∀ (p : Program) (e : Env) (s : State) (m : MethodId) (below : List Frame) (meth : Method) (c : Code) (s₁ : State), Z.Warmed39 s.vm → s₁.heap = h0 → Stand p l e rm s m as below meth c s₁ [] 0 0 → p.tables.exec = Jvm.exec → c.code = bytes → c.maxLocals = maxL → s.vm.findClass y.cls = some m.cls → meth.name = y.name → meth.sig.returnType = ret → meth.locks = false →
      Go p.tables e below (Fine s below Q rm.cells rm.slots) (s₁.setTop (entryFrame m as maxL))) : Con l Z y bytes maxL ret ws rm as h0 Q := by
  refine MetFree.of_bodySF hpl hisR ?_
  intro p e s m args below meth c s₁ Bd hml hP hK
  obtain ⟨rfl, hZ, hh⟩ := hP
  have e0 : s₁.heap = h0 := by rw [← hh, Bd.state]; rfl
  obtain ⟨t, h1, o, h2, h3, h4⟩ := body p e s m below meth c s₁ hZ e0 (Stand.of_body Bd) Bd.exec Bd.bytes hml (findClass_of_methodNamed Bd.named) (name_of_methodNamed Bd.named Bd.method).1 Bd.returns Bd.notSynchronized
  exact ⟨t, o, h1, h2, h3, h4⟩
def bi (P : Prop) [Decidable P] : Int32 := if P then 1 else 0
theorem bi_t {P : Prop} [Decidable P] (h : P) : bi P = 1 := if_pos h
theorem bi_f {P : Prop} [Decidable P] (h : ¬ P) : bi P = 0 := if_neg h
theorem eqL_v {args : Array Value} {first s : State} {o : Option Outcome} {idx : List Nat} {t : Term} {k : Int64} (h : (Cond.eq t (.long k)).value args first o s idx = some true) : t.eval args first o idx s = some (.long k) := by
  obtain ⟨x, y, ev, ey, -, hk⟩ := cmp_v (Or.inl h)
  obtain rfl : Value.long k = y := Option.some.inj ey
  obtain ⟨z, rfl⟩ := hk
  obtain rfl : z = k := gotT (eq_L ev ey) h
  exact ev
theorem eqI_v {args : Array Value} {first s : State} {o : Option Outcome} {idx : List Nat} {t : Term} {k : Int32} (h : (Cond.eq t (.int k)).value args first o s idx = some true) : t.eval args first o idx s = some (.int k) := by
  obtain ⟨x, y, ev, ey, -, hk⟩ := cmp_v (Or.inl h)
  obtain rfl : Value.int k = y := Option.some.inj ey
  obtain ⟨z, rfl⟩ := hk
  have q : (Cond.eq t (.int k)).value args first o s idx = some (decide (z = k)) := by simp [Cond.value, ev, ey]
  obtain rfl : z = k := gotT q h
  exact ev
section
variable {p : Program} {l : Launch} {e : Env} {R : Room} {s : State} {m : MethodId} {args : Array Value} {below : List Frame} {meth : Method} {c : Code} {T : State} {locs : List Loc} {cells slots : Nat} {Z : State} {a0 : Array Value} {h : Heap}
theorem fin {Q : Option Value → Heap → List Loc → Prop} {kc ks : Nat} {v : Option Value} {S : State} (X : Stand p l e R s m args below meth c T locs cells slots) (hv : meth.sig.returnType = none → v = none) (hlk : meth.locks = false) (hq : Q v T.heap locs) (hc : cells ≤ kc) (hs : slots ≤ ks)
    (st : ∀ fs, (∀ (f : JFrame) (acts : List Action), f.method = m → f.locked = none → f.entered = [] → (doReturn e (T.setTop f) acts v).1 = T.setFrames fs) → Steps p.tables e below S (T.setFrames fs)) : Go p.tables e below (Fine s below Q kc ks) S := by
  obtain ⟨fs, hr, hrun, hended, hW, hsame⟩ := X.leave (v := v) hv hlk
  exact ⟨_, st fs hr, _, hrun, hended, v, locs, rfl, hq, ⟨_, rfl⟩, hW, hsame.mono hc hs⟩
/-- return of an int, a long, a reference (no narrowing) -/
theorem endW {Q : Option Value → Heap → List Loc → Prop} {kc ks : Nat} (X : Stand p l e R s m args below meth c T locs cells slots) (hx : p.tables.exec = Jvm.exec) (hlk : meth.locks = false) {pc : Nat} {Ls : Array Slot} {w : Value} {t : FieldType} {i : Instr} {rest : List Value} (hret : meth.sig.returnType = some t) (hn : narrow t w = w)
    (hi : (i = .ireturn ∧ (t = .int ∨ t = .boolean ∨ t = .byte ∨ t = .char ∨ t = .short) ∧ ∃ z, w = .int z) ∨ (i = .lreturn ∧ t = .long ∧ ∃ z, w = .long z) ∨ (i = .dreturn ∧ t = .double ∧ ∃ z, w = .double z) ∨ (i = .freturn ∧ t = .float ∧ ∃ z, w = .float z) ∨ (i = .areturn ∧ t.isReference = true ∧ w.isRef = true))
    (hd : decode c.code pc = .ok (i, 1)) (hq : Q (some w) T.heap locs) (hc : cells ≤ kc) (hs : slots ≤ ks) : Go p.tables e below (Fine s below Q kc ks) (T.setTop (mkF m pc Ls (w :: rest))) :=
  fin X (fun h => by rw [hret] at h; cases h) hlk hq hc hs fun fs hr => retOut X hx hret hn hi hd hr
theorem endI {Q : Option Value → Heap → List Loc → Prop} {kc ks : Nat} (X : Stand p l e R s m args below meth c T locs cells slots) (hx : p.tables.exec = Jvm.exec) (hlk : meth.locks = false) {pc : Nat} {Ls : Array Slot} {z : Int32} {rest : List Value} (hret : meth.sig.returnType = some .int)
    (hd : decode c.code pc = .ok (.ireturn, 1)) (hq : Q (some (.int z)) T.heap locs) (hc : cells ≤ kc) (hs : slots ≤ ks) : Go p.tables e below (Fine s below Q kc ks) (T.setTop (mkF m pc Ls (.int z :: rest))) :=
  endW X hx hlk hret rfl (Or.inl ⟨rfl, Or.inl rfl, z, rfl⟩) hd hq hc hs
theorem endJ {Q : Option Value → Heap → List Loc → Prop} {kc ks : Nat} (X : Stand p l e R s m args below meth c T locs cells slots) (hx : p.tables.exec = Jvm.exec) (hlk : meth.locks = false) {pc : Nat} {Ls : Array Slot} {z : Int64} {rest : List Value} (hret : meth.sig.returnType = some .long)
    (hd : decode c.code pc = .ok (.lreturn, 1)) (hq : Q (some (.long z)) T.heap locs) (hc : cells ≤ kc) (hs : slots ≤ ks) : Go p.tables e below (Fine s below Q kc ks) (T.setTop (mkF m pc Ls (.long z :: rest))) :=
  endW X hx hlk hret rfl (Or.inr (Or.inl ⟨rfl, rfl, z, rfl⟩)) hd hq hc hs
theorem endD {Q : Option Value → Heap → List Loc → Prop} {kc ks : Nat} (X : Stand p l e R s m args below meth c T locs cells slots) (hx : p.tables.exec = Jvm.exec) (hlk : meth.locks = false) {pc : Nat} {Ls : Array Slot} {z : UInt64} {rest : List Value} (hret : meth.sig.returnType = some .double)
    (hd : decode c.code pc = .ok (.dreturn, 1)) (hq : Q (some (.double z)) T.heap locs) (hc : cells ≤ kc) (hs : slots ≤ ks) : Go p.tables e below (Fine s below Q kc ks) (T.setTop (mkF m pc Ls (.double z :: rest))) :=
  endW X hx hlk hret rfl (Or.inr (Or.inr (Or.inl ⟨rfl, rfl, z, rfl⟩))) hd hq hc hs
theorem endR {Q : Option Value → Heap → List Loc → Prop} {kc ks : Nat} (X : Stand p l e R s m args below meth c T locs cells slots) (hx : p.tables.exec = Jvm.exec) (hlk : meth.locks = false) {pc : Nat} {Ls : Array Slot} {w : Value} {t : FieldType} {rest : List Value} (hret : meth.sig.returnType = some t) (ht : t.isReference = true) (hw : w.isRef = true)
    (hd : decode c.code pc = .ok (.areturn, 1)) (hq : Q (some w) T.heap locs) (hc : cells ≤ kc) (hs : slots ≤ ks) : Go p.tables e below (Fine s below Q kc ks) (T.setTop (mkF m pc Ls (w :: rest))) :=
  endW X hx hlk hret (by cases w <;> first | rfl | (cases t <;> first | rfl | cases ht) | cases hw) (Or.inr (Or.inr (Or.inr (Or.inr ⟨rfl, ht, hw⟩)))) hd hq hc hs
/-- return of a boolean, byte, char or short: narrowed -/
theorem endN {Q : Option Value → Heap → List Loc → Prop} {kc ks : Nat} (X : Stand p l e R s m args below meth c T locs cells slots) (hx : p.tables.exec = Jvm.exec) (hlk : meth.locks = false) {pc : Nat} {Ls : Array Slot} {z w : Int32} {t : FieldType} {rest : List Value} (hret : meth.sig.returnType = some t) (ht : t = .boolean ∨ t = .byte ∨ t = .char ∨ t = .short)
    (hd : decode c.code pc = .ok (.ireturn, 1)) (hz : nar t z = w) (hq : Q (some (.int w)) T.heap locs) (hc : cells ≤ kc) (hs : slots ≤ ks) : Go p.tables e below (Fine s below Q kc ks) (T.setTop (mkF m pc Ls (.int z :: rest))) := by
  subst hz
  exact fin X (fun h => by rw [hret] at h; cases h) hlk hq hc hs fun fs hr => retN X hx hret ht hd hr
theorem endV {Q : Option Value → Heap → List Loc → Prop} {kc ks : Nat} (X : Stand p l e R s m args below meth c T locs cells slots) (hx : p.tables.exec = Jvm.exec) (hlk : meth.locks = false) {pc : Nat} {Ls : Array Slot} (hret : meth.sig.returnType = none)
    (hd : decode c.code pc = .ok (.return_, 1)) (hq : Q none T.heap locs) (hc : cells ≤ kc) (hs : slots ≤ ks) : Go p.tables e below (Fine s below Q kc ks) (T.setTop (mkF m pc Ls [])) :=
  fin X (fun _ => rfl) hlk hq hc hs fun fs hr => X.returnOut hx hret hd hr
theorem lremM {g : JFrame} {target : State} (X : Stand p l e R s m args below meth c T locs cells slots) (hx : p.tables.exec = Jvm.exec) (hg : g.method = m) {x y : Int64} {rest : List Value} (hd : decode c.code g.pc = .ok (.lrem, 1)) (hs : g.stack = .long y :: .long x :: rest) (hy : y ≠ 0)
    (hr : Steps p.tables e below (T.setTop { g with pc := g.pc + 1, stack := .long (x % y) :: rest }) target) : Steps p.tables e below (T.setTop g) target := by
  have q : x - x / y * y = x % y := lrem_mod x y
  exact XS.lrem X.here hx hg hd hs hy (by rw [q]; exact hr)
/-- a static call by its contract -/
theorem callSt (X : Stand p l e R s m args below meth c T locs cells slots) (hx : p.tables.exec = Jvm.exec) (hZ : Z.Warmed39 s.vm) {own : String} {index : Nat} {y : MethodName} {bytes : ByteArray} {maxL : Nat} {ret : Option FieldType} {rm : Room} {Q : Option Value → Heap → List Loc → Prop} {argsL rest : List Value}
    (hown : s.vm.findClass own = some m.cls) (w1 : (Cond.methodLink own index y).before a0 Z = true) (w2 : (Cond.static y).before a0 Z = true) (w3 : (Cond.initialized y.cls).before a0 Z = true) (w4 : (Cond.code y bytes maxL ret).before a0 Z = true) (hy : y.cls ≠ "java/lang/invoke/MethodHandle" ∧ y.cls ≠ "java/lang/invoke/VarHandle")
    (hM : Con l Z y bytes maxL ret [] rm argsL.toArray h Q) (eT : T.heap = h) (W : Nat) (hf : rm.frames + 1 ≤ R.frames) (hl : W + (maxL + 11) + rm.locals ≤ R.locals) (hcc : cells + rm.cells ≤ R.cells) (hss : slots + rm.slots ≤ R.slots)
    {g : JFrame} (hg : g.method = m) (hsize : g.locals.size = c.maxLocals) (hlen : ∀ sig, parseMethodDescriptor y.desc = some sig → argsL.length = sig.parameters.length)
    (hstack : g.stack = argsL.reverse ++ rest) (hW : 2 * g.monitorRoom + (rest.map fun v => v.category).sum ≤ W) (hd : decode c.code g.pc = .ok (.invokestatic index, 3)) :
    ∃ v T' L, Stand p l e R s m args below meth c T' (locs ++ L) (cells + rm.cells) (slots + rm.slots) ∧ Q v T'.heap L ∧ ∀ target, Steps p.tables e below (T'.setTop { g with pc := g.pc + 3, stack := v.toList ++ rest }) target → Steps p.tables e below (T.setTop g) target := by
  obtain ⟨v, vm1, ⟨T', L', k', n'⟩, -, X', ⟨L, hQ, l1, l2, l3⟩, st⟩ := Jvm.LawKit.callS X hx hown (mvT hZ w1) (mvT hZ w2) (mvT hZ w3) (mvT hZ w4) hy (backOf (Q := Q) (W := W) hM hZ w4 w3 hf hl) hg hsize hlen hstack hW hd (fun _ _ => ⟨rfl, eT, hcc, hss⟩)
  (try dsimp only at X' l1 l2 l3 st hQ)
  subst l1 l2 l3
  exact ⟨v, T', L, X', hQ, st⟩
/-- a constructor by its contract -/
theorem callIn (X : Stand p l e R s m args below meth c T locs cells slots) (hx : p.tables.exec = Jvm.exec) (hZ : Z.Warmed39 s.vm) {own : String} {index : Nat} {y : MethodName} {bytes : ByteArray} {maxL : Nat} {rm : Room} {Q : Option Value → Heap → List Loc → Prop} {a : Addr} {argsL rest : List Value} (hy1 : y.name = "<init>")
    (hown : s.vm.findClass own = some m.cls) (w1 : (Cond.methodLink own index y).before a0 Z = true) (w2 : (Cond.instanceMethod y).before a0 Z = true) (w3 : (Cond.initialized y.cls).before a0 Z = true) (w4 : (Cond.code y bytes maxL none).before a0 Z = true) (hy : y.cls ≠ "java/lang/invoke/MethodHandle" ∧ y.cls ≠ "java/lang/invoke/VarHandle")
    (hM : Con l Z y bytes maxL none [] rm (.ref a :: argsL).toArray h Q) (eT : T.heap = h) (W : Nat) (hf : rm.frames + 1 ≤ R.frames) (hl : W + (maxL + 11) + rm.locals ≤ R.locals) (hcc : cells + rm.cells ≤ R.cells) (hss : slots + rm.slots ≤ R.slots)
    {g : JFrame} (hg : g.method = m) (hsize : g.locals.size = c.maxLocals) (hlen : ∀ sig, parseMethodDescriptor y.desc = some sig → argsL.length = sig.parameters.length)
    (hstack : g.stack = argsL.reverse ++ .ref a :: rest) (hW : 2 * g.monitorRoom + (rest.map fun v => v.category).sum ≤ W) (hd : decode c.code g.pc = .ok (.invokespecial index, 3)) :
    ∃ v T' L, Stand p l e R s m args below meth c T' (locs ++ L) (cells + rm.cells) (slots + rm.slots) ∧ Q v T'.heap L ∧ ∀ target, Steps p.tables e below (T'.setTop { g with pc := g.pc + 3, stack := v.toList ++ rest }) target → Steps p.tables e below (T.setTop g) target := by
  obtain ⟨v, vm1, ⟨T', L', k', n'⟩, -, X', ⟨L, hQ, l1, l2, l3⟩, st⟩ := X.specialBack hx hy1 hown (mvT hZ w1) (mvT hZ w2) (mvT hZ w4) hy (backOf (Q := Q) (W := W) hM hZ w4 w3 hf hl) hg hsize (Steps.refl _) hlen hstack hW hd (fun _ _ => ⟨rfl, eT, hcc, hss⟩)
  (try dsimp only at X' l1 l2 l3 st hQ)
  subst l1 l2 l3
  exact ⟨v, T', L, X', hQ, fun target k => st.trans k⟩
theorem mvM {s : State} {a0 args : Array Value} {own host : String} {y : MethodName} {index : Nat} (hZ : Z.Warmed39 s.vm) (w : (Cond.methodLinkNest own index y host).before a0 Z = true) : (Cond.methodLinkNest own index y host).before args s = true := (Cond.methodLinkNest_wide hZ w :)
/-- a nest mate's constructor by its contract -/
theorem callInN (X : Stand p l e R s m args below meth c T locs cells slots) (hx : p.tables.exec = Jvm.exec) (hZ : Z.Warmed39 s.vm) {own host : String} {index : Nat} {y : MethodName} {bytes : ByteArray} {maxL : Nat} {rm : Room} {Q : Option Value → Heap → List Loc → Prop} {a : Addr} {argsL rest : List Value} (hy1 : y.name = "<init>")
    (hown : s.vm.findClass own = some m.cls) (w1 : (Cond.methodLinkNest own index y host).before a0 Z = true) (w2 : (Cond.instanceMethod y).before a0 Z = true) (w3 : (Cond.initialized y.cls).before a0 Z = true) (w4 : (Cond.code y bytes maxL none).before a0 Z = true) (hy : y.cls ≠ "java/lang/invoke/MethodHandle" ∧ y.cls ≠ "java/lang/invoke/VarHandle")
    (hM : Con l Z y bytes maxL none [] rm (.ref a :: argsL).toArray h Q) (eT : T.heap = h) (W : Nat) (hf : rm.frames + 1 ≤ R.frames) (hl : W + (maxL + 11) + rm.locals ≤ R.locals) (hcc : cells + rm.cells ≤ R.cells) (hss : slots + rm.slots ≤ R.slots)
    {g : JFrame} (hg : g.method = m) (hsize : g.locals.size = c.maxLocals) (hlen : ∀ sig, parseMethodDescriptor y.desc = some sig → argsL.length = sig.parameters.length)
    (hstack : g.stack = argsL.reverse ++ .ref a :: rest) (hW : 2 * g.monitorRoom + (rest.map fun v => v.category).sum ≤ W) (hd : decode c.code g.pc = .ok (.invokespecial index, 3)) :
    ∃ v T' L, Stand p l e R s m args below meth c T' (locs ++ L) (cells + rm.cells) (slots + rm.slots) ∧ Q v T'.heap L ∧ ∀ target, Steps p.tables e below (T'.setTop { g with pc := g.pc + 3, stack := v.toList ++ rest }) target → Steps p.tables e below (T.setTop g) target := by
  obtain ⟨v, vm1, ⟨T', L', k', n'⟩, -, X', ⟨L, hQ, l1, l2, l3⟩, st⟩ := X.specialBackNest hx hy1 hown (mvM hZ w1) (mvT hZ w2) (mvT hZ w4) hy (backOf (Q := Q) (W := W) hM hZ w4 w3 hf hl) hg hsize (Steps.refl _) hlen hstack hW hd (fun _ _ => ⟨rfl, eT, hcc, hss⟩)
  (try dsimp only at X' l1 l2 l3 st hQ)
  subst l1 l2 l3
  exact ⟨v, T', L, X', hQ, fun target k => st.trans k⟩
/-- an instance method by the contract of the body that the receiver's class selects -/
theorem callVi (X : Stand p l e R s m args below meth c T locs cells slots) (hx : p.tables.exec = Jvm.exec) (hZ : Z.Warmed39 s.vm) {own C : String} {index : Nat} {y z : MethodName} {bytes : ByteArray} {maxL : Nat} {ret : Option FieldType} {rm : Room} {Q : Option Value → Heap → List Loc → Prop} {a : Addr} {argsL rest : List Value}
    (hown : s.vm.findClass own = some m.cls) (w1 : (Cond.methodLink own index y).before a0 Z = true) (w2 : (Cond.declares y).before a0 Z = true) (nf : NotFace s y) (w3 : (Cond.selects C y z).before a0 Z = true) (w4 : (Cond.instanceMethod z).before a0 Z = true) (w5 : (Cond.initialized z.cls).before a0 Z = true) (w6 : (Cond.code z bytes maxL ret).before a0 Z = true) (hy : y.cls ≠ "java/lang/invoke/MethodHandle" ∧ y.cls ≠ "java/lang/invoke/VarHandle")
    (hyz : z.desc = y.desc) (E : Exa Z h a C) (hM : Con l Z z bytes maxL ret [] rm (.ref a :: argsL).toArray h Q) (eT : T.heap = h) (W : Nat) (hf : rm.frames + 1 ≤ R.frames) (hl : W + (maxL + 11) + rm.locals ≤ R.locals) (hcc : cells + rm.cells ≤ R.cells) (hss : slots + rm.slots ≤ R.slots)
    {g : JFrame} (hg : g.method = m) (hsize : g.locals.size = c.maxLocals) (hlen : ∀ sig, parseMethodDescriptor y.desc = some sig → argsL.length = sig.parameters.length)
    (hstack : g.stack = argsL.reverse ++ .ref a :: rest) (hW : 2 * g.monitorRoom + (rest.map fun v => v.category).sum ≤ W) (hd : decode c.code g.pc = .ok (.invokevirtual index, 3)) :
    ∃ v T' L, Stand p l e R s m args below meth c T' (locs ++ L) (cells + rm.cells) (slots + rm.slots) ∧ Q v T'.heap L ∧ ∀ target, Steps p.tables e below (T'.setTop { g with pc := g.pc + 3, stack := v.toList ++ rest }) target → Steps p.tables e below (T.setTop g) target := by
  obtain ⟨cq, kq, qa, qb, qc⟩ := isOf hZ eT E
  obtain ⟨v, vm1, ⟨T', L', k', n'⟩, -, X', ⟨L, hQ, l1, l2, l3⟩, st⟩ := X.virtualBack hx (y := y) (z := z) hown (mvT hZ w1) (mvT hZ w2) nf (mvT hZ w3) (mvT hZ w4) hy (backOf (Q := Q) (W := W) hM hZ w6 w5 hf hl) qa qc hg hsize (Steps.refl _) hlen hstack hW hd (fun _ _ => ⟨rfl, eT, hcc, hss⟩)
  (try dsimp only at X' l1 l2 l3 st hQ)
  subst l1 l2 l3
  exact ⟨v, T', L, X', hQ, fun target k => st.trans k⟩
/-- a private instance method by its contract -/
theorem callPr (X : Stand p l e R s m args below meth c T locs cells slots) (hx : p.tables.exec = Jvm.exec) (hZ : Z.Warmed39 s.vm) {own C : String} {index : Nat} {y : MethodName} {bytes : ByteArray} {maxL : Nat} {ret : Option FieldType} {rm : Room} {Q : Option Value → Heap → List Loc → Prop} {a : Addr} {argsL rest : List Value}
    (hown : s.vm.findClass own = some m.cls) (w1 : (Cond.methodLink own index y).before a0 Z = true) (w2 : (Cond.instanceMethod y).before a0 Z = true) (w3 : (Cond.selects y.cls y y).before a0 Z = true) (w4 : (Cond.privateMethod y).before a0 Z = true) (w5 : (Cond.initialized y.cls).before a0 Z = true) (w6 : (Cond.code y bytes maxL ret).before a0 Z = true) (hy : y.cls ≠ "java/lang/invoke/MethodHandle" ∧ y.cls ≠ "java/lang/invoke/VarHandle")
    (E : Exa Z h a C) (hM : Con l Z y bytes maxL ret [] rm (.ref a :: argsL).toArray h Q) (eT : T.heap = h) (W : Nat) (hf : rm.frames + 1 ≤ R.frames) (hl : W + (maxL + 11) + rm.locals ≤ R.locals) (hcc : cells + rm.cells ≤ R.cells) (hss : slots + rm.slots ≤ R.slots)
    {g : JFrame} (hg : g.method = m) (hsize : g.locals.size = c.maxLocals) (hlen : ∀ sig, parseMethodDescriptor y.desc = some sig → argsL.length = sig.parameters.length)
    (hstack : g.stack = argsL.reverse ++ .ref a :: rest) (hW : 2 * g.monitorRoom + (rest.map fun v => v.category).sum ≤ W) (hd : decode c.code g.pc = .ok (.invokevirtual index, 3)) :
    ∃ v T' L, Stand p l e R s m args below meth c T' (locs ++ L) (cells + rm.cells) (slots + rm.slots) ∧ Q v T'.heap L ∧ ∀ target, Steps p.tables e below (T'.setTop { g with pc := g.pc + 3, stack := v.toList ++ rest }) target → Steps p.tables e below (T.setTop g) target := by
  obtain ⟨cell, q1, q2⟩ := E.cell
  obtain ⟨v, vm1, ⟨T', L', k', n'⟩, -, X', ⟨L, hQ, l1, l2, l3⟩, st⟩ := X.privateBack hx hown (mvT hZ w1) (mvT hZ w2) (mvT hZ w3) (Cond.privateMethod_at (mvP (args := args) hZ w4)) (mvT hZ w6) hy (backOf (Q := Q) (W := W) hM hZ w6 w5 hf hl) hg hsize (Steps.refl _) (by rw [eT]; exact q1) q2 hlen hstack hW hd (fun _ _ => ⟨rfl, eT, hcc, hss⟩)
  (try dsimp only at X' l1 l2 l3 st hQ)
  subst l1 l2 l3
  exact ⟨v, T', L, X', hQ, fun target k => st.trans k⟩
/-- an interface's method by the contract of the body that the receiver's class selects -/
theorem callIf (X : Stand p l e R s m args below meth c T locs cells slots) (hx : p.tables.exec = Jvm.exec) (hZ : Z.Warmed39 s.vm) {own C : String} {index count : Nat} {y z : MethodName} {bytes : ByteArray} {maxL : Nat} {ret : Option FieldType} {rm : Room} {Q : Option Value → Heap → List Loc → Prop} {a : Addr} {argsL rest : List Value}
    (hown : s.vm.findClass own = some m.cls) (w1 : (Cond.methodLink own index y).before a0 Z = true) (w2 : (Cond.declares y).before a0 Z = true) (w3 : (Cond.interfaceMethod y.cls y.cls y.name y.desc).before a0 Z = true) (w4 : (Cond.selects C y z).before a0 Z = true) (w5 : (Cond.instanceMethod z).before a0 Z = true) (w6 : (Cond.publicMethod z).before a0 Z = true) (w7 : (Cond.unhidden C y.name y.desc).before a0 Z = true) (w8 : (Cond.castable C y.cls).before a0 Z = true) (w9 : (Cond.initialized z.cls).before a0 Z = true) (w10 : (Cond.code z bytes maxL ret).before a0 Z = true) (hy : y.cls ≠ "java/lang/invoke/MethodHandle" ∧ y.cls ≠ "java/lang/invoke/VarHandle")
    (E : Exa Z h a C) (hM : Con l Z z bytes maxL ret [] rm (.ref a :: argsL).toArray h Q) (eT : T.heap = h) (W : Nat) (hf : rm.frames + 1 ≤ R.frames) (hl : W + (maxL + 11) + rm.locals ≤ R.locals) (hcc : cells + rm.cells ≤ R.cells) (hss : slots + rm.slots ≤ R.slots)
    {g : JFrame} (hg : g.method = m) (hsize : g.locals.size = c.maxLocals) (hlen : ∀ sig, parseMethodDescriptor y.desc = some sig → argsL.length = sig.parameters.length)
    (hstack : g.stack = argsL.reverse ++ .ref a :: rest) (hW : 2 * g.monitorRoom + (rest.map fun v => v.category).sum ≤ W) (hd : decode c.code g.pc = .ok (.invokeinterface index count, 5)) :
    ∃ v T' L, Stand p l e R s m args below meth c T' (locs ++ L) (cells + rm.cells) (slots + rm.slots) ∧ Q v T'.heap L ∧ ∀ target, Steps p.tables e below (T'.setTop { g with pc := g.pc + 5, stack := v.toList ++ rest }) target → Steps p.tables e below (T.setTop g) target := by
  obtain ⟨cq, kq, qa, qb, qc⟩ := isOf hZ eT E
  obtain ⟨v, vm1, ⟨T', L', k', n'⟩, -, X', ⟨L, hQ, l1, l2, l3⟩, st⟩ := X.interfaceBack hx (xi := y) (y := z) hown (mvT hZ w1) (mvT hZ w2) (mvT hZ w3 (by simp [Cond.onTables, Cond.keepsFace, Cond.faceAtom, Cond.keeps, Cond.steady, hy.1, hy.2])) (mvT hZ w4) (mvT hZ w5) (mvT hZ w6) (mvT hZ w7) (mvT hZ w8) hy (backOf (Q := Q) (W := W) hM hZ w10 w9 hf hl) qa qb qc hg hsize (Steps.refl _) hlen hstack hW hd (fun _ _ => ⟨rfl, eT, hcc, hss⟩)
  (try dsimp only at X' l1 l2 l3 st hQ)
  subst l1 l2 l3
  exact ⟨v, T', L, X', hQ, fun target k => st.trans k⟩
/-- an array whose k-th element is f k -/
def Afn (Z : State) (h : Heap) (a : Addr) (ty : FieldType) (n : Int32) (f : Nat → Value) : Prop := ∃ c : Cell, Arr Z h a c ty ∧ c.slots.size = n.toNatClampNeg ∧ ¬ n < 0 ∧ ∀ k, k < n.toNatClampNeg → c.slots[k]? = some (f k) ∧ fits ty (f k) = true
theorem Afn.lt {h : Heap} {a : Addr} {ty : FieldType} {n : Int32} {f : Nat → Value} (F : Afn Z h a ty n f) : a < h.size := by obtain ⟨c, A, -⟩ := F; exact A.lt
theorem Afn.nn {h : Heap} {a : Addr} {ty : FieldType} {n : Int32} {f : Nat → Value} (F : Afn Z h a ty n f) : ¬ n < 0 := by obtain ⟨c, -, -, q, -⟩ := F; exact q
theorem Afn.ext {h h' : Heap} {a : Addr} {ty : FieldType} {n : Int32} {f : Nat → Value} (F : Afn Z h a ty n f) (E : Ext h h') : Afn Z h' a ty n f := by obtain ⟨c, A, r⟩ := F; exact ⟨c, A.ext E, r⟩
theorem Afn.other {h h' : Heap} {a b : Addr} {ty : FieldType} {n : Int32} {f : Nat → Value} {sl : Nat} {v : Value} (F : Afn Z h b ty n f) (W : Wr h h' a sl v) (q : b ≠ a) : Afn Z h' b ty n f := by obtain ⟨c, A, r⟩ := F; exact ⟨c, A.other W q, r⟩
theorem Afn.keep {h h' : Heap} {a : Addr} {ty : FieldType} {n : Int32} {f : Nat → Value} {ws : List Addr} (F : Afn Z h a ty n f) (K : Keep h h' ws) (q : a ∉ ws) : Afn Z h' a ty n f := by obtain ⟨c, A, r⟩ := F; exact ⟨c, ⟨K.2.1 a c A.1 q, A.2⟩, r⟩
theorem Afn.congr {h : Heap} {a : Addr} {ty : FieldType} {n : Int32} {f g : Nat → Value} (F : Afn Z h a ty n f) (q : ∀ k, k < n.toNatClampNeg → f k = g k) : Afn Z h a ty n g := by
  obtain ⟨c, A, s, m, r⟩ := F
  exact ⟨c, A, s, m, fun k hk => by rw [← q k hk]; exact r k hk⟩
theorem Afn.new {h : Heap} {a : Addr} {ty : FieldType} {n : Int32} {k : ClassId} (A : Arr Z h a (newA k ty n) ty) (q : ¬ n < 0) : Afn Z h a ty n (fun _ => defaultValue ty) := by
  obtain ⟨c, B, -, s, m, H, G⟩ := Arv.new A q
  exact ⟨c, B, s, m, fun j hj => ⟨by simpa using H j (by rw [s]; exact hj), by simpa using G j (by rw [s]; exact hj)⟩⟩
theorem Afn.set {h h' : Heap} {a : Addr} {ty : FieldType} {n : Int32} {f : Nat → Value} {c : Cell} {j : Int32} {v : Value} (A : Arr Z h a c ty) (s : c.slots.size = n.toNatClampNeg) (m : ¬ n < 0) (r : ∀ k, k < n.toNatClampNeg → c.slots[k]? = some (f k) ∧ fits ty (f k) = true) (hv : fits ty v = true) (W : Wr h h' a j.toNatClampNeg v) :
    Afn Z h' a ty n (fun k => if k = j.toNatClampNeg then v else f k) := by
  refine ⟨c.setSlot j.toNatClampNeg v, A.same W, by rw [sz_set]; exact s, m, fun k hk => ?_⟩
  dsimp only
  by_cases q : k = j.toNatClampNeg
  · rw [if_pos q]
    refine ⟨?_, hv⟩
    subst q
    simp [Cell.setSlot, s, hk]
  · rw [if_neg q]
    refine ⟨?_, (r k hk).2⟩
    show (c.slots.setIfInBounds _ _)[k]? = _
    rw [Array.getElem?_setIfInBounds_ne (Ne.symm q)]
    exact (r k hk).1
theorem inbN {n j : Int32} (q : ¬ j < 0 ∧ j < n) : j.toNatClampNeg < n.toNatClampNeg := by
  obtain ⟨h1, h2⟩ := q
  rw [Int32.lt_iff_toInt_lt] at h1 h2
  have e : (0 : Int32).toInt = 0 := rfl
  simp only [Int32.toNatClampNeg]
  omega
theorem Afn.of_arv {h : Heap} {a : Addr} {k : ClassId} {ty : FieldType} {n : Int32} {vs : List Value} {d : Value} (F : Arv Z h a k ty n vs d) : Afn Z h a ty n (fun i => vs.getD i d) := by
  obtain ⟨c, A, -, s, m, H, G⟩ := F
  exact ⟨c, A, s, m, fun i hi => ⟨H i (by rw [s]; exact hi), G i (by rw [s]; exact hi)⟩⟩
theorem ns_root {O K : String} {n : Nat} (w : (Cond.noSuperclass O).before a0 Z = true) (wk : (Cond.instantiable K n).before a0 Z = true) (hn : O ≠ K) : NS Z O K := by
  obtain ⟨c, k, h1, h2, h3, -, -⟩ := Cond.noSuperclass_spec w
  obtain ⟨t, kt, g1, -⟩ := Cond.instantiable_spec wk
  have ne := ids_ne h1 g1 hn
  refine ⟨c, t, h1, g1, fun fuel => ?_⟩
  cases fuel with
  | zero => rfl
  | succ f => simp [Vm.isSubclassAux, ne, h2, h3]
theorem ns_no {C S K : String} {n : Nat} (w : (Cond.superclass C S).before a0 Z = true) (wk : (Cond.instantiable K n).before a0 Z = true) (q : NS Z C K) (hn : C ≠ K) : ∃ c t, Z.vm.findClass C = some c ∧ Z.vm.findClass K = some t ∧ Z.vm.assignable c t = false := by
  obtain ⟨c, t, h0, g0, n3⟩ := q
  obtain ⟨p, k, kp, h1, h2, h3, h4, h5, -, h7⟩ := Cond.superclass_spec h0 w
  obtain ⟨t', kt, g1, g2, g3, g4, -⟩ := Cond.instantiable_spec wk
  cases g0.symm.trans g1
  have g5 : kt.isInterface = false := (Bool.or_eq_false_iff.mp g4).1
  have ne := ids_ne h0 g0 hn
  refine ⟨c, t, h0, g0, ?_⟩
  show Z.vm.assignableAux (255 + 1) c t = false
  simp [Vm.assignableAux, ne, h2, g2, h5, g3, g5, Vm.isSubclass, n3]
end
end Jvm.OwnKit
namespace Jvm.OwnKit
open Sem ClassFile Op Lib Jvm.Stand Jvm.Free Jvm.LawKit Jvm.RoadKit
/-- the invocation of s has returned, perhaps with new entries in the intern table; what the tables book for EL says its text -/
def FineW (Z : State) (EL : List (String × Nat)) (s : State) (below : List Frame) (Q : Option Value → Heap → List Loc → Prop) (kc ks : Nat) (t : State) : Prop := ∃ o, t.status = .running ∧ Ended t below o ∧ ∃ v L, o = .returned v ∧ Q v t.heap L ∧ CHr Z EL s.vm s.heap t.vm t.heap ∧ ReturnedEndW s o t L kc ks
/-- a contract of a method that may load String constants for the first time -/
def ConH (l : Launch) (Z : State) (EL : List (String × Nat)) (y : MethodName) (bytes : ByteArray) (maxL : Nat) (ret : Option FieldType) (ws : List Jvm.Cond) (rm : Room) (as : Array Value) (h0 : Heap) (Q : Option Value → Heap → List Loc → Prop) : Prop :=
  MetFree l y (head1 (Jvm.Cond.code y bytes maxL ret :: ws) rm) (fun a U => a = as ∧ Z.Warmed39 U.vm ∧ U.heap = h0 ∧ CHv Z EL U.vm h0) (fun _ _ _ _ _ => True) (fun _ U o U' => ∃ v L, o = .returned v ∧ Q v U'.heap L ∧ CHr Z EL U.vm U.heap U'.vm U'.heap ∧ ReturnedEndW U o U' L rm.cells rm.slots)
theorem ConH.of {l : Launch} {Z : State} {EL : List (String × Nat)} {y : MethodName} {bytes : ByteArray} {maxL : Nat} {ret : Option FieldType} {ws : List Jvm.Cond} {rm : Room} {as : Array Value} {h0 : Heap} {Q : Option Value → Heap → List Loc → Prop} (hpl : plainFor y = true)
    (body : ∀ (p : Program) (e : Env) (s : State) (m : MethodId) (below : List Frame) (meth : Method) (c : Code) (s₁ : State) (vm0 : Vm) (k0 : Nat), Z.Warmed39 vm0 → s₁.heap = h0 → Stand p l e rm (s.setVm vm0) m as below meth c s₁ [] 0 0 → p.tables.exec = Jvm.exec → c.code = bytes → c.maxLocals = maxL → vm0.findClass y.cls = some m.cls → meth.name = y.name → meth.sig.returnType = ret → meth.locks = false →
      s.Since vm0 k0 → k0 ≤ h0.size → CHv Z EL vm0 h0 → CHr Z EL s.vm s.heap vm0 h0 → Go p.tables e below (FineW Z EL s below Q rm.cells rm.slots) (s₁.setTop (entryFrame m as maxL))) : ConH l Z EL y bytes maxL ret ws rm as h0 Q := by
  refine MetFree.of_bodySF hpl hisR ?_
  intro p e s m args below meth c s₁ Bd hml hP hK
  obtain ⟨rfl, hZ, hh, hCH⟩ := hP
  have e0 : s₁.heap = h0 := by rw [← hh, Bd.state]; rfl
  have X0 : Stand p l e rm (s.setVm s.vm) m args below meth c s₁ [] 0 0 := by rw [State.setVm_self]; exact Stand.of_body Bd
  obtain ⟨t, h1, o, h2, h3, h4⟩ := body p e s m below meth c s₁ s.vm h0.size hZ e0 X0 Bd.exec Bd.bytes hml (findClass_of_methodNamed Bd.named) (name_of_methodNamed Bd.named Bd.method).1 Bd.returns Bd.notSynchronized ((State.WarmedH.refl s).since _) (Nat.le_refl _) hCH (by rw [hh]; exact CHr.refl hCH)
  exact ⟨t, o, h1, h2, h3, h4⟩
section
variable {p : Program} {l : Launch} {e : Env} {R : Room} {s : State} {m : MethodId} {args : Array Value} {below : List Frame} {meth : Method} {c : Code} {T : State} {locs : List Loc} {cells slots : Nat} {Z : State} {a0 : Array Value} {h : Heap} {vm0 : Vm} {k0 : Nat} {EL : List (String × Nat)}
theorem finW {Q : Option Value → Heap → List Loc → Prop} {kc ks : Nat} {v : Option Value} {S : State} (X : Stand p l e R (s.setVm vm0) m args below meth c T locs cells slots) (hZ : Z.Warmed39 vm0) (hS : s.Since vm0 k0) (eT : T.heap = h) (hk : k0 ≤ h.size) (hEL : EW Z a0 EL) (CH : CHv Z EL vm0 h) (CR : CHr Z EL s.vm s.heap vm0 h)
    (hv : meth.sig.returnType = none → v = none) (hlk : meth.locks = false) (hq : Q v T.heap locs) (hc : cells ≤ kc) (hs : slots ≤ ks)
    (st : ∀ fs, (∀ (f : JFrame) (acts : List Action), f.method = m → f.locked = none → f.entered = [] → (doReturn e (T.setTop f) acts v).1 = T.setFrames fs) → Steps p.tables e below S (T.setFrames fs)) : Go p.tables e below (FineW Z EL s below Q kc ks) S := by
  obtain ⟨fs, hr, hrun, hended, hRE⟩ := X.leaveW hS (by rw [eT]; exact hk) hv hlk
  refine ⟨_, st fs hr, _, hrun, hended, v, locs, rfl, hq, ?_, hRE.1, hRE.2.1, hRE.2.2.1, hRE.2.2.2.mono hc hs⟩
  have q := CR.trans (CHv.at X hZ hEL CH)
  rw [← eT] at q
  exact q
theorem endWW {Q : Option Value → Heap → List Loc → Prop} {kc ks : Nat} (X : Stand p l e R (s.setVm vm0) m args below meth c T locs cells slots) (hx : p.tables.exec = Jvm.exec) (hlk : meth.locks = false) (hZ : Z.Warmed39 vm0) (hS : s.Since vm0 k0) (eT : T.heap = h) (hk : k0 ≤ h.size) (hEL : EW Z a0 EL) (CH : CHv Z EL vm0 h) (CR : CHr Z EL s.vm s.heap vm0 h) {pc : Nat} {Ls : Array Slot} {w : Value} {t : FieldType} {i : Instr} {rest : List Value} (hret : meth.sig.returnType = some t) (hn : narrow t w = w)
    (hi : (i = .ireturn ∧ (t = .int ∨ t = .boolean ∨ t = .byte ∨ t = .char ∨ t = .short) ∧ ∃ z, w = .int z) ∨ (i = .lreturn ∧ t = .long ∧ ∃ z, w = .long z) ∨ (i = .dreturn ∧ t = .double ∧ ∃ z, w = .double z) ∨ (i = .freturn ∧ t = .float ∧ ∃ z, w = .float z) ∨ (i = .areturn ∧ t.isReference = true ∧ w.isRef = true))
    (hd : decode c.code pc = .ok (i, 1)) (hq : Q (some w) T.heap locs) (hc : cells ≤ kc) (hs : slots ≤ ks) : Go p.tables e below (FineW Z EL s below Q kc ks) (T.setTop (mkF m pc Ls (w :: rest))) :=
  finW X hZ hS eT hk hEL CH CR (fun h => by rw [hret] at h; cases h) hlk hq hc hs fun fs hr => retOut X hx hret hn hi hd hr
theorem endIW {Q : Option Value → Heap → List Loc → Prop} {kc ks : Nat} (X : Stand p l e R (s.setVm vm0) m args below meth c T locs cells slots) (hx : p.tables.exec = Jvm.exec) (hlk : meth.locks = false) (hZ : Z.Warmed39 vm0) (hS : s.Since vm0 k0) (eT : T.heap = h) (hk : k0 ≤ h.size) (hEL : EW Z a0 EL) (CH : CHv Z EL vm0 h) (CR : CHr Z EL s.vm s.heap vm0 h) {pc : Nat} {Ls : Array Slot} {z : Int32} {rest : List Value} (hret : meth.sig.returnType = some .int)
    (hd : decode c.code pc = .ok (.ireturn, 1)) (hq : Q (some (.int z)) T.heap locs) (hc : cells ≤ kc) (hs : slots ≤ ks) : Go p.tables e below (FineW Z EL s below Q kc ks) (T.setTop (mkF m pc Ls (.int z :: rest))) :=
  endWW X hx hlk hZ hS eT hk hEL CH CR hret rfl (Or.inl ⟨rfl, Or.inl rfl, z, rfl⟩) hd hq hc hs
theorem endRW {Q : Option Value → Heap → List Loc → Prop} {kc ks : Nat} (X : Stand p l e R (s.setVm vm0) m args below meth c T locs cells slots) (hx : p.tables.exec = Jvm.exec) (hlk : meth.locks = false) (hZ : Z.Warmed39 vm0) (hS : s.Since vm0 k0) (eT : T.heap = h) (hk : k0 ≤ h.size) (hEL : EW Z a0 EL) (CH : CHv Z EL vm0 h) (CR : CHr Z EL s.vm s.heap vm0 h) {pc : Nat} {Ls : Array Slot} {w : Value} {t : FieldType} {rest : List Value} (hret : meth.sig.returnType = some t) (ht : t.isReference = true) (hw : w.isRef = true)
    (hd : decode c.code pc = .ok (.areturn, 1)) (hq : Q (some w) T.heap locs) (hc : cells ≤ kc) (hs : slots ≤ ks) : Go p.tables e below (FineW Z EL s below Q kc ks) (T.setTop (mkF m pc Ls (w :: rest))) :=
  endWW X hx hlk hZ hS eT hk hEL CH CR hret (by cases w <;> first | rfl | (cases t <;> first | rfl | cases ht) | cases hw) (Or.inr (Or.inr (Or.inr (Or.inr ⟨rfl, ht, hw⟩)))) hd hq hc hs
theorem endNW {Q : Option Value → Heap → List Loc → Prop} {kc ks : Nat} (X : Stand p l e R (s.setVm vm0) m args below meth c T locs cells slots) (hx : p.tables.exec = Jvm.exec) (hlk : meth.locks = false) (hZ : Z.Warmed39 vm0) (hS : s.Since vm0 k0) (eT : T.heap = h) (hk : k0 ≤ h.size) (hEL : EW Z a0 EL) (CH : CHv Z EL vm0 h) (CR : CHr Z EL s.vm s.heap vm0 h) {pc : Nat} {Ls : Array Slot} {z w : Int32} {t : FieldType} {rest : List Value} (hret : meth.sig.returnType = some t) (ht : t = .boolean ∨ t = .byte ∨ t = .char ∨ t = .short)
    (hd : decode c.code pc = .ok (.ireturn, 1)) (hz : nar t z = w) (hq : Q (some (.int w)) T.heap locs) (hc : cells ≤ kc) (hs : slots ≤ ks) : Go p.tables e below (FineW Z EL s below Q kc ks) (T.setTop (mkF m pc Ls (.int z :: rest))) := by
  subst hz
  exact finW X hZ hS eT hk hEL CH CR (fun h => by rw [hret] at h; cases h) hlk hq hc hs fun fs hr => retN X hx hret ht hd hr
theorem endVW {Q : Option Value → Heap → List Loc → Prop} {kc ks : Nat} (X : Stand p l e R (s.setVm vm0) m args below meth c T locs cells slots) (hx : p.tables.exec = Jvm.exec) (hlk : meth.locks = false) (hZ : Z.Warmed39 vm0) (hS : s.Since vm0 k0) (eT : T.heap = h) (hk : k0 ≤ h.size) (hEL : EW Z a0 EL) (CH : CHv Z EL vm0 h) (CR : CHr Z EL s.vm s.heap vm0 h) {pc : Nat} {Ls : Array Slot} (hret : meth.sig.returnType = none)
    (hd : decode c.code pc = .ok (.return_, 1)) (hq : Q none T.heap locs) (hc : cells ≤ kc) (hs : slots ≤ ks) : Go p.tables e below (FineW Z EL s below Q kc ks) (T.setTop (mkF m pc Ls [])) :=
  finW X hZ hS eT hk hEL CH CR (fun _ => rfl) hlk hq hc hs fun fs hr => X.returnOut hx hret hd hr
theorem callStW (X : Stand p l e R (s.setVm vm0) m args below meth c T locs cells slots) (hx : p.tables.exec = Jvm.exec) (hZ : Z.Warmed39 vm0) {own : String} {index : Nat} {y : MethodName} {bytes : ByteArray} {maxL : Nat} {ret : Option FieldType} {rm : Room} {Q : Option Value → Heap → List Loc → Prop} {argsL rest : List Value}
    (hown : vm0.findClass own = some m.cls) (w1 : (Cond.methodLink own index y).before a0 Z = true) (w2 : (Cond.static y).before a0 Z = true) (w3 : (Cond.initialized y.cls).before a0 Z = true) (w4 : (Cond.code y bytes maxL ret).before a0 Z = true) (hy : y.cls ≠ "java/lang/invoke/MethodHandle" ∧ y.cls ≠ "java/lang/invoke/VarHandle")
    (hM : ConH l Z EL y bytes maxL ret [] rm argsL.toArray h Q) (eT : T.heap = h) (hEL : EW Z a0 EL) (CH : CHv Z EL vm0 h) (hS : s.Since vm0 k0) (hk : k0 ≤ h.size) (W : Nat) (hf : rm.frames + 1 ≤ R.frames) (hl : W + (maxL + 11) + rm.locals ≤ R.locals) (hcc : cells + rm.cells ≤ R.cells) (hss : slots + rm.slots ≤ R.slots)
    {g : JFrame} (hg : g.method = m) (hsize : g.locals.size = c.maxLocals) (hlen : ∀ sig, parseMethodDescriptor y.desc = some sig → argsL.length = sig.parameters.length)
    (hstack : g.stack = argsL.reverse ++ rest) (hW : 2 * g.monitorRoom + (rest.map fun v => v.category).sum ≤ W) (hd : decode c.code g.pc = .ok (.invokestatic index, 3)) :
    ∃ v T' L, Stand p l e R (s.setVm T'.vm) m args below meth c T' (locs ++ L) (cells + rm.cells) (slots + rm.slots) ∧ Q v T'.heap L ∧ CHr Z EL vm0 h T'.vm T'.heap ∧ s.Since T'.vm T'.heap.size ∧ Z.Warmed39 T'.vm ∧ T'.vm.findClass own = some m.cls ∧ ∀ target, Steps p.tables e below (T'.setTop { g with pc := g.pc + 3, stack := v.toList ++ rest }) target → Steps p.tables e below (T.setTop g) target := by
  obtain ⟨v, vm1, ⟨T', L', k', n'⟩, -, X', hS2, hgr, ⟨L, hQ, l1, l2, l3, hC⟩, st⟩ := callSS X hx hown (mvT (s := s.setVm vm0) hZ w1) (mvT (s := s.setVm vm0) hZ w2) (mvT (s := s.setVm vm0) hZ w3) (mvT (s := s.setVm vm0) hZ w4) hy (backOfSH (Q := Q) (W := W) hM hZ w4 w3 hf hl hEL CH) hg hsize hlen hstack hW hd (fun _ _ => ⟨rfl, eT, hcc, hss⟩)
  (try dsimp only at X' l1 l2 l3 st hQ hC hS2 hgr)
  subst l1 l2 l3
  obtain ⟨Y, hS3, hZ3, hown3⟩ := rebS hS (n1 := T.heap.size) (by rw [eT]; exact hk) X' hS2 hgr hZ hown
  exact ⟨v, T', L, Y, hQ, hC, hS3, hZ3, hown3, fun target k => st.trans k⟩
theorem callInW (X : Stand p l e R (s.setVm vm0) m args below meth c T locs cells slots) (hx : p.tables.exec = Jvm.exec) (hZ : Z.Warmed39 vm0) {own : String} {index : Nat} {y : MethodName} {bytes : ByteArray} {maxL : Nat} {rm : Room} {Q : Option Value → Heap → List Loc → Prop} {a : Addr} {argsL rest : List Value} (hy1 : y.name = "<init>")
    (hown : vm0.findClass own = some m.cls) (w1 : (Cond.methodLink own index y).before a0 Z = true) (w2 : (Cond.instanceMethod y).before a0 Z = true) (w3 : (Cond.initialized y.cls).before a0 Z = true) (w4 : (Cond.code y bytes maxL none).before a0 Z = true) (hy : y.cls ≠ "java/lang/invoke/MethodHandle" ∧ y.cls ≠ "java/lang/invoke/VarHandle")
    (hM : ConH l Z EL y bytes maxL none [] rm (.ref a :: argsL).toArray h Q) (eT : T.heap = h) (hEL : EW Z a0 EL) (CH : CHv Z EL vm0 h) (hS : s.Since vm0 k0) (hk : k0 ≤ h.size) (W : Nat) (hf : rm.frames + 1 ≤ R.frames) (hl : W + (maxL + 11) + rm.locals ≤ R.locals) (hcc : cells + rm.cells ≤ R.cells) (hss : slots + rm.slots ≤ R.slots)
    {g : JFrame} (hg : g.method = m) (hsize : g.locals.size = c.maxLocals) (hlen : ∀ sig, parseMethodDescriptor y.desc = some sig → argsL.length = sig.parameters.length)
    (hstack : g.stack = argsL.reverse ++ .ref a :: rest) (hW : 2 * g.monitorRoom + (rest.map fun v => v.category).sum ≤ W) (hd : decode c.code g.pc = .ok (.invokespecial index, 3)) :
    ∃ v T' L, Stand p l e R (s.setVm T'.vm) m args below meth c T' (locs ++ L) (cells + rm.cells) (slots + rm.slots) ∧ Q v T'.heap L ∧ CHr Z EL vm0 h T'.vm T'.heap ∧ s.Since T'.vm T'.heap.size ∧ Z.Warmed39 T'.vm ∧ T'.vm.findClass own = some m.cls ∧ ∀ target, Steps p.tables e below (T'.setTop { g with pc := g.pc + 3, stack := v.toList ++ rest }) target → Steps p.tables e below (T.setTop g) target := by
  obtain ⟨v, vm1, ⟨T', L', k', n'⟩, -, X', hS2, hgr, ⟨L, hQ, l1, l2, l3, hC⟩, st⟩ := X.specialBackS hx hy1 hown (mvT (s := s.setVm vm0) hZ w1) (mvT (s := s.setVm vm0) hZ w2) (mvT (s := s.setVm vm0) hZ w4) hy (backOfSH (Q := Q) (W := W) hM hZ w4 w3 hf hl hEL CH) hg hsize (Steps.refl _) hlen hstack hW hd (fun _ _ => ⟨rfl, eT, hcc, hss⟩)
  (try dsimp only at X' l1 l2 l3 st hQ hC hS2 hgr)
  subst l1 l2 l3
  obtain ⟨Y, hS3, hZ3, hown3⟩ := rebS hS (n1 := T.heap.size) (by rw [eT]; exact hk) X' hS2 hgr hZ hown
  exact ⟨v, T', L, Y, hQ, hC, hS3, hZ3, hown3, fun target k => st.trans k⟩
theorem callViW (X : Stand p l e R (s.setVm vm0) m args below meth c T locs cells slots) (hx : p.tables.exec = Jvm.exec) (hZ : Z.Warmed39 vm0) {own C : String} {index : Nat} {y z : MethodName} {bytes : ByteArray} {maxL : Nat} {ret : Option FieldType} {rm : Room} {Q : Option Value → Heap → List Loc → Prop} {a : Addr} {argsL rest : List Value}
    (hown : vm0.findClass own = some m.cls) (w1 : (Cond.methodLink own index y).before a0 Z = true) (w2 : (Cond.declares y).before a0 Z = true) (nf : NotFace (s.setVm vm0) y) (w3 : (Cond.selects C y z).before a0 Z = true) (w4 : (Cond.instanceMethod z).before a0 Z = true) (w5 : (Cond.initialized z.cls).before a0 Z = true) (w6 : (Cond.code z bytes maxL ret).before a0 Z = true) (hy : y.cls ≠ "java/lang/invoke/MethodHandle" ∧ y.cls ≠ "java/lang/invoke/VarHandle")
    (hyz : z.desc = y.desc) (E : Exa Z h a C) (hM : ConH l Z EL z bytes maxL ret [] rm (.ref a :: argsL).toArray h Q) (eT : T.heap = h) (hEL : EW Z a0 EL) (CH : CHv Z EL vm0 h) (hS : s.Since vm0 k0) (hk : k0 ≤ h.size) (W : Nat) (hf : rm.frames + 1 ≤ R.frames) (hl : W + (maxL + 11) + rm.locals ≤ R.locals) (hcc : cells + rm.cells ≤ R.cells) (hss : slots + rm.slots ≤ R.slots)
    {g : JFrame} (hg : g.method = m) (hsize : g.locals.size = c.maxLocals) (hlen : ∀ sig, parseMethodDescriptor y.desc = some sig → argsL.length = sig.parameters.length)
    (hstack : g.stack = argsL.reverse ++ .ref a :: rest) (hW : 2 * g.monitorRoom + (rest.map fun v => v.category).sum ≤ W) (hd : decode c.code g.pc = .ok (.invokevirtual index, 3)) :
    ∃ v T' L, Stand p l e R (s.setVm T'.vm) m args below meth c T' (locs ++ L) (cells + rm.cells) (slots + rm.slots) ∧ Q v T'.heap L ∧ CHr Z EL vm0 h T'.vm T'.heap ∧ s.Since T'.vm T'.heap.size ∧ Z.Warmed39 T'.vm ∧ T'.vm.findClass own = some m.cls ∧ ∀ target, Steps p.tables e below (T'.setTop { g with pc := g.pc + 3, stack := v.toList ++ rest }) target → Steps p.tables e below (T.setTop g) target := by
  obtain ⟨cq, kq, qa, qb, qc⟩ := isOf (s := s.setVm vm0) hZ eT E
  obtain ⟨v, vm1, ⟨T', L', k', n'⟩, -, X', hS2, hgr, ⟨L, hQ, l1, l2, l3, hC⟩, st⟩ := X.virtualBackS hx (y := y) (z := z) hown (mvT (s := s.setVm vm0) hZ w1) (mvT (s := s.setVm vm0) hZ w2) nf (mvT (s := s.setVm vm0) hZ w3) (mvT (s := s.setVm vm0) hZ w4) hy (backOfSH (Q := Q) (W := W) hM hZ w6 w5 hf hl hEL CH) qa qc hg hsize (Steps.refl _) hlen hstack hW hd (fun _ _ => ⟨rfl, eT, hcc, hss⟩)
  (try dsimp only at X' l1 l2 l3 st hQ hC hS2 hgr)
  subst l1 l2 l3
  obtain ⟨Y, hS3, hZ3, hown3⟩ := rebS hS (n1 := T.heap.size) (by rw [eT]; exact hk) X' hS2 hgr hZ hown
  exact ⟨v, T', L, Y, hQ, hC, hS3, hZ3, hown3, fun target k => st.trans k⟩
end
end Jvm.OwnKit
namespace Jvm.Pilot.@@N@@
open Jvm Jvm.ClassFile Sem Op Lib Jvm.Free Jvm.Stand Jvm.LawKit Jvm.RoadKit Jvm.OwnKit Bundle Jvm.Pilot.@@N@@.Jvm.D
theorem own_nar (x : Int32) (h : 0 ≤ x.toInt ∧ x.toInt ≤ 255) : nar .char x = x := by
  have q := c_i2c x
  apply Int32.toInt_inj.mp
  show (x.toUInt32.toUInt16.toUInt32.toInt32).toInt = x.toInt
  omega
theorem own_ch (z v : Int32) (h : ((z &&& (255 : Int32)).toUInt32.toUInt16.toUInt32.toInt32) = v) : ¬ v < (0 : Int32) ∧ ¬ (255 : Int32) < v ∧ nar .char v = v := by
  have q := c_and z 255 (by decide)
  have e0 : (0 : Int32).toInt = 0 := rfl
  have e5 : (255 : Int32).toInt = 255 := rfl
  have r := c_i2c (z &&& 255)
  rw [h] at r
  have e : 0 ≤ v.toInt ∧ v.toInt ≤ 255 := by omega
  refine ⟨?_, ?_, own_nar _ e⟩ <;> rw [Int32.lt_iff_toInt_lt] <;> omega
def csL (l : List Int32) (k : Nat) : Int32 := l.getD k 0
theorem own_csb (l : List Int32) (h : ∀ x ∈ l, ¬ x < (0 : Int32) ∧ ¬ (255 : Int32) < x) (k : Nat) : ¬ csL l k < (0 : Int32) ∧ ¬ (255 : Int32) < csL l k := by
  unfold csL
  rw [List.getD_eq_getElem?_getD]
  by_cases z : k < l.length
  · rw [List.getElem?_eq_getElem z]
    exact h _ (List.getElem_mem z)
  · rw [List.getElem?_eq_none (Nat.le_of_not_lt z)]
    decide
theorem own_cs5 (x0 x1 x2 x3 x4 : Int32) (h0 : nar .char x0 = x0) (h1 : nar .char x1 = x1) (h2 : nar .char x2 = x2) (h3 : nar .char x3 = x3) (h4 : nar .char x4 = x4) (k : Nat) (hk : k < (5 : Int32).toNatClampNeg) : (if k = (4 : Int32).toNatClampNeg then Value.int (nar .char x4) else (if k = (3 : Int32).toNatClampNeg then Value.int (nar .char x3) else (if k = (2 : Int32).toNatClampNeg then Value.int (nar .char x2) else (if k = (1 : Int32).toNatClampNeg then Value.int (nar .char x1) else (if k = (0 : Int32).toNatClampNeg then Value.int (nar .char x0) else Value.int (0 : Int32)))))) = Value.int (csL [x0, x1, x2, x3, x4] k) := by
  have e0 : (0 : Int32).toNatClampNeg = 0 := rfl
  have e1 : (1 : Int32).toNatClampNeg = 1 := rfl
  have e2 : (2 : Int32).toNatClampNeg = 2 := rfl
  have e3 : (3 : Int32).toNatClampNeg = 3 := rfl
  have e4 : (4 : Int32).toNatClampNeg = 4 := rfl
  have e : (5 : Int32).toNatClampNeg = 5 := rfl
  rw [e] at hk
  have q : k = 0 ∨ k = 1 ∨ k = 2 ∨ k = 3 ∨ k = 4 := by omega
  rcases q with rfl | rfl | rfl | rfl | rfl <;> simp [csL, e0, e1, e2, e3, e4, h0, h1, h2, h3, h4]
theorem own_cs4 (x0 x1 x2 x3 : Int32) (h0 : nar .char x0 = x0) (h1 : nar .char x1 = x1) (h2 : nar .char x2 = x2) (h3 : nar .char x3 = x3) (k : Nat) (hk : k < (4 : Int32).toNatClampNeg) : (if k = (3 : Int32).toNatClampNeg then Value.int (nar .char x3) else (if k = (2 : Int32).toNatClampNeg then Value.int (nar .char x2) else (if k = (1 : Int32).toNatClampNeg then Value.int (nar .char x1) else (if k = (0 : Int32).toNatClampNeg then Value.int (nar .char x0) else Value.int (0 : Int32))))) = Value.int (csL [x0, x1, x2, x3] k) := by
  have e0 : (0 : Int32).toNatClampNeg = 0 := rfl
  have e1 : (1 : Int32).toNatClampNeg = 1 := rfl
  have e2 : (2 : Int32).toNatClampNeg = 2 := rfl
  have e3 : (3 : Int32).toNatClampNeg = 3 := rfl
  have e : (4 : Int32).toNatClampNeg = 4 := rfl
  rw [e] at hk
  have q : k = 0 ∨ k = 1 ∨ k = 2 ∨ k = 3 := by omega
  rcases q with rfl | rfl | rfl | rfl <;> simp [csL, e0, e1, e2, e3, h0, h1, h2, h3]
theorem own_cs3 (x0 x1 x2 : Int32) (h0 : nar .char x0 = x0) (h1 : nar .char x1 = x1) (h2 : nar .char x2 = x2) (k : Nat) (hk : k < (3 : Int32).toNatClampNeg) : (if k = (2 : Int32).toNatClampNeg then Value.int (nar .char x2) else (if k = (1 : Int32).toNatClampNeg then Value.int (nar .char x1) else (if k = (0 : Int32).toNatClampNeg then Value.int (nar .char x0) else Value.int (0 : Int32)))) = Value.int (csL [x0, x1, x2] k) := by
  have e0 : (0 : Int32).toNatClampNeg = 0 := rfl
  have e1 : (1 : Int32).toNatClampNeg = 1 := rfl
  have e2 : (2 : Int32).toNatClampNeg = 2 := rfl
  have e : (3 : Int32).toNatClampNeg = 3 := rfl
  rw [e] at hk
  have q : k = 0 ∨ k = 1 ∨ k = 2 := by omega
  rcases q with rfl | rfl | rfl <;> simp [csL, e0, e1, e2, h0, h1, h2]
theorem own_cs2 (x0 x1 : Int32) (h0 : nar .char x0 = x0) (h1 : nar .char x1 = x1) (k : Nat) (hk : k < (2 : Int32).toNatClampNeg) : (if k = (1 : Int32).toNatClampNeg then Value.int (nar .char x1) else (if k = (0 : Int32).toNatClampNeg then Value.int (nar .char x0) else Value.int (0 : Int32))) = Value.int (csL [x0, x1] k) := by
  have e0 : (0 : Int32).toNatClampNeg = 0 := rfl
  have e1 : (1 : Int32).toNatClampNeg = 1 := rfl
  have e : (2 : Int32).toNatClampNeg = 2 := rfl
  rw [e] at hk
  have q : k = 0 ∨ k = 1 := by omega
  rcases q with rfl | rfl <;> simp [csL, e0, e1, h0, h1]
theorem own_inc (n i : Int32) (h0 : ¬ i < (0 : Int32)) (h : i < n) : ¬ (i + (1 : Int32)) < (0 : Int32) ∧ ¬ n < (i + (1 : Int32)) ∧ (i + (1 : Int32)).toNatClampNeg = i.toNatClampNeg + 1 ∧ i.toNatClampNeg < n.toNatClampNeg := by
  have q := c_iadd i 1
  have r := rng32 (i + 1)
  have r2 := rng32 n
  have e1 : (1 : Int32).toInt = 1 := rfl
  have e0 : (0 : Int32).toInt = 0 := rfl
  simp only [Int32.lt_iff_toInt_lt, Int32.toNatClampNeg] at *
  omega
theorem own_b8 (x : Int32) : (x.toInt8.toInt32).toInt8.toInt32 = x.toInt8.toInt32 := by rw [Int8.toInt8_toInt32]
theorem own_lf (cf : Nat → Int32) (i : Int32) (k : Nat) : (if k = i.toNatClampNeg then Value.int (((cf i.toNatClampNeg).toInt8.toInt32).toInt8.toInt32) else Value.int (if k < i.toNatClampNeg then (cf k).toInt8.toInt32 else 0)) = Value.int (if k < i.toNatClampNeg + 1 then (cf k).toInt8.toInt32 else 0) := by
  by_cases z : k = i.toNatClampNeg
  · subst z
    simp [own_b8]
  · have q : (k < i.toNatClampNeg + 1) = (k < i.toNatClampNeg) := by simp only [eq_iff_iff]; omega
    simp [z, q]
theorem d6_0 : decode jdk_52_method_21_code 0 = .ok (.iconst 0, 1) := by decide +kernel
theorem d6_1 : decode jdk_52_method_21_code 1 = .ok (.istore 5, 2) := by decide +kernel
theorem d6_3 : decode jdk_52_method_21_code 3 = .ok (.iload 5, 2) := by decide +kernel
theorem d6_5 : decode jdk_52_method_21_code 5 = .ok (.iload 4, 2) := by decide +kernel
theorem d6_7 : decode jdk_52_method_21_code 7 = .ok (.if_icmp .ge 37, 3) := by decide +kernel
theorem d6_10 : decode jdk_52_method_21_code 10 = .ok (.aload_n 0, 1) := by decide +kernel
theorem d6_11 : decode jdk_52_method_21_code 11 = .ok (.iload_n 1, 1) := by decide +kernel
theorem d6_12 : decode jdk_52_method_21_code 12 = .ok (.caload, 1) := by decide +kernel
theorem d6_13 : decode jdk_52_method_21_code 13 = .ok (.istore 6, 2) := by decide +kernel
theorem d6_15 : decode jdk_52_method_21_code 15 = .ok (.iload 6, 2) := by decide +kernel
theorem d6_17 : decode jdk_52_method_21_code 17 = .ok (.sipush 255, 3) := by decide +kernel
theorem d6_20 : decode jdk_52_method_21_code 20 = .ok (.if_icmp .le 6, 3) := by decide +kernel
theorem d6_23 : decode jdk_52_method_21_code 23 = .ok (.iload 5, 2) := by decide +kernel
theorem d6_25 : decode jdk_52_method_21_code 25 = .ok (.ireturn, 1) := by decide +kernel
theorem d6_26 : decode jdk_52_method_21_code 26 = .ok (.aload_n 2, 1) := by decide +kernel
theorem d6_27 : decode jdk_52_method_21_code 27 = .ok (.iload_n 3, 1) := by decide +kernel
theorem d6_28 : decode jdk_52_method_21_code 28 = .ok (.iload 6, 2) := by decide +kernel
theorem d6_30 : decode jdk_52_method_21_code 30 = .ok (.i2b, 1) := by decide +kernel
theorem d6_31 : decode jdk_52_method_21_code 31 = .ok (.bastore, 1) := by decide +kernel
theorem d6_32 : decode jdk_52_method_21_code 32 = .ok (.iinc 1 1, 3) := by decide +kernel
theorem d6_35 : decode jdk_52_method_21_code 35 = .ok (.iinc 3 1, 3) := by decide +kernel
theorem d6_38 : decode jdk_52_method_21_code 38 = .ok (.iinc 5 1, 3) := by decide +kernel
theorem d6_41 : decode jdk_52_method_21_code 41 = .ok (.goto (-38), 3) := by decide +kernel
theorem d6_44 : decode jdk_52_method_21_code 44 = .ok (.iload 4, 2) := by decide +kernel
theorem d6_46 : decode jdk_52_method_21_code 46 = .ok (.ireturn, 1) := by decide +kernel
theorem pn_rm6 : plainName "java/lang/StringUTF16" = true := by first | (simp [plainName, overriddenIn]; done) | decide +kernel
theorem ef_rm6 (m : MethodId) (a1 : Addr) (a3 : Addr) (n : Int32) : entryFrame m #[(.ref a1), (.int (0 : Int32)), (.ref a3), (.int (0 : Int32)), (.int n)] 7 = mkF m 0 #[.val (.ref a1), .val (.int (0 : Int32)), .val (.ref a3), .val (.int (0 : Int32)), .val (.int n), .unset, .unset] [] := by first | (simp [entryFrame, mkF, argsToLocals, Value.category]; done) | rfl
def Q6 (Z : State) (a1 : Addr) (a3 : Addr) (n : Int32) (cf : Nat → Int32) (h0 : Heap) (n0 : Nat) (v : Option Value) (h : Heap) (L : List Loc) : Prop := v = some (.int n) ∧ Fr n0 L ∧ Keep h0 h [a3] ∧ Afn Z h a3 .byte n (fun k => .int ((cf k).toInt8.toInt32))
set_option maxRecDepth 65536 in
set_option maxHeartbeats 40000000 in
theorem rm6 (l : Launch) (Z : State) (a0 : Array Value) (hw : ∀ d ∈ tables_1, d.before a0 Z = true) (ws : List Jvm.Cond) (a1 : Addr) (a3 : Addr) (n : Int32) (cf : Nat → Int32) (h0 : Heap) (n0 : Nat) (Z0 : n0 ≤ h0.size) (V1 : Afn Z h0 a1 .char n (fun k => .int (cf k))) (V3 : Afn Z h0 a3 .byte n (fun _ => .int (0 : Int32))) (hcb : ∀ k, k < n.toNatClampNeg → ¬ cf k < (0 : Int32) ∧ ¬ (255 : Int32) < cf k) (hne : a1 ≠ a3) (g3 : n0 ≤ a3) :
    Con l Z (⟨"java/lang/StringUTF16", "compress", "([CI[BII)I"⟩ : MethodName) jdk_52_method_21_code 7 (some .int) ws ({ frames := 0, cells := 0, slots := 0, locals := 0 } : Room) #[(.ref a1), (.int (0 : Int32)), (.ref a3), (.int (0 : Int32)), (.int n)] h0 (Q6 Z a1 a3 n cf h0 n0) := by
  refine Con.of (plainFor_of_name pn_rm6) ?_
  intro p e s m below meth c s₁ hZ e0 X0 hx hby hml hown hnm hret hlk
  replace hml : c.maxLocals = 7 := hml
  have hown : s.vm.findClass "java/lang/StringUTF16" = some m.cls := hown
  have N0 : Fr n0 [] := Fr.nil n0
  obtain ⟨PP, hPP⟩ : ∃ P, P = Fine s below (Q6 Z a1 a3 n cf h0 n0) ({ frames := 0, cells := 0, slots := 0, locals := 0 } : Room).cells ({ frames := 0, cells := 0, slots := 0, locals := 0 } : Room).slots := ⟨_, rfl⟩
  rw [← hPP]
  refine Go.cast (ef_rm6 m a1 a3 n) ?_
  have K : Keep h0 h0 [a3] := Keep.refl h0 _
  have Zn : n0 ≤ h0.size := Z0
  show Go p.tables e below PP (s₁.setTop (mkF m 0 #[.val (.ref a1), .val (.int (0 : Int32)), .val (.ref a3), .val (.int (0 : Int32)), .val (.int n), .unset, .unset] []))
  refine Go.st (fun t k => XS.iconst X0.here hx rfl (hb hby d6_0) k) ?_
  show Go p.tables e below PP (s₁.setTop (mkF m 1 #[.val (.ref a1), .val (.int (0 : Int32)), .val (.ref a3), .val (.int (0 : Int32)), .val (.int n), .unset, .unset] [(.int (0 : Int32))]))
  refine Go.st (fun t k => XS.istore X0.here hx rfl (hb hby d6_1) rfl (l' := #[.val (.ref a1), .val (.int (0 : Int32)), .val (.ref a3), .val (.int (0 : Int32)), .val (.int n), .val (.int (0 : Int32)), .unset]) rfl k) ?_
  have J3 : ∀ (d1 : Nat) (T1 : State) (L1 : List Loc) (h1 : Heap) (i : Int32) (s6 : Slot), Stand p l e ({ frames := 0, cells := 0, slots := 0, locals := 0 } : Room) s m #[(.ref a1), (.int (0 : Int32)), (.ref a3), (.int (0 : Int32)), (.int n)] below meth c T1 L1 0 0 → T1.heap = h1 → Fr n0 L1 → Afn Z h1 a1 .char n (fun k => .int (cf k)) → Afn Z h1 a3 .byte n (fun k => .int (if k < i.toNatClampNeg then (cf k).toInt8.toInt32 else 0)) → Keep h0 h1 [a3] → n0 ≤ h1.size → (¬ i < (0 : Int32) ∧ ¬ n < i ∧ (s6 = .unset ∨ ∃ z, s6 = .val (.int z))) → n.toNatClampNeg - i.toNatClampNeg = d1 → Go p.tables e below PP (T1.setTop (mkF m 3 #[.val (.ref a1), .val (.int i), .val (.ref a3), .val (.int i), .val (.int n), .val (.int i), s6] [])) := by
    clear V1
    clear V3
    clear Zn K
    intro d1
    induction d1 using Nat.strongRecOn with
    | _ d1 ih1 =>
      intro T1 L1 h1 i s6 X1 e1 N1 V1 V3 K Zn hJ3 hd1
      show Go p.tables e below PP (T1.setTop (mkF m 3 #[.val (.ref a1), .val (.int i), .val (.ref a3), .val (.int i), .val (.int n), .val (.int i), s6] []))
      refine Go.st (fun t k => XS.iload X1.here hx rfl (hb hby d6_3) rfl k) ?_
      show Go p.tables e below PP (T1.setTop (mkF m 5 #[.val (.ref a1), .val (.int i), .val (.ref a3), .val (.int i), .val (.int n), .val (.int i), s6] [(.int i)]))
      refine Go.st (fun t k => XS.iload X1.here hx rfl (hb hby d6_5) rfl k) ?_
      show Go p.tables e below PP (T1.setTop (mkF m 7 #[.val (.ref a1), .val (.int i), .val (.ref a3), .val (.int i), .val (.int n), .val (.int i), s6] [(.int n), (.int i)]))
      by_cases hc7 : i < n
      · --
        refine Go.st (fun t k => XS.icmpNo X1.here hx rfl (hb hby d6_7) rfl (XT.ii_ge_f hc7) k) ?_
        show Go p.tables e below PP (T1.setTop (mkF m 10 #[.val (.ref a1), .val (.int i), .val (.ref a3), .val (.int i), .val (.int n), .val (.int i), s6] []))
        refine Go.st (fun t k => XS.aloadN X1.here hx rfl (hb hby d6_10) rfl rfl k) ?_
        show Go p.tables e below PP (T1.setTop (mkF m 11 #[.val (.ref a1), .val (.int i), .val (.ref a3), .val (.int i), .val (.int n), .val (.int i), s6] [(.ref a1)]))
        refine Go.st (fun t k => XS.iloadN X1.here hx rfl (hb hby d6_11) rfl k) ?_
        show Go p.tables e below PP (T1.setTop (mkF m 12 #[.val (.ref a1), .val (.int i), .val (.ref a3), .val (.int i), .val (.int n), .val (.int i), s6] [(.int i), (.ref a1)]))
        obtain ⟨cl2, Ar2, S2, Nn2, H2⟩ := id V1
        have hin2 : ¬ (i < 0 ∨ cl2.slots.size ≤ (i).toNatClampNeg) := inb_of S2 ⟨hJ3.1, hc7⟩
        refine Go.st (fun t k => X1.caload hx (j := i) (v := (.int (cf i.toNatClampNeg))) (by rw [e1]; exact Ar2.1) (State.isArrayOf_alike hZ.alike Ar2.2.1) Ar2.2.2 hin2 ((H2 _ (inbN ⟨hJ3.1, hc7⟩)).1.trans (congrArg some (rfl))) (g := (mkF m 12 #[.val (.ref a1), .val (.int i), .val (.ref a3), .val (.int i), .val (.int n), .val (.int i), s6] [(.int i), (.ref a1)])) rfl rfl (hb hby d6_12) _ k) ?_
        show Go p.tables e below PP (T1.setTop (mkF m 13 #[.val (.ref a1), .val (.int i), .val (.ref a3), .val (.int i), .val (.int n), .val (.int i), s6] [(.int (cf i.toNatClampNeg))]))
        refine Go.st (fun t k => XS.istore X1.here hx rfl (hb hby d6_13) rfl (l' := #[.val (.ref a1), .val (.int i), .val (.ref a3), .val (.int i), .val (.int n), .val (.int i), .val (.int (cf i.toNatClampNeg))]) (by rcases hJ3.2.2 with rfl | ⟨z, rfl⟩ <;> rfl) k) ?_
        show Go p.tables e below PP (T1.setTop (mkF m 15 #[.val (.ref a1), .val (.int i), .val (.ref a3), .val (.int i), .val (.int n), .val (.int i), .val (.int (cf i.toNatClampNeg))] []))
        refine Go.st (fun t k => XS.iload X1.here hx rfl (hb hby d6_15) rfl k) ?_
        show Go p.tables e below PP (T1.setTop (mkF m 17 #[.val (.ref a1), .val (.int i), .val (.ref a3), .val (.int i), .val (.int n), .val (.int i), .val (.int (cf i.toNatClampNeg))] [(.int (cf i.toNatClampNeg))]))
        refine Go.st (fun t k => XS.sipush X1.here hx rfl (hb hby d6_17) k) ?_
        show Go p.tables e below PP (T1.setTop (mkF m 20 #[.val (.ref a1), .val (.int i), .val (.ref a3), .val (.int i), .val (.int n), .val (.int i), .val (.int (cf i.toNatClampNeg))] [(.int (255 : Int32)), (.int (cf i.toNatClampNeg))]))
        refine Go.st (fun t k => XS.icmpYes X1.here hx rfl (pc0 := 20) (pc' := 26) rfl (hb hby d6_20) rfl (XT.ii_le_t (hcb _ (inbN ⟨hJ3.1, hc7⟩)).2) (by decide) (by decide) k) ?_
        show Go p.tables e below PP (T1.setTop (mkF m 26 #[.val (.ref a1), .val (.int i), .val (.ref a3), .val (.int i), .val (.int n), .val (.int i), .val (.int (cf i.toNatClampNeg))] []))
        refine Go.st (fun t k => XS.aloadN X1.here hx rfl (hb hby d6_26) rfl rfl k) ?_
        show Go p.tables e below PP (T1.setTop (mkF m 27 #[.val (.ref a1), .val (.int i), .val (.ref a3), .val (.int i), .val (.int n), .val (.int i), .val (.int (cf i.toNatClampNeg))] [(.ref a3)]))
        refine Go.st (fun t k => XS.iloadN X1.here hx rfl (hb hby d6_27) rfl k) ?_
        show Go p.tables e below PP (T1.setTop (mkF m 28 #[.val (.ref a1), .val (.int i), .val (.ref a3), .val (.int i), .val (.int n), .val (.int i), .val (.int (cf i.toNatClampNeg))] [(.int i), (.ref a3)]))
        refine Go.st (fun t k => XS.iload X1.here hx rfl (hb hby d6_28) rfl k) ?_
        show Go p.tables e below PP (T1.setTop (mkF m 30 #[.val (.ref a1), .val (.int i), .val (.ref a3), .val (.int i), .val (.int n), .val (.int i), .val (.int (cf i.toNatClampNeg))] [(.int (cf i.toNatClampNeg)), (.int i), (.ref a3)]))
        refine Go.st (fun t k => XS.i2b X1.here hx rfl (hb hby d6_30) rfl k) ?_
        show Go p.tables e below PP (T1.setTop (mkF m 31 #[.val (.ref a1), .val (.int i), .val (.ref a3), .val (.int i), .val (.int n), .val (.int i), .val (.int (cf i.toNatClampNeg))] [(.int ((cf i.toNatClampNeg).toInt8.toInt32)), (.int i), (.ref a3)]))
        obtain ⟨cl3, Ar3, S3, Nn3, H3⟩ := id V3
        have hin3 : ¬ (i < 0 ∨ cl3.slots.size ≤ (i).toNatClampNeg) := inb_of S3 ⟨hJ3.1, hc7⟩
        obtain ⟨T3, h3, X3, e3, W3, st3⟩ := stB X1 hx hZ e1 Ar3 (j := i) hin3 (g := (mkF m 31 #[.val (.ref a1), .val (.int i), .val (.ref a3), .val (.int i), .val (.int n), .val (.int i), .val (.int (cf i.toNatClampNeg))] [(.int ((cf i.toNatClampNeg).toInt8.toInt32)), (.int i), (.ref a3)])) rfl rfl (hb hby d6_31)
        refine Go.st st3 ?_
        have N3 := Fr.snoc X3 N1 g3
        replace V1 := V1.other W3 hne
        replace K := K.wr W3 (Or.inl (List.mem_of_getElem? (i := 0) rfl))
        replace Zn : n0 ≤ h3.size := by rw [W3.size]; exact Zn
        replace V3 := Afn.set Ar3 S3 Nn3 H3 (fits_nar_byte _) W3
        show Go p.tables e below PP (T3.setTop (mkF m 32 #[.val (.ref a1), .val (.int i), .val (.ref a3), .val (.int i), .val (.int n), .val (.int i), .val (.int (cf i.toNatClampNeg))] []))
        refine Go.st (fun t k => XS.iinc X3.here hx rfl (hb hby d6_32) rfl (l' := #[.val (.ref a1), .val (.int (i + (1 : Int32))), .val (.ref a3), .val (.int i), .val (.int n), .val (.int i), .val (.int (cf i.toNatClampNeg))]) rfl k) ?_
        show Go p.tables e below PP (T3.setTop (mkF m 35 #[.val (.ref a1), .val (.int (i + (1 : Int32))), .val (.ref a3), .val (.int i), .val (.int n), .val (.int i), .val (.int (cf i.toNatClampNeg))] []))
        refine Go.st (fun t k => XS.iinc X3.here hx rfl (hb hby d6_35) rfl (l' := #[.val (.ref a1), .val (.int (i + (1 : Int32))), .val (.ref a3), .val (.int (i + (1 : Int32))), .val (.int n), .val (.int i), .val (.int (cf i.toNatClampNeg))]) rfl k) ?_
        show Go p.tables e below PP (T3.setTop (mkF m 38 #[.val (.ref a1), .val (.int (i + (1 : Int32))), .val (.ref a3), .val (.int (i + (1 : Int32))), .val (.int n), .val (.int i), .val (.int (cf i.toNatClampNeg))] []))
        refine Go.st (fun t k => XS.iinc X3.here hx rfl (hb hby d6_38) rfl (l' := #[.val (.ref a1), .val (.int (i + (1 : Int32))), .val (.ref a3), .val (.int (i + (1 : Int32))), .val (.int n), .val (.int (i + (1 : Int32))), .val (.int (cf i.toNatClampNeg))]) rfl k) ?_
        show Go p.tables e below PP (T3.setTop (mkF m 41 #[.val (.ref a1), .val (.int (i + (1 : Int32))), .val (.ref a3), .val (.int (i + (1 : Int32))), .val (.int n), .val (.int (i + (1 : Int32))), .val (.int (cf i.toNatClampNeg))] []))
        refine Go.st (fun t k => XS.goto X3.here hx rfl (pc0 := 41) (pc' := 3) rfl (hb hby d6_41) (by decide) (by decide) k) ?_
        show Go p.tables e below PP (T3.setTop (mkF m 3 #[.val (.ref a1), .val (.int (i + (1 : Int32))), .val (.ref a3), .val (.int (i + (1 : Int32))), .val (.int n), .val (.int (i + (1 : Int32))), .val (.int (cf i.toNatClampNeg))] []))
        exact ih1 _ (by have q := own_inc _ _ hJ3.1 hc7; omega) _ _ _ _ _ X3 e3 N3 (V1) (V3.congr (fun k _ => by have q := (own_inc _ _ hJ3.1 hc7).2.2.1; rw [q]; exact own_lf cf i k)) K Zn (⟨(own_inc _ _ hJ3.1 hc7).1, (own_inc _ _ hJ3.1 hc7).2.1, Or.inr ⟨_, rfl⟩⟩) rfl
      · --
        refine Go.st (fun t k => XS.icmpYes X1.here hx rfl (pc0 := 7) (pc' := 44) rfl (hb hby d6_7) rfl (XT.ii_ge_t hc7) (by decide) (by decide) k) ?_
        show Go p.tables e below PP (T1.setTop (mkF m 44 #[.val (.ref a1), .val (.int i), .val (.ref a3), .val (.int i), .val (.int n), .val (.int i), s6] []))
        refine Go.st (fun t k => XS.iload X1.here hx rfl (hb hby d6_44) rfl k) ?_
        show Go p.tables e below PP (T1.setTop (mkF m 46 #[.val (.ref a1), .val (.int i), .val (.ref a3), .val (.int i), .val (.int n), .val (.int i), s6] [(.int n)]))
        rw [hPP]
        refine endI X1 hx hlk hret (hb hby d6_46) ?_ (by decide) (by decide)
        show Q6 Z a1 a3 n cf h0 n0 (some (.int n)) T1.heap _
        rw [e1]
        exact ⟨rfl, N1, K, V3.congr (fun k hk => by have q : i = n := Int32.toInt_inj.mp (by have a := hJ3.2.1; rw [Int32.lt_iff_toInt_lt] at a hc7; omega); subst q; simp [hk])⟩
  show Go p.tables e below PP (s₁.setTop (mkF m 3 #[.val (.ref a1), .val (.int (0 : Int32)), .val (.ref a3), .val (.int (0 : Int32)), .val (.int n), .val (.int (0 : Int32)), .unset] []))
  exact J3 _ _ _ _ _ _ X0 e0 N0 (V1) (V3.congr (fun k _ => by simp [Int32.toNatClampNeg])) K Zn (⟨by decide, V1.nn, Or.inl rfl⟩) rfl
theorem d5_0 : decode jdk_52_method_16_code 0 = .ok (.iload_n 2, 1) := by decide +kernel
theorem d5_1 : decode jdk_52_method_16_code 1 = .ok (.newarray .byte, 2) := by decide +kernel
theorem d5_3 : decode jdk_52_method_16_code 3 = .ok (.astore_n 3, 1) := by decide +kernel
theorem d5_4 : decode jdk_52_method_16_code 4 = .ok (.aload_n 0, 1) := by decide +kernel
theorem d5_5 : decode jdk_52_method_16_code 5 = .ok (.iload_n 1, 1) := by decide +kernel
theorem d5_6 : decode jdk_52_method_16_code 6 = .ok (.aload_n 3, 1) := by decide +kernel
theorem d5_7 : decode jdk_52_method_16_code 7 = .ok (.iconst 0, 1) := by decide +kernel
theorem d5_8 : decode jdk_52_method_16_code 8 = .ok (.iload_n 2, 1) := by decide +kernel
theorem d5_9 : decode jdk_52_method_16_code 9 = .ok (.invokestatic 115, 3) := by decide +kernel
theorem d5_12 : decode jdk_52_method_16_code 12 = .ok (.istore 4, 2) := by decide +kernel
theorem d5_14 : decode jdk_52_method_16_code 14 = .ok (.iload 4, 2) := by decide +kernel
theorem d5_16 : decode jdk_52_method_16_code 16 = .ok (.iload_n 2, 1) := by decide +kernel
theorem d5_17 : decode jdk_52_method_16_code 17 = .ok (.if_icmp .eq 40, 3) := by decide +kernel
theorem d5_20 : decode jdk_52_method_16_code 20 = .ok (.aload_n 0, 1) := by decide +kernel
theorem d5_21 : decode jdk_52_method_16_code 21 = .ok (.iload_n 1, 1) := by decide +kernel
theorem d5_22 : decode jdk_52_method_16_code 22 = .ok (.iload_n 2, 1) := by decide +kernel
theorem d5_23 : decode jdk_52_method_16_code 23 = .ok (.invokestatic 119, 3) := by decide +kernel
theorem d5_26 : decode jdk_52_method_16_code 26 = .ok (.astore 5, 2) := by decide +kernel
theorem d5_28 : decode jdk_52_method_16_code 28 = .ok (.aload 5, 2) := by decide +kernel
theorem d5_30 : decode jdk_52_method_16_code 30 = .ok (.iload 4, 2) := by decide +kernel
theorem d5_32 : decode jdk_52_method_16_code 32 = .ok (.invokestatic 71, 3) := by decide +kernel
theorem d5_35 : decode jdk_52_method_16_code 35 = .ok (.sipush 255, 3) := by decide +kernel
theorem d5_38 : decode jdk_52_method_16_code 38 = .ok (.if_icmp .gt 16, 3) := by decide +kernel
theorem d5_41 : decode jdk_52_method_16_code 41 = .ok (.aload 5, 2) := by decide +kernel
theorem d5_43 : decode jdk_52_method_16_code 43 = .ok (.iconst 0, 1) := by decide +kernel
theorem d5_44 : decode jdk_52_method_16_code 44 = .ok (.aload_n 3, 1) := by decide +kernel
theorem d5_45 : decode jdk_52_method_16_code 45 = .ok (.iconst 0, 1) := by decide +kernel
theorem d5_46 : decode jdk_52_method_16_code 46 = .ok (.iload_n 2, 1) := by decide +kernel
theorem d5_47 : decode jdk_52_method_16_code 47 = .ok (.invokestatic 123, 3) := by decide +kernel
theorem d5_50 : decode jdk_52_method_16_code 50 = .ok (.iload_n 2, 1) := by decide +kernel
theorem d5_51 : decode jdk_52_method_16_code 51 = .ok (.if_icmp .eq 6, 3) := by decide +kernel
theorem d5_54 : decode jdk_52_method_16_code 54 = .ok (.aload 5, 2) := by decide +kernel
theorem d5_56 : decode jdk_52_method_16_code 56 = .ok (.areturn, 1) := by decide +kernel
theorem d5_57 : decode jdk_52_method_16_code 57 = .ok (.aload_n 3, 1) := by decide +kernel
theorem d5_58 : decode jdk_52_method_16_code 58 = .ok (.areturn, 1) := by decide +kernel
theorem pn_rm5 : plainName "java/lang/StringUTF16" = true := by first | (simp [plainName, overriddenIn]; done) | decide +kernel
theorem ef_rm5 (m : MethodId) (a1 : Addr) (n : Int32) : entryFrame m #[(.ref a1), (.int (0 : Int32)), (.int n)] 6 = mkF m 0 #[.val (.ref a1), .val (.int (0 : Int32)), .val (.int n), .unset, .unset, .unset] [] := by first | (simp [entryFrame, mkF, argsToLocals, Value.category]; done) | rfl
def Q5 (Z : State) (a1 : Addr) (n : Int32) (cf : Nat → Int32) (h0 : Heap) (n0 : Nat) (v : Option Value) (h : Heap) (L : List Loc) : Prop := (∃ b : Addr, v = some (.ref b) ∧ h0.size ≤ b ∧ Afn Z h b .byte n (fun k => .int ((cf k).toInt8.toInt32))) ∧ Fr n0 L ∧ Keep h0 h []
theorem pd_0 : parseMethodDescriptor "([CI[BII)I" = some ⟨[(.array .char), .int, (.array .byte), .int, .int], some .int⟩ := by decide +kernel
set_option maxRecDepth 65536 in
set_option maxHeartbeats 40000000 in
theorem rm5 (l : Launch) (Z : State) (a0 : Array Value) (hw : ∀ d ∈ tables_1, d.before a0 Z = true) (ws : List Jvm.Cond) (a1 : Addr) (n : Int32) (cf : Nat → Int32) (h0 : Heap) (n0 : Nat) (Z0 : n0 ≤ h0.size) (V1 : Afn Z h0 a1 .char n (fun k => .int (cf k))) (hcb : ∀ k, k < n.toNatClampNeg → ¬ cf k < (0 : Int32) ∧ ¬ (255 : Int32) < cf k) (hcap : n.toNatClampNeg ≤ 4) :
    Con l Z (⟨"java/lang/StringUTF16", "compress", "([CII)[B"⟩ : MethodName) jdk_52_method_16_code 6 (some (.array .byte)) ws ({ frames := 1, cells := 1, slots := 4, locals := 20 } : Room) #[(.ref a1), (.int (0 : Int32)), (.int n)] h0 (Q5 Z a1 n cf h0 n0) := by
  refine Con.of (plainFor_of_name pn_rm5) ?_
  intro p e s m below meth c s₁ hZ e0 X0 hx hby hml hown hnm hret hlk
  replace hml : c.maxLocals = 6 := hml
  have hown : s.vm.findClass "java/lang/StringUTF16" = some m.cls := hown
  have N0 : Fr n0 [] := Fr.nil n0
  obtain ⟨PP, hPP⟩ : ∃ P, P = Fine s below (Q5 Z a1 n cf h0 n0) ({ frames := 1, cells := 1, slots := 4, locals := 20 } : Room).cells ({ frames := 1, cells := 1, slots := 4, locals := 20 } : Room).slots := ⟨_, rfl⟩
  rw [← hPP]
  refine Go.cast (ef_rm5 m a1 n) ?_
  have K : Keep h0 h0 [] := Keep.refl h0 _
  have Zn : n0 ≤ h0.size := Z0
  show Go p.tables e below PP (s₁.setTop (mkF m 0 #[.val (.ref a1), .val (.int (0 : Int32)), .val (.int n), .unset, .unset, .unset] []))
  refine Go.st (fun t k => XS.iloadN X0.here hx rfl (hb hby d5_0) rfl k) ?_
  show Go p.tables e below PP (s₁.setTop (mkF m 1 #[.val (.ref a1), .val (.int (0 : Int32)), .val (.int n), .unset, .unset, .unset] [(.int n)]))
  obtain ⟨T1, h1, k1, X1, e1, E1, A1, st1⟩ := newP X0 hx hZ (hw _ (List.mem_of_getElem? (i := 20) rfl)) e0 (g := (mkF m 1 #[.val (.ref a1), .val (.int (0 : Int32)), .val (.int n), .unset, .unset, .unset] [(.int n)])) rfl (hb hby d5_1) rfl V1.nn (cap := 4) hcap (by decide) (by decide) (by decide)
  obtain ⟨b1, gz1⟩ : ∃ z, z = h0.size := ⟨_, rfl⟩
  rw [← gz1] at A1 st1
  have ne_a1_b1 : a1 ≠ b1 := Nat.ne_of_lt (Nat.lt_of_lt_of_le V1.lt (Nat.le_of_eq gz1.symm))
  have g_b1 : n0 ≤ b1 := Nat.le_trans Zn (Nat.le_of_eq gz1.symm)
  have sz_b1 : h0.size ≤ b1 := Nat.le_trans K.1 (Nat.le_of_eq gz1.symm)
  refine Go.st st1 ?_
  replace V1 := V1.ext E1
  replace K := K.ext E1
  replace Zn := Nat.le_trans Zn E1.1
  have V_b1 : Afn Z h1 b1 .byte n (fun _ => (.int (0 : Int32))) := Afn.new A1 V1.nn
  show Go p.tables e below PP (T1.setTop (mkF m 3 #[.val (.ref a1), .val (.int (0 : Int32)), .val (.int n), .unset, .unset, .unset] [(.ref b1)]))
  refine Go.st (fun t k => XS.astoreN X1.here hx rfl (hb hby d5_3) rfl rfl (l' := #[.val (.ref a1), .val (.int (0 : Int32)), .val (.int n), .val (.ref b1), .unset, .unset]) rfl k) ?_
  show Go p.tables e below PP (T1.setTop (mkF m 4 #[.val (.ref a1), .val (.int (0 : Int32)), .val (.int n), .val (.ref b1), .unset, .unset] []))
  refine Go.st (fun t k => XS.aloadN X1.here hx rfl (hb hby d5_4) rfl rfl k) ?_
  show Go p.tables e below PP (T1.setTop (mkF m 5 #[.val (.ref a1), .val (.int (0 : Int32)), .val (.int n), .val (.ref b1), .unset, .unset] [(.ref a1)]))
  refine Go.st (fun t k => XS.iloadN X1.here hx rfl (hb hby d5_5) rfl k) ?_
  show Go p.tables e below PP (T1.setTop (mkF m 6 #[.val (.ref a1), .val (.int (0 : Int32)), .val (.int n), .val (.ref b1), .unset, .unset] [(.int (0 : Int32)), (.ref a1)]))
  refine Go.st (fun t k => XS.aloadN X1.here hx rfl (hb hby d5_6) rfl rfl k) ?_
  show Go p.tables e below PP (T1.setTop (mkF m 7 #[.val (.ref a1), .val (.int (0 : Int32)), .val (.int n), .val (.ref b1), .unset, .unset] [(.ref b1), (.int (0 : Int32)), (.ref a1)]))
  refine Go.st (fun t k => XS.iconst X1.here hx rfl (hb hby d5_7) k) ?_
  show Go p.tables e below PP (T1.setTop (mkF m 8 #[.val (.ref a1), .val (.int (0 : Int32)), .val (.int n), .val (.ref b1), .unset, .unset] [(.int (0 : Int32)), (.ref b1), (.int (0 : Int32)), (.ref a1)]))
  refine Go.st (fun t k => XS.iloadN X1.here hx rfl (hb hby d5_8) rfl k) ?_
  show Go p.tables e below PP (T1.setTop (mkF m 9 #[.val (.ref a1), .val (.int (0 : Int32)), .val (.int n), .val (.ref b1), .unset, .unset] [(.int n), (.int (0 : Int32)), (.ref b1), (.int (0 : Int32)), (.ref a1)]))
  obtain ⟨v2, T2, L2, X2, hQ2, st2⟩ := callSt X1 hx hZ (y := (⟨"java/lang/StringUTF16", "compress", "([CI[BII)I"⟩ : MethodName)) (argsL := [(.ref a1), (.int (0 : Int32)), (.ref b1), (.int (0 : Int32)), (.int n)]) (rest := []) hown (hw _ (List.mem_of_getElem? (i := 32) rfl)) (hw _ (List.mem_of_getElem? (i := 33) rfl)) (hw _ (List.mem_of_getElem? (i := 30) rfl)) (hw _ (List.mem_of_getElem? (i := 34) rfl)) (by decide) (rm6 l Z a0 hw [] a1 b1 n cf h1 n0 Zn V1 V_b1 hcb ne_a1_b1 g_b1) e1 0 (by decide) (by decide) (by decide) (by decide) (g := (mkF m 9 #[.val (.ref a1), .val (.int (0 : Int32)), .val (.int n), .val (.ref b1), .unset, .unset] [(.int n), (.int (0 : Int32)), (.ref b1), (.int (0 : Int32)), (.ref a1)])) rfl (by rw [hml]; rfl) (lenOf pd_0 rfl) rfl (by show 2 * 0 + _ ≤ _; exact Nat.le_of_eq rfl) (hb hby d5_9)
  obtain ⟨h2, e2⟩ : ∃ z, T2.heap = z := ⟨_, rfl⟩
  rw [e2] at hQ2
  obtain ⟨rfl, Nq2, Kq2, Vq2⟩ := hQ2
  have N2 := Fr.app N0 Nq2
  replace V1 := V1.keep Kq2 (ninS ne_a1_b1 nin0)
  clear V_b1
  replace K := K.trans Kq2 (allS (Or.inr sz_b1) all0)
  replace Zn := Nat.le_trans Zn Kq2.1
  have V_b1 := Vq2
  refine Go.st st2 ?_
  show Go p.tables e below PP (T2.setTop (mkF m 12 #[.val (.ref a1), .val (.int (0 : Int32)), .val (.int n), .val (.ref b1), .unset, .unset] [(.int n)]))
  refine Go.st (fun t k => XS.istore X2.here hx rfl (hb hby d5_12) rfl (l' := #[.val (.ref a1), .val (.int (0 : Int32)), .val (.int n), .val (.ref b1), .val (.int n), .unset]) rfl k) ?_
  show Go p.tables e below PP (T2.setTop (mkF m 14 #[.val (.ref a1), .val (.int (0 : Int32)), .val (.int n), .val (.ref b1), .val (.int n), .unset] []))
  refine Go.st (fun t k => XS.iload X2.here hx rfl (hb hby d5_14) rfl k) ?_
  show Go p.tables e below PP (T2.setTop (mkF m 16 #[.val (.ref a1), .val (.int (0 : Int32)), .val (.int n), .val (.ref b1), .val (.int n), .unset] [(.int n)]))
  refine Go.st (fun t k => XS.iloadN X2.here hx rfl (hb hby d5_16) rfl k) ?_
  show Go p.tables e below PP (T2.setTop (mkF m 17 #[.val (.ref a1), .val (.int (0 : Int32)), .val (.int n), .val (.ref b1), .val (.int n), .unset] [(.int n), (.int n)]))
  refine Go.st (fun t k => XS.icmpYes X2.here hx rfl (pc0 := 17) (pc' := 57) rfl (hb hby d5_17) rfl (XT.ii_eq_t rfl) (by decide) (by decide) k) ?_
  show Go p.tables e below PP (T2.setTop (mkF m 57 #[.val (.ref a1), .val (.int (0 : Int32)), .val (.int n), .val (.ref b1), .val (.int n), .unset] []))
  refine Go.st (fun t k => XS.aloadN X2.here hx rfl (hb hby d5_57) rfl rfl k) ?_
  show Go p.tables e below PP (T2.setTop (mkF m 58 #[.val (.ref a1), .val (.int (0 : Int32)), .val (.int n), .val (.ref b1), .val (.int n), .unset] [(.ref b1)]))
  rw [hPP]
  refine endR X2 hx hlk hret rfl rfl (hb hby d5_58) ?_ (by decide) (by decide)
  show Q5 Z a1 n cf h0 n0 (some (.ref b1)) T2.heap _
  rw [e2]
  exact ⟨⟨_, rfl, sz_b1, V_b1⟩, N2, K⟩
theorem d7_0 : decode jdk_52_method_15_code 0 = .ok (.iload_n 1, 1) := by decide +kernel
theorem d7_1 : decode jdk_52_method_15_code 1 = .ok (.aload_n 0, 1) := by decide +kernel
theorem d7_2 : decode jdk_52_method_15_code 2 = .ok (.arraylength, 1) := by decide +kernel
theorem d7_3 : decode jdk_52_method_15_code 3 = .ok (.isub, 1) := by decide +kernel
theorem d7_4 : decode jdk_52_method_15_code 4 = .ok (.bipush 31, 2) := by decide +kernel
theorem d7_6 : decode jdk_52_method_15_code 6 = .ok (.iushr, 1) := by decide +kernel
theorem d7_7 : decode jdk_52_method_15_code 7 = .ok (.i2b, 1) := by decide +kernel
theorem d7_8 : decode jdk_52_method_15_code 8 = .ok (.ireturn, 1) := by decide +kernel
theorem pn_rm7 : plainName "java/lang/StringUTF16" = true := by first | (simp [plainName, overriddenIn]; done) | decide +kernel
theorem ef_rm7 (m : MethodId) (a1 : Addr) (n : Int32) : entryFrame m #[(.ref a1), (.int n)] 2 = mkF m 0 #[.val (.ref a1), .val (.int n)] [] := by first | (simp [entryFrame, mkF, argsToLocals, Value.category]; done) | rfl
def Q7 (Z : State) (a1 : Addr) (n : Int32) (f : Nat → Value) (h0 : Heap) (n0 : Nat) (v : Option Value) (h : Heap) (L : List Loc) : Prop := v = some (.int (0 : Int32)) ∧ L = [] ∧ h = h0
set_option maxRecDepth 65536 in
set_option maxHeartbeats 40000000 in
theorem rm7 (l : Launch) (Z : State) (a0 : Array Value) (hw : ∀ d ∈ tables_1, d.before a0 Z = true) (ws : List Jvm.Cond) (a1 : Addr) (n : Int32) (f : Nat → Value) (h0 : Heap) (n0 : Nat) (Z0 : n0 ≤ h0.size) (V1 : Afn Z h0 a1 .byte n f) :
    Con l Z (⟨"java/lang/StringUTF16", "coderFromArrayLen", "([BI)B"⟩ : MethodName) jdk_52_method_15_code 2 (some .byte) ws ({ frames := 0, cells := 0, slots := 0, locals := 0 } : Room) #[(.ref a1), (.int n)] h0 (Q7 Z a1 n f h0 n0) := by
  refine Con.of (plainFor_of_name pn_rm7) ?_
  intro p e s m below meth c s₁ hZ e0 X0 hx hby hml hown hnm hret hlk
  replace hml : c.maxLocals = 2 := hml
  have hown : s.vm.findClass "java/lang/StringUTF16" = some m.cls := hown
  have N0 : Fr n0 [] := Fr.nil n0
  obtain ⟨PP, hPP⟩ : ∃ P, P = Fine s below (Q7 Z a1 n f h0 n0) ({ frames := 0, cells := 0, slots := 0, locals := 0 } : Room).cells ({ frames := 0, cells := 0, slots := 0, locals := 0 } : Room).slots := ⟨_, rfl⟩
  rw [← hPP]
  refine Go.cast (ef_rm7 m a1 n) ?_
  have Zn : n0 ≤ h0.size := Z0
  show Go p.tables e below PP (s₁.setTop (mkF m 0 #[.val (.ref a1), .val (.int n)] []))
  refine Go.st (fun t k => XS.iloadN X0.here hx rfl (hb hby d7_0) rfl k) ?_
  show Go p.tables e below PP (s₁.setTop (mkF m 1 #[.val (.ref a1), .val (.int n)] [(.int n)]))
  refine Go.st (fun t k => XS.aloadN X0.here hx rfl (hb hby d7_1) rfl rfl k) ?_
  show Go p.tables e below PP (s₁.setTop (mkF m 2 #[.val (.ref a1), .val (.int n)] [(.ref a1), (.int n)]))
  obtain ⟨cl1, Ar1, S1, Nn1, -⟩ := id V1
  refine Go.st (fun t k => X0.arraylength hx (by rw [e0]; exact Ar1.1) (State.isArrayOf_alike hZ.alike Ar1.2.1) (g := (mkF m 2 #[.val (.ref a1), .val (.int n)] [(.ref a1), (.int n)])) rfl rfl (hb hby d7_2) _ k) ?_
  rw [len_of S1 Nn1]
  show Go p.tables e below PP (s₁.setTop (mkF m 3 #[.val (.ref a1), .val (.int n)] [(.int n), (.int n)]))
  refine Go.st (fun t k => XS.isub X0.here hx rfl (hb hby d7_3) rfl k) ?_
  show Go p.tables e below PP (s₁.setTop (mkF m 4 #[.val (.ref a1), .val (.int n)] [(.int (n - n))]))
  refine Go.st (fun t k => XS.bipush X0.here hx rfl (hb hby d7_4) k) ?_
  show Go p.tables e below PP (s₁.setTop (mkF m 6 #[.val (.ref a1), .val (.int n)] [(.int (31 : Int32)), (.int (n - n))]))
  refine Go.st (fun t k => XS.iushr X0.here hx rfl (hb hby d7_6) rfl k) ?_
  show Go p.tables e below PP (s₁.setTop (mkF m 7 #[.val (.ref a1), .val (.int n)] [(.int (((n - n).toUInt32 >>> ((31 : Int32) &&& 31).toUInt32).toInt32))]))
  refine Go.st (fun t k => XS.i2b X0.here hx rfl (hb hby d7_7) rfl k) ?_
  show Go p.tables e below PP (s₁.setTop (mkF m 8 #[.val (.ref a1), .val (.int n)] [(.int ((((n - n).toUInt32 >>> ((31 : Int32) &&& 31).toUInt32).toInt32).toInt8.toInt32))]))
  rw [hPP]
  refine endN X0 hx hlk (t := .byte) hret (by simp) (hb hby d7_8) (w := (0 : Int32)) (by rw [Int32.sub_self]; rfl) ?_ (by decide) (by decide)
  show Q7 Z a1 n f h0 n0 (some (.int (0 : Int32))) s₁.heap _
  rw [e0]
  exact ⟨rfl, rfl, rfl⟩
theorem strA {Z : State} {a0 : Array Value} (hw : ∀ d ∈ tables_1, d.before a0 Z = true) : ∀ d ∈ Bundle.stringAtoms, d.before a0 Z = true := by
  intro d hd
  simp only [Bundle.stringAtoms, List.mem_cons, List.not_mem_nil, or_false] at hd
  rcases hd with rfl | rfl | rfl | rfl | rfl | rfl | rfl
  · exact (hw _ (List.mem_of_getElem? (i := 7) rfl))
  · exact (hw _ (List.mem_of_getElem? (i := 6) rfl))
  · exact (hw _ (List.mem_of_getElem? (i := 20) rfl))
  · exact (hw _ (List.mem_of_getElem? (i := 21) rfl))
  · exact (hw _ (List.mem_of_getElem? (i := 22) rfl))
  · exact (hw _ (List.mem_of_getElem? (i := 23) rfl))
  · exact (hw _ (List.mem_of_getElem? (i := 24) rfl))
theorem safe_str {Z : State} {EL : List (String × Nat)} {vm : Vm} {h : Heap} {a : Addr} (hal : Z.vm.Alike vm) (E : Exa Z h a "java/lang/String") (F : Fld Z h a "java/lang/String" "value" "[B" .null) : Safe Z EL vm h a := by
  rintro ⟨p, hp, u, a', hb, q, hq, B, hy⟩
  obtain ⟨cell, cf, kf, i, f, f1, f2, f3, f4, f5, f6, f7⟩ := F
  obtain ⟨cE, kE, e1, e2, e3, e4, e5⟩ := E
  cases f1.symm.trans e1
  rcases hy with rfl | rfl
  · have ha := B.ha
    obtain ⟨cS, ⟨⟨-, -, -, ⟨c1, k1, i1, g1, -⟩, -, -, -, v1, -⟩, -⟩, -⟩ := B
    have ha' : h[q.sa]? = some q.sC := ha
    cases f1.symm.trans ha'
    obtain ⟨k3, e6, -⟩ := State.fieldFound?_setVm (s := Z) hal f2
    have e7 := (show (Wst Z vm h).fieldFound? _ _ _ = _ from e6).symm.trans g1
    simp only [Option.some.injEq, Prod.mk.injEq] at e7
    rw [← e7.2.2.2, f7] at v1
    cases v1
  · have hd := B.hd
    obtain ⟨cS, -, -, h4, -⟩ := B
    have hd' : h[q.sd]? = some q.SA := hd
    cases f1.symm.trans hd'
    have h5 : vm.findClass "[B" = some q.SA.cls := h4
    rw [hal.findClass] at h5
    exact ids_ne e2 h5 (by decide) rfl
theorem d3_0 : decode jdk_42_method_149_code 0 = .ok (.aload_n 0, 1) := by decide +kernel
theorem d3_1 : decode jdk_42_method_149_code 1 = .ok (.invokespecial 1, 3) := by decide +kernel
theorem d3_4 : decode jdk_42_method_149_code 4 = .ok (.iload_n 3, 1) := by decide +kernel
theorem d3_5 : decode jdk_42_method_149_code 5 = .ok (.ifCond .ne 22, 3) := by decide +kernel
theorem d3_8 : decode jdk_42_method_149_code 8 = .ok (.aload_n 0, 1) := by decide +kernel
theorem d3_9 : decode jdk_42_method_149_code 9 = .ok (.ldc 7, 2) := by decide +kernel
theorem d3_11 : decode jdk_42_method_149_code 11 = .ok (.getfield 9, 3) := by decide +kernel
theorem d3_14 : decode jdk_42_method_149_code 14 = .ok (.putfield 9, 3) := by decide +kernel
theorem d3_17 : decode jdk_42_method_149_code 17 = .ok (.aload_n 0, 1) := by decide +kernel
theorem d3_18 : decode jdk_42_method_149_code 18 = .ok (.ldc 7, 2) := by decide +kernel
theorem d3_20 : decode jdk_42_method_149_code 20 = .ok (.getfield 15, 3) := by decide +kernel
theorem d3_23 : decode jdk_42_method_149_code 23 = .ok (.putfield 15, 3) := by decide +kernel
theorem d3_26 : decode jdk_42_method_149_code 26 = .ok (.return_, 1) := by decide +kernel
theorem d3_27 : decode jdk_42_method_149_code 27 = .ok (.getstatic 38, 3) := by decide +kernel
theorem d3_30 : decode jdk_42_method_149_code 30 = .ok (.ifCond .eq 28, 3) := by decide +kernel
theorem d3_33 : decode jdk_42_method_149_code 33 = .ok (.aload_n 1, 1) := by decide +kernel
theorem d3_34 : decode jdk_42_method_149_code 34 = .ok (.iload_n 2, 1) := by decide +kernel
theorem d3_35 : decode jdk_42_method_149_code 35 = .ok (.iload_n 3, 1) := by decide +kernel
theorem d3_36 : decode jdk_42_method_149_code 36 = .ok (.invokestatic 177, 3) := by decide +kernel
theorem d3_39 : decode jdk_42_method_149_code 39 = .ok (.astore 5, 2) := by decide +kernel
theorem d3_41 : decode jdk_42_method_149_code 41 = .ok (.aload_n 0, 1) := by decide +kernel
theorem d3_42 : decode jdk_42_method_149_code 42 = .ok (.aload 5, 2) := by decide +kernel
theorem d3_44 : decode jdk_42_method_149_code 44 = .ok (.iload_n 3, 1) := by decide +kernel
theorem d3_45 : decode jdk_42_method_149_code 45 = .ok (.invokestatic 47, 3) := by decide +kernel
theorem d3_48 : decode jdk_42_method_149_code 48 = .ok (.putfield 15, 3) := by decide +kernel
theorem d3_51 : decode jdk_42_method_149_code 51 = .ok (.aload_n 0, 1) := by decide +kernel
theorem d3_52 : decode jdk_42_method_149_code 52 = .ok (.aload 5, 2) := by decide +kernel
theorem d3_54 : decode jdk_42_method_149_code 54 = .ok (.putfield 9, 3) := by decide +kernel
theorem d3_57 : decode jdk_42_method_149_code 57 = .ok (.return_, 1) := by decide +kernel
theorem d3_58 : decode jdk_42_method_149_code 58 = .ok (.aload_n 0, 1) := by decide +kernel
theorem d3_59 : decode jdk_42_method_149_code 59 = .ok (.iconst 1, 1) := by decide +kernel
theorem d3_60 : decode jdk_42_method_149_code 60 = .ok (.putfield 15, 3) := by decide +kernel
theorem d3_63 : decode jdk_42_method_149_code 63 = .ok (.aload_n 0, 1) := by decide +kernel
theorem d3_64 : decode jdk_42_method_149_code 64 = .ok (.aload_n 1, 1) := by decide +kernel
theorem d3_65 : decode jdk_42_method_149_code 65 = .ok (.iload_n 2, 1) := by decide +kernel
theorem d3_66 : decode jdk_42_method_149_code 66 = .ok (.iload_n 3, 1) := by decide +kernel
theorem d3_67 : decode jdk_42_method_149_code 67 = .ok (.invokestatic 180, 3) := by decide +kernel
theorem d3_70 : decode jdk_42_method_149_code 70 = .ok (.putfield 9, 3) := by decide +kernel
theorem d3_73 : decode jdk_42_method_149_code 73 = .ok (.return_, 1) := by decide +kernel
theorem pn_rmSI : plainName "java/lang/String" = true := by first | (simp [plainName, overriddenIn]; done) | decide +kernel
theorem ef_rmSI (m : MethodId) (a1 : Addr) (a2 : Addr) (n : Int32) : entryFrame m #[(.ref a1), (.ref a2), (.int (0 : Int32)), (.int n), .null] 6 = mkF m 0 #[.val (.ref a1), .val (.ref a2), .val (.int (0 : Int32)), .val (.int n), .val .null, .unset] [] := by first | (simp [entryFrame, mkF, argsToLocals, Value.category]; done) | rfl
def QSI (Z : State) (a1 : Addr) (a2 : Addr) (n : Int32) (cf : Nat → Int32) (zc : Int32) (h0 : Heap) (n0 : Nat) (v : Option Value) (h : Heap) (L : List Loc) : Prop := v = none ∧ Fr n0 L ∧ Keep h0 h [a1] ∧ Exa Z h a1 "java/lang/String" ∧ Fld Z h a1 "java/lang/String" "coder" "B" (.int (0 : Int32)) ∧ ∃ t : Addr, Fld Z h a1 "java/lang/String" "value" "[B" (.ref t) ∧ Afn Z h t .byte n (fun k => .int ((cf k).toInt8.toInt32))
theorem pd_1 : parseMethodDescriptor "([CII)[B" = some ⟨[(.array .char), .int, .int], some (.array .byte)⟩ := by decide +kernel
theorem pd_2 : parseMethodDescriptor "([BI)B" = some ⟨[(.array .byte), .int], some .byte⟩ := by decide +kernel
set_option maxRecDepth 65536 in
set_option maxHeartbeats 40000000 in
theorem rmSI (l : Launch) (Z : State) (a0 : Array Value) (hw : ∀ d ∈ tables_1, d.before a0 Z = true) (ws : List Jvm.Cond) (a1 : Addr) (a2 : Addr) (n : Int32) (cf : Nat → Int32) (zc : Int32) (h0 : Heap) (n0 : Nat) (Z0 : n0 ≤ h0.size) (hEL : EW Z a0 consts_1) (E_a1 : Exa Z h0 a1 "java/lang/String") (F_value_a1 : Fld Z h0 a1 "java/lang/String" "value" "[B" .null) (F_coder_a1 : Fld Z h0 a1 "java/lang/String" "coder" "B" (.int (0 : Int32))) (g_a1 : n0 ≤ a1) (V2 : Afn Z h0 a2 .char n (fun k => .int (cf k))) (hcb : ∀ k, k < n.toNatClampNeg → ¬ cf k < (0 : Int32) ∧ ¬ (255 : Int32) < cf k) (hcap : n.toNatClampNeg ≤ 4) (hne : a1 ≠ a2) (SC : Sta Z Z.heap "java/lang/String" "COMPACT_STRINGS" "Z" (.int zc)) (hzc : ¬ zc = (0 : Int32)) (O : Old Z n0 h0) :
    ConH l Z consts_1 (⟨"java/lang/String", "<init>", "([CIILjava/lang/Void;)V"⟩ : MethodName) jdk_42_method_149_code 6 none ws ({ frames := 2, cells := 4, slots := 8, locals := 37 } : Room) #[(.ref a1), (.ref a2), (.int (0 : Int32)), (.int n), .null] h0 (QSI Z a1 a2 n cf zc h0 n0) := by
  refine ConH.of (plainFor_of_name pn_rmSI) ?_
  intro p e s m below meth c s₁ vm0 k0 hZ e0 X0 hx hby hml hown hnm hret hlk hS hk CH CR
  replace hml : c.maxLocals = 6 := hml
  have hown : vm0.findClass "java/lang/String" = some m.cls := hown
  have N0 : Fr n0 [] := Fr.nil n0
  obtain ⟨PP, hPP⟩ : ∃ P, P = FineW Z consts_1 s below (QSI Z a1 a2 n cf zc h0 n0) ({ frames := 2, cells := 4, slots := 8, locals := 37 } : Room).cells ({ frames := 2, cells := 4, slots := 8, locals := 37 } : Room).slots := ⟨_, rfl⟩
  rw [← hPP]
  refine Go.cast (ef_rmSI m a1 a2 n) ?_
  have K : Keep h0 h0 [a1] := Keep.refl h0 _
  have Zn : n0 ≤ h0.size := Z0
  have SF_a1 : Safe Z consts_1 vm0 h0 a1 := safe_str hZ.alike E_a1 F_value_a1
  show Go p.tables e below PP (s₁.setTop (mkF m 0 #[.val (.ref a1), .val (.ref a2), .val (.int (0 : Int32)), .val (.int n), .val .null, .unset] []))
  refine Go.st (fun t k => XS.aloadN X0.here hx rfl (hb hby d3_0) rfl rfl k) ?_
  show Go p.tables e below PP (s₁.setTop (mkF m 1 #[.val (.ref a1), .val (.ref a2), .val (.int (0 : Int32)), .val (.int n), .val .null, .unset] [(.ref a1)]))
  obtain ⟨T1, X1, e1, st1⟩ := initO X0 hx hZ hown (hw _ (List.mem_of_getElem? (i := 16) rfl)) (hw _ (List.mem_of_getElem? (i := 17) rfl)) (hw _ (List.mem_of_getElem? (i := 18) rfl)) e0 (g := (mkF m 1 #[.val (.ref a1), .val (.ref a2), .val (.int (0 : Int32)), .val (.int n), .val .null, .unset] [(.ref a1)])) rfl (by rw [hml]; rfl) rfl (hb hby d3_1) (by decide) (W := 0) (by show 2 * 0 + _ ≤ _; exact Nat.le_of_eq rfl) (by decide)
  refine Go.st st1 ?_
  show Go p.tables e below PP (T1.setTop (mkF m 4 #[.val (.ref a1), .val (.ref a2), .val (.int (0 : Int32)), .val (.int n), .val .null, .unset] []))
  refine Go.st (fun t k => XS.iloadN X1.here hx rfl (hb hby d3_4) rfl k) ?_
  show Go p.tables e below PP (T1.setTop (mkF m 5 #[.val (.ref a1), .val (.ref a2), .val (.int (0 : Int32)), .val (.int n), .val .null, .unset] [(.int n)]))
  by_cases hc5 : n = (0 : Int32)
  · --
    refine Go.st (fun t k => XS.ifNo X1.here hx rfl (hb hby d3_5) rfl (XT.i0_ne_f hc5) k) ?_
    show Go p.tables e below PP (T1.setTop (mkF m 8 #[.val (.ref a1), .val (.ref a2), .val (.int (0 : Int32)), .val (.int n), .val .null, .unset] []))
    refine Go.st (fun t k => XS.aloadN X1.here hx rfl (hb hby d3_8) rfl rfl k) ?_
    show Go p.tables e below PP (T1.setTop (mkF m 9 #[.val (.ref a1), .val (.ref a2), .val (.int (0 : Int32)), .val (.int n), .val .null, .unset] [(.ref a1)]))
    obtain ⟨sa2, T2, h2, kk2, sb2, kc2, X2, e2, E2, hS2, hk2, hZ2, hown2, Es2, Fc2, Fv2, As2, -, -, hC2, -, nS2, st2⟩ := ldcCH X1 hx hZ hown (hw _ (List.mem_of_getElem? (i := 19) rfl)) (strA hw) e1 hS hk hEL (List.mem_of_getElem? (i := 0) rfl) CH (vs := []) (z := (0 : Int32)) (by decide) (by decide) (by decide) (g := (mkF m 9 #[.val (.ref a1), .val (.ref a2), .val (.int (0 : Int32)), .val (.int n), .val .null, .unset] [(.ref a1)])) rfl (hb hby d3_9) (n := 0) (by decide) (by decide) (by decide) (by decide)
    have lt_a1 := E_a1.lt
    replace E_a1 := E_a1.ext E2
    replace F_value_a1 := F_value_a1.ext E2
    replace F_coder_a1 := F_coder_a1.ext E2
    replace V2 := V2.ext E2
    replace O := O.ext E2
    replace K := K.ext E2
    replace SF_a1 := hC2.safe lt_a1 SF_a1
    have ne_a1_sa2 : a1 ≠ sa2 := (nS2 _ SF_a1).1
    have ne_a1_sb2 : a1 ≠ sb2 := (nS2 _ SF_a1).2
    replace Zn := Nat.le_trans Zn E2.1
    replace CR := CR.trans hC2
    replace CH := hC2.1
    replace hS := hS2
    replace hk := hk2
    replace hZ := hZ2
    replace hown := hown2
    refine Go.st st2 ?_
    replace As2 := Afn.of_arv As2
    show Go p.tables e below PP (T2.setTop (mkF m 11 #[.val (.ref a1), .val (.ref a2), .val (.int (0 : Int32)), .val (.int n), .val .null, .unset] [(.ref sa2), (.ref a1)]))
    obtain ⟨T3, X3, e3, st3⟩ := getF X2 hx hZ hown (host := "") (Or.inl (hw _ (List.mem_of_getElem? (i := 25) rfl))) Via.refl e2 Fv2 (g := (mkF m 11 #[.val (.ref a1), .val (.ref a2), .val (.int (0 : Int32)), .val (.int n), .val .null, .unset] [(.ref sa2), (.ref a1)])) rfl rfl (hb hby d3_11)
    refine Go.st st3 ?_
    show Go p.tables e below PP (T3.setTop (mkF m 14 #[.val (.ref a1), .val (.ref a2), .val (.int (0 : Int32)), .val (.int n), .val .null, .unset] [(.ref sb2), (.ref a1)]))
    obtain ⟨T4, h4, X4, e4, W4, st4⟩ := putF X3 hx hZ hown (host := "") (Or.inl (hw _ (List.mem_of_getElem? (i := 25) rfl))) Via.refl e3 F_value_a1 E_a1 (Or.inr ⟨(hw _ (List.mem_of_getElem? (i := 21) rfl)), rfl, hnm⟩) (hw _ (List.mem_of_getElem? (i := 6) rfl)) (ty := (.array .byte)) (by decide) rfl rfl (g := (mkF m 14 #[.val (.ref a1), .val (.ref a2), .val (.int (0 : Int32)), .val (.int n), .val .null, .unset] [(.ref sb2), (.ref a1)])) rfl rfl (hb hby d3_14)
    refine Go.st st4 ?_
    have N4 := Fr.snoc X4 N0 g_a1
    replace E_a1 := E_a1.wr W4
    replace F_coder_a1 := F_coder_a1.other W4 (Or.inr (slot_ne (a0 := a0) (Or.inr (hw _ (List.mem_of_getElem? (i := 22) rfl))) (Or.inr (hw _ (List.mem_of_getElem? (i := 21) rfl))) (by decide) (t := .byte) (t' := (.array .byte)) (by decide) (by decide)))
    replace V2 := V2.other W4 (Ne.symm hne)
    replace Es2 := Es2.wr W4
    replace Fc2 := Fc2.other W4 (Or.inl (Ne.symm ne_a1_sa2))
    replace Fv2 := Fv2.other W4 (Or.inl (Ne.symm ne_a1_sa2))
    replace As2 := As2.other W4 (Ne.symm ne_a1_sb2)
    replace CR := CR.trans (CHr.wr W4 SF_a1 CH)
    have CH' := CH.wr W4 SF_a1
    replace SF_a1 := Safe.wr W4 SF_a1 CH SF_a1
    replace CH := CH'
    clear CH'
    replace hk : kk2 ≤ h4.size := by rw [W4.size]; exact hk
    replace O := O.wr W4 g_a1
    replace K := K.wr W4 (Or.inl (List.mem_of_getElem? (i := 0) rfl))
    replace Zn : n0 ≤ h4.size := by rw [W4.size]; exact Zn
    replace F_value_a1 := F_value_a1.same W4
    show Go p.tables e below PP (T4.setTop (mkF m 17 #[.val (.ref a1), .val (.ref a2), .val (.int (0 : Int32)), .val (.int n), .val .null, .unset] []))
    refine Go.st (fun t k => XS.aloadN X4.here hx rfl (hb hby d3_17) rfl rfl k) ?_
    show Go p.tables e below PP (T4.setTop (mkF m 18 #[.val (.ref a1), .val (.ref a2), .val (.int (0 : Int32)), .val (.int n), .val .null, .unset] [(.ref a1)]))
    obtain ⟨sa5, T5, h5, kk5, sb5, kc5, X5, e5, E5, hS5, hk5, hZ5, hown5, Es5, Fc5, Fv5, As5, -, -, hC5, -, nS5, st5⟩ := ldcCH X4 hx hZ hown (hw _ (List.mem_of_getElem? (i := 19) rfl)) (strA hw) e4 hS hk hEL (List.mem_of_getElem? (i := 0) rfl) CH (vs := []) (z := (0 : Int32)) (by decide) (by decide) (by decide) (g := (mkF m 18 #[.val (.ref a1), .val (.ref a2), .val (.int (0 : Int32)), .val (.int n), .val .null, .unset] [(.ref a1)])) rfl (hb hby d3_18) (n := 0) (by decide) (by decide) (by decide) (by decide)
    have lt_a1 := E_a1.lt
    replace E_a1 := E_a1.ext E5
    replace F_value_a1 := F_value_a1.ext E5
    replace F_coder_a1 := F_coder_a1.ext E5
    replace V2 := V2.ext E5
    replace Es2 := Es2.ext E5
    replace Fc2 := Fc2.ext E5
    replace Fv2 := Fv2.ext E5
    replace As2 := As2.ext E5
    replace O := O.ext E5
    replace K := K.ext E5
    replace SF_a1 := hC5.safe lt_a1 SF_a1
    have ne_a1_sa5 : a1 ≠ sa5 := (nS5 _ SF_a1).1
    have ne_a1_sb5 : a1 ≠ sb5 := (nS5 _ SF_a1).2
    replace Zn := Nat.le_trans Zn E5.1
    replace CR := CR.trans hC5
    replace CH := hC5.1
    replace hS := hS5
    replace hk := hk5
    replace hZ := hZ5
    replace hown := hown5
    refine Go.st st5 ?_
    replace As5 := Afn.of_arv As5
    show Go p.tables e below PP (T5.setTop (mkF m 20 #[.val (.ref a1), .val (.ref a2), .val (.int (0 : Int32)), .val (.int n), .val .null, .unset] [(.ref sa5), (.ref a1)]))
    obtain ⟨T6, X6, e6, st6⟩ := getF X5 hx hZ hown (host := "") (Or.inl (hw _ (List.mem_of_getElem? (i := 26) rfl))) Via.refl e5 Fc5 (g := (mkF m 20 #[.val (.ref a1), .val (.ref a2), .val (.int (0 : Int32)), .val (.int n), .val .null, .unset] [(.ref sa5), (.ref a1)])) rfl rfl (hb hby d3_20)
    refine Go.st st6 ?_
    show Go p.tables e below PP (T6.setTop (mkF m 23 #[.val (.ref a1), .val (.ref a2), .val (.int (0 : Int32)), .val (.int n), .val .null, .unset] [(.int (0 : Int32)), (.ref a1)]))
    obtain ⟨T7, h7, X7, e7, W7, st7⟩ := putFN X6 hx hZ hown (hw _ (List.mem_of_getElem? (i := 26) rfl)) Via.refl e6 F_coder_a1 E_a1 (Or.inr ⟨(hw _ (List.mem_of_getElem? (i := 22) rfl)), rfl, hnm⟩) (hw _ (List.mem_of_getElem? (i := 6) rfl)) (ty := .byte) (v' := (.int (0 : Int32))) (by decide) rfl (by decide) (g := (mkF m 23 #[.val (.ref a1), .val (.ref a2), .val (.int (0 : Int32)), .val (.int n), .val .null, .unset] [(.int (0 : Int32)), (.ref a1)])) rfl rfl (hb hby d3_23)
    refine Go.st st7 ?_
    have N7 := Fr.snoc X7 N4 g_a1
    replace E_a1 := E_a1.wr W7
    replace F_value_a1 := F_value_a1.other W7 (Or.inr (slot_ne (a0 := a0) (Or.inr (hw _ (List.mem_of_getElem? (i := 21) rfl))) (Or.inr (hw _ (List.mem_of_getElem? (i := 22) rfl))) (by decide) (t := (.array .byte)) (t' := .byte) (by decide) (by decide)))
    replace V2 := V2.other W7 (Ne.symm hne)
    replace Es2 := Es2.wr W7
    replace Fc2 := Fc2.other W7 (Or.inl (Ne.symm ne_a1_sa2))
    replace Fv2 := Fv2.other W7 (Or.inl (Ne.symm ne_a1_sa2))
    replace As2 := As2.other W7 (Ne.symm ne_a1_sb2)
    replace Es5 := Es5.wr W7
    replace Fc5 := Fc5.other W7 (Or.inl (Ne.symm ne_a1_sa5))
    replace Fv5 := Fv5.other W7 (Or.inl (Ne.symm ne_a1_sa5))
    replace As5 := As5.other W7 (Ne.symm ne_a1_sb5)
    replace CR := CR.trans (CHr.wr W7 SF_a1 CH)
    have CH' := CH.wr W7 SF_a1
    replace SF_a1 := Safe.wr W7 SF_a1 CH SF_a1
    replace CH := CH'
    clear CH'
    replace hk : kk5 ≤ h7.size := by rw [W7.size]; exact hk
    replace O := O.wr W7 g_a1
    replace K := K.wr W7 (Or.inl (List.mem_of_getElem? (i := 0) rfl))
    replace Zn : n0 ≤ h7.size := by rw [W7.size]; exact Zn
    replace F_coder_a1 := F_coder_a1.same W7
    show Go p.tables e below PP (T7.setTop (mkF m 26 #[.val (.ref a1), .val (.ref a2), .val (.int (0 : Int32)), .val (.int n), .val .null, .unset] []))
    rw [hPP]
    refine endVW X7 hx hlk hZ hS e7 hk hEL CH CR hret (hb hby d3_26) ?_ (by decide) (by decide)
    show QSI Z a1 a2 n cf zc h0 n0 none T7.heap _
    rw [e7]
    exact ⟨rfl, N7, K, E_a1, F_coder_a1, _, F_value_a1, (by subst hc5; exact As2.congr (fun k hk => absurd hk (by simp [Int32.toNatClampNeg])))⟩
  · --
    refine Go.st (fun t k => XS.ifYes X1.here hx rfl (pc0 := 5) (pc' := 27) rfl (hb hby d3_5) rfl (XT.i0_ne_t hc5) (by decide) (by decide) k) ?_
    show Go p.tables e below PP (T1.setTop (mkF m 27 #[.val (.ref a1), .val (.ref a2), .val (.int (0 : Int32)), .val (.int n), .val .null, .unset] []))
    obtain ⟨T8, X8, e8, st8⟩ := getS2 X1 hx hZ hown (host := "") (Or.inl (hw _ (List.mem_of_getElem? (i := 27) rfl))) Via.refl e1 (SC.ext O.2) (g := (mkF m 27 #[.val (.ref a1), .val (.ref a2), .val (.int (0 : Int32)), .val (.int n), .val .null, .unset] [])) rfl (hb hby d3_27)
    refine Go.st st8 ?_
    show Go p.tables e below PP (T8.setTop (mkF m 30 #[.val (.ref a1), .val (.ref a2), .val (.int (0 : Int32)), .val (.int n), .val .null, .unset] [(.int zc)]))
    refine Go.st (fun t k => XS.ifNo X8.here hx rfl (hb hby d3_30) rfl (XT.i0_eq_f hzc) k) ?_
    show Go p.tables e below PP (T8.setTop (mkF m 33 #[.val (.ref a1), .val (.ref a2), .val (.int (0 : Int32)), .val (.int n), .val .null, .unset] []))
    refine Go.st (fun t k => XS.aloadN X8.here hx rfl (hb hby d3_33) rfl rfl k) ?_
    show Go p.tables e below PP (T8.setTop (mkF m 34 #[.val (.ref a1), .val (.ref a2), .val (.int (0 : Int32)), .val (.int n), .val .null, .unset] [(.ref a2)]))
    refine Go.st (fun t k => XS.iloadN X8.here hx rfl (hb hby d3_34) rfl k) ?_
    show Go p.tables e below PP (T8.setTop (mkF m 35 #[.val (.ref a1), .val (.ref a2), .val (.int (0 : Int32)), .val (.int n), .val .null, .unset] [(.int (0 : Int32)), (.ref a2)]))
    refine Go.st (fun t k => XS.iloadN X8.here hx rfl (hb hby d3_35) rfl k) ?_
    show Go p.tables e below PP (T8.setTop (mkF m 36 #[.val (.ref a1), .val (.ref a2), .val (.int (0 : Int32)), .val (.int n), .val .null, .unset] [(.int n), (.int (0 : Int32)), (.ref a2)]))
    obtain ⟨v9, T9, L9, X9, hQ9, st9⟩ := callSt X8 hx hZ (y := (⟨"java/lang/StringUTF16", "compress", "([CII)[B"⟩ : MethodName)) (argsL := [(.ref a2), (.int (0 : Int32)), (.int n)]) (rest := []) hown (hw _ (List.mem_of_getElem? (i := 28) rfl)) (hw _ (List.mem_of_getElem? (i := 29) rfl)) (hw _ (List.mem_of_getElem? (i := 30) rfl)) (hw _ (List.mem_of_getElem? (i := 31) rfl)) (by decide) (rm5 l Z a0 hw [] a2 n cf h0 n0 Zn V2 hcb hcap) e8 0 (by decide) (by decide) (by decide) (by decide) (g := (mkF m 36 #[.val (.ref a1), .val (.ref a2), .val (.int (0 : Int32)), .val (.int n), .val .null, .unset] [(.int n), (.int (0 : Int32)), (.ref a2)])) rfl (by rw [hml]; rfl) (lenOf pd_1 rfl) rfl (by show 2 * 0 + _ ≤ _; exact Nat.le_of_eq rfl) (hb hby d3_36)
    obtain ⟨h9, e9⟩ : ∃ z, T9.heap = z := ⟨_, rfl⟩
    rw [e9] at hQ9
    obtain ⟨⟨t9, rfl, sz9, Vq9⟩, Nq9, Kq9⟩ := hQ9
    have N9 := Fr.app N0 Nq9
    have ne_a1_t9 : a1 ≠ t9 := Nat.ne_of_lt (Nat.lt_of_lt_of_le E_a1.lt sz9)
    have ne_a2_t9 : a2 ≠ t9 := Nat.ne_of_lt (Nat.lt_of_lt_of_le V2.lt sz9)
    have g_t9 : n0 ≤ t9 := Nat.le_trans Zn sz9
    have sz_t9 : h0.size ≤ t9 := Nat.le_trans K.1 sz9
    have hsf : ∀ x ∈ ([] : List Addr), Safe Z consts_1 vm0 h0 x := sf0
    replace SF_a1 := Safe.keep Kq9 hsf CH SF_a1
    replace CR := CR.trans (CHr.keep Kq9 hsf CH)
    replace CH := CH.keep Kq9 hsf
    replace hk := Nat.le_trans hk Kq9.1
    clear hsf
    replace E_a1 := E_a1.keep Kq9
    replace F_value_a1 := F_value_a1.keep Kq9 nin0
    replace F_coder_a1 := F_coder_a1.keep Kq9 nin0
    replace V2 := V2.keep Kq9 nin0
    replace O := O.keep Kq9 all0
    replace K := K.trans Kq9 all0
    replace Zn := Nat.le_trans Zn Kq9.1
    refine Go.st st9 ?_
    show Go p.tables e below PP (T9.setTop (mkF m 39 #[.val (.ref a1), .val (.ref a2), .val (.int (0 : Int32)), .val (.int n), .val .null, .unset] [(.ref t9)]))
    refine Go.st (fun t k => XS.astore X9.here hx rfl (hb hby d3_39) rfl rfl (l' := #[.val (.ref a1), .val (.ref a2), .val (.int (0 : Int32)), .val (.int n), .val .null, .val (.ref t9)]) rfl k) ?_
    show Go p.tables e below PP (T9.setTop (mkF m 41 #[.val (.ref a1), .val (.ref a2), .val (.int (0 : Int32)), .val (.int n), .val .null, .val (.ref t9)] []))
    refine Go.st (fun t k => XS.aloadN X9.here hx rfl (hb hby d3_41) rfl rfl k) ?_
    show Go p.tables e below PP (T9.setTop (mkF m 42 #[.val (.ref a1), .val (.ref a2), .val (.int (0 : Int32)), .val (.int n), .val .null, .val (.ref t9)] [(.ref a1)]))
    refine Go.st (fun t k => XS.aload X9.here hx rfl (hb hby d3_42) rfl rfl k) ?_
    show Go p.tables e below PP (T9.setTop (mkF m 44 #[.val (.ref a1), .val (.ref a2), .val (.int (0 : Int32)), .val (.int n), .val .null, .val (.ref t9)] [(.ref t9), (.ref a1)]))
    refine Go.st (fun t k => XS.iloadN X9.here hx rfl (hb hby d3_44) rfl k) ?_
    show Go p.tables e below PP (T9.setTop (mkF m 45 #[.val (.ref a1), .val (.ref a2), .val (.int (0 : Int32)), .val (.int n), .val .null, .val (.ref t9)] [(.int n), (.ref t9), (.ref a1)]))
    obtain ⟨v10, T10, L10, X10, hQ10, st10⟩ := callSt X9 hx hZ (y := (⟨"java/lang/StringUTF16", "coderFromArrayLen", "([BI)B"⟩ : MethodName)) (argsL := [(.ref t9), (.int n)]) (rest := [(.ref a1)]) hown (hw _ (List.mem_of_getElem? (i := 35) rfl)) (hw _ (List.mem_of_getElem? (i := 36) rfl)) (hw _ (List.mem_of_getElem? (i := 30) rfl)) (hw _ (List.mem_of_getElem? (i := 37) rfl)) (by decide) (rm7 l Z a0 hw [] t9 n _ h9 n0 Zn Vq9) e9 1 (by decide) (by decide) (by decide) (by decide) (g := (mkF m 45 #[.val (.ref a1), .val (.ref a2), .val (.int (0 : Int32)), .val (.int n), .val .null, .val (.ref t9)] [(.int n), (.ref t9), (.ref a1)])) rfl (by rw [hml]; rfl) (lenOf pd_2 rfl) rfl (by show 2 * 0 + _ ≤ _; exact Nat.le_of_eq rfl) (hb hby d3_45)
    obtain ⟨rfl, rfl, e10⟩ := hQ10
    rw [List.append_nil] at X10
    refine Go.st st10 ?_
    show Go p.tables e below PP (T10.setTop (mkF m 48 #[.val (.ref a1), .val (.ref a2), .val (.int (0 : Int32)), .val (.int n), .val .null, .val (.ref t9)] [(.int (0 : Int32)), (.ref a1)]))
    obtain ⟨T11, h11, X11, e11, W11, st11⟩ := putFN X10 hx hZ hown (hw _ (List.mem_of_getElem? (i := 26) rfl)) Via.refl e10 F_coder_a1 E_a1 (Or.inr ⟨(hw _ (List.mem_of_getElem? (i := 22) rfl)), rfl, hnm⟩) (hw _ (List.mem_of_getElem? (i := 6) rfl)) (ty := .byte) (v' := (.int (0 : Int32))) (by decide) rfl (by decide) (g := (mkF m 48 #[.val (.ref a1), .val (.ref a2), .val (.int (0 : Int32)), .val (.int n), .val .null, .val (.ref t9)] [(.int (0 : Int32)), (.ref a1)])) rfl rfl (hb hby d3_48)
    refine Go.st st11 ?_
    have N11 := Fr.snoc X11 N9 g_a1
    replace E_a1 := E_a1.wr W11
    replace F_value_a1 := F_value_a1.other W11 (Or.inr (slot_ne (a0 := a0) (Or.inr (hw _ (List.mem_of_getElem? (i := 21) rfl))) (Or.inr (hw _ (List.mem_of_getElem? (i := 22) rfl))) (by decide) (t := (.array .byte)) (t' := .byte) (by decide) (by decide)))
    replace V2 := V2.other W11 (Ne.symm hne)
    replace Vq9 := Vq9.other W11 (Ne.symm ne_a1_t9)
    replace CR := CR.trans (CHr.wr W11 SF_a1 CH)
    have CH' := CH.wr W11 SF_a1
    replace SF_a1 := Safe.wr W11 SF_a1 CH SF_a1
    replace CH := CH'
    clear CH'
    replace hk : k0 ≤ h11.size := by rw [W11.size]; exact hk
    replace O := O.wr W11 g_a1
    replace K := K.wr W11 (Or.inl (List.mem_of_getElem? (i := 0) rfl))
    replace Zn : n0 ≤ h11.size := by rw [W11.size]; exact Zn
    replace F_coder_a1 := F_coder_a1.same W11
    show Go p.tables e below PP (T11.setTop (mkF m 51 #[.val (.ref a1), .val (.ref a2), .val (.int (0 : Int32)), .val (.int n), .val .null, .val (.ref t9)] []))
    refine Go.st (fun t k => XS.aloadN X11.here hx rfl (hb hby d3_51) rfl rfl k) ?_
    show Go p.tables e below PP (T11.setTop (mkF m 52 #[.val (.ref a1), .val (.ref a2), .val (.int (0 : Int32)), .val (.int n), .val .null, .val (.ref t9)] [(.ref a1)]))
    refine Go.st (fun t k => XS.aload X11.here hx rfl (hb hby d3_52) rfl rfl k) ?_
    show Go p.tables e below PP (T11.setTop (mkF m 54 #[.val (.ref a1), .val (.ref a2), .val (.int (0 : Int32)), .val (.int n), .val .null, .val (.ref t9)] [(.ref t9), (.ref a1)]))
    obtain ⟨T12, h12, X12, e12, W12, st12⟩ := putF X11 hx hZ hown (host := "") (Or.inl (hw _ (List.mem_of_getElem? (i := 25) rfl))) Via.refl e11 F_value_a1 E_a1 (Or.inr ⟨(hw _ (List.mem_of_getElem? (i := 21) rfl)), rfl, hnm⟩) (hw _ (List.mem_of_getElem? (i := 6) rfl)) (ty := (.array .byte)) (by decide) rfl rfl (g := (mkF m 54 #[.val (.ref a1), .val (.ref a2), .val (.int (0 : Int32)), .val (.int n), .val .null, .val (.ref t9)] [(.ref t9), (.ref a1)])) rfl rfl (hb hby d3_54)
    refine Go.st st12 ?_
    have N12 := Fr.snoc X12 N11 g_a1
    replace E_a1 := E_a1.wr W12
    replace F_coder_a1 := F_coder_a1.other W12 (Or.inr (slot_ne (a0 := a0) (Or.inr (hw _ (List.mem_of_getElem? (i := 22) rfl))) (Or.inr (hw _ (List.mem_of_getElem? (i := 21) rfl))) (by decide) (t := .byte) (t' := (.array .byte)) (by decide) (by decide)))
    replace V2 := V2.other W12 (Ne.symm hne)
    replace Vq9 := Vq9.other W12 (Ne.symm ne_a1_t9)
    replace CR := CR.trans (CHr.wr W12 SF_a1 CH)
    have CH' := CH.wr W12 SF_a1
    replace SF_a1 := Safe.wr W12 SF_a1 CH SF_a1
    replace CH := CH'
    clear CH'
    replace hk : k0 ≤ h12.size := by rw [W12.size]; exact hk
    replace O := O.wr W12 g_a1
    replace K := K.wr W12 (Or.inl (List.mem_of_getElem? (i := 0) rfl))
    replace Zn : n0 ≤ h12.size := by rw [W12.size]; exact Zn
    replace F_value_a1 := F_value_a1.same W12
    show Go p.tables e below PP (T12.setTop (mkF m 57 #[.val (.ref a1), .val (.ref a2), .val (.int (0 : Int32)), .val (.int n), .val .null, .val (.ref t9)] []))
    rw [hPP]
    refine endVW X12 hx hlk hZ hS e12 hk hEL CH CR hret (hb hby d3_57) ?_ (by decide) (by decide)
    show QSI Z a1 a2 n cf zc h0 n0 none T12.heap _
    rw [e12]
    exact ⟨rfl, N12, K, E_a1, F_coder_a1, _, F_value_a1, Vq9⟩
theorem d2_0 : decode jdk_42_method_3_code 0 = .ok (.aload_n 0, 1) := by decide +kernel
theorem d2_1 : decode jdk_42_method_3_code 1 = .ok (.aload_n 1, 1) := by decide +kernel
theorem d2_2 : decode jdk_42_method_3_code 2 = .ok (.iconst 0, 1) := by decide +kernel
theorem d2_3 : decode jdk_42_method_3_code 3 = .ok (.aload_n 1, 1) := by decide +kernel
theorem d2_4 : decode jdk_42_method_3_code 4 = .ok (.arraylength, 1) := by decide +kernel
theorem d2_5 : decode jdk_42_method_3_code 5 = .ok (.aconst_null, 1) := by decide +kernel
theorem d2_6 : decode jdk_42_method_3_code 6 = .ok (.invokespecial 27, 3) := by decide +kernel
theorem d2_9 : decode jdk_42_method_3_code 9 = .ok (.return_, 1) := by decide +kernel
theorem pn_rmS1 : plainName "java/lang/String" = true := by first | (simp [plainName, overriddenIn]; done) | decide +kernel
theorem ef_rmS1 (m : MethodId) (a1 : Addr) (a2 : Addr) : entryFrame m #[(.ref a1), (.ref a2)] 2 = mkF m 0 #[.val (.ref a1), .val (.ref a2)] [] := by first | (simp [entryFrame, mkF, argsToLocals, Value.category]; done) | rfl
def QS1 (Z : State) (a1 : Addr) (a2 : Addr) (n : Int32) (cf : Nat → Int32) (zc : Int32) (h0 : Heap) (n0 : Nat) (v : Option Value) (h : Heap) (L : List Loc) : Prop := v = none ∧ Fr n0 L ∧ Keep h0 h [a1] ∧ Exa Z h a1 "java/lang/String" ∧ Fld Z h a1 "java/lang/String" "coder" "B" (.int (0 : Int32)) ∧ ∃ t : Addr, Fld Z h a1 "java/lang/String" "value" "[B" (.ref t) ∧ Afn Z h t .byte n (fun k => .int ((cf k).toInt8.toInt32))
theorem pd_3 : parseMethodDescriptor "([CIILjava/lang/Void;)V" = some ⟨[(.array .char), .int, .int, (.object "java/lang/Void")], none⟩ := by decide +kernel
set_option maxRecDepth 65536 in
set_option maxHeartbeats 40000000 in
theorem rmS1 (l : Launch) (Z : State) (a0 : Array Value) (hw : ∀ d ∈ tables_1, d.before a0 Z = true) (ws : List Jvm.Cond) (a1 : Addr) (a2 : Addr) (n : Int32) (cf : Nat → Int32) (zc : Int32) (h0 : Heap) (n0 : Nat) (Z0 : n0 ≤ h0.size) (hEL : EW Z a0 consts_1) (E_a1 : Exa Z h0 a1 "java/lang/String") (F_value_a1 : Fld Z h0 a1 "java/lang/String" "value" "[B" .null) (F_coder_a1 : Fld Z h0 a1 "java/lang/String" "coder" "B" (.int (0 : Int32))) (g_a1 : n0 ≤ a1) (V2 : Afn Z h0 a2 .char n (fun k => .int (cf k))) (hcb : ∀ k, k < n.toNatClampNeg → ¬ cf k < (0 : Int32) ∧ ¬ (255 : Int32) < cf k) (hcap : n.toNatClampNeg ≤ 4) (hne : a1 ≠ a2) (SC : Sta Z Z.heap "java/lang/String" "COMPACT_STRINGS" "Z" (.int zc)) (hzc : ¬ zc = (0 : Int32)) (O : Old Z n0 h0) :
    ConH l Z consts_1 (⟨"java/lang/String", "<init>", "([C)V"⟩ : MethodName) jdk_42_method_3_code 2 none ws ({ frames := 3, cells := 4, slots := 8, locals := 54 } : Room) #[(.ref a1), (.ref a2)] h0 (QS1 Z a1 a2 n cf zc h0 n0) := by
  refine ConH.of (plainFor_of_name pn_rmS1) ?_
  intro p e s m below meth c s₁ vm0 k0 hZ e0 X0 hx hby hml hown hnm hret hlk hS hk CH CR
  replace hml : c.maxLocals = 2 := hml
  have hown : vm0.findClass "java/lang/String" = some m.cls := hown
  have N0 : Fr n0 [] := Fr.nil n0
  obtain ⟨PP, hPP⟩ : ∃ P, P = FineW Z consts_1 s below (QS1 Z a1 a2 n cf zc h0 n0) ({ frames := 3, cells := 4, slots := 8, locals := 54 } : Room).cells ({ frames := 3, cells := 4, slots := 8, locals := 54 } : Room).slots := ⟨_, rfl⟩
  rw [← hPP]
  refine Go.cast (ef_rmS1 m a1 a2) ?_
  have K : Keep h0 h0 [a1] := Keep.refl h0 _
  have Zn : n0 ≤ h0.size := Z0
  have SF_a1 : Safe Z consts_1 vm0 h0 a1 := safe_str hZ.alike E_a1 F_value_a1
  show Go p.tables e below PP (s₁.setTop (mkF m 0 #[.val (.ref a1), .val (.ref a2)] []))
  refine Go.st (fun t k => XS.aloadN X0.here hx rfl (hb hby d2_0) rfl rfl k) ?_
  show Go p.tables e below PP (s₁.setTop (mkF m 1 #[.val (.ref a1), .val (.ref a2)] [(.ref a1)]))
  refine Go.st (fun t k => XS.aloadN X0.here hx rfl (hb hby d2_1) rfl rfl k) ?_
  show Go p.tables e below PP (s₁.setTop (mkF m 2 #[.val (.ref a1), .val (.ref a2)] [(.ref a2), (.ref a1)]))
  refine Go.st (fun t k => XS.iconst X0.here hx rfl (hb hby d2_2) k) ?_
  show Go p.tables e below PP (s₁.setTop (mkF m 3 #[.val (.ref a1), .val (.ref a2)] [(.int (0 : Int32)), (.ref a2), (.ref a1)]))
  refine Go.st (fun t k => XS.aloadN X0.here hx rfl (hb hby d2_3) rfl rfl k) ?_
  show Go p.tables e below PP (s₁.setTop (mkF m 4 #[.val (.ref a1), .val (.ref a2)] [(.ref a2), (.int (0 : Int32)), (.ref a2), (.ref a1)]))
  obtain ⟨cl1, Ar1, S1, Nn1, -⟩ := id V2
  refine Go.st (fun t k => X0.arraylength hx (by rw [e0]; exact Ar1.1) (State.isArrayOf_alike hZ.alike Ar1.2.1) (g := (mkF m 4 #[.val (.ref a1), .val (.ref a2)] [(.ref a2), (.int (0 : Int32)), (.ref a2), (.ref a1)])) rfl rfl (hb hby d2_4) _ k) ?_
  rw [len_of S1 Nn1]
  show Go p.tables e below PP (s₁.setTop (mkF m 5 #[.val (.ref a1), .val (.ref a2)] [(.int n), (.int (0 : Int32)), (.ref a2), (.ref a1)]))
  refine Go.st (fun t k => XS.aconstNull X0.here hx rfl (hb hby d2_5) k) ?_
  show Go p.tables e below PP (s₁.setTop (mkF m 6 #[.val (.ref a1), .val (.ref a2)] [.null, (.int n), (.int (0 : Int32)), (.ref a2), (.ref a1)]))
  have hZ0 := hZ
  have hown0 := hown
  clear hZ hown
  obtain ⟨v2, T2, L2, X2, hQ2, hC2, hSn2, hZ, hown, st2⟩ := callInW X0 hx hZ0 (y := (⟨"java/lang/String", "<init>", "([CIILjava/lang/Void;)V"⟩ : MethodName)) (a := a1) (argsL := [(.ref a2), (.int (0 : Int32)), (.int n), .null]) (rest := []) rfl hown0 (hw _ (List.mem_of_getElem? (i := 12) rfl)) (hw _ (List.mem_of_getElem? (i := 13) rfl)) (hw _ (List.mem_of_getElem? (i := 7) rfl)) (hw _ (List.mem_of_getElem? (i := 15) rfl)) (by decide) (rmSI l Z a0 hw [] a1 a2 n cf zc h0 n0 Zn hEL E_a1 F_value_a1 F_coder_a1 g_a1 V2 hcb hcap hne SC hzc O) e0 hEL CH hS hk 0 (by decide) (by decide) (by decide) (by decide) (g := (mkF m 6 #[.val (.ref a1), .val (.ref a2)] [.null, (.int n), (.int (0 : Int32)), (.ref a2), (.ref a1)])) rfl (by rw [hml]; rfl) (lenOf pd_3 rfl) rfl (by show 2 * 0 + _ ≤ _; exact Nat.le_of_eq rfl) (hb hby d2_6)
  clear hZ0 hown0
  replace hS := hSn2
  obtain ⟨h2, e2⟩ : ∃ z, T2.heap = z := ⟨_, rfl⟩
  rw [e2] at hQ2 hC2
  replace SF_a1 := hC2.safe E_a1.lt SF_a1
  replace CR := CR.trans hC2
  replace CH := hC2.1
  replace hk : T2.heap.size ≤ h2.size := by rw [e2]; exact Nat.le_refl _
  obtain ⟨rfl, Nq2, Kq2, Eq2, Cq2, t2, Fq2, Vq2⟩ := hQ2
  have N2 := Fr.app N0 Nq2
  replace E_a1 := E_a1.keep Kq2
  clear F_value_a1
  clear F_coder_a1
  replace V2 := V2.keep Kq2 (ninS (Ne.symm hne) nin0)
  replace O := O.keep Kq2 (allS g_a1 all0)
  replace K := K.trans Kq2 (allS (Or.inl (List.mem_of_getElem? (i := 0) rfl)) all0)
  replace Zn := Nat.le_trans Zn Kq2.1
  replace E_a1 := Eq2
  have F_value_a1 := Fq2
  have F_coder_a1 := Cq2
  refine Go.st st2 ?_
  show Go p.tables e below PP (T2.setTop (mkF m 9 #[.val (.ref a1), .val (.ref a2)] []))
  rw [hPP]
  refine endVW X2 hx hlk hZ hS e2 hk hEL CH CR hret (hb hby d2_9) ?_ (by decide) (by decide)
  show QS1 Z a1 a2 n cf zc h0 n0 none T2.heap _
  rw [e2]
  exact ⟨rfl, N2, K, E_a1, F_coder_a1, _, F_value_a1, Vq2⟩
theorem d20_0 : decode jdk_42_method_152_code 0 = .ok (.getstatic 38, 3) := by decide +kernel
theorem d20_3 : decode jdk_42_method_152_code 3 = .ok (.ifCond .eq 10, 3) := by decide +kernel
theorem d20_6 : decode jdk_42_method_152_code 6 = .ok (.aload_n 0, 1) := by decide +kernel
theorem d20_7 : decode jdk_42_method_152_code 7 = .ok (.getfield 15, 3) := by decide +kernel
theorem d20_10 : decode jdk_42_method_152_code 10 = .ok (.goto 4, 3) := by decide +kernel
theorem d20_13 : decode jdk_42_method_152_code 13 = .ok (.iconst 1, 1) := by decide +kernel
theorem d20_14 : decode jdk_42_method_152_code 14 = .ok (.ireturn, 1) := by decide +kernel
theorem pn_rm20 : plainName "java/lang/String" = true := by first | (simp [plainName, overriddenIn]; done) | decide +kernel
theorem ef_rm20 (m : MethodId) (a1 : Addr) : entryFrame m #[(.ref a1)] 1 = mkF m 0 #[.val (.ref a1)] [] := by first | (simp [entryFrame, mkF, argsToLocals, Value.category]; done) | rfl
def Q20 (Z : State) (a1 : Addr) (zc : Int32) (h0 : Heap) (n0 : Nat) (v : Option Value) (h : Heap) (L : List Loc) : Prop := v = some (.int (0 : Int32)) ∧ L = [] ∧ h = h0
set_option maxRecDepth 65536 in
set_option maxHeartbeats 40000000 in
theorem rm20 (l : Launch) (Z : State) (a0 : Array Value) (hw : ∀ d ∈ tables_1, d.before a0 Z = true) (ws : List Jvm.Cond) (a1 : Addr) (zc : Int32) (h0 : Heap) (n0 : Nat) (Z0 : n0 ≤ h0.size) (F_coder_a1 : Fld Z h0 a1 "java/lang/String" "coder" "B" (.int (0 : Int32))) (SC : Sta Z Z.heap "java/lang/String" "COMPACT_STRINGS" "Z" (.int zc)) (hzc : ¬ zc = (0 : Int32)) (O : Old Z n0 h0) :
    Con l Z (⟨"java/lang/String", "coder", "()B"⟩ : MethodName) jdk_42_method_152_code 1 (some .byte) ws ({ frames := 0, cells := 0, slots := 0, locals := 0 } : Room) #[(.ref a1)] h0 (Q20 Z a1 zc h0 n0) := by
  refine Con.of (plainFor_of_name pn_rm20) ?_
  intro p e s m below meth c s₁ hZ e0 X0 hx hby hml hown hnm hret hlk
  replace hml : c.maxLocals = 1 := hml
  have hown : s.vm.findClass "java/lang/String" = some m.cls := hown
  have N0 : Fr n0 [] := Fr.nil n0
  obtain ⟨PP, hPP⟩ : ∃ P, P = Fine s below (Q20 Z a1 zc h0 n0) ({ frames := 0, cells := 0, slots := 0, locals := 0 } : Room).cells ({ frames := 0, cells := 0, slots := 0, locals := 0 } : Room).slots := ⟨_, rfl⟩
  rw [← hPP]
  refine Go.cast (ef_rm20 m a1) ?_
  have Zn : n0 ≤ h0.size := Z0
  show Go p.tables e below PP (s₁.setTop (mkF m 0 #[.val (.ref a1)] []))
  obtain ⟨T1, X1, e1, st1⟩ := getS2 X0 hx hZ hown (host := "") (Or.inl (hw _ (List.mem_of_getElem? (i := 27) rfl))) Via.refl e0 (SC.ext O.2) (g := (mkF m 0 #[.val (.ref a1)] [])) rfl (hb hby d20_0)
  refine Go.st st1 ?_
  show Go p.tables e below PP (T1.setTop (mkF m 3 #[.val (.ref a1)] [(.int zc)]))
  refine Go.st (fun t k => XS.ifNo X1.here hx rfl (hb hby d20_3) rfl (XT.i0_eq_f hzc) k) ?_
  show Go p.tables e below PP (T1.setTop (mkF m 6 #[.val (.ref a1)] []))
  refine Go.st (fun t k => XS.aloadN X1.here hx rfl (hb hby d20_6) rfl rfl k) ?_
  show Go p.tables e below PP (T1.setTop (mkF m 7 #[.val (.ref a1)] [(.ref a1)]))
  obtain ⟨T2, X2, e2, st2⟩ := getF X1 hx hZ hown (host := "") (Or.inl (hw _ (List.mem_of_getElem? (i := 26) rfl))) Via.refl e1 F_coder_a1 (g := (mkF m 7 #[.val (.ref a1)] [(.ref a1)])) rfl rfl (hb hby d20_7)
  refine Go.st st2 ?_
  show Go p.tables e below PP (T2.setTop (mkF m 10 #[.val (.ref a1)] [(.int (0 : Int32))]))
  refine Go.st (fun t k => XS.goto X2.here hx rfl (pc0 := 10) (pc' := 14) rfl (hb hby d20_10) (by decide) (by decide) k) ?_
  show Go p.tables e below PP (T2.setTop (mkF m 14 #[.val (.ref a1)] [(.int (0 : Int32))]))
  rw [hPP]
  refine endN X2 hx hlk (t := .byte) hret (by simp) (hb hby d20_14) (w := (0 : Int32)) (rfl) ?_ (by decide) (by decide)
  show Q20 Z a1 zc h0 n0 (some (.int (0 : Int32))) T2.heap _
  rw [e2]
  exact ⟨rfl, rfl, rfl⟩
theorem own_shr0 (n : Int32) : n >>> ((0 : Int32) &&& 31) = n := Int32.toInt_inj.mp (by rw [c_ishr n 0 0 (by decide)]; simp)
theorem d19_0 : decode jdk_42_method_54_code 0 = .ok (.aload_n 0, 1) := by decide +kernel
theorem d19_1 : decode jdk_42_method_54_code 1 = .ok (.getfield 9, 3) := by decide +kernel
theorem d19_4 : decode jdk_42_method_54_code 4 = .ok (.arraylength, 1) := by decide +kernel
theorem d19_5 : decode jdk_42_method_54_code 5 = .ok (.aload_n 0, 1) := by decide +kernel
theorem d19_6 : decode jdk_42_method_54_code 6 = .ok (.invokevirtual 335, 3) := by decide +kernel
theorem d19_9 : decode jdk_42_method_54_code 9 = .ok (.ishr, 1) := by decide +kernel
theorem d19_10 : decode jdk_42_method_54_code 10 = .ok (.ireturn, 1) := by decide +kernel
theorem pn_rm19 : plainName "java/lang/String" = true := by first | (simp [plainName, overriddenIn]; done) | decide +kernel
theorem ef_rm19 (m : MethodId) (a1 : Addr) : entryFrame m #[(.ref a1)] 1 = mkF m 0 #[.val (.ref a1)] [] := by first | (simp [entryFrame, mkF, argsToLocals, Value.category]; done) | rfl
def Q19 (Z : State) (a1 : Addr) (t1 : Addr) (n1 : Int32) (f1 : Nat → Int32) (zc : Int32) (h0 : Heap) (n0 : Nat) (v : Option Value) (h : Heap) (L : List Loc) : Prop := v = some (.int n1) ∧ L = [] ∧ h = h0
theorem pd_4 : parseMethodDescriptor "()B" = some ⟨[], some .byte⟩ := by decide +kernel
set_option maxRecDepth 65536 in
set_option maxHeartbeats 40000000 in
theorem rm19 (l : Launch) (Z : State) (a0 : Array Value) (hw : ∀ d ∈ tables_1, d.before a0 Z = true) (ws : List Jvm.Cond) (a1 : Addr) (t1 : Addr) (n1 : Int32) (f1 : Nat → Int32) (zc : Int32) (h0 : Heap) (n0 : Nat) (Z0 : n0 ≤ h0.size) (F_value_a1 : Fld Z h0 a1 "java/lang/String" "value" "[B" (.ref t1)) (F_coder_a1 : Fld Z h0 a1 "java/lang/String" "coder" "B" (.int (0 : Int32))) (V_t1 : Afn Z h0 t1 .byte n1 (fun k => .int (f1 k))) (E_a1 : Exa Z h0 a1 "java/lang/String") (SC : Sta Z Z.heap "java/lang/String" "COMPACT_STRINGS" "Z" (.int zc)) (hzc : ¬ zc = (0 : Int32)) (O : Old Z n0 h0) :
    Con l Z (⟨"java/lang/String", "length", "()I"⟩ : MethodName) jdk_42_method_54_code 1 (some .int) ws ({ frames := 1, cells := 0, slots := 0, locals := 13 } : Room) #[(.ref a1)] h0 (Q19 Z a1 t1 n1 f1 zc h0 n0) := by
  refine Con.of (plainFor_of_name pn_rm19) ?_
  intro p e s m below meth c s₁ hZ e0 X0 hx hby hml hown hnm hret hlk
  replace hml : c.maxLocals = 1 := hml
  have hown : s.vm.findClass "java/lang/String" = some m.cls := hown
  have N0 : Fr n0 [] := Fr.nil n0
  obtain ⟨PP, hPP⟩ : ∃ P, P = Fine s below (Q19 Z a1 t1 n1 f1 zc h0 n0) ({ frames := 1, cells := 0, slots := 0, locals := 13 } : Room).cells ({ frames := 1, cells := 0, slots := 0, locals := 13 } : Room).slots := ⟨_, rfl⟩
  rw [← hPP]
  refine Go.cast (ef_rm19 m a1) ?_
  have Zn : n0 ≤ h0.size := Z0
  show Go p.tables e below PP (s₁.setTop (mkF m 0 #[.val (.ref a1)] []))
  refine Go.st (fun t k => XS.aloadN X0.here hx rfl (hb hby d19_0) rfl rfl k) ?_
  show Go p.tables e below PP (s₁.setTop (mkF m 1 #[.val (.ref a1)] [(.ref a1)]))
  obtain ⟨T1, X1, e1, st1⟩ := getF X0 hx hZ hown (host := "") (Or.inl (hw _ (List.mem_of_getElem? (i := 25) rfl))) Via.refl e0 F_value_a1 (g := (mkF m 1 #[.val (.ref a1)] [(.ref a1)])) rfl rfl (hb hby d19_1)
  refine Go.st st1 ?_
  show Go p.tables e below PP (T1.setTop (mkF m 4 #[.val (.ref a1)] [(.ref t1)]))
  obtain ⟨cl2, Ar2, S2, Nn2, -⟩ := id V_t1
  refine Go.st (fun t k => X1.arraylength hx (by rw [e1]; exact Ar2.1) (State.isArrayOf_alike hZ.alike Ar2.2.1) (g := (mkF m 4 #[.val (.ref a1)] [(.ref t1)])) rfl rfl (hb hby d19_4) _ k) ?_
  rw [len_of S2 Nn2]
  show Go p.tables e below PP (T1.setTop (mkF m 5 #[.val (.ref a1)] [(.int n1)]))
  refine Go.st (fun t k => XS.aloadN X1.here hx rfl (hb hby d19_5) rfl rfl k) ?_
  show Go p.tables e below PP (T1.setTop (mkF m 6 #[.val (.ref a1)] [(.ref a1), (.int n1)]))
  obtain ⟨v3, T3, L3, X3, hQ3, st3⟩ := callVi X1 hx hZ (C := "java/lang/String") (y := (⟨"java/lang/String", "coder", "()B"⟩ : MethodName)) (z := (⟨"java/lang/String", "coder", "()B"⟩ : MethodName)) (a := a1) (argsL := []) (rest := [(.int n1)]) hown (hw _ (List.mem_of_getElem? (i := 142) rfl)) (hw _ (List.mem_of_getElem? (i := 143) rfl)) (notFace_of_selects (args := #[]) (mvT hZ (hw _ (List.mem_of_getElem? (i := 145) rfl)))) (hw _ (List.mem_of_getElem? (i := 145) rfl)) (hw _ (List.mem_of_getElem? (i := 144) rfl)) (hw _ (List.mem_of_getElem? (i := 7) rfl)) (hw _ (List.mem_of_getElem? (i := 146) rfl)) (by decide) rfl E_a1 (rm20 l Z a0 hw [] a1 zc h0 n0 Zn F_coder_a1 SC hzc O) e1 1 (by decide) (by decide) (by decide) (by decide) (g := (mkF m 6 #[.val (.ref a1)] [(.ref a1), (.int n1)])) rfl (by rw [hml]; rfl) (lenOf pd_4 rfl) rfl (by show 2 * 0 + _ ≤ _; exact Nat.le_of_eq rfl) (hb hby d19_6)
  obtain ⟨rfl, rfl, e3⟩ := hQ3
  rw [List.append_nil] at X3
  refine Go.st st3 ?_
  show Go p.tables e below PP (T3.setTop (mkF m 9 #[.val (.ref a1)] [(.int (0 : Int32)), (.int n1)]))
  refine Go.st (fun t k => XS.ishr X3.here hx rfl (hb hby d19_9) rfl k) ?_
  show Go p.tables e below PP (T3.setTop (mkF m 10 #[.val (.ref a1)] [(.int (n1 >>> ((0 : Int32) &&& 31)))]))
  rw [hPP]
  refine endI X3 hx hlk hret (hb hby d19_10) ?_ (by decide) (by decide)
  show Q19 Z a1 t1 n1 f1 zc h0 n0 (some (.int (n1 >>> ((0 : Int32) &&& 31)))) T3.heap _
  rw [e3]
  exact ⟨by rw [own_shr0], rfl, rfl⟩
theorem d26_0 : decode jdk_42_method_151_code 0 = .ok (.aload_n 0, 1) := by decide +kernel
theorem d26_1 : decode jdk_42_method_151_code 1 = .ok (.invokespecial 1, 3) := by decide +kernel
theorem d26_4 : decode jdk_42_method_151_code 4 = .ok (.aload_n 0, 1) := by decide +kernel
theorem d26_5 : decode jdk_42_method_151_code 5 = .ok (.aload_n 1, 1) := by decide +kernel
theorem d26_6 : decode jdk_42_method_151_code 6 = .ok (.putfield 9, 3) := by decide +kernel
theorem d26_9 : decode jdk_42_method_151_code 9 = .ok (.aload_n 0, 1) := by decide +kernel
theorem d26_10 : decode jdk_42_method_151_code 10 = .ok (.iload_n 2, 1) := by decide +kernel
theorem d26_11 : decode jdk_42_method_151_code 11 = .ok (.putfield 15, 3) := by decide +kernel
theorem d26_14 : decode jdk_42_method_151_code 14 = .ok (.return_, 1) := by decide +kernel
theorem pn_rm26 : plainName "java/lang/String" = true := by first | (simp [plainName, overriddenIn]; done) | decide +kernel
theorem ef_rm26 (m : MethodId) (a1 : Addr) (a2 : Addr) : entryFrame m #[(.ref a1), (.ref a2), (.int (0 : Int32))] 3 = mkF m 0 #[.val (.ref a1), .val (.ref a2), .val (.int (0 : Int32))] [] := by first | (simp [entryFrame, mkF, argsToLocals, Value.category]; done) | rfl
def Q26 (Z : State) (a1 : Addr) (a2 : Addr) (h0 : Heap) (n0 : Nat) (v : Option Value) (h : Heap) (L : List Loc) : Prop := v = none ∧ Fr n0 L ∧ Keep h0 h [a1] ∧ Fld Z h a1 "java/lang/String" "value" "[B" (.ref a2) ∧ Fld Z h a1 "java/lang/String" "coder" "B" (.int (0 : Int32))
set_option maxRecDepth 65536 in
set_option maxHeartbeats 40000000 in
theorem rm26 (l : Launch) (Z : State) (a0 : Array Value) (hw : ∀ d ∈ tables_1, d.before a0 Z = true) (ws : List Jvm.Cond) (a1 : Addr) (a2 : Addr) (h0 : Heap) (n0 : Nat) (Z0 : n0 ≤ h0.size) (E_a1 : Exa Z h0 a1 "java/lang/String") (F_value_a1 : Fld Z h0 a1 "java/lang/String" "value" "[B" .null) (F_coder_a1 : Fld Z h0 a1 "java/lang/String" "coder" "B" (.int (0 : Int32))) (g_a1 : n0 ≤ a1) :
    Con l Z (⟨"java/lang/String", "<init>", "([BB)V"⟩ : MethodName) jdk_42_method_151_code 3 none ws ({ frames := 1, cells := 0, slots := 0, locals := 12 } : Room) #[(.ref a1), (.ref a2), (.int (0 : Int32))] h0 (Q26 Z a1 a2 h0 n0) := by
  refine Con.of (plainFor_of_name pn_rm26) ?_
  intro p e s m below meth c s₁ hZ e0 X0 hx hby hml hown hnm hret hlk
  replace hml : c.maxLocals = 3 := hml
  have hown : s.vm.findClass "java/lang/String" = some m.cls := hown
  have N0 : Fr n0 [] := Fr.nil n0
  obtain ⟨PP, hPP⟩ : ∃ P, P = Fine s below (Q26 Z a1 a2 h0 n0) ({ frames := 1, cells := 0, slots := 0, locals := 12 } : Room).cells ({ frames := 1, cells := 0, slots := 0, locals := 12 } : Room).slots := ⟨_, rfl⟩
  rw [← hPP]
  refine Go.cast (ef_rm26 m a1 a2) ?_
  have K : Keep h0 h0 [a1] := Keep.refl h0 _
  have Zn : n0 ≤ h0.size := Z0
  show Go p.tables e below PP (s₁.setTop (mkF m 0 #[.val (.ref a1), .val (.ref a2), .val (.int (0 : Int32))] []))
  refine Go.st (fun t k => XS.aloadN X0.here hx rfl (hb hby d26_0) rfl rfl k) ?_
  show Go p.tables e below PP (s₁.setTop (mkF m 1 #[.val (.ref a1), .val (.ref a2), .val (.int (0 : Int32))] [(.ref a1)]))
  obtain ⟨T1, X1, e1, st1⟩ := initO X0 hx hZ hown (hw _ (List.mem_of_getElem? (i := 16) rfl)) (hw _ (List.mem_of_getElem? (i := 17) rfl)) (hw _ (List.mem_of_getElem? (i := 18) rfl)) e0 (g := (mkF m 1 #[.val (.ref a1), .val (.ref a2), .val (.int (0 : Int32))] [(.ref a1)])) rfl (by rw [hml]; rfl) rfl (hb hby d26_1) (by decide) (W := 0) (by show 2 * 0 + _ ≤ _; exact Nat.le_of_eq rfl) (by decide)
  refine Go.st st1 ?_
  show Go p.tables e below PP (T1.setTop (mkF m 4 #[.val (.ref a1), .val (.ref a2), .val (.int (0 : Int32))] []))
  refine Go.st (fun t k => XS.aloadN X1.here hx rfl (hb hby d26_4) rfl rfl k) ?_
  show Go p.tables e below PP (T1.setTop (mkF m 5 #[.val (.ref a1), .val (.ref a2), .val (.int (0 : Int32))] [(.ref a1)]))
  refine Go.st (fun t k => XS.aloadN X1.here hx rfl (hb hby d26_5) rfl rfl k) ?_
  show Go p.tables e below PP (T1.setTop (mkF m 6 #[.val (.ref a1), .val (.ref a2), .val (.int (0 : Int32))] [(.ref a2), (.ref a1)]))
  obtain ⟨T2, h2, X2, e2, W2, st2⟩ := putF X1 hx hZ hown (host := "") (Or.inl (hw _ (List.mem_of_getElem? (i := 25) rfl))) Via.refl e1 F_value_a1 E_a1 (Or.inr ⟨(hw _ (List.mem_of_getElem? (i := 21) rfl)), rfl, hnm⟩) (hw _ (List.mem_of_getElem? (i := 6) rfl)) (ty := (.array .byte)) (by decide) rfl rfl (g := (mkF m 6 #[.val (.ref a1), .val (.ref a2), .val (.int (0 : Int32))] [(.ref a2), (.ref a1)])) rfl rfl (hb hby d26_6)
  refine Go.st st2 ?_
  have N2 := Fr.snoc X2 N0 g_a1
  replace E_a1 := E_a1.wr W2
  replace F_coder_a1 := F_coder_a1.other W2 (Or.inr (slot_ne (a0 := a0) (Or.inr (hw _ (List.mem_of_getElem? (i := 22) rfl))) (Or.inr (hw _ (List.mem_of_getElem? (i := 21) rfl))) (by decide) (t := .byte) (t' := (.array .byte)) (by decide) (by decide)))
  replace K := K.wr W2 (Or.inl (List.mem_of_getElem? (i := 0) rfl))
  replace Zn : n0 ≤ h2.size := by rw [W2.size]; exact Zn
  replace F_value_a1 := F_value_a1.same W2
  show Go p.tables e below PP (T2.setTop (mkF m 9 #[.val (.ref a1), .val (.ref a2), .val (.int (0 : Int32))] []))
  refine Go.st (fun t k => XS.aloadN X2.here hx rfl (hb hby d26_9) rfl rfl k) ?_
  show Go p.tables e below PP (T2.setTop (mkF m 10 #[.val (.ref a1), .val (.ref a2), .val (.int (0 : Int32))] [(.ref a1)]))
  refine Go.st (fun t k => XS.iloadN X2.here hx rfl (hb hby d26_10) rfl k) ?_
  show Go p.tables e below PP (T2.setTop (mkF m 11 #[.val (.ref a1), .val (.ref a2), .val (.int (0 : Int32))] [(.int (0 : Int32)), (.ref a1)]))
  obtain ⟨T3, h3, X3, e3, W3, st3⟩ := putFN X2 hx hZ hown (hw _ (List.mem_of_getElem? (i := 26) rfl)) Via.refl e2 F_coder_a1 E_a1 (Or.inr ⟨(hw _ (List.mem_of_getElem? (i := 22) rfl)), rfl, hnm⟩) (hw _ (List.mem_of_getElem? (i := 6) rfl)) (ty := .byte) (v' := (.int (0 : Int32))) (by decide) rfl (by decide) (g := (mkF m 11 #[.val (.ref a1), .val (.ref a2), .val (.int (0 : Int32))] [(.int (0 : Int32)), (.ref a1)])) rfl rfl (hb hby d26_11)
  refine Go.st st3 ?_
  have N3 := Fr.snoc X3 N2 g_a1
  replace E_a1 := E_a1.wr W3
  replace F_value_a1 := F_value_a1.other W3 (Or.inr (slot_ne (a0 := a0) (Or.inr (hw _ (List.mem_of_getElem? (i := 21) rfl))) (Or.inr (hw _ (List.mem_of_getElem? (i := 22) rfl))) (by decide) (t := (.array .byte)) (t' := .byte) (by decide) (by decide)))
  replace K := K.wr W3 (Or.inl (List.mem_of_getElem? (i := 0) rfl))
  replace Zn : n0 ≤ h3.size := by rw [W3.size]; exact Zn
  replace F_coder_a1 := F_coder_a1.same W3
  show Go p.tables e below PP (T3.setTop (mkF m 14 #[.val (.ref a1), .val (.ref a2), .val (.int (0 : Int32))] []))
  rw [hPP]
  refine endV X3 hx hlk hret (hb hby d26_14) ?_ (by decide) (by decide)
  show Q26 Z a1 a2 h0 n0 none T3.heap _
  rw [e3]
  exact ⟨rfl, N3, K, F_value_a1, F_coder_a1⟩
theorem d24_0 : decode jdk_43_method_3_code 0 = .ok (.iload_n 0, 1) := by decide +kernel
theorem d24_1 : decode jdk_43_method_3_code 1 = .ok (.sipush 255, 3) := by decide +kernel
theorem d24_4 : decode jdk_43_method_3_code 4 = .ok (.if_icmp .gt 7, 3) := by decide +kernel
theorem d24_7 : decode jdk_43_method_3_code 7 = .ok (.iconst 1, 1) := by decide +kernel
theorem d24_8 : decode jdk_43_method_3_code 8 = .ok (.goto 4, 3) := by decide +kernel
theorem d24_11 : decode jdk_43_method_3_code 11 = .ok (.iconst 0, 1) := by decide +kernel
theorem d24_12 : decode jdk_43_method_3_code 12 = .ok (.ireturn, 1) := by decide +kernel
theorem pn_rm24 : plainName "java/lang/StringLatin1" = true := by first | (simp [plainName, overriddenIn]; done) | decide +kernel
theorem ef_rm24 (m : MethodId) (p1 : Int32) : entryFrame m #[(.int p1)] 1 = mkF m 0 #[.val (.int p1)] [] := by first | (simp [entryFrame, mkF, argsToLocals, Value.category]; done) | rfl
def Q24 (Z : State) (p1 : Int32) (h0 : Heap) (n0 : Nat) (v : Option Value) (h : Heap) (L : List Loc) : Prop := v = some (.int (bi (¬ (255 : Int32) < p1))) ∧ L = [] ∧ h = h0
set_option maxRecDepth 65536 in
set_option maxHeartbeats 40000000 in
theorem rm24 (l : Launch) (Z : State) (a0 : Array Value) (hw : ∀ d ∈ tables_1, d.before a0 Z = true) (ws : List Jvm.Cond) (p1 : Int32) (h0 : Heap) (n0 : Nat) (Z0 : n0 ≤ h0.size) :
    Con l Z (⟨"java/lang/StringLatin1", "canEncode", "(C)Z"⟩ : MethodName) jdk_43_method_3_code 1 (some .boolean) ws ({ frames := 0, cells := 0, slots := 0, locals := 0 } : Room) #[(.int p1)] h0 (Q24 Z p1 h0 n0) := by
  refine Con.of (plainFor_of_name pn_rm24) ?_
  intro p e s m below meth c s₁ hZ e0 X0 hx hby hml hown hnm hret hlk
  replace hml : c.maxLocals = 1 := hml
  have hown : s.vm.findClass "java/lang/StringLatin1" = some m.cls := hown
  have N0 : Fr n0 [] := Fr.nil n0
  obtain ⟨PP, hPP⟩ : ∃ P, P = Fine s below (Q24 Z p1 h0 n0) ({ frames := 0, cells := 0, slots := 0, locals := 0 } : Room).cells ({ frames := 0, cells := 0, slots := 0, locals := 0 } : Room).slots := ⟨_, rfl⟩
  rw [← hPP]
  refine Go.cast (ef_rm24 m p1) ?_
  have Zn : n0 ≤ h0.size := Z0
  show Go p.tables e below PP (s₁.setTop (mkF m 0 #[.val (.int p1)] []))
  refine Go.st (fun t k => XS.iloadN X0.here hx rfl (hb hby d24_0) rfl k) ?_
  show Go p.tables e below PP (s₁.setTop (mkF m 1 #[.val (.int p1)] [(.int p1)]))
  refine Go.st (fun t k => XS.sipush X0.here hx rfl (hb hby d24_1) k) ?_
  show Go p.tables e below PP (s₁.setTop (mkF m 4 #[.val (.int p1)] [(.int (255 : Int32)), (.int p1)]))
  by_cases hc4 : (255 : Int32) < p1
  · --
    refine Go.st (fun t k => XS.icmpYes X0.here hx rfl (pc0 := 4) (pc' := 11) rfl (hb hby d24_4) rfl (XT.ii_gt_t hc4) (by decide) (by decide) k) ?_
    show Go p.tables e below PP (s₁.setTop (mkF m 11 #[.val (.int p1)] []))
    refine Go.st (fun t k => XS.iconst X0.here hx rfl (hb hby d24_11) k) ?_
    show Go p.tables e below PP (s₁.setTop (mkF m 12 #[.val (.int p1)] [(.int (0 : Int32))]))
    rw [hPP]
    refine endN X0 hx hlk (t := .boolean) hret (by simp) (hb hby d24_12) (w := (0 : Int32)) (rfl) ?_ (by decide) (by decide)
    show Q24 Z p1 h0 n0 (some (.int (0 : Int32))) s₁.heap _
    rw [e0]
    exact ⟨by simp [bi, hc4], rfl, rfl⟩
  · --
    refine Go.st (fun t k => XS.icmpNo X0.here hx rfl (hb hby d24_4) rfl (XT.ii_gt_f hc4) k) ?_
    show Go p.tables e below PP (s₁.setTop (mkF m 7 #[.val (.int p1)] []))
    refine Go.st (fun t k => XS.iconst X0.here hx rfl (hb hby d24_7) k) ?_
    show Go p.tables e below PP (s₁.setTop (mkF m 8 #[.val (.int p1)] [(.int (1 : Int32))]))
    refine Go.st (fun t k => XS.goto X0.here hx rfl (pc0 := 8) (pc' := 12) rfl (hb hby d24_8) (by decide) (by decide) k) ?_
    show Go p.tables e below PP (s₁.setTop (mkF m 12 #[.val (.int p1)] [(.int (1 : Int32))]))
    rw [hPP]
    refine endN X0 hx hlk (t := .boolean) hret (by simp) (hb hby d24_12) (w := (1 : Int32)) (rfl) ?_ (by decide) (by decide)
    show Q24 Z p1 h0 n0 (some (.int (1 : Int32))) s₁.heap _
    rw [e0]
    exact ⟨by simp [bi, hc4], rfl, rfl⟩
theorem own_tb (x : Int32) (k : Nat) (hk : k < (1 : Int32).toNatClampNeg) : (if k = (0 : Int32).toNatClampNeg then Value.int ((x.toInt8.toInt32).toInt8.toInt32) else Value.int (0 : Int32)) = Value.int ((csL [x] k).toInt8.toInt32) := by
  have e : (1 : Int32).toNatClampNeg = 1 := rfl
  have e0 : (0 : Int32).toNatClampNeg = 0 := rfl
  rw [e] at hk
  obtain rfl : k = 0 := by omega
  simp [csL, e0]
theorem d25_0 : decode jdk_43_method_46_code 0 = .ok (.iconst 1, 1) := by decide +kernel
theorem d25_1 : decode jdk_43_method_46_code 1 = .ok (.newarray .byte, 2) := by decide +kernel
theorem d25_3 : decode jdk_43_method_46_code 3 = .ok (.dup, 1) := by decide +kernel
theorem d25_4 : decode jdk_43_method_46_code 4 = .ok (.iconst 0, 1) := by decide +kernel
theorem d25_5 : decode jdk_43_method_46_code 5 = .ok (.iload_n 0, 1) := by decide +kernel
theorem d25_6 : decode jdk_43_method_46_code 6 = .ok (.i2b, 1) := by decide +kernel
theorem d25_7 : decode jdk_43_method_46_code 7 = .ok (.bastore, 1) := by decide +kernel
theorem d25_8 : decode jdk_43_method_46_code 8 = .ok (.areturn, 1) := by decide +kernel
theorem pn_rm25 : plainName "java/lang/StringLatin1" = true := by first | (simp [plainName, overriddenIn]; done) | decide +kernel
theorem ef_rm25 (m : MethodId) (p1 : Int32) : entryFrame m #[(.int p1)] 1 = mkF m 0 #[.val (.int p1)] [] := by first | (simp [entryFrame, mkF, argsToLocals, Value.category]; done) | rfl
def Q25 (Z : State) (p1 : Int32) (h0 : Heap) (n0 : Nat) (v : Option Value) (h : Heap) (L : List Loc) : Prop := ∃ t : Addr, v = some (.ref t) ∧ Fr n0 L ∧ Keep h0 h [] ∧ h0.size ≤ t ∧ Afn Z h t .byte (1 : Int32) (fun k => .int ((csL [p1] k).toInt8.toInt32))
set_option maxRecDepth 65536 in
set_option maxHeartbeats 40000000 in
theorem rm25 (l : Launch) (Z : State) (a0 : Array Value) (hw : ∀ d ∈ tables_1, d.before a0 Z = true) (ws : List Jvm.Cond) (p1 : Int32) (h0 : Heap) (n0 : Nat) (Z0 : n0 ≤ h0.size) :
    Con l Z (⟨"java/lang/StringLatin1", "toBytes", "(C)[B"⟩ : MethodName) jdk_43_method_46_code 1 (some (.array .byte)) ws ({ frames := 0, cells := 1, slots := 1, locals := 0 } : Room) #[(.int p1)] h0 (Q25 Z p1 h0 n0) := by
  refine Con.of (plainFor_of_name pn_rm25) ?_
  intro p e s m below meth c s₁ hZ e0 X0 hx hby hml hown hnm hret hlk
  replace hml : c.maxLocals = 1 := hml
  have hown : s.vm.findClass "java/lang/StringLatin1" = some m.cls := hown
  have N0 : Fr n0 [] := Fr.nil n0
  obtain ⟨PP, hPP⟩ : ∃ P, P = Fine s below (Q25 Z p1 h0 n0) ({ frames := 0, cells := 1, slots := 1, locals := 0 } : Room).cells ({ frames := 0, cells := 1, slots := 1, locals := 0 } : Room).slots := ⟨_, rfl⟩
  rw [← hPP]
  refine Go.cast (ef_rm25 m p1) ?_
  have K : Keep h0 h0 [] := Keep.refl h0 _
  have Zn : n0 ≤ h0.size := Z0
  show Go p.tables e below PP (s₁.setTop (mkF m 0 #[.val (.int p1)] []))
  refine Go.st (fun t k => XS.iconst X0.here hx rfl (hb hby d25_0) k) ?_
  show Go p.tables e below PP (s₁.setTop (mkF m 1 #[.val (.int p1)] [(.int (1 : Int32))]))
  obtain ⟨T1, h1, k1, X1, e1, E1, A1, st1⟩ := newP X0 hx hZ (hw _ (List.mem_of_getElem? (i := 20) rfl)) e0 (g := (mkF m 1 #[.val (.int p1)] [(.int (1 : Int32))])) rfl (hb hby d25_1) rfl (by decide) (cap := 1) (by decide) (by decide) (by decide) (by decide)
  obtain ⟨b1, gz1⟩ : ∃ z, z = h0.size := ⟨_, rfl⟩
  rw [← gz1] at A1 st1
  have g_b1 : n0 ≤ b1 := Nat.le_trans Zn (Nat.le_of_eq gz1.symm)
  have sz_b1 : h0.size ≤ b1 := Nat.le_trans K.1 (Nat.le_of_eq gz1.symm)
  refine Go.st st1 ?_
  replace K := K.ext E1
  replace Zn := Nat.le_trans Zn E1.1
  have V_b1 : Afn Z h1 b1 .byte (1 : Int32) (fun _ => (.int (0 : Int32))) := Afn.new A1 (by decide)
  show Go p.tables e below PP (T1.setTop (mkF m 3 #[.val (.int p1)] [(.ref b1)]))
  refine Go.st (fun t k => XS.dup X1.here hx rfl (hb hby d25_3) rfl rfl k) ?_
  show Go p.tables e below PP (T1.setTop (mkF m 4 #[.val (.int p1)] [(.ref b1), (.ref b1)]))
  refine Go.st (fun t k => XS.iconst X1.here hx rfl (hb hby d25_4) k) ?_
  show Go p.tables e below PP (T1.setTop (mkF m 5 #[.val (.int p1)] [(.int (0 : Int32)), (.ref b1), (.ref b1)]))
  refine Go.st (fun t k => XS.iloadN X1.here hx rfl (hb hby d25_5) rfl k) ?_
  show Go p.tables e below PP (T1.setTop (mkF m 6 #[.val (.int p1)] [(.int p1), (.int (0 : Int32)), (.ref b1), (.ref b1)]))
  refine Go.st (fun t k => XS.i2b X1.here hx rfl (hb hby d25_6) rfl k) ?_
  show Go p.tables e below PP (T1.setTop (mkF m 7 #[.val (.int p1)] [(.int (p1.toInt8.toInt32)), (.int (0 : Int32)), (.ref b1), (.ref b1)]))
  obtain ⟨cl2, Ar2, S2, Nn2, H2⟩ := id V_b1
  have hin2 : ¬ ((0 : Int32) < 0 ∨ cl2.slots.size ≤ ((0 : Int32)).toNatClampNeg) := inb_of S2 ⟨by decide, by decide⟩
  obtain ⟨T2, h2, X2, e2, W2, st2⟩ := stB X1 hx hZ e1 Ar2 (j := (0 : Int32)) hin2 (g := (mkF m 7 #[.val (.int p1)] [(.int (p1.toInt8.toInt32)), (.int (0 : Int32)), (.ref b1), (.ref b1)])) rfl rfl (hb hby d25_7)
  refine Go.st st2 ?_
  have N2 := Fr.snoc X2 N0 g_b1
  replace K := K.wr W2 (Or.inr sz_b1)
  replace Zn : n0 ≤ h2.size := by rw [W2.size]; exact Zn
  replace V_b1 := Afn.set Ar2 S2 Nn2 H2 (fits_nar_byte _) W2
  show Go p.tables e below PP (T2.setTop (mkF m 8 #[.val (.int p1)] [(.ref b1)]))
  rw [hPP]
  refine endR X2 hx hlk hret rfl rfl (hb hby d25_8) ?_ (by decide) (by decide)
  show Q25 Z p1 h0 n0 (some (.ref b1)) T2.heap _
  rw [e2]
  exact ⟨b1, rfl, N2, K, sz_b1, V_b1.congr (fun k hk => own_tb p1 k hk)⟩
theorem d23_0 : decode jdk_42_method_139_code 0 = .ok (.getstatic 38, 3) := by decide +kernel
theorem d23_3 : decode jdk_42_method_139_code 3 = .ok (.ifCond .eq 23, 3) := by decide +kernel
theorem d23_6 : decode jdk_42_method_139_code 6 = .ok (.iload_n 0, 1) := by decide +kernel
theorem d23_7 : decode jdk_42_method_139_code 7 = .ok (.invokestatic 1015, 3) := by decide +kernel
theorem d23_10 : decode jdk_42_method_139_code 10 = .ok (.ifCond .eq 16, 3) := by decide +kernel
theorem d23_13 : decode jdk_42_method_139_code 13 = .ok (.new 10, 3) := by decide +kernel
theorem d23_16 : decode jdk_42_method_139_code 16 = .ok (.dup, 1) := by decide +kernel
theorem d23_17 : decode jdk_42_method_139_code 17 = .ok (.iload_n 0, 1) := by decide +kernel
theorem d23_18 : decode jdk_42_method_139_code 18 = .ok (.invokestatic 1018, 3) := by decide +kernel
theorem d23_21 : decode jdk_42_method_139_code 21 = .ok (.iconst 0, 1) := by decide +kernel
theorem d23_22 : decode jdk_42_method_139_code 22 = .ok (.invokespecial 209, 3) := by decide +kernel
theorem d23_25 : decode jdk_42_method_139_code 25 = .ok (.areturn, 1) := by decide +kernel
theorem d23_26 : decode jdk_42_method_139_code 26 = .ok (.new 10, 3) := by decide +kernel
theorem d23_29 : decode jdk_42_method_139_code 29 = .ok (.dup, 1) := by decide +kernel
theorem d23_30 : decode jdk_42_method_139_code 30 = .ok (.iload_n 0, 1) := by decide +kernel
theorem d23_31 : decode jdk_42_method_139_code 31 = .ok (.invokestatic 1021, 3) := by decide +kernel
theorem d23_34 : decode jdk_42_method_139_code 34 = .ok (.iconst 1, 1) := by decide +kernel
theorem d23_35 : decode jdk_42_method_139_code 35 = .ok (.invokespecial 209, 3) := by decide +kernel
theorem d23_38 : decode jdk_42_method_139_code 38 = .ok (.areturn, 1) := by decide +kernel
theorem pn_rm23 : plainName "java/lang/String" = true := by first | (simp [plainName, overriddenIn]; done) | decide +kernel
theorem ef_rm23 (m : MethodId) (p1 : Int32) : entryFrame m #[(.int p1)] 1 = mkF m 0 #[.val (.int p1)] [] := by first | (simp [entryFrame, mkF, argsToLocals, Value.category]; done) | rfl
def Q23 (Z : State) (p1 : Int32) (zc : Int32) (h0 : Heap) (n0 : Nat) (v : Option Value) (h : Heap) (L : List Loc) : Prop := ∃ r t : Addr, v = some (.ref r) ∧ Fr n0 L ∧ Keep h0 h [] ∧ h0.size ≤ r ∧ h0.size ≤ t ∧ Exa Z h r "java/lang/String" ∧ Fld Z h r "java/lang/String" "coder" "B" (.int (0 : Int32)) ∧ Fld Z h r "java/lang/String" "value" "[B" (.ref t) ∧ Afn Z h t .byte (1 : Int32) (fun k => .int ((csL [p1] k).toInt8.toInt32))
theorem pd_5 : parseMethodDescriptor "(C)Z" = some ⟨[.char], some .boolean⟩ := by decide +kernel
theorem pd_6 : parseMethodDescriptor "(C)[B" = some ⟨[.char], some (.array .byte)⟩ := by decide +kernel
theorem pd_7 : parseMethodDescriptor "([BB)V" = some ⟨[(.array .byte), .byte], none⟩ := by decide +kernel
set_option maxRecDepth 65536 in
set_option maxHeartbeats 40000000 in
theorem rm23 (l : Launch) (Z : State) (a0 : Array Value) (hw : ∀ d ∈ tables_1, d.before a0 Z = true) (ws : List Jvm.Cond) (p1 : Int32) (zc : Int32) (h0 : Heap) (n0 : Nat) (Z0 : n0 ≤ h0.size) (SC : Sta Z Z.heap "java/lang/String" "COMPACT_STRINGS" "Z" (.int zc)) (hzc : ¬ zc = (0 : Int32)) (O : Old Z n0 h0) (hlo : ¬ (255 : Int32) < p1) :
    Con l Z (⟨"java/lang/String", "valueOf", "(C)Ljava/lang/String;"⟩ : MethodName) jdk_42_method_139_code 1 (some (.object "java/lang/String")) ws ({ frames := 2, cells := 2, slots := 5, locals := 27 } : Room) #[(.int p1)] h0 (Q23 Z p1 zc h0 n0) := by
  refine Con.of (plainFor_of_name pn_rm23) ?_
  intro p e s m below meth c s₁ hZ e0 X0 hx hby hml hown hnm hret hlk
  replace hml : c.maxLocals = 1 := hml
  have hown : s.vm.findClass "java/lang/String" = some m.cls := hown
  have N0 : Fr n0 [] := Fr.nil n0
  obtain ⟨PP, hPP⟩ : ∃ P, P = Fine s below (Q23 Z p1 zc h0 n0) ({ frames := 2, cells := 2, slots := 5, locals := 27 } : Room).cells ({ frames := 2, cells := 2, slots := 5, locals := 27 } : Room).slots := ⟨_, rfl⟩
  rw [← hPP]
  refine Go.cast (ef_rm23 m p1) ?_
  have K : Keep h0 h0 [] := Keep.refl h0 _
  have Zn : n0 ≤ h0.size := Z0
  show Go p.tables e below PP (s₁.setTop (mkF m 0 #[.val (.int p1)] []))
  obtain ⟨T1, X1, e1, st1⟩ := getS2 X0 hx hZ hown (host := "") (Or.inl (hw _ (List.mem_of_getElem? (i := 27) rfl))) Via.refl e0 (SC.ext O.2) (g := (mkF m 0 #[.val (.int p1)] [])) rfl (hb hby d23_0)
  refine Go.st st1 ?_
  show Go p.tables e below PP (T1.setTop (mkF m 3 #[.val (.int p1)] [(.int zc)]))
  refine Go.st (fun t k => XS.ifNo X1.here hx rfl (hb hby d23_3) rfl (XT.i0_eq_f hzc) k) ?_
  show Go p.tables e below PP (T1.setTop (mkF m 6 #[.val (.int p1)] []))
  refine Go.st (fun t k => XS.iloadN X1.here hx rfl (hb hby d23_6) rfl k) ?_
  show Go p.tables e below PP (T1.setTop (mkF m 7 #[.val (.int p1)] [(.int p1)]))
  obtain ⟨v2, T2, L2, X2, hQ2, st2⟩ := callSt X1 hx hZ (y := (⟨"java/lang/StringLatin1", "canEncode", "(C)Z"⟩ : MethodName)) (argsL := [(.int p1)]) (rest := []) hown (hw _ (List.mem_of_getElem? (i := 166) rfl)) (hw _ (List.mem_of_getElem? (i := 167) rfl)) (hw _ (List.mem_of_getElem? (i := 168) rfl)) (hw _ (List.mem_of_getElem? (i := 169) rfl)) (by decide) (rm24 l Z a0 hw [] p1 h0 n0 Zn) e1 0 (by decide) (by decide) (by decide) (by decide) (g := (mkF m 7 #[.val (.int p1)] [(.int p1)])) rfl (by rw [hml]; rfl) (lenOf pd_5 rfl) rfl (by show 2 * 0 + _ ≤ _; exact Nat.le_of_eq rfl) (hb hby d23_7)
  obtain ⟨rfl, rfl, e2⟩ := hQ2
  rw [List.append_nil] at X2
  refine Go.st st2 ?_
  show Go p.tables e below PP (T2.setTop (mkF m 10 #[.val (.int p1)] [(.int (bi (¬ (255 : Int32) < p1)))]))
  refine Go.st (fun t k => XS.ifNo X2.here hx rfl (hb hby d23_10) rfl (XT.i0_eq_f (by rw [bi_t hlo]; decide)) k) ?_
  show Go p.tables e below PP (T2.setTop (mkF m 13 #[.val (.int p1)] []))
  obtain ⟨T3, h3, X3, e3, E3, A3, D3, -, st3⟩ := newO X2 hx hZ hown (hw _ (List.mem_of_getElem? (i := 170) rfl)) (hw _ (List.mem_of_getElem? (i := 6) rfl)) (hw _ (List.mem_of_getElem? (i := 7) rfl)) e2 (g := (mkF m 13 #[.val (.int p1)] [])) rfl (hb hby d23_13) (by decide) (by decide)
  obtain ⟨b3, gz3⟩ : ∃ z, z = h0.size := ⟨_, rfl⟩
  rw [← gz3] at A3 D3 st3
  have g_b3 : n0 ≤ b3 := Nat.le_trans Zn (Nat.le_of_eq gz3.symm)
  have sz_b3 : h0.size ≤ b3 := Nat.le_trans K.1 (Nat.le_of_eq gz3.symm)
  refine Go.st st3 ?_
  replace O := O.ext E3
  replace K := K.ext E3
  replace Zn := Nat.le_trans Zn E3.1
  have E_b3 := A3
  have F_value_b3 : Fld Z h3 b3 "java/lang/String" "value" "[B" .null := D3 (Or.inr (hw _ (List.mem_of_getElem? (i := 21) rfl))) (ty := (.array .byte)) (by decide)
  have F_coder_b3 : Fld Z h3 b3 "java/lang/String" "coder" "B" (.int (0 : Int32)) := D3 (Or.inr (hw _ (List.mem_of_getElem? (i := 22) rfl))) (ty := .byte) (by decide)
  show Go p.tables e below PP (T3.setTop (mkF m 16 #[.val (.int p1)] [(.ref b3)]))
  refine Go.st (fun t k => XS.dup X3.here hx rfl (hb hby d23_16) rfl rfl k) ?_
  show Go p.tables e below PP (T3.setTop (mkF m 17 #[.val (.int p1)] [(.ref b3), (.ref b3)]))
  refine Go.st (fun t k => XS.iloadN X3.here hx rfl (hb hby d23_17) rfl k) ?_
  show Go p.tables e below PP (T3.setTop (mkF m 18 #[.val (.int p1)] [(.int p1), (.ref b3), (.ref b3)]))
  obtain ⟨v4, T4, L4, X4, hQ4, st4⟩ := callSt X3 hx hZ (y := (⟨"java/lang/StringLatin1", "toBytes", "(C)[B"⟩ : MethodName)) (argsL := [(.int p1)]) (rest := [(.ref b3), (.ref b3)]) hown (hw _ (List.mem_of_getElem? (i := 171) rfl)) (hw _ (List.mem_of_getElem? (i := 172) rfl)) (hw _ (List.mem_of_getElem? (i := 168) rfl)) (hw _ (List.mem_of_getElem? (i := 173) rfl)) (by decide) (rm25 l Z a0 hw [] p1 h3 n0 Zn) e3 2 (by decide) (by decide) (by decide) (by decide) (g := (mkF m 18 #[.val (.int p1)] [(.int p1), (.ref b3), (.ref b3)])) rfl (by rw [hml]; rfl) (lenOf pd_6 rfl) rfl (by show 2 * 0 + _ ≤ _; exact Nat.le_of_eq rfl) (hb hby d23_18)
  obtain ⟨h4, e4⟩ : ∃ z, T4.heap = z := ⟨_, rfl⟩
  rw [e4] at hQ4
  obtain ⟨t_4, rfl, Nq4, Kq4, sq4_t, Fq4_0⟩ := hQ4
  have N4 := Fr.app N0 Nq4
  have ne_b3_t_4 : b3 ≠ t_4 := Nat.ne_of_lt (Nat.lt_of_lt_of_le E_b3.lt sq4_t)
  have g_t_4 : n0 ≤ t_4 := Nat.le_trans Zn sq4_t
  have sz_t_4 : h0.size ≤ t_4 := Nat.le_trans K.1 sq4_t
  replace E_b3 := E_b3.keep Kq4
  replace F_value_b3 := F_value_b3.keep Kq4 nin0
  replace F_coder_b3 := F_coder_b3.keep Kq4 nin0
  replace O := O.keep Kq4 all0
  replace K := K.trans Kq4 all0
  replace Zn := Nat.le_trans Zn Kq4.1
  have V_t_4 := Fq4_0
  refine Go.st st4 ?_
  show Go p.tables e below PP (T4.setTop (mkF m 21 #[.val (.int p1)] [(.ref t_4), (.ref b3), (.ref b3)]))
  refine Go.st (fun t k => XS.iconst X4.here hx rfl (hb hby d23_21) k) ?_
  show Go p.tables e below PP (T4.setTop (mkF m 22 #[.val (.int p1)] [(.int (0 : Int32)), (.ref t_4), (.ref b3), (.ref b3)]))
  obtain ⟨v5, T5, L5, X5, hQ5, st5⟩ := callIn X4 hx hZ (y := (⟨"java/lang/String", "<init>", "([BB)V"⟩ : MethodName)) (a := b3) (argsL := [(.ref t_4), (.int (0 : Int32))]) (rest := [(.ref b3)]) rfl hown (hw _ (List.mem_of_getElem? (i := 174) rfl)) (hw _ (List.mem_of_getElem? (i := 175) rfl)) (hw _ (List.mem_of_getElem? (i := 7) rfl)) (hw _ (List.mem_of_getElem? (i := 176) rfl)) (by decide) (rm26 l Z a0 hw [] b3 t_4 h4 n0 Zn E_b3 F_value_b3 F_coder_b3 g_b3) e4 1 (by decide) (by decide) (by decide) (by decide) (g := (mkF m 22 #[.val (.int p1)] [(.int (0 : Int32)), (.ref t_4), (.ref b3), (.ref b3)])) rfl (by rw [hml]; rfl) (lenOf pd_7 rfl) rfl (by show 2 * 0 + _ ≤ _; exact Nat.le_of_eq rfl) (hb hby d23_22)
  obtain ⟨h5, e5⟩ : ∃ z, T5.heap = z := ⟨_, rfl⟩
  rw [e5] at hQ5
  obtain ⟨rfl, Nq5, Kq5, Fq5_0, Fq5_1⟩ := hQ5
  have N5 := Fr.app N4 Nq5
  replace E_b3 := E_b3.keep Kq5
  clear F_value_b3
  clear F_coder_b3
  replace V_t_4 := V_t_4.keep Kq5 (ninS (Ne.symm ne_b3_t_4) nin0)
  replace O := O.keep Kq5 (allS g_b3 all0)
  replace K := K.trans Kq5 (allS (Or.inr sz_b3) all0)
  replace Zn := Nat.le_trans Zn Kq5.1
  have F_value_b3 := Fq5_0
  have F_coder_b3 := Fq5_1
  refine Go.st st5 ?_
  show Go p.tables e below PP (T5.setTop (mkF m 25 #[.val (.int p1)] [(.ref b3)]))
  rw [hPP]
  refine endR X5 hx hlk hret rfl rfl (hb hby d23_25) ?_ (by decide) (by decide)
  show Q23 Z p1 zc h0 n0 (some (.ref b3)) T5.heap _
  rw [e5]
  exact ⟨b3, t_4, rfl, N5, K, sz_b3, sz_t_4, E_b3, F_coder_b3, F_value_b3, V_t_4⟩
theorem d11_0 : decode jdk_22_method_1_code 0 = .ok (.aload_n 0, 1) := by decide +kernel
theorem d11_1 : decode jdk_22_method_1_code 1 = .ok (.invokespecial 1, 3) := by decide +kernel
theorem d11_4 : decode jdk_22_method_1_code 4 = .ok (.return_, 1) := by decide +kernel
theorem pn_rm11 : plainName "java/util/AbstractCollection" = true := by first | (simp [plainName, overriddenIn]; done) | decide +kernel
theorem ef_rm11 (m : MethodId) (a1 : Addr) : entryFrame m #[(.ref a1)] 1 = mkF m 0 #[.val (.ref a1)] [] := by first | (simp [entryFrame, mkF, argsToLocals, Value.category]; done) | rfl
def Q11 (Z : State) (a1 : Addr) (h0 : Heap) (n0 : Nat) (v : Option Value) (h : Heap) (L : List Loc) : Prop := v = none ∧ L = [] ∧ h = h0
set_option maxRecDepth 65536 in
set_option maxHeartbeats 40000000 in
theorem rm11 (l : Launch) (Z : State) (a0 : Array Value) (hw : ∀ d ∈ tables_1, d.before a0 Z = true) (ws : List Jvm.Cond) (a1 : Addr) (h0 : Heap) (n0 : Nat) (Z0 : n0 ≤ h0.size) :
    Con l Z (⟨"java/util/AbstractCollection", "<init>", "()V"⟩ : MethodName) jdk_22_method_1_code 1 none ws ({ frames := 1, cells := 0, slots := 0, locals := 12 } : Room) #[(.ref a1)] h0 (Q11 Z a1 h0 n0) := by
  refine Con.of (plainFor_of_name pn_rm11) ?_
  intro p e s m below meth c s₁ hZ e0 X0 hx hby hml hown hnm hret hlk
  replace hml : c.maxLocals = 1 := hml
  have hown : s.vm.findClass "java/util/AbstractCollection" = some m.cls := hown
  have N0 : Fr n0 [] := Fr.nil n0
  obtain ⟨PP, hPP⟩ : ∃ P, P = Fine s below (Q11 Z a1 h0 n0) ({ frames := 1, cells := 0, slots := 0, locals := 12 } : Room).cells ({ frames := 1, cells := 0, slots := 0, locals := 12 } : Room).slots := ⟨_, rfl⟩
  rw [← hPP]
  refine Go.cast (ef_rm11 m a1) ?_
  have Zn : n0 ≤ h0.size := Z0
  show Go p.tables e below PP (s₁.setTop (mkF m 0 #[.val (.ref a1)] []))
  refine Go.st (fun t k => XS.aloadN X0.here hx rfl (hb hby d11_0) rfl rfl k) ?_
  show Go p.tables e below PP (s₁.setTop (mkF m 1 #[.val (.ref a1)] [(.ref a1)]))
  obtain ⟨T1, X1, e1, st1⟩ := initO X0 hx hZ hown (hw _ (List.mem_of_getElem? (i := 63) rfl)) (hw _ (List.mem_of_getElem? (i := 17) rfl)) (hw _ (List.mem_of_getElem? (i := 18) rfl)) e0 (g := (mkF m 1 #[.val (.ref a1)] [(.ref a1)])) rfl (by rw [hml]; rfl) rfl (hb hby d11_1) (by decide) (W := 0) (by show 2 * 0 + _ ≤ _; exact Nat.le_of_eq rfl) (by decide)
  refine Go.st st1 ?_
  show Go p.tables e below PP (T1.setTop (mkF m 4 #[.val (.ref a1)] []))
  rw [hPP]
  refine endV X1 hx hlk hret (hb hby d11_4) ?_ (by decide) (by decide)
  show Q11 Z a1 h0 n0 none T1.heap _
  rw [e1]
  exact ⟨rfl, rfl, rfl⟩
theorem d16_0 : decode jdk_71_method_1_code 0 = .ok (.aload_n 0, 1) := by decide +kernel
theorem d16_1 : decode jdk_71_method_1_code 1 = .ok (.invokespecial 1, 3) := by decide +kernel
theorem d16_4 : decode jdk_71_method_1_code 4 = .ok (.return_, 1) := by decide +kernel
theorem pn_rm16 : plainName "java/util/AbstractMap" = true := by first | (simp [plainName, overriddenIn]; done) | decide +kernel
theorem ef_rm16 (m : MethodId) (a1 : Addr) : entryFrame m #[(.ref a1)] 1 = mkF m 0 #[.val (.ref a1)] [] := by first | (simp [entryFrame, mkF, argsToLocals, Value.category]; done) | rfl
def Q16 (Z : State) (a1 : Addr) (h0 : Heap) (n0 : Nat) (v : Option Value) (h : Heap) (L : List Loc) : Prop := v = none ∧ L = [] ∧ h = h0
set_option maxRecDepth 65536 in
set_option maxHeartbeats 40000000 in
theorem rm16 (l : Launch) (Z : State) (a0 : Array Value) (hw : ∀ d ∈ tables_1, d.before a0 Z = true) (ws : List Jvm.Cond) (a1 : Addr) (h0 : Heap) (n0 : Nat) (Z0 : n0 ≤ h0.size) :
    Con l Z (⟨"java/util/AbstractMap", "<init>", "()V"⟩ : MethodName) jdk_71_method_1_code 1 none ws ({ frames := 1, cells := 0, slots := 0, locals := 12 } : Room) #[(.ref a1)] h0 (Q16 Z a1 h0 n0) := by
  refine Con.of (plainFor_of_name pn_rm16) ?_
  intro p e s m below meth c s₁ hZ e0 X0 hx hby hml hown hnm hret hlk
  replace hml : c.maxLocals = 1 := hml
  have hown : s.vm.findClass "java/util/AbstractMap" = some m.cls := hown
  have N0 : Fr n0 [] := Fr.nil n0
  obtain ⟨PP, hPP⟩ : ∃ P, P = Fine s below (Q16 Z a1 h0 n0) ({ frames := 1, cells := 0, slots := 0, locals := 12 } : Room).cells ({ frames := 1, cells := 0, slots := 0, locals := 12 } : Room).slots := ⟨_, rfl⟩
  rw [← hPP]
  refine Go.cast (ef_rm16 m a1) ?_
  have Zn : n0 ≤ h0.size := Z0
  show Go p.tables e below PP (s₁.setTop (mkF m 0 #[.val (.ref a1)] []))
  refine Go.st (fun t k => XS.aloadN X0.here hx rfl (hb hby d16_0) rfl rfl k) ?_
  show Go p.tables e below PP (s₁.setTop (mkF m 1 #[.val (.ref a1)] [(.ref a1)]))
  obtain ⟨T1, X1, e1, st1⟩ := initO X0 hx hZ hown (hw _ (List.mem_of_getElem? (i := 107) rfl)) (hw _ (List.mem_of_getElem? (i := 17) rfl)) (hw _ (List.mem_of_getElem? (i := 18) rfl)) e0 (g := (mkF m 1 #[.val (.ref a1)] [(.ref a1)])) rfl (by rw [hml]; rfl) rfl (hb hby d16_1) (by decide) (W := 0) (by show 2 * 0 + _ ≤ _; exact Nat.le_of_eq rfl) (by decide)
  refine Go.st st1 ?_
  show Go p.tables e below PP (T1.setTop (mkF m 4 #[.val (.ref a1)] []))
  rw [hPP]
  refine endV X1 hx hlk hret (hb hby d16_4) ?_ (by decide) (by decide)
  show Q16 Z a1 h0 n0 none T1.heap _
  rw [e1]
  exact ⟨rfl, rfl, rfl⟩
theorem d10_0 : decode jdk_39_method_1_code 0 = .ok (.aload_n 0, 1) := by decide +kernel
theorem d10_1 : decode jdk_39_method_1_code 1 = .ok (.invokespecial 1, 3) := by decide +kernel
theorem d10_4 : decode jdk_39_method_1_code 4 = .ok (.aload_n 0, 1) := by decide +kernel
theorem d10_5 : decode jdk_39_method_1_code 5 = .ok (.iconst 0, 1) := by decide +kernel
theorem d10_6 : decode jdk_39_method_1_code 6 = .ok (.putfield 7, 3) := by decide +kernel
theorem d10_9 : decode jdk_39_method_1_code 9 = .ok (.return_, 1) := by decide +kernel
theorem pn_rm10 : plainName "java/util/AbstractList" = true := by first | (simp [plainName, overriddenIn]; done) | decide +kernel
theorem ef_rm10 (m : MethodId) (a1 : Addr) : entryFrame m #[(.ref a1)] 1 = mkF m 0 #[.val (.ref a1)] [] := by first | (simp [entryFrame, mkF, argsToLocals, Value.category]; done) | rfl
def Q10 (Z : State) (a1 : Addr) (h0 : Heap) (n0 : Nat) (v : Option Value) (h : Heap) (L : List Loc) : Prop := v = none ∧ Fr n0 L ∧ Keep h0 h [a1] ∧ Fld Z h a1 "java/util/AbstractList" "modCount" "I" (.int (0 : Int32)) ∧ Fld Z h a1 "java/util/ArrayList" "elementData" "[Ljava/lang/Object;" .null ∧ Fld Z h a1 "java/util/ArrayList" "size" "I" (.int (0 : Int32))
theorem pd_8 : parseMethodDescriptor "()V" = some ⟨[], none⟩ := by decide +kernel
set_option maxRecDepth 65536 in
set_option maxHeartbeats 40000000 in
theorem rm10 (l : Launch) (Z : State) (a0 : Array Value) (hw : ∀ d ∈ tables_1, d.before a0 Z = true) (ws : List Jvm.Cond) (a1 : Addr) (h0 : Heap) (n0 : Nat) (Z0 : n0 ≤ h0.size) (F_modCount_a1 : Fld Z h0 a1 "java/util/AbstractList" "modCount" "I" (.int (0 : Int32))) (F_elementData_a1 : Fld Z h0 a1 "java/util/ArrayList" "elementData" "[Ljava/lang/Object;" .null) (F_size_a1 : Fld Z h0 a1 "java/util/ArrayList" "size" "I" (.int (0 : Int32))) (E_a1 : Exa Z h0 a1 "java/util/ArrayList") (g_a1 : n0 ≤ a1) :
    Con l Z (⟨"java/util/AbstractList", "<init>", "()V"⟩ : MethodName) jdk_39_method_1_code 1 none ws ({ frames := 2, cells := 0, slots := 0, locals := 24 } : Room) #[(.ref a1)] h0 (Q10 Z a1 h0 n0) := by
  refine Con.of (plainFor_of_name pn_rm10) ?_
  intro p e s m below meth c s₁ hZ e0 X0 hx hby hml hown hnm hret hlk
  replace hml : c.maxLocals = 1 := hml
  have hown : s.vm.findClass "java/util/AbstractList" = some m.cls := hown
  have N0 : Fr n0 [] := Fr.nil n0
  obtain ⟨PP, hPP⟩ : ∃ P, P = Fine s below (Q10 Z a1 h0 n0) ({ frames := 2, cells := 0, slots := 0, locals := 24 } : Room).cells ({ frames := 2, cells := 0, slots := 0, locals := 24 } : Room).slots := ⟨_, rfl⟩
  rw [← hPP]
  refine Go.cast (ef_rm10 m a1) ?_
  have K : Keep h0 h0 [a1] := Keep.refl h0 _
  have Zn : n0 ≤ h0.size := Z0
  show Go p.tables e below PP (s₁.setTop (mkF m 0 #[.val (.ref a1)] []))
  refine Go.st (fun t k => XS.aloadN X0.here hx rfl (hb hby d10_0) rfl rfl k) ?_
  show Go p.tables e below PP (s₁.setTop (mkF m 1 #[.val (.ref a1)] [(.ref a1)]))
  obtain ⟨v1, T1, L1, X1, hQ1, st1⟩ := callIn X0 hx hZ (y := (⟨"java/util/AbstractCollection", "<init>", "()V"⟩ : MethodName)) (a := a1) (argsL := []) (rest := []) rfl hown (hw _ (List.mem_of_getElem? (i := 57) rfl)) (hw _ (List.mem_of_getElem? (i := 58) rfl)) (hw _ (List.mem_of_getElem? (i := 61) rfl)) (hw _ (List.mem_of_getElem? (i := 62) rfl)) (by decide) (rm11 l Z a0 hw [] a1 h0 n0 Zn) e0 0 (by decide) (by decide) (by decide) (by decide) (g := (mkF m 1 #[.val (.ref a1)] [(.ref a1)])) rfl (by rw [hml]; rfl) (lenOf pd_8 rfl) rfl (by show 2 * 0 + _ ≤ _; exact Nat.le_of_eq rfl) (hb hby d10_1)
  obtain ⟨rfl, rfl, e1⟩ := hQ1
  rw [List.append_nil] at X1
  refine Go.st st1 ?_
  show Go p.tables e below PP (T1.setTop (mkF m 4 #[.val (.ref a1)] []))
  refine Go.st (fun t k => XS.aloadN X1.here hx rfl (hb hby d10_4) rfl rfl k) ?_
  show Go p.tables e below PP (T1.setTop (mkF m 5 #[.val (.ref a1)] [(.ref a1)]))
  refine Go.st (fun t k => XS.iconst X1.here hx rfl (hb hby d10_5) k) ?_
  show Go p.tables e below PP (T1.setTop (mkF m 6 #[.val (.ref a1)] [(.int (0 : Int32)), (.ref a1)]))
  obtain ⟨T2, h2, X2, e2, W2, st2⟩ := putF X1 hx hZ hown (host := "") (Or.inl (hw _ (List.mem_of_getElem? (i := 64) rfl))) Via.refl e1 F_modCount_a1 E_a1 (Or.inl (hw _ (List.mem_of_getElem? (i := 65) rfl))) (hw _ (List.mem_of_getElem? (i := 46) rfl)) (ty := .int) (by decide) rfl rfl (g := (mkF m 6 #[.val (.ref a1)] [(.int (0 : Int32)), (.ref a1)])) rfl rfl (hb hby d10_6)
  refine Go.st st2 ?_
  have N2 := Fr.snoc X2 N0 g_a1
  replace F_elementData_a1 := F_elementData_a1.other W2 (Or.inr (slot_ne (a0 := a0) (Or.inl (hw _ (List.mem_of_getElem? (i := 68) rfl))) (Or.inl (hw _ (List.mem_of_getElem? (i := 65) rfl))) (by decide) (t := (.array (.object "java/lang/Object"))) (t' := .int) (by decide) (by decide)))
  replace F_size_a1 := F_size_a1.other W2 (Or.inr (slot_ne (a0 := a0) (Or.inl (hw _ (List.mem_of_getElem? (i := 162) rfl))) (Or.inl (hw _ (List.mem_of_getElem? (i := 65) rfl))) (by decide) (t := .int) (t' := .int) (by decide) (by decide)))
  replace E_a1 := E_a1.wr W2
  replace K := K.wr W2 (Or.inl (List.mem_of_getElem? (i := 0) rfl))
  replace Zn : n0 ≤ h2.size := by rw [W2.size]; exact Zn
  replace F_modCount_a1 := F_modCount_a1.same W2
  show Go p.tables e below PP (T2.setTop (mkF m 9 #[.val (.ref a1)] []))
  rw [hPP]
  refine endV X2 hx hlk hret (hb hby d10_9) ?_ (by decide) (by decide)
  show Q10 Z a1 h0 n0 none T2.heap _
  rw [e2]
  exact ⟨rfl, N2, K, F_modCount_a1, F_elementData_a1, F_size_a1⟩
theorem d9_0 : decode jdk_38_method_2_code 0 = .ok (.aload_n 0, 1) := by decide +kernel
theorem d9_1 : decode jdk_38_method_2_code 1 = .ok (.invokespecial 1, 3) := by decide +kernel
theorem d9_4 : decode jdk_38_method_2_code 4 = .ok (.aload_n 0, 1) := by decide +kernel
theorem d9_5 : decode jdk_38_method_2_code 5 = .ok (.getstatic 39, 3) := by decide +kernel
theorem d9_8 : decode jdk_38_method_2_code 8 = .ok (.putfield 9, 3) := by decide +kernel
theorem d9_11 : decode jdk_38_method_2_code 11 = .ok (.return_, 1) := by decide +kernel
theorem pn_rm9 : plainName "java/util/ArrayList" = true := by first | (simp [plainName, overriddenIn]; done) | decide +kernel
theorem ef_rm9 (m : MethodId) (a1 : Addr) : entryFrame m #[(.ref a1)] 1 = mkF m 0 #[.val (.ref a1)] [] := by first | (simp [entryFrame, mkF, argsToLocals, Value.category]; done) | rfl
def Q9 (Z : State) (a1 : Addr) (ae : Addr) (h0 : Heap) (n0 : Nat) (v : Option Value) (h : Heap) (L : List Loc) : Prop := v = none ∧ Fr n0 L ∧ Keep h0 h [a1] ∧ Fld Z h a1 "java/util/ArrayList" "size" "I" (.int (0 : Int32))
set_option maxRecDepth 65536 in
set_option maxHeartbeats 40000000 in
theorem rm9 (l : Launch) (Z : State) (a0 : Array Value) (hw : ∀ d ∈ tables_1, d.before a0 Z = true) (ws : List Jvm.Cond) (a1 : Addr) (ae : Addr) (h0 : Heap) (n0 : Nat) (Z0 : n0 ≤ h0.size) (F_modCount_a1 : Fld Z h0 a1 "java/util/AbstractList" "modCount" "I" (.int (0 : Int32))) (F_elementData_a1 : Fld Z h0 a1 "java/util/ArrayList" "elementData" "[Ljava/lang/Object;" .null) (F_size_a1 : Fld Z h0 a1 "java/util/ArrayList" "size" "I" (.int (0 : Int32))) (E_a1 : Exa Z h0 a1 "java/util/ArrayList") (g_a1 : n0 ≤ a1) (SE : Sta Z Z.heap "java/util/ArrayList" "DEFAULTCAPACITY_EMPTY_ELEMENTDATA" "[Ljava/lang/Object;" (.ref ae)) (O : Old Z n0 h0) :
    Con l Z (⟨"java/util/ArrayList", "<init>", "()V"⟩ : MethodName) jdk_38_method_2_code 1 none ws ({ frames := 3, cells := 0, slots := 0, locals := 36 } : Room) #[(.ref a1)] h0 (Q9 Z a1 ae h0 n0) := by
  refine Con.of (plainFor_of_name pn_rm9) ?_
  intro p e s m below meth c s₁ hZ e0 X0 hx hby hml hown hnm hret hlk
  replace hml : c.maxLocals = 1 := hml
  have hown : s.vm.findClass "java/util/ArrayList" = some m.cls := hown
  have N0 : Fr n0 [] := Fr.nil n0
  obtain ⟨PP, hPP⟩ : ∃ P, P = Fine s below (Q9 Z a1 ae h0 n0) ({ frames := 3, cells := 0, slots := 0, locals := 36 } : Room).cells ({ frames := 3, cells := 0, slots := 0, locals := 36 } : Room).slots := ⟨_, rfl⟩
  rw [← hPP]
  refine Go.cast (ef_rm9 m a1) ?_
  have K : Keep h0 h0 [a1] := Keep.refl h0 _
  have Zn : n0 ≤ h0.size := Z0
  show Go p.tables e below PP (s₁.setTop (mkF m 0 #[.val (.ref a1)] []))
  refine Go.st (fun t k => XS.aloadN X0.here hx rfl (hb hby d9_0) rfl rfl k) ?_
  show Go p.tables e below PP (s₁.setTop (mkF m 1 #[.val (.ref a1)] [(.ref a1)]))
  obtain ⟨v1, T1, L1, X1, hQ1, st1⟩ := callIn X0 hx hZ (y := (⟨"java/util/AbstractList", "<init>", "()V"⟩ : MethodName)) (a := a1) (argsL := []) (rest := []) rfl hown (hw _ (List.mem_of_getElem? (i := 51) rfl)) (hw _ (List.mem_of_getElem? (i := 52) rfl)) (hw _ (List.mem_of_getElem? (i := 55) rfl)) (hw _ (List.mem_of_getElem? (i := 56) rfl)) (by decide) (rm10 l Z a0 hw [] a1 h0 n0 Zn F_modCount_a1 F_elementData_a1 F_size_a1 E_a1 g_a1) e0 0 (by decide) (by decide) (by decide) (by decide) (g := (mkF m 1 #[.val (.ref a1)] [(.ref a1)])) rfl (by rw [hml]; rfl) (lenOf pd_8 rfl) rfl (by show 2 * 0 + _ ≤ _; exact Nat.le_of_eq rfl) (hb hby d9_1)
  obtain ⟨h1, e1⟩ : ∃ z, T1.heap = z := ⟨_, rfl⟩
  rw [e1] at hQ1
  obtain ⟨rfl, Nq1, Kq1, Fq1_0, Fq1_1, Fq1_2⟩ := hQ1
  have N1 := Fr.app N0 Nq1
  clear F_modCount_a1
  clear F_elementData_a1
  clear F_size_a1
  replace E_a1 := E_a1.keep Kq1
  replace O := O.keep Kq1 (allS g_a1 all0)
  replace K := K.trans Kq1 (allS (Or.inl (List.mem_of_getElem? (i := 0) rfl)) all0)
  replace Zn := Nat.le_trans Zn Kq1.1
  have F_modCount_a1 := Fq1_0
  have F_elementData_a1 := Fq1_1
  have F_size_a1 := Fq1_2
  refine Go.st st1 ?_
  show Go p.tables e below PP (T1.setTop (mkF m 4 #[.val (.ref a1)] []))
  refine Go.st (fun t k => XS.aloadN X1.here hx rfl (hb hby d9_4) rfl rfl k) ?_
  show Go p.tables e below PP (T1.setTop (mkF m 5 #[.val (.ref a1)] [(.ref a1)]))
  obtain ⟨T2, X2, e2, st2⟩ := getS2 X1 hx hZ hown (host := "") (Or.inl (hw _ (List.mem_of_getElem? (i := 66) rfl))) Via.refl e1 (SE.ext O.2) (g := (mkF m 5 #[.val (.ref a1)] [(.ref a1)])) rfl (hb hby d9_5)
  refine Go.st st2 ?_
  show Go p.tables e below PP (T2.setTop (mkF m 8 #[.val (.ref a1)] [(.ref ae), (.ref a1)]))
  obtain ⟨T3, h3, X3, e3, W3, st3⟩ := putF X2 hx hZ hown (host := "") (Or.inl (hw _ (List.mem_of_getElem? (i := 67) rfl))) Via.refl e2 F_elementData_a1 E_a1 (Or.inl (hw _ (List.mem_of_getElem? (i := 68) rfl))) (hw _ (List.mem_of_getElem? (i := 46) rfl)) (ty := (.array (.object "java/lang/Object"))) (by decide) rfl rfl (g := (mkF m 8 #[.val (.ref a1)] [(.ref ae), (.ref a1)])) rfl rfl (hb hby d9_8)
  refine Go.st st3 ?_
  have N3 := Fr.snoc X3 N1 g_a1
  replace E_a1 := E_a1.wr W3
  replace F_modCount_a1 := F_modCount_a1.other W3 (Or.inr (slot_ne (a0 := a0) (Or.inl (hw _ (List.mem_of_getElem? (i := 65) rfl))) (Or.inl (hw _ (List.mem_of_getElem? (i := 68) rfl))) (by decide) (t := .int) (t' := (.array (.object "java/lang/Object"))) (by decide) (by decide)))
  replace F_size_a1 := F_size_a1.other W3 (Or.inr (slot_ne (a0 := a0) (Or.inl (hw _ (List.mem_of_getElem? (i := 162) rfl))) (Or.inl (hw _ (List.mem_of_getElem? (i := 68) rfl))) (by decide) (t := .int) (t' := (.array (.object "java/lang/Object"))) (by decide) (by decide)))
  replace O := O.wr W3 g_a1
  replace K := K.wr W3 (Or.inl (List.mem_of_getElem? (i := 0) rfl))
  replace Zn : n0 ≤ h3.size := by rw [W3.size]; exact Zn
  replace F_elementData_a1 := F_elementData_a1.same W3
  show Go p.tables e below PP (T3.setTop (mkF m 11 #[.val (.ref a1)] []))
  rw [hPP]
  refine endV X3 hx hlk hret (hb hby d9_11) ?_ (by decide) (by decide)
  show Q9 Z a1 ae h0 n0 none T3.heap _
  rw [e3]
  exact ⟨rfl, N3, K, F_size_a1⟩
theorem d14_0 : decode jdk_92_method_1_code 0 = .ok (.iload_n 0, 1) := by decide +kernel
theorem d14_1 : decode jdk_92_method_1_code 1 = .ok (.bipush 6, 2) := by decide +kernel
theorem d14_3 : decode jdk_92_method_1_code 3 = .ok (.ishr, 1) := by decide +kernel
theorem d14_4 : decode jdk_92_method_1_code 4 = .ok (.ireturn, 1) := by decide +kernel
theorem pn_rm14 : plainName "java/util/BitSet" = true := by first | (simp [plainName, overriddenIn]; done) | decide +kernel
theorem ef_rm14 (m : MethodId) (p1 : Int32) : entryFrame m #[(.int p1)] 1 = mkF m 0 #[.val (.int p1)] [] := by first | (simp [entryFrame, mkF, argsToLocals, Value.category]; done) | rfl
def Q14 (Z : State) (p1 : Int32) (h0 : Heap) (n0 : Nat) (v : Option Value) (h : Heap) (L : List Loc) : Prop := v = some (.int (p1 >>> ((6 : Int32) &&& 31))) ∧ L = [] ∧ h = h0
set_option maxRecDepth 65536 in
set_option maxHeartbeats 40000000 in
theorem rm14 (l : Launch) (Z : State) (a0 : Array Value) (hw : ∀ d ∈ tables_1, d.before a0 Z = true) (ws : List Jvm.Cond) (p1 : Int32) (h0 : Heap) (n0 : Nat) (Z0 : n0 ≤ h0.size) :
    Con l Z (⟨"java/util/BitSet", "wordIndex", "(I)I"⟩ : MethodName) jdk_92_method_1_code 1 (some .int) ws ({ frames := 0, cells := 0, slots := 0, locals := 0 } : Room) #[(.int p1)] h0 (Q14 Z p1 h0 n0) := by
  refine Con.of (plainFor_of_name pn_rm14) ?_
  intro p e s m below meth c s₁ hZ e0 X0 hx hby hml hown hnm hret hlk
  replace hml : c.maxLocals = 1 := hml
  have hown : s.vm.findClass "java/util/BitSet" = some m.cls := hown
  have N0 : Fr n0 [] := Fr.nil n0
  obtain ⟨PP, hPP⟩ : ∃ P, P = Fine s below (Q14 Z p1 h0 n0) ({ frames := 0, cells := 0, slots := 0, locals := 0 } : Room).cells ({ frames := 0, cells := 0, slots := 0, locals := 0 } : Room).slots := ⟨_, rfl⟩
  rw [← hPP]
  refine Go.cast (ef_rm14 m p1) ?_
  have Zn : n0 ≤ h0.size := Z0
  show Go p.tables e below PP (s₁.setTop (mkF m 0 #[.val (.int p1)] []))
  refine Go.st (fun t k => XS.iloadN X0.here hx rfl (hb hby d14_0) rfl k) ?_
  show Go p.tables e below PP (s₁.setTop (mkF m 1 #[.val (.int p1)] [(.int p1)]))
  refine Go.st (fun t k => XS.bipush X0.here hx rfl (hb hby d14_1) k) ?_
  show Go p.tables e below PP (s₁.setTop (mkF m 3 #[.val (.int p1)] [(.int (6 : Int32)), (.int p1)]))
  refine Go.st (fun t k => XS.ishr X0.here hx rfl (hb hby d14_3) rfl k) ?_
  show Go p.tables e below PP (s₁.setTop (mkF m 4 #[.val (.int p1)] [(.int (p1 >>> ((6 : Int32) &&& 31)))]))
  rw [hPP]
  refine endI X0 hx hlk hret (hb hby d14_4) ?_ (by decide) (by decide)
  show Q14 Z p1 h0 n0 (some (.int (p1 >>> ((6 : Int32) &&& 31)))) s₁.heap _
  rw [e0]
  exact ⟨rfl, rfl, rfl⟩
theorem d13_0 : decode jdk_92_method_6_code 0 = .ok (.aload_n 0, 1) := by decide +kernel
theorem d13_1 : decode jdk_92_method_6_code 1 = .ok (.iload_n 1, 1) := by decide +kernel
theorem d13_2 : decode jdk_92_method_6_code 2 = .ok (.iconst 1, 1) := by decide +kernel
theorem d13_3 : decode jdk_92_method_6_code 3 = .ok (.isub, 1) := by decide +kernel
theorem d13_4 : decode jdk_92_method_6_code 4 = .ok (.invokestatic 52, 3) := by decide +kernel
theorem d13_7 : decode jdk_92_method_6_code 7 = .ok (.iconst 1, 1) := by decide +kernel
theorem d13_8 : decode jdk_92_method_6_code 8 = .ok (.iadd, 1) := by decide +kernel
theorem d13_9 : decode jdk_92_method_6_code 9 = .ok (.newarray .long, 2) := by decide +kernel
theorem d13_11 : decode jdk_92_method_6_code 11 = .ok (.putfield 11, 3) := by decide +kernel
theorem d13_14 : decode jdk_92_method_6_code 14 = .ok (.return_, 1) := by decide +kernel
theorem pn_rm13 : plainName "java/util/BitSet" = true := by first | (simp [plainName, overriddenIn]; done) | decide +kernel
theorem ef_rm13 (m : MethodId) (a1 : Addr) : entryFrame m #[(.ref a1), (.int (64 : Int32))] 2 = mkF m 0 #[.val (.ref a1), .val (.int (64 : Int32))] [] := by first | (simp [entryFrame, mkF, argsToLocals, Value.category]; done) | rfl
def Q13 (Z : State) (a1 : Addr) (h0 : Heap) (n0 : Nat) (v : Option Value) (h : Heap) (L : List Loc) : Prop := v = none ∧ Fr n0 L ∧ Keep h0 h [a1] ∧ Fld Z h a1 "java/util/BitSet" "sizeIsSticky" "Z" (.int (0 : Int32))
theorem pd_9 : parseMethodDescriptor "(I)I" = some ⟨[.int], some .int⟩ := by decide +kernel
set_option maxRecDepth 65536 in
set_option maxHeartbeats 40000000 in
theorem rm13 (l : Launch) (Z : State) (a0 : Array Value) (hw : ∀ d ∈ tables_1, d.before a0 Z = true) (ws : List Jvm.Cond) (a1 : Addr) (h0 : Heap) (n0 : Nat) (Z0 : n0 ≤ h0.size) (F_words_a1 : Fld Z h0 a1 "java/util/BitSet" "words" "[J" .null) (F_sizeIsSticky_a1 : Fld Z h0 a1 "java/util/BitSet" "sizeIsSticky" "Z" (.int (0 : Int32))) (E_a1 : Exa Z h0 a1 "java/util/BitSet") (g_a1 : n0 ≤ a1) :
    Con l Z (⟨"java/util/BitSet", "initWords", "(I)V"⟩ : MethodName) jdk_92_method_6_code 2 none ws ({ frames := 1, cells := 1, slots := 1, locals := 13 } : Room) #[(.ref a1), (.int (64 : Int32))] h0 (Q13 Z a1 h0 n0) := by
  refine Con.of (plainFor_of_name pn_rm13) ?_
  intro p e s m below meth c s₁ hZ e0 X0 hx hby hml hown hnm hret hlk
  replace hml : c.maxLocals = 2 := hml
  have hown : s.vm.findClass "java/util/BitSet" = some m.cls := hown
  have N0 : Fr n0 [] := Fr.nil n0
  obtain ⟨PP, hPP⟩ : ∃ P, P = Fine s below (Q13 Z a1 h0 n0) ({ frames := 1, cells := 1, slots := 1, locals := 13 } : Room).cells ({ frames := 1, cells := 1, slots := 1, locals := 13 } : Room).slots := ⟨_, rfl⟩
  rw [← hPP]
  refine Go.cast (ef_rm13 m a1) ?_
  have K : Keep h0 h0 [a1] := Keep.refl h0 _
  have Zn : n0 ≤ h0.size := Z0
  show Go p.tables e below PP (s₁.setTop (mkF m 0 #[.val (.ref a1), .val (.int (64 : Int32))] []))
  refine Go.st (fun t k => XS.aloadN X0.here hx rfl (hb hby d13_0) rfl rfl k) ?_
  show Go p.tables e below PP (s₁.setTop (mkF m 1 #[.val (.ref a1), .val (.int (64 : Int32))] [(.ref a1)]))
  refine Go.st (fun t k => XS.iloadN X0.here hx rfl (hb hby d13_1) rfl k) ?_
  show Go p.tables e below PP (s₁.setTop (mkF m 2 #[.val (.ref a1), .val (.int (64 : Int32))] [(.int (64 : Int32)), (.ref a1)]))
  refine Go.st (fun t k => XS.iconst X0.here hx rfl (hb hby d13_2) k) ?_
  show Go p.tables e below PP (s₁.setTop (mkF m 3 #[.val (.ref a1), .val (.int (64 : Int32))] [(.int (1 : Int32)), (.int (64 : Int32)), (.ref a1)]))
  refine Go.st (fun t k => XS.isub X0.here hx rfl (hb hby d13_3) rfl k) ?_
  show Go p.tables e below PP (s₁.setTop (mkF m 4 #[.val (.ref a1), .val (.int (64 : Int32))] [(.int (63 : Int32)), (.ref a1)]))
  obtain ⟨v1, T1, L1, X1, hQ1, st1⟩ := callSt X0 hx hZ (y := (⟨"java/util/BitSet", "wordIndex", "(I)I"⟩ : MethodName)) (argsL := [(.int (63 : Int32))]) (rest := [(.ref a1)]) hown (hw _ (List.mem_of_getElem? (i := 87) rfl)) (hw _ (List.mem_of_getElem? (i := 88) rfl)) (hw _ (List.mem_of_getElem? (i := 73) rfl)) (hw _ (List.mem_of_getElem? (i := 89) rfl)) (by decide) (rm14 l Z a0 hw [] (63 : Int32) h0 n0 Zn) e0 1 (by decide) (by decide) (by decide) (by decide) (g := (mkF m 4 #[.val (.ref a1), .val (.int (64 : Int32))] [(.int (63 : Int32)), (.ref a1)])) rfl (by rw [hml]; rfl) (lenOf pd_9 rfl) rfl (by show 2 * 0 + _ ≤ _; exact Nat.le_of_eq rfl) (hb hby d13_4)
  obtain ⟨rfl, rfl, e1⟩ := hQ1
  rw [List.append_nil] at X1
  refine Go.st st1 ?_
  show Go p.tables e below PP (T1.setTop (mkF m 7 #[.val (.ref a1), .val (.int (64 : Int32))] [(.int ((63 : Int32) >>> ((6 : Int32) &&& 31))), (.ref a1)]))
  refine Go.st (fun t k => XS.iconst X1.here hx rfl (hb hby d13_7) k) ?_
  show Go p.tables e below PP (T1.setTop (mkF m 8 #[.val (.ref a1), .val (.int (64 : Int32))] [(.int (1 : Int32)), (.int ((63 : Int32) >>> ((6 : Int32) &&& 31))), (.ref a1)]))
  refine Go.st (fun t k => XS.iadd X1.here hx rfl (hb hby d13_8) rfl k) ?_
  have hone : (((63 : Int32) >>> ((6 : Int32) &&& 31)) + (1 : Int32)) = (1 : Int32) := by decide
  rw [hone]
  show Go p.tables e below PP (T1.setTop (mkF m 9 #[.val (.ref a1), .val (.int (64 : Int32))] [(.int (1 : Int32)), (.ref a1)]))
  obtain ⟨T2, h2, k2, X2, e2, E2, A2, st2⟩ := newP X1 hx hZ (hw _ (List.mem_of_getElem? (i := 90) rfl)) e1 (g := (mkF m 9 #[.val (.ref a1), .val (.int (64 : Int32))] [(.int (1 : Int32)), (.ref a1)])) rfl (hb hby d13_9) rfl (by decide) (cap := 1) (by decide) (by decide) (by decide) (by decide)
  obtain ⟨b2, gz2⟩ : ∃ z, z = h0.size := ⟨_, rfl⟩
  rw [← gz2] at A2 st2
  have ne_a1_b2 : a1 ≠ b2 := Nat.ne_of_lt (Nat.lt_of_lt_of_le F_words_a1.lt (Nat.le_of_eq gz2.symm))
  have g_b2 : n0 ≤ b2 := Nat.le_trans Zn (Nat.le_of_eq gz2.symm)
  have sz_b2 : h0.size ≤ b2 := Nat.le_trans K.1 (Nat.le_of_eq gz2.symm)
  refine Go.st st2 ?_
  replace F_words_a1 := F_words_a1.ext E2
  replace F_sizeIsSticky_a1 := F_sizeIsSticky_a1.ext E2
  replace E_a1 := E_a1.ext E2
  replace K := K.ext E2
  replace Zn := Nat.le_trans Zn E2.1
  have V_b2 : Afn Z h2 b2 .long (1 : Int32) (fun _ => (.long (0 : Int64))) := Afn.new A2 (by decide)
  show Go p.tables e below PP (T2.setTop (mkF m 11 #[.val (.ref a1), .val (.int (64 : Int32))] [(.ref b2), (.ref a1)]))
  obtain ⟨T3, h3, X3, e3, W3, st3⟩ := putF X2 hx hZ hown (host := "") (Or.inl (hw _ (List.mem_of_getElem? (i := 91) rfl))) Via.refl e2 F_words_a1 E_a1 (Or.inl (hw _ (List.mem_of_getElem? (i := 92) rfl))) (hw _ (List.mem_of_getElem? (i := 72) rfl)) (ty := (.array .long)) (by decide) rfl rfl (g := (mkF m 11 #[.val (.ref a1), .val (.int (64 : Int32))] [(.ref b2), (.ref a1)])) rfl rfl (hb hby d13_11)
  refine Go.st st3 ?_
  have N3 := Fr.snoc X3 N0 g_a1
  replace F_sizeIsSticky_a1 := F_sizeIsSticky_a1.other W3 (Or.inr (slot_ne (a0 := a0) (Or.inl (hw _ (List.mem_of_getElem? (i := 81) rfl))) (Or.inl (hw _ (List.mem_of_getElem? (i := 92) rfl))) (by decide) (t := .boolean) (t' := (.array .long)) (by decide) (by decide)))
  replace E_a1 := E_a1.wr W3
  replace V_b2 := V_b2.other W3 (Ne.symm ne_a1_b2)
  replace K := K.wr W3 (Or.inl (List.mem_of_getElem? (i := 0) rfl))
  replace Zn : n0 ≤ h3.size := by rw [W3.size]; exact Zn
  replace F_words_a1 := F_words_a1.same W3
  show Go p.tables e below PP (T3.setTop (mkF m 14 #[.val (.ref a1), .val (.int (64 : Int32))] []))
  rw [hPP]
  refine endV X3 hx hlk hret (hb hby d13_14) ?_ (by decide) (by decide)
  show Q13 Z a1 h0 n0 none T3.heap _
  rw [e3]
  exact ⟨rfl, N3, K, F_sizeIsSticky_a1⟩
theorem d12_0 : decode jdk_92_method_4_code 0 = .ok (.aload_n 0, 1) := by decide +kernel
theorem d12_1 : decode jdk_92_method_4_code 1 = .ok (.invokespecial 21, 3) := by decide +kernel
theorem d12_4 : decode jdk_92_method_4_code 4 = .ok (.aload_n 0, 1) := by decide +kernel
theorem d12_5 : decode jdk_92_method_4_code 5 = .ok (.iconst 0, 1) := by decide +kernel
theorem d12_6 : decode jdk_92_method_4_code 6 = .ok (.putfield 7, 3) := by decide +kernel
theorem d12_9 : decode jdk_92_method_4_code 9 = .ok (.aload_n 0, 1) := by decide +kernel
theorem d12_10 : decode jdk_92_method_4_code 10 = .ok (.iconst 0, 1) := by decide +kernel
theorem d12_11 : decode jdk_92_method_4_code 11 = .ok (.putfield 24, 3) := by decide +kernel
theorem d12_14 : decode jdk_92_method_4_code 14 = .ok (.aload_n 0, 1) := by decide +kernel
theorem d12_15 : decode jdk_92_method_4_code 15 = .ok (.bipush 64, 2) := by decide +kernel
theorem d12_17 : decode jdk_92_method_4_code 17 = .ok (.invokevirtual 27, 3) := by decide +kernel
theorem d12_20 : decode jdk_92_method_4_code 20 = .ok (.aload_n 0, 1) := by decide +kernel
theorem d12_21 : decode jdk_92_method_4_code 21 = .ok (.iconst 0, 1) := by decide +kernel
theorem d12_22 : decode jdk_92_method_4_code 22 = .ok (.putfield 24, 3) := by decide +kernel
theorem d12_25 : decode jdk_92_method_4_code 25 = .ok (.return_, 1) := by decide +kernel
theorem pn_rm12 : plainName "java/util/BitSet" = true := by first | (simp [plainName, overriddenIn]; done) | decide +kernel
theorem ef_rm12 (m : MethodId) (a1 : Addr) : entryFrame m #[(.ref a1)] 1 = mkF m 0 #[.val (.ref a1)] [] := by first | (simp [entryFrame, mkF, argsToLocals, Value.category]; done) | rfl
def Q12 (Z : State) (a1 : Addr) (h0 : Heap) (n0 : Nat) (v : Option Value) (h : Heap) (L : List Loc) : Prop := v = none ∧ Fr n0 L ∧ Keep h0 h [a1]
theorem pd_10 : parseMethodDescriptor "(I)V" = some ⟨[.int], none⟩ := by decide +kernel
set_option maxRecDepth 65536 in
set_option maxHeartbeats 40000000 in
theorem rm12 (l : Launch) (Z : State) (a0 : Array Value) (hw : ∀ d ∈ tables_1, d.before a0 Z = true) (ws : List Jvm.Cond) (a1 : Addr) (h0 : Heap) (n0 : Nat) (Z0 : n0 ≤ h0.size) (F_words_a1 : Fld Z h0 a1 "java/util/BitSet" "words" "[J" .null) (F_sizeIsSticky_a1 : Fld Z h0 a1 "java/util/BitSet" "sizeIsSticky" "Z" (.int (0 : Int32))) (F_wordsInUse_a1 : Fld Z h0 a1 "java/util/BitSet" "wordsInUse" "I" (.int (0 : Int32))) (E_a1 : Exa Z h0 a1 "java/util/BitSet") (g_a1 : n0 ≤ a1) :
    Con l Z (⟨"java/util/BitSet", "<init>", "()V"⟩ : MethodName) jdk_92_method_4_code 1 none ws ({ frames := 2, cells := 1, slots := 1, locals := 26 } : Room) #[(.ref a1)] h0 (Q12 Z a1 h0 n0) := by
  refine Con.of (plainFor_of_name pn_rm12) ?_
  intro p e s m below meth c s₁ hZ e0 X0 hx hby hml hown hnm hret hlk
  replace hml : c.maxLocals = 1 := hml
  have hown : s.vm.findClass "java/util/BitSet" = some m.cls := hown
  have N0 : Fr n0 [] := Fr.nil n0
  obtain ⟨PP, hPP⟩ : ∃ P, P = Fine s below (Q12 Z a1 h0 n0) ({ frames := 2, cells := 1, slots := 1, locals := 26 } : Room).cells ({ frames := 2, cells := 1, slots := 1, locals := 26 } : Room).slots := ⟨_, rfl⟩
  rw [← hPP]
  refine Go.cast (ef_rm12 m a1) ?_
  have K : Keep h0 h0 [a1] := Keep.refl h0 _
  have Zn : n0 ≤ h0.size := Z0
  show Go p.tables e below PP (s₁.setTop (mkF m 0 #[.val (.ref a1)] []))
  refine Go.st (fun t k => XS.aloadN X0.here hx rfl (hb hby d12_0) rfl rfl k) ?_
  show Go p.tables e below PP (s₁.setTop (mkF m 1 #[.val (.ref a1)] [(.ref a1)]))
  obtain ⟨T1, X1, e1, st1⟩ := initO X0 hx hZ hown (hw _ (List.mem_of_getElem? (i := 77) rfl)) (hw _ (List.mem_of_getElem? (i := 17) rfl)) (hw _ (List.mem_of_getElem? (i := 18) rfl)) e0 (g := (mkF m 1 #[.val (.ref a1)] [(.ref a1)])) rfl (by rw [hml]; rfl) rfl (hb hby d12_1) (by decide) (W := 0) (by show 2 * 0 + _ ≤ _; exact Nat.le_of_eq rfl) (by decide)
  refine Go.st st1 ?_
  show Go p.tables e below PP (T1.setTop (mkF m 4 #[.val (.ref a1)] []))
  refine Go.st (fun t k => XS.aloadN X1.here hx rfl (hb hby d12_4) rfl rfl k) ?_
  show Go p.tables e below PP (T1.setTop (mkF m 5 #[.val (.ref a1)] [(.ref a1)]))
  refine Go.st (fun t k => XS.iconst X1.here hx rfl (hb hby d12_5) k) ?_
  show Go p.tables e below PP (T1.setTop (mkF m 6 #[.val (.ref a1)] [(.int (0 : Int32)), (.ref a1)]))
  obtain ⟨T2, h2, X2, e2, W2, st2⟩ := putF X1 hx hZ hown (host := "") (Or.inl (hw _ (List.mem_of_getElem? (i := 78) rfl))) Via.refl e1 F_wordsInUse_a1 E_a1 (Or.inl (hw _ (List.mem_of_getElem? (i := 79) rfl))) (hw _ (List.mem_of_getElem? (i := 72) rfl)) (ty := .int) (by decide) rfl rfl (g := (mkF m 6 #[.val (.ref a1)] [(.int (0 : Int32)), (.ref a1)])) rfl rfl (hb hby d12_6)
  refine Go.st st2 ?_
  have N2 := Fr.snoc X2 N0 g_a1
  replace F_words_a1 := F_words_a1.other W2 (Or.inr (slot_ne (a0 := a0) (Or.inl (hw _ (List.mem_of_getElem? (i := 92) rfl))) (Or.inl (hw _ (List.mem_of_getElem? (i := 79) rfl))) (by decide) (t := (.array .long)) (t' := .int) (by decide) (by decide)))
  replace F_sizeIsSticky_a1 := F_sizeIsSticky_a1.other W2 (Or.inr (slot_ne (a0 := a0) (Or.inl (hw _ (List.mem_of_getElem? (i := 81) rfl))) (Or.inl (hw _ (List.mem_of_getElem? (i := 79) rfl))) (by decide) (t := .boolean) (t' := .int) (by decide) (by decide)))
  replace E_a1 := E_a1.wr W2
  replace K := K.wr W2 (Or.inl (List.mem_of_getElem? (i := 0) rfl))
  replace Zn : n0 ≤ h2.size := by rw [W2.size]; exact Zn
  replace F_wordsInUse_a1 := F_wordsInUse_a1.same W2
  show Go p.tables e below PP (T2.setTop (mkF m 9 #[.val (.ref a1)] []))
  refine Go.st (fun t k => XS.aloadN X2.here hx rfl (hb hby d12_9) rfl rfl k) ?_
  show Go p.tables e below PP (T2.setTop (mkF m 10 #[.val (.ref a1)] [(.ref a1)]))
  refine Go.st (fun t k => XS.iconst X2.here hx rfl (hb hby d12_10) k) ?_
  show Go p.tables e below PP (T2.setTop (mkF m 11 #[.val (.ref a1)] [(.int (0 : Int32)), (.ref a1)]))
  obtain ⟨T3, h3, X3, e3, W3, st3⟩ := putFN X2 hx hZ hown (hw _ (List.mem_of_getElem? (i := 80) rfl)) Via.refl e2 F_sizeIsSticky_a1 E_a1 (Or.inl (hw _ (List.mem_of_getElem? (i := 81) rfl))) (hw _ (List.mem_of_getElem? (i := 72) rfl)) (ty := .boolean) (v' := (.int (0 : Int32))) (by decide) rfl (by decide) (g := (mkF m 11 #[.val (.ref a1)] [(.int (0 : Int32)), (.ref a1)])) rfl rfl (hb hby d12_11)
  refine Go.st st3 ?_
  have N3 := Fr.snoc X3 N2 g_a1
  replace F_words_a1 := F_words_a1.other W3 (Or.inr (slot_ne (a0 := a0) (Or.inl (hw _ (List.mem_of_getElem? (i := 92) rfl))) (Or.inl (hw _ (List.mem_of_getElem? (i := 81) rfl))) (by decide) (t := (.array .long)) (t' := .boolean) (by decide) (by decide)))
  replace F_wordsInUse_a1 := F_wordsInUse_a1.other W3 (Or.inr (slot_ne (a0 := a0) (Or.inl (hw _ (List.mem_of_getElem? (i := 79) rfl))) (Or.inl (hw _ (List.mem_of_getElem? (i := 81) rfl))) (by decide) (t := .int) (t' := .boolean) (by decide) (by decide)))
  replace E_a1 := E_a1.wr W3
  replace K := K.wr W3 (Or.inl (List.mem_of_getElem? (i := 0) rfl))
  replace Zn : n0 ≤ h3.size := by rw [W3.size]; exact Zn
  replace F_sizeIsSticky_a1 := F_sizeIsSticky_a1.same W3
  show Go p.tables e below PP (T3.setTop (mkF m 14 #[.val (.ref a1)] []))
  refine Go.st (fun t k => XS.aloadN X3.here hx rfl (hb hby d12_14) rfl rfl k) ?_
  show Go p.tables e below PP (T3.setTop (mkF m 15 #[.val (.ref a1)] [(.ref a1)]))
  refine Go.st (fun t k => XS.bipush X3.here hx rfl (hb hby d12_15) k) ?_
  show Go p.tables e below PP (T3.setTop (mkF m 17 #[.val (.ref a1)] [(.int (64 : Int32)), (.ref a1)]))
  obtain ⟨v4, T4, L4, X4, hQ4, st4⟩ := callPr X3 hx hZ (y := (⟨"java/util/BitSet", "initWords", "(I)V"⟩ : MethodName)) (a := a1) (argsL := [(.int (64 : Int32))]) (rest := []) hown (hw _ (List.mem_of_getElem? (i := 82) rfl)) (hw _ (List.mem_of_getElem? (i := 83) rfl)) (hw _ (List.mem_of_getElem? (i := 85) rfl)) (hw _ (List.mem_of_getElem? (i := 84) rfl)) (hw _ (List.mem_of_getElem? (i := 73) rfl)) (hw _ (List.mem_of_getElem? (i := 86) rfl)) (by decide) E_a1 (rm13 l Z a0 hw [] a1 h3 n0 Zn F_words_a1 F_sizeIsSticky_a1 E_a1 g_a1) e3 0 (by decide) (by decide) (by decide) (by decide) (g := (mkF m 17 #[.val (.ref a1)] [(.int (64 : Int32)), (.ref a1)])) rfl (by rw [hml]; rfl) (lenOf pd_10 rfl) rfl (by show 2 * 0 + _ ≤ _; exact Nat.le_of_eq rfl) (hb hby d12_17)
  obtain ⟨h4, e4⟩ : ∃ z, T4.heap = z := ⟨_, rfl⟩
  rw [e4] at hQ4
  obtain ⟨rfl, Nq4, Kq4, Fq4_0⟩ := hQ4
  have N4 := Fr.app N3 Nq4
  clear F_words_a1
  clear F_sizeIsSticky_a1
  clear F_wordsInUse_a1
  replace E_a1 := E_a1.keep Kq4
  replace K := K.trans Kq4 (allS (Or.inl (List.mem_of_getElem? (i := 0) rfl)) all0)
  replace Zn := Nat.le_trans Zn Kq4.1
  have F_sizeIsSticky_a1 := Fq4_0
  refine Go.st st4 ?_
  show Go p.tables e below PP (T4.setTop (mkF m 20 #[.val (.ref a1)] []))
  refine Go.st (fun t k => XS.aloadN X4.here hx rfl (hb hby d12_20) rfl rfl k) ?_
  show Go p.tables e below PP (T4.setTop (mkF m 21 #[.val (.ref a1)] [(.ref a1)]))
  refine Go.st (fun t k => XS.iconst X4.here hx rfl (hb hby d12_21) k) ?_
  show Go p.tables e below PP (T4.setTop (mkF m 22 #[.val (.ref a1)] [(.int (0 : Int32)), (.ref a1)]))
  obtain ⟨T5, h5, X5, e5, W5, st5⟩ := putFN X4 hx hZ hown (hw _ (List.mem_of_getElem? (i := 80) rfl)) Via.refl e4 F_sizeIsSticky_a1 E_a1 (Or.inl (hw _ (List.mem_of_getElem? (i := 81) rfl))) (hw _ (List.mem_of_getElem? (i := 72) rfl)) (ty := .boolean) (v' := (.int (0 : Int32))) (by decide) rfl (by decide) (g := (mkF m 22 #[.val (.ref a1)] [(.int (0 : Int32)), (.ref a1)])) rfl rfl (hb hby d12_22)
  refine Go.st st5 ?_
  have N5 := Fr.snoc X5 N4 g_a1
  replace E_a1 := E_a1.wr W5
  replace K := K.wr W5 (Or.inl (List.mem_of_getElem? (i := 0) rfl))
  replace Zn : n0 ≤ h5.size := by rw [W5.size]; exact Zn
  replace F_sizeIsSticky_a1 := F_sizeIsSticky_a1.same W5
  show Go p.tables e below PP (T5.setTop (mkF m 25 #[.val (.ref a1)] []))
  rw [hPP]
  refine endV X5 hx hlk hret (hb hby d12_25) ?_ (by decide) (by decide)
  show Q12 Z a1 h0 n0 none T5.heap _
  rw [e5]
  exact ⟨rfl, N5, K⟩
theorem d15_0 : decode jdk_69_method_7_code 0 = .ok (.aload_n 0, 1) := by decide +kernel
theorem d15_1 : decode jdk_69_method_7_code 1 = .ok (.invokespecial 43, 3) := by decide +kernel
theorem d15_4 : decode jdk_69_method_7_code 4 = .ok (.aload_n 0, 1) := by decide +kernel
theorem d15_5 : decode jdk_69_method_7_code 5 = .ok (.ldc 92, 2) := by decide +kernel
theorem d15_7 : decode jdk_69_method_7_code 7 = .ok (.putfield 81, 3) := by decide +kernel
theorem d15_10 : decode jdk_69_method_7_code 10 = .ok (.return_, 1) := by decide +kernel
theorem pn_rm15 : plainName "java/util/HashMap" = true := by first | (simp [plainName, overriddenIn]; done) | decide +kernel
theorem ef_rm15 (m : MethodId) (a1 : Addr) : entryFrame m #[(.ref a1)] 1 = mkF m 0 #[.val (.ref a1)] [] := by first | (simp [entryFrame, mkF, argsToLocals, Value.category]; done) | rfl
def Q15 (Z : State) (a1 : Addr) (h0 : Heap) (n0 : Nat) (v : Option Value) (h : Heap) (L : List Loc) : Prop := v = none ∧ Fr n0 L ∧ Keep h0 h [a1]
set_option maxRecDepth 65536 in
set_option maxHeartbeats 40000000 in
theorem rm15 (l : Launch) (Z : State) (a0 : Array Value) (hw : ∀ d ∈ tables_1, d.before a0 Z = true) (ws : List Jvm.Cond) (a1 : Addr) (h0 : Heap) (n0 : Nat) (Z0 : n0 ≤ h0.size) (F_loadFactor_a1 : Fld Z h0 a1 "java/util/HashMap" "loadFactor" "F" (.float (0 : UInt32))) (E_a1 : Exa Z h0 a1 "java/util/HashMap") (g_a1 : n0 ≤ a1) :
    Con l Z (⟨"java/util/HashMap", "<init>", "()V"⟩ : MethodName) jdk_69_method_7_code 1 none ws ({ frames := 2, cells := 0, slots := 0, locals := 24 } : Room) #[(.ref a1)] h0 (Q15 Z a1 h0 n0) := by
  refine Con.of (plainFor_of_name pn_rm15) ?_
  intro p e s m below meth c s₁ hZ e0 X0 hx hby hml hown hnm hret hlk
  replace hml : c.maxLocals = 1 := hml
  have hown : s.vm.findClass "java/util/HashMap" = some m.cls := hown
  have N0 : Fr n0 [] := Fr.nil n0
  obtain ⟨PP, hPP⟩ : ∃ P, P = Fine s below (Q15 Z a1 h0 n0) ({ frames := 2, cells := 0, slots := 0, locals := 24 } : Room).cells ({ frames := 2, cells := 0, slots := 0, locals := 24 } : Room).slots := ⟨_, rfl⟩
  rw [← hPP]
  refine Go.cast (ef_rm15 m a1) ?_
  have K : Keep h0 h0 [a1] := Keep.refl h0 _
  have Zn : n0 ≤ h0.size := Z0
  show Go p.tables e below PP (s₁.setTop (mkF m 0 #[.val (.ref a1)] []))
  refine Go.st (fun t k => XS.aloadN X0.here hx rfl (hb hby d15_0) rfl rfl k) ?_
  show Go p.tables e below PP (s₁.setTop (mkF m 1 #[.val (.ref a1)] [(.ref a1)]))
  obtain ⟨v1, T1, L1, X1, hQ1, st1⟩ := callIn X0 hx hZ (y := (⟨"java/util/AbstractMap", "<init>", "()V"⟩ : MethodName)) (a := a1) (argsL := []) (rest := []) rfl hown (hw _ (List.mem_of_getElem? (i := 101) rfl)) (hw _ (List.mem_of_getElem? (i := 102) rfl)) (hw _ (List.mem_of_getElem? (i := 105) rfl)) (hw _ (List.mem_of_getElem? (i := 106) rfl)) (by decide) (rm16 l Z a0 hw [] a1 h0 n0 Zn) e0 0 (by decide) (by decide) (by decide) (by decide) (g := (mkF m 1 #[.val (.ref a1)] [(.ref a1)])) rfl (by rw [hml]; rfl) (lenOf pd_8 rfl) rfl (by show 2 * 0 + _ ≤ _; exact Nat.le_of_eq rfl) (hb hby d15_1)
  obtain ⟨rfl, rfl, e1⟩ := hQ1
  rw [List.append_nil] at X1
  refine Go.st st1 ?_
  show Go p.tables e below PP (T1.setTop (mkF m 4 #[.val (.ref a1)] []))
  refine Go.st (fun t k => XS.aloadN X1.here hx rfl (hb hby d15_4) rfl rfl k) ?_
  show Go p.tables e below PP (T1.setTop (mkF m 5 #[.val (.ref a1)] [(.ref a1)]))
  refine Go.st (fun t k => X1.ldcFloatC hx hown (mvT hZ (hw _ (List.mem_of_getElem? (i := 108) rfl))) (g := (mkF m 5 #[.val (.ref a1)] [(.ref a1)])) rfl (hb hby d15_5) t k) ?_
  show Go p.tables e below PP (T1.setTop (mkF m 7 #[.val (.ref a1)] [(.float (1061158912 : UInt32)), (.ref a1)]))
  obtain ⟨T2, h2, X2, e2, W2, st2⟩ := putF X1 hx hZ hown (host := "") (Or.inl (hw _ (List.mem_of_getElem? (i := 109) rfl))) Via.refl e1 F_loadFactor_a1 E_a1 (Or.inr ⟨(hw _ (List.mem_of_getElem? (i := 110) rfl)), rfl, hnm⟩) (hw _ (List.mem_of_getElem? (i := 96) rfl)) (ty := .float) (by decide) rfl rfl (g := (mkF m 7 #[.val (.ref a1)] [(.float (1061158912 : UInt32)), (.ref a1)])) rfl rfl (hb hby d15_7)
  refine Go.st st2 ?_
  have N2 := Fr.snoc X2 N0 g_a1
  replace E_a1 := E_a1.wr W2
  replace K := K.wr W2 (Or.inl (List.mem_of_getElem? (i := 0) rfl))
  replace Zn : n0 ≤ h2.size := by rw [W2.size]; exact Zn
  replace F_loadFactor_a1 := F_loadFactor_a1.same W2
  show Go p.tables e below PP (T2.setTop (mkF m 10 #[.val (.ref a1)] []))
  rw [hPP]
  refine endV X2 hx hlk hret (hb hby d15_10) ?_ (by decide) (by decide)
  show Q15 Z a1 h0 n0 none T2.heap _
  rw [e2]
  exact ⟨rfl, N2, K⟩
theorem d8_0 : decode prog_70_method_1_code 0 = .ok (.aload_n 0, 1) := by decide +kernel
theorem d8_1 : decode prog_70_method_1_code 1 = .ok (.invokespecial 1, 3) := by decide +kernel
theorem d8_4 : decode prog_70_method_1_code 4 = .ok (.aload_n 0, 1) := by decide +kernel
theorem d8_5 : decode prog_70_method_1_code 5 = .ok (.new 7, 3) := by decide +kernel
theorem d8_8 : decode prog_70_method_1_code 8 = .ok (.dup, 1) := by decide +kernel
theorem d8_9 : decode prog_70_method_1_code 9 = .ok (.invokespecial 9, 3) := by decide +kernel
theorem d8_12 : decode prog_70_method_1_code 12 = .ok (.putfield 10, 3) := by decide +kernel
theorem d8_15 : decode prog_70_method_1_code 15 = .ok (.aload_n 0, 1) := by decide +kernel
theorem d8_16 : decode prog_70_method_1_code 16 = .ok (.new 16, 3) := by decide +kernel
theorem d8_19 : decode prog_70_method_1_code 19 = .ok (.dup, 1) := by decide +kernel
theorem d8_20 : decode prog_70_method_1_code 20 = .ok (.invokespecial 18, 3) := by decide +kernel
theorem d8_23 : decode prog_70_method_1_code 23 = .ok (.putfield 19, 3) := by decide +kernel
theorem d8_26 : decode prog_70_method_1_code 26 = .ok (.aload_n 0, 1) := by decide +kernel
theorem d8_27 : decode prog_70_method_1_code 27 = .ok (.new 23, 3) := by decide +kernel
theorem d8_30 : decode prog_70_method_1_code 30 = .ok (.dup, 1) := by decide +kernel
theorem d8_31 : decode prog_70_method_1_code 31 = .ok (.invokespecial 25, 3) := by decide +kernel
theorem d8_34 : decode prog_70_method_1_code 34 = .ok (.putfield 26, 3) := by decide +kernel
theorem d8_37 : decode prog_70_method_1_code 37 = .ok (.aload_n 0, 1) := by decide +kernel
theorem d8_38 : decode prog_70_method_1_code 38 = .ok (.new 23, 3) := by decide +kernel
theorem d8_41 : decode prog_70_method_1_code 41 = .ok (.dup, 1) := by decide +kernel
theorem d8_42 : decode prog_70_method_1_code 42 = .ok (.invokespecial 25, 3) := by decide +kernel
theorem d8_45 : decode prog_70_method_1_code 45 = .ok (.putfield 30, 3) := by decide +kernel
theorem d8_48 : decode prog_70_method_1_code 48 = .ok (.aload_n 0, 1) := by decide +kernel
theorem d8_49 : decode prog_70_method_1_code 49 = .ok (.new 23, 3) := by decide +kernel
theorem d8_52 : decode prog_70_method_1_code 52 = .ok (.dup, 1) := by decide +kernel
theorem d8_53 : decode prog_70_method_1_code 53 = .ok (.invokespecial 25, 3) := by decide +kernel
theorem d8_56 : decode prog_70_method_1_code 56 = .ok (.putfield 33, 3) := by decide +kernel
theorem d8_59 : decode prog_70_method_1_code 59 = .ok (.aload_n 0, 1) := by decide +kernel
theorem d8_60 : decode prog_70_method_1_code 60 = .ok (.new 23, 3) := by decide +kernel
theorem d8_63 : decode prog_70_method_1_code 63 = .ok (.dup, 1) := by decide +kernel
theorem d8_64 : decode prog_70_method_1_code 64 = .ok (.invokespecial 25, 3) := by decide +kernel
theorem d8_67 : decode prog_70_method_1_code 67 = .ok (.putfield 36, 3) := by decide +kernel
theorem d8_70 : decode prog_70_method_1_code 70 = .ok (.aload_n 0, 1) := by decide +kernel
theorem d8_71 : decode prog_70_method_1_code 71 = .ok (.new 23, 3) := by decide +kernel
theorem d8_74 : decode prog_70_method_1_code 74 = .ok (.dup, 1) := by decide +kernel
theorem d8_75 : decode prog_70_method_1_code 75 = .ok (.invokespecial 25, 3) := by decide +kernel
theorem d8_78 : decode prog_70_method_1_code 78 = .ok (.putfield 39, 3) := by decide +kernel
theorem d8_81 : decode prog_70_method_1_code 81 = .ok (.aload_n 0, 1) := by decide +kernel
theorem d8_82 : decode prog_70_method_1_code 82 = .ok (.new 23, 3) := by decide +kernel
theorem d8_85 : decode prog_70_method_1_code 85 = .ok (.dup, 1) := by decide +kernel
theorem d8_86 : decode prog_70_method_1_code 86 = .ok (.invokespecial 25, 3) := by decide +kernel
theorem d8_89 : decode prog_70_method_1_code 89 = .ok (.putfield 42, 3) := by decide +kernel
theorem d8_92 : decode prog_70_method_1_code 92 = .ok (.aload_n 0, 1) := by decide +kernel
theorem d8_93 : decode prog_70_method_1_code 93 = .ok (.new 7, 3) := by decide +kernel
theorem d8_96 : decode prog_70_method_1_code 96 = .ok (.dup, 1) := by decide +kernel
theorem d8_97 : decode prog_70_method_1_code 97 = .ok (.invokespecial 9, 3) := by decide +kernel
theorem d8_100 : decode prog_70_method_1_code 100 = .ok (.putfield 45, 3) := by decide +kernel
theorem d8_103 : decode prog_70_method_1_code 103 = .ok (.return_, 1) := by decide +kernel
theorem pn_rm8 : plainName "com/example/strict_roles/strictroles/formats/StandingDefinitions" = true := by first | (simp [plainName, overriddenIn]; done) | decide +kernel
theorem ef_rm8 (m : MethodId) (a1 : Addr) : entryFrame m #[(.ref a1)] 1 = mkF m 0 #[.val (.ref a1)] [] := by first | (simp [entryFrame, mkF, argsToLocals, Value.category]; done) | rfl
def Q8 (Z : State) (a1 : Addr) (ae : Addr) (h0 : Heap) (n0 : Nat) (v : Option Value) (h : Heap) (L : List Loc) : Prop := ∃ al : Addr, v = none ∧ Fr n0 L ∧ Keep h0 h [a1] ∧ h0.size ≤ al ∧ Fld Z h a1 "com/example/strict_roles/strictroles/formats/StandingDefinitions" "definitions" "Ljava/util/List;" (.ref al) ∧ Fld Z h a1 "com/example/strict_roles/strictroles/formats/StandingDefinitions" "homePathCharacters" "J" (.long (0 : Int64)) ∧ Exa Z h al "java/util/ArrayList" ∧ Fld Z h al "java/util/ArrayList" "size" "I" (.int (0 : Int32))
set_option maxRecDepth 65536 in
set_option maxHeartbeats 40000000 in
theorem rm8 (l : Launch) (Z : State) (a0 : Array Value) (hw : ∀ d ∈ tables_1, d.before a0 Z = true) (ws : List Jvm.Cond) (a1 : Addr) (ae : Addr) (h0 : Heap) (n0 : Nat) (Z0 : n0 ≤ h0.size) (F_definitions_a1 : Fld Z h0 a1 "com/example/strict_roles/strictroles/formats/StandingDefinitions" "definitions" "Ljava/util/List;" .null) (F_principalBased_a1 : Fld Z h0 a1 "com/example/strict_roles/strictroles/formats/StandingDefinitions" "principalBased" "Ljava/util/BitSet;" .null) (F_resourceAclEnds_a1 : Fld Z h0 a1 "com/example/strict_roles/strictroles/formats/StandingDefinitions" "resourceAclEnds" "Ljava/util/Map;" .null) (F_principalAclEnds_a1 : Fld Z h0 a1 "com/example/strict_roles/strictroles/formats/StandingDefinitions" "principalAclEnds" "Ljava/util/Map;" .null) (F_usersByName_a1 : Fld Z h0 a1 "com/example/strict_roles/strictroles/formats/StandingDefinitions" "usersByName" "Ljava/util/Map;" .null) (F_disabledReasons_a1 : Fld Z h0 a1 "com/example/strict_roles/strictroles/formats/StandingDefinitions" "disabledReasons" "Ljava/util/Map;" .null) (F_userEnds_a1 : Fld Z h0 a1 "com/example/strict_roles/strictroles/formats/StandingDefinitions" "userEnds" "Ljava/util/Map;" .null) (F_strings_a1 : Fld Z h0 a1 "com/example/strict_roles/strictroles/formats/StandingDefinitions" "strings" "Ljava/util/Map;" .null) (F_undo_a1 : Fld Z h0 a1 "com/example/strict_roles/strictroles/formats/StandingDefinitions" "undo" "Ljava/util/List;" .null) (F_homePathCharacters_a1 : Fld Z h0 a1 "com/example/strict_roles/strictroles/formats/StandingDefinitions" "homePathCharacters" "J" (.long (0 : Int64))) (E_a1 : Exa Z h0 a1 "com/example/strict_roles/strictroles/formats/StandingDefinitions") (g_a1 : n0 ≤ a1) (SE : Sta Z Z.heap "java/util/ArrayList" "DEFAULTCAPACITY_EMPTY_ELEMENTDATA" "[Ljava/lang/Object;" (.ref ae)) (O : Old Z n0 h0) :
    Con l Z (⟨"com/example/strict_roles/strictroles/formats/StandingDefinitions", "<init>", "()V"⟩ : MethodName) prog_70_method_1_code 1 none ws ({ frames := 4, cells := 10, slots := 58, locals := 50 } : Room) #[(.ref a1)] h0 (Q8 Z a1 ae h0 n0) := by
  refine Con.of (plainFor_of_name pn_rm8) ?_
  intro p e s m below meth c s₁ hZ e0 X0 hx hby hml hown hnm hret hlk
  replace hml : c.maxLocals = 1 := hml
  have hown : s.vm.findClass "com/example/strict_roles/strictroles/formats/StandingDefinitions" = some m.cls := hown
  have N0 : Fr n0 [] := Fr.nil n0
  obtain ⟨PP, hPP⟩ : ∃ P, P = Fine s below (Q8 Z a1 ae h0 n0) ({ frames := 4, cells := 10, slots := 58, locals := 50 } : Room).cells ({ frames := 4, cells := 10, slots := 58, locals := 50 } : Room).slots := ⟨_, rfl⟩
  rw [← hPP]
  refine Go.cast (ef_rm8 m a1) ?_
  have K : Keep h0 h0 [a1] := Keep.refl h0 _
  have Zn : n0 ≤ h0.size := Z0
  show Go p.tables e below PP (s₁.setTop (mkF m 0 #[.val (.ref a1)] []))
  refine Go.st (fun t k => XS.aloadN X0.here hx rfl (hb hby d8_0) rfl rfl k) ?_
  show Go p.tables e below PP (s₁.setTop (mkF m 1 #[.val (.ref a1)] [(.ref a1)]))
  obtain ⟨T1, X1, e1, st1⟩ := initO X0 hx hZ hown (hw _ (List.mem_of_getElem? (i := 44) rfl)) (hw _ (List.mem_of_getElem? (i := 17) rfl)) (hw _ (List.mem_of_getElem? (i := 18) rfl)) e0 (g := (mkF m 1 #[.val (.ref a1)] [(.ref a1)])) rfl (by rw [hml]; rfl) rfl (hb hby d8_1) (by decide) (W := 0) (by show 2 * 0 + _ ≤ _; exact Nat.le_of_eq rfl) (by decide)
  refine Go.st st1 ?_
  show Go p.tables e below PP (T1.setTop (mkF m 4 #[.val (.ref a1)] []))
  refine Go.st (fun t k => XS.aloadN X1.here hx rfl (hb hby d8_4) rfl rfl k) ?_
  show Go p.tables e below PP (T1.setTop (mkF m 5 #[.val (.ref a1)] [(.ref a1)]))
  obtain ⟨T2, h2, X2, e2, E2, A2, D2, -, st2⟩ := newO X1 hx hZ hown (hw _ (List.mem_of_getElem? (i := 45) rfl)) (hw _ (List.mem_of_getElem? (i := 46) rfl)) (hw _ (List.mem_of_getElem? (i := 47) rfl)) e1 (g := (mkF m 5 #[.val (.ref a1)] [(.ref a1)])) rfl (hb hby d8_5) (by decide) (by decide)
  obtain ⟨b2, gz2⟩ : ∃ z, z = h0.size := ⟨_, rfl⟩
  rw [← gz2] at A2 D2 st2
  have ne_a1_b2 : a1 ≠ b2 := Nat.ne_of_lt (Nat.lt_of_lt_of_le F_definitions_a1.lt (Nat.le_of_eq gz2.symm))
  have g_b2 : n0 ≤ b2 := Nat.le_trans Zn (Nat.le_of_eq gz2.symm)
  have sz_b2 : h0.size ≤ b2 := Nat.le_trans K.1 (Nat.le_of_eq gz2.symm)
  refine Go.st st2 ?_
  replace F_definitions_a1 := F_definitions_a1.ext E2
  replace F_principalBased_a1 := F_principalBased_a1.ext E2
  replace F_resourceAclEnds_a1 := F_resourceAclEnds_a1.ext E2
  replace F_principalAclEnds_a1 := F_principalAclEnds_a1.ext E2
  replace F_usersByName_a1 := F_usersByName_a1.ext E2
  replace F_disabledReasons_a1 := F_disabledReasons_a1.ext E2
  replace F_userEnds_a1 := F_userEnds_a1.ext E2
  replace F_strings_a1 := F_strings_a1.ext E2
  replace F_undo_a1 := F_undo_a1.ext E2
  replace F_homePathCharacters_a1 := F_homePathCharacters_a1.ext E2
  replace E_a1 := E_a1.ext E2
  replace O := O.ext E2
  replace K := K.ext E2
  replace Zn := Nat.le_trans Zn E2.1
  have E_b2 := A2
  have F_modCount_b2 : Fld Z h2 b2 "java/util/AbstractList" "modCount" "I" (.int (0 : Int32)) := D2 (Or.inl (hw _ (List.mem_of_getElem? (i := 65) rfl))) (ty := .int) (by decide)
  have F_elementData_b2 : Fld Z h2 b2 "java/util/ArrayList" "elementData" "[Ljava/lang/Object;" .null := D2 (Or.inl (hw _ (List.mem_of_getElem? (i := 68) rfl))) (ty := (.array (.object "java/lang/Object"))) (by decide)
  have F_size_b2 : Fld Z h2 b2 "java/util/ArrayList" "size" "I" (.int (0 : Int32)) := D2 (Or.inl (hw _ (List.mem_of_getElem? (i := 162) rfl))) (ty := .int) (by decide)
  show Go p.tables e below PP (T2.setTop (mkF m 8 #[.val (.ref a1)] [(.ref b2), (.ref a1)]))
  refine Go.st (fun t k => XS.dup X2.here hx rfl (hb hby d8_8) rfl rfl k) ?_
  show Go p.tables e below PP (T2.setTop (mkF m 9 #[.val (.ref a1)] [(.ref b2), (.ref b2), (.ref a1)]))
  obtain ⟨v3, T3, L3, X3, hQ3, st3⟩ := callIn X2 hx hZ (y := (⟨"java/util/ArrayList", "<init>", "()V"⟩ : MethodName)) (a := b2) (argsL := []) (rest := [(.ref b2), (.ref a1)]) rfl hown (hw _ (List.mem_of_getElem? (i := 48) rfl)) (hw _ (List.mem_of_getElem? (i := 49) rfl)) (hw _ (List.mem_of_getElem? (i := 47) rfl)) (hw _ (List.mem_of_getElem? (i := 50) rfl)) (by decide) (rm9 l Z a0 hw [] b2 ae h2 n0 Zn F_modCount_b2 F_elementData_b2 F_size_b2 E_b2 g_b2 SE O) e2 2 (by decide) (by decide) (by decide) (by decide) (g := (mkF m 9 #[.val (.ref a1)] [(.ref b2), (.ref b2), (.ref a1)])) rfl (by rw [hml]; rfl) (lenOf pd_8 rfl) rfl (by show 2 * 0 + _ ≤ _; exact Nat.le_of_eq rfl) (hb hby d8_9)
  obtain ⟨h3, e3⟩ : ∃ z, T3.heap = z := ⟨_, rfl⟩
  rw [e3] at hQ3
  obtain ⟨rfl, Nq3, Kq3, Fq3_0⟩ := hQ3
  have N3 := Fr.app N0 Nq3
  replace F_definitions_a1 := F_definitions_a1.keep Kq3 (ninS ne_a1_b2 nin0)
  replace F_principalBased_a1 := F_principalBased_a1.keep Kq3 (ninS ne_a1_b2 nin0)
  replace F_resourceAclEnds_a1 := F_resourceAclEnds_a1.keep Kq3 (ninS ne_a1_b2 nin0)
  replace F_principalAclEnds_a1 := F_principalAclEnds_a1.keep Kq3 (ninS ne_a1_b2 nin0)
  replace F_usersByName_a1 := F_usersByName_a1.keep Kq3 (ninS ne_a1_b2 nin0)
  replace F_disabledReasons_a1 := F_disabledReasons_a1.keep Kq3 (ninS ne_a1_b2 nin0)
  replace F_userEnds_a1 := F_userEnds_a1.keep Kq3 (ninS ne_a1_b2 nin0)
  replace F_strings_a1 := F_strings_a1.keep Kq3 (ninS ne_a1_b2 nin0)
  replace F_undo_a1 := F_undo_a1.keep Kq3 (ninS ne_a1_b2 nin0)
  replace F_homePathCharacters_a1 := F_homePathCharacters_a1.keep Kq3 (ninS ne_a1_b2 nin0)
  replace E_a1 := E_a1.keep Kq3
  replace E_b2 := E_b2.keep Kq3
  clear F_modCount_b2
  clear F_elementData_b2
  clear F_size_b2
  replace O := O.keep Kq3 (allS g_b2 all0)
  replace K := K.trans Kq3 (allS (Or.inr sz_b2) all0)
  replace Zn := Nat.le_trans Zn Kq3.1
  have F_size_b2 := Fq3_0
  refine Go.st st3 ?_
  show Go p.tables e below PP (T3.setTop (mkF m 12 #[.val (.ref a1)] [(.ref b2), (.ref a1)]))
  obtain ⟨T4, h4, X4, e4, W4, st4⟩ := putF X3 hx hZ hown (host := "") (Or.inl (hw _ (List.mem_of_getElem? (i := 69) rfl))) Via.refl e3 F_definitions_a1 E_a1 (Or.inr ⟨(hw _ (List.mem_of_getElem? (i := 70) rfl)), rfl, hnm⟩) (hw _ (List.mem_of_getElem? (i := 39) rfl)) (ty := (.object "java/util/List")) (by decide) rfl rfl (g := (mkF m 12 #[.val (.ref a1)] [(.ref b2), (.ref a1)])) rfl rfl (hb hby d8_12)
  refine Go.st st4 ?_
  have N4 := Fr.snoc X4 N3 g_a1
  replace F_principalBased_a1 := F_principalBased_a1.other W4 (Or.inr (slot_ne (a0 := a0) (Or.inr (hw _ (List.mem_of_getElem? (i := 94) rfl))) (Or.inr (hw _ (List.mem_of_getElem? (i := 70) rfl))) (by decide) (t := (.object "java/util/BitSet")) (t' := (.object "java/util/List")) (by decide) (by decide)))
  replace F_resourceAclEnds_a1 := F_resourceAclEnds_a1.other W4 (Or.inr (slot_ne (a0 := a0) (Or.inr (hw _ (List.mem_of_getElem? (i := 112) rfl))) (Or.inr (hw _ (List.mem_of_getElem? (i := 70) rfl))) (by decide) (t := (.object "java/util/Map")) (t' := (.object "java/util/List")) (by decide) (by decide)))
  replace F_principalAclEnds_a1 := F_principalAclEnds_a1.other W4 (Or.inr (slot_ne (a0 := a0) (Or.inr (hw _ (List.mem_of_getElem? (i := 114) rfl))) (Or.inr (hw _ (List.mem_of_getElem? (i := 70) rfl))) (by decide) (t := (.object "java/util/Map")) (t' := (.object "java/util/List")) (by decide) (by decide)))
  replace F_usersByName_a1 := F_usersByName_a1.other W4 (Or.inr (slot_ne (a0 := a0) (Or.inr (hw _ (List.mem_of_getElem? (i := 116) rfl))) (Or.inr (hw _ (List.mem_of_getElem? (i := 70) rfl))) (by decide) (t := (.object "java/util/Map")) (t' := (.object "java/util/List")) (by decide) (by decide)))
  replace F_disabledReasons_a1 := F_disabledReasons_a1.other W4 (Or.inr (slot_ne (a0 := a0) (Or.inr (hw _ (List.mem_of_getElem? (i := 118) rfl))) (Or.inr (hw _ (List.mem_of_getElem? (i := 70) rfl))) (by decide) (t := (.object "java/util/Map")) (t' := (.object "java/util/List")) (by decide) (by decide)))
  replace F_userEnds_a1 := F_userEnds_a1.other W4 (Or.inr (slot_ne (a0 := a0) (Or.inr (hw _ (List.mem_of_getElem? (i := 120) rfl))) (Or.inr (hw _ (List.mem_of_getElem? (i := 70) rfl))) (by decide) (t := (.object "java/util/Map")) (t' := (.object "java/util/List")) (by decide) (by decide)))
  replace F_strings_a1 := F_strings_a1.other W4 (Or.inr (slot_ne (a0 := a0) (Or.inr (hw _ (List.mem_of_getElem? (i := 122) rfl))) (Or.inr (hw _ (List.mem_of_getElem? (i := 70) rfl))) (by decide) (t := (.object "java/util/Map")) (t' := (.object "java/util/List")) (by decide) (by decide)))
  replace F_undo_a1 := F_undo_a1.other W4 (Or.inr (slot_ne (a0 := a0) (Or.inr (hw _ (List.mem_of_getElem? (i := 124) rfl))) (Or.inr (hw _ (List.mem_of_getElem? (i := 70) rfl))) (by decide) (t := (.object "java/util/List")) (t' := (.object "java/util/List")) (by decide) (by decide)))
  replace F_homePathCharacters_a1 := F_homePathCharacters_a1.other W4 (Or.inr (slot_ne (a0 := a0) (Or.inl (hw _ (List.mem_of_getElem? (i := 131) rfl))) (Or.inr (hw _ (List.mem_of_getElem? (i := 70) rfl))) (by decide) (t := .long) (t' := (.object "java/util/List")) (by decide) (by decide)))
  replace E_a1 := E_a1.wr W4
  replace E_b2 := E_b2.wr W4
  replace F_size_b2 := F_size_b2.other W4 (Or.inl (Ne.symm ne_a1_b2))
  replace O := O.wr W4 g_a1
  replace K := K.wr W4 (Or.inl (List.mem_of_getElem? (i := 0) rfl))
  replace Zn : n0 ≤ h4.size := by rw [W4.size]; exact Zn
  replace F_definitions_a1 := F_definitions_a1.same W4
  show Go p.tables e below PP (T4.setTop (mkF m 15 #[.val (.ref a1)] []))
  refine Go.st (fun t k => XS.aloadN X4.here hx rfl (hb hby d8_15) rfl rfl k) ?_
  show Go p.tables e below PP (T4.setTop (mkF m 16 #[.val (.ref a1)] [(.ref a1)]))
  obtain ⟨T5, h5, X5, e5, E5, A5, D5, -, st5⟩ := newO X4 hx hZ hown (hw _ (List.mem_of_getElem? (i := 71) rfl)) (hw _ (List.mem_of_getElem? (i := 72) rfl)) (hw _ (List.mem_of_getElem? (i := 73) rfl)) e4 (g := (mkF m 16 #[.val (.ref a1)] [(.ref a1)])) rfl (hb hby d8_16) (by decide) (by decide)
  obtain ⟨b5, gz5⟩ : ∃ z, z = h4.size := ⟨_, rfl⟩
  rw [← gz5] at A5 D5 st5
  have ne_a1_b5 : a1 ≠ b5 := Nat.ne_of_lt (Nat.lt_of_lt_of_le F_definitions_a1.lt (Nat.le_of_eq gz5.symm))
  have ne_b2_b5 : b2 ≠ b5 := Nat.ne_of_lt (Nat.lt_of_lt_of_le E_b2.lt (Nat.le_of_eq gz5.symm))
  have g_b5 : n0 ≤ b5 := Nat.le_trans Zn (Nat.le_of_eq gz5.symm)
  have sz_b5 : h0.size ≤ b5 := Nat.le_trans K.1 (Nat.le_of_eq gz5.symm)
  refine Go.st st5 ?_
  replace F_definitions_a1 := F_definitions_a1.ext E5
  replace F_principalBased_a1 := F_principalBased_a1.ext E5
  replace F_resourceAclEnds_a1 := F_resourceAclEnds_a1.ext E5
  replace F_principalAclEnds_a1 := F_principalAclEnds_a1.ext E5
  replace F_usersByName_a1 := F_usersByName_a1.ext E5
  replace F_disabledReasons_a1 := F_disabledReasons_a1.ext E5
  replace F_userEnds_a1 := F_userEnds_a1.ext E5
  replace F_strings_a1 := F_strings_a1.ext E5
  replace F_undo_a1 := F_undo_a1.ext E5
  replace F_homePathCharacters_a1 := F_homePathCharacters_a1.ext E5
  replace E_a1 := E_a1.ext E5
  replace E_b2 := E_b2.ext E5
  replace F_size_b2 := F_size_b2.ext E5
  replace O := O.ext E5
  replace K := K.ext E5
  replace Zn := Nat.le_trans Zn E5.1
  have E_b5 := A5
  have F_wordsInUse_b5 : Fld Z h5 b5 "java/util/BitSet" "wordsInUse" "I" (.int (0 : Int32)) := D5 (Or.inl (hw _ (List.mem_of_getElem? (i := 79) rfl))) (ty := .int) (by decide)
  have F_sizeIsSticky_b5 : Fld Z h5 b5 "java/util/BitSet" "sizeIsSticky" "Z" (.int (0 : Int32)) := D5 (Or.inl (hw _ (List.mem_of_getElem? (i := 81) rfl))) (ty := .boolean) (by decide)
  have F_words_b5 : Fld Z h5 b5 "java/util/BitSet" "words" "[J" .null := D5 (Or.inl (hw _ (List.mem_of_getElem? (i := 92) rfl))) (ty := (.array .long)) (by decide)
  show Go p.tables e below PP (T5.setTop (mkF m 19 #[.val (.ref a1)] [(.ref b5), (.ref a1)]))
  refine Go.st (fun t k => XS.dup X5.here hx rfl (hb hby d8_19) rfl rfl k) ?_
  show Go p.tables e below PP (T5.setTop (mkF m 20 #[.val (.ref a1)] [(.ref b5), (.ref b5), (.ref a1)]))
  obtain ⟨v6, T6, L6, X6, hQ6, st6⟩ := callIn X5 hx hZ (y := (⟨"java/util/BitSet", "<init>", "()V"⟩ : MethodName)) (a := b5) (argsL := []) (rest := [(.ref b5), (.ref a1)]) rfl hown (hw _ (List.mem_of_getElem? (i := 74) rfl)) (hw _ (List.mem_of_getElem? (i := 75) rfl)) (hw _ (List.mem_of_getElem? (i := 73) rfl)) (hw _ (List.mem_of_getElem? (i := 76) rfl)) (by decide) (rm12 l Z a0 hw [] b5 h5 n0 Zn F_words_b5 F_sizeIsSticky_b5 F_wordsInUse_b5 E_b5 g_b5) e5 2 (by decide) (by decide) (by decide) (by decide) (g := (mkF m 20 #[.val (.ref a1)] [(.ref b5), (.ref b5), (.ref a1)])) rfl (by rw [hml]; rfl) (lenOf pd_8 rfl) rfl (by show 2 * 0 + _ ≤ _; exact Nat.le_of_eq rfl) (hb hby d8_20)
  obtain ⟨h6, e6⟩ : ∃ z, T6.heap = z := ⟨_, rfl⟩
  rw [e6] at hQ6
  obtain ⟨rfl, Nq6, Kq6⟩ := hQ6
  have N6 := Fr.app N4 Nq6
  replace F_definitions_a1 := F_definitions_a1.keep Kq6 (ninS ne_a1_b5 nin0)
  replace F_principalBased_a1 := F_principalBased_a1.keep Kq6 (ninS ne_a1_b5 nin0)
  replace F_resourceAclEnds_a1 := F_resourceAclEnds_a1.keep Kq6 (ninS ne_a1_b5 nin0)
  replace F_principalAclEnds_a1 := F_principalAclEnds_a1.keep Kq6 (ninS ne_a1_b5 nin0)
  replace F_usersByName_a1 := F_usersByName_a1.keep Kq6 (ninS ne_a1_b5 nin0)
  replace F_disabledReasons_a1 := F_disabledReasons_a1.keep Kq6 (ninS ne_a1_b5 nin0)
  replace F_userEnds_a1 := F_userEnds_a1.keep Kq6 (ninS ne_a1_b5 nin0)
  replace F_strings_a1 := F_strings_a1.keep Kq6 (ninS ne_a1_b5 nin0)
  replace F_undo_a1 := F_undo_a1.keep Kq6 (ninS ne_a1_b5 nin0)
  replace F_homePathCharacters_a1 := F_homePathCharacters_a1.keep Kq6 (ninS ne_a1_b5 nin0)
  replace E_a1 := E_a1.keep Kq6
  replace E_b2 := E_b2.keep Kq6
  replace F_size_b2 := F_size_b2.keep Kq6 (ninS ne_b2_b5 nin0)
  replace E_b5 := E_b5.keep Kq6
  clear F_wordsInUse_b5
  clear F_sizeIsSticky_b5
  clear F_words_b5
  replace O := O.keep Kq6 (allS g_b5 all0)
  replace K := K.trans Kq6 (allS (Or.inr sz_b5) all0)
  replace Zn := Nat.le_trans Zn Kq6.1
  refine Go.st st6 ?_
  show Go p.tables e below PP (T6.setTop (mkF m 23 #[.val (.ref a1)] [(.ref b5), (.ref a1)]))
  obtain ⟨T7, h7, X7, e7, W7, st7⟩ := putF X6 hx hZ hown (host := "") (Or.inl (hw _ (List.mem_of_getElem? (i := 93) rfl))) Via.refl e6 F_principalBased_a1 E_a1 (Or.inr ⟨(hw _ (List.mem_of_getElem? (i := 94) rfl)), rfl, hnm⟩) (hw _ (List.mem_of_getElem? (i := 39) rfl)) (ty := (.object "java/util/BitSet")) (by decide) rfl rfl (g := (mkF m 23 #[.val (.ref a1)] [(.ref b5), (.ref a1)])) rfl rfl (hb hby d8_23)
  refine Go.st st7 ?_
  have N7 := Fr.snoc X7 N6 g_a1
  replace F_definitions_a1 := F_definitions_a1.other W7 (Or.inr (slot_ne (a0 := a0) (Or.inr (hw _ (List.mem_of_getElem? (i := 70) rfl))) (Or.inr (hw _ (List.mem_of_getElem? (i := 94) rfl))) (by decide) (t := (.object "java/util/List")) (t' := (.object "java/util/BitSet")) (by decide) (by decide)))
  replace F_resourceAclEnds_a1 := F_resourceAclEnds_a1.other W7 (Or.inr (slot_ne (a0 := a0) (Or.inr (hw _ (List.mem_of_getElem? (i := 112) rfl))) (Or.inr (hw _ (List.mem_of_getElem? (i := 94) rfl))) (by decide) (t := (.object "java/util/Map")) (t' := (.object "java/util/BitSet")) (by decide) (by decide)))
  replace F_principalAclEnds_a1 := F_principalAclEnds_a1.other W7 (Or.inr (slot_ne (a0 := a0) (Or.inr (hw _ (List.mem_of_getElem? (i := 114) rfl))) (Or.inr (hw _ (List.mem_of_getElem? (i := 94) rfl))) (by decide) (t := (.object "java/util/Map")) (t' := (.object "java/util/BitSet")) (by decide) (by decide)))
  replace F_usersByName_a1 := F_usersByName_a1.other W7 (Or.inr (slot_ne (a0 := a0) (Or.inr (hw _ (List.mem_of_getElem? (i := 116) rfl))) (Or.inr (hw _ (List.mem_of_getElem? (i := 94) rfl))) (by decide) (t := (.object "java/util/Map")) (t' := (.object "java/util/BitSet")) (by decide) (by decide)))
  replace F_disabledReasons_a1 := F_disabledReasons_a1.other W7 (Or.inr (slot_ne (a0 := a0) (Or.inr (hw _ (List.mem_of_getElem? (i := 118) rfl))) (Or.inr (hw _ (List.mem_of_getElem? (i := 94) rfl))) (by decide) (t := (.object "java/util/Map")) (t' := (.object "java/util/BitSet")) (by decide) (by decide)))
  replace F_userEnds_a1 := F_userEnds_a1.other W7 (Or.inr (slot_ne (a0 := a0) (Or.inr (hw _ (List.mem_of_getElem? (i := 120) rfl))) (Or.inr (hw _ (List.mem_of_getElem? (i := 94) rfl))) (by decide) (t := (.object "java/util/Map")) (t' := (.object "java/util/BitSet")) (by decide) (by decide)))
  replace F_strings_a1 := F_strings_a1.other W7 (Or.inr (slot_ne (a0 := a0) (Or.inr (hw _ (List.mem_of_getElem? (i := 122) rfl))) (Or.inr (hw _ (List.mem_of_getElem? (i := 94) rfl))) (by decide) (t := (.object "java/util/Map")) (t' := (.object "java/util/BitSet")) (by decide) (by decide)))
  replace F_undo_a1 := F_undo_a1.other W7 (Or.inr (slot_ne (a0 := a0) (Or.inr (hw _ (List.mem_of_getElem? (i := 124) rfl))) (Or.inr (hw _ (List.mem_of_getElem? (i := 94) rfl))) (by decide) (t := (.object "java/util/List")) (t' := (.object "java/util/BitSet")) (by decide) (by decide)))
  replace F_homePathCharacters_a1 := F_homePathCharacters_a1.other W7 (Or.inr (slot_ne (a0 := a0) (Or.inl (hw _ (List.mem_of_getElem? (i := 131) rfl))) (Or.inr (hw _ (List.mem_of_getElem? (i := 94) rfl))) (by decide) (t := .long) (t' := (.object "java/util/BitSet")) (by decide) (by decide)))
  replace E_a1 := E_a1.wr W7
  replace E_b2 := E_b2.wr W7
  replace F_size_b2 := F_size_b2.other W7 (Or.inl (Ne.symm ne_a1_b2))
  replace E_b5 := E_b5.wr W7
  replace O := O.wr W7 g_a1
  replace K := K.wr W7 (Or.inl (List.mem_of_getElem? (i := 0) rfl))
  replace Zn : n0 ≤ h7.size := by rw [W7.size]; exact Zn
  replace F_principalBased_a1 := F_principalBased_a1.same W7
  clear F_principalBased_a1
  clear E_b5
  show Go p.tables e below PP (T7.setTop (mkF m 26 #[.val (.ref a1)] []))
  refine Go.st (fun t k => XS.aloadN X7.here hx rfl (hb hby d8_26) rfl rfl k) ?_
  show Go p.tables e below PP (T7.setTop (mkF m 27 #[.val (.ref a1)] [(.ref a1)]))
  obtain ⟨T8, h8, X8, e8, E8, A8, D8, -, st8⟩ := newO X7 hx hZ hown (hw _ (List.mem_of_getElem? (i := 95) rfl)) (hw _ (List.mem_of_getElem? (i := 96) rfl)) (hw _ (List.mem_of_getElem? (i := 97) rfl)) e7 (g := (mkF m 27 #[.val (.ref a1)] [(.ref a1)])) rfl (hb hby d8_27) (by decide) (by decide)
  obtain ⟨b8, gz8⟩ : ∃ z, z = h7.size := ⟨_, rfl⟩
  rw [← gz8] at A8 D8 st8
  have ne_a1_b8 : a1 ≠ b8 := Nat.ne_of_lt (Nat.lt_of_lt_of_le F_definitions_a1.lt (Nat.le_of_eq gz8.symm))
  have ne_b2_b8 : b2 ≠ b8 := Nat.ne_of_lt (Nat.lt_of_lt_of_le E_b2.lt (Nat.le_of_eq gz8.symm))
  have g_b8 : n0 ≤ b8 := Nat.le_trans Zn (Nat.le_of_eq gz8.symm)
  have sz_b8 : h0.size ≤ b8 := Nat.le_trans K.1 (Nat.le_of_eq gz8.symm)
  refine Go.st st8 ?_
  replace F_definitions_a1 := F_definitions_a1.ext E8
  replace F_resourceAclEnds_a1 := F_resourceAclEnds_a1.ext E8
  replace F_principalAclEnds_a1 := F_principalAclEnds_a1.ext E8
  replace F_usersByName_a1 := F_usersByName_a1.ext E8
  replace F_disabledReasons_a1 := F_disabledReasons_a1.ext E8
  replace F_userEnds_a1 := F_userEnds_a1.ext E8
  replace F_strings_a1 := F_strings_a1.ext E8
  replace F_undo_a1 := F_undo_a1.ext E8
  replace F_homePathCharacters_a1 := F_homePathCharacters_a1.ext E8
  replace E_a1 := E_a1.ext E8
  replace E_b2 := E_b2.ext E8
  replace F_size_b2 := F_size_b2.ext E8
  replace O := O.ext E8
  replace K := K.ext E8
  replace Zn := Nat.le_trans Zn E8.1
  have E_b8 := A8
  have F_loadFactor_b8 : Fld Z h8 b8 "java/util/HashMap" "loadFactor" "F" _ := D8 (Or.inr (hw _ (List.mem_of_getElem? (i := 110) rfl))) (ty := .float) (by decide)
  show Go p.tables e below PP (T8.setTop (mkF m 30 #[.val (.ref a1)] [(.ref b8), (.ref a1)]))
  refine Go.st (fun t k => XS.dup X8.here hx rfl (hb hby d8_30) rfl rfl k) ?_
  show Go p.tables e below PP (T8.setTop (mkF m 31 #[.val (.ref a1)] [(.ref b8), (.ref b8), (.ref a1)]))
  obtain ⟨v9, T9, L9, X9, hQ9, st9⟩ := callIn X8 hx hZ (y := (⟨"java/util/HashMap", "<init>", "()V"⟩ : MethodName)) (a := b8) (argsL := []) (rest := [(.ref b8), (.ref a1)]) rfl hown (hw _ (List.mem_of_getElem? (i := 98) rfl)) (hw _ (List.mem_of_getElem? (i := 99) rfl)) (hw _ (List.mem_of_getElem? (i := 97) rfl)) (hw _ (List.mem_of_getElem? (i := 100) rfl)) (by decide) (rm15 l Z a0 hw [] b8 h8 n0 Zn F_loadFactor_b8 E_b8 g_b8) e8 2 (by decide) (by decide) (by decide) (by decide) (g := (mkF m 31 #[.val (.ref a1)] [(.ref b8), (.ref b8), (.ref a1)])) rfl (by rw [hml]; rfl) (lenOf pd_8 rfl) rfl (by show 2 * 0 + _ ≤ _; exact Nat.le_of_eq rfl) (hb hby d8_31)
  obtain ⟨h9, e9⟩ : ∃ z, T9.heap = z := ⟨_, rfl⟩
  rw [e9] at hQ9
  obtain ⟨rfl, Nq9, Kq9⟩ := hQ9
  have N9 := Fr.app N7 Nq9
  replace F_definitions_a1 := F_definitions_a1.keep Kq9 (ninS ne_a1_b8 nin0)
  replace F_resourceAclEnds_a1 := F_resourceAclEnds_a1.keep Kq9 (ninS ne_a1_b8 nin0)
  replace F_principalAclEnds_a1 := F_principalAclEnds_a1.keep Kq9 (ninS ne_a1_b8 nin0)
  replace F_usersByName_a1 := F_usersByName_a1.keep Kq9 (ninS ne_a1_b8 nin0)
  replace F_disabledReasons_a1 := F_disabledReasons_a1.keep Kq9 (ninS ne_a1_b8 nin0)
  replace F_userEnds_a1 := F_userEnds_a1.keep Kq9 (ninS ne_a1_b8 nin0)
  replace F_strings_a1 := F_strings_a1.keep Kq9 (ninS ne_a1_b8 nin0)
  replace F_undo_a1 := F_undo_a1.keep Kq9 (ninS ne_a1_b8 nin0)
  replace F_homePathCharacters_a1 := F_homePathCharacters_a1.keep Kq9 (ninS ne_a1_b8 nin0)
  replace E_a1 := E_a1.keep Kq9
  replace E_b2 := E_b2.keep Kq9
  replace F_size_b2 := F_size_b2.keep Kq9 (ninS ne_b2_b8 nin0)
  replace E_b8 := E_b8.keep Kq9
  clear F_loadFactor_b8
  replace O := O.keep Kq9 (allS g_b8 all0)
  replace K := K.trans Kq9 (allS (Or.inr sz_b8) all0)
  replace Zn := Nat.le_trans Zn Kq9.1
  refine Go.st st9 ?_
  show Go p.tables e below PP (T9.setTop (mkF m 34 #[.val (.ref a1)] [(.ref b8), (.ref a1)]))
  obtain ⟨T10, h10, X10, e10, W10, st10⟩ := putF X9 hx hZ hown (host := "") (Or.inl (hw _ (List.mem_of_getElem? (i := 111) rfl))) Via.refl e9 F_resourceAclEnds_a1 E_a1 (Or.inr ⟨(hw _ (List.mem_of_getElem? (i := 112) rfl)), rfl, hnm⟩) (hw _ (List.mem_of_getElem? (i := 39) rfl)) (ty := (.object "java/util/Map")) (by decide) rfl rfl (g := (mkF m 34 #[.val (.ref a1)] [(.ref b8), (.ref a1)])) rfl rfl (hb hby d8_34)
  refine Go.st st10 ?_
  have N10 := Fr.snoc X10 N9 g_a1
  replace F_definitions_a1 := F_definitions_a1.other W10 (Or.inr (slot_ne (a0 := a0) (Or.inr (hw _ (List.mem_of_getElem? (i := 70) rfl))) (Or.inr (hw _ (List.mem_of_getElem? (i := 112) rfl))) (by decide) (t := (.object "java/util/List")) (t' := (.object "java/util/Map")) (by decide) (by decide)))
  replace F_principalAclEnds_a1 := F_principalAclEnds_a1.other W10 (Or.inr (slot_ne (a0 := a0) (Or.inr (hw _ (List.mem_of_getElem? (i := 114) rfl))) (Or.inr (hw _ (List.mem_of_getElem? (i := 112) rfl))) (by decide) (t := (.object "java/util/Map")) (t' := (.object "java/util/Map")) (by decide) (by decide)))
  replace F_usersByName_a1 := F_usersByName_a1.other W10 (Or.inr (slot_ne (a0 := a0) (Or.inr (hw _ (List.mem_of_getElem? (i := 116) rfl))) (Or.inr (hw _ (List.mem_of_getElem? (i := 112) rfl))) (by decide) (t := (.object "java/util/Map")) (t' := (.object "java/util/Map")) (by decide) (by decide)))
  replace F_disabledReasons_a1 := F_disabledReasons_a1.other W10 (Or.inr (slot_ne (a0 := a0) (Or.inr (hw _ (List.mem_of_getElem? (i := 118) rfl))) (Or.inr (hw _ (List.mem_of_getElem? (i := 112) rfl))) (by decide) (t := (.object "java/util/Map")) (t' := (.object "java/util/Map")) (by decide) (by decide)))
  replace F_userEnds_a1 := F_userEnds_a1.other W10 (Or.inr (slot_ne (a0 := a0) (Or.inr (hw _ (List.mem_of_getElem? (i := 120) rfl))) (Or.inr (hw _ (List.mem_of_getElem? (i := 112) rfl))) (by decide) (t := (.object "java/util/Map")) (t' := (.object "java/util/Map")) (by decide) (by decide)))
  replace F_strings_a1 := F_strings_a1.other W10 (Or.inr (slot_ne (a0 := a0) (Or.inr (hw _ (List.mem_of_getElem? (i := 122) rfl))) (Or.inr (hw _ (List.mem_of_getElem? (i := 112) rfl))) (by decide) (t := (.object "java/util/Map")) (t' := (.object "java/util/Map")) (by decide) (by decide)))
  replace F_undo_a1 := F_undo_a1.other W10 (Or.inr (slot_ne (a0 := a0) (Or.inr (hw _ (List.mem_of_getElem? (i := 124) rfl))) (Or.inr (hw _ (List.mem_of_getElem? (i := 112) rfl))) (by decide) (t := (.object "java/util/List")) (t' := (.object "java/util/Map")) (by decide) (by decide)))
  replace F_homePathCharacters_a1 := F_homePathCharacters_a1.other W10 (Or.inr (slot_ne (a0 := a0) (Or.inl (hw _ (List.mem_of_getElem? (i := 131) rfl))) (Or.inr (hw _ (List.mem_of_getElem? (i := 112) rfl))) (by decide) (t := .long) (t' := (.object "java/util/Map")) (by decide) (by decide)))
  replace E_a1 := E_a1.wr W10
  replace E_b2 := E_b2.wr W10
  replace F_size_b2 := F_size_b2.other W10 (Or.inl (Ne.symm ne_a1_b2))
  replace E_b8 := E_b8.wr W10
  replace O := O.wr W10 g_a1
  replace K := K.wr W10 (Or.inl (List.mem_of_getElem? (i := 0) rfl))
  replace Zn : n0 ≤ h10.size := by rw [W10.size]; exact Zn
  replace F_resourceAclEnds_a1 := F_resourceAclEnds_a1.same W10
  clear F_resourceAclEnds_a1
  clear E_b8
  show Go p.tables e below PP (T10.setTop (mkF m 37 #[.val (.ref a1)] []))
  refine Go.st (fun t k => XS.aloadN X10.here hx rfl (hb hby d8_37) rfl rfl k) ?_
  show Go p.tables e below PP (T10.setTop (mkF m 38 #[.val (.ref a1)] [(.ref a1)]))
  obtain ⟨T11, h11, X11, e11, E11, A11, D11, -, st11⟩ := newO X10 hx hZ hown (hw _ (List.mem_of_getElem? (i := 95) rfl)) (hw _ (List.mem_of_getElem? (i := 96) rfl)) (hw _ (List.mem_of_getElem? (i := 97) rfl)) e10 (g := (mkF m 38 #[.val (.ref a1)] [(.ref a1)])) rfl (hb hby d8_38) (by decide) (by decide)
  obtain ⟨b11, gz11⟩ : ∃ z, z = h10.size := ⟨_, rfl⟩
  rw [← gz11] at A11 D11 st11
  have ne_a1_b11 : a1 ≠ b11 := Nat.ne_of_lt (Nat.lt_of_lt_of_le F_definitions_a1.lt (Nat.le_of_eq gz11.symm))
  have ne_b2_b11 : b2 ≠ b11 := Nat.ne_of_lt (Nat.lt_of_lt_of_le E_b2.lt (Nat.le_of_eq gz11.symm))
  have g_b11 : n0 ≤ b11 := Nat.le_trans Zn (Nat.le_of_eq gz11.symm)
  have sz_b11 : h0.size ≤ b11 := Nat.le_trans K.1 (Nat.le_of_eq gz11.symm)
  refine Go.st st11 ?_
  replace F_definitions_a1 := F_definitions_a1.ext E11
  replace F_principalAclEnds_a1 := F_principalAclEnds_a1.ext E11
  replace F_usersByName_a1 := F_usersByName_a1.ext E11
  replace F_disabledReasons_a1 := F_disabledReasons_a1.ext E11
  replace F_userEnds_a1 := F_userEnds_a1.ext E11
  replace F_strings_a1 := F_strings_a1.ext E11
  replace F_undo_a1 := F_undo_a1.ext E11
  replace F_homePathCharacters_a1 := F_homePathCharacters_a1.ext E11
  replace E_a1 := E_a1.ext E11
  replace E_b2 := E_b2.ext E11
  replace F_size_b2 := F_size_b2.ext E11
  replace O := O.ext E11
  replace K := K.ext E11
  replace Zn := Nat.le_trans Zn E11.1
  have E_b11 := A11
  have F_loadFactor_b11 : Fld Z h11 b11 "java/util/HashMap" "loadFactor" "F" _ := D11 (Or.inr (hw _ (List.mem_of_getElem? (i := 110) rfl))) (ty := .float) (by decide)
  show Go p.tables e below PP (T11.setTop (mkF m 41 #[.val (.ref a1)] [(.ref b11), (.ref a1)]))
  refine Go.st (fun t k => XS.dup X11.here hx rfl (hb hby d8_41) rfl rfl k) ?_
  show Go p.tables e below PP (T11.setTop (mkF m 42 #[.val (.ref a1)] [(.ref b11), (.ref b11), (.ref a1)]))
  obtain ⟨v12, T12, L12, X12, hQ12, st12⟩ := callIn X11 hx hZ (y := (⟨"java/util/HashMap", "<init>", "()V"⟩ : MethodName)) (a := b11) (argsL := []) (rest := [(.ref b11), (.ref a1)]) rfl hown (hw _ (List.mem_of_getElem? (i := 98) rfl)) (hw _ (List.mem_of_getElem? (i := 99) rfl)) (hw _ (List.mem_of_getElem? (i := 97) rfl)) (hw _ (List.mem_of_getElem? (i := 100) rfl)) (by decide) (rm15 l Z a0 hw [] b11 h11 n0 Zn F_loadFactor_b11 E_b11 g_b11) e11 2 (by decide) (by decide) (by decide) (by decide) (g := (mkF m 42 #[.val (.ref a1)] [(.ref b11), (.ref b11), (.ref a1)])) rfl (by rw [hml]; rfl) (lenOf pd_8 rfl) rfl (by show 2 * 0 + _ ≤ _; exact Nat.le_of_eq rfl) (hb hby d8_42)
  obtain ⟨h12, e12⟩ : ∃ z, T12.heap = z := ⟨_, rfl⟩
  rw [e12] at hQ12
  obtain ⟨rfl, Nq12, Kq12⟩ := hQ12
  have N12 := Fr.app N10 Nq12
  replace F_definitions_a1 := F_definitions_a1.keep Kq12 (ninS ne_a1_b11 nin0)
  replace F_principalAclEnds_a1 := F_principalAclEnds_a1.keep Kq12 (ninS ne_a1_b11 nin0)
  replace F_usersByName_a1 := F_usersByName_a1.keep Kq12 (ninS ne_a1_b11 nin0)
  replace F_disabledReasons_a1 := F_disabledReasons_a1.keep Kq12 (ninS ne_a1_b11 nin0)
  replace F_userEnds_a1 := F_userEnds_a1.keep Kq12 (ninS ne_a1_b11 nin0)
  replace F_strings_a1 := F_strings_a1.keep Kq12 (ninS ne_a1_b11 nin0)
  replace F_undo_a1 := F_undo_a1.keep Kq12 (ninS ne_a1_b11 nin0)
  replace F_homePathCharacters_a1 := F_homePathCharacters_a1.keep Kq12 (ninS ne_a1_b11 nin0)
  replace E_a1 := E_a1.keep Kq12
  replace E_b2 := E_b2.keep Kq12
  replace F_size_b2 := F_size_b2.keep Kq12 (ninS ne_b2_b11 nin0)
  replace E_b11 := E_b11.keep Kq12
  clear F_loadFactor_b11
  replace O := O.keep Kq12 (allS g_b11 all0)
  replace K := K.trans Kq12 (allS (Or.inr sz_b11) all0)
  replace Zn := Nat.le_trans Zn Kq12.1
  refine Go.st st12 ?_
  show Go p.tables e below PP (T12.setTop (mkF m 45 #[.val (.ref a1)] [(.ref b11), (.ref a1)]))
  obtain ⟨T13, h13, X13, e13, W13, st13⟩ := putF X12 hx hZ hown (host := "") (Or.inl (hw _ (List.mem_of_getElem? (i := 113) rfl))) Via.refl e12 F_principalAclEnds_a1 E_a1 (Or.inr ⟨(hw _ (List.mem_of_getElem? (i := 114) rfl)), rfl, hnm⟩) (hw _ (List.mem_of_getElem? (i := 39) rfl)) (ty := (.object "java/util/Map")) (by decide) rfl rfl (g := (mkF m 45 #[.val (.ref a1)] [(.ref b11), (.ref a1)])) rfl rfl (hb hby d8_45)
  refine Go.st st13 ?_
  have N13 := Fr.snoc X13 N12 g_a1
  replace F_definitions_a1 := F_definitions_a1.other W13 (Or.inr (slot_ne (a0 := a0) (Or.inr (hw _ (List.mem_of_getElem? (i := 70) rfl))) (Or.inr (hw _ (List.mem_of_getElem? (i := 114) rfl))) (by decide) (t := (.object "java/util/List")) (t' := (.object "java/util/Map")) (by decide) (by decide)))
  replace F_usersByName_a1 := F_usersByName_a1.other W13 (Or.inr (slot_ne (a0 := a0) (Or.inr (hw _ (List.mem_of_getElem? (i := 116) rfl))) (Or.inr (hw _ (List.mem_of_getElem? (i := 114) rfl))) (by decide) (t := (.object "java/util/Map")) (t' := (.object "java/util/Map")) (by decide) (by decide)))
  replace F_disabledReasons_a1 := F_disabledReasons_a1.other W13 (Or.inr (slot_ne (a0 := a0) (Or.inr (hw _ (List.mem_of_getElem? (i := 118) rfl))) (Or.inr (hw _ (List.mem_of_getElem? (i := 114) rfl))) (by decide) (t := (.object "java/util/Map")) (t' := (.object "java/util/Map")) (by decide) (by decide)))
  replace F_userEnds_a1 := F_userEnds_a1.other W13 (Or.inr (slot_ne (a0 := a0) (Or.inr (hw _ (List.mem_of_getElem? (i := 120) rfl))) (Or.inr (hw _ (List.mem_of_getElem? (i := 114) rfl))) (by decide) (t := (.object "java/util/Map")) (t' := (.object "java/util/Map")) (by decide) (by decide)))
  replace F_strings_a1 := F_strings_a1.other W13 (Or.inr (slot_ne (a0 := a0) (Or.inr (hw _ (List.mem_of_getElem? (i := 122) rfl))) (Or.inr (hw _ (List.mem_of_getElem? (i := 114) rfl))) (by decide) (t := (.object "java/util/Map")) (t' := (.object "java/util/Map")) (by decide) (by decide)))
  replace F_undo_a1 := F_undo_a1.other W13 (Or.inr (slot_ne (a0 := a0) (Or.inr (hw _ (List.mem_of_getElem? (i := 124) rfl))) (Or.inr (hw _ (List.mem_of_getElem? (i := 114) rfl))) (by decide) (t := (.object "java/util/List")) (t' := (.object "java/util/Map")) (by decide) (by decide)))
  replace F_homePathCharacters_a1 := F_homePathCharacters_a1.other W13 (Or.inr (slot_ne (a0 := a0) (Or.inl (hw _ (List.mem_of_getElem? (i := 131) rfl))) (Or.inr (hw _ (List.mem_of_getElem? (i := 114) rfl))) (by decide) (t := .long) (t' := (.object "java/util/Map")) (by decide) (by decide)))
  replace E_a1 := E_a1.wr W13
  replace E_b2 := E_b2.wr W13
  replace F_size_b2 := F_size_b2.other W13 (Or.inl (Ne.symm ne_a1_b2))
  replace E_b11 := E_b11.wr W13
  replace O := O.wr W13 g_a1
  replace K := K.wr W13 (Or.inl (List.mem_of_getElem? (i := 0) rfl))
  replace Zn : n0 ≤ h13.size := by rw [W13.size]; exact Zn
  replace F_principalAclEnds_a1 := F_principalAclEnds_a1.same W13
  clear F_principalAclEnds_a1
  clear E_b11
  show Go p.tables e below PP (T13.setTop (mkF m 48 #[.val (.ref a1)] []))
  refine Go.st (fun t k => XS.aloadN X13.here hx rfl (hb hby d8_48) rfl rfl k) ?_
  show Go p.tables e below PP (T13.setTop (mkF m 49 #[.val (.ref a1)] [(.ref a1)]))
  obtain ⟨T14, h14, X14, e14, E14, A14, D14, -, st14⟩ := newO X13 hx hZ hown (hw _ (List.mem_of_getElem? (i := 95) rfl)) (hw _ (List.mem_of_getElem? (i := 96) rfl)) (hw _ (List.mem_of_getElem? (i := 97) rfl)) e13 (g := (mkF m 49 #[.val (.ref a1)] [(.ref a1)])) rfl (hb hby d8_49) (by decide) (by decide)
  obtain ⟨b14, gz14⟩ : ∃ z, z = h13.size := ⟨_, rfl⟩
  rw [← gz14] at A14 D14 st14
  have ne_a1_b14 : a1 ≠ b14 := Nat.ne_of_lt (Nat.lt_of_lt_of_le F_definitions_a1.lt (Nat.le_of_eq gz14.symm))
  have ne_b2_b14 : b2 ≠ b14 := Nat.ne_of_lt (Nat.lt_of_lt_of_le E_b2.lt (Nat.le_of_eq gz14.symm))
  have g_b14 : n0 ≤ b14 := Nat.le_trans Zn (Nat.le_of_eq gz14.symm)
  have sz_b14 : h0.size ≤ b14 := Nat.le_trans K.1 (Nat.le_of_eq gz14.symm)
  refine Go.st st14 ?_
  replace F_definitions_a1 := F_definitions_a1.ext E14
  replace F_usersByName_a1 := F_usersByName_a1.ext E14
  replace F_disabledReasons_a1 := F_disabledReasons_a1.ext E14
  replace F_userEnds_a1 := F_userEnds_a1.ext E14
  replace F_strings_a1 := F_strings_a1.ext E14
  replace F_undo_a1 := F_undo_a1.ext E14
  replace F_homePathCharacters_a1 := F_homePathCharacters_a1.ext E14
  replace E_a1 := E_a1.ext E14
  replace E_b2 := E_b2.ext E14
  replace F_size_b2 := F_size_b2.ext E14
  replace O := O.ext E14
  replace K := K.ext E14
  replace Zn := Nat.le_trans Zn E14.1
  have E_b14 := A14
  have F_loadFactor_b14 : Fld Z h14 b14 "java/util/HashMap" "loadFactor" "F" _ := D14 (Or.inr (hw _ (List.mem_of_getElem? (i := 110) rfl))) (ty := .float) (by decide)
  show Go p.tables e below PP (T14.setTop (mkF m 52 #[.val (.ref a1)] [(.ref b14), (.ref a1)]))
  refine Go.st (fun t k => XS.dup X14.here hx rfl (hb hby d8_52) rfl rfl k) ?_
  show Go p.tables e below PP (T14.setTop (mkF m 53 #[.val (.ref a1)] [(.ref b14), (.ref b14), (.ref a1)]))
  obtain ⟨v15, T15, L15, X15, hQ15, st15⟩ := callIn X14 hx hZ (y := (⟨"java/util/HashMap", "<init>", "()V"⟩ : MethodName)) (a := b14) (argsL := []) (rest := [(.ref b14), (.ref a1)]) rfl hown (hw _ (List.mem_of_getElem? (i := 98) rfl)) (hw _ (List.mem_of_getElem? (i := 99) rfl)) (hw _ (List.mem_of_getElem? (i := 97) rfl)) (hw _ (List.mem_of_getElem? (i := 100) rfl)) (by decide) (rm15 l Z a0 hw [] b14 h14 n0 Zn F_loadFactor_b14 E_b14 g_b14) e14 2 (by decide) (by decide) (by decide) (by decide) (g := (mkF m 53 #[.val (.ref a1)] [(.ref b14), (.ref b14), (.ref a1)])) rfl (by rw [hml]; rfl) (lenOf pd_8 rfl) rfl (by show 2 * 0 + _ ≤ _; exact Nat.le_of_eq rfl) (hb hby d8_53)
  obtain ⟨h15, e15⟩ : ∃ z, T15.heap = z := ⟨_, rfl⟩
  rw [e15] at hQ15
  obtain ⟨rfl, Nq15, Kq15⟩ := hQ15
  have N15 := Fr.app N13 Nq15
  replace F_definitions_a1 := F_definitions_a1.keep Kq15 (ninS ne_a1_b14 nin0)
  replace F_usersByName_a1 := F_usersByName_a1.keep Kq15 (ninS ne_a1_b14 nin0)
  replace F_disabledReasons_a1 := F_disabledReasons_a1.keep Kq15 (ninS ne_a1_b14 nin0)
  replace F_userEnds_a1 := F_userEnds_a1.keep Kq15 (ninS ne_a1_b14 nin0)
  replace F_strings_a1 := F_strings_a1.keep Kq15 (ninS ne_a1_b14 nin0)
  replace F_undo_a1 := F_undo_a1.keep Kq15 (ninS ne_a1_b14 nin0)
  replace F_homePathCharacters_a1 := F_homePathCharacters_a1.keep Kq15 (ninS ne_a1_b14 nin0)
  replace E_a1 := E_a1.keep Kq15
  replace E_b2 := E_b2.keep Kq15
  replace F_size_b2 := F_size_b2.keep Kq15 (ninS ne_b2_b14 nin0)
  replace E_b14 := E_b14.keep Kq15
  clear F_loadFactor_b14
  replace O := O.keep Kq15 (allS g_b14 all0)
  replace K := K.trans Kq15 (allS (Or.inr sz_b14) all0)
  replace Zn := Nat.le_trans Zn Kq15.1
  refine Go.st st15 ?_
  show Go p.tables e below PP (T15.setTop (mkF m 56 #[.val (.ref a1)] [(.ref b14), (.ref a1)]))
  obtain ⟨T16, h16, X16, e16, W16, st16⟩ := putF X15 hx hZ hown (host := "") (Or.inl (hw _ (List.mem_of_getElem? (i := 115) rfl))) Via.refl e15 F_usersByName_a1 E_a1 (Or.inr ⟨(hw _ (List.mem_of_getElem? (i := 116) rfl)), rfl, hnm⟩) (hw _ (List.mem_of_getElem? (i := 39) rfl)) (ty := (.object "java/util/Map")) (by decide) rfl rfl (g := (mkF m 56 #[.val (.ref a1)] [(.ref b14), (.ref a1)])) rfl rfl (hb hby d8_56)
  refine Go.st st16 ?_
  have N16 := Fr.snoc X16 N15 g_a1
  replace F_definitions_a1 := F_definitions_a1.other W16 (Or.inr (slot_ne (a0 := a0) (Or.inr (hw _ (List.mem_of_getElem? (i := 70) rfl))) (Or.inr (hw _ (List.mem_of_getElem? (i := 116) rfl))) (by decide) (t := (.object "java/util/List")) (t' := (.object "java/util/Map")) (by decide) (by decide)))
  replace F_disabledReasons_a1 := F_disabledReasons_a1.other W16 (Or.inr (slot_ne (a0 := a0) (Or.inr (hw _ (List.mem_of_getElem? (i := 118) rfl))) (Or.inr (hw _ (List.mem_of_getElem? (i := 116) rfl))) (by decide) (t := (.object "java/util/Map")) (t' := (.object "java/util/Map")) (by decide) (by decide)))
  replace F_userEnds_a1 := F_userEnds_a1.other W16 (Or.inr (slot_ne (a0 := a0) (Or.inr (hw _ (List.mem_of_getElem? (i := 120) rfl))) (Or.inr (hw _ (List.mem_of_getElem? (i := 116) rfl))) (by decide) (t := (.object "java/util/Map")) (t' := (.object "java/util/Map")) (by decide) (by decide)))
  replace F_strings_a1 := F_strings_a1.other W16 (Or.inr (slot_ne (a0 := a0) (Or.inr (hw _ (List.mem_of_getElem? (i := 122) rfl))) (Or.inr (hw _ (List.mem_of_getElem? (i := 116) rfl))) (by decide) (t := (.object "java/util/Map")) (t' := (.object "java/util/Map")) (by decide) (by decide)))
  replace F_undo_a1 := F_undo_a1.other W16 (Or.inr (slot_ne (a0 := a0) (Or.inr (hw _ (List.mem_of_getElem? (i := 124) rfl))) (Or.inr (hw _ (List.mem_of_getElem? (i := 116) rfl))) (by decide) (t := (.object "java/util/List")) (t' := (.object "java/util/Map")) (by decide) (by decide)))
  replace F_homePathCharacters_a1 := F_homePathCharacters_a1.other W16 (Or.inr (slot_ne (a0 := a0) (Or.inl (hw _ (List.mem_of_getElem? (i := 131) rfl))) (Or.inr (hw _ (List.mem_of_getElem? (i := 116) rfl))) (by decide) (t := .long) (t' := (.object "java/util/Map")) (by decide) (by decide)))
  replace E_a1 := E_a1.wr W16
  replace E_b2 := E_b2.wr W16
  replace F_size_b2 := F_size_b2.other W16 (Or.inl (Ne.symm ne_a1_b2))
  replace E_b14 := E_b14.wr W16
  replace O := O.wr W16 g_a1
  replace K := K.wr W16 (Or.inl (List.mem_of_getElem? (i := 0) rfl))
  replace Zn : n0 ≤ h16.size := by rw [W16.size]; exact Zn
  replace F_usersByName_a1 := F_usersByName_a1.same W16
  clear F_usersByName_a1
  clear E_b14
  show Go p.tables e below PP (T16.setTop (mkF m 59 #[.val (.ref a1)] []))
  refine Go.st (fun t k => XS.aloadN X16.here hx rfl (hb hby d8_59) rfl rfl k) ?_
  show Go p.tables e below PP (T16.setTop (mkF m 60 #[.val (.ref a1)] [(.ref a1)]))
  obtain ⟨T17, h17, X17, e17, E17, A17, D17, -, st17⟩ := newO X16 hx hZ hown (hw _ (List.mem_of_getElem? (i := 95) rfl)) (hw _ (List.mem_of_getElem? (i := 96) rfl)) (hw _ (List.mem_of_getElem? (i := 97) rfl)) e16 (g := (mkF m 60 #[.val (.ref a1)] [(.ref a1)])) rfl (hb hby d8_60) (by decide) (by decide)
  obtain ⟨b17, gz17⟩ : ∃ z, z = h16.size := ⟨_, rfl⟩
  rw [← gz17] at A17 D17 st17
  have ne_a1_b17 : a1 ≠ b17 := Nat.ne_of_lt (Nat.lt_of_lt_of_le F_definitions_a1.lt (Nat.le_of_eq gz17.symm))
  have ne_b2_b17 : b2 ≠ b17 := Nat.ne_of_lt (Nat.lt_of_lt_of_le E_b2.lt (Nat.le_of_eq gz17.symm))
  have g_b17 : n0 ≤ b17 := Nat.le_trans Zn (Nat.le_of_eq gz17.symm)
  have sz_b17 : h0.size ≤ b17 := Nat.le_trans K.1 (Nat.le_of_eq gz17.symm)
  refine Go.st st17 ?_
  replace F_definitions_a1 := F_definitions_a1.ext E17
  replace F_disabledReasons_a1 := F_disabledReasons_a1.ext E17
  replace F_userEnds_a1 := F_userEnds_a1.ext E17
  replace F_strings_a1 := F_strings_a1.ext E17
  replace F_undo_a1 := F_undo_a1.ext E17
  replace F_homePathCharacters_a1 := F_homePathCharacters_a1.ext E17
  replace E_a1 := E_a1.ext E17
  replace E_b2 := E_b2.ext E17
  replace F_size_b2 := F_size_b2.ext E17
  replace O := O.ext E17
  replace K := K.ext E17
  replace Zn := Nat.le_trans Zn E17.1
  have E_b17 := A17
  have F_loadFactor_b17 : Fld Z h17 b17 "java/util/HashMap" "loadFactor" "F" _ := D17 (Or.inr (hw _ (List.mem_of_getElem? (i := 110) rfl))) (ty := .float) (by decide)
  show Go p.tables e below PP (T17.setTop (mkF m 63 #[.val (.ref a1)] [(.ref b17), (.ref a1)]))
  refine Go.st (fun t k => XS.dup X17.here hx rfl (hb hby d8_63) rfl rfl k) ?_
  show Go p.tables e below PP (T17.setTop (mkF m 64 #[.val (.ref a1)] [(.ref b17), (.ref b17), (.ref a1)]))
  obtain ⟨v18, T18, L18, X18, hQ18, st18⟩ := callIn X17 hx hZ (y := (⟨"java/util/HashMap", "<init>", "()V"⟩ : MethodName)) (a := b17) (argsL := []) (rest := [(.ref b17), (.ref a1)]) rfl hown (hw _ (List.mem_of_getElem? (i := 98) rfl)) (hw _ (List.mem_of_getElem? (i := 99) rfl)) (hw _ (List.mem_of_getElem? (i := 97) rfl)) (hw _ (List.mem_of_getElem? (i := 100) rfl)) (by decide) (rm15 l Z a0 hw [] b17 h17 n0 Zn F_loadFactor_b17 E_b17 g_b17) e17 2 (by decide) (by decide) (by decide) (by decide) (g := (mkF m 64 #[.val (.ref a1)] [(.ref b17), (.ref b17), (.ref a1)])) rfl (by rw [hml]; rfl) (lenOf pd_8 rfl) rfl (by show 2 * 0 + _ ≤ _; exact Nat.le_of_eq rfl) (hb hby d8_64)
  obtain ⟨h18, e18⟩ : ∃ z, T18.heap = z := ⟨_, rfl⟩
  rw [e18] at hQ18
  obtain ⟨rfl, Nq18, Kq18⟩ := hQ18
  have N18 := Fr.app N16 Nq18
  replace F_definitions_a1 := F_definitions_a1.keep Kq18 (ninS ne_a1_b17 nin0)
  replace F_disabledReasons_a1 := F_disabledReasons_a1.keep Kq18 (ninS ne_a1_b17 nin0)
  replace F_userEnds_a1 := F_userEnds_a1.keep Kq18 (ninS ne_a1_b17 nin0)
  replace F_strings_a1 := F_strings_a1.keep Kq18 (ninS ne_a1_b17 nin0)
  replace F_undo_a1 := F_undo_a1.keep Kq18 (ninS ne_a1_b17 nin0)
  replace F_homePathCharacters_a1 := F_homePathCharacters_a1.keep Kq18 (ninS ne_a1_b17 nin0)
  replace E_a1 := E_a1.keep Kq18
  replace E_b2 := E_b2.keep Kq18
  replace F_size_b2 := F_size_b2.keep Kq18 (ninS ne_b2_b17 nin0)
  replace E_b17 := E_b17.keep Kq18
  clear F_loadFactor_b17
  replace O := O.keep Kq18 (allS g_b17 all0)
  replace K := K.trans Kq18 (allS (Or.inr sz_b17) all0)
  replace Zn := Nat.le_trans Zn Kq18.1
  refine Go.st st18 ?_
  show Go p.tables e below PP (T18.setTop (mkF m 67 #[.val (.ref a1)] [(.ref b17), (.ref a1)]))
  obtain ⟨T19, h19, X19, e19, W19, st19⟩ := putF X18 hx hZ hown (host := "") (Or.inl (hw _ (List.mem_of_getElem? (i := 117) rfl))) Via.refl e18 F_disabledReasons_a1 E_a1 (Or.inr ⟨(hw _ (List.mem_of_getElem? (i := 118) rfl)), rfl, hnm⟩) (hw _ (List.mem_of_getElem? (i := 39) rfl)) (ty := (.object "java/util/Map")) (by decide) rfl rfl (g := (mkF m 67 #[.val (.ref a1)] [(.ref b17), (.ref a1)])) rfl rfl (hb hby d8_67)
  refine Go.st st19 ?_
  have N19 := Fr.snoc X19 N18 g_a1
  replace F_definitions_a1 := F_definitions_a1.other W19 (Or.inr (slot_ne (a0 := a0) (Or.inr (hw _ (List.mem_of_getElem? (i := 70) rfl))) (Or.inr (hw _ (List.mem_of_getElem? (i := 118) rfl))) (by decide) (t := (.object "java/util/List")) (t' := (.object "java/util/Map")) (by decide) (by decide)))
  replace F_userEnds_a1 := F_userEnds_a1.other W19 (Or.inr (slot_ne (a0 := a0) (Or.inr (hw _ (List.mem_of_getElem? (i := 120) rfl))) (Or.inr (hw _ (List.mem_of_getElem? (i := 118) rfl))) (by decide) (t := (.object "java/util/Map")) (t' := (.object "java/util/Map")) (by decide) (by decide)))
  replace F_strings_a1 := F_strings_a1.other W19 (Or.inr (slot_ne (a0 := a0) (Or.inr (hw _ (List.mem_of_getElem? (i := 122) rfl))) (Or.inr (hw _ (List.mem_of_getElem? (i := 118) rfl))) (by decide) (t := (.object "java/util/Map")) (t' := (.object "java/util/Map")) (by decide) (by decide)))
  replace F_undo_a1 := F_undo_a1.other W19 (Or.inr (slot_ne (a0 := a0) (Or.inr (hw _ (List.mem_of_getElem? (i := 124) rfl))) (Or.inr (hw _ (List.mem_of_getElem? (i := 118) rfl))) (by decide) (t := (.object "java/util/List")) (t' := (.object "java/util/Map")) (by decide) (by decide)))
  replace F_homePathCharacters_a1 := F_homePathCharacters_a1.other W19 (Or.inr (slot_ne (a0 := a0) (Or.inl (hw _ (List.mem_of_getElem? (i := 131) rfl))) (Or.inr (hw _ (List.mem_of_getElem? (i := 118) rfl))) (by decide) (t := .long) (t' := (.object "java/util/Map")) (by decide) (by decide)))
  replace E_a1 := E_a1.wr W19
  replace E_b2 := E_b2.wr W19
  replace F_size_b2 := F_size_b2.other W19 (Or.inl (Ne.symm ne_a1_b2))
  replace E_b17 := E_b17.wr W19
  replace O := O.wr W19 g_a1
  replace K := K.wr W19 (Or.inl (List.mem_of_getElem? (i := 0) rfl))
  replace Zn : n0 ≤ h19.size := by rw [W19.size]; exact Zn
  replace F_disabledReasons_a1 := F_disabledReasons_a1.same W19
  clear F_disabledReasons_a1
  clear E_b17
  show Go p.tables e below PP (T19.setTop (mkF m 70 #[.val (.ref a1)] []))
  refine Go.st (fun t k => XS.aloadN X19.here hx rfl (hb hby d8_70) rfl rfl k) ?_
  show Go p.tables e below PP (T19.setTop (mkF m 71 #[.val (.ref a1)] [(.ref a1)]))
  obtain ⟨T20, h20, X20, e20, E20, A20, D20, -, st20⟩ := newO X19 hx hZ hown (hw _ (List.mem_of_getElem? (i := 95) rfl)) (hw _ (List.mem_of_getElem? (i := 96) rfl)) (hw _ (List.mem_of_getElem? (i := 97) rfl)) e19 (g := (mkF m 71 #[.val (.ref a1)] [(.ref a1)])) rfl (hb hby d8_71) (by decide) (by decide)
  obtain ⟨b20, gz20⟩ : ∃ z, z = h19.size := ⟨_, rfl⟩
  rw [← gz20] at A20 D20 st20
  have ne_a1_b20 : a1 ≠ b20 := Nat.ne_of_lt (Nat.lt_of_lt_of_le F_definitions_a1.lt (Nat.le_of_eq gz20.symm))
  have ne_b2_b20 : b2 ≠ b20 := Nat.ne_of_lt (Nat.lt_of_lt_of_le E_b2.lt (Nat.le_of_eq gz20.symm))
  have g_b20 : n0 ≤ b20 := Nat.le_trans Zn (Nat.le_of_eq gz20.symm)
  have sz_b20 : h0.size ≤ b20 := Nat.le_trans K.1 (Nat.le_of_eq gz20.symm)
  refine Go.st st20 ?_
  replace F_definitions_a1 := F_definitions_a1.ext E20
  replace F_userEnds_a1 := F_userEnds_a1.ext E20
  replace F_strings_a1 := F_strings_a1.ext E20
  replace F_undo_a1 := F_undo_a1.ext E20
  replace F_homePathCharacters_a1 := F_homePathCharacters_a1.ext E20
  replace E_a1 := E_a1.ext E20
  replace E_b2 := E_b2.ext E20
  replace F_size_b2 := F_size_b2.ext E20
  replace O := O.ext E20
  replace K := K.ext E20
  replace Zn := Nat.le_trans Zn E20.1
  have E_b20 := A20
  have F_loadFactor_b20 : Fld Z h20 b20 "java/util/HashMap" "loadFactor" "F" _ := D20 (Or.inr (hw _ (List.mem_of_getElem? (i := 110) rfl))) (ty := .float) (by decide)
  show Go p.tables e below PP (T20.setTop (mkF m 74 #[.val (.ref a1)] [(.ref b20), (.ref a1)]))
  refine Go.st (fun t k => XS.dup X20.here hx rfl (hb hby d8_74) rfl rfl k) ?_
  show Go p.tables e below PP (T20.setTop (mkF m 75 #[.val (.ref a1)] [(.ref b20), (.ref b20), (.ref a1)]))
  obtain ⟨v21, T21, L21, X21, hQ21, st21⟩ := callIn X20 hx hZ (y := (⟨"java/util/HashMap", "<init>", "()V"⟩ : MethodName)) (a := b20) (argsL := []) (rest := [(.ref b20), (.ref a1)]) rfl hown (hw _ (List.mem_of_getElem? (i := 98) rfl)) (hw _ (List.mem_of_getElem? (i := 99) rfl)) (hw _ (List.mem_of_getElem? (i := 97) rfl)) (hw _ (List.mem_of_getElem? (i := 100) rfl)) (by decide) (rm15 l Z a0 hw [] b20 h20 n0 Zn F_loadFactor_b20 E_b20 g_b20) e20 2 (by decide) (by decide) (by decide) (by decide) (g := (mkF m 75 #[.val (.ref a1)] [(.ref b20), (.ref b20), (.ref a1)])) rfl (by rw [hml]; rfl) (lenOf pd_8 rfl) rfl (by show 2 * 0 + _ ≤ _; exact Nat.le_of_eq rfl) (hb hby d8_75)
  obtain ⟨h21, e21⟩ : ∃ z, T21.heap = z := ⟨_, rfl⟩
  rw [e21] at hQ21
  obtain ⟨rfl, Nq21, Kq21⟩ := hQ21
  have N21 := Fr.app N19 Nq21
  replace F_definitions_a1 := F_definitions_a1.keep Kq21 (ninS ne_a1_b20 nin0)
  replace F_userEnds_a1 := F_userEnds_a1.keep Kq21 (ninS ne_a1_b20 nin0)
  replace F_strings_a1 := F_strings_a1.keep Kq21 (ninS ne_a1_b20 nin0)
  replace F_undo_a1 := F_undo_a1.keep Kq21 (ninS ne_a1_b20 nin0)
  replace F_homePathCharacters_a1 := F_homePathCharacters_a1.keep Kq21 (ninS ne_a1_b20 nin0)
  replace E_a1 := E_a1.keep Kq21
  replace E_b2 := E_b2.keep Kq21
  replace F_size_b2 := F_size_b2.keep Kq21 (ninS ne_b2_b20 nin0)
  replace E_b20 := E_b20.keep Kq21
  clear F_loadFactor_b20
  replace O := O.keep Kq21 (allS g_b20 all0)
  replace K := K.trans Kq21 (allS (Or.inr sz_b20) all0)
  replace Zn := Nat.le_trans Zn Kq21.1
  refine Go.st st21 ?_
  show Go p.tables e below PP (T21.setTop (mkF m 78 #[.val (.ref a1)] [(.ref b20), (.ref a1)]))
  obtain ⟨T22, h22, X22, e22, W22, st22⟩ := putF X21 hx hZ hown (host := "") (Or.inl (hw _ (List.mem_of_getElem? (i := 119) rfl))) Via.refl e21 F_userEnds_a1 E_a1 (Or.inr ⟨(hw _ (List.mem_of_getElem? (i := 120) rfl)), rfl, hnm⟩) (hw _ (List.mem_of_getElem? (i := 39) rfl)) (ty := (.object "java/util/Map")) (by decide) rfl rfl (g := (mkF m 78 #[.val (.ref a1)] [(.ref b20), (.ref a1)])) rfl rfl (hb hby d8_78)
  refine Go.st st22 ?_
  have N22 := Fr.snoc X22 N21 g_a1
  replace F_definitions_a1 := F_definitions_a1.other W22 (Or.inr (slot_ne (a0 := a0) (Or.inr (hw _ (List.mem_of_getElem? (i := 70) rfl))) (Or.inr (hw _ (List.mem_of_getElem? (i := 120) rfl))) (by decide) (t := (.object "java/util/List")) (t' := (.object "java/util/Map")) (by decide) (by decide)))
  replace F_strings_a1 := F_strings_a1.other W22 (Or.inr (slot_ne (a0 := a0) (Or.inr (hw _ (List.mem_of_getElem? (i := 122) rfl))) (Or.inr (hw _ (List.mem_of_getElem? (i := 120) rfl))) (by decide) (t := (.object "java/util/Map")) (t' := (.object "java/util/Map")) (by decide) (by decide)))
  replace F_undo_a1 := F_undo_a1.other W22 (Or.inr (slot_ne (a0 := a0) (Or.inr (hw _ (List.mem_of_getElem? (i := 124) rfl))) (Or.inr (hw _ (List.mem_of_getElem? (i := 120) rfl))) (by decide) (t := (.object "java/util/List")) (t' := (.object "java/util/Map")) (by decide) (by decide)))
  replace F_homePathCharacters_a1 := F_homePathCharacters_a1.other W22 (Or.inr (slot_ne (a0 := a0) (Or.inl (hw _ (List.mem_of_getElem? (i := 131) rfl))) (Or.inr (hw _ (List.mem_of_getElem? (i := 120) rfl))) (by decide) (t := .long) (t' := (.object "java/util/Map")) (by decide) (by decide)))
  replace E_a1 := E_a1.wr W22
  replace E_b2 := E_b2.wr W22
  replace F_size_b2 := F_size_b2.other W22 (Or.inl (Ne.symm ne_a1_b2))
  replace E_b20 := E_b20.wr W22
  replace O := O.wr W22 g_a1
  replace K := K.wr W22 (Or.inl (List.mem_of_getElem? (i := 0) rfl))
  replace Zn : n0 ≤ h22.size := by rw [W22.size]; exact Zn
  replace F_userEnds_a1 := F_userEnds_a1.same W22
  clear F_userEnds_a1
  clear E_b20
  show Go p.tables e below PP (T22.setTop (mkF m 81 #[.val (.ref a1)] []))
  refine Go.st (fun t k => XS.aloadN X22.here hx rfl (hb hby d8_81) rfl rfl k) ?_
  show Go p.tables e below PP (T22.setTop (mkF m 82 #[.val (.ref a1)] [(.ref a1)]))
  obtain ⟨T23, h23, X23, e23, E23, A23, D23, -, st23⟩ := newO X22 hx hZ hown (hw _ (List.mem_of_getElem? (i := 95) rfl)) (hw _ (List.mem_of_getElem? (i := 96) rfl)) (hw _ (List.mem_of_getElem? (i := 97) rfl)) e22 (g := (mkF m 82 #[.val (.ref a1)] [(.ref a1)])) rfl (hb hby d8_82) (by decide) (by decide)
  obtain ⟨b23, gz23⟩ : ∃ z, z = h22.size := ⟨_, rfl⟩
  rw [← gz23] at A23 D23 st23
  have ne_a1_b23 : a1 ≠ b23 := Nat.ne_of_lt (Nat.lt_of_lt_of_le F_definitions_a1.lt (Nat.le_of_eq gz23.symm))
  have ne_b2_b23 : b2 ≠ b23 := Nat.ne_of_lt (Nat.lt_of_lt_of_le E_b2.lt (Nat.le_of_eq gz23.symm))
  have g_b23 : n0 ≤ b23 := Nat.le_trans Zn (Nat.le_of_eq gz23.symm)
  have sz_b23 : h0.size ≤ b23 := Nat.le_trans K.1 (Nat.le_of_eq gz23.symm)
  refine Go.st st23 ?_
  replace F_definitions_a1 := F_definitions_a1.ext E23
  replace F_strings_a1 := F_strings_a1.ext E23
  replace F_undo_a1 := F_undo_a1.ext E23
  replace F_homePathCharacters_a1 := F_homePathCharacters_a1.ext E23
  replace E_a1 := E_a1.ext E23
  replace E_b2 := E_b2.ext E23
  replace F_size_b2 := F_size_b2.ext E23
  replace O := O.ext E23
  replace K := K.ext E23
  replace Zn := Nat.le_trans Zn E23.1
  have E_b23 := A23
  have F_loadFactor_b23 : Fld Z h23 b23 "java/util/HashMap" "loadFactor" "F" _ := D23 (Or.inr (hw _ (List.mem_of_getElem? (i := 110) rfl))) (ty := .float) (by decide)
  show Go p.tables e below PP (T23.setTop (mkF m 85 #[.val (.ref a1)] [(.ref b23), (.ref a1)]))
  refine Go.st (fun t k => XS.dup X23.here hx rfl (hb hby d8_85) rfl rfl k) ?_
  show Go p.tables e below PP (T23.setTop (mkF m 86 #[.val (.ref a1)] [(.ref b23), (.ref b23), (.ref a1)]))
  obtain ⟨v24, T24, L24, X24, hQ24, st24⟩ := callIn X23 hx hZ (y := (⟨"java/util/HashMap", "<init>", "()V"⟩ : MethodName)) (a := b23) (argsL := []) (rest := [(.ref b23), (.ref a1)]) rfl hown (hw _ (List.mem_of_getElem? (i := 98) rfl)) (hw _ (List.mem_of_getElem? (i := 99) rfl)) (hw _ (List.mem_of_getElem? (i := 97) rfl)) (hw _ (List.mem_of_getElem? (i := 100) rfl)) (by decide) (rm15 l Z a0 hw [] b23 h23 n0 Zn F_loadFactor_b23 E_b23 g_b23) e23 2 (by decide) (by decide) (by decide) (by decide) (g := (mkF m 86 #[.val (.ref a1)] [(.ref b23), (.ref b23), (.ref a1)])) rfl (by rw [hml]; rfl) (lenOf pd_8 rfl) rfl (by show 2 * 0 + _ ≤ _; exact Nat.le_of_eq rfl) (hb hby d8_86)
  obtain ⟨h24, e24⟩ : ∃ z, T24.heap = z := ⟨_, rfl⟩
  rw [e24] at hQ24
  obtain ⟨rfl, Nq24, Kq24⟩ := hQ24
  have N24 := Fr.app N22 Nq24
  replace F_definitions_a1 := F_definitions_a1.keep Kq24 (ninS ne_a1_b23 nin0)
  replace F_strings_a1 := F_strings_a1.keep Kq24 (ninS ne_a1_b23 nin0)
  replace F_undo_a1 := F_undo_a1.keep Kq24 (ninS ne_a1_b23 nin0)
  replace F_homePathCharacters_a1 := F_homePathCharacters_a1.keep Kq24 (ninS ne_a1_b23 nin0)
  replace E_a1 := E_a1.keep Kq24
  replace E_b2 := E_b2.keep Kq24
  replace F_size_b2 := F_size_b2.keep Kq24 (ninS ne_b2_b23 nin0)
  replace E_b23 := E_b23.keep Kq24
  clear F_loadFactor_b23
  replace O := O.keep Kq24 (allS g_b23 all0)
  replace K := K.trans Kq24 (allS (Or.inr sz_b23) all0)
  replace Zn := Nat.le_trans Zn Kq24.1
  refine Go.st st24 ?_
  show Go p.tables e below PP (T24.setTop (mkF m 89 #[.val (.ref a1)] [(.ref b23), (.ref a1)]))
  obtain ⟨T25, h25, X25, e25, W25, st25⟩ := putF X24 hx hZ hown (host := "") (Or.inl (hw _ (List.mem_of_getElem? (i := 121) rfl))) Via.refl e24 F_strings_a1 E_a1 (Or.inr ⟨(hw _ (List.mem_of_getElem? (i := 122) rfl)), rfl, hnm⟩) (hw _ (List.mem_of_getElem? (i := 39) rfl)) (ty := (.object "java/util/Map")) (by decide) rfl rfl (g := (mkF m 89 #[.val (.ref a1)] [(.ref b23), (.ref a1)])) rfl rfl (hb hby d8_89)
  refine Go.st st25 ?_
  have N25 := Fr.snoc X25 N24 g_a1
  replace F_definitions_a1 := F_definitions_a1.other W25 (Or.inr (slot_ne (a0 := a0) (Or.inr (hw _ (List.mem_of_getElem? (i := 70) rfl))) (Or.inr (hw _ (List.mem_of_getElem? (i := 122) rfl))) (by decide) (t := (.object "java/util/List")) (t' := (.object "java/util/Map")) (by decide) (by decide)))
  replace F_undo_a1 := F_undo_a1.other W25 (Or.inr (slot_ne (a0 := a0) (Or.inr (hw _ (List.mem_of_getElem? (i := 124) rfl))) (Or.inr (hw _ (List.mem_of_getElem? (i := 122) rfl))) (by decide) (t := (.object "java/util/List")) (t' := (.object "java/util/Map")) (by decide) (by decide)))
  replace F_homePathCharacters_a1 := F_homePathCharacters_a1.other W25 (Or.inr (slot_ne (a0 := a0) (Or.inl (hw _ (List.mem_of_getElem? (i := 131) rfl))) (Or.inr (hw _ (List.mem_of_getElem? (i := 122) rfl))) (by decide) (t := .long) (t' := (.object "java/util/Map")) (by decide) (by decide)))
  replace E_a1 := E_a1.wr W25
  replace E_b2 := E_b2.wr W25
  replace F_size_b2 := F_size_b2.other W25 (Or.inl (Ne.symm ne_a1_b2))
  replace E_b23 := E_b23.wr W25
  replace O := O.wr W25 g_a1
  replace K := K.wr W25 (Or.inl (List.mem_of_getElem? (i := 0) rfl))
  replace Zn : n0 ≤ h25.size := by rw [W25.size]; exact Zn
  replace F_strings_a1 := F_strings_a1.same W25
  clear F_strings_a1
  clear E_b23
  show Go p.tables e below PP (T25.setTop (mkF m 92 #[.val (.ref a1)] []))
  refine Go.st (fun t k => XS.aloadN X25.here hx rfl (hb hby d8_92) rfl rfl k) ?_
  show Go p.tables e below PP (T25.setTop (mkF m 93 #[.val (.ref a1)] [(.ref a1)]))
  obtain ⟨T26, h26, X26, e26, E26, A26, D26, -, st26⟩ := newO X25 hx hZ hown (hw _ (List.mem_of_getElem? (i := 45) rfl)) (hw _ (List.mem_of_getElem? (i := 46) rfl)) (hw _ (List.mem_of_getElem? (i := 47) rfl)) e25 (g := (mkF m 93 #[.val (.ref a1)] [(.ref a1)])) rfl (hb hby d8_93) (by decide) (by decide)
  obtain ⟨b26, gz26⟩ : ∃ z, z = h25.size := ⟨_, rfl⟩
  rw [← gz26] at A26 D26 st26
  have ne_a1_b26 : a1 ≠ b26 := Nat.ne_of_lt (Nat.lt_of_lt_of_le F_definitions_a1.lt (Nat.le_of_eq gz26.symm))
  have ne_b2_b26 : b2 ≠ b26 := Nat.ne_of_lt (Nat.lt_of_lt_of_le E_b2.lt (Nat.le_of_eq gz26.symm))
  have g_b26 : n0 ≤ b26 := Nat.le_trans Zn (Nat.le_of_eq gz26.symm)
  have sz_b26 : h0.size ≤ b26 := Nat.le_trans K.1 (Nat.le_of_eq gz26.symm)
  refine Go.st st26 ?_
  replace F_definitions_a1 := F_definitions_a1.ext E26
  replace F_undo_a1 := F_undo_a1.ext E26
  replace F_homePathCharacters_a1 := F_homePathCharacters_a1.ext E26
  replace E_a1 := E_a1.ext E26
  replace E_b2 := E_b2.ext E26
  replace F_size_b2 := F_size_b2.ext E26
  replace O := O.ext E26
  replace K := K.ext E26
  replace Zn := Nat.le_trans Zn E26.1
  have E_b26 := A26
  have F_modCount_b26 : Fld Z h26 b26 "java/util/AbstractList" "modCount" "I" (.int (0 : Int32)) := D26 (Or.inl (hw _ (List.mem_of_getElem? (i := 65) rfl))) (ty := .int) (by decide)
  have F_elementData_b26 : Fld Z h26 b26 "java/util/ArrayList" "elementData" "[Ljava/lang/Object;" .null := D26 (Or.inl (hw _ (List.mem_of_getElem? (i := 68) rfl))) (ty := (.array (.object "java/lang/Object"))) (by decide)
  have F_size_b26 : Fld Z h26 b26 "java/util/ArrayList" "size" "I" (.int (0 : Int32)) := D26 (Or.inl (hw _ (List.mem_of_getElem? (i := 162) rfl))) (ty := .int) (by decide)
  show Go p.tables e below PP (T26.setTop (mkF m 96 #[.val (.ref a1)] [(.ref b26), (.ref a1)]))
  refine Go.st (fun t k => XS.dup X26.here hx rfl (hb hby d8_96) rfl rfl k) ?_
  show Go p.tables e below PP (T26.setTop (mkF m 97 #[.val (.ref a1)] [(.ref b26), (.ref b26), (.ref a1)]))
  obtain ⟨v27, T27, L27, X27, hQ27, st27⟩ := callIn X26 hx hZ (y := (⟨"java/util/ArrayList", "<init>", "()V"⟩ : MethodName)) (a := b26) (argsL := []) (rest := [(.ref b26), (.ref a1)]) rfl hown (hw _ (List.mem_of_getElem? (i := 48) rfl)) (hw _ (List.mem_of_getElem? (i := 49) rfl)) (hw _ (List.mem_of_getElem? (i := 47) rfl)) (hw _ (List.mem_of_getElem? (i := 50) rfl)) (by decide) (rm9 l Z a0 hw [] b26 ae h26 n0 Zn F_modCount_b26 F_elementData_b26 F_size_b26 E_b26 g_b26 SE O) e26 2 (by decide) (by decide) (by decide) (by decide) (g := (mkF m 97 #[.val (.ref a1)] [(.ref b26), (.ref b26), (.ref a1)])) rfl (by rw [hml]; rfl) (lenOf pd_8 rfl) rfl (by show 2 * 0 + _ ≤ _; exact Nat.le_of_eq rfl) (hb hby d8_97)
  obtain ⟨h27, e27⟩ : ∃ z, T27.heap = z := ⟨_, rfl⟩
  rw [e27] at hQ27
  obtain ⟨rfl, Nq27, Kq27, Fq27_0⟩ := hQ27
  have N27 := Fr.app N25 Nq27
  replace F_definitions_a1 := F_definitions_a1.keep Kq27 (ninS ne_a1_b26 nin0)
  replace F_undo_a1 := F_undo_a1.keep Kq27 (ninS ne_a1_b26 nin0)
  replace F_homePathCharacters_a1 := F_homePathCharacters_a1.keep Kq27 (ninS ne_a1_b26 nin0)
  replace E_a1 := E_a1.keep Kq27
  replace E_b2 := E_b2.keep Kq27
  replace F_size_b2 := F_size_b2.keep Kq27 (ninS ne_b2_b26 nin0)
  replace E_b26 := E_b26.keep Kq27
  clear F_modCount_b26
  clear F_elementData_b26
  clear F_size_b26
  replace O := O.keep Kq27 (allS g_b26 all0)
  replace K := K.trans Kq27 (allS (Or.inr sz_b26) all0)
  replace Zn := Nat.le_trans Zn Kq27.1
  have F_size_b26 := Fq27_0
  refine Go.st st27 ?_
  show Go p.tables e below PP (T27.setTop (mkF m 100 #[.val (.ref a1)] [(.ref b26), (.ref a1)]))
  obtain ⟨T28, h28, X28, e28, W28, st28⟩ := putF X27 hx hZ hown (host := "") (Or.inl (hw _ (List.mem_of_getElem? (i := 123) rfl))) Via.refl e27 F_undo_a1 E_a1 (Or.inr ⟨(hw _ (List.mem_of_getElem? (i := 124) rfl)), rfl, hnm⟩) (hw _ (List.mem_of_getElem? (i := 39) rfl)) (ty := (.object "java/util/List")) (by decide) rfl rfl (g := (mkF m 100 #[.val (.ref a1)] [(.ref b26), (.ref a1)])) rfl rfl (hb hby d8_100)
  refine Go.st st28 ?_
  have N28 := Fr.snoc X28 N27 g_a1
  replace F_definitions_a1 := F_definitions_a1.other W28 (Or.inr (slot_ne (a0 := a0) (Or.inr (hw _ (List.mem_of_getElem? (i := 70) rfl))) (Or.inr (hw _ (List.mem_of_getElem? (i := 124) rfl))) (by decide) (t := (.object "java/util/List")) (t' := (.object "java/util/List")) (by decide) (by decide)))
  replace F_homePathCharacters_a1 := F_homePathCharacters_a1.other W28 (Or.inr (slot_ne (a0 := a0) (Or.inl (hw _ (List.mem_of_getElem? (i := 131) rfl))) (Or.inr (hw _ (List.mem_of_getElem? (i := 124) rfl))) (by decide) (t := .long) (t' := (.object "java/util/List")) (by decide) (by decide)))
  replace E_a1 := E_a1.wr W28
  replace E_b2 := E_b2.wr W28
  replace F_size_b2 := F_size_b2.other W28 (Or.inl (Ne.symm ne_a1_b2))
  replace E_b26 := E_b26.wr W28
  replace F_size_b26 := F_size_b26.other W28 (Or.inl (Ne.symm ne_a1_b26))
  replace O := O.wr W28 g_a1
  replace K := K.wr W28 (Or.inl (List.mem_of_getElem? (i := 0) rfl))
  replace Zn : n0 ≤ h28.size := by rw [W28.size]; exact Zn
  replace F_undo_a1 := F_undo_a1.same W28
  clear F_undo_a1
  clear E_b26
  clear F_size_b26
  show Go p.tables e below PP (T28.setTop (mkF m 103 #[.val (.ref a1)] []))
  rw [hPP]
  refine endV X28 hx hlk hret (hb hby d8_103) ?_ (by decide) (by decide)
  show Q8 Z a1 ae h0 n0 none T28.heap _
  rw [e28]
  exact ⟨b2, rfl, N28, K, sz_b2, F_definitions_a1, F_homePathCharacters_a1, E_b2, F_size_b2⟩
theorem d17_0 : decode prog_70_method_9_code 0 = .ok (.aload_n 0, 1) := by decide +kernel
theorem d17_1 : decode prog_70_method_9_code 1 = .ok (.getfield 113, 3) := by decide +kernel
theorem d17_4 : decode prog_70_method_9_code 4 = .ok (.lreturn, 1) := by decide +kernel
theorem pn_rm17 : plainName "com/example/strict_roles/strictroles/formats/StandingDefinitions" = true := by first | (simp [plainName, overriddenIn]; done) | decide +kernel
theorem ef_rm17 (m : MethodId) (a1 : Addr) : entryFrame m #[(.ref a1)] 1 = mkF m 0 #[.val (.ref a1)] [] := by first | (simp [entryFrame, mkF, argsToLocals, Value.category]; done) | rfl
def Q17 (Z : State) (a1 : Addr) (hv : Int64) (h0 : Heap) (n0 : Nat) (v : Option Value) (h : Heap) (L : List Loc) : Prop := v = some (.long hv) ∧ L = [] ∧ h = h0
set_option maxRecDepth 65536 in
set_option maxHeartbeats 40000000 in
theorem rm17 (l : Launch) (Z : State) (a0 : Array Value) (hw : ∀ d ∈ tables_1, d.before a0 Z = true) (ws : List Jvm.Cond) (a1 : Addr) (hv : Int64) (h0 : Heap) (n0 : Nat) (Z0 : n0 ≤ h0.size) (F_homePathCharacters_a1 : Fld Z h0 a1 "com/example/strict_roles/strictroles/formats/StandingDefinitions" "homePathCharacters" "J" (.long hv)) :
    Con l Z (⟨"com/example/strict_roles/strictroles/formats/StandingDefinitions", "homePathCharacters", "()J"⟩ : MethodName) prog_70_method_9_code 1 (some .long) ws ({ frames := 0, cells := 0, slots := 0, locals := 0 } : Room) #[(.ref a1)] h0 (Q17 Z a1 hv h0 n0) := by
  refine Con.of (plainFor_of_name pn_rm17) ?_
  intro p e s m below meth c s₁ hZ e0 X0 hx hby hml hown hnm hret hlk
  replace hml : c.maxLocals = 1 := hml
  have hown : s.vm.findClass "com/example/strict_roles/strictroles/formats/StandingDefinitions" = some m.cls := hown
  have N0 : Fr n0 [] := Fr.nil n0
  obtain ⟨PP, hPP⟩ : ∃ P, P = Fine s below (Q17 Z a1 hv h0 n0) ({ frames := 0, cells := 0, slots := 0, locals := 0 } : Room).cells ({ frames := 0, cells := 0, slots := 0, locals := 0 } : Room).slots := ⟨_, rfl⟩
  rw [← hPP]
  refine Go.cast (ef_rm17 m a1) ?_
  have Zn : n0 ≤ h0.size := Z0
  show Go p.tables e below PP (s₁.setTop (mkF m 0 #[.val (.ref a1)] []))
  refine Go.st (fun t k => XS.aloadN X0.here hx rfl (hb hby d17_0) rfl rfl k) ?_
  show Go p.tables e below PP (s₁.setTop (mkF m 1 #[.val (.ref a1)] [(.ref a1)]))
  obtain ⟨T1, X1, e1, st1⟩ := getF X0 hx hZ hown (host := "") (Or.inl (hw _ (List.mem_of_getElem? (i := 130) rfl))) Via.refl e0 F_homePathCharacters_a1 (g := (mkF m 1 #[.val (.ref a1)] [(.ref a1)])) rfl rfl (hb hby d17_1)
  refine Go.st st1 ?_
  show Go p.tables e below PP (T1.setTop (mkF m 4 #[.val (.ref a1)] [(.long hv)]))
  rw [hPP]
  refine endJ X1 hx hlk hret (hb hby d17_4) ?_ (by decide) (by decide)
  show Q17 Z a1 hv h0 n0 (some (.long hv)) T1.heap _
  rw [e1]
  exact ⟨rfl, rfl, rfl⟩
theorem d18_0 : decode prog_70_method_10_code 0 = .ok (.aload_n 0, 1) := by decide +kernel
theorem d18_1 : decode prog_70_method_10_code 1 = .ok (.dup, 1) := by decide +kernel
theorem d18_2 : decode prog_70_method_10_code 2 = .ok (.getfield 113, 3) := by decide +kernel
theorem d18_5 : decode prog_70_method_10_code 5 = .ok (.aload_n 1, 1) := by decide +kernel
theorem d18_6 : decode prog_70_method_10_code 6 = .ok (.invokevirtual 117, 3) := by decide +kernel
theorem d18_9 : decode prog_70_method_10_code 9 = .ok (.i2l, 1) := by decide +kernel
theorem d18_10 : decode prog_70_method_10_code 10 = .ok (.ladd, 1) := by decide +kernel
theorem d18_11 : decode prog_70_method_10_code 11 = .ok (.putfield 113, 3) := by decide +kernel
theorem d18_14 : decode prog_70_method_10_code 14 = .ok (.return_, 1) := by decide +kernel
theorem pn_rm18 : plainName "com/example/strict_roles/strictroles/formats/StandingDefinitions" = true := by first | (simp [plainName, overriddenIn]; done) | decide +kernel
theorem ef_rm18 (m : MethodId) (a1 : Addr) (a2 : Addr) : entryFrame m #[(.ref a1), (.ref a2)] 2 = mkF m 0 #[.val (.ref a1), .val (.ref a2)] [] := by first | (simp [entryFrame, mkF, argsToLocals, Value.category]; done) | rfl
def Q18 (Z : State) (a1 : Addr) (a2 : Addr) (hv : Int64) (al : Addr) (t2 : Addr) (n2 : Int32) (f2 : Nat → Int32) (zc : Int32) (h0 : Heap) (n0 : Nat) (v : Option Value) (h : Heap) (L : List Loc) : Prop := v = none ∧ Fr n0 L ∧ Keep h0 h [a1] ∧ Fld Z h a1 "com/example/strict_roles/strictroles/formats/StandingDefinitions" "homePathCharacters" "J" (.long (hv + (n2.toInt64))) ∧ Fld Z h a1 "com/example/strict_roles/strictroles/formats/StandingDefinitions" "definitions" "Ljava/util/List;" (.ref al)
theorem pd_11 : parseMethodDescriptor "()I" = some ⟨[], some .int⟩ := by decide +kernel
set_option maxRecDepth 65536 in
set_option maxHeartbeats 40000000 in
theorem rm18 (l : Launch) (Z : State) (a0 : Array Value) (hw : ∀ d ∈ tables_1, d.before a0 Z = true) (ws : List Jvm.Cond) (a1 : Addr) (a2 : Addr) (hv : Int64) (al : Addr) (t2 : Addr) (n2 : Int32) (f2 : Nat → Int32) (zc : Int32) (h0 : Heap) (n0 : Nat) (Z0 : n0 ≤ h0.size) (F_homePathCharacters_a1 : Fld Z h0 a1 "com/example/strict_roles/strictroles/formats/StandingDefinitions" "homePathCharacters" "J" (.long hv)) (F_definitions_a1 : Fld Z h0 a1 "com/example/strict_roles/strictroles/formats/StandingDefinitions" "definitions" "Ljava/util/List;" (.ref al)) (E_a1 : Exa Z h0 a1 "com/example/strict_roles/strictroles/formats/StandingDefinitions") (g_a1 : n0 ≤ a1) (hn1 : a1 ≠ a2) (hn2 : a1 ≠ t2) (F_value_a2 : Fld Z h0 a2 "java/lang/String" "value" "[B" (.ref t2)) (F_coder_a2 : Fld Z h0 a2 "java/lang/String" "coder" "B" (.int (0 : Int32))) (V_t2 : Afn Z h0 t2 .byte n2 (fun k => .int (f2 k))) (E_a2 : Exa Z h0 a2 "java/lang/String") (SC : Sta Z Z.heap "java/lang/String" "COMPACT_STRINGS" "Z" (.int zc)) (hzc : ¬ zc = (0 : Int32)) (O : Old Z n0 h0) :
    Con l Z (⟨"com/example/strict_roles/strictroles/formats/StandingDefinitions", "countHomePath", "(Ljava/lang/String;)V"⟩ : MethodName) prog_70_method_10_code 2 none ws ({ frames := 2, cells := 0, slots := 0, locals := 28 } : Room) #[(.ref a1), (.ref a2)] h0 (Q18 Z a1 a2 hv al t2 n2 f2 zc h0 n0) := by
  refine Con.of (plainFor_of_name pn_rm18) ?_
  intro p e s m below meth c s₁ hZ e0 X0 hx hby hml hown hnm hret hlk
  replace hml : c.maxLocals = 2 := hml
  have hown : s.vm.findClass "com/example/strict_roles/strictroles/formats/StandingDefinitions" = some m.cls := hown
  have N0 : Fr n0 [] := Fr.nil n0
  obtain ⟨PP, hPP⟩ : ∃ P, P = Fine s below (Q18 Z a1 a2 hv al t2 n2 f2 zc h0 n0) ({ frames := 2, cells := 0, slots := 0, locals := 28 } : Room).cells ({ frames := 2, cells := 0, slots := 0, locals := 28 } : Room).slots := ⟨_, rfl⟩
  rw [← hPP]
  refine Go.cast (ef_rm18 m a1 a2) ?_
  have K : Keep h0 h0 [a1] := Keep.refl h0 _
  have Zn : n0 ≤ h0.size := Z0
  show Go p.tables e below PP (s₁.setTop (mkF m 0 #[.val (.ref a1), .val (.ref a2)] []))
  refine Go.st (fun t k => XS.aloadN X0.here hx rfl (hb hby d18_0) rfl rfl k) ?_
  show Go p.tables e below PP (s₁.setTop (mkF m 1 #[.val (.ref a1), .val (.ref a2)] [(.ref a1)]))
  refine Go.st (fun t k => XS.dup X0.here hx rfl (hb hby d18_1) rfl rfl k) ?_
  show Go p.tables e below PP (s₁.setTop (mkF m 2 #[.val (.ref a1), .val (.ref a2)] [(.ref a1), (.ref a1)]))
  obtain ⟨T1, X1, e1, st1⟩ := getF X0 hx hZ hown (host := "") (Or.inl (hw _ (List.mem_of_getElem? (i := 130) rfl))) Via.refl e0 F_homePathCharacters_a1 (g := (mkF m 2 #[.val (.ref a1), .val (.ref a2)] [(.ref a1), (.ref a1)])) rfl rfl (hb hby d18_2)
  refine Go.st st1 ?_
  show Go p.tables e below PP (T1.setTop (mkF m 5 #[.val (.ref a1), .val (.ref a2)] [(.long hv), (.ref a1)]))
  refine Go.st (fun t k => XS.aloadN X1.here hx rfl (hb hby d18_5) rfl rfl k) ?_
  show Go p.tables e below PP (T1.setTop (mkF m 6 #[.val (.ref a1), .val (.ref a2)] [(.ref a2), (.long hv), (.ref a1)]))
  obtain ⟨v2, T2, L2, X2, hQ2, st2⟩ := callVi X1 hx hZ (C := "java/lang/String") (y := (⟨"java/lang/String", "length", "()I"⟩ : MethodName)) (z := (⟨"java/lang/String", "length", "()I"⟩ : MethodName)) (a := a2) (argsL := []) (rest := [(.long hv), (.ref a1)]) hown (hw _ (List.mem_of_getElem? (i := 137) rfl)) (hw _ (List.mem_of_getElem? (i := 138) rfl)) (notFace_of_selects (args := #[]) (mvT hZ (hw _ (List.mem_of_getElem? (i := 140) rfl)))) (hw _ (List.mem_of_getElem? (i := 140) rfl)) (hw _ (List.mem_of_getElem? (i := 139) rfl)) (hw _ (List.mem_of_getElem? (i := 7) rfl)) (hw _ (List.mem_of_getElem? (i := 141) rfl)) (by decide) rfl E_a2 (rm19 l Z a0 hw [] a2 t2 n2 f2 zc h0 n0 Zn F_value_a2 F_coder_a2 V_t2 E_a2 SC hzc O) e1 3 (by decide) (by decide) (by decide) (by decide) (g := (mkF m 6 #[.val (.ref a1), .val (.ref a2)] [(.ref a2), (.long hv), (.ref a1)])) rfl (by rw [hml]; rfl) (lenOf pd_11 rfl) rfl (by show 2 * 0 + _ ≤ _; exact Nat.le_of_eq rfl) (hb hby d18_6)
  obtain ⟨rfl, rfl, e2⟩ := hQ2
  rw [List.append_nil] at X2
  refine Go.st st2 ?_
  show Go p.tables e below PP (T2.setTop (mkF m 9 #[.val (.ref a1), .val (.ref a2)] [(.int n2), (.long hv), (.ref a1)]))
  refine Go.st (fun t k => XS.i2l X2.here hx rfl (hb hby d18_9) rfl k) ?_
  show Go p.tables e below PP (T2.setTop (mkF m 10 #[.val (.ref a1), .val (.ref a2)] [(.long (n2.toInt64)), (.long hv), (.ref a1)]))
  refine Go.st (fun t k => XS.ladd X2.here hx rfl (hb hby d18_10) rfl k) ?_
  show Go p.tables e below PP (T2.setTop (mkF m 11 #[.val (.ref a1), .val (.ref a2)] [(.long (hv + (n2.toInt64))), (.ref a1)]))
  obtain ⟨T3, h3, X3, e3, W3, st3⟩ := putF X2 hx hZ hown (host := "") (Or.inl (hw _ (List.mem_of_getElem? (i := 130) rfl))) Via.refl e2 F_homePathCharacters_a1 E_a1 (Or.inl (hw _ (List.mem_of_getElem? (i := 131) rfl))) (hw _ (List.mem_of_getElem? (i := 39) rfl)) (ty := .long) (by decide) rfl rfl (g := (mkF m 11 #[.val (.ref a1), .val (.ref a2)] [(.long (hv + (n2.toInt64))), (.ref a1)])) rfl rfl (hb hby d18_11)
  refine Go.st st3 ?_
  have N3 := Fr.snoc X3 N0 g_a1
  replace F_definitions_a1 := F_definitions_a1.other W3 (Or.inr (slot_ne (a0 := a0) (Or.inr (hw _ (List.mem_of_getElem? (i := 70) rfl))) (Or.inl (hw _ (List.mem_of_getElem? (i := 131) rfl))) (by decide) (t := (.object "java/util/List")) (t' := .long) (by decide) (by decide)))
  replace E_a1 := E_a1.wr W3
  replace F_value_a2 := F_value_a2.other W3 (Or.inl (Ne.symm hn1))
  replace F_coder_a2 := F_coder_a2.other W3 (Or.inl (Ne.symm hn1))
  replace V_t2 := V_t2.other W3 (Ne.symm hn2)
  replace E_a2 := E_a2.wr W3
  replace O := O.wr W3 g_a1
  replace K := K.wr W3 (Or.inl (List.mem_of_getElem? (i := 0) rfl))
  replace Zn : n0 ≤ h3.size := by rw [W3.size]; exact Zn
  replace F_homePathCharacters_a1 := F_homePathCharacters_a1.same W3
  show Go p.tables e below PP (T3.setTop (mkF m 14 #[.val (.ref a1), .val (.ref a2)] []))
  rw [hPP]
  refine endV X3 hx hlk hret (hb hby d18_14) ?_ (by decide) (by decide)
  show Q18 Z a1 a2 hv al t2 n2 f2 zc h0 n0 none T3.heap _
  rw [e3]
  exact ⟨rfl, N3, K, F_homePathCharacters_a1, F_definitions_a1⟩
theorem d22_0 : decode jdk_38_method_8_code 0 = .ok (.aload_n 0, 1) := by decide +kernel
theorem d22_1 : decode jdk_38_method_8_code 1 = .ok (.getfield 48, 3) := by decide +kernel
theorem d22_4 : decode jdk_38_method_8_code 4 = .ok (.ireturn, 1) := by decide +kernel
theorem pn_rm22 : plainName "java/util/ArrayList" = true := by first | (simp [plainName, overriddenIn]; done) | decide +kernel
theorem ef_rm22 (m : MethodId) (a1 : Addr) : entryFrame m #[(.ref a1)] 1 = mkF m 0 #[.val (.ref a1)] [] := by first | (simp [entryFrame, mkF, argsToLocals, Value.category]; done) | rfl
def Q22 (Z : State) (a1 : Addr) (sz : Int32) (h0 : Heap) (n0 : Nat) (v : Option Value) (h : Heap) (L : List Loc) : Prop := v = some (.int sz) ∧ L = [] ∧ h = h0
set_option maxRecDepth 65536 in
set_option maxHeartbeats 40000000 in
theorem rm22 (l : Launch) (Z : State) (a0 : Array Value) (hw : ∀ d ∈ tables_1, d.before a0 Z = true) (ws : List Jvm.Cond) (a1 : Addr) (sz : Int32) (h0 : Heap) (n0 : Nat) (Z0 : n0 ≤ h0.size) (F_size_a1 : Fld Z h0 a1 "java/util/ArrayList" "size" "I" (.int sz)) :
    Con l Z (⟨"java/util/ArrayList", "size", "()I"⟩ : MethodName) jdk_38_method_8_code 1 (some .int) ws ({ frames := 0, cells := 0, slots := 0, locals := 0 } : Room) #[(.ref a1)] h0 (Q22 Z a1 sz h0 n0) := by
  refine Con.of (plainFor_of_name pn_rm22) ?_
  intro p e s m below meth c s₁ hZ e0 X0 hx hby hml hown hnm hret hlk
  replace hml : c.maxLocals = 1 := hml
  have hown : s.vm.findClass "java/util/ArrayList" = some m.cls := hown
  have N0 : Fr n0 [] := Fr.nil n0
  obtain ⟨PP, hPP⟩ : ∃ P, P = Fine s below (Q22 Z a1 sz h0 n0) ({ frames := 0, cells := 0, slots := 0, locals := 0 } : Room).cells ({ frames := 0, cells := 0, slots := 0, locals := 0 } : Room).slots := ⟨_, rfl⟩
  rw [← hPP]
  refine Go.cast (ef_rm22 m a1) ?_
  have Zn : n0 ≤ h0.size := Z0
  show Go p.tables e below PP (s₁.setTop (mkF m 0 #[.val (.ref a1)] []))
  refine Go.st (fun t k => XS.aloadN X0.here hx rfl (hb hby d22_0) rfl rfl k) ?_
  show Go p.tables e below PP (s₁.setTop (mkF m 1 #[.val (.ref a1)] [(.ref a1)]))
  obtain ⟨T1, X1, e1, st1⟩ := getF X0 hx hZ hown (host := "") (Or.inl (hw _ (List.mem_of_getElem? (i := 161) rfl))) Via.refl e0 F_size_a1 (g := (mkF m 1 #[.val (.ref a1)] [(.ref a1)])) rfl rfl (hb hby d22_1)
  refine Go.st st1 ?_
  show Go p.tables e below PP (T1.setTop (mkF m 4 #[.val (.ref a1)] [(.int sz)]))
  rw [hPP]
  refine endI X1 hx hlk hret (hb hby d22_4) ?_ (by decide) (by decide)
  show Q22 Z a1 sz h0 n0 (some (.int sz)) T1.heap _
  rw [e1]
  exact ⟨rfl, rfl, rfl⟩
theorem d21_0 : decode prog_70_method_8_code 0 = .ok (.aload_n 0, 1) := by decide +kernel
theorem d21_1 : decode prog_70_method_8_code 1 = .ok (.getfield 10, 3) := by decide +kernel
theorem d21_4 : decode prog_70_method_8_code 4 = .ok (.invokeinterface 69 1, 5) := by decide +kernel
theorem d21_9 : decode prog_70_method_8_code 9 = .ok (.ireturn, 1) := by decide +kernel
theorem pn_rm21 : plainName "com/example/strict_roles/strictroles/formats/StandingDefinitions" = true := by first | (simp [plainName, overriddenIn]; done) | decide +kernel
theorem ef_rm21 (m : MethodId) (a1 : Addr) : entryFrame m #[(.ref a1)] 1 = mkF m 0 #[.val (.ref a1)] [] := by first | (simp [entryFrame, mkF, argsToLocals, Value.category]; done) | rfl
def Q21 (Z : State) (a1 : Addr) (al : Addr) (h0 : Heap) (n0 : Nat) (v : Option Value) (h : Heap) (L : List Loc) : Prop := v = some (.int (0 : Int32)) ∧ L = [] ∧ h = h0
set_option maxRecDepth 65536 in
set_option maxHeartbeats 40000000 in
theorem rm21 (l : Launch) (Z : State) (a0 : Array Value) (hw : ∀ d ∈ tables_1, d.before a0 Z = true) (ws : List Jvm.Cond) (a1 : Addr) (al : Addr) (h0 : Heap) (n0 : Nat) (Z0 : n0 ≤ h0.size) (F_definitions_a1 : Fld Z h0 a1 "com/example/strict_roles/strictroles/formats/StandingDefinitions" "definitions" "Ljava/util/List;" (.ref al)) (E_al : Exa Z h0 al "java/util/ArrayList") (F_size_al : Fld Z h0 al "java/util/ArrayList" "size" "I" (.int (0 : Int32))) :
    Con l Z (⟨"com/example/strict_roles/strictroles/formats/StandingDefinitions", "made", "()I"⟩ : MethodName) prog_70_method_8_code 1 (some .int) ws ({ frames := 1, cells := 0, slots := 0, locals := 12 } : Room) #[(.ref a1)] h0 (Q21 Z a1 al h0 n0) := by
  refine Con.of (plainFor_of_name pn_rm21) ?_
  intro p e s m below meth c s₁ hZ e0 X0 hx hby hml hown hnm hret hlk
  replace hml : c.maxLocals = 1 := hml
  have hown : s.vm.findClass "com/example/strict_roles/strictroles/formats/StandingDefinitions" = some m.cls := hown
  have N0 : Fr n0 [] := Fr.nil n0
  obtain ⟨PP, hPP⟩ : ∃ P, P = Fine s below (Q21 Z a1 al h0 n0) ({ frames := 1, cells := 0, slots := 0, locals := 12 } : Room).cells ({ frames := 1, cells := 0, slots := 0, locals := 12 } : Room).slots := ⟨_, rfl⟩
  rw [← hPP]
  refine Go.cast (ef_rm21 m a1) ?_
  have Zn : n0 ≤ h0.size := Z0
  show Go p.tables e below PP (s₁.setTop (mkF m 0 #[.val (.ref a1)] []))
  refine Go.st (fun t k => XS.aloadN X0.here hx rfl (hb hby d21_0) rfl rfl k) ?_
  show Go p.tables e below PP (s₁.setTop (mkF m 1 #[.val (.ref a1)] [(.ref a1)]))
  obtain ⟨T1, X1, e1, st1⟩ := getF X0 hx hZ hown (host := "") (Or.inl (hw _ (List.mem_of_getElem? (i := 69) rfl))) Via.refl e0 F_definitions_a1 (g := (mkF m 1 #[.val (.ref a1)] [(.ref a1)])) rfl rfl (hb hby d21_1)
  refine Go.st st1 ?_
  show Go p.tables e below PP (T1.setTop (mkF m 4 #[.val (.ref a1)] [(.ref al)]))
  obtain ⟨v2, T2, L2, X2, hQ2, st2⟩ := callIf X1 hx hZ (C := "java/util/ArrayList") (y := (⟨"java/util/List", "size", "()I"⟩ : MethodName)) (z := (⟨"java/util/ArrayList", "size", "()I"⟩ : MethodName)) (a := al) (argsL := []) (rest := []) hown (hw _ (List.mem_of_getElem? (i := 152) rfl)) (hw _ (List.mem_of_getElem? (i := 153) rfl)) (hw _ (List.mem_of_getElem? (i := 154) rfl)) (hw _ (List.mem_of_getElem? (i := 155) rfl)) (hw _ (List.mem_of_getElem? (i := 156) rfl)) (hw _ (List.mem_of_getElem? (i := 157) rfl)) (hw _ (List.mem_of_getElem? (i := 158) rfl)) (hw _ (List.mem_of_getElem? (i := 159) rfl)) (hw _ (List.mem_of_getElem? (i := 47) rfl)) (hw _ (List.mem_of_getElem? (i := 160) rfl)) (by decide) E_al (rm22 l Z a0 hw [] al (0 : Int32) h0 n0 Zn F_size_al) e1 0 (by decide) (by decide) (by decide) (by decide) (g := (mkF m 4 #[.val (.ref a1)] [(.ref al)])) rfl (by rw [hml]; rfl) (lenOf pd_11 rfl) rfl (by show 2 * 0 + _ ≤ _; exact Nat.le_of_eq rfl) (hb hby d21_4)
  obtain ⟨rfl, rfl, e2⟩ := hQ2
  rw [List.append_nil] at X2
  refine Go.st st2 ?_
  show Go p.tables e below PP (T2.setTop (mkF m 9 #[.val (.ref a1)] [(.int (0 : Int32))]))
  rw [hPP]
  refine endI X2 hx hlk hret (hb hby d21_9) ?_ (by decide) (by decide)
  show Q21 Z a1 al h0 n0 (some (.int (0 : Int32))) T2.heap _
  rw [e2]
  exact ⟨rfl, rfl, rfl⟩
theorem own_n4 (n : Int32) (h : ¬ n < (0 : Int32) ∧ n.toInt < 5) (h0 : ¬ n = (0 : Int32)) (h1 : ¬ n = (1 : Int32)) (h2 : ¬ n = (2 : Int32)) (h3 : ¬ n = (3 : Int32)) : n = (4 : Int32) := by
  rw [← Int32.toInt_inj] at *
  rw [Int32.lt_iff_toInt_lt] at h
  have e0 : (0 : Int32).toInt = 0 := rfl
  have e1 : (1 : Int32).toInt = 1 := rfl
  have e2 : (2 : Int32).toInt = 2 := rfl
  have e3 : (3 : Int32).toInt = 3 := rfl
  have e4 : (4 : Int32).toInt = 4 := rfl
  omega
theorem own_5 (x i : Int32) (hi : ((x &&& (2147483647 : Int32)) % (5 : Int32)) = i) : ¬ i < (0 : Int32) ∧ i.toInt < 5 := by
  have q := c_mask x 2147483647 31 (by decide) (by decide)
  have r := (c_irem (x &&& (2147483647 : Int32)) 5 5 (by decide)).1 (by omega)
  have e0 : (0 : Int32).toInt = 0 := rfl
  rw [hi] at r
  rw [Int32.lt_iff_toInt_lt]
  omega
theorem d1_0 : decode method_2_code 0 = .ok (.iload_n 1, 1) := by decide +kernel
theorem d1_1 : decode method_2_code 1 = .ok (.sipush 255, 3) := by decide +kernel
theorem d1_4 : decode method_2_code 4 = .ok (.iand, 1) := by decide +kernel
theorem d1_5 : decode method_2_code 5 = .ok (.i2c, 1) := by decide +kernel
theorem d1_6 : decode method_2_code 6 = .ok (.istore_n 2, 1) := by decide +kernel
theorem d1_7 : decode method_2_code 7 = .ok (.iload_n 1, 1) := by decide +kernel
theorem d1_8 : decode method_2_code 8 = .ok (.bipush 8, 2) := by decide +kernel
theorem d1_10 : decode method_2_code 10 = .ok (.iushr, 1) := by decide +kernel
theorem d1_11 : decode method_2_code 11 = .ok (.sipush 255, 3) := by decide +kernel
theorem d1_14 : decode method_2_code 14 = .ok (.iand, 1) := by decide +kernel
theorem d1_15 : decode method_2_code 15 = .ok (.i2c, 1) := by decide +kernel
theorem d1_16 : decode method_2_code 16 = .ok (.istore_n 3, 1) := by decide +kernel
theorem d1_17 : decode method_2_code 17 = .ok (.iload_n 1, 1) := by decide +kernel
theorem d1_18 : decode method_2_code 18 = .ok (.bipush 16, 2) := by decide +kernel
theorem d1_20 : decode method_2_code 20 = .ok (.iushr, 1) := by decide +kernel
theorem d1_21 : decode method_2_code 21 = .ok (.sipush 255, 3) := by decide +kernel
theorem d1_24 : decode method_2_code 24 = .ok (.iand, 1) := by decide +kernel
theorem d1_25 : decode method_2_code 25 = .ok (.i2c, 1) := by decide +kernel
theorem d1_26 : decode method_2_code 26 = .ok (.istore 4, 2) := by decide +kernel
theorem d1_28 : decode method_2_code 28 = .ok (.iload_n 1, 1) := by decide +kernel
theorem d1_29 : decode method_2_code 29 = .ok (.bipush 24, 2) := by decide +kernel
theorem d1_31 : decode method_2_code 31 = .ok (.iushr, 1) := by decide +kernel
theorem d1_32 : decode method_2_code 32 = .ok (.sipush 255, 3) := by decide +kernel
theorem d1_35 : decode method_2_code 35 = .ok (.iand, 1) := by decide +kernel
theorem d1_36 : decode method_2_code 36 = .ok (.i2c, 1) := by decide +kernel
theorem d1_37 : decode method_2_code 37 = .ok (.istore 5, 2) := by decide +kernel
theorem d1_39 : decode method_2_code 39 = .ok (.iload_n 0, 1) := by decide +kernel
theorem d1_40 : decode method_2_code 40 = .ok (.ifCond .ne 14, 3) := by decide +kernel
theorem d1_43 : decode method_2_code 43 = .ok (.new 7, 3) := by decide +kernel
theorem d1_46 : decode method_2_code 46 = .ok (.dup, 1) := by decide +kernel
theorem d1_47 : decode method_2_code 47 = .ok (.iconst 0, 1) := by decide +kernel
theorem d1_48 : decode method_2_code 48 = .ok (.newarray .char, 2) := by decide +kernel
theorem d1_50 : decode method_2_code 50 = .ok (.invokespecial 9, 3) := by decide +kernel
theorem d1_53 : decode method_2_code 53 = .ok (.areturn, 1) := by decide +kernel
theorem d1_54 : decode method_2_code 54 = .ok (.iload_n 0, 1) := by decide +kernel
theorem d1_55 : decode method_2_code 55 = .ok (.iconst 1, 1) := by decide +kernel
theorem d1_56 : decode method_2_code 56 = .ok (.if_icmp .ne 8, 3) := by decide +kernel
theorem d1_59 : decode method_2_code 59 = .ok (.iload_n 2, 1) := by decide +kernel
theorem d1_60 : decode method_2_code 60 = .ok (.invokestatic 12, 3) := by decide +kernel
theorem d1_63 : decode method_2_code 63 = .ok (.areturn, 1) := by decide +kernel
theorem d1_64 : decode method_2_code 64 = .ok (.iload_n 0, 1) := by decide +kernel
theorem d1_65 : decode method_2_code 65 = .ok (.iconst 2, 1) := by decide +kernel
theorem d1_66 : decode method_2_code 66 = .ok (.if_icmp .ne 22, 3) := by decide +kernel
theorem d1_69 : decode method_2_code 69 = .ok (.new 7, 3) := by decide +kernel
theorem d1_72 : decode method_2_code 72 = .ok (.dup, 1) := by decide +kernel
theorem d1_73 : decode method_2_code 73 = .ok (.iconst 2, 1) := by decide +kernel
theorem d1_74 : decode method_2_code 74 = .ok (.newarray .char, 2) := by decide +kernel
theorem d1_76 : decode method_2_code 76 = .ok (.dup, 1) := by decide +kernel
theorem d1_77 : decode method_2_code 77 = .ok (.iconst 0, 1) := by decide +kernel
theorem d1_78 : decode method_2_code 78 = .ok (.iload_n 2, 1) := by decide +kernel
theorem d1_79 : decode method_2_code 79 = .ok (.castore, 1) := by decide +kernel
theorem d1_80 : decode method_2_code 80 = .ok (.dup, 1) := by decide +kernel
theorem d1_81 : decode method_2_code 81 = .ok (.iconst 1, 1) := by decide +kernel
theorem d1_82 : decode method_2_code 82 = .ok (.iload_n 3, 1) := by decide +kernel
theorem d1_83 : decode method_2_code 83 = .ok (.castore, 1) := by decide +kernel
theorem d1_84 : decode method_2_code 84 = .ok (.invokespecial 9, 3) := by decide +kernel
theorem d1_87 : decode method_2_code 87 = .ok (.areturn, 1) := by decide +kernel
theorem d1_88 : decode method_2_code 88 = .ok (.iload_n 0, 1) := by decide +kernel
theorem d1_89 : decode method_2_code 89 = .ok (.iconst 3, 1) := by decide +kernel
theorem d1_90 : decode method_2_code 90 = .ok (.if_icmp .ne 27, 3) := by decide +kernel
theorem d1_93 : decode method_2_code 93 = .ok (.new 7, 3) := by decide +kernel
theorem d1_96 : decode method_2_code 96 = .ok (.dup, 1) := by decide +kernel
theorem d1_97 : decode method_2_code 97 = .ok (.iconst 3, 1) := by decide +kernel
theorem d1_98 : decode method_2_code 98 = .ok (.newarray .char, 2) := by decide +kernel
theorem d1_100 : decode method_2_code 100 = .ok (.dup, 1) := by decide +kernel
theorem d1_101 : decode method_2_code 101 = .ok (.iconst 0, 1) := by decide +kernel
theorem d1_102 : decode method_2_code 102 = .ok (.iload_n 2, 1) := by decide +kernel
theorem d1_103 : decode method_2_code 103 = .ok (.castore, 1) := by decide +kernel
theorem d1_104 : decode method_2_code 104 = .ok (.dup, 1) := by decide +kernel
theorem d1_105 : decode method_2_code 105 = .ok (.iconst 1, 1) := by decide +kernel
theorem d1_106 : decode method_2_code 106 = .ok (.iload_n 3, 1) := by decide +kernel
theorem d1_107 : decode method_2_code 107 = .ok (.castore, 1) := by decide +kernel
theorem d1_108 : decode method_2_code 108 = .ok (.dup, 1) := by decide +kernel
theorem d1_109 : decode method_2_code 109 = .ok (.iconst 2, 1) := by decide +kernel
theorem d1_110 : decode method_2_code 110 = .ok (.iload 4, 2) := by decide +kernel
theorem d1_112 : decode method_2_code 112 = .ok (.castore, 1) := by decide +kernel
theorem d1_113 : decode method_2_code 113 = .ok (.invokespecial 9, 3) := by decide +kernel
theorem d1_116 : decode method_2_code 116 = .ok (.areturn, 1) := by decide +kernel
theorem d1_117 : decode method_2_code 117 = .ok (.new 7, 3) := by decide +kernel
theorem d1_120 : decode method_2_code 120 = .ok (.dup, 1) := by decide +kernel
theorem d1_121 : decode method_2_code 121 = .ok (.iconst 4, 1) := by decide +kernel
theorem d1_122 : decode method_2_code 122 = .ok (.newarray .char, 2) := by decide +kernel
theorem d1_124 : decode method_2_code 124 = .ok (.dup, 1) := by decide +kernel
theorem d1_125 : decode method_2_code 125 = .ok (.iconst 0, 1) := by decide +kernel
theorem d1_126 : decode method_2_code 126 = .ok (.iload_n 2, 1) := by decide +kernel
theorem d1_127 : decode method_2_code 127 = .ok (.castore, 1) := by decide +kernel
theorem d1_128 : decode method_2_code 128 = .ok (.dup, 1) := by decide +kernel
theorem d1_129 : decode method_2_code 129 = .ok (.iconst 1, 1) := by decide +kernel
theorem d1_130 : decode method_2_code 130 = .ok (.iload_n 3, 1) := by decide +kernel
theorem d1_131 : decode method_2_code 131 = .ok (.castore, 1) := by decide +kernel
theorem d1_132 : decode method_2_code 132 = .ok (.dup, 1) := by decide +kernel
theorem d1_133 : decode method_2_code 133 = .ok (.iconst 2, 1) := by decide +kernel
theorem d1_134 : decode method_2_code 134 = .ok (.iload 4, 2) := by decide +kernel
theorem d1_136 : decode method_2_code 136 = .ok (.castore, 1) := by decide +kernel
theorem d1_137 : decode method_2_code 137 = .ok (.dup, 1) := by decide +kernel
theorem d1_138 : decode method_2_code 138 = .ok (.iconst 3, 1) := by decide +kernel
theorem d1_139 : decode method_2_code 139 = .ok (.iload 5, 2) := by decide +kernel
theorem d1_141 : decode method_2_code 141 = .ok (.castore, 1) := by decide +kernel
theorem d1_142 : decode method_2_code 142 = .ok (.invokespecial 9, 3) := by decide +kernel
theorem d1_145 : decode method_2_code 145 = .ok (.areturn, 1) := by decide +kernel
theorem pn_rm1 : plainName "com/example/strict_roles/strictroles/formats/StandingDefinitionsCountHomePathPinLaw" = true := by first | (simp [plainName, overriddenIn]; done) | decide +kernel
theorem ef_rm1 (m : MethodId) (p1 : Int32) (p2 : Int32) : entryFrame m #[(.int p1), (.int p2)] 6 = mkF m 0 #[.val (.int p1), .val (.int p2), .unset, .unset, .unset, .unset] [] := by first | (simp [entryFrame, mkF, argsToLocals, Value.category]; done) | rfl
def Q1 (Z : State) (p1 : Int32) (p2 : Int32) (zc : Int32) (h0 : Heap) (n0 : Nat) (v : Option Value) (h : Heap) (L : List Loc) : Prop := ∃ (r t : Addr) (f : Nat → Int32), v = some (.ref r) ∧ Fr n0 L ∧ Keep h0 h [] ∧ h0.size ≤ r ∧ Exa Z h r "java/lang/String" ∧ Fld Z h r "java/lang/String" "coder" "B" (.int (0 : Int32)) ∧ Fld Z h r "java/lang/String" "value" "[B" (.ref t) ∧ Afn Z h t .byte p1 (fun k => .int (f k))
theorem pd_12 : parseMethodDescriptor "([C)V" = some ⟨[(.array .char)], none⟩ := by decide +kernel
theorem pd_13 : parseMethodDescriptor "(C)Ljava/lang/String;" = some ⟨[.char], some (.object "java/lang/String")⟩ := by decide +kernel
set_option maxRecDepth 65536 in
set_option maxHeartbeats 40000000 in
theorem rm1 (l : Launch) (Z : State) (a0 : Array Value) (hw : ∀ d ∈ tables_1, d.before a0 Z = true) (ws : List Jvm.Cond) (p1 : Int32) (p2 : Int32) (zc : Int32) (h0 : Heap) (n0 : Nat) (Z0 : n0 ≤ h0.size) (hEL : EW Z a0 consts_1) (SC : Sta Z Z.heap "java/lang/String" "COMPACT_STRINGS" "Z" (.int zc)) (hzc : ¬ zc = (0 : Int32)) (O : Old Z n0 h0) (hn : ¬ p1 < (0 : Int32) ∧ p1.toInt < 5) :
    ConH l Z consts_1 (⟨"com/example/strict_roles/strictroles/formats/StandingDefinitionsCountHomePathPinLaw", "draw", "(II)Ljava/lang/String;"⟩ : MethodName) method_2_code 6 (some (.object "java/lang/String")) ws ({ frames := 4, cells := 6, slots := 16, locals := 68 } : Room) #[(.int p1), (.int p2)] h0 (Q1 Z p1 p2 zc h0 n0) := by
  refine ConH.of (plainFor_of_name pn_rm1) ?_
  intro p e s m below meth c s₁ vm0 k0 hZ e0 X0 hx hby hml hown hnm hret hlk hS hk CH CR
  replace hml : c.maxLocals = 6 := hml
  have hown : vm0.findClass "com/example/strict_roles/strictroles/formats/StandingDefinitionsCountHomePathPinLaw" = some m.cls := hown
  have N0 : Fr n0 [] := Fr.nil n0
  obtain ⟨PP, hPP⟩ : ∃ P, P = FineW Z consts_1 s below (Q1 Z p1 p2 zc h0 n0) ({ frames := 4, cells := 6, slots := 16, locals := 68 } : Room).cells ({ frames := 4, cells := 6, slots := 16, locals := 68 } : Room).slots := ⟨_, rfl⟩
  rw [← hPP]
  refine Go.cast (ef_rm1 m p1 p2) ?_
  have K : Keep h0 h0 [] := Keep.refl h0 _
  have Zn : n0 ≤ h0.size := Z0
  show Go p.tables e below PP (s₁.setTop (mkF m 0 #[.val (.int p1), .val (.int p2), .unset, .unset, .unset, .unset] []))
  refine Go.st (fun t k => XS.iloadN X0.here hx rfl (hb hby d1_0) rfl k) ?_
  show Go p.tables e below PP (s₁.setTop (mkF m 1 #[.val (.int p1), .val (.int p2), .unset, .unset, .unset, .unset] [(.int p2)]))
  refine Go.st (fun t k => XS.sipush X0.here hx rfl (hb hby d1_1) k) ?_
  show Go p.tables e below PP (s₁.setTop (mkF m 4 #[.val (.int p1), .val (.int p2), .unset, .unset, .unset, .unset] [(.int (255 : Int32)), (.int p2)]))
  refine Go.st (fun t k => XS.iand X0.here hx rfl (hb hby d1_4) rfl k) ?_
  show Go p.tables e below PP (s₁.setTop (mkF m 5 #[.val (.int p1), .val (.int p2), .unset, .unset, .unset, .unset] [(.int (p2 &&& (255 : Int32)))]))
  refine Go.st (fun t k => XS.i2c X0.here hx rfl (hb hby d1_5) rfl k) ?_
  generalize hca : ((p2 &&& (255 : Int32)).toUInt32.toUInt16.toUInt32.toInt32) = ca
  replace hca := own_ch _ _ hca
  show Go p.tables e below PP (s₁.setTop (mkF m 6 #[.val (.int p1), .val (.int p2), .unset, .unset, .unset, .unset] [(.int ca)]))
  refine Go.st (fun t k => XS.istoreN X0.here hx rfl (hb hby d1_6) rfl (l' := #[.val (.int p1), .val (.int p2), .val (.int ca), .unset, .unset, .unset]) rfl k) ?_
  show Go p.tables e below PP (s₁.setTop (mkF m 7 #[.val (.int p1), .val (.int p2), .val (.int ca), .unset, .unset, .unset] []))
  refine Go.st (fun t k => XS.iloadN X0.here hx rfl (hb hby d1_7) rfl k) ?_
  show Go p.tables e below PP (s₁.setTop (mkF m 8 #[.val (.int p1), .val (.int p2), .val (.int ca), .unset, .unset, .unset] [(.int p2)]))
  refine Go.st (fun t k => XS.bipush X0.here hx rfl (hb hby d1_8) k) ?_
  show Go p.tables e below PP (s₁.setTop (mkF m 10 #[.val (.int p1), .val (.int p2), .val (.int ca), .unset, .unset, .unset] [(.int (8 : Int32)), (.int p2)]))
  refine Go.st (fun t k => XS.iushr X0.here hx rfl (hb hby d1_10) rfl k) ?_
  show Go p.tables e below PP (s₁.setTop (mkF m 11 #[.val (.int p1), .val (.int p2), .val (.int ca), .unset, .unset, .unset] [(.int ((p2.toUInt32 >>> ((8 : Int32) &&& 31).toUInt32).toInt32))]))
  refine Go.st (fun t k => XS.sipush X0.here hx rfl (hb hby d1_11) k) ?_
  show Go p.tables e below PP (s₁.setTop (mkF m 14 #[.val (.int p1), .val (.int p2), .val (.int ca), .unset, .unset, .unset] [(.int (255 : Int32)), (.int ((p2.toUInt32 >>> ((8 : Int32) &&& 31).toUInt32).toInt32))]))
  refine Go.st (fun t k => XS.iand X0.here hx rfl (hb hby d1_14) rfl k) ?_
  show Go p.tables e below PP (s₁.setTop (mkF m 15 #[.val (.int p1), .val (.int p2), .val (.int ca), .unset, .unset, .unset] [(.int (((p2.toUInt32 >>> ((8 : Int32) &&& 31).toUInt32).toInt32) &&& (255 : Int32)))]))
  refine Go.st (fun t k => XS.i2c X0.here hx rfl (hb hby d1_15) rfl k) ?_
  generalize hce : ((((p2.toUInt32 >>> ((8 : Int32) &&& 31).toUInt32).toInt32) &&& (255 : Int32)).toUInt32.toUInt16.toUInt32.toInt32) = ce
  replace hce := own_ch _ _ hce
  show Go p.tables e below PP (s₁.setTop (mkF m 16 #[.val (.int p1), .val (.int p2), .val (.int ca), .unset, .unset, .unset] [(.int ce)]))
  refine Go.st (fun t k => XS.istoreN X0.here hx rfl (hb hby d1_16) rfl (l' := #[.val (.int p1), .val (.int p2), .val (.int ca), .val (.int ce), .unset, .unset]) rfl k) ?_
  show Go p.tables e below PP (s₁.setTop (mkF m 17 #[.val (.int p1), .val (.int p2), .val (.int ca), .val (.int ce), .unset, .unset] []))
  refine Go.st (fun t k => XS.iloadN X0.here hx rfl (hb hby d1_17) rfl k) ?_
  show Go p.tables e below PP (s₁.setTop (mkF m 18 #[.val (.int p1), .val (.int p2), .val (.int ca), .val (.int ce), .unset, .unset] [(.int p2)]))
  refine Go.st (fun t k => XS.bipush X0.here hx rfl (hb hby d1_18) k) ?_
  show Go p.tables e below PP (s₁.setTop (mkF m 20 #[.val (.int p1), .val (.int p2), .val (.int ca), .val (.int ce), .unset, .unset] [(.int (16 : Int32)), (.int p2)]))
  refine Go.st (fun t k => XS.iushr X0.here hx rfl (hb hby d1_20) rfl k) ?_
  show Go p.tables e below PP (s₁.setTop (mkF m 21 #[.val (.int p1), .val (.int p2), .val (.int ca), .val (.int ce), .unset, .unset] [(.int ((p2.toUInt32 >>> ((16 : Int32) &&& 31).toUInt32).toInt32))]))
  refine Go.st (fun t k => XS.sipush X0.here hx rfl (hb hby d1_21) k) ?_
  show Go p.tables e below PP (s₁.setTop (mkF m 24 #[.val (.int p1), .val (.int p2), .val (.int ca), .val (.int ce), .unset, .unset] [(.int (255 : Int32)), (.int ((p2.toUInt32 >>> ((16 : Int32) &&& 31).toUInt32).toInt32))]))
  refine Go.st (fun t k => XS.iand X0.here hx rfl (hb hby d1_24) rfl k) ?_
  show Go p.tables e below PP (s₁.setTop (mkF m 25 #[.val (.int p1), .val (.int p2), .val (.int ca), .val (.int ce), .unset, .unset] [(.int (((p2.toUInt32 >>> ((16 : Int32) &&& 31).toUInt32).toInt32) &&& (255 : Int32)))]))
  refine Go.st (fun t k => XS.i2c X0.here hx rfl (hb hby d1_25) rfl k) ?_
  generalize hcx : ((((p2.toUInt32 >>> ((16 : Int32) &&& 31).toUInt32).toInt32) &&& (255 : Int32)).toUInt32.toUInt16.toUInt32.toInt32) = cx
  replace hcx := own_ch _ _ hcx
  show Go p.tables e below PP (s₁.setTop (mkF m 26 #[.val (.int p1), .val (.int p2), .val (.int ca), .val (.int ce), .unset, .unset] [(.int cx)]))
  refine Go.st (fun t k => XS.istore X0.here hx rfl (hb hby d1_26) rfl (l' := #[.val (.int p1), .val (.int p2), .val (.int ca), .val (.int ce), .val (.int cx), .unset]) rfl k) ?_
  show Go p.tables e below PP (s₁.setTop (mkF m 28 #[.val (.int p1), .val (.int p2), .val (.int ca), .val (.int ce), .val (.int cx), .unset] []))
  refine Go.st (fun t k => XS.iloadN X0.here hx rfl (hb hby d1_28) rfl k) ?_
  show Go p.tables e below PP (s₁.setTop (mkF m 29 #[.val (.int p1), .val (.int p2), .val (.int ca), .val (.int ce), .val (.int cx), .unset] [(.int p2)]))
  refine Go.st (fun t k => XS.bipush X0.here hx rfl (hb hby d1_29) k) ?_
  show Go p.tables e below PP (s₁.setTop (mkF m 31 #[.val (.int p1), .val (.int p2), .val (.int ca), .val (.int ce), .val (.int cx), .unset] [(.int (24 : Int32)), (.int p2)]))
  refine Go.st (fun t k => XS.iushr X0.here hx rfl (hb hby d1_31) rfl k) ?_
  show Go p.tables e below PP (s₁.setTop (mkF m 32 #[.val (.int p1), .val (.int p2), .val (.int ca), .val (.int ce), .val (.int cx), .unset] [(.int ((p2.toUInt32 >>> ((24 : Int32) &&& 31).toUInt32).toInt32))]))
  refine Go.st (fun t k => XS.sipush X0.here hx rfl (hb hby d1_32) k) ?_
  show Go p.tables e below PP (s₁.setTop (mkF m 35 #[.val (.int p1), .val (.int p2), .val (.int ca), .val (.int ce), .val (.int cx), .unset] [(.int (255 : Int32)), (.int ((p2.toUInt32 >>> ((24 : Int32) &&& 31).toUInt32).toInt32))]))
  refine Go.st (fun t k => XS.iand X0.here hx rfl (hb hby d1_35) rfl k) ?_
  show Go p.tables e below PP (s₁.setTop (mkF m 36 #[.val (.int p1), .val (.int p2), .val (.int ca), .val (.int ce), .val (.int cx), .unset] [(.int (((p2.toUInt32 >>> ((24 : Int32) &&& 31).toUInt32).toInt32) &&& (255 : Int32)))]))
  refine Go.st (fun t k => XS.i2c X0.here hx rfl (hb hby d1_36) rfl k) ?_
  generalize hcy : ((((p2.toUInt32 >>> ((24 : Int32) &&& 31).toUInt32).toInt32) &&& (255 : Int32)).toUInt32.toUInt16.toUInt32.toInt32) = cy
  replace hcy := own_ch _ _ hcy
  show Go p.tables e below PP (s₁.setTop (mkF m 37 #[.val (.int p1), .val (.int p2), .val (.int ca), .val (.int ce), .val (.int cx), .unset] [(.int cy)]))
  refine Go.st (fun t k => XS.istore X0.here hx rfl (hb hby d1_37) rfl (l' := #[.val (.int p1), .val (.int p2), .val (.int ca), .val (.int ce), .val (.int cx), .val (.int cy)]) rfl k) ?_
  show Go p.tables e below PP (s₁.setTop (mkF m 39 #[.val (.int p1), .val (.int p2), .val (.int ca), .val (.int ce), .val (.int cx), .val (.int cy)] []))
  refine Go.st (fun t k => XS.iloadN X0.here hx rfl (hb hby d1_39) rfl k) ?_
  show Go p.tables e below PP (s₁.setTop (mkF m 40 #[.val (.int p1), .val (.int p2), .val (.int ca), .val (.int ce), .val (.int cx), .val (.int cy)] [(.int p1)]))
  by_cases hc40 : p1 = (0 : Int32)
  · --
    refine Go.st (fun t k => XS.ifNo X0.here hx rfl (hb hby d1_40) rfl (XT.i0_ne_f hc40) k) ?_
    show Go p.tables e below PP (s₁.setTop (mkF m 43 #[.val (.int p1), .val (.int p2), .val (.int ca), .val (.int ce), .val (.int cx), .val (.int cy)] []))
    obtain ⟨T1, h1, X1, e1, E1, A1, D1, -, st1⟩ := newO X0 hx hZ hown (hw _ (List.mem_of_getElem? (i := 5) rfl)) (hw _ (List.mem_of_getElem? (i := 6) rfl)) (hw _ (List.mem_of_getElem? (i := 7) rfl)) e0 (g := (mkF m 43 #[.val (.int p1), .val (.int p2), .val (.int ca), .val (.int ce), .val (.int cx), .val (.int cy)] [])) rfl (hb hby d1_43) (by decide) (by decide)
    obtain ⟨b1, gz1⟩ : ∃ z, z = h0.size := ⟨_, rfl⟩
    rw [← gz1] at A1 D1 st1
    have g_b1 : n0 ≤ b1 := Nat.le_trans Zn (Nat.le_of_eq gz1.symm)
    have sz_b1 : h0.size ≤ b1 := Nat.le_trans K.1 (Nat.le_of_eq gz1.symm)
    have SF_b1 : Safe Z consts_1 vm0 h0 b1 := Safe.new (Nat.le_of_eq gz1.symm)
    refine Go.st st1 ?_
    replace SF_b1 := Safe.ext E1 CH SF_b1
    replace CR := CR.trans (CHr.ext E1 CH)
    replace CH := CH.ext E1
    replace hk := Nat.le_trans hk E1.1
    replace O := O.ext E1
    replace K := K.ext E1
    replace Zn := Nat.le_trans Zn E1.1
    have E_b1 := A1
    have F_value_b1 : Fld Z h1 b1 "java/lang/String" "value" "[B" .null := D1 (Or.inr (hw _ (List.mem_of_getElem? (i := 21) rfl))) (ty := (.array .byte)) (by decide)
    have F_coder_b1 : Fld Z h1 b1 "java/lang/String" "coder" "B" (.int (0 : Int32)) := D1 (Or.inr (hw _ (List.mem_of_getElem? (i := 22) rfl))) (ty := .byte) (by decide)
    show Go p.tables e below PP (T1.setTop (mkF m 46 #[.val (.int p1), .val (.int p2), .val (.int ca), .val (.int ce), .val (.int cx), .val (.int cy)] [(.ref b1)]))
    refine Go.st (fun t k => XS.dup X1.here hx rfl (hb hby d1_46) rfl rfl k) ?_
    show Go p.tables e below PP (T1.setTop (mkF m 47 #[.val (.int p1), .val (.int p2), .val (.int ca), .val (.int ce), .val (.int cx), .val (.int cy)] [(.ref b1), (.ref b1)]))
    refine Go.st (fun t k => XS.iconst X1.here hx rfl (hb hby d1_47) k) ?_
    show Go p.tables e below PP (T1.setTop (mkF m 48 #[.val (.int p1), .val (.int p2), .val (.int ca), .val (.int ce), .val (.int cx), .val (.int cy)] [(.int (0 : Int32)), (.ref b1), (.ref b1)]))
    obtain ⟨T2, h2, k2, X2, e2, E2, A2, st2⟩ := newP X1 hx hZ (hw _ (List.mem_of_getElem? (i := 8) rfl)) e1 (g := (mkF m 48 #[.val (.int p1), .val (.int p2), .val (.int ca), .val (.int ce), .val (.int cx), .val (.int cy)] [(.int (0 : Int32)), (.ref b1), (.ref b1)])) rfl (hb hby d1_48) rfl (by decide) (cap := 0) (by decide) (by decide) (by decide) (by decide)
    obtain ⟨b2, gz2⟩ : ∃ z, z = h1.size := ⟨_, rfl⟩
    rw [← gz2] at A2 st2
    have ne_b1_b2 : b1 ≠ b2 := Nat.ne_of_lt (Nat.lt_of_lt_of_le E_b1.lt (Nat.le_of_eq gz2.symm))
    have g_b2 : n0 ≤ b2 := Nat.le_trans Zn (Nat.le_of_eq gz2.symm)
    have sz_b2 : h0.size ≤ b2 := Nat.le_trans K.1 (Nat.le_of_eq gz2.symm)
    have SF_b2 : Safe Z consts_1 vm0 h1 b2 := Safe.new (Nat.le_of_eq gz2.symm)
    refine Go.st st2 ?_
    replace E_b1 := E_b1.ext E2
    replace F_value_b1 := F_value_b1.ext E2
    replace F_coder_b1 := F_coder_b1.ext E2
    replace SF_b1 := Safe.ext E2 CH SF_b1
    replace SF_b2 := Safe.ext E2 CH SF_b2
    replace CR := CR.trans (CHr.ext E2 CH)
    replace CH := CH.ext E2
    replace hk := Nat.le_trans hk E2.1
    replace O := O.ext E2
    replace K := K.ext E2
    replace Zn := Nat.le_trans Zn E2.1
    have V_b2 : Afn Z h2 b2 .char (0 : Int32) (fun _ => (.int (0 : Int32))) := Afn.new A2 (by decide)
    obtain ⟨csv, hcsv⟩ : ∃ f : Nat → Int32, f = csL [] := ⟨_, rfl⟩
    have hcb : ∀ k, k < (0 : Int32).toNatClampNeg → ¬ csv k < (0 : Int32) ∧ ¬ (255 : Int32) < csv k := fun k _ => by rw [hcsv]; exact own_csb _ (fun x hm => absurd hm (List.not_mem_nil)) k
    replace V_b2 := V_b2.congr (g := fun k => .int (csv k)) (fun k hk => by rw [hcsv]; exact absurd hk (Nat.not_lt_zero k))
    show Go p.tables e below PP (T2.setTop (mkF m 50 #[.val (.int p1), .val (.int p2), .val (.int ca), .val (.int ce), .val (.int cx), .val (.int cy)] [(.ref b2), (.ref b1), (.ref b1)]))
    have hZ0 := hZ
    have hown0 := hown
    clear hZ hown
    obtain ⟨v3, T3, L3, X3, hQ3, hC3, hSn3, hZ, hown, st3⟩ := callInW X2 hx hZ0 (y := (⟨"java/lang/String", "<init>", "([C)V"⟩ : MethodName)) (a := b1) (argsL := [(.ref b2)]) (rest := [(.ref b1)]) rfl hown0 (hw _ (List.mem_of_getElem? (i := 9) rfl)) (hw _ (List.mem_of_getElem? (i := 10) rfl)) (hw _ (List.mem_of_getElem? (i := 7) rfl)) (hw _ (List.mem_of_getElem? (i := 11) rfl)) (by decide) (rmS1 l Z a0 hw [] b1 b2 (0 : Int32) csv zc h2 n0 Zn hEL E_b1 F_value_b1 F_coder_b1 g_b1 V_b2 hcb (by decide) ne_b1_b2 SC hzc O) e2 hEL CH hS hk 1 (by decide) (by decide) (by decide) (by decide) (g := (mkF m 50 #[.val (.int p1), .val (.int p2), .val (.int ca), .val (.int ce), .val (.int cx), .val (.int cy)] [(.ref b2), (.ref b1), (.ref b1)])) rfl (by rw [hml]; rfl) (lenOf pd_12 rfl) rfl (by show 2 * 0 + _ ≤ _; exact Nat.le_of_eq rfl) (hb hby d1_50)
    clear hZ0 hown0
    replace hS := hSn3
    obtain ⟨h3, e3⟩ : ∃ z, T3.heap = z := ⟨_, rfl⟩
    rw [e3] at hQ3 hC3
    replace SF_b1 := hC3.safe E_b1.lt SF_b1
    replace SF_b2 := hC3.safe V_b2.lt SF_b2
    replace CR := CR.trans hC3
    replace CH := hC3.1
    replace hk : T3.heap.size ≤ h3.size := by rw [e3]; exact Nat.le_refl _
    obtain ⟨rfl, Nq3, Kq3, Eq3, Cq3, t3, Fq3, Vq3⟩ := hQ3
    have N3 := Fr.app N0 Nq3
    replace E_b1 := E_b1.keep Kq3
    clear F_value_b1
    clear F_coder_b1
    replace V_b2 := V_b2.keep Kq3 (ninS (Ne.symm ne_b1_b2) nin0)
    replace O := O.keep Kq3 (allS g_b1 all0)
    replace K := K.trans Kq3 (allS (Or.inr sz_b1) all0)
    replace Zn := Nat.le_trans Zn Kq3.1
    replace E_b1 := Eq3
    have F_value_b1 := Fq3
    have F_coder_b1 := Cq3
    refine Go.st st3 ?_
    show Go p.tables e below PP (T3.setTop (mkF m 53 #[.val (.int p1), .val (.int p2), .val (.int ca), .val (.int ce), .val (.int cx), .val (.int cy)] [(.ref b1)]))
    rw [hPP]
    refine endRW X3 hx hlk hZ hS e3 hk hEL CH CR hret rfl rfl (hb hby d1_53) ?_ (by decide) (by decide)
    show Q1 Z p1 p2 zc h0 n0 (some (.ref b1)) T3.heap _
    rw [e3]
    exact ⟨_, _, _, rfl, N3, K, sz_b1, E_b1, F_coder_b1, F_value_b1, by rw [hc40]; exact Vq3⟩
  · --
    refine Go.st (fun t k => XS.ifYes X0.here hx rfl (pc0 := 40) (pc' := 54) rfl (hb hby d1_40) rfl (XT.i0_ne_t hc40) (by decide) (by decide) k) ?_
    show Go p.tables e below PP (s₁.setTop (mkF m 54 #[.val (.int p1), .val (.int p2), .val (.int ca), .val (.int ce), .val (.int cx), .val (.int cy)] []))
    refine Go.st (fun t k => XS.iloadN X0.here hx rfl (hb hby d1_54) rfl k) ?_
    show Go p.tables e below PP (s₁.setTop (mkF m 55 #[.val (.int p1), .val (.int p2), .val (.int ca), .val (.int ce), .val (.int cx), .val (.int cy)] [(.int p1)]))
    refine Go.st (fun t k => XS.iconst X0.here hx rfl (hb hby d1_55) k) ?_
    show Go p.tables e below PP (s₁.setTop (mkF m 56 #[.val (.int p1), .val (.int p2), .val (.int ca), .val (.int ce), .val (.int cx), .val (.int cy)] [(.int (1 : Int32)), (.int p1)]))
    by_cases hc56 : p1 = (1 : Int32)
    · --
      refine Go.st (fun t k => XS.icmpNo X0.here hx rfl (hb hby d1_56) rfl (XT.ii_ne_f hc56) k) ?_
      show Go p.tables e below PP (s₁.setTop (mkF m 59 #[.val (.int p1), .val (.int p2), .val (.int ca), .val (.int ce), .val (.int cx), .val (.int cy)] []))
      refine Go.st (fun t k => XS.iloadN X0.here hx rfl (hb hby d1_59) rfl k) ?_
      show Go p.tables e below PP (s₁.setTop (mkF m 60 #[.val (.int p1), .val (.int p2), .val (.int ca), .val (.int ce), .val (.int cx), .val (.int cy)] [(.int ca)]))
      obtain ⟨v4, T4, L4, X4, hQ4, st4⟩ := callSt X0 hx hZ (y := (⟨"java/lang/String", "valueOf", "(C)Ljava/lang/String;"⟩ : MethodName)) (argsL := [(.int ca)]) (rest := []) hown (hw _ (List.mem_of_getElem? (i := 163) rfl)) (hw _ (List.mem_of_getElem? (i := 164) rfl)) (hw _ (List.mem_of_getElem? (i := 7) rfl)) (hw _ (List.mem_of_getElem? (i := 165) rfl)) (by decide) (rm23 l Z a0 hw [] ca zc h0 n0 Zn SC hzc O hca.2.1) e0 0 (by decide) (by decide) (by decide) (by decide) (g := (mkF m 60 #[.val (.int p1), .val (.int p2), .val (.int ca), .val (.int ce), .val (.int cx), .val (.int cy)] [(.int ca)])) rfl (by rw [hml]; rfl) (lenOf pd_13 rfl) rfl (by show 2 * 0 + _ ≤ _; exact Nat.le_of_eq rfl) (hb hby d1_60)
      obtain ⟨h4, e4⟩ : ∃ z, T4.heap = z := ⟨_, rfl⟩
      rw [e4] at hQ4
      obtain ⟨r_4, t_4, rfl, Nq4, Kq4, sq4_r, sq4_t, Fq4_0, Fq4_1, Fq4_2, Fq4_3⟩ := hQ4
      have N4 := Fr.app N0 Nq4
      have g_r_4 : n0 ≤ r_4 := Nat.le_trans Zn sq4_r
      have sz_r_4 : h0.size ≤ r_4 := Nat.le_trans K.1 sq4_r
      have g_t_4 : n0 ≤ t_4 := Nat.le_trans Zn sq4_t
      have sz_t_4 : h0.size ≤ t_4 := Nat.le_trans K.1 sq4_t
      have hsf : ∀ x ∈ ([] : List Addr), Safe Z consts_1 vm0 h0 x := sf0
      replace CR := CR.trans (CHr.keep Kq4 hsf CH)
      replace CH := CH.keep Kq4 hsf
      replace hk := Nat.le_trans hk Kq4.1
      clear hsf
      replace O := O.keep Kq4 all0
      replace K := K.trans Kq4 all0
      replace Zn := Nat.le_trans Zn Kq4.1
      have E_r_4 := Fq4_0
      have F_coder_r_4 := Fq4_1
      have F_value_r_4 := Fq4_2
      have V_t_4 := Fq4_3
      refine Go.st st4 ?_
      show Go p.tables e below PP (T4.setTop (mkF m 63 #[.val (.int p1), .val (.int p2), .val (.int ca), .val (.int ce), .val (.int cx), .val (.int cy)] [(.ref r_4)]))
      rw [hPP]
      refine endRW X4 hx hlk hZ hS e4 hk hEL CH CR hret rfl rfl (hb hby d1_63) ?_ (by decide) (by decide)
      show Q1 Z p1 p2 zc h0 n0 (some (.ref r_4)) T4.heap _
      rw [e4]
      exact ⟨_, _, _, rfl, N4, K, sz_r_4, E_r_4, F_coder_r_4, F_value_r_4, by rw [hc56]; exact V_t_4⟩
    · --
      refine Go.st (fun t k => XS.icmpYes X0.here hx rfl (pc0 := 56) (pc' := 64) rfl (hb hby d1_56) rfl (XT.ii_ne_t hc56) (by decide) (by decide) k) ?_
      show Go p.tables e below PP (s₁.setTop (mkF m 64 #[.val (.int p1), .val (.int p2), .val (.int ca), .val (.int ce), .val (.int cx), .val (.int cy)] []))
      refine Go.st (fun t k => XS.iloadN X0.here hx rfl (hb hby d1_64) rfl k) ?_
      show Go p.tables e below PP (s₁.setTop (mkF m 65 #[.val (.int p1), .val (.int p2), .val (.int ca), .val (.int ce), .val (.int cx), .val (.int cy)] [(.int p1)]))
      refine Go.st (fun t k => XS.iconst X0.here hx rfl (hb hby d1_65) k) ?_
      show Go p.tables e below PP (s₁.setTop (mkF m 66 #[.val (.int p1), .val (.int p2), .val (.int ca), .val (.int ce), .val (.int cx), .val (.int cy)] [(.int (2 : Int32)), (.int p1)]))
      by_cases hc66 : p1 = (2 : Int32)
      · --
        refine Go.st (fun t k => XS.icmpNo X0.here hx rfl (hb hby d1_66) rfl (XT.ii_ne_f hc66) k) ?_
        show Go p.tables e below PP (s₁.setTop (mkF m 69 #[.val (.int p1), .val (.int p2), .val (.int ca), .val (.int ce), .val (.int cx), .val (.int cy)] []))
        obtain ⟨T5, h5, X5, e5, E5, A5, D5, -, st5⟩ := newO X0 hx hZ hown (hw _ (List.mem_of_getElem? (i := 5) rfl)) (hw _ (List.mem_of_getElem? (i := 6) rfl)) (hw _ (List.mem_of_getElem? (i := 7) rfl)) e0 (g := (mkF m 69 #[.val (.int p1), .val (.int p2), .val (.int ca), .val (.int ce), .val (.int cx), .val (.int cy)] [])) rfl (hb hby d1_69) (by decide) (by decide)
        obtain ⟨b5, gz5⟩ : ∃ z, z = h0.size := ⟨_, rfl⟩
        rw [← gz5] at A5 D5 st5
        have g_b5 : n0 ≤ b5 := Nat.le_trans Zn (Nat.le_of_eq gz5.symm)
        have sz_b5 : h0.size ≤ b5 := Nat.le_trans K.1 (Nat.le_of_eq gz5.symm)
        have SF_b5 : Safe Z consts_1 vm0 h0 b5 := Safe.new (Nat.le_of_eq gz5.symm)
        refine Go.st st5 ?_
        replace SF_b5 := Safe.ext E5 CH SF_b5
        replace CR := CR.trans (CHr.ext E5 CH)
        replace CH := CH.ext E5
        replace hk := Nat.le_trans hk E5.1
        replace O := O.ext E5
        replace K := K.ext E5
        replace Zn := Nat.le_trans Zn E5.1
        have E_b5 := A5
        have F_value_b5 : Fld Z h5 b5 "java/lang/String" "value" "[B" .null := D5 (Or.inr (hw _ (List.mem_of_getElem? (i := 21) rfl))) (ty := (.array .byte)) (by decide)
        have F_coder_b5 : Fld Z h5 b5 "java/lang/String" "coder" "B" (.int (0 : Int32)) := D5 (Or.inr (hw _ (List.mem_of_getElem? (i := 22) rfl))) (ty := .byte) (by decide)
        show Go p.tables e below PP (T5.setTop (mkF m 72 #[.val (.int p1), .val (.int p2), .val (.int ca), .val (.int ce), .val (.int cx), .val (.int cy)] [(.ref b5)]))
        refine Go.st (fun t k => XS.dup X5.here hx rfl (hb hby d1_72) rfl rfl k) ?_
        show Go p.tables e below PP (T5.setTop (mkF m 73 #[.val (.int p1), .val (.int p2), .val (.int ca), .val (.int ce), .val (.int cx), .val (.int cy)] [(.ref b5), (.ref b5)]))
        refine Go.st (fun t k => XS.iconst X5.here hx rfl (hb hby d1_73) k) ?_
        show Go p.tables e below PP (T5.setTop (mkF m 74 #[.val (.int p1), .val (.int p2), .val (.int ca), .val (.int ce), .val (.int cx), .val (.int cy)] [(.int (2 : Int32)), (.ref b5), (.ref b5)]))
        obtain ⟨T6, h6, k6, X6, e6, E6, A6, st6⟩ := newP X5 hx hZ (hw _ (List.mem_of_getElem? (i := 8) rfl)) e5 (g := (mkF m 74 #[.val (.int p1), .val (.int p2), .val (.int ca), .val (.int ce), .val (.int cx), .val (.int cy)] [(.int (2 : Int32)), (.ref b5), (.ref b5)])) rfl (hb hby d1_74) rfl (by decide) (cap := 2) (by decide) (by decide) (by decide) (by decide)
        obtain ⟨b6, gz6⟩ : ∃ z, z = h5.size := ⟨_, rfl⟩
        rw [← gz6] at A6 st6
        have ne_b5_b6 : b5 ≠ b6 := Nat.ne_of_lt (Nat.lt_of_lt_of_le E_b5.lt (Nat.le_of_eq gz6.symm))
        have g_b6 : n0 ≤ b6 := Nat.le_trans Zn (Nat.le_of_eq gz6.symm)
        have sz_b6 : h0.size ≤ b6 := Nat.le_trans K.1 (Nat.le_of_eq gz6.symm)
        have SF_b6 : Safe Z consts_1 vm0 h5 b6 := Safe.new (Nat.le_of_eq gz6.symm)
        refine Go.st st6 ?_
        replace E_b5 := E_b5.ext E6
        replace F_value_b5 := F_value_b5.ext E6
        replace F_coder_b5 := F_coder_b5.ext E6
        replace SF_b5 := Safe.ext E6 CH SF_b5
        replace SF_b6 := Safe.ext E6 CH SF_b6
        replace CR := CR.trans (CHr.ext E6 CH)
        replace CH := CH.ext E6
        replace hk := Nat.le_trans hk E6.1
        replace O := O.ext E6
        replace K := K.ext E6
        replace Zn := Nat.le_trans Zn E6.1
        have V_b6 : Afn Z h6 b6 .char (2 : Int32) (fun _ => (.int (0 : Int32))) := Afn.new A6 (by decide)
        show Go p.tables e below PP (T6.setTop (mkF m 76 #[.val (.int p1), .val (.int p2), .val (.int ca), .val (.int ce), .val (.int cx), .val (.int cy)] [(.ref b6), (.ref b5), (.ref b5)]))
        refine Go.st (fun t k => XS.dup X6.here hx rfl (hb hby d1_76) rfl rfl k) ?_
        show Go p.tables e below PP (T6.setTop (mkF m 77 #[.val (.int p1), .val (.int p2), .val (.int ca), .val (.int ce), .val (.int cx), .val (.int cy)] [(.ref b6), (.ref b6), (.ref b5), (.ref b5)]))
        refine Go.st (fun t k => XS.iconst X6.here hx rfl (hb hby d1_77) k) ?_
        show Go p.tables e below PP (T6.setTop (mkF m 78 #[.val (.int p1), .val (.int p2), .val (.int ca), .val (.int ce), .val (.int cx), .val (.int cy)] [(.int (0 : Int32)), (.ref b6), (.ref b6), (.ref b5), (.ref b5)]))
        refine Go.st (fun t k => XS.iloadN X6.here hx rfl (hb hby d1_78) rfl k) ?_
        show Go p.tables e below PP (T6.setTop (mkF m 79 #[.val (.int p1), .val (.int p2), .val (.int ca), .val (.int ce), .val (.int cx), .val (.int cy)] [(.int ca), (.int (0 : Int32)), (.ref b6), (.ref b6), (.ref b5), (.ref b5)]))
        obtain ⟨cl7, Ar7, S7, Nn7, H7⟩ := id V_b6
        have hin7 : ¬ ((0 : Int32) < 0 ∨ cl7.slots.size ≤ ((0 : Int32)).toNatClampNeg) := inb_of S7 ⟨by decide, by decide⟩
        obtain ⟨T7, h7, X7, e7, W7, st7⟩ := stC X6 hx hZ e6 Ar7 (j := (0 : Int32)) hin7 (g := (mkF m 79 #[.val (.int p1), .val (.int p2), .val (.int ca), .val (.int ce), .val (.int cx), .val (.int cy)] [(.int ca), (.int (0 : Int32)), (.ref b6), (.ref b6), (.ref b5), (.ref b5)])) rfl rfl (hb hby d1_79)
        refine Go.st st7 ?_
        have N7 := Fr.snoc X7 N0 g_b6
        replace E_b5 := E_b5.wr W7
        replace F_value_b5 := F_value_b5.other W7 (Or.inl ne_b5_b6)
        replace F_coder_b5 := F_coder_b5.other W7 (Or.inl ne_b5_b6)
        replace SF_b5 := Safe.wr W7 SF_b6 CH SF_b5
        replace CR := CR.trans (CHr.wr W7 SF_b6 CH)
        have CH' := CH.wr W7 SF_b6
        replace SF_b6 := Safe.wr W7 SF_b6 CH SF_b6
        replace CH := CH'
        clear CH'
        replace hk : k0 ≤ h7.size := by rw [W7.size]; exact hk
        replace O := O.wr W7 g_b6
        replace K := K.wr W7 (Or.inr sz_b6)
        replace Zn : n0 ≤ h7.size := by rw [W7.size]; exact Zn
        replace V_b6 := Afn.set Ar7 S7 Nn7 H7 (fits_nar_char _) W7
        show Go p.tables e below PP (T7.setTop (mkF m 80 #[.val (.int p1), .val (.int p2), .val (.int ca), .val (.int ce), .val (.int cx), .val (.int cy)] [(.ref b6), (.ref b5), (.ref b5)]))
        refine Go.st (fun t k => XS.dup X7.here hx rfl (hb hby d1_80) rfl rfl k) ?_
        show Go p.tables e below PP (T7.setTop (mkF m 81 #[.val (.int p1), .val (.int p2), .val (.int ca), .val (.int ce), .val (.int cx), .val (.int cy)] [(.ref b6), (.ref b6), (.ref b5), (.ref b5)]))
        refine Go.st (fun t k => XS.iconst X7.here hx rfl (hb hby d1_81) k) ?_
        show Go p.tables e below PP (T7.setTop (mkF m 82 #[.val (.int p1), .val (.int p2), .val (.int ca), .val (.int ce), .val (.int cx), .val (.int cy)] [(.int (1 : Int32)), (.ref b6), (.ref b6), (.ref b5), (.ref b5)]))
        refine Go.st (fun t k => XS.iloadN X7.here hx rfl (hb hby d1_82) rfl k) ?_
        show Go p.tables e below PP (T7.setTop (mkF m 83 #[.val (.int p1), .val (.int p2), .val (.int ca), .val (.int ce), .val (.int cx), .val (.int cy)] [(.int ce), (.int (1 : Int32)), (.ref b6), (.ref b6), (.ref b5), (.ref b5)]))
        obtain ⟨cl8, Ar8, S8, Nn8, H8⟩ := id V_b6
        have hin8 : ¬ ((1 : Int32) < 0 ∨ cl8.slots.size ≤ ((1 : Int32)).toNatClampNeg) := inb_of S8 ⟨by decide, by decide⟩
        obtain ⟨T8, h8, X8, e8, W8, st8⟩ := stC X7 hx hZ e7 Ar8 (j := (1 : Int32)) hin8 (g := (mkF m 83 #[.val (.int p1), .val (.int p2), .val (.int ca), .val (.int ce), .val (.int cx), .val (.int cy)] [(.int ce), (.int (1 : Int32)), (.ref b6), (.ref b6), (.ref b5), (.ref b5)])) rfl rfl (hb hby d1_83)
        refine Go.st st8 ?_
        have N8 := Fr.snoc X8 N7 g_b6
        replace E_b5 := E_b5.wr W8
        replace F_value_b5 := F_value_b5.other W8 (Or.inl ne_b5_b6)
        replace F_coder_b5 := F_coder_b5.other W8 (Or.inl ne_b5_b6)
        replace SF_b5 := Safe.wr W8 SF_b6 CH SF_b5
        replace CR := CR.trans (CHr.wr W8 SF_b6 CH)
        have CH' := CH.wr W8 SF_b6
        replace SF_b6 := Safe.wr W8 SF_b6 CH SF_b6
        replace CH := CH'
        clear CH'
        replace hk : k0 ≤ h8.size := by rw [W8.size]; exact hk
        replace O := O.wr W8 g_b6
        replace K := K.wr W8 (Or.inr sz_b6)
        replace Zn : n0 ≤ h8.size := by rw [W8.size]; exact Zn
        replace V_b6 := Afn.set Ar8 S8 Nn8 H8 (fits_nar_char _) W8
        obtain ⟨csv, hcsv⟩ : ∃ f : Nat → Int32, f = csL [ca, ce] := ⟨_, rfl⟩
        have hcb : ∀ k, k < (2 : Int32).toNatClampNeg → ¬ csv k < (0 : Int32) ∧ ¬ (255 : Int32) < csv k := fun k _ => by rw [hcsv]; exact own_csb _ (fun x hm => by simp only [List.mem_cons, List.not_mem_nil, or_false] at hm; rcases hm with rfl | rfl <;> first | exact ⟨hca.1, hca.2.1⟩ | exact ⟨hce.1, hce.2.1⟩) k
        replace V_b6 := V_b6.congr (g := fun k => .int (csv k)) (fun k hk => by rw [hcsv]; exact own_cs2 ca ce hca.2.2 hce.2.2 k hk)
        show Go p.tables e below PP (T8.setTop (mkF m 84 #[.val (.int p1), .val (.int p2), .val (.int ca), .val (.int ce), .val (.int cx), .val (.int cy)] [(.ref b6), (.ref b5), (.ref b5)]))
        have hZ0 := hZ
        have hown0 := hown
        clear hZ hown
        obtain ⟨v9, T9, L9, X9, hQ9, hC9, hSn9, hZ, hown, st9⟩ := callInW X8 hx hZ0 (y := (⟨"java/lang/String", "<init>", "([C)V"⟩ : MethodName)) (a := b5) (argsL := [(.ref b6)]) (rest := [(.ref b5)]) rfl hown0 (hw _ (List.mem_of_getElem? (i := 9) rfl)) (hw _ (List.mem_of_getElem? (i := 10) rfl)) (hw _ (List.mem_of_getElem? (i := 7) rfl)) (hw _ (List.mem_of_getElem? (i := 11) rfl)) (by decide) (rmS1 l Z a0 hw [] b5 b6 (2 : Int32) csv zc h8 n0 Zn hEL E_b5 F_value_b5 F_coder_b5 g_b5 V_b6 hcb (by decide) ne_b5_b6 SC hzc O) e8 hEL CH hS hk 1 (by decide) (by decide) (by decide) (by decide) (g := (mkF m 84 #[.val (.int p1), .val (.int p2), .val (.int ca), .val (.int ce), .val (.int cx), .val (.int cy)] [(.ref b6), (.ref b5), (.ref b5)])) rfl (by rw [hml]; rfl) (lenOf pd_12 rfl) rfl (by show 2 * 0 + _ ≤ _; exact Nat.le_of_eq rfl) (hb hby d1_84)
        clear hZ0 hown0
        replace hS := hSn9
        obtain ⟨h9, e9⟩ : ∃ z, T9.heap = z := ⟨_, rfl⟩
        rw [e9] at hQ9 hC9
        replace SF_b5 := hC9.safe E_b5.lt SF_b5
        replace SF_b6 := hC9.safe V_b6.lt SF_b6
        replace CR := CR.trans hC9
        replace CH := hC9.1
        replace hk : T9.heap.size ≤ h9.size := by rw [e9]; exact Nat.le_refl _
        obtain ⟨rfl, Nq9, Kq9, Eq9, Cq9, t9, Fq9, Vq9⟩ := hQ9
        have N9 := Fr.app N8 Nq9
        replace E_b5 := E_b5.keep Kq9
        clear F_value_b5
        clear F_coder_b5
        replace V_b6 := V_b6.keep Kq9 (ninS (Ne.symm ne_b5_b6) nin0)
        replace O := O.keep Kq9 (allS g_b5 all0)
        replace K := K.trans Kq9 (allS (Or.inr sz_b5) all0)
        replace Zn := Nat.le_trans Zn Kq9.1
        replace E_b5 := Eq9
        have F_value_b5 := Fq9
        have F_coder_b5 := Cq9
        refine Go.st st9 ?_
        show Go p.tables e below PP (T9.setTop (mkF m 87 #[.val (.int p1), .val (.int p2), .val (.int ca), .val (.int ce), .val (.int cx), .val (.int cy)] [(.ref b5)]))
        rw [hPP]
        refine endRW X9 hx hlk hZ hS e9 hk hEL CH CR hret rfl rfl (hb hby d1_87) ?_ (by decide) (by decide)
        show Q1 Z p1 p2 zc h0 n0 (some (.ref b5)) T9.heap _
        rw [e9]
        exact ⟨_, _, _, rfl, N9, K, sz_b5, E_b5, F_coder_b5, F_value_b5, by rw [hc66]; exact Vq9⟩
      · --
        refine Go.st (fun t k => XS.icmpYes X0.here hx rfl (pc0 := 66) (pc' := 88) rfl (hb hby d1_66) rfl (XT.ii_ne_t hc66) (by decide) (by decide) k) ?_
        show Go p.tables e below PP (s₁.setTop (mkF m 88 #[.val (.int p1), .val (.int p2), .val (.int ca), .val (.int ce), .val (.int cx), .val (.int cy)] []))
        refine Go.st (fun t k => XS.iloadN X0.here hx rfl (hb hby d1_88) rfl k) ?_
        show Go p.tables e below PP (s₁.setTop (mkF m 89 #[.val (.int p1), .val (.int p2), .val (.int ca), .val (.int ce), .val (.int cx), .val (.int cy)] [(.int p1)]))
        refine Go.st (fun t k => XS.iconst X0.here hx rfl (hb hby d1_89) k) ?_
        show Go p.tables e below PP (s₁.setTop (mkF m 90 #[.val (.int p1), .val (.int p2), .val (.int ca), .val (.int ce), .val (.int cx), .val (.int cy)] [(.int (3 : Int32)), (.int p1)]))
        by_cases hc90 : p1 = (3 : Int32)
        · --
          refine Go.st (fun t k => XS.icmpNo X0.here hx rfl (hb hby d1_90) rfl (XT.ii_ne_f hc90) k) ?_
          show Go p.tables e below PP (s₁.setTop (mkF m 93 #[.val (.int p1), .val (.int p2), .val (.int ca), .val (.int ce), .val (.int cx), .val (.int cy)] []))
          obtain ⟨T10, h10, X10, e10, E10, A10, D10, -, st10⟩ := newO X0 hx hZ hown (hw _ (List.mem_of_getElem? (i := 5) rfl)) (hw _ (List.mem_of_getElem? (i := 6) rfl)) (hw _ (List.mem_of_getElem? (i := 7) rfl)) e0 (g := (mkF m 93 #[.val (.int p1), .val (.int p2), .val (.int ca), .val (.int ce), .val (.int cx), .val (.int cy)] [])) rfl (hb hby d1_93) (by decide) (by decide)
          obtain ⟨b10, gz10⟩ : ∃ z, z = h0.size := ⟨_, rfl⟩
          rw [← gz10] at A10 D10 st10
          have g_b10 : n0 ≤ b10 := Nat.le_trans Zn (Nat.le_of_eq gz10.symm)
          have sz_b10 : h0.size ≤ b10 := Nat.le_trans K.1 (Nat.le_of_eq gz10.symm)
          have SF_b10 : Safe Z consts_1 vm0 h0 b10 := Safe.new (Nat.le_of_eq gz10.symm)
          refine Go.st st10 ?_
          replace SF_b10 := Safe.ext E10 CH SF_b10
          replace CR := CR.trans (CHr.ext E10 CH)
          replace CH := CH.ext E10
          replace hk := Nat.le_trans hk E10.1
          replace O := O.ext E10
          replace K := K.ext E10
          replace Zn := Nat.le_trans Zn E10.1
          have E_b10 := A10
          have F_value_b10 : Fld Z h10 b10 "java/lang/String" "value" "[B" .null := D10 (Or.inr (hw _ (List.mem_of_getElem? (i := 21) rfl))) (ty := (.array .byte)) (by decide)
          have F_coder_b10 : Fld Z h10 b10 "java/lang/String" "coder" "B" (.int (0 : Int32)) := D10 (Or.inr (hw _ (List.mem_of_getElem? (i := 22) rfl))) (ty := .byte) (by decide)
          show Go p.tables e below PP (T10.setTop (mkF m 96 #[.val (.int p1), .val (.int p2), .val (.int ca), .val (.int ce), .val (.int cx), .val (.int cy)] [(.ref b10)]))
          refine Go.st (fun t k => XS.dup X10.here hx rfl (hb hby d1_96) rfl rfl k) ?_
          show Go p.tables e below PP (T10.setTop (mkF m 97 #[.val (.int p1), .val (.int p2), .val (.int ca), .val (.int ce), .val (.int cx), .val (.int cy)] [(.ref b10), (.ref b10)]))
          refine Go.st (fun t k => XS.iconst X10.here hx rfl (hb hby d1_97) k) ?_
          show Go p.tables e below PP (T10.setTop (mkF m 98 #[.val (.int p1), .val (.int p2), .val (.int ca), .val (.int ce), .val (.int cx), .val (.int cy)] [(.int (3 : Int32)), (.ref b10), (.ref b10)]))
          obtain ⟨T11, h11, k11, X11, e11, E11, A11, st11⟩ := newP X10 hx hZ (hw _ (List.mem_of_getElem? (i := 8) rfl)) e10 (g := (mkF m 98 #[.val (.int p1), .val (.int p2), .val (.int ca), .val (.int ce), .val (.int cx), .val (.int cy)] [(.int (3 : Int32)), (.ref b10), (.ref b10)])) rfl (hb hby d1_98) rfl (by decide) (cap := 3) (by decide) (by decide) (by decide) (by decide)
          obtain ⟨b11, gz11⟩ : ∃ z, z = h10.size := ⟨_, rfl⟩
          rw [← gz11] at A11 st11
          have ne_b10_b11 : b10 ≠ b11 := Nat.ne_of_lt (Nat.lt_of_lt_of_le E_b10.lt (Nat.le_of_eq gz11.symm))
          have g_b11 : n0 ≤ b11 := Nat.le_trans Zn (Nat.le_of_eq gz11.symm)
          have sz_b11 : h0.size ≤ b11 := Nat.le_trans K.1 (Nat.le_of_eq gz11.symm)
          have SF_b11 : Safe Z consts_1 vm0 h10 b11 := Safe.new (Nat.le_of_eq gz11.symm)
          refine Go.st st11 ?_
          replace E_b10 := E_b10.ext E11
          replace F_value_b10 := F_value_b10.ext E11
          replace F_coder_b10 := F_coder_b10.ext E11
          replace SF_b10 := Safe.ext E11 CH SF_b10
          replace SF_b11 := Safe.ext E11 CH SF_b11
          replace CR := CR.trans (CHr.ext E11 CH)
          replace CH := CH.ext E11
          replace hk := Nat.le_trans hk E11.1
          replace O := O.ext E11
          replace K := K.ext E11
          replace Zn := Nat.le_trans Zn E11.1
          have V_b11 : Afn Z h11 b11 .char (3 : Int32) (fun _ => (.int (0 : Int32))) := Afn.new A11 (by decide)
          show Go p.tables e below PP (T11.setTop (mkF m 100 #[.val (.int p1), .val (.int p2), .val (.int ca), .val (.int ce), .val (.int cx), .val (.int cy)] [(.ref b11), (.ref b10), (.ref b10)]))
          refine Go.st (fun t k => XS.dup X11.here hx rfl (hb hby d1_100) rfl rfl k) ?_
          show Go p.tables e below PP (T11.setTop (mkF m 101 #[.val (.int p1), .val (.int p2), .val (.int ca), .val (.int ce), .val (.int cx), .val (.int cy)] [(.ref b11), (.ref b11), (.ref b10), (.ref b10)]))
          refine Go.st (fun t k => XS.iconst X11.here hx rfl (hb hby d1_101) k) ?_
          show Go p.tables e below PP (T11.setTop (mkF m 102 #[.val (.int p1), .val (.int p2), .val (.int ca), .val (.int ce), .val (.int cx), .val (.int cy)] [(.int (0 : Int32)), (.ref b11), (.ref b11), (.ref b10), (.ref b10)]))
          refine Go.st (fun t k => XS.iloadN X11.here hx rfl (hb hby d1_102) rfl k) ?_
          show Go p.tables e below PP (T11.setTop (mkF m 103 #[.val (.int p1), .val (.int p2), .val (.int ca), .val (.int ce), .val (.int cx), .val (.int cy)] [(.int ca), (.int (0 : Int32)), (.ref b11), (.ref b11), (.ref b10), (.ref b10)]))
          obtain ⟨cl12, Ar12, S12, Nn12, H12⟩ := id V_b11
          have hin12 : ¬ ((0 : Int32) < 0 ∨ cl12.slots.size ≤ ((0 : Int32)).toNatClampNeg) := inb_of S12 ⟨by decide, by decide⟩
          obtain ⟨T12, h12, X12, e12, W12, st12⟩ := stC X11 hx hZ e11 Ar12 (j := (0 : Int32)) hin12 (g := (mkF m 103 #[.val (.int p1), .val (.int p2), .val (.int ca), .val (.int ce), .val (.int cx), .val (.int cy)] [(.int ca), (.int (0 : Int32)), (.ref b11), (.ref b11), (.ref b10), (.ref b10)])) rfl rfl (hb hby d1_103)
          refine Go.st st12 ?_
          have N12 := Fr.snoc X12 N0 g_b11
          replace E_b10 := E_b10.wr W12
          replace F_value_b10 := F_value_b10.other W12 (Or.inl ne_b10_b11)
          replace F_coder_b10 := F_coder_b10.other W12 (Or.inl ne_b10_b11)
          replace SF_b10 := Safe.wr W12 SF_b11 CH SF_b10
          replace CR := CR.trans (CHr.wr W12 SF_b11 CH)
          have CH' := CH.wr W12 SF_b11
          replace SF_b11 := Safe.wr W12 SF_b11 CH SF_b11
          replace CH := CH'
          clear CH'
          replace hk : k0 ≤ h12.size := by rw [W12.size]; exact hk
          replace O := O.wr W12 g_b11
          replace K := K.wr W12 (Or.inr sz_b11)
          replace Zn : n0 ≤ h12.size := by rw [W12.size]; exact Zn
          replace V_b11 := Afn.set Ar12 S12 Nn12 H12 (fits_nar_char _) W12
          show Go p.tables e below PP (T12.setTop (mkF m 104 #[.val (.int p1), .val (.int p2), .val (.int ca), .val (.int ce), .val (.int cx), .val (.int cy)] [(.ref b11), (.ref b10), (.ref b10)]))
          refine Go.st (fun t k => XS.dup X12.here hx rfl (hb hby d1_104) rfl rfl k) ?_
          show Go p.tables e below PP (T12.setTop (mkF m 105 #[.val (.int p1), .val (.int p2), .val (.int ca), .val (.int ce), .val (.int cx), .val (.int cy)] [(.ref b11), (.ref b11), (.ref b10), (.ref b10)]))
          refine Go.st (fun t k => XS.iconst X12.here hx rfl (hb hby d1_105) k) ?_
          show Go p.tables e below PP (T12.setTop (mkF m 106 #[.val (.int p1), .val (.int p2), .val (.int ca), .val (.int ce), .val (.int cx), .val (.int cy)] [(.int (1 : Int32)), (.ref b11), (.ref b11), (.ref b10), (.ref b10)]))
          refine Go.st (fun t k => XS.iloadN X12.here hx rfl (hb hby d1_106) rfl k) ?_
          show Go p.tables e below PP (T12.setTop (mkF m 107 #[.val (.int p1), .val (.int p2), .val (.int ca), .val (.int ce), .val (.int cx), .val (.int cy)] [(.int ce), (.int (1 : Int32)), (.ref b11), (.ref b11), (.ref b10), (.ref b10)]))
          obtain ⟨cl13, Ar13, S13, Nn13, H13⟩ := id V_b11
          have hin13 : ¬ ((1 : Int32) < 0 ∨ cl13.slots.size ≤ ((1 : Int32)).toNatClampNeg) := inb_of S13 ⟨by decide, by decide⟩
          obtain ⟨T13, h13, X13, e13, W13, st13⟩ := stC X12 hx hZ e12 Ar13 (j := (1 : Int32)) hin13 (g := (mkF m 107 #[.val (.int p1), .val (.int p2), .val (.int ca), .val (.int ce), .val (.int cx), .val (.int cy)] [(.int ce), (.int (1 : Int32)), (.ref b11), (.ref b11), (.ref b10), (.ref b10)])) rfl rfl (hb hby d1_107)
          refine Go.st st13 ?_
          have N13 := Fr.snoc X13 N12 g_b11
          replace E_b10 := E_b10.wr W13
          replace F_value_b10 := F_value_b10.other W13 (Or.inl ne_b10_b11)
          replace F_coder_b10 := F_coder_b10.other W13 (Or.inl ne_b10_b11)
          replace SF_b10 := Safe.wr W13 SF_b11 CH SF_b10
          replace CR := CR.trans (CHr.wr W13 SF_b11 CH)
          have CH' := CH.wr W13 SF_b11
          replace SF_b11 := Safe.wr W13 SF_b11 CH SF_b11
          replace CH := CH'
          clear CH'
          replace hk : k0 ≤ h13.size := by rw [W13.size]; exact hk
          replace O := O.wr W13 g_b11
          replace K := K.wr W13 (Or.inr sz_b11)
          replace Zn : n0 ≤ h13.size := by rw [W13.size]; exact Zn
          replace V_b11 := Afn.set Ar13 S13 Nn13 H13 (fits_nar_char _) W13
          show Go p.tables e below PP (T13.setTop (mkF m 108 #[.val (.int p1), .val (.int p2), .val (.int ca), .val (.int ce), .val (.int cx), .val (.int cy)] [(.ref b11), (.ref b10), (.ref b10)]))
          refine Go.st (fun t k => XS.dup X13.here hx rfl (hb hby d1_108) rfl rfl k) ?_
          show Go p.tables e below PP (T13.setTop (mkF m 109 #[.val (.int p1), .val (.int p2), .val (.int ca), .val (.int ce), .val (.int cx), .val (.int cy)] [(.ref b11), (.ref b11), (.ref b10), (.ref b10)]))
          refine Go.st (fun t k => XS.iconst X13.here hx rfl (hb hby d1_109) k) ?_
          show Go p.tables e below PP (T13.setTop (mkF m 110 #[.val (.int p1), .val (.int p2), .val (.int ca), .val (.int ce), .val (.int cx), .val (.int cy)] [(.int (2 : Int32)), (.ref b11), (.ref b11), (.ref b10), (.ref b10)]))
          refine Go.st (fun t k => XS.iload X13.here hx rfl (hb hby d1_110) rfl k) ?_
          show Go p.tables e below PP (T13.setTop (mkF m 112 #[.val (.int p1), .val (.int p2), .val (.int ca), .val (.int ce), .val (.int cx), .val (.int cy)] [(.int cx), (.int (2 : Int32)), (.ref b11), (.ref b11), (.ref b10), (.ref b10)]))
          obtain ⟨cl14, Ar14, S14, Nn14, H14⟩ := id V_b11
          have hin14 : ¬ ((2 : Int32) < 0 ∨ cl14.slots.size ≤ ((2 : Int32)).toNatClampNeg) := inb_of S14 ⟨by decide, by decide⟩
          obtain ⟨T14, h14, X14, e14, W14, st14⟩ := stC X13 hx hZ e13 Ar14 (j := (2 : Int32)) hin14 (g := (mkF m 112 #[.val (.int p1), .val (.int p2), .val (.int ca), .val (.int ce), .val (.int cx), .val (.int cy)] [(.int cx), (.int (2 : Int32)), (.ref b11), (.ref b11), (.ref b10), (.ref b10)])) rfl rfl (hb hby d1_112)
          refine Go.st st14 ?_
          have N14 := Fr.snoc X14 N13 g_b11
          replace E_b10 := E_b10.wr W14
          replace F_value_b10 := F_value_b10.other W14 (Or.inl ne_b10_b11)
          replace F_coder_b10 := F_coder_b10.other W14 (Or.inl ne_b10_b11)
          replace SF_b10 := Safe.wr W14 SF_b11 CH SF_b10
          replace CR := CR.trans (CHr.wr W14 SF_b11 CH)
          have CH' := CH.wr W14 SF_b11
          replace SF_b11 := Safe.wr W14 SF_b11 CH SF_b11
          replace CH := CH'
          clear CH'
          replace hk : k0 ≤ h14.size := by rw [W14.size]; exact hk
          replace O := O.wr W14 g_b11
          replace K := K.wr W14 (Or.inr sz_b11)
          replace Zn : n0 ≤ h14.size := by rw [W14.size]; exact Zn
          replace V_b11 := Afn.set Ar14 S14 Nn14 H14 (fits_nar_char _) W14
          obtain ⟨csv, hcsv⟩ : ∃ f : Nat → Int32, f = csL [ca, ce, cx] := ⟨_, rfl⟩
          have hcb : ∀ k, k < (3 : Int32).toNatClampNeg → ¬ csv k < (0 : Int32) ∧ ¬ (255 : Int32) < csv k := fun k _ => by rw [hcsv]; exact own_csb _ (fun x hm => by simp only [List.mem_cons, List.not_mem_nil, or_false] at hm; rcases hm with rfl | rfl | rfl <;> first | exact ⟨hca.1, hca.2.1⟩ | exact ⟨hce.1, hce.2.1⟩ | exact ⟨hcx.1, hcx.2.1⟩) k
          replace V_b11 := V_b11.congr (g := fun k => .int (csv k)) (fun k hk => by rw [hcsv]; exact own_cs3 ca ce cx hca.2.2 hce.2.2 hcx.2.2 k hk)
          show Go p.tables e below PP (T14.setTop (mkF m 113 #[.val (.int p1), .val (.int p2), .val (.int ca), .val (.int ce), .val (.int cx), .val (.int cy)] [(.ref b11), (.ref b10), (.ref b10)]))
          have hZ0 := hZ
          have hown0 := hown
          clear hZ hown
          obtain ⟨v15, T15, L15, X15, hQ15, hC15, hSn15, hZ, hown, st15⟩ := callInW X14 hx hZ0 (y := (⟨"java/lang/String", "<init>", "([C)V"⟩ : MethodName)) (a := b10) (argsL := [(.ref b11)]) (rest := [(.ref b10)]) rfl hown0 (hw _ (List.mem_of_getElem? (i := 9) rfl)) (hw _ (List.mem_of_getElem? (i := 10) rfl)) (hw _ (List.mem_of_getElem? (i := 7) rfl)) (hw _ (List.mem_of_getElem? (i := 11) rfl)) (by decide) (rmS1 l Z a0 hw [] b10 b11 (3 : Int32) csv zc h14 n0 Zn hEL E_b10 F_value_b10 F_coder_b10 g_b10 V_b11 hcb (by decide) ne_b10_b11 SC hzc O) e14 hEL CH hS hk 1 (by decide) (by decide) (by decide) (by decide) (g := (mkF m 113 #[.val (.int p1), .val (.int p2), .val (.int ca), .val (.int ce), .val (.int cx), .val (.int cy)] [(.ref b11), (.ref b10), (.ref b10)])) rfl (by rw [hml]; rfl) (lenOf pd_12 rfl) rfl (by show 2 * 0 + _ ≤ _; exact Nat.le_of_eq rfl) (hb hby d1_113)
          clear hZ0 hown0
          replace hS := hSn15
          obtain ⟨h15, e15⟩ : ∃ z, T15.heap = z := ⟨_, rfl⟩
          rw [e15] at hQ15 hC15
          replace SF_b10 := hC15.safe E_b10.lt SF_b10
          replace SF_b11 := hC15.safe V_b11.lt SF_b11
          replace CR := CR.trans hC15
          replace CH := hC15.1
          replace hk : T15.heap.size ≤ h15.size := by rw [e15]; exact Nat.le_refl _
          obtain ⟨rfl, Nq15, Kq15, Eq15, Cq15, t15, Fq15, Vq15⟩ := hQ15
          have N15 := Fr.app N14 Nq15
          replace E_b10 := E_b10.keep Kq15
          clear F_value_b10
          clear F_coder_b10
          replace V_b11 := V_b11.keep Kq15 (ninS (Ne.symm ne_b10_b11) nin0)
          replace O := O.keep Kq15 (allS g_b10 all0)
          replace K := K.trans Kq15 (allS (Or.inr sz_b10) all0)
          replace Zn := Nat.le_trans Zn Kq15.1
          replace E_b10 := Eq15
          have F_value_b10 := Fq15
          have F_coder_b10 := Cq15
          refine Go.st st15 ?_
          show Go p.tables e below PP (T15.setTop (mkF m 116 #[.val (.int p1), .val (.int p2), .val (.int ca), .val (.int ce), .val (.int cx), .val (.int cy)] [(.ref b10)]))
          rw [hPP]
          refine endRW X15 hx hlk hZ hS e15 hk hEL CH CR hret rfl rfl (hb hby d1_116) ?_ (by decide) (by decide)
          show Q1 Z p1 p2 zc h0 n0 (some (.ref b10)) T15.heap _
          rw [e15]
          exact ⟨_, _, _, rfl, N15, K, sz_b10, E_b10, F_coder_b10, F_value_b10, by rw [hc90]; exact Vq15⟩
        · --
          refine Go.st (fun t k => XS.icmpYes X0.here hx rfl (pc0 := 90) (pc' := 117) rfl (hb hby d1_90) rfl (XT.ii_ne_t hc90) (by decide) (by decide) k) ?_
          show Go p.tables e below PP (s₁.setTop (mkF m 117 #[.val (.int p1), .val (.int p2), .val (.int ca), .val (.int ce), .val (.int cx), .val (.int cy)] []))
          obtain ⟨T16, h16, X16, e16, E16, A16, D16, -, st16⟩ := newO X0 hx hZ hown (hw _ (List.mem_of_getElem? (i := 5) rfl)) (hw _ (List.mem_of_getElem? (i := 6) rfl)) (hw _ (List.mem_of_getElem? (i := 7) rfl)) e0 (g := (mkF m 117 #[.val (.int p1), .val (.int p2), .val (.int ca), .val (.int ce), .val (.int cx), .val (.int cy)] [])) rfl (hb hby d1_117) (by decide) (by decide)
          obtain ⟨b16, gz16⟩ : ∃ z, z = h0.size := ⟨_, rfl⟩
          rw [← gz16] at A16 D16 st16
          have g_b16 : n0 ≤ b16 := Nat.le_trans Zn (Nat.le_of_eq gz16.symm)
          have sz_b16 : h0.size ≤ b16 := Nat.le_trans K.1 (Nat.le_of_eq gz16.symm)
          have SF_b16 : Safe Z consts_1 vm0 h0 b16 := Safe.new (Nat.le_of_eq gz16.symm)
          refine Go.st st16 ?_
          replace SF_b16 := Safe.ext E16 CH SF_b16
          replace CR := CR.trans (CHr.ext E16 CH)
          replace CH := CH.ext E16
          replace hk := Nat.le_trans hk E16.1
          replace O := O.ext E16
          replace K := K.ext E16
          replace Zn := Nat.le_trans Zn E16.1
          have E_b16 := A16
          have F_value_b16 : Fld Z h16 b16 "java/lang/String" "value" "[B" .null := D16 (Or.inr (hw _ (List.mem_of_getElem? (i := 21) rfl))) (ty := (.array .byte)) (by decide)
          have F_coder_b16 : Fld Z h16 b16 "java/lang/String" "coder" "B" (.int (0 : Int32)) := D16 (Or.inr (hw _ (List.mem_of_getElem? (i := 22) rfl))) (ty := .byte) (by decide)
          show Go p.tables e below PP (T16.setTop (mkF m 120 #[.val (.int p1), .val (.int p2), .val (.int ca), .val (.int ce), .val (.int cx), .val (.int cy)] [(.ref b16)]))
          refine Go.st (fun t k => XS.dup X16.here hx rfl (hb hby d1_120) rfl rfl k) ?_
          show Go p.tables e below PP (T16.setTop (mkF m 121 #[.val (.int p1), .val (.int p2), .val (.int ca), .val (.int ce), .val (.int cx), .val (.int cy)] [(.ref b16), (.ref b16)]))
          refine Go.st (fun t k => XS.iconst X16.here hx rfl (hb hby d1_121) k) ?_
          show Go p.tables e below PP (T16.setTop (mkF m 122 #[.val (.int p1), .val (.int p2), .val (.int ca), .val (.int ce), .val (.int cx), .val (.int cy)] [(.int (4 : Int32)), (.ref b16), (.ref b16)]))
          obtain ⟨T17, h17, k17, X17, e17, E17, A17, st17⟩ := newP X16 hx hZ (hw _ (List.mem_of_getElem? (i := 8) rfl)) e16 (g := (mkF m 122 #[.val (.int p1), .val (.int p2), .val (.int ca), .val (.int ce), .val (.int cx), .val (.int cy)] [(.int (4 : Int32)), (.ref b16), (.ref b16)])) rfl (hb hby d1_122) rfl (by decide) (cap := 4) (by decide) (by decide) (by decide) (by decide)
          obtain ⟨b17, gz17⟩ : ∃ z, z = h16.size := ⟨_, rfl⟩
          rw [← gz17] at A17 st17
          have ne_b16_b17 : b16 ≠ b17 := Nat.ne_of_lt (Nat.lt_of_lt_of_le E_b16.lt (Nat.le_of_eq gz17.symm))
          have g_b17 : n0 ≤ b17 := Nat.le_trans Zn (Nat.le_of_eq gz17.symm)
          have sz_b17 : h0.size ≤ b17 := Nat.le_trans K.1 (Nat.le_of_eq gz17.symm)
          have SF_b17 : Safe Z consts_1 vm0 h16 b17 := Safe.new (Nat.le_of_eq gz17.symm)
          refine Go.st st17 ?_
          replace E_b16 := E_b16.ext E17
          replace F_value_b16 := F_value_b16.ext E17
          replace F_coder_b16 := F_coder_b16.ext E17
          replace SF_b16 := Safe.ext E17 CH SF_b16
          replace SF_b17 := Safe.ext E17 CH SF_b17
          replace CR := CR.trans (CHr.ext E17 CH)
          replace CH := CH.ext E17
          replace hk := Nat.le_trans hk E17.1
          replace O := O.ext E17
          replace K := K.ext E17
          replace Zn := Nat.le_trans Zn E17.1
          have V_b17 : Afn Z h17 b17 .char (4 : Int32) (fun _ => (.int (0 : Int32))) := Afn.new A17 (by decide)
          show Go p.tables e below PP (T17.setTop (mkF m 124 #[.val (.int p1), .val (.int p2), .val (.int ca), .val (.int ce), .val (.int cx), .val (.int cy)] [(.ref b17), (.ref b16), (.ref b16)]))
          refine Go.st (fun t k => XS.dup X17.here hx rfl (hb hby d1_124) rfl rfl k) ?_
          show Go p.tables e below PP (T17.setTop (mkF m 125 #[.val (.int p1), .val (.int p2), .val (.int ca), .val (.int ce), .val (.int cx), .val (.int cy)] [(.ref b17), (.ref b17), (.ref b16), (.ref b16)]))
          refine Go.st (fun t k => XS.iconst X17.here hx rfl (hb hby d1_125) k) ?_
          show Go p.tables e below PP (T17.setTop (mkF m 126 #[.val (.int p1), .val (.int p2), .val (.int ca), .val (.int ce), .val (.int cx), .val (.int cy)] [(.int (0 : Int32)), (.ref b17), (.ref b17), (.ref b16), (.ref b16)]))
          refine Go.st (fun t k => XS.iloadN X17.here hx rfl (hb hby d1_126) rfl k) ?_
          show Go p.tables e below PP (T17.setTop (mkF m 127 #[.val (.int p1), .val (.int p2), .val (.int ca), .val (.int ce), .val (.int cx), .val (.int cy)] [(.int ca), (.int (0 : Int32)), (.ref b17), (.ref b17), (.ref b16), (.ref b16)]))
          obtain ⟨cl18, Ar18, S18, Nn18, H18⟩ := id V_b17
          have hin18 : ¬ ((0 : Int32) < 0 ∨ cl18.slots.size ≤ ((0 : Int32)).toNatClampNeg) := inb_of S18 ⟨by decide, by decide⟩
          obtain ⟨T18, h18, X18, e18, W18, st18⟩ := stC X17 hx hZ e17 Ar18 (j := (0 : Int32)) hin18 (g := (mkF m 127 #[.val (.int p1), .val (.int p2), .val (.int ca), .val (.int ce), .val (.int cx), .val (.int cy)] [(.int ca), (.int (0 : Int32)), (.ref b17), (.ref b17), (.ref b16), (.ref b16)])) rfl rfl (hb hby d1_127)
          refine Go.st st18 ?_
          have N18 := Fr.snoc X18 N0 g_b17
          replace E_b16 := E_b16.wr W18
          replace F_value_b16 := F_value_b16.other W18 (Or.inl ne_b16_b17)
          replace F_coder_b16 := F_coder_b16.other W18 (Or.inl ne_b16_b17)
          replace SF_b16 := Safe.wr W18 SF_b17 CH SF_b16
          replace CR := CR.trans (CHr.wr W18 SF_b17 CH)
          have CH' := CH.wr W18 SF_b17
          replace SF_b17 := Safe.wr W18 SF_b17 CH SF_b17
          replace CH := CH'
          clear CH'
          replace hk : k0 ≤ h18.size := by rw [W18.size]; exact hk
          replace O := O.wr W18 g_b17
          replace K := K.wr W18 (Or.inr sz_b17)
          replace Zn : n0 ≤ h18.size := by rw [W18.size]; exact Zn
          replace V_b17 := Afn.set Ar18 S18 Nn18 H18 (fits_nar_char _) W18
          show Go p.tables e below PP (T18.setTop (mkF m 128 #[.val (.int p1), .val (.int p2), .val (.int ca), .val (.int ce), .val (.int cx), .val (.int cy)] [(.ref b17), (.ref b16), (.ref b16)]))
          refine Go.st (fun t k => XS.dup X18.here hx rfl (hb hby d1_128) rfl rfl k) ?_
          show Go p.tables e below PP (T18.setTop (mkF m 129 #[.val (.int p1), .val (.int p2), .val (.int ca), .val (.int ce), .val (.int cx), .val (.int cy)] [(.ref b17), (.ref b17), (.ref b16), (.ref b16)]))
          refine Go.st (fun t k => XS.iconst X18.here hx rfl (hb hby d1_129) k) ?_
          show Go p.tables e below PP (T18.setTop (mkF m 130 #[.val (.int p1), .val (.int p2), .val (.int ca), .val (.int ce), .val (.int cx), .val (.int cy)] [(.int (1 : Int32)), (.ref b17), (.ref b17), (.ref b16), (.ref b16)]))
          refine Go.st (fun t k => XS.iloadN X18.here hx rfl (hb hby d1_130) rfl k) ?_
          show Go p.tables e below PP (T18.setTop (mkF m 131 #[.val (.int p1), .val (.int p2), .val (.int ca), .val (.int ce), .val (.int cx), .val (.int cy)] [(.int ce), (.int (1 : Int32)), (.ref b17), (.ref b17), (.ref b16), (.ref b16)]))
          obtain ⟨cl19, Ar19, S19, Nn19, H19⟩ := id V_b17
          have hin19 : ¬ ((1 : Int32) < 0 ∨ cl19.slots.size ≤ ((1 : Int32)).toNatClampNeg) := inb_of S19 ⟨by decide, by decide⟩
          obtain ⟨T19, h19, X19, e19, W19, st19⟩ := stC X18 hx hZ e18 Ar19 (j := (1 : Int32)) hin19 (g := (mkF m 131 #[.val (.int p1), .val (.int p2), .val (.int ca), .val (.int ce), .val (.int cx), .val (.int cy)] [(.int ce), (.int (1 : Int32)), (.ref b17), (.ref b17), (.ref b16), (.ref b16)])) rfl rfl (hb hby d1_131)
          refine Go.st st19 ?_
          have N19 := Fr.snoc X19 N18 g_b17
          replace E_b16 := E_b16.wr W19
          replace F_value_b16 := F_value_b16.other W19 (Or.inl ne_b16_b17)
          replace F_coder_b16 := F_coder_b16.other W19 (Or.inl ne_b16_b17)
          replace SF_b16 := Safe.wr W19 SF_b17 CH SF_b16
          replace CR := CR.trans (CHr.wr W19 SF_b17 CH)
          have CH' := CH.wr W19 SF_b17
          replace SF_b17 := Safe.wr W19 SF_b17 CH SF_b17
          replace CH := CH'
          clear CH'
          replace hk : k0 ≤ h19.size := by rw [W19.size]; exact hk
          replace O := O.wr W19 g_b17
          replace K := K.wr W19 (Or.inr sz_b17)
          replace Zn : n0 ≤ h19.size := by rw [W19.size]; exact Zn
          replace V_b17 := Afn.set Ar19 S19 Nn19 H19 (fits_nar_char _) W19
          show Go p.tables e below PP (T19.setTop (mkF m 132 #[.val (.int p1), .val (.int p2), .val (.int ca), .val (.int ce), .val (.int cx), .val (.int cy)] [(.ref b17), (.ref b16), (.ref b16)]))
          refine Go.st (fun t k => XS.dup X19.here hx rfl (hb hby d1_132) rfl rfl k) ?_
          show Go p.tables e below PP (T19.setTop (mkF m 133 #[.val (.int p1), .val (.int p2), .val (.int ca), .val (.int ce), .val (.int cx), .val (.int cy)] [(.ref b17), (.ref b17), (.ref b16), (.ref b16)]))
          refine Go.st (fun t k => XS.iconst X19.here hx rfl (hb hby d1_133) k) ?_
          show Go p.tables e below PP (T19.setTop (mkF m 134 #[.val (.int p1), .val (.int p2), .val (.int ca), .val (.int ce), .val (.int cx), .val (.int cy)] [(.int (2 : Int32)), (.ref b17), (.ref b17), (.ref b16), (.ref b16)]))
          refine Go.st (fun t k => XS.iload X19.here hx rfl (hb hby d1_134) rfl k) ?_
          show Go p.tables e below PP (T19.setTop (mkF m 136 #[.val (.int p1), .val (.int p2), .val (.int ca), .val (.int ce), .val (.int cx), .val (.int cy)] [(.int cx), (.int (2 : Int32)), (.ref b17), (.ref b17), (.ref b16), (.ref b16)]))
          obtain ⟨cl20, Ar20, S20, Nn20, H20⟩ := id V_b17
          have hin20 : ¬ ((2 : Int32) < 0 ∨ cl20.slots.size ≤ ((2 : Int32)).toNatClampNeg) := inb_of S20 ⟨by decide, by decide⟩
          obtain ⟨T20, h20, X20, e20, W20, st20⟩ := stC X19 hx hZ e19 Ar20 (j := (2 : Int32)) hin20 (g := (mkF m 136 #[.val (.int p1), .val (.int p2), .val (.int ca), .val (.int ce), .val (.int cx), .val (.int cy)] [(.int cx), (.int (2 : Int32)), (.ref b17), (.ref b17), (.ref b16), (.ref b16)])) rfl rfl (hb hby d1_136)
          refine Go.st st20 ?_
          have N20 := Fr.snoc X20 N19 g_b17
          replace E_b16 := E_b16.wr W20
          replace F_value_b16 := F_value_b16.other W20 (Or.inl ne_b16_b17)
          replace F_coder_b16 := F_coder_b16.other W20 (Or.inl ne_b16_b17)
          replace SF_b16 := Safe.wr W20 SF_b17 CH SF_b16
          replace CR := CR.trans (CHr.wr W20 SF_b17 CH)
          have CH' := CH.wr W20 SF_b17
          replace SF_b17 := Safe.wr W20 SF_b17 CH SF_b17
          replace CH := CH'
          clear CH'
          replace hk : k0 ≤ h20.size := by rw [W20.size]; exact hk
          replace O := O.wr W20 g_b17
          replace K := K.wr W20 (Or.inr sz_b17)
          replace Zn : n0 ≤ h20.size := by rw [W20.size]; exact Zn
          replace V_b17 := Afn.set Ar20 S20 Nn20 H20 (fits_nar_char _) W20
          show Go p.tables e below PP (T20.setTop (mkF m 137 #[.val (.int p1), .val (.int p2), .val (.int ca), .val (.int ce), .val (.int cx), .val (.int cy)] [(.ref b17), (.ref b16), (.ref b16)]))
          refine Go.st (fun t k => XS.dup X20.here hx rfl (hb hby d1_137) rfl rfl k) ?_
          show Go p.tables e below PP (T20.setTop (mkF m 138 #[.val (.int p1), .val (.int p2), .val (.int ca), .val (.int ce), .val (.int cx), .val (.int cy)] [(.ref b17), (.ref b17), (.ref b16), (.ref b16)]))
          refine Go.st (fun t k => XS.iconst X20.here hx rfl (hb hby d1_138) k) ?_
          show Go p.tables e below PP (T20.setTop (mkF m 139 #[.val (.int p1), .val (.int p2), .val (.int ca), .val (.int ce), .val (.int cx), .val (.int cy)] [(.int (3 : Int32)), (.ref b17), (.ref b17), (.ref b16), (.ref b16)]))
          refine Go.st (fun t k => XS.iload X20.here hx rfl (hb hby d1_139) rfl k) ?_
          show Go p.tables e below PP (T20.setTop (mkF m 141 #[.val (.int p1), .val (.int p2), .val (.int ca), .val (.int ce), .val (.int cx), .val (.int cy)] [(.int cy), (.int (3 : Int32)), (.ref b17), (.ref b17), (.ref b16), (.ref b16)]))
          obtain ⟨cl21, Ar21, S21, Nn21, H21⟩ := id V_b17
          have hin21 : ¬ ((3 : Int32) < 0 ∨ cl21.slots.size ≤ ((3 : Int32)).toNatClampNeg) := inb_of S21 ⟨by decide, by decide⟩
          obtain ⟨T21, h21, X21, e21, W21, st21⟩ := stC X20 hx hZ e20 Ar21 (j := (3 : Int32)) hin21 (g := (mkF m 141 #[.val (.int p1), .val (.int p2), .val (.int ca), .val (.int ce), .val (.int cx), .val (.int cy)] [(.int cy), (.int (3 : Int32)), (.ref b17), (.ref b17), (.ref b16), (.ref b16)])) rfl rfl (hb hby d1_141)
          refine Go.st st21 ?_
          have N21 := Fr.snoc X21 N20 g_b17
          replace E_b16 := E_b16.wr W21
          replace F_value_b16 := F_value_b16.other W21 (Or.inl ne_b16_b17)
          replace F_coder_b16 := F_coder_b16.other W21 (Or.inl ne_b16_b17)
          replace SF_b16 := Safe.wr W21 SF_b17 CH SF_b16
          replace CR := CR.trans (CHr.wr W21 SF_b17 CH)
          have CH' := CH.wr W21 SF_b17
          replace SF_b17 := Safe.wr W21 SF_b17 CH SF_b17
          replace CH := CH'
          clear CH'
          replace hk : k0 ≤ h21.size := by rw [W21.size]; exact hk
          replace O := O.wr W21 g_b17
          replace K := K.wr W21 (Or.inr sz_b17)
          replace Zn : n0 ≤ h21.size := by rw [W21.size]; exact Zn
          replace V_b17 := Afn.set Ar21 S21 Nn21 H21 (fits_nar_char _) W21
          obtain ⟨csv, hcsv⟩ : ∃ f : Nat → Int32, f = csL [ca, ce, cx, cy] := ⟨_, rfl⟩
          have hcb : ∀ k, k < (4 : Int32).toNatClampNeg → ¬ csv k < (0 : Int32) ∧ ¬ (255 : Int32) < csv k := fun k _ => by rw [hcsv]; exact own_csb _ (fun x hm => by simp only [List.mem_cons, List.not_mem_nil, or_false] at hm; rcases hm with rfl | rfl | rfl | rfl <;> first | exact ⟨hca.1, hca.2.1⟩ | exact ⟨hce.1, hce.2.1⟩ | exact ⟨hcx.1, hcx.2.1⟩ | exact ⟨hcy.1, hcy.2.1⟩) k
          replace V_b17 := V_b17.congr (g := fun k => .int (csv k)) (fun k hk => by rw [hcsv]; exact own_cs4 ca ce cx cy hca.2.2 hce.2.2 hcx.2.2 hcy.2.2 k hk)
          show Go p.tables e below PP (T21.setTop (mkF m 142 #[.val (.int p1), .val (.int p2), .val (.int ca), .val (.int ce), .val (.int cx), .val (.int cy)] [(.ref b17), (.ref b16), (.ref b16)]))
          have hZ0 := hZ
          have hown0 := hown
          clear hZ hown
          obtain ⟨v22, T22, L22, X22, hQ22, hC22, hSn22, hZ, hown, st22⟩ := callInW X21 hx hZ0 (y := (⟨"java/lang/String", "<init>", "([C)V"⟩ : MethodName)) (a := b16) (argsL := [(.ref b17)]) (rest := [(.ref b16)]) rfl hown0 (hw _ (List.mem_of_getElem? (i := 9) rfl)) (hw _ (List.mem_of_getElem? (i := 10) rfl)) (hw _ (List.mem_of_getElem? (i := 7) rfl)) (hw _ (List.mem_of_getElem? (i := 11) rfl)) (by decide) (rmS1 l Z a0 hw [] b16 b17 (4 : Int32) csv zc h21 n0 Zn hEL E_b16 F_value_b16 F_coder_b16 g_b16 V_b17 hcb (by decide) ne_b16_b17 SC hzc O) e21 hEL CH hS hk 1 (by decide) (by decide) (by decide) (by decide) (g := (mkF m 142 #[.val (.int p1), .val (.int p2), .val (.int ca), .val (.int ce), .val (.int cx), .val (.int cy)] [(.ref b17), (.ref b16), (.ref b16)])) rfl (by rw [hml]; rfl) (lenOf pd_12 rfl) rfl (by show 2 * 0 + _ ≤ _; exact Nat.le_of_eq rfl) (hb hby d1_142)
          clear hZ0 hown0
          replace hS := hSn22
          obtain ⟨h22, e22⟩ : ∃ z, T22.heap = z := ⟨_, rfl⟩
          rw [e22] at hQ22 hC22
          replace SF_b16 := hC22.safe E_b16.lt SF_b16
          replace SF_b17 := hC22.safe V_b17.lt SF_b17
          replace CR := CR.trans hC22
          replace CH := hC22.1
          replace hk : T22.heap.size ≤ h22.size := by rw [e22]; exact Nat.le_refl _
          obtain ⟨rfl, Nq22, Kq22, Eq22, Cq22, t22, Fq22, Vq22⟩ := hQ22
          have N22 := Fr.app N21 Nq22
          replace E_b16 := E_b16.keep Kq22
          clear F_value_b16
          clear F_coder_b16
          replace V_b17 := V_b17.keep Kq22 (ninS (Ne.symm ne_b16_b17) nin0)
          replace O := O.keep Kq22 (allS g_b16 all0)
          replace K := K.trans Kq22 (allS (Or.inr sz_b16) all0)
          replace Zn := Nat.le_trans Zn Kq22.1
          replace E_b16 := Eq22
          have F_value_b16 := Fq22
          have F_coder_b16 := Cq22
          refine Go.st st22 ?_
          show Go p.tables e below PP (T22.setTop (mkF m 145 #[.val (.int p1), .val (.int p2), .val (.int ca), .val (.int ce), .val (.int cx), .val (.int cy)] [(.ref b16)]))
          rw [hPP]
          refine endRW X22 hx hlk hZ hS e22 hk hEL CH CR hret rfl rfl (hb hby d1_145) ?_ (by decide) (by decide)
          show Q1 Z p1 p2 zc h0 n0 (some (.ref b16)) T22.heap _
          rw [e22]
          exact ⟨_, _, _, rfl, N22, K, sz_b16, E_b16, F_coder_b16, F_value_b16, by rw [(own_n4 p1 hn hc40 hc56 hc66 hc90)]; exact Vq22⟩
theorem pn_rm0 : plainName "com/example/strict_roles/strictroles/formats/StandingDefinitionsCountHomePathPinLaw" = true := by first | (simp [plainName, overriddenIn]; done) | decide +kernel
theorem ef_rm0 (m : MethodId) (p1 : Int32) (p2 : Int32) (p3 : Int32) (p4 : Int32) : entryFrame m #[(.int p1), (.int p2), (.int p3), (.int p4)] maxLocals = mkF m 0 #[.val (.int p1), .val (.int p2), .val (.int p3), .val (.int p4), .unset, .unset, .unset, .unset, .unset, .unset, .unset, .unset, .unset, .unset, .unset, .unset] [] := by first | (simp [entryFrame, mkF, argsToLocals, Value.category, maxLocals]; done) | rfl
def Q0 (Z : State) (p1 : Int32) (p2 : Int32) (p3 : Int32) (p4 : Int32) (zc : Int32) (ae : Addr) (h0 : Heap) (n0 : Nat) (v : Option Value) (h : Heap) (L : List Loc) : Prop := v = some (.int 1) ∧ Fr n0 L
theorem pd_14 : parseMethodDescriptor "(II)Ljava/lang/String;" = some ⟨[.int, .int], some (.object "java/lang/String")⟩ := by decide +kernel
theorem pd_15 : parseMethodDescriptor "()J" = some ⟨[], some .long⟩ := by decide +kernel
theorem pd_16 : parseMethodDescriptor "(Ljava/lang/String;)V" = some ⟨[(.object "java/lang/String")], none⟩ := by decide +kernel
set_option maxRecDepth 65536 in
set_option maxHeartbeats 40000000 in
theorem rm0 (l : Launch) (Z : State) (a0 : Array Value) (hw : ∀ d ∈ tables_1, d.before a0 Z = true) (ws : List Jvm.Cond) (p1 : Int32) (p2 : Int32) (p3 : Int32) (p4 : Int32) (zc : Int32) (ae : Addr) (h0 : Heap) (n0 : Nat) (Z0 : n0 ≤ h0.size) (hEL : EW Z a0 consts_1) (SC : Sta Z Z.heap "java/lang/String" "COMPACT_STRINGS" "Z" (.int zc)) (hzc : ¬ zc = (0 : Int32)) (O : Old Z n0 h0) (SE : Sta Z Z.heap "java/util/ArrayList" "DEFAULTCAPACITY_EMPTY_ELEMENTDATA" "[Ljava/lang/Object;" (.ref ae)) :
    ConH l Z consts_1 x code maxLocals ret ws room_1 #[(.int p1), (.int p2), (.int p3), (.int p4)] h0 (Q0 Z p1 p2 p3 p4 zc ae h0 n0) := by
  refine ConH.of (plainFor_of_name pn_rm0) ?_
  intro p e s m below meth c s₁ vm0 k0 hZ e0 X0 hx hby hml hown hnm hret hlk hS hk CH CR
  replace hml : c.maxLocals = 16 := hml
  have hown : vm0.findClass "com/example/strict_roles/strictroles/formats/StandingDefinitionsCountHomePathPinLaw" = some m.cls := hown
  have N0 : Fr n0 [] := Fr.nil n0
  obtain ⟨PP, hPP⟩ : ∃ P, P = FineW Z consts_1 s below (Q0 Z p1 p2 p3 p4 zc ae h0 n0) room_1.cells room_1.slots := ⟨_, rfl⟩
  rw [← hPP]
  refine Go.cast (ef_rm0 m p1 p2 p3 p4) ?_
  have Zn : n0 ≤ h0.size := Z0
  show Go p.tables e below PP (s₁.setTop (mkF m 0 #[.val (.int p1), .val (.int p2), .val (.int p3), .val (.int p4), .unset, .unset, .unset, .unset, .unset, .unset, .unset, .unset, .unset, .unset, .unset, .unset] []))
  refine Go.st (fun t k => XS.iloadN X0.here hx rfl (hb hby at_0) rfl k) ?_
  show Go p.tables e below PP (s₁.setTop (mkF m 1 #[.val (.int p1), .val (.int p2), .val (.int p3), .val (.int p4), .unset, .unset, .unset, .unset, .unset, .unset, .unset, .unset, .unset, .unset, .unset, .unset] [(.int p1)]))
  refine Go.st (fun t k => X0.ldcI hx hown (mvT hZ (hw _ (List.mem_of_getElem? (i := 0) rfl))) (g := (mkF m 1 #[.val (.int p1), .val (.int p2), .val (.int p3), .val (.int p4), .unset, .unset, .unset, .unset, .unset, .unset, .unset, .unset, .unset, .unset, .unset, .unset] [(.int p1)])) rfl (hb hby at_1) k) ?_
  show Go p.tables e below PP (s₁.setTop (mkF m 3 #[.val (.int p1), .val (.int p2), .val (.int p3), .val (.int p4), .unset, .unset, .unset, .unset, .unset, .unset, .unset, .unset, .unset, .unset, .unset, .unset] [(.int (2147483647 : Int32)), (.int p1)]))
  refine Go.st (fun t k => XS.iand X0.here hx rfl (hb hby at_3) rfl k) ?_
  show Go p.tables e below PP (s₁.setTop (mkF m 4 #[.val (.int p1), .val (.int p2), .val (.int p3), .val (.int p4), .unset, .unset, .unset, .unset, .unset, .unset, .unset, .unset, .unset, .unset, .unset, .unset] [(.int (p1 &&& (2147483647 : Int32)))]))
  refine Go.st (fun t k => XS.iconst X0.here hx rfl (hb hby at_4) k) ?_
  show Go p.tables e below PP (s₁.setTop (mkF m 5 #[.val (.int p1), .val (.int p2), .val (.int p3), .val (.int p4), .unset, .unset, .unset, .unset, .unset, .unset, .unset, .unset, .unset, .unset, .unset, .unset] [(.int (5 : Int32)), (.int (p1 &&& (2147483647 : Int32)))]))
  refine Go.st (fun t k => iremM X0 hx rfl (hb hby at_5) rfl (by decide) k) ?_
  generalize hn1 : ((p1 &&& (2147483647 : Int32)) % (5 : Int32)) = n1
  replace hn1 := own_5 _ _ hn1
  show Go p.tables e below PP (s₁.setTop (mkF m 6 #[.val (.int p1), .val (.int p2), .val (.int p3), .val (.int p4), .unset, .unset, .unset, .unset, .unset, .unset, .unset, .unset, .unset, .unset, .unset, .unset] [(.int n1)]))
  refine Go.st (fun t k => XS.istore X0.here hx rfl (hb hby at_6) rfl (l' := #[.val (.int p1), .val (.int p2), .val (.int p3), .val (.int p4), .val (.int n1), .unset, .unset, .unset, .unset, .unset, .unset, .unset, .unset, .unset, .unset, .unset]) rfl k) ?_
  show Go p.tables e below PP (s₁.setTop (mkF m 8 #[.val (.int p1), .val (.int p2), .val (.int p3), .val (.int p4), .val (.int n1), .unset, .unset, .unset, .unset, .unset, .unset, .unset, .unset, .unset, .unset, .unset] []))
  refine Go.st (fun t k => XS.iloadN X0.here hx rfl (hb hby at_8) rfl k) ?_
  show Go p.tables e below PP (s₁.setTop (mkF m 9 #[.val (.int p1), .val (.int p2), .val (.int p3), .val (.int p4), .val (.int n1), .unset, .unset, .unset, .unset, .unset, .unset, .unset, .unset, .unset, .unset, .unset] [(.int p3)]))
  refine Go.st (fun t k => X0.ldcI hx hown (mvT hZ (hw _ (List.mem_of_getElem? (i := 0) rfl))) (g := (mkF m 9 #[.val (.int p1), .val (.int p2), .val (.int p3), .val (.int p4), .val (.int n1), .unset, .unset, .unset, .unset, .unset, .unset, .unset, .unset, .unset, .unset, .unset] [(.int p3)])) rfl (hb hby at_9) k) ?_
  show Go p.tables e below PP (s₁.setTop (mkF m 11 #[.val (.int p1), .val (.int p2), .val (.int p3), .val (.int p4), .val (.int n1), .unset, .unset, .unset, .unset, .unset, .unset, .unset, .unset, .unset, .unset, .unset] [(.int (2147483647 : Int32)), (.int p3)]))
  refine Go.st (fun t k => XS.iand X0.here hx rfl (hb hby at_11) rfl k) ?_
  show Go p.tables e below PP (s₁.setTop (mkF m 12 #[.val (.int p1), .val (.int p2), .val (.int p3), .val (.int p4), .val (.int n1), .unset, .unset, .unset, .unset, .unset, .unset, .unset, .unset, .unset, .unset, .unset] [(.int (p3 &&& (2147483647 : Int32)))]))
  refine Go.st (fun t k => XS.iconst X0.here hx rfl (hb hby at_12) k) ?_
  show Go p.tables e below PP (s₁.setTop (mkF m 13 #[.val (.int p1), .val (.int p2), .val (.int p3), .val (.int p4), .val (.int n1), .unset, .unset, .unset, .unset, .unset, .unset, .unset, .unset, .unset, .unset, .unset] [(.int (5 : Int32)), (.int (p3 &&& (2147483647 : Int32)))]))
  refine Go.st (fun t k => iremM X0 hx rfl (hb hby at_13) rfl (by decide) k) ?_
  generalize hn2 : ((p3 &&& (2147483647 : Int32)) % (5 : Int32)) = n2
  replace hn2 := own_5 _ _ hn2
  show Go p.tables e below PP (s₁.setTop (mkF m 14 #[.val (.int p1), .val (.int p2), .val (.int p3), .val (.int p4), .val (.int n1), .unset, .unset, .unset, .unset, .unset, .unset, .unset, .unset, .unset, .unset, .unset] [(.int n2)]))
  refine Go.st (fun t k => XS.istore X0.here hx rfl (hb hby at_14) rfl (l' := #[.val (.int p1), .val (.int p2), .val (.int p3), .val (.int p4), .val (.int n1), .val (.int n2), .unset, .unset, .unset, .unset, .unset, .unset, .unset, .unset, .unset, .unset]) rfl k) ?_
  show Go p.tables e below PP (s₁.setTop (mkF m 16 #[.val (.int p1), .val (.int p2), .val (.int p3), .val (.int p4), .val (.int n1), .val (.int n2), .unset, .unset, .unset, .unset, .unset, .unset, .unset, .unset, .unset, .unset] []))
  refine Go.st (fun t k => XS.iload X0.here hx rfl (hb hby at_16) rfl k) ?_
  show Go p.tables e below PP (s₁.setTop (mkF m 18 #[.val (.int p1), .val (.int p2), .val (.int p3), .val (.int p4), .val (.int n1), .val (.int n2), .unset, .unset, .unset, .unset, .unset, .unset, .unset, .unset, .unset, .unset] [(.int n1)]))
  refine Go.st (fun t k => XS.iloadN X0.here hx rfl (hb hby at_18) rfl k) ?_
  show Go p.tables e below PP (s₁.setTop (mkF m 19 #[.val (.int p1), .val (.int p2), .val (.int p3), .val (.int p4), .val (.int n1), .val (.int n2), .unset, .unset, .unset, .unset, .unset, .unset, .unset, .unset, .unset, .unset] [(.int p2), (.int n1)]))
  have hZ0 := hZ
  have hown0 := hown
  clear hZ hown
  obtain ⟨v1, T1, L1, X1, hQ1, hC1, hSn1, hZ, hown, st1⟩ := callStW X0 hx hZ0 (y := (⟨"com/example/strict_roles/strictroles/formats/StandingDefinitionsCountHomePathPinLaw", "draw", "(II)Ljava/lang/String;"⟩ : MethodName)) (argsL := [(.int n1), (.int p2)]) (rest := []) hown0 (hw _ (List.mem_of_getElem? (i := 1) rfl)) (hw _ (List.mem_of_getElem? (i := 2) rfl)) (hw _ (List.mem_of_getElem? (i := 3) rfl)) (hw _ (List.mem_of_getElem? (i := 4) rfl)) (by decide) (rm1 l Z a0 hw [] n1 p2 zc h0 n0 Zn hEL SC hzc O hn1) e0 hEL CH hS hk 0 (by decide) (by decide) (by decide) (by decide) (g := (mkF m 19 #[.val (.int p1), .val (.int p2), .val (.int p3), .val (.int p4), .val (.int n1), .val (.int n2), .unset, .unset, .unset, .unset, .unset, .unset, .unset, .unset, .unset, .unset] [(.int p2), (.int n1)])) rfl (by rw [hml]; rfl) (lenOf pd_14 rfl) rfl (by show 2 * 0 + _ ≤ _; exact Nat.le_of_eq rfl) (hb hby at_19)
  clear hZ0 hown0
  replace hS := hSn1
  obtain ⟨h1, e1⟩ : ∃ z, T1.heap = z := ⟨_, rfl⟩
  rw [e1] at hQ1 hC1
  replace CR := CR.trans hC1
  replace CH := hC1.1
  replace hk : T1.heap.size ≤ h1.size := by rw [e1]; exact Nat.le_refl _
  obtain ⟨r1, t1, f1, rfl, Nq1, Kq1, sq1, Eq1, Cq1, Fq1, Vq1⟩ := hQ1
  have N1 := Fr.app N0 Nq1
  replace O := O.keep Kq1 all0
  replace Zn := Nat.le_trans Zn Kq1.1
  refine Go.st st1 ?_
  show Go p.tables e below PP (T1.setTop (mkF m 22 #[.val (.int p1), .val (.int p2), .val (.int p3), .val (.int p4), .val (.int n1), .val (.int n2), .unset, .unset, .unset, .unset, .unset, .unset, .unset, .unset, .unset, .unset] [(.ref r1)]))
  refine Go.st (fun t k => XS.astore X1.here hx rfl (hb hby at_22) rfl rfl (l' := #[.val (.int p1), .val (.int p2), .val (.int p3), .val (.int p4), .val (.int n1), .val (.int n2), .val (.ref r1), .unset, .unset, .unset, .unset, .unset, .unset, .unset, .unset, .unset]) rfl k) ?_
  show Go p.tables e below PP (T1.setTop (mkF m 24 #[.val (.int p1), .val (.int p2), .val (.int p3), .val (.int p4), .val (.int n1), .val (.int n2), .val (.ref r1), .unset, .unset, .unset, .unset, .unset, .unset, .unset, .unset, .unset] []))
  refine Go.st (fun t k => XS.iload X1.here hx rfl (hb hby at_24) rfl k) ?_
  show Go p.tables e below PP (T1.setTop (mkF m 26 #[.val (.int p1), .val (.int p2), .val (.int p3), .val (.int p4), .val (.int n1), .val (.int n2), .val (.ref r1), .unset, .unset, .unset, .unset, .unset, .unset, .unset, .unset, .unset] [(.int n2)]))
  refine Go.st (fun t k => XS.iloadN X1.here hx rfl (hb hby at_26) rfl k) ?_
  show Go p.tables e below PP (T1.setTop (mkF m 27 #[.val (.int p1), .val (.int p2), .val (.int p3), .val (.int p4), .val (.int n1), .val (.int n2), .val (.ref r1), .unset, .unset, .unset, .unset, .unset, .unset, .unset, .unset, .unset] [(.int p4), (.int n2)]))
  have hZ0 := hZ
  have hown0 := hown
  clear hZ hown
  obtain ⟨v2, T2, L2, X2, hQ2, hC2, hSn2, hZ, hown, st2⟩ := callStW X1 hx hZ0 (y := (⟨"com/example/strict_roles/strictroles/formats/StandingDefinitionsCountHomePathPinLaw", "draw", "(II)Ljava/lang/String;"⟩ : MethodName)) (argsL := [(.int n2), (.int p4)]) (rest := []) hown0 (hw _ (List.mem_of_getElem? (i := 1) rfl)) (hw _ (List.mem_of_getElem? (i := 2) rfl)) (hw _ (List.mem_of_getElem? (i := 3) rfl)) (hw _ (List.mem_of_getElem? (i := 4) rfl)) (by decide) (rm1 l Z a0 hw [] n2 p4 zc h1 n0 Zn hEL SC hzc O hn2) e1 hEL CH hS hk 0 (by decide) (by decide) (by decide) (by decide) (g := (mkF m 27 #[.val (.int p1), .val (.int p2), .val (.int p3), .val (.int p4), .val (.int n1), .val (.int n2), .val (.ref r1), .unset, .unset, .unset, .unset, .unset, .unset, .unset, .unset, .unset] [(.int p4), (.int n2)])) rfl (by rw [hml]; rfl) (lenOf pd_14 rfl) rfl (by show 2 * 0 + _ ≤ _; exact Nat.le_of_eq rfl) (hb hby at_27)
  clear hZ0 hown0
  replace hS := hSn2
  obtain ⟨h2, e2⟩ : ∃ z, T2.heap = z := ⟨_, rfl⟩
  rw [e2] at hQ2 hC2
  replace CR := CR.trans hC2
  replace CH := hC2.1
  replace hk : T2.heap.size ≤ h2.size := by rw [e2]; exact Nat.le_refl _
  obtain ⟨r2, t2, f2, rfl, Nq2, Kq2, sq2, Eq2, Cq2, Fq2, Vq2⟩ := hQ2
  have N2 := Fr.app N1 Nq2
  replace Eq1 := Eq1.keep Kq2
  replace Cq1 := Cq1.keep Kq2 nin0
  replace Fq1 := Fq1.keep Kq2 nin0
  replace Vq1 := Vq1.keep Kq2 nin0
  replace O := O.keep Kq2 all0
  replace Zn := Nat.le_trans Zn Kq2.1
  refine Go.st st2 ?_
  show Go p.tables e below PP (T2.setTop (mkF m 30 #[.val (.int p1), .val (.int p2), .val (.int p3), .val (.int p4), .val (.int n1), .val (.int n2), .val (.ref r1), .unset, .unset, .unset, .unset, .unset, .unset, .unset, .unset, .unset] [(.ref r2)]))
  refine Go.st (fun t k => XS.astore X2.here hx rfl (hb hby at_30) rfl rfl (l' := #[.val (.int p1), .val (.int p2), .val (.int p3), .val (.int p4), .val (.int n1), .val (.int n2), .val (.ref r1), .val (.ref r2), .unset, .unset, .unset, .unset, .unset, .unset, .unset, .unset]) rfl k) ?_
  show Go p.tables e below PP (T2.setTop (mkF m 32 #[.val (.int p1), .val (.int p2), .val (.int p3), .val (.int p4), .val (.int n1), .val (.int n2), .val (.ref r1), .val (.ref r2), .unset, .unset, .unset, .unset, .unset, .unset, .unset, .unset] []))
  obtain ⟨T3, h3, X3, e3, E3, A3, D3, -, st3⟩ := newO X2 hx hZ hown (hw _ (List.mem_of_getElem? (i := 38) rfl)) (hw _ (List.mem_of_getElem? (i := 39) rfl)) (hw _ (List.mem_of_getElem? (i := 40) rfl)) e2 (g := (mkF m 32 #[.val (.int p1), .val (.int p2), .val (.int p3), .val (.int p4), .val (.int n1), .val (.int n2), .val (.ref r1), .val (.ref r2), .unset, .unset, .unset, .unset, .unset, .unset, .unset, .unset] [])) rfl (hb hby at_32) (by decide) (by decide)
  obtain ⟨b3, gz3⟩ : ∃ z, z = h2.size := ⟨_, rfl⟩
  rw [← gz3] at A3 D3 st3
  have ne_r1_b3 : r1 ≠ b3 := Nat.ne_of_lt (Nat.lt_of_lt_of_le Eq1.lt (Nat.le_of_eq gz3.symm))
  have ne_t1_b3 : t1 ≠ b3 := Nat.ne_of_lt (Nat.lt_of_lt_of_le Vq1.lt (Nat.le_of_eq gz3.symm))
  have ne_r2_b3 : r2 ≠ b3 := Nat.ne_of_lt (Nat.lt_of_lt_of_le Eq2.lt (Nat.le_of_eq gz3.symm))
  have ne_t2_b3 : t2 ≠ b3 := Nat.ne_of_lt (Nat.lt_of_lt_of_le Vq2.lt (Nat.le_of_eq gz3.symm))
  have g_b3 : n0 ≤ b3 := Nat.le_trans Zn (Nat.le_of_eq gz3.symm)
  have SF_b3 : Safe Z consts_1 T2.vm h2 b3 := Safe.new (Nat.le_of_eq gz3.symm)
  refine Go.st st3 ?_
  replace Eq1 := Eq1.ext E3
  replace Cq1 := Cq1.ext E3
  replace Fq1 := Fq1.ext E3
  replace Vq1 := Vq1.ext E3
  replace Eq2 := Eq2.ext E3
  replace Cq2 := Cq2.ext E3
  replace Fq2 := Fq2.ext E3
  replace Vq2 := Vq2.ext E3
  replace SF_b3 := Safe.ext E3 CH SF_b3
  replace CR := CR.trans (CHr.ext E3 CH)
  replace CH := CH.ext E3
  replace hk := Nat.le_trans hk E3.1
  replace O := O.ext E3
  replace Zn := Nat.le_trans Zn E3.1
  have E_b3 := A3
  have F_definitions_b3 : Fld Z h3 b3 "com/example/strict_roles/strictroles/formats/StandingDefinitions" "definitions" "Ljava/util/List;" .null := D3 (Or.inr (hw _ (List.mem_of_getElem? (i := 70) rfl))) (ty := (.object "java/util/List")) (by decide)
  have F_principalBased_b3 : Fld Z h3 b3 "com/example/strict_roles/strictroles/formats/StandingDefinitions" "principalBased" "Ljava/util/BitSet;" .null := D3 (Or.inr (hw _ (List.mem_of_getElem? (i := 94) rfl))) (ty := (.object "java/util/BitSet")) (by decide)
  have F_resourceAclEnds_b3 : Fld Z h3 b3 "com/example/strict_roles/strictroles/formats/StandingDefinitions" "resourceAclEnds" "Ljava/util/Map;" .null := D3 (Or.inr (hw _ (List.mem_of_getElem? (i := 112) rfl))) (ty := (.object "java/util/Map")) (by decide)
  have F_principalAclEnds_b3 : Fld Z h3 b3 "com/example/strict_roles/strictroles/formats/StandingDefinitions" "principalAclEnds" "Ljava/util/Map;" .null := D3 (Or.inr (hw _ (List.mem_of_getElem? (i := 114) rfl))) (ty := (.object "java/util/Map")) (by decide)
  have F_usersByName_b3 : Fld Z h3 b3 "com/example/strict_roles/strictroles/formats/StandingDefinitions" "usersByName" "Ljava/util/Map;" .null := D3 (Or.inr (hw _ (List.mem_of_getElem? (i := 116) rfl))) (ty := (.object "java/util/Map")) (by decide)
  have F_disabledReasons_b3 : Fld Z h3 b3 "com/example/strict_roles/strictroles/formats/StandingDefinitions" "disabledReasons" "Ljava/util/Map;" .null := D3 (Or.inr (hw _ (List.mem_of_getElem? (i := 118) rfl))) (ty := (.object "java/util/Map")) (by decide)
  have F_userEnds_b3 : Fld Z h3 b3 "com/example/strict_roles/strictroles/formats/StandingDefinitions" "userEnds" "Ljava/util/Map;" .null := D3 (Or.inr (hw _ (List.mem_of_getElem? (i := 120) rfl))) (ty := (.object "java/util/Map")) (by decide)
  have F_strings_b3 : Fld Z h3 b3 "com/example/strict_roles/strictroles/formats/StandingDefinitions" "strings" "Ljava/util/Map;" .null := D3 (Or.inr (hw _ (List.mem_of_getElem? (i := 122) rfl))) (ty := (.object "java/util/Map")) (by decide)
  have F_undo_b3 : Fld Z h3 b3 "com/example/strict_roles/strictroles/formats/StandingDefinitions" "undo" "Ljava/util/List;" .null := D3 (Or.inr (hw _ (List.mem_of_getElem? (i := 124) rfl))) (ty := (.object "java/util/List")) (by decide)
  have F_homePathCharacters_b3 : Fld Z h3 b3 "com/example/strict_roles/strictroles/formats/StandingDefinitions" "homePathCharacters" "J" (.long (0 : Int64)) := D3 (Or.inl (hw _ (List.mem_of_getElem? (i := 131) rfl))) (ty := .long) (by decide)
  show Go p.tables e below PP (T3.setTop (mkF m 35 #[.val (.int p1), .val (.int p2), .val (.int p3), .val (.int p4), .val (.int n1), .val (.int n2), .val (.ref r1), .val (.ref r2), .unset, .unset, .unset, .unset, .unset, .unset, .unset, .unset] [(.ref b3)]))
  refine Go.st (fun t k => XS.dup X3.here hx rfl (hb hby at_35) rfl rfl k) ?_
  show Go p.tables e below PP (T3.setTop (mkF m 36 #[.val (.int p1), .val (.int p2), .val (.int p3), .val (.int p4), .val (.int n1), .val (.int n2), .val (.ref r1), .val (.ref r2), .unset, .unset, .unset, .unset, .unset, .unset, .unset, .unset] [(.ref b3), (.ref b3)]))
  obtain ⟨v4, T4, L4, X4, hQ4, st4⟩ := callIn X3 hx hZ (y := (⟨"com/example/strict_roles/strictroles/formats/StandingDefinitions", "<init>", "()V"⟩ : MethodName)) (a := b3) (argsL := []) (rest := [(.ref b3)]) rfl hown (hw _ (List.mem_of_getElem? (i := 41) rfl)) (hw _ (List.mem_of_getElem? (i := 42) rfl)) (hw _ (List.mem_of_getElem? (i := 40) rfl)) (hw _ (List.mem_of_getElem? (i := 43) rfl)) (by decide) (rm8 l Z a0 hw [] b3 ae h3 n0 Zn F_definitions_b3 F_principalBased_b3 F_resourceAclEnds_b3 F_principalAclEnds_b3 F_usersByName_b3 F_disabledReasons_b3 F_userEnds_b3 F_strings_b3 F_undo_b3 F_homePathCharacters_b3 E_b3 g_b3 SE O) e3 1 (by decide) (by decide) (by decide) (by decide) (g := (mkF m 36 #[.val (.int p1), .val (.int p2), .val (.int p3), .val (.int p4), .val (.int n1), .val (.int n2), .val (.ref r1), .val (.ref r2), .unset, .unset, .unset, .unset, .unset, .unset, .unset, .unset] [(.ref b3), (.ref b3)])) rfl (by rw [hml]; rfl) (lenOf pd_8 rfl) rfl (by show 2 * 0 + _ ≤ _; exact Nat.le_of_eq rfl) (hb hby at_36)
  obtain ⟨h4, e4⟩ : ∃ z, T4.heap = z := ⟨_, rfl⟩
  rw [e4] at hQ4
  obtain ⟨al_4, rfl, Nq4, Kq4, sq4_al, Fq4_0, Fq4_1, Fq4_2, Fq4_3⟩ := hQ4
  have N4 := Fr.app N2 Nq4
  have ne_r1_al_4 : r1 ≠ al_4 := Nat.ne_of_lt (Nat.lt_of_lt_of_le Eq1.lt sq4_al)
  have ne_t1_al_4 : t1 ≠ al_4 := Nat.ne_of_lt (Nat.lt_of_lt_of_le Vq1.lt sq4_al)
  have ne_r2_al_4 : r2 ≠ al_4 := Nat.ne_of_lt (Nat.lt_of_lt_of_le Eq2.lt sq4_al)
  have ne_t2_al_4 : t2 ≠ al_4 := Nat.ne_of_lt (Nat.lt_of_lt_of_le Vq2.lt sq4_al)
  have ne_b3_al_4 : b3 ≠ al_4 := Nat.ne_of_lt (Nat.lt_of_lt_of_le E_b3.lt sq4_al)
  have g_al_4 : n0 ≤ al_4 := Nat.le_trans Zn sq4_al
  have hsf : ∀ x ∈ [b3], Safe Z consts_1 _ _ x := (sfS SF_b3 sf0)
  replace SF_b3 := Safe.keep Kq4 hsf CH SF_b3
  replace CR := CR.trans (CHr.keep Kq4 hsf CH)
  replace CH := CH.keep Kq4 hsf
  replace hk := Nat.le_trans hk Kq4.1
  clear hsf
  replace Eq1 := Eq1.keep Kq4
  replace Cq1 := Cq1.keep Kq4 (ninS ne_r1_b3 nin0)
  replace Fq1 := Fq1.keep Kq4 (ninS ne_r1_b3 nin0)
  replace Vq1 := Vq1.keep Kq4 (ninS ne_t1_b3 nin0)
  replace Eq2 := Eq2.keep Kq4
  replace Cq2 := Cq2.keep Kq4 (ninS ne_r2_b3 nin0)
  replace Fq2 := Fq2.keep Kq4 (ninS ne_r2_b3 nin0)
  replace Vq2 := Vq2.keep Kq4 (ninS ne_t2_b3 nin0)
  replace E_b3 := E_b3.keep Kq4
  clear F_definitions_b3
  clear F_principalBased_b3
  clear F_resourceAclEnds_b3
  clear F_principalAclEnds_b3
  clear F_usersByName_b3
  clear F_disabledReasons_b3
  clear F_userEnds_b3
  clear F_strings_b3
  clear F_undo_b3
  clear F_homePathCharacters_b3
  replace O := O.keep Kq4 (allS g_b3 all0)
  replace Zn := Nat.le_trans Zn Kq4.1
  have F_definitions_b3 := Fq4_0
  have F_homePathCharacters_b3 := Fq4_1
  have E_al_4 := Fq4_2
  have F_size_al_4 := Fq4_3
  refine Go.st st4 ?_
  show Go p.tables e below PP (T4.setTop (mkF m 39 #[.val (.int p1), .val (.int p2), .val (.int p3), .val (.int p4), .val (.int n1), .val (.int n2), .val (.ref r1), .val (.ref r2), .unset, .unset, .unset, .unset, .unset, .unset, .unset, .unset] [(.ref b3)]))
  refine Go.st (fun t k => XS.astore X4.here hx rfl (hb hby at_39) rfl rfl (l' := #[.val (.int p1), .val (.int p2), .val (.int p3), .val (.int p4), .val (.int n1), .val (.int n2), .val (.ref r1), .val (.ref r2), .val (.ref b3), .unset, .unset, .unset, .unset, .unset, .unset, .unset]) rfl k) ?_
  show Go p.tables e below PP (T4.setTop (mkF m 41 #[.val (.int p1), .val (.int p2), .val (.int p3), .val (.int p4), .val (.int n1), .val (.int n2), .val (.ref r1), .val (.ref r2), .val (.ref b3), .unset, .unset, .unset, .unset, .unset, .unset, .unset] []))
  refine Go.st (fun t k => XS.aload X4.here hx rfl (hb hby at_41) rfl rfl k) ?_
  show Go p.tables e below PP (T4.setTop (mkF m 43 #[.val (.int p1), .val (.int p2), .val (.int p3), .val (.int p4), .val (.int n1), .val (.int n2), .val (.ref r1), .val (.ref r2), .val (.ref b3), .unset, .unset, .unset, .unset, .unset, .unset, .unset] [(.ref b3)]))
  obtain ⟨v5, T5, L5, X5, hQ5, st5⟩ := callVi X4 hx hZ (C := "com/example/strict_roles/strictroles/formats/StandingDefinitions") (y := (⟨"com/example/strict_roles/strictroles/formats/StandingDefinitions", "homePathCharacters", "()J"⟩ : MethodName)) (z := (⟨"com/example/strict_roles/strictroles/formats/StandingDefinitions", "homePathCharacters", "()J"⟩ : MethodName)) (a := b3) (argsL := []) (rest := []) hown (hw _ (List.mem_of_getElem? (i := 125) rfl)) (hw _ (List.mem_of_getElem? (i := 126) rfl)) (notFace_of_selects (args := #[]) (mvT (s := (s.setVm T2.vm)) hZ (hw _ (List.mem_of_getElem? (i := 128) rfl)))) (hw _ (List.mem_of_getElem? (i := 128) rfl)) (hw _ (List.mem_of_getElem? (i := 127) rfl)) (hw _ (List.mem_of_getElem? (i := 40) rfl)) (hw _ (List.mem_of_getElem? (i := 129) rfl)) (by decide) rfl E_b3 (rm17 l Z a0 hw [] b3 (0 : Int64) h4 n0 Zn F_homePathCharacters_b3) e4 0 (by decide) (by decide) (by decide) (by decide) (g := (mkF m 43 #[.val (.int p1), .val (.int p2), .val (.int p3), .val (.int p4), .val (.int n1), .val (.int n2), .val (.ref r1), .val (.ref r2), .val (.ref b3), .unset, .unset, .unset, .unset, .unset, .unset, .unset] [(.ref b3)])) rfl (by rw [hml]; rfl) (lenOf pd_15 rfl) rfl (by show 2 * 0 + _ ≤ _; exact Nat.le_of_eq rfl) (hb hby at_43)
  obtain ⟨rfl, rfl, e5⟩ := hQ5
  rw [List.append_nil] at X5
  refine Go.st st5 ?_
  show Go p.tables e below PP (T5.setTop (mkF m 46 #[.val (.int p1), .val (.int p2), .val (.int p3), .val (.int p4), .val (.int n1), .val (.int n2), .val (.ref r1), .val (.ref r2), .val (.ref b3), .unset, .unset, .unset, .unset, .unset, .unset, .unset] [(.long (0 : Int64))]))
  refine Go.st (fun t k => XS.lstore X5.here hx rfl (hb hby at_46) rfl (l' := #[.val (.int p1), .val (.int p2), .val (.int p3), .val (.int p4), .val (.int n1), .val (.int n2), .val (.ref r1), .val (.ref r2), .val (.ref b3), .val (.long (0 : Int64)), .second, .unset, .unset, .unset, .unset, .unset]) rfl k) ?_
  show Go p.tables e below PP (T5.setTop (mkF m 48 #[.val (.int p1), .val (.int p2), .val (.int p3), .val (.int p4), .val (.int n1), .val (.int n2), .val (.ref r1), .val (.ref r2), .val (.ref b3), .val (.long (0 : Int64)), .second, .unset, .unset, .unset, .unset, .unset] []))
  refine Go.st (fun t k => XS.aload X5.here hx rfl (hb hby at_48) rfl rfl k) ?_
  show Go p.tables e below PP (T5.setTop (mkF m 50 #[.val (.int p1), .val (.int p2), .val (.int p3), .val (.int p4), .val (.int n1), .val (.int n2), .val (.ref r1), .val (.ref r2), .val (.ref b3), .val (.long (0 : Int64)), .second, .unset, .unset, .unset, .unset, .unset] [(.ref b3)]))
  refine Go.st (fun t k => XS.aload X5.here hx rfl (hb hby at_50) rfl rfl k) ?_
  show Go p.tables e below PP (T5.setTop (mkF m 52 #[.val (.int p1), .val (.int p2), .val (.int p3), .val (.int p4), .val (.int n1), .val (.int n2), .val (.ref r1), .val (.ref r2), .val (.ref b3), .val (.long (0 : Int64)), .second, .unset, .unset, .unset, .unset, .unset] [(.ref r1), (.ref b3)]))
  obtain ⟨v6, T6, L6, X6, hQ6, st6⟩ := callVi X5 hx hZ (C := "com/example/strict_roles/strictroles/formats/StandingDefinitions") (y := (⟨"com/example/strict_roles/strictroles/formats/StandingDefinitions", "countHomePath", "(Ljava/lang/String;)V"⟩ : MethodName)) (z := (⟨"com/example/strict_roles/strictroles/formats/StandingDefinitions", "countHomePath", "(Ljava/lang/String;)V"⟩ : MethodName)) (a := b3) (argsL := [(.ref r1)]) (rest := []) hown (hw _ (List.mem_of_getElem? (i := 132) rfl)) (hw _ (List.mem_of_getElem? (i := 133) rfl)) (notFace_of_selects (args := #[]) (mvT (s := (s.setVm T2.vm)) hZ (hw _ (List.mem_of_getElem? (i := 135) rfl)))) (hw _ (List.mem_of_getElem? (i := 135) rfl)) (hw _ (List.mem_of_getElem? (i := 134) rfl)) (hw _ (List.mem_of_getElem? (i := 40) rfl)) (hw _ (List.mem_of_getElem? (i := 136) rfl)) (by decide) rfl E_b3 (rm18 l Z a0 hw [] b3 r1 (0 : Int64) al_4 t1 n1 f1 zc h4 n0 Zn F_homePathCharacters_b3 F_definitions_b3 E_b3 g_b3 (Ne.symm ne_r1_b3) (Ne.symm ne_t1_b3) Fq1 Cq1 Vq1 Eq1 SC hzc O) e5 0 (by decide) (by decide) (by decide) (by decide) (g := (mkF m 52 #[.val (.int p1), .val (.int p2), .val (.int p3), .val (.int p4), .val (.int n1), .val (.int n2), .val (.ref r1), .val (.ref r2), .val (.ref b3), .val (.long (0 : Int64)), .second, .unset, .unset, .unset, .unset, .unset] [(.ref r1), (.ref b3)])) rfl (by rw [hml]; rfl) (lenOf pd_16 rfl) rfl (by show 2 * 0 + _ ≤ _; exact Nat.le_of_eq rfl) (hb hby at_52)
  obtain ⟨h6, e6⟩ : ∃ z, T6.heap = z := ⟨_, rfl⟩
  rw [e6] at hQ6
  obtain ⟨rfl, Nq6, Kq6, Fq6_0, Fq6_1⟩ := hQ6
  have N6 := Fr.app N4 Nq6
  have hsf : ∀ x ∈ [b3], Safe Z consts_1 _ _ x := (sfS SF_b3 sf0)
  replace SF_b3 := Safe.keep Kq6 hsf CH SF_b3
  replace CR := CR.trans (CHr.keep Kq6 hsf CH)
  replace CH := CH.keep Kq6 hsf
  replace hk := Nat.le_trans hk Kq6.1
  clear hsf
  replace Eq1 := Eq1.keep Kq6
  replace Cq1 := Cq1.keep Kq6 (ninS ne_r1_b3 nin0)
  replace Fq1 := Fq1.keep Kq6 (ninS ne_r1_b3 nin0)
  replace Vq1 := Vq1.keep Kq6 (ninS ne_t1_b3 nin0)
  replace Eq2 := Eq2.keep Kq6
  replace Cq2 := Cq2.keep Kq6 (ninS ne_r2_b3 nin0)
  replace Fq2 := Fq2.keep Kq6 (ninS ne_r2_b3 nin0)
  replace Vq2 := Vq2.keep Kq6 (ninS ne_t2_b3 nin0)
  replace E_b3 := E_b3.keep Kq6
  clear F_definitions_b3
  clear F_homePathCharacters_b3
  replace E_al_4 := E_al_4.keep Kq6
  replace F_size_al_4 := F_size_al_4.keep Kq6 (ninS (Ne.symm ne_b3_al_4) nin0)
  replace O := O.keep Kq6 (allS g_b3 all0)
  replace Zn := Nat.le_trans Zn Kq6.1
  have F_homePathCharacters_b3 := Fq6_0
  have F_definitions_b3 := Fq6_1
  refine Go.st st6 ?_
  show Go p.tables e below PP (T6.setTop (mkF m 55 #[.val (.int p1), .val (.int p2), .val (.int p3), .val (.int p4), .val (.int n1), .val (.int n2), .val (.ref r1), .val (.ref r2), .val (.ref b3), .val (.long (0 : Int64)), .second, .unset, .unset, .unset, .unset, .unset] []))
  refine Go.st (fun t k => XS.aload X6.here hx rfl (hb hby at_55) rfl rfl k) ?_
  show Go p.tables e below PP (T6.setTop (mkF m 57 #[.val (.int p1), .val (.int p2), .val (.int p3), .val (.int p4), .val (.int n1), .val (.int n2), .val (.ref r1), .val (.ref r2), .val (.ref b3), .val (.long (0 : Int64)), .second, .unset, .unset, .unset, .unset, .unset] [(.ref b3)]))
  obtain ⟨v7, T7, L7, X7, hQ7, st7⟩ := callVi X6 hx hZ (C := "com/example/strict_roles/strictroles/formats/StandingDefinitions") (y := (⟨"com/example/strict_roles/strictroles/formats/StandingDefinitions", "homePathCharacters", "()J"⟩ : MethodName)) (z := (⟨"com/example/strict_roles/strictroles/formats/StandingDefinitions", "homePathCharacters", "()J"⟩ : MethodName)) (a := b3) (argsL := []) (rest := []) hown (hw _ (List.mem_of_getElem? (i := 125) rfl)) (hw _ (List.mem_of_getElem? (i := 126) rfl)) (notFace_of_selects (args := #[]) (mvT (s := (s.setVm T2.vm)) hZ (hw _ (List.mem_of_getElem? (i := 128) rfl)))) (hw _ (List.mem_of_getElem? (i := 128) rfl)) (hw _ (List.mem_of_getElem? (i := 127) rfl)) (hw _ (List.mem_of_getElem? (i := 40) rfl)) (hw _ (List.mem_of_getElem? (i := 129) rfl)) (by decide) rfl E_b3 (rm17 l Z a0 hw [] b3 ((0 : Int64) + (n1.toInt64)) h6 n0 Zn F_homePathCharacters_b3) e6 0 (by decide) (by decide) (by decide) (by decide) (g := (mkF m 57 #[.val (.int p1), .val (.int p2), .val (.int p3), .val (.int p4), .val (.int n1), .val (.int n2), .val (.ref r1), .val (.ref r2), .val (.ref b3), .val (.long (0 : Int64)), .second, .unset, .unset, .unset, .unset, .unset] [(.ref b3)])) rfl (by rw [hml]; rfl) (lenOf pd_15 rfl) rfl (by show 2 * 0 + _ ≤ _; exact Nat.le_of_eq rfl) (hb hby at_57)
  obtain ⟨rfl, rfl, e7⟩ := hQ7
  rw [List.append_nil] at X7
  refine Go.st st7 ?_
  show Go p.tables e below PP (T7.setTop (mkF m 60 #[.val (.int p1), .val (.int p2), .val (.int p3), .val (.int p4), .val (.int n1), .val (.int n2), .val (.ref r1), .val (.ref r2), .val (.ref b3), .val (.long (0 : Int64)), .second, .unset, .unset, .unset, .unset, .unset] [(.long ((0 : Int64) + (n1.toInt64)))]))
  refine Go.st (fun t k => XS.lstore X7.here hx rfl (hb hby at_60) rfl (l' := #[.val (.int p1), .val (.int p2), .val (.int p3), .val (.int p4), .val (.int n1), .val (.int n2), .val (.ref r1), .val (.ref r2), .val (.ref b3), .val (.long (0 : Int64)), .second, .val (.long ((0 : Int64) + (n1.toInt64))), .second, .unset, .unset, .unset]) rfl k) ?_
  show Go p.tables e below PP (T7.setTop (mkF m 62 #[.val (.int p1), .val (.int p2), .val (.int p3), .val (.int p4), .val (.int n1), .val (.int n2), .val (.ref r1), .val (.ref r2), .val (.ref b3), .val (.long (0 : Int64)), .second, .val (.long ((0 : Int64) + (n1.toInt64))), .second, .unset, .unset, .unset] []))
  refine Go.st (fun t k => XS.aload X7.here hx rfl (hb hby at_62) rfl rfl k) ?_
  show Go p.tables e below PP (T7.setTop (mkF m 64 #[.val (.int p1), .val (.int p2), .val (.int p3), .val (.int p4), .val (.int n1), .val (.int n2), .val (.ref r1), .val (.ref r2), .val (.ref b3), .val (.long (0 : Int64)), .second, .val (.long ((0 : Int64) + (n1.toInt64))), .second, .unset, .unset, .unset] [(.ref b3)]))
  refine Go.st (fun t k => XS.aload X7.here hx rfl (hb hby at_64) rfl rfl k) ?_
  show Go p.tables e below PP (T7.setTop (mkF m 66 #[.val (.int p1), .val (.int p2), .val (.int p3), .val (.int p4), .val (.int n1), .val (.int n2), .val (.ref r1), .val (.ref r2), .val (.ref b3), .val (.long (0 : Int64)), .second, .val (.long ((0 : Int64) + (n1.toInt64))), .second, .unset, .unset, .unset] [(.ref r2), (.ref b3)]))
  obtain ⟨v8, T8, L8, X8, hQ8, st8⟩ := callVi X7 hx hZ (C := "com/example/strict_roles/strictroles/formats/StandingDefinitions") (y := (⟨"com/example/strict_roles/strictroles/formats/StandingDefinitions", "countHomePath", "(Ljava/lang/String;)V"⟩ : MethodName)) (z := (⟨"com/example/strict_roles/strictroles/formats/StandingDefinitions", "countHomePath", "(Ljava/lang/String;)V"⟩ : MethodName)) (a := b3) (argsL := [(.ref r2)]) (rest := []) hown (hw _ (List.mem_of_getElem? (i := 132) rfl)) (hw _ (List.mem_of_getElem? (i := 133) rfl)) (notFace_of_selects (args := #[]) (mvT (s := (s.setVm T2.vm)) hZ (hw _ (List.mem_of_getElem? (i := 135) rfl)))) (hw _ (List.mem_of_getElem? (i := 135) rfl)) (hw _ (List.mem_of_getElem? (i := 134) rfl)) (hw _ (List.mem_of_getElem? (i := 40) rfl)) (hw _ (List.mem_of_getElem? (i := 136) rfl)) (by decide) rfl E_b3 (rm18 l Z a0 hw [] b3 r2 ((0 : Int64) + (n1.toInt64)) al_4 t2 n2 f2 zc h6 n0 Zn F_homePathCharacters_b3 F_definitions_b3 E_b3 g_b3 (Ne.symm ne_r2_b3) (Ne.symm ne_t2_b3) Fq2 Cq2 Vq2 Eq2 SC hzc O) e7 0 (by decide) (by decide) (by decide) (by decide) (g := (mkF m 66 #[.val (.int p1), .val (.int p2), .val (.int p3), .val (.int p4), .val (.int n1), .val (.int n2), .val (.ref r1), .val (.ref r2), .val (.ref b3), .val (.long (0 : Int64)), .second, .val (.long ((0 : Int64) + (n1.toInt64))), .second, .unset, .unset, .unset] [(.ref r2), (.ref b3)])) rfl (by rw [hml]; rfl) (lenOf pd_16 rfl) rfl (by show 2 * 0 + _ ≤ _; exact Nat.le_of_eq rfl) (hb hby at_66)
  obtain ⟨h8, e8⟩ : ∃ z, T8.heap = z := ⟨_, rfl⟩
  rw [e8] at hQ8
  obtain ⟨rfl, Nq8, Kq8, Fq8_0, Fq8_1⟩ := hQ8
  have N8 := Fr.app N6 Nq8
  have hsf : ∀ x ∈ [b3], Safe Z consts_1 _ _ x := (sfS SF_b3 sf0)
  replace SF_b3 := Safe.keep Kq8 hsf CH SF_b3
  replace CR := CR.trans (CHr.keep Kq8 hsf CH)
  replace CH := CH.keep Kq8 hsf
  replace hk := Nat.le_trans hk Kq8.1
  clear hsf
  replace Eq1 := Eq1.keep Kq8
  replace Cq1 := Cq1.keep Kq8 (ninS ne_r1_b3 nin0)
  replace Fq1 := Fq1.keep Kq8 (ninS ne_r1_b3 nin0)
  replace Vq1 := Vq1.keep Kq8 (ninS ne_t1_b3 nin0)
  replace Eq2 := Eq2.keep Kq8
  replace Cq2 := Cq2.keep Kq8 (ninS ne_r2_b3 nin0)
  replace Fq2 := Fq2.keep Kq8 (ninS ne_r2_b3 nin0)
  replace Vq2 := Vq2.keep Kq8 (ninS ne_t2_b3 nin0)
  replace E_b3 := E_b3.keep Kq8
  replace E_al_4 := E_al_4.keep Kq8
  replace F_size_al_4 := F_size_al_4.keep Kq8 (ninS (Ne.symm ne_b3_al_4) nin0)
  clear F_homePathCharacters_b3
  clear F_definitions_b3
  replace O := O.keep Kq8 (allS g_b3 all0)
  replace Zn := Nat.le_trans Zn Kq8.1
  have F_homePathCharacters_b3 := Fq8_0
  have F_definitions_b3 := Fq8_1
  refine Go.st st8 ?_
  show Go p.tables e below PP (T8.setTop (mkF m 69 #[.val (.int p1), .val (.int p2), .val (.int p3), .val (.int p4), .val (.int n1), .val (.int n2), .val (.ref r1), .val (.ref r2), .val (.ref b3), .val (.long (0 : Int64)), .second, .val (.long ((0 : Int64) + (n1.toInt64))), .second, .unset, .unset, .unset] []))
  refine Go.st (fun t k => XS.aload X8.here hx rfl (hb hby at_69) rfl rfl k) ?_
  show Go p.tables e below PP (T8.setTop (mkF m 71 #[.val (.int p1), .val (.int p2), .val (.int p3), .val (.int p4), .val (.int n1), .val (.int n2), .val (.ref r1), .val (.ref r2), .val (.ref b3), .val (.long (0 : Int64)), .second, .val (.long ((0 : Int64) + (n1.toInt64))), .second, .unset, .unset, .unset] [(.ref b3)]))
  obtain ⟨v9, T9, L9, X9, hQ9, st9⟩ := callVi X8 hx hZ (C := "com/example/strict_roles/strictroles/formats/StandingDefinitions") (y := (⟨"com/example/strict_roles/strictroles/formats/StandingDefinitions", "homePathCharacters", "()J"⟩ : MethodName)) (z := (⟨"com/example/strict_roles/strictroles/formats/StandingDefinitions", "homePathCharacters", "()J"⟩ : MethodName)) (a := b3) (argsL := []) (rest := []) hown (hw _ (List.mem_of_getElem? (i := 125) rfl)) (hw _ (List.mem_of_getElem? (i := 126) rfl)) (notFace_of_selects (args := #[]) (mvT (s := (s.setVm T2.vm)) hZ (hw _ (List.mem_of_getElem? (i := 128) rfl)))) (hw _ (List.mem_of_getElem? (i := 128) rfl)) (hw _ (List.mem_of_getElem? (i := 127) rfl)) (hw _ (List.mem_of_getElem? (i := 40) rfl)) (hw _ (List.mem_of_getElem? (i := 129) rfl)) (by decide) rfl E_b3 (rm17 l Z a0 hw [] b3 (((0 : Int64) + (n1.toInt64)) + (n2.toInt64)) h8 n0 Zn F_homePathCharacters_b3) e8 0 (by decide) (by decide) (by decide) (by decide) (g := (mkF m 71 #[.val (.int p1), .val (.int p2), .val (.int p3), .val (.int p4), .val (.int n1), .val (.int n2), .val (.ref r1), .val (.ref r2), .val (.ref b3), .val (.long (0 : Int64)), .second, .val (.long ((0 : Int64) + (n1.toInt64))), .second, .unset, .unset, .unset] [(.ref b3)])) rfl (by rw [hml]; rfl) (lenOf pd_15 rfl) rfl (by show 2 * 0 + _ ≤ _; exact Nat.le_of_eq rfl) (hb hby at_71)
  obtain ⟨rfl, rfl, e9⟩ := hQ9
  rw [List.append_nil] at X9
  refine Go.st st9 ?_
  show Go p.tables e below PP (T9.setTop (mkF m 74 #[.val (.int p1), .val (.int p2), .val (.int p3), .val (.int p4), .val (.int n1), .val (.int n2), .val (.ref r1), .val (.ref r2), .val (.ref b3), .val (.long (0 : Int64)), .second, .val (.long ((0 : Int64) + (n1.toInt64))), .second, .unset, .unset, .unset] [(.long (((0 : Int64) + (n1.toInt64)) + (n2.toInt64)))]))
  refine Go.st (fun t k => XS.lstore X9.here hx rfl (hb hby at_74) rfl (l' := #[.val (.int p1), .val (.int p2), .val (.int p3), .val (.int p4), .val (.int n1), .val (.int n2), .val (.ref r1), .val (.ref r2), .val (.ref b3), .val (.long (0 : Int64)), .second, .val (.long ((0 : Int64) + (n1.toInt64))), .second, .val (.long (((0 : Int64) + (n1.toInt64)) + (n2.toInt64))), .second, .unset]) rfl k) ?_
  show Go p.tables e below PP (T9.setTop (mkF m 76 #[.val (.int p1), .val (.int p2), .val (.int p3), .val (.int p4), .val (.int n1), .val (.int n2), .val (.ref r1), .val (.ref r2), .val (.ref b3), .val (.long (0 : Int64)), .second, .val (.long ((0 : Int64) + (n1.toInt64))), .second, .val (.long (((0 : Int64) + (n1.toInt64)) + (n2.toInt64))), .second, .unset] []))
  refine Go.st (fun t k => XS.aload X9.here hx rfl (hb hby at_76) rfl rfl k) ?_
  show Go p.tables e below PP (T9.setTop (mkF m 78 #[.val (.int p1), .val (.int p2), .val (.int p3), .val (.int p4), .val (.int n1), .val (.int n2), .val (.ref r1), .val (.ref r2), .val (.ref b3), .val (.long (0 : Int64)), .second, .val (.long ((0 : Int64) + (n1.toInt64))), .second, .val (.long (((0 : Int64) + (n1.toInt64)) + (n2.toInt64))), .second, .unset] [(.ref b3)]))
  obtain ⟨v10, T10, L10, X10, hQ10, st10⟩ := callVi X9 hx hZ (C := "com/example/strict_roles/strictroles/formats/StandingDefinitions") (y := (⟨"com/example/strict_roles/strictroles/formats/StandingDefinitions", "made", "()I"⟩ : MethodName)) (z := (⟨"com/example/strict_roles/strictroles/formats/StandingDefinitions", "made", "()I"⟩ : MethodName)) (a := b3) (argsL := []) (rest := []) hown (hw _ (List.mem_of_getElem? (i := 147) rfl)) (hw _ (List.mem_of_getElem? (i := 148) rfl)) (notFace_of_selects (args := #[]) (mvT (s := (s.setVm T2.vm)) hZ (hw _ (List.mem_of_getElem? (i := 150) rfl)))) (hw _ (List.mem_of_getElem? (i := 150) rfl)) (hw _ (List.mem_of_getElem? (i := 149) rfl)) (hw _ (List.mem_of_getElem? (i := 40) rfl)) (hw _ (List.mem_of_getElem? (i := 151) rfl)) (by decide) rfl E_b3 (rm21 l Z a0 hw [] b3 al_4 h8 n0 Zn F_definitions_b3 E_al_4 F_size_al_4) e9 0 (by decide) (by decide) (by decide) (by decide) (g := (mkF m 78 #[.val (.int p1), .val (.int p2), .val (.int p3), .val (.int p4), .val (.int n1), .val (.int n2), .val (.ref r1), .val (.ref r2), .val (.ref b3), .val (.long (0 : Int64)), .second, .val (.long ((0 : Int64) + (n1.toInt64))), .second, .val (.long (((0 : Int64) + (n1.toInt64)) + (n2.toInt64))), .second, .unset] [(.ref b3)])) rfl (by rw [hml]; rfl) (lenOf pd_11 rfl) rfl (by show 2 * 0 + _ ≤ _; exact Nat.le_of_eq rfl) (hb hby at_78)
  obtain ⟨rfl, rfl, e10⟩ := hQ10
  rw [List.append_nil] at X10
  refine Go.st st10 ?_
  show Go p.tables e below PP (T10.setTop (mkF m 81 #[.val (.int p1), .val (.int p2), .val (.int p3), .val (.int p4), .val (.int n1), .val (.int n2), .val (.ref r1), .val (.ref r2), .val (.ref b3), .val (.long (0 : Int64)), .second, .val (.long ((0 : Int64) + (n1.toInt64))), .second, .val (.long (((0 : Int64) + (n1.toInt64)) + (n2.toInt64))), .second, .unset] [(.int (0 : Int32))]))
  refine Go.st (fun t k => XS.istore X10.here hx rfl (hb hby at_81) rfl (l' := #[.val (.int p1), .val (.int p2), .val (.int p3), .val (.int p4), .val (.int n1), .val (.int n2), .val (.ref r1), .val (.ref r2), .val (.ref b3), .val (.long (0 : Int64)), .second, .val (.long ((0 : Int64) + (n1.toInt64))), .second, .val (.long (((0 : Int64) + (n1.toInt64)) + (n2.toInt64))), .second, .val (.int (0 : Int32))]) rfl k) ?_
  show Go p.tables e below PP (T10.setTop (mkF m 83 #[.val (.int p1), .val (.int p2), .val (.int p3), .val (.int p4), .val (.int n1), .val (.int n2), .val (.ref r1), .val (.ref r2), .val (.ref b3), .val (.long (0 : Int64)), .second, .val (.long ((0 : Int64) + (n1.toInt64))), .second, .val (.long (((0 : Int64) + (n1.toInt64)) + (n2.toInt64))), .second, .val (.int (0 : Int32))] []))
  refine Go.st (fun t k => XS.lload X10.here hx rfl (hb hby at_83) rfl k) ?_
  show Go p.tables e below PP (T10.setTop (mkF m 85 #[.val (.int p1), .val (.int p2), .val (.int p3), .val (.int p4), .val (.int n1), .val (.int n2), .val (.ref r1), .val (.ref r2), .val (.ref b3), .val (.long (0 : Int64)), .second, .val (.long ((0 : Int64) + (n1.toInt64))), .second, .val (.long (((0 : Int64) + (n1.toInt64)) + (n2.toInt64))), .second, .val (.int (0 : Int32))] [(.long (0 : Int64))]))
  refine Go.st (fun t k => XS.lconst X10.here hx rfl (hb hby at_85) k) ?_
  show Go p.tables e below PP (T10.setTop (mkF m 86 #[.val (.int p1), .val (.int p2), .val (.int p3), .val (.int p4), .val (.int n1), .val (.int n2), .val (.ref r1), .val (.ref r2), .val (.ref b3), .val (.long (0 : Int64)), .second, .val (.long ((0 : Int64) + (n1.toInt64))), .second, .val (.long (((0 : Int64) + (n1.toInt64)) + (n2.toInt64))), .second, .val (.int (0 : Int32))] [(.long (0 : Int64)), (.long (0 : Int64))]))
  refine Go.st (fun t k => XS.lcmp X10.here hx rfl (hb hby at_86) rfl k) ?_
  show Go p.tables e below PP (T10.setTop (mkF m 87 #[.val (.int p1), .val (.int p2), .val (.int p3), .val (.int p4), .val (.int n1), .val (.int n2), .val (.ref r1), .val (.ref r2), .val (.ref b3), .val (.long (0 : Int64)), .second, .val (.long ((0 : Int64) + (n1.toInt64))), .second, .val (.long (((0 : Int64) + (n1.toInt64)) + (n2.toInt64))), .second, .val (.int (0 : Int32))] [(.int (XT.cmpL (0 : Int64) (0 : Int64)))]))
  refine Go.st (fun t k => XS.ifNo X10.here hx rfl (hb hby at_87) rfl (XT.ll_ne_f (by decide)) k) ?_
  show Go p.tables e below PP (T10.setTop (mkF m 90 #[.val (.int p1), .val (.int p2), .val (.int p3), .val (.int p4), .val (.int n1), .val (.int n2), .val (.ref r1), .val (.ref r2), .val (.ref b3), .val (.long (0 : Int64)), .second, .val (.long ((0 : Int64) + (n1.toInt64))), .second, .val (.long (((0 : Int64) + (n1.toInt64)) + (n2.toInt64))), .second, .val (.int (0 : Int32))] []))
  refine Go.st (fun t k => XS.lload X10.here hx rfl (hb hby at_90) rfl k) ?_
  show Go p.tables e below PP (T10.setTop (mkF m 92 #[.val (.int p1), .val (.int p2), .val (.int p3), .val (.int p4), .val (.int n1), .val (.int n2), .val (.ref r1), .val (.ref r2), .val (.ref b3), .val (.long (0 : Int64)), .second, .val (.long ((0 : Int64) + (n1.toInt64))), .second, .val (.long (((0 : Int64) + (n1.toInt64)) + (n2.toInt64))), .second, .val (.int (0 : Int32))] [(.long ((0 : Int64) + (n1.toInt64)))]))
  refine Go.st (fun t k => XS.iload X10.here hx rfl (hb hby at_92) rfl k) ?_
  show Go p.tables e below PP (T10.setTop (mkF m 94 #[.val (.int p1), .val (.int p2), .val (.int p3), .val (.int p4), .val (.int n1), .val (.int n2), .val (.ref r1), .val (.ref r2), .val (.ref b3), .val (.long (0 : Int64)), .second, .val (.long ((0 : Int64) + (n1.toInt64))), .second, .val (.long (((0 : Int64) + (n1.toInt64)) + (n2.toInt64))), .second, .val (.int (0 : Int32))] [(.int n1), (.long ((0 : Int64) + (n1.toInt64)))]))
  refine Go.st (fun t k => XS.i2l X10.here hx rfl (hb hby at_94) rfl k) ?_
  show Go p.tables e below PP (T10.setTop (mkF m 95 #[.val (.int p1), .val (.int p2), .val (.int p3), .val (.int p4), .val (.int n1), .val (.int n2), .val (.ref r1), .val (.ref r2), .val (.ref b3), .val (.long (0 : Int64)), .second, .val (.long ((0 : Int64) + (n1.toInt64))), .second, .val (.long (((0 : Int64) + (n1.toInt64)) + (n2.toInt64))), .second, .val (.int (0 : Int32))] [(.long (n1.toInt64)), (.long ((0 : Int64) + (n1.toInt64)))]))
  refine Go.st (fun t k => XS.lcmp X10.here hx rfl (hb hby at_95) rfl k) ?_
  show Go p.tables e below PP (T10.setTop (mkF m 96 #[.val (.int p1), .val (.int p2), .val (.int p3), .val (.int p4), .val (.int n1), .val (.int n2), .val (.ref r1), .val (.ref r2), .val (.ref b3), .val (.long (0 : Int64)), .second, .val (.long ((0 : Int64) + (n1.toInt64))), .second, .val (.long (((0 : Int64) + (n1.toInt64)) + (n2.toInt64))), .second, .val (.int (0 : Int32))] [(.int (XT.cmpL ((0 : Int64) + (n1.toInt64)) (n1.toInt64)))]))
  refine Go.st (fun t k => XS.ifNo X10.here hx rfl (hb hby at_96) rfl (XT.ll_ne_f (Int64.zero_add _)) k) ?_
  show Go p.tables e below PP (T10.setTop (mkF m 99 #[.val (.int p1), .val (.int p2), .val (.int p3), .val (.int p4), .val (.int n1), .val (.int n2), .val (.ref r1), .val (.ref r2), .val (.ref b3), .val (.long (0 : Int64)), .second, .val (.long ((0 : Int64) + (n1.toInt64))), .second, .val (.long (((0 : Int64) + (n1.toInt64)) + (n2.toInt64))), .second, .val (.int (0 : Int32))] []))
  refine Go.st (fun t k => XS.lload X10.here hx rfl (hb hby at_99) rfl k) ?_
  show Go p.tables e below PP (T10.setTop (mkF m 101 #[.val (.int p1), .val (.int p2), .val (.int p3), .val (.int p4), .val (.int n1), .val (.int n2), .val (.ref r1), .val (.ref r2), .val (.ref b3), .val (.long (0 : Int64)), .second, .val (.long ((0 : Int64) + (n1.toInt64))), .second, .val (.long (((0 : Int64) + (n1.toInt64)) + (n2.toInt64))), .second, .val (.int (0 : Int32))] [(.long (((0 : Int64) + (n1.toInt64)) + (n2.toInt64)))]))
  refine Go.st (fun t k => XS.iload X10.here hx rfl (hb hby at_101) rfl k) ?_
  show Go p.tables e below PP (T10.setTop (mkF m 103 #[.val (.int p1), .val (.int p2), .val (.int p3), .val (.int p4), .val (.int n1), .val (.int n2), .val (.ref r1), .val (.ref r2), .val (.ref b3), .val (.long (0 : Int64)), .second, .val (.long ((0 : Int64) + (n1.toInt64))), .second, .val (.long (((0 : Int64) + (n1.toInt64)) + (n2.toInt64))), .second, .val (.int (0 : Int32))] [(.int n1), (.long (((0 : Int64) + (n1.toInt64)) + (n2.toInt64)))]))
  refine Go.st (fun t k => XS.i2l X10.here hx rfl (hb hby at_103) rfl k) ?_
  show Go p.tables e below PP (T10.setTop (mkF m 104 #[.val (.int p1), .val (.int p2), .val (.int p3), .val (.int p4), .val (.int n1), .val (.int n2), .val (.ref r1), .val (.ref r2), .val (.ref b3), .val (.long (0 : Int64)), .second, .val (.long ((0 : Int64) + (n1.toInt64))), .second, .val (.long (((0 : Int64) + (n1.toInt64)) + (n2.toInt64))), .second, .val (.int (0 : Int32))] [(.long (n1.toInt64)), (.long (((0 : Int64) + (n1.toInt64)) + (n2.toInt64)))]))
  refine Go.st (fun t k => XS.iload X10.here hx rfl (hb hby at_104) rfl k) ?_
  show Go p.tables e below PP (T10.setTop (mkF m 106 #[.val (.int p1), .val (.int p2), .val (.int p3), .val (.int p4), .val (.int n1), .val (.int n2), .val (.ref r1), .val (.ref r2), .val (.ref b3), .val (.long (0 : Int64)), .second, .val (.long ((0 : Int64) + (n1.toInt64))), .second, .val (.long (((0 : Int64) + (n1.toInt64)) + (n2.toInt64))), .second, .val (.int (0 : Int32))] [(.int n2), (.long (n1.toInt64)), (.long (((0 : Int64) + (n1.toInt64)) + (n2.toInt64)))]))
  refine Go.st (fun t k => XS.i2l X10.here hx rfl (hb hby at_106) rfl k) ?_
  show Go p.tables e below PP (T10.setTop (mkF m 107 #[.val (.int p1), .val (.int p2), .val (.int p3), .val (.int p4), .val (.int n1), .val (.int n2), .val (.ref r1), .val (.ref r2), .val (.ref b3), .val (.long (0 : Int64)), .second, .val (.long ((0 : Int64) + (n1.toInt64))), .second, .val (.long (((0 : Int64) + (n1.toInt64)) + (n2.toInt64))), .second, .val (.int (0 : Int32))] [(.long (n2.toInt64)), (.long (n1.toInt64)), (.long (((0 : Int64) + (n1.toInt64)) + (n2.toInt64)))]))
  refine Go.st (fun t k => XS.ladd X10.here hx rfl (hb hby at_107) rfl k) ?_
  show Go p.tables e below PP (T10.setTop (mkF m 108 #[.val (.int p1), .val (.int p2), .val (.int p3), .val (.int p4), .val (.int n1), .val (.int n2), .val (.ref r1), .val (.ref r2), .val (.ref b3), .val (.long (0 : Int64)), .second, .val (.long ((0 : Int64) + (n1.toInt64))), .second, .val (.long (((0 : Int64) + (n1.toInt64)) + (n2.toInt64))), .second, .val (.int (0 : Int32))] [(.long ((n1.toInt64) + (n2.toInt64))), (.long (((0 : Int64) + (n1.toInt64)) + (n2.toInt64)))]))
  refine Go.st (fun t k => XS.lcmp X10.here hx rfl (hb hby at_108) rfl k) ?_
  show Go p.tables e below PP (T10.setTop (mkF m 109 #[.val (.int p1), .val (.int p2), .val (.int p3), .val (.int p4), .val (.int n1), .val (.int n2), .val (.ref r1), .val (.ref r2), .val (.ref b3), .val (.long (0 : Int64)), .second, .val (.long ((0 : Int64) + (n1.toInt64))), .second, .val (.long (((0 : Int64) + (n1.toInt64)) + (n2.toInt64))), .second, .val (.int (0 : Int32))] [(.int (XT.cmpL (((0 : Int64) + (n1.toInt64)) + (n2.toInt64)) ((n1.toInt64) + (n2.toInt64))))]))
  refine Go.st (fun t k => XS.ifNo X10.here hx rfl (hb hby at_109) rfl (XT.ll_ne_f (by rw [Int64.zero_add])) k) ?_
  show Go p.tables e below PP (T10.setTop (mkF m 112 #[.val (.int p1), .val (.int p2), .val (.int p3), .val (.int p4), .val (.int n1), .val (.int n2), .val (.ref r1), .val (.ref r2), .val (.ref b3), .val (.long (0 : Int64)), .second, .val (.long ((0 : Int64) + (n1.toInt64))), .second, .val (.long (((0 : Int64) + (n1.toInt64)) + (n2.toInt64))), .second, .val (.int (0 : Int32))] []))
  refine Go.st (fun t k => XS.iload X10.here hx rfl (hb hby at_112) rfl k) ?_
  show Go p.tables e below PP (T10.setTop (mkF m 114 #[.val (.int p1), .val (.int p2), .val (.int p3), .val (.int p4), .val (.int n1), .val (.int n2), .val (.ref r1), .val (.ref r2), .val (.ref b3), .val (.long (0 : Int64)), .second, .val (.long ((0 : Int64) + (n1.toInt64))), .second, .val (.long (((0 : Int64) + (n1.toInt64)) + (n2.toInt64))), .second, .val (.int (0 : Int32))] [(.int (0 : Int32))]))
  refine Go.st (fun t k => XS.ifNo X10.here hx rfl (hb hby at_114) rfl (XT.i0_ne_f (by decide)) k) ?_
  show Go p.tables e below PP (T10.setTop (mkF m 117 #[.val (.int p1), .val (.int p2), .val (.int p3), .val (.int p4), .val (.int n1), .val (.int n2), .val (.ref r1), .val (.ref r2), .val (.ref b3), .val (.long (0 : Int64)), .second, .val (.long ((0 : Int64) + (n1.toInt64))), .second, .val (.long (((0 : Int64) + (n1.toInt64)) + (n2.toInt64))), .second, .val (.int (0 : Int32))] []))
  refine Go.st (fun t k => XS.iconst X10.here hx rfl (hb hby at_117) k) ?_
  show Go p.tables e below PP (T10.setTop (mkF m 118 #[.val (.int p1), .val (.int p2), .val (.int p3), .val (.int p4), .val (.int n1), .val (.int n2), .val (.ref r1), .val (.ref r2), .val (.ref b3), .val (.long (0 : Int64)), .second, .val (.long ((0 : Int64) + (n1.toInt64))), .second, .val (.long (((0 : Int64) + (n1.toInt64)) + (n2.toInt64))), .second, .val (.int (0 : Int32))] [(.int (1 : Int32))]))
  refine Go.st (fun t k => XS.goto X10.here hx rfl (pc0 := 118) (pc' := 122) rfl (hb hby at_118) (by decide) (by decide) k) ?_
  show Go p.tables e below PP (T10.setTop (mkF m 122 #[.val (.int p1), .val (.int p2), .val (.int p3), .val (.int p4), .val (.int n1), .val (.int n2), .val (.ref r1), .val (.ref r2), .val (.ref b3), .val (.long (0 : Int64)), .second, .val (.long ((0 : Int64) + (n1.toInt64))), .second, .val (.long (((0 : Int64) + (n1.toInt64)) + (n2.toInt64))), .second, .val (.int (0 : Int32))] [(.int (1 : Int32))]))
  rw [hPP]
  refine endNW X10 hx hlk hZ hS e10 hk hEL CH CR (t := .boolean) hret (by simp) (hb hby at_122) (w := (1 : Int32)) (rfl) ?_ (by decide) (by decide)
  show Q0 Z p1 p2 p3 p4 zc ae h0 n0 (some (.int (1 : Int32))) T10.heap _
  rw [e10]
  exact ⟨rfl, N8⟩
set_option maxRecDepth 65536 in
set_option maxHeartbeats 40000000 in
theorem comes_1 {Post : Tables → Env → Array Value → State → Outcome → State → Prop} (hpost : ∀ tb e args s v u, (limb_1_1.after args s (.returned v) u = true ∧ limb_1_2.after args s (.returned v) u = true ∧ True) → ReturnedEndW s (.returned v) u (Jvm.fieldLocs frame_1_writes args s ++ Jvm.arrayLocs frame_1_arrays args s ++ Jvm.staticLocs frame_1_statics s) 48 1280 → Post tb e args s (.returned v) u) :
    ArmFor flags0 classFile x code maxLocals ret World_1 tables_1 room_1 Calls_1 rest_1 Pre_1 Post := by
  intro l hfl _ _ p e ha hc hk s m args below hf hA hF happ hP
  obtain ⟨hcalls, hrest, hpre⟩ := hP
  obtain ⟨-, -, -, hnamed, -, -, -, hat⟩ := (Spec.applies_iff hf).mp happ
  obtain ⟨hg, hn⟩ := and_e (Cond.before_iff.mp (show (Jvm.Cond.and given_1 narrow_1).before args s = true from hpre))
  obtain ⟨g1, g2⟩ := and_e hg
  obtain ⟨g3, g4⟩ := and_e g2
  obtain ⟨g5, g6⟩ := and_e g4
  obtain ⟨g7, g8⟩ := and_e g6
  obtain ⟨w0, w1, w2, w3, rfl⟩ : ∃ w0 w1 w2 w3 : Value, args = #[w0, w1, w2, w3] := by
    have hs : args.size = 4 := by simpa [Cond.value, given_1] using g1
    obtain ⟨L⟩ := args
    match L, hs with
    | [w0, w1, w2, w3], _ => exact ⟨w0, w1, w2, w3, rfl⟩
  have hw := fun d (hd : d ∈ tables_1) => atoms_spec (ws := Jvm.Cond.code x code maxLocals ret :: tables_1) hat d (List.mem_cons_of_mem _ hd)
  have hfit : Fit s := fun {y c} hc i hi => by
    obtain ⟨ha, rfl⟩ := Array.getElem?_eq_some_iff.mp hc
    have q := List.all_eq_true.mp ((Array.all_eq_true_iff_forall_mem.mp hF) _ (Array.getElem_mem ha)) i (List.mem_range.mpr hi)
    simpa [Array.getElem?_eq_getElem hi] using q
  obtain ⟨hsets, hown0⟩ := atoms_of _ (rest_1_c_eq ▸ (show rest_1_c.before _ s = true from hrest))
  have hr0 := Cond.before_iff.mp hown0
  obtain ⟨i0, ei0⟩ := is_v g3
  obtain rfl : w0 = (.int i0) := Option.some.inj ei0
  obtain ⟨i1, ei1⟩ := is_v g5
  obtain rfl : w1 = (.int i1) := Option.some.inj ei1
  obtain ⟨i2, ei2⟩ := is_v g7
  obtain rfl : w2 = (.int i2) := Option.some.inj ei2
  obtain ⟨i3, ei3⟩ := is_v g8
  obtain rfl : w3 = (.int i3) := Option.some.inj ei3
  have hEL : EW s _ consts_1 := (EW.cons (hw _ (List.mem_of_getElem? (i := 19) rfl)) (by decide) EW.nil)
  have CH : CHv s consts_1 s.vm s.heap := CHv.start hEL (fun p hp => hcalls.1 p hp) (hsets _ (List.mem_of_getElem? (i := 2) rfl)) (hw _ (List.mem_of_getElem? (i := 20) rfl)) (hw _ (List.mem_of_getElem? (i := 6) rfl))
  obtain ⟨zc, evC⟩ := is_v (Cond.before_iff.mp (hsets _ (List.mem_of_getElem? (i := 1) rfl)))
  have SC := Sta.start evC (Or.inl (hsets _ (List.mem_of_getElem? (i := 0) rfl)))
  have hzc : ¬ zc = (0 : Int32) := gotF (Cond.eq_ints evC rfl) (not_v (Cond.before_iff.mp (hsets _ (List.mem_of_getElem? (i := 2) rfl))))
  have O := Old.start s
  obtain ⟨ae, evE⟩ := arr_v (Cond.before_iff.mp (hsets _ (List.mem_of_getElem? (i := 15) rfl)))
  have SE := Sta.start evE (Or.inr ⟨(hw _ (List.mem_of_getElem? (i := 47) rfl)), (hsets _ (List.mem_of_getElem? (i := 11) rfl))⟩)
  obtain ⟨n, o, h1, h2, h3, _, L, rfl, ⟨rfl, N⟩, hCR, hq⟩ := rm0 l s _ hw tables_1 i0 i1 i2 i3 zc ae s.heap s.heap.size (Nat.le_refl _) hEL SC hzc O SE p e ha hc hk s m _ below hf ((Spec.applies_iff_loose hf).mp happ).1 ⟨rfl, State.Warmed39.refl s, rfl, CH⟩ trivial
  refine ⟨n, _, h1, h2, h3, hpost _ _ _ _ _ _ ⟨Cond.after_iff.mpr rfl, Cond.after_iff.mpr (eq_i res_at (Term.int_eval (1)) rfl), trivial⟩ ⟨hq.1, hq.2.1, hq.2.2.1, (hq.2.2.2.sift fun y hy => Or.inr (N y hy)).mono (by decide) (by decide)⟩⟩
theorem main_1_1 : Claimed_1_1 := comes_1 fun _ _ _ _ _ _ h hF => ⟨h.1, hF⟩
theorem main_1_2 : Claimed_1_2 := comes_1 fun _ _ _ _ _ _ h hF => ⟨h.2.1, hF⟩
end Jvm.Pilot.@@N@@
namespace Jvm.Pilot.@@N@@
open Jvm Jvm.ClassFile Sem Op Lib Jvm.Free Jvm.Stand Jvm.Pilot.@@N@@.Jvm.D
/-! MADE BY PROGRAM (witnessworld.py) out of the Statement's table words and the real class files: 35 classes; the members and pool entries that the words name. The judged class is class 1, her method 2. -/
namespace start1
open Jvm.ClassFile
def u (s : String) : CpInfo := .utf8 (stringToUtf16 s)
/-- a pool by its gaps: so many unusable entries, then the entry; so many at the end -/
def gap : Nat → List CpInfo → List CpInfo
  | 0, r => r
  | n + 1, r => .unusable :: gap n r
def poolList (es : List (Nat × CpInfo)) (last : Nat) : List CpInfo := es.foldr (fun e r => gap e.1 (e.2 :: r)) (gap last [])
def pool (es : List (Nat × CpInfo)) (last : Nat) : Array CpInfo := ⟨poolList es last⟩
def fileOf (pool : Array CpInfo) (this : Nat) (attrs : Array Attribute := #[]) (ms : Array MethodInfo := #[]) (fl : Nat := 33) (sup : Nat := 0) (ifs : Array Nat := #[]) (fds : Array FieldInfo := #[]) : ClassFile where
  minorVersion := 0
  majorVersion := 65
  constantPool := pool
  accessFlags := fl
  thisClass := this
  superClass := sup
  interfaces := ifs
  fields := fds
  methods := ms
  attributes := attrs
def plain (name : String) (sup : Option ClassId) : Class where
  name := name
  kind := .ordinary
  loader := none
  accessFlags := 33
  super := sup
  interfaces := #[]
  cf := none
  fields := #[]
  methods := #[]
  instanceTypes := #[]
  staticTypes := #[]
  resolved := #[]
  callSites := []
  init := .initialized
  statics := none
  mirror := none

def pool0 : Array CpInfo := pool [(5, u "<init>"), (0, u "()V"), (1, .class_ 10), (1, u "java/lang/Object")] 113

def k0c0 : Code := { maxStack := 0, maxLocals := 1, code := object_method_1_code, exceptionTable := #[], attributes := #[] }
def k0m0 : Method := { name := "<init>", desc := "()V", sig := { parameters := [], returnType := none }, accessFlags := 1, code := some k0c0 }
/-- java/lang/Object -/
def k0 : Class := { plain "java/lang/Object" none with
  accessFlags := 33
  interfaces := #[]
  cf := some (fileOf pool0 8 #[] #[{ accessFlags := 1, nameIndex := 5, descriptorIndex := 6, attributes := #[] }] 33 0 #[] #[])
  fields := #[]
  methods := #[k0m0]
  instanceTypes := #[]
  staticTypes := #[]
  resolved := Array.replicate 124 none
  statics := none }

def pool1 : Array CpInfo := pool [(2, .class_ 4), (0, .nameAndType 5 6), (0, u "java/lang/Object"), (0, u "<init>"), (0, u "()V"), (0, .class_ 8), (0, u "java/lang/String"), (0, .methodref 7 10), (0, .nameAndType 5 11), (0, u "([C)V"), (0, .methodref 7 13), (0, .nameAndType 14 15), (0, u "valueOf"), (0, u "(C)Ljava/lang/String;"), (0, .integer 2147483647), (0, .methodref 18 19), (0, .class_ 20), (0, .nameAndType 21 22), (0, u "com/example/strict_roles/strictroles/formats/StandingDefinitionsCountHomePathPinLaw"), (0, u "draw"), (0, u "(II)Ljava/lang/String;"), (0, .class_ 24), (0, u "com/example/strict_roles/strictroles/formats/StandingDefinitions"), (0, .methodref 23 3), (0, .methodref 23 27), (0, .nameAndType 28 29), (0, u "homePathCharacters"), (0, u "()J"), (0, .methodref 23 31), (0, .nameAndType 32 33), (0, u "countHomePath"), (0, u "(Ljava/lang/String;)V"), (0, .methodref 23 35), (0, .nameAndType 36 37), (0, u "made"), (0, u "()I"), (3, u "law"), (0, u "(IIII)Z")] 2

def k1m0 : Method := { name := "<init>", desc := "()V", sig := { parameters := [], returnType := none }, accessFlags := 1, code := none }
def k1c1 : Code := { maxStack := 6, maxLocals := 6, code := method_2_code, exceptionTable := #[], attributes := #[] }
def k1m1 : Method := { name := "draw", desc := "(II)Ljava/lang/String;", sig := { parameters := [.int, .int], returnType := some (.object "java/lang/String") }, accessFlags := 10, code := some k1c1 }
def k1c2 : Code := { maxStack := 6, maxLocals := 16, code := code, exceptionTable := #[], attributes := #[] }
def k1m2 : Method := { name := "law", desc := "(IIII)Z", sig := { parameters := [.int, .int, .int, .int], returnType := some .boolean }, accessFlags := 9, code := some k1c2 }
/-- com/example/strict_roles/strictroles/formats/StandingDefinitionsCountHomePathPinLaw -/
def k1 : Class := { plain "com/example/strict_roles/strictroles/formats/StandingDefinitionsCountHomePathPinLaw" (some 0) with
  accessFlags := 49
  interfaces := #[]
  cf := some (fileOf pool1 18 #[] #[{ accessFlags := 1, nameIndex := 5, descriptorIndex := 6, attributes := #[] }, { accessFlags := 10, nameIndex := 21, descriptorIndex := 22, attributes := #[] }, { accessFlags := 9, nameIndex := 41, descriptorIndex := 42, attributes := #[] }] 49 2 #[] #[])
  fields := #[]
  methods := #[k1m0, k1m1, k1m2]
  instanceTypes := #[]
  staticTypes := #[]
  resolved := Array.replicate 45 none
  statics := none }

def pool2 : Array CpInfo := pool [(1, .class_ 2), (0, u "java/io/Serializable"), (0, .class_ 4), (0, u "java/lang/Object")] 2

/-- java/io/Serializable -/
def k2 : Class := { plain "java/io/Serializable" (some 0) with
  accessFlags := 1537
  interfaces := #[]
  cf := some (fileOf pool2 1 #[] #[] 1537 3 #[] #[])
  fields := #[]
  methods := #[]
  instanceTypes := #[]
  staticTypes := #[]
  resolved := Array.replicate 7 none
  statics := none }

def pool3 : Array CpInfo := pool [(1, .class_ 2), (0, u "java/lang/Comparable"), (0, .class_ 4), (0, u "java/lang/Object")] 7

/-- java/lang/Comparable -/
def k3 : Class := { plain "java/lang/Comparable" (some 0) with
  accessFlags := 1537
  interfaces := #[]
  cf := some (fileOf pool3 1 #[] #[] 1537 3 #[] #[])
  fields := #[]
  methods := #[]
  instanceTypes := #[]
  staticTypes := #[]
  resolved := Array.replicate 12 none
  statics := none }

def pool4 : Array CpInfo := pool [(2, .class_ 4), (1, u "java/lang/CharSequence"), (42, .class_ 48), (0, u "java/lang/CharSequence$1CodePointIterator"), (10, .class_ 60), (0, u "java/lang/CharSequence$1CharIterator"), (5, .class_ 67), (0, u "java/lang/Object")] 63

/-- java/lang/CharSequence -/
def k4 : Class := { plain "java/lang/CharSequence" (some 0) with
  accessFlags := 1537
  interfaces := #[]
  cf := some (fileOf pool4 2 #[.nestMembers #[47, 59]] #[] 1537 66 #[] #[])
  fields := #[]
  methods := #[]
  instanceTypes := #[]
  staticTypes := #[]
  resolved := Array.replicate 131 none
  statics := none }

def pool5 : Array CpInfo := pool [(1, .class_ 2), (0, u "java/lang/constant/Constable"), (0, .class_ 4), (0, u "java/lang/Object")] 6

/-- java/lang/constant/Constable -/
def k5 : Class := { plain "java/lang/constant/Constable" (some 0) with
  accessFlags := 1537
  interfaces := #[]
  cf := some (fileOf pool5 1 #[] #[] 1537 3 #[] #[])
  fields := #[]
  methods := #[]
  instanceTypes := #[]
  staticTypes := #[]
  resolved := Array.replicate 11 none
  statics := none }

def pool6 : Array CpInfo := pool [(1, .class_ 2), (0, u "java/lang/constant/ConstantDesc"), (0, .class_ 4), (0, u "java/lang/Object")] 32

/-- java/lang/constant/ConstantDesc -/
def k6 : Class := { plain "java/lang/constant/ConstantDesc" (some 0) with
  accessFlags := 1537
  interfaces := #[]
  cf := some (fileOf pool6 1 #[] #[] 1537 3 #[] #[])
  fields := #[]
  methods := #[]
  instanceTypes := #[]
  staticTypes := #[]
  resolved := Array.replicate 37 none
  statics := none }

def pool7 : Array CpInfo := pool [(1, .methodref 2 3), (0, .class_ 4), (0, .nameAndType 5 6), (0, u "java/lang/Object"), (0, u "<init>"), (0, u "()V"), (0, .string 8), (0, u ""), (0, .fieldref 10 11), (0, .class_ 12), (0, .nameAndType 13 14), (0, u "java/lang/String"), (0, u "value"), (0, u "[B"), (0, .fieldref 10 16), (0, .nameAndType 17 18), (0, u "coder"), (0, u "B"), (2, u "hash"), (0, u "I"), (2, u "hashIsZero"), (0, u "Z"), (0, .methodref 10 28), (0, .nameAndType 5 29), (0, u "([CIILjava/lang/Void;)V"), (8, .fieldref 10 39), (0, .nameAndType 40 26), (0, u "COMPACT_STRINGS"), (1, .class_ 44), (1, u "java/lang/StringUTF16"), (0, u "compress"), (1, .methodref 42 48), (0, .nameAndType 49 50), (0, u "coderFromArrayLen"), (0, u "([BI)B"), (2, u "toBytes"), (53, .class_ 109), (1, u "java/lang/StringLatin1"), (67, .methodref 42 178), (0, .nameAndType 45 179), (0, u "([CII)[B"), (29, .methodref 10 210), (0, .nameAndType 5 211), (0, u "([BB)V"), (122, u "()I"), (0, .methodref 10 336), (0, .nameAndType 17 337), (0, u "()B"), (31, u "(C)Z"), (137, u "length"), (67, .class_ 576), (0, u "java/lang/CharSequence"), (22, u "CASE_INSENSITIVE_ORDER"), (0, u "Ljava/util/Comparator;"), (181, u "valueOf"), (0, u "(C)Ljava/lang/String;"), (226, u "([C)V"), (4, .methodref 107 1016), (0, .nameAndType 1017 369), (0, u "canEncode"), (0, .methodref 107 1019), (0, .nameAndType 53 1020), (0, u "(C)[B"), (80, u "serialPersistentFields"), (0, u "[Ljava/io/ObjectStreamField;"), (0, .class_ 1104), (0, u "java/lang/String$CaseInsensitiveComparator"), (1, .class_ 1107), (0, u "java/io/Serializable"), (0, .class_ 1109), (0, u "java/lang/Comparable"), (0, .class_ 1111), (0, u "java/lang/constant/Constable"), (0, .class_ 1113), (0, u "java/lang/constant/ConstantDesc"), (2, u "serialVersionUID"), (0, u "J"), (3, u "REPL"), (0, u "C"), (2, u "LATIN1"), (1, u "UTF16")] 323

def k7m0 : Method := { name := "<init>", desc := "()V", sig := { parameters := [], returnType := none }, accessFlags := 1, code := none }
def k7c1 : Code := { maxStack := 5, maxLocals := 2, code := jdk_42_method_3_code, exceptionTable := #[], attributes := #[] }
def k7m1 : Method := { name := "<init>", desc := "([C)V", sig := { parameters := [(.array .char)], returnType := none }, accessFlags := 1, code := some k7c1 }
def k7c2 : Code := { maxStack := 2, maxLocals := 1, code := jdk_42_method_54_code, exceptionTable := #[], attributes := #[] }
def k7m2 : Method := { name := "length", desc := "()I", sig := { parameters := [], returnType := some .int }, accessFlags := 1, code := some k7c2 }
def k7c3 : Code := { maxStack := 4, maxLocals := 1, code := jdk_42_method_139_code, exceptionTable := #[], attributes := #[] }
def k7m3 : Method := { name := "valueOf", desc := "(C)Ljava/lang/String;", sig := { parameters := [.char], returnType := some (.object "java/lang/String") }, accessFlags := 9, code := some k7c3 }
def k7c4 : Code := { maxStack := 4, maxLocals := 6, code := jdk_42_method_149_code, exceptionTable := #[], attributes := #[] }
def k7m4 : Method := { name := "<init>", desc := "([CIILjava/lang/Void;)V", sig := { parameters := [(.array .char), .int, .int, (.object "java/lang/Void")], returnType := none }, accessFlags := 2, code := some k7c4 }
def k7c5 : Code := { maxStack := 2, maxLocals := 3, code := jdk_42_method_151_code, exceptionTable := #[], attributes := #[] }
def k7m5 : Method := { name := "<init>", desc := "([BB)V", sig := { parameters := [(.array .byte), .byte], returnType := none }, accessFlags := 0, code := some k7c5 }
def k7c6 : Code := { maxStack := 1, maxLocals := 1, code := jdk_42_method_152_code, exceptionTable := #[], attributes := #[] }
def k7m6 : Method := { name := "coder", desc := "()B", sig := { parameters := [], returnType := some .byte }, accessFlags := 0, code := some k7c6 }
/-- java/lang/String -/
def k7 : Class := { plain "java/lang/String" (some 0) with
  accessFlags := 49
  interfaces := #[2, 3, 4, 5, 6]
  cf := some (fileOf pool7 10 #[.nestMembers #[1103]] #[{ accessFlags := 1, nameIndex := 5, descriptorIndex := 6, attributes := #[] }, { accessFlags := 1, nameIndex := 5, descriptorIndex := 1010, attributes := #[] }, { accessFlags := 1, nameIndex := 507, descriptorIndex := 334, attributes := #[] }, { accessFlags := 9, nameIndex := 782, descriptorIndex := 783, attributes := #[] }, { accessFlags := 2, nameIndex := 5, descriptorIndex := 29, attributes := #[] }, { accessFlags := 0, nameIndex := 5, descriptorIndex := 211, attributes := #[] }, { accessFlags := 0, nameIndex := 17, descriptorIndex := 337, attributes := #[] }] 49 2 #[1106, 1108, 575, 1110, 1112] #[{ accessFlags := 18, nameIndex := 13, descriptorIndex := 14, attributes := #[] }, { accessFlags := 18, nameIndex := 17, descriptorIndex := 18, attributes := #[] }, { accessFlags := 2, nameIndex := 21, descriptorIndex := 22, attributes := #[] }, { accessFlags := 2, nameIndex := 25, descriptorIndex := 26, attributes := #[] }, { accessFlags := 26, nameIndex := 1116, descriptorIndex := 1117, attributes := #[] }, { accessFlags := 24, nameIndex := 40, descriptorIndex := 26, attributes := #[] }, { accessFlags := 26, nameIndex := 1101, descriptorIndex := 1102, attributes := #[] }, { accessFlags := 26, nameIndex := 1121, descriptorIndex := 1122, attributes := #[] }, { accessFlags := 25, nameIndex := 599, descriptorIndex := 600, attributes := #[] }, { accessFlags := 24, nameIndex := 1125, descriptorIndex := 18, attributes := #[] }, { accessFlags := 24, nameIndex := 1127, descriptorIndex := 18, attributes := #[] }])
  fields := #[{ name := "value", type := (.array .byte), accessFlags := 18, slot := 0, constantValue := 0 }, { name := "coder", type := .byte, accessFlags := 18, slot := 1, constantValue := 0 }, { name := "hash", type := .int, accessFlags := 2, slot := 2, constantValue := 0 }, { name := "hashIsZero", type := .boolean, accessFlags := 2, slot := 3, constantValue := 0 }, { name := "serialVersionUID", type := .long, accessFlags := 26, slot := 0, constantValue := 0 }, { name := "COMPACT_STRINGS", type := .boolean, accessFlags := 24, slot := 1, constantValue := 0 }, { name := "serialPersistentFields", type := (.array (.object "java/io/ObjectStreamField")), accessFlags := 26, slot := 2, constantValue := 0 }, { name := "REPL", type := .char, accessFlags := 26, slot := 3, constantValue := 0 }, { name := "CASE_INSENSITIVE_ORDER", type := (.object "java/util/Comparator"), accessFlags := 25, slot := 4, constantValue := 0 }, { name := "LATIN1", type := .byte, accessFlags := 24, slot := 5, constantValue := 0 }, { name := "UTF16", type := .byte, accessFlags := 24, slot := 6, constantValue := 0 }]
  methods := #[k7m0, k7m1, k7m2, k7m3, k7m4, k7m5, k7m6]
  instanceTypes := #[(.array .byte), .byte, .int, .boolean]
  staticTypes := #[.long, .boolean, (.array (.object "java/io/ObjectStreamField")), .char, (.object "java/util/Comparator"), .byte, .byte]
  resolved := Array.replicate 1451 none
  statics := some 0 }

def pool8 : Array CpInfo := pool [(6, .class_ 8), (1, u "java/lang/Object"), (0, u "<init>"), (0, u "()V"), (1, .class_ 14), (1, u "java/lang/StringUTF16"), (31, u "$assertionsDisabled"), (0, u "Z"), (13, u "HI_BYTE_SHIFT"), (0, u "I"), (2, u "LO_BYTE_SHIFT"), (49, .methodref 12 116), (0, .nameAndType 117 118), (0, u "compress"), (0, u "([CI[BII)I"), (3, u "([CII)[B"), (138, u "coderFromArrayLen"), (0, u "([BI)B"), (106, .class_ 371), (1, u "java/lang/StringUTF16$LinesSpliterator"), (58, u "MAX_LENGTH"), (196, .class_ 628), (0, u "java/lang/StringUTF16$CodePointsSpliterator"), (0, .class_ 630), (0, u "java/lang/StringUTF16$CharsSpliterator")] 4

def k8m0 : Method := { name := "<init>", desc := "()V", sig := { parameters := [], returnType := none }, accessFlags := 0, code := none }
def k8c1 : Code := { maxStack := 2, maxLocals := 2, code := jdk_52_method_15_code, exceptionTable := #[], attributes := #[] }
def k8m1 : Method := { name := "coderFromArrayLen", desc := "([BI)B", sig := { parameters := [(.array .byte), .int], returnType := some .byte }, accessFlags := 8, code := some k8c1 }
def k8c2 : Code := { maxStack := 5, maxLocals := 6, code := jdk_52_method_16_code, exceptionTable := #[], attributes := #[] }
def k8m2 : Method := { name := "compress", desc := "([CII)[B", sig := { parameters := [(.array .char), .int, .int], returnType := some (.array .byte) }, accessFlags := 9, code := some k8c2 }
def k8c3 : Code := { maxStack := 3, maxLocals := 7, code := jdk_52_method_21_code, exceptionTable := #[], attributes := #[] }
def k8m3 : Method := { name := "compress", desc := "([CI[BII)I", sig := { parameters := [(.array .char), .int, (.array .byte), .int, .int], returnType := some .int }, accessFlags := 9, code := some k8c3 }
/-- java/lang/StringUTF16 -/
def k8 : Class := { plain "java/lang/StringUTF16" (some 0) with
  accessFlags := 48
  interfaces := #[]
  cf := some (fileOf pool8 12 #[.nestMembers #[627, 629, 369]] #[{ accessFlags := 0, nameIndex := 9, descriptorIndex := 10, attributes := #[] }, { accessFlags := 8, nameIndex := 261, descriptorIndex := 262, attributes := #[] }, { accessFlags := 9, nameIndex := 117, descriptorIndex := 122, attributes := #[] }, { accessFlags := 9, nameIndex := 117, descriptorIndex := 118, attributes := #[] }] 48 6 #[] #[{ accessFlags := 26, nameIndex := 61, descriptorIndex := 62, attributes := #[] }, { accessFlags := 26, nameIndex := 65, descriptorIndex := 62, attributes := #[] }, { accessFlags := 24, nameIndex := 430, descriptorIndex := 62, attributes := #[] }, { accessFlags := 4120, nameIndex := 46, descriptorIndex := 47, attributes := #[] }])
  fields := #[{ name := "HI_BYTE_SHIFT", type := .int, accessFlags := 26, slot := 0, constantValue := 0 }, { name := "LO_BYTE_SHIFT", type := .int, accessFlags := 26, slot := 1, constantValue := 0 }, { name := "MAX_LENGTH", type := .int, accessFlags := 24, slot := 2, constantValue := 0 }, { name := "$assertionsDisabled", type := .boolean, accessFlags := 4120, slot := 3, constantValue := 0 }]
  methods := #[k8m0, k8m1, k8m2, k8m3]
  instanceTypes := #[]
  staticTypes := #[.int, .int, .int, .boolean]
  resolved := Array.replicate 635 none
  statics := none }

def pool9 : Array CpInfo := pool [(1, .methodref 2 3), (0, .class_ 4), (0, .nameAndType 5 6), (0, u "java/lang/Object"), (0, u "<init>"), (0, u "()V"), (0, .class_ 8), (0, u "java/util/ArrayList"), (0, .methodref 7 3), (0, .fieldref 11 12), (0, .class_ 13), (0, .nameAndType 14 15), (0, u "com/example/strict_roles/strictroles/formats/StandingDefinitions"), (0, u "definitions"), (0, u "Ljava/util/List;"), (0, .class_ 17), (0, u "java/util/BitSet"), (0, .methodref 16 3), (0, .fieldref 11 20), (0, .nameAndType 21 22), (0, u "principalBased"), (0, u "Ljava/util/BitSet;"), (0, .class_ 24), (0, u "java/util/HashMap"), (0, .methodref 23 3), (0, .fieldref 11 27), (0, .nameAndType 28 29), (0, u "resourceAclEnds"), (0, u "Ljava/util/Map;"), (0, .fieldref 11 31), (0, .nameAndType 32 29), (0, u "principalAclEnds"), (0, .fieldref 11 34), (0, .nameAndType 35 29), (0, u "usersByName"), (0, .fieldref 11 37), (0, .nameAndType 38 29), (0, u "disabledReasons"), (0, .fieldref 11 40), (0, .nameAndType 41 29), (0, u "userEnds"), (0, .fieldref 11 43), (0, .nameAndType 44 29), (0, u "strings"), (0, .fieldref 11 46), (0, .nameAndType 47 15), (0, u "undo"), (1, .class_ 51), (1, u "java/util/List"), (17, .interfaceMethodref 49 70), (0, .nameAndType 71 72), (0, u "size"), (0, u "()I"), (18, .class_ 92), (0, u "java/lang/String"), (20, .fieldref 11 114), (0, .nameAndType 115 116), (0, u "homePathCharacters"), (0, u "J"), (0, .methodref 91 118), (0, .nameAndType 119 72), (0, u "length"), (2, u "taken"), (0, u "I"), (2, u "takenHomePathCharacters"), (76, u "(Ljava/lang/String;)V"), (3, u "made"), (0, u "()J"), (0, u "countHomePath")] 39

def k9c0 : Code := { maxStack := 3, maxLocals := 1, code := prog_70_method_1_code, exceptionTable := #[], attributes := #[] }
def k9m0 : Method := { name := "<init>", desc := "()V", sig := { parameters := [], returnType := none }, accessFlags := 0, code := some k9c0 }
def k9c1 : Code := { maxStack := 1, maxLocals := 1, code := prog_70_method_8_code, exceptionTable := #[], attributes := #[] }
def k9m1 : Method := { name := "made", desc := "()I", sig := { parameters := [], returnType := some .int }, accessFlags := 0, code := some k9c1 }
def k9c2 : Code := { maxStack := 2, maxLocals := 1, code := prog_70_method_9_code, exceptionTable := #[], attributes := #[] }
def k9m2 : Method := { name := "homePathCharacters", desc := "()J", sig := { parameters := [], returnType := some .long }, accessFlags := 0, code := some k9c2 }
def k9c3 : Code := { maxStack := 5, maxLocals := 2, code := prog_70_method_10_code, exceptionTable := #[], attributes := #[] }
def k9m3 : Method := { name := "countHomePath", desc := "(Ljava/lang/String;)V", sig := { parameters := [(.object "java/lang/String")], returnType := none }, accessFlags := 0, code := some k9c3 }
/-- com/example/strict_roles/strictroles/formats/StandingDefinitions -/
def k9 : Class := { plain "com/example/strict_roles/strictroles/formats/StandingDefinitions" (some 0) with
  accessFlags := 48
  interfaces := #[]
  cf := some (fileOf pool9 11 #[] #[{ accessFlags := 0, nameIndex := 5, descriptorIndex := 6, attributes := #[] }, { accessFlags := 0, nameIndex := 207, descriptorIndex := 72, attributes := #[] }, { accessFlags := 0, nameIndex := 115, descriptorIndex := 208, attributes := #[] }, { accessFlags := 0, nameIndex := 209, descriptorIndex := 203, attributes := #[] }] 48 2 #[] #[{ accessFlags := 18, nameIndex := 14, descriptorIndex := 15, attributes := #[] }, { accessFlags := 18, nameIndex := 21, descriptorIndex := 22, attributes := #[] }, { accessFlags := 18, nameIndex := 28, descriptorIndex := 29, attributes := #[] }, { accessFlags := 18, nameIndex := 32, descriptorIndex := 29, attributes := #[] }, { accessFlags := 18, nameIndex := 35, descriptorIndex := 29, attributes := #[] }, { accessFlags := 18, nameIndex := 38, descriptorIndex := 29, attributes := #[] }, { accessFlags := 18, nameIndex := 41, descriptorIndex := 29, attributes := #[] }, { accessFlags := 18, nameIndex := 44, descriptorIndex := 29, attributes := #[] }, { accessFlags := 2, nameIndex := 115, descriptorIndex := 116, attributes := #[] }, { accessFlags := 2, nameIndex := 122, descriptorIndex := 123, attributes := #[] }, { accessFlags := 2, nameIndex := 126, descriptorIndex := 116, attributes := #[] }, { accessFlags := 18, nameIndex := 47, descriptorIndex := 15, attributes := #[] }])
  fields := #[{ name := "definitions", type := (.object "java/util/List"), accessFlags := 18, slot := 0, constantValue := 0 }, { name := "principalBased", type := (.object "java/util/BitSet"), accessFlags := 18, slot := 1, constantValue := 0 }, { name := "resourceAclEnds", type := (.object "java/util/Map"), accessFlags := 18, slot := 2, constantValue := 0 }, { name := "principalAclEnds", type := (.object "java/util/Map"), accessFlags := 18, slot := 3, constantValue := 0 }, { name := "usersByName", type := (.object "java/util/Map"), accessFlags := 18, slot := 4, constantValue := 0 }, { name := "disabledReasons", type := (.object "java/util/Map"), accessFlags := 18, slot := 5, constantValue := 0 }, { name := "userEnds", type := (.object "java/util/Map"), accessFlags := 18, slot := 6, constantValue := 0 }, { name := "strings", type := (.object "java/util/Map"), accessFlags := 18, slot := 7, constantValue := 0 }, { name := "homePathCharacters", type := .long, accessFlags := 2, slot := 8, constantValue := 0 }, { name := "taken", type := .int, accessFlags := 2, slot := 9, constantValue := 0 }, { name := "takenHomePathCharacters", type := .long, accessFlags := 2, slot := 10, constantValue := 0 }, { name := "undo", type := (.object "java/util/List"), accessFlags := 18, slot := 11, constantValue := 0 }]
  methods := #[k9m0, k9m1, k9m2, k9m3]
  instanceTypes := #[(.object "java/util/List"), (.object "java/util/BitSet"), (.object "java/util/Map"), (.object "java/util/Map"), (.object "java/util/Map"), (.object "java/util/Map"), (.object "java/util/Map"), (.object "java/util/Map"), .long, .int, .long, (.object "java/util/List")]
  staticTypes := #[]
  resolved := Array.replicate 249 none
  statics := none }

def pool10 : Array CpInfo := pool [(8, .class_ 10), (1, u "java/lang/Iterable"), (24, .class_ 36), (0, u "java/lang/Object")] 25

/-- java/lang/Iterable -/
def k10 : Class := { plain "java/lang/Iterable" (some 0) with
  accessFlags := 1537
  interfaces := #[]
  cf := some (fileOf pool10 8 #[] #[] 1537 35 #[] #[])
  fields := #[]
  methods := #[]
  instanceTypes := #[]
  staticTypes := #[]
  resolved := Array.replicate 62 none
  statics := none }

def pool11 : Array CpInfo := pool [(10, .class_ 12), (1, u "java/util/Collection"), (47, .class_ 61), (0, u "java/lang/Object"), (0, .class_ 63), (0, u "java/lang/Iterable")] 51

/-- java/util/Collection -/
def k11 : Class := { plain "java/util/Collection" (some 0) with
  accessFlags := 1537
  interfaces := #[10]
  cf := some (fileOf pool11 10 #[] #[] 1537 60 #[62] #[])
  fields := #[]
  methods := #[]
  instanceTypes := #[]
  staticTypes := #[]
  resolved := Array.replicate 115 none
  statics := none }

def pool12 : Array CpInfo := pool [(1, .methodref 2 3), (0, .class_ 4), (0, .nameAndType 5 6), (0, u "java/lang/Object"), (0, u "<init>"), (0, u "()V"), (1, .class_ 10), (1, u "java/util/AbstractCollection"), (66, .class_ 78), (0, u "java/util/Collection")] 81

def k12c0 : Code := { maxStack := 1, maxLocals := 1, code := jdk_22_method_1_code, exceptionTable := #[], attributes := #[] }
def k12m0 : Method := { name := "<init>", desc := "()V", sig := { parameters := [], returnType := none }, accessFlags := 4, code := some k12c0 }
/-- java/util/AbstractCollection -/
def k12 : Class := { plain "java/util/AbstractCollection" (some 0) with
  accessFlags := 1057
  interfaces := #[11]
  cf := some (fileOf pool12 8 #[] #[{ accessFlags := 4, nameIndex := 5, descriptorIndex := 6, attributes := #[] }] 1057 2 #[77] #[])
  fields := #[]
  methods := #[k12m0]
  instanceTypes := #[]
  staticTypes := #[]
  resolved := Array.replicate 160 none
  statics := none }

def pool13 : Array CpInfo := pool [(8, .class_ 10), (1, u "java/util/SequencedCollection"), (15, .class_ 27), (0, u "java/lang/Object"), (0, .class_ 29), (0, u "java/util/Collection")] 27

/-- java/util/SequencedCollection -/
def k13 : Class := { plain "java/util/SequencedCollection" (some 0) with
  accessFlags := 1537
  interfaces := #[11]
  cf := some (fileOf pool13 8 #[] #[] 1537 26 #[28] #[])
  fields := #[]
  methods := #[]
  instanceTypes := #[]
  staticTypes := #[]
  resolved := Array.replicate 57 none
  statics := none }

def pool14 : Array CpInfo := pool [(8, .class_ 10), (1, u "java/util/List"), (68, u "size"), (0, u "()I"), (22, .class_ 104), (0, u "java/lang/Object"), (15, .class_ 121), (0, u "java/util/SequencedCollection")] 129

def k14m0 : Method := { name := "size", desc := "()I", sig := { parameters := [], returnType := some .int }, accessFlags := 1025, code := none }
/-- java/util/List -/
def k14 : Class := { plain "java/util/List" (some 0) with
  accessFlags := 1537
  interfaces := #[13]
  cf := some (fileOf pool14 8 #[] #[{ accessFlags := 1025, nameIndex := 79, descriptorIndex := 80, attributes := #[] }] 1537 103 #[120] #[])
  fields := #[]
  methods := #[k14m0]
  instanceTypes := #[]
  staticTypes := #[]
  resolved := Array.replicate 251 none
  statics := none }

def pool15 : Array CpInfo := pool [(1, .methodref 2 3), (0, .class_ 4), (0, .nameAndType 5 6), (0, u "java/util/AbstractCollection"), (0, u "<init>"), (0, u "()V"), (0, .fieldref 8 9), (0, .class_ 10), (0, .nameAndType 11 12), (0, u "java/util/AbstractList"), (0, u "modCount"), (0, u "I"), (64, .class_ 78), (0, u "java/util/AbstractList$Itr"), (3, .class_ 83), (0, u "java/util/AbstractList$ListItr"), (9, .class_ 94), (0, u "java/util/AbstractList$RandomAccessSubList"), (3, .class_ 99), (0, u "java/util/AbstractList$SubList"), (33, .class_ 134), (0, u "java/util/List"), (73, .class_ 209), (0, u "java/util/AbstractList$SubList$1"), (0, .class_ 211), (0, u "java/util/AbstractList$RandomAccessSpliterator")] 6

def k15c0 : Code := { maxStack := 2, maxLocals := 1, code := jdk_39_method_1_code, exceptionTable := #[], attributes := #[] }
def k15m0 : Method := { name := "<init>", desc := "()V", sig := { parameters := [], returnType := none }, accessFlags := 4, code := some k15c0 }
/-- java/util/AbstractList -/
def k15 : Class := { plain "java/util/AbstractList" (some 12) with
  accessFlags := 1057
  interfaces := #[14]
  cf := some (fileOf pool15 8 #[.nestMembers #[93, 98, 208, 210, 82, 77]] #[{ accessFlags := 4, nameIndex := 5, descriptorIndex := 6, attributes := #[] }] 1057 2 #[133] #[{ accessFlags := 132, nameIndex := 11, descriptorIndex := 12, attributes := #[] }])
  fields := #[{ name := "modCount", type := .int, accessFlags := 132, slot := 0, constantValue := 0 }]
  methods := #[k15m0]
  instanceTypes := #[.int]
  staticTypes := #[]
  resolved := Array.replicate 218 none
  statics := none }

def pool16 : Array CpInfo := pool [(1, .class_ 2), (0, u "java/util/RandomAccess"), (0, .class_ 4), (0, u "java/lang/Object")] 2

/-- java/util/RandomAccess -/
def k16 : Class := { plain "java/util/RandomAccess" (some 0) with
  accessFlags := 1537
  interfaces := #[]
  cf := some (fileOf pool16 1 #[] #[] 1537 3 #[] #[])
  fields := #[]
  methods := #[]
  instanceTypes := #[]
  staticTypes := #[]
  resolved := Array.replicate 7 none
  statics := none }

def pool17 : Array CpInfo := pool [(1, .class_ 2), (0, u "java/lang/Cloneable"), (0, .class_ 4), (0, u "java/lang/Object")] 2

/-- java/lang/Cloneable -/
def k17 : Class := { plain "java/lang/Cloneable" (some 0) with
  accessFlags := 1537
  interfaces := #[]
  cf := some (fileOf pool17 1 #[] #[] 1537 3 #[] #[])
  fields := #[]
  methods := #[]
  instanceTypes := #[]
  staticTypes := #[]
  resolved := Array.replicate 7 none
  statics := none }

def pool18 : Array CpInfo := pool [(1, .methodref 2 3), (0, .class_ 4), (0, .nameAndType 5 6), (0, u "java/util/AbstractList"), (0, u "<init>"), (0, u "()V"), (2, .fieldref 10 11), (0, .class_ 12), (0, .nameAndType 13 14), (0, u "java/util/ArrayList"), (0, u "elementData"), (0, u "[Ljava/lang/Object;"), (2, u "EMPTY_ELEMENTDATA"), (21, .fieldref 10 40), (0, .nameAndType 41 14), (0, u "DEFAULTCAPACITY_EMPTY_ELEMENTDATA"), (6, .fieldref 10 49), (0, .nameAndType 50 51), (0, u "size"), (0, u "I"), (96, .class_ 149), (0, u "java/util/List"), (36, u "()I"), (75, .class_ 263), (0, u "java/util/ArrayList$ListItr"), (3, .class_ 268), (0, u "java/util/ArrayList$Itr"), (7, .class_ 277), (0, u "java/util/ArrayList$SubList"), (12, .class_ 291), (0, u "java/util/ArrayList$ArrayListSpliterator"), (37, .class_ 330), (0, u "java/util/RandomAccess"), (0, .class_ 332), (0, u "java/lang/Cloneable"), (0, .class_ 334), (0, u "java/io/Serializable"), (0, u "serialVersionUID"), (0, u "J"), (3, u "DEFAULT_CAPACITY"), (159, .class_ 501), (0, u "java/util/ArrayList$SubList$2"), (0, .class_ 503), (0, u "java/util/ArrayList$SubList$1")] 5

def k18c0 : Code := { maxStack := 2, maxLocals := 1, code := jdk_38_method_2_code, exceptionTable := #[], attributes := #[] }
def k18m0 : Method := { name := "<init>", desc := "()V", sig := { parameters := [], returnType := none }, accessFlags := 1, code := some k18c0 }
def k18c1 : Code := { maxStack := 1, maxLocals := 1, code := jdk_38_method_8_code, exceptionTable := #[], attributes := #[] }
def k18m1 : Method := { name := "size", desc := "()I", sig := { parameters := [], returnType := some .int }, accessFlags := 1, code := some k18c1 }
/-- java/util/ArrayList -/
def k18 : Class := { plain "java/util/ArrayList" (some 15) with
  accessFlags := 33
  interfaces := #[14, 16, 17, 2]
  cf := some (fileOf pool18 10 #[.nestMembers #[290, 276, 500, 502, 262, 267]] #[{ accessFlags := 1, nameIndex := 5, descriptorIndex := 6, attributes := #[] }, { accessFlags := 1, nameIndex := 50, descriptorIndex := 186, attributes := #[] }] 33 2 #[148, 329, 331, 333] #[{ accessFlags := 26, nameIndex := 335, descriptorIndex := 336, attributes := #[] }, { accessFlags := 26, nameIndex := 340, descriptorIndex := 51, attributes := #[] }, { accessFlags := 26, nameIndex := 17, descriptorIndex := 14, attributes := #[] }, { accessFlags := 26, nameIndex := 41, descriptorIndex := 14, attributes := #[] }, { accessFlags := 128, nameIndex := 13, descriptorIndex := 14, attributes := #[] }, { accessFlags := 2, nameIndex := 50, descriptorIndex := 51, attributes := #[] }])
  fields := #[{ name := "serialVersionUID", type := .long, accessFlags := 26, slot := 0, constantValue := 0 }, { name := "DEFAULT_CAPACITY", type := .int, accessFlags := 26, slot := 1, constantValue := 0 }, { name := "EMPTY_ELEMENTDATA", type := (.array (.object "java/lang/Object")), accessFlags := 26, slot := 2, constantValue := 0 }, { name := "DEFAULTCAPACITY_EMPTY_ELEMENTDATA", type := (.array (.object "java/lang/Object")), accessFlags := 26, slot := 3, constantValue := 0 }, { name := "elementData", type := (.array (.object "java/lang/Object")), accessFlags := 128, slot := 1, constantValue := 0 }, { name := "size", type := .int, accessFlags := 2, slot := 2, constantValue := 0 }]
  methods := #[k18m0, k18m1]
  instanceTypes := #[.int, (.array (.object "java/lang/Object")), .int]
  staticTypes := #[.long, .int, (.array (.object "java/lang/Object")), (.array (.object "java/lang/Object"))]
  resolved := Array.replicate 509 none
  statics := some 1 }

def pool19 : Array CpInfo := pool [(1, .class_ 2), (0, u "java/util/BitSet"), (2, u "$assertionsDisabled"), (0, u "Z"), (0, .fieldref 1 8), (0, .nameAndType 9 10), (0, u "wordsInUse"), (0, u "I"), (0, .fieldref 1 12), (0, .nameAndType 13 14), (0, u "words"), (0, u "[J"), (3, .nameAndType 19 20), (0, u "<init>"), (0, u "()V"), (0, .methodref 22 18), (0, .class_ 23), (0, u "java/lang/Object"), (0, .fieldref 1 25), (0, .nameAndType 26 6), (0, u "sizeIsSticky"), (0, .methodref 1 28), (0, .nameAndType 29 30), (0, u "initWords"), (0, u "(I)V"), (21, .methodref 1 53), (0, .nameAndType 54 55), (0, u "wordIndex"), (0, u "(I)I"), (213, .class_ 270), (0, u "java/util/BitSet$1BitSetSpliterator"), (22, u "serialPersistentFields"), (0, u "[Ljava/io/ObjectStreamField;"), (0, .class_ 296), (0, u "java/lang/Cloneable"), (0, .class_ 298), (0, u "java/io/Serializable"), (0, u "ADDRESS_BITS_PER_WORD"), (2, u "BITS_PER_WORD"), (1, u "BIT_INDEX_MASK"), (1, u "WORD_MASK"), (0, u "J"), (0, u "serialVersionUID")] 108

def k19c0 : Code := { maxStack := 2, maxLocals := 1, code := jdk_92_method_1_code, exceptionTable := #[], attributes := #[] }
def k19m0 : Method := { name := "wordIndex", desc := "(I)I", sig := { parameters := [.int], returnType := some .int }, accessFlags := 10, code := some k19c0 }
def k19c1 : Code := { maxStack := 2, maxLocals := 1, code := jdk_92_method_4_code, exceptionTable := #[], attributes := #[] }
def k19m1 : Method := { name := "<init>", desc := "()V", sig := { parameters := [], returnType := none }, accessFlags := 1, code := some k19c1 }
def k19c2 : Code := { maxStack := 3, maxLocals := 2, code := jdk_92_method_6_code, exceptionTable := #[], attributes := #[] }
def k19m2 : Method := { name := "initWords", desc := "(I)V", sig := { parameters := [.int], returnType := none }, accessFlags := 2, code := some k19c2 }
/-- java/util/BitSet -/
def k19 : Class := { plain "java/util/BitSet" (some 0) with
  accessFlags := 33
  interfaces := #[17, 2]
  cf := some (fileOf pool19 1 #[.nestMembers #[269]] #[{ accessFlags := 10, nameIndex := 54, descriptorIndex := 55, attributes := #[] }, { accessFlags := 1, nameIndex := 19, descriptorIndex := 20, attributes := #[] }, { accessFlags := 2, nameIndex := 29, descriptorIndex := 30, attributes := #[] }] 33 22 #[295, 297] #[{ accessFlags := 26, nameIndex := 299, descriptorIndex := 10, attributes := #[] }, { accessFlags := 26, nameIndex := 302, descriptorIndex := 10, attributes := #[] }, { accessFlags := 26, nameIndex := 304, descriptorIndex := 10, attributes := #[] }, { accessFlags := 26, nameIndex := 306, descriptorIndex := 307, attributes := #[] }, { accessFlags := 26, nameIndex := 293, descriptorIndex := 294, attributes := #[] }, { accessFlags := 2, nameIndex := 13, descriptorIndex := 14, attributes := #[] }, { accessFlags := 130, nameIndex := 9, descriptorIndex := 10, attributes := #[] }, { accessFlags := 130, nameIndex := 26, descriptorIndex := 6, attributes := #[] }, { accessFlags := 26, nameIndex := 308, descriptorIndex := 307, attributes := #[] }, { accessFlags := 4120, nameIndex := 5, descriptorIndex := 6, attributes := #[] }])
  fields := #[{ name := "ADDRESS_BITS_PER_WORD", type := .int, accessFlags := 26, slot := 0, constantValue := 0 }, { name := "BITS_PER_WORD", type := .int, accessFlags := 26, slot := 1, constantValue := 0 }, { name := "BIT_INDEX_MASK", type := .int, accessFlags := 26, slot := 2, constantValue := 0 }, { name := "WORD_MASK", type := .long, accessFlags := 26, slot := 3, constantValue := 0 }, { name := "serialPersistentFields", type := (.array (.object "java/io/ObjectStreamField")), accessFlags := 26, slot := 4, constantValue := 0 }, { name := "words", type := (.array .long), accessFlags := 2, slot := 0, constantValue := 0 }, { name := "wordsInUse", type := .int, accessFlags := 130, slot := 1, constantValue := 0 }, { name := "sizeIsSticky", type := .boolean, accessFlags := 130, slot := 2, constantValue := 0 }, { name := "serialVersionUID", type := .long, accessFlags := 26, slot := 5, constantValue := 0 }, { name := "$assertionsDisabled", type := .boolean, accessFlags := 4120, slot := 6, constantValue := 0 }]
  methods := #[k19m0, k19m1, k19m2]
  instanceTypes := #[(.array .long), .int, .boolean]
  staticTypes := #[.int, .int, .int, .long, (.array (.object "java/io/ObjectStreamField")), .long, .boolean]
  resolved := Array.replicate 417 none
  statics := none }

def pool20 : Array CpInfo := pool [(2, .class_ 4), (1, u "java/util/Map"), (31, .class_ 37), (0, u "java/util/Map$Entry"), (55, .class_ 94), (0, u "java/lang/Object")] 168

/-- java/util/Map -/
def k20 : Class := { plain "java/util/Map" (some 0) with
  accessFlags := 1537
  interfaces := #[]
  cf := some (fileOf pool20 2 #[.nestMembers #[36]] #[] 1537 93 #[] #[])
  fields := #[]
  methods := #[]
  instanceTypes := #[]
  staticTypes := #[]
  resolved := Array.replicate 263 none
  statics := none }

def pool21 : Array CpInfo := pool [(1, .methodref 2 3), (0, .class_ 4), (0, .nameAndType 5 6), (0, u "java/lang/Object"), (0, u "<init>"), (0, u "()V"), (1, .class_ 10), (1, u "java/util/AbstractMap"), (42, .class_ 54), (0, u "java/util/Map"), (9, u "keySet"), (0, u "Ljava/util/Set;"), (0, .class_ 67), (0, u "java/util/AbstractMap$1"), (5, u "values"), (0, u "Ljava/util/Collection;"), (0, .class_ 76), (0, u "java/util/AbstractMap$2"), (104, .class_ 182), (0, u "java/util/AbstractMap$ViewCollection"), (0, .class_ 184), (0, u "java/util/AbstractMap$SimpleImmutableEntry"), (0, .class_ 186), (0, u "java/util/AbstractMap$SimpleEntry"), (0, .class_ 188), (0, u "java/util/AbstractMap$2$1"), (0, .class_ 190), (0, u "java/util/AbstractMap$1$1")] 5

def k21c0 : Code := { maxStack := 1, maxLocals := 1, code := jdk_71_method_1_code, exceptionTable := #[], attributes := #[] }
def k21m0 : Method := { name := "<init>", desc := "()V", sig := { parameters := [], returnType := none }, accessFlags := 4, code := some k21c0 }
/-- java/util/AbstractMap -/
def k21 : Class := { plain "java/util/AbstractMap" (some 0) with
  accessFlags := 1057
  interfaces := #[20]
  cf := some (fileOf pool21 8 #[.nestMembers #[181, 183, 185, 75, 187, 66, 189]] #[{ accessFlags := 4, nameIndex := 5, descriptorIndex := 6, attributes := #[] }] 1057 2 #[53] #[{ accessFlags := 128, nameIndex := 64, descriptorIndex := 65, attributes := #[] }, { accessFlags := 128, nameIndex := 73, descriptorIndex := 74, attributes := #[] }])
  fields := #[{ name := "keySet", type := (.object "java/util/Set"), accessFlags := 128, slot := 0, constantValue := 0 }, { name := "values", type := (.object "java/util/Collection"), accessFlags := 128, slot := 1, constantValue := 0 }]
  methods := #[k21m0]
  instanceTypes := #[(.object "java/util/Set"), (.object "java/util/Collection")]
  staticTypes := #[]
  resolved := Array.replicate 196 none
  statics := none }

def pool22 : Array CpInfo := pool [(40, .class_ 41), (0, u "java/util/HashMap"), (1, .methodref 44 45), (0, .class_ 46), (0, .nameAndType 47 48), (0, u "java/util/AbstractMap"), (0, u "<init>"), (0, u "()V"), (32, .fieldref 40 82), (0, .nameAndType 83 84), (0, u "loadFactor"), (0, u "F"), (5, u "threshold"), (0, u "I"), (0, .float 1061158912), (8, .class_ 103), (1, u "java/util/Map"), (0, u "size"), (2, u "table"), (0, u "[Ljava/util/HashMap$Node;"), (14, u "entrySet"), (39, .class_ 165), (1, u "java/util/HashMap$Node"), (14, .class_ 181), (0, u "java/util/HashMap$TreeNode"), (22, u "modCount"), (37, u "Ljava/util/Set;"), (0, .class_ 244), (0, u "java/util/HashMap$KeySet"), (18, .class_ 264), (0, u "java/util/HashMap$Values"), (3, .class_ 269), (0, u "java/util/HashMap$EntrySet"), (76, .class_ 348), (1, u "java/util/HashMap$UnsafeHolder"), (43, .class_ 393), (0, u "java/lang/Cloneable"), (0, .class_ 395), (0, u "java/io/Serializable"), (0, u "serialVersionUID"), (0, u "J"), (3, u "DEFAULT_INITIAL_CAPACITY"), (1, u "MAXIMUM_CAPACITY"), (0, u "DEFAULT_LOAD_FACTOR"), (0, u "TREEIFY_THRESHOLD"), (1, u "UNTREEIFY_THRESHOLD"), (1, u "MIN_TREEIFY_CAPACITY"), (186, .class_ 597), (0, u "java/util/HashMap$EntrySpliterator"), (0, .class_ 599), (0, u "java/util/HashMap$ValueSpliterator"), (0, .class_ 601), (0, u "java/util/HashMap$KeySpliterator"), (0, .class_ 603), (0, u "java/util/HashMap$HashMapSpliterator"), (0, .class_ 605), (0, u "java/util/HashMap$EntryIterator"), (0, .class_ 607), (0, u "java/util/HashMap$ValueIterator"), (0, .class_ 609), (0, u "java/util/HashMap$KeyIterator"), (0, .class_ 611), (0, u "java/util/HashMap$HashIterator")] 17

def k22c0 : Code := { maxStack := 2, maxLocals := 1, code := jdk_69_method_7_code, exceptionTable := #[], attributes := #[] }
def k22m0 : Method := { name := "<init>", desc := "()V", sig := { parameters := [], returnType := none }, accessFlags := 1, code := some k22c0 }
/-- java/util/HashMap -/
def k22 : Class := { plain "java/util/HashMap" (some 21) with
  accessFlags := 33
  interfaces := #[20, 17, 2]
  cf := some (fileOf pool22 40 #[.nestMembers #[180, 596, 598, 600, 602, 604, 606, 608, 610, 346, 268, 263, 243, 163]] #[{ accessFlags := 1, nameIndex := 47, descriptorIndex := 48, attributes := #[] }] 33 44 #[101, 392, 394] #[{ accessFlags := 26, nameIndex := 396, descriptorIndex := 397, attributes := #[] }, { accessFlags := 24, nameIndex := 401, descriptorIndex := 91, attributes := #[] }, { accessFlags := 24, nameIndex := 403, descriptorIndex := 91, attributes := #[] }, { accessFlags := 24, nameIndex := 404, descriptorIndex := 84, attributes := #[] }, { accessFlags := 24, nameIndex := 405, descriptorIndex := 91, attributes := #[] }, { accessFlags := 24, nameIndex := 407, descriptorIndex := 91, attributes := #[] }, { accessFlags := 24, nameIndex := 409, descriptorIndex := 91, attributes := #[] }, { accessFlags := 128, nameIndex := 107, descriptorIndex := 108, attributes := #[] }, { accessFlags := 128, nameIndex := 123, descriptorIndex := 242, attributes := #[] }, { accessFlags := 128, nameIndex := 104, descriptorIndex := 91, attributes := #[] }, { accessFlags := 128, nameIndex := 204, descriptorIndex := 91, attributes := #[] }, { accessFlags := 0, nameIndex := 90, descriptorIndex := 91, attributes := #[] }, { accessFlags := 16, nameIndex := 83, descriptorIndex := 84, attributes := #[] }])
  fields := #[{ name := "serialVersionUID", type := .long, accessFlags := 26, slot := 0, constantValue := 0 }, { name := "DEFAULT_INITIAL_CAPACITY", type := .int, accessFlags := 24, slot := 1, constantValue := 0 }, { name := "MAXIMUM_CAPACITY", type := .int, accessFlags := 24, slot := 2, constantValue := 0 }, { name := "DEFAULT_LOAD_FACTOR", type := .float, accessFlags := 24, slot := 3, constantValue := 0 }, { name := "TREEIFY_THRESHOLD", type := .int, accessFlags := 24, slot := 4, constantValue := 0 }, { name := "UNTREEIFY_THRESHOLD", type := .int, accessFlags := 24, slot := 5, constantValue := 0 }, { name := "MIN_TREEIFY_CAPACITY", type := .int, accessFlags := 24, slot := 6, constantValue := 0 }, { name := "table", type := (.array (.object "java/util/HashMap$Node")), accessFlags := 128, slot := 2, constantValue := 0 }, { name := "entrySet", type := (.object "java/util/Set"), accessFlags := 128, slot := 3, constantValue := 0 }, { name := "size", type := .int, accessFlags := 128, slot := 4, constantValue := 0 }, { name := "modCount", type := .int, accessFlags := 128, slot := 5, constantValue := 0 }, { name := "threshold", type := .int, accessFlags := 0, slot := 6, constantValue := 0 }, { name := "loadFactor", type := .float, accessFlags := 16, slot := 7, constantValue := 0 }]
  methods := #[k22m0]
  instanceTypes := #[(.object "java/util/Set"), (.object "java/util/Collection"), (.array (.object "java/util/HashMap$Node")), (.object "java/util/Set"), .int, .int, .int, .float]
  staticTypes := #[.long, .int, .int, .float, .int, .int, .int]
  resolved := Array.replicate 629 none
  statics := none }

def pool23 : Array CpInfo := pool [(4, .class_ 6), (1, u "java/lang/Object"), (0, u "<init>"), (0, u "()V"), (5, .class_ 16), (1, u "java/lang/StringLatin1"), (73, u "canEncode"), (14, u "(C)Z"), (15, u "$assertionsDisabled"), (0, u "Z"), (98, .class_ 223), (1, u "java/lang/StringLatin1$LinesSpliterator"), (156, u "toBytes"), (1, u "(C)[B"), (7, .class_ 391), (0, u "java/lang/StringLatin1$CharsSpliterator")] 3

def k23m0 : Method := { name := "<init>", desc := "()V", sig := { parameters := [], returnType := none }, accessFlags := 0, code := none }
def k23c1 : Code := { maxStack := 2, maxLocals := 1, code := jdk_43_method_3_code, exceptionTable := #[], attributes := #[] }
def k23m1 : Method := { name := "canEncode", desc := "(C)Z", sig := { parameters := [.char], returnType := some .boolean }, accessFlags := 9, code := some k23c1 }
def k23c2 : Code := { maxStack := 4, maxLocals := 1, code := jdk_43_method_46_code, exceptionTable := #[], attributes := #[] }
def k23m2 : Method := { name := "toBytes", desc := "(C)[B", sig := { parameters := [.char], returnType := some (.array .byte) }, accessFlags := 9, code := some k23c2 }
/-- java/lang/StringLatin1 -/
def k23 : Class := { plain "java/lang/StringLatin1" (some 0) with
  accessFlags := 48
  interfaces := #[]
  cf := some (fileOf pool23 14 #[.nestMembers #[390, 221]] #[{ accessFlags := 0, nameIndex := 7, descriptorIndex := 8, attributes := #[] }, { accessFlags := 9, nameIndex := 90, descriptorIndex := 105, attributes := #[] }, { accessFlags := 9, nameIndex := 380, descriptorIndex := 382, attributes := #[] }] 48 4 #[] #[{ accessFlags := 4120, nameIndex := 121, descriptorIndex := 122, attributes := #[] }])
  fields := #[{ name := "$assertionsDisabled", type := .boolean, accessFlags := 4120, slot := 0, constantValue := 0 }]
  methods := #[k23m0, k23m1, k23m2]
  instanceTypes := #[]
  staticTypes := #[.boolean]
  resolved := Array.replicate 395 none
  statics := none }

def pool24 : Array CpInfo := pool [(2, .class_ 4), (1, u "java/lang/Object"), (0, u "<init>"), (0, u "()V"), (17, .class_ 26), (1, u "jdk/internal/util/Preconditions"), (28, .class_ 56), (0, u "jdk/internal/util/Preconditions$4"), (57, .class_ 115), (0, u "jdk/internal/util/Preconditions$1"), (7, u "SIOOBE_FORMATTER"), (0, u "Ljava/util/function/BiFunction;"), (0, .class_ 126), (0, u "jdk/internal/util/Preconditions$2"), (3, u "AIOOBE_FORMATTER"), (0, .class_ 132), (0, u "jdk/internal/util/Preconditions$3"), (3, u "IOOBE_FORMATTER")] 57

def k24m0 : Method := { name := "<init>", desc := "()V", sig := { parameters := [], returnType := none }, accessFlags := 1, code := none }
/-- jdk/internal/util/Preconditions -/
def k24 : Class := { plain "jdk/internal/util/Preconditions" (some 0) with
  accessFlags := 33
  interfaces := #[]
  cf := some (fileOf pool24 24 #[.nestMembers #[55, 131, 125, 114]] #[{ accessFlags := 1, nameIndex := 5, descriptorIndex := 6, attributes := #[] }] 33 2 #[] #[{ accessFlags := 25, nameIndex := 123, descriptorIndex := 124, attributes := #[] }, { accessFlags := 25, nameIndex := 130, descriptorIndex := 124, attributes := #[] }, { accessFlags := 25, nameIndex := 136, descriptorIndex := 124, attributes := #[] }])
  fields := #[{ name := "SIOOBE_FORMATTER", type := (.object "java/util/function/BiFunction"), accessFlags := 25, slot := 0, constantValue := 0 }, { name := "AIOOBE_FORMATTER", type := (.object "java/util/function/BiFunction"), accessFlags := 25, slot := 1, constantValue := 0 }, { name := "IOOBE_FORMATTER", type := (.object "java/util/function/BiFunction"), accessFlags := 25, slot := 2, constantValue := 0 }]
  methods := #[k24m0]
  instanceTypes := #[]
  staticTypes := #[(.object "java/util/function/BiFunction"), (.object "java/util/function/BiFunction"), (.object "java/util/function/BiFunction")]
  resolved := Array.replicate 194 none
  statics := some 2 }

def pool25 : Array CpInfo := pool [(9, u "<init>"), (6, .class_ 18), (1, u "java/lang/Object"), (0, u "()V"), (1, .class_ 23), (1, u "jdk/internal/util/ArraysSupport"), (0, u "LOG2_ARRAY_LONG_INDEX_SCALE"), (0, u "I"), (2, u "U"), (0, u "Ljdk/internal/misc/Unsafe;"), (8, u "BIG_ENDIAN"), (0, u "Z"), (8, u "LOG2_BYTE_BIT_SIZE"), (4, u "LOG2_ARRAY_INT_INDEX_SCALE"), (54, u "JLA"), (0, u "Ljdk/internal/access/JavaLangAccess;"), (11, u "LOG2_ARRAY_BOOLEAN_INDEX_SCALE"), (9, u "LOG2_ARRAY_BYTE_INDEX_SCALE"), (5, u "LOG2_ARRAY_CHAR_INDEX_SCALE"), (5, u "LOG2_ARRAY_SHORT_INDEX_SCALE"), (18, u "LOG2_ARRAY_FLOAT_INDEX_SCALE"), (24, u "LOG2_ARRAY_DOUBLE_INDEX_SCALE"), (89, u "T_BOOLEAN"), (2, u "T_CHAR"), (1, u "T_FLOAT"), (1, u "T_DOUBLE"), (1, u "T_BYTE"), (1, u "T_SHORT"), (1, u "T_INT"), (1, u "T_LONG"), (1, u "SOFT_MAX_ARRAY_LENGTH")] 83

def k25m0 : Method := { name := "<init>", desc := "()V", sig := { parameters := [], returnType := none }, accessFlags := 2, code := none }
/-- jdk/internal/util/ArraysSupport -/
def k25 : Class := { plain "jdk/internal/util/ArraysSupport" (some 0) with
  accessFlags := 33
  interfaces := #[]
  cf := some (fileOf pool25 21 #[] #[{ accessFlags := 2, nameIndex := 9, descriptorIndex := 19, attributes := #[] }] 33 16 #[] #[{ accessFlags := 24, nameIndex := 28, descriptorIndex := 29, attributes := #[] }, { accessFlags := 26, nameIndex := 38, descriptorIndex := 39, attributes := #[] }, { accessFlags := 25, nameIndex := 121, descriptorIndex := 25, attributes := #[] }, { accessFlags := 25, nameIndex := 131, descriptorIndex := 25, attributes := #[] }, { accessFlags := 25, nameIndex := 137, descriptorIndex := 25, attributes := #[] }, { accessFlags := 25, nameIndex := 143, descriptorIndex := 25, attributes := #[] }, { accessFlags := 25, nameIndex := 53, descriptorIndex := 25, attributes := #[] }, { accessFlags := 25, nameIndex := 24, descriptorIndex := 25, attributes := #[] }, { accessFlags := 25, nameIndex := 162, descriptorIndex := 25, attributes := #[] }, { accessFlags := 25, nameIndex := 187, descriptorIndex := 25, attributes := #[] }, { accessFlags := 26, nameIndex := 48, descriptorIndex := 25, attributes := #[] }, { accessFlags := 25, nameIndex := 277, descriptorIndex := 25, attributes := #[] }, { accessFlags := 25, nameIndex := 280, descriptorIndex := 25, attributes := #[] }, { accessFlags := 25, nameIndex := 282, descriptorIndex := 25, attributes := #[] }, { accessFlags := 25, nameIndex := 284, descriptorIndex := 25, attributes := #[] }, { accessFlags := 25, nameIndex := 286, descriptorIndex := 25, attributes := #[] }, { accessFlags := 25, nameIndex := 288, descriptorIndex := 25, attributes := #[] }, { accessFlags := 25, nameIndex := 290, descriptorIndex := 25, attributes := #[] }, { accessFlags := 25, nameIndex := 292, descriptorIndex := 25, attributes := #[] }, { accessFlags := 26, nameIndex := 108, descriptorIndex := 109, attributes := #[] }, { accessFlags := 25, nameIndex := 294, descriptorIndex := 25, attributes := #[] }])
  fields := #[{ name := "U", type := (.object "jdk/internal/misc/Unsafe"), accessFlags := 24, slot := 0, constantValue := 0 }, { name := "BIG_ENDIAN", type := .boolean, accessFlags := 26, slot := 1, constantValue := 0 }, { name := "LOG2_ARRAY_BOOLEAN_INDEX_SCALE", type := .int, accessFlags := 25, slot := 2, constantValue := 0 }, { name := "LOG2_ARRAY_BYTE_INDEX_SCALE", type := .int, accessFlags := 25, slot := 3, constantValue := 0 }, { name := "LOG2_ARRAY_CHAR_INDEX_SCALE", type := .int, accessFlags := 25, slot := 4, constantValue := 0 }, { name := "LOG2_ARRAY_SHORT_INDEX_SCALE", type := .int, accessFlags := 25, slot := 5, constantValue := 0 }, { name := "LOG2_ARRAY_INT_INDEX_SCALE", type := .int, accessFlags := 25, slot := 6, constantValue := 0 }, { name := "LOG2_ARRAY_LONG_INDEX_SCALE", type := .int, accessFlags := 25, slot := 7, constantValue := 0 }, { name := "LOG2_ARRAY_FLOAT_INDEX_SCALE", type := .int, accessFlags := 25, slot := 8, constantValue := 0 }, { name := "LOG2_ARRAY_DOUBLE_INDEX_SCALE", type := .int, accessFlags := 25, slot := 9, constantValue := 0 }, { name := "LOG2_BYTE_BIT_SIZE", type := .int, accessFlags := 26, slot := 10, constantValue := 0 }, { name := "T_BOOLEAN", type := .int, accessFlags := 25, slot := 11, constantValue := 0 }, { name := "T_CHAR", type := .int, accessFlags := 25, slot := 12, constantValue := 0 }, { name := "T_FLOAT", type := .int, accessFlags := 25, slot := 13, constantValue := 0 }, { name := "T_DOUBLE", type := .int, accessFlags := 25, slot := 14, constantValue := 0 }, { name := "T_BYTE", type := .int, accessFlags := 25, slot := 15, constantValue := 0 }, { name := "T_SHORT", type := .int, accessFlags := 25, slot := 16, constantValue := 0 }, { name := "T_INT", type := .int, accessFlags := 25, slot := 17, constantValue := 0 }, { name := "T_LONG", type := .int, accessFlags := 25, slot := 18, constantValue := 0 }, { name := "JLA", type := (.object "jdk/internal/access/JavaLangAccess"), accessFlags := 26, slot := 19, constantValue := 0 }, { name := "SOFT_MAX_ARRAY_LENGTH", type := .int, accessFlags := 25, slot := 20, constantValue := 0 }]
  methods := #[k25m0]
  instanceTypes := #[]
  staticTypes := #[(.object "jdk/internal/misc/Unsafe"), .boolean, .int, .int, .int, .int, .int, .int, .int, .int, .int, .int, .int, .int, .int, .int, .int, .int, .int, (.object "jdk/internal/access/JavaLangAccess"), .int]
  resolved := Array.replicate 378 none
  statics := none }

/-- the primitive byte -/
def k26 : Class := { plain "byte" none with kind := .primitive 'B', accessFlags := 0x411 }
/-- [B -/
def k27 : Class := { plain "[B" (some 0) with kind := .array 26 .byte, interfaces := #[17, 2], accessFlags := 1041 }

/-- the primitive char -/
def k28 : Class := { plain "char" none with kind := .primitive 'C', accessFlags := 0x411 }
/-- [C -/
def k29 : Class := { plain "[C" (some 0) with kind := .array 28 .char, interfaces := #[17, 2], accessFlags := 1041 }

/-- the primitive int -/
def k30 : Class := { plain "int" none with kind := .primitive 'I', accessFlags := 0x411 }
/-- [I -/
def k31 : Class := { plain "[I" (some 0) with kind := .array 30 .int, interfaces := #[17, 2], accessFlags := 1041 }

/-- the primitive long -/
def k32 : Class := { plain "long" none with kind := .primitive 'J', accessFlags := 0x411 }
/-- [J -/
def k33 : Class := { plain "[J" (some 0) with kind := .array 32 .long, interfaces := #[17, 2], accessFlags := 1041 }

/-- [Ljava/lang/Object; -/
def k34 : Class := { plain "[Ljava/lang/Object;" (some 0) with kind := .array 0 (.object "java/lang/Object"), interfaces := #[17, 2], accessFlags := 1041 }

def heap : Heap := #[{ cls := 7, slots := #[.long 0, .int 1, .null, .int 0, .null, .int 0, .int 0], vm := .statics 7 },
  { cls := 18, slots := #[.long 0, .int 0, .ref 3, .ref 4], vm := .statics 18 },
  { cls := 24, slots := #[.null, .null, .null], vm := .statics 24 },
  { cls := 34, slots := #[], vm := .none },
  { cls := 34, slots := #[], vm := .none }]
def classes : Array Class := #[k0, k1, k2, k3, k4, k5, k6, k7, k8, k9, k10, k11, k12, k13, k14, k15, k16, k17, k18, k19, k20, k21, k22, k23, k24, k25, k26, k27, k28, k29, k30, k31, k32, k33, k34]
def interned : List (Array UInt16 × Addr) := []
def slotsUsed : Nat := 14
def theMethod : MethodId := ⟨1, 2⟩
def args0 : Array Value := #[.int 1, .int 2, .int 3, .int 4]
def aboutOver (below : List Frame) : State where
  vm := { classes := classes, interned := interned.toArray }
  heap := heap
  slotsUsed := slotsUsed
  threads := #[{ frames := .invoking theMethod args0 :: below }]
def below0 : List Frame := [.native { method := ⟨0, 0⟩, args := #[] }]
def about1 : State := aboutOver below0
def p0 : Program := .bare "" "" ""
def e0 : Env := launch0.env 0 0 0
theorem w_frames : about1.frames = Frame.invoking theMethod args0 :: below0 := rfl
set_option maxRecDepth 65536 in
theorem w_args : argsFit about1.vm theMethod args0 = true := by decide +kernel
set_option maxRecDepth 65536 in
theorem w_heap : heapFits about1 = true := by decide +kernel
set_option maxRecDepth 65536 in
theorem w_runnable : about1.curStatus? = some .runnable := by decide +kernel
set_option maxRecDepth 65536 in
theorem w_alone : about1.alone = true := by decide +kernel
set_option maxRecDepth 65536 in
theorem w_named : about1.methodNamed? x = some theMethod := by decide +kernel
set_option maxRecDepth 65536 in
theorem w_hears : about1.hears theMethod below0 = true := by decide +kernel
set_option maxRecDepth 65536 in
theorem w_ripe : about1.ripe theMethod args0 below0 = true := by decide +kernel
theorem w_running : about1.status = .running := rfl
set_option maxRecDepth 65536 in
theorem w_room : about1.hasRoom e0.platform room_1 = true :=
  launch0.hasRoom_least _ room_1 (by decide +kernel) (by decide +kernel) (by decide +kernel) (by decide +kernel) (by decide +kernel) (by decide +kernel)
theorem allAtoms_all (ts : List Jvm.Cond) (a : Array Jvm.Value) (st : Jvm.State) : (allAtoms ts).before a st = ts.all (fun c => c.before a st) := by
  induction ts with
  | nil => rfl
  | cons c t ih =>
    show (Jvm.Cond.and c (allAtoms t)).before a st = _
    rw [Jvm.Cond.before_and, ih, List.all_cons]
def words1 : List Jvm.Cond := Jvm.Cond.code x code maxLocals ret :: tables_1
/-- a 'code' word, met by the world's own term for the bytes: nothing is compared byte by byte -/
theorem code_word {y : MethodName} {bytes : ByteArray} {mx : Nat} {rt : Option FieldType} {a : Array Value} {s : State} {m : MethodId} {meth : Method} {c : Code} (h1 : s.methodNamed? y = some m) (h2 : s.vm.method? m = some meth) (h3 : meth.code = some c) (h4 : c.code = bytes)
    (h5 : (c.maxLocals == mx && c.exceptionTable.isEmpty && decide (c.maxStack ≤ mostOperands) && decide (meth.sig.returnType = rt) && !meth.locks && decide (parseMethodDescriptor y.desc = some meth.sig)) = true) : (Jvm.Cond.code y bytes mx rt).before a s = true := by
  simp only [Bool.and_eq_true, beq_iff_eq, Bool.not_eq_true', decide_eq_true_eq] at h5
  obtain ⟨⟨⟨⟨⟨g1, g2⟩, g3⟩, g4⟩, g5⟩, g6⟩ := h5
  simp [Cond.before, Cond.holds, Cond.value, h1, h2, h3, h4, g1, g2, g3, g4, g5, g6]
def isCode : Jvm.Cond → Bool
  | .code _ _ _ _ => true
  | _ => false
theorem all_split {L : List Jvm.Cond} {P : Jvm.Cond → Bool} (h1 : L.all (fun c => isCode c || P c) = true) (h2 : ∀ c ∈ L.filter isCode, P c = true) : L.all P = true := by
  refine List.all_eq_true.mpr fun c hc => ?_
  have h := List.all_eq_true.mp h1 c hc
  rcases Bool.eq_false_or_eq_true (isCode c) with hi | hi
  · exact h2 c (List.mem_filter.mpr ⟨hc, hi⟩)
  · simpa [hi] using h
set_option maxRecDepth 65536 in
theorem w_c0 : (Jvm.Cond.code x code maxLocals ret).before args0 about1 = true := code_word (m := ⟨1, 2⟩) (meth := k1m2) (c := k1c2) (by decide +kernel) rfl rfl rfl (by decide +kernel)
set_option maxRecDepth 65536 in
theorem w_c1 : (Jvm.Cond.code ({ cls := "com/example/strict_roles/strictroles/formats/StandingDefinitionsCountHomePathPinLaw", name := "draw", desc := "(II)Ljava/lang/String;" } : Jvm.MethodName) method_2_code (6 : Nat) (Option.some (Jvm.ClassFile.FieldType.object "java/lang/String"))).before args0 about1 = true := code_word (m := ⟨1, 1⟩) (meth := k1m1) (c := k1c1) (by decide +kernel) rfl rfl rfl (by decide +kernel)
set_option maxRecDepth 65536 in
theorem w_c2 : (Jvm.Cond.code ({ cls := "java/lang/String", name := "<init>", desc := "([C)V" } : Jvm.MethodName) jdk_42_method_3_code (2 : Nat) (Option.none : Option Jvm.ClassFile.FieldType)).before args0 about1 = true := code_word (m := ⟨7, 1⟩) (meth := k7m1) (c := k7c1) (by decide +kernel) rfl rfl rfl (by decide +kernel)
set_option maxRecDepth 65536 in
theorem w_c3 : (Jvm.Cond.code ({ cls := "java/lang/String", name := "<init>", desc := "([CIILjava/lang/Void;)V" } : Jvm.MethodName) jdk_42_method_149_code (6 : Nat) (Option.none : Option Jvm.ClassFile.FieldType)).before args0 about1 = true := code_word (m := ⟨7, 4⟩) (meth := k7m4) (c := k7c4) (by decide +kernel) rfl rfl rfl (by decide +kernel)
set_option maxRecDepth 65536 in
theorem w_c4 : (Jvm.Cond.code ({ cls := "java/lang/Object", name := "<init>", desc := "()V" } : Jvm.MethodName) object_method_1_code (1 : Nat) (Option.none : Option Jvm.ClassFile.FieldType)).before args0 about1 = true := code_word (m := ⟨0, 0⟩) (meth := k0m0) (c := k0c0) (by decide +kernel) rfl rfl rfl (by decide +kernel)
set_option maxRecDepth 65536 in
theorem w_c5 : (Jvm.Cond.code ({ cls := "java/lang/StringUTF16", name := "compress", desc := "([CII)[B" } : Jvm.MethodName) jdk_52_method_16_code (6 : Nat) (Option.some (Jvm.ClassFile.FieldType.array Jvm.ClassFile.FieldType.byte))).before args0 about1 = true := code_word (m := ⟨8, 2⟩) (meth := k8m2) (c := k8c2) (by decide +kernel) rfl rfl rfl (by decide +kernel)
set_option maxRecDepth 65536 in
theorem w_c6 : (Jvm.Cond.code ({ cls := "java/lang/StringUTF16", name := "compress", desc := "([CI[BII)I" } : Jvm.MethodName) jdk_52_method_21_code (7 : Nat) (Option.some Jvm.ClassFile.FieldType.int)).before args0 about1 = true := code_word (m := ⟨8, 3⟩) (meth := k8m3) (c := k8c3) (by decide +kernel) rfl rfl rfl (by decide +kernel)
set_option maxRecDepth 65536 in
theorem w_c7 : (Jvm.Cond.code ({ cls := "java/lang/StringUTF16", name := "coderFromArrayLen", desc := "([BI)B" } : Jvm.MethodName) jdk_52_method_15_code (2 : Nat) (Option.some Jvm.ClassFile.FieldType.byte)).before args0 about1 = true := code_word (m := ⟨8, 1⟩) (meth := k8m1) (c := k8c1) (by decide +kernel) rfl rfl rfl (by decide +kernel)
set_option maxRecDepth 65536 in
theorem w_c8 : (Jvm.Cond.code ({ cls := "com/example/strict_roles/strictroles/formats/StandingDefinitions", name := "<init>", desc := "()V" } : Jvm.MethodName) prog_70_method_1_code (1 : Nat) (Option.none : Option Jvm.ClassFile.FieldType)).before args0 about1 = true := code_word (m := ⟨9, 0⟩) (meth := k9m0) (c := k9c0) (by decide +kernel) rfl rfl rfl (by decide +kernel)
set_option maxRecDepth 65536 in
theorem w_c9 : (Jvm.Cond.code ({ cls := "java/util/ArrayList", name := "<init>", desc := "()V" } : Jvm.MethodName) jdk_38_method_2_code (1 : Nat) (Option.none : Option Jvm.ClassFile.FieldType)).before args0 about1 = true := code_word (m := ⟨18, 0⟩) (meth := k18m0) (c := k18c0) (by decide +kernel) rfl rfl rfl (by decide +kernel)
set_option maxRecDepth 65536 in
theorem w_c10 : (Jvm.Cond.code ({ cls := "java/util/AbstractList", name := "<init>", desc := "()V" } : Jvm.MethodName) jdk_39_method_1_code (1 : Nat) (Option.none : Option Jvm.ClassFile.FieldType)).before args0 about1 = true := code_word (m := ⟨15, 0⟩) (meth := k15m0) (c := k15c0) (by decide +kernel) rfl rfl rfl (by decide +kernel)
set_option maxRecDepth 65536 in
theorem w_c11 : (Jvm.Cond.code ({ cls := "java/util/AbstractCollection", name := "<init>", desc := "()V" } : Jvm.MethodName) jdk_22_method_1_code (1 : Nat) (Option.none : Option Jvm.ClassFile.FieldType)).before args0 about1 = true := code_word (m := ⟨12, 0⟩) (meth := k12m0) (c := k12c0) (by decide +kernel) rfl rfl rfl (by decide +kernel)
set_option maxRecDepth 65536 in
theorem w_c12 : (Jvm.Cond.code ({ cls := "java/util/BitSet", name := "<init>", desc := "()V" } : Jvm.MethodName) jdk_92_method_4_code (1 : Nat) (Option.none : Option Jvm.ClassFile.FieldType)).before args0 about1 = true := code_word (m := ⟨19, 1⟩) (meth := k19m1) (c := k19c1) (by decide +kernel) rfl rfl rfl (by decide +kernel)
set_option maxRecDepth 65536 in
theorem w_c13 : (Jvm.Cond.code ({ cls := "java/util/BitSet", name := "initWords", desc := "(I)V" } : Jvm.MethodName) jdk_92_method_6_code (2 : Nat) (Option.none : Option Jvm.ClassFile.FieldType)).before args0 about1 = true := code_word (m := ⟨19, 2⟩) (meth := k19m2) (c := k19c2) (by decide +kernel) rfl rfl rfl (by decide +kernel)
set_option maxRecDepth 65536 in
theorem w_c14 : (Jvm.Cond.code ({ cls := "java/util/BitSet", name := "wordIndex", desc := "(I)I" } : Jvm.MethodName) jdk_92_method_1_code (1 : Nat) (Option.some Jvm.ClassFile.FieldType.int)).before args0 about1 = true := code_word (m := ⟨19, 0⟩) (meth := k19m0) (c := k19c0) (by decide +kernel) rfl rfl rfl (by decide +kernel)
set_option maxRecDepth 65536 in
theorem w_c15 : (Jvm.Cond.code ({ cls := "java/util/HashMap", name := "<init>", desc := "()V" } : Jvm.MethodName) jdk_69_method_7_code (1 : Nat) (Option.none : Option Jvm.ClassFile.FieldType)).before args0 about1 = true := code_word (m := ⟨22, 0⟩) (meth := k22m0) (c := k22c0) (by decide +kernel) rfl rfl rfl (by decide +kernel)
set_option maxRecDepth 65536 in
theorem w_c16 : (Jvm.Cond.code ({ cls := "java/util/AbstractMap", name := "<init>", desc := "()V" } : Jvm.MethodName) jdk_71_method_1_code (1 : Nat) (Option.none : Option Jvm.ClassFile.FieldType)).before args0 about1 = true := code_word (m := ⟨21, 0⟩) (meth := k21m0) (c := k21c0) (by decide +kernel) rfl rfl rfl (by decide +kernel)
set_option maxRecDepth 65536 in
theorem w_c17 : (Jvm.Cond.code ({ cls := "com/example/strict_roles/strictroles/formats/StandingDefinitions", name := "homePathCharacters", desc := "()J" } : Jvm.MethodName) prog_70_method_9_code (1 : Nat) (Option.some Jvm.ClassFile.FieldType.long)).before args0 about1 = true := code_word (m := ⟨9, 2⟩) (meth := k9m2) (c := k9c2) (by decide +kernel) rfl rfl rfl (by decide +kernel)
set_option maxRecDepth 65536 in
theorem w_c18 : (Jvm.Cond.code ({ cls := "com/example/strict_roles/strictroles/formats/StandingDefinitions", name := "countHomePath", desc := "(Ljava/lang/String;)V" } : Jvm.MethodName) prog_70_method_10_code (2 : Nat) (Option.none : Option Jvm.ClassFile.FieldType)).before args0 about1 = true := code_word (m := ⟨9, 3⟩) (meth := k9m3) (c := k9c3) (by decide +kernel) rfl rfl rfl (by decide +kernel)
set_option maxRecDepth 65536 in
theorem w_c19 : (Jvm.Cond.code ({ cls := "java/lang/String", name := "length", desc := "()I" } : Jvm.MethodName) jdk_42_method_54_code (1 : Nat) (Option.some Jvm.ClassFile.FieldType.int)).before args0 about1 = true := code_word (m := ⟨7, 2⟩) (meth := k7m2) (c := k7c2) (by decide +kernel) rfl rfl rfl (by decide +kernel)
set_option maxRecDepth 65536 in
theorem w_c20 : (Jvm.Cond.code ({ cls := "java/lang/String", name := "coder", desc := "()B" } : Jvm.MethodName) jdk_42_method_152_code (1 : Nat) (Option.some Jvm.ClassFile.FieldType.byte)).before args0 about1 = true := code_word (m := ⟨7, 6⟩) (meth := k7m6) (c := k7c6) (by decide +kernel) rfl rfl rfl (by decide +kernel)
set_option maxRecDepth 65536 in
theorem w_c21 : (Jvm.Cond.code ({ cls := "com/example/strict_roles/strictroles/formats/StandingDefinitions", name := "made", desc := "()I" } : Jvm.MethodName) prog_70_method_8_code (1 : Nat) (Option.some Jvm.ClassFile.FieldType.int)).before args0 about1 = true := code_word (m := ⟨9, 1⟩) (meth := k9m1) (c := k9c1) (by decide +kernel) rfl rfl rfl (by decide +kernel)
set_option maxRecDepth 65536 in
theorem w_c22 : (Jvm.Cond.code ({ cls := "java/util/ArrayList", name := "size", desc := "()I" } : Jvm.MethodName) jdk_38_method_8_code (1 : Nat) (Option.some Jvm.ClassFile.FieldType.int)).before args0 about1 = true := code_word (m := ⟨18, 1⟩) (meth := k18m1) (c := k18c1) (by decide +kernel) rfl rfl rfl (by decide +kernel)
set_option maxRecDepth 65536 in
theorem w_c23 : (Jvm.Cond.code ({ cls := "java/lang/String", name := "valueOf", desc := "(C)Ljava/lang/String;" } : Jvm.MethodName) jdk_42_method_139_code (1 : Nat) (Option.some (Jvm.ClassFile.FieldType.object "java/lang/String"))).before args0 about1 = true := code_word (m := ⟨7, 3⟩) (meth := k7m3) (c := k7c3) (by decide +kernel) rfl rfl rfl (by decide +kernel)
set_option maxRecDepth 65536 in
theorem w_c24 : (Jvm.Cond.code ({ cls := "java/lang/StringLatin1", name := "canEncode", desc := "(C)Z" } : Jvm.MethodName) jdk_43_method_3_code (1 : Nat) (Option.some Jvm.ClassFile.FieldType.boolean)).before args0 about1 = true := code_word (m := ⟨23, 1⟩) (meth := k23m1) (c := k23c1) (by decide +kernel) rfl rfl rfl (by decide +kernel)
set_option maxRecDepth 65536 in
theorem w_c25 : (Jvm.Cond.code ({ cls := "java/lang/StringLatin1", name := "toBytes", desc := "(C)[B" } : Jvm.MethodName) jdk_43_method_46_code (1 : Nat) (Option.some (Jvm.ClassFile.FieldType.array Jvm.ClassFile.FieldType.byte))).before args0 about1 = true := code_word (m := ⟨23, 2⟩) (meth := k23m2) (c := k23c2) (by decide +kernel) rfl rfl rfl (by decide +kernel)
set_option maxRecDepth 65536 in
theorem w_c26 : (Jvm.Cond.code ({ cls := "java/lang/String", name := "<init>", desc := "([BB)V" } : Jvm.MethodName) jdk_42_method_151_code (3 : Nat) (Option.none : Option Jvm.ClassFile.FieldType)).before args0 about1 = true := code_word (m := ⟨7, 5⟩) (meth := k7m5) (c := k7c5) (by decide +kernel) rfl rfl rfl (by decide +kernel)
def codes1 : List Jvm.Cond := [Jvm.Cond.code x code maxLocals ret, Jvm.Cond.code ({ cls := "com/example/strict_roles/strictroles/formats/StandingDefinitionsCountHomePathPinLaw", name := "draw", desc := "(II)Ljava/lang/String;" } : Jvm.MethodName) method_2_code (6 : Nat) (Option.some (Jvm.ClassFile.FieldType.object "java/lang/String")), Jvm.Cond.code ({ cls := "java/lang/String", name := "<init>", desc := "([C)V" } : Jvm.MethodName) jdk_42_method_3_code (2 : Nat) (Option.none : Option Jvm.ClassFile.FieldType), Jvm.Cond.code ({ cls := "java/lang/String", name := "<init>", desc := "([CIILjava/lang/Void;)V" } : Jvm.MethodName) jdk_42_method_149_code (6 : Nat) (Option.none : Option Jvm.ClassFile.FieldType), Jvm.Cond.code ({ cls := "java/lang/Object", name := "<init>", desc := "()V" } : Jvm.MethodName) object_method_1_code (1 : Nat) (Option.none : Option Jvm.ClassFile.FieldType), Jvm.Cond.code ({ cls := "java/lang/StringUTF16", name := "compress", desc := "([CII)[B" } : Jvm.MethodName) jdk_52_method_16_code (6 : Nat) (Option.some (Jvm.ClassFile.FieldType.array Jvm.ClassFile.FieldType.byte)), Jvm.Cond.code ({ cls := "java/lang/StringUTF16", name := "compress", desc := "([CI[BII)I" } : Jvm.MethodName) jdk_52_method_21_code (7 : Nat) (Option.some Jvm.ClassFile.FieldType.int), Jvm.Cond.code ({ cls := "java/lang/StringUTF16", name := "coderFromArrayLen", desc := "([BI)B" } : Jvm.MethodName) jdk_52_method_15_code (2 : Nat) (Option.some Jvm.ClassFile.FieldType.byte), Jvm.Cond.code ({ cls := "com/example/strict_roles/strictroles/formats/StandingDefinitions", name := "<init>", desc := "()V" } : Jvm.MethodName) prog_70_method_1_code (1 : Nat) (Option.none : Option Jvm.ClassFile.FieldType), Jvm.Cond.code ({ cls := "java/util/ArrayList", name := "<init>", desc := "()V" } : Jvm.MethodName) jdk_38_method_2_code (1 : Nat) (Option.none : Option Jvm.ClassFile.FieldType), Jvm.Cond.code ({ cls := "java/util/AbstractList", name := "<init>", desc := "()V" } : Jvm.MethodName) jdk_39_method_1_code (1 : Nat) (Option.none : Option Jvm.ClassFile.FieldType), Jvm.Cond.code ({ cls := "java/util/AbstractCollection", name := "<init>", desc := "()V" } : Jvm.MethodName) jdk_22_method_1_code (1 : Nat) (Option.none : Option Jvm.ClassFile.FieldType), Jvm.Cond.code ({ cls := "java/util/BitSet", name := "<init>", desc := "()V" } : Jvm.MethodName) jdk_92_method_4_code (1 : Nat) (Option.none : Option Jvm.ClassFile.FieldType), Jvm.Cond.code ({ cls := "java/util/BitSet", name := "initWords", desc := "(I)V" } : Jvm.MethodName) jdk_92_method_6_code (2 : Nat) (Option.none : Option Jvm.ClassFile.FieldType), Jvm.Cond.code ({ cls := "java/util/BitSet", name := "wordIndex", desc := "(I)I" } : Jvm.MethodName) jdk_92_method_1_code (1 : Nat) (Option.some Jvm.ClassFile.FieldType.int), Jvm.Cond.code ({ cls := "java/util/HashMap", name := "<init>", desc := "()V" } : Jvm.MethodName) jdk_69_method_7_code (1 : Nat) (Option.none : Option Jvm.ClassFile.FieldType), Jvm.Cond.code ({ cls := "java/util/AbstractMap", name := "<init>", desc := "()V" } : Jvm.MethodName) jdk_71_method_1_code (1 : Nat) (Option.none : Option Jvm.ClassFile.FieldType), Jvm.Cond.code ({ cls := "com/example/strict_roles/strictroles/formats/StandingDefinitions", name := "homePathCharacters", desc := "()J" } : Jvm.MethodName) prog_70_method_9_code (1 : Nat) (Option.some Jvm.ClassFile.FieldType.long), Jvm.Cond.code ({ cls := "com/example/strict_roles/strictroles/formats/StandingDefinitions", name := "countHomePath", desc := "(Ljava/lang/String;)V" } : Jvm.MethodName) prog_70_method_10_code (2 : Nat) (Option.none : Option Jvm.ClassFile.FieldType), Jvm.Cond.code ({ cls := "java/lang/String", name := "length", desc := "()I" } : Jvm.MethodName) jdk_42_method_54_code (1 : Nat) (Option.some Jvm.ClassFile.FieldType.int), Jvm.Cond.code ({ cls := "java/lang/String", name := "coder", desc := "()B" } : Jvm.MethodName) jdk_42_method_152_code (1 : Nat) (Option.some Jvm.ClassFile.FieldType.byte), Jvm.Cond.code ({ cls := "com/example/strict_roles/strictroles/formats/StandingDefinitions", name := "made", desc := "()I" } : Jvm.MethodName) prog_70_method_8_code (1 : Nat) (Option.some Jvm.ClassFile.FieldType.int), Jvm.Cond.code ({ cls := "java/util/ArrayList", name := "size", desc := "()I" } : Jvm.MethodName) jdk_38_method_8_code (1 : Nat) (Option.some Jvm.ClassFile.FieldType.int), Jvm.Cond.code ({ cls := "java/lang/String", name := "valueOf", desc := "(C)Ljava/lang/String;" } : Jvm.MethodName) jdk_42_method_139_code (1 : Nat) (Option.some (Jvm.ClassFile.FieldType.object "java/lang/String")), Jvm.Cond.code ({ cls := "java/lang/StringLatin1", name := "canEncode", desc := "(C)Z" } : Jvm.MethodName) jdk_43_method_3_code (1 : Nat) (Option.some Jvm.ClassFile.FieldType.boolean), Jvm.Cond.code ({ cls := "java/lang/StringLatin1", name := "toBytes", desc := "(C)[B" } : Jvm.MethodName) jdk_43_method_46_code (1 : Nat) (Option.some (Jvm.ClassFile.FieldType.array Jvm.ClassFile.FieldType.byte)), Jvm.Cond.code ({ cls := "java/lang/String", name := "<init>", desc := "([BB)V" } : Jvm.MethodName) jdk_42_method_151_code (3 : Nat) (Option.none : Option Jvm.ClassFile.FieldType)]
set_option maxRecDepth 65536 in
theorem codes_eq : words1.filter isCode = codes1 := rfl
theorem w_codes : ∀ c ∈ words1.filter isCode, c.before args0 about1 = true := by
  rw [codes_eq]
  intro c hc
  simp only [codes1, List.mem_cons, List.not_mem_nil, or_false] at hc
  rcases hc with rfl | rfl | rfl | rfl | rfl | rfl | rfl | rfl | rfl | rfl | rfl | rfl | rfl | rfl | rfl | rfl | rfl | rfl | rfl | rfl | rfl | rfl | rfl | rfl | rfl | rfl | rfl
  · exact w_c0
  · exact w_c1
  · exact w_c2
  · exact w_c3
  · exact w_c4
  · exact w_c5
  · exact w_c6
  · exact w_c7
  · exact w_c8
  · exact w_c9
  · exact w_c10
  · exact w_c11
  · exact w_c12
  · exact w_c13
  · exact w_c14
  · exact w_c15
  · exact w_c16
  · exact w_c17
  · exact w_c18
  · exact w_c19
  · exact w_c20
  · exact w_c21
  · exact w_c22
  · exact w_c23
  · exact w_c24
  · exact w_c25
  · exact w_c26
set_option maxRecDepth 65536 in
theorem w_t1 : (words1.take 24).all (fun c => isCode c || c.before args0 about1) = true := by decide +kernel
set_option maxRecDepth 65536 in
theorem w_t2 : ((words1.drop 24).take 24).all (fun c => isCode c || c.before args0 about1) = true := by decide +kernel
set_option maxRecDepth 65536 in
theorem w_t3 : (((words1.drop 24).drop 24).take 24).all (fun c => isCode c || c.before args0 about1) = true := by decide +kernel
set_option maxRecDepth 65536 in
theorem w_t4 : ((((words1.drop 24).drop 24).drop 24).take 24).all (fun c => isCode c || c.before args0 about1) = true := by decide +kernel
set_option maxRecDepth 65536 in
theorem w_t5 : (((((words1.drop 24).drop 24).drop 24).drop 24).take 24).all (fun c => isCode c || c.before args0 about1) = true := by decide +kernel
set_option maxRecDepth 65536 in
theorem w_t6 : ((((((words1.drop 24).drop 24).drop 24).drop 24).drop 24).take 24).all (fun c => isCode c || c.before args0 about1) = true := by decide +kernel
set_option maxRecDepth 65536 in
theorem w_t7 : (((((((words1.drop 24).drop 24).drop 24).drop 24).drop 24).drop 24).take 24).all (fun c => isCode c || c.before args0 about1) = true := by decide +kernel
set_option maxRecDepth 65536 in
theorem w_t8 : (((((((words1.drop 24).drop 24).drop 24).drop 24).drop 24).drop 24).drop 24).all (fun c => isCode c || c.before args0 about1) = true := by decide +kernel
theorem w_tables : (allAtoms (Jvm.Cond.code x code maxLocals ret :: tables_1)).before args0 about1 = true := by
  rw [allAtoms_all]
  show words1.all (fun c => c.before args0 about1) = true
  refine all_split ?_ w_codes
  rw [← List.take_append_drop 24 words1, List.all_append, w_t1, ← List.take_append_drop 24 (words1.drop 24), List.all_append, w_t2, ← List.take_append_drop 24 ((words1.drop 24).drop 24), List.all_append, w_t3, ← List.take_append_drop 24 (((words1.drop 24).drop 24).drop 24), List.all_append, w_t4, ← List.take_append_drop 24 ((((words1.drop 24).drop 24).drop 24).drop 24), List.all_append, w_t5, ← List.take_append_drop 24 (((((words1.drop 24).drop 24).drop 24).drop 24).drop 24), List.all_append, w_t6, ← List.take_append_drop 24 ((((((words1.drop 24).drop 24).drop 24).drop 24).drop 24).drop 24), List.all_append, w_t7, w_t8]
  rfl
set_option maxRecDepth 65536 in
theorem w_rest : rest_1_c.before args0 about1 = true := by decide +kernel
set_option maxRecDepth 65536 in
theorem w_case : (Jvm.Cond.and given_1 narrow_1).before args0 about1 = true := by decide +kernel
set_option maxRecDepth 65536 in
theorem w_consts : constsHeld consts_1 about1 := Jvm.Lit.constsHeldB_iff.mp (by decide +kernel)
theorem w_applies : (headSpec (Jvm.Cond.code x code maxLocals ret :: tables_1) room_1).applies x e0.platform about1 = true :=
  (Spec.applies_iff w_frames).mpr ⟨w_running, w_runnable, w_alone, w_named, w_hears, w_ripe, w_room, w_tables⟩
theorem atStart : AtStart classFile x code maxLocals ret World_1 tables_1 room_1 Calls_1 rest_1 Pre_1 launch0 p0 e0 about1 theMethod args0 below0 :=
  ⟨lists_1, trivial, launch0.admits_env _ _ _, launch0.least_env, fairChoices_fair.cas, fairChoices_fair.clock, w_frames, w_args, w_heap, w_applies, ⟨w_consts, trivial⟩, w_rest, w_case⟩
end start1
theorem witness_1 : WitnessClaimed_1 := ⟨start1.p0, start1.e0, start1.about1, start1.theMethod, start1.args0, start1.below0, start1.atStart⟩
end Jvm.Pilot.@@N@@
