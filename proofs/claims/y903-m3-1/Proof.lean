import JvmDerived
import JvmDerived.Pilot.@@N@@Statement
import JvmDerived.Pilot.@@N@@Code
set_option linter.unusedVariables false
set_option linter.unusedSimpArgs false
namespace Jvm.OwnKit
open Sem ClassFile Op Lib Jvm.Stand Jvm.Free Jvm.LawKit Jvm.RoadKit
/-- from S the run comes to a state of which P holds -/
def Go (tb : Tables) (e : Env) (below : List Frame) (P : State → Prop) (S : State) : Prop := ∃ t, Steps tb e below S t ∧ P t
theorem Go.st {tb : Tables} {e : Env} {below : List Frame} {P : State → Prop} {S S' : State} (h : ∀ t, Steps tb e below S' t → Steps tb e below S t) (g : Go tb e below P S') : Go tb e below P S := by
  obtain ⟨t, h1, h2⟩ := g
  exact ⟨t, h t h1, h2⟩
theorem Go.cast {tb : Tables} {e : Env} {below : List Frame} {P : State → Prop} {T : State} {g g' : JFrame} (q : g = g') (k : Go tb e below P (T.setTop g')) : Go tb e below P (T.setTop g) := q ▸ k
/-- the invocation of s has returned, and Q says what -/
def Fine (s : State) (below : List Frame) (Q : Option Value → Heap → List Loc → Prop) (kc ks : Nat) (t : State) : Prop := ∃ o, t.status = .running ∧ Ended t below o ∧ ∃ v L, o = .returned v ∧ Q v t.heap L ∧ FrameEnd s o t L kc ks
/-- a method's contract, over the tables of the start Z: called with 'as' at the heap h0 it returns, and Q says what -/
def Con (l : Launch) (Z : State) (y : MethodName) (bytes : ByteArray) (maxL : Nat) (ret : Option FieldType) (ws : List Jvm.Cond) (rm : Room) (as : Array Value) (h0 : Heap) (Q : Option Value → Heap → List Loc → Prop) : Prop :=
  MetFree l y (head1 (Jvm.Cond.code y bytes maxL ret :: ws) rm) (fun a U => a = as ∧ Z.Warmed39 U.vm ∧ U.heap = h0) (fun _ _ _ _ _ => True) (fun _ U o U' => ∃ v L, o = .returned v ∧ Q v U'.heap L ∧ FrameEnd U o U' L rm.cells rm.slots)
theorem Con.of {l : Launch} {Z : State} {y : MethodName} {bytes : ByteArray} {maxL : Nat} {ret : Option FieldType} {ws : List Jvm.Cond} {rm : Room} {as : Array Value} {h0 : Heap} {Q : Option Value → Heap → List Loc → Prop} (hpl : plainFor y = true)
    (body : ∀ (p : Program) (e : Env) (s : State) (m : MethodId) (below : List Frame) (meth : Method) (c : Code) (s₁ : State), Z.Warmed39 s.vm → s₁.heap = h0 → Stand p l e rm s m as below meth c s₁ [] 0 0 → p.tables.exec = Jvm.exec → c.code = bytes → c.maxLocals = maxL → s.vm.findClass y.cls = some m.cls → meth.name = y.name → meth.sig.returnType = ret → meth.locks = false →
      Go p.tables e below (Fine s below Q rm.cells rm.slots) (s₁.setTop (entryFrame m as maxL))) : Con l Z y bytes maxL ret ws rm as h0 Q := by
  refine MetFree.of_bodySF hpl hisR ?_
  intro p e s m args below meth c s₁ Bd hml hP hK
  obtain ⟨rfl, hZ, hh⟩ := hP
  have e0 : s₁.heap = h0 := by rw [← hh, Bd.state]; rfl
  obtain ⟨t, h1, o, h2, h3, h4⟩ := body p e s m below meth c s₁ hZ e0 (Stand.of_body Bd) Bd.exec Bd.bytes hml (findClass_of_methodNamed Bd.named) (name_of_methodNamed Bd.named Bd.method).1 Bd.returns Bd.notSynchronized
  exact ⟨t, o, h1, h2, h3, h4⟩
def bi (P : Prop) [Decidable P] : Int32 := if P then 1 else 0
theorem bi_t {P : Prop} [Decidable P] (h : P) : bi P = 1 := if_pos h
theorem bi_f {P : Prop} [Decidable P] (h : ¬ P) : bi P = 0 := if_neg h
theorem eqL_v {args : Array Value} {first s : State} {o : Option Outcome} {idx : List Nat} {t : Term} {k : Int64} (h : (Cond.eq t (.long k)).value args first o s idx = some true) : t.eval args first o idx s = some (.long k) := by
  obtain ⟨x, y, ev, ey, -, hk⟩ := cmp_v (Or.inl h)
  obtain rfl : Value.long k = y := Option.some.inj ey
  obtain ⟨z, rfl⟩ := hk
  obtain rfl : z = k := gotT (eq_L ev ey) h
  exact ev
theorem eqI_v {args : Array Value} {first s : State} {o : Option Outcome} {idx : List Nat} {t : Term} {k : Int32} (h : (Cond.eq t (.int k)).value args first o s idx = some true) : t.eval args first o idx s = some (.int k) := by
  obtain ⟨x, y, ev, ey, -, hk⟩ := cmp_v (Or.inl h)
  obtain rfl : Value.int k = y := Option.some.inj ey
  obtain ⟨z, rfl⟩ := hk
  have q : (Cond.eq t (.int k)).value args first o s idx = some (decide (z = k)) := by simp [Cond.value, ev, ey]
  obtain rfl : z = k := gotT q h
  exact ev
section
variable {p : Program} {l : Launch} {e : Env} {R : Room} {s : State} {m : MethodId} {args : Array Value} {below : List Frame} {meth : Method} {c : Code} {T : State} {locs : List Loc} {cells slots : Nat} {Z : State} {a0 : Array Value} {h : Heap}
theorem fin {Q : Option Value → Heap → List Loc → Prop} {kc ks : Nat} {v : Option Value} {S : State} (X : Stand p l e R s m args below meth c T locs cells slots) (hv : meth.sig.returnType = none → v = none) (hlk : meth.locks = false) (hq : Q v T.heap locs) (hc : cells ≤ kc) (hs : slots ≤ ks)
    (st : ∀ fs, (∀ (f : JFrame) (acts : List Action), f.method = m → f.locked = none → f.entered = [] → (doReturn e (T.setTop f) acts v).1 = T.setFrames fs) → Steps p.tables e below S (T.setFrames fs)) : Go p.tables e below (Fine s below Q kc ks) S := by
  obtain ⟨fs, hr, hrun, hended, hW, hsame⟩ := X.leave (v := v) hv hlk
  exact ⟨_, st fs hr, _, hrun, hended, v, locs, rfl, hq, ⟨_, rfl⟩, hW, hsame.mono hc hs⟩
/-- return of an int, a long, a reference (no narrowing) -/
theorem endW {Q : Option Value → Heap → List Loc → Prop} {kc ks : Nat} (X : Stand p l e R s m args below meth c T locs cells slots) (hx : p.tables.exec = Jvm.exec) (hlk : meth.locks = false) {pc : Nat} {Ls : Array Slot} {w : Value} {t : FieldType} {i : Instr} {rest : List Value} (hret : meth.sig.returnType = some t) (hn : narrow t w = w)
    (hi : (i = .ireturn ∧ (t = .int ∨ t = .boolean ∨ t = .byte ∨ t = .char ∨ t = .short) ∧ ∃ z, w = .int z) ∨ (i = .lreturn ∧ t = .long ∧ ∃ z, w = .long z) ∨ (i = .dreturn ∧ t = .double ∧ ∃ z, w = .double z) ∨ (i = .freturn ∧ t = .float ∧ ∃ z, w = .float z) ∨ (i = .areturn ∧ t.isReference = true ∧ w.isRef = true))
    (hd : decode c.code pc = .ok (i, 1)) (hq : Q (some w) T.heap locs) (hc : cells ≤ kc) (hs : slots ≤ ks) : Go p.tables e below (Fine s below Q kc ks) (T.setTop (mkF m pc Ls (w :: rest))) :=
  fin X (fun h => by rw [hret] at h; cases h) hlk hq hc hs fun fs hr => retOut X hx hret hn hi hd hr
theorem endI {Q : Option Value → Heap → List Loc → Prop} {kc ks : Nat} (X : Stand p l e R s m args below meth c T locs cells slots) (hx : p.tables.exec = Jvm.exec) (hlk : meth.locks = false) {pc : Nat} {Ls : Array Slot} {z : Int32} {rest : List Value} (hret : meth.sig.returnType = some .int)
    (hd : decode c.code pc = .ok (.ireturn, 1)) (hq : Q (some (.int z)) T.heap locs) (hc : cells ≤ kc) (hs : slots ≤ ks) : Go p.tables e below (Fine s below Q kc ks) (T.setTop (mkF m pc Ls (.int z :: rest))) :=
  endW X hx hlk hret rfl (Or.inl ⟨rfl, Or.inl rfl, z, rfl⟩) hd hq hc hs
theorem endJ {Q : Option Value → Heap → List Loc → Prop} {kc ks : Nat} (X : Stand p l e R s m args below meth c T locs cells slots) (hx : p.tables.exec = Jvm.exec) (hlk : meth.locks = false) {pc : Nat} {Ls : Array Slot} {z : Int64} {rest : List Value} (hret : meth.sig.returnType = some .long)
    (hd : decode c.code pc = .ok (.lreturn, 1)) (hq : Q (some (.long z)) T.heap locs) (hc : cells ≤ kc) (hs : slots ≤ ks) : Go p.tables e below (Fine s below Q kc ks) (T.setTop (mkF m pc Ls (.long z :: rest))) :=
  endW X hx hlk hret rfl (Or.inr (Or.inl ⟨rfl, rfl, z, rfl⟩)) hd hq hc hs
theorem endD {Q : Option Value → Heap → List Loc → Prop} {kc ks : Nat} (X : Stand p l e R s m args below meth c T locs cells slots) (hx : p.tables.exec = Jvm.exec) (hlk : meth.locks = false) {pc : Nat} {Ls : Array Slot} {z : UInt64} {rest : List Value} (hret : meth.sig.returnType = some .double)
    (hd : decode c.code pc = .ok (.dreturn, 1)) (hq : Q (some (.double z)) T.heap locs) (hc : cells ≤ kc) (hs : slots ≤ ks) : Go p.tables e below (Fine s below Q kc ks) (T.setTop (mkF m pc Ls (.double z :: rest))) :=
  endW X hx hlk hret rfl (Or.inr (Or.inr (Or.inl ⟨rfl, rfl, z, rfl⟩))) hd hq hc hs
theorem endR {Q : Option Value → Heap → List Loc → Prop} {kc ks : Nat} (X : Stand p l e R s m args below meth c T locs cells slots) (hx : p.tables.exec = Jvm.exec) (hlk : meth.locks = false) {pc : Nat} {Ls : Array Slot} {w : Value} {t : FieldType} {rest : List Value} (hret : meth.sig.returnType = some t) (ht : t.isReference = true) (hw : w.isRef = true)
    (hd : decode c.code pc = .ok (.areturn, 1)) (hq : Q (some w) T.heap locs) (hc : cells ≤ kc) (hs : slots ≤ ks) : Go p.tables e below (Fine s below Q kc ks) (T.setTop (mkF m pc Ls (w :: rest))) :=
  endW X hx hlk hret (by cases w <;> first | rfl | (cases t <;> first | rfl | cases ht) | cases hw) (Or.inr (Or.inr (Or.inr (Or.inr ⟨rfl, ht, hw⟩)))) hd hq hc hs
/-- return of a boolean, byte, char or short: narrowed -/
theorem endN {Q : Option Value → Heap → List Loc → Prop} {kc ks : Nat} (X : Stand p l e R s m args below meth c T locs cells slots) (hx : p.tables.exec = Jvm.exec) (hlk : meth.locks = false) {pc : Nat} {Ls : Array Slot} {z w : Int32} {t : FieldType} {rest : List Value} (hret : meth.sig.returnType = some t) (ht : t = .boolean ∨ t = .byte ∨ t = .char ∨ t = .short)
    (hd : decode c.code pc = .ok (.ireturn, 1)) (hz : nar t z = w) (hq : Q (some (.int w)) T.heap locs) (hc : cells ≤ kc) (hs : slots ≤ ks) : Go p.tables e below (Fine s below Q kc ks) (T.setTop (mkF m pc Ls (.int z :: rest))) := by
  subst hz
  exact fin X (fun h => by rw [hret] at h; cases h) hlk hq hc hs fun fs hr => retN X hx hret ht hd hr
theorem endV {Q : Option Value → Heap → List Loc → Prop} {kc ks : Nat} (X : Stand p l e R s m args below meth c T locs cells slots) (hx : p.tables.exec = Jvm.exec) (hlk : meth.locks = false) {pc : Nat} {Ls : Array Slot} (hret : meth.sig.returnType = none)
    (hd : decode c.code pc = .ok (.return_, 1)) (hq : Q none T.heap locs) (hc : cells ≤ kc) (hs : slots ≤ ks) : Go p.tables e below (Fine s below Q kc ks) (T.setTop (mkF m pc Ls [])) :=
  fin X (fun _ => rfl) hlk hq hc hs fun fs hr => X.returnOut hx hret hd hr
theorem lremM {g : JFrame} {target : State} (X : Stand p l e R s m args below meth c T locs cells slots) (hx : p.tables.exec = Jvm.exec) (hg : g.method = m) {x y : Int64} {rest : List Value} (hd : decode c.code g.pc = .ok (.lrem, 1)) (hs : g.stack = .long y :: .long x :: rest) (hy : y ≠ 0)
    (hr : Steps p.tables e below (T.setTop { g with pc := g.pc + 1, stack := .long (x % y) :: rest }) target) : Steps p.tables e below (T.setTop g) target := by
  have q : x - x / y * y = x % y := lrem_mod x y
  exact XS.lrem X.here hx hg hd hs hy (by rw [q]; exact hr)
/-- a static call by its contract -/
theorem callSt (X : Stand p l e R s m args below meth c T locs cells slots) (hx : p.tables.exec = Jvm.exec) (hZ : Z.Warmed39 s.vm) {own : String} {index : Nat} {y : MethodName} {bytes : ByteArray} {maxL : Nat} {ret : Option FieldType} {rm : Room} {Q : Option Value → Heap → List Loc → Prop} {argsL rest : List Value}
    (hown : s.vm.findClass own = some m.cls) (w1 : (Cond.methodLink own index y).before a0 Z = true) (w2 : (Cond.static y).before a0 Z = true) (w3 : (Cond.initialized y.cls).before a0 Z = true) (w4 : (Cond.code y bytes maxL ret).before a0 Z = true) (hy : y.cls ≠ "java/lang/invoke/MethodHandle" ∧ y.cls ≠ "java/lang/invoke/VarHandle")
    (hM : Con l Z y bytes maxL ret [] rm argsL.toArray h Q) (eT : T.heap = h) (W : Nat) (hf : rm.frames + 1 ≤ R.frames) (hl : W + (maxL + 11) + rm.locals ≤ R.locals) (hcc : cells + rm.cells ≤ R.cells) (hss : slots + rm.slots ≤ R.slots)
    {g : JFrame} (hg : g.method = m) (hsize : g.locals.size = c.maxLocals) (hlen : ∀ sig, parseMethodDescriptor y.desc = some sig → argsL.length = sig.parameters.length)
    (hstack : g.stack = argsL.reverse ++ rest) (hW : 2 * g.monitorRoom + (rest.map fun v => v.category).sum ≤ W) (hd : decode c.code g.pc = .ok (.invokestatic index, 3)) :
    ∃ v T' L, Stand p l e R s m args below meth c T' (locs ++ L) (cells + rm.cells) (slots + rm.slots) ∧ Q v T'.heap L ∧ ∀ target, Steps p.tables e below (T'.setTop { g with pc := g.pc + 3, stack := v.toList ++ rest }) target → Steps p.tables e below (T.setTop g) target := by
  obtain ⟨v, vm1, ⟨T', L', k', n'⟩, -, X', ⟨L, hQ, l1, l2, l3⟩, st⟩ := Jvm.LawKit.callS X hx hown (mvT hZ w1) (mvT hZ w2) (mvT hZ w3) (mvT hZ w4) hy (backOf (Q := Q) (W := W) hM hZ w4 w3 hf hl) hg hsize hlen hstack hW hd (fun _ _ => ⟨rfl, eT, hcc, hss⟩)
  (try dsimp only at X' l1 l2 l3 st hQ)
  subst l1 l2 l3
  exact ⟨v, T', L, X', hQ, st⟩
/-- a constructor by its contract -/
theorem callIn (X : Stand p l e R s m args below meth c T locs cells slots) (hx : p.tables.exec = Jvm.exec) (hZ : Z.Warmed39 s.vm) {own : String} {index : Nat} {y : MethodName} {bytes : ByteArray} {maxL : Nat} {rm : Room} {Q : Option Value → Heap → List Loc → Prop} {a : Addr} {argsL rest : List Value} (hy1 : y.name = "<init>")
    (hown : s.vm.findClass own = some m.cls) (w1 : (Cond.methodLink own index y).before a0 Z = true) (w2 : (Cond.instanceMethod y).before a0 Z = true) (w3 : (Cond.initialized y.cls).before a0 Z = true) (w4 : (Cond.code y bytes maxL none).before a0 Z = true) (hy : y.cls ≠ "java/lang/invoke/MethodHandle" ∧ y.cls ≠ "java/lang/invoke/VarHandle")
    (hM : Con l Z y bytes maxL none [] rm (.ref a :: argsL).toArray h Q) (eT : T.heap = h) (W : Nat) (hf : rm.frames + 1 ≤ R.frames) (hl : W + (maxL + 11) + rm.locals ≤ R.locals) (hcc : cells + rm.cells ≤ R.cells) (hss : slots + rm.slots ≤ R.slots)
    {g : JFrame} (hg : g.method = m) (hsize : g.locals.size = c.maxLocals) (hlen : ∀ sig, parseMethodDescriptor y.desc = some sig → argsL.length = sig.parameters.length)
    (hstack : g.stack = argsL.reverse ++ .ref a :: rest) (hW : 2 * g.monitorRoom + (rest.map fun v => v.category).sum ≤ W) (hd : decode c.code g.pc = .ok (.invokespecial index, 3)) :
    ∃ v T' L, Stand p l e R s m args below meth c T' (locs ++ L) (cells + rm.cells) (slots + rm.slots) ∧ Q v T'.heap L ∧ ∀ target, Steps p.tables e below (T'.setTop { g with pc := g.pc + 3, stack := v.toList ++ rest }) target → Steps p.tables e below (T.setTop g) target := by
  obtain ⟨v, vm1, ⟨T', L', k', n'⟩, -, X', ⟨L, hQ, l1, l2, l3⟩, st⟩ := X.specialBack hx hy1 hown (mvT hZ w1) (mvT hZ w2) (mvT hZ w4) hy (backOf (Q := Q) (W := W) hM hZ w4 w3 hf hl) hg hsize (Steps.refl _) hlen hstack hW hd (fun _ _ => ⟨rfl, eT, hcc, hss⟩)
  (try dsimp only at X' l1 l2 l3 st hQ)
  subst l1 l2 l3
  exact ⟨v, T', L, X', hQ, fun target k => st.trans k⟩
/-- an instance method by the contract of the body that the receiver's class selects -/
theorem callVi (X : Stand p l e R s m args below meth c T locs cells slots) (hx : p.tables.exec = Jvm.exec) (hZ : Z.Warmed39 s.vm) {own C : String} {index : Nat} {y z : MethodName} {bytes : ByteArray} {maxL : Nat} {ret : Option FieldType} {rm : Room} {Q : Option Value → Heap → List Loc → Prop} {a : Addr} {argsL rest : List Value}
    (hown : s.vm.findClass own = some m.cls) (w1 : (Cond.methodLink own index y).before a0 Z = true) (w2 : (Cond.declares y).before a0 Z = true) (nf : NotFace s y) (w3 : (Cond.selects C y z).before a0 Z = true) (w4 : (Cond.instanceMethod z).before a0 Z = true) (w5 : (Cond.initialized z.cls).before a0 Z = true) (w6 : (Cond.code z bytes maxL ret).before a0 Z = true) (hy : y.cls ≠ "java/lang/invoke/MethodHandle" ∧ y.cls ≠ "java/lang/invoke/VarHandle")
    (hyz : z.desc = y.desc) (E : Exa Z h a C) (hM : Con l Z z bytes maxL ret [] rm (.ref a :: argsL).toArray h Q) (eT : T.heap = h) (W : Nat) (hf : rm.frames + 1 ≤ R.frames) (hl : W + (maxL + 11) + rm.locals ≤ R.locals) (hcc : cells + rm.cells ≤ R.cells) (hss : slots + rm.slots ≤ R.slots)
    {g : JFrame} (hg : g.method = m) (hsize : g.locals.size = c.maxLocals) (hlen : ∀ sig, parseMethodDescriptor y.desc = some sig → argsL.length = sig.parameters.length)
    (hstack : g.stack = argsL.reverse ++ .ref a :: rest) (hW : 2 * g.monitorRoom + (rest.map fun v => v.category).sum ≤ W) (hd : decode c.code g.pc = .ok (.invokevirtual index, 3)) :
    ∃ v T' L, Stand p l e R s m args below meth c T' (locs ++ L) (cells + rm.cells) (slots + rm.slots) ∧ Q v T'.heap L ∧ ∀ target, Steps p.tables e below (T'.setTop { g with pc := g.pc + 3, stack := v.toList ++ rest }) target → Steps p.tables e below (T.setTop g) target := by
  obtain ⟨cq, kq, qa, qb, qc⟩ := isOf hZ eT E
  obtain ⟨v, vm1, ⟨T', L', k', n'⟩, -, X', ⟨L, hQ, l1, l2, l3⟩, st⟩ := X.virtualBack hx (y := y) (z := z) hown (mvT hZ w1) (mvT hZ w2) nf (mvT hZ w3) (mvT hZ w4) hy (backOf (Q := Q) (W := W) hM hZ w6 w5 hf hl) qa qc hg hsize (Steps.refl _) hlen hstack hW hd (fun _ _ => ⟨rfl, eT, hcc, hss⟩)
  (try dsimp only at X' l1 l2 l3 st hQ)
  subst l1 l2 l3
  exact ⟨v, T', L, X', hQ, fun target k => st.trans k⟩
/-- an array whose k-th element is f k -/
def Afn (Z : State) (h : Heap) (a : Addr) (ty : FieldType) (n : Int32) (f : Nat → Value) : Prop := ∃ c : Cell, Arr Z h a c ty ∧ c.slots.size = n.toNatClampNeg ∧ ¬ n < 0 ∧ ∀ k, k < n.toNatClampNeg → c.slots[k]? = some (f k) ∧ fits ty (f k) = true
theorem Afn.lt {h : Heap} {a : Addr} {ty : FieldType} {n : Int32} {f : Nat → Value} (F : Afn Z h a ty n f) : a < h.size := by obtain ⟨c, A, -⟩ := F; exact A.lt
theorem Afn.nn {h : Heap} {a : Addr} {ty : FieldType} {n : Int32} {f : Nat → Value} (F : Afn Z h a ty n f) : ¬ n < 0 := by obtain ⟨c, -, -, q, -⟩ := F; exact q
theorem Afn.ext {h h' : Heap} {a : Addr} {ty : FieldType} {n : Int32} {f : Nat → Value} (F : Afn Z h a ty n f) (E : Ext h h') : Afn Z h' a ty n f := by obtain ⟨c, A, r⟩ := F; exact ⟨c, A.ext E, r⟩
theorem Afn.other {h h' : Heap} {a b : Addr} {ty : FieldType} {n : Int32} {f : Nat → Value} {sl : Nat} {v : Value} (F : Afn Z h b ty n f) (W : Wr h h' a sl v) (q : b ≠ a) : Afn Z h' b ty n f := by obtain ⟨c, A, r⟩ := F; exact ⟨c, A.other W q, r⟩
theorem Afn.keep {h h' : Heap} {a : Addr} {ty : FieldType} {n : Int32} {f : Nat → Value} {ws : List Addr} (F : Afn Z h a ty n f) (K : Keep h h' ws) (q : a ∉ ws) : Afn Z h' a ty n f := by obtain ⟨c, A, r⟩ := F; exact ⟨c, ⟨K.2.1 a c A.1 q, A.2⟩, r⟩
theorem Afn.congr {h : Heap} {a : Addr} {ty : FieldType} {n : Int32} {f g : Nat → Value} (F : Afn Z h a ty n f) (q : ∀ k, k < n.toNatClampNeg → f k = g k) : Afn Z h a ty n g := by
  obtain ⟨c, A, s, m, r⟩ := F
  exact ⟨c, A, s, m, fun k hk => by rw [← q k hk]; exact r k hk⟩
theorem Afn.new {h : Heap} {a : Addr} {ty : FieldType} {n : Int32} {k : ClassId} (A : Arr Z h a (newA k ty n) ty) (q : ¬ n < 0) : Afn Z h a ty n (fun _ => defaultValue ty) := by
  obtain ⟨c, B, -, s, m, H, G⟩ := Arv.new A q
  exact ⟨c, B, s, m, fun j hj => ⟨by simpa using H j (by rw [s]; exact hj), by simpa using G j (by rw [s]; exact hj)⟩⟩
theorem Afn.set {h h' : Heap} {a : Addr} {ty : FieldType} {n : Int32} {f : Nat → Value} {c : Cell} {j : Int32} {v : Value} (A : Arr Z h a c ty) (s : c.slots.size = n.toNatClampNeg) (m : ¬ n < 0) (r : ∀ k, k < n.toNatClampNeg → c.slots[k]? = some (f k) ∧ fits ty (f k) = true) (hv : fits ty v = true) (W : Wr h h' a j.toNatClampNeg v) :
    Afn Z h' a ty n (fun k => if k = j.toNatClampNeg then v else f k) := by
  refine ⟨c.setSlot j.toNatClampNeg v, A.same W, by rw [sz_set]; exact s, m, fun k hk => ?_⟩
  dsimp only
  by_cases q : k = j.toNatClampNeg
  · rw [if_pos q]
    refine ⟨?_, hv⟩
    subst q
    simp [Cell.setSlot, s, hk]
  · rw [if_neg q]
    refine ⟨?_, (r k hk).2⟩
    show (c.slots.setIfInBounds _ _)[k]? = _
    rw [Array.getElem?_setIfInBounds_ne (Ne.symm q)]
    exact (r k hk).1
theorem inbN {n j : Int32} (q : ¬ j < 0 ∧ j < n) : j.toNatClampNeg < n.toNatClampNeg := by
  obtain ⟨h1, h2⟩ := q
  rw [Int32.lt_iff_toInt_lt] at h1 h2
  have e : (0 : Int32).toInt = 0 := rfl
  simp only [Int32.toNatClampNeg]
  omega
theorem Afn.of_arv {h : Heap} {a : Addr} {k : ClassId} {ty : FieldType} {n : Int32} {vs : List Value} {d : Value} (F : Arv Z h a k ty n vs d) : Afn Z h a ty n (fun i => vs.getD i d) := by
  obtain ⟨c, A, -, s, m, H, G⟩ := F
  exact ⟨c, A, s, m, fun i hi => ⟨H i (by rw [s]; exact hi), G i (by rw [s]; exact hi)⟩⟩
theorem ns_root {O K : String} {n : Nat} (w : (Cond.noSuperclass O).before a0 Z = true) (wk : (Cond.instantiable K n).before a0 Z = true) (hn : O ≠ K) : NS Z O K := by
  obtain ⟨c, k, h1, h2, h3, -, -⟩ := Cond.noSuperclass_spec w
  obtain ⟨t, kt, g1, -⟩ := Cond.instantiable_spec wk
  have ne := ids_ne h1 g1 hn
  refine ⟨c, t, h1, g1, fun fuel => ?_⟩
  cases fuel with
  | zero => rfl
  | succ f => simp [Vm.isSubclassAux, ne, h2, h3]
theorem ns_no {C S K : String} {n : Nat} (w : (Cond.superclass C S).before a0 Z = true) (wk : (Cond.instantiable K n).before a0 Z = true) (q : NS Z C K) (hn : C ≠ K) : ∃ c t, Z.vm.findClass C = some c ∧ Z.vm.findClass K = some t ∧ Z.vm.assignable c t = false := by
  obtain ⟨c, t, h0, g0, n3⟩ := q
  obtain ⟨p, k, kp, h1, h2, h3, h4, h5, -, h7⟩ := Cond.superclass_spec h0 w
  obtain ⟨t', kt, g1, g2, g3, g4, -⟩ := Cond.instantiable_spec wk
  cases g0.symm.trans g1
  have g5 : kt.isInterface = false := (Bool.or_eq_false_iff.mp g4).1
  have ne := ids_ne h0 g0 hn
  refine ⟨c, t, h0, g0, ?_⟩
  show Z.vm.assignableAux (255 + 1) c t = false
  simp [Vm.assignableAux, ne, h2, g2, h5, g3, g5, Vm.isSubclass, n3]
end
end Jvm.OwnKit
namespace Jvm.Pilot.@@N@@
open Jvm Jvm.ClassFile Sem Op Lib Jvm.Free Jvm.Stand Jvm.LawKit Jvm.RoadKit Jvm.OwnKit Bundle Jvm.Pilot.@@N@@.Jvm.D
def endV' (k v : Int32) : UInt64 := if k = (0 : Int32) then (18442240474082181120 : UInt64) else if k = (1 : Int32) then (9218868437227405312 : UInt64) else if k = (2 : Int32) then FP.i2d v else if v < (0 : Int32) then (18442240474082181119 : UInt64) else (9218868437227405311 : UInt64)
theorem end_fin (k v : Int32) (h0 : ¬ k = (0 : Int32)) (h1 : ¬ k = (1 : Int32)) : Jvm.Free.Fl.Fin64 (endV' k v) := by
  unfold endV'
  rw [if_neg h0, if_neg h1]
  split
  · exact Jvm.Free.Fl.i2d_fin v
  · split <;> (unfold Jvm.Free.Fl.Fin64; decide)
theorem end_0 (v : Int32) : endV' 0 v = (18442240474082181120 : UInt64) := rfl
theorem end_1 (v : Int32) : endV' 1 v = (9218868437227405312 : UInt64) := rfl
theorem own_b (lk hk lv hv : Int32) : (lk = (0 : Int32) → hk = (1 : Int32) → ¬ (0 : Int32) < cmpValue (FP.dcmp (endV' lk lv) (18442240474082181120 : UInt64)) .l ∧ ¬ cmpValue (FP.dcmp (endV' hk hv) (9218868437227405312 : UInt64)) .g < (0 : Int32)) ∧ (¬ (lk = (0 : Int32) ∧ hk = (1 : Int32)) → (0 : Int32) < cmpValue (FP.dcmp (endV' lk lv) (18442240474082181120 : UInt64)) .l ∨ cmpValue (FP.dcmp (endV' hk hv) (9218868437227405312 : UInt64)) .g < (0 : Int32)) := by
  have z1 : cmpValue (FP.dcmp (18442240474082181120 : UInt64) (18442240474082181120 : UInt64)) .l = 0 := by decide +kernel
  have z2 : cmpValue (FP.dcmp (9218868437227405312 : UInt64) (9218868437227405312 : UInt64)) .g = 0 := by decide +kernel
  have z3 : cmpValue (FP.dcmp (9218868437227405312 : UInt64) (18442240474082181120 : UInt64)) .l = 1 := by decide +kernel
  have z4 : cmpValue (FP.dcmp (18442240474082181120 : UInt64) (9218868437227405312 : UInt64)) .g = -1 := by decide +kernel
  refine ⟨fun a b => ?_, fun q => ?_⟩
  · subst a b
    rw [end_0, end_1, z1, z2]
    decide
  · by_cases a : lk = (0 : Int32)
    · right
      by_cases b : hk = (0 : Int32)
      · subst b
        rw [end_0, z4]
        decide
      · rw [dcmp_pinf (end_fin hk hv b fun c => q ⟨a, c⟩)]
        decide
    · left
      by_cases b : lk = (1 : Int32)
      · subst b
        rw [end_1, z3]
        decide
      · rw [dcmp_ninf (end_fin lk lv a b)]
        decide
theorem d1_0 : decode method_3_code 0 = .ok (.iload_n 0, 1) := by decide +kernel
theorem d1_1 : decode method_3_code 1 = .ok (.ifCond .ne 7, 3) := by decide +kernel
theorem d1_4 : decode method_3_code 4 = .ok (.ldc2_w 24, 3) := by decide +kernel
theorem d1_7 : decode method_3_code 7 = .ok (.dreturn, 1) := by decide +kernel
theorem d1_8 : decode method_3_code 8 = .ok (.iload_n 0, 1) := by decide +kernel
theorem d1_9 : decode method_3_code 9 = .ok (.iconst 1, 1) := by decide +kernel
theorem d1_10 : decode method_3_code 10 = .ok (.if_icmp .ne 7, 3) := by decide +kernel
theorem d1_13 : decode method_3_code 13 = .ok (.ldc2_w 26, 3) := by decide +kernel
theorem d1_16 : decode method_3_code 16 = .ok (.dreturn, 1) := by decide +kernel
theorem d1_17 : decode method_3_code 17 = .ok (.iload_n 0, 1) := by decide +kernel
theorem d1_18 : decode method_3_code 18 = .ok (.iconst 2, 1) := by decide +kernel
theorem d1_19 : decode method_3_code 19 = .ok (.if_icmp .ne 6, 3) := by decide +kernel
theorem d1_22 : decode method_3_code 22 = .ok (.iload_n 1, 1) := by decide +kernel
theorem d1_23 : decode method_3_code 23 = .ok (.i2d, 1) := by decide +kernel
theorem d1_24 : decode method_3_code 24 = .ok (.dreturn, 1) := by decide +kernel
theorem d1_25 : decode method_3_code 25 = .ok (.iload_n 1, 1) := by decide +kernel
theorem d1_26 : decode method_3_code 26 = .ok (.ifCond .ge 9, 3) := by decide +kernel
theorem d1_29 : decode method_3_code 29 = .ok (.ldc2_w 28, 3) := by decide +kernel
theorem d1_32 : decode method_3_code 32 = .ok (.goto 6, 3) := by decide +kernel
theorem d1_35 : decode method_3_code 35 = .ok (.ldc2_w 30, 3) := by decide +kernel
theorem d1_38 : decode method_3_code 38 = .ok (.dreturn, 1) := by decide +kernel
theorem pn_rm1 : plainName "com/example/warpfinder/warpfinder/search/MeanRangeBoundsPinLaw" = true := by first | (simp [plainName, overriddenIn]; done) | decide +kernel
theorem ef_rm1 (m : MethodId) (p1 : Int32) (p2 : Int32) : entryFrame m #[(.int p1), (.int p2)] 2 = mkF m 0 #[.val (.int p1), .val (.int p2)] [] := by first | (simp [entryFrame, mkF, argsToLocals, Value.category]; done) | rfl
def Q1 (Z : State) (p1 : Int32) (p2 : Int32) (h0 : Heap) (n0 : Nat) (v : Option Value) (h : Heap) (L : List Loc) : Prop := v = some (.double (endV' p1 p2)) ∧ L = [] ∧ h = h0
set_option maxRecDepth 65536 in
set_option maxHeartbeats 40000000 in
theorem rm1 (l : Launch) (Z : State) (a0 : Array Value) (hw : ∀ d ∈ tables_1, d.before a0 Z = true) (ws : List Jvm.Cond) (p1 : Int32) (p2 : Int32) (h0 : Heap) (n0 : Nat) (Z0 : n0 ≤ h0.size) :
    Con l Z (⟨"com/example/warpfinder/warpfinder/search/MeanRangeBoundsPinLaw", "end", "(II)D"⟩ : MethodName) method_3_code 2 (some .double) ws ({ frames := 0, cells := 0, slots := 0, locals := 0 } : Room) #[(.int p1), (.int p2)] h0 (Q1 Z p1 p2 h0 n0) := by
  refine Con.of (plainFor_of_name pn_rm1) ?_
  intro p e s m below meth c s₁ hZ e0 X0 hx hby hml hown hnm hret hlk
  replace hml : c.maxLocals = 2 := hml
  have hown : s.vm.findClass "com/example/warpfinder/warpfinder/search/MeanRangeBoundsPinLaw" = some m.cls := hown
  have N0 : Fr n0 [] := Fr.nil n0
  obtain ⟨PP, hPP⟩ : ∃ P, P = Fine s below (Q1 Z p1 p2 h0 n0) ({ frames := 0, cells := 0, slots := 0, locals := 0 } : Room).cells ({ frames := 0, cells := 0, slots := 0, locals := 0 } : Room).slots := ⟨_, rfl⟩
  rw [← hPP]
  refine Go.cast (ef_rm1 m p1 p2) ?_
  have Zn : n0 ≤ h0.size := Z0
  show Go p.tables e below PP (s₁.setTop (mkF m 0 #[.val (.int p1), .val (.int p2)] []))
  refine Go.st (fun t k => XS.iloadN X0.here hx rfl (hb hby d1_0) rfl k) ?_
  show Go p.tables e below PP (s₁.setTop (mkF m 1 #[.val (.int p1), .val (.int p2)] [(.int p1)]))
  by_cases hc1 : p1 = (0 : Int32)
  · --
    refine Go.st (fun t k => XS.ifNo X0.here hx rfl (hb hby d1_1) rfl (XT.i0_ne_f hc1) k) ?_
    show Go p.tables e below PP (s₁.setTop (mkF m 4 #[.val (.int p1), .val (.int p2)] []))
    refine Go.st (fun t k => X0.ldc2DoubleC hx hown (mvT hZ (hw _ (List.mem_of_getElem? (i := 4) rfl))) (g := (mkF m 4 #[.val (.int p1), .val (.int p2)] [])) rfl (hb hby d1_4) t k) ?_
    show Go p.tables e below PP (s₁.setTop (mkF m 7 #[.val (.int p1), .val (.int p2)] [(.double (18442240474082181120 : UInt64))]))
    rw [hPP]
    refine endD X0 hx hlk hret (hb hby d1_7) ?_ (by decide) (by decide)
    show Q1 Z p1 p2 h0 n0 (some (.double (18442240474082181120 : UInt64))) s₁.heap _
    rw [e0]
    exact ⟨by simp [endV', hc1], rfl, rfl⟩
  · --
    refine Go.st (fun t k => XS.ifYes X0.here hx rfl (pc0 := 1) (pc' := 8) rfl (hb hby d1_1) rfl (XT.i0_ne_t hc1) (by decide) (by decide) k) ?_
    show Go p.tables e below PP (s₁.setTop (mkF m 8 #[.val (.int p1), .val (.int p2)] []))
    refine Go.st (fun t k => XS.iloadN X0.here hx rfl (hb hby d1_8) rfl k) ?_
    show Go p.tables e below PP (s₁.setTop (mkF m 9 #[.val (.int p1), .val (.int p2)] [(.int p1)]))
    refine Go.st (fun t k => XS.iconst X0.here hx rfl (hb hby d1_9) k) ?_
    show Go p.tables e below PP (s₁.setTop (mkF m 10 #[.val (.int p1), .val (.int p2)] [(.int (1 : Int32)), (.int p1)]))
    by_cases hc10 : p1 = (1 : Int32)
    · --
      refine Go.st (fun t k => XS.icmpNo X0.here hx rfl (hb hby d1_10) rfl (XT.ii_ne_f hc10) k) ?_
      show Go p.tables e below PP (s₁.setTop (mkF m 13 #[.val (.int p1), .val (.int p2)] []))
      refine Go.st (fun t k => X0.ldc2DoubleC hx hown (mvT hZ (hw _ (List.mem_of_getElem? (i := 32) rfl))) (g := (mkF m 13 #[.val (.int p1), .val (.int p2)] [])) rfl (hb hby d1_13) t k) ?_
      show Go p.tables e below PP (s₁.setTop (mkF m 16 #[.val (.int p1), .val (.int p2)] [(.double (9218868437227405312 : UInt64))]))
      rw [hPP]
      refine endD X0 hx hlk hret (hb hby d1_16) ?_ (by decide) (by decide)
      show Q1 Z p1 p2 h0 n0 (some (.double (9218868437227405312 : UInt64))) s₁.heap _
      rw [e0]
      exact ⟨by simp [endV', hc1, hc10], rfl, rfl⟩
    · --
      refine Go.st (fun t k => XS.icmpYes X0.here hx rfl (pc0 := 10) (pc' := 17) rfl (hb hby d1_10) rfl (XT.ii_ne_t hc10) (by decide) (by decide) k) ?_
      show Go p.tables e below PP (s₁.setTop (mkF m 17 #[.val (.int p1), .val (.int p2)] []))
      refine Go.st (fun t k => XS.iloadN X0.here hx rfl (hb hby d1_17) rfl k) ?_
      show Go p.tables e below PP (s₁.setTop (mkF m 18 #[.val (.int p1), .val (.int p2)] [(.int p1)]))
      refine Go.st (fun t k => XS.iconst X0.here hx rfl (hb hby d1_18) k) ?_
      show Go p.tables e below PP (s₁.setTop (mkF m 19 #[.val (.int p1), .val (.int p2)] [(.int (2 : Int32)), (.int p1)]))
      by_cases hc19 : p1 = (2 : Int32)
      · --
        refine Go.st (fun t k => XS.icmpNo X0.here hx rfl (hb hby d1_19) rfl (XT.ii_ne_f hc19) k) ?_
        show Go p.tables e below PP (s₁.setTop (mkF m 22 #[.val (.int p1), .val (.int p2)] []))
        refine Go.st (fun t k => XS.iloadN X0.here hx rfl (hb hby d1_22) rfl k) ?_
        show Go p.tables e below PP (s₁.setTop (mkF m 23 #[.val (.int p1), .val (.int p2)] [(.int p2)]))
        refine Go.st (fun t k => XS.i2dS X0.here hx rfl (hb hby d1_23) rfl rfl k) ?_
        show Go p.tables e below PP (s₁.setTop (mkF m 24 #[.val (.int p1), .val (.int p2)] [(.double (FP.i2d p2))]))
        rw [hPP]
        refine endD X0 hx hlk hret (hb hby d1_24) ?_ (by decide) (by decide)
        show Q1 Z p1 p2 h0 n0 (some (.double (FP.i2d p2))) s₁.heap _
        rw [e0]
        exact ⟨by simp [endV', hc1, hc10, hc19], rfl, rfl⟩
      · --
        refine Go.st (fun t k => XS.icmpYes X0.here hx rfl (pc0 := 19) (pc' := 25) rfl (hb hby d1_19) rfl (XT.ii_ne_t hc19) (by decide) (by decide) k) ?_
        show Go p.tables e below PP (s₁.setTop (mkF m 25 #[.val (.int p1), .val (.int p2)] []))
        refine Go.st (fun t k => XS.iloadN X0.here hx rfl (hb hby d1_25) rfl k) ?_
        show Go p.tables e below PP (s₁.setTop (mkF m 26 #[.val (.int p1), .val (.int p2)] [(.int p2)]))
        by_cases hc26 : p2 < (0 : Int32)
        · --
          refine Go.st (fun t k => XS.ifNo X0.here hx rfl (hb hby d1_26) rfl (XT.i0_ge_f hc26) k) ?_
          show Go p.tables e below PP (s₁.setTop (mkF m 29 #[.val (.int p1), .val (.int p2)] []))
          refine Go.st (fun t k => X0.ldc2DoubleC hx hown (mvT hZ (hw _ (List.mem_of_getElem? (i := 31) rfl))) (g := (mkF m 29 #[.val (.int p1), .val (.int p2)] [])) rfl (hb hby d1_29) t k) ?_
          show Go p.tables e below PP (s₁.setTop (mkF m 32 #[.val (.int p1), .val (.int p2)] [(.double (18442240474082181119 : UInt64))]))
          refine Go.st (fun t k => XS.goto X0.here hx rfl (pc0 := 32) (pc' := 38) rfl (hb hby d1_32) (by decide) (by decide) k) ?_
          show Go p.tables e below PP (s₁.setTop (mkF m 38 #[.val (.int p1), .val (.int p2)] [(.double (18442240474082181119 : UInt64))]))
          rw [hPP]
          refine endD X0 hx hlk hret (hb hby d1_38) ?_ (by decide) (by decide)
          show Q1 Z p1 p2 h0 n0 (some (.double (18442240474082181119 : UInt64))) s₁.heap _
          rw [e0]
          exact ⟨by simp [endV', hc1, hc10, hc19, hc26], rfl, rfl⟩
        · --
          refine Go.st (fun t k => XS.ifYes X0.here hx rfl (pc0 := 26) (pc' := 35) rfl (hb hby d1_26) rfl (XT.i0_ge_t hc26) (by decide) (by decide) k) ?_
          show Go p.tables e below PP (s₁.setTop (mkF m 35 #[.val (.int p1), .val (.int p2)] []))
          refine Go.st (fun t k => X0.ldc2DoubleC hx hown (mvT hZ (hw _ (List.mem_of_getElem? (i := 30) rfl))) (g := (mkF m 35 #[.val (.int p1), .val (.int p2)] [])) rfl (hb hby d1_35) t k) ?_
          show Go p.tables e below PP (s₁.setTop (mkF m 38 #[.val (.int p1), .val (.int p2)] [(.double (9218868437227405311 : UInt64))]))
          rw [hPP]
          refine endD X0 hx hlk hret (hb hby d1_38) ?_ (by decide) (by decide)
          show Q1 Z p1 p2 h0 n0 (some (.double (9218868437227405311 : UInt64))) s₁.heap _
          rw [e0]
          exact ⟨by simp [endV', hc1, hc10, hc19, hc26], rfl, rfl⟩
theorem d3_0 : decode jdk_30_method_1_code 0 = .ok (.aload_n 0, 1) := by decide +kernel
theorem d3_1 : decode jdk_30_method_1_code 1 = .ok (.invokespecial 1, 3) := by decide +kernel
theorem d3_4 : decode jdk_30_method_1_code 4 = .ok (.return_, 1) := by decide +kernel
theorem pn_rm3 : plainName "java/lang/Record" = true := by first | (simp [plainName, overriddenIn]; done) | decide +kernel
theorem ef_rm3 (m : MethodId) (a1 : Addr) : entryFrame m #[(.ref a1)] 1 = mkF m 0 #[.val (.ref a1)] [] := by first | (simp [entryFrame, mkF, argsToLocals, Value.category]; done) | rfl
def Q3 (Z : State) (a1 : Addr) (h0 : Heap) (n0 : Nat) (v : Option Value) (h : Heap) (L : List Loc) : Prop := v = none ∧ L = [] ∧ h = h0
set_option maxRecDepth 65536 in
set_option maxHeartbeats 40000000 in
theorem rm3 (l : Launch) (Z : State) (a0 : Array Value) (hw : ∀ d ∈ tables_1, d.before a0 Z = true) (ws : List Jvm.Cond) (a1 : Addr) (h0 : Heap) (n0 : Nat) (Z0 : n0 ≤ h0.size) :
    Con l Z (⟨"java/lang/Record", "<init>", "()V"⟩ : MethodName) jdk_30_method_1_code 1 none ws ({ frames := 1, cells := 0, slots := 0, locals := 12 } : Room) #[(.ref a1)] h0 (Q3 Z a1 h0 n0) := by
  refine Con.of (plainFor_of_name pn_rm3) ?_
  intro p e s m below meth c s₁ hZ e0 X0 hx hby hml hown hnm hret hlk
  replace hml : c.maxLocals = 1 := hml
  have hown : s.vm.findClass "java/lang/Record" = some m.cls := hown
  have N0 : Fr n0 [] := Fr.nil n0
  obtain ⟨PP, hPP⟩ : ∃ P, P = Fine s below (Q3 Z a1 h0 n0) ({ frames := 1, cells := 0, slots := 0, locals := 12 } : Room).cells ({ frames := 1, cells := 0, slots := 0, locals := 12 } : Room).slots := ⟨_, rfl⟩
  rw [← hPP]
  refine Go.cast (ef_rm3 m a1) ?_
  have Zn : n0 ≤ h0.size := Z0
  show Go p.tables e below PP (s₁.setTop (mkF m 0 #[.val (.ref a1)] []))
  refine Go.st (fun t k => XS.aloadN X0.here hx rfl (hb hby d3_0) rfl rfl k) ?_
  show Go p.tables e below PP (s₁.setTop (mkF m 1 #[.val (.ref a1)] [(.ref a1)]))
  obtain ⟨T1, X1, e1, st1⟩ := initO X0 hx hZ hown (hw _ (List.mem_of_getElem? (i := 16) rfl)) (hw _ (List.mem_of_getElem? (i := 17) rfl)) (hw _ (List.mem_of_getElem? (i := 18) rfl)) e0 (g := (mkF m 1 #[.val (.ref a1)] [(.ref a1)])) rfl (by rw [hml]; rfl) rfl (hb hby d3_1) (by decide) (W := 0) (by show 2 * 0 + _ ≤ _; exact Nat.le_of_eq rfl) (by decide)
  refine Go.st st1 ?_
  show Go p.tables e below PP (T1.setTop (mkF m 4 #[.val (.ref a1)] []))
  rw [hPP]
  refine endV X1 hx hlk hret (hb hby d3_4) ?_ (by decide) (by decide)
  show Q3 Z a1 h0 n0 none T1.heap _
  rw [e1]
  exact ⟨rfl, rfl, rfl⟩
theorem d2_0 : decode prog_42_method_1_code 0 = .ok (.aload_n 0, 1) := by decide +kernel
theorem d2_1 : decode prog_42_method_1_code 1 = .ok (.invokespecial 1, 3) := by decide +kernel
theorem d2_4 : decode prog_42_method_1_code 4 = .ok (.aload_n 0, 1) := by decide +kernel
theorem d2_5 : decode prog_42_method_1_code 5 = .ok (.dload_n 1, 1) := by decide +kernel
theorem d2_6 : decode prog_42_method_1_code 6 = .ok (.putfield 7, 3) := by decide +kernel
theorem d2_9 : decode prog_42_method_1_code 9 = .ok (.aload_n 0, 1) := by decide +kernel
theorem d2_10 : decode prog_42_method_1_code 10 = .ok (.dload_n 3, 1) := by decide +kernel
theorem d2_11 : decode prog_42_method_1_code 11 = .ok (.putfield 13, 3) := by decide +kernel
theorem d2_14 : decode prog_42_method_1_code 14 = .ok (.return_, 1) := by decide +kernel
theorem pn_rm2 : plainName "com/example/warpfinder/warpfinder/search/RangeQuery$MeanRange" = true := by first | (simp [plainName, overriddenIn]; done) | decide +kernel
theorem ef_rm2 (m : MethodId) (a1 : Addr) (r2 : UInt64) (r3 : UInt64) : entryFrame m #[(.ref a1), (.double r2), (.double r3)] 5 = mkF m 0 #[.val (.ref a1), .val (.double r2), .second, .val (.double r3), .second] [] := by first | (simp [entryFrame, mkF, argsToLocals, Value.category]; done) | rfl
def Q2 (Z : State) (a1 : Addr) (r2 : UInt64) (r3 : UInt64) (h0 : Heap) (n0 : Nat) (v : Option Value) (h : Heap) (L : List Loc) : Prop := v = none ∧ Fr n0 L ∧ Keep h0 h [a1] ∧ Exa Z h a1 "com/example/warpfinder/warpfinder/search/RangeQuery$MeanRange" ∧ Fld Z h a1 "com/example/warpfinder/warpfinder/search/RangeQuery$MeanRange" "low" "D" (.double r2) ∧ Fld Z h a1 "com/example/warpfinder/warpfinder/search/RangeQuery$MeanRange" "high" "D" (.double r3)
theorem pd_0 : parseMethodDescriptor "()V" = some ⟨[], none⟩ := by decide +kernel
set_option maxRecDepth 65536 in
set_option maxHeartbeats 40000000 in
theorem rm2 (l : Launch) (Z : State) (a0 : Array Value) (hw : ∀ d ∈ tables_1, d.before a0 Z = true) (ws : List Jvm.Cond) (a1 : Addr) (r2 : UInt64) (r3 : UInt64) (h0 : Heap) (n0 : Nat) (Z0 : n0 ≤ h0.size) (F_low_a1 : Fld Z h0 a1 "com/example/warpfinder/warpfinder/search/RangeQuery$MeanRange" "low" "D" (.double (0 : UInt64))) (F_high_a1 : Fld Z h0 a1 "com/example/warpfinder/warpfinder/search/RangeQuery$MeanRange" "high" "D" (.double (0 : UInt64))) (E_a1 : Exa Z h0 a1 "com/example/warpfinder/warpfinder/search/RangeQuery$MeanRange") (g_a1 : n0 ≤ a1) :
    Con l Z (⟨"com/example/warpfinder/warpfinder/search/RangeQuery$MeanRange", "<init>", "(DD)V"⟩ : MethodName) prog_42_method_1_code 5 none ws ({ frames := 2, cells := 0, slots := 0, locals := 24 } : Room) #[(.ref a1), (.double r2), (.double r3)] h0 (Q2 Z a1 r2 r3 h0 n0) := by
  refine Con.of (plainFor_of_name pn_rm2) ?_
  intro p e s m below meth c s₁ hZ e0 X0 hx hby hml hown hnm hret hlk
  replace hml : c.maxLocals = 5 := hml
  have hown : s.vm.findClass "com/example/warpfinder/warpfinder/search/RangeQuery$MeanRange" = some m.cls := hown
  have N0 : Fr n0 [] := Fr.nil n0
  obtain ⟨PP, hPP⟩ : ∃ P, P = Fine s below (Q2 Z a1 r2 r3 h0 n0) ({ frames := 2, cells := 0, slots := 0, locals := 24 } : Room).cells ({ frames := 2, cells := 0, slots := 0, locals := 24 } : Room).slots := ⟨_, rfl⟩
  rw [← hPP]
  refine Go.cast (ef_rm2 m a1 r2 r3) ?_
  have K : Keep h0 h0 [a1] := Keep.refl h0 _
  have Zn : n0 ≤ h0.size := Z0
  show Go p.tables e below PP (s₁.setTop (mkF m 0 #[.val (.ref a1), .val (.double r2), .second, .val (.double r3), .second] []))
  refine Go.st (fun t k => XS.aloadN X0.here hx rfl (hb hby d2_0) rfl rfl k) ?_
  show Go p.tables e below PP (s₁.setTop (mkF m 1 #[.val (.ref a1), .val (.double r2), .second, .val (.double r3), .second] [(.ref a1)]))
  obtain ⟨v1, T1, L1, X1, hQ1, st1⟩ := callIn X0 hx hZ (y := (⟨"java/lang/Record", "<init>", "()V"⟩ : MethodName)) (a := a1) (argsL := []) (rest := []) rfl hown (hw _ (List.mem_of_getElem? (i := 11) rfl)) (hw _ (List.mem_of_getElem? (i := 12) rfl)) (hw _ (List.mem_of_getElem? (i := 14) rfl)) (hw _ (List.mem_of_getElem? (i := 15) rfl)) (by decide) (rm3 l Z a0 hw [] a1 h0 n0 Zn) e0 0 (by decide) (by decide) (by decide) (by decide) (g := (mkF m 1 #[.val (.ref a1), .val (.double r2), .second, .val (.double r3), .second] [(.ref a1)])) rfl (by rw [hml]; rfl) (lenOf pd_0 rfl) rfl (by show 2 * 0 + _ ≤ _; exact Nat.le_of_eq rfl) (hb hby d2_1)
  obtain ⟨rfl, rfl, e1⟩ := hQ1
  rw [List.append_nil] at X1
  refine Go.st st1 ?_
  show Go p.tables e below PP (T1.setTop (mkF m 4 #[.val (.ref a1), .val (.double r2), .second, .val (.double r3), .second] []))
  refine Go.st (fun t k => XS.aloadN X1.here hx rfl (hb hby d2_4) rfl rfl k) ?_
  show Go p.tables e below PP (T1.setTop (mkF m 5 #[.val (.ref a1), .val (.double r2), .second, .val (.double r3), .second] [(.ref a1)]))
  refine Go.st (fun t k => XS.dloadN X1.here hx rfl (hb hby d2_5) rfl k) ?_
  show Go p.tables e below PP (T1.setTop (mkF m 6 #[.val (.ref a1), .val (.double r2), .second, .val (.double r3), .second] [(.double r2), (.ref a1)]))
  obtain ⟨T2, h2, X2, e2, W2, st2⟩ := putF X1 hx hZ hown (host := "") (Or.inl (hw _ (List.mem_of_getElem? (i := 19) rfl))) Via.refl e1 F_low_a1 E_a1 (Or.inr ⟨(hw _ (List.mem_of_getElem? (i := 20) rfl)), rfl, hnm⟩) (hw _ (List.mem_of_getElem? (i := 6) rfl)) (ty := .double) (by decide) rfl rfl (g := (mkF m 6 #[.val (.ref a1), .val (.double r2), .second, .val (.double r3), .second] [(.double r2), (.ref a1)])) rfl rfl (hb hby d2_6)
  refine Go.st st2 ?_
  have N2 := Fr.snoc X2 N0 g_a1
  replace F_high_a1 := F_high_a1.other W2 (Or.inr (slot_ne (a0 := a0) (Or.inr (hw _ (List.mem_of_getElem? (i := 22) rfl))) (Or.inr (hw _ (List.mem_of_getElem? (i := 20) rfl))) (by decide) (t := .double) (t' := .double) (by decide) (by decide)))
  replace E_a1 := E_a1.wr W2
  replace K := K.wr W2 (Or.inl (List.mem_of_getElem? (i := 0) rfl))
  replace Zn : n0 ≤ h2.size := by rw [W2.size]; exact Zn
  replace F_low_a1 := F_low_a1.same W2
  show Go p.tables e below PP (T2.setTop (mkF m 9 #[.val (.ref a1), .val (.double r2), .second, .val (.double r3), .second] []))
  refine Go.st (fun t k => XS.aloadN X2.here hx rfl (hb hby d2_9) rfl rfl k) ?_
  show Go p.tables e below PP (T2.setTop (mkF m 10 #[.val (.ref a1), .val (.double r2), .second, .val (.double r3), .second] [(.ref a1)]))
  refine Go.st (fun t k => XS.dloadN X2.here hx rfl (hb hby d2_10) rfl k) ?_
  show Go p.tables e below PP (T2.setTop (mkF m 11 #[.val (.ref a1), .val (.double r2), .second, .val (.double r3), .second] [(.double r3), (.ref a1)]))
  obtain ⟨T3, h3, X3, e3, W3, st3⟩ := putF X2 hx hZ hown (host := "") (Or.inl (hw _ (List.mem_of_getElem? (i := 21) rfl))) Via.refl e2 F_high_a1 E_a1 (Or.inr ⟨(hw _ (List.mem_of_getElem? (i := 22) rfl)), rfl, hnm⟩) (hw _ (List.mem_of_getElem? (i := 6) rfl)) (ty := .double) (by decide) rfl rfl (g := (mkF m 11 #[.val (.ref a1), .val (.double r2), .second, .val (.double r3), .second] [(.double r3), (.ref a1)])) rfl rfl (hb hby d2_11)
  refine Go.st st3 ?_
  have N3 := Fr.snoc X3 N2 g_a1
  replace F_low_a1 := F_low_a1.other W3 (Or.inr (slot_ne (a0 := a0) (Or.inr (hw _ (List.mem_of_getElem? (i := 20) rfl))) (Or.inr (hw _ (List.mem_of_getElem? (i := 22) rfl))) (by decide) (t := .double) (t' := .double) (by decide) (by decide)))
  replace E_a1 := E_a1.wr W3
  replace K := K.wr W3 (Or.inl (List.mem_of_getElem? (i := 0) rfl))
  replace Zn : n0 ≤ h3.size := by rw [W3.size]; exact Zn
  replace F_high_a1 := F_high_a1.same W3
  show Go p.tables e below PP (T3.setTop (mkF m 14 #[.val (.ref a1), .val (.double r2), .second, .val (.double r3), .second] []))
  rw [hPP]
  refine endV X3 hx hlk hret (hb hby d2_14) ?_ (by decide) (by decide)
  show Q2 Z a1 r2 r3 h0 n0 none T3.heap _
  rw [e3]
  exact ⟨rfl, N3, K, E_a1, F_low_a1, F_high_a1⟩
theorem d5_0 : decode prog_42_method_2_code 0 = .ok (.aload_n 0, 1) := by decide +kernel
theorem d5_1 : decode prog_42_method_2_code 1 = .ok (.getfield 7, 3) := by decide +kernel
theorem d5_4 : decode prog_42_method_2_code 4 = .ok (.ldc2_w 18, 3) := by decide +kernel
theorem d5_7 : decode prog_42_method_2_code 7 = .ok (.dcmp .l, 1) := by decide +kernel
theorem d5_8 : decode prog_42_method_2_code 8 = .ok (.ifCond .gt 14, 3) := by decide +kernel
theorem d5_11 : decode prog_42_method_2_code 11 = .ok (.aload_n 0, 1) := by decide +kernel
theorem d5_12 : decode prog_42_method_2_code 12 = .ok (.getfield 13, 3) := by decide +kernel
theorem d5_15 : decode prog_42_method_2_code 15 = .ok (.ldc2_w 20, 3) := by decide +kernel
theorem d5_18 : decode prog_42_method_2_code 18 = .ok (.dcmp .g, 1) := by decide +kernel
theorem d5_19 : decode prog_42_method_2_code 19 = .ok (.ifCond .ge 7, 3) := by decide +kernel
theorem d5_22 : decode prog_42_method_2_code 22 = .ok (.iconst 1, 1) := by decide +kernel
theorem d5_23 : decode prog_42_method_2_code 23 = .ok (.goto 4, 3) := by decide +kernel
theorem d5_26 : decode prog_42_method_2_code 26 = .ok (.iconst 0, 1) := by decide +kernel
theorem d5_27 : decode prog_42_method_2_code 27 = .ok (.ireturn, 1) := by decide +kernel
theorem pn_rm5 : plainName "com/example/warpfinder/warpfinder/search/RangeQuery$MeanRange" = true := by first | (simp [plainName, overriddenIn]; done) | decide +kernel
theorem ef_rm5 (m : MethodId) (a1 : Addr) : entryFrame m #[(.ref a1)] 1 = mkF m 0 #[.val (.ref a1)] [] := by first | (simp [entryFrame, mkF, argsToLocals, Value.category]; done) | rfl
def Q5 (Z : State) (a1 : Addr) (x1 : UInt64) (x2 : UInt64) (h0 : Heap) (n0 : Nat) (v : Option Value) (h : Heap) (L : List Loc) : Prop := v = some (.int (bi ((0 : Int32) < cmpValue (FP.dcmp x1 (18442240474082181120 : UInt64)) .l ∨ cmpValue (FP.dcmp x2 (9218868437227405312 : UInt64)) .g < (0 : Int32)))) ∧ L = [] ∧ h = h0
set_option maxRecDepth 65536 in
set_option maxHeartbeats 40000000 in
theorem rm5 (l : Launch) (Z : State) (a0 : Array Value) (hw : ∀ d ∈ tables_1, d.before a0 Z = true) (ws : List Jvm.Cond) (a1 : Addr) (x1 : UInt64) (x2 : UInt64) (h0 : Heap) (n0 : Nat) (Z0 : n0 ≤ h0.size) (F_low_a1 : Fld Z h0 a1 "com/example/warpfinder/warpfinder/search/RangeQuery$MeanRange" "low" "D" (.double x1)) (F_high_a1 : Fld Z h0 a1 "com/example/warpfinder/warpfinder/search/RangeQuery$MeanRange" "high" "D" (.double x2)) :
    Con l Z (⟨"com/example/warpfinder/warpfinder/search/RangeQuery$MeanRange", "bounds", "()Z"⟩ : MethodName) prog_42_method_2_code 1 (some .boolean) ws ({ frames := 0, cells := 0, slots := 0, locals := 0 } : Room) #[(.ref a1)] h0 (Q5 Z a1 x1 x2 h0 n0) := by
  refine Con.of (plainFor_of_name pn_rm5) ?_
  intro p e s m below meth c s₁ hZ e0 X0 hx hby hml hown hnm hret hlk
  replace hml : c.maxLocals = 1 := hml
  have hown : s.vm.findClass "com/example/warpfinder/warpfinder/search/RangeQuery$MeanRange" = some m.cls := hown
  have N0 : Fr n0 [] := Fr.nil n0
  obtain ⟨PP, hPP⟩ : ∃ P, P = Fine s below (Q5 Z a1 x1 x2 h0 n0) ({ frames := 0, cells := 0, slots := 0, locals := 0 } : Room).cells ({ frames := 0, cells := 0, slots := 0, locals := 0 } : Room).slots := ⟨_, rfl⟩
  rw [← hPP]
  refine Go.cast (ef_rm5 m a1) ?_
  have Zn : n0 ≤ h0.size := Z0
  show Go p.tables e below PP (s₁.setTop (mkF m 0 #[.val (.ref a1)] []))
  refine Go.st (fun t k => XS.aloadN X0.here hx rfl (hb hby d5_0) rfl rfl k) ?_
  show Go p.tables e below PP (s₁.setTop (mkF m 1 #[.val (.ref a1)] [(.ref a1)]))
  obtain ⟨T1, X1, e1, st1⟩ := getF X0 hx hZ hown (host := "") (Or.inl (hw _ (List.mem_of_getElem? (i := 19) rfl))) Via.refl e0 F_low_a1 (g := (mkF m 1 #[.val (.ref a1)] [(.ref a1)])) rfl rfl (hb hby d5_1)
  refine Go.st st1 ?_
  show Go p.tables e below PP (T1.setTop (mkF m 4 #[.val (.ref a1)] [(.double x1)]))
  refine Go.st (fun t k => X1.ldc2DoubleC hx hown (mvT hZ (hw _ (List.mem_of_getElem? (i := 28) rfl))) (g := (mkF m 4 #[.val (.ref a1)] [(.double x1)])) rfl (hb hby d5_4) t k) ?_
  show Go p.tables e below PP (T1.setTop (mkF m 7 #[.val (.ref a1)] [(.double (18442240474082181120 : UInt64)), (.double x1)]))
  refine Go.st (fun t k => XS.dcmpS X1.here hx rfl (hb hby d5_7) rfl rfl k) ?_
  show Go p.tables e below PP (T1.setTop (mkF m 8 #[.val (.ref a1)] [(.int (cmpValue (FP.dcmp x1 (18442240474082181120 : UInt64)) .l))]))
  by_cases hc8 : (0 : Int32) < (cmpValue (FP.dcmp x1 (18442240474082181120 : UInt64)) .l)
  · --
    refine Go.st (fun t k => XS.ifYes X1.here hx rfl (pc0 := 8) (pc' := 22) rfl (hb hby d5_8) rfl (XT.i0_gt_t hc8) (by decide) (by decide) k) ?_
    show Go p.tables e below PP (T1.setTop (mkF m 22 #[.val (.ref a1)] []))
    refine Go.st (fun t k => XS.iconst X1.here hx rfl (hb hby d5_22) k) ?_
    show Go p.tables e below PP (T1.setTop (mkF m 23 #[.val (.ref a1)] [(.int (1 : Int32))]))
    refine Go.st (fun t k => XS.goto X1.here hx rfl (pc0 := 23) (pc' := 27) rfl (hb hby d5_23) (by decide) (by decide) k) ?_
    show Go p.tables e below PP (T1.setTop (mkF m 27 #[.val (.ref a1)] [(.int (1 : Int32))]))
    rw [hPP]
    refine endN X1 hx hlk (t := .boolean) hret (by simp) (hb hby d5_27) (w := (1 : Int32)) (rfl) ?_ (by decide) (by decide)
    show Q5 Z a1 x1 x2 h0 n0 (some (.int (1 : Int32))) T1.heap _
    rw [e1]
    exact ⟨by simp [bi, hc8], rfl, rfl⟩
  · --
    refine Go.st (fun t k => XS.ifNo X1.here hx rfl (hb hby d5_8) rfl (XT.i0_gt_f hc8) k) ?_
    show Go p.tables e below PP (T1.setTop (mkF m 11 #[.val (.ref a1)] []))
    refine Go.st (fun t k => XS.aloadN X1.here hx rfl (hb hby d5_11) rfl rfl k) ?_
    show Go p.tables e below PP (T1.setTop (mkF m 12 #[.val (.ref a1)] [(.ref a1)]))
    obtain ⟨T2, X2, e2, st2⟩ := getF X1 hx hZ hown (host := "") (Or.inl (hw _ (List.mem_of_getElem? (i := 21) rfl))) Via.refl e1 F_high_a1 (g := (mkF m 12 #[.val (.ref a1)] [(.ref a1)])) rfl rfl (hb hby d5_12)
    refine Go.st st2 ?_
    show Go p.tables e below PP (T2.setTop (mkF m 15 #[.val (.ref a1)] [(.double x2)]))
    refine Go.st (fun t k => X2.ldc2DoubleC hx hown (mvT hZ (hw _ (List.mem_of_getElem? (i := 29) rfl))) (g := (mkF m 15 #[.val (.ref a1)] [(.double x2)])) rfl (hb hby d5_15) t k) ?_
    show Go p.tables e below PP (T2.setTop (mkF m 18 #[.val (.ref a1)] [(.double (9218868437227405312 : UInt64)), (.double x2)]))
    refine Go.st (fun t k => XS.dcmpS X2.here hx rfl (hb hby d5_18) rfl rfl k) ?_
    show Go p.tables e below PP (T2.setTop (mkF m 19 #[.val (.ref a1)] [(.int (cmpValue (FP.dcmp x2 (9218868437227405312 : UInt64)) .g))]))
    by_cases hc19 : (cmpValue (FP.dcmp x2 (9218868437227405312 : UInt64)) .g) < (0 : Int32)
    · --
      refine Go.st (fun t k => XS.ifNo X2.here hx rfl (hb hby d5_19) rfl (XT.i0_ge_f hc19) k) ?_
      show Go p.tables e below PP (T2.setTop (mkF m 22 #[.val (.ref a1)] []))
      refine Go.st (fun t k => XS.iconst X2.here hx rfl (hb hby d5_22) k) ?_
      show Go p.tables e below PP (T2.setTop (mkF m 23 #[.val (.ref a1)] [(.int (1 : Int32))]))
      refine Go.st (fun t k => XS.goto X2.here hx rfl (pc0 := 23) (pc' := 27) rfl (hb hby d5_23) (by decide) (by decide) k) ?_
      show Go p.tables e below PP (T2.setTop (mkF m 27 #[.val (.ref a1)] [(.int (1 : Int32))]))
      rw [hPP]
      refine endN X2 hx hlk (t := .boolean) hret (by simp) (hb hby d5_27) (w := (1 : Int32)) (rfl) ?_ (by decide) (by decide)
      show Q5 Z a1 x1 x2 h0 n0 (some (.int (1 : Int32))) T2.heap _
      rw [e2]
      exact ⟨by simp [bi, hc8, hc19], rfl, rfl⟩
    · --
      refine Go.st (fun t k => XS.ifYes X2.here hx rfl (pc0 := 19) (pc' := 26) rfl (hb hby d5_19) rfl (XT.i0_ge_t hc19) (by decide) (by decide) k) ?_
      show Go p.tables e below PP (T2.setTop (mkF m 26 #[.val (.ref a1)] []))
      refine Go.st (fun t k => XS.iconst X2.here hx rfl (hb hby d5_26) k) ?_
      show Go p.tables e below PP (T2.setTop (mkF m 27 #[.val (.ref a1)] [(.int (0 : Int32))]))
      rw [hPP]
      refine endN X2 hx hlk (t := .boolean) hret (by simp) (hb hby d5_27) (w := (0 : Int32)) (rfl) ?_ (by decide) (by decide)
      show Q5 Z a1 x1 x2 h0 n0 (some (.int (0 : Int32))) T2.heap _
      rw [e2]
      exact ⟨by simp [bi, hc8, hc19], rfl, rfl⟩
theorem pn_rm0 : plainName "com/example/warpfinder/warpfinder/search/MeanRangeBoundsPinLaw" = true := by first | (simp [plainName, overriddenIn]; done) | decide +kernel
theorem ef_rm0 (m : MethodId) (p1 : Int32) (p2 : Int32) (p3 : Int32) (p4 : Int32) : entryFrame m #[(.int p1), (.int p2), (.int p3), (.int p4)] maxLocals = mkF m 0 #[.val (.int p1), .val (.int p2), .val (.int p3), .val (.int p4), .unset, .unset, .unset, .unset, .unset, .unset, .unset, .unset] [] := by first | (simp [entryFrame, mkF, argsToLocals, Value.category, maxLocals]; done) | rfl
def Q0 (Z : State) (p1 : Int32) (p2 : Int32) (p3 : Int32) (p4 : Int32) (h0 : Heap) (n0 : Nat) (v : Option Value) (h : Heap) (L : List Loc) : Prop := v = some (.int 1) ∧ Fr n0 L
theorem pd_1 : parseMethodDescriptor "(II)D" = some ⟨[.int, .int], some .double⟩ := by decide +kernel
theorem pd_2 : parseMethodDescriptor "(DD)V" = some ⟨[.double, .double], none⟩ := by decide +kernel
theorem pd_3 : parseMethodDescriptor "()Z" = some ⟨[], some .boolean⟩ := by decide +kernel
set_option maxRecDepth 65536 in
set_option maxHeartbeats 40000000 in
theorem rm0 (l : Launch) (Z : State) (a0 : Array Value) (hw : ∀ d ∈ tables_1, d.before a0 Z = true) (ws : List Jvm.Cond) (p1 : Int32) (p2 : Int32) (p3 : Int32) (p4 : Int32) (h0 : Heap) (n0 : Nat) (Z0 : n0 ≤ h0.size) :
    Con l Z x code maxLocals ret ws room_1 #[(.int p1), (.int p2), (.int p3), (.int p4)] h0 (Q0 Z p1 p2 p3 p4 h0 n0) := by
  refine Con.of (plainFor_of_name pn_rm0) ?_
  intro p e s m below meth c s₁ hZ e0 X0 hx hby hml hown hnm hret hlk
  replace hml : c.maxLocals = 12 := hml
  have hown : s.vm.findClass "com/example/warpfinder/warpfinder/search/MeanRangeBoundsPinLaw" = some m.cls := hown
  have N0 : Fr n0 [] := Fr.nil n0
  obtain ⟨PP, hPP⟩ : ∃ P, P = Fine s below (Q0 Z p1 p2 p3 p4 h0 n0) room_1.cells room_1.slots := ⟨_, rfl⟩
  rw [← hPP]
  refine Go.cast (ef_rm0 m p1 p2 p3 p4) ?_
  have Zn : n0 ≤ h0.size := Z0
  show Go p.tables e below PP (s₁.setTop (mkF m 0 #[.val (.int p1), .val (.int p2), .val (.int p3), .val (.int p4), .unset, .unset, .unset, .unset, .unset, .unset, .unset, .unset] []))
  refine Go.st (fun t k => XS.iloadN X0.here hx rfl (hb hby at_0) rfl k) ?_
  show Go p.tables e below PP (s₁.setTop (mkF m 1 #[.val (.int p1), .val (.int p2), .val (.int p3), .val (.int p4), .unset, .unset, .unset, .unset, .unset, .unset, .unset, .unset] [(.int p1)]))
  refine Go.st (fun t k => XS.iconst X0.here hx rfl (hb hby at_1) k) ?_
  show Go p.tables e below PP (s₁.setTop (mkF m 2 #[.val (.int p1), .val (.int p2), .val (.int p3), .val (.int p4), .unset, .unset, .unset, .unset, .unset, .unset, .unset, .unset] [(.int (3 : Int32)), (.int p1)]))
  refine Go.st (fun t k => XS.iand X0.here hx rfl (hb hby at_2) rfl k) ?_
  show Go p.tables e below PP (s₁.setTop (mkF m 3 #[.val (.int p1), .val (.int p2), .val (.int p3), .val (.int p4), .unset, .unset, .unset, .unset, .unset, .unset, .unset, .unset] [(.int (p1 &&& (3 : Int32)))]))
  refine Go.st (fun t k => XS.istore X0.here hx rfl (hb hby at_3) rfl (l' := #[.val (.int p1), .val (.int p2), .val (.int p3), .val (.int p4), .val (.int (p1 &&& (3 : Int32))), .unset, .unset, .unset, .unset, .unset, .unset, .unset]) rfl k) ?_
  show Go p.tables e below PP (s₁.setTop (mkF m 5 #[.val (.int p1), .val (.int p2), .val (.int p3), .val (.int p4), .val (.int (p1 &&& (3 : Int32))), .unset, .unset, .unset, .unset, .unset, .unset, .unset] []))
  refine Go.st (fun t k => XS.iloadN X0.here hx rfl (hb hby at_5) rfl k) ?_
  show Go p.tables e below PP (s₁.setTop (mkF m 6 #[.val (.int p1), .val (.int p2), .val (.int p3), .val (.int p4), .val (.int (p1 &&& (3 : Int32))), .unset, .unset, .unset, .unset, .unset, .unset, .unset] [(.int p3)]))
  refine Go.st (fun t k => XS.iconst X0.here hx rfl (hb hby at_6) k) ?_
  show Go p.tables e below PP (s₁.setTop (mkF m 7 #[.val (.int p1), .val (.int p2), .val (.int p3), .val (.int p4), .val (.int (p1 &&& (3 : Int32))), .unset, .unset, .unset, .unset, .unset, .unset, .unset] [(.int (3 : Int32)), (.int p3)]))
  refine Go.st (fun t k => XS.iand X0.here hx rfl (hb hby at_7) rfl k) ?_
  show Go p.tables e below PP (s₁.setTop (mkF m 8 #[.val (.int p1), .val (.int p2), .val (.int p3), .val (.int p4), .val (.int (p1 &&& (3 : Int32))), .unset, .unset, .unset, .unset, .unset, .unset, .unset] [(.int (p3 &&& (3 : Int32)))]))
  refine Go.st (fun t k => XS.istore X0.here hx rfl (hb hby at_8) rfl (l' := #[.val (.int p1), .val (.int p2), .val (.int p3), .val (.int p4), .val (.int (p1 &&& (3 : Int32))), .val (.int (p3 &&& (3 : Int32))), .unset, .unset, .unset, .unset, .unset, .unset]) rfl k) ?_
  generalize hlk' : (p1 &&& (3 : Int32)) = lk
  generalize hhk' : (p3 &&& (3 : Int32)) = hk
  show Go p.tables e below PP (s₁.setTop (mkF m 10 #[.val (.int p1), .val (.int p2), .val (.int p3), .val (.int p4), .val (.int lk), .val (.int hk), .unset, .unset, .unset, .unset, .unset, .unset] []))
  refine Go.st (fun t k => XS.iload X0.here hx rfl (hb hby at_10) rfl k) ?_
  show Go p.tables e below PP (s₁.setTop (mkF m 12 #[.val (.int p1), .val (.int p2), .val (.int p3), .val (.int p4), .val (.int lk), .val (.int hk), .unset, .unset, .unset, .unset, .unset, .unset] [(.int lk)]))
  refine Go.st (fun t k => XS.iloadN X0.here hx rfl (hb hby at_12) rfl k) ?_
  show Go p.tables e below PP (s₁.setTop (mkF m 13 #[.val (.int p1), .val (.int p2), .val (.int p3), .val (.int p4), .val (.int lk), .val (.int hk), .unset, .unset, .unset, .unset, .unset, .unset] [(.int p2), (.int lk)]))
  obtain ⟨v1, T1, L1, X1, hQ1, st1⟩ := callSt X0 hx hZ (y := (⟨"com/example/warpfinder/warpfinder/search/MeanRangeBoundsPinLaw", "end", "(II)D"⟩ : MethodName)) (argsL := [(.int lk), (.int p2)]) (rest := []) hown (hw _ (List.mem_of_getElem? (i := 0) rfl)) (hw _ (List.mem_of_getElem? (i := 1) rfl)) (hw _ (List.mem_of_getElem? (i := 2) rfl)) (hw _ (List.mem_of_getElem? (i := 3) rfl)) (by decide) (rm1 l Z a0 hw [] lk p2 h0 n0 Zn) e0 0 (by decide) (by decide) (by decide) (by decide) (g := (mkF m 13 #[.val (.int p1), .val (.int p2), .val (.int p3), .val (.int p4), .val (.int lk), .val (.int hk), .unset, .unset, .unset, .unset, .unset, .unset] [(.int p2), (.int lk)])) rfl (by rw [hml]; rfl) (lenOf pd_1 rfl) rfl (by show 2 * 0 + _ ≤ _; exact Nat.le_of_eq rfl) (hb hby at_13)
  obtain ⟨rfl, rfl, e1⟩ := hQ1
  rw [List.append_nil] at X1
  refine Go.st st1 ?_
  show Go p.tables e below PP (T1.setTop (mkF m 16 #[.val (.int p1), .val (.int p2), .val (.int p3), .val (.int p4), .val (.int lk), .val (.int hk), .unset, .unset, .unset, .unset, .unset, .unset] [(.double (endV' lk p2))]))
  refine Go.st (fun t k => XS.dstore X1.here hx rfl (hb hby at_16) rfl (l' := #[.val (.int p1), .val (.int p2), .val (.int p3), .val (.int p4), .val (.int lk), .val (.int hk), .val (.double (endV' lk p2)), .second, .unset, .unset, .unset, .unset]) rfl k) ?_
  show Go p.tables e below PP (T1.setTop (mkF m 18 #[.val (.int p1), .val (.int p2), .val (.int p3), .val (.int p4), .val (.int lk), .val (.int hk), .val (.double (endV' lk p2)), .second, .unset, .unset, .unset, .unset] []))
  refine Go.st (fun t k => XS.iload X1.here hx rfl (hb hby at_18) rfl k) ?_
  show Go p.tables e below PP (T1.setTop (mkF m 20 #[.val (.int p1), .val (.int p2), .val (.int p3), .val (.int p4), .val (.int lk), .val (.int hk), .val (.double (endV' lk p2)), .second, .unset, .unset, .unset, .unset] [(.int hk)]))
  refine Go.st (fun t k => XS.iloadN X1.here hx rfl (hb hby at_20) rfl k) ?_
  show Go p.tables e below PP (T1.setTop (mkF m 21 #[.val (.int p1), .val (.int p2), .val (.int p3), .val (.int p4), .val (.int lk), .val (.int hk), .val (.double (endV' lk p2)), .second, .unset, .unset, .unset, .unset] [(.int p4), (.int hk)]))
  obtain ⟨v2, T2, L2, X2, hQ2, st2⟩ := callSt X1 hx hZ (y := (⟨"com/example/warpfinder/warpfinder/search/MeanRangeBoundsPinLaw", "end", "(II)D"⟩ : MethodName)) (argsL := [(.int hk), (.int p4)]) (rest := []) hown (hw _ (List.mem_of_getElem? (i := 0) rfl)) (hw _ (List.mem_of_getElem? (i := 1) rfl)) (hw _ (List.mem_of_getElem? (i := 2) rfl)) (hw _ (List.mem_of_getElem? (i := 3) rfl)) (by decide) (rm1 l Z a0 hw [] hk p4 h0 n0 Zn) e1 0 (by decide) (by decide) (by decide) (by decide) (g := (mkF m 21 #[.val (.int p1), .val (.int p2), .val (.int p3), .val (.int p4), .val (.int lk), .val (.int hk), .val (.double (endV' lk p2)), .second, .unset, .unset, .unset, .unset] [(.int p4), (.int hk)])) rfl (by rw [hml]; rfl) (lenOf pd_1 rfl) rfl (by show 2 * 0 + _ ≤ _; exact Nat.le_of_eq rfl) (hb hby at_21)
  obtain ⟨rfl, rfl, e2⟩ := hQ2
  rw [List.append_nil] at X2
  refine Go.st st2 ?_
  show Go p.tables e below PP (T2.setTop (mkF m 24 #[.val (.int p1), .val (.int p2), .val (.int p3), .val (.int p4), .val (.int lk), .val (.int hk), .val (.double (endV' lk p2)), .second, .unset, .unset, .unset, .unset] [(.double (endV' hk p4))]))
  refine Go.st (fun t k => XS.dstore X2.here hx rfl (hb hby at_24) rfl (l' := #[.val (.int p1), .val (.int p2), .val (.int p3), .val (.int p4), .val (.int lk), .val (.int hk), .val (.double (endV' lk p2)), .second, .val (.double (endV' hk p4)), .second, .unset, .unset]) rfl k) ?_
  show Go p.tables e below PP (T2.setTop (mkF m 26 #[.val (.int p1), .val (.int p2), .val (.int p3), .val (.int p4), .val (.int lk), .val (.int hk), .val (.double (endV' lk p2)), .second, .val (.double (endV' hk p4)), .second, .unset, .unset] []))
  obtain ⟨T3, h3, X3, e3, E3, A3, D3, -, st3⟩ := newO X2 hx hZ hown (hw _ (List.mem_of_getElem? (i := 5) rfl)) (hw _ (List.mem_of_getElem? (i := 6) rfl)) (hw _ (List.mem_of_getElem? (i := 7) rfl)) e2 (g := (mkF m 26 #[.val (.int p1), .val (.int p2), .val (.int p3), .val (.int p4), .val (.int lk), .val (.int hk), .val (.double (endV' lk p2)), .second, .val (.double (endV' hk p4)), .second, .unset, .unset] [])) rfl (hb hby at_26) (by decide) (by decide)
  obtain ⟨b3, gz3⟩ : ∃ z, z = h0.size := ⟨_, rfl⟩
  rw [← gz3] at A3 D3 st3
  have g_b3 : n0 ≤ b3 := Nat.le_trans Zn (Nat.le_of_eq gz3.symm)
  refine Go.st st3 ?_
  replace Zn := Nat.le_trans Zn E3.1
  have E_b3 := A3
  have F_low_b3 : Fld Z h3 b3 "com/example/warpfinder/warpfinder/search/RangeQuery$MeanRange" "low" "D" _ := D3 (Or.inr (hw _ (List.mem_of_getElem? (i := 20) rfl))) (ty := .double) (by decide)
  have F_high_b3 : Fld Z h3 b3 "com/example/warpfinder/warpfinder/search/RangeQuery$MeanRange" "high" "D" _ := D3 (Or.inr (hw _ (List.mem_of_getElem? (i := 22) rfl))) (ty := .double) (by decide)
  show Go p.tables e below PP (T3.setTop (mkF m 29 #[.val (.int p1), .val (.int p2), .val (.int p3), .val (.int p4), .val (.int lk), .val (.int hk), .val (.double (endV' lk p2)), .second, .val (.double (endV' hk p4)), .second, .unset, .unset] [(.ref b3)]))
  refine Go.st (fun t k => XS.dup X3.here hx rfl (hb hby at_29) rfl rfl k) ?_
  show Go p.tables e below PP (T3.setTop (mkF m 30 #[.val (.int p1), .val (.int p2), .val (.int p3), .val (.int p4), .val (.int lk), .val (.int hk), .val (.double (endV' lk p2)), .second, .val (.double (endV' hk p4)), .second, .unset, .unset] [(.ref b3), (.ref b3)]))
  refine Go.st (fun t k => XS.dload X3.here hx rfl (hb hby at_30) rfl k) ?_
  show Go p.tables e below PP (T3.setTop (mkF m 32 #[.val (.int p1), .val (.int p2), .val (.int p3), .val (.int p4), .val (.int lk), .val (.int hk), .val (.double (endV' lk p2)), .second, .val (.double (endV' hk p4)), .second, .unset, .unset] [(.double (endV' lk p2)), (.ref b3), (.ref b3)]))
  refine Go.st (fun t k => XS.dload X3.here hx rfl (hb hby at_32) rfl k) ?_
  show Go p.tables e below PP (T3.setTop (mkF m 34 #[.val (.int p1), .val (.int p2), .val (.int p3), .val (.int p4), .val (.int lk), .val (.int hk), .val (.double (endV' lk p2)), .second, .val (.double (endV' hk p4)), .second, .unset, .unset] [(.double (endV' hk p4)), (.double (endV' lk p2)), (.ref b3), (.ref b3)]))
  obtain ⟨v4, T4, L4, X4, hQ4, st4⟩ := callIn X3 hx hZ (y := (⟨"com/example/warpfinder/warpfinder/search/RangeQuery$MeanRange", "<init>", "(DD)V"⟩ : MethodName)) (a := b3) (argsL := [(.double (endV' lk p2)), (.double (endV' hk p4))]) (rest := [(.ref b3)]) rfl hown (hw _ (List.mem_of_getElem? (i := 8) rfl)) (hw _ (List.mem_of_getElem? (i := 9) rfl)) (hw _ (List.mem_of_getElem? (i := 7) rfl)) (hw _ (List.mem_of_getElem? (i := 10) rfl)) (by decide) (rm2 l Z a0 hw [] b3 (endV' lk p2) (endV' hk p4) h3 n0 Zn F_low_b3 F_high_b3 E_b3 g_b3) e3 1 (by decide) (by decide) (by decide) (by decide) (g := (mkF m 34 #[.val (.int p1), .val (.int p2), .val (.int p3), .val (.int p4), .val (.int lk), .val (.int hk), .val (.double (endV' lk p2)), .second, .val (.double (endV' hk p4)), .second, .unset, .unset] [(.double (endV' hk p4)), (.double (endV' lk p2)), (.ref b3), (.ref b3)])) rfl (by rw [hml]; rfl) (lenOf pd_2 rfl) rfl (by show 2 * 0 + _ ≤ _; exact Nat.le_of_eq rfl) (hb hby at_34)
  obtain ⟨h4, e4⟩ : ∃ z, T4.heap = z := ⟨_, rfl⟩
  rw [e4] at hQ4
  obtain ⟨rfl, Nq4, Kq4, Fq4_0, Fq4_1, Fq4_2⟩ := hQ4
  have N4 := Fr.app N0 Nq4
  replace E_b3 := E_b3.keep Kq4
  clear F_low_b3
  clear F_high_b3
  replace Zn := Nat.le_trans Zn Kq4.1
  have E_b3 := Fq4_0
  have F_low_b3 := Fq4_1
  have F_high_b3 := Fq4_2
  refine Go.st st4 ?_
  show Go p.tables e below PP (T4.setTop (mkF m 37 #[.val (.int p1), .val (.int p2), .val (.int p3), .val (.int p4), .val (.int lk), .val (.int hk), .val (.double (endV' lk p2)), .second, .val (.double (endV' hk p4)), .second, .unset, .unset] [(.ref b3)]))
  refine Go.st (fun t k => XS.astore X4.here hx rfl (hb hby at_37) rfl rfl (l' := #[.val (.int p1), .val (.int p2), .val (.int p3), .val (.int p4), .val (.int lk), .val (.int hk), .val (.double (endV' lk p2)), .second, .val (.double (endV' hk p4)), .second, .val (.ref b3), .unset]) rfl k) ?_
  have J55 : ∀ (T5 : State) (L5 : List Loc) (b : Int32), Stand p l e room_1 s m #[(.int p1), (.int p2), (.int p3), (.int p4)] below meth c T5 L5 1 2 → T5.heap = h4 → Fr n0 L5 → (b = 1 ∧ lk = (0 : Int32) ∧ hk = (1 : Int32)) ∨ (b = 0 ∧ ¬ (lk = (0 : Int32) ∧ hk = (1 : Int32))) → Go p.tables e below PP (T5.setTop (mkF m 55 #[.val (.int p1), .val (.int p2), .val (.int p3), .val (.int p4), .val (.int lk), .val (.int hk), .val (.double (endV' lk p2)), .second, .val (.double (endV' hk p4)), .second, .val (.ref b3), .unset] [(.int b)])) := by
    intro T5 L5 b X5 e5 N5 hJ55
    show Go p.tables e below PP (T5.setTop (mkF m 55 #[.val (.int p1), .val (.int p2), .val (.int p3), .val (.int p4), .val (.int lk), .val (.int hk), .val (.double (endV' lk p2)), .second, .val (.double (endV' hk p4)), .second, .val (.ref b3), .unset] [(.int b)]))
    rcases hJ55 with ⟨hb1, hlk1, hhk1⟩ | ⟨hb1, hno⟩
    · --
      subst hb1
      show Go p.tables e below PP (T5.setTop (mkF m 55 #[.val (.int p1), .val (.int p2), .val (.int p3), .val (.int p4), .val (.int lk), .val (.int hk), .val (.double (endV' lk p2)), .second, .val (.double (endV' hk p4)), .second, .val (.ref b3), .unset] [(.int (1 : Int32))]))
      refine Go.st (fun t k => XS.istore X5.here hx rfl (hb hby at_55) rfl (l' := #[.val (.int p1), .val (.int p2), .val (.int p3), .val (.int p4), .val (.int lk), .val (.int hk), .val (.double (endV' lk p2)), .second, .val (.double (endV' hk p4)), .second, .val (.ref b3), .val (.int (1 : Int32))]) rfl k) ?_
      show Go p.tables e below PP (T5.setTop (mkF m 57 #[.val (.int p1), .val (.int p2), .val (.int p3), .val (.int p4), .val (.int lk), .val (.int hk), .val (.double (endV' lk p2)), .second, .val (.double (endV' hk p4)), .second, .val (.ref b3), .val (.int (1 : Int32))] []))
      refine Go.st (fun t k => XS.aload X5.here hx rfl (hb hby at_57) rfl rfl k) ?_
      show Go p.tables e below PP (T5.setTop (mkF m 59 #[.val (.int p1), .val (.int p2), .val (.int p3), .val (.int p4), .val (.int lk), .val (.int hk), .val (.double (endV' lk p2)), .second, .val (.double (endV' hk p4)), .second, .val (.ref b3), .val (.int (1 : Int32))] [(.ref b3)]))
      obtain ⟨v6, T6, L6, X6, hQ6, st6⟩ := callVi X5 hx hZ (C := "com/example/warpfinder/warpfinder/search/RangeQuery$MeanRange") (y := (⟨"com/example/warpfinder/warpfinder/search/RangeQuery$MeanRange", "bounds", "()Z"⟩ : MethodName)) (z := (⟨"com/example/warpfinder/warpfinder/search/RangeQuery$MeanRange", "bounds", "()Z"⟩ : MethodName)) (a := b3) (argsL := []) (rest := []) hown (hw _ (List.mem_of_getElem? (i := 23) rfl)) (hw _ (List.mem_of_getElem? (i := 24) rfl)) (notFace_of_selects (args := #[]) (mvT hZ (hw _ (List.mem_of_getElem? (i := 26) rfl)))) (hw _ (List.mem_of_getElem? (i := 26) rfl)) (hw _ (List.mem_of_getElem? (i := 25) rfl)) (hw _ (List.mem_of_getElem? (i := 7) rfl)) (hw _ (List.mem_of_getElem? (i := 27) rfl)) (by decide) rfl E_b3 (rm5 l Z a0 hw [] b3 (endV' lk p2) (endV' hk p4) h4 n0 Zn F_low_b3 F_high_b3) e5 0 (by decide) (by decide) (by decide) (by decide) (g := (mkF m 59 #[.val (.int p1), .val (.int p2), .val (.int p3), .val (.int p4), .val (.int lk), .val (.int hk), .val (.double (endV' lk p2)), .second, .val (.double (endV' hk p4)), .second, .val (.ref b3), .val (.int (1 : Int32))] [(.ref b3)])) rfl (by rw [hml]; rfl) (lenOf pd_3 rfl) rfl (by show 2 * 0 + _ ≤ _; exact Nat.le_of_eq rfl) (hb hby at_59)
      obtain ⟨rfl, rfl, e6⟩ := hQ6
      rw [List.append_nil] at X6
      refine Go.st st6 ?_
      show Go p.tables e below PP (T6.setTop (mkF m 62 #[.val (.int p1), .val (.int p2), .val (.int p3), .val (.int p4), .val (.int lk), .val (.int hk), .val (.double (endV' lk p2)), .second, .val (.double (endV' hk p4)), .second, .val (.ref b3), .val (.int (1 : Int32))] [(.int (bi ((0 : Int32) < cmpValue (FP.dcmp (endV' lk p2) (18442240474082181120 : UInt64)) .l ∨ cmpValue (FP.dcmp (endV' hk p4) (9218868437227405312 : UInt64)) .g < (0 : Int32))))]))
      refine Go.st (fun t k => XS.iload X6.here hx rfl (hb hby at_62) rfl k) ?_
      show Go p.tables e below PP (T6.setTop (mkF m 64 #[.val (.int p1), .val (.int p2), .val (.int p3), .val (.int p4), .val (.int lk), .val (.int hk), .val (.double (endV' lk p2)), .second, .val (.double (endV' hk p4)), .second, .val (.ref b3), .val (.int (1 : Int32))] [(.int (1 : Int32)), (.int (bi ((0 : Int32) < cmpValue (FP.dcmp (endV' lk p2) (18442240474082181120 : UInt64)) .l ∨ cmpValue (FP.dcmp (endV' hk p4) (9218868437227405312 : UInt64)) .g < (0 : Int32))))]))
      refine Go.st (fun t k => XS.ifYes X6.here hx rfl (pc0 := 64) (pc' := 71) rfl (hb hby at_64) rfl (XT.i0_ne_t (by decide)) (by decide) (by decide) k) ?_
      show Go p.tables e below PP (T6.setTop (mkF m 71 #[.val (.int p1), .val (.int p2), .val (.int p3), .val (.int p4), .val (.int lk), .val (.int hk), .val (.double (endV' lk p2)), .second, .val (.double (endV' hk p4)), .second, .val (.ref b3), .val (.int (1 : Int32))] [(.int (bi ((0 : Int32) < cmpValue (FP.dcmp (endV' lk p2) (18442240474082181120 : UInt64)) .l ∨ cmpValue (FP.dcmp (endV' hk p4) (9218868437227405312 : UInt64)) .g < (0 : Int32))))]))
      refine Go.st (fun t k => XS.iconst X6.here hx rfl (hb hby at_71) k) ?_
      show Go p.tables e below PP (T6.setTop (mkF m 72 #[.val (.int p1), .val (.int p2), .val (.int p3), .val (.int p4), .val (.int lk), .val (.int hk), .val (.double (endV' lk p2)), .second, .val (.double (endV' hk p4)), .second, .val (.ref b3), .val (.int (1 : Int32))] [(.int (0 : Int32)), (.int (bi ((0 : Int32) < cmpValue (FP.dcmp (endV' lk p2) (18442240474082181120 : UInt64)) .l ∨ cmpValue (FP.dcmp (endV' hk p4) (9218868437227405312 : UInt64)) .g < (0 : Int32))))]))
      refine Go.st (fun t k => XS.icmpNo X6.here hx rfl (hb hby at_72) rfl (XT.ii_ne_f (bi_f fun q => q.elim ((own_b lk hk p2 p4).1 hlk1 hhk1).1 ((own_b lk hk p2 p4).1 hlk1 hhk1).2)) k) ?_
      show Go p.tables e below PP (T6.setTop (mkF m 75 #[.val (.int p1), .val (.int p2), .val (.int p3), .val (.int p4), .val (.int lk), .val (.int hk), .val (.double (endV' lk p2)), .second, .val (.double (endV' hk p4)), .second, .val (.ref b3), .val (.int (1 : Int32))] []))
      refine Go.st (fun t k => XS.iconst X6.here hx rfl (hb hby at_75) k) ?_
      show Go p.tables e below PP (T6.setTop (mkF m 76 #[.val (.int p1), .val (.int p2), .val (.int p3), .val (.int p4), .val (.int lk), .val (.int hk), .val (.double (endV' lk p2)), .second, .val (.double (endV' hk p4)), .second, .val (.ref b3), .val (.int (1 : Int32))] [(.int (1 : Int32))]))
      refine Go.st (fun t k => XS.goto X6.here hx rfl (pc0 := 76) (pc' := 80) rfl (hb hby at_76) (by decide) (by decide) k) ?_
      show Go p.tables e below PP (T6.setTop (mkF m 80 #[.val (.int p1), .val (.int p2), .val (.int p3), .val (.int p4), .val (.int lk), .val (.int hk), .val (.double (endV' lk p2)), .second, .val (.double (endV' hk p4)), .second, .val (.ref b3), .val (.int (1 : Int32))] [(.int (1 : Int32))]))
      rw [hPP]
      refine endN X6 hx hlk (t := .boolean) hret (by simp) (hb hby at_80) (w := (1 : Int32)) (rfl) ?_ (by decide) (by decide)
      show Q0 Z p1 p2 p3 p4 h0 n0 (some (.int (1 : Int32))) T6.heap _
      rw [e6]
      exact ⟨rfl, N5⟩
    · --
      subst hb1
      show Go p.tables e below PP (T5.setTop (mkF m 55 #[.val (.int p1), .val (.int p2), .val (.int p3), .val (.int p4), .val (.int lk), .val (.int hk), .val (.double (endV' lk p2)), .second, .val (.double (endV' hk p4)), .second, .val (.ref b3), .unset] [(.int (0 : Int32))]))
      refine Go.st (fun t k => XS.istore X5.here hx rfl (hb hby at_55) rfl (l' := #[.val (.int p1), .val (.int p2), .val (.int p3), .val (.int p4), .val (.int lk), .val (.int hk), .val (.double (endV' lk p2)), .second, .val (.double (endV' hk p4)), .second, .val (.ref b3), .val (.int (0 : Int32))]) rfl k) ?_
      show Go p.tables e below PP (T5.setTop (mkF m 57 #[.val (.int p1), .val (.int p2), .val (.int p3), .val (.int p4), .val (.int lk), .val (.int hk), .val (.double (endV' lk p2)), .second, .val (.double (endV' hk p4)), .second, .val (.ref b3), .val (.int (0 : Int32))] []))
      refine Go.st (fun t k => XS.aload X5.here hx rfl (hb hby at_57) rfl rfl k) ?_
      show Go p.tables e below PP (T5.setTop (mkF m 59 #[.val (.int p1), .val (.int p2), .val (.int p3), .val (.int p4), .val (.int lk), .val (.int hk), .val (.double (endV' lk p2)), .second, .val (.double (endV' hk p4)), .second, .val (.ref b3), .val (.int (0 : Int32))] [(.ref b3)]))
      obtain ⟨v7, T7, L7, X7, hQ7, st7⟩ := callVi X5 hx hZ (C := "com/example/warpfinder/warpfinder/search/RangeQuery$MeanRange") (y := (⟨"com/example/warpfinder/warpfinder/search/RangeQuery$MeanRange", "bounds", "()Z"⟩ : MethodName)) (z := (⟨"com/example/warpfinder/warpfinder/search/RangeQuery$MeanRange", "bounds", "()Z"⟩ : MethodName)) (a := b3) (argsL := []) (rest := []) hown (hw _ (List.mem_of_getElem? (i := 23) rfl)) (hw _ (List.mem_of_getElem? (i := 24) rfl)) (notFace_of_selects (args := #[]) (mvT hZ (hw _ (List.mem_of_getElem? (i := 26) rfl)))) (hw _ (List.mem_of_getElem? (i := 26) rfl)) (hw _ (List.mem_of_getElem? (i := 25) rfl)) (hw _ (List.mem_of_getElem? (i := 7) rfl)) (hw _ (List.mem_of_getElem? (i := 27) rfl)) (by decide) rfl E_b3 (rm5 l Z a0 hw [] b3 (endV' lk p2) (endV' hk p4) h4 n0 Zn F_low_b3 F_high_b3) e5 0 (by decide) (by decide) (by decide) (by decide) (g := (mkF m 59 #[.val (.int p1), .val (.int p2), .val (.int p3), .val (.int p4), .val (.int lk), .val (.int hk), .val (.double (endV' lk p2)), .second, .val (.double (endV' hk p4)), .second, .val (.ref b3), .val (.int (0 : Int32))] [(.ref b3)])) rfl (by rw [hml]; rfl) (lenOf pd_3 rfl) rfl (by show 2 * 0 + _ ≤ _; exact Nat.le_of_eq rfl) (hb hby at_59)
      obtain ⟨rfl, rfl, e7⟩ := hQ7
      rw [List.append_nil] at X7
      refine Go.st st7 ?_
      show Go p.tables e below PP (T7.setTop (mkF m 62 #[.val (.int p1), .val (.int p2), .val (.int p3), .val (.int p4), .val (.int lk), .val (.int hk), .val (.double (endV' lk p2)), .second, .val (.double (endV' hk p4)), .second, .val (.ref b3), .val (.int (0 : Int32))] [(.int (bi ((0 : Int32) < cmpValue (FP.dcmp (endV' lk p2) (18442240474082181120 : UInt64)) .l ∨ cmpValue (FP.dcmp (endV' hk p4) (9218868437227405312 : UInt64)) .g < (0 : Int32))))]))
      refine Go.st (fun t k => XS.iload X7.here hx rfl (hb hby at_62) rfl k) ?_
      show Go p.tables e below PP (T7.setTop (mkF m 64 #[.val (.int p1), .val (.int p2), .val (.int p3), .val (.int p4), .val (.int lk), .val (.int hk), .val (.double (endV' lk p2)), .second, .val (.double (endV' hk p4)), .second, .val (.ref b3), .val (.int (0 : Int32))] [(.int (0 : Int32)), (.int (bi ((0 : Int32) < cmpValue (FP.dcmp (endV' lk p2) (18442240474082181120 : UInt64)) .l ∨ cmpValue (FP.dcmp (endV' hk p4) (9218868437227405312 : UInt64)) .g < (0 : Int32))))]))
      refine Go.st (fun t k => XS.ifNo X7.here hx rfl (hb hby at_64) rfl (XT.i0_ne_f (by decide)) k) ?_
      show Go p.tables e below PP (T7.setTop (mkF m 67 #[.val (.int p1), .val (.int p2), .val (.int p3), .val (.int p4), .val (.int lk), .val (.int hk), .val (.double (endV' lk p2)), .second, .val (.double (endV' hk p4)), .second, .val (.ref b3), .val (.int (0 : Int32))] [(.int (bi ((0 : Int32) < cmpValue (FP.dcmp (endV' lk p2) (18442240474082181120 : UInt64)) .l ∨ cmpValue (FP.dcmp (endV' hk p4) (9218868437227405312 : UInt64)) .g < (0 : Int32))))]))
      refine Go.st (fun t k => XS.iconst X7.here hx rfl (hb hby at_67) k) ?_
      show Go p.tables e below PP (T7.setTop (mkF m 68 #[.val (.int p1), .val (.int p2), .val (.int p3), .val (.int p4), .val (.int lk), .val (.int hk), .val (.double (endV' lk p2)), .second, .val (.double (endV' hk p4)), .second, .val (.ref b3), .val (.int (0 : Int32))] [(.int (1 : Int32)), (.int (bi ((0 : Int32) < cmpValue (FP.dcmp (endV' lk p2) (18442240474082181120 : UInt64)) .l ∨ cmpValue (FP.dcmp (endV' hk p4) (9218868437227405312 : UInt64)) .g < (0 : Int32))))]))
      refine Go.st (fun t k => XS.goto X7.here hx rfl (pc0 := 68) (pc' := 72) rfl (hb hby at_68) (by decide) (by decide) k) ?_
      show Go p.tables e below PP (T7.setTop (mkF m 72 #[.val (.int p1), .val (.int p2), .val (.int p3), .val (.int p4), .val (.int lk), .val (.int hk), .val (.double (endV' lk p2)), .second, .val (.double (endV' hk p4)), .second, .val (.ref b3), .val (.int (0 : Int32))] [(.int (1 : Int32)), (.int (bi ((0 : Int32) < cmpValue (FP.dcmp (endV' lk p2) (18442240474082181120 : UInt64)) .l ∨ cmpValue (FP.dcmp (endV' hk p4) (9218868437227405312 : UInt64)) .g < (0 : Int32))))]))
      refine Go.st (fun t k => XS.icmpNo X7.here hx rfl (hb hby at_72) rfl (XT.ii_ne_f (bi_t ((own_b lk hk p2 p4).2 hno))) k) ?_
      show Go p.tables e below PP (T7.setTop (mkF m 75 #[.val (.int p1), .val (.int p2), .val (.int p3), .val (.int p4), .val (.int lk), .val (.int hk), .val (.double (endV' lk p2)), .second, .val (.double (endV' hk p4)), .second, .val (.ref b3), .val (.int (0 : Int32))] []))
      refine Go.st (fun t k => XS.iconst X7.here hx rfl (hb hby at_75) k) ?_
      show Go p.tables e below PP (T7.setTop (mkF m 76 #[.val (.int p1), .val (.int p2), .val (.int p3), .val (.int p4), .val (.int lk), .val (.int hk), .val (.double (endV' lk p2)), .second, .val (.double (endV' hk p4)), .second, .val (.ref b3), .val (.int (0 : Int32))] [(.int (1 : Int32))]))
      refine Go.st (fun t k => XS.goto X7.here hx rfl (pc0 := 76) (pc' := 80) rfl (hb hby at_76) (by decide) (by decide) k) ?_
      show Go p.tables e below PP (T7.setTop (mkF m 80 #[.val (.int p1), .val (.int p2), .val (.int p3), .val (.int p4), .val (.int lk), .val (.int hk), .val (.double (endV' lk p2)), .second, .val (.double (endV' hk p4)), .second, .val (.ref b3), .val (.int (0 : Int32))] [(.int (1 : Int32))]))
      rw [hPP]
      refine endN X7 hx hlk (t := .boolean) hret (by simp) (hb hby at_80) (w := (1 : Int32)) (rfl) ?_ (by decide) (by decide)
      show Q0 Z p1 p2 p3 p4 h0 n0 (some (.int (1 : Int32))) T7.heap _
      rw [e7]
      exact ⟨rfl, N5⟩
  show Go p.tables e below PP (T4.setTop (mkF m 39 #[.val (.int p1), .val (.int p2), .val (.int p3), .val (.int p4), .val (.int lk), .val (.int hk), .val (.double (endV' lk p2)), .second, .val (.double (endV' hk p4)), .second, .val (.ref b3), .unset] []))
  refine Go.st (fun t k => XS.iload X4.here hx rfl (hb hby at_39) rfl k) ?_
  show Go p.tables e below PP (T4.setTop (mkF m 41 #[.val (.int p1), .val (.int p2), .val (.int p3), .val (.int p4), .val (.int lk), .val (.int hk), .val (.double (endV' lk p2)), .second, .val (.double (endV' hk p4)), .second, .val (.ref b3), .unset] [(.int lk)]))
  by_cases hc41 : lk = (0 : Int32)
  · --
    refine Go.st (fun t k => XS.ifNo X4.here hx rfl (hb hby at_41) rfl (XT.i0_ne_f hc41) k) ?_
    show Go p.tables e below PP (T4.setTop (mkF m 44 #[.val (.int p1), .val (.int p2), .val (.int p3), .val (.int p4), .val (.int lk), .val (.int hk), .val (.double (endV' lk p2)), .second, .val (.double (endV' hk p4)), .second, .val (.ref b3), .unset] []))
    refine Go.st (fun t k => XS.iload X4.here hx rfl (hb hby at_44) rfl k) ?_
    show Go p.tables e below PP (T4.setTop (mkF m 46 #[.val (.int p1), .val (.int p2), .val (.int p3), .val (.int p4), .val (.int lk), .val (.int hk), .val (.double (endV' lk p2)), .second, .val (.double (endV' hk p4)), .second, .val (.ref b3), .unset] [(.int hk)]))
    refine Go.st (fun t k => XS.iconst X4.here hx rfl (hb hby at_46) k) ?_
    show Go p.tables e below PP (T4.setTop (mkF m 47 #[.val (.int p1), .val (.int p2), .val (.int p3), .val (.int p4), .val (.int lk), .val (.int hk), .val (.double (endV' lk p2)), .second, .val (.double (endV' hk p4)), .second, .val (.ref b3), .unset] [(.int (1 : Int32)), (.int hk)]))
    by_cases hc47 : hk = (1 : Int32)
    · --
      refine Go.st (fun t k => XS.icmpNo X4.here hx rfl (hb hby at_47) rfl (XT.ii_ne_f hc47) k) ?_
      show Go p.tables e below PP (T4.setTop (mkF m 50 #[.val (.int p1), .val (.int p2), .val (.int p3), .val (.int p4), .val (.int lk), .val (.int hk), .val (.double (endV' lk p2)), .second, .val (.double (endV' hk p4)), .second, .val (.ref b3), .unset] []))
      refine Go.st (fun t k => XS.iconst X4.here hx rfl (hb hby at_50) k) ?_
      show Go p.tables e below PP (T4.setTop (mkF m 51 #[.val (.int p1), .val (.int p2), .val (.int p3), .val (.int p4), .val (.int lk), .val (.int hk), .val (.double (endV' lk p2)), .second, .val (.double (endV' hk p4)), .second, .val (.ref b3), .unset] [(.int (1 : Int32))]))
      refine Go.st (fun t k => XS.goto X4.here hx rfl (pc0 := 51) (pc' := 55) rfl (hb hby at_51) (by decide) (by decide) k) ?_
      show Go p.tables e below PP (T4.setTop (mkF m 55 #[.val (.int p1), .val (.int p2), .val (.int p3), .val (.int p4), .val (.int lk), .val (.int hk), .val (.double (endV' lk p2)), .second, .val (.double (endV' hk p4)), .second, .val (.ref b3), .unset] [(.int (1 : Int32))]))
      exact J55 _ _ _ X4 e4 N4 (by simp [hc41, hc47])
    · --
      refine Go.st (fun t k => XS.icmpYes X4.here hx rfl (pc0 := 47) (pc' := 54) rfl (hb hby at_47) rfl (XT.ii_ne_t hc47) (by decide) (by decide) k) ?_
      show Go p.tables e below PP (T4.setTop (mkF m 54 #[.val (.int p1), .val (.int p2), .val (.int p3), .val (.int p4), .val (.int lk), .val (.int hk), .val (.double (endV' lk p2)), .second, .val (.double (endV' hk p4)), .second, .val (.ref b3), .unset] []))
      refine Go.st (fun t k => XS.iconst X4.here hx rfl (hb hby at_54) k) ?_
      show Go p.tables e below PP (T4.setTop (mkF m 55 #[.val (.int p1), .val (.int p2), .val (.int p3), .val (.int p4), .val (.int lk), .val (.int hk), .val (.double (endV' lk p2)), .second, .val (.double (endV' hk p4)), .second, .val (.ref b3), .unset] [(.int (0 : Int32))]))
      exact J55 _ _ _ X4 e4 N4 (by simp [hc41, hc47])
  · --
    refine Go.st (fun t k => XS.ifYes X4.here hx rfl (pc0 := 41) (pc' := 54) rfl (hb hby at_41) rfl (XT.i0_ne_t hc41) (by decide) (by decide) k) ?_
    show Go p.tables e below PP (T4.setTop (mkF m 54 #[.val (.int p1), .val (.int p2), .val (.int p3), .val (.int p4), .val (.int lk), .val (.int hk), .val (.double (endV' lk p2)), .second, .val (.double (endV' hk p4)), .second, .val (.ref b3), .unset] []))
    refine Go.st (fun t k => XS.iconst X4.here hx rfl (hb hby at_54) k) ?_
    show Go p.tables e below PP (T4.setTop (mkF m 55 #[.val (.int p1), .val (.int p2), .val (.int p3), .val (.int p4), .val (.int lk), .val (.int hk), .val (.double (endV' lk p2)), .second, .val (.double (endV' hk p4)), .second, .val (.ref b3), .unset] [(.int (0 : Int32))]))
    exact J55 _ _ _ X4 e4 N4 (by simp [hc41])
set_option maxRecDepth 65536 in
set_option maxHeartbeats 40000000 in
theorem comes_1 {Post : Tables → Env → Array Value → State → Outcome → State → Prop} (hpost : ∀ tb e args s v u, (limb_1_1.after args s (.returned v) u = true ∧ limb_1_2.after args s (.returned v) u = true ∧ True) → FrameEnd s (.returned v) u (Jvm.fieldLocs frame_1_writes args s ++ Jvm.arrayLocs frame_1_arrays args s ++ Jvm.staticLocs frame_1_statics s) 16 128 → Post tb e args s (.returned v) u) :
    ArmFor flags0 classFile x code maxLocals ret World_1 tables_1 room_1 Calls_1 rest_1 Pre_1 Post := by
  intro l hfl _ _ p e ha hc hk s m args below hf hA hF happ hP
  obtain ⟨hcalls, hrest, hpre⟩ := hP
  obtain ⟨-, -, -, hnamed, -, -, -, hat⟩ := (Spec.applies_iff hf).mp happ
  obtain ⟨hg, hn⟩ := and_e (Cond.before_iff.mp (show (Jvm.Cond.and given_1 narrow_1).before args s = true from hpre))
  obtain ⟨g1, g2⟩ := and_e hg
  obtain ⟨g3, g4⟩ := and_e g2
  obtain ⟨g5, g6⟩ := and_e g4
  obtain ⟨g7, g8⟩ := and_e g6
  obtain ⟨w0, w1, w2, w3, rfl⟩ : ∃ w0 w1 w2 w3 : Value, args = #[w0, w1, w2, w3] := by
    have hs : args.size = 4 := by simpa [Cond.value, given_1] using g1
    obtain ⟨L⟩ := args
    match L, hs with
    | [w0, w1, w2, w3], _ => exact ⟨w0, w1, w2, w3, rfl⟩
  have hw := fun d (hd : d ∈ tables_1) => atoms_spec (ws := Jvm.Cond.code x code maxLocals ret :: tables_1) hat d (List.mem_cons_of_mem _ hd)
  have hfit : Fit s := fun {y c} hc i hi => by
    obtain ⟨ha, rfl⟩ := Array.getElem?_eq_some_iff.mp hc
    have q := List.all_eq_true.mp ((Array.all_eq_true_iff_forall_mem.mp hF) _ (Array.getElem_mem ha)) i (List.mem_range.mpr hi)
    simpa [Array.getElem?_eq_getElem hi] using q
  obtain ⟨i0, ei0⟩ := is_v g3
  obtain rfl : w0 = (.int i0) := Option.some.inj ei0
  obtain ⟨i1, ei1⟩ := is_v g5
  obtain rfl : w1 = (.int i1) := Option.some.inj ei1
  obtain ⟨i2, ei2⟩ := is_v g7
  obtain rfl : w2 = (.int i2) := Option.some.inj ei2
  obtain ⟨i3, ei3⟩ := is_v g8
  obtain rfl : w3 = (.int i3) := Option.some.inj ei3
  obtain ⟨n, o, h1, h2, h3, _, L, rfl, ⟨rfl, N⟩, hq⟩ := rm0 l s _ hw tables_1 i0 i1 i2 i3  s.heap s.heap.size (Nat.le_refl _)  p e ha hc hk s m _ below hf ((Spec.applies_iff_loose hf).mp happ).1 ⟨rfl, State.Warmed39.refl s, rfl⟩ trivial
  refine ⟨n, _, h1, h2, h3, hpost _ _ _ _ _ _ ⟨Cond.after_iff.mpr rfl, Cond.after_iff.mpr (eq_i res_at (Term.int_eval (1)) rfl), trivial⟩ ⟨hq.1, hq.2.1, (hq.2.2.sift fun y hy => Or.inr (N y hy)).mono (by decide) (by decide)⟩⟩
theorem main_1_1 : Claimed_1_1 := comes_1 fun _ _ _ _ _ _ h hF => ⟨h.1, hF⟩
theorem main_1_2 : Claimed_1_2 := comes_1 fun _ _ _ _ _ _ h hF => ⟨h.2.1, hF⟩
end Jvm.Pilot.@@N@@
namespace Jvm.Pilot.@@N@@
open Jvm Jvm.ClassFile Sem Op Lib Jvm.Free Jvm.Stand Jvm.Pilot.@@N@@.Jvm.D
/-! MADE BY PROGRAM (witnessworld.py) out of the Statement's table words and the real class files: 10 classes; the members and pool entries that the words name. The judged class is class 1, her method 1. -/
namespace start1
open Jvm.ClassFile
def u (s : String) : CpInfo := .utf8 (stringToUtf16 s)
/-- a pool by its gaps: so many unusable entries, then the entry; so many at the end -/
def gap : Nat → List CpInfo → List CpInfo
  | 0, r => r
  | n + 1, r => .unusable :: gap n r
def poolList (es : List (Nat × CpInfo)) (last : Nat) : List CpInfo := es.foldr (fun e r => gap e.1 (e.2 :: r)) (gap last [])
def pool (es : List (Nat × CpInfo)) (last : Nat) : Array CpInfo := ⟨poolList es last⟩
def fileOf (pool : Array CpInfo) (this : Nat) (attrs : Array Attribute := #[]) (ms : Array MethodInfo := #[]) (fl : Nat := 33) (sup : Nat := 0) (ifs : Array Nat := #[]) (fds : Array FieldInfo := #[]) : ClassFile where
  minorVersion := 0
  majorVersion := 65
  constantPool := pool
  accessFlags := fl
  thisClass := this
  superClass := sup
  interfaces := ifs
  fields := fds
  methods := ms
  attributes := attrs
def plain (name : String) (sup : Option ClassId) : Class where
  name := name
  kind := .ordinary
  loader := none
  accessFlags := 33
  super := sup
  interfaces := #[]
  cf := none
  fields := #[]
  methods := #[]
  instanceTypes := #[]
  staticTypes := #[]
  resolved := #[]
  callSites := []
  init := .initialized
  statics := none
  mirror := none

def pool0 : Array CpInfo := pool [(5, u "<init>"), (0, u "()V"), (1, .class_ 10), (1, u "java/lang/Object")] 113

def k0c0 : Code := { maxStack := 0, maxLocals := 1, code := object_method_1_code, exceptionTable := #[], attributes := #[] }
def k0m0 : Method := { name := "<init>", desc := "()V", sig := { parameters := [], returnType := none }, accessFlags := 1, code := some k0c0 }
/-- java/lang/Object -/
def k0 : Class := { plain "java/lang/Object" none with
  accessFlags := 33
  interfaces := #[]
  cf := some (fileOf pool0 8 #[] #[{ accessFlags := 1, nameIndex := 5, descriptorIndex := 6, attributes := #[] }] 33 0 #[] #[])
  fields := #[]
  methods := #[k0m0]
  instanceTypes := #[]
  staticTypes := #[]
  resolved := Array.replicate 124 none
  statics := none }

def pool1 : Array CpInfo := pool [(2, .class_ 4), (1, u "java/lang/Object"), (0, u "<init>"), (0, u "()V"), (0, .methodref 8 9), (0, .class_ 10), (0, .nameAndType 11 12), (0, u "com/example/warpfinder/warpfinder/search/MeanRangeBoundsPinLaw"), (0, u "end"), (0, u "(II)D"), (0, .class_ 14), (0, u "com/example/warpfinder/warpfinder/search/RangeQuery$MeanRange"), (0, .methodref 13 16), (0, .nameAndType 5 17), (0, u "(DD)V"), (0, .methodref 13 19), (0, .nameAndType 20 21), (0, u "bounds"), (0, u "()Z"), (2, .double 18442240474082181120), (1, .double 9218868437227405312), (1, .double 18442240474082181119), (1, .double 9218868437227405311), (3, u "law"), (0, u "(IIII)Z")] 7

def k1m0 : Method := { name := "<init>", desc := "()V", sig := { parameters := [], returnType := none }, accessFlags := 2, code := none }
def k1c1 : Code := { maxStack := 6, maxLocals := 12, code := code, exceptionTable := #[], attributes := #[] }
def k1m1 : Method := { name := "law", desc := "(IIII)Z", sig := { parameters := [.int, .int, .int, .int], returnType := some .boolean }, accessFlags := 9, code := some k1c1 }
def k1c2 : Code := { maxStack := 2, maxLocals := 2, code := method_3_code, exceptionTable := #[], attributes := #[] }
def k1m2 : Method := { name := "end", desc := "(II)D", sig := { parameters := [.int, .int], returnType := some .double }, accessFlags := 10, code := some k1c2 }
/-- com/example/warpfinder/warpfinder/search/MeanRangeBoundsPinLaw -/
def k1 : Class := { plain "com/example/warpfinder/warpfinder/search/MeanRangeBoundsPinLaw" (some 0) with
  accessFlags := 49
  interfaces := #[]
  cf := some (fileOf pool1 8 #[] #[{ accessFlags := 2, nameIndex := 5, descriptorIndex := 6, attributes := #[] }, { accessFlags := 9, nameIndex := 34, descriptorIndex := 35, attributes := #[] }, { accessFlags := 10, nameIndex := 11, descriptorIndex := 12, attributes := #[] }] 49 2 #[] #[])
  fields := #[]
  methods := #[k1m0, k1m1, k1m2]
  instanceTypes := #[]
  staticTypes := #[]
  resolved := Array.replicate 43 none
  statics := none }

def pool2 : Array CpInfo := pool [(1, .methodref 2 3), (0, .class_ 4), (0, .nameAndType 5 6), (0, u "java/lang/Object"), (0, u "<init>"), (0, u "()V"), (0, .class_ 8), (0, u "java/lang/Record")] 13

def k2c0 : Code := { maxStack := 1, maxLocals := 1, code := jdk_30_method_1_code, exceptionTable := #[], attributes := #[] }
def k2m0 : Method := { name := "<init>", desc := "()V", sig := { parameters := [], returnType := none }, accessFlags := 4, code := some k2c0 }
/-- java/lang/Record -/
def k2 : Class := { plain "java/lang/Record" (some 0) with
  accessFlags := 1057
  interfaces := #[]
  cf := some (fileOf pool2 7 #[] #[{ accessFlags := 4, nameIndex := 5, descriptorIndex := 6, attributes := #[] }] 1057 2 #[] #[])
  fields := #[]
  methods := #[k2m0]
  instanceTypes := #[]
  staticTypes := #[]
  resolved := Array.replicate 22 none
  statics := none }

def pool3 : Array CpInfo := pool [(1, .methodref 2 3), (0, .class_ 4), (0, .nameAndType 5 6), (0, u "java/lang/Record"), (0, u "<init>"), (0, u "()V"), (0, .fieldref 8 9), (0, .class_ 10), (0, .nameAndType 11 12), (0, u "com/example/warpfinder/warpfinder/search/RangeQuery$MeanRange"), (0, u "low"), (0, u "D"), (0, .fieldref 8 14), (0, .nameAndType 15 12), (0, u "high"), (2, .double 18442240474082181120), (1, .double 9218868437227405312), (13, u "(DD)V"), (3, u "bounds"), (0, u "()Z"), (8, .class_ 49), (0, u "com/example/warpfinder/warpfinder/search/RangeQuery")] 20

def k3c0 : Code := { maxStack := 3, maxLocals := 5, code := prog_42_method_1_code, exceptionTable := #[], attributes := #[] }
def k3m0 : Method := { name := "<init>", desc := "(DD)V", sig := { parameters := [.double, .double], returnType := none }, accessFlags := 0, code := some k3c0 }
def k3c1 : Code := { maxStack := 4, maxLocals := 1, code := prog_42_method_2_code, exceptionTable := #[], attributes := #[] }
def k3m1 : Method := { name := "bounds", desc := "()Z", sig := { parameters := [], returnType := some .boolean }, accessFlags := 0, code := some k3c1 }
/-- com/example/warpfinder/warpfinder/search/RangeQuery$MeanRange -/
def k3 : Class := { plain "com/example/warpfinder/warpfinder/search/RangeQuery$MeanRange" (some 2) with
  accessFlags := 48
  interfaces := #[]
  cf := some (fileOf pool3 8 #[.nestHost 48] #[{ accessFlags := 0, nameIndex := 5, descriptorIndex := 34, attributes := #[] }, { accessFlags := 0, nameIndex := 38, descriptorIndex := 39, attributes := #[] }] 48 2 #[] #[{ accessFlags := 18, nameIndex := 11, descriptorIndex := 12, attributes := #[] }, { accessFlags := 18, nameIndex := 15, descriptorIndex := 12, attributes := #[] }])
  fields := #[{ name := "low", type := .double, accessFlags := 18, slot := 0, constantValue := 0 }, { name := "high", type := .double, accessFlags := 18, slot := 1, constantValue := 0 }]
  methods := #[k3m0, k3m1]
  instanceTypes := #[.double, .double]
  staticTypes := #[]
  resolved := Array.replicate 70 none
  statics := none }

def pool4 : Array CpInfo := pool [(1, u "java/lang/Cloneable"), (0, .class_ 1), (0, u "java/lang/Object"), (0, .class_ 3)] 3

/-- java/lang/Cloneable -/
def k4 : Class := { plain "java/lang/Cloneable" (some 0) with
  accessFlags := 1537
  interfaces := #[]
  cf := some (fileOf pool4 2 #[] #[] 1537 4 #[] #[])
  fields := #[]
  methods := #[]
  instanceTypes := #[]
  staticTypes := #[]
  resolved := Array.replicate 8 none
  statics := none }

def pool5 : Array CpInfo := pool [(1, u "java/io/Serializable"), (0, .class_ 1), (0, u "java/lang/Object"), (0, .class_ 3)] 3

/-- java/io/Serializable -/
def k5 : Class := { plain "java/io/Serializable" (some 0) with
  accessFlags := 1537
  interfaces := #[]
  cf := some (fileOf pool5 2 #[] #[] 1537 4 #[] #[])
  fields := #[]
  methods := #[]
  instanceTypes := #[]
  staticTypes := #[]
  resolved := Array.replicate 8 none
  statics := none }

/-- the primitive byte -/
def k6 : Class := { plain "byte" none with kind := .primitive 'B', accessFlags := 0x411 }
/-- [B -/
def k7 : Class := { plain "[B" (some 0) with kind := .array 6 .byte, interfaces := #[4, 5], accessFlags := 1041 }

/-- the primitive int -/
def k8 : Class := { plain "int" none with kind := .primitive 'I', accessFlags := 0x411 }
/-- [I -/
def k9 : Class := { plain "[I" (some 0) with kind := .array 8 .int, interfaces := #[4, 5], accessFlags := 1041 }

def heap : Heap := #[]
def classes : Array Class := #[k0, k1, k2, k3, k4, k5, k6, k7, k8, k9]
def interned : List (Array UInt16 × Addr) := []
def slotsUsed : Nat := 0
def theMethod : MethodId := ⟨1, 1⟩
def args0 : Array Value := #[.int 5, .int 6, .int 5, .int 6]
def aboutOver (below : List Frame) : State where
  vm := { classes := classes, interned := interned.toArray }
  heap := heap
  slotsUsed := slotsUsed
  threads := #[{ frames := .invoking theMethod args0 :: below }]
def below0 : List Frame := [.native { method := ⟨0, 0⟩, args := #[] }]
def about1 : State := aboutOver below0
def p0 : Program := .bare "" "" ""
def e0 : Env := launch0.env 0 0 0
theorem w_frames : about1.frames = Frame.invoking theMethod args0 :: below0 := rfl
set_option maxRecDepth 65536 in
theorem w_args : argsFit about1.vm theMethod args0 = true := by decide +kernel
set_option maxRecDepth 65536 in
theorem w_heap : heapFits about1 = true := by decide +kernel
set_option maxRecDepth 65536 in
theorem w_runnable : about1.curStatus? = some .runnable := by decide +kernel
set_option maxRecDepth 65536 in
theorem w_alone : about1.alone = true := by decide +kernel
set_option maxRecDepth 65536 in
theorem w_named : about1.methodNamed? x = some theMethod := by decide +kernel
set_option maxRecDepth 65536 in
theorem w_hears : about1.hears theMethod below0 = true := by decide +kernel
set_option maxRecDepth 65536 in
theorem w_ripe : about1.ripe theMethod args0 below0 = true := by decide +kernel
theorem w_running : about1.status = .running := rfl
set_option maxRecDepth 65536 in
theorem w_room : about1.hasRoom e0.platform room_1 = true :=
  launch0.hasRoom_least _ room_1 (by decide +kernel) (by decide +kernel) (by decide +kernel) (by decide +kernel) (by decide +kernel) (by decide +kernel)
theorem allAtoms_all (ts : List Jvm.Cond) (a : Array Jvm.Value) (st : Jvm.State) : (allAtoms ts).before a st = ts.all (fun c => c.before a st) := by
  induction ts with
  | nil => rfl
  | cons c t ih =>
    show (Jvm.Cond.and c (allAtoms t)).before a st = _
    rw [Jvm.Cond.before_and, ih, List.all_cons]
def words1 : List Jvm.Cond := Jvm.Cond.code x code maxLocals ret :: tables_1
/-- a 'code' word, met by the world's own term for the bytes: nothing is compared byte by byte -/
theorem code_word {y : MethodName} {bytes : ByteArray} {mx : Nat} {rt : Option FieldType} {a : Array Value} {s : State} {m : MethodId} {meth : Method} {c : Code} (h1 : s.methodNamed? y = some m) (h2 : s.vm.method? m = some meth) (h3 : meth.code = some c) (h4 : c.code = bytes)
    (h5 : (c.maxLocals == mx && c.exceptionTable.isEmpty && decide (c.maxStack ≤ mostOperands) && decide (meth.sig.returnType = rt) && !meth.locks && decide (parseMethodDescriptor y.desc = some meth.sig)) = true) : (Jvm.Cond.code y bytes mx rt).before a s = true := by
  simp only [Bool.and_eq_true, beq_iff_eq, Bool.not_eq_true', decide_eq_true_eq] at h5
  obtain ⟨⟨⟨⟨⟨g1, g2⟩, g3⟩, g4⟩, g5⟩, g6⟩ := h5
  simp [Cond.before, Cond.holds, Cond.value, h1, h2, h3, h4, g1, g2, g3, g4, g5, g6]
def isCode : Jvm.Cond → Bool
  | .code _ _ _ _ => true
  | _ => false
theorem all_split {L : List Jvm.Cond} {P : Jvm.Cond → Bool} (h1 : L.all (fun c => isCode c || P c) = true) (h2 : ∀ c ∈ L.filter isCode, P c = true) : L.all P = true := by
  refine List.all_eq_true.mpr fun c hc => ?_
  have h := List.all_eq_true.mp h1 c hc
  rcases Bool.eq_false_or_eq_true (isCode c) with hi | hi
  · exact h2 c (List.mem_filter.mpr ⟨hc, hi⟩)
  · simpa [hi] using h
set_option maxRecDepth 65536 in
theorem w_c0 : (Jvm.Cond.code x code maxLocals ret).before args0 about1 = true := code_word (m := ⟨1, 1⟩) (meth := k1m1) (c := k1c1) (by decide +kernel) rfl rfl rfl (by decide +kernel)
set_option maxRecDepth 65536 in
theorem w_c1 : (Jvm.Cond.code ({ cls := "com/example/warpfinder/warpfinder/search/MeanRangeBoundsPinLaw", name := "end", desc := "(II)D" } : Jvm.MethodName) method_3_code (2 : Nat) (Option.some Jvm.ClassFile.FieldType.double)).before args0 about1 = true := code_word (m := ⟨1, 2⟩) (meth := k1m2) (c := k1c2) (by decide +kernel) rfl rfl rfl (by decide +kernel)
set_option maxRecDepth 65536 in
theorem w_c2 : (Jvm.Cond.code ({ cls := "com/example/warpfinder/warpfinder/search/RangeQuery$MeanRange", name := "<init>", desc := "(DD)V" } : Jvm.MethodName) prog_42_method_1_code (5 : Nat) (Option.none : Option Jvm.ClassFile.FieldType)).before args0 about1 = true := code_word (m := ⟨3, 0⟩) (meth := k3m0) (c := k3c0) (by decide +kernel) rfl rfl rfl (by decide +kernel)
set_option maxRecDepth 65536 in
theorem w_c3 : (Jvm.Cond.code ({ cls := "java/lang/Record", name := "<init>", desc := "()V" } : Jvm.MethodName) jdk_30_method_1_code (1 : Nat) (Option.none : Option Jvm.ClassFile.FieldType)).before args0 about1 = true := code_word (m := ⟨2, 0⟩) (meth := k2m0) (c := k2c0) (by decide +kernel) rfl rfl rfl (by decide +kernel)
set_option maxRecDepth 65536 in
theorem w_c4 : (Jvm.Cond.code ({ cls := "java/lang/Object", name := "<init>", desc := "()V" } : Jvm.MethodName) object_method_1_code (1 : Nat) (Option.none : Option Jvm.ClassFile.FieldType)).before args0 about1 = true := code_word (m := ⟨0, 0⟩) (meth := k0m0) (c := k0c0) (by decide +kernel) rfl rfl rfl (by decide +kernel)
set_option maxRecDepth 65536 in
theorem w_c5 : (Jvm.Cond.code ({ cls := "com/example/warpfinder/warpfinder/search/RangeQuery$MeanRange", name := "bounds", desc := "()Z" } : Jvm.MethodName) prog_42_method_2_code (1 : Nat) (Option.some Jvm.ClassFile.FieldType.boolean)).before args0 about1 = true := code_word (m := ⟨3, 1⟩) (meth := k3m1) (c := k3c1) (by decide +kernel) rfl rfl rfl (by decide +kernel)
def codes1 : List Jvm.Cond := [Jvm.Cond.code x code maxLocals ret, Jvm.Cond.code ({ cls := "com/example/warpfinder/warpfinder/search/MeanRangeBoundsPinLaw", name := "end", desc := "(II)D" } : Jvm.MethodName) method_3_code (2 : Nat) (Option.some Jvm.ClassFile.FieldType.double), Jvm.Cond.code ({ cls := "com/example/warpfinder/warpfinder/search/RangeQuery$MeanRange", name := "<init>", desc := "(DD)V" } : Jvm.MethodName) prog_42_method_1_code (5 : Nat) (Option.none : Option Jvm.ClassFile.FieldType), Jvm.Cond.code ({ cls := "java/lang/Record", name := "<init>", desc := "()V" } : Jvm.MethodName) jdk_30_method_1_code (1 : Nat) (Option.none : Option Jvm.ClassFile.FieldType), Jvm.Cond.code ({ cls := "java/lang/Object", name := "<init>", desc := "()V" } : Jvm.MethodName) object_method_1_code (1 : Nat) (Option.none : Option Jvm.ClassFile.FieldType), Jvm.Cond.code ({ cls := "com/example/warpfinder/warpfinder/search/RangeQuery$MeanRange", name := "bounds", desc := "()Z" } : Jvm.MethodName) prog_42_method_2_code (1 : Nat) (Option.some Jvm.ClassFile.FieldType.boolean)]
set_option maxRecDepth 65536 in
theorem codes_eq : words1.filter isCode = codes1 := rfl
theorem w_codes : ∀ c ∈ words1.filter isCode, c.before args0 about1 = true := by
  rw [codes_eq]
  intro c hc
  simp only [codes1, List.mem_cons, List.not_mem_nil, or_false] at hc
  rcases hc with rfl | rfl | rfl | rfl | rfl | rfl
  · exact w_c0
  · exact w_c1
  · exact w_c2
  · exact w_c3
  · exact w_c4
  · exact w_c5
set_option maxRecDepth 65536 in
theorem w_t1 : (words1.take 24).all (fun c => isCode c || c.before args0 about1) = true := by decide +kernel
set_option maxRecDepth 65536 in
theorem w_t2 : (words1.drop 24).all (fun c => isCode c || c.before args0 about1) = true := by decide +kernel
theorem w_tables : (allAtoms (Jvm.Cond.code x code maxLocals ret :: tables_1)).before args0 about1 = true := by
  rw [allAtoms_all]
  show words1.all (fun c => c.before args0 about1) = true
  refine all_split ?_ w_codes
  rw [← List.take_append_drop 24 words1, List.all_append, w_t1, w_t2]
  rfl
set_option maxRecDepth 65536 in
theorem w_case : (Jvm.Cond.and given_1 narrow_1).before args0 about1 = true := by decide +kernel
theorem w_applies : (headSpec (Jvm.Cond.code x code maxLocals ret :: tables_1) room_1).applies x e0.platform about1 = true :=
  (Spec.applies_iff w_frames).mpr ⟨w_running, w_runnable, w_alone, w_named, w_hears, w_ripe, w_room, w_tables⟩
theorem atStart : AtStart classFile x code maxLocals ret World_1 tables_1 room_1 Calls_1 rest_1 Pre_1 launch0 p0 e0 about1 theMethod args0 below0 :=
  ⟨lists_1, trivial, launch0.admits_env _ _ _, launch0.least_env, fairChoices_fair.cas, fairChoices_fair.clock, w_frames, w_args, w_heap, w_applies, trivial, trivial, w_case⟩
end start1
theorem witness_1 : WitnessClaimed_1 := ⟨start1.p0, start1.e0, start1.about1, start1.theMethod, start1.args0, start1.below0, start1.atStart⟩
end Jvm.Pilot.@@N@@
