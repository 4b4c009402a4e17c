import JvmDerived
import JvmDerived.Pilot.@@N@@Statement
import JvmDerived.Pilot.@@N@@Code
set_option linter.unusedVariables false
set_option linter.unusedSimpArgs false
namespace Jvm.OwnKit
open Sem ClassFile Op Lib Jvm.Stand Jvm.Free Jvm.LawKit Jvm.RoadKit
/-- from S the run comes to a state of which P holds -/
def Go (tb : Tables) (e : Env) (below : List Frame) (P : State → Prop) (S : State) : Prop := ∃ t, Steps tb e below S t ∧ P t
theorem Go.st {tb : Tables} {e : Env} {below : List Frame} {P : State → Prop} {S S' : State} (h : ∀ t, Steps tb e below S' t → Steps tb e below S t) (g : Go tb e below P S') : Go tb e below P S := by
  obtain ⟨t, h1, h2⟩ := g
  exact ⟨t, h t h1, h2⟩
theorem Go.cast {tb : Tables} {e : Env} {below : List Frame} {P : State → Prop} {T : State} {g g' : JFrame} (q : g = g') (k : Go tb e below P (T.setTop g')) : Go tb e below P (T.setTop g) := q ▸ k
/-- the invocation of s has returned, and Q says what -/
def Fine (s : State) (below : List Frame) (Q : Option Value → Heap → List Loc → Prop) (kc ks : Nat) (t : State) : Prop := ∃ o, t.status = .running ∧ Ended t below o ∧ ∃ v L, o = .returned v ∧ Q v t.heap L ∧ FrameEnd s o t L kc ks
/-- a method's contract, over the tables of the start Z: called with 'as' at the heap h0 it returns, and Q says what -/
def Con (l : Launch) (Z : State) (y : MethodName) (bytes : ByteArray) (maxL : Nat) (ret : Option FieldType) (ws : List Jvm.Cond) (rm : Room) (as : Array Value) (h0 : Heap) (Q : Option Value → Heap → List Loc → Prop) : Prop :=
  MetFree l y (head1 (Jvm.Cond.code y bytes maxL ret :: ws) rm) (fun a U => a = as ∧ Z.Warmed39 U.vm ∧ U.heap = h0) (fun _ _ _ _ _ => True) (fun _ U o U' => ∃ v L, o = .returned v ∧ Q v U'.heap L ∧ FrameEnd U o U' L rm.cells rm.slots)
theorem Con.of {l : Launch} {Z : State} {y : MethodName} {bytes : ByteArray} {maxL : Nat} {ret : Option FieldType} {ws : List Jvm.Cond} {rm : Room} {as : Array Value} {h0 : Heap} {Q : Option Value → Heap → List Loc → Prop} (hpl : plainFor y = true)
    (body : ∀ (p : Program) (e : Env) (s : State) (m : MethodId) (below : List Frame) (meth : Method) (c : Code) (s₁ : State), Z.Warmed39 s.vm → s₁.heap = h0 → Stand p l e rm s m as below meth c s₁ [] 0 0 → p.tables.exec = Jvm.exec → c.code = bytes → c.maxLocals = maxL → s.vm.findClass y.cls = some m.cls → meth.name = y.name → meth.sig.returnType = ret → meth.locks = false →
      Go p.tables e below (Fine s below Q rm.cells rm.slots) (s₁.setTop (entryFrame m as maxL))) : Con l Z y bytes maxL ret ws rm as h0 Q := by
  refine MetFree.of_bodySF hpl hisR ?_
  intro p e s m args below meth c s₁ Bd hml hP hK
  obtain ⟨rfl, hZ, hh⟩ := hP
  have e0 : s₁.heap = h0 := by rw [← hh, Bd.state]; rfl
  obtain ⟨t, h1, o, h2, h3, h4⟩ := body p e s m below meth c s₁ hZ e0 (Stand.of_body Bd) Bd.exec Bd.bytes hml (findClass_of_methodNamed Bd.named) (name_of_methodNamed Bd.named Bd.method).1 Bd.returns Bd.notSynchronized
  exact ⟨t, o, h1, h2, h3, h4⟩
def bi (P : Prop) [Decidable P] : Int32 := if P then 1 else 0
theorem bi_t {P : Prop} [Decidable P] (h : P) : bi P = 1 := if_pos h
theorem bi_f {P : Prop} [Decidable P] (h : ¬ P) : bi P = 0 := if_neg h
theorem eqL_v {args : Array Value} {first s : State} {o : Option Outcome} {idx : List Nat} {t : Term} {k : Int64} (h : (Cond.eq t (.long k)).value args first o s idx = some true) : t.eval args first o idx s = some (.long k) := by
  obtain ⟨x, y, ev, ey, -, hk⟩ := cmp_v (Or.inl h)
  obtain rfl : Value.long k = y := Option.some.inj ey
  obtain ⟨z, rfl⟩ := hk
  obtain rfl : z = k := gotT (eq_L ev ey) h
  exact ev
theorem eqI_v {args : Array Value} {first s : State} {o : Option Outcome} {idx : List Nat} {t : Term} {k : Int32} (h : (Cond.eq t (.int k)).value args first o s idx = some true) : t.eval args first o idx s = some (.int k) := by
  obtain ⟨x, y, ev, ey, -, hk⟩ := cmp_v (Or.inl h)
  obtain rfl : Value.int k = y := Option.some.inj ey
  obtain ⟨z, rfl⟩ := hk
  have q : (Cond.eq t (.int k)).value args first o s idx = some (decide (z = k)) := by simp [Cond.value, ev, ey]
  obtain rfl : z = k := gotT q h
  exact ev
section
variable {p : Program} {l : Launch} {e : Env} {R : Room} {s : State} {m : MethodId} {args : Array Value} {below : List Frame} {meth : Method} {c : Code} {T : State} {locs : List Loc} {cells slots : Nat} {Z : State} {a0 : Array Value} {h : Heap}
theorem fin {Q : Option Value → Heap → List Loc → Prop} {kc ks : Nat} {v : Option Value} {S : State} (X : Stand p l e R s m args below meth c T locs cells slots) (hv : meth.sig.returnType = none → v = none) (hlk : meth.locks = false) (hq : Q v T.heap locs) (hc : cells ≤ kc) (hs : slots ≤ ks)
    (st : ∀ fs, (∀ (f : JFrame) (acts : List Action), f.method = m → f.locked = none → f.entered = [] → (doReturn e (T.setTop f) acts v).1 = T.setFrames fs) → Steps p.tables e below S (T.setFrames fs)) : Go p.tables e below (Fine s below Q kc ks) S := by
  obtain ⟨fs, hr, hrun, hended, hW, hsame⟩ := X.leave (v := v) hv hlk
  exact ⟨_, st fs hr, _, hrun, hended, v, locs, rfl, hq, ⟨_, rfl⟩, hW, hsame.mono hc hs⟩
/-- return of an int, a long, a reference (no narrowing) -/
theorem endW {Q : Option Value → Heap → List Loc → Prop} {kc ks : Nat} (X : Stand p l e R s m args below meth c T locs cells slots) (hx : p.tables.exec = Jvm.exec) (hlk : meth.locks = false) {pc : Nat} {Ls : Array Slot} {w : Value} {t : FieldType} {i : Instr} {rest : List Value} (hret : meth.sig.returnType = some t) (hn : narrow t w = w)
    (hi : (i = .ireturn ∧ (t = .int ∨ t = .boolean ∨ t = .byte ∨ t = .char ∨ t = .short) ∧ ∃ z, w = .int z) ∨ (i = .lreturn ∧ t = .long ∧ ∃ z, w = .long z) ∨ (i = .dreturn ∧ t = .double ∧ ∃ z, w = .double z) ∨ (i = .freturn ∧ t = .float ∧ ∃ z, w = .float z) ∨ (i = .areturn ∧ t.isReference = true ∧ w.isRef = true))
    (hd : decode c.code pc = .ok (i, 1)) (hq : Q (some w) T.heap locs) (hc : cells ≤ kc) (hs : slots ≤ ks) : Go p.tables e below (Fine s below Q kc ks) (T.setTop (mkF m pc Ls (w :: rest))) :=
  fin X (fun h => by rw [hret] at h; cases h) hlk hq hc hs fun fs hr => retOut X hx hret hn hi hd hr
theorem endI {Q : Option Value → Heap → List Loc → Prop} {kc ks : Nat} (X : Stand p l e R s m args below meth c T locs cells slots) (hx : p.tables.exec = Jvm.exec) (hlk : meth.locks = false) {pc : Nat} {Ls : Array Slot} {z : Int32} {rest : List Value} (hret : meth.sig.returnType = some .int)
    (hd : decode c.code pc = .ok (.ireturn, 1)) (hq : Q (some (.int z)) T.heap locs) (hc : cells ≤ kc) (hs : slots ≤ ks) : Go p.tables e below (Fine s below Q kc ks) (T.setTop (mkF m pc Ls (.int z :: rest))) :=
  endW X hx hlk hret rfl (Or.inl ⟨rfl, Or.inl rfl, z, rfl⟩) hd hq hc hs
theorem endJ {Q : Option Value → Heap → List Loc → Prop} {kc ks : Nat} (X : Stand p l e R s m args below meth c T locs cells slots) (hx : p.tables.exec = Jvm.exec) (hlk : meth.locks = false) {pc : Nat} {Ls : Array Slot} {z : Int64} {rest : List Value} (hret : meth.sig.returnType = some .long)
    (hd : decode c.code pc = .ok (.lreturn, 1)) (hq : Q (some (.long z)) T.heap locs) (hc : cells ≤ kc) (hs : slots ≤ ks) : Go p.tables e below (Fine s below Q kc ks) (T.setTop (mkF m pc Ls (.long z :: rest))) :=
  endW X hx hlk hret rfl (Or.inr (Or.inl ⟨rfl, rfl, z, rfl⟩)) hd hq hc hs
theorem endD {Q : Option Value → Heap → List Loc → Prop} {kc ks : Nat} (X : Stand p l e R s m args below meth c T locs cells slots) (hx : p.tables.exec = Jvm.exec) (hlk : meth.locks = false) {pc : Nat} {Ls : Array Slot} {z : UInt64} {rest : List Value} (hret : meth.sig.returnType = some .double)
    (hd : decode c.code pc = .ok (.dreturn, 1)) (hq : Q (some (.double z)) T.heap locs) (hc : cells ≤ kc) (hs : slots ≤ ks) : Go p.tables e below (Fine s below Q kc ks) (T.setTop (mkF m pc Ls (.double z :: rest))) :=
  endW X hx hlk hret rfl (Or.inr (Or.inr (Or.inl ⟨rfl, rfl, z, rfl⟩))) hd hq hc hs
theorem endR {Q : Option Value → Heap → List Loc → Prop} {kc ks : Nat} (X : Stand p l e R s m args below meth c T locs cells slots) (hx : p.tables.exec = Jvm.exec) (hlk : meth.locks = false) {pc : Nat} {Ls : Array Slot} {w : Value} {t : FieldType} {rest : List Value} (hret : meth.sig.returnType = some t) (ht : t.isReference = true) (hw : w.isRef = true)
    (hd : decode c.code pc = .ok (.areturn, 1)) (hq : Q (some w) T.heap locs) (hc : cells ≤ kc) (hs : slots ≤ ks) : Go p.tables e below (Fine s below Q kc ks) (T.setTop (mkF m pc Ls (w :: rest))) :=
  endW X hx hlk hret (by cases w <;> first | rfl | (cases t <;> first | rfl | cases ht) | cases hw) (Or.inr (Or.inr (Or.inr (Or.inr ⟨rfl, ht, hw⟩)))) hd hq hc hs
/-- return of a boolean, byte, char or short: narrowed -/
theorem endN {Q : Option Value → Heap → List Loc → Prop} {kc ks : Nat} (X : Stand p l e R s m args below meth c T locs cells slots) (hx : p.tables.exec = Jvm.exec) (hlk : meth.locks = false) {pc : Nat} {Ls : Array Slot} {z w : Int32} {t : FieldType} {rest : List Value} (hret : meth.sig.returnType = some t) (ht : t = .boolean ∨ t = .byte ∨ t = .char ∨ t = .short)
    (hd : decode c.code pc = .ok (.ireturn, 1)) (hz : nar t z = w) (hq : Q (some (.int w)) T.heap locs) (hc : cells ≤ kc) (hs : slots ≤ ks) : Go p.tables e below (Fine s below Q kc ks) (T.setTop (mkF m pc Ls (.int z :: rest))) := by
  subst hz
  exact fin X (fun h => by rw [hret] at h; cases h) hlk hq hc hs fun fs hr => retN X hx hret ht hd hr
theorem endV {Q : Option Value → Heap → List Loc → Prop} {kc ks : Nat} (X : Stand p l e R s m args below meth c T locs cells slots) (hx : p.tables.exec = Jvm.exec) (hlk : meth.locks = false) {pc : Nat} {Ls : Array Slot} (hret : meth.sig.returnType = none)
    (hd : decode c.code pc = .ok (.return_, 1)) (hq : Q none T.heap locs) (hc : cells ≤ kc) (hs : slots ≤ ks) : Go p.tables e below (Fine s below Q kc ks) (T.setTop (mkF m pc Ls [])) :=
  fin X (fun _ => rfl) hlk hq hc hs fun fs hr => X.returnOut hx hret hd hr
theorem lremM {g : JFrame} {target : State} (X : Stand p l e R s m args below meth c T locs cells slots) (hx : p.tables.exec = Jvm.exec) (hg : g.method = m) {x y : Int64} {rest : List Value} (hd : decode c.code g.pc = .ok (.lrem, 1)) (hs : g.stack = .long y :: .long x :: rest) (hy : y ≠ 0)
    (hr : Steps p.tables e below (T.setTop { g with pc := g.pc + 1, stack := .long (x % y) :: rest }) target) : Steps p.tables e below (T.setTop g) target := by
  have q : x - x / y * y = x % y := lrem_mod x y
  exact XS.lrem X.here hx hg hd hs hy (by rw [q]; exact hr)
/-- a static call by its contract -/
theorem callSt (X : Stand p l e R s m args below meth c T locs cells slots) (hx : p.tables.exec = Jvm.exec) (hZ : Z.Warmed39 s.vm) {own : String} {index : Nat} {y : MethodName} {bytes : ByteArray} {maxL : Nat} {ret : Option FieldType} {rm : Room} {Q : Option Value → Heap → List Loc → Prop} {argsL rest : List Value}
    (hown : s.vm.findClass own = some m.cls) (w1 : (Cond.methodLink own index y).before a0 Z = true) (w2 : (Cond.static y).before a0 Z = true) (w3 : (Cond.initialized y.cls).before a0 Z = true) (w4 : (Cond.code y bytes maxL ret).before a0 Z = true) (hy : y.cls ≠ "java/lang/invoke/MethodHandle" ∧ y.cls ≠ "java/lang/invoke/VarHandle")
    (hM : Con l Z y bytes maxL ret [] rm argsL.toArray h Q) (eT : T.heap = h) (W : Nat) (hf : rm.frames + 1 ≤ R.frames) (hl : W + (maxL + 11) + rm.locals ≤ R.locals) (hcc : cells + rm.cells ≤ R.cells) (hss : slots + rm.slots ≤ R.slots)
    {g : JFrame} (hg : g.method = m) (hsize : g.locals.size = c.maxLocals) (hlen : ∀ sig, parseMethodDescriptor y.desc = some sig → argsL.length = sig.parameters.length)
    (hstack : g.stack = argsL.reverse ++ rest) (hW : 2 * g.monitorRoom + (rest.map fun v => v.category).sum ≤ W) (hd : decode c.code g.pc = .ok (.invokestatic index, 3)) :
    ∃ v T' L, Stand p l e R s m args below meth c T' (locs ++ L) (cells + rm.cells) (slots + rm.slots) ∧ Q v T'.heap L ∧ ∀ target, Steps p.tables e below (T'.setTop { g with pc := g.pc + 3, stack := v.toList ++ rest }) target → Steps p.tables e below (T.setTop g) target := by
  obtain ⟨v, vm1, ⟨T', L', k', n'⟩, -, X', ⟨L, hQ, l1, l2, l3⟩, st⟩ := Jvm.LawKit.callS X hx hown (mvT hZ w1) (mvT hZ w2) (mvT hZ w3) (mvT hZ w4) hy (backOf (Q := Q) (W := W) hM hZ w4 w3 hf hl) hg hsize hlen hstack hW hd (fun _ _ => ⟨rfl, eT, hcc, hss⟩)
  (try dsimp only at X' l1 l2 l3 st hQ)
  subst l1 l2 l3
  exact ⟨v, T', L, X', hQ, st⟩
/-- a constructor by its contract -/
theorem callIn (X : Stand p l e R s m args below meth c T locs cells slots) (hx : p.tables.exec = Jvm.exec) (hZ : Z.Warmed39 s.vm) {own : String} {index : Nat} {y : MethodName} {bytes : ByteArray} {maxL : Nat} {rm : Room} {Q : Option Value → Heap → List Loc → Prop} {a : Addr} {argsL rest : List Value} (hy1 : y.name = "<init>")
    (hown : s.vm.findClass own = some m.cls) (w1 : (Cond.methodLink own index y).before a0 Z = true) (w2 : (Cond.instanceMethod y).before a0 Z = true) (w3 : (Cond.initialized y.cls).before a0 Z = true) (w4 : (Cond.code y bytes maxL none).before a0 Z = true) (hy : y.cls ≠ "java/lang/invoke/MethodHandle" ∧ y.cls ≠ "java/lang/invoke/VarHandle")
    (hM : Con l Z y bytes maxL none [] rm (.ref a :: argsL).toArray h Q) (eT : T.heap = h) (W : Nat) (hf : rm.frames + 1 ≤ R.frames) (hl : W + (maxL + 11) + rm.locals ≤ R.locals) (hcc : cells + rm.cells ≤ R.cells) (hss : slots + rm.slots ≤ R.slots)
    {g : JFrame} (hg : g.method = m) (hsize : g.locals.size = c.maxLocals) (hlen : ∀ sig, parseMethodDescriptor y.desc = some sig → argsL.length = sig.parameters.length)
    (hstack : g.stack = argsL.reverse ++ .ref a :: rest) (hW : 2 * g.monitorRoom + (rest.map fun v => v.category).sum ≤ W) (hd : decode c.code g.pc = .ok (.invokespecial index, 3)) :
    ∃ v T' L, Stand p l e R s m args below meth c T' (locs ++ L) (cells + rm.cells) (slots + rm.slots) ∧ Q v T'.heap L ∧ ∀ target, Steps p.tables e below (T'.setTop { g with pc := g.pc + 3, stack := v.toList ++ rest }) target → Steps p.tables e below (T.setTop g) target := by
  obtain ⟨v, vm1, ⟨T', L', k', n'⟩, -, X', ⟨L, hQ, l1, l2, l3⟩, st⟩ := X.specialBack hx hy1 hown (mvT hZ w1) (mvT hZ w2) (mvT hZ w4) hy (backOf (Q := Q) (W := W) hM hZ w4 w3 hf hl) hg hsize (Steps.refl _) hlen hstack hW hd (fun _ _ => ⟨rfl, eT, hcc, hss⟩)
  (try dsimp only at X' l1 l2 l3 st hQ)
  subst l1 l2 l3
  exact ⟨v, T', L, X', hQ, fun target k => st.trans k⟩
/-- an instance method by the contract of the body that the receiver's class selects -/
theorem callVi (X : Stand p l e R s m args below meth c T locs cells slots) (hx : p.tables.exec = Jvm.exec) (hZ : Z.Warmed39 s.vm) {own C : String} {index : Nat} {y z : MethodName} {bytes : ByteArray} {maxL : Nat} {ret : Option FieldType} {rm : Room} {Q : Option Value → Heap → List Loc → Prop} {a : Addr} {argsL rest : List Value}
    (hown : s.vm.findClass own = some m.cls) (w1 : (Cond.methodLink own index y).before a0 Z = true) (w2 : (Cond.declares y).before a0 Z = true) (nf : NotFace s y) (w3 : (Cond.selects C y z).before a0 Z = true) (w4 : (Cond.instanceMethod z).before a0 Z = true) (w5 : (Cond.initialized z.cls).before a0 Z = true) (w6 : (Cond.code z bytes maxL ret).before a0 Z = true) (hy : y.cls ≠ "java/lang/invoke/MethodHandle" ∧ y.cls ≠ "java/lang/invoke/VarHandle")
    (hyz : z.desc = y.desc) (E : Exa Z h a C) (hM : Con l Z z bytes maxL ret [] rm (.ref a :: argsL).toArray h Q) (eT : T.heap = h) (W : Nat) (hf : rm.frames + 1 ≤ R.frames) (hl : W + (maxL + 11) + rm.locals ≤ R.locals) (hcc : cells + rm.cells ≤ R.cells) (hss : slots + rm.slots ≤ R.slots)
    {g : JFrame} (hg : g.method = m) (hsize : g.locals.size = c.maxLocals) (hlen : ∀ sig, parseMethodDescriptor y.desc = some sig → argsL.length = sig.parameters.length)
    (hstack : g.stack = argsL.reverse ++ .ref a :: rest) (hW : 2 * g.monitorRoom + (rest.map fun v => v.category).sum ≤ W) (hd : decode c.code g.pc = .ok (.invokevirtual index, 3)) :
    ∃ v T' L, Stand p l e R s m args below meth c T' (locs ++ L) (cells + rm.cells) (slots + rm.slots) ∧ Q v T'.heap L ∧ ∀ target, Steps p.tables e below (T'.setTop { g with pc := g.pc + 3, stack := v.toList ++ rest }) target → Steps p.tables e below (T.setTop g) target := by
  obtain ⟨cq, kq, qa, qb, qc⟩ := isOf hZ eT E
  obtain ⟨v, vm1, ⟨T', L', k', n'⟩, -, X', ⟨L, hQ, l1, l2, l3⟩, st⟩ := X.virtualBack hx (y := y) (z := z) hown (mvT hZ w1) (mvT hZ w2) nf (mvT hZ w3) (mvT hZ w4) hy (backOf (Q := Q) (W := W) hM hZ w6 w5 hf hl) qa qc hg hsize (Steps.refl _) hlen hstack hW hd (fun _ _ => ⟨rfl, eT, hcc, hss⟩)
  (try dsimp only at X' l1 l2 l3 st hQ)
  subst l1 l2 l3
  exact ⟨v, T', L, X', hQ, fun target k => st.trans k⟩
/-- an array whose k-th element is f k -/
def Afn (Z : State) (h : Heap) (a : Addr) (ty : FieldType) (n : Int32) (f : Nat → Value) : Prop := ∃ c : Cell, Arr Z h a c ty ∧ c.slots.size = n.toNatClampNeg ∧ ¬ n < 0 ∧ ∀ k, k < n.toNatClampNeg → c.slots[k]? = some (f k) ∧ fits ty (f k) = true
theorem Afn.lt {h : Heap} {a : Addr} {ty : FieldType} {n : Int32} {f : Nat → Value} (F : Afn Z h a ty n f) : a < h.size := by obtain ⟨c, A, -⟩ := F; exact A.lt
theorem Afn.nn {h : Heap} {a : Addr} {ty : FieldType} {n : Int32} {f : Nat → Value} (F : Afn Z h a ty n f) : ¬ n < 0 := by obtain ⟨c, -, -, q, -⟩ := F; exact q
theorem Afn.ext {h h' : Heap} {a : Addr} {ty : FieldType} {n : Int32} {f : Nat → Value} (F : Afn Z h a ty n f) (E : Ext h h') : Afn Z h' a ty n f := by obtain ⟨c, A, r⟩ := F; exact ⟨c, A.ext E, r⟩
theorem Afn.other {h h' : Heap} {a b : Addr} {ty : FieldType} {n : Int32} {f : Nat → Value} {sl : Nat} {v : Value} (F : Afn Z h b ty n f) (W : Wr h h' a sl v) (q : b ≠ a) : Afn Z h' b ty n f := by obtain ⟨c, A, r⟩ := F; exact ⟨c, A.other W q, r⟩
theorem Afn.keep {h h' : Heap} {a : Addr} {ty : FieldType} {n : Int32} {f : Nat → Value} {ws : List Addr} (F : Afn Z h a ty n f) (K : Keep h h' ws) (q : a ∉ ws) : Afn Z h' a ty n f := by obtain ⟨c, A, r⟩ := F; exact ⟨c, ⟨K.2.1 a c A.1 q, A.2⟩, r⟩
theorem Afn.congr {h : Heap} {a : Addr} {ty : FieldType} {n : Int32} {f g : Nat → Value} (F : Afn Z h a ty n f) (q : ∀ k, k < n.toNatClampNeg → f k = g k) : Afn Z h a ty n g := by
  obtain ⟨c, A, s, m, r⟩ := F
  exact ⟨c, A, s, m, fun k hk => by rw [← q k hk]; exact r k hk⟩
theorem Afn.new {h : Heap} {a : Addr} {ty : FieldType} {n : Int32} {k : ClassId} (A : Arr Z h a (newA k ty n) ty) (q : ¬ n < 0) : Afn Z h a ty n (fun _ => defaultValue ty) := by
  obtain ⟨c, B, -, s, m, H, G⟩ := Arv.new A q
  exact ⟨c, B, s, m, fun j hj => ⟨by simpa using H j (by rw [s]; exact hj), by simpa using G j (by rw [s]; exact hj)⟩⟩
theorem Afn.set {h h' : Heap} {a : Addr} {ty : FieldType} {n : Int32} {f : Nat → Value} {c : Cell} {j : Int32} {v : Value} (A : Arr Z h a c ty) (s : c.slots.size = n.toNatClampNeg) (m : ¬ n < 0) (r : ∀ k, k < n.toNatClampNeg → c.slots[k]? = some (f k) ∧ fits ty (f k) = true) (hv : fits ty v = true) (W : Wr h h' a j.toNatClampNeg v) :
    Afn Z h' a ty n (fun k => if k = j.toNatClampNeg then v else f k) := by
  refine ⟨c.setSlot j.toNatClampNeg v, A.same W, by rw [sz_set]; exact s, m, fun k hk => ?_⟩
  dsimp only
  by_cases q : k = j.toNatClampNeg
  · rw [if_pos q]
    refine ⟨?_, hv⟩
    subst q
    simp [Cell.setSlot, s, hk]
  · rw [if_neg q]
    refine ⟨?_, (r k hk).2⟩
    show (c.slots.setIfInBounds _ _)[k]? = _
    rw [Array.getElem?_setIfInBounds_ne (Ne.symm q)]
    exact (r k hk).1
theorem inbN {n j : Int32} (q : ¬ j < 0 ∧ j < n) : j.toNatClampNeg < n.toNatClampNeg := by
  obtain ⟨h1, h2⟩ := q
  rw [Int32.lt_iff_toInt_lt] at h1 h2
  have e : (0 : Int32).toInt = 0 := rfl
  simp only [Int32.toNatClampNeg]
  omega
theorem Afn.of_arv {h : Heap} {a : Addr} {k : ClassId} {ty : FieldType} {n : Int32} {vs : List Value} {d : Value} (F : Arv Z h a k ty n vs d) : Afn Z h a ty n (fun i => vs.getD i d) := by
  obtain ⟨c, A, -, s, m, H, G⟩ := F
  exact ⟨c, A, s, m, fun i hi => ⟨H i (by rw [s]; exact hi), G i (by rw [s]; exact hi)⟩⟩
theorem ns_root {O K : String} {n : Nat} (w : (Cond.noSuperclass O).before a0 Z = true) (wk : (Cond.instantiable K n).before a0 Z = true) (hn : O ≠ K) : NS Z O K := by
  obtain ⟨c, k, h1, h2, h3, -, -⟩ := Cond.noSuperclass_spec w
  obtain ⟨t, kt, g1, -⟩ := Cond.instantiable_spec wk
  have ne := ids_ne h1 g1 hn
  refine ⟨c, t, h1, g1, fun fuel => ?_⟩
  cases fuel with
  | zero => rfl
  | succ f => simp [Vm.isSubclassAux, ne, h2, h3]
theorem ns_no {C S K : String} {n : Nat} (w : (Cond.superclass C S).before a0 Z = true) (wk : (Cond.instantiable K n).before a0 Z = true) (q : NS Z C K) (hn : C ≠ K) : ∃ c t, Z.vm.findClass C = some c ∧ Z.vm.findClass K = some t ∧ Z.vm.assignable c t = false := by
  obtain ⟨c, t, h0, g0, n3⟩ := q
  obtain ⟨p, k, kp, h1, h2, h3, h4, h5, -, h7⟩ := Cond.superclass_spec h0 w
  obtain ⟨t', kt, g1, g2, g3, g4, -⟩ := Cond.instantiable_spec wk
  cases g0.symm.trans g1
  have g5 : kt.isInterface = false := (Bool.or_eq_false_iff.mp g4).1
  have ne := ids_ne h0 g0 hn
  refine ⟨c, t, h0, g0, ?_⟩
  show Z.vm.assignableAux (255 + 1) c t = false
  simp [Vm.assignableAux, ne, h2, g2, h5, g3, g5, Vm.isSubclass, n3]
end
end Jvm.OwnKit
namespace Jvm.Pilot.@@N@@
open Jvm Jvm.ClassFile Sem Op Lib Jvm.Free Jvm.Stand Jvm.LawKit Jvm.RoadKit Jvm.OwnKit Bundle Jvm.Pilot.@@N@@.Jvm.D
def us (x : Int64) (k : Int32) : Int64 := ((x.toUInt64 >>> (k &&& 0x3f).toInt64.toUInt64).toInt64)
def mix1 (z : Int64) (k : Int32) (M : Int64) : Int64 := (z ^^^ us z k) * M
def mix2 (z : Int64) : Int64 := z ^^^ us z 31
def mixL (z0 : Int64) : Int64 := mix2 (mix1 (mix1 z0 30 (-4658895280553007687 : Int64)) 27 (-7723592293110705685 : Int64))
def inv1 (a x : Int64) : Int64 := x * ((2 : Int64) - (a * x))
def invL (a : Int64) : Int64 := inv1 a (inv1 a (inv1 a (inv1 a (inv1 a a))))
def sub3 (o : Int64) (j k : Int32) : Int64 := (o ^^^ us o j) ^^^ us o k
def unmixL (o : Int64) : Int64 := sub3 (sub3 (sub3 o 31 62 * invL (-7723592293110705685 : Int64)) 27 54 * invL (-4658895280553007687 : Int64)) 30 60
theorem d1_0 : decode prog_28_method_1_code 0 = .ok (.aload_n 0, 1) := by decide +kernel
theorem d1_1 : decode prog_28_method_1_code 1 = .ok (.invokespecial 1, 3) := by decide +kernel
theorem d1_4 : decode prog_28_method_1_code 4 = .ok (.aload_n 0, 1) := by decide +kernel
theorem d1_5 : decode prog_28_method_1_code 5 = .ok (.lload_n 1, 1) := by decide +kernel
theorem d1_6 : decode prog_28_method_1_code 6 = .ok (.putfield 7, 3) := by decide +kernel
theorem d1_9 : decode prog_28_method_1_code 9 = .ok (.return_, 1) := by decide +kernel
theorem pn_rm1 : plainName "com/example/banns/banns/SplitMix64" = true := by first | (simp [plainName, overriddenIn]; done) | decide +kernel
theorem ef_rm1 (m : MethodId) (a1 : Addr) (q2 : Int64) : entryFrame m #[(.ref a1), (.long q2)] 3 = mkF m 0 #[.val (.ref a1), .val (.long q2), .second] [] := by first | (simp [entryFrame, mkF, argsToLocals, Value.category]; done) | rfl
def Q1 (Z : State) (a1 : Addr) (q2 : Int64) (h0 : Heap) (n0 : Nat) (v : Option Value) (h : Heap) (L : List Loc) : Prop := v = none ∧ Fr n0 L ∧ Keep h0 h [a1] ∧ Exa Z h a1 "com/example/banns/banns/SplitMix64" ∧ Fld Z h a1 "com/example/banns/banns/SplitMix64" "state" "J" (.long q2)
set_option maxRecDepth 65536 in
set_option maxHeartbeats 40000000 in
theorem rm1 (l : Launch) (Z : State) (a0 : Array Value) (hw : ∀ d ∈ tables_1, d.before a0 Z = true) (ws : List Jvm.Cond) (a1 : Addr) (q2 : Int64) (h0 : Heap) (n0 : Nat) (Z0 : n0 ≤ h0.size) (F_state : Fld Z h0 a1 "com/example/banns/banns/SplitMix64" "state" "J" (.long (0 : Int64))) (E_a1 : Exa Z h0 a1 "com/example/banns/banns/SplitMix64") (g_a1 : n0 ≤ a1) :
    Con l Z (⟨"com/example/banns/banns/SplitMix64", "<init>", "(J)V"⟩ : MethodName) prog_28_method_1_code 3 none ws ({ frames := 1, cells := 0, slots := 0, locals := 12 } : Room) #[(.ref a1), (.long q2)] h0 (Q1 Z a1 q2 h0 n0) := by
  refine Con.of (plainFor_of_name pn_rm1) ?_
  intro p e s m below meth c s₁ hZ e0 X0 hx hby hml hown hnm hret hlk
  replace hml : c.maxLocals = 3 := hml
  have hown : s.vm.findClass "com/example/banns/banns/SplitMix64" = some m.cls := hown
  have N0 : Fr n0 [] := Fr.nil n0
  obtain ⟨PP, hPP⟩ : ∃ P, P = Fine s below (Q1 Z a1 q2 h0 n0) ({ frames := 1, cells := 0, slots := 0, locals := 12 } : Room).cells ({ frames := 1, cells := 0, slots := 0, locals := 12 } : Room).slots := ⟨_, rfl⟩
  rw [← hPP]
  refine Go.cast (ef_rm1 m a1 q2) ?_
  have K : Keep h0 h0 [a1] := Keep.refl h0 _
  have Zn : n0 ≤ h0.size := Z0
  show Go p.tables e below PP (s₁.setTop (mkF m 0 #[.val (.ref a1), .val (.long q2), .second] []))
  refine Go.st (fun t k => XS.aloadN X0.here hx rfl (hb hby d1_0) rfl rfl k) ?_
  show Go p.tables e below PP (s₁.setTop (mkF m 1 #[.val (.ref a1), .val (.long q2), .second] [(.ref a1)]))
  obtain ⟨T1, X1, e1, st1⟩ := initO X0 hx hZ hown (hw _ (List.mem_of_getElem? (i := 6) rfl)) (hw _ (List.mem_of_getElem? (i := 7) rfl)) (hw _ (List.mem_of_getElem? (i := 8) rfl)) e0 (g := (mkF m 1 #[.val (.ref a1), .val (.long q2), .second] [(.ref a1)])) rfl (by rw [hml]; rfl) rfl (hb hby d1_1) (by decide) (W := 0) (by show 2 * 0 + _ ≤ _; exact Nat.le_of_eq rfl) (by decide)
  refine Go.st st1 ?_
  show Go p.tables e below PP (T1.setTop (mkF m 4 #[.val (.ref a1), .val (.long q2), .second] []))
  refine Go.st (fun t k => XS.aloadN X1.here hx rfl (hb hby d1_4) rfl rfl k) ?_
  show Go p.tables e below PP (T1.setTop (mkF m 5 #[.val (.ref a1), .val (.long q2), .second] [(.ref a1)]))
  refine Go.st (fun t k => XS.lloadN X1.here hx rfl (hb hby d1_5) rfl k) ?_
  show Go p.tables e below PP (T1.setTop (mkF m 6 #[.val (.ref a1), .val (.long q2), .second] [(.long q2), (.ref a1)]))
  obtain ⟨T2, h2, X2, e2, W2, st2⟩ := putF X1 hx hZ hown (host := "") (Or.inl (hw _ (List.mem_of_getElem? (i := 9) rfl))) Via.refl e1 F_state E_a1 (Or.inl (hw _ (List.mem_of_getElem? (i := 10) rfl))) (hw _ (List.mem_of_getElem? (i := 1) rfl)) (ty := .long) (by decide) rfl rfl (g := (mkF m 6 #[.val (.ref a1), .val (.long q2), .second] [(.long q2), (.ref a1)])) rfl rfl (hb hby d1_6)
  refine Go.st st2 ?_
  have N2 := Fr.snoc X2 N0 g_a1
  replace E_a1 := E_a1.wr W2
  replace K := K.wr W2 (Or.inl (List.mem_of_getElem? (i := 0) rfl))
  replace Zn : n0 ≤ h2.size := by rw [W2.size]; exact Zn
  replace F_state := F_state.same W2
  show Go p.tables e below PP (T2.setTop (mkF m 9 #[.val (.ref a1), .val (.long q2), .second] []))
  rw [hPP]
  refine endV X2 hx hlk hret (hb hby d1_9) ?_ (by decide) (by decide)
  show Q1 Z a1 q2 h0 n0 none T2.heap _
  rw [e2]
  exact ⟨rfl, N2, K, E_a1, F_state⟩
theorem d3_0 : decode prog_28_method_2_code 0 = .ok (.aload_n 0, 1) := by decide +kernel
theorem d3_1 : decode prog_28_method_2_code 1 = .ok (.dup, 1) := by decide +kernel
theorem d3_2 : decode prog_28_method_2_code 2 = .ok (.getfield 7, 3) := by decide +kernel
theorem d3_5 : decode prog_28_method_2_code 5 = .ok (.ldc2_w 13, 3) := by decide +kernel
theorem d3_8 : decode prog_28_method_2_code 8 = .ok (.ladd, 1) := by decide +kernel
theorem d3_9 : decode prog_28_method_2_code 9 = .ok (.putfield 7, 3) := by decide +kernel
theorem d3_12 : decode prog_28_method_2_code 12 = .ok (.aload_n 0, 1) := by decide +kernel
theorem d3_13 : decode prog_28_method_2_code 13 = .ok (.getfield 7, 3) := by decide +kernel
theorem d3_16 : decode prog_28_method_2_code 16 = .ok (.lstore_n 1, 1) := by decide +kernel
theorem d3_17 : decode prog_28_method_2_code 17 = .ok (.lload_n 1, 1) := by decide +kernel
theorem d3_18 : decode prog_28_method_2_code 18 = .ok (.lload_n 1, 1) := by decide +kernel
theorem d3_19 : decode prog_28_method_2_code 19 = .ok (.bipush 30, 2) := by decide +kernel
theorem d3_21 : decode prog_28_method_2_code 21 = .ok (.lushr, 1) := by decide +kernel
theorem d3_22 : decode prog_28_method_2_code 22 = .ok (.lxor, 1) := by decide +kernel
theorem d3_23 : decode prog_28_method_2_code 23 = .ok (.ldc2_w 15, 3) := by decide +kernel
theorem d3_26 : decode prog_28_method_2_code 26 = .ok (.lmul, 1) := by decide +kernel
theorem d3_27 : decode prog_28_method_2_code 27 = .ok (.lstore_n 1, 1) := by decide +kernel
theorem d3_28 : decode prog_28_method_2_code 28 = .ok (.lload_n 1, 1) := by decide +kernel
theorem d3_29 : decode prog_28_method_2_code 29 = .ok (.lload_n 1, 1) := by decide +kernel
theorem d3_30 : decode prog_28_method_2_code 30 = .ok (.bipush 27, 2) := by decide +kernel
theorem d3_32 : decode prog_28_method_2_code 32 = .ok (.lushr, 1) := by decide +kernel
theorem d3_33 : decode prog_28_method_2_code 33 = .ok (.lxor, 1) := by decide +kernel
theorem d3_34 : decode prog_28_method_2_code 34 = .ok (.ldc2_w 17, 3) := by decide +kernel
theorem d3_37 : decode prog_28_method_2_code 37 = .ok (.lmul, 1) := by decide +kernel
theorem d3_38 : decode prog_28_method_2_code 38 = .ok (.lstore_n 1, 1) := by decide +kernel
theorem d3_39 : decode prog_28_method_2_code 39 = .ok (.lload_n 1, 1) := by decide +kernel
theorem d3_40 : decode prog_28_method_2_code 40 = .ok (.lload_n 1, 1) := by decide +kernel
theorem d3_41 : decode prog_28_method_2_code 41 = .ok (.bipush 31, 2) := by decide +kernel
theorem d3_43 : decode prog_28_method_2_code 43 = .ok (.lushr, 1) := by decide +kernel
theorem d3_44 : decode prog_28_method_2_code 44 = .ok (.lxor, 1) := by decide +kernel
theorem d3_45 : decode prog_28_method_2_code 45 = .ok (.lreturn, 1) := by decide +kernel
theorem pn_rm3 : plainName "com/example/banns/banns/SplitMix64" = true := by first | (simp [plainName, overriddenIn]; done) | decide +kernel
theorem ef_rm3 (m : MethodId) (a1 : Addr) : entryFrame m #[(.ref a1)] 3 = mkF m 0 #[.val (.ref a1), .unset, .unset] [] := by first | (simp [entryFrame, mkF, argsToLocals, Value.category]; done) | rfl
def Q3 (Z : State) (a1 : Addr) (s1 : Int64) (h0 : Heap) (n0 : Nat) (v : Option Value) (h : Heap) (L : List Loc) : Prop := v = some (.long (mixL (s1 + (-7046029254386353131 : Int64)))) ∧ Fr n0 L ∧ Keep h0 h [a1] ∧ Exa Z h a1 "com/example/banns/banns/SplitMix64" ∧ Fld Z h a1 "com/example/banns/banns/SplitMix64" "state" "J" (.long (s1 + (-7046029254386353131 : Int64)))
set_option maxRecDepth 65536 in
set_option maxHeartbeats 40000000 in
theorem rm3 (l : Launch) (Z : State) (a0 : Array Value) (hw : ∀ d ∈ tables_1, d.before a0 Z = true) (ws : List Jvm.Cond) (a1 : Addr) (s1 : Int64) (h0 : Heap) (n0 : Nat) (Z0 : n0 ≤ h0.size) (F_state : Fld Z h0 a1 "com/example/banns/banns/SplitMix64" "state" "J" (.long s1)) (E_a1 : Exa Z h0 a1 "com/example/banns/banns/SplitMix64") (g_a1 : n0 ≤ a1) :
    Con l Z (⟨"com/example/banns/banns/SplitMix64", "next", "()J"⟩ : MethodName) prog_28_method_2_code 3 (some .long) ws ({ frames := 0, cells := 0, slots := 0, locals := 0 } : Room) #[(.ref a1)] h0 (Q3 Z a1 s1 h0 n0) := by
  refine Con.of (plainFor_of_name pn_rm3) ?_
  intro p e s m below meth c s₁ hZ e0 X0 hx hby hml hown hnm hret hlk
  replace hml : c.maxLocals = 3 := hml
  have hown : s.vm.findClass "com/example/banns/banns/SplitMix64" = some m.cls := hown
  have N0 : Fr n0 [] := Fr.nil n0
  obtain ⟨PP, hPP⟩ : ∃ P, P = Fine s below (Q3 Z a1 s1 h0 n0) ({ frames := 0, cells := 0, slots := 0, locals := 0 } : Room).cells ({ frames := 0, cells := 0, slots := 0, locals := 0 } : Room).slots := ⟨_, rfl⟩
  rw [← hPP]
  refine Go.cast (ef_rm3 m a1) ?_
  have K : Keep h0 h0 [a1] := Keep.refl h0 _
  have Zn : n0 ≤ h0.size := Z0
  show Go p.tables e below PP (s₁.setTop (mkF m 0 #[.val (.ref a1), .unset, .unset] []))
  refine Go.st (fun t k => XS.aloadN X0.here hx rfl (hb hby d3_0) rfl rfl k) ?_
  show Go p.tables e below PP (s₁.setTop (mkF m 1 #[.val (.ref a1), .unset, .unset] [(.ref a1)]))
  refine Go.st (fun t k => XS.dup X0.here hx rfl (hb hby d3_1) rfl rfl k) ?_
  show Go p.tables e below PP (s₁.setTop (mkF m 2 #[.val (.ref a1), .unset, .unset] [(.ref a1), (.ref a1)]))
  obtain ⟨T1, X1, e1, st1⟩ := getF X0 hx hZ hown (host := "") (Or.inl (hw _ (List.mem_of_getElem? (i := 9) rfl))) Via.refl e0 F_state (g := (mkF m 2 #[.val (.ref a1), .unset, .unset] [(.ref a1), (.ref a1)])) rfl rfl (hb hby d3_2)
  refine Go.st st1 ?_
  show Go p.tables e below PP (T1.setTop (mkF m 5 #[.val (.ref a1), .unset, .unset] [(.long s1), (.ref a1)]))
  refine Go.st (fun t k => X1.ldc2J hx hown (mvT hZ (hw _ (List.mem_of_getElem? (i := 16) rfl))) (g := (mkF m 5 #[.val (.ref a1), .unset, .unset] [(.long s1), (.ref a1)])) rfl (hb hby d3_5) k) ?_
  show Go p.tables e below PP (T1.setTop (mkF m 8 #[.val (.ref a1), .unset, .unset] [(.long (-7046029254386353131 : Int64)), (.long s1), (.ref a1)]))
  refine Go.st (fun t k => XS.ladd X1.here hx rfl (hb hby d3_8) rfl k) ?_
  show Go p.tables e below PP (T1.setTop (mkF m 9 #[.val (.ref a1), .unset, .unset] [(.long (s1 + (-7046029254386353131 : Int64))), (.ref a1)]))
  obtain ⟨T2, h2, X2, e2, W2, st2⟩ := putF X1 hx hZ hown (host := "") (Or.inl (hw _ (List.mem_of_getElem? (i := 9) rfl))) Via.refl e1 F_state E_a1 (Or.inl (hw _ (List.mem_of_getElem? (i := 10) rfl))) (hw _ (List.mem_of_getElem? (i := 1) rfl)) (ty := .long) (by decide) rfl rfl (g := (mkF m 9 #[.val (.ref a1), .unset, .unset] [(.long (s1 + (-7046029254386353131 : Int64))), (.ref a1)])) rfl rfl (hb hby d3_9)
  refine Go.st st2 ?_
  have N2 := Fr.snoc X2 N0 g_a1
  replace E_a1 := E_a1.wr W2
  replace K := K.wr W2 (Or.inl (List.mem_of_getElem? (i := 0) rfl))
  replace Zn : n0 ≤ h2.size := by rw [W2.size]; exact Zn
  replace F_state := F_state.same W2
  show Go p.tables e below PP (T2.setTop (mkF m 12 #[.val (.ref a1), .unset, .unset] []))
  refine Go.st (fun t k => XS.aloadN X2.here hx rfl (hb hby d3_12) rfl rfl k) ?_
  show Go p.tables e below PP (T2.setTop (mkF m 13 #[.val (.ref a1), .unset, .unset] [(.ref a1)]))
  obtain ⟨T3, X3, e3, st3⟩ := getF X2 hx hZ hown (host := "") (Or.inl (hw _ (List.mem_of_getElem? (i := 9) rfl))) Via.refl e2 F_state (g := (mkF m 13 #[.val (.ref a1), .unset, .unset] [(.ref a1)])) rfl rfl (hb hby d3_13)
  refine Go.st st3 ?_
  show Go p.tables e below PP (T3.setTop (mkF m 16 #[.val (.ref a1), .unset, .unset] [(.long (s1 + (-7046029254386353131 : Int64)))]))
  refine Go.st (fun t k => XS.lstoreN X3.here hx rfl (hb hby d3_16) rfl (l' := #[.val (.ref a1), .val (.long (s1 + (-7046029254386353131 : Int64))), .second]) rfl k) ?_
  show Go p.tables e below PP (T3.setTop (mkF m 17 #[.val (.ref a1), .val (.long (s1 + (-7046029254386353131 : Int64))), .second] []))
  refine Go.st (fun t k => XS.lloadN X3.here hx rfl (hb hby d3_17) rfl k) ?_
  show Go p.tables e below PP (T3.setTop (mkF m 18 #[.val (.ref a1), .val (.long (s1 + (-7046029254386353131 : Int64))), .second] [(.long (s1 + (-7046029254386353131 : Int64)))]))
  refine Go.st (fun t k => XS.lloadN X3.here hx rfl (hb hby d3_18) rfl k) ?_
  show Go p.tables e below PP (T3.setTop (mkF m 19 #[.val (.ref a1), .val (.long (s1 + (-7046029254386353131 : Int64))), .second] [(.long (s1 + (-7046029254386353131 : Int64))), (.long (s1 + (-7046029254386353131 : Int64)))]))
  refine Go.st (fun t k => XS.bipush X3.here hx rfl (hb hby d3_19) k) ?_
  show Go p.tables e below PP (T3.setTop (mkF m 21 #[.val (.ref a1), .val (.long (s1 + (-7046029254386353131 : Int64))), .second] [(.int (30 : Int32)), (.long (s1 + (-7046029254386353131 : Int64))), (.long (s1 + (-7046029254386353131 : Int64)))]))
  refine Go.st (fun t k => XS.lushr X3.here hx rfl (hb hby d3_21) rfl k) ?_
  show Go p.tables e below PP (T3.setTop (mkF m 22 #[.val (.ref a1), .val (.long (s1 + (-7046029254386353131 : Int64))), .second] [(.long (((s1 + (-7046029254386353131 : Int64)).toUInt64 >>> ((30 : Int32) &&& 0x3f).toInt64.toUInt64).toInt64)), (.long (s1 + (-7046029254386353131 : Int64)))]))
  refine Go.st (fun t k => XS.lxor X3.here hx rfl (hb hby d3_22) rfl k) ?_
  show Go p.tables e below PP (T3.setTop (mkF m 23 #[.val (.ref a1), .val (.long (s1 + (-7046029254386353131 : Int64))), .second] [(.long ((s1 + (-7046029254386353131 : Int64)) ^^^ (((s1 + (-7046029254386353131 : Int64)).toUInt64 >>> ((30 : Int32) &&& 0x3f).toInt64.toUInt64).toInt64)))]))
  refine Go.st (fun t k => X3.ldc2J hx hown (mvT hZ (hw _ (List.mem_of_getElem? (i := 17) rfl))) (g := (mkF m 23 #[.val (.ref a1), .val (.long (s1 + (-7046029254386353131 : Int64))), .second] [(.long ((s1 + (-7046029254386353131 : Int64)) ^^^ (((s1 + (-7046029254386353131 : Int64)).toUInt64 >>> ((30 : Int32) &&& 0x3f).toInt64.toUInt64).toInt64)))])) rfl (hb hby d3_23) k) ?_
  show Go p.tables e below PP (T3.setTop (mkF m 26 #[.val (.ref a1), .val (.long (s1 + (-7046029254386353131 : Int64))), .second] [(.long (-4658895280553007687 : Int64)), (.long ((s1 + (-7046029254386353131 : Int64)) ^^^ (((s1 + (-7046029254386353131 : Int64)).toUInt64 >>> ((30 : Int32) &&& 0x3f).toInt64.toUInt64).toInt64)))]))
  refine Go.st (fun t k => XS.lmul X3.here hx rfl (hb hby d3_26) rfl k) ?_
  generalize hz1 : (((s1 + (-7046029254386353131 : Int64)) ^^^ (((s1 + (-7046029254386353131 : Int64)).toUInt64 >>> ((30 : Int32) &&& 0x3f).toInt64.toUInt64).toInt64)) * (-4658895280553007687 : Int64)) = z1
  show Go p.tables e below PP (T3.setTop (mkF m 27 #[.val (.ref a1), .val (.long (s1 + (-7046029254386353131 : Int64))), .second] [(.long z1)]))
  refine Go.st (fun t k => XS.lstoreN X3.here hx rfl (hb hby d3_27) rfl (l' := #[.val (.ref a1), .val (.long z1), .second]) rfl k) ?_
  show Go p.tables e below PP (T3.setTop (mkF m 28 #[.val (.ref a1), .val (.long z1), .second] []))
  refine Go.st (fun t k => XS.lloadN X3.here hx rfl (hb hby d3_28) rfl k) ?_
  show Go p.tables e below PP (T3.setTop (mkF m 29 #[.val (.ref a1), .val (.long z1), .second] [(.long z1)]))
  refine Go.st (fun t k => XS.lloadN X3.here hx rfl (hb hby d3_29) rfl k) ?_
  show Go p.tables e below PP (T3.setTop (mkF m 30 #[.val (.ref a1), .val (.long z1), .second] [(.long z1), (.long z1)]))
  refine Go.st (fun t k => XS.bipush X3.here hx rfl (hb hby d3_30) k) ?_
  show Go p.tables e below PP (T3.setTop (mkF m 32 #[.val (.ref a1), .val (.long z1), .second] [(.int (27 : Int32)), (.long z1), (.long z1)]))
  refine Go.st (fun t k => XS.lushr X3.here hx rfl (hb hby d3_32) rfl k) ?_
  show Go p.tables e below PP (T3.setTop (mkF m 33 #[.val (.ref a1), .val (.long z1), .second] [(.long ((z1.toUInt64 >>> ((27 : Int32) &&& 0x3f).toInt64.toUInt64).toInt64)), (.long z1)]))
  refine Go.st (fun t k => XS.lxor X3.here hx rfl (hb hby d3_33) rfl k) ?_
  show Go p.tables e below PP (T3.setTop (mkF m 34 #[.val (.ref a1), .val (.long z1), .second] [(.long (z1 ^^^ ((z1.toUInt64 >>> ((27 : Int32) &&& 0x3f).toInt64.toUInt64).toInt64)))]))
  refine Go.st (fun t k => X3.ldc2J hx hown (mvT hZ (hw _ (List.mem_of_getElem? (i := 18) rfl))) (g := (mkF m 34 #[.val (.ref a1), .val (.long z1), .second] [(.long (z1 ^^^ ((z1.toUInt64 >>> ((27 : Int32) &&& 0x3f).toInt64.toUInt64).toInt64)))])) rfl (hb hby d3_34) k) ?_
  show Go p.tables e below PP (T3.setTop (mkF m 37 #[.val (.ref a1), .val (.long z1), .second] [(.long (-7723592293110705685 : Int64)), (.long (z1 ^^^ ((z1.toUInt64 >>> ((27 : Int32) &&& 0x3f).toInt64.toUInt64).toInt64)))]))
  refine Go.st (fun t k => XS.lmul X3.here hx rfl (hb hby d3_37) rfl k) ?_
  generalize hz2 : ((z1 ^^^ ((z1.toUInt64 >>> ((27 : Int32) &&& 0x3f).toInt64.toUInt64).toInt64)) * (-7723592293110705685 : Int64)) = z2
  show Go p.tables e below PP (T3.setTop (mkF m 38 #[.val (.ref a1), .val (.long z1), .second] [(.long z2)]))
  refine Go.st (fun t k => XS.lstoreN X3.here hx rfl (hb hby d3_38) rfl (l' := #[.val (.ref a1), .val (.long z2), .second]) rfl k) ?_
  show Go p.tables e below PP (T3.setTop (mkF m 39 #[.val (.ref a1), .val (.long z2), .second] []))
  refine Go.st (fun t k => XS.lloadN X3.here hx rfl (hb hby d3_39) rfl k) ?_
  show Go p.tables e below PP (T3.setTop (mkF m 40 #[.val (.ref a1), .val (.long z2), .second] [(.long z2)]))
  refine Go.st (fun t k => XS.lloadN X3.here hx rfl (hb hby d3_40) rfl k) ?_
  show Go p.tables e below PP (T3.setTop (mkF m 41 #[.val (.ref a1), .val (.long z2), .second] [(.long z2), (.long z2)]))
  refine Go.st (fun t k => XS.bipush X3.here hx rfl (hb hby d3_41) k) ?_
  show Go p.tables e below PP (T3.setTop (mkF m 43 #[.val (.ref a1), .val (.long z2), .second] [(.int (31 : Int32)), (.long z2), (.long z2)]))
  refine Go.st (fun t k => XS.lushr X3.here hx rfl (hb hby d3_43) rfl k) ?_
  show Go p.tables e below PP (T3.setTop (mkF m 44 #[.val (.ref a1), .val (.long z2), .second] [(.long ((z2.toUInt64 >>> ((31 : Int32) &&& 0x3f).toInt64.toUInt64).toInt64)), (.long z2)]))
  refine Go.st (fun t k => XS.lxor X3.here hx rfl (hb hby d3_44) rfl k) ?_
  show Go p.tables e below PP (T3.setTop (mkF m 45 #[.val (.ref a1), .val (.long z2), .second] [(.long (z2 ^^^ ((z2.toUInt64 >>> ((31 : Int32) &&& 0x3f).toInt64.toUInt64).toInt64)))]))
  rw [hPP]
  refine endJ X3 hx hlk hret (hb hby d3_45) ?_ (by decide) (by decide)
  show Q3 Z a1 s1 h0 n0 (some (.long (z2 ^^^ ((z2.toUInt64 >>> ((31 : Int32) &&& 0x3f).toInt64.toUInt64).toInt64)))) T3.heap _
  rw [e3]
  exact ⟨by subst hz1 hz2; rfl, N2, K, E_a1, F_state⟩
theorem d5_0 : decode method_2_code 0 = .ok (.lload_n 0, 1) := by decide +kernel
theorem d5_1 : decode method_2_code 1 = .ok (.lstore_n 2, 1) := by decide +kernel
theorem d5_2 : decode method_2_code 2 = .ok (.lload_n 2, 1) := by decide +kernel
theorem d5_3 : decode method_2_code 3 = .ok (.ldc2_w 7, 3) := by decide +kernel
theorem d5_6 : decode method_2_code 6 = .ok (.lload_n 0, 1) := by decide +kernel
theorem d5_7 : decode method_2_code 7 = .ok (.lload_n 2, 1) := by decide +kernel
theorem d5_8 : decode method_2_code 8 = .ok (.lmul, 1) := by decide +kernel
theorem d5_9 : decode method_2_code 9 = .ok (.lsub, 1) := by decide +kernel
theorem d5_10 : decode method_2_code 10 = .ok (.lmul, 1) := by decide +kernel
theorem d5_11 : decode method_2_code 11 = .ok (.lstore_n 2, 1) := by decide +kernel
theorem d5_12 : decode method_2_code 12 = .ok (.lload_n 2, 1) := by decide +kernel
theorem d5_13 : decode method_2_code 13 = .ok (.ldc2_w 7, 3) := by decide +kernel
theorem d5_16 : decode method_2_code 16 = .ok (.lload_n 0, 1) := by decide +kernel
theorem d5_17 : decode method_2_code 17 = .ok (.lload_n 2, 1) := by decide +kernel
theorem d5_18 : decode method_2_code 18 = .ok (.lmul, 1) := by decide +kernel
theorem d5_19 : decode method_2_code 19 = .ok (.lsub, 1) := by decide +kernel
theorem d5_20 : decode method_2_code 20 = .ok (.lmul, 1) := by decide +kernel
theorem d5_21 : decode method_2_code 21 = .ok (.lstore_n 2, 1) := by decide +kernel
theorem d5_22 : decode method_2_code 22 = .ok (.lload_n 2, 1) := by decide +kernel
theorem d5_23 : decode method_2_code 23 = .ok (.ldc2_w 7, 3) := by decide +kernel
theorem d5_26 : decode method_2_code 26 = .ok (.lload_n 0, 1) := by decide +kernel
theorem d5_27 : decode method_2_code 27 = .ok (.lload_n 2, 1) := by decide +kernel
theorem d5_28 : decode method_2_code 28 = .ok (.lmul, 1) := by decide +kernel
theorem d5_29 : decode method_2_code 29 = .ok (.lsub, 1) := by decide +kernel
theorem d5_30 : decode method_2_code 30 = .ok (.lmul, 1) := by decide +kernel
theorem d5_31 : decode method_2_code 31 = .ok (.lstore_n 2, 1) := by decide +kernel
theorem d5_32 : decode method_2_code 32 = .ok (.lload_n 2, 1) := by decide +kernel
theorem d5_33 : decode method_2_code 33 = .ok (.ldc2_w 7, 3) := by decide +kernel
theorem d5_36 : decode method_2_code 36 = .ok (.lload_n 0, 1) := by decide +kernel
theorem d5_37 : decode method_2_code 37 = .ok (.lload_n 2, 1) := by decide +kernel
theorem d5_38 : decode method_2_code 38 = .ok (.lmul, 1) := by decide +kernel
theorem d5_39 : decode method_2_code 39 = .ok (.lsub, 1) := by decide +kernel
theorem d5_40 : decode method_2_code 40 = .ok (.lmul, 1) := by decide +kernel
theorem d5_41 : decode method_2_code 41 = .ok (.lstore_n 2, 1) := by decide +kernel
theorem d5_42 : decode method_2_code 42 = .ok (.lload_n 2, 1) := by decide +kernel
theorem d5_43 : decode method_2_code 43 = .ok (.ldc2_w 7, 3) := by decide +kernel
theorem d5_46 : decode method_2_code 46 = .ok (.lload_n 0, 1) := by decide +kernel
theorem d5_47 : decode method_2_code 47 = .ok (.lload_n 2, 1) := by decide +kernel
theorem d5_48 : decode method_2_code 48 = .ok (.lmul, 1) := by decide +kernel
theorem d5_49 : decode method_2_code 49 = .ok (.lsub, 1) := by decide +kernel
theorem d5_50 : decode method_2_code 50 = .ok (.lmul, 1) := by decide +kernel
theorem d5_51 : decode method_2_code 51 = .ok (.lstore_n 2, 1) := by decide +kernel
theorem d5_52 : decode method_2_code 52 = .ok (.lload_n 2, 1) := by decide +kernel
theorem d5_53 : decode method_2_code 53 = .ok (.lreturn, 1) := by decide +kernel
theorem pn_rm5 : plainName "com/example/banns/banns/SplitMix64NextPinLaw" = true := by first | (simp [plainName, overriddenIn]; done) | decide +kernel
theorem ef_rm5 (m : MethodId) (q1 : Int64) : entryFrame m #[(.long q1)] 4 = mkF m 0 #[.val (.long q1), .second, .unset, .unset] [] := by first | (simp [entryFrame, mkF, argsToLocals, Value.category]; done) | rfl
def Q5 (Z : State) (q1 : Int64) (h0 : Heap) (n0 : Nat) (v : Option Value) (h : Heap) (L : List Loc) : Prop := v = some (.long (invL q1)) ∧ L = [] ∧ h = h0
set_option maxRecDepth 65536 in
set_option maxHeartbeats 40000000 in
theorem rm5 (l : Launch) (Z : State) (a0 : Array Value) (hw : ∀ d ∈ tables_1, d.before a0 Z = true) (ws : List Jvm.Cond) (q1 : Int64) (h0 : Heap) (n0 : Nat) (Z0 : n0 ≤ h0.size) :
    Con l Z (⟨"com/example/banns/banns/SplitMix64NextPinLaw", "inverse", "(J)J"⟩ : MethodName) method_2_code 4 (some .long) ws ({ frames := 0, cells := 0, slots := 0, locals := 0 } : Room) #[(.long q1)] h0 (Q5 Z q1 h0 n0) := by
  refine Con.of (plainFor_of_name pn_rm5) ?_
  intro p e s m below meth c s₁ hZ e0 X0 hx hby hml hown hnm hret hlk
  replace hml : c.maxLocals = 4 := hml
  have hown : s.vm.findClass "com/example/banns/banns/SplitMix64NextPinLaw" = some m.cls := hown
  have N0 : Fr n0 [] := Fr.nil n0
  obtain ⟨PP, hPP⟩ : ∃ P, P = Fine s below (Q5 Z q1 h0 n0) ({ frames := 0, cells := 0, slots := 0, locals := 0 } : Room).cells ({ frames := 0, cells := 0, slots := 0, locals := 0 } : Room).slots := ⟨_, rfl⟩
  rw [← hPP]
  refine Go.cast (ef_rm5 m q1) ?_
  have Zn : n0 ≤ h0.size := Z0
  show Go p.tables e below PP (s₁.setTop (mkF m 0 #[.val (.long q1), .second, .unset, .unset] []))
  refine Go.st (fun t k => XS.lloadN X0.here hx rfl (hb hby d5_0) rfl k) ?_
  show Go p.tables e below PP (s₁.setTop (mkF m 1 #[.val (.long q1), .second, .unset, .unset] [(.long q1)]))
  refine Go.st (fun t k => XS.lstoreN X0.here hx rfl (hb hby d5_1) rfl (l' := #[.val (.long q1), .second, .val (.long q1), .second]) rfl k) ?_
  show Go p.tables e below PP (s₁.setTop (mkF m 2 #[.val (.long q1), .second, .val (.long q1), .second] []))
  refine Go.st (fun t k => XS.lloadN X0.here hx rfl (hb hby d5_2) rfl k) ?_
  show Go p.tables e below PP (s₁.setTop (mkF m 3 #[.val (.long q1), .second, .val (.long q1), .second] [(.long q1)]))
  refine Go.st (fun t k => X0.ldc2J hx hown (mvT hZ (hw _ (List.mem_of_getElem? (i := 27) rfl))) (g := (mkF m 3 #[.val (.long q1), .second, .val (.long q1), .second] [(.long q1)])) rfl (hb hby d5_3) k) ?_
  show Go p.tables e below PP (s₁.setTop (mkF m 6 #[.val (.long q1), .second, .val (.long q1), .second] [(.long (2 : Int64)), (.long q1)]))
  refine Go.st (fun t k => XS.lloadN X0.here hx rfl (hb hby d5_6) rfl k) ?_
  show Go p.tables e below PP (s₁.setTop (mkF m 7 #[.val (.long q1), .second, .val (.long q1), .second] [(.long q1), (.long (2 : Int64)), (.long q1)]))
  refine Go.st (fun t k => XS.lloadN X0.here hx rfl (hb hby d5_7) rfl k) ?_
  show Go p.tables e below PP (s₁.setTop (mkF m 8 #[.val (.long q1), .second, .val (.long q1), .second] [(.long q1), (.long q1), (.long (2 : Int64)), (.long q1)]))
  refine Go.st (fun t k => XS.lmul X0.here hx rfl (hb hby d5_8) rfl k) ?_
  show Go p.tables e below PP (s₁.setTop (mkF m 9 #[.val (.long q1), .second, .val (.long q1), .second] [(.long (q1 * q1)), (.long (2 : Int64)), (.long q1)]))
  refine Go.st (fun t k => XS.lsub X0.here hx rfl (hb hby d5_9) rfl k) ?_
  show Go p.tables e below PP (s₁.setTop (mkF m 10 #[.val (.long q1), .second, .val (.long q1), .second] [(.long ((2 : Int64) - (q1 * q1))), (.long q1)]))
  refine Go.st (fun t k => XS.lmul X0.here hx rfl (hb hby d5_10) rfl k) ?_
  generalize hx1 : (q1 * ((2 : Int64) - (q1 * q1))) = x1
  show Go p.tables e below PP (s₁.setTop (mkF m 11 #[.val (.long q1), .second, .val (.long q1), .second] [(.long x1)]))
  refine Go.st (fun t k => XS.lstoreN X0.here hx rfl (hb hby d5_11) rfl (l' := #[.val (.long q1), .second, .val (.long x1), .second]) rfl k) ?_
  show Go p.tables e below PP (s₁.setTop (mkF m 12 #[.val (.long q1), .second, .val (.long x1), .second] []))
  refine Go.st (fun t k => XS.lloadN X0.here hx rfl (hb hby d5_12) rfl k) ?_
  show Go p.tables e below PP (s₁.setTop (mkF m 13 #[.val (.long q1), .second, .val (.long x1), .second] [(.long x1)]))
  refine Go.st (fun t k => X0.ldc2J hx hown (mvT hZ (hw _ (List.mem_of_getElem? (i := 27) rfl))) (g := (mkF m 13 #[.val (.long q1), .second, .val (.long x1), .second] [(.long x1)])) rfl (hb hby d5_13) k) ?_
  show Go p.tables e below PP (s₁.setTop (mkF m 16 #[.val (.long q1), .second, .val (.long x1), .second] [(.long (2 : Int64)), (.long x1)]))
  refine Go.st (fun t k => XS.lloadN X0.here hx rfl (hb hby d5_16) rfl k) ?_
  show Go p.tables e below PP (s₁.setTop (mkF m 17 #[.val (.long q1), .second, .val (.long x1), .second] [(.long q1), (.long (2 : Int64)), (.long x1)]))
  refine Go.st (fun t k => XS.lloadN X0.here hx rfl (hb hby d5_17) rfl k) ?_
  show Go p.tables e below PP (s₁.setTop (mkF m 18 #[.val (.long q1), .second, .val (.long x1), .second] [(.long x1), (.long q1), (.long (2 : Int64)), (.long x1)]))
  refine Go.st (fun t k => XS.lmul X0.here hx rfl (hb hby d5_18) rfl k) ?_
  show Go p.tables e below PP (s₁.setTop (mkF m 19 #[.val (.long q1), .second, .val (.long x1), .second] [(.long (q1 * x1)), (.long (2 : Int64)), (.long x1)]))
  refine Go.st (fun t k => XS.lsub X0.here hx rfl (hb hby d5_19) rfl k) ?_
  show Go p.tables e below PP (s₁.setTop (mkF m 20 #[.val (.long q1), .second, .val (.long x1), .second] [(.long ((2 : Int64) - (q1 * x1))), (.long x1)]))
  refine Go.st (fun t k => XS.lmul X0.here hx rfl (hb hby d5_20) rfl k) ?_
  generalize hx2 : (x1 * ((2 : Int64) - (q1 * x1))) = x2
  show Go p.tables e below PP (s₁.setTop (mkF m 21 #[.val (.long q1), .second, .val (.long x1), .second] [(.long x2)]))
  refine Go.st (fun t k => XS.lstoreN X0.here hx rfl (hb hby d5_21) rfl (l' := #[.val (.long q1), .second, .val (.long x2), .second]) rfl k) ?_
  show Go p.tables e below PP (s₁.setTop (mkF m 22 #[.val (.long q1), .second, .val (.long x2), .second] []))
  refine Go.st (fun t k => XS.lloadN X0.here hx rfl (hb hby d5_22) rfl k) ?_
  show Go p.tables e below PP (s₁.setTop (mkF m 23 #[.val (.long q1), .second, .val (.long x2), .second] [(.long x2)]))
  refine Go.st (fun t k => X0.ldc2J hx hown (mvT hZ (hw _ (List.mem_of_getElem? (i := 27) rfl))) (g := (mkF m 23 #[.val (.long q1), .second, .val (.long x2), .second] [(.long x2)])) rfl (hb hby d5_23) k) ?_
  show Go p.tables e below PP (s₁.setTop (mkF m 26 #[.val (.long q1), .second, .val (.long x2), .second] [(.long (2 : Int64)), (.long x2)]))
  refine Go.st (fun t k => XS.lloadN X0.here hx rfl (hb hby d5_26) rfl k) ?_
  show Go p.tables e below PP (s₁.setTop (mkF m 27 #[.val (.long q1), .second, .val (.long x2), .second] [(.long q1), (.long (2 : Int64)), (.long x2)]))
  refine Go.st (fun t k => XS.lloadN X0.here hx rfl (hb hby d5_27) rfl k) ?_
  show Go p.tables e below PP (s₁.setTop (mkF m 28 #[.val (.long q1), .second, .val (.long x2), .second] [(.long x2), (.long q1), (.long (2 : Int64)), (.long x2)]))
  refine Go.st (fun t k => XS.lmul X0.here hx rfl (hb hby d5_28) rfl k) ?_
  show Go p.tables e below PP (s₁.setTop (mkF m 29 #[.val (.long q1), .second, .val (.long x2), .second] [(.long (q1 * x2)), (.long (2 : Int64)), (.long x2)]))
  refine Go.st (fun t k => XS.lsub X0.here hx rfl (hb hby d5_29) rfl k) ?_
  show Go p.tables e below PP (s₁.setTop (mkF m 30 #[.val (.long q1), .second, .val (.long x2), .second] [(.long ((2 : Int64) - (q1 * x2))), (.long x2)]))
  refine Go.st (fun t k => XS.lmul X0.here hx rfl (hb hby d5_30) rfl k) ?_
  generalize hx3 : (x2 * ((2 : Int64) - (q1 * x2))) = x3
  show Go p.tables e below PP (s₁.setTop (mkF m 31 #[.val (.long q1), .second, .val (.long x2), .second] [(.long x3)]))
  refine Go.st (fun t k => XS.lstoreN X0.here hx rfl (hb hby d5_31) rfl (l' := #[.val (.long q1), .second, .val (.long x3), .second]) rfl k) ?_
  show Go p.tables e below PP (s₁.setTop (mkF m 32 #[.val (.long q1), .second, .val (.long x3), .second] []))
  refine Go.st (fun t k => XS.lloadN X0.here hx rfl (hb hby d5_32) rfl k) ?_
  show Go p.tables e below PP (s₁.setTop (mkF m 33 #[.val (.long q1), .second, .val (.long x3), .second] [(.long x3)]))
  refine Go.st (fun t k => X0.ldc2J hx hown (mvT hZ (hw _ (List.mem_of_getElem? (i := 27) rfl))) (g := (mkF m 33 #[.val (.long q1), .second, .val (.long x3), .second] [(.long x3)])) rfl (hb hby d5_33) k) ?_
  show Go p.tables e below PP (s₁.setTop (mkF m 36 #[.val (.long q1), .second, .val (.long x3), .second] [(.long (2 : Int64)), (.long x3)]))
  refine Go.st (fun t k => XS.lloadN X0.here hx rfl (hb hby d5_36) rfl k) ?_
  show Go p.tables e below PP (s₁.setTop (mkF m 37 #[.val (.long q1), .second, .val (.long x3), .second] [(.long q1), (.long (2 : Int64)), (.long x3)]))
  refine Go.st (fun t k => XS.lloadN X0.here hx rfl (hb hby d5_37) rfl k) ?_
  show Go p.tables e below PP (s₁.setTop (mkF m 38 #[.val (.long q1), .second, .val (.long x3), .second] [(.long x3), (.long q1), (.long (2 : Int64)), (.long x3)]))
  refine Go.st (fun t k => XS.lmul X0.here hx rfl (hb hby d5_38) rfl k) ?_
  show Go p.tables e below PP (s₁.setTop (mkF m 39 #[.val (.long q1), .second, .val (.long x3), .second] [(.long (q1 * x3)), (.long (2 : Int64)), (.long x3)]))
  refine Go.st (fun t k => XS.lsub X0.here hx rfl (hb hby d5_39) rfl k) ?_
  show Go p.tables e below PP (s₁.setTop (mkF m 40 #[.val (.long q1), .second, .val (.long x3), .second] [(.long ((2 : Int64) - (q1 * x3))), (.long x3)]))
  refine Go.st (fun t k => XS.lmul X0.here hx rfl (hb hby d5_40) rfl k) ?_
  generalize hx4 : (x3 * ((2 : Int64) - (q1 * x3))) = x4
  show Go p.tables e below PP (s₁.setTop (mkF m 41 #[.val (.long q1), .second, .val (.long x3), .second] [(.long x4)]))
  refine Go.st (fun t k => XS.lstoreN X0.here hx rfl (hb hby d5_41) rfl (l' := #[.val (.long q1), .second, .val (.long x4), .second]) rfl k) ?_
  show Go p.tables e below PP (s₁.setTop (mkF m 42 #[.val (.long q1), .second, .val (.long x4), .second] []))
  refine Go.st (fun t k => XS.lloadN X0.here hx rfl (hb hby d5_42) rfl k) ?_
  show Go p.tables e below PP (s₁.setTop (mkF m 43 #[.val (.long q1), .second, .val (.long x4), .second] [(.long x4)]))
  refine Go.st (fun t k => X0.ldc2J hx hown (mvT hZ (hw _ (List.mem_of_getElem? (i := 27) rfl))) (g := (mkF m 43 #[.val (.long q1), .second, .val (.long x4), .second] [(.long x4)])) rfl (hb hby d5_43) k) ?_
  show Go p.tables e below PP (s₁.setTop (mkF m 46 #[.val (.long q1), .second, .val (.long x4), .second] [(.long (2 : Int64)), (.long x4)]))
  refine Go.st (fun t k => XS.lloadN X0.here hx rfl (hb hby d5_46) rfl k) ?_
  show Go p.tables e below PP (s₁.setTop (mkF m 47 #[.val (.long q1), .second, .val (.long x4), .second] [(.long q1), (.long (2 : Int64)), (.long x4)]))
  refine Go.st (fun t k => XS.lloadN X0.here hx rfl (hb hby d5_47) rfl k) ?_
  show Go p.tables e below PP (s₁.setTop (mkF m 48 #[.val (.long q1), .second, .val (.long x4), .second] [(.long x4), (.long q1), (.long (2 : Int64)), (.long x4)]))
  refine Go.st (fun t k => XS.lmul X0.here hx rfl (hb hby d5_48) rfl k) ?_
  show Go p.tables e below PP (s₁.setTop (mkF m 49 #[.val (.long q1), .second, .val (.long x4), .second] [(.long (q1 * x4)), (.long (2 : Int64)), (.long x4)]))
  refine Go.st (fun t k => XS.lsub X0.here hx rfl (hb hby d5_49) rfl k) ?_
  show Go p.tables e below PP (s₁.setTop (mkF m 50 #[.val (.long q1), .second, .val (.long x4), .second] [(.long ((2 : Int64) - (q1 * x4))), (.long x4)]))
  refine Go.st (fun t k => XS.lmul X0.here hx rfl (hb hby d5_50) rfl k) ?_
  generalize hx5 : (x4 * ((2 : Int64) - (q1 * x4))) = x5
  show Go p.tables e below PP (s₁.setTop (mkF m 51 #[.val (.long q1), .second, .val (.long x4), .second] [(.long x5)]))
  refine Go.st (fun t k => XS.lstoreN X0.here hx rfl (hb hby d5_51) rfl (l' := #[.val (.long q1), .second, .val (.long x5), .second]) rfl k) ?_
  show Go p.tables e below PP (s₁.setTop (mkF m 52 #[.val (.long q1), .second, .val (.long x5), .second] []))
  refine Go.st (fun t k => XS.lloadN X0.here hx rfl (hb hby d5_52) rfl k) ?_
  show Go p.tables e below PP (s₁.setTop (mkF m 53 #[.val (.long q1), .second, .val (.long x5), .second] [(.long x5)]))
  rw [hPP]
  refine endJ X0 hx hlk hret (hb hby d5_53) ?_ (by decide) (by decide)
  show Q5 Z q1 h0 n0 (some (.long x5)) s₁.heap _
  rw [e0]
  subst hx1 hx2 hx3 hx4 hx5; exact ⟨rfl, rfl, rfl⟩
theorem d4_0 : decode method_3_code 0 = .ok (.lload_n 0, 1) := by decide +kernel
theorem d4_1 : decode method_3_code 1 = .ok (.lload_n 0, 1) := by decide +kernel
theorem d4_2 : decode method_3_code 2 = .ok (.bipush 31, 2) := by decide +kernel
theorem d4_4 : decode method_3_code 4 = .ok (.lushr, 1) := by decide +kernel
theorem d4_5 : decode method_3_code 5 = .ok (.lxor, 1) := by decide +kernel
theorem d4_6 : decode method_3_code 6 = .ok (.lload_n 0, 1) := by decide +kernel
theorem d4_7 : decode method_3_code 7 = .ok (.bipush 62, 2) := by decide +kernel
theorem d4_9 : decode method_3_code 9 = .ok (.lushr, 1) := by decide +kernel
theorem d4_10 : decode method_3_code 10 = .ok (.lxor, 1) := by decide +kernel
theorem d4_11 : decode method_3_code 11 = .ok (.lstore_n 2, 1) := by decide +kernel
theorem d4_12 : decode method_3_code 12 = .ok (.lload_n 2, 1) := by decide +kernel
theorem d4_13 : decode method_3_code 13 = .ok (.ldc2_w 11, 3) := by decide +kernel
theorem d4_16 : decode method_3_code 16 = .ok (.invokestatic 13, 3) := by decide +kernel
theorem d4_19 : decode method_3_code 19 = .ok (.lmul, 1) := by decide +kernel
theorem d4_20 : decode method_3_code 20 = .ok (.lstore 4, 2) := by decide +kernel
theorem d4_22 : decode method_3_code 22 = .ok (.lload 4, 2) := by decide +kernel
theorem d4_24 : decode method_3_code 24 = .ok (.lload 4, 2) := by decide +kernel
theorem d4_26 : decode method_3_code 26 = .ok (.bipush 27, 2) := by decide +kernel
theorem d4_28 : decode method_3_code 28 = .ok (.lushr, 1) := by decide +kernel
theorem d4_29 : decode method_3_code 29 = .ok (.lxor, 1) := by decide +kernel
theorem d4_30 : decode method_3_code 30 = .ok (.lload 4, 2) := by decide +kernel
theorem d4_32 : decode method_3_code 32 = .ok (.bipush 54, 2) := by decide +kernel
theorem d4_34 : decode method_3_code 34 = .ok (.lushr, 1) := by decide +kernel
theorem d4_35 : decode method_3_code 35 = .ok (.lxor, 1) := by decide +kernel
theorem d4_36 : decode method_3_code 36 = .ok (.lstore 6, 2) := by decide +kernel
theorem d4_38 : decode method_3_code 38 = .ok (.lload 6, 2) := by decide +kernel
theorem d4_40 : decode method_3_code 40 = .ok (.ldc2_w 17, 3) := by decide +kernel
theorem d4_43 : decode method_3_code 43 = .ok (.invokestatic 13, 3) := by decide +kernel
theorem d4_46 : decode method_3_code 46 = .ok (.lmul, 1) := by decide +kernel
theorem d4_47 : decode method_3_code 47 = .ok (.lstore 8, 2) := by decide +kernel
theorem d4_49 : decode method_3_code 49 = .ok (.lload 8, 2) := by decide +kernel
theorem d4_51 : decode method_3_code 51 = .ok (.lload 8, 2) := by decide +kernel
theorem d4_53 : decode method_3_code 53 = .ok (.bipush 30, 2) := by decide +kernel
theorem d4_55 : decode method_3_code 55 = .ok (.lushr, 1) := by decide +kernel
theorem d4_56 : decode method_3_code 56 = .ok (.lxor, 1) := by decide +kernel
theorem d4_57 : decode method_3_code 57 = .ok (.lload 8, 2) := by decide +kernel
theorem d4_59 : decode method_3_code 59 = .ok (.bipush 60, 2) := by decide +kernel
theorem d4_61 : decode method_3_code 61 = .ok (.lushr, 1) := by decide +kernel
theorem d4_62 : decode method_3_code 62 = .ok (.lxor, 1) := by decide +kernel
theorem d4_63 : decode method_3_code 63 = .ok (.lreturn, 1) := by decide +kernel
theorem pn_rm4 : plainName "com/example/banns/banns/SplitMix64NextPinLaw" = true := by first | (simp [plainName, overriddenIn]; done) | decide +kernel
theorem ef_rm4 (m : MethodId) (q1 : Int64) : entryFrame m #[(.long q1)] 10 = mkF m 0 #[.val (.long q1), .second, .unset, .unset, .unset, .unset, .unset, .unset, .unset, .unset] [] := by first | (simp [entryFrame, mkF, argsToLocals, Value.category]; done) | rfl
def Q4 (Z : State) (q1 : Int64) (h0 : Heap) (n0 : Nat) (v : Option Value) (h : Heap) (L : List Loc) : Prop := v = some (.long (unmixL q1)) ∧ L = [] ∧ h = h0
theorem pd_0 : parseMethodDescriptor "(J)J" = some ⟨[.long], some .long⟩ := by decide +kernel
set_option maxRecDepth 65536 in
set_option maxHeartbeats 40000000 in
theorem rm4 (l : Launch) (Z : State) (a0 : Array Value) (hw : ∀ d ∈ tables_1, d.before a0 Z = true) (ws : List Jvm.Cond) (q1 : Int64) (h0 : Heap) (n0 : Nat) (Z0 : n0 ≤ h0.size) :
    Con l Z (⟨"com/example/banns/banns/SplitMix64NextPinLaw", "unmix", "(J)J"⟩ : MethodName) method_3_code 10 (some .long) ws ({ frames := 1, cells := 0, slots := 0, locals := 17 } : Room) #[(.long q1)] h0 (Q4 Z q1 h0 n0) := by
  refine Con.of (plainFor_of_name pn_rm4) ?_
  intro p e s m below meth c s₁ hZ e0 X0 hx hby hml hown hnm hret hlk
  replace hml : c.maxLocals = 10 := hml
  have hown : s.vm.findClass "com/example/banns/banns/SplitMix64NextPinLaw" = some m.cls := hown
  have N0 : Fr n0 [] := Fr.nil n0
  obtain ⟨PP, hPP⟩ : ∃ P, P = Fine s below (Q4 Z q1 h0 n0) ({ frames := 1, cells := 0, slots := 0, locals := 17 } : Room).cells ({ frames := 1, cells := 0, slots := 0, locals := 17 } : Room).slots := ⟨_, rfl⟩
  rw [← hPP]
  refine Go.cast (ef_rm4 m q1) ?_
  have Zn : n0 ≤ h0.size := Z0
  show Go p.tables e below PP (s₁.setTop (mkF m 0 #[.val (.long q1), .second, .unset, .unset, .unset, .unset, .unset, .unset, .unset, .unset] []))
  refine Go.st (fun t k => XS.lloadN X0.here hx rfl (hb hby d4_0) rfl k) ?_
  show Go p.tables e below PP (s₁.setTop (mkF m 1 #[.val (.long q1), .second, .unset, .unset, .unset, .unset, .unset, .unset, .unset, .unset] [(.long q1)]))
  refine Go.st (fun t k => XS.lloadN X0.here hx rfl (hb hby d4_1) rfl k) ?_
  show Go p.tables e below PP (s₁.setTop (mkF m 2 #[.val (.long q1), .second, .unset, .unset, .unset, .unset, .unset, .unset, .unset, .unset] [(.long q1), (.long q1)]))
  refine Go.st (fun t k => XS.bipush X0.here hx rfl (hb hby d4_2) k) ?_
  show Go p.tables e below PP (s₁.setTop (mkF m 4 #[.val (.long q1), .second, .unset, .unset, .unset, .unset, .unset, .unset, .unset, .unset] [(.int (31 : Int32)), (.long q1), (.long q1)]))
  refine Go.st (fun t k => XS.lushr X0.here hx rfl (hb hby d4_4) rfl k) ?_
  show Go p.tables e below PP (s₁.setTop (mkF m 5 #[.val (.long q1), .second, .unset, .unset, .unset, .unset, .unset, .unset, .unset, .unset] [(.long ((q1.toUInt64 >>> ((31 : Int32) &&& 0x3f).toInt64.toUInt64).toInt64)), (.long q1)]))
  refine Go.st (fun t k => XS.lxor X0.here hx rfl (hb hby d4_5) rfl k) ?_
  show Go p.tables e below PP (s₁.setTop (mkF m 6 #[.val (.long q1), .second, .unset, .unset, .unset, .unset, .unset, .unset, .unset, .unset] [(.long (q1 ^^^ ((q1.toUInt64 >>> ((31 : Int32) &&& 0x3f).toInt64.toUInt64).toInt64)))]))
  refine Go.st (fun t k => XS.lloadN X0.here hx rfl (hb hby d4_6) rfl k) ?_
  show Go p.tables e below PP (s₁.setTop (mkF m 7 #[.val (.long q1), .second, .unset, .unset, .unset, .unset, .unset, .unset, .unset, .unset] [(.long q1), (.long (q1 ^^^ ((q1.toUInt64 >>> ((31 : Int32) &&& 0x3f).toInt64.toUInt64).toInt64)))]))
  refine Go.st (fun t k => XS.bipush X0.here hx rfl (hb hby d4_7) k) ?_
  show Go p.tables e below PP (s₁.setTop (mkF m 9 #[.val (.long q1), .second, .unset, .unset, .unset, .unset, .unset, .unset, .unset, .unset] [(.int (62 : Int32)), (.long q1), (.long (q1 ^^^ ((q1.toUInt64 >>> ((31 : Int32) &&& 0x3f).toInt64.toUInt64).toInt64)))]))
  refine Go.st (fun t k => XS.lushr X0.here hx rfl (hb hby d4_9) rfl k) ?_
  show Go p.tables e below PP (s₁.setTop (mkF m 10 #[.val (.long q1), .second, .unset, .unset, .unset, .unset, .unset, .unset, .unset, .unset] [(.long ((q1.toUInt64 >>> ((62 : Int32) &&& 0x3f).toInt64.toUInt64).toInt64)), (.long (q1 ^^^ ((q1.toUInt64 >>> ((31 : Int32) &&& 0x3f).toInt64.toUInt64).toInt64)))]))
  refine Go.st (fun t k => XS.lxor X0.here hx rfl (hb hby d4_10) rfl k) ?_
  generalize hx1 : ((q1 ^^^ ((q1.toUInt64 >>> ((31 : Int32) &&& 0x3f).toInt64.toUInt64).toInt64)) ^^^ ((q1.toUInt64 >>> ((62 : Int32) &&& 0x3f).toInt64.toUInt64).toInt64)) = x1
  show Go p.tables e below PP (s₁.setTop (mkF m 11 #[.val (.long q1), .second, .unset, .unset, .unset, .unset, .unset, .unset, .unset, .unset] [(.long x1)]))
  refine Go.st (fun t k => XS.lstoreN X0.here hx rfl (hb hby d4_11) rfl (l' := #[.val (.long q1), .second, .val (.long x1), .second, .unset, .unset, .unset, .unset, .unset, .unset]) rfl k) ?_
  show Go p.tables e below PP (s₁.setTop (mkF m 12 #[.val (.long q1), .second, .val (.long x1), .second, .unset, .unset, .unset, .unset, .unset, .unset] []))
  refine Go.st (fun t k => XS.lloadN X0.here hx rfl (hb hby d4_12) rfl k) ?_
  show Go p.tables e below PP (s₁.setTop (mkF m 13 #[.val (.long q1), .second, .val (.long x1), .second, .unset, .unset, .unset, .unset, .unset, .unset] [(.long x1)]))
  refine Go.st (fun t k => X0.ldc2J hx hown (mvT hZ (hw _ (List.mem_of_getElem? (i := 23) rfl))) (g := (mkF m 13 #[.val (.long q1), .second, .val (.long x1), .second, .unset, .unset, .unset, .unset, .unset, .unset] [(.long x1)])) rfl (hb hby d4_13) k) ?_
  show Go p.tables e below PP (s₁.setTop (mkF m 16 #[.val (.long q1), .second, .val (.long x1), .second, .unset, .unset, .unset, .unset, .unset, .unset] [(.long (-7723592293110705685 : Int64)), (.long x1)]))
  obtain ⟨v1, T1, L1, X1, hQ1, st1⟩ := callSt X0 hx hZ (y := (⟨"com/example/banns/banns/SplitMix64NextPinLaw", "inverse", "(J)J"⟩ : MethodName)) (argsL := [(.long (-7723592293110705685 : Int64))]) (rest := [(.long x1)]) hown (hw _ (List.mem_of_getElem? (i := 24) rfl)) (hw _ (List.mem_of_getElem? (i := 25) rfl)) (hw _ (List.mem_of_getElem? (i := 21) rfl)) (hw _ (List.mem_of_getElem? (i := 26) rfl)) (by decide) (rm5 l Z a0 hw [] (-7723592293110705685 : Int64) h0 n0 Zn) e0 2 (by decide) (by decide) (by decide) (by decide) (g := (mkF m 16 #[.val (.long q1), .second, .val (.long x1), .second, .unset, .unset, .unset, .unset, .unset, .unset] [(.long (-7723592293110705685 : Int64)), (.long x1)])) rfl (by rw [hml]; rfl) (lenOf pd_0 rfl) rfl (by show 2 * 0 + _ ≤ _; exact Nat.le_of_eq rfl) (hb hby d4_16)
  obtain ⟨rfl, rfl, e1⟩ := hQ1
  rw [List.append_nil] at X1
  refine Go.st st1 ?_
  show Go p.tables e below PP (T1.setTop (mkF m 19 #[.val (.long q1), .second, .val (.long x1), .second, .unset, .unset, .unset, .unset, .unset, .unset] [(.long (invL (-7723592293110705685 : Int64))), (.long x1)]))
  refine Go.st (fun t k => XS.lmul X1.here hx rfl (hb hby d4_19) rfl k) ?_
  generalize hx2 : (x1 * (invL (-7723592293110705685 : Int64))) = x2
  show Go p.tables e below PP (T1.setTop (mkF m 20 #[.val (.long q1), .second, .val (.long x1), .second, .unset, .unset, .unset, .unset, .unset, .unset] [(.long x2)]))
  refine Go.st (fun t k => XS.lstore X1.here hx rfl (hb hby d4_20) rfl (l' := #[.val (.long q1), .second, .val (.long x1), .second, .val (.long x2), .second, .unset, .unset, .unset, .unset]) rfl k) ?_
  show Go p.tables e below PP (T1.setTop (mkF m 22 #[.val (.long q1), .second, .val (.long x1), .second, .val (.long x2), .second, .unset, .unset, .unset, .unset] []))
  refine Go.st (fun t k => XS.lload X1.here hx rfl (hb hby d4_22) rfl k) ?_
  show Go p.tables e below PP (T1.setTop (mkF m 24 #[.val (.long q1), .second, .val (.long x1), .second, .val (.long x2), .second, .unset, .unset, .unset, .unset] [(.long x2)]))
  refine Go.st (fun t k => XS.lload X1.here hx rfl (hb hby d4_24) rfl k) ?_
  show Go p.tables e below PP (T1.setTop (mkF m 26 #[.val (.long q1), .second, .val (.long x1), .second, .val (.long x2), .second, .unset, .unset, .unset, .unset] [(.long x2), (.long x2)]))
  refine Go.st (fun t k => XS.bipush X1.here hx rfl (hb hby d4_26) k) ?_
  show Go p.tables e below PP (T1.setTop (mkF m 28 #[.val (.long q1), .second, .val (.long x1), .second, .val (.long x2), .second, .unset, .unset, .unset, .unset] [(.int (27 : Int32)), (.long x2), (.long x2)]))
  refine Go.st (fun t k => XS.lushr X1.here hx rfl (hb hby d4_28) rfl k) ?_
  show Go p.tables e below PP (T1.setTop (mkF m 29 #[.val (.long q1), .second, .val (.long x1), .second, .val (.long x2), .second, .unset, .unset, .unset, .unset] [(.long ((x2.toUInt64 >>> ((27 : Int32) &&& 0x3f).toInt64.toUInt64).toInt64)), (.long x2)]))
  refine Go.st (fun t k => XS.lxor X1.here hx rfl (hb hby d4_29) rfl k) ?_
  show Go p.tables e below PP (T1.setTop (mkF m 30 #[.val (.long q1), .second, .val (.long x1), .second, .val (.long x2), .second, .unset, .unset, .unset, .unset] [(.long (x2 ^^^ ((x2.toUInt64 >>> ((27 : Int32) &&& 0x3f).toInt64.toUInt64).toInt64)))]))
  refine Go.st (fun t k => XS.lload X1.here hx rfl (hb hby d4_30) rfl k) ?_
  show Go p.tables e below PP (T1.setTop (mkF m 32 #[.val (.long q1), .second, .val (.long x1), .second, .val (.long x2), .second, .unset, .unset, .unset, .unset] [(.long x2), (.long (x2 ^^^ ((x2.toUInt64 >>> ((27 : Int32) &&& 0x3f).toInt64.toUInt64).toInt64)))]))
  refine Go.st (fun t k => XS.bipush X1.here hx rfl (hb hby d4_32) k) ?_
  show Go p.tables e below PP (T1.setTop (mkF m 34 #[.val (.long q1), .second, .val (.long x1), .second, .val (.long x2), .second, .unset, .unset, .unset, .unset] [(.int (54 : Int32)), (.long x2), (.long (x2 ^^^ ((x2.toUInt64 >>> ((27 : Int32) &&& 0x3f).toInt64.toUInt64).toInt64)))]))
  refine Go.st (fun t k => XS.lushr X1.here hx rfl (hb hby d4_34) rfl k) ?_
  show Go p.tables e below PP (T1.setTop (mkF m 35 #[.val (.long q1), .second, .val (.long x1), .second, .val (.long x2), .second, .unset, .unset, .unset, .unset] [(.long ((x2.toUInt64 >>> ((54 : Int32) &&& 0x3f).toInt64.toUInt64).toInt64)), (.long (x2 ^^^ ((x2.toUInt64 >>> ((27 : Int32) &&& 0x3f).toInt64.toUInt64).toInt64)))]))
  refine Go.st (fun t k => XS.lxor X1.here hx rfl (hb hby d4_35) rfl k) ?_
  generalize hx3 : ((x2 ^^^ ((x2.toUInt64 >>> ((27 : Int32) &&& 0x3f).toInt64.toUInt64).toInt64)) ^^^ ((x2.toUInt64 >>> ((54 : Int32) &&& 0x3f).toInt64.toUInt64).toInt64)) = x3
  show Go p.tables e below PP (T1.setTop (mkF m 36 #[.val (.long q1), .second, .val (.long x1), .second, .val (.long x2), .second, .unset, .unset, .unset, .unset] [(.long x3)]))
  refine Go.st (fun t k => XS.lstore X1.here hx rfl (hb hby d4_36) rfl (l' := #[.val (.long q1), .second, .val (.long x1), .second, .val (.long x2), .second, .val (.long x3), .second, .unset, .unset]) rfl k) ?_
  show Go p.tables e below PP (T1.setTop (mkF m 38 #[.val (.long q1), .second, .val (.long x1), .second, .val (.long x2), .second, .val (.long x3), .second, .unset, .unset] []))
  refine Go.st (fun t k => XS.lload X1.here hx rfl (hb hby d4_38) rfl k) ?_
  show Go p.tables e below PP (T1.setTop (mkF m 40 #[.val (.long q1), .second, .val (.long x1), .second, .val (.long x2), .second, .val (.long x3), .second, .unset, .unset] [(.long x3)]))
  refine Go.st (fun t k => X1.ldc2J hx hown (mvT hZ (hw _ (List.mem_of_getElem? (i := 28) rfl))) (g := (mkF m 40 #[.val (.long q1), .second, .val (.long x1), .second, .val (.long x2), .second, .val (.long x3), .second, .unset, .unset] [(.long x3)])) rfl (hb hby d4_40) k) ?_
  show Go p.tables e below PP (T1.setTop (mkF m 43 #[.val (.long q1), .second, .val (.long x1), .second, .val (.long x2), .second, .val (.long x3), .second, .unset, .unset] [(.long (-4658895280553007687 : Int64)), (.long x3)]))
  obtain ⟨v2, T2, L2, X2, hQ2, st2⟩ := callSt X1 hx hZ (y := (⟨"com/example/banns/banns/SplitMix64NextPinLaw", "inverse", "(J)J"⟩ : MethodName)) (argsL := [(.long (-4658895280553007687 : Int64))]) (rest := [(.long x3)]) hown (hw _ (List.mem_of_getElem? (i := 24) rfl)) (hw _ (List.mem_of_getElem? (i := 25) rfl)) (hw _ (List.mem_of_getElem? (i := 21) rfl)) (hw _ (List.mem_of_getElem? (i := 26) rfl)) (by decide) (rm5 l Z a0 hw [] (-4658895280553007687 : Int64) h0 n0 Zn) e1 2 (by decide) (by decide) (by decide) (by decide) (g := (mkF m 43 #[.val (.long q1), .second, .val (.long x1), .second, .val (.long x2), .second, .val (.long x3), .second, .unset, .unset] [(.long (-4658895280553007687 : Int64)), (.long x3)])) rfl (by rw [hml]; rfl) (lenOf pd_0 rfl) rfl (by show 2 * 0 + _ ≤ _; exact Nat.le_of_eq rfl) (hb hby d4_43)
  obtain ⟨rfl, rfl, e2⟩ := hQ2
  rw [List.append_nil] at X2
  refine Go.st st2 ?_
  show Go p.tables e below PP (T2.setTop (mkF m 46 #[.val (.long q1), .second, .val (.long x1), .second, .val (.long x2), .second, .val (.long x3), .second, .unset, .unset] [(.long (invL (-4658895280553007687 : Int64))), (.long x3)]))
  refine Go.st (fun t k => XS.lmul X2.here hx rfl (hb hby d4_46) rfl k) ?_
  generalize hx4 : (x3 * (invL (-4658895280553007687 : Int64))) = x4
  show Go p.tables e below PP (T2.setTop (mkF m 47 #[.val (.long q1), .second, .val (.long x1), .second, .val (.long x2), .second, .val (.long x3), .second, .unset, .unset] [(.long x4)]))
  refine Go.st (fun t k => XS.lstore X2.here hx rfl (hb hby d4_47) rfl (l' := #[.val (.long q1), .second, .val (.long x1), .second, .val (.long x2), .second, .val (.long x3), .second, .val (.long x4), .second]) rfl k) ?_
  show Go p.tables e below PP (T2.setTop (mkF m 49 #[.val (.long q1), .second, .val (.long x1), .second, .val (.long x2), .second, .val (.long x3), .second, .val (.long x4), .second] []))
  refine Go.st (fun t k => XS.lload X2.here hx rfl (hb hby d4_49) rfl k) ?_
  show Go p.tables e below PP (T2.setTop (mkF m 51 #[.val (.long q1), .second, .val (.long x1), .second, .val (.long x2), .second, .val (.long x3), .second, .val (.long x4), .second] [(.long x4)]))
  refine Go.st (fun t k => XS.lload X2.here hx rfl (hb hby d4_51) rfl k) ?_
  show Go p.tables e below PP (T2.setTop (mkF m 53 #[.val (.long q1), .second, .val (.long x1), .second, .val (.long x2), .second, .val (.long x3), .second, .val (.long x4), .second] [(.long x4), (.long x4)]))
  refine Go.st (fun t k => XS.bipush X2.here hx rfl (hb hby d4_53) k) ?_
  show Go p.tables e below PP (T2.setTop (mkF m 55 #[.val (.long q1), .second, .val (.long x1), .second, .val (.long x2), .second, .val (.long x3), .second, .val (.long x4), .second] [(.int (30 : Int32)), (.long x4), (.long x4)]))
  refine Go.st (fun t k => XS.lushr X2.here hx rfl (hb hby d4_55) rfl k) ?_
  show Go p.tables e below PP (T2.setTop (mkF m 56 #[.val (.long q1), .second, .val (.long x1), .second, .val (.long x2), .second, .val (.long x3), .second, .val (.long x4), .second] [(.long ((x4.toUInt64 >>> ((30 : Int32) &&& 0x3f).toInt64.toUInt64).toInt64)), (.long x4)]))
  refine Go.st (fun t k => XS.lxor X2.here hx rfl (hb hby d4_56) rfl k) ?_
  show Go p.tables e below PP (T2.setTop (mkF m 57 #[.val (.long q1), .second, .val (.long x1), .second, .val (.long x2), .second, .val (.long x3), .second, .val (.long x4), .second] [(.long (x4 ^^^ ((x4.toUInt64 >>> ((30 : Int32) &&& 0x3f).toInt64.toUInt64).toInt64)))]))
  refine Go.st (fun t k => XS.lload X2.here hx rfl (hb hby d4_57) rfl k) ?_
  show Go p.tables e below PP (T2.setTop (mkF m 59 #[.val (.long q1), .second, .val (.long x1), .second, .val (.long x2), .second, .val (.long x3), .second, .val (.long x4), .second] [(.long x4), (.long (x4 ^^^ ((x4.toUInt64 >>> ((30 : Int32) &&& 0x3f).toInt64.toUInt64).toInt64)))]))
  refine Go.st (fun t k => XS.bipush X2.here hx rfl (hb hby d4_59) k) ?_
  show Go p.tables e below PP (T2.setTop (mkF m 61 #[.val (.long q1), .second, .val (.long x1), .second, .val (.long x2), .second, .val (.long x3), .second, .val (.long x4), .second] [(.int (60 : Int32)), (.long x4), (.long (x4 ^^^ ((x4.toUInt64 >>> ((30 : Int32) &&& 0x3f).toInt64.toUInt64).toInt64)))]))
  refine Go.st (fun t k => XS.lushr X2.here hx rfl (hb hby d4_61) rfl k) ?_
  show Go p.tables e below PP (T2.setTop (mkF m 62 #[.val (.long q1), .second, .val (.long x1), .second, .val (.long x2), .second, .val (.long x3), .second, .val (.long x4), .second] [(.long ((x4.toUInt64 >>> ((60 : Int32) &&& 0x3f).toInt64.toUInt64).toInt64)), (.long (x4 ^^^ ((x4.toUInt64 >>> ((30 : Int32) &&& 0x3f).toInt64.toUInt64).toInt64)))]))
  refine Go.st (fun t k => XS.lxor X2.here hx rfl (hb hby d4_62) rfl k) ?_
  show Go p.tables e below PP (T2.setTop (mkF m 63 #[.val (.long q1), .second, .val (.long x1), .second, .val (.long x2), .second, .val (.long x3), .second, .val (.long x4), .second] [(.long ((x4 ^^^ ((x4.toUInt64 >>> ((30 : Int32) &&& 0x3f).toInt64.toUInt64).toInt64)) ^^^ ((x4.toUInt64 >>> ((60 : Int32) &&& 0x3f).toInt64.toUInt64).toInt64)))]))
  rw [hPP]
  refine endJ X2 hx hlk hret (hb hby d4_63) ?_ (by decide) (by decide)
  show Q4 Z q1 h0 n0 (some (.long ((x4 ^^^ ((x4.toUInt64 >>> ((30 : Int32) &&& 0x3f).toInt64.toUInt64).toInt64)) ^^^ ((x4.toUInt64 >>> ((60 : Int32) &&& 0x3f).toInt64.toUInt64).toInt64)))) T2.heap _
  rw [e2]
  subst hx1 hx2 hx3 hx4; exact ⟨rfl, rfl, rfl⟩
theorem us_bv (x : Int64) (q : Int32) (k : Nat) (hk : q.toBitVec.toNat % 64 = k) : (us x q).toBitVec = x.toBitVec >>> k := by
  show x.toBitVec >>> ((q &&& 0x3f).toInt64.toBitVec % 64) = _
  have h5 := (sm64 q k hk).2
  rw [BitVec.ushiftRight_eq', BitVec.toNat_umod, (sm64 q k hk).1, BitVec.toNat_ofNat]
  congr 1
  show k % 2 ^ 64 % 64 = k
  omega
theorem un3 (x : BitVec 64) (j : Nat) (hj : 64 ≤ j + j + j) : (x ^^^ x >>> j) ^^^ (x ^^^ x >>> j) >>> j ^^^ (x ^^^ x >>> j) >>> (j + j) = x := by
  have z : x >>> (j + (j + j)) = 0#64 := BitVec.ushiftRight_eq_zero (by omega)
  have d : x >>> j >>> j = x >>> (j + j) := (BitVec.shiftRight_add x j j).symm
  have t : x >>> j >>> (j + j) = x >>> (j + (j + j)) := (BitVec.shiftRight_add x j (j + j)).symm
  rw [BitVec.ushiftRight_xor_distrib, BitVec.ushiftRight_xor_distrib, d, t, z]
  generalize x >>> j = a
  generalize x >>> (j + j) = b
  rw [BitVec.xor_zero, BitVec.xor_assoc x a, ← BitVec.xor_assoc a a b, BitVec.xor_self, BitVec.zero_xor, BitVec.xor_assoc, BitVec.xor_self, BitVec.xor_zero]
theorem un3L (x : Int64) (j k : Int32) (n : Nat) (h1 : j.toBitVec.toNat % 64 = n) (h2 : k.toBitVec.toNat % 64 = n + n) (h3 : 64 ≤ n + n + n) : sub3 (x ^^^ us x j) j k = x := by
  apply Int64.toBitVec_inj.mp
  unfold sub3
  rw [Int64.toBitVec_xor, Int64.toBitVec_xor, us_bv _ j n h1, us_bv _ k (n + n) h2, Int64.toBitVec_xor, us_bv _ j n h1]
  exact un3 _ n h3
theorem back1 (z : Int64) (M : Int64) (h : M * invL M = 1) : z * M * invL M = z := by rw [Int64.mul_assoc, h, Int64.mul_one]
theorem un_mix (z : Int64) : unmixL (mixL z) = z := by
  unfold unmixL mixL mix2
  rw [un3L _ 31 62 31 (by decide) (by decide) (by decide)]
  unfold mix1
  rw [back1 _ _ (by decide), un3L _ 27 54 27 (by decide) (by decide) (by decide), back1 _ _ (by decide), un3L _ 30 60 30 (by decide) (by decide) (by decide)]
theorem pn_rm0 : plainName "com/example/banns/banns/SplitMix64NextPinLaw" = true := by first | (simp [plainName, overriddenIn]; done) | decide +kernel
theorem ef_rm0 (m : MethodId) (q1 : Int64) : entryFrame m #[(.long q1)] maxLocals = mkF m 0 #[.val (.long q1), .second, .unset, .unset, .unset, .unset, .unset, .unset, .unset] [] := by first | (simp [entryFrame, mkF, argsToLocals, Value.category, maxLocals]; done) | rfl
def Q0 (Z : State) (q1 : Int64) (h0 : Heap) (n0 : Nat) (v : Option Value) (h : Heap) (L : List Loc) : Prop := v = some (.int 1) ∧ Fr n0 L
theorem pd_1 : parseMethodDescriptor "(J)V" = some ⟨[.long], none⟩ := by decide +kernel
theorem pd_2 : parseMethodDescriptor "()J" = some ⟨[], some .long⟩ := by decide +kernel
set_option maxRecDepth 65536 in
set_option maxHeartbeats 40000000 in
theorem rm0 (l : Launch) (Z : State) (a0 : Array Value) (hw : ∀ d ∈ tables_1, d.before a0 Z = true) (ws : List Jvm.Cond) (q1 : Int64) (h0 : Heap) (n0 : Nat) (Z0 : n0 ≤ h0.size) :
    Con l Z x code maxLocals ret ws room_1 #[(.long q1)] h0 (Q0 Z q1 h0 n0) := by
  refine Con.of (plainFor_of_name pn_rm0) ?_
  intro p e s m below meth c s₁ hZ e0 X0 hx hby hml hown hnm hret hlk
  replace hml : c.maxLocals = 9 := hml
  have hown : s.vm.findClass "com/example/banns/banns/SplitMix64NextPinLaw" = some m.cls := hown
  have N0 : Fr n0 [] := Fr.nil n0
  obtain ⟨PP, hPP⟩ : ∃ P, P = Fine s below (Q0 Z q1 h0 n0) room_1.cells room_1.slots := ⟨_, rfl⟩
  rw [← hPP]
  refine Go.cast (ef_rm0 m q1) ?_
  have Zn : n0 ≤ h0.size := Z0
  show Go p.tables e below PP (s₁.setTop (mkF m 0 #[.val (.long q1), .second, .unset, .unset, .unset, .unset, .unset, .unset, .unset] []))
  obtain ⟨T1, h1, X1, e1, E1, A1, D1, -, st1⟩ := newO X0 hx hZ hown (hw _ (List.mem_of_getElem? (i := 0) rfl)) (hw _ (List.mem_of_getElem? (i := 1) rfl)) (hw _ (List.mem_of_getElem? (i := 2) rfl)) e0 (g := (mkF m 0 #[.val (.long q1), .second, .unset, .unset, .unset, .unset, .unset, .unset, .unset] [])) rfl (hb hby at_0) (by decide) (by decide)
  obtain ⟨b1, gz1⟩ : ∃ z, z = h0.size := ⟨_, rfl⟩
  rw [← gz1] at A1 D1 st1
  have g_b1 : n0 ≤ b1 := Nat.le_trans Zn (Nat.le_of_eq gz1.symm)
  refine Go.st st1 ?_
  replace Zn := Nat.le_trans Zn E1.1
  have E_b1 := A1
  have F_state_b1 : Fld Z h1 b1 "com/example/banns/banns/SplitMix64" "state" "J" (.long (0 : Int64)) := D1 (Or.inl (hw _ (List.mem_of_getElem? (i := 10) rfl))) (ty := .long) (by decide)
  show Go p.tables e below PP (T1.setTop (mkF m 3 #[.val (.long q1), .second, .unset, .unset, .unset, .unset, .unset, .unset, .unset] [(.ref b1)]))
  refine Go.st (fun t k => XS.dup X1.here hx rfl (hb hby at_3) rfl rfl k) ?_
  show Go p.tables e below PP (T1.setTop (mkF m 4 #[.val (.long q1), .second, .unset, .unset, .unset, .unset, .unset, .unset, .unset] [(.ref b1), (.ref b1)]))
  refine Go.st (fun t k => XS.lloadN X1.here hx rfl (hb hby at_4) rfl k) ?_
  show Go p.tables e below PP (T1.setTop (mkF m 5 #[.val (.long q1), .second, .unset, .unset, .unset, .unset, .unset, .unset, .unset] [(.long q1), (.ref b1), (.ref b1)]))
  obtain ⟨v2, T2, L2, X2, hQ2, st2⟩ := callIn X1 hx hZ (y := (⟨"com/example/banns/banns/SplitMix64", "<init>", "(J)V"⟩ : MethodName)) (a := b1) (argsL := [(.long q1)]) (rest := [(.ref b1)]) rfl hown (hw _ (List.mem_of_getElem? (i := 3) rfl)) (hw _ (List.mem_of_getElem? (i := 4) rfl)) (hw _ (List.mem_of_getElem? (i := 2) rfl)) (hw _ (List.mem_of_getElem? (i := 5) rfl)) (by decide) (rm1 l Z a0 hw [] b1 q1 h1 n0 Zn F_state_b1 E_b1 g_b1) e1 1 (by decide) (by decide) (by decide) (by decide) (g := (mkF m 5 #[.val (.long q1), .second, .unset, .unset, .unset, .unset, .unset, .unset, .unset] [(.long q1), (.ref b1), (.ref b1)])) rfl (by rw [hml]; rfl) (lenOf pd_1 rfl) rfl (by show 2 * 0 + _ ≤ _; exact Nat.le_of_eq rfl) (hb hby at_5)
  obtain ⟨h2, e2⟩ : ∃ z, T2.heap = z := ⟨_, rfl⟩
  rw [e2] at hQ2
  obtain ⟨rfl, Nq2, Kq2, Fq2_0, Fq2_1⟩ := hQ2
  have N2 := Fr.app N0 Nq2
  replace E_b1 := E_b1.keep Kq2
  clear F_state_b1
  replace Zn := Nat.le_trans Zn Kq2.1
  have E_b1 := Fq2_0
  have F_state_b1 := Fq2_1
  refine Go.st st2 ?_
  show Go p.tables e below PP (T2.setTop (mkF m 8 #[.val (.long q1), .second, .unset, .unset, .unset, .unset, .unset, .unset, .unset] [(.ref b1)]))
  refine Go.st (fun t k => XS.astoreN X2.here hx rfl (hb hby at_8) rfl rfl (l' := #[.val (.long q1), .second, .val (.ref b1), .unset, .unset, .unset, .unset, .unset, .unset]) rfl k) ?_
  show Go p.tables e below PP (T2.setTop (mkF m 9 #[.val (.long q1), .second, .val (.ref b1), .unset, .unset, .unset, .unset, .unset, .unset] []))
  refine Go.st (fun t k => XS.aloadN X2.here hx rfl (hb hby at_9) rfl rfl k) ?_
  show Go p.tables e below PP (T2.setTop (mkF m 10 #[.val (.long q1), .second, .val (.ref b1), .unset, .unset, .unset, .unset, .unset, .unset] [(.ref b1)]))
  obtain ⟨v3, T3, L3, X3, hQ3, st3⟩ := callVi X2 hx hZ (C := "com/example/banns/banns/SplitMix64") (y := (⟨"com/example/banns/banns/SplitMix64", "next", "()J"⟩ : MethodName)) (z := (⟨"com/example/banns/banns/SplitMix64", "next", "()J"⟩ : MethodName)) (a := b1) (argsL := []) (rest := []) hown (hw _ (List.mem_of_getElem? (i := 11) rfl)) (hw _ (List.mem_of_getElem? (i := 12) rfl)) (notFace_of_selects (args := #[]) (mvT hZ (hw _ (List.mem_of_getElem? (i := 14) rfl)))) (hw _ (List.mem_of_getElem? (i := 14) rfl)) (hw _ (List.mem_of_getElem? (i := 13) rfl)) (hw _ (List.mem_of_getElem? (i := 2) rfl)) (hw _ (List.mem_of_getElem? (i := 15) rfl)) (by decide) rfl E_b1 (rm3 l Z a0 hw [] b1 q1 h2 n0 Zn F_state_b1 E_b1 g_b1) e2 0 (by decide) (by decide) (by decide) (by decide) (g := (mkF m 10 #[.val (.long q1), .second, .val (.ref b1), .unset, .unset, .unset, .unset, .unset, .unset] [(.ref b1)])) rfl (by rw [hml]; rfl) (lenOf pd_2 rfl) rfl (by show 2 * 0 + _ ≤ _; exact Nat.le_of_eq rfl) (hb hby at_10)
  obtain ⟨h3, e3⟩ : ∃ z, T3.heap = z := ⟨_, rfl⟩
  rw [e3] at hQ3
  obtain ⟨rfl, Nq3, Kq3, Fq3_0, Fq3_1⟩ := hQ3
  have N3 := Fr.app N2 Nq3
  replace E_b1 := E_b1.keep Kq3
  clear F_state_b1
  replace Zn := Nat.le_trans Zn Kq3.1
  have E_b1 := Fq3_0
  have F_state_b1 := Fq3_1
  refine Go.st st3 ?_
  show Go p.tables e below PP (T3.setTop (mkF m 13 #[.val (.long q1), .second, .val (.ref b1), .unset, .unset, .unset, .unset, .unset, .unset] [(.long (mixL (q1 + (-7046029254386353131 : Int64))))]))
  refine Go.st (fun t k => XS.lstoreN X3.here hx rfl (hb hby at_13) rfl (l' := #[.val (.long q1), .second, .val (.ref b1), .val (.long (mixL (q1 + (-7046029254386353131 : Int64)))), .second, .unset, .unset, .unset, .unset]) rfl k) ?_
  show Go p.tables e below PP (T3.setTop (mkF m 14 #[.val (.long q1), .second, .val (.ref b1), .val (.long (mixL (q1 + (-7046029254386353131 : Int64)))), .second, .unset, .unset, .unset, .unset] []))
  refine Go.st (fun t k => XS.aloadN X3.here hx rfl (hb hby at_14) rfl rfl k) ?_
  show Go p.tables e below PP (T3.setTop (mkF m 15 #[.val (.long q1), .second, .val (.ref b1), .val (.long (mixL (q1 + (-7046029254386353131 : Int64)))), .second, .unset, .unset, .unset, .unset] [(.ref b1)]))
  obtain ⟨v4, T4, L4, X4, hQ4, st4⟩ := callVi X3 hx hZ (C := "com/example/banns/banns/SplitMix64") (y := (⟨"com/example/banns/banns/SplitMix64", "next", "()J"⟩ : MethodName)) (z := (⟨"com/example/banns/banns/SplitMix64", "next", "()J"⟩ : MethodName)) (a := b1) (argsL := []) (rest := []) hown (hw _ (List.mem_of_getElem? (i := 11) rfl)) (hw _ (List.mem_of_getElem? (i := 12) rfl)) (notFace_of_selects (args := #[]) (mvT hZ (hw _ (List.mem_of_getElem? (i := 14) rfl)))) (hw _ (List.mem_of_getElem? (i := 14) rfl)) (hw _ (List.mem_of_getElem? (i := 13) rfl)) (hw _ (List.mem_of_getElem? (i := 2) rfl)) (hw _ (List.mem_of_getElem? (i := 15) rfl)) (by decide) rfl E_b1 (rm3 l Z a0 hw [] b1 (q1 + (-7046029254386353131 : Int64)) h3 n0 Zn F_state_b1 E_b1 g_b1) e3 0 (by decide) (by decide) (by decide) (by decide) (g := (mkF m 15 #[.val (.long q1), .second, .val (.ref b1), .val (.long (mixL (q1 + (-7046029254386353131 : Int64)))), .second, .unset, .unset, .unset, .unset] [(.ref b1)])) rfl (by rw [hml]; rfl) (lenOf pd_2 rfl) rfl (by show 2 * 0 + _ ≤ _; exact Nat.le_of_eq rfl) (hb hby at_15)
  obtain ⟨h4, e4⟩ : ∃ z, T4.heap = z := ⟨_, rfl⟩
  rw [e4] at hQ4
  obtain ⟨rfl, Nq4, Kq4, Fq4_0, Fq4_1⟩ := hQ4
  have N4 := Fr.app N3 Nq4
  replace E_b1 := E_b1.keep Kq4
  clear F_state_b1
  replace Zn := Nat.le_trans Zn Kq4.1
  have E_b1 := Fq4_0
  have F_state_b1 := Fq4_1
  refine Go.st st4 ?_
  show Go p.tables e below PP (T4.setTop (mkF m 18 #[.val (.long q1), .second, .val (.ref b1), .val (.long (mixL (q1 + (-7046029254386353131 : Int64)))), .second, .unset, .unset, .unset, .unset] [(.long (mixL ((q1 + (-7046029254386353131 : Int64)) + (-7046029254386353131 : Int64))))]))
  refine Go.st (fun t k => XS.lstore X4.here hx rfl (hb hby at_18) rfl (l' := #[.val (.long q1), .second, .val (.ref b1), .val (.long (mixL (q1 + (-7046029254386353131 : Int64)))), .second, .val (.long (mixL ((q1 + (-7046029254386353131 : Int64)) + (-7046029254386353131 : Int64)))), .second, .unset, .unset]) rfl k) ?_
  show Go p.tables e below PP (T4.setTop (mkF m 20 #[.val (.long q1), .second, .val (.ref b1), .val (.long (mixL (q1 + (-7046029254386353131 : Int64)))), .second, .val (.long (mixL ((q1 + (-7046029254386353131 : Int64)) + (-7046029254386353131 : Int64)))), .second, .unset, .unset] []))
  refine Go.st (fun t k => XS.lloadN X4.here hx rfl (hb hby at_20) rfl k) ?_
  show Go p.tables e below PP (T4.setTop (mkF m 21 #[.val (.long q1), .second, .val (.ref b1), .val (.long (mixL (q1 + (-7046029254386353131 : Int64)))), .second, .val (.long (mixL ((q1 + (-7046029254386353131 : Int64)) + (-7046029254386353131 : Int64)))), .second, .unset, .unset] [(.long (mixL (q1 + (-7046029254386353131 : Int64))))]))
  obtain ⟨v5, T5, L5, X5, hQ5, st5⟩ := callSt X4 hx hZ (y := (⟨"com/example/banns/banns/SplitMix64NextPinLaw", "unmix", "(J)J"⟩ : MethodName)) (argsL := [(.long (mixL (q1 + (-7046029254386353131 : Int64))))]) (rest := []) hown (hw _ (List.mem_of_getElem? (i := 19) rfl)) (hw _ (List.mem_of_getElem? (i := 20) rfl)) (hw _ (List.mem_of_getElem? (i := 21) rfl)) (hw _ (List.mem_of_getElem? (i := 22) rfl)) (by decide) (rm4 l Z a0 hw [] (mixL (q1 + (-7046029254386353131 : Int64))) h4 n0 Zn) e4 0 (by decide) (by decide) (by decide) (by decide) (g := (mkF m 21 #[.val (.long q1), .second, .val (.ref b1), .val (.long (mixL (q1 + (-7046029254386353131 : Int64)))), .second, .val (.long (mixL ((q1 + (-7046029254386353131 : Int64)) + (-7046029254386353131 : Int64)))), .second, .unset, .unset] [(.long (mixL (q1 + (-7046029254386353131 : Int64))))])) rfl (by rw [hml]; rfl) (lenOf pd_0 rfl) rfl (by show 2 * 0 + _ ≤ _; exact Nat.le_of_eq rfl) (hb hby at_21)
  obtain ⟨rfl, rfl, e5⟩ := hQ5
  rw [List.append_nil] at X5
  refine Go.st st5 ?_
  show Go p.tables e below PP (T5.setTop (mkF m 24 #[.val (.long q1), .second, .val (.ref b1), .val (.long (mixL (q1 + (-7046029254386353131 : Int64)))), .second, .val (.long (mixL ((q1 + (-7046029254386353131 : Int64)) + (-7046029254386353131 : Int64)))), .second, .unset, .unset] [(.long (unmixL (mixL (q1 + (-7046029254386353131 : Int64)))))]))
  refine Go.st (fun t k => XS.lloadN X5.here hx rfl (hb hby at_24) rfl k) ?_
  show Go p.tables e below PP (T5.setTop (mkF m 25 #[.val (.long q1), .second, .val (.ref b1), .val (.long (mixL (q1 + (-7046029254386353131 : Int64)))), .second, .val (.long (mixL ((q1 + (-7046029254386353131 : Int64)) + (-7046029254386353131 : Int64)))), .second, .unset, .unset] [(.long q1), (.long (unmixL (mixL (q1 + (-7046029254386353131 : Int64)))))]))
  refine Go.st (fun t k => X5.ldc2J hx hown (mvT hZ (hw _ (List.mem_of_getElem? (i := 29) rfl))) (g := (mkF m 25 #[.val (.long q1), .second, .val (.ref b1), .val (.long (mixL (q1 + (-7046029254386353131 : Int64)))), .second, .val (.long (mixL ((q1 + (-7046029254386353131 : Int64)) + (-7046029254386353131 : Int64)))), .second, .unset, .unset] [(.long q1), (.long (unmixL (mixL (q1 + (-7046029254386353131 : Int64)))))])) rfl (hb hby at_25) k) ?_
  show Go p.tables e below PP (T5.setTop (mkF m 28 #[.val (.long q1), .second, .val (.ref b1), .val (.long (mixL (q1 + (-7046029254386353131 : Int64)))), .second, .val (.long (mixL ((q1 + (-7046029254386353131 : Int64)) + (-7046029254386353131 : Int64)))), .second, .unset, .unset] [(.long (-7046029254386353131 : Int64)), (.long q1), (.long (unmixL (mixL (q1 + (-7046029254386353131 : Int64)))))]))
  refine Go.st (fun t k => XS.ladd X5.here hx rfl (hb hby at_28) rfl k) ?_
  show Go p.tables e below PP (T5.setTop (mkF m 29 #[.val (.long q1), .second, .val (.ref b1), .val (.long (mixL (q1 + (-7046029254386353131 : Int64)))), .second, .val (.long (mixL ((q1 + (-7046029254386353131 : Int64)) + (-7046029254386353131 : Int64)))), .second, .unset, .unset] [(.long (q1 + (-7046029254386353131 : Int64))), (.long (unmixL (mixL (q1 + (-7046029254386353131 : Int64)))))]))
  refine Go.st (fun t k => XS.lcmp X5.here hx rfl (hb hby at_29) rfl k) ?_
  show Go p.tables e below PP (T5.setTop (mkF m 30 #[.val (.long q1), .second, .val (.ref b1), .val (.long (mixL (q1 + (-7046029254386353131 : Int64)))), .second, .val (.long (mixL ((q1 + (-7046029254386353131 : Int64)) + (-7046029254386353131 : Int64)))), .second, .unset, .unset] [(.int (XT.cmpL (unmixL (mixL (q1 + (-7046029254386353131 : Int64)))) (q1 + (-7046029254386353131 : Int64))))]))
  refine Go.st (fun t k => XS.ifNo X5.here hx rfl (hb hby at_30) rfl (XT.ll_ne_f (un_mix _)) k) ?_
  show Go p.tables e below PP (T5.setTop (mkF m 33 #[.val (.long q1), .second, .val (.ref b1), .val (.long (mixL (q1 + (-7046029254386353131 : Int64)))), .second, .val (.long (mixL ((q1 + (-7046029254386353131 : Int64)) + (-7046029254386353131 : Int64)))), .second, .unset, .unset] []))
  refine Go.st (fun t k => XS.iconst X5.here hx rfl (hb hby at_33) k) ?_
  show Go p.tables e below PP (T5.setTop (mkF m 34 #[.val (.long q1), .second, .val (.ref b1), .val (.long (mixL (q1 + (-7046029254386353131 : Int64)))), .second, .val (.long (mixL ((q1 + (-7046029254386353131 : Int64)) + (-7046029254386353131 : Int64)))), .second, .unset, .unset] [(.int (1 : Int32))]))
  refine Go.st (fun t k => XS.goto X5.here hx rfl (pc0 := 34) (pc' := 38) rfl (hb hby at_34) (by decide) (by decide) k) ?_
  show Go p.tables e below PP (T5.setTop (mkF m 38 #[.val (.long q1), .second, .val (.ref b1), .val (.long (mixL (q1 + (-7046029254386353131 : Int64)))), .second, .val (.long (mixL ((q1 + (-7046029254386353131 : Int64)) + (-7046029254386353131 : Int64)))), .second, .unset, .unset] [(.int (1 : Int32))]))
  refine Go.st (fun t k => XS.istore X5.here hx rfl (hb hby at_38) rfl (l' := #[.val (.long q1), .second, .val (.ref b1), .val (.long (mixL (q1 + (-7046029254386353131 : Int64)))), .second, .val (.long (mixL ((q1 + (-7046029254386353131 : Int64)) + (-7046029254386353131 : Int64)))), .second, .val (.int (1 : Int32)), .unset]) rfl k) ?_
  show Go p.tables e below PP (T5.setTop (mkF m 40 #[.val (.long q1), .second, .val (.ref b1), .val (.long (mixL (q1 + (-7046029254386353131 : Int64)))), .second, .val (.long (mixL ((q1 + (-7046029254386353131 : Int64)) + (-7046029254386353131 : Int64)))), .second, .val (.int (1 : Int32)), .unset] []))
  refine Go.st (fun t k => XS.lload X5.here hx rfl (hb hby at_40) rfl k) ?_
  show Go p.tables e below PP (T5.setTop (mkF m 42 #[.val (.long q1), .second, .val (.ref b1), .val (.long (mixL (q1 + (-7046029254386353131 : Int64)))), .second, .val (.long (mixL ((q1 + (-7046029254386353131 : Int64)) + (-7046029254386353131 : Int64)))), .second, .val (.int (1 : Int32)), .unset] [(.long (mixL ((q1 + (-7046029254386353131 : Int64)) + (-7046029254386353131 : Int64))))]))
  obtain ⟨v6, T6, L6, X6, hQ6, st6⟩ := callSt X5 hx hZ (y := (⟨"com/example/banns/banns/SplitMix64NextPinLaw", "unmix", "(J)J"⟩ : MethodName)) (argsL := [(.long (mixL ((q1 + (-7046029254386353131 : Int64)) + (-7046029254386353131 : Int64))))]) (rest := []) hown (hw _ (List.mem_of_getElem? (i := 19) rfl)) (hw _ (List.mem_of_getElem? (i := 20) rfl)) (hw _ (List.mem_of_getElem? (i := 21) rfl)) (hw _ (List.mem_of_getElem? (i := 22) rfl)) (by decide) (rm4 l Z a0 hw [] (mixL ((q1 + (-7046029254386353131 : Int64)) + (-7046029254386353131 : Int64))) h4 n0 Zn) e5 0 (by decide) (by decide) (by decide) (by decide) (g := (mkF m 42 #[.val (.long q1), .second, .val (.ref b1), .val (.long (mixL (q1 + (-7046029254386353131 : Int64)))), .second, .val (.long (mixL ((q1 + (-7046029254386353131 : Int64)) + (-7046029254386353131 : Int64)))), .second, .val (.int (1 : Int32)), .unset] [(.long (mixL ((q1 + (-7046029254386353131 : Int64)) + (-7046029254386353131 : Int64))))])) rfl (by rw [hml]; rfl) (lenOf pd_0 rfl) rfl (by show 2 * 0 + _ ≤ _; exact Nat.le_of_eq rfl) (hb hby at_42)
  obtain ⟨rfl, rfl, e6⟩ := hQ6
  rw [List.append_nil] at X6
  refine Go.st st6 ?_
  show Go p.tables e below PP (T6.setTop (mkF m 45 #[.val (.long q1), .second, .val (.ref b1), .val (.long (mixL (q1 + (-7046029254386353131 : Int64)))), .second, .val (.long (mixL ((q1 + (-7046029254386353131 : Int64)) + (-7046029254386353131 : Int64)))), .second, .val (.int (1 : Int32)), .unset] [(.long (unmixL (mixL ((q1 + (-7046029254386353131 : Int64)) + (-7046029254386353131 : Int64)))))]))
  refine Go.st (fun t k => XS.lloadN X6.here hx rfl (hb hby at_45) rfl k) ?_
  show Go p.tables e below PP (T6.setTop (mkF m 46 #[.val (.long q1), .second, .val (.ref b1), .val (.long (mixL (q1 + (-7046029254386353131 : Int64)))), .second, .val (.long (mixL ((q1 + (-7046029254386353131 : Int64)) + (-7046029254386353131 : Int64)))), .second, .val (.int (1 : Int32)), .unset] [(.long q1), (.long (unmixL (mixL ((q1 + (-7046029254386353131 : Int64)) + (-7046029254386353131 : Int64)))))]))
  refine Go.st (fun t k => X6.ldc2J hx hown (mvT hZ (hw _ (List.mem_of_getElem? (i := 30) rfl))) (g := (mkF m 46 #[.val (.long q1), .second, .val (.ref b1), .val (.long (mixL (q1 + (-7046029254386353131 : Int64)))), .second, .val (.long (mixL ((q1 + (-7046029254386353131 : Int64)) + (-7046029254386353131 : Int64)))), .second, .val (.int (1 : Int32)), .unset] [(.long q1), (.long (unmixL (mixL ((q1 + (-7046029254386353131 : Int64)) + (-7046029254386353131 : Int64)))))])) rfl (hb hby at_46) k) ?_
  show Go p.tables e below PP (T6.setTop (mkF m 49 #[.val (.long q1), .second, .val (.ref b1), .val (.long (mixL (q1 + (-7046029254386353131 : Int64)))), .second, .val (.long (mixL ((q1 + (-7046029254386353131 : Int64)) + (-7046029254386353131 : Int64)))), .second, .val (.int (1 : Int32)), .unset] [(.long (4354685564936845354 : Int64)), (.long q1), (.long (unmixL (mixL ((q1 + (-7046029254386353131 : Int64)) + (-7046029254386353131 : Int64)))))]))
  refine Go.st (fun t k => XS.ladd X6.here hx rfl (hb hby at_49) rfl k) ?_
  show Go p.tables e below PP (T6.setTop (mkF m 50 #[.val (.long q1), .second, .val (.ref b1), .val (.long (mixL (q1 + (-7046029254386353131 : Int64)))), .second, .val (.long (mixL ((q1 + (-7046029254386353131 : Int64)) + (-7046029254386353131 : Int64)))), .second, .val (.int (1 : Int32)), .unset] [(.long (q1 + (4354685564936845354 : Int64))), (.long (unmixL (mixL ((q1 + (-7046029254386353131 : Int64)) + (-7046029254386353131 : Int64)))))]))
  refine Go.st (fun t k => XS.lcmp X6.here hx rfl (hb hby at_50) rfl k) ?_
  show Go p.tables e below PP (T6.setTop (mkF m 51 #[.val (.long q1), .second, .val (.ref b1), .val (.long (mixL (q1 + (-7046029254386353131 : Int64)))), .second, .val (.long (mixL ((q1 + (-7046029254386353131 : Int64)) + (-7046029254386353131 : Int64)))), .second, .val (.int (1 : Int32)), .unset] [(.int (XT.cmpL (unmixL (mixL ((q1 + (-7046029254386353131 : Int64)) + (-7046029254386353131 : Int64)))) (q1 + (4354685564936845354 : Int64))))]))
  refine Go.st (fun t k => XS.ifNo X6.here hx rfl (hb hby at_51) rfl (XT.ll_ne_f ((un_mix _).trans (Int64.add_assoc _ _ _))) k) ?_
  show Go p.tables e below PP (T6.setTop (mkF m 54 #[.val (.long q1), .second, .val (.ref b1), .val (.long (mixL (q1 + (-7046029254386353131 : Int64)))), .second, .val (.long (mixL ((q1 + (-7046029254386353131 : Int64)) + (-7046029254386353131 : Int64)))), .second, .val (.int (1 : Int32)), .unset] []))
  refine Go.st (fun t k => XS.iconst X6.here hx rfl (hb hby at_54) k) ?_
  show Go p.tables e below PP (T6.setTop (mkF m 55 #[.val (.long q1), .second, .val (.ref b1), .val (.long (mixL (q1 + (-7046029254386353131 : Int64)))), .second, .val (.long (mixL ((q1 + (-7046029254386353131 : Int64)) + (-7046029254386353131 : Int64)))), .second, .val (.int (1 : Int32)), .unset] [(.int (1 : Int32))]))
  refine Go.st (fun t k => XS.goto X6.here hx rfl (pc0 := 55) (pc' := 59) rfl (hb hby at_55) (by decide) (by decide) k) ?_
  show Go p.tables e below PP (T6.setTop (mkF m 59 #[.val (.long q1), .second, .val (.ref b1), .val (.long (mixL (q1 + (-7046029254386353131 : Int64)))), .second, .val (.long (mixL ((q1 + (-7046029254386353131 : Int64)) + (-7046029254386353131 : Int64)))), .second, .val (.int (1 : Int32)), .unset] [(.int (1 : Int32))]))
  refine Go.st (fun t k => XS.istore X6.here hx rfl (hb hby at_59) rfl (l' := #[.val (.long q1), .second, .val (.ref b1), .val (.long (mixL (q1 + (-7046029254386353131 : Int64)))), .second, .val (.long (mixL ((q1 + (-7046029254386353131 : Int64)) + (-7046029254386353131 : Int64)))), .second, .val (.int (1 : Int32)), .val (.int (1 : Int32))]) rfl k) ?_
  show Go p.tables e below PP (T6.setTop (mkF m 61 #[.val (.long q1), .second, .val (.ref b1), .val (.long (mixL (q1 + (-7046029254386353131 : Int64)))), .second, .val (.long (mixL ((q1 + (-7046029254386353131 : Int64)) + (-7046029254386353131 : Int64)))), .second, .val (.int (1 : Int32)), .val (.int (1 : Int32))] []))
  refine Go.st (fun t k => XS.iload X6.here hx rfl (hb hby at_61) rfl k) ?_
  show Go p.tables e below PP (T6.setTop (mkF m 63 #[.val (.long q1), .second, .val (.ref b1), .val (.long (mixL (q1 + (-7046029254386353131 : Int64)))), .second, .val (.long (mixL ((q1 + (-7046029254386353131 : Int64)) + (-7046029254386353131 : Int64)))), .second, .val (.int (1 : Int32)), .val (.int (1 : Int32))] [(.int (1 : Int32))]))
  refine Go.st (fun t k => XS.ifNo X6.here hx rfl (hb hby at_63) rfl (XT.i0_eq_f (by decide)) k) ?_
  show Go p.tables e below PP (T6.setTop (mkF m 66 #[.val (.long q1), .second, .val (.ref b1), .val (.long (mixL (q1 + (-7046029254386353131 : Int64)))), .second, .val (.long (mixL ((q1 + (-7046029254386353131 : Int64)) + (-7046029254386353131 : Int64)))), .second, .val (.int (1 : Int32)), .val (.int (1 : Int32))] []))
  refine Go.st (fun t k => XS.iload X6.here hx rfl (hb hby at_66) rfl k) ?_
  show Go p.tables e below PP (T6.setTop (mkF m 68 #[.val (.long q1), .second, .val (.ref b1), .val (.long (mixL (q1 + (-7046029254386353131 : Int64)))), .second, .val (.long (mixL ((q1 + (-7046029254386353131 : Int64)) + (-7046029254386353131 : Int64)))), .second, .val (.int (1 : Int32)), .val (.int (1 : Int32))] [(.int (1 : Int32))]))
  refine Go.st (fun t k => XS.ifNo X6.here hx rfl (hb hby at_68) rfl (XT.i0_eq_f (by decide)) k) ?_
  show Go p.tables e below PP (T6.setTop (mkF m 71 #[.val (.long q1), .second, .val (.ref b1), .val (.long (mixL (q1 + (-7046029254386353131 : Int64)))), .second, .val (.long (mixL ((q1 + (-7046029254386353131 : Int64)) + (-7046029254386353131 : Int64)))), .second, .val (.int (1 : Int32)), .val (.int (1 : Int32))] []))
  refine Go.st (fun t k => XS.iconst X6.here hx rfl (hb hby at_71) k) ?_
  show Go p.tables e below PP (T6.setTop (mkF m 72 #[.val (.long q1), .second, .val (.ref b1), .val (.long (mixL (q1 + (-7046029254386353131 : Int64)))), .second, .val (.long (mixL ((q1 + (-7046029254386353131 : Int64)) + (-7046029254386353131 : Int64)))), .second, .val (.int (1 : Int32)), .val (.int (1 : Int32))] [(.int (1 : Int32))]))
  refine Go.st (fun t k => XS.goto X6.here hx rfl (pc0 := 72) (pc' := 76) rfl (hb hby at_72) (by decide) (by decide) k) ?_
  show Go p.tables e below PP (T6.setTop (mkF m 76 #[.val (.long q1), .second, .val (.ref b1), .val (.long (mixL (q1 + (-7046029254386353131 : Int64)))), .second, .val (.long (mixL ((q1 + (-7046029254386353131 : Int64)) + (-7046029254386353131 : Int64)))), .second, .val (.int (1 : Int32)), .val (.int (1 : Int32))] [(.int (1 : Int32))]))
  rw [hPP]
  refine endN X6 hx hlk (t := .boolean) hret (by simp) (hb hby at_76) (w := (1 : Int32)) (rfl) ?_ (by decide) (by decide)
  show Q0 Z q1 h0 n0 (some (.int (1 : Int32))) T6.heap _
  rw [e6]
  exact ⟨rfl, N4⟩
set_option maxRecDepth 65536 in
set_option maxHeartbeats 40000000 in
theorem comes_1 {Post : Tables → Env → Array Value → State → Outcome → State → Prop} (hpost : ∀ tb e args s v u, (limb_1_1.after args s (.returned v) u = true ∧ limb_1_2.after args s (.returned v) u = true ∧ True) → FrameEnd s (.returned v) u (Jvm.fieldLocs frame_1_writes args s ++ Jvm.arrayLocs frame_1_arrays args s ++ Jvm.staticLocs frame_1_statics s) 16 128 → Post tb e args s (.returned v) u) :
    ArmFor flags0 classFile x code maxLocals ret World_1 tables_1 room_1 Calls_1 rest_1 Pre_1 Post := by
  intro l hfl _ _ p e ha hc hk s m args below hf hA hF happ hP
  obtain ⟨hcalls, hrest, hpre⟩ := hP
  obtain ⟨-, -, -, hnamed, -, -, -, hat⟩ := (Spec.applies_iff hf).mp happ
  obtain ⟨hg, hn⟩ := and_e (Cond.before_iff.mp (show (Jvm.Cond.and given_1 narrow_1).before args s = true from hpre))
  obtain ⟨g1, g2⟩ := and_e hg
  obtain ⟨w0, rfl⟩ : ∃ w0 : Value, args = #[w0] := by
    have hs : args.size = 1 := by simpa [Cond.value, given_1] using g1
    obtain ⟨L⟩ := args
    match L, hs with
    | [w0], _ => exact ⟨w0, rfl⟩
  have hw := fun d (hd : d ∈ tables_1) => atoms_spec (ws := Jvm.Cond.code x code maxLocals ret :: tables_1) hat d (List.mem_cons_of_mem _ hd)
  have hfit : Fit s := fun {y c} hc i hi => by
    obtain ⟨ha, rfl⟩ := Array.getElem?_eq_some_iff.mp hc
    have q := List.all_eq_true.mp ((Array.all_eq_true_iff_forall_mem.mp hF) _ (Array.getElem_mem ha)) i (List.mem_range.mpr hi)
    simpa [Array.getElem?_eq_getElem hi] using q
  obtain ⟨i0, ei0⟩ := isL_v g2
  obtain rfl : w0 = (.long i0) := Option.some.inj ei0
  obtain ⟨n, o, h1, h2, h3, _, L, rfl, ⟨rfl, N⟩, hq⟩ := rm0 l s _ hw tables_1 i0  s.heap s.heap.size (Nat.le_refl _)  p e ha hc hk s m _ below hf ((Spec.applies_iff_loose hf).mp happ).1 ⟨rfl, State.Warmed39.refl s, rfl⟩ trivial
  refine ⟨n, _, h1, h2, h3, hpost _ _ _ _ _ _ ⟨Cond.after_iff.mpr rfl, Cond.after_iff.mpr (eq_i res_at (Term.int_eval (1)) rfl), trivial⟩ ⟨hq.1, hq.2.1, (hq.2.2.sift fun y hy => Or.inr (N y hy)).mono (by decide) (by decide)⟩⟩
theorem main_1_1 : Claimed_1_1 := comes_1 fun _ _ _ _ _ _ h hF => ⟨h.1, hF⟩
theorem main_1_2 : Claimed_1_2 := comes_1 fun _ _ _ _ _ _ h hF => ⟨h.2.1, hF⟩
end Jvm.Pilot.@@N@@
namespace Jvm.Pilot.@@N@@
open Jvm Jvm.ClassFile Sem Op Lib Jvm.Free Jvm.Stand Jvm.Pilot.@@N@@.Jvm.D
/-! MADE BY PROGRAM (witnessworld.py) out of the Statement's table words and the real class files: 9 classes; the members and pool entries that the words name. The judged class is class 1, her method 3. -/
namespace start1
open Jvm.ClassFile
def u (s : String) : CpInfo := .utf8 (stringToUtf16 s)
/-- a pool by its gaps: so many unusable entries, then the entry; so many at the end -/
def gap : Nat → List CpInfo → List CpInfo
  | 0, r => r
  | n + 1, r => .unusable :: gap n r
def poolList (es : List (Nat × CpInfo)) (last : Nat) : List CpInfo := es.foldr (fun e r => gap e.1 (e.2 :: r)) (gap last [])
def pool (es : List (Nat × CpInfo)) (last : Nat) : Array CpInfo := ⟨poolList es last⟩
def fileOf (pool : Array CpInfo) (this : Nat) (attrs : Array Attribute := #[]) (ms : Array MethodInfo := #[]) (fl : Nat := 33) (sup : Nat := 0) (ifs : Array Nat := #[]) (fds : Array FieldInfo := #[]) : ClassFile where
  minorVersion := 0
  majorVersion := 65
  constantPool := pool
  accessFlags := fl
  thisClass := this
  superClass := sup
  interfaces := ifs
  fields := fds
  methods := ms
  attributes := attrs
def plain (name : String) (sup : Option ClassId) : Class where
  name := name
  kind := .ordinary
  loader := none
  accessFlags := 33
  super := sup
  interfaces := #[]
  cf := none
  fields := #[]
  methods := #[]
  instanceTypes := #[]
  staticTypes := #[]
  resolved := #[]
  callSites := []
  init := .initialized
  statics := none
  mirror := none

def pool0 : Array CpInfo := pool [(5, u "<init>"), (0, u "()V"), (1, .class_ 10), (1, u "java/lang/Object")] 113

def k0c0 : Code := { maxStack := 0, maxLocals := 1, code := object_method_1_code, exceptionTable := #[], attributes := #[] }
def k0m0 : Method := { name := "<init>", desc := "()V", sig := { parameters := [], returnType := none }, accessFlags := 1, code := some k0c0 }
/-- java/lang/Object -/
def k0 : Class := { plain "java/lang/Object" none with
  accessFlags := 33
  interfaces := #[]
  cf := some (fileOf pool0 8 #[] #[{ accessFlags := 1, nameIndex := 5, descriptorIndex := 6, attributes := #[] }] 33 0 #[] #[])
  fields := #[]
  methods := #[k0m0]
  instanceTypes := #[]
  staticTypes := #[]
  resolved := Array.replicate 124 none
  statics := none }

def pool1 : Array CpInfo := pool [(2, .class_ 4), (1, u "java/lang/Object"), (0, u "<init>"), (0, u "()V"), (0, .long 2), (1, .class_ 10), (0, u "com/example/banns/banns/SplitMix64NextPinLaw"), (0, .long 10723151780598845931), (1, .methodref 9 14), (0, .nameAndType 15 16), (0, u "inverse"), (0, u "(J)J"), (0, .long 13787848793156543929), (1, .class_ 20), (0, u "com/example/banns/banns/SplitMix64"), (0, .methodref 19 22), (0, .nameAndType 5 23), (0, u "(J)V"), (0, .methodref 19 25), (0, .nameAndType 26 27), (0, u "next"), (0, u "()J"), (0, .methodref 9 29), (0, .nameAndType 30 16), (0, u "unmix"), (0, .long 11400714819323198485), (1, .long 4354685564936845354), (1, u "GAMMA"), (0, u "J"), (1, u "M1"), (0, u "M2"), (2, u "law"), (0, u "(J)Z")] 3

def k1m0 : Method := { name := "<init>", desc := "()V", sig := { parameters := [], returnType := none }, accessFlags := 1, code := none }
def k1c1 : Code := { maxStack := 8, maxLocals := 4, code := method_2_code, exceptionTable := #[], attributes := #[] }
def k1m1 : Method := { name := "inverse", desc := "(J)J", sig := { parameters := [.long], returnType := some .long }, accessFlags := 10, code := some k1c1 }
def k1c2 : Code := { maxStack := 5, maxLocals := 10, code := method_3_code, exceptionTable := #[], attributes := #[] }
def k1m2 : Method := { name := "unmix", desc := "(J)J", sig := { parameters := [.long], returnType := some .long }, accessFlags := 10, code := some k1c2 }
def k1c3 : Code := { maxStack := 6, maxLocals := 9, code := code, exceptionTable := #[], attributes := #[] }
def k1m3 : Method := { name := "law", desc := "(J)Z", sig := { parameters := [.long], returnType := some .boolean }, accessFlags := 9, code := some k1c3 }
/-- com/example/banns/banns/SplitMix64NextPinLaw -/
def k1 : Class := { plain "com/example/banns/banns/SplitMix64NextPinLaw" (some 0) with
  accessFlags := 49
  interfaces := #[]
  cf := some (fileOf pool1 9 #[] #[{ accessFlags := 1, nameIndex := 5, descriptorIndex := 6, attributes := #[] }, { accessFlags := 10, nameIndex := 15, descriptorIndex := 16, attributes := #[] }, { accessFlags := 10, nameIndex := 30, descriptorIndex := 16, attributes := #[] }, { accessFlags := 9, nameIndex := 42, descriptorIndex := 43, attributes := #[] }] 49 2 #[] #[{ accessFlags := 26, nameIndex := 35, descriptorIndex := 36, attributes := #[] }, { accessFlags := 26, nameIndex := 38, descriptorIndex := 36, attributes := #[] }, { accessFlags := 26, nameIndex := 39, descriptorIndex := 36, attributes := #[] }])
  fields := #[{ name := "GAMMA", type := .long, accessFlags := 26, slot := 0, constantValue := 0 }, { name := "M1", type := .long, accessFlags := 26, slot := 1, constantValue := 0 }, { name := "M2", type := .long, accessFlags := 26, slot := 2, constantValue := 0 }]
  methods := #[k1m0, k1m1, k1m2, k1m3]
  instanceTypes := #[]
  staticTypes := #[.long, .long, .long]
  resolved := Array.replicate 47 none
  statics := none }

def pool2 : Array CpInfo := pool [(1, .methodref 2 3), (0, .class_ 4), (0, .nameAndType 5 6), (0, u "java/lang/Object"), (0, u "<init>"), (0, u "()V"), (0, .fieldref 8 9), (0, .class_ 10), (0, .nameAndType 11 12), (0, u "com/example/banns/banns/SplitMix64"), (0, u "state"), (0, u "J"), (0, .long 11400714819323198485), (1, .long 13787848793156543929), (1, .long 10723151780598845931), (3, u "next"), (0, u "()J"), (2, u "(J)V")] 9

def k2c0 : Code := { maxStack := 3, maxLocals := 3, code := prog_28_method_1_code, exceptionTable := #[], attributes := #[] }
def k2m0 : Method := { name := "<init>", desc := "(J)V", sig := { parameters := [.long], returnType := none }, accessFlags := 0, code := some k2c0 }
def k2c1 : Code := { maxStack := 5, maxLocals := 3, code := prog_28_method_2_code, exceptionTable := #[], attributes := #[] }
def k2m1 : Method := { name := "next", desc := "()J", sig := { parameters := [], returnType := some .long }, accessFlags := 0, code := some k2c1 }
/-- com/example/banns/banns/SplitMix64 -/
def k2 : Class := { plain "com/example/banns/banns/SplitMix64" (some 0) with
  accessFlags := 32
  interfaces := #[]
  cf := some (fileOf pool2 8 #[] #[{ accessFlags := 0, nameIndex := 5, descriptorIndex := 25, attributes := #[] }, { accessFlags := 0, nameIndex := 21, descriptorIndex := 22, attributes := #[] }] 32 2 #[] #[{ accessFlags := 2, nameIndex := 11, descriptorIndex := 12, attributes := #[] }])
  fields := #[{ name := "state", type := .long, accessFlags := 2, slot := 0, constantValue := 0 }]
  methods := #[k2m0, k2m1]
  instanceTypes := #[.long]
  staticTypes := #[]
  resolved := Array.replicate 35 none
  statics := none }

def pool3 : Array CpInfo := pool [(1, u "java/lang/Cloneable"), (0, .class_ 1), (0, u "java/lang/Object"), (0, .class_ 3)] 3

/-- java/lang/Cloneable -/
def k3 : Class := { plain "java/lang/Cloneable" (some 0) with
  accessFlags := 1537
  interfaces := #[]
  cf := some (fileOf pool3 2 #[] #[] 1537 4 #[] #[])
  fields := #[]
  methods := #[]
  instanceTypes := #[]
  staticTypes := #[]
  resolved := Array.replicate 8 none
  statics := none }

def pool4 : Array CpInfo := pool [(1, u "java/io/Serializable"), (0, .class_ 1), (0, u "java/lang/Object"), (0, .class_ 3)] 3

/-- java/io/Serializable -/
def k4 : Class := { plain "java/io/Serializable" (some 0) with
  accessFlags := 1537
  interfaces := #[]
  cf := some (fileOf pool4 2 #[] #[] 1537 4 #[] #[])
  fields := #[]
  methods := #[]
  instanceTypes := #[]
  staticTypes := #[]
  resolved := Array.replicate 8 none
  statics := none }

/-- the primitive byte -/
def k5 : Class := { plain "byte" none with kind := .primitive 'B', accessFlags := 0x411 }
/-- [B -/
def k6 : Class := { plain "[B" (some 0) with kind := .array 5 .byte, interfaces := #[3, 4], accessFlags := 1041 }

/-- the primitive int -/
def k7 : Class := { plain "int" none with kind := .primitive 'I', accessFlags := 0x411 }
/-- [I -/
def k8 : Class := { plain "[I" (some 0) with kind := .array 7 .int, interfaces := #[3, 4], accessFlags := 1041 }

def heap : Heap := #[]
def classes : Array Class := #[k0, k1, k2, k3, k4, k5, k6, k7, k8]
def interned : List (Array UInt16 × Addr) := []
def slotsUsed : Nat := 0
def theMethod : MethodId := ⟨1, 3⟩
def args0 : Array Value := #[.long 5]
def aboutOver (below : List Frame) : State where
  vm := { classes := classes, interned := interned.toArray }
  heap := heap
  slotsUsed := slotsUsed
  threads := #[{ frames := .invoking theMethod args0 :: below }]
def below0 : List Frame := [.native { method := ⟨0, 0⟩, args := #[] }]
def about1 : State := aboutOver below0
def p0 : Program := .bare "" "" ""
def e0 : Env := launch0.env 0 0 0
theorem w_frames : about1.frames = Frame.invoking theMethod args0 :: below0 := rfl
set_option maxRecDepth 65536 in
theorem w_args : argsFit about1.vm theMethod args0 = true := by decide +kernel
set_option maxRecDepth 65536 in
theorem w_heap : heapFits about1 = true := by decide +kernel
set_option maxRecDepth 65536 in
theorem w_runnable : about1.curStatus? = some .runnable := by decide +kernel
set_option maxRecDepth 65536 in
theorem w_alone : about1.alone = true := by decide +kernel
set_option maxRecDepth 65536 in
theorem w_named : about1.methodNamed? x = some theMethod := by decide +kernel
set_option maxRecDepth 65536 in
theorem w_hears : about1.hears theMethod below0 = true := by decide +kernel
set_option maxRecDepth 65536 in
theorem w_ripe : about1.ripe theMethod args0 below0 = true := by decide +kernel
theorem w_running : about1.status = .running := rfl
set_option maxRecDepth 65536 in
theorem w_room : about1.hasRoom e0.platform room_1 = true :=
  launch0.hasRoom_least _ room_1 (by decide +kernel) (by decide +kernel) (by decide +kernel) (by decide +kernel) (by decide +kernel) (by decide +kernel)
theorem allAtoms_all (ts : List Jvm.Cond) (a : Array Jvm.Value) (st : Jvm.State) : (allAtoms ts).before a st = ts.all (fun c => c.before a st) := by
  induction ts with
  | nil => rfl
  | cons c t ih =>
    show (Jvm.Cond.and c (allAtoms t)).before a st = _
    rw [Jvm.Cond.before_and, ih, List.all_cons]
def words1 : List Jvm.Cond := Jvm.Cond.code x code maxLocals ret :: tables_1
/-- a 'code' word, met by the world's own term for the bytes: nothing is compared byte by byte -/
theorem code_word {y : MethodName} {bytes : ByteArray} {mx : Nat} {rt : Option FieldType} {a : Array Value} {s : State} {m : MethodId} {meth : Method} {c : Code} (h1 : s.methodNamed? y = some m) (h2 : s.vm.method? m = some meth) (h3 : meth.code = some c) (h4 : c.code = bytes)
    (h5 : (c.maxLocals == mx && c.exceptionTable.isEmpty && decide (c.maxStack ≤ mostOperands) && decide (meth.sig.returnType = rt) && !meth.locks && decide (parseMethodDescriptor y.desc = some meth.sig)) = true) : (Jvm.Cond.code y bytes mx rt).before a s = true := by
  simp only [Bool.and_eq_true, beq_iff_eq, Bool.not_eq_true', decide_eq_true_eq] at h5
  obtain ⟨⟨⟨⟨⟨g1, g2⟩, g3⟩, g4⟩, g5⟩, g6⟩ := h5
  simp [Cond.before, Cond.holds, Cond.value, h1, h2, h3, h4, g1, g2, g3, g4, g5, g6]
def isCode : Jvm.Cond → Bool
  | .code _ _ _ _ => true
  | _ => false
theorem all_split {L : List Jvm.Cond} {P : Jvm.Cond → Bool} (h1 : L.all (fun c => isCode c || P c) = true) (h2 : ∀ c ∈ L.filter isCode, P c = true) : L.all P = true := by
  refine List.all_eq_true.mpr fun c hc => ?_
  have h := List.all_eq_true.mp h1 c hc
  rcases Bool.eq_false_or_eq_true (isCode c) with hi | hi
  · exact h2 c (List.mem_filter.mpr ⟨hc, hi⟩)
  · simpa [hi] using h
set_option maxRecDepth 65536 in
theorem w_c0 : (Jvm.Cond.code x code maxLocals ret).before args0 about1 = true := code_word (m := ⟨1, 3⟩) (meth := k1m3) (c := k1c3) (by decide +kernel) rfl rfl rfl (by decide +kernel)
set_option maxRecDepth 65536 in
theorem w_c1 : (Jvm.Cond.code ({ cls := "com/example/banns/banns/SplitMix64", name := "<init>", desc := "(J)V" } : Jvm.MethodName) prog_28_method_1_code (3 : Nat) (Option.none : Option Jvm.ClassFile.FieldType)).before args0 about1 = true := code_word (m := ⟨2, 0⟩) (meth := k2m0) (c := k2c0) (by decide +kernel) rfl rfl rfl (by decide +kernel)
set_option maxRecDepth 65536 in
theorem w_c2 : (Jvm.Cond.code ({ cls := "java/lang/Object", name := "<init>", desc := "()V" } : Jvm.MethodName) object_method_1_code (1 : Nat) (Option.none : Option Jvm.ClassFile.FieldType)).before args0 about1 = true := code_word (m := ⟨0, 0⟩) (meth := k0m0) (c := k0c0) (by decide +kernel) rfl rfl rfl (by decide +kernel)
set_option maxRecDepth 65536 in
theorem w_c3 : (Jvm.Cond.code ({ cls := "com/example/banns/banns/SplitMix64", name := "next", desc := "()J" } : Jvm.MethodName) prog_28_method_2_code (3 : Nat) (Option.some Jvm.ClassFile.FieldType.long)).before args0 about1 = true := code_word (m := ⟨2, 1⟩) (meth := k2m1) (c := k2c1) (by decide +kernel) rfl rfl rfl (by decide +kernel)
set_option maxRecDepth 65536 in
theorem w_c4 : (Jvm.Cond.code ({ cls := "com/example/banns/banns/SplitMix64NextPinLaw", name := "unmix", desc := "(J)J" } : Jvm.MethodName) method_3_code (10 : Nat) (Option.some Jvm.ClassFile.FieldType.long)).before args0 about1 = true := code_word (m := ⟨1, 2⟩) (meth := k1m2) (c := k1c2) (by decide +kernel) rfl rfl rfl (by decide +kernel)
set_option maxRecDepth 65536 in
theorem w_c5 : (Jvm.Cond.code ({ cls := "com/example/banns/banns/SplitMix64NextPinLaw", name := "inverse", desc := "(J)J" } : Jvm.MethodName) method_2_code (4 : Nat) (Option.some Jvm.ClassFile.FieldType.long)).before args0 about1 = true := code_word (m := ⟨1, 1⟩) (meth := k1m1) (c := k1c1) (by decide +kernel) rfl rfl rfl (by decide +kernel)
def codes1 : List Jvm.Cond := [Jvm.Cond.code x code maxLocals ret, Jvm.Cond.code ({ cls := "com/example/banns/banns/SplitMix64", name := "<init>", desc := "(J)V" } : Jvm.MethodName) prog_28_method_1_code (3 : Nat) (Option.none : Option Jvm.ClassFile.FieldType), Jvm.Cond.code ({ cls := "java/lang/Object", name := "<init>", desc := "()V" } : Jvm.MethodName) object_method_1_code (1 : Nat) (Option.none : Option Jvm.ClassFile.FieldType), Jvm.Cond.code ({ cls := "com/example/banns/banns/SplitMix64", name := "next", desc := "()J" } : Jvm.MethodName) prog_28_method_2_code (3 : Nat) (Option.some Jvm.ClassFile.FieldType.long), Jvm.Cond.code ({ cls := "com/example/banns/banns/SplitMix64NextPinLaw", name := "unmix", desc := "(J)J" } : Jvm.MethodName) method_3_code (10 : Nat) (Option.some Jvm.ClassFile.FieldType.long), Jvm.Cond.code ({ cls := "com/example/banns/banns/SplitMix64NextPinLaw", name := "inverse", desc := "(J)J" } : Jvm.MethodName) method_2_code (4 : Nat) (Option.some Jvm.ClassFile.FieldType.long)]
set_option maxRecDepth 65536 in
theorem codes_eq : words1.filter isCode = codes1 := rfl
theorem w_codes : ∀ c ∈ words1.filter isCode, c.before args0 about1 = true := by
  rw [codes_eq]
  intro c hc
  simp only [codes1, List.mem_cons, List.not_mem_nil, or_false] at hc
  rcases hc with rfl | rfl | rfl | rfl | rfl | rfl
  · exact w_c0
  · exact w_c1
  · exact w_c2
  · exact w_c3
  · exact w_c4
  · exact w_c5
set_option maxRecDepth 65536 in
theorem w_t1 : (words1.take 24).all (fun c => isCode c || c.before args0 about1) = true := by decide +kernel
set_option maxRecDepth 65536 in
theorem w_t2 : (words1.drop 24).all (fun c => isCode c || c.before args0 about1) = true := by decide +kernel
theorem w_tables : (allAtoms (Jvm.Cond.code x code maxLocals ret :: tables_1)).before args0 about1 = true := by
  rw [allAtoms_all]
  show words1.all (fun c => c.before args0 about1) = true
  refine all_split ?_ w_codes
  rw [← List.take_append_drop 24 words1, List.all_append, w_t1, w_t2]
  rfl
set_option maxRecDepth 65536 in
theorem w_case : (Jvm.Cond.and given_1 narrow_1).before args0 about1 = true := by decide +kernel
theorem w_applies : (headSpec (Jvm.Cond.code x code maxLocals ret :: tables_1) room_1).applies x e0.platform about1 = true :=
  (Spec.applies_iff w_frames).mpr ⟨w_running, w_runnable, w_alone, w_named, w_hears, w_ripe, w_room, w_tables⟩
theorem atStart : AtStart classFile x code maxLocals ret World_1 tables_1 room_1 Calls_1 rest_1 Pre_1 launch0 p0 e0 about1 theMethod args0 below0 :=
  ⟨lists_1, trivial, launch0.admits_env _ _ _, launch0.least_env, fairChoices_fair.cas, fairChoices_fair.clock, w_frames, w_args, w_heap, w_applies, trivial, trivial, w_case⟩
end start1
theorem witness_1 : WitnessClaimed_1 := ⟨start1.p0, start1.e0, start1.about1, start1.theMethod, start1.args0, start1.below0, start1.atStart⟩
end Jvm.Pilot.@@N@@
