import JvmDerived
import JvmDerived.Pilot.@@N@@Statement
import JvmDerived.Pilot.@@N@@Code
set_option linter.unusedVariables false
set_option linter.unusedSimpArgs false
namespace Jvm.OwnKit
open Sem ClassFile Op Lib Jvm.Stand Jvm.Free Jvm.LawKit Jvm.RoadKit
/-- from S the run comes to a state of which P holds -/
def Go (tb : Tables) (e : Env) (below : List Frame) (P : State → Prop) (S : State) : Prop := ∃ t, Steps tb e below S t ∧ P t
theorem Go.st {tb : Tables} {e : Env} {below : List Frame} {P : State → Prop} {S S' : State} (h : ∀ t, Steps tb e below S' t → Steps tb e below S t) (g : Go tb e below P S') : Go tb e below P S := by
  obtain ⟨t, h1, h2⟩ := g
  exact ⟨t, h t h1, h2⟩
theorem Go.cast {tb : Tables} {e : Env} {below : List Frame} {P : State → Prop} {T : State} {g g' : JFrame} (q : g = g') (k : Go tb e below P (T.setTop g')) : Go tb e below P (T.setTop g) := q ▸ k
/-- the invocation of s has returned, and Q says what -/
def Fine (s : State) (below : List Frame) (Q : Option Value → Heap → List Loc → Prop) (kc ks : Nat) (t : State) : Prop := ∃ o, t.status = .running ∧ Ended t below o ∧ ∃ v L, o = .returned v ∧ Q v t.heap L ∧ FrameEnd s o t L kc ks
/-- a method's contract, over the tables of the start Z: called with 'as' at the heap h0 it returns, and Q says what -/
def Con (l : Launch) (Z : State) (y : MethodName) (bytes : ByteArray) (maxL : Nat) (ret : Option FieldType) (ws : List Jvm.Cond) (rm : Room) (as : Array Value) (h0 : Heap) (Q : Option Value → Heap → List Loc → Prop) : Prop :=
  MetFree l y (head1 (Jvm.Cond.code y bytes maxL ret :: ws) rm) (fun a U => a = as ∧ Z.Warmed39 U.vm ∧ U.heap = h0) (fun _ _ _ _ _ => True) (fun _ U o U' => ∃ v L, o = .returned v ∧ Q v U'.heap L ∧ FrameEnd U o U' L rm.cells rm.slots)
theorem Con.of {l : Launch} {Z : State} {y : MethodName} {bytes : ByteArray} {maxL : Nat} {ret : Option FieldType} {ws : List Jvm.Cond} {rm : Room} {as : Array Value} {h0 : Heap} {Q : Option Value → Heap → List Loc → Prop} (hpl : plainFor y = true)
    (body : ∀ (p : Program) (e : Env) (s : State) (m : MethodId) (below : List Frame) (meth : Method) (c : Code) (s₁ : State), Z.Warmed39 s.vm → s₁.heap = h0 → Stand p l e rm s m as below meth c s₁ [] 0 0 → p.tables.exec = Jvm.exec → c.code = bytes → c.maxLocals = maxL → s.vm.findClass y.cls = some m.cls → meth.name = y.name → meth.sig.returnType = ret → meth.locks = false →
      Go p.tables e below (Fine s below Q rm.cells rm.slots) (s₁.setTop (entryFrame m as maxL))) : Con l Z y bytes maxL ret ws rm as h0 Q := by
  refine MetFree.of_bodySF hpl hisR ?_
  intro p e s m args below meth c s₁ Bd hml hP hK
  obtain ⟨rfl, hZ, hh⟩ := hP
  have e0 : s₁.heap = h0 := by rw [← hh, Bd.state]; rfl
  obtain ⟨t, h1, o, h2, h3, h4⟩ := body p e s m below meth c s₁ hZ e0 (Stand.of_body Bd) Bd.exec Bd.bytes hml (findClass_of_methodNamed Bd.named) (name_of_methodNamed Bd.named Bd.method).1 Bd.returns Bd.notSynchronized
  exact ⟨t, o, h1, h2, h3, h4⟩
def bi (P : Prop) [Decidable P] : Int32 := if P then 1 else 0
theorem bi_t {P : Prop} [Decidable P] (h : P) : bi P = 1 := if_pos h
theorem bi_f {P : Prop} [Decidable P] (h : ¬ P) : bi P = 0 := if_neg h
theorem eqL_v {args : Array Value} {first s : State} {o : Option Outcome} {idx : List Nat} {t : Term} {k : Int64} (h : (Cond.eq t (.long k)).value args first o s idx = some true) : t.eval args first o idx s = some (.long k) := by
  obtain ⟨x, y, ev, ey, -, hk⟩ := cmp_v (Or.inl h)
  obtain rfl : Value.long k = y := Option.some.inj ey
  obtain ⟨z, rfl⟩ := hk
  obtain rfl : z = k := gotT (eq_L ev ey) h
  exact ev
theorem eqI_v {args : Array Value} {first s : State} {o : Option Outcome} {idx : List Nat} {t : Term} {k : Int32} (h : (Cond.eq t (.int k)).value args first o s idx = some true) : t.eval args first o idx s = some (.int k) := by
  obtain ⟨x, y, ev, ey, -, hk⟩ := cmp_v (Or.inl h)
  obtain rfl : Value.int k = y := Option.some.inj ey
  obtain ⟨z, rfl⟩ := hk
  have q : (Cond.eq t (.int k)).value args first o s idx = some (decide (z = k)) := by simp [Cond.value, ev, ey]
  obtain rfl : z = k := gotT q h
  exact ev
section
variable {p : Program} {l : Launch} {e : Env} {R : Room} {s : State} {m : MethodId} {args : Array Value} {below : List Frame} {meth : Method} {c : Code} {T : State} {locs : List Loc} {cells slots : Nat} {Z : State} {a0 : Array Value} {h : Heap}
theorem fin {Q : Option Value → Heap → List Loc → Prop} {kc ks : Nat} {v : Option Value} {S : State} (X : Stand p l e R s m args below meth c T locs cells slots) (hv : meth.sig.returnType = none → v = none) (hlk : meth.locks = false) (hq : Q v T.heap locs) (hc : cells ≤ kc) (hs : slots ≤ ks)
    (st : ∀ fs, (∀ (f : JFrame) (acts : List Action), f.method = m → f.locked = none → f.entered = [] → (doReturn e (T.setTop f) acts v).1 = T.setFrames fs) → Steps p.tables e below S (T.setFrames fs)) : Go p.tables e below (Fine s below Q kc ks) S := by
  obtain ⟨fs, hr, hrun, hended, hW, hsame⟩ := X.leave (v := v) hv hlk
  exact ⟨_, st fs hr, _, hrun, hended, v, locs, rfl, hq, ⟨_, rfl⟩, hW, hsame.mono hc hs⟩
/-- return of an int, a long, a reference (no narrowing) -/
theorem endW {Q : Option Value → Heap → List Loc → Prop} {kc ks : Nat} (X : Stand p l e R s m args below meth c T locs cells slots) (hx : p.tables.exec = Jvm.exec) (hlk : meth.locks = false) {pc : Nat} {Ls : Array Slot} {w : Value} {t : FieldType} {i : Instr} {rest : List Value} (hret : meth.sig.returnType = some t) (hn : narrow t w = w)
    (hi : (i = .ireturn ∧ (t = .int ∨ t = .boolean ∨ t = .byte ∨ t = .char ∨ t = .short) ∧ ∃ z, w = .int z) ∨ (i = .lreturn ∧ t = .long ∧ ∃ z, w = .long z) ∨ (i = .dreturn ∧ t = .double ∧ ∃ z, w = .double z) ∨ (i = .freturn ∧ t = .float ∧ ∃ z, w = .float z) ∨ (i = .areturn ∧ t.isReference = true ∧ w.isRef = true))
    (hd : decode c.code pc = .ok (i, 1)) (hq : Q (some w) T.heap locs) (hc : cells ≤ kc) (hs : slots ≤ ks) : Go p.tables e below (Fine s below Q kc ks) (T.setTop (mkF m pc Ls (w :: rest))) :=
  fin X (fun h => by rw [hret] at h; cases h) hlk hq hc hs fun fs hr => retOut X hx hret hn hi hd hr
theorem endI {Q : Option Value → Heap → List Loc → Prop} {kc ks : Nat} (X : Stand p l e R s m args below meth c T locs cells slots) (hx : p.tables.exec = Jvm.exec) (hlk : meth.locks = false) {pc : Nat} {Ls : Array Slot} {z : Int32} {rest : List Value} (hret : meth.sig.returnType = some .int)
    (hd : decode c.code pc = .ok (.ireturn, 1)) (hq : Q (some (.int z)) T.heap locs) (hc : cells ≤ kc) (hs : slots ≤ ks) : Go p.tables e below (Fine s below Q kc ks) (T.setTop (mkF m pc Ls (.int z :: rest))) :=
  endW X hx hlk hret rfl (Or.inl ⟨rfl, Or.inl rfl, z, rfl⟩) hd hq hc hs
theorem endJ {Q : Option Value → Heap → List Loc → Prop} {kc ks : Nat} (X : Stand p l e R s m args below meth c T locs cells slots) (hx : p.tables.exec = Jvm.exec) (hlk : meth.locks = false) {pc : Nat} {Ls : Array Slot} {z : Int64} {rest : List Value} (hret : meth.sig.returnType = some .long)
    (hd : decode c.code pc = .ok (.lreturn, 1)) (hq : Q (some (.long z)) T.heap locs) (hc : cells ≤ kc) (hs : slots ≤ ks) : Go p.tables e below (Fine s below Q kc ks) (T.setTop (mkF m pc Ls (.long z :: rest))) :=
  endW X hx hlk hret rfl (Or.inr (Or.inl ⟨rfl, rfl, z, rfl⟩)) hd hq hc hs
theorem endD {Q : Option Value → Heap → List Loc → Prop} {kc ks : Nat} (X : Stand p l e R s m args below meth c T locs cells slots) (hx : p.tables.exec = Jvm.exec) (hlk : meth.locks = false) {pc : Nat} {Ls : Array Slot} {z : UInt64} {rest : List Value} (hret : meth.sig.returnType = some .double)
    (hd : decode c.code pc = .ok (.dreturn, 1)) (hq : Q (some (.double z)) T.heap locs) (hc : cells ≤ kc) (hs : slots ≤ ks) : Go p.tables e below (Fine s below Q kc ks) (T.setTop (mkF m pc Ls (.double z :: rest))) :=
  endW X hx hlk hret rfl (Or.inr (Or.inr (Or.inl ⟨rfl, rfl, z, rfl⟩))) hd hq hc hs
theorem endR {Q : Option Value → Heap → List Loc → Prop} {kc ks : Nat} (X : Stand p l e R s m args below meth c T locs cells slots) (hx : p.tables.exec = Jvm.exec) (hlk : meth.locks = false) {pc : Nat} {Ls : Array Slot} {w : Value} {t : FieldType} {rest : List Value} (hret : meth.sig.returnType = some t) (ht : t.isReference = true) (hw : w.isRef = true)
    (hd : decode c.code pc = .ok (.areturn, 1)) (hq : Q (some w) T.heap locs) (hc : cells ≤ kc) (hs : slots ≤ ks) : Go p.tables e below (Fine s below Q kc ks) (T.setTop (mkF m pc Ls (w :: rest))) :=
  endW X hx hlk hret (by cases w <;> first | rfl | (cases t <;> first | rfl | cases ht) | cases hw) (Or.inr (Or.inr (Or.inr (Or.inr ⟨rfl, ht, hw⟩)))) hd hq hc hs
/-- return of a boolean, byte, char or short: narrowed -/
theorem endN {Q : Option Value → Heap → List Loc → Prop} {kc ks : Nat} (X : Stand p l e R s m args below meth c T locs cells slots) (hx : p.tables.exec = Jvm.exec) (hlk : meth.locks = false) {pc : Nat} {Ls : Array Slot} {z w : Int32} {t : FieldType} {rest : List Value} (hret : meth.sig.returnType = some t) (ht : t = .boolean ∨ t = .byte ∨ t = .char ∨ t = .short)
    (hd : decode c.code pc = .ok (.ireturn, 1)) (hz : nar t z = w) (hq : Q (some (.int w)) T.heap locs) (hc : cells ≤ kc) (hs : slots ≤ ks) : Go p.tables e below (Fine s below Q kc ks) (T.setTop (mkF m pc Ls (.int z :: rest))) := by
  subst hz
  exact fin X (fun h => by rw [hret] at h; cases h) hlk hq hc hs fun fs hr => retN X hx hret ht hd hr
theorem endV {Q : Option Value → Heap → List Loc → Prop} {kc ks : Nat} (X : Stand p l e R s m args below meth c T locs cells slots) (hx : p.tables.exec = Jvm.exec) (hlk : meth.locks = false) {pc : Nat} {Ls : Array Slot} (hret : meth.sig.returnType = none)
    (hd : decode c.code pc = .ok (.return_, 1)) (hq : Q none T.heap locs) (hc : cells ≤ kc) (hs : slots ≤ ks) : Go p.tables e below (Fine s below Q kc ks) (T.setTop (mkF m pc Ls [])) :=
  fin X (fun _ => rfl) hlk hq hc hs fun fs hr => X.returnOut hx hret hd hr
theorem lremM {g : JFrame} {target : State} (X : Stand p l e R s m args below meth c T locs cells slots) (hx : p.tables.exec = Jvm.exec) (hg : g.method = m) {x y : Int64} {rest : List Value} (hd : decode c.code g.pc = .ok (.lrem, 1)) (hs : g.stack = .long y :: .long x :: rest) (hy : y ≠ 0)
    (hr : Steps p.tables e below (T.setTop { g with pc := g.pc + 1, stack := .long (x % y) :: rest }) target) : Steps p.tables e below (T.setTop g) target := by
  have q : x - x / y * y = x % y := lrem_mod x y
  exact XS.lrem X.here hx hg hd hs hy (by rw [q]; exact hr)
/-- a static call by its contract -/
theorem callSt (X : Stand p l e R s m args below meth c T locs cells slots) (hx : p.tables.exec = Jvm.exec) (hZ : Z.Warmed39 s.vm) {own : String} {index : Nat} {y : MethodName} {bytes : ByteArray} {maxL : Nat} {ret : Option FieldType} {rm : Room} {Q : Option Value → Heap → List Loc → Prop} {argsL rest : List Value}
    (hown : s.vm.findClass own = some m.cls) (w1 : (Cond.methodLink own index y).before a0 Z = true) (w2 : (Cond.static y).before a0 Z = true) (w3 : (Cond.initialized y.cls).before a0 Z = true) (w4 : (Cond.code y bytes maxL ret).before a0 Z = true) (hy : y.cls ≠ "java/lang/invoke/MethodHandle" ∧ y.cls ≠ "java/lang/invoke/VarHandle")
    (hM : Con l Z y bytes maxL ret [] rm argsL.toArray h Q) (eT : T.heap = h) (W : Nat) (hf : rm.frames + 1 ≤ R.frames) (hl : W + (maxL + 11) + rm.locals ≤ R.locals) (hcc : cells + rm.cells ≤ R.cells) (hss : slots + rm.slots ≤ R.slots)
    {g : JFrame} (hg : g.method = m) (hsize : g.locals.size = c.maxLocals) (hlen : ∀ sig, parseMethodDescriptor y.desc = some sig → argsL.length = sig.parameters.length)
    (hstack : g.stack = argsL.reverse ++ rest) (hW : 2 * g.monitorRoom + (rest.map fun v => v.category).sum ≤ W) (hd : decode c.code g.pc = .ok (.invokestatic index, 3)) :
    ∃ v T' L, Stand p l e R s m args below meth c T' (locs ++ L) (cells + rm.cells) (slots + rm.slots) ∧ Q v T'.heap L ∧ ∀ target, Steps p.tables e below (T'.setTop { g with pc := g.pc + 3, stack := v.toList ++ rest }) target → Steps p.tables e below (T.setTop g) target := by
  obtain ⟨v, vm1, ⟨T', L', k', n'⟩, -, X', ⟨L, hQ, l1, l2, l3⟩, st⟩ := Jvm.LawKit.callS X hx hown (mvT hZ w1) (mvT hZ w2) (mvT hZ w3) (mvT hZ w4) hy (backOf (Q := Q) (W := W) hM hZ w4 w3 hf hl) hg hsize hlen hstack hW hd (fun _ _ => ⟨rfl, eT, hcc, hss⟩)
  (try dsimp only at X' l1 l2 l3 st hQ)
  subst l1 l2 l3
  exact ⟨v, T', L, X', hQ, st⟩
/-- a constructor by its contract -/
theorem callIn (X : Stand p l e R s m args below meth c T locs cells slots) (hx : p.tables.exec = Jvm.exec) (hZ : Z.Warmed39 s.vm) {own : String} {index : Nat} {y : MethodName} {bytes : ByteArray} {maxL : Nat} {rm : Room} {Q : Option Value → Heap → List Loc → Prop} {a : Addr} {argsL rest : List Value} (hy1 : y.name = "<init>")
    (hown : s.vm.findClass own = some m.cls) (w1 : (Cond.methodLink own index y).before a0 Z = true) (w2 : (Cond.instanceMethod y).before a0 Z = true) (w3 : (Cond.initialized y.cls).before a0 Z = true) (w4 : (Cond.code y bytes maxL none).before a0 Z = true) (hy : y.cls ≠ "java/lang/invoke/MethodHandle" ∧ y.cls ≠ "java/lang/invoke/VarHandle")
    (hM : Con l Z y bytes maxL none [] rm (.ref a :: argsL).toArray h Q) (eT : T.heap = h) (W : Nat) (hf : rm.frames + 1 ≤ R.frames) (hl : W + (maxL + 11) + rm.locals ≤ R.locals) (hcc : cells + rm.cells ≤ R.cells) (hss : slots + rm.slots ≤ R.slots)
    {g : JFrame} (hg : g.method = m) (hsize : g.locals.size = c.maxLocals) (hlen : ∀ sig, parseMethodDescriptor y.desc = some sig → argsL.length = sig.parameters.length)
    (hstack : g.stack = argsL.reverse ++ .ref a :: rest) (hW : 2 * g.monitorRoom + (rest.map fun v => v.category).sum ≤ W) (hd : decode c.code g.pc = .ok (.invokespecial index, 3)) :
    ∃ v T' L, Stand p l e R s m args below meth c T' (locs ++ L) (cells + rm.cells) (slots + rm.slots) ∧ Q v T'.heap L ∧ ∀ target, Steps p.tables e below (T'.setTop { g with pc := g.pc + 3, stack := v.toList ++ rest }) target → Steps p.tables e below (T.setTop g) target := by
  obtain ⟨v, vm1, ⟨T', L', k', n'⟩, -, X', ⟨L, hQ, l1, l2, l3⟩, st⟩ := X.specialBack hx hy1 hown (mvT hZ w1) (mvT hZ w2) (mvT hZ w4) hy (backOf (Q := Q) (W := W) hM hZ w4 w3 hf hl) hg hsize (Steps.refl _) hlen hstack hW hd (fun _ _ => ⟨rfl, eT, hcc, hss⟩)
  (try dsimp only at X' l1 l2 l3 st hQ)
  subst l1 l2 l3
  exact ⟨v, T', L, X', hQ, fun target k => st.trans k⟩
/-- an instance method by the contract of the body that the receiver's class selects -/
theorem callVi (X : Stand p l e R s m args below meth c T locs cells slots) (hx : p.tables.exec = Jvm.exec) (hZ : Z.Warmed39 s.vm) {own C : String} {index : Nat} {y z : MethodName} {bytes : ByteArray} {maxL : Nat} {ret : Option FieldType} {rm : Room} {Q : Option Value → Heap → List Loc → Prop} {a : Addr} {argsL rest : List Value}
    (hown : s.vm.findClass own = some m.cls) (w1 : (Cond.methodLink own index y).before a0 Z = true) (w2 : (Cond.declares y).before a0 Z = true) (nf : NotFace s y) (w3 : (Cond.selects C y z).before a0 Z = true) (w4 : (Cond.instanceMethod z).before a0 Z = true) (w5 : (Cond.initialized z.cls).before a0 Z = true) (w6 : (Cond.code z bytes maxL ret).before a0 Z = true) (hy : y.cls ≠ "java/lang/invoke/MethodHandle" ∧ y.cls ≠ "java/lang/invoke/VarHandle")
    (hyz : z.desc = y.desc) (E : Exa Z h a C) (hM : Con l Z z bytes maxL ret [] rm (.ref a :: argsL).toArray h Q) (eT : T.heap = h) (W : Nat) (hf : rm.frames + 1 ≤ R.frames) (hl : W + (maxL + 11) + rm.locals ≤ R.locals) (hcc : cells + rm.cells ≤ R.cells) (hss : slots + rm.slots ≤ R.slots)
    {g : JFrame} (hg : g.method = m) (hsize : g.locals.size = c.maxLocals) (hlen : ∀ sig, parseMethodDescriptor y.desc = some sig → argsL.length = sig.parameters.length)
    (hstack : g.stack = argsL.reverse ++ .ref a :: rest) (hW : 2 * g.monitorRoom + (rest.map fun v => v.category).sum ≤ W) (hd : decode c.code g.pc = .ok (.invokevirtual index, 3)) :
    ∃ v T' L, Stand p l e R s m args below meth c T' (locs ++ L) (cells + rm.cells) (slots + rm.slots) ∧ Q v T'.heap L ∧ ∀ target, Steps p.tables e below (T'.setTop { g with pc := g.pc + 3, stack := v.toList ++ rest }) target → Steps p.tables e below (T.setTop g) target := by
  obtain ⟨cq, kq, qa, qb, qc⟩ := isOf hZ eT E
  obtain ⟨v, vm1, ⟨T', L', k', n'⟩, -, X', ⟨L, hQ, l1, l2, l3⟩, st⟩ := X.virtualBack hx (y := y) (z := z) hown (mvT hZ w1) (mvT hZ w2) nf (mvT hZ w3) (mvT hZ w4) hy (backOf (Q := Q) (W := W) hM hZ w6 w5 hf hl) qa qc hg hsize (Steps.refl _) hlen hstack hW hd (fun _ _ => ⟨rfl, eT, hcc, hss⟩)
  (try dsimp only at X' l1 l2 l3 st hQ)
  subst l1 l2 l3
  exact ⟨v, T', L, X', hQ, fun target k => st.trans k⟩
/-- an array whose k-th element is f k -/
def Afn (Z : State) (h : Heap) (a : Addr) (ty : FieldType) (n : Int32) (f : Nat → Value) : Prop := ∃ c : Cell, Arr Z h a c ty ∧ c.slots.size = n.toNatClampNeg ∧ ¬ n < 0 ∧ ∀ k, k < n.toNatClampNeg → c.slots[k]? = some (f k) ∧ fits ty (f k) = true
theorem Afn.lt {h : Heap} {a : Addr} {ty : FieldType} {n : Int32} {f : Nat → Value} (F : Afn Z h a ty n f) : a < h.size := by obtain ⟨c, A, -⟩ := F; exact A.lt
theorem Afn.nn {h : Heap} {a : Addr} {ty : FieldType} {n : Int32} {f : Nat → Value} (F : Afn Z h a ty n f) : ¬ n < 0 := by obtain ⟨c, -, -, q, -⟩ := F; exact q
theorem Afn.ext {h h' : Heap} {a : Addr} {ty : FieldType} {n : Int32} {f : Nat → Value} (F : Afn Z h a ty n f) (E : Ext h h') : Afn Z h' a ty n f := by obtain ⟨c, A, r⟩ := F; exact ⟨c, A.ext E, r⟩
theorem Afn.other {h h' : Heap} {a b : Addr} {ty : FieldType} {n : Int32} {f : Nat → Value} {sl : Nat} {v : Value} (F : Afn Z h b ty n f) (W : Wr h h' a sl v) (q : b ≠ a) : Afn Z h' b ty n f := by obtain ⟨c, A, r⟩ := F; exact ⟨c, A.other W q, r⟩
theorem Afn.keep {h h' : Heap} {a : Addr} {ty : FieldType} {n : Int32} {f : Nat → Value} {ws : List Addr} (F : Afn Z h a ty n f) (K : Keep h h' ws) (q : a ∉ ws) : Afn Z h' a ty n f := by obtain ⟨c, A, r⟩ := F; exact ⟨c, ⟨K.2.1 a c A.1 q, A.2⟩, r⟩
theorem Afn.congr {h : Heap} {a : Addr} {ty : FieldType} {n : Int32} {f g : Nat → Value} (F : Afn Z h a ty n f) (q : ∀ k, k < n.toNatClampNeg → f k = g k) : Afn Z h a ty n g := by
  obtain ⟨c, A, s, m, r⟩ := F
  exact ⟨c, A, s, m, fun k hk => by rw [← q k hk]; exact r k hk⟩
theorem Afn.new {h : Heap} {a : Addr} {ty : FieldType} {n : Int32} {k : ClassId} (A : Arr Z h a (newA k ty n) ty) (q : ¬ n < 0) : Afn Z h a ty n (fun _ => defaultValue ty) := by
  obtain ⟨c, B, -, s, m, H, G⟩ := Arv.new A q
  exact ⟨c, B, s, m, fun j hj => ⟨by simpa using H j (by rw [s]; exact hj), by simpa using G j (by rw [s]; exact hj)⟩⟩
theorem Afn.set {h h' : Heap} {a : Addr} {ty : FieldType} {n : Int32} {f : Nat → Value} {c : Cell} {j : Int32} {v : Value} (A : Arr Z h a c ty) (s : c.slots.size = n.toNatClampNeg) (m : ¬ n < 0) (r : ∀ k, k < n.toNatClampNeg → c.slots[k]? = some (f k) ∧ fits ty (f k) = true) (hv : fits ty v = true) (W : Wr h h' a j.toNatClampNeg v) :
    Afn Z h' a ty n (fun k => if k = j.toNatClampNeg then v else f k) := by
  refine ⟨c.setSlot j.toNatClampNeg v, A.same W, by rw [sz_set]; exact s, m, fun k hk => ?_⟩
  dsimp only
  by_cases q : k = j.toNatClampNeg
  · rw [if_pos q]
    refine ⟨?_, hv⟩
    subst q
    simp [Cell.setSlot, s, hk]
  · rw [if_neg q]
    refine ⟨?_, (r k hk).2⟩
    show (c.slots.setIfInBounds _ _)[k]? = _
    rw [Array.getElem?_setIfInBounds_ne (Ne.symm q)]
    exact (r k hk).1
theorem inbN {n j : Int32} (q : ¬ j < 0 ∧ j < n) : j.toNatClampNeg < n.toNatClampNeg := by
  obtain ⟨h1, h2⟩ := q
  rw [Int32.lt_iff_toInt_lt] at h1 h2
  have e : (0 : Int32).toInt = 0 := rfl
  simp only [Int32.toNatClampNeg]
  omega
theorem Afn.of_arv {h : Heap} {a : Addr} {k : ClassId} {ty : FieldType} {n : Int32} {vs : List Value} {d : Value} (F : Arv Z h a k ty n vs d) : Afn Z h a ty n (fun i => vs.getD i d) := by
  obtain ⟨c, A, -, s, m, H, G⟩ := F
  exact ⟨c, A, s, m, fun i hi => ⟨H i (by rw [s]; exact hi), G i (by rw [s]; exact hi)⟩⟩
theorem ns_root {O K : String} {n : Nat} (w : (Cond.noSuperclass O).before a0 Z = true) (wk : (Cond.instantiable K n).before a0 Z = true) (hn : O ≠ K) : NS Z O K := by
  obtain ⟨c, k, h1, h2, h3, -, -⟩ := Cond.noSuperclass_spec w
  obtain ⟨t, kt, g1, -⟩ := Cond.instantiable_spec wk
  have ne := ids_ne h1 g1 hn
  refine ⟨c, t, h1, g1, fun fuel => ?_⟩
  cases fuel with
  | zero => rfl
  | succ f => simp [Vm.isSubclassAux, ne, h2, h3]
theorem ns_no {C S K : String} {n : Nat} (w : (Cond.superclass C S).before a0 Z = true) (wk : (Cond.instantiable K n).before a0 Z = true) (q : NS Z C K) (hn : C ≠ K) : ∃ c t, Z.vm.findClass C = some c ∧ Z.vm.findClass K = some t ∧ Z.vm.assignable c t = false := by
  obtain ⟨c, t, h0, g0, n3⟩ := q
  obtain ⟨p, k, kp, h1, h2, h3, h4, h5, -, h7⟩ := Cond.superclass_spec h0 w
  obtain ⟨t', kt, g1, g2, g3, g4, -⟩ := Cond.instantiable_spec wk
  cases g0.symm.trans g1
  have g5 : kt.isInterface = false := (Bool.or_eq_false_iff.mp g4).1
  have ne := ids_ne h0 g0 hn
  refine ⟨c, t, h0, g0, ?_⟩
  show Z.vm.assignableAux (255 + 1) c t = false
  simp [Vm.assignableAux, ne, h2, g2, h5, g3, g5, Vm.isSubclass, n3]
end
end Jvm.OwnKit
namespace Jvm.Pilot.@@N@@
open Jvm Jvm.ClassFile Sem Op Lib Jvm.Free Jvm.Stand Jvm.LawKit Jvm.RoadKit Jvm.OwnKit Bundle Jvm.Pilot.@@N@@.Jvm.D
theorem d1_0 : decode prog_106_method_7_code 0 = .ok (.lload_n 0, 1) := by decide +kernel
theorem d1_1 : decode prog_106_method_7_code 1 = .ok (.lconst 0, 1) := by decide +kernel
theorem d1_2 : decode prog_106_method_7_code 2 = .ok (.lcmp, 1) := by decide +kernel
theorem d1_3 : decode prog_106_method_7_code 3 = .ok (.ifCond .lt 15, 3) := by decide +kernel
theorem d1_6 : decode prog_106_method_7_code 6 = .ok (.lload_n 0, 1) := by decide +kernel
theorem d1_7 : decode prog_106_method_7_code 7 = .ok (.getstatic 139, 3) := by decide +kernel
theorem d1_10 : decode prog_106_method_7_code 10 = .ok (.lcmp, 1) := by decide +kernel
theorem d1_11 : decode prog_106_method_7_code 11 = .ok (.ifCond .ge 7, 3) := by decide +kernel
theorem d1_14 : decode prog_106_method_7_code 14 = .ok (.iconst 1, 1) := by decide +kernel
theorem d1_15 : decode prog_106_method_7_code 15 = .ok (.goto 4, 3) := by decide +kernel
theorem d1_18 : decode prog_106_method_7_code 18 = .ok (.iconst 0, 1) := by decide +kernel
theorem d1_19 : decode prog_106_method_7_code 19 = .ok (.ireturn, 1) := by decide +kernel
theorem pn_rm1 : plainName "com/example/llave/llave/model/TimeLiterals" = true := by first | (simp [plainName, overriddenIn]; done) | decide +kernel
theorem ef_rm1 (m : MethodId) (q1 : Int64) : entryFrame m #[(.long q1)] 2 = mkF m 0 #[.val (.long q1), .second] [] := by first | (simp [entryFrame, mkF, argsToLocals, Value.category]; done) | rfl
def Q1 (Z : State) (q1 : Int64) (h0 : Heap) (n0 : Nat) (v : Option Value) (h : Heap) (L : List Loc) : Prop := v = some (.int (bi (¬ q1 < (0 : Int64) ∧ q1 < (86400000000000 : Int64)))) ∧ L = [] ∧ h = h0
set_option maxRecDepth 65536 in
set_option maxHeartbeats 40000000 in
theorem rm1 (l : Launch) (Z : State) (a0 : Array Value) (hw : ∀ d ∈ tables_1, d.before a0 Z = true) (ws : List Jvm.Cond) (q1 : Int64) (h0 : Heap) (n0 : Nat) (Z0 : n0 ≤ h0.size) (SN : Sta Z h0 "com/example/llave/llave/model/TimeLiterals" "NANOS_PER_DAY" "J" (.long (86400000000000 : Int64))) :
    Con l Z (⟨"com/example/llave/llave/model/TimeLiterals", "isTime", "(J)Z"⟩ : MethodName) prog_106_method_7_code 2 (some .boolean) ws ({ frames := 0, cells := 0, slots := 0, locals := 0 } : Room) #[(.long q1)] h0 (Q1 Z q1 h0 n0) := by
  refine Con.of (plainFor_of_name pn_rm1) ?_
  intro p e s m below meth c s₁ hZ e0 X0 hx hby hml hown hnm hret hlk
  replace hml : c.maxLocals = 2 := hml
  have hown : s.vm.findClass "com/example/llave/llave/model/TimeLiterals" = some m.cls := hown
  have N0 : Fr n0 [] := Fr.nil n0
  obtain ⟨PP, hPP⟩ : ∃ P, P = Fine s below (Q1 Z q1 h0 n0) ({ frames := 0, cells := 0, slots := 0, locals := 0 } : Room).cells ({ frames := 0, cells := 0, slots := 0, locals := 0 } : Room).slots := ⟨_, rfl⟩
  rw [← hPP]
  refine Go.cast (ef_rm1 m q1) ?_
  have Zn : n0 ≤ h0.size := Z0
  show Go p.tables e below PP (s₁.setTop (mkF m 0 #[.val (.long q1), .second] []))
  refine Go.st (fun t k => XS.lloadN X0.here hx rfl (hb hby d1_0) rfl k) ?_
  show Go p.tables e below PP (s₁.setTop (mkF m 1 #[.val (.long q1), .second] [(.long q1)]))
  refine Go.st (fun t k => XS.lconst X0.here hx rfl (hb hby d1_1) k) ?_
  show Go p.tables e below PP (s₁.setTop (mkF m 2 #[.val (.long q1), .second] [(.long (0 : Int64)), (.long q1)]))
  refine Go.st (fun t k => XS.lcmp X0.here hx rfl (hb hby d1_2) rfl k) ?_
  show Go p.tables e below PP (s₁.setTop (mkF m 3 #[.val (.long q1), .second] [(.int (XT.cmpL q1 (0 : Int64)))]))
  by_cases hc3 : q1 < (0 : Int64)
  · --
    refine Go.st (fun t k => XS.ifYes X0.here hx rfl (pc0 := 3) (pc' := 18) rfl (hb hby d1_3) rfl (XT.ll_lt_t hc3) (by decide) (by decide) k) ?_
    show Go p.tables e below PP (s₁.setTop (mkF m 18 #[.val (.long q1), .second] []))
    refine Go.st (fun t k => XS.iconst X0.here hx rfl (hb hby d1_18) k) ?_
    show Go p.tables e below PP (s₁.setTop (mkF m 19 #[.val (.long q1), .second] [(.int (0 : Int32))]))
    rw [hPP]
    refine endN X0 hx hlk (t := .boolean) hret (by simp) (hb hby d1_19) (w := (0 : Int32)) (rfl) ?_ (by decide) (by decide)
    show Q1 Z q1 h0 n0 (some (.int (0 : Int32))) s₁.heap _
    rw [e0]
    exact ⟨by simp [bi, hc3], rfl, rfl⟩
  · --
    refine Go.st (fun t k => XS.ifNo X0.here hx rfl (hb hby d1_3) rfl (XT.ll_lt_f hc3) k) ?_
    show Go p.tables e below PP (s₁.setTop (mkF m 6 #[.val (.long q1), .second] []))
    refine Go.st (fun t k => XS.lloadN X0.here hx rfl (hb hby d1_6) rfl k) ?_
    show Go p.tables e below PP (s₁.setTop (mkF m 7 #[.val (.long q1), .second] [(.long q1)]))
    obtain ⟨T1, X1, e1, st1⟩ := getS2 X0 hx hZ hown (host := "") (Or.inl (hw _ (List.mem_of_getElem? (i := 6) rfl))) Via.refl e0 SN (g := (mkF m 7 #[.val (.long q1), .second] [(.long q1)])) rfl (hb hby d1_7)
    refine Go.st st1 ?_
    show Go p.tables e below PP (T1.setTop (mkF m 10 #[.val (.long q1), .second] [(.long (86400000000000 : Int64)), (.long q1)]))
    refine Go.st (fun t k => XS.lcmp X1.here hx rfl (hb hby d1_10) rfl k) ?_
    show Go p.tables e below PP (T1.setTop (mkF m 11 #[.val (.long q1), .second] [(.int (XT.cmpL q1 (86400000000000 : Int64)))]))
    by_cases hc11 : q1 < (86400000000000 : Int64)
    · --
      refine Go.st (fun t k => XS.ifNo X1.here hx rfl (hb hby d1_11) rfl (XT.ll_ge_f hc11) k) ?_
      show Go p.tables e below PP (T1.setTop (mkF m 14 #[.val (.long q1), .second] []))
      refine Go.st (fun t k => XS.iconst X1.here hx rfl (hb hby d1_14) k) ?_
      show Go p.tables e below PP (T1.setTop (mkF m 15 #[.val (.long q1), .second] [(.int (1 : Int32))]))
      refine Go.st (fun t k => XS.goto X1.here hx rfl (pc0 := 15) (pc' := 19) rfl (hb hby d1_15) (by decide) (by decide) k) ?_
      show Go p.tables e below PP (T1.setTop (mkF m 19 #[.val (.long q1), .second] [(.int (1 : Int32))]))
      rw [hPP]
      refine endN X1 hx hlk (t := .boolean) hret (by simp) (hb hby d1_19) (w := (1 : Int32)) (rfl) ?_ (by decide) (by decide)
      show Q1 Z q1 h0 n0 (some (.int (1 : Int32))) T1.heap _
      rw [e1]
      exact ⟨by simp [bi, hc3, hc11], rfl, rfl⟩
    · --
      refine Go.st (fun t k => XS.ifYes X1.here hx rfl (pc0 := 11) (pc' := 18) rfl (hb hby d1_11) rfl (XT.ll_ge_t hc11) (by decide) (by decide) k) ?_
      show Go p.tables e below PP (T1.setTop (mkF m 18 #[.val (.long q1), .second] []))
      refine Go.st (fun t k => XS.iconst X1.here hx rfl (hb hby d1_18) k) ?_
      show Go p.tables e below PP (T1.setTop (mkF m 19 #[.val (.long q1), .second] [(.int (0 : Int32))]))
      rw [hPP]
      refine endN X1 hx hlk (t := .boolean) hret (by simp) (hb hby d1_19) (w := (0 : Int32)) (rfl) ?_ (by decide) (by decide)
      show Q1 Z q1 h0 n0 (some (.int (0 : Int32))) T1.heap _
      rw [e1]
      exact ⟨by simp [bi, hc3, hc11], rfl, rfl⟩
theorem own_d (k d : Int64) (hd : (k &&& (255 : Int64)) = d) : (¬ d < (0 : Int64) ∧ d < (86400000000000 : Int64)) ∧ ¬ (¬ ((-1 : Int64) - d) < (0 : Int64) ∧ ((-1 : Int64) - d) < (86400000000000 : Int64)) ∧ (¬ ((86399999999999 : Int64) - d) < (0 : Int64) ∧ ((86399999999999 : Int64) - d) < (86400000000000 : Int64)) ∧ ¬ (¬ ((86400000000000 : Int64) + d) < (0 : Int64) ∧ ((86400000000000 : Int64) + d) < (86400000000000 : Int64)) := by
  have q := c_maskL k 255 8 (by decide) (by decide)
  rw [hd] at q
  have a1 := c_lsub (-1) d
  have a2 := c_lsub 86399999999999 d
  have a3 := c_ladd 86400000000000 d
  have r1 := rng64 (-1 - d)
  have r2 := rng64 (86399999999999 - d)
  have r3 := rng64 (86400000000000 + d)
  have e0 : (0 : Int64).toInt = 0 := rfl
  have e1 : (-1 : Int64).toInt = -1 := rfl
  have e2 : (86399999999999 : Int64).toInt = 86399999999999 := rfl
  have e3 : (86400000000000 : Int64).toInt = 86400000000000 := rfl
  simp only [Int64.lt_iff_toInt_lt]
  refine ⟨?_, ?_, ?_, ?_⟩ <;> omega
theorem pn_rm0 : plainName "com/example/llave/llave/model/TimeLiteralsIsTimePinLaw" = true := by first | (simp [plainName, overriddenIn]; done) | decide +kernel
theorem ef_rm0 (m : MethodId) (q1 : Int64) (q2 : Int64) : entryFrame m #[(.long q1), (.long q2)] maxLocals = mkF m 0 #[.val (.long q1), .second, .val (.long q2), .second, .unset, .unset, .unset, .unset, .unset, .unset] [] := by first | (simp [entryFrame, mkF, argsToLocals, Value.category, maxLocals]; done) | rfl
def Q0 (Z : State) (q1 : Int64) (q2 : Int64) (h0 : Heap) (n0 : Nat) (v : Option Value) (h : Heap) (L : List Loc) : Prop := v = some (.int 1) ∧ Fr n0 L
theorem pd_0 : parseMethodDescriptor "(J)Z" = some ⟨[.long], some .boolean⟩ := by decide +kernel
set_option maxRecDepth 65536 in
set_option maxHeartbeats 40000000 in
theorem rm0 (l : Launch) (Z : State) (a0 : Array Value) (hw : ∀ d ∈ tables_1, d.before a0 Z = true) (ws : List Jvm.Cond) (q1 : Int64) (q2 : Int64) (h0 : Heap) (n0 : Nat) (Z0 : n0 ≤ h0.size) (SN : Sta Z h0 "com/example/llave/llave/model/TimeLiterals" "NANOS_PER_DAY" "J" (.long (86400000000000 : Int64))) :
    Con l Z x code maxLocals ret ws room_1 #[(.long q1), (.long q2)] h0 (Q0 Z q1 q2 h0 n0) := by
  refine Con.of (plainFor_of_name pn_rm0) ?_
  intro p e s m below meth c s₁ hZ e0 X0 hx hby hml hown hnm hret hlk
  replace hml : c.maxLocals = 10 := hml
  have hown : s.vm.findClass "com/example/llave/llave/model/TimeLiteralsIsTimePinLaw" = some m.cls := hown
  have N0 : Fr n0 [] := Fr.nil n0
  obtain ⟨PP, hPP⟩ : ∃ P, P = Fine s below (Q0 Z q1 q2 h0 n0) room_1.cells room_1.slots := ⟨_, rfl⟩
  rw [← hPP]
  refine Go.cast (ef_rm0 m q1 q2) ?_
  have Zn : n0 ≤ h0.size := Z0
  show Go p.tables e below PP (s₁.setTop (mkF m 0 #[.val (.long q1), .second, .val (.long q2), .second, .unset, .unset, .unset, .unset, .unset, .unset] []))
  refine Go.st (fun t k => X0.ldc2J hx hown (mvT hZ (hw _ (List.mem_of_getElem? (i := 0) rfl))) (g := (mkF m 0 #[.val (.long q1), .second, .val (.long q2), .second, .unset, .unset, .unset, .unset, .unset, .unset] [])) rfl (hb hby at_0) k) ?_
  show Go p.tables e below PP (s₁.setTop (mkF m 3 #[.val (.long q1), .second, .val (.long q2), .second, .unset, .unset, .unset, .unset, .unset, .unset] [(.long (86400000000000 : Int64))]))
  refine Go.st (fun t k => XS.lstore X0.here hx rfl (hb hby at_3) rfl (l' := #[.val (.long q1), .second, .val (.long q2), .second, .val (.long (86400000000000 : Int64)), .second, .unset, .unset, .unset, .unset]) rfl k) ?_
  show Go p.tables e below PP (s₁.setTop (mkF m 5 #[.val (.long q1), .second, .val (.long q2), .second, .val (.long (86400000000000 : Int64)), .second, .unset, .unset, .unset, .unset] []))
  refine Go.st (fun t k => XS.lloadN X0.here hx rfl (hb hby at_5) rfl k) ?_
  show Go p.tables e below PP (s₁.setTop (mkF m 6 #[.val (.long q1), .second, .val (.long q2), .second, .val (.long (86400000000000 : Int64)), .second, .unset, .unset, .unset, .unset] [(.long q2)]))
  refine Go.st (fun t k => X0.ldc2J hx hown (mvT hZ (hw _ (List.mem_of_getElem? (i := 1) rfl))) (g := (mkF m 6 #[.val (.long q1), .second, .val (.long q2), .second, .val (.long (86400000000000 : Int64)), .second, .unset, .unset, .unset, .unset] [(.long q2)])) rfl (hb hby at_6) k) ?_
  show Go p.tables e below PP (s₁.setTop (mkF m 9 #[.val (.long q1), .second, .val (.long q2), .second, .val (.long (86400000000000 : Int64)), .second, .unset, .unset, .unset, .unset] [(.long (255 : Int64)), (.long q2)]))
  refine Go.st (fun t k => XS.land X0.here hx rfl (hb hby at_9) rfl k) ?_
  show Go p.tables e below PP (s₁.setTop (mkF m 10 #[.val (.long q1), .second, .val (.long q2), .second, .val (.long (86400000000000 : Int64)), .second, .unset, .unset, .unset, .unset] [(.long (q2 &&& (255 : Int64)))]))
  refine Go.st (fun t k => XS.lstore X0.here hx rfl (hb hby at_10) rfl (l' := #[.val (.long q1), .second, .val (.long q2), .second, .val (.long (86400000000000 : Int64)), .second, .val (.long (q2 &&& (255 : Int64))), .second, .unset, .unset]) rfl k) ?_
  generalize hd' : (q2 &&& (255 : Int64)) = d'
  have J30 : ∀ (T1 : State) (L1 : List Loc) (b : Int32), Stand p l e room_1 s m #[(.long q1), (.long q2)] below meth c T1 L1 0 0 → T1.heap = h0 → Fr n0 L1 → b = (bi (¬ q1 < (0 : Int64) ∧ q1 < (86400000000000 : Int64))) → Go p.tables e below PP (T1.setTop (mkF m 30 #[.val (.long q1), .second, .val (.long q2), .second, .val (.long (86400000000000 : Int64)), .second, .val (.long d'), .second, .unset, .unset] [(.int b)])) := by
    intro T1 L1 b X1 e1 N1 hJ30
    show Go p.tables e below PP (T1.setTop (mkF m 30 #[.val (.long q1), .second, .val (.long q2), .second, .val (.long (86400000000000 : Int64)), .second, .val (.long d'), .second, .unset, .unset] [(.int b)]))
    refine Go.st (fun t k => XS.istore X1.here hx rfl (hb hby at_30) rfl (l' := #[.val (.long q1), .second, .val (.long q2), .second, .val (.long (86400000000000 : Int64)), .second, .val (.long d'), .second, .val (.int b), .unset]) rfl k) ?_
    show Go p.tables e below PP (T1.setTop (mkF m 32 #[.val (.long q1), .second, .val (.long q2), .second, .val (.long (86400000000000 : Int64)), .second, .val (.long d'), .second, .val (.int b), .unset] []))
    refine Go.st (fun t k => XS.lloadN X1.here hx rfl (hb hby at_32) rfl k) ?_
    show Go p.tables e below PP (T1.setTop (mkF m 33 #[.val (.long q1), .second, .val (.long q2), .second, .val (.long (86400000000000 : Int64)), .second, .val (.long d'), .second, .val (.int b), .unset] [(.long q1)]))
    obtain ⟨v2, T2, L2, X2, hQ2, st2⟩ := callSt X1 hx hZ (y := (⟨"com/example/llave/llave/model/TimeLiterals", "isTime", "(J)Z"⟩ : MethodName)) (argsL := [(.long q1)]) (rest := []) hown (hw _ (List.mem_of_getElem? (i := 2) rfl)) (hw _ (List.mem_of_getElem? (i := 3) rfl)) (hw _ (List.mem_of_getElem? (i := 4) rfl)) (hw _ (List.mem_of_getElem? (i := 5) rfl)) (by decide) (rm1 l Z a0 hw [] q1 h0 n0 Zn SN) e1 0 (by decide) (by decide) (by decide) (by decide) (g := (mkF m 33 #[.val (.long q1), .second, .val (.long q2), .second, .val (.long (86400000000000 : Int64)), .second, .val (.long d'), .second, .val (.int b), .unset] [(.long q1)])) rfl (by rw [hml]; rfl) (lenOf pd_0 rfl) rfl (by show 2 * 0 + _ ≤ _; exact Nat.le_of_eq rfl) (hb hby at_33)
    obtain ⟨rfl, rfl, e2⟩ := hQ2
    rw [List.append_nil] at X2
    refine Go.st st2 ?_
    show Go p.tables e below PP (T2.setTop (mkF m 36 #[.val (.long q1), .second, .val (.long q2), .second, .val (.long (86400000000000 : Int64)), .second, .val (.long d'), .second, .val (.int b), .unset] [(.int (bi (¬ q1 < (0 : Int64) ∧ q1 < (86400000000000 : Int64))))]))
    refine Go.st (fun t k => XS.iload X2.here hx rfl (hb hby at_36) rfl k) ?_
    show Go p.tables e below PP (T2.setTop (mkF m 38 #[.val (.long q1), .second, .val (.long q2), .second, .val (.long (86400000000000 : Int64)), .second, .val (.long d'), .second, .val (.int b), .unset] [(.int b), (.int (bi (¬ q1 < (0 : Int64) ∧ q1 < (86400000000000 : Int64))))]))
    refine Go.st (fun t k => XS.icmpNo X2.here hx rfl (hb hby at_38) rfl (XT.ii_ne_f hJ30.symm) k) ?_
    show Go p.tables e below PP (T2.setTop (mkF m 41 #[.val (.long q1), .second, .val (.long q2), .second, .val (.long (86400000000000 : Int64)), .second, .val (.long d'), .second, .val (.int b), .unset] []))
    refine Go.st (fun t k => XS.iconst X2.here hx rfl (hb hby at_41) k) ?_
    show Go p.tables e below PP (T2.setTop (mkF m 42 #[.val (.long q1), .second, .val (.long q2), .second, .val (.long (86400000000000 : Int64)), .second, .val (.long d'), .second, .val (.int b), .unset] [(.int (1 : Int32))]))
    refine Go.st (fun t k => XS.goto X2.here hx rfl (pc0 := 42) (pc' := 46) rfl (hb hby at_42) (by decide) (by decide) k) ?_
    show Go p.tables e below PP (T2.setTop (mkF m 46 #[.val (.long q1), .second, .val (.long q2), .second, .val (.long (86400000000000 : Int64)), .second, .val (.long d'), .second, .val (.int b), .unset] [(.int (1 : Int32))]))
    refine Go.st (fun t k => XS.istore X2.here hx rfl (hb hby at_46) rfl (l' := #[.val (.long q1), .second, .val (.long q2), .second, .val (.long (86400000000000 : Int64)), .second, .val (.long d'), .second, .val (.int b), .val (.int (1 : Int32))]) rfl k) ?_
    show Go p.tables e below PP (T2.setTop (mkF m 48 #[.val (.long q1), .second, .val (.long q2), .second, .val (.long (86400000000000 : Int64)), .second, .val (.long d'), .second, .val (.int b), .val (.int (1 : Int32))] []))
    refine Go.st (fun t k => XS.iload X2.here hx rfl (hb hby at_48) rfl k) ?_
    show Go p.tables e below PP (T2.setTop (mkF m 50 #[.val (.long q1), .second, .val (.long q2), .second, .val (.long (86400000000000 : Int64)), .second, .val (.long d'), .second, .val (.int b), .val (.int (1 : Int32))] [(.int (1 : Int32))]))
    refine Go.st (fun t k => XS.ifNo X2.here hx rfl (hb hby at_50) rfl (XT.i0_eq_f (by decide)) k) ?_
    show Go p.tables e below PP (T2.setTop (mkF m 53 #[.val (.long q1), .second, .val (.long q2), .second, .val (.long (86400000000000 : Int64)), .second, .val (.long d'), .second, .val (.int b), .val (.int (1 : Int32))] []))
    refine Go.st (fun t k => XS.lload X2.here hx rfl (hb hby at_53) rfl k) ?_
    show Go p.tables e below PP (T2.setTop (mkF m 55 #[.val (.long q1), .second, .val (.long q2), .second, .val (.long (86400000000000 : Int64)), .second, .val (.long d'), .second, .val (.int b), .val (.int (1 : Int32))] [(.long d')]))
    obtain ⟨v3, T3, L3, X3, hQ3, st3⟩ := callSt X2 hx hZ (y := (⟨"com/example/llave/llave/model/TimeLiterals", "isTime", "(J)Z"⟩ : MethodName)) (argsL := [(.long d')]) (rest := []) hown (hw _ (List.mem_of_getElem? (i := 2) rfl)) (hw _ (List.mem_of_getElem? (i := 3) rfl)) (hw _ (List.mem_of_getElem? (i := 4) rfl)) (hw _ (List.mem_of_getElem? (i := 5) rfl)) (by decide) (rm1 l Z a0 hw [] d' h0 n0 Zn SN) e2 0 (by decide) (by decide) (by decide) (by decide) (g := (mkF m 55 #[.val (.long q1), .second, .val (.long q2), .second, .val (.long (86400000000000 : Int64)), .second, .val (.long d'), .second, .val (.int b), .val (.int (1 : Int32))] [(.long d')])) rfl (by rw [hml]; rfl) (lenOf pd_0 rfl) rfl (by show 2 * 0 + _ ≤ _; exact Nat.le_of_eq rfl) (hb hby at_55)
    obtain ⟨rfl, rfl, e3⟩ := hQ3
    rw [List.append_nil] at X3
    refine Go.st st3 ?_
    show Go p.tables e below PP (T3.setTop (mkF m 58 #[.val (.long q1), .second, .val (.long q2), .second, .val (.long (86400000000000 : Int64)), .second, .val (.long d'), .second, .val (.int b), .val (.int (1 : Int32))] [(.int (bi (¬ d' < (0 : Int64) ∧ d' < (86400000000000 : Int64))))]))
    refine Go.st (fun t k => XS.ifNo X3.here hx rfl (hb hby at_58) rfl (XT.i0_eq_f (by rw [bi_t (own_d _ _ hd').1]; decide)) k) ?_
    show Go p.tables e below PP (T3.setTop (mkF m 61 #[.val (.long q1), .second, .val (.long q2), .second, .val (.long (86400000000000 : Int64)), .second, .val (.long d'), .second, .val (.int b), .val (.int (1 : Int32))] []))
    refine Go.st (fun t k => XS.iconst X3.here hx rfl (hb hby at_61) k) ?_
    show Go p.tables e below PP (T3.setTop (mkF m 62 #[.val (.long q1), .second, .val (.long q2), .second, .val (.long (86400000000000 : Int64)), .second, .val (.long d'), .second, .val (.int b), .val (.int (1 : Int32))] [(.int (1 : Int32))]))
    refine Go.st (fun t k => XS.goto X3.here hx rfl (pc0 := 62) (pc' := 66) rfl (hb hby at_62) (by decide) (by decide) k) ?_
    show Go p.tables e below PP (T3.setTop (mkF m 66 #[.val (.long q1), .second, .val (.long q2), .second, .val (.long (86400000000000 : Int64)), .second, .val (.long d'), .second, .val (.int b), .val (.int (1 : Int32))] [(.int (1 : Int32))]))
    refine Go.st (fun t k => XS.istore X3.here hx rfl (hb hby at_66) rfl (l' := #[.val (.long q1), .second, .val (.long q2), .second, .val (.long (86400000000000 : Int64)), .second, .val (.long d'), .second, .val (.int b), .val (.int (1 : Int32))]) rfl k) ?_
    show Go p.tables e below PP (T3.setTop (mkF m 68 #[.val (.long q1), .second, .val (.long q2), .second, .val (.long (86400000000000 : Int64)), .second, .val (.long d'), .second, .val (.int b), .val (.int (1 : Int32))] []))
    refine Go.st (fun t k => XS.iload X3.here hx rfl (hb hby at_68) rfl k) ?_
    show Go p.tables e below PP (T3.setTop (mkF m 70 #[.val (.long q1), .second, .val (.long q2), .second, .val (.long (86400000000000 : Int64)), .second, .val (.long d'), .second, .val (.int b), .val (.int (1 : Int32))] [(.int (1 : Int32))]))
    refine Go.st (fun t k => XS.ifNo X3.here hx rfl (hb hby at_70) rfl (XT.i0_eq_f (by decide)) k) ?_
    show Go p.tables e below PP (T3.setTop (mkF m 73 #[.val (.long q1), .second, .val (.long q2), .second, .val (.long (86400000000000 : Int64)), .second, .val (.long d'), .second, .val (.int b), .val (.int (1 : Int32))] []))
    refine Go.st (fun t k => X3.ldc2J hx hown (mvT hZ (hw _ (List.mem_of_getElem? (i := 8) rfl))) (g := (mkF m 73 #[.val (.long q1), .second, .val (.long q2), .second, .val (.long (86400000000000 : Int64)), .second, .val (.long d'), .second, .val (.int b), .val (.int (1 : Int32))] [])) rfl (hb hby at_73) k) ?_
    show Go p.tables e below PP (T3.setTop (mkF m 76 #[.val (.long q1), .second, .val (.long q2), .second, .val (.long (86400000000000 : Int64)), .second, .val (.long d'), .second, .val (.int b), .val (.int (1 : Int32))] [(.long (-1 : Int64))]))
    refine Go.st (fun t k => XS.lload X3.here hx rfl (hb hby at_76) rfl k) ?_
    show Go p.tables e below PP (T3.setTop (mkF m 78 #[.val (.long q1), .second, .val (.long q2), .second, .val (.long (86400000000000 : Int64)), .second, .val (.long d'), .second, .val (.int b), .val (.int (1 : Int32))] [(.long d'), (.long (-1 : Int64))]))
    refine Go.st (fun t k => XS.lsub X3.here hx rfl (hb hby at_78) rfl k) ?_
    show Go p.tables e below PP (T3.setTop (mkF m 79 #[.val (.long q1), .second, .val (.long q2), .second, .val (.long (86400000000000 : Int64)), .second, .val (.long d'), .second, .val (.int b), .val (.int (1 : Int32))] [(.long ((-1 : Int64) - d'))]))
    obtain ⟨v4, T4, L4, X4, hQ4, st4⟩ := callSt X3 hx hZ (y := (⟨"com/example/llave/llave/model/TimeLiterals", "isTime", "(J)Z"⟩ : MethodName)) (argsL := [(.long ((-1 : Int64) - d'))]) (rest := []) hown (hw _ (List.mem_of_getElem? (i := 2) rfl)) (hw _ (List.mem_of_getElem? (i := 3) rfl)) (hw _ (List.mem_of_getElem? (i := 4) rfl)) (hw _ (List.mem_of_getElem? (i := 5) rfl)) (by decide) (rm1 l Z a0 hw [] ((-1 : Int64) - d') h0 n0 Zn SN) e3 0 (by decide) (by decide) (by decide) (by decide) (g := (mkF m 79 #[.val (.long q1), .second, .val (.long q2), .second, .val (.long (86400000000000 : Int64)), .second, .val (.long d'), .second, .val (.int b), .val (.int (1 : Int32))] [(.long ((-1 : Int64) - d'))])) rfl (by rw [hml]; rfl) (lenOf pd_0 rfl) rfl (by show 2 * 0 + _ ≤ _; exact Nat.le_of_eq rfl) (hb hby at_79)
    obtain ⟨rfl, rfl, e4⟩ := hQ4
    rw [List.append_nil] at X4
    refine Go.st st4 ?_
    show Go p.tables e below PP (T4.setTop (mkF m 82 #[.val (.long q1), .second, .val (.long q2), .second, .val (.long (86400000000000 : Int64)), .second, .val (.long d'), .second, .val (.int b), .val (.int (1 : Int32))] [(.int (bi (¬ ((-1 : Int64) - d') < (0 : Int64) ∧ ((-1 : Int64) - d') < (86400000000000 : Int64))))]))
    refine Go.st (fun t k => XS.ifNo X4.here hx rfl (hb hby at_82) rfl (XT.i0_ne_f (bi_f (own_d _ _ hd').2.1)) k) ?_
    show Go p.tables e below PP (T4.setTop (mkF m 85 #[.val (.long q1), .second, .val (.long q2), .second, .val (.long (86400000000000 : Int64)), .second, .val (.long d'), .second, .val (.int b), .val (.int (1 : Int32))] []))
    refine Go.st (fun t k => XS.iconst X4.here hx rfl (hb hby at_85) k) ?_
    show Go p.tables e below PP (T4.setTop (mkF m 86 #[.val (.long q1), .second, .val (.long q2), .second, .val (.long (86400000000000 : Int64)), .second, .val (.long d'), .second, .val (.int b), .val (.int (1 : Int32))] [(.int (1 : Int32))]))
    refine Go.st (fun t k => XS.goto X4.here hx rfl (pc0 := 86) (pc' := 90) rfl (hb hby at_86) (by decide) (by decide) k) ?_
    show Go p.tables e below PP (T4.setTop (mkF m 90 #[.val (.long q1), .second, .val (.long q2), .second, .val (.long (86400000000000 : Int64)), .second, .val (.long d'), .second, .val (.int b), .val (.int (1 : Int32))] [(.int (1 : Int32))]))
    refine Go.st (fun t k => XS.istore X4.here hx rfl (hb hby at_90) rfl (l' := #[.val (.long q1), .second, .val (.long q2), .second, .val (.long (86400000000000 : Int64)), .second, .val (.long d'), .second, .val (.int b), .val (.int (1 : Int32))]) rfl k) ?_
    show Go p.tables e below PP (T4.setTop (mkF m 92 #[.val (.long q1), .second, .val (.long q2), .second, .val (.long (86400000000000 : Int64)), .second, .val (.long d'), .second, .val (.int b), .val (.int (1 : Int32))] []))
    refine Go.st (fun t k => XS.iload X4.here hx rfl (hb hby at_92) rfl k) ?_
    show Go p.tables e below PP (T4.setTop (mkF m 94 #[.val (.long q1), .second, .val (.long q2), .second, .val (.long (86400000000000 : Int64)), .second, .val (.long d'), .second, .val (.int b), .val (.int (1 : Int32))] [(.int (1 : Int32))]))
    refine Go.st (fun t k => XS.ifNo X4.here hx rfl (hb hby at_94) rfl (XT.i0_eq_f (by decide)) k) ?_
    show Go p.tables e below PP (T4.setTop (mkF m 97 #[.val (.long q1), .second, .val (.long q2), .second, .val (.long (86400000000000 : Int64)), .second, .val (.long d'), .second, .val (.int b), .val (.int (1 : Int32))] []))
    refine Go.st (fun t k => XS.lload X4.here hx rfl (hb hby at_97) rfl k) ?_
    show Go p.tables e below PP (T4.setTop (mkF m 99 #[.val (.long q1), .second, .val (.long q2), .second, .val (.long (86400000000000 : Int64)), .second, .val (.long d'), .second, .val (.int b), .val (.int (1 : Int32))] [(.long (86400000000000 : Int64))]))
    refine Go.st (fun t k => XS.lconst X4.here hx rfl (hb hby at_99) k) ?_
    show Go p.tables e below PP (T4.setTop (mkF m 100 #[.val (.long q1), .second, .val (.long q2), .second, .val (.long (86400000000000 : Int64)), .second, .val (.long d'), .second, .val (.int b), .val (.int (1 : Int32))] [(.long (1 : Int64)), (.long (86400000000000 : Int64))]))
    refine Go.st (fun t k => XS.lsub X4.here hx rfl (hb hby at_100) rfl k) ?_
    show Go p.tables e below PP (T4.setTop (mkF m 101 #[.val (.long q1), .second, .val (.long q2), .second, .val (.long (86400000000000 : Int64)), .second, .val (.long d'), .second, .val (.int b), .val (.int (1 : Int32))] [(.long (86399999999999 : Int64))]))
    refine Go.st (fun t k => XS.lload X4.here hx rfl (hb hby at_101) rfl k) ?_
    show Go p.tables e below PP (T4.setTop (mkF m 103 #[.val (.long q1), .second, .val (.long q2), .second, .val (.long (86400000000000 : Int64)), .second, .val (.long d'), .second, .val (.int b), .val (.int (1 : Int32))] [(.long d'), (.long (86399999999999 : Int64))]))
    refine Go.st (fun t k => XS.lsub X4.here hx rfl (hb hby at_103) rfl k) ?_
    show Go p.tables e below PP (T4.setTop (mkF m 104 #[.val (.long q1), .second, .val (.long q2), .second, .val (.long (86400000000000 : Int64)), .second, .val (.long d'), .second, .val (.int b), .val (.int (1 : Int32))] [(.long ((86399999999999 : Int64) - d'))]))
    obtain ⟨v5, T5, L5, X5, hQ5, st5⟩ := callSt X4 hx hZ (y := (⟨"com/example/llave/llave/model/TimeLiterals", "isTime", "(J)Z"⟩ : MethodName)) (argsL := [(.long ((86399999999999 : Int64) - d'))]) (rest := []) hown (hw _ (List.mem_of_getElem? (i := 2) rfl)) (hw _ (List.mem_of_getElem? (i := 3) rfl)) (hw _ (List.mem_of_getElem? (i := 4) rfl)) (hw _ (List.mem_of_getElem? (i := 5) rfl)) (by decide) (rm1 l Z a0 hw [] ((86399999999999 : Int64) - d') h0 n0 Zn SN) e4 0 (by decide) (by decide) (by decide) (by decide) (g := (mkF m 104 #[.val (.long q1), .second, .val (.long q2), .second, .val (.long (86400000000000 : Int64)), .second, .val (.long d'), .second, .val (.int b), .val (.int (1 : Int32))] [(.long ((86399999999999 : Int64) - d'))])) rfl (by rw [hml]; rfl) (lenOf pd_0 rfl) rfl (by show 2 * 0 + _ ≤ _; exact Nat.le_of_eq rfl) (hb hby at_104)
    obtain ⟨rfl, rfl, e5⟩ := hQ5
    rw [List.append_nil] at X5
    refine Go.st st5 ?_
    show Go p.tables e below PP (T5.setTop (mkF m 107 #[.val (.long q1), .second, .val (.long q2), .second, .val (.long (86400000000000 : Int64)), .second, .val (.long d'), .second, .val (.int b), .val (.int (1 : Int32))] [(.int (bi (¬ ((86399999999999 : Int64) - d') < (0 : Int64) ∧ ((86399999999999 : Int64) - d') < (86400000000000 : Int64))))]))
    refine Go.st (fun t k => XS.ifNo X5.here hx rfl (hb hby at_107) rfl (XT.i0_eq_f (by rw [bi_t (own_d _ _ hd').2.2.1]; decide)) k) ?_
    show Go p.tables e below PP (T5.setTop (mkF m 110 #[.val (.long q1), .second, .val (.long q2), .second, .val (.long (86400000000000 : Int64)), .second, .val (.long d'), .second, .val (.int b), .val (.int (1 : Int32))] []))
    refine Go.st (fun t k => XS.iconst X5.here hx rfl (hb hby at_110) k) ?_
    show Go p.tables e below PP (T5.setTop (mkF m 111 #[.val (.long q1), .second, .val (.long q2), .second, .val (.long (86400000000000 : Int64)), .second, .val (.long d'), .second, .val (.int b), .val (.int (1 : Int32))] [(.int (1 : Int32))]))
    refine Go.st (fun t k => XS.goto X5.here hx rfl (pc0 := 111) (pc' := 115) rfl (hb hby at_111) (by decide) (by decide) k) ?_
    show Go p.tables e below PP (T5.setTop (mkF m 115 #[.val (.long q1), .second, .val (.long q2), .second, .val (.long (86400000000000 : Int64)), .second, .val (.long d'), .second, .val (.int b), .val (.int (1 : Int32))] [(.int (1 : Int32))]))
    refine Go.st (fun t k => XS.istore X5.here hx rfl (hb hby at_115) rfl (l' := #[.val (.long q1), .second, .val (.long q2), .second, .val (.long (86400000000000 : Int64)), .second, .val (.long d'), .second, .val (.int b), .val (.int (1 : Int32))]) rfl k) ?_
    show Go p.tables e below PP (T5.setTop (mkF m 117 #[.val (.long q1), .second, .val (.long q2), .second, .val (.long (86400000000000 : Int64)), .second, .val (.long d'), .second, .val (.int b), .val (.int (1 : Int32))] []))
    refine Go.st (fun t k => XS.iload X5.here hx rfl (hb hby at_117) rfl k) ?_
    show Go p.tables e below PP (T5.setTop (mkF m 119 #[.val (.long q1), .second, .val (.long q2), .second, .val (.long (86400000000000 : Int64)), .second, .val (.long d'), .second, .val (.int b), .val (.int (1 : Int32))] [(.int (1 : Int32))]))
    refine Go.st (fun t k => XS.ifNo X5.here hx rfl (hb hby at_119) rfl (XT.i0_eq_f (by decide)) k) ?_
    show Go p.tables e below PP (T5.setTop (mkF m 122 #[.val (.long q1), .second, .val (.long q2), .second, .val (.long (86400000000000 : Int64)), .second, .val (.long d'), .second, .val (.int b), .val (.int (1 : Int32))] []))
    refine Go.st (fun t k => XS.lload X5.here hx rfl (hb hby at_122) rfl k) ?_
    show Go p.tables e below PP (T5.setTop (mkF m 124 #[.val (.long q1), .second, .val (.long q2), .second, .val (.long (86400000000000 : Int64)), .second, .val (.long d'), .second, .val (.int b), .val (.int (1 : Int32))] [(.long (86400000000000 : Int64))]))
    refine Go.st (fun t k => XS.lload X5.here hx rfl (hb hby at_124) rfl k) ?_
    show Go p.tables e below PP (T5.setTop (mkF m 126 #[.val (.long q1), .second, .val (.long q2), .second, .val (.long (86400000000000 : Int64)), .second, .val (.long d'), .second, .val (.int b), .val (.int (1 : Int32))] [(.long d'), (.long (86400000000000 : Int64))]))
    refine Go.st (fun t k => XS.ladd X5.here hx rfl (hb hby at_126) rfl k) ?_
    show Go p.tables e below PP (T5.setTop (mkF m 127 #[.val (.long q1), .second, .val (.long q2), .second, .val (.long (86400000000000 : Int64)), .second, .val (.long d'), .second, .val (.int b), .val (.int (1 : Int32))] [(.long ((86400000000000 : Int64) + d'))]))
    obtain ⟨v6, T6, L6, X6, hQ6, st6⟩ := callSt X5 hx hZ (y := (⟨"com/example/llave/llave/model/TimeLiterals", "isTime", "(J)Z"⟩ : MethodName)) (argsL := [(.long ((86400000000000 : Int64) + d'))]) (rest := []) hown (hw _ (List.mem_of_getElem? (i := 2) rfl)) (hw _ (List.mem_of_getElem? (i := 3) rfl)) (hw _ (List.mem_of_getElem? (i := 4) rfl)) (hw _ (List.mem_of_getElem? (i := 5) rfl)) (by decide) (rm1 l Z a0 hw [] ((86400000000000 : Int64) + d') h0 n0 Zn SN) e5 0 (by decide) (by decide) (by decide) (by decide) (g := (mkF m 127 #[.val (.long q1), .second, .val (.long q2), .second, .val (.long (86400000000000 : Int64)), .second, .val (.long d'), .second, .val (.int b), .val (.int (1 : Int32))] [(.long ((86400000000000 : Int64) + d'))])) rfl (by rw [hml]; rfl) (lenOf pd_0 rfl) rfl (by show 2 * 0 + _ ≤ _; exact Nat.le_of_eq rfl) (hb hby at_127)
    obtain ⟨rfl, rfl, e6⟩ := hQ6
    rw [List.append_nil] at X6
    refine Go.st st6 ?_
    show Go p.tables e below PP (T6.setTop (mkF m 130 #[.val (.long q1), .second, .val (.long q2), .second, .val (.long (86400000000000 : Int64)), .second, .val (.long d'), .second, .val (.int b), .val (.int (1 : Int32))] [(.int (bi (¬ ((86400000000000 : Int64) + d') < (0 : Int64) ∧ ((86400000000000 : Int64) + d') < (86400000000000 : Int64))))]))
    refine Go.st (fun t k => XS.ifNo X6.here hx rfl (hb hby at_130) rfl (XT.i0_ne_f (bi_f (own_d _ _ hd').2.2.2)) k) ?_
    show Go p.tables e below PP (T6.setTop (mkF m 133 #[.val (.long q1), .second, .val (.long q2), .second, .val (.long (86400000000000 : Int64)), .second, .val (.long d'), .second, .val (.int b), .val (.int (1 : Int32))] []))
    refine Go.st (fun t k => XS.iconst X6.here hx rfl (hb hby at_133) k) ?_
    show Go p.tables e below PP (T6.setTop (mkF m 134 #[.val (.long q1), .second, .val (.long q2), .second, .val (.long (86400000000000 : Int64)), .second, .val (.long d'), .second, .val (.int b), .val (.int (1 : Int32))] [(.int (1 : Int32))]))
    refine Go.st (fun t k => XS.goto X6.here hx rfl (pc0 := 134) (pc' := 138) rfl (hb hby at_134) (by decide) (by decide) k) ?_
    show Go p.tables e below PP (T6.setTop (mkF m 138 #[.val (.long q1), .second, .val (.long q2), .second, .val (.long (86400000000000 : Int64)), .second, .val (.long d'), .second, .val (.int b), .val (.int (1 : Int32))] [(.int (1 : Int32))]))
    refine Go.st (fun t k => XS.istore X6.here hx rfl (hb hby at_138) rfl (l' := #[.val (.long q1), .second, .val (.long q2), .second, .val (.long (86400000000000 : Int64)), .second, .val (.long d'), .second, .val (.int b), .val (.int (1 : Int32))]) rfl k) ?_
    show Go p.tables e below PP (T6.setTop (mkF m 140 #[.val (.long q1), .second, .val (.long q2), .second, .val (.long (86400000000000 : Int64)), .second, .val (.long d'), .second, .val (.int b), .val (.int (1 : Int32))] []))
    refine Go.st (fun t k => XS.iload X6.here hx rfl (hb hby at_140) rfl k) ?_
    show Go p.tables e below PP (T6.setTop (mkF m 142 #[.val (.long q1), .second, .val (.long q2), .second, .val (.long (86400000000000 : Int64)), .second, .val (.long d'), .second, .val (.int b), .val (.int (1 : Int32))] [(.int (1 : Int32))]))
    rw [hPP]
    refine endN X6 hx hlk (t := .boolean) hret (by simp) (hb hby at_142) (w := (1 : Int32)) (rfl) ?_ (by decide) (by decide)
    show Q0 Z q1 q2 h0 n0 (some (.int (1 : Int32))) T6.heap _
    rw [e6]
    exact ⟨rfl, N1⟩
  show Go p.tables e below PP (s₁.setTop (mkF m 12 #[.val (.long q1), .second, .val (.long q2), .second, .val (.long (86400000000000 : Int64)), .second, .val (.long d'), .second, .unset, .unset] []))
  refine Go.st (fun t k => XS.lloadN X0.here hx rfl (hb hby at_12) rfl k) ?_
  show Go p.tables e below PP (s₁.setTop (mkF m 13 #[.val (.long q1), .second, .val (.long q2), .second, .val (.long (86400000000000 : Int64)), .second, .val (.long d'), .second, .unset, .unset] [(.long q1)]))
  refine Go.st (fun t k => XS.lconst X0.here hx rfl (hb hby at_13) k) ?_
  show Go p.tables e below PP (s₁.setTop (mkF m 14 #[.val (.long q1), .second, .val (.long q2), .second, .val (.long (86400000000000 : Int64)), .second, .val (.long d'), .second, .unset, .unset] [(.long (0 : Int64)), (.long q1)]))
  refine Go.st (fun t k => XS.lcmp X0.here hx rfl (hb hby at_14) rfl k) ?_
  show Go p.tables e below PP (s₁.setTop (mkF m 15 #[.val (.long q1), .second, .val (.long q2), .second, .val (.long (86400000000000 : Int64)), .second, .val (.long d'), .second, .unset, .unset] [(.int (XT.cmpL q1 (0 : Int64)))]))
  by_cases hc15 : q1 < (0 : Int64)
  · --
    refine Go.st (fun t k => XS.ifYes X0.here hx rfl (pc0 := 15) (pc' := 29) rfl (hb hby at_15) rfl (XT.ll_lt_t hc15) (by decide) (by decide) k) ?_
    show Go p.tables e below PP (s₁.setTop (mkF m 29 #[.val (.long q1), .second, .val (.long q2), .second, .val (.long (86400000000000 : Int64)), .second, .val (.long d'), .second, .unset, .unset] []))
    refine Go.st (fun t k => XS.iconst X0.here hx rfl (hb hby at_29) k) ?_
    show Go p.tables e below PP (s₁.setTop (mkF m 30 #[.val (.long q1), .second, .val (.long q2), .second, .val (.long (86400000000000 : Int64)), .second, .val (.long d'), .second, .unset, .unset] [(.int (0 : Int32))]))
    exact J30 _ _ _ X0 e0 N0 (by simp [bi, hc15])
  · --
    refine Go.st (fun t k => XS.ifNo X0.here hx rfl (hb hby at_15) rfl (XT.ll_lt_f hc15) k) ?_
    show Go p.tables e below PP (s₁.setTop (mkF m 18 #[.val (.long q1), .second, .val (.long q2), .second, .val (.long (86400000000000 : Int64)), .second, .val (.long d'), .second, .unset, .unset] []))
    refine Go.st (fun t k => XS.lloadN X0.here hx rfl (hb hby at_18) rfl k) ?_
    show Go p.tables e below PP (s₁.setTop (mkF m 19 #[.val (.long q1), .second, .val (.long q2), .second, .val (.long (86400000000000 : Int64)), .second, .val (.long d'), .second, .unset, .unset] [(.long q1)]))
    refine Go.st (fun t k => XS.lload X0.here hx rfl (hb hby at_19) rfl k) ?_
    show Go p.tables e below PP (s₁.setTop (mkF m 21 #[.val (.long q1), .second, .val (.long q2), .second, .val (.long (86400000000000 : Int64)), .second, .val (.long d'), .second, .unset, .unset] [(.long (86400000000000 : Int64)), (.long q1)]))
    refine Go.st (fun t k => XS.lcmp X0.here hx rfl (hb hby at_21) rfl k) ?_
    show Go p.tables e below PP (s₁.setTop (mkF m 22 #[.val (.long q1), .second, .val (.long q2), .second, .val (.long (86400000000000 : Int64)), .second, .val (.long d'), .second, .unset, .unset] [(.int (XT.cmpL q1 (86400000000000 : Int64)))]))
    by_cases hc22 : q1 < (86400000000000 : Int64)
    · --
      refine Go.st (fun t k => XS.ifNo X0.here hx rfl (hb hby at_22) rfl (XT.ll_ge_f hc22) k) ?_
      show Go p.tables e below PP (s₁.setTop (mkF m 25 #[.val (.long q1), .second, .val (.long q2), .second, .val (.long (86400000000000 : Int64)), .second, .val (.long d'), .second, .unset, .unset] []))
      refine Go.st (fun t k => XS.iconst X0.here hx rfl (hb hby at_25) k) ?_
      show Go p.tables e below PP (s₁.setTop (mkF m 26 #[.val (.long q1), .second, .val (.long q2), .second, .val (.long (86400000000000 : Int64)), .second, .val (.long d'), .second, .unset, .unset] [(.int (1 : Int32))]))
      refine Go.st (fun t k => XS.goto X0.here hx rfl (pc0 := 26) (pc' := 30) rfl (hb hby at_26) (by decide) (by decide) k) ?_
      show Go p.tables e below PP (s₁.setTop (mkF m 30 #[.val (.long q1), .second, .val (.long q2), .second, .val (.long (86400000000000 : Int64)), .second, .val (.long d'), .second, .unset, .unset] [(.int (1 : Int32))]))
      exact J30 _ _ _ X0 e0 N0 (by simp [bi, hc15, hc22])
    · --
      refine Go.st (fun t k => XS.ifYes X0.here hx rfl (pc0 := 22) (pc' := 29) rfl (hb hby at_22) rfl (XT.ll_ge_t hc22) (by decide) (by decide) k) ?_
      show Go p.tables e below PP (s₁.setTop (mkF m 29 #[.val (.long q1), .second, .val (.long q2), .second, .val (.long (86400000000000 : Int64)), .second, .val (.long d'), .second, .unset, .unset] []))
      refine Go.st (fun t k => XS.iconst X0.here hx rfl (hb hby at_29) k) ?_
      show Go p.tables e below PP (s₁.setTop (mkF m 30 #[.val (.long q1), .second, .val (.long q2), .second, .val (.long (86400000000000 : Int64)), .second, .val (.long d'), .second, .unset, .unset] [(.int (0 : Int32))]))
      exact J30 _ _ _ X0 e0 N0 (by simp [bi, hc15, hc22])
set_option maxRecDepth 65536 in
set_option maxHeartbeats 40000000 in
theorem comes_1 {Post : Tables → Env → Array Value → State → Outcome → State → Prop} (hpost : ∀ tb e args s v u, (limb_1_1.after args s (.returned v) u = true ∧ limb_1_2.after args s (.returned v) u = true ∧ True) → FrameEnd s (.returned v) u (Jvm.fieldLocs frame_1_writes args s ++ Jvm.arrayLocs frame_1_arrays args s ++ Jvm.staticLocs frame_1_statics s) 0 0 → Post tb e args s (.returned v) u) :
    ArmFor flags0 classFile x code maxLocals ret World_1 tables_1 room_1 Calls_1 rest_1 Pre_1 Post := by
  intro l hfl _ _ p e ha hc hk s m args below hf hA hF happ hP
  obtain ⟨hcalls, hrest, hpre⟩ := hP
  obtain ⟨-, -, -, hnamed, -, -, -, hat⟩ := (Spec.applies_iff hf).mp happ
  obtain ⟨hg, hn⟩ := and_e (Cond.before_iff.mp (show (Jvm.Cond.and given_1 narrow_1).before args s = true from hpre))
  obtain ⟨g1, g2⟩ := and_e hg
  obtain ⟨g3, g4⟩ := and_e g2
  obtain ⟨w0, w1, rfl⟩ : ∃ w0 w1 : Value, args = #[w0, w1] := by
    have hs : args.size = 2 := by simpa [Cond.value, given_1] using g1
    obtain ⟨L⟩ := args
    match L, hs with
    | [w0, w1], _ => exact ⟨w0, w1, rfl⟩
  have hw := fun d (hd : d ∈ tables_1) => atoms_spec (ws := Jvm.Cond.code x code maxLocals ret :: tables_1) hat d (List.mem_cons_of_mem _ hd)
  have hfit : Fit s := fun {y c} hc i hi => by
    obtain ⟨ha, rfl⟩ := Array.getElem?_eq_some_iff.mp hc
    have q := List.all_eq_true.mp ((Array.all_eq_true_iff_forall_mem.mp hF) _ (Array.getElem_mem ha)) i (List.mem_range.mpr hi)
    simpa [Array.getElem?_eq_getElem hi] using q
  obtain ⟨i0, ei0⟩ := isL_v g3
  obtain rfl : w0 = (.long i0) := Option.some.inj ei0
  obtain ⟨i1, ei1⟩ := isL_v g4
  obtain rfl : w1 = (.long i1) := Option.some.inj ei1
  have ev := eqL_v hn
  have SN := Sta.start ev (Or.inr ⟨hw _ (List.mem_of_getElem? (i := 4) rfl), hw _ (List.mem_of_getElem? (i := 7) rfl)⟩)
  obtain ⟨n, o, h1, h2, h3, _, L, rfl, ⟨rfl, N⟩, hq⟩ := rm0 l s _ hw tables_1 i0 i1  s.heap s.heap.size (Nat.le_refl _) SN p e ha hc hk s m _ below hf ((Spec.applies_iff_loose hf).mp happ).1 ⟨rfl, State.Warmed39.refl s, rfl⟩ trivial
  refine ⟨n, _, h1, h2, h3, hpost _ _ _ _ _ _ ⟨Cond.after_iff.mpr rfl, Cond.after_iff.mpr (eq_i res_at (Term.int_eval (1)) rfl), trivial⟩ ⟨hq.1, hq.2.1, (hq.2.2.sift fun y hy => Or.inr (N y hy)).mono (by decide) (by decide)⟩⟩
theorem main_1_1 : Claimed_1_1 := comes_1 fun _ _ _ _ _ _ h hF => ⟨h.1, hF⟩
theorem main_1_2 : Claimed_1_2 := comes_1 fun _ _ _ _ _ _ h hF => ⟨h.2.1, hF⟩
end Jvm.Pilot.@@N@@
namespace Jvm.Pilot.@@N@@
open Jvm Jvm.ClassFile Sem Op Lib Jvm.Free Jvm.Stand Jvm.Pilot.@@N@@.Jvm.D
/-! MADE BY PROGRAM (witnessworld.py) out of the Statement's table words and the real class files: 9 classes; the members and pool entries that the words name. The judged class is class 1, her method 1. -/
namespace start1
open Jvm.ClassFile
def u (s : String) : CpInfo := .utf8 (stringToUtf16 s)
/-- a pool by its gaps: so many unusable entries, then the entry; so many at the end -/
def gap : Nat → List CpInfo → List CpInfo
  | 0, r => r
  | n + 1, r => .unusable :: gap n r
def poolList (es : List (Nat × CpInfo)) (last : Nat) : List CpInfo := es.foldr (fun e r => gap e.1 (e.2 :: r)) (gap last [])
def pool (es : List (Nat × CpInfo)) (last : Nat) : Array CpInfo := ⟨poolList es last⟩
def fileOf (pool : Array CpInfo) (this : Nat) (attrs : Array Attribute := #[]) (ms : Array MethodInfo := #[]) (fl : Nat := 33) (sup : Nat := 0) (ifs : Array Nat := #[]) (fds : Array FieldInfo := #[]) : ClassFile where
  minorVersion := 0
  majorVersion := 65
  constantPool := pool
  accessFlags := fl
  thisClass := this
  superClass := sup
  interfaces := ifs
  fields := fds
  methods := ms
  attributes := attrs
def plain (name : String) (sup : Option ClassId) : Class where
  name := name
  kind := .ordinary
  loader := none
  accessFlags := 33
  super := sup
  interfaces := #[]
  cf := none
  fields := #[]
  methods := #[]
  instanceTypes := #[]
  staticTypes := #[]
  resolved := #[]
  callSites := []
  init := .initialized
  statics := none
  mirror := none

def pool0 : Array CpInfo := pool [(5, u "<init>"), (0, u "()V"), (1, .class_ 10), (1, u "java/lang/Object")] 113

def k0m0 : Method := { name := "<init>", desc := "()V", sig := { parameters := [], returnType := none }, accessFlags := 1, code := none }
/-- java/lang/Object -/
def k0 : Class := { plain "java/lang/Object" none with
  accessFlags := 33
  interfaces := #[]
  cf := some (fileOf pool0 8 #[] #[{ accessFlags := 1, nameIndex := 5, descriptorIndex := 6, attributes := #[] }] 33 0 #[] #[])
  fields := #[]
  methods := #[k0m0]
  instanceTypes := #[]
  staticTypes := #[]
  resolved := Array.replicate 124 none
  statics := none }

def pool1 : Array CpInfo := pool [(2, .class_ 4), (1, u "java/lang/Object"), (0, u "<init>"), (0, u "()V"), (0, .long 86400000000000), (1, .long 255), (1, .methodref 12 13), (0, .class_ 14), (0, .nameAndType 15 16), (0, u "com/example/llave/llave/model/TimeLiterals"), (0, u "isTime"), (0, u "(J)Z"), (0, .long 18446744073709551615), (1, .class_ 20), (0, u "com/example/llave/llave/model/TimeLiteralsIsTimePinLaw"), (2, u "law"), (0, u "(JJ)Z")] 3

def k1m0 : Method := { name := "<init>", desc := "()V", sig := { parameters := [], returnType := none }, accessFlags := 2, code := none }
def k1c1 : Code := { maxStack := 4, maxLocals := 10, code := code, exceptionTable := #[], attributes := #[] }
def k1m1 : Method := { name := "law", desc := "(JJ)Z", sig := { parameters := [.long, .long], returnType := some .boolean }, accessFlags := 9, code := some k1c1 }
/-- com/example/llave/llave/model/TimeLiteralsIsTimePinLaw -/
def k1 : Class := { plain "com/example/llave/llave/model/TimeLiteralsIsTimePinLaw" (some 0) with
  accessFlags := 49
  interfaces := #[]
  cf := some (fileOf pool1 19 #[] #[{ accessFlags := 2, nameIndex := 5, descriptorIndex := 6, attributes := #[] }, { accessFlags := 9, nameIndex := 23, descriptorIndex := 24, attributes := #[] }] 49 2 #[] #[])
  fields := #[]
  methods := #[k1m0, k1m1]
  instanceTypes := #[]
  staticTypes := #[]
  resolved := Array.replicate 28 none
  statics := none }

def pool2 : Array CpInfo := pool [(2, .class_ 4), (1, u "java/lang/Object"), (0, u "<init>"), (0, u "()V"), (1, .class_ 10), (1, u "com/example/llave/llave/model/TimeLiterals"), (0, u "TIMESTAMP"), (0, u "Ljava/util/regex/Pattern;"), (84, u "PRINTED_TIMESTAMP"), (0, u "Ljava/time/format/DateTimeFormatter;"), (35, u "TIME"), (4, .fieldref 8 140), (0, .nameAndType 141 142), (0, u "NANOS_PER_DAY"), (0, u "J"), (81, u "EPOCH_DAY_OFFSET"), (13, u "isTime"), (0, u "(J)Z")] 27

def k2m0 : Method := { name := "<init>", desc := "()V", sig := { parameters := [], returnType := none }, accessFlags := 2, code := none }
def k2c1 : Code := { maxStack := 4, maxLocals := 2, code := prog_106_method_7_code, exceptionTable := #[], attributes := #[] }
def k2m1 : Method := { name := "isTime", desc := "(J)Z", sig := { parameters := [.long], returnType := some .boolean }, accessFlags := 8, code := some k2c1 }
/-- com/example/llave/llave/model/TimeLiterals -/
def k2 : Class := { plain "com/example/llave/llave/model/TimeLiterals" (some 0) with
  accessFlags := 48
  interfaces := #[]
  cf := some (fileOf pool2 8 #[] #[{ accessFlags := 2, nameIndex := 5, descriptorIndex := 6, attributes := #[] }, { accessFlags := 8, nameIndex := 238, descriptorIndex := 239, attributes := #[] }] 48 2 #[] #[{ accessFlags := 26, nameIndex := 11, descriptorIndex := 12, attributes := #[] }, { accessFlags := 26, nameIndex := 134, descriptorIndex := 12, attributes := #[] }, { accessFlags := 26, nameIndex := 97, descriptorIndex := 98, attributes := #[] }, { accessFlags := 26, nameIndex := 224, descriptorIndex := 142, attributes := #[] }, { accessFlags := 26, nameIndex := 141, descriptorIndex := 142, attributes := #[] }])
  fields := #[{ name := "TIMESTAMP", type := (.object "java/util/regex/Pattern"), accessFlags := 26, slot := 0, constantValue := 0 }, { name := "TIME", type := (.object "java/util/regex/Pattern"), accessFlags := 26, slot := 1, constantValue := 0 }, { name := "PRINTED_TIMESTAMP", type := (.object "java/time/format/DateTimeFormatter"), accessFlags := 26, slot := 2, constantValue := 0 }, { name := "EPOCH_DAY_OFFSET", type := .long, accessFlags := 26, slot := 3, constantValue := 0 }, { name := "NANOS_PER_DAY", type := .long, accessFlags := 26, slot := 4, constantValue := 0 }]
  methods := #[k2m0, k2m1]
  instanceTypes := #[]
  staticTypes := #[(.object "java/util/regex/Pattern"), (.object "java/util/regex/Pattern"), (.object "java/time/format/DateTimeFormatter"), .long, .long]
  resolved := Array.replicate 267 none
  statics := some 0 }

def pool3 : Array CpInfo := pool [(1, u "java/lang/Cloneable"), (0, .class_ 1), (0, u "java/lang/Object"), (0, .class_ 3)] 3

/-- java/lang/Cloneable -/
def k3 : Class := { plain "java/lang/Cloneable" (some 0) with
  accessFlags := 1537
  interfaces := #[]
  cf := some (fileOf pool3 2 #[] #[] 1537 4 #[] #[])
  fields := #[]
  methods := #[]
  instanceTypes := #[]
  staticTypes := #[]
  resolved := Array.replicate 8 none
  statics := none }

def pool4 : Array CpInfo := pool [(1, u "java/io/Serializable"), (0, .class_ 1), (0, u "java/lang/Object"), (0, .class_ 3)] 3

/-- java/io/Serializable -/
def k4 : Class := { plain "java/io/Serializable" (some 0) with
  accessFlags := 1537
  interfaces := #[]
  cf := some (fileOf pool4 2 #[] #[] 1537 4 #[] #[])
  fields := #[]
  methods := #[]
  instanceTypes := #[]
  staticTypes := #[]
  resolved := Array.replicate 8 none
  statics := none }

/-- the primitive byte -/
def k5 : Class := { plain "byte" none with kind := .primitive 'B', accessFlags := 0x411 }
/-- [B -/
def k6 : Class := { plain "[B" (some 0) with kind := .array 5 .byte, interfaces := #[3, 4], accessFlags := 1041 }

/-- the primitive int -/
def k7 : Class := { plain "int" none with kind := .primitive 'I', accessFlags := 0x411 }
/-- [I -/
def k8 : Class := { plain "[I" (some 0) with kind := .array 7 .int, interfaces := #[3, 4], accessFlags := 1041 }

def heap : Heap := #[{ cls := 2, slots := #[.null, .null, .null, .long 0, .long 86400000000000], vm := .statics 2 }]
def classes : Array Class := #[k0, k1, k2, k3, k4, k5, k6, k7, k8]
def interned : List (Array UInt16 × Addr) := []
def slotsUsed : Nat := 5
def theMethod : MethodId := ⟨1, 1⟩
def args0 : Array Value := #[.long 5, .long 6]
def aboutOver (below : List Frame) : State where
  vm := { classes := classes, interned := interned.toArray }
  heap := heap
  slotsUsed := slotsUsed
  threads := #[{ frames := .invoking theMethod args0 :: below }]
def below0 : List Frame := [.native { method := ⟨0, 0⟩, args := #[] }]
def about1 : State := aboutOver below0
def p0 : Program := .bare "" "" ""
def e0 : Env := launch0.env 0 0 0
theorem w_frames : about1.frames = Frame.invoking theMethod args0 :: below0 := rfl
set_option maxRecDepth 65536 in
theorem w_args : argsFit about1.vm theMethod args0 = true := by decide +kernel
set_option maxRecDepth 65536 in
theorem w_heap : heapFits about1 = true := by decide +kernel
set_option maxRecDepth 65536 in
theorem w_runnable : about1.curStatus? = some .runnable := by decide +kernel
set_option maxRecDepth 65536 in
theorem w_alone : about1.alone = true := by decide +kernel
set_option maxRecDepth 65536 in
theorem w_named : about1.methodNamed? x = some theMethod := by decide +kernel
set_option maxRecDepth 65536 in
theorem w_hears : about1.hears theMethod below0 = true := by decide +kernel
set_option maxRecDepth 65536 in
theorem w_ripe : about1.ripe theMethod args0 below0 = true := by decide +kernel
theorem w_running : about1.status = .running := rfl
set_option maxRecDepth 65536 in
theorem w_room : about1.hasRoom e0.platform room_1 = true :=
  launch0.hasRoom_least _ room_1 (by decide +kernel) (by decide +kernel) (by decide +kernel) (by decide +kernel) (by decide +kernel) (by decide +kernel)
theorem allAtoms_all (ts : List Jvm.Cond) (a : Array Jvm.Value) (st : Jvm.State) : (allAtoms ts).before a st = ts.all (fun c => c.before a st) := by
  induction ts with
  | nil => rfl
  | cons c t ih =>
    show (Jvm.Cond.and c (allAtoms t)).before a st = _
    rw [Jvm.Cond.before_and, ih, List.all_cons]
def words1 : List Jvm.Cond := Jvm.Cond.code x code maxLocals ret :: tables_1
/-- a 'code' word, met by the world's own term for the bytes: nothing is compared byte by byte -/
theorem code_word {y : MethodName} {bytes : ByteArray} {mx : Nat} {rt : Option FieldType} {a : Array Value} {s : State} {m : MethodId} {meth : Method} {c : Code} (h1 : s.methodNamed? y = some m) (h2 : s.vm.method? m = some meth) (h3 : meth.code = some c) (h4 : c.code = bytes)
    (h5 : (c.maxLocals == mx && c.exceptionTable.isEmpty && decide (c.maxStack ≤ mostOperands) && decide (meth.sig.returnType = rt) && !meth.locks && decide (parseMethodDescriptor y.desc = some meth.sig)) = true) : (Jvm.Cond.code y bytes mx rt).before a s = true := by
  simp only [Bool.and_eq_true, beq_iff_eq, Bool.not_eq_true', decide_eq_true_eq] at h5
  obtain ⟨⟨⟨⟨⟨g1, g2⟩, g3⟩, g4⟩, g5⟩, g6⟩ := h5
  simp [Cond.before, Cond.holds, Cond.value, h1, h2, h3, h4, g1, g2, g3, g4, g5, g6]
def isCode : Jvm.Cond → Bool
  | .code _ _ _ _ => true
  | _ => false
theorem all_split {L : List Jvm.Cond} {P : Jvm.Cond → Bool} (h1 : L.all (fun c => isCode c || P c) = true) (h2 : ∀ c ∈ L.filter isCode, P c = true) : L.all P = true := by
  refine List.all_eq_true.mpr fun c hc => ?_
  have h := List.all_eq_true.mp h1 c hc
  rcases Bool.eq_false_or_eq_true (isCode c) with hi | hi
  · exact h2 c (List.mem_filter.mpr ⟨hc, hi⟩)
  · simpa [hi] using h
set_option maxRecDepth 65536 in
theorem w_c0 : (Jvm.Cond.code x code maxLocals ret).before args0 about1 = true := code_word (m := ⟨1, 1⟩) (meth := k1m1) (c := k1c1) (by decide +kernel) rfl rfl rfl (by decide +kernel)
set_option maxRecDepth 65536 in
theorem w_c1 : (Jvm.Cond.code ({ cls := "com/example/llave/llave/model/TimeLiterals", name := "isTime", desc := "(J)Z" } : Jvm.MethodName) prog_106_method_7_code (2 : Nat) (Option.some Jvm.ClassFile.FieldType.boolean)).before args0 about1 = true := code_word (m := ⟨2, 1⟩) (meth := k2m1) (c := k2c1) (by decide +kernel) rfl rfl rfl (by decide +kernel)
def codes1 : List Jvm.Cond := [Jvm.Cond.code x code maxLocals ret, Jvm.Cond.code ({ cls := "com/example/llave/llave/model/TimeLiterals", name := "isTime", desc := "(J)Z" } : Jvm.MethodName) prog_106_method_7_code (2 : Nat) (Option.some Jvm.ClassFile.FieldType.boolean)]
set_option maxRecDepth 65536 in
theorem codes_eq : words1.filter isCode = codes1 := rfl
theorem w_codes : ∀ c ∈ words1.filter isCode, c.before args0 about1 = true := by
  rw [codes_eq]
  intro c hc
  simp only [codes1, List.mem_cons, List.not_mem_nil, or_false] at hc
  rcases hc with rfl | rfl
  · exact w_c0
  · exact w_c1
set_option maxRecDepth 65536 in
theorem w_t1 : words1.all (fun c => isCode c || c.before args0 about1) = true := by decide +kernel
theorem w_tables : (allAtoms (Jvm.Cond.code x code maxLocals ret :: tables_1)).before args0 about1 = true := by
  rw [allAtoms_all]
  show words1.all (fun c => c.before args0 about1) = true
  refine all_split ?_ w_codes
  rw [w_t1]
set_option maxRecDepth 65536 in
theorem w_case : (Jvm.Cond.and given_1 narrow_1).before args0 about1 = true := by decide +kernel
theorem w_applies : (headSpec (Jvm.Cond.code x code maxLocals ret :: tables_1) room_1).applies x e0.platform about1 = true :=
  (Spec.applies_iff w_frames).mpr ⟨w_running, w_runnable, w_alone, w_named, w_hears, w_ripe, w_room, w_tables⟩
theorem atStart : AtStart classFile x code maxLocals ret World_1 tables_1 room_1 Calls_1 rest_1 Pre_1 launch0 p0 e0 about1 theMethod args0 below0 :=
  ⟨lists_1, trivial, launch0.admits_env _ _ _, launch0.least_env, fairChoices_fair.cas, fairChoices_fair.clock, w_frames, w_args, w_heap, w_applies, trivial, trivial, w_case⟩
end start1
theorem witness_1 : WitnessClaimed_1 := ⟨start1.p0, start1.e0, start1.about1, start1.theMethod, start1.args0, start1.below0, start1.atStart⟩
end Jvm.Pilot.@@N@@
