import JvmDerived
import JvmDerived.Pilot.@@N@@Statement
import JvmDerived.Pilot.@@N@@Code
set_option linter.unusedVariables false
set_option linter.unusedSimpArgs false
namespace Jvm.OwnKit
open Sem ClassFile Op Lib Jvm.Stand Jvm.Free Jvm.LawKit Jvm.RoadKit
/-- from S the run comes to a state of which P holds -/
def Go (tb : Tables) (e : Env) (below : List Frame) (P : State → Prop) (S : State) : Prop := ∃ t, Steps tb e below S t ∧ P t
theorem Go.st {tb : Tables} {e : Env} {below : List Frame} {P : State → Prop} {S S' : State} (h : ∀ t, Steps tb e below S' t → Steps tb e below S t) (g : Go tb e below P S') : Go tb e below P S := by
  obtain ⟨t, h1, h2⟩ := g
  exact ⟨t, h t h1, h2⟩
theorem Go.cast {tb : Tables} {e : Env} {below : List Frame} {P : State → Prop} {T : State} {g g' : JFrame} (q : g = g') (k : Go tb e below P (T.setTop g')) : Go tb e below P (T.setTop g) := q ▸ k
/-- the invocation of s has returned, and Q says what -/
def Fine (s : State) (below : List Frame) (Q : Option Value → Heap → List Loc → Prop) (kc ks : Nat) (t : State) : Prop := ∃ o, t.status = .running ∧ Ended t below o ∧ ∃ v L, o = .returned v ∧ Q v t.heap L ∧ FrameEnd s o t L kc ks
/-- a method's contract, over the tables of the start Z: called with 'as' at the heap h0 it returns, and Q says what -/
def Con (l : Launch) (Z : State) (y : MethodName) (bytes : ByteArray) (maxL : Nat) (ret : Option FieldType) (ws : List Jvm.Cond) (rm : Room) (as : Array Value) (h0 : Heap) (Q : Option Value → Heap → List Loc → Prop) : Prop :=
  MetFree l y (head1 (Jvm.Cond.code y bytes maxL ret :: ws) rm) (fun a U => a = as ∧ Z.Warmed39 U.vm ∧ U.heap = h0) (fun _ _ _ _ _ => True) (fun _ U o U' => ∃ v L, o = .returned v ∧ Q v U'.heap L ∧ FrameEnd U o U' L rm.cells rm.slots)
theorem Con.of {l : Launch} {Z : State} {y : MethodName} {bytes : ByteArray} {maxL : Nat} {ret : Option FieldType} {ws : List Jvm.Cond} {rm : Room} {as : Array Value} {h0 : Heap} {Q : Option Value → Heap → List Loc → Prop} (hpl : plainFor y = true)
    (body : ∀ (p : Program) (e : Env) (s : State) (m : MethodId) (below : List Frame) (meth : Method) (c : Code) (s₁ : State), Z.Warmed39 s.vm → s₁.heap = h0 → Stand p l e rm s m as below meth c s₁ [] 0 0 → p.tables.exec = Jvm.exec → c.code = bytes → c.maxLocals = maxL → s.vm.findClass y.cls = some m.cls → meth.name = y.name → meth.sig.returnType = ret → meth.locks = false →
      Go p.tables e below (Fine s below Q rm.cells rm.slots) (s₁.setTop (entryFrame m as maxL))) : Con l Z y bytes maxL ret ws rm as h0 Q := by
  refine MetFree.of_bodySF hpl hisR ?_
  intro p e s m args below meth c s₁ Bd hml hP hK
  obtain ⟨rfl, hZ, hh⟩ := hP
  have e0 : s₁.heap = h0 := by rw [← hh, Bd.state]; rfl
  obtain ⟨t, h1, o, h2, h3, h4⟩ := body p e s m below meth c s₁ hZ e0 (Stand.of_body Bd) Bd.exec Bd.bytes hml (findClass_of_methodNamed Bd.named) (name_of_methodNamed Bd.named Bd.method).1 Bd.returns Bd.notSynchronized
  exact ⟨t, o, h1, h2, h3, h4⟩
def bi (P : Prop) [Decidable P] : Int32 := if P then 1 else 0
theorem bi_t {P : Prop} [Decidable P] (h : P) : bi P = 1 := if_pos h
theorem bi_f {P : Prop} [Decidable P] (h : ¬ P) : bi P = 0 := if_neg h
theorem eqL_v {args : Array Value} {first s : State} {o : Option Outcome} {idx : List Nat} {t : Term} {k : Int64} (h : (Cond.eq t (.long k)).value args first o s idx = some true) : t.eval args first o idx s = some (.long k) := by
  obtain ⟨x, y, ev, ey, -, hk⟩ := cmp_v (Or.inl h)
  obtain rfl : Value.long k = y := Option.some.inj ey
  obtain ⟨z, rfl⟩ := hk
  obtain rfl : z = k := gotT (eq_L ev ey) h
  exact ev
theorem eqI_v {args : Array Value} {first s : State} {o : Option Outcome} {idx : List Nat} {t : Term} {k : Int32} (h : (Cond.eq t (.int k)).value args first o s idx = some true) : t.eval args first o idx s = some (.int k) := by
  obtain ⟨x, y, ev, ey, -, hk⟩ := cmp_v (Or.inl h)
  obtain rfl : Value.int k = y := Option.some.inj ey
  obtain ⟨z, rfl⟩ := hk
  have q : (Cond.eq t (.int k)).value args first o s idx = some (decide (z = k)) := by simp [Cond.value, ev, ey]
  obtain rfl : z = k := gotT q h
  exact ev
section
variable {p : Program} {l : Launch} {e : Env} {R : Room} {s : State} {m : MethodId} {args : Array Value} {below : List Frame} {meth : Method} {c : Code} {T : State} {locs : List Loc} {cells slots : Nat} {Z : State} {a0 : Array Value} {h : Heap}
theorem fin {Q : Option Value → Heap → List Loc → Prop} {kc ks : Nat} {v : Option Value} {S : State} (X : Stand p l e R s m args below meth c T locs cells slots) (hv : meth.sig.returnType = none → v = none) (hlk : meth.locks = false) (hq : Q v T.heap locs) (hc : cells ≤ kc) (hs : slots ≤ ks)
    (st : ∀ fs, (∀ (f : JFrame) (acts : List Action), f.method = m → f.locked = none → f.entered = [] → (doReturn e (T.setTop f) acts v).1 = T.setFrames fs) → Steps p.tables e below S (T.setFrames fs)) : Go p.tables e below (Fine s below Q kc ks) S := by
  obtain ⟨fs, hr, hrun, hended, hW, hsame⟩ := X.leave (v := v) hv hlk
  exact ⟨_, st fs hr, _, hrun, hended, v, locs, rfl, hq, ⟨_, rfl⟩, hW, hsame.mono hc hs⟩
/-- return of an int, a long, a reference (no narrowing) -/
theorem endW {Q : Option Value → Heap → List Loc → Prop} {kc ks : Nat} (X : Stand p l e R s m args below meth c T locs cells slots) (hx : p.tables.exec = Jvm.exec) (hlk : meth.locks = false) {pc : Nat} {Ls : Array Slot} {w : Value} {t : FieldType} {i : Instr} {rest : List Value} (hret : meth.sig.returnType = some t) (hn : narrow t w = w)
    (hi : (i = .ireturn ∧ (t = .int ∨ t = .boolean ∨ t = .byte ∨ t = .char ∨ t = .short) ∧ ∃ z, w = .int z) ∨ (i = .lreturn ∧ t = .long ∧ ∃ z, w = .long z) ∨ (i = .dreturn ∧ t = .double ∧ ∃ z, w = .double z) ∨ (i = .freturn ∧ t = .float ∧ ∃ z, w = .float z) ∨ (i = .areturn ∧ t.isReference = true ∧ w.isRef = true))
    (hd : decode c.code pc = .ok (i, 1)) (hq : Q (some w) T.heap locs) (hc : cells ≤ kc) (hs : slots ≤ ks) : Go p.tables e below (Fine s below Q kc ks) (T.setTop (mkF m pc Ls (w :: rest))) :=
  fin X (fun h => by rw [hret] at h; cases h) hlk hq hc hs fun fs hr => retOut X hx hret hn hi hd hr
theorem endI {Q : Option Value → Heap → List Loc → Prop} {kc ks : Nat} (X : Stand p l e R s m args below meth c T locs cells slots) (hx : p.tables.exec = Jvm.exec) (hlk : meth.locks = false) {pc : Nat} {Ls : Array Slot} {z : Int32} {rest : List Value} (hret : meth.sig.returnType = some .int)
    (hd : decode c.code pc = .ok (.ireturn, 1)) (hq : Q (some (.int z)) T.heap locs) (hc : cells ≤ kc) (hs : slots ≤ ks) : Go p.tables e below (Fine s below Q kc ks) (T.setTop (mkF m pc Ls (.int z :: rest))) :=
  endW X hx hlk hret rfl (Or.inl ⟨rfl, Or.inl rfl, z, rfl⟩) hd hq hc hs
theorem endJ {Q : Option Value → Heap → List Loc → Prop} {kc ks : Nat} (X : Stand p l e R s m args below meth c T locs cells slots) (hx : p.tables.exec = Jvm.exec) (hlk : meth.locks = false) {pc : Nat} {Ls : Array Slot} {z : Int64} {rest : List Value} (hret : meth.sig.returnType = some .long)
    (hd : decode c.code pc = .ok (.lreturn, 1)) (hq : Q (some (.long z)) T.heap locs) (hc : cells ≤ kc) (hs : slots ≤ ks) : Go p.tables e below (Fine s below Q kc ks) (T.setTop (mkF m pc Ls (.long z :: rest))) :=
  endW X hx hlk hret rfl (Or.inr (Or.inl ⟨rfl, rfl, z, rfl⟩)) hd hq hc hs
theorem endD {Q : Option Value → Heap → List Loc → Prop} {kc ks : Nat} (X : Stand p l e R s m args below meth c T locs cells slots) (hx : p.tables.exec = Jvm.exec) (hlk : meth.locks = false) {pc : Nat} {Ls : Array Slot} {z : UInt64} {rest : List Value} (hret : meth.sig.returnType = some .double)
    (hd : decode c.code pc = .ok (.dreturn, 1)) (hq : Q (some (.double z)) T.heap locs) (hc : cells ≤ kc) (hs : slots ≤ ks) : Go p.tables e below (Fine s below Q kc ks) (T.setTop (mkF m pc Ls (.double z :: rest))) :=
  endW X hx hlk hret rfl (Or.inr (Or.inr (Or.inl ⟨rfl, rfl, z, rfl⟩))) hd hq hc hs
theorem endR {Q : Option Value → Heap → List Loc → Prop} {kc ks : Nat} (X : Stand p l e R s m args below meth c T locs cells slots) (hx : p.tables.exec = Jvm.exec) (hlk : meth.locks = false) {pc : Nat} {Ls : Array Slot} {w : Value} {t : FieldType} {rest : List Value} (hret : meth.sig.returnType = some t) (ht : t.isReference = true) (hw : w.isRef = true)
    (hd : decode c.code pc = .ok (.areturn, 1)) (hq : Q (some w) T.heap locs) (hc : cells ≤ kc) (hs : slots ≤ ks) : Go p.tables e below (Fine s below Q kc ks) (T.setTop (mkF m pc Ls (w :: rest))) :=
  endW X hx hlk hret (by cases w <;> first | rfl | (cases t <;> first | rfl | cases ht) | cases hw) (Or.inr (Or.inr (Or.inr (Or.inr ⟨rfl, ht, hw⟩)))) hd hq hc hs
/-- return of a boolean, byte, char or short: narrowed -/
theorem endN {Q : Option Value → Heap → List Loc → Prop} {kc ks : Nat} (X : Stand p l e R s m args below meth c T locs cells slots) (hx : p.tables.exec = Jvm.exec) (hlk : meth.locks = false) {pc : Nat} {Ls : Array Slot} {z w : Int32} {t : FieldType} {rest : List Value} (hret : meth.sig.returnType = some t) (ht : t = .boolean ∨ t = .byte ∨ t = .char ∨ t = .short)
    (hd : decode c.code pc = .ok (.ireturn, 1)) (hz : nar t z = w) (hq : Q (some (.int w)) T.heap locs) (hc : cells ≤ kc) (hs : slots ≤ ks) : Go p.tables e below (Fine s below Q kc ks) (T.setTop (mkF m pc Ls (.int z :: rest))) := by
  subst hz
  exact fin X (fun h => by rw [hret] at h; cases h) hlk hq hc hs fun fs hr => retN X hx hret ht hd hr
theorem endV {Q : Option Value → Heap → List Loc → Prop} {kc ks : Nat} (X : Stand p l e R s m args below meth c T locs cells slots) (hx : p.tables.exec = Jvm.exec) (hlk : meth.locks = false) {pc : Nat} {Ls : Array Slot} (hret : meth.sig.returnType = none)
    (hd : decode c.code pc = .ok (.return_, 1)) (hq : Q none T.heap locs) (hc : cells ≤ kc) (hs : slots ≤ ks) : Go p.tables e below (Fine s below Q kc ks) (T.setTop (mkF m pc Ls [])) :=
  fin X (fun _ => rfl) hlk hq hc hs fun fs hr => X.returnOut hx hret hd hr
theorem lremM {g : JFrame} {target : State} (X : Stand p l e R s m args below meth c T locs cells slots) (hx : p.tables.exec = Jvm.exec) (hg : g.method = m) {x y : Int64} {rest : List Value} (hd : decode c.code g.pc = .ok (.lrem, 1)) (hs : g.stack = .long y :: .long x :: rest) (hy : y ≠ 0)
    (hr : Steps p.tables e below (T.setTop { g with pc := g.pc + 1, stack := .long (x % y) :: rest }) target) : Steps p.tables e below (T.setTop g) target := by
  have q : x - x / y * y = x % y := lrem_mod x y
  exact XS.lrem X.here hx hg hd hs hy (by rw [q]; exact hr)
/-- a static call by its contract -/
theorem callSt (X : Stand p l e R s m args below meth c T locs cells slots) (hx : p.tables.exec = Jvm.exec) (hZ : Z.Warmed39 s.vm) {own : String} {index : Nat} {y : MethodName} {bytes : ByteArray} {maxL : Nat} {ret : Option FieldType} {rm : Room} {Q : Option Value → Heap → List Loc → Prop} {argsL rest : List Value}
    (hown : s.vm.findClass own = some m.cls) (w1 : (Cond.methodLink own index y).before a0 Z = true) (w2 : (Cond.static y).before a0 Z = true) (w3 : (Cond.initialized y.cls).before a0 Z = true) (w4 : (Cond.code y bytes maxL ret).before a0 Z = true) (hy : y.cls ≠ "java/lang/invoke/MethodHandle" ∧ y.cls ≠ "java/lang/invoke/VarHandle")
    (hM : Con l Z y bytes maxL ret [] rm argsL.toArray h Q) (eT : T.heap = h) (W : Nat) (hf : rm.frames + 1 ≤ R.frames) (hl : W + (maxL + 11) + rm.locals ≤ R.locals) (hcc : cells + rm.cells ≤ R.cells) (hss : slots + rm.slots ≤ R.slots)
    {g : JFrame} (hg : g.method = m) (hsize : g.locals.size = c.maxLocals) (hlen : ∀ sig, parseMethodDescriptor y.desc = some sig → argsL.length = sig.parameters.length)
    (hstack : g.stack = argsL.reverse ++ rest) (hW : 2 * g.monitorRoom + (rest.map fun v => v.category).sum ≤ W) (hd : decode c.code g.pc = .ok (.invokestatic index, 3)) :
    ∃ v T' L, Stand p l e R s m args below meth c T' (locs ++ L) (cells + rm.cells) (slots + rm.slots) ∧ Q v T'.heap L ∧ ∀ target, Steps p.tables e below (T'.setTop { g with pc := g.pc + 3, stack := v.toList ++ rest }) target → Steps p.tables e below (T.setTop g) target := by
  obtain ⟨v, vm1, ⟨T', L', k', n'⟩, -, X', ⟨L, hQ, l1, l2, l3⟩, st⟩ := Jvm.LawKit.callS X hx hown (mvT hZ w1) (mvT hZ w2) (mvT hZ w3) (mvT hZ w4) hy (backOf (Q := Q) (W := W) hM hZ w4 w3 hf hl) hg hsize hlen hstack hW hd (fun _ _ => ⟨rfl, eT, hcc, hss⟩)
  (try dsimp only at X' l1 l2 l3 st hQ)
  subst l1 l2 l3
  exact ⟨v, T', L, X', hQ, st⟩
/-- a constructor by its contract -/
theorem callIn (X : Stand p l e R s m args below meth c T locs cells slots) (hx : p.tables.exec = Jvm.exec) (hZ : Z.Warmed39 s.vm) {own : String} {index : Nat} {y : MethodName} {bytes : ByteArray} {maxL : Nat} {rm : Room} {Q : Option Value → Heap → List Loc → Prop} {a : Addr} {argsL rest : List Value} (hy1 : y.name = "<init>")
    (hown : s.vm.findClass own = some m.cls) (w1 : (Cond.methodLink own index y).before a0 Z = true) (w2 : (Cond.instanceMethod y).before a0 Z = true) (w3 : (Cond.initialized y.cls).before a0 Z = true) (w4 : (Cond.code y bytes maxL none).before a0 Z = true) (hy : y.cls ≠ "java/lang/invoke/MethodHandle" ∧ y.cls ≠ "java/lang/invoke/VarHandle")
    (hM : Con l Z y bytes maxL none [] rm (.ref a :: argsL).toArray h Q) (eT : T.heap = h) (W : Nat) (hf : rm.frames + 1 ≤ R.frames) (hl : W + (maxL + 11) + rm.locals ≤ R.locals) (hcc : cells + rm.cells ≤ R.cells) (hss : slots + rm.slots ≤ R.slots)
    {g : JFrame} (hg : g.method = m) (hsize : g.locals.size = c.maxLocals) (hlen : ∀ sig, parseMethodDescriptor y.desc = some sig → argsL.length = sig.parameters.length)
    (hstack : g.stack = argsL.reverse ++ .ref a :: rest) (hW : 2 * g.monitorRoom + (rest.map fun v => v.category).sum ≤ W) (hd : decode c.code g.pc = .ok (.invokespecial index, 3)) :
    ∃ v T' L, Stand p l e R s m args below meth c T' (locs ++ L) (cells + rm.cells) (slots + rm.slots) ∧ Q v T'.heap L ∧ ∀ target, Steps p.tables e below (T'.setTop { g with pc := g.pc + 3, stack := v.toList ++ rest }) target → Steps p.tables e below (T.setTop g) target := by
  obtain ⟨v, vm1, ⟨T', L', k', n'⟩, -, X', ⟨L, hQ, l1, l2, l3⟩, st⟩ := X.specialBack hx hy1 hown (mvT hZ w1) (mvT hZ w2) (mvT hZ w4) hy (backOf (Q := Q) (W := W) hM hZ w4 w3 hf hl) hg hsize (Steps.refl _) hlen hstack hW hd (fun _ _ => ⟨rfl, eT, hcc, hss⟩)
  (try dsimp only at X' l1 l2 l3 st hQ)
  subst l1 l2 l3
  exact ⟨v, T', L, X', hQ, fun target k => st.trans k⟩
/-- an instance method by the contract of the body that the receiver's class selects -/
theorem callVi (X : Stand p l e R s m args below meth c T locs cells slots) (hx : p.tables.exec = Jvm.exec) (hZ : Z.Warmed39 s.vm) {own C : String} {index : Nat} {y z : MethodName} {bytes : ByteArray} {maxL : Nat} {ret : Option FieldType} {rm : Room} {Q : Option Value → Heap → List Loc → Prop} {a : Addr} {argsL rest : List Value}
    (hown : s.vm.findClass own = some m.cls) (w1 : (Cond.methodLink own index y).before a0 Z = true) (w2 : (Cond.declares y).before a0 Z = true) (nf : NotFace s y) (w3 : (Cond.selects C y z).before a0 Z = true) (w4 : (Cond.instanceMethod z).before a0 Z = true) (w5 : (Cond.initialized z.cls).before a0 Z = true) (w6 : (Cond.code z bytes maxL ret).before a0 Z = true) (hy : y.cls ≠ "java/lang/invoke/MethodHandle" ∧ y.cls ≠ "java/lang/invoke/VarHandle")
    (hyz : z.desc = y.desc) (E : Exa Z h a C) (hM : Con l Z z bytes maxL ret [] rm (.ref a :: argsL).toArray h Q) (eT : T.heap = h) (W : Nat) (hf : rm.frames + 1 ≤ R.frames) (hl : W + (maxL + 11) + rm.locals ≤ R.locals) (hcc : cells + rm.cells ≤ R.cells) (hss : slots + rm.slots ≤ R.slots)
    {g : JFrame} (hg : g.method = m) (hsize : g.locals.size = c.maxLocals) (hlen : ∀ sig, parseMethodDescriptor y.desc = some sig → argsL.length = sig.parameters.length)
    (hstack : g.stack = argsL.reverse ++ .ref a :: rest) (hW : 2 * g.monitorRoom + (rest.map fun v => v.category).sum ≤ W) (hd : decode c.code g.pc = .ok (.invokevirtual index, 3)) :
    ∃ v T' L, Stand p l e R s m args below meth c T' (locs ++ L) (cells + rm.cells) (slots + rm.slots) ∧ Q v T'.heap L ∧ ∀ target, Steps p.tables e below (T'.setTop { g with pc := g.pc + 3, stack := v.toList ++ rest }) target → Steps p.tables e below (T.setTop g) target := by
  obtain ⟨cq, kq, qa, qb, qc⟩ := isOf hZ eT E
  obtain ⟨v, vm1, ⟨T', L', k', n'⟩, -, X', ⟨L, hQ, l1, l2, l3⟩, st⟩ := X.virtualBack hx (y := y) (z := z) hown (mvT hZ w1) (mvT hZ w2) nf (mvT hZ w3) (mvT hZ w4) hy (backOf (Q := Q) (W := W) hM hZ w6 w5 hf hl) qa qc hg hsize (Steps.refl _) hlen hstack hW hd (fun _ _ => ⟨rfl, eT, hcc, hss⟩)
  (try dsimp only at X' l1 l2 l3 st hQ)
  subst l1 l2 l3
  exact ⟨v, T', L, X', hQ, fun target k => st.trans k⟩
/-- an array whose k-th element is f k -/
def Afn (Z : State) (h : Heap) (a : Addr) (ty : FieldType) (n : Int32) (f : Nat → Value) : Prop := ∃ c : Cell, Arr Z h a c ty ∧ c.slots.size = n.toNatClampNeg ∧ ¬ n < 0 ∧ ∀ k, k < n.toNatClampNeg → c.slots[k]? = some (f k) ∧ fits ty (f k) = true
theorem Afn.lt {h : Heap} {a : Addr} {ty : FieldType} {n : Int32} {f : Nat → Value} (F : Afn Z h a ty n f) : a < h.size := by obtain ⟨c, A, -⟩ := F; exact A.lt
theorem Afn.nn {h : Heap} {a : Addr} {ty : FieldType} {n : Int32} {f : Nat → Value} (F : Afn Z h a ty n f) : ¬ n < 0 := by obtain ⟨c, -, -, q, -⟩ := F; exact q
theorem Afn.ext {h h' : Heap} {a : Addr} {ty : FieldType} {n : Int32} {f : Nat → Value} (F : Afn Z h a ty n f) (E : Ext h h') : Afn Z h' a ty n f := by obtain ⟨c, A, r⟩ := F; exact ⟨c, A.ext E, r⟩
theorem Afn.other {h h' : Heap} {a b : Addr} {ty : FieldType} {n : Int32} {f : Nat → Value} {sl : Nat} {v : Value} (F : Afn Z h b ty n f) (W : Wr h h' a sl v) (q : b ≠ a) : Afn Z h' b ty n f := by obtain ⟨c, A, r⟩ := F; exact ⟨c, A.other W q, r⟩
theorem Afn.keep {h h' : Heap} {a : Addr} {ty : FieldType} {n : Int32} {f : Nat → Value} {ws : List Addr} (F : Afn Z h a ty n f) (K : Keep h h' ws) (q : a ∉ ws) : Afn Z h' a ty n f := by obtain ⟨c, A, r⟩ := F; exact ⟨c, ⟨K.2.1 a c A.1 q, A.2⟩, r⟩
theorem Afn.congr {h : Heap} {a : Addr} {ty : FieldType} {n : Int32} {f g : Nat → Value} (F : Afn Z h a ty n f) (q : ∀ k, k < n.toNatClampNeg → f k = g k) : Afn Z h a ty n g := by
  obtain ⟨c, A, s, m, r⟩ := F
  exact ⟨c, A, s, m, fun k hk => by rw [← q k hk]; exact r k hk⟩
theorem Afn.new {h : Heap} {a : Addr} {ty : FieldType} {n : Int32} {k : ClassId} (A : Arr Z h a (newA k ty n) ty) (q : ¬ n < 0) : Afn Z h a ty n (fun _ => defaultValue ty) := by
  obtain ⟨c, B, -, s, m, H, G⟩ := Arv.new A q
  exact ⟨c, B, s, m, fun j hj => ⟨by simpa using H j (by rw [s]; exact hj), by simpa using G j (by rw [s]; exact hj)⟩⟩
theorem Afn.set {h h' : Heap} {a : Addr} {ty : FieldType} {n : Int32} {f : Nat → Value} {c : Cell} {j : Int32} {v : Value} (A : Arr Z h a c ty) (s : c.slots.size = n.toNatClampNeg) (m : ¬ n < 0) (r : ∀ k, k < n.toNatClampNeg → c.slots[k]? = some (f k) ∧ fits ty (f k) = true) (hv : fits ty v = true) (W : Wr h h' a j.toNatClampNeg v) :
    Afn Z h' a ty n (fun k => if k = j.toNatClampNeg then v else f k) := by
  refine ⟨c.setSlot j.toNatClampNeg v, A.same W, by rw [sz_set]; exact s, m, fun k hk => ?_⟩
  dsimp only
  by_cases q : k = j.toNatClampNeg
  · rw [if_pos q]
    refine ⟨?_, hv⟩
    subst q
    simp [Cell.setSlot, s, hk]
  · rw [if_neg q]
    refine ⟨?_, (r k hk).2⟩
    show (c.slots.setIfInBounds _ _)[k]? = _
    rw [Array.getElem?_setIfInBounds_ne (Ne.symm q)]
    exact (r k hk).1
theorem inbN {n j : Int32} (q : ¬ j < 0 ∧ j < n) : j.toNatClampNeg < n.toNatClampNeg := by
  obtain ⟨h1, h2⟩ := q
  rw [Int32.lt_iff_toInt_lt] at h1 h2
  have e : (0 : Int32).toInt = 0 := rfl
  simp only [Int32.toNatClampNeg]
  omega
theorem Afn.of_arv {h : Heap} {a : Addr} {k : ClassId} {ty : FieldType} {n : Int32} {vs : List Value} {d : Value} (F : Arv Z h a k ty n vs d) : Afn Z h a ty n (fun i => vs.getD i d) := by
  obtain ⟨c, A, -, s, m, H, G⟩ := F
  exact ⟨c, A, s, m, fun i hi => ⟨H i (by rw [s]; exact hi), G i (by rw [s]; exact hi)⟩⟩
theorem ns_root {O K : String} {n : Nat} (w : (Cond.noSuperclass O).before a0 Z = true) (wk : (Cond.instantiable K n).before a0 Z = true) (hn : O ≠ K) : NS Z O K := by
  obtain ⟨c, k, h1, h2, h3, -, -⟩ := Cond.noSuperclass_spec w
  obtain ⟨t, kt, g1, -⟩ := Cond.instantiable_spec wk
  have ne := ids_ne h1 g1 hn
  refine ⟨c, t, h1, g1, fun fuel => ?_⟩
  cases fuel with
  | zero => rfl
  | succ f => simp [Vm.isSubclassAux, ne, h2, h3]
theorem ns_no {C S K : String} {n : Nat} (w : (Cond.superclass C S).before a0 Z = true) (wk : (Cond.instantiable K n).before a0 Z = true) (q : NS Z C K) (hn : C ≠ K) : ∃ c t, Z.vm.findClass C = some c ∧ Z.vm.findClass K = some t ∧ Z.vm.assignable c t = false := by
  obtain ⟨c, t, h0, g0, n3⟩ := q
  obtain ⟨p, k, kp, h1, h2, h3, h4, h5, -, h7⟩ := Cond.superclass_spec h0 w
  obtain ⟨t', kt, g1, g2, g3, g4, -⟩ := Cond.instantiable_spec wk
  cases g0.symm.trans g1
  have g5 : kt.isInterface = false := (Bool.or_eq_false_iff.mp g4).1
  have ne := ids_ne h0 g0 hn
  refine ⟨c, t, h0, g0, ?_⟩
  show Z.vm.assignableAux (255 + 1) c t = false
  simp [Vm.assignableAux, ne, h2, g2, h5, g3, g5, Vm.isSubclass, n3]
end
end Jvm.OwnKit
namespace Jvm.Pilot.@@N@@
open Jvm Jvm.ClassFile Sem Op Lib Jvm.Free Jvm.Stand Jvm.LawKit Jvm.RoadKit Jvm.OwnKit Bundle Jvm.Pilot.@@N@@.Jvm.D
theorem d1_0 : decode prog_139_method_1_code 0 = .ok (.aload_n 0, 1) := by decide +kernel
theorem d1_1 : decode prog_139_method_1_code 1 = .ok (.invokespecial 1, 3) := by decide +kernel
theorem d1_4 : decode prog_139_method_1_code 4 = .ok (.aload_n 0, 1) := by decide +kernel
theorem d1_5 : decode prog_139_method_1_code 5 = .ok (.lload_n 1, 1) := by decide +kernel
theorem d1_6 : decode prog_139_method_1_code 6 = .ok (.putfield 7, 3) := by decide +kernel
theorem d1_9 : decode prog_139_method_1_code 9 = .ok (.aload_n 0, 1) := by decide +kernel
theorem d1_10 : decode prog_139_method_1_code 10 = .ok (.lload_n 3, 1) := by decide +kernel
theorem d1_11 : decode prog_139_method_1_code 11 = .ok (.putfield 13, 3) := by decide +kernel
theorem d1_14 : decode prog_139_method_1_code 14 = .ok (.return_, 1) := by decide +kernel
theorem pn_rm1 : plainName "com/example/llave/llave/storage/CommitLog$Position" = true := by first | (simp [plainName, overriddenIn]; done) | decide +kernel
theorem ef_rm1 (m : MethodId) (a1 : Addr) (q2 : Int64) (q3 : Int64) : entryFrame m #[(.ref a1), (.long q2), (.long q3)] 5 = mkF m 0 #[.val (.ref a1), .val (.long q2), .second, .val (.long q3), .second] [] := by first | (simp [entryFrame, mkF, argsToLocals, Value.category]; done) | rfl
def Q1 (Z : State) (a1 : Addr) (q2 : Int64) (q3 : Int64) (h0 : Heap) (n0 : Nat) (v : Option Value) (h : Heap) (L : List Loc) : Prop := v = none ∧ Fr n0 L ∧ Keep h0 h [a1] ∧ Exa Z h a1 "com/example/llave/llave/storage/CommitLog$Position" ∧ Fld Z h a1 "com/example/llave/llave/storage/CommitLog$Position" "segment" "J" (.long q2) ∧ Fld Z h a1 "com/example/llave/llave/storage/CommitLog$Position" "offset" "J" (.long q3)
set_option maxRecDepth 65536 in
set_option maxHeartbeats 40000000 in
theorem rm1 (l : Launch) (Z : State) (a0 : Array Value) (hw : ∀ d ∈ tables_1, d.before a0 Z = true) (ws : List Jvm.Cond) (a1 : Addr) (q2 : Int64) (q3 : Int64) (h0 : Heap) (n0 : Nat) (Z0 : n0 ≤ h0.size) (F_segment_a1 : Fld Z h0 a1 "com/example/llave/llave/storage/CommitLog$Position" "segment" "J" (.long (0 : Int64))) (F_offset_a1 : Fld Z h0 a1 "com/example/llave/llave/storage/CommitLog$Position" "offset" "J" (.long (0 : Int64))) (E_a1 : Exa Z h0 a1 "com/example/llave/llave/storage/CommitLog$Position") (g_a1 : n0 ≤ a1) :
    Con l Z (⟨"com/example/llave/llave/storage/CommitLog$Position", "<init>", "(JJ)V"⟩ : MethodName) prog_139_method_1_code 5 none ws ({ frames := 1, cells := 0, slots := 0, locals := 12 } : Room) #[(.ref a1), (.long q2), (.long q3)] h0 (Q1 Z a1 q2 q3 h0 n0) := by
  refine Con.of (plainFor_of_name pn_rm1) ?_
  intro p e s m below meth c s₁ hZ e0 X0 hx hby hml hown hnm hret hlk
  replace hml : c.maxLocals = 5 := hml
  have hown : s.vm.findClass "com/example/llave/llave/storage/CommitLog$Position" = some m.cls := hown
  have N0 : Fr n0 [] := Fr.nil n0
  obtain ⟨PP, hPP⟩ : ∃ P, P = Fine s below (Q1 Z a1 q2 q3 h0 n0) ({ frames := 1, cells := 0, slots := 0, locals := 12 } : Room).cells ({ frames := 1, cells := 0, slots := 0, locals := 12 } : Room).slots := ⟨_, rfl⟩
  rw [← hPP]
  refine Go.cast (ef_rm1 m a1 q2 q3) ?_
  have K : Keep h0 h0 [a1] := Keep.refl h0 _
  have Zn : n0 ≤ h0.size := Z0
  show Go p.tables e below PP (s₁.setTop (mkF m 0 #[.val (.ref a1), .val (.long q2), .second, .val (.long q3), .second] []))
  refine Go.st (fun t k => XS.aloadN X0.here hx rfl (hb hby d1_0) rfl rfl k) ?_
  show Go p.tables e below PP (s₁.setTop (mkF m 1 #[.val (.ref a1), .val (.long q2), .second, .val (.long q3), .second] [(.ref a1)]))
  obtain ⟨T1, X1, e1, st1⟩ := initO X0 hx hZ hown (hw _ (List.mem_of_getElem? (i := 8) rfl)) (hw _ (List.mem_of_getElem? (i := 9) rfl)) (hw _ (List.mem_of_getElem? (i := 10) rfl)) e0 (g := (mkF m 1 #[.val (.ref a1), .val (.long q2), .second, .val (.long q3), .second] [(.ref a1)])) rfl (by rw [hml]; rfl) rfl (hb hby d1_1) (by decide) (W := 0) (by show 2 * 0 + _ ≤ _; exact Nat.le_of_eq rfl) (by decide)
  refine Go.st st1 ?_
  show Go p.tables e below PP (T1.setTop (mkF m 4 #[.val (.ref a1), .val (.long q2), .second, .val (.long q3), .second] []))
  refine Go.st (fun t k => XS.aloadN X1.here hx rfl (hb hby d1_4) rfl rfl k) ?_
  show Go p.tables e below PP (T1.setTop (mkF m 5 #[.val (.ref a1), .val (.long q2), .second, .val (.long q3), .second] [(.ref a1)]))
  refine Go.st (fun t k => XS.lloadN X1.here hx rfl (hb hby d1_5) rfl k) ?_
  show Go p.tables e below PP (T1.setTop (mkF m 6 #[.val (.ref a1), .val (.long q2), .second, .val (.long q3), .second] [(.long q2), (.ref a1)]))
  obtain ⟨T2, h2, X2, e2, W2, st2⟩ := putF X1 hx hZ hown (host := "") (Or.inl (hw _ (List.mem_of_getElem? (i := 11) rfl))) Via.refl e1 F_segment_a1 E_a1 (Or.inr ⟨(hw _ (List.mem_of_getElem? (i := 12) rfl)), rfl, hnm⟩) (hw _ (List.mem_of_getElem? (i := 3) rfl)) (ty := .long) (by decide) rfl rfl (g := (mkF m 6 #[.val (.ref a1), .val (.long q2), .second, .val (.long q3), .second] [(.long q2), (.ref a1)])) rfl rfl (hb hby d1_6)
  refine Go.st st2 ?_
  have N2 := Fr.snoc X2 N0 g_a1
  replace F_offset_a1 := F_offset_a1.other W2 (Or.inr (slot_ne (a0 := a0) (Or.inr (hw _ (List.mem_of_getElem? (i := 14) rfl))) (Or.inr (hw _ (List.mem_of_getElem? (i := 12) rfl))) (by decide) (t := .long) (t' := .long) (by decide) (by decide)))
  replace E_a1 := E_a1.wr W2
  replace K := K.wr W2 (Or.inl (List.mem_of_getElem? (i := 0) rfl))
  replace Zn : n0 ≤ h2.size := by rw [W2.size]; exact Zn
  replace F_segment_a1 := F_segment_a1.same W2
  show Go p.tables e below PP (T2.setTop (mkF m 9 #[.val (.ref a1), .val (.long q2), .second, .val (.long q3), .second] []))
  refine Go.st (fun t k => XS.aloadN X2.here hx rfl (hb hby d1_9) rfl rfl k) ?_
  show Go p.tables e below PP (T2.setTop (mkF m 10 #[.val (.ref a1), .val (.long q2), .second, .val (.long q3), .second] [(.ref a1)]))
  refine Go.st (fun t k => XS.lloadN X2.here hx rfl (hb hby d1_10) rfl k) ?_
  show Go p.tables e below PP (T2.setTop (mkF m 11 #[.val (.ref a1), .val (.long q2), .second, .val (.long q3), .second] [(.long q3), (.ref a1)]))
  obtain ⟨T3, h3, X3, e3, W3, st3⟩ := putF X2 hx hZ hown (host := "") (Or.inl (hw _ (List.mem_of_getElem? (i := 13) rfl))) Via.refl e2 F_offset_a1 E_a1 (Or.inr ⟨(hw _ (List.mem_of_getElem? (i := 14) rfl)), rfl, hnm⟩) (hw _ (List.mem_of_getElem? (i := 3) rfl)) (ty := .long) (by decide) rfl rfl (g := (mkF m 11 #[.val (.ref a1), .val (.long q2), .second, .val (.long q3), .second] [(.long q3), (.ref a1)])) rfl rfl (hb hby d1_11)
  refine Go.st st3 ?_
  have N3 := Fr.snoc X3 N2 g_a1
  replace F_segment_a1 := F_segment_a1.other W3 (Or.inr (slot_ne (a0 := a0) (Or.inr (hw _ (List.mem_of_getElem? (i := 12) rfl))) (Or.inr (hw _ (List.mem_of_getElem? (i := 14) rfl))) (by decide) (t := .long) (t' := .long) (by decide) (by decide)))
  replace E_a1 := E_a1.wr W3
  replace K := K.wr W3 (Or.inl (List.mem_of_getElem? (i := 0) rfl))
  replace Zn : n0 ≤ h3.size := by rw [W3.size]; exact Zn
  replace F_offset_a1 := F_offset_a1.same W3
  show Go p.tables e below PP (T3.setTop (mkF m 14 #[.val (.ref a1), .val (.long q2), .second, .val (.long q3), .second] []))
  rw [hPP]
  refine endV X3 hx hlk hret (hb hby d1_14) ?_ (by decide) (by decide)
  show Q1 Z a1 q2 q3 h0 n0 none T3.heap _
  rw [e3]
  exact ⟨rfl, N3, K, E_a1, F_segment_a1, F_offset_a1⟩
theorem d4_0 : decode prog_139_method_2_code 0 = .ok (.aload_n 0, 1) := by decide +kernel
theorem d4_1 : decode prog_139_method_2_code 1 = .ok (.getfield 7, 3) := by decide +kernel
theorem d4_4 : decode prog_139_method_2_code 4 = .ok (.lreturn, 1) := by decide +kernel
theorem pn_rm4 : plainName "com/example/llave/llave/storage/CommitLog$Position" = true := by first | (simp [plainName, overriddenIn]; done) | decide +kernel
theorem ef_rm4 (m : MethodId) (a1 : Addr) : entryFrame m #[(.ref a1)] 1 = mkF m 0 #[.val (.ref a1)] [] := by first | (simp [entryFrame, mkF, argsToLocals, Value.category]; done) | rfl
def Q4 (Z : State) (a1 : Addr) (s1 : Int64) (h0 : Heap) (n0 : Nat) (v : Option Value) (h : Heap) (L : List Loc) : Prop := v = some (.long s1) ∧ L = [] ∧ h = h0
set_option maxRecDepth 65536 in
set_option maxHeartbeats 40000000 in
theorem rm4 (l : Launch) (Z : State) (a0 : Array Value) (hw : ∀ d ∈ tables_1, d.before a0 Z = true) (ws : List Jvm.Cond) (a1 : Addr) (s1 : Int64) (h0 : Heap) (n0 : Nat) (Z0 : n0 ≤ h0.size) (F_segment_a1 : Fld Z h0 a1 "com/example/llave/llave/storage/CommitLog$Position" "segment" "J" (.long s1)) :
    Con l Z (⟨"com/example/llave/llave/storage/CommitLog$Position", "getSegment", "()J"⟩ : MethodName) prog_139_method_2_code 1 (some .long) ws ({ frames := 0, cells := 0, slots := 0, locals := 0 } : Room) #[(.ref a1)] h0 (Q4 Z a1 s1 h0 n0) := by
  refine Con.of (plainFor_of_name pn_rm4) ?_
  intro p e s m below meth c s₁ hZ e0 X0 hx hby hml hown hnm hret hlk
  replace hml : c.maxLocals = 1 := hml
  have hown : s.vm.findClass "com/example/llave/llave/storage/CommitLog$Position" = some m.cls := hown
  have N0 : Fr n0 [] := Fr.nil n0
  obtain ⟨PP, hPP⟩ : ∃ P, P = Fine s below (Q4 Z a1 s1 h0 n0) ({ frames := 0, cells := 0, slots := 0, locals := 0 } : Room).cells ({ frames := 0, cells := 0, slots := 0, locals := 0 } : Room).slots := ⟨_, rfl⟩
  rw [← hPP]
  refine Go.cast (ef_rm4 m a1) ?_
  have Zn : n0 ≤ h0.size := Z0
  show Go p.tables e below PP (s₁.setTop (mkF m 0 #[.val (.ref a1)] []))
  refine Go.st (fun t k => XS.aloadN X0.here hx rfl (hb hby d4_0) rfl rfl k) ?_
  show Go p.tables e below PP (s₁.setTop (mkF m 1 #[.val (.ref a1)] [(.ref a1)]))
  obtain ⟨T1, X1, e1, st1⟩ := getF X0 hx hZ hown (host := "") (Or.inl (hw _ (List.mem_of_getElem? (i := 11) rfl))) Via.refl e0 F_segment_a1 (g := (mkF m 1 #[.val (.ref a1)] [(.ref a1)])) rfl rfl (hb hby d4_1)
  refine Go.st st1 ?_
  show Go p.tables e below PP (T1.setTop (mkF m 4 #[.val (.ref a1)] [(.long s1)]))
  rw [hPP]
  refine endJ X1 hx hlk hret (hb hby d4_4) ?_ (by decide) (by decide)
  show Q4 Z a1 s1 h0 n0 (some (.long s1)) T1.heap _
  rw [e1]
  exact ⟨rfl, rfl, rfl⟩
theorem d5_0 : decode prog_139_method_3_code 0 = .ok (.aload_n 0, 1) := by decide +kernel
theorem d5_1 : decode prog_139_method_3_code 1 = .ok (.getfield 13, 3) := by decide +kernel
theorem d5_4 : decode prog_139_method_3_code 4 = .ok (.lreturn, 1) := by decide +kernel
theorem pn_rm5 : plainName "com/example/llave/llave/storage/CommitLog$Position" = true := by first | (simp [plainName, overriddenIn]; done) | decide +kernel
theorem ef_rm5 (m : MethodId) (a1 : Addr) : entryFrame m #[(.ref a1)] 1 = mkF m 0 #[.val (.ref a1)] [] := by first | (simp [entryFrame, mkF, argsToLocals, Value.category]; done) | rfl
def Q5 (Z : State) (a1 : Addr) (o1 : Int64) (h0 : Heap) (n0 : Nat) (v : Option Value) (h : Heap) (L : List Loc) : Prop := v = some (.long o1) ∧ L = [] ∧ h = h0
set_option maxRecDepth 65536 in
set_option maxHeartbeats 40000000 in
theorem rm5 (l : Launch) (Z : State) (a0 : Array Value) (hw : ∀ d ∈ tables_1, d.before a0 Z = true) (ws : List Jvm.Cond) (a1 : Addr) (o1 : Int64) (h0 : Heap) (n0 : Nat) (Z0 : n0 ≤ h0.size) (F_offset_a1 : Fld Z h0 a1 "com/example/llave/llave/storage/CommitLog$Position" "offset" "J" (.long o1)) :
    Con l Z (⟨"com/example/llave/llave/storage/CommitLog$Position", "getOffset", "()J"⟩ : MethodName) prog_139_method_3_code 1 (some .long) ws ({ frames := 0, cells := 0, slots := 0, locals := 0 } : Room) #[(.ref a1)] h0 (Q5 Z a1 o1 h0 n0) := by
  refine Con.of (plainFor_of_name pn_rm5) ?_
  intro p e s m below meth c s₁ hZ e0 X0 hx hby hml hown hnm hret hlk
  replace hml : c.maxLocals = 1 := hml
  have hown : s.vm.findClass "com/example/llave/llave/storage/CommitLog$Position" = some m.cls := hown
  have N0 : Fr n0 [] := Fr.nil n0
  obtain ⟨PP, hPP⟩ : ∃ P, P = Fine s below (Q5 Z a1 o1 h0 n0) ({ frames := 0, cells := 0, slots := 0, locals := 0 } : Room).cells ({ frames := 0, cells := 0, slots := 0, locals := 0 } : Room).slots := ⟨_, rfl⟩
  rw [← hPP]
  refine Go.cast (ef_rm5 m a1) ?_
  have Zn : n0 ≤ h0.size := Z0
  show Go p.tables e below PP (s₁.setTop (mkF m 0 #[.val (.ref a1)] []))
  refine Go.st (fun t k => XS.aloadN X0.here hx rfl (hb hby d5_0) rfl rfl k) ?_
  show Go p.tables e below PP (s₁.setTop (mkF m 1 #[.val (.ref a1)] [(.ref a1)]))
  obtain ⟨T1, X1, e1, st1⟩ := getF X0 hx hZ hown (host := "") (Or.inl (hw _ (List.mem_of_getElem? (i := 13) rfl))) Via.refl e0 F_offset_a1 (g := (mkF m 1 #[.val (.ref a1)] [(.ref a1)])) rfl rfl (hb hby d5_1)
  refine Go.st st1 ?_
  show Go p.tables e below PP (T1.setTop (mkF m 4 #[.val (.ref a1)] [(.long o1)]))
  rw [hPP]
  refine endJ X1 hx hlk hret (hb hby d5_4) ?_ (by decide) (by decide)
  show Q5 Z a1 o1 h0 n0 (some (.long o1)) T1.heap _
  rw [e1]
  exact ⟨rfl, rfl, rfl⟩
theorem d3_0 : decode prog_162_method_4_code 0 = .ok (.ldc2_w 68, 3) := by decide +kernel
theorem d3_3 : decode prog_162_method_4_code 3 = .ok (.aload_n 0, 1) := by decide +kernel
theorem d3_4 : decode prog_162_method_4_code 4 = .ok (.invokevirtual 70, 3) := by decide +kernel
theorem d3_7 : decode prog_162_method_4_code 7 = .ok (.bipush 32, 2) := by decide +kernel
theorem d3_9 : decode prog_162_method_4_code 9 = .ok (.lshl, 1) := by decide +kernel
theorem d3_10 : decode prog_162_method_4_code 10 = .ok (.ladd, 1) := by decide +kernel
theorem d3_11 : decode prog_162_method_4_code 11 = .ok (.aload_n 0, 1) := by decide +kernel
theorem d3_12 : decode prog_162_method_4_code 12 = .ok (.invokevirtual 76, 3) := by decide +kernel
theorem d3_15 : decode prog_162_method_4_code 15 = .ok (.ladd, 1) := by decide +kernel
theorem d3_16 : decode prog_162_method_4_code 16 = .ok (.lreturn, 1) := by decide +kernel
theorem pn_rm3 : plainName "com/example/llave/llave/storage/LegacyTimes" = true := by first | (simp [plainName, overriddenIn]; done) | decide +kernel
theorem ef_rm3 (m : MethodId) (a1 : Addr) : entryFrame m #[(.ref a1)] 1 = mkF m 0 #[.val (.ref a1)] [] := by first | (simp [entryFrame, mkF, argsToLocals, Value.category]; done) | rfl
def Q3 (Z : State) (a1 : Addr) (s1 : Int64) (o1 : Int64) (h0 : Heap) (n0 : Nat) (v : Option Value) (h : Heap) (L : List Loc) : Prop := v = some (.long (((-4611686018427387904 : Int64) + (s1 <<< ((32 : Int32) &&& 0x3f).toInt64)) + o1)) ∧ L = [] ∧ h = h0
theorem pd_0 : parseMethodDescriptor "()J" = some ⟨[], some .long⟩ := by decide +kernel
set_option maxRecDepth 65536 in
set_option maxHeartbeats 40000000 in
theorem rm3 (l : Launch) (Z : State) (a0 : Array Value) (hw : ∀ d ∈ tables_1, d.before a0 Z = true) (ws : List Jvm.Cond) (a1 : Addr) (s1 : Int64) (o1 : Int64) (h0 : Heap) (n0 : Nat) (Z0 : n0 ≤ h0.size) (F_segment_a1 : Fld Z h0 a1 "com/example/llave/llave/storage/CommitLog$Position" "segment" "J" (.long s1)) (F_offset_a1 : Fld Z h0 a1 "com/example/llave/llave/storage/CommitLog$Position" "offset" "J" (.long o1)) (E_a1 : Exa Z h0 a1 "com/example/llave/llave/storage/CommitLog$Position") :
    Con l Z (⟨"com/example/llave/llave/storage/LegacyTimes", "ofCommitLogRecord", "(Lcom/example/llave/llave/storage/CommitLog$Position;)J"⟩ : MethodName) prog_162_method_4_code 1 (some .long) ws ({ frames := 1, cells := 0, slots := 0, locals := 14 } : Room) #[(.ref a1)] h0 (Q3 Z a1 s1 o1 h0 n0) := by
  refine Con.of (plainFor_of_name pn_rm3) ?_
  intro p e s m below meth c s₁ hZ e0 X0 hx hby hml hown hnm hret hlk
  replace hml : c.maxLocals = 1 := hml
  have hown : s.vm.findClass "com/example/llave/llave/storage/LegacyTimes" = some m.cls := hown
  have N0 : Fr n0 [] := Fr.nil n0
  obtain ⟨PP, hPP⟩ : ∃ P, P = Fine s below (Q3 Z a1 s1 o1 h0 n0) ({ frames := 1, cells := 0, slots := 0, locals := 14 } : Room).cells ({ frames := 1, cells := 0, slots := 0, locals := 14 } : Room).slots := ⟨_, rfl⟩
  rw [← hPP]
  refine Go.cast (ef_rm3 m a1) ?_
  have Zn : n0 ≤ h0.size := Z0
  show Go p.tables e below PP (s₁.setTop (mkF m 0 #[.val (.ref a1)] []))
  refine Go.st (fun t k => X0.ldc2J hx hown (mvT hZ (hw _ (List.mem_of_getElem? (i := 19) rfl))) (g := (mkF m 0 #[.val (.ref a1)] [])) rfl (hb hby d3_0) k) ?_
  show Go p.tables e below PP (s₁.setTop (mkF m 3 #[.val (.ref a1)] [(.long (-4611686018427387904 : Int64))]))
  refine Go.st (fun t k => XS.aloadN X0.here hx rfl (hb hby d3_3) rfl rfl k) ?_
  show Go p.tables e below PP (s₁.setTop (mkF m 4 #[.val (.ref a1)] [(.ref a1), (.long (-4611686018427387904 : Int64))]))
  obtain ⟨v1, T1, L1, X1, hQ1, st1⟩ := callVi X0 hx hZ (C := "com/example/llave/llave/storage/CommitLog$Position") (y := (⟨"com/example/llave/llave/storage/CommitLog$Position", "getSegment", "()J"⟩ : MethodName)) (z := (⟨"com/example/llave/llave/storage/CommitLog$Position", "getSegment", "()J"⟩ : MethodName)) (a := a1) (argsL := []) (rest := [(.long (-4611686018427387904 : Int64))]) hown (hw _ (List.mem_of_getElem? (i := 20) rfl)) (hw _ (List.mem_of_getElem? (i := 21) rfl)) (notFace_of_selects (args := #[]) (mvT hZ (hw _ (List.mem_of_getElem? (i := 23) rfl)))) (hw _ (List.mem_of_getElem? (i := 23) rfl)) (hw _ (List.mem_of_getElem? (i := 22) rfl)) (hw _ (List.mem_of_getElem? (i := 4) rfl)) (hw _ (List.mem_of_getElem? (i := 24) rfl)) (by decide) rfl E_a1 (rm4 l Z a0 hw [] a1 s1 h0 n0 Zn F_segment_a1) e0 2 (by decide) (by decide) (by decide) (by decide) (g := (mkF m 4 #[.val (.ref a1)] [(.ref a1), (.long (-4611686018427387904 : Int64))])) rfl (by rw [hml]; rfl) (lenOf pd_0 rfl) rfl (by show 2 * 0 + _ ≤ _; exact Nat.le_of_eq rfl) (hb hby d3_4)
  obtain ⟨rfl, rfl, e1⟩ := hQ1
  rw [List.append_nil] at X1
  refine Go.st st1 ?_
  show Go p.tables e below PP (T1.setTop (mkF m 7 #[.val (.ref a1)] [(.long s1), (.long (-4611686018427387904 : Int64))]))
  refine Go.st (fun t k => XS.bipush X1.here hx rfl (hb hby d3_7) k) ?_
  show Go p.tables e below PP (T1.setTop (mkF m 9 #[.val (.ref a1)] [(.int (32 : Int32)), (.long s1), (.long (-4611686018427387904 : Int64))]))
  refine Go.st (fun t k => XS.lshl X1.here hx rfl (hb hby d3_9) rfl k) ?_
  show Go p.tables e below PP (T1.setTop (mkF m 10 #[.val (.ref a1)] [(.long (s1 <<< ((32 : Int32) &&& 0x3f).toInt64)), (.long (-4611686018427387904 : Int64))]))
  refine Go.st (fun t k => XS.ladd X1.here hx rfl (hb hby d3_10) rfl k) ?_
  show Go p.tables e below PP (T1.setTop (mkF m 11 #[.val (.ref a1)] [(.long ((-4611686018427387904 : Int64) + (s1 <<< ((32 : Int32) &&& 0x3f).toInt64)))]))
  refine Go.st (fun t k => XS.aloadN X1.here hx rfl (hb hby d3_11) rfl rfl k) ?_
  show Go p.tables e below PP (T1.setTop (mkF m 12 #[.val (.ref a1)] [(.ref a1), (.long ((-4611686018427387904 : Int64) + (s1 <<< ((32 : Int32) &&& 0x3f).toInt64)))]))
  obtain ⟨v2, T2, L2, X2, hQ2, st2⟩ := callVi X1 hx hZ (C := "com/example/llave/llave/storage/CommitLog$Position") (y := (⟨"com/example/llave/llave/storage/CommitLog$Position", "getOffset", "()J"⟩ : MethodName)) (z := (⟨"com/example/llave/llave/storage/CommitLog$Position", "getOffset", "()J"⟩ : MethodName)) (a := a1) (argsL := []) (rest := [(.long ((-4611686018427387904 : Int64) + (s1 <<< ((32 : Int32) &&& 0x3f).toInt64)))]) hown (hw _ (List.mem_of_getElem? (i := 25) rfl)) (hw _ (List.mem_of_getElem? (i := 26) rfl)) (notFace_of_selects (args := #[]) (mvT hZ (hw _ (List.mem_of_getElem? (i := 28) rfl)))) (hw _ (List.mem_of_getElem? (i := 28) rfl)) (hw _ (List.mem_of_getElem? (i := 27) rfl)) (hw _ (List.mem_of_getElem? (i := 4) rfl)) (hw _ (List.mem_of_getElem? (i := 29) rfl)) (by decide) rfl E_a1 (rm5 l Z a0 hw [] a1 o1 h0 n0 Zn F_offset_a1) e1 2 (by decide) (by decide) (by decide) (by decide) (g := (mkF m 12 #[.val (.ref a1)] [(.ref a1), (.long ((-4611686018427387904 : Int64) + (s1 <<< ((32 : Int32) &&& 0x3f).toInt64)))])) rfl (by rw [hml]; rfl) (lenOf pd_0 rfl) rfl (by show 2 * 0 + _ ≤ _; exact Nat.le_of_eq rfl) (hb hby d3_12)
  obtain ⟨rfl, rfl, e2⟩ := hQ2
  rw [List.append_nil] at X2
  refine Go.st st2 ?_
  show Go p.tables e below PP (T2.setTop (mkF m 15 #[.val (.ref a1)] [(.long o1), (.long ((-4611686018427387904 : Int64) + (s1 <<< ((32 : Int32) &&& 0x3f).toInt64)))]))
  refine Go.st (fun t k => XS.ladd X2.here hx rfl (hb hby d3_15) rfl k) ?_
  show Go p.tables e below PP (T2.setTop (mkF m 16 #[.val (.ref a1)] [(.long (((-4611686018427387904 : Int64) + (s1 <<< ((32 : Int32) &&& 0x3f).toInt64)) + o1))]))
  rw [hPP]
  refine endJ X2 hx hlk hret (hb hby d3_16) ?_ (by decide) (by decide)
  show Q3 Z a1 s1 o1 h0 n0 (some (.long (((-4611686018427387904 : Int64) + (s1 <<< ((32 : Int32) &&& 0x3f).toInt64)) + o1))) T2.heap _
  rw [e2]
  exact ⟨rfl, rfl, rfl⟩
def cmpJ (x y : Int64) : Int32 := if x < y then -1 else if x = y then 0 else 1
theorem d7_0 : decode jdk_35_method_42_code 0 = .ok (.lload_n 0, 1) := by decide +kernel
theorem d7_1 : decode jdk_35_method_42_code 1 = .ok (.lload_n 2, 1) := by decide +kernel
theorem d7_2 : decode jdk_35_method_42_code 2 = .ok (.lcmp, 1) := by decide +kernel
theorem d7_3 : decode jdk_35_method_42_code 3 = .ok (.ifCond .ge 7, 3) := by decide +kernel
theorem d7_6 : decode jdk_35_method_42_code 6 = .ok (.iconst (-1), 1) := by decide +kernel
theorem d7_7 : decode jdk_35_method_42_code 7 = .ok (.goto 14, 3) := by decide +kernel
theorem d7_10 : decode jdk_35_method_42_code 10 = .ok (.lload_n 0, 1) := by decide +kernel
theorem d7_11 : decode jdk_35_method_42_code 11 = .ok (.lload_n 2, 1) := by decide +kernel
theorem d7_12 : decode jdk_35_method_42_code 12 = .ok (.lcmp, 1) := by decide +kernel
theorem d7_13 : decode jdk_35_method_42_code 13 = .ok (.ifCond .ne 7, 3) := by decide +kernel
theorem d7_16 : decode jdk_35_method_42_code 16 = .ok (.iconst 0, 1) := by decide +kernel
theorem d7_17 : decode jdk_35_method_42_code 17 = .ok (.goto 4, 3) := by decide +kernel
theorem d7_20 : decode jdk_35_method_42_code 20 = .ok (.iconst 1, 1) := by decide +kernel
theorem d7_21 : decode jdk_35_method_42_code 21 = .ok (.ireturn, 1) := by decide +kernel
theorem pn_rm7 : plainName "java/lang/Long" = true := by first | (simp [plainName, overriddenIn]; done) | decide +kernel
theorem ef_rm7 (m : MethodId) (q1 : Int64) (q2 : Int64) : entryFrame m #[(.long q1), (.long q2)] 4 = mkF m 0 #[.val (.long q1), .second, .val (.long q2), .second] [] := by first | (simp [entryFrame, mkF, argsToLocals, Value.category]; done) | rfl
def Q7 (Z : State) (q1 : Int64) (q2 : Int64) (h0 : Heap) (n0 : Nat) (v : Option Value) (h : Heap) (L : List Loc) : Prop := v = some (.int (cmpJ q1 q2)) ∧ L = [] ∧ h = h0
set_option maxRecDepth 65536 in
set_option maxHeartbeats 40000000 in
theorem rm7 (l : Launch) (Z : State) (a0 : Array Value) (hw : ∀ d ∈ tables_1, d.before a0 Z = true) (ws : List Jvm.Cond) (q1 : Int64) (q2 : Int64) (h0 : Heap) (n0 : Nat) (Z0 : n0 ≤ h0.size) :
    Con l Z (⟨"java/lang/Long", "compare", "(JJ)I"⟩ : MethodName) jdk_35_method_42_code 4 (some .int) ws ({ frames := 0, cells := 0, slots := 0, locals := 0 } : Room) #[(.long q1), (.long q2)] h0 (Q7 Z q1 q2 h0 n0) := by
  refine Con.of (plainFor_of_name pn_rm7) ?_
  intro p e s m below meth c s₁ hZ e0 X0 hx hby hml hown hnm hret hlk
  replace hml : c.maxLocals = 4 := hml
  have hown : s.vm.findClass "java/lang/Long" = some m.cls := hown
  have N0 : Fr n0 [] := Fr.nil n0
  obtain ⟨PP, hPP⟩ : ∃ P, P = Fine s below (Q7 Z q1 q2 h0 n0) ({ frames := 0, cells := 0, slots := 0, locals := 0 } : Room).cells ({ frames := 0, cells := 0, slots := 0, locals := 0 } : Room).slots := ⟨_, rfl⟩
  rw [← hPP]
  refine Go.cast (ef_rm7 m q1 q2) ?_
  have Zn : n0 ≤ h0.size := Z0
  show Go p.tables e below PP (s₁.setTop (mkF m 0 #[.val (.long q1), .second, .val (.long q2), .second] []))
  refine Go.st (fun t k => XS.lloadN X0.here hx rfl (hb hby d7_0) rfl k) ?_
  show Go p.tables e below PP (s₁.setTop (mkF m 1 #[.val (.long q1), .second, .val (.long q2), .second] [(.long q1)]))
  refine Go.st (fun t k => XS.lloadN X0.here hx rfl (hb hby d7_1) rfl k) ?_
  show Go p.tables e below PP (s₁.setTop (mkF m 2 #[.val (.long q1), .second, .val (.long q2), .second] [(.long q2), (.long q1)]))
  refine Go.st (fun t k => XS.lcmp X0.here hx rfl (hb hby d7_2) rfl k) ?_
  show Go p.tables e below PP (s₁.setTop (mkF m 3 #[.val (.long q1), .second, .val (.long q2), .second] [(.int (XT.cmpL q1 q2))]))
  by_cases hc3 : q1 < q2
  · --
    refine Go.st (fun t k => XS.ifNo X0.here hx rfl (hb hby d7_3) rfl (XT.ll_ge_f hc3) k) ?_
    show Go p.tables e below PP (s₁.setTop (mkF m 6 #[.val (.long q1), .second, .val (.long q2), .second] []))
    refine Go.st (fun t k => XS.iconst X0.here hx rfl (hb hby d7_6) k) ?_
    show Go p.tables e below PP (s₁.setTop (mkF m 7 #[.val (.long q1), .second, .val (.long q2), .second] [(.int (-1 : Int32))]))
    refine Go.st (fun t k => XS.goto X0.here hx rfl (pc0 := 7) (pc' := 21) rfl (hb hby d7_7) (by decide) (by decide) k) ?_
    show Go p.tables e below PP (s₁.setTop (mkF m 21 #[.val (.long q1), .second, .val (.long q2), .second] [(.int (-1 : Int32))]))
    rw [hPP]
    refine endI X0 hx hlk hret (hb hby d7_21) ?_ (by decide) (by decide)
    show Q7 Z q1 q2 h0 n0 (some (.int (-1 : Int32))) s₁.heap _
    rw [e0]
    exact ⟨by simp [cmpJ, hc3], rfl, rfl⟩
  · --
    refine Go.st (fun t k => XS.ifYes X0.here hx rfl (pc0 := 3) (pc' := 10) rfl (hb hby d7_3) rfl (XT.ll_ge_t hc3) (by decide) (by decide) k) ?_
    show Go p.tables e below PP (s₁.setTop (mkF m 10 #[.val (.long q1), .second, .val (.long q2), .second] []))
    refine Go.st (fun t k => XS.lloadN X0.here hx rfl (hb hby d7_10) rfl k) ?_
    show Go p.tables e below PP (s₁.setTop (mkF m 11 #[.val (.long q1), .second, .val (.long q2), .second] [(.long q1)]))
    refine Go.st (fun t k => XS.lloadN X0.here hx rfl (hb hby d7_11) rfl k) ?_
    show Go p.tables e below PP (s₁.setTop (mkF m 12 #[.val (.long q1), .second, .val (.long q2), .second] [(.long q2), (.long q1)]))
    refine Go.st (fun t k => XS.lcmp X0.here hx rfl (hb hby d7_12) rfl k) ?_
    show Go p.tables e below PP (s₁.setTop (mkF m 13 #[.val (.long q1), .second, .val (.long q2), .second] [(.int (XT.cmpL q1 q2))]))
    by_cases hc13 : q1 = q2
    · --
      refine Go.st (fun t k => XS.ifNo X0.here hx rfl (hb hby d7_13) rfl (XT.ll_ne_f hc13) k) ?_
      show Go p.tables e below PP (s₁.setTop (mkF m 16 #[.val (.long q1), .second, .val (.long q2), .second] []))
      refine Go.st (fun t k => XS.iconst X0.here hx rfl (hb hby d7_16) k) ?_
      show Go p.tables e below PP (s₁.setTop (mkF m 17 #[.val (.long q1), .second, .val (.long q2), .second] [(.int (0 : Int32))]))
      refine Go.st (fun t k => XS.goto X0.here hx rfl (pc0 := 17) (pc' := 21) rfl (hb hby d7_17) (by decide) (by decide) k) ?_
      show Go p.tables e below PP (s₁.setTop (mkF m 21 #[.val (.long q1), .second, .val (.long q2), .second] [(.int (0 : Int32))]))
      rw [hPP]
      refine endI X0 hx hlk hret (hb hby d7_21) ?_ (by decide) (by decide)
      show Q7 Z q1 q2 h0 n0 (some (.int (0 : Int32))) s₁.heap _
      rw [e0]
      exact ⟨by simp [cmpJ, hc3, hc13], rfl, rfl⟩
    · --
      refine Go.st (fun t k => XS.ifYes X0.here hx rfl (pc0 := 13) (pc' := 20) rfl (hb hby d7_13) rfl (XT.ll_ne_t hc13) (by decide) (by decide) k) ?_
      show Go p.tables e below PP (s₁.setTop (mkF m 20 #[.val (.long q1), .second, .val (.long q2), .second] []))
      refine Go.st (fun t k => XS.iconst X0.here hx rfl (hb hby d7_20) k) ?_
      show Go p.tables e below PP (s₁.setTop (mkF m 21 #[.val (.long q1), .second, .val (.long q2), .second] [(.int (1 : Int32))]))
      rw [hPP]
      refine endI X0 hx hlk hret (hb hby d7_21) ?_ (by decide) (by decide)
      show Q7 Z q1 q2 h0 n0 (some (.int (1 : Int32))) s₁.heap _
      rw [e0]
      exact ⟨by simp [cmpJ, hc3, hc13], rfl, rfl⟩
theorem d6_0 : decode prog_139_method_4_code 0 = .ok (.aload_n 0, 1) := by decide +kernel
theorem d6_1 : decode prog_139_method_4_code 1 = .ok (.getfield 7, 3) := by decide +kernel
theorem d6_4 : decode prog_139_method_4_code 4 = .ok (.aload_n 1, 1) := by decide +kernel
theorem d6_5 : decode prog_139_method_4_code 5 = .ok (.getfield 7, 3) := by decide +kernel
theorem d6_8 : decode prog_139_method_4_code 8 = .ok (.invokestatic 16, 3) := by decide +kernel
theorem d6_11 : decode prog_139_method_4_code 11 = .ok (.istore_n 2, 1) := by decide +kernel
theorem d6_12 : decode prog_139_method_4_code 12 = .ok (.iload_n 2, 1) := by decide +kernel
theorem d6_13 : decode prog_139_method_4_code 13 = .ok (.ifCond .eq 7, 3) := by decide +kernel
theorem d6_16 : decode prog_139_method_4_code 16 = .ok (.iload_n 2, 1) := by decide +kernel
theorem d6_17 : decode prog_139_method_4_code 17 = .ok (.goto 14, 3) := by decide +kernel
theorem d6_20 : decode prog_139_method_4_code 20 = .ok (.aload_n 0, 1) := by decide +kernel
theorem d6_21 : decode prog_139_method_4_code 21 = .ok (.getfield 13, 3) := by decide +kernel
theorem d6_24 : decode prog_139_method_4_code 24 = .ok (.aload_n 1, 1) := by decide +kernel
theorem d6_25 : decode prog_139_method_4_code 25 = .ok (.getfield 13, 3) := by decide +kernel
theorem d6_28 : decode prog_139_method_4_code 28 = .ok (.invokestatic 16, 3) := by decide +kernel
theorem d6_31 : decode prog_139_method_4_code 31 = .ok (.ireturn, 1) := by decide +kernel
theorem pn_rm6 : plainName "com/example/llave/llave/storage/CommitLog$Position" = true := by first | (simp [plainName, overriddenIn]; done) | decide +kernel
theorem ef_rm6 (m : MethodId) (a1 : Addr) (a2 : Addr) : entryFrame m #[(.ref a1), (.ref a2)] 3 = mkF m 0 #[.val (.ref a1), .val (.ref a2), .unset] [] := by first | (simp [entryFrame, mkF, argsToLocals, Value.category]; done) | rfl
def Q6 (Z : State) (a1 : Addr) (a2 : Addr) (s1 : Int64) (o1 : Int64) (s2 : Int64) (o2 : Int64) (h0 : Heap) (n0 : Nat) (v : Option Value) (h : Heap) (L : List Loc) : Prop := v = some (.int (if cmpJ s1 s2 = (0 : Int32) then cmpJ o1 o2 else cmpJ s1 s2)) ∧ L = [] ∧ h = h0
theorem pd_1 : parseMethodDescriptor "(JJ)I" = some ⟨[.long, .long], some .int⟩ := by decide +kernel
set_option maxRecDepth 65536 in
set_option maxHeartbeats 40000000 in
theorem rm6 (l : Launch) (Z : State) (a0 : Array Value) (hw : ∀ d ∈ tables_1, d.before a0 Z = true) (ws : List Jvm.Cond) (a1 : Addr) (a2 : Addr) (s1 : Int64) (o1 : Int64) (s2 : Int64) (o2 : Int64) (h0 : Heap) (n0 : Nat) (Z0 : n0 ≤ h0.size) (F_segment_a1 : Fld Z h0 a1 "com/example/llave/llave/storage/CommitLog$Position" "segment" "J" (.long s1)) (F_offset_a1 : Fld Z h0 a1 "com/example/llave/llave/storage/CommitLog$Position" "offset" "J" (.long o1)) (F_segment_a2 : Fld Z h0 a2 "com/example/llave/llave/storage/CommitLog$Position" "segment" "J" (.long s2)) (F_offset_a2 : Fld Z h0 a2 "com/example/llave/llave/storage/CommitLog$Position" "offset" "J" (.long o2)) :
    Con l Z (⟨"com/example/llave/llave/storage/CommitLog$Position", "compareTo", "(Lcom/example/llave/llave/storage/CommitLog$Position;)I"⟩ : MethodName) prog_139_method_4_code 3 (some .int) ws ({ frames := 1, cells := 0, slots := 0, locals := 15 } : Room) #[(.ref a1), (.ref a2)] h0 (Q6 Z a1 a2 s1 o1 s2 o2 h0 n0) := by
  refine Con.of (plainFor_of_name pn_rm6) ?_
  intro p e s m below meth c s₁ hZ e0 X0 hx hby hml hown hnm hret hlk
  replace hml : c.maxLocals = 3 := hml
  have hown : s.vm.findClass "com/example/llave/llave/storage/CommitLog$Position" = some m.cls := hown
  have N0 : Fr n0 [] := Fr.nil n0
  obtain ⟨PP, hPP⟩ : ∃ P, P = Fine s below (Q6 Z a1 a2 s1 o1 s2 o2 h0 n0) ({ frames := 1, cells := 0, slots := 0, locals := 15 } : Room).cells ({ frames := 1, cells := 0, slots := 0, locals := 15 } : Room).slots := ⟨_, rfl⟩
  rw [← hPP]
  refine Go.cast (ef_rm6 m a1 a2) ?_
  have Zn : n0 ≤ h0.size := Z0
  show Go p.tables e below PP (s₁.setTop (mkF m 0 #[.val (.ref a1), .val (.ref a2), .unset] []))
  refine Go.st (fun t k => XS.aloadN X0.here hx rfl (hb hby d6_0) rfl rfl k) ?_
  show Go p.tables e below PP (s₁.setTop (mkF m 1 #[.val (.ref a1), .val (.ref a2), .unset] [(.ref a1)]))
  obtain ⟨T1, X1, e1, st1⟩ := getF X0 hx hZ hown (host := "") (Or.inl (hw _ (List.mem_of_getElem? (i := 11) rfl))) Via.refl e0 F_segment_a1 (g := (mkF m 1 #[.val (.ref a1), .val (.ref a2), .unset] [(.ref a1)])) rfl rfl (hb hby d6_1)
  refine Go.st st1 ?_
  show Go p.tables e below PP (T1.setTop (mkF m 4 #[.val (.ref a1), .val (.ref a2), .unset] [(.long s1)]))
  refine Go.st (fun t k => XS.aloadN X1.here hx rfl (hb hby d6_4) rfl rfl k) ?_
  show Go p.tables e below PP (T1.setTop (mkF m 5 #[.val (.ref a1), .val (.ref a2), .unset] [(.ref a2), (.long s1)]))
  obtain ⟨T2, X2, e2, st2⟩ := getF X1 hx hZ hown (host := "") (Or.inl (hw _ (List.mem_of_getElem? (i := 11) rfl))) Via.refl e1 F_segment_a2 (g := (mkF m 5 #[.val (.ref a1), .val (.ref a2), .unset] [(.ref a2), (.long s1)])) rfl rfl (hb hby d6_5)
  refine Go.st st2 ?_
  show Go p.tables e below PP (T2.setTop (mkF m 8 #[.val (.ref a1), .val (.ref a2), .unset] [(.long s2), (.long s1)]))
  obtain ⟨v3, T3, L3, X3, hQ3, st3⟩ := callSt X2 hx hZ (y := (⟨"java/lang/Long", "compare", "(JJ)I"⟩ : MethodName)) (argsL := [(.long s1), (.long s2)]) (rest := []) hown (hw _ (List.mem_of_getElem? (i := 36) rfl)) (hw _ (List.mem_of_getElem? (i := 37) rfl)) (hw _ (List.mem_of_getElem? (i := 38) rfl)) (hw _ (List.mem_of_getElem? (i := 39) rfl)) (by decide) (rm7 l Z a0 hw [] s1 s2 h0 n0 Zn) e2 0 (by decide) (by decide) (by decide) (by decide) (g := (mkF m 8 #[.val (.ref a1), .val (.ref a2), .unset] [(.long s2), (.long s1)])) rfl (by rw [hml]; rfl) (lenOf pd_1 rfl) rfl (by show 2 * 0 + _ ≤ _; exact Nat.le_of_eq rfl) (hb hby d6_8)
  obtain ⟨rfl, rfl, e3⟩ := hQ3
  rw [List.append_nil] at X3
  refine Go.st st3 ?_
  show Go p.tables e below PP (T3.setTop (mkF m 11 #[.val (.ref a1), .val (.ref a2), .unset] [(.int (cmpJ s1 s2))]))
  refine Go.st (fun t k => XS.istoreN X3.here hx rfl (hb hby d6_11) rfl (l' := #[.val (.ref a1), .val (.ref a2), .val (.int (cmpJ s1 s2))]) rfl k) ?_
  show Go p.tables e below PP (T3.setTop (mkF m 12 #[.val (.ref a1), .val (.ref a2), .val (.int (cmpJ s1 s2))] []))
  refine Go.st (fun t k => XS.iloadN X3.here hx rfl (hb hby d6_12) rfl k) ?_
  show Go p.tables e below PP (T3.setTop (mkF m 13 #[.val (.ref a1), .val (.ref a2), .val (.int (cmpJ s1 s2))] [(.int (cmpJ s1 s2))]))
  by_cases hc13 : (cmpJ s1 s2) = (0 : Int32)
  · --
    refine Go.st (fun t k => XS.ifYes X3.here hx rfl (pc0 := 13) (pc' := 20) rfl (hb hby d6_13) rfl (XT.i0_eq_t hc13) (by decide) (by decide) k) ?_
    show Go p.tables e below PP (T3.setTop (mkF m 20 #[.val (.ref a1), .val (.ref a2), .val (.int (cmpJ s1 s2))] []))
    refine Go.st (fun t k => XS.aloadN X3.here hx rfl (hb hby d6_20) rfl rfl k) ?_
    show Go p.tables e below PP (T3.setTop (mkF m 21 #[.val (.ref a1), .val (.ref a2), .val (.int (cmpJ s1 s2))] [(.ref a1)]))
    obtain ⟨T4, X4, e4, st4⟩ := getF X3 hx hZ hown (host := "") (Or.inl (hw _ (List.mem_of_getElem? (i := 13) rfl))) Via.refl e3 F_offset_a1 (g := (mkF m 21 #[.val (.ref a1), .val (.ref a2), .val (.int (cmpJ s1 s2))] [(.ref a1)])) rfl rfl (hb hby d6_21)
    refine Go.st st4 ?_
    show Go p.tables e below PP (T4.setTop (mkF m 24 #[.val (.ref a1), .val (.ref a2), .val (.int (cmpJ s1 s2))] [(.long o1)]))
    refine Go.st (fun t k => XS.aloadN X4.here hx rfl (hb hby d6_24) rfl rfl k) ?_
    show Go p.tables e below PP (T4.setTop (mkF m 25 #[.val (.ref a1), .val (.ref a2), .val (.int (cmpJ s1 s2))] [(.ref a2), (.long o1)]))
    obtain ⟨T5, X5, e5, st5⟩ := getF X4 hx hZ hown (host := "") (Or.inl (hw _ (List.mem_of_getElem? (i := 13) rfl))) Via.refl e4 F_offset_a2 (g := (mkF m 25 #[.val (.ref a1), .val (.ref a2), .val (.int (cmpJ s1 s2))] [(.ref a2), (.long o1)])) rfl rfl (hb hby d6_25)
    refine Go.st st5 ?_
    show Go p.tables e below PP (T5.setTop (mkF m 28 #[.val (.ref a1), .val (.ref a2), .val (.int (cmpJ s1 s2))] [(.long o2), (.long o1)]))
    obtain ⟨v6, T6, L6, X6, hQ6, st6⟩ := callSt X5 hx hZ (y := (⟨"java/lang/Long", "compare", "(JJ)I"⟩ : MethodName)) (argsL := [(.long o1), (.long o2)]) (rest := []) hown (hw _ (List.mem_of_getElem? (i := 36) rfl)) (hw _ (List.mem_of_getElem? (i := 37) rfl)) (hw _ (List.mem_of_getElem? (i := 38) rfl)) (hw _ (List.mem_of_getElem? (i := 39) rfl)) (by decide) (rm7 l Z a0 hw [] o1 o2 h0 n0 Zn) e5 0 (by decide) (by decide) (by decide) (by decide) (g := (mkF m 28 #[.val (.ref a1), .val (.ref a2), .val (.int (cmpJ s1 s2))] [(.long o2), (.long o1)])) rfl (by rw [hml]; rfl) (lenOf pd_1 rfl) rfl (by show 2 * 0 + _ ≤ _; exact Nat.le_of_eq rfl) (hb hby d6_28)
    obtain ⟨rfl, rfl, e6⟩ := hQ6
    rw [List.append_nil] at X6
    refine Go.st st6 ?_
    show Go p.tables e below PP (T6.setTop (mkF m 31 #[.val (.ref a1), .val (.ref a2), .val (.int (cmpJ s1 s2))] [(.int (cmpJ o1 o2))]))
    rw [hPP]
    refine endI X6 hx hlk hret (hb hby d6_31) ?_ (by decide) (by decide)
    show Q6 Z a1 a2 s1 o1 s2 o2 h0 n0 (some (.int (cmpJ o1 o2))) T6.heap _
    rw [e6]
    exact ⟨by simp [hc13], rfl, rfl⟩
  · --
    refine Go.st (fun t k => XS.ifNo X3.here hx rfl (hb hby d6_13) rfl (XT.i0_eq_f hc13) k) ?_
    show Go p.tables e below PP (T3.setTop (mkF m 16 #[.val (.ref a1), .val (.ref a2), .val (.int (cmpJ s1 s2))] []))
    refine Go.st (fun t k => XS.iloadN X3.here hx rfl (hb hby d6_16) rfl k) ?_
    show Go p.tables e below PP (T3.setTop (mkF m 17 #[.val (.ref a1), .val (.ref a2), .val (.int (cmpJ s1 s2))] [(.int (cmpJ s1 s2))]))
    refine Go.st (fun t k => XS.goto X3.here hx rfl (pc0 := 17) (pc' := 31) rfl (hb hby d6_17) (by decide) (by decide) k) ?_
    show Go p.tables e below PP (T3.setTop (mkF m 31 #[.val (.ref a1), .val (.ref a2), .val (.int (cmpJ s1 s2))] [(.int (cmpJ s1 s2))]))
    rw [hPP]
    refine endI X3 hx hlk hret (hb hby d6_31) ?_ (by decide) (by decide)
    show Q6 Z a1 a2 s1 o1 s2 o2 h0 n0 (some (.int (cmpJ s1 s2))) T3.heap _
    rw [e3]
    exact ⟨by simp [hc13], rfl, rfl⟩
theorem own_seg (k g : Int64) (h : (k &&& (1073741823 : Int64)) = g) : 0 ≤ g.toInt ∧ g.toInt < 1073741824 := by
  have q := c_maskL k 1073741823 30 (by decide) (by decide)
  rw [h] at q
  omega
theorem own_off (k g : Int64) (h : (k &&& (4294967295 : Int64)) = g) : 0 ≤ g.toInt ∧ g.toInt < 4294967296 := by
  have q := c_maskL k 4294967295 32 (by decide) (by decide)
  rw [h] at q
  omega
theorem own_t (g o t : Int64) (hg : 0 ≤ g.toInt ∧ g.toInt < 1073741824) (ho : 0 ≤ o.toInt ∧ o.toInt < 4294967296) (ht : (((-4611686018427387904 : Int64) + (g <<< ((32 : Int32) &&& 0x3f).toInt64)) + o) = t) : t.toInt = -4611686018427387904 + g.toInt * 4294967296 + o.toInt := by
  have a1 := c_lshl g 32 32 (by decide)
  have a2 := c_ladd (-4611686018427387904 : Int64) (g <<< ((32 : Int32) &&& 0x3f).toInt64)
  have a3 := c_ladd ((-4611686018427387904 : Int64) + (g <<< ((32 : Int32) &&& 0x3f).toInt64)) o
  rw [ht] at a3
  have r1 := rng64 (g <<< ((32 : Int32) &&& 0x3f).toInt64)
  have r2 := rng64 ((-4611686018427387904 : Int64) + (g <<< ((32 : Int32) &&& 0x3f).toInt64))
  have r3 := rng64 t
  have e : (-4611686018427387904 : Int64).toInt = -4611686018427387904 := rfl
  omega
theorem own_rt (g o t d : Int64) (hg : 0 ≤ g.toInt ∧ g.toInt < 1073741824) (ho : 0 ≤ o.toInt ∧ o.toInt < 4294967296) (ht : (((-4611686018427387904 : Int64) + (g <<< ((32 : Int32) &&& 0x3f).toInt64)) + o) = t) (hd : (t - (-4611686018427387904 : Int64)) = d) :
    ((d.toUInt64 >>> ((32 : Int32) &&& 0x3f).toInt64.toUInt64).toInt64) = g ∧ (d &&& (4294967295 : Int64)) = o ∧ ¬ t < (-4611686018427387904 : Int64) ∧ t < (0 : Int64) := by
  have q := own_t g o t hg ho ht
  have a1 := c_lsub t (-4611686018427387904 : Int64)
  rw [hd] at a1
  have r1 := rng64 d
  have e : (-4611686018427387904 : Int64).toInt = -4611686018427387904 := rfl
  have e0 : (0 : Int64).toInt = 0 := rfl
  have a2 := c_lushr d 32 32 (by decide) (by decide)
  have a3 := c_maskL d 4294967295 32 (by decide) (by decide)
  have dd : d.toInt = g.toInt * 4294967296 + o.toInt := by omega
  refine ⟨Int64.toInt_inj.mp (by rw [a2, dd]; omega), Int64.toInt_inj.mp (by rw [a3, dd]; omega), ?_, ?_⟩ <;> rw [Int64.lt_iff_toInt_lt] <;> omega
theorem own_cmp (x y : Int64) : (cmpJ x y = -1 ∧ x.toInt < y.toInt) ∨ (cmpJ x y = 0 ∧ x.toInt = y.toInt) ∨ (cmpJ x y = 1 ∧ y.toInt < x.toInt) := by
  unfold cmpJ
  by_cases h : x < y
  · rw [if_pos h]; exact Or.inl ⟨rfl, Int64.lt_iff_toInt_lt.mp h⟩
  · rw [if_neg h]
    by_cases h2 : x = y
    · rw [if_pos h2]; exact Or.inr (Or.inl ⟨rfl, by rw [h2]⟩)
    · rw [if_neg h2]
      refine Or.inr (Or.inr ⟨rfl, ?_⟩)
      rw [Int64.lt_iff_toInt_lt] at h
      have : x.toInt ≠ y.toInt := fun q => h2 (Int64.toInt_inj.mp q)
      omega
theorem own_ord (g1 o1 g2 o2 t1 t2 : Int64) (c : Int32) (hg1 : 0 ≤ g1.toInt ∧ g1.toInt < 1073741824) (ho1 : 0 ≤ o1.toInt ∧ o1.toInt < 4294967296) (hg2 : 0 ≤ g2.toInt ∧ g2.toInt < 1073741824) (ho2 : 0 ≤ o2.toInt ∧ o2.toInt < 4294967296) (ht1 : (((-4611686018427387904 : Int64) + (g1 <<< ((32 : Int32) &&& 0x3f).toInt64)) + o1) = t1) (ht2 : (((-4611686018427387904 : Int64) + (g2 <<< ((32 : Int32) &&& 0x3f).toInt64)) + o2) = t2) (hc : (if cmpJ g1 g2 = (0 : Int32) then cmpJ o1 o2 else cmpJ g1 g2) = c) :
    (c < (0 : Int32) ↔ t1 < t2) ∧ (c = (0 : Int32) ↔ t1 = t2) ∧ ((0 : Int32) < c ↔ t2 < t1) := by
  have q1 := own_t g1 o1 t1 hg1 ho1 ht1
  have q2 := own_t g2 o2 t2 hg2 ho2 ht2
  rw [Int64.lt_iff_toInt_lt, Int64.lt_iff_toInt_lt, ← Int64.toInt_inj, q1, q2]
  have w : (c = -1 ∧ (g1.toInt < g2.toInt ∨ g1.toInt = g2.toInt ∧ o1.toInt < o2.toInt)) ∨ (c = 0 ∧ g1.toInt = g2.toInt ∧ o1.toInt = o2.toInt) ∨ (c = 1 ∧ (g2.toInt < g1.toInt ∨ g1.toInt = g2.toInt ∧ o2.toInt < o1.toInt)) := by
    subst hc
    rcases own_cmp g1 g2 with ⟨h, k⟩ | ⟨h, k⟩ | ⟨h, k⟩
    · rw [h, if_neg (by decide)]; exact Or.inl ⟨rfl, Or.inl k⟩
    · rw [h, if_pos rfl]
      rcases own_cmp o1 o2 with ⟨h', k'⟩ | ⟨h', k'⟩ | ⟨h', k'⟩ <;> rw [h']
      · exact Or.inl ⟨rfl, Or.inr ⟨k, k'⟩⟩
      · exact Or.inr (Or.inl ⟨rfl, k, k'⟩)
      · exact Or.inr (Or.inr ⟨rfl, Or.inr ⟨k, k'⟩⟩)
    · rw [h, if_neg (by decide)]; exact Or.inr (Or.inr ⟨rfl, Or.inl k⟩)
  have z1 : ((-1 : Int32) < 0) = True := by decide
  have z2 : ((-1 : Int32) = 0) = False := by decide
  have z3 : ((0 : Int32) < -1) = False := by decide
  have z4 : ((0 : Int32) < 0) = False := by decide
  have z5 : ((1 : Int32) < 0) = False := by decide
  have z6 : ((1 : Int32) = 0) = False := by decide
  have z7 : ((0 : Int32) < 1) = True := by decide
  rcases w with ⟨rfl, k⟩ | ⟨rfl, k⟩ | ⟨rfl, k⟩
  · rw [z1, z2, z3]; refine ⟨⟨fun _ => by omega, fun _ => trivial⟩, ⟨False.elim, fun _ => by omega⟩, ⟨False.elim, fun _ => by omega⟩⟩
  · rw [z4]; refine ⟨⟨False.elim, fun _ => by omega⟩, ⟨fun _ => by omega, fun _ => rfl⟩, ⟨False.elim, fun _ => by omega⟩⟩
  · rw [z5, z6, z7]; refine ⟨⟨False.elim, fun _ => by omega⟩, ⟨False.elim, fun _ => by omega⟩, ⟨fun _ => by omega, fun _ => trivial⟩⟩
theorem pn_rm0 : plainName "com/example/llave/llave/storage/LegacyTimesOfCommitLogRecordPinLaw" = true := by first | (simp [plainName, overriddenIn]; done) | decide +kernel
theorem ef_rm0 (m : MethodId) (q1 : Int64) (q2 : Int64) (q3 : Int64) (q4 : Int64) (p5 : Int32) : entryFrame m #[(.long q1), (.long q2), (.long q3), (.long q4), (.int p5)] maxLocals = mkF m 0 #[.val (.long q1), .second, .val (.long q2), .second, .val (.long q3), .second, .val (.long q4), .second, .val (.int p5), .unset, .unset, .unset, .unset, .unset, .unset, .unset, .unset, .unset, .unset, .unset, .unset, .unset, .unset, .unset, .unset, .unset, .unset, .unset, .unset, .unset, .unset, .unset, .unset, .unset] [] := by first | (simp [entryFrame, mkF, argsToLocals, Value.category, maxLocals]; done) | rfl
def Q0 (Z : State) (q1 : Int64) (q2 : Int64) (q3 : Int64) (q4 : Int64) (p5 : Int32) (h0 : Heap) (n0 : Nat) (v : Option Value) (h : Heap) (L : List Loc) : Prop := v = some (.int 1) ∧ Fr n0 L
theorem pd_2 : parseMethodDescriptor "(JJ)V" = some ⟨[.long, .long], none⟩ := by decide +kernel
theorem pd_3 : parseMethodDescriptor "(Lcom/example/llave/llave/storage/CommitLog$Position;)J" = some ⟨[(.object "com/example/llave/llave/storage/CommitLog$Position")], some .long⟩ := by decide +kernel
theorem pd_4 : parseMethodDescriptor "(Lcom/example/llave/llave/storage/CommitLog$Position;)I" = some ⟨[(.object "com/example/llave/llave/storage/CommitLog$Position")], some .int⟩ := by decide +kernel
set_option maxRecDepth 65536 in
set_option maxHeartbeats 40000000 in
theorem rm0 (l : Launch) (Z : State) (a0 : Array Value) (hw : ∀ d ∈ tables_1, d.before a0 Z = true) (ws : List Jvm.Cond) (q1 : Int64) (q2 : Int64) (q3 : Int64) (q4 : Int64) (p5 : Int32) (h0 : Heap) (n0 : Nat) (Z0 : n0 ≤ h0.size) :
    Con l Z x code maxLocals ret ws room_1 #[(.long q1), (.long q2), (.long q3), (.long q4), (.int p5)] h0 (Q0 Z q1 q2 q3 q4 p5 h0 n0) := by
  refine Con.of (plainFor_of_name pn_rm0) ?_
  intro p e s m below meth c s₁ hZ e0 X0 hx hby hml hown hnm hret hlk
  replace hml : c.maxLocals = 34 := hml
  have hown : s.vm.findClass "com/example/llave/llave/storage/LegacyTimesOfCommitLogRecordPinLaw" = some m.cls := hown
  have N0 : Fr n0 [] := Fr.nil n0
  obtain ⟨PP, hPP⟩ : ∃ P, P = Fine s below (Q0 Z q1 q2 q3 q4 p5 h0 n0) room_1.cells room_1.slots := ⟨_, rfl⟩
  rw [← hPP]
  refine Go.cast (ef_rm0 m q1 q2 q3 q4 p5) ?_
  have Zn : n0 ≤ h0.size := Z0
  show Go p.tables e below PP (s₁.setTop (mkF m 0 #[.val (.long q1), .second, .val (.long q2), .second, .val (.long q3), .second, .val (.long q4), .second, .val (.int p5), .unset, .unset, .unset, .unset, .unset, .unset, .unset, .unset, .unset, .unset, .unset, .unset, .unset, .unset, .unset, .unset, .unset, .unset, .unset, .unset, .unset, .unset, .unset, .unset, .unset] []))
  refine Go.st (fun t k => XS.lloadN X0.here hx rfl (hb hby at_0) rfl k) ?_
  show Go p.tables e below PP (s₁.setTop (mkF m 1 #[.val (.long q1), .second, .val (.long q2), .second, .val (.long q3), .second, .val (.long q4), .second, .val (.int p5), .unset, .unset, .unset, .unset, .unset, .unset, .unset, .unset, .unset, .unset, .unset, .unset, .unset, .unset, .unset, .unset, .unset, .unset, .unset, .unset, .unset, .unset, .unset, .unset, .unset] [(.long q1)]))
  refine Go.st (fun t k => X0.ldc2J hx hown (mvT hZ (hw _ (List.mem_of_getElem? (i := 0) rfl))) (g := (mkF m 1 #[.val (.long q1), .second, .val (.long q2), .second, .val (.long q3), .second, .val (.long q4), .second, .val (.int p5), .unset, .unset, .unset, .unset, .unset, .unset, .unset, .unset, .unset, .unset, .unset, .unset, .unset, .unset, .unset, .unset, .unset, .unset, .unset, .unset, .unset, .unset, .unset, .unset, .unset] [(.long q1)])) rfl (hb hby at_1) k) ?_
  show Go p.tables e below PP (s₁.setTop (mkF m 4 #[.val (.long q1), .second, .val (.long q2), .second, .val (.long q3), .second, .val (.long q4), .second, .val (.int p5), .unset, .unset, .unset, .unset, .unset, .unset, .unset, .unset, .unset, .unset, .unset, .unset, .unset, .unset, .unset, .unset, .unset, .unset, .unset, .unset, .unset, .unset, .unset, .unset, .unset] [(.long (1073741823 : Int64)), (.long q1)]))
  refine Go.st (fun t k => XS.land X0.here hx rfl (hb hby at_4) rfl k) ?_
  show Go p.tables e below PP (s₁.setTop (mkF m 5 #[.val (.long q1), .second, .val (.long q2), .second, .val (.long q3), .second, .val (.long q4), .second, .val (.int p5), .unset, .unset, .unset, .unset, .unset, .unset, .unset, .unset, .unset, .unset, .unset, .unset, .unset, .unset, .unset, .unset, .unset, .unset, .unset, .unset, .unset, .unset, .unset, .unset, .unset] [(.long (q1 &&& (1073741823 : Int64)))]))
  refine Go.st (fun t k => XS.lstore X0.here hx rfl (hb hby at_5) rfl (l' := #[.val (.long q1), .second, .val (.long q2), .second, .val (.long q3), .second, .val (.long q4), .second, .val (.int p5), .val (.long (q1 &&& (1073741823 : Int64))), .second, .unset, .unset, .unset, .unset, .unset, .unset, .unset, .unset, .unset, .unset, .unset, .unset, .unset, .unset, .unset, .unset, .unset, .unset, .unset, .unset, .unset, .unset, .unset]) rfl k) ?_
  show Go p.tables e below PP (s₁.setTop (mkF m 7 #[.val (.long q1), .second, .val (.long q2), .second, .val (.long q3), .second, .val (.long q4), .second, .val (.int p5), .val (.long (q1 &&& (1073741823 : Int64))), .second, .unset, .unset, .unset, .unset, .unset, .unset, .unset, .unset, .unset, .unset, .unset, .unset, .unset, .unset, .unset, .unset, .unset, .unset, .unset, .unset, .unset, .unset, .unset] []))
  refine Go.st (fun t k => XS.lloadN X0.here hx rfl (hb hby at_7) rfl k) ?_
  show Go p.tables e below PP (s₁.setTop (mkF m 8 #[.val (.long q1), .second, .val (.long q2), .second, .val (.long q3), .second, .val (.long q4), .second, .val (.int p5), .val (.long (q1 &&& (1073741823 : Int64))), .second, .unset, .unset, .unset, .unset, .unset, .unset, .unset, .unset, .unset, .unset, .unset, .unset, .unset, .unset, .unset, .unset, .unset, .unset, .unset, .unset, .unset, .unset, .unset] [(.long q2)]))
  refine Go.st (fun t k => X0.ldc2J hx hown (mvT hZ (hw _ (List.mem_of_getElem? (i := 1) rfl))) (g := (mkF m 8 #[.val (.long q1), .second, .val (.long q2), .second, .val (.long q3), .second, .val (.long q4), .second, .val (.int p5), .val (.long (q1 &&& (1073741823 : Int64))), .second, .unset, .unset, .unset, .unset, .unset, .unset, .unset, .unset, .unset, .unset, .unset, .unset, .unset, .unset, .unset, .unset, .unset, .unset, .unset, .unset, .unset, .unset, .unset] [(.long q2)])) rfl (hb hby at_8) k) ?_
  show Go p.tables e below PP (s₁.setTop (mkF m 11 #[.val (.long q1), .second, .val (.long q2), .second, .val (.long q3), .second, .val (.long q4), .second, .val (.int p5), .val (.long (q1 &&& (1073741823 : Int64))), .second, .unset, .unset, .unset, .unset, .unset, .unset, .unset, .unset, .unset, .unset, .unset, .unset, .unset, .unset, .unset, .unset, .unset, .unset, .unset, .unset, .unset, .unset, .unset] [(.long (4294967295 : Int64)), (.long q2)]))
  refine Go.st (fun t k => XS.land X0.here hx rfl (hb hby at_11) rfl k) ?_
  show Go p.tables e below PP (s₁.setTop (mkF m 12 #[.val (.long q1), .second, .val (.long q2), .second, .val (.long q3), .second, .val (.long q4), .second, .val (.int p5), .val (.long (q1 &&& (1073741823 : Int64))), .second, .unset, .unset, .unset, .unset, .unset, .unset, .unset, .unset, .unset, .unset, .unset, .unset, .unset, .unset, .unset, .unset, .unset, .unset, .unset, .unset, .unset, .unset, .unset] [(.long (q2 &&& (4294967295 : Int64)))]))
  refine Go.st (fun t k => XS.lstore X0.here hx rfl (hb hby at_12) rfl (l' := #[.val (.long q1), .second, .val (.long q2), .second, .val (.long q3), .second, .val (.long q4), .second, .val (.int p5), .val (.long (q1 &&& (1073741823 : Int64))), .second, .val (.long (q2 &&& (4294967295 : Int64))), .second, .unset, .unset, .unset, .unset, .unset, .unset, .unset, .unset, .unset, .unset, .unset, .unset, .unset, .unset, .unset, .unset, .unset, .unset, .unset, .unset, .unset]) rfl k) ?_
  generalize hg1 : (q1 &&& (1073741823 : Int64)) = g1
  generalize ho1 : (q2 &&& (4294967295 : Int64)) = o1
  replace hg1 := own_seg _ _ hg1
  replace ho1 := own_off _ _ ho1
  have J32 : ∀ (T1 : State) (L1 : List Loc) (g2 : Int64), Stand p l e room_1 s m #[(.long q1), (.long q2), (.long q3), (.long q4), (.int p5)] below meth c T1 L1 0 0 → T1.heap = h0 → Fr n0 L1 → 0 ≤ g2.toInt ∧ g2.toInt < 1073741824 → Go p.tables e below PP (T1.setTop (mkF m 32 #[.val (.long q1), .second, .val (.long q2), .second, .val (.long q3), .second, .val (.long q4), .second, .val (.int p5), .val (.long g1), .second, .val (.long o1), .second, .unset, .unset, .unset, .unset, .unset, .unset, .unset, .unset, .unset, .unset, .unset, .unset, .unset, .unset, .unset, .unset, .unset, .unset, .unset, .unset, .unset] [(.long g2)])) := by
    intro T1 L1 g2 X1 e1 N1 hJ32
    show Go p.tables e below PP (T1.setTop (mkF m 32 #[.val (.long q1), .second, .val (.long q2), .second, .val (.long q3), .second, .val (.long q4), .second, .val (.int p5), .val (.long g1), .second, .val (.long o1), .second, .unset, .unset, .unset, .unset, .unset, .unset, .unset, .unset, .unset, .unset, .unset, .unset, .unset, .unset, .unset, .unset, .unset, .unset, .unset, .unset, .unset] [(.long g2)]))
    refine Go.st (fun t k => XS.lstore X1.here hx rfl (hb hby at_32) rfl (l' := #[.val (.long q1), .second, .val (.long q2), .second, .val (.long q3), .second, .val (.long q4), .second, .val (.int p5), .val (.long g1), .second, .val (.long o1), .second, .val (.long g2), .second, .unset, .unset, .unset, .unset, .unset, .unset, .unset, .unset, .unset, .unset, .unset, .unset, .unset, .unset, .unset, .unset, .unset, .unset, .unset]) rfl k) ?_
    have J52 : ∀ (T2 : State) (L2 : List Loc) (o2 : Int64), Stand p l e room_1 s m #[(.long q1), (.long q2), (.long q3), (.long q4), (.int p5)] below meth c T2 L2 0 0 → T2.heap = h0 → Fr n0 L2 → 0 ≤ o2.toInt ∧ o2.toInt < 4294967296 → Go p.tables e below PP (T2.setTop (mkF m 52 #[.val (.long q1), .second, .val (.long q2), .second, .val (.long q3), .second, .val (.long q4), .second, .val (.int p5), .val (.long g1), .second, .val (.long o1), .second, .val (.long g2), .second, .unset, .unset, .unset, .unset, .unset, .unset, .unset, .unset, .unset, .unset, .unset, .unset, .unset, .unset, .unset, .unset, .unset, .unset, .unset] [(.long o2)])) := by
      intro T2 L2 o2 X2 e2 N2 hJ52
      show Go p.tables e below PP (T2.setTop (mkF m 52 #[.val (.long q1), .second, .val (.long q2), .second, .val (.long q3), .second, .val (.long q4), .second, .val (.int p5), .val (.long g1), .second, .val (.long o1), .second, .val (.long g2), .second, .unset, .unset, .unset, .unset, .unset, .unset, .unset, .unset, .unset, .unset, .unset, .unset, .unset, .unset, .unset, .unset, .unset, .unset, .unset] [(.long o2)]))
      refine Go.st (fun t k => XS.lstore X2.here hx rfl (hb hby at_52) rfl (l' := #[.val (.long q1), .second, .val (.long q2), .second, .val (.long q3), .second, .val (.long q4), .second, .val (.int p5), .val (.long g1), .second, .val (.long o1), .second, .val (.long g2), .second, .val (.long o2), .second, .unset, .unset, .unset, .unset, .unset, .unset, .unset, .unset, .unset, .unset, .unset, .unset, .unset, .unset, .unset, .unset, .unset]) rfl k) ?_
      show Go p.tables e below PP (T2.setTop (mkF m 54 #[.val (.long q1), .second, .val (.long q2), .second, .val (.long q3), .second, .val (.long q4), .second, .val (.int p5), .val (.long g1), .second, .val (.long o1), .second, .val (.long g2), .second, .val (.long o2), .second, .unset, .unset, .unset, .unset, .unset, .unset, .unset, .unset, .unset, .unset, .unset, .unset, .unset, .unset, .unset, .unset, .unset] []))
      obtain ⟨T3, h3, X3, e3, E3, A3, D3, -, st3⟩ := newO X2 hx hZ hown (hw _ (List.mem_of_getElem? (i := 2) rfl)) (hw _ (List.mem_of_getElem? (i := 3) rfl)) (hw _ (List.mem_of_getElem? (i := 4) rfl)) e2 (g := (mkF m 54 #[.val (.long q1), .second, .val (.long q2), .second, .val (.long q3), .second, .val (.long q4), .second, .val (.int p5), .val (.long g1), .second, .val (.long o1), .second, .val (.long g2), .second, .val (.long o2), .second, .unset, .unset, .unset, .unset, .unset, .unset, .unset, .unset, .unset, .unset, .unset, .unset, .unset, .unset, .unset, .unset, .unset] [])) rfl (hb hby at_54) (by decide) (by decide)
      obtain ⟨b3, gz3⟩ : ∃ z, z = h0.size := ⟨_, rfl⟩
      rw [← gz3] at A3 D3 st3
      have g_b3 : n0 ≤ b3 := Nat.le_trans Zn (Nat.le_of_eq gz3.symm)
      refine Go.st st3 ?_
      replace Zn := Nat.le_trans Zn E3.1
      have E_b3 := A3
      have F_segment_b3 : Fld Z h3 b3 "com/example/llave/llave/storage/CommitLog$Position" "segment" "J" (.long (0 : Int64)) := D3 (Or.inr (hw _ (List.mem_of_getElem? (i := 12) rfl))) (ty := .long) (by decide)
      have F_offset_b3 : Fld Z h3 b3 "com/example/llave/llave/storage/CommitLog$Position" "offset" "J" (.long (0 : Int64)) := D3 (Or.inr (hw _ (List.mem_of_getElem? (i := 14) rfl))) (ty := .long) (by decide)
      show Go p.tables e below PP (T3.setTop (mkF m 57 #[.val (.long q1), .second, .val (.long q2), .second, .val (.long q3), .second, .val (.long q4), .second, .val (.int p5), .val (.long g1), .second, .val (.long o1), .second, .val (.long g2), .second, .val (.long o2), .second, .unset, .unset, .unset, .unset, .unset, .unset, .unset, .unset, .unset, .unset, .unset, .unset, .unset, .unset, .unset, .unset, .unset] [(.ref b3)]))
      refine Go.st (fun t k => XS.dup X3.here hx rfl (hb hby at_57) rfl rfl k) ?_
      show Go p.tables e below PP (T3.setTop (mkF m 58 #[.val (.long q1), .second, .val (.long q2), .second, .val (.long q3), .second, .val (.long q4), .second, .val (.int p5), .val (.long g1), .second, .val (.long o1), .second, .val (.long g2), .second, .val (.long o2), .second, .unset, .unset, .unset, .unset, .unset, .unset, .unset, .unset, .unset, .unset, .unset, .unset, .unset, .unset, .unset, .unset, .unset] [(.ref b3), (.ref b3)]))
      refine Go.st (fun t k => XS.lload X3.here hx rfl (hb hby at_58) rfl k) ?_
      show Go p.tables e below PP (T3.setTop (mkF m 60 #[.val (.long q1), .second, .val (.long q2), .second, .val (.long q3), .second, .val (.long q4), .second, .val (.int p5), .val (.long g1), .second, .val (.long o1), .second, .val (.long g2), .second, .val (.long o2), .second, .unset, .unset, .unset, .unset, .unset, .unset, .unset, .unset, .unset, .unset, .unset, .unset, .unset, .unset, .unset, .unset, .unset] [(.long g1), (.ref b3), (.ref b3)]))
      refine Go.st (fun t k => XS.lload X3.here hx rfl (hb hby at_60) rfl k) ?_
      show Go p.tables e below PP (T3.setTop (mkF m 62 #[.val (.long q1), .second, .val (.long q2), .second, .val (.long q3), .second, .val (.long q4), .second, .val (.int p5), .val (.long g1), .second, .val (.long o1), .second, .val (.long g2), .second, .val (.long o2), .second, .unset, .unset, .unset, .unset, .unset, .unset, .unset, .unset, .unset, .unset, .unset, .unset, .unset, .unset, .unset, .unset, .unset] [(.long o1), (.long g1), (.ref b3), (.ref b3)]))
      obtain ⟨v4, T4, L4, X4, hQ4, st4⟩ := callIn X3 hx hZ (y := (⟨"com/example/llave/llave/storage/CommitLog$Position", "<init>", "(JJ)V"⟩ : MethodName)) (a := b3) (argsL := [(.long g1), (.long o1)]) (rest := [(.ref b3)]) rfl hown (hw _ (List.mem_of_getElem? (i := 5) rfl)) (hw _ (List.mem_of_getElem? (i := 6) rfl)) (hw _ (List.mem_of_getElem? (i := 4) rfl)) (hw _ (List.mem_of_getElem? (i := 7) rfl)) (by decide) (rm1 l Z a0 hw [] b3 g1 o1 h3 n0 Zn F_segment_b3 F_offset_b3 E_b3 g_b3) e3 1 (by decide) (by decide) (by decide) (by decide) (g := (mkF m 62 #[.val (.long q1), .second, .val (.long q2), .second, .val (.long q3), .second, .val (.long q4), .second, .val (.int p5), .val (.long g1), .second, .val (.long o1), .second, .val (.long g2), .second, .val (.long o2), .second, .unset, .unset, .unset, .unset, .unset, .unset, .unset, .unset, .unset, .unset, .unset, .unset, .unset, .unset, .unset, .unset, .unset] [(.long o1), (.long g1), (.ref b3), (.ref b3)])) rfl (by rw [hml]; rfl) (lenOf pd_2 rfl) rfl (by show 2 * 0 + _ ≤ _; exact Nat.le_of_eq rfl) (hb hby at_62)
      obtain ⟨h4, e4⟩ : ∃ z, T4.heap = z := ⟨_, rfl⟩
      rw [e4] at hQ4
      obtain ⟨rfl, Nq4, Kq4, Fq4_0, Fq4_1, Fq4_2⟩ := hQ4
      have N4 := Fr.app N2 Nq4
      replace E_b3 := E_b3.keep Kq4
      clear F_segment_b3
      clear F_offset_b3
      replace Zn := Nat.le_trans Zn Kq4.1
      have E_b3 := Fq4_0
      have F_segment_b3 := Fq4_1
      have F_offset_b3 := Fq4_2
      refine Go.st st4 ?_
      show Go p.tables e below PP (T4.setTop (mkF m 65 #[.val (.long q1), .second, .val (.long q2), .second, .val (.long q3), .second, .val (.long q4), .second, .val (.int p5), .val (.long g1), .second, .val (.long o1), .second, .val (.long g2), .second, .val (.long o2), .second, .unset, .unset, .unset, .unset, .unset, .unset, .unset, .unset, .unset, .unset, .unset, .unset, .unset, .unset, .unset, .unset, .unset] [(.ref b3)]))
      refine Go.st (fun t k => XS.astore X4.here hx rfl (hb hby at_65) rfl rfl (l' := #[.val (.long q1), .second, .val (.long q2), .second, .val (.long q3), .second, .val (.long q4), .second, .val (.int p5), .val (.long g1), .second, .val (.long o1), .second, .val (.long g2), .second, .val (.long o2), .second, .val (.ref b3), .unset, .unset, .unset, .unset, .unset, .unset, .unset, .unset, .unset, .unset, .unset, .unset, .unset, .unset, .unset, .unset]) rfl k) ?_
      show Go p.tables e below PP (T4.setTop (mkF m 67 #[.val (.long q1), .second, .val (.long q2), .second, .val (.long q3), .second, .val (.long q4), .second, .val (.int p5), .val (.long g1), .second, .val (.long o1), .second, .val (.long g2), .second, .val (.long o2), .second, .val (.ref b3), .unset, .unset, .unset, .unset, .unset, .unset, .unset, .unset, .unset, .unset, .unset, .unset, .unset, .unset, .unset, .unset] []))
      obtain ⟨T5, h5, X5, e5, E5, A5, D5, -, st5⟩ := newO X4 hx hZ hown (hw _ (List.mem_of_getElem? (i := 2) rfl)) (hw _ (List.mem_of_getElem? (i := 3) rfl)) (hw _ (List.mem_of_getElem? (i := 4) rfl)) e4 (g := (mkF m 67 #[.val (.long q1), .second, .val (.long q2), .second, .val (.long q3), .second, .val (.long q4), .second, .val (.int p5), .val (.long g1), .second, .val (.long o1), .second, .val (.long g2), .second, .val (.long o2), .second, .val (.ref b3), .unset, .unset, .unset, .unset, .unset, .unset, .unset, .unset, .unset, .unset, .unset, .unset, .unset, .unset, .unset, .unset] [])) rfl (hb hby at_67) (by decide) (by decide)
      obtain ⟨b5, gz5⟩ : ∃ z, z = h4.size := ⟨_, rfl⟩
      rw [← gz5] at A5 D5 st5
      have ne_b3_b5 : b3 ≠ b5 := Nat.ne_of_lt (Nat.lt_of_lt_of_le E_b3.lt (Nat.le_of_eq gz5.symm))
      have g_b5 : n0 ≤ b5 := Nat.le_trans Zn (Nat.le_of_eq gz5.symm)
      refine Go.st st5 ?_
      replace E_b3 := E_b3.ext E5
      replace F_segment_b3 := F_segment_b3.ext E5
      replace F_offset_b3 := F_offset_b3.ext E5
      replace Zn := Nat.le_trans Zn E5.1
      have E_b5 := A5
      have F_segment_b5 : Fld Z h5 b5 "com/example/llave/llave/storage/CommitLog$Position" "segment" "J" (.long (0 : Int64)) := D5 (Or.inr (hw _ (List.mem_of_getElem? (i := 12) rfl))) (ty := .long) (by decide)
      have F_offset_b5 : Fld Z h5 b5 "com/example/llave/llave/storage/CommitLog$Position" "offset" "J" (.long (0 : Int64)) := D5 (Or.inr (hw _ (List.mem_of_getElem? (i := 14) rfl))) (ty := .long) (by decide)
      show Go p.tables e below PP (T5.setTop (mkF m 70 #[.val (.long q1), .second, .val (.long q2), .second, .val (.long q3), .second, .val (.long q4), .second, .val (.int p5), .val (.long g1), .second, .val (.long o1), .second, .val (.long g2), .second, .val (.long o2), .second, .val (.ref b3), .unset, .unset, .unset, .unset, .unset, .unset, .unset, .unset, .unset, .unset, .unset, .unset, .unset, .unset, .unset, .unset] [(.ref b5)]))
      refine Go.st (fun t k => XS.dup X5.here hx rfl (hb hby at_70) rfl rfl k) ?_
      show Go p.tables e below PP (T5.setTop (mkF m 71 #[.val (.long q1), .second, .val (.long q2), .second, .val (.long q3), .second, .val (.long q4), .second, .val (.int p5), .val (.long g1), .second, .val (.long o1), .second, .val (.long g2), .second, .val (.long o2), .second, .val (.ref b3), .unset, .unset, .unset, .unset, .unset, .unset, .unset, .unset, .unset, .unset, .unset, .unset, .unset, .unset, .unset, .unset] [(.ref b5), (.ref b5)]))
      refine Go.st (fun t k => XS.lload X5.here hx rfl (hb hby at_71) rfl k) ?_
      show Go p.tables e below PP (T5.setTop (mkF m 73 #[.val (.long q1), .second, .val (.long q2), .second, .val (.long q3), .second, .val (.long q4), .second, .val (.int p5), .val (.long g1), .second, .val (.long o1), .second, .val (.long g2), .second, .val (.long o2), .second, .val (.ref b3), .unset, .unset, .unset, .unset, .unset, .unset, .unset, .unset, .unset, .unset, .unset, .unset, .unset, .unset, .unset, .unset] [(.long g2), (.ref b5), (.ref b5)]))
      refine Go.st (fun t k => XS.lload X5.here hx rfl (hb hby at_73) rfl k) ?_
      show Go p.tables e below PP (T5.setTop (mkF m 75 #[.val (.long q1), .second, .val (.long q2), .second, .val (.long q3), .second, .val (.long q4), .second, .val (.int p5), .val (.long g1), .second, .val (.long o1), .second, .val (.long g2), .second, .val (.long o2), .second, .val (.ref b3), .unset, .unset, .unset, .unset, .unset, .unset, .unset, .unset, .unset, .unset, .unset, .unset, .unset, .unset, .unset, .unset] [(.long o2), (.long g2), (.ref b5), (.ref b5)]))
      obtain ⟨v6, T6, L6, X6, hQ6, st6⟩ := callIn X5 hx hZ (y := (⟨"com/example/llave/llave/storage/CommitLog$Position", "<init>", "(JJ)V"⟩ : MethodName)) (a := b5) (argsL := [(.long g2), (.long o2)]) (rest := [(.ref b5)]) rfl hown (hw _ (List.mem_of_getElem? (i := 5) rfl)) (hw _ (List.mem_of_getElem? (i := 6) rfl)) (hw _ (List.mem_of_getElem? (i := 4) rfl)) (hw _ (List.mem_of_getElem? (i := 7) rfl)) (by decide) (rm1 l Z a0 hw [] b5 g2 o2 h5 n0 Zn F_segment_b5 F_offset_b5 E_b5 g_b5) e5 1 (by decide) (by decide) (by decide) (by decide) (g := (mkF m 75 #[.val (.long q1), .second, .val (.long q2), .second, .val (.long q3), .second, .val (.long q4), .second, .val (.int p5), .val (.long g1), .second, .val (.long o1), .second, .val (.long g2), .second, .val (.long o2), .second, .val (.ref b3), .unset, .unset, .unset, .unset, .unset, .unset, .unset, .unset, .unset, .unset, .unset, .unset, .unset, .unset, .unset, .unset] [(.long o2), (.long g2), (.ref b5), (.ref b5)])) rfl (by rw [hml]; rfl) (lenOf pd_2 rfl) rfl (by show 2 * 0 + _ ≤ _; exact Nat.le_of_eq rfl) (hb hby at_75)
      obtain ⟨h6, e6⟩ : ∃ z, T6.heap = z := ⟨_, rfl⟩
      rw [e6] at hQ6
      obtain ⟨rfl, Nq6, Kq6, Fq6_0, Fq6_1, Fq6_2⟩ := hQ6
      have N6 := Fr.app N4 Nq6
      replace E_b3 := E_b3.keep Kq6
      replace F_segment_b3 := F_segment_b3.keep Kq6 (ninS ne_b3_b5 nin0)
      replace F_offset_b3 := F_offset_b3.keep Kq6 (ninS ne_b3_b5 nin0)
      replace E_b5 := E_b5.keep Kq6
      clear F_segment_b5
      clear F_offset_b5
      replace Zn := Nat.le_trans Zn Kq6.1
      have E_b5 := Fq6_0
      have F_segment_b5 := Fq6_1
      have F_offset_b5 := Fq6_2
      refine Go.st st6 ?_
      show Go p.tables e below PP (T6.setTop (mkF m 78 #[.val (.long q1), .second, .val (.long q2), .second, .val (.long q3), .second, .val (.long q4), .second, .val (.int p5), .val (.long g1), .second, .val (.long o1), .second, .val (.long g2), .second, .val (.long o2), .second, .val (.ref b3), .unset, .unset, .unset, .unset, .unset, .unset, .unset, .unset, .unset, .unset, .unset, .unset, .unset, .unset, .unset, .unset] [(.ref b5)]))
      refine Go.st (fun t k => XS.astore X6.here hx rfl (hb hby at_78) rfl rfl (l' := #[.val (.long q1), .second, .val (.long q2), .second, .val (.long q3), .second, .val (.long q4), .second, .val (.int p5), .val (.long g1), .second, .val (.long o1), .second, .val (.long g2), .second, .val (.long o2), .second, .val (.ref b3), .val (.ref b5), .unset, .unset, .unset, .unset, .unset, .unset, .unset, .unset, .unset, .unset, .unset, .unset, .unset, .unset, .unset]) rfl k) ?_
      show Go p.tables e below PP (T6.setTop (mkF m 80 #[.val (.long q1), .second, .val (.long q2), .second, .val (.long q3), .second, .val (.long q4), .second, .val (.int p5), .val (.long g1), .second, .val (.long o1), .second, .val (.long g2), .second, .val (.long o2), .second, .val (.ref b3), .val (.ref b5), .unset, .unset, .unset, .unset, .unset, .unset, .unset, .unset, .unset, .unset, .unset, .unset, .unset, .unset, .unset] []))
      refine Go.st (fun t k => XS.aload X6.here hx rfl (hb hby at_80) rfl rfl k) ?_
      show Go p.tables e below PP (T6.setTop (mkF m 82 #[.val (.long q1), .second, .val (.long q2), .second, .val (.long q3), .second, .val (.long q4), .second, .val (.int p5), .val (.long g1), .second, .val (.long o1), .second, .val (.long g2), .second, .val (.long o2), .second, .val (.ref b3), .val (.ref b5), .unset, .unset, .unset, .unset, .unset, .unset, .unset, .unset, .unset, .unset, .unset, .unset, .unset, .unset, .unset] [(.ref b3)]))
      obtain ⟨v7, T7, L7, X7, hQ7, st7⟩ := callSt X6 hx hZ (y := (⟨"com/example/llave/llave/storage/LegacyTimes", "ofCommitLogRecord", "(Lcom/example/llave/llave/storage/CommitLog$Position;)J"⟩ : MethodName)) (argsL := [(.ref b3)]) (rest := []) hown (hw _ (List.mem_of_getElem? (i := 15) rfl)) (hw _ (List.mem_of_getElem? (i := 16) rfl)) (hw _ (List.mem_of_getElem? (i := 17) rfl)) (hw _ (List.mem_of_getElem? (i := 18) rfl)) (by decide) (rm3 l Z a0 hw [] b3 g1 o1 h6 n0 Zn F_segment_b3 F_offset_b3 E_b3) e6 0 (by decide) (by decide) (by decide) (by decide) (g := (mkF m 82 #[.val (.long q1), .second, .val (.long q2), .second, .val (.long q3), .second, .val (.long q4), .second, .val (.int p5), .val (.long g1), .second, .val (.long o1), .second, .val (.long g2), .second, .val (.long o2), .second, .val (.ref b3), .val (.ref b5), .unset, .unset, .unset, .unset, .unset, .unset, .unset, .unset, .unset, .unset, .unset, .unset, .unset, .unset, .unset] [(.ref b3)])) rfl (by rw [hml]; rfl) (lenOf pd_3 rfl) rfl (by show 2 * 0 + _ ≤ _; exact Nat.le_of_eq rfl) (hb hby at_82)
      obtain ⟨rfl, rfl, e7⟩ := hQ7
      rw [List.append_nil] at X7
      refine Go.st st7 ?_
      generalize ht1 : (((-4611686018427387904 : Int64) + (g1 <<< ((32 : Int32) &&& 0x3f).toInt64)) + o1) = t1
      show Go p.tables e below PP (T7.setTop (mkF m 85 #[.val (.long q1), .second, .val (.long q2), .second, .val (.long q3), .second, .val (.long q4), .second, .val (.int p5), .val (.long g1), .second, .val (.long o1), .second, .val (.long g2), .second, .val (.long o2), .second, .val (.ref b3), .val (.ref b5), .unset, .unset, .unset, .unset, .unset, .unset, .unset, .unset, .unset, .unset, .unset, .unset, .unset, .unset, .unset] [(.long t1)]))
      refine Go.st (fun t k => XS.lstore X7.here hx rfl (hb hby at_85) rfl (l' := #[.val (.long q1), .second, .val (.long q2), .second, .val (.long q3), .second, .val (.long q4), .second, .val (.int p5), .val (.long g1), .second, .val (.long o1), .second, .val (.long g2), .second, .val (.long o2), .second, .val (.ref b3), .val (.ref b5), .val (.long t1), .second, .unset, .unset, .unset, .unset, .unset, .unset, .unset, .unset, .unset, .unset, .unset, .unset, .unset]) rfl k) ?_
      show Go p.tables e below PP (T7.setTop (mkF m 87 #[.val (.long q1), .second, .val (.long q2), .second, .val (.long q3), .second, .val (.long q4), .second, .val (.int p5), .val (.long g1), .second, .val (.long o1), .second, .val (.long g2), .second, .val (.long o2), .second, .val (.ref b3), .val (.ref b5), .val (.long t1), .second, .unset, .unset, .unset, .unset, .unset, .unset, .unset, .unset, .unset, .unset, .unset, .unset, .unset] []))
      refine Go.st (fun t k => XS.aload X7.here hx rfl (hb hby at_87) rfl rfl k) ?_
      show Go p.tables e below PP (T7.setTop (mkF m 89 #[.val (.long q1), .second, .val (.long q2), .second, .val (.long q3), .second, .val (.long q4), .second, .val (.int p5), .val (.long g1), .second, .val (.long o1), .second, .val (.long g2), .second, .val (.long o2), .second, .val (.ref b3), .val (.ref b5), .val (.long t1), .second, .unset, .unset, .unset, .unset, .unset, .unset, .unset, .unset, .unset, .unset, .unset, .unset, .unset] [(.ref b5)]))
      obtain ⟨v8, T8, L8, X8, hQ8, st8⟩ := callSt X7 hx hZ (y := (⟨"com/example/llave/llave/storage/LegacyTimes", "ofCommitLogRecord", "(Lcom/example/llave/llave/storage/CommitLog$Position;)J"⟩ : MethodName)) (argsL := [(.ref b5)]) (rest := []) hown (hw _ (List.mem_of_getElem? (i := 15) rfl)) (hw _ (List.mem_of_getElem? (i := 16) rfl)) (hw _ (List.mem_of_getElem? (i := 17) rfl)) (hw _ (List.mem_of_getElem? (i := 18) rfl)) (by decide) (rm3 l Z a0 hw [] b5 g2 o2 h6 n0 Zn F_segment_b5 F_offset_b5 E_b5) e7 0 (by decide) (by decide) (by decide) (by decide) (g := (mkF m 89 #[.val (.long q1), .second, .val (.long q2), .second, .val (.long q3), .second, .val (.long q4), .second, .val (.int p5), .val (.long g1), .second, .val (.long o1), .second, .val (.long g2), .second, .val (.long o2), .second, .val (.ref b3), .val (.ref b5), .val (.long t1), .second, .unset, .unset, .unset, .unset, .unset, .unset, .unset, .unset, .unset, .unset, .unset, .unset, .unset] [(.ref b5)])) rfl (by rw [hml]; rfl) (lenOf pd_3 rfl) rfl (by show 2 * 0 + _ ≤ _; exact Nat.le_of_eq rfl) (hb hby at_89)
      obtain ⟨rfl, rfl, e8⟩ := hQ8
      rw [List.append_nil] at X8
      refine Go.st st8 ?_
      generalize ht2 : (((-4611686018427387904 : Int64) + (g2 <<< ((32 : Int32) &&& 0x3f).toInt64)) + o2) = t2
      show Go p.tables e below PP (T8.setTop (mkF m 92 #[.val (.long q1), .second, .val (.long q2), .second, .val (.long q3), .second, .val (.long q4), .second, .val (.int p5), .val (.long g1), .second, .val (.long o1), .second, .val (.long g2), .second, .val (.long o2), .second, .val (.ref b3), .val (.ref b5), .val (.long t1), .second, .unset, .unset, .unset, .unset, .unset, .unset, .unset, .unset, .unset, .unset, .unset, .unset, .unset] [(.long t2)]))
      refine Go.st (fun t k => XS.lstore X8.here hx rfl (hb hby at_92) rfl (l' := #[.val (.long q1), .second, .val (.long q2), .second, .val (.long q3), .second, .val (.long q4), .second, .val (.int p5), .val (.long g1), .second, .val (.long o1), .second, .val (.long g2), .second, .val (.long o2), .second, .val (.ref b3), .val (.ref b5), .val (.long t1), .second, .val (.long t2), .second, .unset, .unset, .unset, .unset, .unset, .unset, .unset, .unset, .unset, .unset, .unset]) rfl k) ?_
      show Go p.tables e below PP (T8.setTop (mkF m 94 #[.val (.long q1), .second, .val (.long q2), .second, .val (.long q3), .second, .val (.long q4), .second, .val (.int p5), .val (.long g1), .second, .val (.long o1), .second, .val (.long g2), .second, .val (.long o2), .second, .val (.ref b3), .val (.ref b5), .val (.long t1), .second, .val (.long t2), .second, .unset, .unset, .unset, .unset, .unset, .unset, .unset, .unset, .unset, .unset, .unset] []))
      refine Go.st (fun t k => X8.ldc2J hx hown (mvT hZ (hw _ (List.mem_of_getElem? (i := 30) rfl))) (g := (mkF m 94 #[.val (.long q1), .second, .val (.long q2), .second, .val (.long q3), .second, .val (.long q4), .second, .val (.int p5), .val (.long g1), .second, .val (.long o1), .second, .val (.long g2), .second, .val (.long o2), .second, .val (.ref b3), .val (.ref b5), .val (.long t1), .second, .val (.long t2), .second, .unset, .unset, .unset, .unset, .unset, .unset, .unset, .unset, .unset, .unset, .unset] [])) rfl (hb hby at_94) k) ?_
      show Go p.tables e below PP (T8.setTop (mkF m 97 #[.val (.long q1), .second, .val (.long q2), .second, .val (.long q3), .second, .val (.long q4), .second, .val (.int p5), .val (.long g1), .second, .val (.long o1), .second, .val (.long g2), .second, .val (.long o2), .second, .val (.ref b3), .val (.ref b5), .val (.long t1), .second, .val (.long t2), .second, .unset, .unset, .unset, .unset, .unset, .unset, .unset, .unset, .unset, .unset, .unset] [(.long (-4611686018427387904 : Int64))]))
      refine Go.st (fun t k => XS.lstore X8.here hx rfl (hb hby at_97) rfl (l' := #[.val (.long q1), .second, .val (.long q2), .second, .val (.long q3), .second, .val (.long q4), .second, .val (.int p5), .val (.long g1), .second, .val (.long o1), .second, .val (.long g2), .second, .val (.long o2), .second, .val (.ref b3), .val (.ref b5), .val (.long t1), .second, .val (.long t2), .second, .val (.long (-4611686018427387904 : Int64)), .second, .unset, .unset, .unset, .unset, .unset, .unset, .unset, .unset, .unset]) rfl k) ?_
      show Go p.tables e below PP (T8.setTop (mkF m 99 #[.val (.long q1), .second, .val (.long q2), .second, .val (.long q3), .second, .val (.long q4), .second, .val (.int p5), .val (.long g1), .second, .val (.long o1), .second, .val (.long g2), .second, .val (.long o2), .second, .val (.ref b3), .val (.ref b5), .val (.long t1), .second, .val (.long t2), .second, .val (.long (-4611686018427387904 : Int64)), .second, .unset, .unset, .unset, .unset, .unset, .unset, .unset, .unset, .unset] []))
      refine Go.st (fun t k => XS.lload X8.here hx rfl (hb hby at_99) rfl k) ?_
      show Go p.tables e below PP (T8.setTop (mkF m 101 #[.val (.long q1), .second, .val (.long q2), .second, .val (.long q3), .second, .val (.long q4), .second, .val (.int p5), .val (.long g1), .second, .val (.long o1), .second, .val (.long g2), .second, .val (.long o2), .second, .val (.ref b3), .val (.ref b5), .val (.long t1), .second, .val (.long t2), .second, .val (.long (-4611686018427387904 : Int64)), .second, .unset, .unset, .unset, .unset, .unset, .unset, .unset, .unset, .unset] [(.long t1)]))
      refine Go.st (fun t k => XS.lload X8.here hx rfl (hb hby at_101) rfl k) ?_
      show Go p.tables e below PP (T8.setTop (mkF m 103 #[.val (.long q1), .second, .val (.long q2), .second, .val (.long q3), .second, .val (.long q4), .second, .val (.int p5), .val (.long g1), .second, .val (.long o1), .second, .val (.long g2), .second, .val (.long o2), .second, .val (.ref b3), .val (.ref b5), .val (.long t1), .second, .val (.long t2), .second, .val (.long (-4611686018427387904 : Int64)), .second, .unset, .unset, .unset, .unset, .unset, .unset, .unset, .unset, .unset] [(.long (-4611686018427387904 : Int64)), (.long t1)]))
      refine Go.st (fun t k => XS.lsub X8.here hx rfl (hb hby at_103) rfl k) ?_
      generalize hd1 : (t1 - (-4611686018427387904 : Int64)) = d1
      show Go p.tables e below PP (T8.setTop (mkF m 104 #[.val (.long q1), .second, .val (.long q2), .second, .val (.long q3), .second, .val (.long q4), .second, .val (.int p5), .val (.long g1), .second, .val (.long o1), .second, .val (.long g2), .second, .val (.long o2), .second, .val (.ref b3), .val (.ref b5), .val (.long t1), .second, .val (.long t2), .second, .val (.long (-4611686018427387904 : Int64)), .second, .unset, .unset, .unset, .unset, .unset, .unset, .unset, .unset, .unset] [(.long d1)]))
      refine Go.st (fun t k => XS.lstore X8.here hx rfl (hb hby at_104) rfl (l' := #[.val (.long q1), .second, .val (.long q2), .second, .val (.long q3), .second, .val (.long q4), .second, .val (.int p5), .val (.long g1), .second, .val (.long o1), .second, .val (.long g2), .second, .val (.long o2), .second, .val (.ref b3), .val (.ref b5), .val (.long t1), .second, .val (.long t2), .second, .val (.long (-4611686018427387904 : Int64)), .second, .val (.long d1), .second, .unset, .unset, .unset, .unset, .unset, .unset, .unset]) rfl k) ?_
      show Go p.tables e below PP (T8.setTop (mkF m 106 #[.val (.long q1), .second, .val (.long q2), .second, .val (.long q3), .second, .val (.long q4), .second, .val (.int p5), .val (.long g1), .second, .val (.long o1), .second, .val (.long g2), .second, .val (.long o2), .second, .val (.ref b3), .val (.ref b5), .val (.long t1), .second, .val (.long t2), .second, .val (.long (-4611686018427387904 : Int64)), .second, .val (.long d1), .second, .unset, .unset, .unset, .unset, .unset, .unset, .unset] []))
      refine Go.st (fun t k => XS.lload X8.here hx rfl (hb hby at_106) rfl k) ?_
      show Go p.tables e below PP (T8.setTop (mkF m 108 #[.val (.long q1), .second, .val (.long q2), .second, .val (.long q3), .second, .val (.long q4), .second, .val (.int p5), .val (.long g1), .second, .val (.long o1), .second, .val (.long g2), .second, .val (.long o2), .second, .val (.ref b3), .val (.ref b5), .val (.long t1), .second, .val (.long t2), .second, .val (.long (-4611686018427387904 : Int64)), .second, .val (.long d1), .second, .unset, .unset, .unset, .unset, .unset, .unset, .unset] [(.long t2)]))
      refine Go.st (fun t k => XS.lload X8.here hx rfl (hb hby at_108) rfl k) ?_
      show Go p.tables e below PP (T8.setTop (mkF m 110 #[.val (.long q1), .second, .val (.long q2), .second, .val (.long q3), .second, .val (.long q4), .second, .val (.int p5), .val (.long g1), .second, .val (.long o1), .second, .val (.long g2), .second, .val (.long o2), .second, .val (.ref b3), .val (.ref b5), .val (.long t1), .second, .val (.long t2), .second, .val (.long (-4611686018427387904 : Int64)), .second, .val (.long d1), .second, .unset, .unset, .unset, .unset, .unset, .unset, .unset] [(.long (-4611686018427387904 : Int64)), (.long t2)]))
      refine Go.st (fun t k => XS.lsub X8.here hx rfl (hb hby at_110) rfl k) ?_
      generalize hd2 : (t2 - (-4611686018427387904 : Int64)) = d2
      show Go p.tables e below PP (T8.setTop (mkF m 111 #[.val (.long q1), .second, .val (.long q2), .second, .val (.long q3), .second, .val (.long q4), .second, .val (.int p5), .val (.long g1), .second, .val (.long o1), .second, .val (.long g2), .second, .val (.long o2), .second, .val (.ref b3), .val (.ref b5), .val (.long t1), .second, .val (.long t2), .second, .val (.long (-4611686018427387904 : Int64)), .second, .val (.long d1), .second, .unset, .unset, .unset, .unset, .unset, .unset, .unset] [(.long d2)]))
      refine Go.st (fun t k => XS.lstore X8.here hx rfl (hb hby at_111) rfl (l' := #[.val (.long q1), .second, .val (.long q2), .second, .val (.long q3), .second, .val (.long q4), .second, .val (.int p5), .val (.long g1), .second, .val (.long o1), .second, .val (.long g2), .second, .val (.long o2), .second, .val (.ref b3), .val (.ref b5), .val (.long t1), .second, .val (.long t2), .second, .val (.long (-4611686018427387904 : Int64)), .second, .val (.long d1), .second, .val (.long d2), .second, .unset, .unset, .unset, .unset, .unset]) rfl k) ?_
      show Go p.tables e below PP (T8.setTop (mkF m 113 #[.val (.long q1), .second, .val (.long q2), .second, .val (.long q3), .second, .val (.long q4), .second, .val (.int p5), .val (.long g1), .second, .val (.long o1), .second, .val (.long g2), .second, .val (.long o2), .second, .val (.ref b3), .val (.ref b5), .val (.long t1), .second, .val (.long t2), .second, .val (.long (-4611686018427387904 : Int64)), .second, .val (.long d1), .second, .val (.long d2), .second, .unset, .unset, .unset, .unset, .unset] []))
      refine Go.st (fun t k => XS.lload X8.here hx rfl (hb hby at_113) rfl k) ?_
      show Go p.tables e below PP (T8.setTop (mkF m 115 #[.val (.long q1), .second, .val (.long q2), .second, .val (.long q3), .second, .val (.long q4), .second, .val (.int p5), .val (.long g1), .second, .val (.long o1), .second, .val (.long g2), .second, .val (.long o2), .second, .val (.ref b3), .val (.ref b5), .val (.long t1), .second, .val (.long t2), .second, .val (.long (-4611686018427387904 : Int64)), .second, .val (.long d1), .second, .val (.long d2), .second, .unset, .unset, .unset, .unset, .unset] [(.long d1)]))
      refine Go.st (fun t k => XS.bipush X8.here hx rfl (hb hby at_115) k) ?_
      show Go p.tables e below PP (T8.setTop (mkF m 117 #[.val (.long q1), .second, .val (.long q2), .second, .val (.long q3), .second, .val (.long q4), .second, .val (.int p5), .val (.long g1), .second, .val (.long o1), .second, .val (.long g2), .second, .val (.long o2), .second, .val (.ref b3), .val (.ref b5), .val (.long t1), .second, .val (.long t2), .second, .val (.long (-4611686018427387904 : Int64)), .second, .val (.long d1), .second, .val (.long d2), .second, .unset, .unset, .unset, .unset, .unset] [(.int (32 : Int32)), (.long d1)]))
      refine Go.st (fun t k => XS.lushr X8.here hx rfl (hb hby at_117) rfl k) ?_
      show Go p.tables e below PP (T8.setTop (mkF m 118 #[.val (.long q1), .second, .val (.long q2), .second, .val (.long q3), .second, .val (.long q4), .second, .val (.int p5), .val (.long g1), .second, .val (.long o1), .second, .val (.long g2), .second, .val (.long o2), .second, .val (.ref b3), .val (.ref b5), .val (.long t1), .second, .val (.long t2), .second, .val (.long (-4611686018427387904 : Int64)), .second, .val (.long d1), .second, .val (.long d2), .second, .unset, .unset, .unset, .unset, .unset] [(.long ((d1.toUInt64 >>> ((32 : Int32) &&& 0x3f).toInt64.toUInt64).toInt64))]))
      refine Go.st (fun t k => XS.lload X8.here hx rfl (hb hby at_118) rfl k) ?_
      show Go p.tables e below PP (T8.setTop (mkF m 120 #[.val (.long q1), .second, .val (.long q2), .second, .val (.long q3), .second, .val (.long q4), .second, .val (.int p5), .val (.long g1), .second, .val (.long o1), .second, .val (.long g2), .second, .val (.long o2), .second, .val (.ref b3), .val (.ref b5), .val (.long t1), .second, .val (.long t2), .second, .val (.long (-4611686018427387904 : Int64)), .second, .val (.long d1), .second, .val (.long d2), .second, .unset, .unset, .unset, .unset, .unset] [(.long g1), (.long ((d1.toUInt64 >>> ((32 : Int32) &&& 0x3f).toInt64.toUInt64).toInt64))]))
      refine Go.st (fun t k => XS.lcmp X8.here hx rfl (hb hby at_120) rfl k) ?_
      show Go p.tables e below PP (T8.setTop (mkF m 121 #[.val (.long q1), .second, .val (.long q2), .second, .val (.long q3), .second, .val (.long q4), .second, .val (.int p5), .val (.long g1), .second, .val (.long o1), .second, .val (.long g2), .second, .val (.long o2), .second, .val (.ref b3), .val (.ref b5), .val (.long t1), .second, .val (.long t2), .second, .val (.long (-4611686018427387904 : Int64)), .second, .val (.long d1), .second, .val (.long d2), .second, .unset, .unset, .unset, .unset, .unset] [(.int (XT.cmpL ((d1.toUInt64 >>> ((32 : Int32) &&& 0x3f).toInt64.toUInt64).toInt64) g1))]))
      refine Go.st (fun t k => XS.ifNo X8.here hx rfl (hb hby at_121) rfl (XT.ll_ne_f (own_rt _ _ _ _ hg1 ho1 ht1 hd1).1) k) ?_
      show Go p.tables e below PP (T8.setTop (mkF m 124 #[.val (.long q1), .second, .val (.long q2), .second, .val (.long q3), .second, .val (.long q4), .second, .val (.int p5), .val (.long g1), .second, .val (.long o1), .second, .val (.long g2), .second, .val (.long o2), .second, .val (.ref b3), .val (.ref b5), .val (.long t1), .second, .val (.long t2), .second, .val (.long (-4611686018427387904 : Int64)), .second, .val (.long d1), .second, .val (.long d2), .second, .unset, .unset, .unset, .unset, .unset] []))
      refine Go.st (fun t k => XS.lload X8.here hx rfl (hb hby at_124) rfl k) ?_
      show Go p.tables e below PP (T8.setTop (mkF m 126 #[.val (.long q1), .second, .val (.long q2), .second, .val (.long q3), .second, .val (.long q4), .second, .val (.int p5), .val (.long g1), .second, .val (.long o1), .second, .val (.long g2), .second, .val (.long o2), .second, .val (.ref b3), .val (.ref b5), .val (.long t1), .second, .val (.long t2), .second, .val (.long (-4611686018427387904 : Int64)), .second, .val (.long d1), .second, .val (.long d2), .second, .unset, .unset, .unset, .unset, .unset] [(.long d1)]))
      refine Go.st (fun t k => X8.ldc2J hx hown (mvT hZ (hw _ (List.mem_of_getElem? (i := 1) rfl))) (g := (mkF m 126 #[.val (.long q1), .second, .val (.long q2), .second, .val (.long q3), .second, .val (.long q4), .second, .val (.int p5), .val (.long g1), .second, .val (.long o1), .second, .val (.long g2), .second, .val (.long o2), .second, .val (.ref b3), .val (.ref b5), .val (.long t1), .second, .val (.long t2), .second, .val (.long (-4611686018427387904 : Int64)), .second, .val (.long d1), .second, .val (.long d2), .second, .unset, .unset, .unset, .unset, .unset] [(.long d1)])) rfl (hb hby at_126) k) ?_
      show Go p.tables e below PP (T8.setTop (mkF m 129 #[.val (.long q1), .second, .val (.long q2), .second, .val (.long q3), .second, .val (.long q4), .second, .val (.int p5), .val (.long g1), .second, .val (.long o1), .second, .val (.long g2), .second, .val (.long o2), .second, .val (.ref b3), .val (.ref b5), .val (.long t1), .second, .val (.long t2), .second, .val (.long (-4611686018427387904 : Int64)), .second, .val (.long d1), .second, .val (.long d2), .second, .unset, .unset, .unset, .unset, .unset] [(.long (4294967295 : Int64)), (.long d1)]))
      refine Go.st (fun t k => XS.land X8.here hx rfl (hb hby at_129) rfl k) ?_
      show Go p.tables e below PP (T8.setTop (mkF m 130 #[.val (.long q1), .second, .val (.long q2), .second, .val (.long q3), .second, .val (.long q4), .second, .val (.int p5), .val (.long g1), .second, .val (.long o1), .second, .val (.long g2), .second, .val (.long o2), .second, .val (.ref b3), .val (.ref b5), .val (.long t1), .second, .val (.long t2), .second, .val (.long (-4611686018427387904 : Int64)), .second, .val (.long d1), .second, .val (.long d2), .second, .unset, .unset, .unset, .unset, .unset] [(.long (d1 &&& (4294967295 : Int64)))]))
      refine Go.st (fun t k => XS.lload X8.here hx rfl (hb hby at_130) rfl k) ?_
      show Go p.tables e below PP (T8.setTop (mkF m 132 #[.val (.long q1), .second, .val (.long q2), .second, .val (.long q3), .second, .val (.long q4), .second, .val (.int p5), .val (.long g1), .second, .val (.long o1), .second, .val (.long g2), .second, .val (.long o2), .second, .val (.ref b3), .val (.ref b5), .val (.long t1), .second, .val (.long t2), .second, .val (.long (-4611686018427387904 : Int64)), .second, .val (.long d1), .second, .val (.long d2), .second, .unset, .unset, .unset, .unset, .unset] [(.long o1), (.long (d1 &&& (4294967295 : Int64)))]))
      refine Go.st (fun t k => XS.lcmp X8.here hx rfl (hb hby at_132) rfl k) ?_
      show Go p.tables e below PP (T8.setTop (mkF m 133 #[.val (.long q1), .second, .val (.long q2), .second, .val (.long q3), .second, .val (.long q4), .second, .val (.int p5), .val (.long g1), .second, .val (.long o1), .second, .val (.long g2), .second, .val (.long o2), .second, .val (.ref b3), .val (.ref b5), .val (.long t1), .second, .val (.long t2), .second, .val (.long (-4611686018427387904 : Int64)), .second, .val (.long d1), .second, .val (.long d2), .second, .unset, .unset, .unset, .unset, .unset] [(.int (XT.cmpL (d1 &&& (4294967295 : Int64)) o1))]))
      refine Go.st (fun t k => XS.ifNo X8.here hx rfl (hb hby at_133) rfl (XT.ll_ne_f (own_rt _ _ _ _ hg1 ho1 ht1 hd1).2.1) k) ?_
      show Go p.tables e below PP (T8.setTop (mkF m 136 #[.val (.long q1), .second, .val (.long q2), .second, .val (.long q3), .second, .val (.long q4), .second, .val (.int p5), .val (.long g1), .second, .val (.long o1), .second, .val (.long g2), .second, .val (.long o2), .second, .val (.ref b3), .val (.ref b5), .val (.long t1), .second, .val (.long t2), .second, .val (.long (-4611686018427387904 : Int64)), .second, .val (.long d1), .second, .val (.long d2), .second, .unset, .unset, .unset, .unset, .unset] []))
      refine Go.st (fun t k => XS.iconst X8.here hx rfl (hb hby at_136) k) ?_
      show Go p.tables e below PP (T8.setTop (mkF m 137 #[.val (.long q1), .second, .val (.long q2), .second, .val (.long q3), .second, .val (.long q4), .second, .val (.int p5), .val (.long g1), .second, .val (.long o1), .second, .val (.long g2), .second, .val (.long o2), .second, .val (.ref b3), .val (.ref b5), .val (.long t1), .second, .val (.long t2), .second, .val (.long (-4611686018427387904 : Int64)), .second, .val (.long d1), .second, .val (.long d2), .second, .unset, .unset, .unset, .unset, .unset] [(.int (1 : Int32))]))
      refine Go.st (fun t k => XS.goto X8.here hx rfl (pc0 := 137) (pc' := 141) rfl (hb hby at_137) (by decide) (by decide) k) ?_
      show Go p.tables e below PP (T8.setTop (mkF m 141 #[.val (.long q1), .second, .val (.long q2), .second, .val (.long q3), .second, .val (.long q4), .second, .val (.int p5), .val (.long g1), .second, .val (.long o1), .second, .val (.long g2), .second, .val (.long o2), .second, .val (.ref b3), .val (.ref b5), .val (.long t1), .second, .val (.long t2), .second, .val (.long (-4611686018427387904 : Int64)), .second, .val (.long d1), .second, .val (.long d2), .second, .unset, .unset, .unset, .unset, .unset] [(.int (1 : Int32))]))
      refine Go.st (fun t k => XS.istore X8.here hx rfl (hb hby at_141) rfl (l' := #[.val (.long q1), .second, .val (.long q2), .second, .val (.long q3), .second, .val (.long q4), .second, .val (.int p5), .val (.long g1), .second, .val (.long o1), .second, .val (.long g2), .second, .val (.long o2), .second, .val (.ref b3), .val (.ref b5), .val (.long t1), .second, .val (.long t2), .second, .val (.long (-4611686018427387904 : Int64)), .second, .val (.long d1), .second, .val (.long d2), .second, .val (.int (1 : Int32)), .unset, .unset, .unset, .unset]) rfl k) ?_
      show Go p.tables e below PP (T8.setTop (mkF m 143 #[.val (.long q1), .second, .val (.long q2), .second, .val (.long q3), .second, .val (.long q4), .second, .val (.int p5), .val (.long g1), .second, .val (.long o1), .second, .val (.long g2), .second, .val (.long o2), .second, .val (.ref b3), .val (.ref b5), .val (.long t1), .second, .val (.long t2), .second, .val (.long (-4611686018427387904 : Int64)), .second, .val (.long d1), .second, .val (.long d2), .second, .val (.int (1 : Int32)), .unset, .unset, .unset, .unset] []))
      refine Go.st (fun t k => XS.lload X8.here hx rfl (hb hby at_143) rfl k) ?_
      show Go p.tables e below PP (T8.setTop (mkF m 145 #[.val (.long q1), .second, .val (.long q2), .second, .val (.long q3), .second, .val (.long q4), .second, .val (.int p5), .val (.long g1), .second, .val (.long o1), .second, .val (.long g2), .second, .val (.long o2), .second, .val (.ref b3), .val (.ref b5), .val (.long t1), .second, .val (.long t2), .second, .val (.long (-4611686018427387904 : Int64)), .second, .val (.long d1), .second, .val (.long d2), .second, .val (.int (1 : Int32)), .unset, .unset, .unset, .unset] [(.long d2)]))
      refine Go.st (fun t k => XS.bipush X8.here hx rfl (hb hby at_145) k) ?_
      show Go p.tables e below PP (T8.setTop (mkF m 147 #[.val (.long q1), .second, .val (.long q2), .second, .val (.long q3), .second, .val (.long q4), .second, .val (.int p5), .val (.long g1), .second, .val (.long o1), .second, .val (.long g2), .second, .val (.long o2), .second, .val (.ref b3), .val (.ref b5), .val (.long t1), .second, .val (.long t2), .second, .val (.long (-4611686018427387904 : Int64)), .second, .val (.long d1), .second, .val (.long d2), .second, .val (.int (1 : Int32)), .unset, .unset, .unset, .unset] [(.int (32 : Int32)), (.long d2)]))
      refine Go.st (fun t k => XS.lushr X8.here hx rfl (hb hby at_147) rfl k) ?_
      show Go p.tables e below PP (T8.setTop (mkF m 148 #[.val (.long q1), .second, .val (.long q2), .second, .val (.long q3), .second, .val (.long q4), .second, .val (.int p5), .val (.long g1), .second, .val (.long o1), .second, .val (.long g2), .second, .val (.long o2), .second, .val (.ref b3), .val (.ref b5), .val (.long t1), .second, .val (.long t2), .second, .val (.long (-4611686018427387904 : Int64)), .second, .val (.long d1), .second, .val (.long d2), .second, .val (.int (1 : Int32)), .unset, .unset, .unset, .unset] [(.long ((d2.toUInt64 >>> ((32 : Int32) &&& 0x3f).toInt64.toUInt64).toInt64))]))
      refine Go.st (fun t k => XS.lload X8.here hx rfl (hb hby at_148) rfl k) ?_
      show Go p.tables e below PP (T8.setTop (mkF m 150 #[.val (.long q1), .second, .val (.long q2), .second, .val (.long q3), .second, .val (.long q4), .second, .val (.int p5), .val (.long g1), .second, .val (.long o1), .second, .val (.long g2), .second, .val (.long o2), .second, .val (.ref b3), .val (.ref b5), .val (.long t1), .second, .val (.long t2), .second, .val (.long (-4611686018427387904 : Int64)), .second, .val (.long d1), .second, .val (.long d2), .second, .val (.int (1 : Int32)), .unset, .unset, .unset, .unset] [(.long g2), (.long ((d2.toUInt64 >>> ((32 : Int32) &&& 0x3f).toInt64.toUInt64).toInt64))]))
      refine Go.st (fun t k => XS.lcmp X8.here hx rfl (hb hby at_150) rfl k) ?_
      show Go p.tables e below PP (T8.setTop (mkF m 151 #[.val (.long q1), .second, .val (.long q2), .second, .val (.long q3), .second, .val (.long q4), .second, .val (.int p5), .val (.long g1), .second, .val (.long o1), .second, .val (.long g2), .second, .val (.long o2), .second, .val (.ref b3), .val (.ref b5), .val (.long t1), .second, .val (.long t2), .second, .val (.long (-4611686018427387904 : Int64)), .second, .val (.long d1), .second, .val (.long d2), .second, .val (.int (1 : Int32)), .unset, .unset, .unset, .unset] [(.int (XT.cmpL ((d2.toUInt64 >>> ((32 : Int32) &&& 0x3f).toInt64.toUInt64).toInt64) g2))]))
      refine Go.st (fun t k => XS.ifNo X8.here hx rfl (hb hby at_151) rfl (XT.ll_ne_f (own_rt _ _ _ _ hJ32 hJ52 ht2 hd2).1) k) ?_
      show Go p.tables e below PP (T8.setTop (mkF m 154 #[.val (.long q1), .second, .val (.long q2), .second, .val (.long q3), .second, .val (.long q4), .second, .val (.int p5), .val (.long g1), .second, .val (.long o1), .second, .val (.long g2), .second, .val (.long o2), .second, .val (.ref b3), .val (.ref b5), .val (.long t1), .second, .val (.long t2), .second, .val (.long (-4611686018427387904 : Int64)), .second, .val (.long d1), .second, .val (.long d2), .second, .val (.int (1 : Int32)), .unset, .unset, .unset, .unset] []))
      refine Go.st (fun t k => XS.lload X8.here hx rfl (hb hby at_154) rfl k) ?_
      show Go p.tables e below PP (T8.setTop (mkF m 156 #[.val (.long q1), .second, .val (.long q2), .second, .val (.long q3), .second, .val (.long q4), .second, .val (.int p5), .val (.long g1), .second, .val (.long o1), .second, .val (.long g2), .second, .val (.long o2), .second, .val (.ref b3), .val (.ref b5), .val (.long t1), .second, .val (.long t2), .second, .val (.long (-4611686018427387904 : Int64)), .second, .val (.long d1), .second, .val (.long d2), .second, .val (.int (1 : Int32)), .unset, .unset, .unset, .unset] [(.long d2)]))
      refine Go.st (fun t k => X8.ldc2J hx hown (mvT hZ (hw _ (List.mem_of_getElem? (i := 1) rfl))) (g := (mkF m 156 #[.val (.long q1), .second, .val (.long q2), .second, .val (.long q3), .second, .val (.long q4), .second, .val (.int p5), .val (.long g1), .second, .val (.long o1), .second, .val (.long g2), .second, .val (.long o2), .second, .val (.ref b3), .val (.ref b5), .val (.long t1), .second, .val (.long t2), .second, .val (.long (-4611686018427387904 : Int64)), .second, .val (.long d1), .second, .val (.long d2), .second, .val (.int (1 : Int32)), .unset, .unset, .unset, .unset] [(.long d2)])) rfl (hb hby at_156) k) ?_
      show Go p.tables e below PP (T8.setTop (mkF m 159 #[.val (.long q1), .second, .val (.long q2), .second, .val (.long q3), .second, .val (.long q4), .second, .val (.int p5), .val (.long g1), .second, .val (.long o1), .second, .val (.long g2), .second, .val (.long o2), .second, .val (.ref b3), .val (.ref b5), .val (.long t1), .second, .val (.long t2), .second, .val (.long (-4611686018427387904 : Int64)), .second, .val (.long d1), .second, .val (.long d2), .second, .val (.int (1 : Int32)), .unset, .unset, .unset, .unset] [(.long (4294967295 : Int64)), (.long d2)]))
      refine Go.st (fun t k => XS.land X8.here hx rfl (hb hby at_159) rfl k) ?_
      show Go p.tables e below PP (T8.setTop (mkF m 160 #[.val (.long q1), .second, .val (.long q2), .second, .val (.long q3), .second, .val (.long q4), .second, .val (.int p5), .val (.long g1), .second, .val (.long o1), .second, .val (.long g2), .second, .val (.long o2), .second, .val (.ref b3), .val (.ref b5), .val (.long t1), .second, .val (.long t2), .second, .val (.long (-4611686018427387904 : Int64)), .second, .val (.long d1), .second, .val (.long d2), .second, .val (.int (1 : Int32)), .unset, .unset, .unset, .unset] [(.long (d2 &&& (4294967295 : Int64)))]))
      refine Go.st (fun t k => XS.lload X8.here hx rfl (hb hby at_160) rfl k) ?_
      show Go p.tables e below PP (T8.setTop (mkF m 162 #[.val (.long q1), .second, .val (.long q2), .second, .val (.long q3), .second, .val (.long q4), .second, .val (.int p5), .val (.long g1), .second, .val (.long o1), .second, .val (.long g2), .second, .val (.long o2), .second, .val (.ref b3), .val (.ref b5), .val (.long t1), .second, .val (.long t2), .second, .val (.long (-4611686018427387904 : Int64)), .second, .val (.long d1), .second, .val (.long d2), .second, .val (.int (1 : Int32)), .unset, .unset, .unset, .unset] [(.long o2), (.long (d2 &&& (4294967295 : Int64)))]))
      refine Go.st (fun t k => XS.lcmp X8.here hx rfl (hb hby at_162) rfl k) ?_
      show Go p.tables e below PP (T8.setTop (mkF m 163 #[.val (.long q1), .second, .val (.long q2), .second, .val (.long q3), .second, .val (.long q4), .second, .val (.int p5), .val (.long g1), .second, .val (.long o1), .second, .val (.long g2), .second, .val (.long o2), .second, .val (.ref b3), .val (.ref b5), .val (.long t1), .second, .val (.long t2), .second, .val (.long (-4611686018427387904 : Int64)), .second, .val (.long d1), .second, .val (.long d2), .second, .val (.int (1 : Int32)), .unset, .unset, .unset, .unset] [(.int (XT.cmpL (d2 &&& (4294967295 : Int64)) o2))]))
      refine Go.st (fun t k => XS.ifNo X8.here hx rfl (hb hby at_163) rfl (XT.ll_ne_f (own_rt _ _ _ _ hJ32 hJ52 ht2 hd2).2.1) k) ?_
      show Go p.tables e below PP (T8.setTop (mkF m 166 #[.val (.long q1), .second, .val (.long q2), .second, .val (.long q3), .second, .val (.long q4), .second, .val (.int p5), .val (.long g1), .second, .val (.long o1), .second, .val (.long g2), .second, .val (.long o2), .second, .val (.ref b3), .val (.ref b5), .val (.long t1), .second, .val (.long t2), .second, .val (.long (-4611686018427387904 : Int64)), .second, .val (.long d1), .second, .val (.long d2), .second, .val (.int (1 : Int32)), .unset, .unset, .unset, .unset] []))
      refine Go.st (fun t k => XS.iconst X8.here hx rfl (hb hby at_166) k) ?_
      show Go p.tables e below PP (T8.setTop (mkF m 167 #[.val (.long q1), .second, .val (.long q2), .second, .val (.long q3), .second, .val (.long q4), .second, .val (.int p5), .val (.long g1), .second, .val (.long o1), .second, .val (.long g2), .second, .val (.long o2), .second, .val (.ref b3), .val (.ref b5), .val (.long t1), .second, .val (.long t2), .second, .val (.long (-4611686018427387904 : Int64)), .second, .val (.long d1), .second, .val (.long d2), .second, .val (.int (1 : Int32)), .unset, .unset, .unset, .unset] [(.int (1 : Int32))]))
      refine Go.st (fun t k => XS.goto X8.here hx rfl (pc0 := 167) (pc' := 171) rfl (hb hby at_167) (by decide) (by decide) k) ?_
      show Go p.tables e below PP (T8.setTop (mkF m 171 #[.val (.long q1), .second, .val (.long q2), .second, .val (.long q3), .second, .val (.long q4), .second, .val (.int p5), .val (.long g1), .second, .val (.long o1), .second, .val (.long g2), .second, .val (.long o2), .second, .val (.ref b3), .val (.ref b5), .val (.long t1), .second, .val (.long t2), .second, .val (.long (-4611686018427387904 : Int64)), .second, .val (.long d1), .second, .val (.long d2), .second, .val (.int (1 : Int32)), .unset, .unset, .unset, .unset] [(.int (1 : Int32))]))
      refine Go.st (fun t k => XS.istore X8.here hx rfl (hb hby at_171) rfl (l' := #[.val (.long q1), .second, .val (.long q2), .second, .val (.long q3), .second, .val (.long q4), .second, .val (.int p5), .val (.long g1), .second, .val (.long o1), .second, .val (.long g2), .second, .val (.long o2), .second, .val (.ref b3), .val (.ref b5), .val (.long t1), .second, .val (.long t2), .second, .val (.long (-4611686018427387904 : Int64)), .second, .val (.long d1), .second, .val (.long d2), .second, .val (.int (1 : Int32)), .val (.int (1 : Int32)), .unset, .unset, .unset]) rfl k) ?_
      show Go p.tables e below PP (T8.setTop (mkF m 173 #[.val (.long q1), .second, .val (.long q2), .second, .val (.long q3), .second, .val (.long q4), .second, .val (.int p5), .val (.long g1), .second, .val (.long o1), .second, .val (.long g2), .second, .val (.long o2), .second, .val (.ref b3), .val (.ref b5), .val (.long t1), .second, .val (.long t2), .second, .val (.long (-4611686018427387904 : Int64)), .second, .val (.long d1), .second, .val (.long d2), .second, .val (.int (1 : Int32)), .val (.int (1 : Int32)), .unset, .unset, .unset] []))
      refine Go.st (fun t k => XS.lload X8.here hx rfl (hb hby at_173) rfl k) ?_
      show Go p.tables e below PP (T8.setTop (mkF m 175 #[.val (.long q1), .second, .val (.long q2), .second, .val (.long q3), .second, .val (.long q4), .second, .val (.int p5), .val (.long g1), .second, .val (.long o1), .second, .val (.long g2), .second, .val (.long o2), .second, .val (.ref b3), .val (.ref b5), .val (.long t1), .second, .val (.long t2), .second, .val (.long (-4611686018427387904 : Int64)), .second, .val (.long d1), .second, .val (.long d2), .second, .val (.int (1 : Int32)), .val (.int (1 : Int32)), .unset, .unset, .unset] [(.long t1)]))
      refine Go.st (fun t k => XS.lload X8.here hx rfl (hb hby at_175) rfl k) ?_
      show Go p.tables e below PP (T8.setTop (mkF m 177 #[.val (.long q1), .second, .val (.long q2), .second, .val (.long q3), .second, .val (.long q4), .second, .val (.int p5), .val (.long g1), .second, .val (.long o1), .second, .val (.long g2), .second, .val (.long o2), .second, .val (.ref b3), .val (.ref b5), .val (.long t1), .second, .val (.long t2), .second, .val (.long (-4611686018427387904 : Int64)), .second, .val (.long d1), .second, .val (.long d2), .second, .val (.int (1 : Int32)), .val (.int (1 : Int32)), .unset, .unset, .unset] [(.long (-4611686018427387904 : Int64)), (.long t1)]))
      refine Go.st (fun t k => XS.lcmp X8.here hx rfl (hb hby at_177) rfl k) ?_
      show Go p.tables e below PP (T8.setTop (mkF m 178 #[.val (.long q1), .second, .val (.long q2), .second, .val (.long q3), .second, .val (.long q4), .second, .val (.int p5), .val (.long g1), .second, .val (.long o1), .second, .val (.long g2), .second, .val (.long o2), .second, .val (.ref b3), .val (.ref b5), .val (.long t1), .second, .val (.long t2), .second, .val (.long (-4611686018427387904 : Int64)), .second, .val (.long d1), .second, .val (.long d2), .second, .val (.int (1 : Int32)), .val (.int (1 : Int32)), .unset, .unset, .unset] [(.int (XT.cmpL t1 (-4611686018427387904 : Int64)))]))
      refine Go.st (fun t k => XS.ifNo X8.here hx rfl (hb hby at_178) rfl (XT.ll_lt_f (own_rt _ _ _ _ hg1 ho1 ht1 hd1).2.2.1) k) ?_
      show Go p.tables e below PP (T8.setTop (mkF m 181 #[.val (.long q1), .second, .val (.long q2), .second, .val (.long q3), .second, .val (.long q4), .second, .val (.int p5), .val (.long g1), .second, .val (.long o1), .second, .val (.long g2), .second, .val (.long o2), .second, .val (.ref b3), .val (.ref b5), .val (.long t1), .second, .val (.long t2), .second, .val (.long (-4611686018427387904 : Int64)), .second, .val (.long d1), .second, .val (.long d2), .second, .val (.int (1 : Int32)), .val (.int (1 : Int32)), .unset, .unset, .unset] []))
      refine Go.st (fun t k => XS.lload X8.here hx rfl (hb hby at_181) rfl k) ?_
      show Go p.tables e below PP (T8.setTop (mkF m 183 #[.val (.long q1), .second, .val (.long q2), .second, .val (.long q3), .second, .val (.long q4), .second, .val (.int p5), .val (.long g1), .second, .val (.long o1), .second, .val (.long g2), .second, .val (.long o2), .second, .val (.ref b3), .val (.ref b5), .val (.long t1), .second, .val (.long t2), .second, .val (.long (-4611686018427387904 : Int64)), .second, .val (.long d1), .second, .val (.long d2), .second, .val (.int (1 : Int32)), .val (.int (1 : Int32)), .unset, .unset, .unset] [(.long t1)]))
      refine Go.st (fun t k => XS.lconst X8.here hx rfl (hb hby at_183) k) ?_
      show Go p.tables e below PP (T8.setTop (mkF m 184 #[.val (.long q1), .second, .val (.long q2), .second, .val (.long q3), .second, .val (.long q4), .second, .val (.int p5), .val (.long g1), .second, .val (.long o1), .second, .val (.long g2), .second, .val (.long o2), .second, .val (.ref b3), .val (.ref b5), .val (.long t1), .second, .val (.long t2), .second, .val (.long (-4611686018427387904 : Int64)), .second, .val (.long d1), .second, .val (.long d2), .second, .val (.int (1 : Int32)), .val (.int (1 : Int32)), .unset, .unset, .unset] [(.long (0 : Int64)), (.long t1)]))
      refine Go.st (fun t k => XS.lcmp X8.here hx rfl (hb hby at_184) rfl k) ?_
      show Go p.tables e below PP (T8.setTop (mkF m 185 #[.val (.long q1), .second, .val (.long q2), .second, .val (.long q3), .second, .val (.long q4), .second, .val (.int p5), .val (.long g1), .second, .val (.long o1), .second, .val (.long g2), .second, .val (.long o2), .second, .val (.ref b3), .val (.ref b5), .val (.long t1), .second, .val (.long t2), .second, .val (.long (-4611686018427387904 : Int64)), .second, .val (.long d1), .second, .val (.long d2), .second, .val (.int (1 : Int32)), .val (.int (1 : Int32)), .unset, .unset, .unset] [(.int (XT.cmpL t1 (0 : Int64)))]))
      refine Go.st (fun t k => XS.ifNo X8.here hx rfl (hb hby at_185) rfl (XT.ll_ge_f (own_rt _ _ _ _ hg1 ho1 ht1 hd1).2.2.2) k) ?_
      show Go p.tables e below PP (T8.setTop (mkF m 188 #[.val (.long q1), .second, .val (.long q2), .second, .val (.long q3), .second, .val (.long q4), .second, .val (.int p5), .val (.long g1), .second, .val (.long o1), .second, .val (.long g2), .second, .val (.long o2), .second, .val (.ref b3), .val (.ref b5), .val (.long t1), .second, .val (.long t2), .second, .val (.long (-4611686018427387904 : Int64)), .second, .val (.long d1), .second, .val (.long d2), .second, .val (.int (1 : Int32)), .val (.int (1 : Int32)), .unset, .unset, .unset] []))
      refine Go.st (fun t k => XS.lload X8.here hx rfl (hb hby at_188) rfl k) ?_
      show Go p.tables e below PP (T8.setTop (mkF m 190 #[.val (.long q1), .second, .val (.long q2), .second, .val (.long q3), .second, .val (.long q4), .second, .val (.int p5), .val (.long g1), .second, .val (.long o1), .second, .val (.long g2), .second, .val (.long o2), .second, .val (.ref b3), .val (.ref b5), .val (.long t1), .second, .val (.long t2), .second, .val (.long (-4611686018427387904 : Int64)), .second, .val (.long d1), .second, .val (.long d2), .second, .val (.int (1 : Int32)), .val (.int (1 : Int32)), .unset, .unset, .unset] [(.long t2)]))
      refine Go.st (fun t k => XS.lload X8.here hx rfl (hb hby at_190) rfl k) ?_
      show Go p.tables e below PP (T8.setTop (mkF m 192 #[.val (.long q1), .second, .val (.long q2), .second, .val (.long q3), .second, .val (.long q4), .second, .val (.int p5), .val (.long g1), .second, .val (.long o1), .second, .val (.long g2), .second, .val (.long o2), .second, .val (.ref b3), .val (.ref b5), .val (.long t1), .second, .val (.long t2), .second, .val (.long (-4611686018427387904 : Int64)), .second, .val (.long d1), .second, .val (.long d2), .second, .val (.int (1 : Int32)), .val (.int (1 : Int32)), .unset, .unset, .unset] [(.long (-4611686018427387904 : Int64)), (.long t2)]))
      refine Go.st (fun t k => XS.lcmp X8.here hx rfl (hb hby at_192) rfl k) ?_
      show Go p.tables e below PP (T8.setTop (mkF m 193 #[.val (.long q1), .second, .val (.long q2), .second, .val (.long q3), .second, .val (.long q4), .second, .val (.int p5), .val (.long g1), .second, .val (.long o1), .second, .val (.long g2), .second, .val (.long o2), .second, .val (.ref b3), .val (.ref b5), .val (.long t1), .second, .val (.long t2), .second, .val (.long (-4611686018427387904 : Int64)), .second, .val (.long d1), .second, .val (.long d2), .second, .val (.int (1 : Int32)), .val (.int (1 : Int32)), .unset, .unset, .unset] [(.int (XT.cmpL t2 (-4611686018427387904 : Int64)))]))
      refine Go.st (fun t k => XS.ifNo X8.here hx rfl (hb hby at_193) rfl (XT.ll_lt_f (own_rt _ _ _ _ hJ32 hJ52 ht2 hd2).2.2.1) k) ?_
      show Go p.tables e below PP (T8.setTop (mkF m 196 #[.val (.long q1), .second, .val (.long q2), .second, .val (.long q3), .second, .val (.long q4), .second, .val (.int p5), .val (.long g1), .second, .val (.long o1), .second, .val (.long g2), .second, .val (.long o2), .second, .val (.ref b3), .val (.ref b5), .val (.long t1), .second, .val (.long t2), .second, .val (.long (-4611686018427387904 : Int64)), .second, .val (.long d1), .second, .val (.long d2), .second, .val (.int (1 : Int32)), .val (.int (1 : Int32)), .unset, .unset, .unset] []))
      refine Go.st (fun t k => XS.lload X8.here hx rfl (hb hby at_196) rfl k) ?_
      show Go p.tables e below PP (T8.setTop (mkF m 198 #[.val (.long q1), .second, .val (.long q2), .second, .val (.long q3), .second, .val (.long q4), .second, .val (.int p5), .val (.long g1), .second, .val (.long o1), .second, .val (.long g2), .second, .val (.long o2), .second, .val (.ref b3), .val (.ref b5), .val (.long t1), .second, .val (.long t2), .second, .val (.long (-4611686018427387904 : Int64)), .second, .val (.long d1), .second, .val (.long d2), .second, .val (.int (1 : Int32)), .val (.int (1 : Int32)), .unset, .unset, .unset] [(.long t2)]))
      refine Go.st (fun t k => XS.lconst X8.here hx rfl (hb hby at_198) k) ?_
      show Go p.tables e below PP (T8.setTop (mkF m 199 #[.val (.long q1), .second, .val (.long q2), .second, .val (.long q3), .second, .val (.long q4), .second, .val (.int p5), .val (.long g1), .second, .val (.long o1), .second, .val (.long g2), .second, .val (.long o2), .second, .val (.ref b3), .val (.ref b5), .val (.long t1), .second, .val (.long t2), .second, .val (.long (-4611686018427387904 : Int64)), .second, .val (.long d1), .second, .val (.long d2), .second, .val (.int (1 : Int32)), .val (.int (1 : Int32)), .unset, .unset, .unset] [(.long (0 : Int64)), (.long t2)]))
      refine Go.st (fun t k => XS.lcmp X8.here hx rfl (hb hby at_199) rfl k) ?_
      show Go p.tables e below PP (T8.setTop (mkF m 200 #[.val (.long q1), .second, .val (.long q2), .second, .val (.long q3), .second, .val (.long q4), .second, .val (.int p5), .val (.long g1), .second, .val (.long o1), .second, .val (.long g2), .second, .val (.long o2), .second, .val (.ref b3), .val (.ref b5), .val (.long t1), .second, .val (.long t2), .second, .val (.long (-4611686018427387904 : Int64)), .second, .val (.long d1), .second, .val (.long d2), .second, .val (.int (1 : Int32)), .val (.int (1 : Int32)), .unset, .unset, .unset] [(.int (XT.cmpL t2 (0 : Int64)))]))
      refine Go.st (fun t k => XS.ifNo X8.here hx rfl (hb hby at_200) rfl (XT.ll_ge_f (own_rt _ _ _ _ hJ32 hJ52 ht2 hd2).2.2.2) k) ?_
      show Go p.tables e below PP (T8.setTop (mkF m 203 #[.val (.long q1), .second, .val (.long q2), .second, .val (.long q3), .second, .val (.long q4), .second, .val (.int p5), .val (.long g1), .second, .val (.long o1), .second, .val (.long g2), .second, .val (.long o2), .second, .val (.ref b3), .val (.ref b5), .val (.long t1), .second, .val (.long t2), .second, .val (.long (-4611686018427387904 : Int64)), .second, .val (.long d1), .second, .val (.long d2), .second, .val (.int (1 : Int32)), .val (.int (1 : Int32)), .unset, .unset, .unset] []))
      refine Go.st (fun t k => XS.iconst X8.here hx rfl (hb hby at_203) k) ?_
      show Go p.tables e below PP (T8.setTop (mkF m 204 #[.val (.long q1), .second, .val (.long q2), .second, .val (.long q3), .second, .val (.long q4), .second, .val (.int p5), .val (.long g1), .second, .val (.long o1), .second, .val (.long g2), .second, .val (.long o2), .second, .val (.ref b3), .val (.ref b5), .val (.long t1), .second, .val (.long t2), .second, .val (.long (-4611686018427387904 : Int64)), .second, .val (.long d1), .second, .val (.long d2), .second, .val (.int (1 : Int32)), .val (.int (1 : Int32)), .unset, .unset, .unset] [(.int (1 : Int32))]))
      refine Go.st (fun t k => XS.goto X8.here hx rfl (pc0 := 204) (pc' := 208) rfl (hb hby at_204) (by decide) (by decide) k) ?_
      show Go p.tables e below PP (T8.setTop (mkF m 208 #[.val (.long q1), .second, .val (.long q2), .second, .val (.long q3), .second, .val (.long q4), .second, .val (.int p5), .val (.long g1), .second, .val (.long o1), .second, .val (.long g2), .second, .val (.long o2), .second, .val (.ref b3), .val (.ref b5), .val (.long t1), .second, .val (.long t2), .second, .val (.long (-4611686018427387904 : Int64)), .second, .val (.long d1), .second, .val (.long d2), .second, .val (.int (1 : Int32)), .val (.int (1 : Int32)), .unset, .unset, .unset] [(.int (1 : Int32))]))
      refine Go.st (fun t k => XS.istore X8.here hx rfl (hb hby at_208) rfl (l' := #[.val (.long q1), .second, .val (.long q2), .second, .val (.long q3), .second, .val (.long q4), .second, .val (.int p5), .val (.long g1), .second, .val (.long o1), .second, .val (.long g2), .second, .val (.long o2), .second, .val (.ref b3), .val (.ref b5), .val (.long t1), .second, .val (.long t2), .second, .val (.long (-4611686018427387904 : Int64)), .second, .val (.long d1), .second, .val (.long d2), .second, .val (.int (1 : Int32)), .val (.int (1 : Int32)), .val (.int (1 : Int32)), .unset, .unset]) rfl k) ?_
      show Go p.tables e below PP (T8.setTop (mkF m 210 #[.val (.long q1), .second, .val (.long q2), .second, .val (.long q3), .second, .val (.long q4), .second, .val (.int p5), .val (.long g1), .second, .val (.long o1), .second, .val (.long g2), .second, .val (.long o2), .second, .val (.ref b3), .val (.ref b5), .val (.long t1), .second, .val (.long t2), .second, .val (.long (-4611686018427387904 : Int64)), .second, .val (.long d1), .second, .val (.long d2), .second, .val (.int (1 : Int32)), .val (.int (1 : Int32)), .val (.int (1 : Int32)), .unset, .unset] []))
      refine Go.st (fun t k => XS.aload X8.here hx rfl (hb hby at_210) rfl rfl k) ?_
      show Go p.tables e below PP (T8.setTop (mkF m 212 #[.val (.long q1), .second, .val (.long q2), .second, .val (.long q3), .second, .val (.long q4), .second, .val (.int p5), .val (.long g1), .second, .val (.long o1), .second, .val (.long g2), .second, .val (.long o2), .second, .val (.ref b3), .val (.ref b5), .val (.long t1), .second, .val (.long t2), .second, .val (.long (-4611686018427387904 : Int64)), .second, .val (.long d1), .second, .val (.long d2), .second, .val (.int (1 : Int32)), .val (.int (1 : Int32)), .val (.int (1 : Int32)), .unset, .unset] [(.ref b3)]))
      refine Go.st (fun t k => XS.aload X8.here hx rfl (hb hby at_212) rfl rfl k) ?_
      show Go p.tables e below PP (T8.setTop (mkF m 214 #[.val (.long q1), .second, .val (.long q2), .second, .val (.long q3), .second, .val (.long q4), .second, .val (.int p5), .val (.long g1), .second, .val (.long o1), .second, .val (.long g2), .second, .val (.long o2), .second, .val (.ref b3), .val (.ref b5), .val (.long t1), .second, .val (.long t2), .second, .val (.long (-4611686018427387904 : Int64)), .second, .val (.long d1), .second, .val (.long d2), .second, .val (.int (1 : Int32)), .val (.int (1 : Int32)), .val (.int (1 : Int32)), .unset, .unset] [(.ref b5), (.ref b3)]))
      obtain ⟨v9, T9, L9, X9, hQ9, st9⟩ := callVi X8 hx hZ (C := "com/example/llave/llave/storage/CommitLog$Position") (y := (⟨"com/example/llave/llave/storage/CommitLog$Position", "compareTo", "(Lcom/example/llave/llave/storage/CommitLog$Position;)I"⟩ : MethodName)) (z := (⟨"com/example/llave/llave/storage/CommitLog$Position", "compareTo", "(Lcom/example/llave/llave/storage/CommitLog$Position;)I"⟩ : MethodName)) (a := b3) (argsL := [(.ref b5)]) (rest := []) hown (hw _ (List.mem_of_getElem? (i := 31) rfl)) (hw _ (List.mem_of_getElem? (i := 32) rfl)) (notFace_of_selects (args := #[]) (mvT hZ (hw _ (List.mem_of_getElem? (i := 34) rfl)))) (hw _ (List.mem_of_getElem? (i := 34) rfl)) (hw _ (List.mem_of_getElem? (i := 33) rfl)) (hw _ (List.mem_of_getElem? (i := 4) rfl)) (hw _ (List.mem_of_getElem? (i := 35) rfl)) (by decide) rfl E_b3 (rm6 l Z a0 hw [] b3 b5 g1 o1 g2 o2 h6 n0 Zn F_segment_b3 F_offset_b3 F_segment_b5 F_offset_b5) e8 0 (by decide) (by decide) (by decide) (by decide) (g := (mkF m 214 #[.val (.long q1), .second, .val (.long q2), .second, .val (.long q3), .second, .val (.long q4), .second, .val (.int p5), .val (.long g1), .second, .val (.long o1), .second, .val (.long g2), .second, .val (.long o2), .second, .val (.ref b3), .val (.ref b5), .val (.long t1), .second, .val (.long t2), .second, .val (.long (-4611686018427387904 : Int64)), .second, .val (.long d1), .second, .val (.long d2), .second, .val (.int (1 : Int32)), .val (.int (1 : Int32)), .val (.int (1 : Int32)), .unset, .unset] [(.ref b5), (.ref b3)])) rfl (by rw [hml]; rfl) (lenOf pd_4 rfl) rfl (by show 2 * 0 + _ ≤ _; exact Nat.le_of_eq rfl) (hb hby at_214)
      obtain ⟨rfl, rfl, e9⟩ := hQ9
      rw [List.append_nil] at X9
      refine Go.st st9 ?_
      generalize hcc : (if cmpJ g1 g2 = (0 : Int32) then cmpJ o1 o2 else cmpJ g1 g2) = cc
      show Go p.tables e below PP (T9.setTop (mkF m 217 #[.val (.long q1), .second, .val (.long q2), .second, .val (.long q3), .second, .val (.long q4), .second, .val (.int p5), .val (.long g1), .second, .val (.long o1), .second, .val (.long g2), .second, .val (.long o2), .second, .val (.ref b3), .val (.ref b5), .val (.long t1), .second, .val (.long t2), .second, .val (.long (-4611686018427387904 : Int64)), .second, .val (.long d1), .second, .val (.long d2), .second, .val (.int (1 : Int32)), .val (.int (1 : Int32)), .val (.int (1 : Int32)), .unset, .unset] [(.int cc)]))
      refine Go.st (fun t k => XS.istore X9.here hx rfl (hb hby at_217) rfl (l' := #[.val (.long q1), .second, .val (.long q2), .second, .val (.long q3), .second, .val (.long q4), .second, .val (.int p5), .val (.long g1), .second, .val (.long o1), .second, .val (.long g2), .second, .val (.long o2), .second, .val (.ref b3), .val (.ref b5), .val (.long t1), .second, .val (.long t2), .second, .val (.long (-4611686018427387904 : Int64)), .second, .val (.long d1), .second, .val (.long d2), .second, .val (.int (1 : Int32)), .val (.int (1 : Int32)), .val (.int (1 : Int32)), .val (.int cc), .unset]) rfl k) ?_
      show Go p.tables e below PP (T9.setTop (mkF m 219 #[.val (.long q1), .second, .val (.long q2), .second, .val (.long q3), .second, .val (.long q4), .second, .val (.int p5), .val (.long g1), .second, .val (.long o1), .second, .val (.long g2), .second, .val (.long o2), .second, .val (.ref b3), .val (.ref b5), .val (.long t1), .second, .val (.long t2), .second, .val (.long (-4611686018427387904 : Int64)), .second, .val (.long d1), .second, .val (.long d2), .second, .val (.int (1 : Int32)), .val (.int (1 : Int32)), .val (.int (1 : Int32)), .val (.int cc), .unset] []))
      refine Go.st (fun t k => XS.iload X9.here hx rfl (hb hby at_219) rfl k) ?_
      show Go p.tables e below PP (T9.setTop (mkF m 221 #[.val (.long q1), .second, .val (.long q2), .second, .val (.long q3), .second, .val (.long q4), .second, .val (.int p5), .val (.long g1), .second, .val (.long o1), .second, .val (.long g2), .second, .val (.long o2), .second, .val (.ref b3), .val (.ref b5), .val (.long t1), .second, .val (.long t2), .second, .val (.long (-4611686018427387904 : Int64)), .second, .val (.long d1), .second, .val (.long d2), .second, .val (.int (1 : Int32)), .val (.int (1 : Int32)), .val (.int (1 : Int32)), .val (.int cc), .unset] [(.int cc)]))
      by_cases hc221 : cc < (0 : Int32)
      · --
        refine Go.st (fun t k => XS.ifNo X9.here hx rfl (hb hby at_221) rfl (XT.i0_ge_f hc221) k) ?_
        show Go p.tables e below PP (T9.setTop (mkF m 224 #[.val (.long q1), .second, .val (.long q2), .second, .val (.long q3), .second, .val (.long q4), .second, .val (.int p5), .val (.long g1), .second, .val (.long o1), .second, .val (.long g2), .second, .val (.long o2), .second, .val (.ref b3), .val (.ref b5), .val (.long t1), .second, .val (.long t2), .second, .val (.long (-4611686018427387904 : Int64)), .second, .val (.long d1), .second, .val (.long d2), .second, .val (.int (1 : Int32)), .val (.int (1 : Int32)), .val (.int (1 : Int32)), .val (.int cc), .unset] []))
        refine Go.st (fun t k => XS.iconst X9.here hx rfl (hb hby at_224) k) ?_
        show Go p.tables e below PP (T9.setTop (mkF m 225 #[.val (.long q1), .second, .val (.long q2), .second, .val (.long q3), .second, .val (.long q4), .second, .val (.int p5), .val (.long g1), .second, .val (.long o1), .second, .val (.long g2), .second, .val (.long o2), .second, .val (.ref b3), .val (.ref b5), .val (.long t1), .second, .val (.long t2), .second, .val (.long (-4611686018427387904 : Int64)), .second, .val (.long d1), .second, .val (.long d2), .second, .val (.int (1 : Int32)), .val (.int (1 : Int32)), .val (.int (1 : Int32)), .val (.int cc), .unset] [(.int (1 : Int32))]))
        refine Go.st (fun t k => XS.goto X9.here hx rfl (pc0 := 225) (pc' := 229) rfl (hb hby at_225) (by decide) (by decide) k) ?_
        show Go p.tables e below PP (T9.setTop (mkF m 229 #[.val (.long q1), .second, .val (.long q2), .second, .val (.long q3), .second, .val (.long q4), .second, .val (.int p5), .val (.long g1), .second, .val (.long o1), .second, .val (.long g2), .second, .val (.long o2), .second, .val (.ref b3), .val (.ref b5), .val (.long t1), .second, .val (.long t2), .second, .val (.long (-4611686018427387904 : Int64)), .second, .val (.long d1), .second, .val (.long d2), .second, .val (.int (1 : Int32)), .val (.int (1 : Int32)), .val (.int (1 : Int32)), .val (.int cc), .unset] [(.int (1 : Int32))]))
        refine Go.st (fun t k => XS.lload X9.here hx rfl (hb hby at_229) rfl k) ?_
        show Go p.tables e below PP (T9.setTop (mkF m 231 #[.val (.long q1), .second, .val (.long q2), .second, .val (.long q3), .second, .val (.long q4), .second, .val (.int p5), .val (.long g1), .second, .val (.long o1), .second, .val (.long g2), .second, .val (.long o2), .second, .val (.ref b3), .val (.ref b5), .val (.long t1), .second, .val (.long t2), .second, .val (.long (-4611686018427387904 : Int64)), .second, .val (.long d1), .second, .val (.long d2), .second, .val (.int (1 : Int32)), .val (.int (1 : Int32)), .val (.int (1 : Int32)), .val (.int cc), .unset] [(.long t1), (.int (1 : Int32))]))
        refine Go.st (fun t k => XS.lload X9.here hx rfl (hb hby at_231) rfl k) ?_
        show Go p.tables e below PP (T9.setTop (mkF m 233 #[.val (.long q1), .second, .val (.long q2), .second, .val (.long q3), .second, .val (.long q4), .second, .val (.int p5), .val (.long g1), .second, .val (.long o1), .second, .val (.long g2), .second, .val (.long o2), .second, .val (.ref b3), .val (.ref b5), .val (.long t1), .second, .val (.long t2), .second, .val (.long (-4611686018427387904 : Int64)), .second, .val (.long d1), .second, .val (.long d2), .second, .val (.int (1 : Int32)), .val (.int (1 : Int32)), .val (.int (1 : Int32)), .val (.int cc), .unset] [(.long t2), (.long t1), (.int (1 : Int32))]))
        refine Go.st (fun t k => XS.lcmp X9.here hx rfl (hb hby at_233) rfl k) ?_
        show Go p.tables e below PP (T9.setTop (mkF m 234 #[.val (.long q1), .second, .val (.long q2), .second, .val (.long q3), .second, .val (.long q4), .second, .val (.int p5), .val (.long g1), .second, .val (.long o1), .second, .val (.long g2), .second, .val (.long o2), .second, .val (.ref b3), .val (.ref b5), .val (.long t1), .second, .val (.long t2), .second, .val (.long (-4611686018427387904 : Int64)), .second, .val (.long d1), .second, .val (.long d2), .second, .val (.int (1 : Int32)), .val (.int (1 : Int32)), .val (.int (1 : Int32)), .val (.int cc), .unset] [(.int (XT.cmpL t1 t2)), (.int (1 : Int32))]))
        refine Go.st (fun t k => XS.ifNo X9.here hx rfl (hb hby at_234) rfl (XT.ll_ge_f ((own_ord _ _ _ _ _ _ _ hg1 ho1 hJ32 hJ52 ht1 ht2 hcc).1.mp hc221)) k) ?_
        show Go p.tables e below PP (T9.setTop (mkF m 237 #[.val (.long q1), .second, .val (.long q2), .second, .val (.long q3), .second, .val (.long q4), .second, .val (.int p5), .val (.long g1), .second, .val (.long o1), .second, .val (.long g2), .second, .val (.long o2), .second, .val (.ref b3), .val (.ref b5), .val (.long t1), .second, .val (.long t2), .second, .val (.long (-4611686018427387904 : Int64)), .second, .val (.long d1), .second, .val (.long d2), .second, .val (.int (1 : Int32)), .val (.int (1 : Int32)), .val (.int (1 : Int32)), .val (.int cc), .unset] [(.int (1 : Int32))]))
        refine Go.st (fun t k => XS.iconst X9.here hx rfl (hb hby at_237) k) ?_
        show Go p.tables e below PP (T9.setTop (mkF m 238 #[.val (.long q1), .second, .val (.long q2), .second, .val (.long q3), .second, .val (.long q4), .second, .val (.int p5), .val (.long g1), .second, .val (.long o1), .second, .val (.long g2), .second, .val (.long o2), .second, .val (.ref b3), .val (.ref b5), .val (.long t1), .second, .val (.long t2), .second, .val (.long (-4611686018427387904 : Int64)), .second, .val (.long d1), .second, .val (.long d2), .second, .val (.int (1 : Int32)), .val (.int (1 : Int32)), .val (.int (1 : Int32)), .val (.int cc), .unset] [(.int (1 : Int32)), (.int (1 : Int32))]))
        refine Go.st (fun t k => XS.goto X9.here hx rfl (pc0 := 238) (pc' := 242) rfl (hb hby at_238) (by decide) (by decide) k) ?_
        show Go p.tables e below PP (T9.setTop (mkF m 242 #[.val (.long q1), .second, .val (.long q2), .second, .val (.long q3), .second, .val (.long q4), .second, .val (.int p5), .val (.long g1), .second, .val (.long o1), .second, .val (.long g2), .second, .val (.long o2), .second, .val (.ref b3), .val (.ref b5), .val (.long t1), .second, .val (.long t2), .second, .val (.long (-4611686018427387904 : Int64)), .second, .val (.long d1), .second, .val (.long d2), .second, .val (.int (1 : Int32)), .val (.int (1 : Int32)), .val (.int (1 : Int32)), .val (.int cc), .unset] [(.int (1 : Int32)), (.int (1 : Int32))]))
        refine Go.st (fun t k => XS.icmpNo X9.here hx rfl (hb hby at_242) rfl (XT.ii_ne_f (by decide)) k) ?_
        show Go p.tables e below PP (T9.setTop (mkF m 245 #[.val (.long q1), .second, .val (.long q2), .second, .val (.long q3), .second, .val (.long q4), .second, .val (.int p5), .val (.long g1), .second, .val (.long o1), .second, .val (.long g2), .second, .val (.long o2), .second, .val (.ref b3), .val (.ref b5), .val (.long t1), .second, .val (.long t2), .second, .val (.long (-4611686018427387904 : Int64)), .second, .val (.long d1), .second, .val (.long d2), .second, .val (.int (1 : Int32)), .val (.int (1 : Int32)), .val (.int (1 : Int32)), .val (.int cc), .unset] []))
        refine Go.st (fun t k => XS.iload X9.here hx rfl (hb hby at_245) rfl k) ?_
        show Go p.tables e below PP (T9.setTop (mkF m 247 #[.val (.long q1), .second, .val (.long q2), .second, .val (.long q3), .second, .val (.long q4), .second, .val (.int p5), .val (.long g1), .second, .val (.long o1), .second, .val (.long g2), .second, .val (.long o2), .second, .val (.ref b3), .val (.ref b5), .val (.long t1), .second, .val (.long t2), .second, .val (.long (-4611686018427387904 : Int64)), .second, .val (.long d1), .second, .val (.long d2), .second, .val (.int (1 : Int32)), .val (.int (1 : Int32)), .val (.int (1 : Int32)), .val (.int cc), .unset] [(.int cc)]))
        by_cases hc247 : cc = (0 : Int32)
        · --
          refine Go.st (fun t k => XS.ifNo X9.here hx rfl (hb hby at_247) rfl (XT.i0_ne_f hc247) k) ?_
          show Go p.tables e below PP (T9.setTop (mkF m 250 #[.val (.long q1), .second, .val (.long q2), .second, .val (.long q3), .second, .val (.long q4), .second, .val (.int p5), .val (.long g1), .second, .val (.long o1), .second, .val (.long g2), .second, .val (.long o2), .second, .val (.ref b3), .val (.ref b5), .val (.long t1), .second, .val (.long t2), .second, .val (.long (-4611686018427387904 : Int64)), .second, .val (.long d1), .second, .val (.long d2), .second, .val (.int (1 : Int32)), .val (.int (1 : Int32)), .val (.int (1 : Int32)), .val (.int cc), .unset] []))
          refine Go.st (fun t k => XS.iconst X9.here hx rfl (hb hby at_250) k) ?_
          show Go p.tables e below PP (T9.setTop (mkF m 251 #[.val (.long q1), .second, .val (.long q2), .second, .val (.long q3), .second, .val (.long q4), .second, .val (.int p5), .val (.long g1), .second, .val (.long o1), .second, .val (.long g2), .second, .val (.long o2), .second, .val (.ref b3), .val (.ref b5), .val (.long t1), .second, .val (.long t2), .second, .val (.long (-4611686018427387904 : Int64)), .second, .val (.long d1), .second, .val (.long d2), .second, .val (.int (1 : Int32)), .val (.int (1 : Int32)), .val (.int (1 : Int32)), .val (.int cc), .unset] [(.int (1 : Int32))]))
          refine Go.st (fun t k => XS.goto X9.here hx rfl (pc0 := 251) (pc' := 255) rfl (hb hby at_251) (by decide) (by decide) k) ?_
          show Go p.tables e below PP (T9.setTop (mkF m 255 #[.val (.long q1), .second, .val (.long q2), .second, .val (.long q3), .second, .val (.long q4), .second, .val (.int p5), .val (.long g1), .second, .val (.long o1), .second, .val (.long g2), .second, .val (.long o2), .second, .val (.ref b3), .val (.ref b5), .val (.long t1), .second, .val (.long t2), .second, .val (.long (-4611686018427387904 : Int64)), .second, .val (.long d1), .second, .val (.long d2), .second, .val (.int (1 : Int32)), .val (.int (1 : Int32)), .val (.int (1 : Int32)), .val (.int cc), .unset] [(.int (1 : Int32))]))
          refine Go.st (fun t k => XS.lload X9.here hx rfl (hb hby at_255) rfl k) ?_
          show Go p.tables e below PP (T9.setTop (mkF m 257 #[.val (.long q1), .second, .val (.long q2), .second, .val (.long q3), .second, .val (.long q4), .second, .val (.int p5), .val (.long g1), .second, .val (.long o1), .second, .val (.long g2), .second, .val (.long o2), .second, .val (.ref b3), .val (.ref b5), .val (.long t1), .second, .val (.long t2), .second, .val (.long (-4611686018427387904 : Int64)), .second, .val (.long d1), .second, .val (.long d2), .second, .val (.int (1 : Int32)), .val (.int (1 : Int32)), .val (.int (1 : Int32)), .val (.int cc), .unset] [(.long t1), (.int (1 : Int32))]))
          refine Go.st (fun t k => XS.lload X9.here hx rfl (hb hby at_257) rfl k) ?_
          show Go p.tables e below PP (T9.setTop (mkF m 259 #[.val (.long q1), .second, .val (.long q2), .second, .val (.long q3), .second, .val (.long q4), .second, .val (.int p5), .val (.long g1), .second, .val (.long o1), .second, .val (.long g2), .second, .val (.long o2), .second, .val (.ref b3), .val (.ref b5), .val (.long t1), .second, .val (.long t2), .second, .val (.long (-4611686018427387904 : Int64)), .second, .val (.long d1), .second, .val (.long d2), .second, .val (.int (1 : Int32)), .val (.int (1 : Int32)), .val (.int (1 : Int32)), .val (.int cc), .unset] [(.long t2), (.long t1), (.int (1 : Int32))]))
          refine Go.st (fun t k => XS.lcmp X9.here hx rfl (hb hby at_259) rfl k) ?_
          show Go p.tables e below PP (T9.setTop (mkF m 260 #[.val (.long q1), .second, .val (.long q2), .second, .val (.long q3), .second, .val (.long q4), .second, .val (.int p5), .val (.long g1), .second, .val (.long o1), .second, .val (.long g2), .second, .val (.long o2), .second, .val (.ref b3), .val (.ref b5), .val (.long t1), .second, .val (.long t2), .second, .val (.long (-4611686018427387904 : Int64)), .second, .val (.long d1), .second, .val (.long d2), .second, .val (.int (1 : Int32)), .val (.int (1 : Int32)), .val (.int (1 : Int32)), .val (.int cc), .unset] [(.int (XT.cmpL t1 t2)), (.int (1 : Int32))]))
          refine Go.st (fun t k => XS.ifNo X9.here hx rfl (hb hby at_260) rfl (XT.ll_ne_f ((own_ord _ _ _ _ _ _ _ hg1 ho1 hJ32 hJ52 ht1 ht2 hcc).2.1.mp hc247)) k) ?_
          show Go p.tables e below PP (T9.setTop (mkF m 263 #[.val (.long q1), .second, .val (.long q2), .second, .val (.long q3), .second, .val (.long q4), .second, .val (.int p5), .val (.long g1), .second, .val (.long o1), .second, .val (.long g2), .second, .val (.long o2), .second, .val (.ref b3), .val (.ref b5), .val (.long t1), .second, .val (.long t2), .second, .val (.long (-4611686018427387904 : Int64)), .second, .val (.long d1), .second, .val (.long d2), .second, .val (.int (1 : Int32)), .val (.int (1 : Int32)), .val (.int (1 : Int32)), .val (.int cc), .unset] [(.int (1 : Int32))]))
          refine Go.st (fun t k => XS.iconst X9.here hx rfl (hb hby at_263) k) ?_
          show Go p.tables e below PP (T9.setTop (mkF m 264 #[.val (.long q1), .second, .val (.long q2), .second, .val (.long q3), .second, .val (.long q4), .second, .val (.int p5), .val (.long g1), .second, .val (.long o1), .second, .val (.long g2), .second, .val (.long o2), .second, .val (.ref b3), .val (.ref b5), .val (.long t1), .second, .val (.long t2), .second, .val (.long (-4611686018427387904 : Int64)), .second, .val (.long d1), .second, .val (.long d2), .second, .val (.int (1 : Int32)), .val (.int (1 : Int32)), .val (.int (1 : Int32)), .val (.int cc), .unset] [(.int (1 : Int32)), (.int (1 : Int32))]))
          refine Go.st (fun t k => XS.goto X9.here hx rfl (pc0 := 264) (pc' := 268) rfl (hb hby at_264) (by decide) (by decide) k) ?_
          show Go p.tables e below PP (T9.setTop (mkF m 268 #[.val (.long q1), .second, .val (.long q2), .second, .val (.long q3), .second, .val (.long q4), .second, .val (.int p5), .val (.long g1), .second, .val (.long o1), .second, .val (.long g2), .second, .val (.long o2), .second, .val (.ref b3), .val (.ref b5), .val (.long t1), .second, .val (.long t2), .second, .val (.long (-4611686018427387904 : Int64)), .second, .val (.long d1), .second, .val (.long d2), .second, .val (.int (1 : Int32)), .val (.int (1 : Int32)), .val (.int (1 : Int32)), .val (.int cc), .unset] [(.int (1 : Int32)), (.int (1 : Int32))]))
          refine Go.st (fun t k => XS.icmpNo X9.here hx rfl (hb hby at_268) rfl (XT.ii_ne_f (by decide)) k) ?_
          show Go p.tables e below PP (T9.setTop (mkF m 271 #[.val (.long q1), .second, .val (.long q2), .second, .val (.long q3), .second, .val (.long q4), .second, .val (.int p5), .val (.long g1), .second, .val (.long o1), .second, .val (.long g2), .second, .val (.long o2), .second, .val (.ref b3), .val (.ref b5), .val (.long t1), .second, .val (.long t2), .second, .val (.long (-4611686018427387904 : Int64)), .second, .val (.long d1), .second, .val (.long d2), .second, .val (.int (1 : Int32)), .val (.int (1 : Int32)), .val (.int (1 : Int32)), .val (.int cc), .unset] []))
          refine Go.st (fun t k => XS.iload X9.here hx rfl (hb hby at_271) rfl k) ?_
          show Go p.tables e below PP (T9.setTop (mkF m 273 #[.val (.long q1), .second, .val (.long q2), .second, .val (.long q3), .second, .val (.long q4), .second, .val (.int p5), .val (.long g1), .second, .val (.long o1), .second, .val (.long g2), .second, .val (.long o2), .second, .val (.ref b3), .val (.ref b5), .val (.long t1), .second, .val (.long t2), .second, .val (.long (-4611686018427387904 : Int64)), .second, .val (.long d1), .second, .val (.long d2), .second, .val (.int (1 : Int32)), .val (.int (1 : Int32)), .val (.int (1 : Int32)), .val (.int cc), .unset] [(.int cc)]))
          by_cases hc273 : (0 : Int32) < cc
          · --
            refine Go.st (fun t k => XS.ifNo X9.here hx rfl (hb hby at_273) rfl (XT.i0_le_f hc273) k) ?_
            show Go p.tables e below PP (T9.setTop (mkF m 276 #[.val (.long q1), .second, .val (.long q2), .second, .val (.long q3), .second, .val (.long q4), .second, .val (.int p5), .val (.long g1), .second, .val (.long o1), .second, .val (.long g2), .second, .val (.long o2), .second, .val (.ref b3), .val (.ref b5), .val (.long t1), .second, .val (.long t2), .second, .val (.long (-4611686018427387904 : Int64)), .second, .val (.long d1), .second, .val (.long d2), .second, .val (.int (1 : Int32)), .val (.int (1 : Int32)), .val (.int (1 : Int32)), .val (.int cc), .unset] []))
            refine Go.st (fun t k => XS.iconst X9.here hx rfl (hb hby at_276) k) ?_
            show Go p.tables e below PP (T9.setTop (mkF m 277 #[.val (.long q1), .second, .val (.long q2), .second, .val (.long q3), .second, .val (.long q4), .second, .val (.int p5), .val (.long g1), .second, .val (.long o1), .second, .val (.long g2), .second, .val (.long o2), .second, .val (.ref b3), .val (.ref b5), .val (.long t1), .second, .val (.long t2), .second, .val (.long (-4611686018427387904 : Int64)), .second, .val (.long d1), .second, .val (.long d2), .second, .val (.int (1 : Int32)), .val (.int (1 : Int32)), .val (.int (1 : Int32)), .val (.int cc), .unset] [(.int (1 : Int32))]))
            refine Go.st (fun t k => XS.goto X9.here hx rfl (pc0 := 277) (pc' := 281) rfl (hb hby at_277) (by decide) (by decide) k) ?_
            show Go p.tables e below PP (T9.setTop (mkF m 281 #[.val (.long q1), .second, .val (.long q2), .second, .val (.long q3), .second, .val (.long q4), .second, .val (.int p5), .val (.long g1), .second, .val (.long o1), .second, .val (.long g2), .second, .val (.long o2), .second, .val (.ref b3), .val (.ref b5), .val (.long t1), .second, .val (.long t2), .second, .val (.long (-4611686018427387904 : Int64)), .second, .val (.long d1), .second, .val (.long d2), .second, .val (.int (1 : Int32)), .val (.int (1 : Int32)), .val (.int (1 : Int32)), .val (.int cc), .unset] [(.int (1 : Int32))]))
            refine Go.st (fun t k => XS.lload X9.here hx rfl (hb hby at_281) rfl k) ?_
            show Go p.tables e below PP (T9.setTop (mkF m 283 #[.val (.long q1), .second, .val (.long q2), .second, .val (.long q3), .second, .val (.long q4), .second, .val (.int p5), .val (.long g1), .second, .val (.long o1), .second, .val (.long g2), .second, .val (.long o2), .second, .val (.ref b3), .val (.ref b5), .val (.long t1), .second, .val (.long t2), .second, .val (.long (-4611686018427387904 : Int64)), .second, .val (.long d1), .second, .val (.long d2), .second, .val (.int (1 : Int32)), .val (.int (1 : Int32)), .val (.int (1 : Int32)), .val (.int cc), .unset] [(.long t1), (.int (1 : Int32))]))
            refine Go.st (fun t k => XS.lload X9.here hx rfl (hb hby at_283) rfl k) ?_
            show Go p.tables e below PP (T9.setTop (mkF m 285 #[.val (.long q1), .second, .val (.long q2), .second, .val (.long q3), .second, .val (.long q4), .second, .val (.int p5), .val (.long g1), .second, .val (.long o1), .second, .val (.long g2), .second, .val (.long o2), .second, .val (.ref b3), .val (.ref b5), .val (.long t1), .second, .val (.long t2), .second, .val (.long (-4611686018427387904 : Int64)), .second, .val (.long d1), .second, .val (.long d2), .second, .val (.int (1 : Int32)), .val (.int (1 : Int32)), .val (.int (1 : Int32)), .val (.int cc), .unset] [(.long t2), (.long t1), (.int (1 : Int32))]))
            refine Go.st (fun t k => XS.lcmp X9.here hx rfl (hb hby at_285) rfl k) ?_
            show Go p.tables e below PP (T9.setTop (mkF m 286 #[.val (.long q1), .second, .val (.long q2), .second, .val (.long q3), .second, .val (.long q4), .second, .val (.int p5), .val (.long g1), .second, .val (.long o1), .second, .val (.long g2), .second, .val (.long o2), .second, .val (.ref b3), .val (.ref b5), .val (.long t1), .second, .val (.long t2), .second, .val (.long (-4611686018427387904 : Int64)), .second, .val (.long d1), .second, .val (.long d2), .second, .val (.int (1 : Int32)), .val (.int (1 : Int32)), .val (.int (1 : Int32)), .val (.int cc), .unset] [(.int (XT.cmpL t1 t2)), (.int (1 : Int32))]))
            refine Go.st (fun t k => XS.ifNo X9.here hx rfl (hb hby at_286) rfl (XT.ll_le_f ((own_ord _ _ _ _ _ _ _ hg1 ho1 hJ32 hJ52 ht1 ht2 hcc).2.2.mp hc273)) k) ?_
            show Go p.tables e below PP (T9.setTop (mkF m 289 #[.val (.long q1), .second, .val (.long q2), .second, .val (.long q3), .second, .val (.long q4), .second, .val (.int p5), .val (.long g1), .second, .val (.long o1), .second, .val (.long g2), .second, .val (.long o2), .second, .val (.ref b3), .val (.ref b5), .val (.long t1), .second, .val (.long t2), .second, .val (.long (-4611686018427387904 : Int64)), .second, .val (.long d1), .second, .val (.long d2), .second, .val (.int (1 : Int32)), .val (.int (1 : Int32)), .val (.int (1 : Int32)), .val (.int cc), .unset] [(.int (1 : Int32))]))
            refine Go.st (fun t k => XS.iconst X9.here hx rfl (hb hby at_289) k) ?_
            show Go p.tables e below PP (T9.setTop (mkF m 290 #[.val (.long q1), .second, .val (.long q2), .second, .val (.long q3), .second, .val (.long q4), .second, .val (.int p5), .val (.long g1), .second, .val (.long o1), .second, .val (.long g2), .second, .val (.long o2), .second, .val (.ref b3), .val (.ref b5), .val (.long t1), .second, .val (.long t2), .second, .val (.long (-4611686018427387904 : Int64)), .second, .val (.long d1), .second, .val (.long d2), .second, .val (.int (1 : Int32)), .val (.int (1 : Int32)), .val (.int (1 : Int32)), .val (.int cc), .unset] [(.int (1 : Int32)), (.int (1 : Int32))]))
            refine Go.st (fun t k => XS.goto X9.here hx rfl (pc0 := 290) (pc' := 294) rfl (hb hby at_290) (by decide) (by decide) k) ?_
            show Go p.tables e below PP (T9.setTop (mkF m 294 #[.val (.long q1), .second, .val (.long q2), .second, .val (.long q3), .second, .val (.long q4), .second, .val (.int p5), .val (.long g1), .second, .val (.long o1), .second, .val (.long g2), .second, .val (.long o2), .second, .val (.ref b3), .val (.ref b5), .val (.long t1), .second, .val (.long t2), .second, .val (.long (-4611686018427387904 : Int64)), .second, .val (.long d1), .second, .val (.long d2), .second, .val (.int (1 : Int32)), .val (.int (1 : Int32)), .val (.int (1 : Int32)), .val (.int cc), .unset] [(.int (1 : Int32)), (.int (1 : Int32))]))
            refine Go.st (fun t k => XS.icmpNo X9.here hx rfl (hb hby at_294) rfl (XT.ii_ne_f (by decide)) k) ?_
            show Go p.tables e below PP (T9.setTop (mkF m 297 #[.val (.long q1), .second, .val (.long q2), .second, .val (.long q3), .second, .val (.long q4), .second, .val (.int p5), .val (.long g1), .second, .val (.long o1), .second, .val (.long g2), .second, .val (.long o2), .second, .val (.ref b3), .val (.ref b5), .val (.long t1), .second, .val (.long t2), .second, .val (.long (-4611686018427387904 : Int64)), .second, .val (.long d1), .second, .val (.long d2), .second, .val (.int (1 : Int32)), .val (.int (1 : Int32)), .val (.int (1 : Int32)), .val (.int cc), .unset] []))
            refine Go.st (fun t k => XS.iconst X9.here hx rfl (hb hby at_297) k) ?_
            show Go p.tables e below PP (T9.setTop (mkF m 298 #[.val (.long q1), .second, .val (.long q2), .second, .val (.long q3), .second, .val (.long q4), .second, .val (.int p5), .val (.long g1), .second, .val (.long o1), .second, .val (.long g2), .second, .val (.long o2), .second, .val (.ref b3), .val (.ref b5), .val (.long t1), .second, .val (.long t2), .second, .val (.long (-4611686018427387904 : Int64)), .second, .val (.long d1), .second, .val (.long d2), .second, .val (.int (1 : Int32)), .val (.int (1 : Int32)), .val (.int (1 : Int32)), .val (.int cc), .unset] [(.int (1 : Int32))]))
            refine Go.st (fun t k => XS.goto X9.here hx rfl (pc0 := 298) (pc' := 302) rfl (hb hby at_298) (by decide) (by decide) k) ?_
            show Go p.tables e below PP (T9.setTop (mkF m 302 #[.val (.long q1), .second, .val (.long q2), .second, .val (.long q3), .second, .val (.long q4), .second, .val (.int p5), .val (.long g1), .second, .val (.long o1), .second, .val (.long g2), .second, .val (.long o2), .second, .val (.ref b3), .val (.ref b5), .val (.long t1), .second, .val (.long t2), .second, .val (.long (-4611686018427387904 : Int64)), .second, .val (.long d1), .second, .val (.long d2), .second, .val (.int (1 : Int32)), .val (.int (1 : Int32)), .val (.int (1 : Int32)), .val (.int cc), .unset] [(.int (1 : Int32))]))
            refine Go.st (fun t k => XS.istore X9.here hx rfl (hb hby at_302) rfl (l' := #[.val (.long q1), .second, .val (.long q2), .second, .val (.long q3), .second, .val (.long q4), .second, .val (.int p5), .val (.long g1), .second, .val (.long o1), .second, .val (.long g2), .second, .val (.long o2), .second, .val (.ref b3), .val (.ref b5), .val (.long t1), .second, .val (.long t2), .second, .val (.long (-4611686018427387904 : Int64)), .second, .val (.long d1), .second, .val (.long d2), .second, .val (.int (1 : Int32)), .val (.int (1 : Int32)), .val (.int (1 : Int32)), .val (.int cc), .val (.int (1 : Int32))]) rfl k) ?_
            show Go p.tables e below PP (T9.setTop (mkF m 304 #[.val (.long q1), .second, .val (.long q2), .second, .val (.long q3), .second, .val (.long q4), .second, .val (.int p5), .val (.long g1), .second, .val (.long o1), .second, .val (.long g2), .second, .val (.long o2), .second, .val (.ref b3), .val (.ref b5), .val (.long t1), .second, .val (.long t2), .second, .val (.long (-4611686018427387904 : Int64)), .second, .val (.long d1), .second, .val (.long d2), .second, .val (.int (1 : Int32)), .val (.int (1 : Int32)), .val (.int (1 : Int32)), .val (.int cc), .val (.int (1 : Int32))] []))
            refine Go.st (fun t k => XS.iload X9.here hx rfl (hb hby at_304) rfl k) ?_
            show Go p.tables e below PP (T9.setTop (mkF m 306 #[.val (.long q1), .second, .val (.long q2), .second, .val (.long q3), .second, .val (.long q4), .second, .val (.int p5), .val (.long g1), .second, .val (.long o1), .second, .val (.long g2), .second, .val (.long o2), .second, .val (.ref b3), .val (.ref b5), .val (.long t1), .second, .val (.long t2), .second, .val (.long (-4611686018427387904 : Int64)), .second, .val (.long d1), .second, .val (.long d2), .second, .val (.int (1 : Int32)), .val (.int (1 : Int32)), .val (.int (1 : Int32)), .val (.int cc), .val (.int (1 : Int32))] [(.int (1 : Int32))]))
            refine Go.st (fun t k => XS.ifNo X9.here hx rfl (hb hby at_306) rfl (XT.i0_eq_f (by decide)) k) ?_
            show Go p.tables e below PP (T9.setTop (mkF m 309 #[.val (.long q1), .second, .val (.long q2), .second, .val (.long q3), .second, .val (.long q4), .second, .val (.int p5), .val (.long g1), .second, .val (.long o1), .second, .val (.long g2), .second, .val (.long o2), .second, .val (.ref b3), .val (.ref b5), .val (.long t1), .second, .val (.long t2), .second, .val (.long (-4611686018427387904 : Int64)), .second, .val (.long d1), .second, .val (.long d2), .second, .val (.int (1 : Int32)), .val (.int (1 : Int32)), .val (.int (1 : Int32)), .val (.int cc), .val (.int (1 : Int32))] []))
            refine Go.st (fun t k => XS.iload X9.here hx rfl (hb hby at_309) rfl k) ?_
            show Go p.tables e below PP (T9.setTop (mkF m 311 #[.val (.long q1), .second, .val (.long q2), .second, .val (.long q3), .second, .val (.long q4), .second, .val (.int p5), .val (.long g1), .second, .val (.long o1), .second, .val (.long g2), .second, .val (.long o2), .second, .val (.ref b3), .val (.ref b5), .val (.long t1), .second, .val (.long t2), .second, .val (.long (-4611686018427387904 : Int64)), .second, .val (.long d1), .second, .val (.long d2), .second, .val (.int (1 : Int32)), .val (.int (1 : Int32)), .val (.int (1 : Int32)), .val (.int cc), .val (.int (1 : Int32))] [(.int (1 : Int32))]))
            refine Go.st (fun t k => XS.ifNo X9.here hx rfl (hb hby at_311) rfl (XT.i0_eq_f (by decide)) k) ?_
            show Go p.tables e below PP (T9.setTop (mkF m 314 #[.val (.long q1), .second, .val (.long q2), .second, .val (.long q3), .second, .val (.long q4), .second, .val (.int p5), .val (.long g1), .second, .val (.long o1), .second, .val (.long g2), .second, .val (.long o2), .second, .val (.ref b3), .val (.ref b5), .val (.long t1), .second, .val (.long t2), .second, .val (.long (-4611686018427387904 : Int64)), .second, .val (.long d1), .second, .val (.long d2), .second, .val (.int (1 : Int32)), .val (.int (1 : Int32)), .val (.int (1 : Int32)), .val (.int cc), .val (.int (1 : Int32))] []))
            refine Go.st (fun t k => XS.iload X9.here hx rfl (hb hby at_314) rfl k) ?_
            show Go p.tables e below PP (T9.setTop (mkF m 316 #[.val (.long q1), .second, .val (.long q2), .second, .val (.long q3), .second, .val (.long q4), .second, .val (.int p5), .val (.long g1), .second, .val (.long o1), .second, .val (.long g2), .second, .val (.long o2), .second, .val (.ref b3), .val (.ref b5), .val (.long t1), .second, .val (.long t2), .second, .val (.long (-4611686018427387904 : Int64)), .second, .val (.long d1), .second, .val (.long d2), .second, .val (.int (1 : Int32)), .val (.int (1 : Int32)), .val (.int (1 : Int32)), .val (.int cc), .val (.int (1 : Int32))] [(.int (1 : Int32))]))
            refine Go.st (fun t k => XS.ifNo X9.here hx rfl (hb hby at_316) rfl (XT.i0_eq_f (by decide)) k) ?_
            show Go p.tables e below PP (T9.setTop (mkF m 319 #[.val (.long q1), .second, .val (.long q2), .second, .val (.long q3), .second, .val (.long q4), .second, .val (.int p5), .val (.long g1), .second, .val (.long o1), .second, .val (.long g2), .second, .val (.long o2), .second, .val (.ref b3), .val (.ref b5), .val (.long t1), .second, .val (.long t2), .second, .val (.long (-4611686018427387904 : Int64)), .second, .val (.long d1), .second, .val (.long d2), .second, .val (.int (1 : Int32)), .val (.int (1 : Int32)), .val (.int (1 : Int32)), .val (.int cc), .val (.int (1 : Int32))] []))
            refine Go.st (fun t k => XS.iload X9.here hx rfl (hb hby at_319) rfl k) ?_
            show Go p.tables e below PP (T9.setTop (mkF m 321 #[.val (.long q1), .second, .val (.long q2), .second, .val (.long q3), .second, .val (.long q4), .second, .val (.int p5), .val (.long g1), .second, .val (.long o1), .second, .val (.long g2), .second, .val (.long o2), .second, .val (.ref b3), .val (.ref b5), .val (.long t1), .second, .val (.long t2), .second, .val (.long (-4611686018427387904 : Int64)), .second, .val (.long d1), .second, .val (.long d2), .second, .val (.int (1 : Int32)), .val (.int (1 : Int32)), .val (.int (1 : Int32)), .val (.int cc), .val (.int (1 : Int32))] [(.int (1 : Int32))]))
            refine Go.st (fun t k => XS.ifNo X9.here hx rfl (hb hby at_321) rfl (XT.i0_eq_f (by decide)) k) ?_
            show Go p.tables e below PP (T9.setTop (mkF m 324 #[.val (.long q1), .second, .val (.long q2), .second, .val (.long q3), .second, .val (.long q4), .second, .val (.int p5), .val (.long g1), .second, .val (.long o1), .second, .val (.long g2), .second, .val (.long o2), .second, .val (.ref b3), .val (.ref b5), .val (.long t1), .second, .val (.long t2), .second, .val (.long (-4611686018427387904 : Int64)), .second, .val (.long d1), .second, .val (.long d2), .second, .val (.int (1 : Int32)), .val (.int (1 : Int32)), .val (.int (1 : Int32)), .val (.int cc), .val (.int (1 : Int32))] []))
            refine Go.st (fun t k => XS.iconst X9.here hx rfl (hb hby at_324) k) ?_
            show Go p.tables e below PP (T9.setTop (mkF m 325 #[.val (.long q1), .second, .val (.long q2), .second, .val (.long q3), .second, .val (.long q4), .second, .val (.int p5), .val (.long g1), .second, .val (.long o1), .second, .val (.long g2), .second, .val (.long o2), .second, .val (.ref b3), .val (.ref b5), .val (.long t1), .second, .val (.long t2), .second, .val (.long (-4611686018427387904 : Int64)), .second, .val (.long d1), .second, .val (.long d2), .second, .val (.int (1 : Int32)), .val (.int (1 : Int32)), .val (.int (1 : Int32)), .val (.int cc), .val (.int (1 : Int32))] [(.int (1 : Int32))]))
            refine Go.st (fun t k => XS.goto X9.here hx rfl (pc0 := 325) (pc' := 329) rfl (hb hby at_325) (by decide) (by decide) k) ?_
            show Go p.tables e below PP (T9.setTop (mkF m 329 #[.val (.long q1), .second, .val (.long q2), .second, .val (.long q3), .second, .val (.long q4), .second, .val (.int p5), .val (.long g1), .second, .val (.long o1), .second, .val (.long g2), .second, .val (.long o2), .second, .val (.ref b3), .val (.ref b5), .val (.long t1), .second, .val (.long t2), .second, .val (.long (-4611686018427387904 : Int64)), .second, .val (.long d1), .second, .val (.long d2), .second, .val (.int (1 : Int32)), .val (.int (1 : Int32)), .val (.int (1 : Int32)), .val (.int cc), .val (.int (1 : Int32))] [(.int (1 : Int32))]))
            rw [hPP]
            refine endN X9 hx hlk (t := .boolean) hret (by simp) (hb hby at_329) (w := (1 : Int32)) (rfl) ?_ (by decide) (by decide)
            show Q0 Z q1 q2 q3 q4 p5 h0 n0 (some (.int (1 : Int32))) T9.heap _
            rw [e9]
            exact ⟨rfl, N6⟩
          · --
            refine Go.st (fun t k => XS.ifYes X9.here hx rfl (pc0 := 273) (pc' := 280) rfl (hb hby at_273) rfl (XT.i0_le_t hc273) (by decide) (by decide) k) ?_
            show Go p.tables e below PP (T9.setTop (mkF m 280 #[.val (.long q1), .second, .val (.long q2), .second, .val (.long q3), .second, .val (.long q4), .second, .val (.int p5), .val (.long g1), .second, .val (.long o1), .second, .val (.long g2), .second, .val (.long o2), .second, .val (.ref b3), .val (.ref b5), .val (.long t1), .second, .val (.long t2), .second, .val (.long (-4611686018427387904 : Int64)), .second, .val (.long d1), .second, .val (.long d2), .second, .val (.int (1 : Int32)), .val (.int (1 : Int32)), .val (.int (1 : Int32)), .val (.int cc), .unset] []))
            refine Go.st (fun t k => XS.iconst X9.here hx rfl (hb hby at_280) k) ?_
            show Go p.tables e below PP (T9.setTop (mkF m 281 #[.val (.long q1), .second, .val (.long q2), .second, .val (.long q3), .second, .val (.long q4), .second, .val (.int p5), .val (.long g1), .second, .val (.long o1), .second, .val (.long g2), .second, .val (.long o2), .second, .val (.ref b3), .val (.ref b5), .val (.long t1), .second, .val (.long t2), .second, .val (.long (-4611686018427387904 : Int64)), .second, .val (.long d1), .second, .val (.long d2), .second, .val (.int (1 : Int32)), .val (.int (1 : Int32)), .val (.int (1 : Int32)), .val (.int cc), .unset] [(.int (0 : Int32))]))
            refine Go.st (fun t k => XS.lload X9.here hx rfl (hb hby at_281) rfl k) ?_
            show Go p.tables e below PP (T9.setTop (mkF m 283 #[.val (.long q1), .second, .val (.long q2), .second, .val (.long q3), .second, .val (.long q4), .second, .val (.int p5), .val (.long g1), .second, .val (.long o1), .second, .val (.long g2), .second, .val (.long o2), .second, .val (.ref b3), .val (.ref b5), .val (.long t1), .second, .val (.long t2), .second, .val (.long (-4611686018427387904 : Int64)), .second, .val (.long d1), .second, .val (.long d2), .second, .val (.int (1 : Int32)), .val (.int (1 : Int32)), .val (.int (1 : Int32)), .val (.int cc), .unset] [(.long t1), (.int (0 : Int32))]))
            refine Go.st (fun t k => XS.lload X9.here hx rfl (hb hby at_283) rfl k) ?_
            show Go p.tables e below PP (T9.setTop (mkF m 285 #[.val (.long q1), .second, .val (.long q2), .second, .val (.long q3), .second, .val (.long q4), .second, .val (.int p5), .val (.long g1), .second, .val (.long o1), .second, .val (.long g2), .second, .val (.long o2), .second, .val (.ref b3), .val (.ref b5), .val (.long t1), .second, .val (.long t2), .second, .val (.long (-4611686018427387904 : Int64)), .second, .val (.long d1), .second, .val (.long d2), .second, .val (.int (1 : Int32)), .val (.int (1 : Int32)), .val (.int (1 : Int32)), .val (.int cc), .unset] [(.long t2), (.long t1), (.int (0 : Int32))]))
            refine Go.st (fun t k => XS.lcmp X9.here hx rfl (hb hby at_285) rfl k) ?_
            show Go p.tables e below PP (T9.setTop (mkF m 286 #[.val (.long q1), .second, .val (.long q2), .second, .val (.long q3), .second, .val (.long q4), .second, .val (.int p5), .val (.long g1), .second, .val (.long o1), .second, .val (.long g2), .second, .val (.long o2), .second, .val (.ref b3), .val (.ref b5), .val (.long t1), .second, .val (.long t2), .second, .val (.long (-4611686018427387904 : Int64)), .second, .val (.long d1), .second, .val (.long d2), .second, .val (.int (1 : Int32)), .val (.int (1 : Int32)), .val (.int (1 : Int32)), .val (.int cc), .unset] [(.int (XT.cmpL t1 t2)), (.int (0 : Int32))]))
            refine Go.st (fun t k => XS.ifYes X9.here hx rfl (pc0 := 286) (pc' := 293) rfl (hb hby at_286) rfl (XT.ll_le_t (fun q => hc273 ((own_ord _ _ _ _ _ _ _ hg1 ho1 hJ32 hJ52 ht1 ht2 hcc).2.2.mpr q))) (by decide) (by decide) k) ?_
            show Go p.tables e below PP (T9.setTop (mkF m 293 #[.val (.long q1), .second, .val (.long q2), .second, .val (.long q3), .second, .val (.long q4), .second, .val (.int p5), .val (.long g1), .second, .val (.long o1), .second, .val (.long g2), .second, .val (.long o2), .second, .val (.ref b3), .val (.ref b5), .val (.long t1), .second, .val (.long t2), .second, .val (.long (-4611686018427387904 : Int64)), .second, .val (.long d1), .second, .val (.long d2), .second, .val (.int (1 : Int32)), .val (.int (1 : Int32)), .val (.int (1 : Int32)), .val (.int cc), .unset] [(.int (0 : Int32))]))
            refine Go.st (fun t k => XS.iconst X9.here hx rfl (hb hby at_293) k) ?_
            show Go p.tables e below PP (T9.setTop (mkF m 294 #[.val (.long q1), .second, .val (.long q2), .second, .val (.long q3), .second, .val (.long q4), .second, .val (.int p5), .val (.long g1), .second, .val (.long o1), .second, .val (.long g2), .second, .val (.long o2), .second, .val (.ref b3), .val (.ref b5), .val (.long t1), .second, .val (.long t2), .second, .val (.long (-4611686018427387904 : Int64)), .second, .val (.long d1), .second, .val (.long d2), .second, .val (.int (1 : Int32)), .val (.int (1 : Int32)), .val (.int (1 : Int32)), .val (.int cc), .unset] [(.int (0 : Int32)), (.int (0 : Int32))]))
            refine Go.st (fun t k => XS.icmpNo X9.here hx rfl (hb hby at_294) rfl (XT.ii_ne_f (by decide)) k) ?_
            show Go p.tables e below PP (T9.setTop (mkF m 297 #[.val (.long q1), .second, .val (.long q2), .second, .val (.long q3), .second, .val (.long q4), .second, .val (.int p5), .val (.long g1), .second, .val (.long o1), .second, .val (.long g2), .second, .val (.long o2), .second, .val (.ref b3), .val (.ref b5), .val (.long t1), .second, .val (.long t2), .second, .val (.long (-4611686018427387904 : Int64)), .second, .val (.long d1), .second, .val (.long d2), .second, .val (.int (1 : Int32)), .val (.int (1 : Int32)), .val (.int (1 : Int32)), .val (.int cc), .unset] []))
            refine Go.st (fun t k => XS.iconst X9.here hx rfl (hb hby at_297) k) ?_
            show Go p.tables e below PP (T9.setTop (mkF m 298 #[.val (.long q1), .second, .val (.long q2), .second, .val (.long q3), .second, .val (.long q4), .second, .val (.int p5), .val (.long g1), .second, .val (.long o1), .second, .val (.long g2), .second, .val (.long o2), .second, .val (.ref b3), .val (.ref b5), .val (.long t1), .second, .val (.long t2), .second, .val (.long (-4611686018427387904 : Int64)), .second, .val (.long d1), .second, .val (.long d2), .second, .val (.int (1 : Int32)), .val (.int (1 : Int32)), .val (.int (1 : Int32)), .val (.int cc), .unset] [(.int (1 : Int32))]))
            refine Go.st (fun t k => XS.goto X9.here hx rfl (pc0 := 298) (pc' := 302) rfl (hb hby at_298) (by decide) (by decide) k) ?_
            show Go p.tables e below PP (T9.setTop (mkF m 302 #[.val (.long q1), .second, .val (.long q2), .second, .val (.long q3), .second, .val (.long q4), .second, .val (.int p5), .val (.long g1), .second, .val (.long o1), .second, .val (.long g2), .second, .val (.long o2), .second, .val (.ref b3), .val (.ref b5), .val (.long t1), .second, .val (.long t2), .second, .val (.long (-4611686018427387904 : Int64)), .second, .val (.long d1), .second, .val (.long d2), .second, .val (.int (1 : Int32)), .val (.int (1 : Int32)), .val (.int (1 : Int32)), .val (.int cc), .unset] [(.int (1 : Int32))]))
            refine Go.st (fun t k => XS.istore X9.here hx rfl (hb hby at_302) rfl (l' := #[.val (.long q1), .second, .val (.long q2), .second, .val (.long q3), .second, .val (.long q4), .second, .val (.int p5), .val (.long g1), .second, .val (.long o1), .second, .val (.long g2), .second, .val (.long o2), .second, .val (.ref b3), .val (.ref b5), .val (.long t1), .second, .val (.long t2), .second, .val (.long (-4611686018427387904 : Int64)), .second, .val (.long d1), .second, .val (.long d2), .second, .val (.int (1 : Int32)), .val (.int (1 : Int32)), .val (.int (1 : Int32)), .val (.int cc), .val (.int (1 : Int32))]) rfl k) ?_
            show Go p.tables e below PP (T9.setTop (mkF m 304 #[.val (.long q1), .second, .val (.long q2), .second, .val (.long q3), .second, .val (.long q4), .second, .val (.int p5), .val (.long g1), .second, .val (.long o1), .second, .val (.long g2), .second, .val (.long o2), .second, .val (.ref b3), .val (.ref b5), .val (.long t1), .second, .val (.long t2), .second, .val (.long (-4611686018427387904 : Int64)), .second, .val (.long d1), .second, .val (.long d2), .second, .val (.int (1 : Int32)), .val (.int (1 : Int32)), .val (.int (1 : Int32)), .val (.int cc), .val (.int (1 : Int32))] []))
            refine Go.st (fun t k => XS.iload X9.here hx rfl (hb hby at_304) rfl k) ?_
            show Go p.tables e below PP (T9.setTop (mkF m 306 #[.val (.long q1), .second, .val (.long q2), .second, .val (.long q3), .second, .val (.long q4), .second, .val (.int p5), .val (.long g1), .second, .val (.long o1), .second, .val (.long g2), .second, .val (.long o2), .second, .val (.ref b3), .val (.ref b5), .val (.long t1), .second, .val (.long t2), .second, .val (.long (-4611686018427387904 : Int64)), .second, .val (.long d1), .second, .val (.long d2), .second, .val (.int (1 : Int32)), .val (.int (1 : Int32)), .val (.int (1 : Int32)), .val (.int cc), .val (.int (1 : Int32))] [(.int (1 : Int32))]))
            refine Go.st (fun t k => XS.ifNo X9.here hx rfl (hb hby at_306) rfl (XT.i0_eq_f (by decide)) k) ?_
            show Go p.tables e below PP (T9.setTop (mkF m 309 #[.val (.long q1), .second, .val (.long q2), .second, .val (.long q3), .second, .val (.long q4), .second, .val (.int p5), .val (.long g1), .second, .val (.long o1), .second, .val (.long g2), .second, .val (.long o2), .second, .val (.ref b3), .val (.ref b5), .val (.long t1), .second, .val (.long t2), .second, .val (.long (-4611686018427387904 : Int64)), .second, .val (.long d1), .second, .val (.long d2), .second, .val (.int (1 : Int32)), .val (.int (1 : Int32)), .val (.int (1 : Int32)), .val (.int cc), .val (.int (1 : Int32))] []))
            refine Go.st (fun t k => XS.iload X9.here hx rfl (hb hby at_309) rfl k) ?_
            show Go p.tables e below PP (T9.setTop (mkF m 311 #[.val (.long q1), .second, .val (.long q2), .second, .val (.long q3), .second, .val (.long q4), .second, .val (.int p5), .val (.long g1), .second, .val (.long o1), .second, .val (.long g2), .second, .val (.long o2), .second, .val (.ref b3), .val (.ref b5), .val (.long t1), .second, .val (.long t2), .second, .val (.long (-4611686018427387904 : Int64)), .second, .val (.long d1), .second, .val (.long d2), .second, .val (.int (1 : Int32)), .val (.int (1 : Int32)), .val (.int (1 : Int32)), .val (.int cc), .val (.int (1 : Int32))] [(.int (1 : Int32))]))
            refine Go.st (fun t k => XS.ifNo X9.here hx rfl (hb hby at_311) rfl (XT.i0_eq_f (by decide)) k) ?_
            show Go p.tables e below PP (T9.setTop (mkF m 314 #[.val (.long q1), .second, .val (.long q2), .second, .val (.long q3), .second, .val (.long q4), .second, .val (.int p5), .val (.long g1), .second, .val (.long o1), .second, .val (.long g2), .second, .val (.long o2), .second, .val (.ref b3), .val (.ref b5), .val (.long t1), .second, .val (.long t2), .second, .val (.long (-4611686018427387904 : Int64)), .second, .val (.long d1), .second, .val (.long d2), .second, .val (.int (1 : Int32)), .val (.int (1 : Int32)), .val (.int (1 : Int32)), .val (.int cc), .val (.int (1 : Int32))] []))
            refine Go.st (fun t k => XS.iload X9.here hx rfl (hb hby at_314) rfl k) ?_
            show Go p.tables e below PP (T9.setTop (mkF m 316 #[.val (.long q1), .second, .val (.long q2), .second, .val (.long q3), .second, .val (.long q4), .second, .val (.int p5), .val (.long g1), .second, .val (.long o1), .second, .val (.long g2), .second, .val (.long o2), .second, .val (.ref b3), .val (.ref b5), .val (.long t1), .second, .val (.long t2), .second, .val (.long (-4611686018427387904 : Int64)), .second, .val (.long d1), .second, .val (.long d2), .second, .val (.int (1 : Int32)), .val (.int (1 : Int32)), .val (.int (1 : Int32)), .val (.int cc), .val (.int (1 : Int32))] [(.int (1 : Int32))]))
            refine Go.st (fun t k => XS.ifNo X9.here hx rfl (hb hby at_316) rfl (XT.i0_eq_f (by decide)) k) ?_
            show Go p.tables e below PP (T9.setTop (mkF m 319 #[.val (.long q1), .second, .val (.long q2), .second, .val (.long q3), .second, .val (.long q4), .second, .val (.int p5), .val (.long g1), .second, .val (.long o1), .second, .val (.long g2), .second, .val (.long o2), .second, .val (.ref b3), .val (.ref b5), .val (.long t1), .second, .val (.long t2), .second, .val (.long (-4611686018427387904 : Int64)), .second, .val (.long d1), .second, .val (.long d2), .second, .val (.int (1 : Int32)), .val (.int (1 : Int32)), .val (.int (1 : Int32)), .val (.int cc), .val (.int (1 : Int32))] []))
            refine Go.st (fun t k => XS.iload X9.here hx rfl (hb hby at_319) rfl k) ?_
            show Go p.tables e below PP (T9.setTop (mkF m 321 #[.val (.long q1), .second, .val (.long q2), .second, .val (.long q3), .second, .val (.long q4), .second, .val (.int p5), .val (.long g1), .second, .val (.long o1), .second, .val (.long g2), .second, .val (.long o2), .second, .val (.ref b3), .val (.ref b5), .val (.long t1), .second, .val (.long t2), .second, .val (.long (-4611686018427387904 : Int64)), .second, .val (.long d1), .second, .val (.long d2), .second, .val (.int (1 : Int32)), .val (.int (1 : Int32)), .val (.int (1 : Int32)), .val (.int cc), .val (.int (1 : Int32))] [(.int (1 : Int32))]))
            refine Go.st (fun t k => XS.ifNo X9.here hx rfl (hb hby at_321) rfl (XT.i0_eq_f (by decide)) k) ?_
            show Go p.tables e below PP (T9.setTop (mkF m 324 #[.val (.long q1), .second, .val (.long q2), .second, .val (.long q3), .second, .val (.long q4), .second, .val (.int p5), .val (.long g1), .second, .val (.long o1), .second, .val (.long g2), .second, .val (.long o2), .second, .val (.ref b3), .val (.ref b5), .val (.long t1), .second, .val (.long t2), .second, .val (.long (-4611686018427387904 : Int64)), .second, .val (.long d1), .second, .val (.long d2), .second, .val (.int (1 : Int32)), .val (.int (1 : Int32)), .val (.int (1 : Int32)), .val (.int cc), .val (.int (1 : Int32))] []))
            refine Go.st (fun t k => XS.iconst X9.here hx rfl (hb hby at_324) k) ?_
            show Go p.tables e below PP (T9.setTop (mkF m 325 #[.val (.long q1), .second, .val (.long q2), .second, .val (.long q3), .second, .val (.long q4), .second, .val (.int p5), .val (.long g1), .second, .val (.long o1), .second, .val (.long g2), .second, .val (.long o2), .second, .val (.ref b3), .val (.ref b5), .val (.long t1), .second, .val (.long t2), .second, .val (.long (-4611686018427387904 : Int64)), .second, .val (.long d1), .second, .val (.long d2), .second, .val (.int (1 : Int32)), .val (.int (1 : Int32)), .val (.int (1 : Int32)), .val (.int cc), .val (.int (1 : Int32))] [(.int (1 : Int32))]))
            refine Go.st (fun t k => XS.goto X9.here hx rfl (pc0 := 325) (pc' := 329) rfl (hb hby at_325) (by decide) (by decide) k) ?_
            show Go p.tables e below PP (T9.setTop (mkF m 329 #[.val (.long q1), .second, .val (.long q2), .second, .val (.long q3), .second, .val (.long q4), .second, .val (.int p5), .val (.long g1), .second, .val (.long o1), .second, .val (.long g2), .second, .val (.long o2), .second, .val (.ref b3), .val (.ref b5), .val (.long t1), .second, .val (.long t2), .second, .val (.long (-4611686018427387904 : Int64)), .second, .val (.long d1), .second, .val (.long d2), .second, .val (.int (1 : Int32)), .val (.int (1 : Int32)), .val (.int (1 : Int32)), .val (.int cc), .val (.int (1 : Int32))] [(.int (1 : Int32))]))
            rw [hPP]
            refine endN X9 hx hlk (t := .boolean) hret (by simp) (hb hby at_329) (w := (1 : Int32)) (rfl) ?_ (by decide) (by decide)
            show Q0 Z q1 q2 q3 q4 p5 h0 n0 (some (.int (1 : Int32))) T9.heap _
            rw [e9]
            exact ⟨rfl, N6⟩
        · --
          refine Go.st (fun t k => XS.ifYes X9.here hx rfl (pc0 := 247) (pc' := 254) rfl (hb hby at_247) rfl (XT.i0_ne_t hc247) (by decide) (by decide) k) ?_
          show Go p.tables e below PP (T9.setTop (mkF m 254 #[.val (.long q1), .second, .val (.long q2), .second, .val (.long q3), .second, .val (.long q4), .second, .val (.int p5), .val (.long g1), .second, .val (.long o1), .second, .val (.long g2), .second, .val (.long o2), .second, .val (.ref b3), .val (.ref b5), .val (.long t1), .second, .val (.long t2), .second, .val (.long (-4611686018427387904 : Int64)), .second, .val (.long d1), .second, .val (.long d2), .second, .val (.int (1 : Int32)), .val (.int (1 : Int32)), .val (.int (1 : Int32)), .val (.int cc), .unset] []))
          refine Go.st (fun t k => XS.iconst X9.here hx rfl (hb hby at_254) k) ?_
          show Go p.tables e below PP (T9.setTop (mkF m 255 #[.val (.long q1), .second, .val (.long q2), .second, .val (.long q3), .second, .val (.long q4), .second, .val (.int p5), .val (.long g1), .second, .val (.long o1), .second, .val (.long g2), .second, .val (.long o2), .second, .val (.ref b3), .val (.ref b5), .val (.long t1), .second, .val (.long t2), .second, .val (.long (-4611686018427387904 : Int64)), .second, .val (.long d1), .second, .val (.long d2), .second, .val (.int (1 : Int32)), .val (.int (1 : Int32)), .val (.int (1 : Int32)), .val (.int cc), .unset] [(.int (0 : Int32))]))
          refine Go.st (fun t k => XS.lload X9.here hx rfl (hb hby at_255) rfl k) ?_
          show Go p.tables e below PP (T9.setTop (mkF m 257 #[.val (.long q1), .second, .val (.long q2), .second, .val (.long q3), .second, .val (.long q4), .second, .val (.int p5), .val (.long g1), .second, .val (.long o1), .second, .val (.long g2), .second, .val (.long o2), .second, .val (.ref b3), .val (.ref b5), .val (.long t1), .second, .val (.long t2), .second, .val (.long (-4611686018427387904 : Int64)), .second, .val (.long d1), .second, .val (.long d2), .second, .val (.int (1 : Int32)), .val (.int (1 : Int32)), .val (.int (1 : Int32)), .val (.int cc), .unset] [(.long t1), (.int (0 : Int32))]))
          refine Go.st (fun t k => XS.lload X9.here hx rfl (hb hby at_257) rfl k) ?_
          show Go p.tables e below PP (T9.setTop (mkF m 259 #[.val (.long q1), .second, .val (.long q2), .second, .val (.long q3), .second, .val (.long q4), .second, .val (.int p5), .val (.long g1), .second, .val (.long o1), .second, .val (.long g2), .second, .val (.long o2), .second, .val (.ref b3), .val (.ref b5), .val (.long t1), .second, .val (.long t2), .second, .val (.long (-4611686018427387904 : Int64)), .second, .val (.long d1), .second, .val (.long d2), .second, .val (.int (1 : Int32)), .val (.int (1 : Int32)), .val (.int (1 : Int32)), .val (.int cc), .unset] [(.long t2), (.long t1), (.int (0 : Int32))]))
          refine Go.st (fun t k => XS.lcmp X9.here hx rfl (hb hby at_259) rfl k) ?_
          show Go p.tables e below PP (T9.setTop (mkF m 260 #[.val (.long q1), .second, .val (.long q2), .second, .val (.long q3), .second, .val (.long q4), .second, .val (.int p5), .val (.long g1), .second, .val (.long o1), .second, .val (.long g2), .second, .val (.long o2), .second, .val (.ref b3), .val (.ref b5), .val (.long t1), .second, .val (.long t2), .second, .val (.long (-4611686018427387904 : Int64)), .second, .val (.long d1), .second, .val (.long d2), .second, .val (.int (1 : Int32)), .val (.int (1 : Int32)), .val (.int (1 : Int32)), .val (.int cc), .unset] [(.int (XT.cmpL t1 t2)), (.int (0 : Int32))]))
          refine Go.st (fun t k => XS.ifYes X9.here hx rfl (pc0 := 260) (pc' := 267) rfl (hb hby at_260) rfl (XT.ll_ne_t (fun q => hc247 ((own_ord _ _ _ _ _ _ _ hg1 ho1 hJ32 hJ52 ht1 ht2 hcc).2.1.mpr q))) (by decide) (by decide) k) ?_
          show Go p.tables e below PP (T9.setTop (mkF m 267 #[.val (.long q1), .second, .val (.long q2), .second, .val (.long q3), .second, .val (.long q4), .second, .val (.int p5), .val (.long g1), .second, .val (.long o1), .second, .val (.long g2), .second, .val (.long o2), .second, .val (.ref b3), .val (.ref b5), .val (.long t1), .second, .val (.long t2), .second, .val (.long (-4611686018427387904 : Int64)), .second, .val (.long d1), .second, .val (.long d2), .second, .val (.int (1 : Int32)), .val (.int (1 : Int32)), .val (.int (1 : Int32)), .val (.int cc), .unset] [(.int (0 : Int32))]))
          refine Go.st (fun t k => XS.iconst X9.here hx rfl (hb hby at_267) k) ?_
          show Go p.tables e below PP (T9.setTop (mkF m 268 #[.val (.long q1), .second, .val (.long q2), .second, .val (.long q3), .second, .val (.long q4), .second, .val (.int p5), .val (.long g1), .second, .val (.long o1), .second, .val (.long g2), .second, .val (.long o2), .second, .val (.ref b3), .val (.ref b5), .val (.long t1), .second, .val (.long t2), .second, .val (.long (-4611686018427387904 : Int64)), .second, .val (.long d1), .second, .val (.long d2), .second, .val (.int (1 : Int32)), .val (.int (1 : Int32)), .val (.int (1 : Int32)), .val (.int cc), .unset] [(.int (0 : Int32)), (.int (0 : Int32))]))
          refine Go.st (fun t k => XS.icmpNo X9.here hx rfl (hb hby at_268) rfl (XT.ii_ne_f (by decide)) k) ?_
          show Go p.tables e below PP (T9.setTop (mkF m 271 #[.val (.long q1), .second, .val (.long q2), .second, .val (.long q3), .second, .val (.long q4), .second, .val (.int p5), .val (.long g1), .second, .val (.long o1), .second, .val (.long g2), .second, .val (.long o2), .second, .val (.ref b3), .val (.ref b5), .val (.long t1), .second, .val (.long t2), .second, .val (.long (-4611686018427387904 : Int64)), .second, .val (.long d1), .second, .val (.long d2), .second, .val (.int (1 : Int32)), .val (.int (1 : Int32)), .val (.int (1 : Int32)), .val (.int cc), .unset] []))
          refine Go.st (fun t k => XS.iload X9.here hx rfl (hb hby at_271) rfl k) ?_
          show Go p.tables e below PP (T9.setTop (mkF m 273 #[.val (.long q1), .second, .val (.long q2), .second, .val (.long q3), .second, .val (.long q4), .second, .val (.int p5), .val (.long g1), .second, .val (.long o1), .second, .val (.long g2), .second, .val (.long o2), .second, .val (.ref b3), .val (.ref b5), .val (.long t1), .second, .val (.long t2), .second, .val (.long (-4611686018427387904 : Int64)), .second, .val (.long d1), .second, .val (.long d2), .second, .val (.int (1 : Int32)), .val (.int (1 : Int32)), .val (.int (1 : Int32)), .val (.int cc), .unset] [(.int cc)]))
          by_cases hc273 : (0 : Int32) < cc
          · --
            refine Go.st (fun t k => XS.ifNo X9.here hx rfl (hb hby at_273) rfl (XT.i0_le_f hc273) k) ?_
            show Go p.tables e below PP (T9.setTop (mkF m 276 #[.val (.long q1), .second, .val (.long q2), .second, .val (.long q3), .second, .val (.long q4), .second, .val (.int p5), .val (.long g1), .second, .val (.long o1), .second, .val (.long g2), .second, .val (.long o2), .second, .val (.ref b3), .val (.ref b5), .val (.long t1), .second, .val (.long t2), .second, .val (.long (-4611686018427387904 : Int64)), .second, .val (.long d1), .second, .val (.long d2), .second, .val (.int (1 : Int32)), .val (.int (1 : Int32)), .val (.int (1 : Int32)), .val (.int cc), .unset] []))
            refine Go.st (fun t k => XS.iconst X9.here hx rfl (hb hby at_276) k) ?_
            show Go p.tables e below PP (T9.setTop (mkF m 277 #[.val (.long q1), .second, .val (.long q2), .second, .val (.long q3), .second, .val (.long q4), .second, .val (.int p5), .val (.long g1), .second, .val (.long o1), .second, .val (.long g2), .second, .val (.long o2), .second, .val (.ref b3), .val (.ref b5), .val (.long t1), .second, .val (.long t2), .second, .val (.long (-4611686018427387904 : Int64)), .second, .val (.long d1), .second, .val (.long d2), .second, .val (.int (1 : Int32)), .val (.int (1 : Int32)), .val (.int (1 : Int32)), .val (.int cc), .unset] [(.int (1 : Int32))]))
            refine Go.st (fun t k => XS.goto X9.here hx rfl (pc0 := 277) (pc' := 281) rfl (hb hby at_277) (by decide) (by decide) k) ?_
            show Go p.tables e below PP (T9.setTop (mkF m 281 #[.val (.long q1), .second, .val (.long q2), .second, .val (.long q3), .second, .val (.long q4), .second, .val (.int p5), .val (.long g1), .second, .val (.long o1), .second, .val (.long g2), .second, .val (.long o2), .second, .val (.ref b3), .val (.ref b5), .val (.long t1), .second, .val (.long t2), .second, .val (.long (-4611686018427387904 : Int64)), .second, .val (.long d1), .second, .val (.long d2), .second, .val (.int (1 : Int32)), .val (.int (1 : Int32)), .val (.int (1 : Int32)), .val (.int cc), .unset] [(.int (1 : Int32))]))
            refine Go.st (fun t k => XS.lload X9.here hx rfl (hb hby at_281) rfl k) ?_
            show Go p.tables e below PP (T9.setTop (mkF m 283 #[.val (.long q1), .second, .val (.long q2), .second, .val (.long q3), .second, .val (.long q4), .second, .val (.int p5), .val (.long g1), .second, .val (.long o1), .second, .val (.long g2), .second, .val (.long o2), .second, .val (.ref b3), .val (.ref b5), .val (.long t1), .second, .val (.long t2), .second, .val (.long (-4611686018427387904 : Int64)), .second, .val (.long d1), .second, .val (.long d2), .second, .val (.int (1 : Int32)), .val (.int (1 : Int32)), .val (.int (1 : Int32)), .val (.int cc), .unset] [(.long t1), (.int (1 : Int32))]))
            refine Go.st (fun t k => XS.lload X9.here hx rfl (hb hby at_283) rfl k) ?_
            show Go p.tables e below PP (T9.setTop (mkF m 285 #[.val (.long q1), .second, .val (.long q2), .second, .val (.long q3), .second, .val (.long q4), .second, .val (.int p5), .val (.long g1), .second, .val (.long o1), .second, .val (.long g2), .second, .val (.long o2), .second, .val (.ref b3), .val (.ref b5), .val (.long t1), .second, .val (.long t2), .second, .val (.long (-4611686018427387904 : Int64)), .second, .val (.long d1), .second, .val (.long d2), .second, .val (.int (1 : Int32)), .val (.int (1 : Int32)), .val (.int (1 : Int32)), .val (.int cc), .unset] [(.long t2), (.long t1), (.int (1 : Int32))]))
            refine Go.st (fun t k => XS.lcmp X9.here hx rfl (hb hby at_285) rfl k) ?_
            show Go p.tables e below PP (T9.setTop (mkF m 286 #[.val (.long q1), .second, .val (.long q2), .second, .val (.long q3), .second, .val (.long q4), .second, .val (.int p5), .val (.long g1), .second, .val (.long o1), .second, .val (.long g2), .second, .val (.long o2), .second, .val (.ref b3), .val (.ref b5), .val (.long t1), .second, .val (.long t2), .second, .val (.long (-4611686018427387904 : Int64)), .second, .val (.long d1), .second, .val (.long d2), .second, .val (.int (1 : Int32)), .val (.int (1 : Int32)), .val (.int (1 : Int32)), .val (.int cc), .unset] [(.int (XT.cmpL t1 t2)), (.int (1 : Int32))]))
            refine Go.st (fun t k => XS.ifNo X9.here hx rfl (hb hby at_286) rfl (XT.ll_le_f ((own_ord _ _ _ _ _ _ _ hg1 ho1 hJ32 hJ52 ht1 ht2 hcc).2.2.mp hc273)) k) ?_
            show Go p.tables e below PP (T9.setTop (mkF m 289 #[.val (.long q1), .second, .val (.long q2), .second, .val (.long q3), .second, .val (.long q4), .second, .val (.int p5), .val (.long g1), .second, .val (.long o1), .second, .val (.long g2), .second, .val (.long o2), .second, .val (.ref b3), .val (.ref b5), .val (.long t1), .second, .val (.long t2), .second, .val (.long (-4611686018427387904 : Int64)), .second, .val (.long d1), .second, .val (.long d2), .second, .val (.int (1 : Int32)), .val (.int (1 : Int32)), .val (.int (1 : Int32)), .val (.int cc), .unset] [(.int (1 : Int32))]))
            refine Go.st (fun t k => XS.iconst X9.here hx rfl (hb hby at_289) k) ?_
            show Go p.tables e below PP (T9.setTop (mkF m 290 #[.val (.long q1), .second, .val (.long q2), .second, .val (.long q3), .second, .val (.long q4), .second, .val (.int p5), .val (.long g1), .second, .val (.long o1), .second, .val (.long g2), .second, .val (.long o2), .second, .val (.ref b3), .val (.ref b5), .val (.long t1), .second, .val (.long t2), .second, .val (.long (-4611686018427387904 : Int64)), .second, .val (.long d1), .second, .val (.long d2), .second, .val (.int (1 : Int32)), .val (.int (1 : Int32)), .val (.int (1 : Int32)), .val (.int cc), .unset] [(.int (1 : Int32)), (.int (1 : Int32))]))
            refine Go.st (fun t k => XS.goto X9.here hx rfl (pc0 := 290) (pc' := 294) rfl (hb hby at_290) (by decide) (by decide) k) ?_
            show Go p.tables e below PP (T9.setTop (mkF m 294 #[.val (.long q1), .second, .val (.long q2), .second, .val (.long q3), .second, .val (.long q4), .second, .val (.int p5), .val (.long g1), .second, .val (.long o1), .second, .val (.long g2), .second, .val (.long o2), .second, .val (.ref b3), .val (.ref b5), .val (.long t1), .second, .val (.long t2), .second, .val (.long (-4611686018427387904 : Int64)), .second, .val (.long d1), .second, .val (.long d2), .second, .val (.int (1 : Int32)), .val (.int (1 : Int32)), .val (.int (1 : Int32)), .val (.int cc), .unset] [(.int (1 : Int32)), (.int (1 : Int32))]))
            refine Go.st (fun t k => XS.icmpNo X9.here hx rfl (hb hby at_294) rfl (XT.ii_ne_f (by decide)) k) ?_
            show Go p.tables e below PP (T9.setTop (mkF m 297 #[.val (.long q1), .second, .val (.long q2), .second, .val (.long q3), .second, .val (.long q4), .second, .val (.int p5), .val (.long g1), .second, .val (.long o1), .second, .val (.long g2), .second, .val (.long o2), .second, .val (.ref b3), .val (.ref b5), .val (.long t1), .second, .val (.long t2), .second, .val (.long (-4611686018427387904 : Int64)), .second, .val (.long d1), .second, .val (.long d2), .second, .val (.int (1 : Int32)), .val (.int (1 : Int32)), .val (.int (1 : Int32)), .val (.int cc), .unset] []))
            refine Go.st (fun t k => XS.iconst X9.here hx rfl (hb hby at_297) k) ?_
            show Go p.tables e below PP (T9.setTop (mkF m 298 #[.val (.long q1), .second, .val (.long q2), .second, .val (.long q3), .second, .val (.long q4), .second, .val (.int p5), .val (.long g1), .second, .val (.long o1), .second, .val (.long g2), .second, .val (.long o2), .second, .val (.ref b3), .val (.ref b5), .val (.long t1), .second, .val (.long t2), .second, .val (.long (-4611686018427387904 : Int64)), .second, .val (.long d1), .second, .val (.long d2), .second, .val (.int (1 : Int32)), .val (.int (1 : Int32)), .val (.int (1 : Int32)), .val (.int cc), .unset] [(.int (1 : Int32))]))
            refine Go.st (fun t k => XS.goto X9.here hx rfl (pc0 := 298) (pc' := 302) rfl (hb hby at_298) (by decide) (by decide) k) ?_
            show Go p.tables e below PP (T9.setTop (mkF m 302 #[.val (.long q1), .second, .val (.long q2), .second, .val (.long q3), .second, .val (.long q4), .second, .val (.int p5), .val (.long g1), .second, .val (.long o1), .second, .val (.long g2), .second, .val (.long o2), .second, .val (.ref b3), .val (.ref b5), .val (.long t1), .second, .val (.long t2), .second, .val (.long (-4611686018427387904 : Int64)), .second, .val (.long d1), .second, .val (.long d2), .second, .val (.int (1 : Int32)), .val (.int (1 : Int32)), .val (.int (1 : Int32)), .val (.int cc), .unset] [(.int (1 : Int32))]))
            refine Go.st (fun t k => XS.istore X9.here hx rfl (hb hby at_302) rfl (l' := #[.val (.long q1), .second, .val (.long q2), .second, .val (.long q3), .second, .val (.long q4), .second, .val (.int p5), .val (.long g1), .second, .val (.long o1), .second, .val (.long g2), .second, .val (.long o2), .second, .val (.ref b3), .val (.ref b5), .val (.long t1), .second, .val (.long t2), .second, .val (.long (-4611686018427387904 : Int64)), .second, .val (.long d1), .second, .val (.long d2), .second, .val (.int (1 : Int32)), .val (.int (1 : Int32)), .val (.int (1 : Int32)), .val (.int cc), .val (.int (1 : Int32))]) rfl k) ?_
            show Go p.tables e below PP (T9.setTop (mkF m 304 #[.val (.long q1), .second, .val (.long q2), .second, .val (.long q3), .second, .val (.long q4), .second, .val (.int p5), .val (.long g1), .second, .val (.long o1), .second, .val (.long g2), .second, .val (.long o2), .second, .val (.ref b3), .val (.ref b5), .val (.long t1), .second, .val (.long t2), .second, .val (.long (-4611686018427387904 : Int64)), .second, .val (.long d1), .second, .val (.long d2), .second, .val (.int (1 : Int32)), .val (.int (1 : Int32)), .val (.int (1 : Int32)), .val (.int cc), .val (.int (1 : Int32))] []))
            refine Go.st (fun t k => XS.iload X9.here hx rfl (hb hby at_304) rfl k) ?_
            show Go p.tables e below PP (T9.setTop (mkF m 306 #[.val (.long q1), .second, .val (.long q2), .second, .val (.long q3), .second, .val (.long q4), .second, .val (.int p5), .val (.long g1), .second, .val (.long o1), .second, .val (.long g2), .second, .val (.long o2), .second, .val (.ref b3), .val (.ref b5), .val (.long t1), .second, .val (.long t2), .second, .val (.long (-4611686018427387904 : Int64)), .second, .val (.long d1), .second, .val (.long d2), .second, .val (.int (1 : Int32)), .val (.int (1 : Int32)), .val (.int (1 : Int32)), .val (.int cc), .val (.int (1 : Int32))] [(.int (1 : Int32))]))
            refine Go.st (fun t k => XS.ifNo X9.here hx rfl (hb hby at_306) rfl (XT.i0_eq_f (by decide)) k) ?_
            show Go p.tables e below PP (T9.setTop (mkF m 309 #[.val (.long q1), .second, .val (.long q2), .second, .val (.long q3), .second, .val (.long q4), .second, .val (.int p5), .val (.long g1), .second, .val (.long o1), .second, .val (.long g2), .second, .val (.long o2), .second, .val (.ref b3), .val (.ref b5), .val (.long t1), .second, .val (.long t2), .second, .val (.long (-4611686018427387904 : Int64)), .second, .val (.long d1), .second, .val (.long d2), .second, .val (.int (1 : Int32)), .val (.int (1 : Int32)), .val (.int (1 : Int32)), .val (.int cc), .val (.int (1 : Int32))] []))
            refine Go.st (fun t k => XS.iload X9.here hx rfl (hb hby at_309) rfl k) ?_
            show Go p.tables e below PP (T9.setTop (mkF m 311 #[.val (.long q1), .second, .val (.long q2), .second, .val (.long q3), .second, .val (.long q4), .second, .val (.int p5), .val (.long g1), .second, .val (.long o1), .second, .val (.long g2), .second, .val (.long o2), .second, .val (.ref b3), .val (.ref b5), .val (.long t1), .second, .val (.long t2), .second, .val (.long (-4611686018427387904 : Int64)), .second, .val (.long d1), .second, .val (.long d2), .second, .val (.int (1 : Int32)), .val (.int (1 : Int32)), .val (.int (1 : Int32)), .val (.int cc), .val (.int (1 : Int32))] [(.int (1 : Int32))]))
            refine Go.st (fun t k => XS.ifNo X9.here hx rfl (hb hby at_311) rfl (XT.i0_eq_f (by decide)) k) ?_
            show Go p.tables e below PP (T9.setTop (mkF m 314 #[.val (.long q1), .second, .val (.long q2), .second, .val (.long q3), .second, .val (.long q4), .second, .val (.int p5), .val (.long g1), .second, .val (.long o1), .second, .val (.long g2), .second, .val (.long o2), .second, .val (.ref b3), .val (.ref b5), .val (.long t1), .second, .val (.long t2), .second, .val (.long (-4611686018427387904 : Int64)), .second, .val (.long d1), .second, .val (.long d2), .second, .val (.int (1 : Int32)), .val (.int (1 : Int32)), .val (.int (1 : Int32)), .val (.int cc), .val (.int (1 : Int32))] []))
            refine Go.st (fun t k => XS.iload X9.here hx rfl (hb hby at_314) rfl k) ?_
            show Go p.tables e below PP (T9.setTop (mkF m 316 #[.val (.long q1), .second, .val (.long q2), .second, .val (.long q3), .second, .val (.long q4), .second, .val (.int p5), .val (.long g1), .second, .val (.long o1), .second, .val (.long g2), .second, .val (.long o2), .second, .val (.ref b3), .val (.ref b5), .val (.long t1), .second, .val (.long t2), .second, .val (.long (-4611686018427387904 : Int64)), .second, .val (.long d1), .second, .val (.long d2), .second, .val (.int (1 : Int32)), .val (.int (1 : Int32)), .val (.int (1 : Int32)), .val (.int cc), .val (.int (1 : Int32))] [(.int (1 : Int32))]))
            refine Go.st (fun t k => XS.ifNo X9.here hx rfl (hb hby at_316) rfl (XT.i0_eq_f (by decide)) k) ?_
            show Go p.tables e below PP (T9.setTop (mkF m 319 #[.val (.long q1), .second, .val (.long q2), .second, .val (.long q3), .second, .val (.long q4), .second, .val (.int p5), .val (.long g1), .second, .val (.long o1), .second, .val (.long g2), .second, .val (.long o2), .second, .val (.ref b3), .val (.ref b5), .val (.long t1), .second, .val (.long t2), .second, .val (.long (-4611686018427387904 : Int64)), .second, .val (.long d1), .second, .val (.long d2), .second, .val (.int (1 : Int32)), .val (.int (1 : Int32)), .val (.int (1 : Int32)), .val (.int cc), .val (.int (1 : Int32))] []))
            refine Go.st (fun t k => XS.iload X9.here hx rfl (hb hby at_319) rfl k) ?_
            show Go p.tables e below PP (T9.setTop (mkF m 321 #[.val (.long q1), .second, .val (.long q2), .second, .val (.long q3), .second, .val (.long q4), .second, .val (.int p5), .val (.long g1), .second, .val (.long o1), .second, .val (.long g2), .second, .val (.long o2), .second, .val (.ref b3), .val (.ref b5), .val (.long t1), .second, .val (.long t2), .second, .val (.long (-4611686018427387904 : Int64)), .second, .val (.long d1), .second, .val (.long d2), .second, .val (.int (1 : Int32)), .val (.int (1 : Int32)), .val (.int (1 : Int32)), .val (.int cc), .val (.int (1 : Int32))] [(.int (1 : Int32))]))
            refine Go.st (fun t k => XS.ifNo X9.here hx rfl (hb hby at_321) rfl (XT.i0_eq_f (by decide)) k) ?_
            show Go p.tables e below PP (T9.setTop (mkF m 324 #[.val (.long q1), .second, .val (.long q2), .second, .val (.long q3), .second, .val (.long q4), .second, .val (.int p5), .val (.long g1), .second, .val (.long o1), .second, .val (.long g2), .second, .val (.long o2), .second, .val (.ref b3), .val (.ref b5), .val (.long t1), .second, .val (.long t2), .second, .val (.long (-4611686018427387904 : Int64)), .second, .val (.long d1), .second, .val (.long d2), .second, .val (.int (1 : Int32)), .val (.int (1 : Int32)), .val (.int (1 : Int32)), .val (.int cc), .val (.int (1 : Int32))] []))
            refine Go.st (fun t k => XS.iconst X9.here hx rfl (hb hby at_324) k) ?_
            show Go p.tables e below PP (T9.setTop (mkF m 325 #[.val (.long q1), .second, .val (.long q2), .second, .val (.long q3), .second, .val (.long q4), .second, .val (.int p5), .val (.long g1), .second, .val (.long o1), .second, .val (.long g2), .second, .val (.long o2), .second, .val (.ref b3), .val (.ref b5), .val (.long t1), .second, .val (.long t2), .second, .val (.long (-4611686018427387904 : Int64)), .second, .val (.long d1), .second, .val (.long d2), .second, .val (.int (1 : Int32)), .val (.int (1 : Int32)), .val (.int (1 : Int32)), .val (.int cc), .val (.int (1 : Int32))] [(.int (1 : Int32))]))
            refine Go.st (fun t k => XS.goto X9.here hx rfl (pc0 := 325) (pc' := 329) rfl (hb hby at_325) (by decide) (by decide) k) ?_
            show Go p.tables e below PP (T9.setTop (mkF m 329 #[.val (.long q1), .second, .val (.long q2), .second, .val (.long q3), .second, .val (.long q4), .second, .val (.int p5), .val (.long g1), .second, .val (.long o1), .second, .val (.long g2), .second, .val (.long o2), .second, .val (.ref b3), .val (.ref b5), .val (.long t1), .second, .val (.long t2), .second, .val (.long (-4611686018427387904 : Int64)), .second, .val (.long d1), .second, .val (.long d2), .second, .val (.int (1 : Int32)), .val (.int (1 : Int32)), .val (.int (1 : Int32)), .val (.int cc), .val (.int (1 : Int32))] [(.int (1 : Int32))]))
            rw [hPP]
            refine endN X9 hx hlk (t := .boolean) hret (by simp) (hb hby at_329) (w := (1 : Int32)) (rfl) ?_ (by decide) (by decide)
            show Q0 Z q1 q2 q3 q4 p5 h0 n0 (some (.int (1 : Int32))) T9.heap _
            rw [e9]
            exact ⟨rfl, N6⟩
          · --
            refine Go.st (fun t k => XS.ifYes X9.here hx rfl (pc0 := 273) (pc' := 280) rfl (hb hby at_273) rfl (XT.i0_le_t hc273) (by decide) (by decide) k) ?_
            show Go p.tables e below PP (T9.setTop (mkF m 280 #[.val (.long q1), .second, .val (.long q2), .second, .val (.long q3), .second, .val (.long q4), .second, .val (.int p5), .val (.long g1), .second, .val (.long o1), .second, .val (.long g2), .second, .val (.long o2), .second, .val (.ref b3), .val (.ref b5), .val (.long t1), .second, .val (.long t2), .second, .val (.long (-4611686018427387904 : Int64)), .second, .val (.long d1), .second, .val (.long d2), .second, .val (.int (1 : Int32)), .val (.int (1 : Int32)), .val (.int (1 : Int32)), .val (.int cc), .unset] []))
            refine Go.st (fun t k => XS.iconst X9.here hx rfl (hb hby at_280) k) ?_
            show Go p.tables e below PP (T9.setTop (mkF m 281 #[.val (.long q1), .second, .val (.long q2), .second, .val (.long q3), .second, .val (.long q4), .second, .val (.int p5), .val (.long g1), .second, .val (.long o1), .second, .val (.long g2), .second, .val (.long o2), .second, .val (.ref b3), .val (.ref b5), .val (.long t1), .second, .val (.long t2), .second, .val (.long (-4611686018427387904 : Int64)), .second, .val (.long d1), .second, .val (.long d2), .second, .val (.int (1 : Int32)), .val (.int (1 : Int32)), .val (.int (1 : Int32)), .val (.int cc), .unset] [(.int (0 : Int32))]))
            refine Go.st (fun t k => XS.lload X9.here hx rfl (hb hby at_281) rfl k) ?_
            show Go p.tables e below PP (T9.setTop (mkF m 283 #[.val (.long q1), .second, .val (.long q2), .second, .val (.long q3), .second, .val (.long q4), .second, .val (.int p5), .val (.long g1), .second, .val (.long o1), .second, .val (.long g2), .second, .val (.long o2), .second, .val (.ref b3), .val (.ref b5), .val (.long t1), .second, .val (.long t2), .second, .val (.long (-4611686018427387904 : Int64)), .second, .val (.long d1), .second, .val (.long d2), .second, .val (.int (1 : Int32)), .val (.int (1 : Int32)), .val (.int (1 : Int32)), .val (.int cc), .unset] [(.long t1), (.int (0 : Int32))]))
            refine Go.st (fun t k => XS.lload X9.here hx rfl (hb hby at_283) rfl k) ?_
            show Go p.tables e below PP (T9.setTop (mkF m 285 #[.val (.long q1), .second, .val (.long q2), .second, .val (.long q3), .second, .val (.long q4), .second, .val (.int p5), .val (.long g1), .second, .val (.long o1), .second, .val (.long g2), .second, .val (.long o2), .second, .val (.ref b3), .val (.ref b5), .val (.long t1), .second, .val (.long t2), .second, .val (.long (-4611686018427387904 : Int64)), .second, .val (.long d1), .second, .val (.long d2), .second, .val (.int (1 : Int32)), .val (.int (1 : Int32)), .val (.int (1 : Int32)), .val (.int cc), .unset] [(.long t2), (.long t1), (.int (0 : Int32))]))
            refine Go.st (fun t k => XS.lcmp X9.here hx rfl (hb hby at_285) rfl k) ?_
            show Go p.tables e below PP (T9.setTop (mkF m 286 #[.val (.long q1), .second, .val (.long q2), .second, .val (.long q3), .second, .val (.long q4), .second, .val (.int p5), .val (.long g1), .second, .val (.long o1), .second, .val (.long g2), .second, .val (.long o2), .second, .val (.ref b3), .val (.ref b5), .val (.long t1), .second, .val (.long t2), .second, .val (.long (-4611686018427387904 : Int64)), .second, .val (.long d1), .second, .val (.long d2), .second, .val (.int (1 : Int32)), .val (.int (1 : Int32)), .val (.int (1 : Int32)), .val (.int cc), .unset] [(.int (XT.cmpL t1 t2)), (.int (0 : Int32))]))
            refine Go.st (fun t k => XS.ifYes X9.here hx rfl (pc0 := 286) (pc' := 293) rfl (hb hby at_286) rfl (XT.ll_le_t (fun q => hc273 ((own_ord _ _ _ _ _ _ _ hg1 ho1 hJ32 hJ52 ht1 ht2 hcc).2.2.mpr q))) (by decide) (by decide) k) ?_
            show Go p.tables e below PP (T9.setTop (mkF m 293 #[.val (.long q1), .second, .val (.long q2), .second, .val (.long q3), .second, .val (.long q4), .second, .val (.int p5), .val (.long g1), .second, .val (.long o1), .second, .val (.long g2), .second, .val (.long o2), .second, .val (.ref b3), .val (.ref b5), .val (.long t1), .second, .val (.long t2), .second, .val (.long (-4611686018427387904 : Int64)), .second, .val (.long d1), .second, .val (.long d2), .second, .val (.int (1 : Int32)), .val (.int (1 : Int32)), .val (.int (1 : Int32)), .val (.int cc), .unset] [(.int (0 : Int32))]))
            refine Go.st (fun t k => XS.iconst X9.here hx rfl (hb hby at_293) k) ?_
            show Go p.tables e below PP (T9.setTop (mkF m 294 #[.val (.long q1), .second, .val (.long q2), .second, .val (.long q3), .second, .val (.long q4), .second, .val (.int p5), .val (.long g1), .second, .val (.long o1), .second, .val (.long g2), .second, .val (.long o2), .second, .val (.ref b3), .val (.ref b5), .val (.long t1), .second, .val (.long t2), .second, .val (.long (-4611686018427387904 : Int64)), .second, .val (.long d1), .second, .val (.long d2), .second, .val (.int (1 : Int32)), .val (.int (1 : Int32)), .val (.int (1 : Int32)), .val (.int cc), .unset] [(.int (0 : Int32)), (.int (0 : Int32))]))
            refine Go.st (fun t k => XS.icmpNo X9.here hx rfl (hb hby at_294) rfl (XT.ii_ne_f (by decide)) k) ?_
            show Go p.tables e below PP (T9.setTop (mkF m 297 #[.val (.long q1), .second, .val (.long q2), .second, .val (.long q3), .second, .val (.long q4), .second, .val (.int p5), .val (.long g1), .second, .val (.long o1), .second, .val (.long g2), .second, .val (.long o2), .second, .val (.ref b3), .val (.ref b5), .val (.long t1), .second, .val (.long t2), .second, .val (.long (-4611686018427387904 : Int64)), .second, .val (.long d1), .second, .val (.long d2), .second, .val (.int (1 : Int32)), .val (.int (1 : Int32)), .val (.int (1 : Int32)), .val (.int cc), .unset] []))
            refine Go.st (fun t k => XS.iconst X9.here hx rfl (hb hby at_297) k) ?_
            show Go p.tables e below PP (T9.setTop (mkF m 298 #[.val (.long q1), .second, .val (.long q2), .second, .val (.long q3), .second, .val (.long q4), .second, .val (.int p5), .val (.long g1), .second, .val (.long o1), .second, .val (.long g2), .second, .val (.long o2), .second, .val (.ref b3), .val (.ref b5), .val (.long t1), .second, .val (.long t2), .second, .val (.long (-4611686018427387904 : Int64)), .second, .val (.long d1), .second, .val (.long d2), .second, .val (.int (1 : Int32)), .val (.int (1 : Int32)), .val (.int (1 : Int32)), .val (.int cc), .unset] [(.int (1 : Int32))]))
            refine Go.st (fun t k => XS.goto X9.here hx rfl (pc0 := 298) (pc' := 302) rfl (hb hby at_298) (by decide) (by decide) k) ?_
            show Go p.tables e below PP (T9.setTop (mkF m 302 #[.val (.long q1), .second, .val (.long q2), .second, .val (.long q3), .second, .val (.long q4), .second, .val (.int p5), .val (.long g1), .second, .val (.long o1), .second, .val (.long g2), .second, .val (.long o2), .second, .val (.ref b3), .val (.ref b5), .val (.long t1), .second, .val (.long t2), .second, .val (.long (-4611686018427387904 : Int64)), .second, .val (.long d1), .second, .val (.long d2), .second, .val (.int (1 : Int32)), .val (.int (1 : Int32)), .val (.int (1 : Int32)), .val (.int cc), .unset] [(.int (1 : Int32))]))
            refine Go.st (fun t k => XS.istore X9.here hx rfl (hb hby at_302) rfl (l' := #[.val (.long q1), .second, .val (.long q2), .second, .val (.long q3), .second, .val (.long q4), .second, .val (.int p5), .val (.long g1), .second, .val (.long o1), .second, .val (.long g2), .second, .val (.long o2), .second, .val (.ref b3), .val (.ref b5), .val (.long t1), .second, .val (.long t2), .second, .val (.long (-4611686018427387904 : Int64)), .second, .val (.long d1), .second, .val (.long d2), .second, .val (.int (1 : Int32)), .val (.int (1 : Int32)), .val (.int (1 : Int32)), .val (.int cc), .val (.int (1 : Int32))]) rfl k) ?_
            show Go p.tables e below PP (T9.setTop (mkF m 304 #[.val (.long q1), .second, .val (.long q2), .second, .val (.long q3), .second, .val (.long q4), .second, .val (.int p5), .val (.long g1), .second, .val (.long o1), .second, .val (.long g2), .second, .val (.long o2), .second, .val (.ref b3), .val (.ref b5), .val (.long t1), .second, .val (.long t2), .second, .val (.long (-4611686018427387904 : Int64)), .second, .val (.long d1), .second, .val (.long d2), .second, .val (.int (1 : Int32)), .val (.int (1 : Int32)), .val (.int (1 : Int32)), .val (.int cc), .val (.int (1 : Int32))] []))
            refine Go.st (fun t k => XS.iload X9.here hx rfl (hb hby at_304) rfl k) ?_
            show Go p.tables e below PP (T9.setTop (mkF m 306 #[.val (.long q1), .second, .val (.long q2), .second, .val (.long q3), .second, .val (.long q4), .second, .val (.int p5), .val (.long g1), .second, .val (.long o1), .second, .val (.long g2), .second, .val (.long o2), .second, .val (.ref b3), .val (.ref b5), .val (.long t1), .second, .val (.long t2), .second, .val (.long (-4611686018427387904 : Int64)), .second, .val (.long d1), .second, .val (.long d2), .second, .val (.int (1 : Int32)), .val (.int (1 : Int32)), .val (.int (1 : Int32)), .val (.int cc), .val (.int (1 : Int32))] [(.int (1 : Int32))]))
            refine Go.st (fun t k => XS.ifNo X9.here hx rfl (hb hby at_306) rfl (XT.i0_eq_f (by decide)) k) ?_
            show Go p.tables e below PP (T9.setTop (mkF m 309 #[.val (.long q1), .second, .val (.long q2), .second, .val (.long q3), .second, .val (.long q4), .second, .val (.int p5), .val (.long g1), .second, .val (.long o1), .second, .val (.long g2), .second, .val (.long o2), .second, .val (.ref b3), .val (.ref b5), .val (.long t1), .second, .val (.long t2), .second, .val (.long (-4611686018427387904 : Int64)), .second, .val (.long d1), .second, .val (.long d2), .second, .val (.int (1 : Int32)), .val (.int (1 : Int32)), .val (.int (1 : Int32)), .val (.int cc), .val (.int (1 : Int32))] []))
            refine Go.st (fun t k => XS.iload X9.here hx rfl (hb hby at_309) rfl k) ?_
            show Go p.tables e below PP (T9.setTop (mkF m 311 #[.val (.long q1), .second, .val (.long q2), .second, .val (.long q3), .second, .val (.long q4), .second, .val (.int p5), .val (.long g1), .second, .val (.long o1), .second, .val (.long g2), .second, .val (.long o2), .second, .val (.ref b3), .val (.ref b5), .val (.long t1), .second, .val (.long t2), .second, .val (.long (-4611686018427387904 : Int64)), .second, .val (.long d1), .second, .val (.long d2), .second, .val (.int (1 : Int32)), .val (.int (1 : Int32)), .val (.int (1 : Int32)), .val (.int cc), .val (.int (1 : Int32))] [(.int (1 : Int32))]))
            refine Go.st (fun t k => XS.ifNo X9.here hx rfl (hb hby at_311) rfl (XT.i0_eq_f (by decide)) k) ?_
            show Go p.tables e below PP (T9.setTop (mkF m 314 #[.val (.long q1), .second, .val (.long q2), .second, .val (.long q3), .second, .val (.long q4), .second, .val (.int p5), .val (.long g1), .second, .val (.long o1), .second, .val (.long g2), .second, .val (.long o2), .second, .val (.ref b3), .val (.ref b5), .val (.long t1), .second, .val (.long t2), .second, .val (.long (-4611686018427387904 : Int64)), .second, .val (.long d1), .second, .val (.long d2), .second, .val (.int (1 : Int32)), .val (.int (1 : Int32)), .val (.int (1 : Int32)), .val (.int cc), .val (.int (1 : Int32))] []))
            refine Go.st (fun t k => XS.iload X9.here hx rfl (hb hby at_314) rfl k) ?_
            show Go p.tables e below PP (T9.setTop (mkF m 316 #[.val (.long q1), .second, .val (.long q2), .second, .val (.long q3), .second, .val (.long q4), .second, .val (.int p5), .val (.long g1), .second, .val (.long o1), .second, .val (.long g2), .second, .val (.long o2), .second, .val (.ref b3), .val (.ref b5), .val (.long t1), .second, .val (.long t2), .second, .val (.long (-4611686018427387904 : Int64)), .second, .val (.long d1), .second, .val (.long d2), .second, .val (.int (1 : Int32)), .val (.int (1 : Int32)), .val (.int (1 : Int32)), .val (.int cc), .val (.int (1 : Int32))] [(.int (1 : Int32))]))
            refine Go.st (fun t k => XS.ifNo X9.here hx rfl (hb hby at_316) rfl (XT.i0_eq_f (by decide)) k) ?_
            show Go p.tables e below PP (T9.setTop (mkF m 319 #[.val (.long q1), .second, .val (.long q2), .second, .val (.long q3), .second, .val (.long q4), .second, .val (.int p5), .val (.long g1), .second, .val (.long o1), .second, .val (.long g2), .second, .val (.long o2), .second, .val (.ref b3), .val (.ref b5), .val (.long t1), .second, .val (.long t2), .second, .val (.long (-4611686018427387904 : Int64)), .second, .val (.long d1), .second, .val (.long d2), .second, .val (.int (1 : Int32)), .val (.int (1 : Int32)), .val (.int (1 : Int32)), .val (.int cc), .val (.int (1 : Int32))] []))
            refine Go.st (fun t k => XS.iload X9.here hx rfl (hb hby at_319) rfl k) ?_
            show Go p.tables e below PP (T9.setTop (mkF m 321 #[.val (.long q1), .second, .val (.long q2), .second, .val (.long q3), .second, .val (.long q4), .second, .val (.int p5), .val (.long g1), .second, .val (.long o1), .second, .val (.long g2), .second, .val (.long o2), .second, .val (.ref b3), .val (.ref b5), .val (.long t1), .second, .val (.long t2), .second, .val (.long (-4611686018427387904 : Int64)), .second, .val (.long d1), .second, .val (.long d2), .second, .val (.int (1 : Int32)), .val (.int (1 : Int32)), .val (.int (1 : Int32)), .val (.int cc), .val (.int (1 : Int32))] [(.int (1 : Int32))]))
            refine Go.st (fun t k => XS.ifNo X9.here hx rfl (hb hby at_321) rfl (XT.i0_eq_f (by decide)) k) ?_
            show Go p.tables e below PP (T9.setTop (mkF m 324 #[.val (.long q1), .second, .val (.long q2), .second, .val (.long q3), .second, .val (.long q4), .second, .val (.int p5), .val (.long g1), .second, .val (.long o1), .second, .val (.long g2), .second, .val (.long o2), .second, .val (.ref b3), .val (.ref b5), .val (.long t1), .second, .val (.long t2), .second, .val (.long (-4611686018427387904 : Int64)), .second, .val (.long d1), .second, .val (.long d2), .second, .val (.int (1 : Int32)), .val (.int (1 : Int32)), .val (.int (1 : Int32)), .val (.int cc), .val (.int (1 : Int32))] []))
            refine Go.st (fun t k => XS.iconst X9.here hx rfl (hb hby at_324) k) ?_
            show Go p.tables e below PP (T9.setTop (mkF m 325 #[.val (.long q1), .second, .val (.long q2), .second, .val (.long q3), .second, .val (.long q4), .second, .val (.int p5), .val (.long g1), .second, .val (.long o1), .second, .val (.long g2), .second, .val (.long o2), .second, .val (.ref b3), .val (.ref b5), .val (.long t1), .second, .val (.long t2), .second, .val (.long (-4611686018427387904 : Int64)), .second, .val (.long d1), .second, .val (.long d2), .second, .val (.int (1 : Int32)), .val (.int (1 : Int32)), .val (.int (1 : Int32)), .val (.int cc), .val (.int (1 : Int32))] [(.int (1 : Int32))]))
            refine Go.st (fun t k => XS.goto X9.here hx rfl (pc0 := 325) (pc' := 329) rfl (hb hby at_325) (by decide) (by decide) k) ?_
            show Go p.tables e below PP (T9.setTop (mkF m 329 #[.val (.long q1), .second, .val (.long q2), .second, .val (.long q3), .second, .val (.long q4), .second, .val (.int p5), .val (.long g1), .second, .val (.long o1), .second, .val (.long g2), .second, .val (.long o2), .second, .val (.ref b3), .val (.ref b5), .val (.long t1), .second, .val (.long t2), .second, .val (.long (-4611686018427387904 : Int64)), .second, .val (.long d1), .second, .val (.long d2), .second, .val (.int (1 : Int32)), .val (.int (1 : Int32)), .val (.int (1 : Int32)), .val (.int cc), .val (.int (1 : Int32))] [(.int (1 : Int32))]))
            rw [hPP]
            refine endN X9 hx hlk (t := .boolean) hret (by simp) (hb hby at_329) (w := (1 : Int32)) (rfl) ?_ (by decide) (by decide)
            show Q0 Z q1 q2 q3 q4 p5 h0 n0 (some (.int (1 : Int32))) T9.heap _
            rw [e9]
            exact ⟨rfl, N6⟩
      · --
        refine Go.st (fun t k => XS.ifYes X9.here hx rfl (pc0 := 221) (pc' := 228) rfl (hb hby at_221) rfl (XT.i0_ge_t hc221) (by decide) (by decide) k) ?_
        show Go p.tables e below PP (T9.setTop (mkF m 228 #[.val (.long q1), .second, .val (.long q2), .second, .val (.long q3), .second, .val (.long q4), .second, .val (.int p5), .val (.long g1), .second, .val (.long o1), .second, .val (.long g2), .second, .val (.long o2), .second, .val (.ref b3), .val (.ref b5), .val (.long t1), .second, .val (.long t2), .second, .val (.long (-4611686018427387904 : Int64)), .second, .val (.long d1), .second, .val (.long d2), .second, .val (.int (1 : Int32)), .val (.int (1 : Int32)), .val (.int (1 : Int32)), .val (.int cc), .unset] []))
        refine Go.st (fun t k => XS.iconst X9.here hx rfl (hb hby at_228) k) ?_
        show Go p.tables e below PP (T9.setTop (mkF m 229 #[.val (.long q1), .second, .val (.long q2), .second, .val (.long q3), .second, .val (.long q4), .second, .val (.int p5), .val (.long g1), .second, .val (.long o1), .second, .val (.long g2), .second, .val (.long o2), .second, .val (.ref b3), .val (.ref b5), .val (.long t1), .second, .val (.long t2), .second, .val (.long (-4611686018427387904 : Int64)), .second, .val (.long d1), .second, .val (.long d2), .second, .val (.int (1 : Int32)), .val (.int (1 : Int32)), .val (.int (1 : Int32)), .val (.int cc), .unset] [(.int (0 : Int32))]))
        refine Go.st (fun t k => XS.lload X9.here hx rfl (hb hby at_229) rfl k) ?_
        show Go p.tables e below PP (T9.setTop (mkF m 231 #[.val (.long q1), .second, .val (.long q2), .second, .val (.long q3), .second, .val (.long q4), .second, .val (.int p5), .val (.long g1), .second, .val (.long o1), .second, .val (.long g2), .second, .val (.long o2), .second, .val (.ref b3), .val (.ref b5), .val (.long t1), .second, .val (.long t2), .second, .val (.long (-4611686018427387904 : Int64)), .second, .val (.long d1), .second, .val (.long d2), .second, .val (.int (1 : Int32)), .val (.int (1 : Int32)), .val (.int (1 : Int32)), .val (.int cc), .unset] [(.long t1), (.int (0 : Int32))]))
        refine Go.st (fun t k => XS.lload X9.here hx rfl (hb hby at_231) rfl k) ?_
        show Go p.tables e below PP (T9.setTop (mkF m 233 #[.val (.long q1), .second, .val (.long q2), .second, .val (.long q3), .second, .val (.long q4), .second, .val (.int p5), .val (.long g1), .second, .val (.long o1), .second, .val (.long g2), .second, .val (.long o2), .second, .val (.ref b3), .val (.ref b5), .val (.long t1), .second, .val (.long t2), .second, .val (.long (-4611686018427387904 : Int64)), .second, .val (.long d1), .second, .val (.long d2), .second, .val (.int (1 : Int32)), .val (.int (1 : Int32)), .val (.int (1 : Int32)), .val (.int cc), .unset] [(.long t2), (.long t1), (.int (0 : Int32))]))
        refine Go.st (fun t k => XS.lcmp X9.here hx rfl (hb hby at_233) rfl k) ?_
        show Go p.tables e below PP (T9.setTop (mkF m 234 #[.val (.long q1), .second, .val (.long q2), .second, .val (.long q3), .second, .val (.long q4), .second, .val (.int p5), .val (.long g1), .second, .val (.long o1), .second, .val (.long g2), .second, .val (.long o2), .second, .val (.ref b3), .val (.ref b5), .val (.long t1), .second, .val (.long t2), .second, .val (.long (-4611686018427387904 : Int64)), .second, .val (.long d1), .second, .val (.long d2), .second, .val (.int (1 : Int32)), .val (.int (1 : Int32)), .val (.int (1 : Int32)), .val (.int cc), .unset] [(.int (XT.cmpL t1 t2)), (.int (0 : Int32))]))
        refine Go.st (fun t k => XS.ifYes X9.here hx rfl (pc0 := 234) (pc' := 241) rfl (hb hby at_234) rfl (XT.ll_ge_t (fun q => hc221 ((own_ord _ _ _ _ _ _ _ hg1 ho1 hJ32 hJ52 ht1 ht2 hcc).1.mpr q))) (by decide) (by decide) k) ?_
        show Go p.tables e below PP (T9.setTop (mkF m 241 #[.val (.long q1), .second, .val (.long q2), .second, .val (.long q3), .second, .val (.long q4), .second, .val (.int p5), .val (.long g1), .second, .val (.long o1), .second, .val (.long g2), .second, .val (.long o2), .second, .val (.ref b3), .val (.ref b5), .val (.long t1), .second, .val (.long t2), .second, .val (.long (-4611686018427387904 : Int64)), .second, .val (.long d1), .second, .val (.long d2), .second, .val (.int (1 : Int32)), .val (.int (1 : Int32)), .val (.int (1 : Int32)), .val (.int cc), .unset] [(.int (0 : Int32))]))
        refine Go.st (fun t k => XS.iconst X9.here hx rfl (hb hby at_241) k) ?_
        show Go p.tables e below PP (T9.setTop (mkF m 242 #[.val (.long q1), .second, .val (.long q2), .second, .val (.long q3), .second, .val (.long q4), .second, .val (.int p5), .val (.long g1), .second, .val (.long o1), .second, .val (.long g2), .second, .val (.long o2), .second, .val (.ref b3), .val (.ref b5), .val (.long t1), .second, .val (.long t2), .second, .val (.long (-4611686018427387904 : Int64)), .second, .val (.long d1), .second, .val (.long d2), .second, .val (.int (1 : Int32)), .val (.int (1 : Int32)), .val (.int (1 : Int32)), .val (.int cc), .unset] [(.int (0 : Int32)), (.int (0 : Int32))]))
        refine Go.st (fun t k => XS.icmpNo X9.here hx rfl (hb hby at_242) rfl (XT.ii_ne_f (by decide)) k) ?_
        show Go p.tables e below PP (T9.setTop (mkF m 245 #[.val (.long q1), .second, .val (.long q2), .second, .val (.long q3), .second, .val (.long q4), .second, .val (.int p5), .val (.long g1), .second, .val (.long o1), .second, .val (.long g2), .second, .val (.long o2), .second, .val (.ref b3), .val (.ref b5), .val (.long t1), .second, .val (.long t2), .second, .val (.long (-4611686018427387904 : Int64)), .second, .val (.long d1), .second, .val (.long d2), .second, .val (.int (1 : Int32)), .val (.int (1 : Int32)), .val (.int (1 : Int32)), .val (.int cc), .unset] []))
        refine Go.st (fun t k => XS.iload X9.here hx rfl (hb hby at_245) rfl k) ?_
        show Go p.tables e below PP (T9.setTop (mkF m 247 #[.val (.long q1), .second, .val (.long q2), .second, .val (.long q3), .second, .val (.long q4), .second, .val (.int p5), .val (.long g1), .second, .val (.long o1), .second, .val (.long g2), .second, .val (.long o2), .second, .val (.ref b3), .val (.ref b5), .val (.long t1), .second, .val (.long t2), .second, .val (.long (-4611686018427387904 : Int64)), .second, .val (.long d1), .second, .val (.long d2), .second, .val (.int (1 : Int32)), .val (.int (1 : Int32)), .val (.int (1 : Int32)), .val (.int cc), .unset] [(.int cc)]))
        by_cases hc247 : cc = (0 : Int32)
        · --
          refine Go.st (fun t k => XS.ifNo X9.here hx rfl (hb hby at_247) rfl (XT.i0_ne_f hc247) k) ?_
          show Go p.tables e below PP (T9.setTop (mkF m 250 #[.val (.long q1), .second, .val (.long q2), .second, .val (.long q3), .second, .val (.long q4), .second, .val (.int p5), .val (.long g1), .second, .val (.long o1), .second, .val (.long g2), .second, .val (.long o2), .second, .val (.ref b3), .val (.ref b5), .val (.long t1), .second, .val (.long t2), .second, .val (.long (-4611686018427387904 : Int64)), .second, .val (.long d1), .second, .val (.long d2), .second, .val (.int (1 : Int32)), .val (.int (1 : Int32)), .val (.int (1 : Int32)), .val (.int cc), .unset] []))
          refine Go.st (fun t k => XS.iconst X9.here hx rfl (hb hby at_250) k) ?_
          show Go p.tables e below PP (T9.setTop (mkF m 251 #[.val (.long q1), .second, .val (.long q2), .second, .val (.long q3), .second, .val (.long q4), .second, .val (.int p5), .val (.long g1), .second, .val (.long o1), .second, .val (.long g2), .second, .val (.long o2), .second, .val (.ref b3), .val (.ref b5), .val (.long t1), .second, .val (.long t2), .second, .val (.long (-4611686018427387904 : Int64)), .second, .val (.long d1), .second, .val (.long d2), .second, .val (.int (1 : Int32)), .val (.int (1 : Int32)), .val (.int (1 : Int32)), .val (.int cc), .unset] [(.int (1 : Int32))]))
          refine Go.st (fun t k => XS.goto X9.here hx rfl (pc0 := 251) (pc' := 255) rfl (hb hby at_251) (by decide) (by decide) k) ?_
          show Go p.tables e below PP (T9.setTop (mkF m 255 #[.val (.long q1), .second, .val (.long q2), .second, .val (.long q3), .second, .val (.long q4), .second, .val (.int p5), .val (.long g1), .second, .val (.long o1), .second, .val (.long g2), .second, .val (.long o2), .second, .val (.ref b3), .val (.ref b5), .val (.long t1), .second, .val (.long t2), .second, .val (.long (-4611686018427387904 : Int64)), .second, .val (.long d1), .second, .val (.long d2), .second, .val (.int (1 : Int32)), .val (.int (1 : Int32)), .val (.int (1 : Int32)), .val (.int cc), .unset] [(.int (1 : Int32))]))
          refine Go.st (fun t k => XS.lload X9.here hx rfl (hb hby at_255) rfl k) ?_
          show Go p.tables e below PP (T9.setTop (mkF m 257 #[.val (.long q1), .second, .val (.long q2), .second, .val (.long q3), .second, .val (.long q4), .second, .val (.int p5), .val (.long g1), .second, .val (.long o1), .second, .val (.long g2), .second, .val (.long o2), .second, .val (.ref b3), .val (.ref b5), .val (.long t1), .second, .val (.long t2), .second, .val (.long (-4611686018427387904 : Int64)), .second, .val (.long d1), .second, .val (.long d2), .second, .val (.int (1 : Int32)), .val (.int (1 : Int32)), .val (.int (1 : Int32)), .val (.int cc), .unset] [(.long t1), (.int (1 : Int32))]))
          refine Go.st (fun t k => XS.lload X9.here hx rfl (hb hby at_257) rfl k) ?_
          show Go p.tables e below PP (T9.setTop (mkF m 259 #[.val (.long q1), .second, .val (.long q2), .second, .val (.long q3), .second, .val (.long q4), .second, .val (.int p5), .val (.long g1), .second, .val (.long o1), .second, .val (.long g2), .second, .val (.long o2), .second, .val (.ref b3), .val (.ref b5), .val (.long t1), .second, .val (.long t2), .second, .val (.long (-4611686018427387904 : Int64)), .second, .val (.long d1), .second, .val (.long d2), .second, .val (.int (1 : Int32)), .val (.int (1 : Int32)), .val (.int (1 : Int32)), .val (.int cc), .unset] [(.long t2), (.long t1), (.int (1 : Int32))]))
          refine Go.st (fun t k => XS.lcmp X9.here hx rfl (hb hby at_259) rfl k) ?_
          show Go p.tables e below PP (T9.setTop (mkF m 260 #[.val (.long q1), .second, .val (.long q2), .second, .val (.long q3), .second, .val (.long q4), .second, .val (.int p5), .val (.long g1), .second, .val (.long o1), .second, .val (.long g2), .second, .val (.long o2), .second, .val (.ref b3), .val (.ref b5), .val (.long t1), .second, .val (.long t2), .second, .val (.long (-4611686018427387904 : Int64)), .second, .val (.long d1), .second, .val (.long d2), .second, .val (.int (1 : Int32)), .val (.int (1 : Int32)), .val (.int (1 : Int32)), .val (.int cc), .unset] [(.int (XT.cmpL t1 t2)), (.int (1 : Int32))]))
          refine Go.st (fun t k => XS.ifNo X9.here hx rfl (hb hby at_260) rfl (XT.ll_ne_f ((own_ord _ _ _ _ _ _ _ hg1 ho1 hJ32 hJ52 ht1 ht2 hcc).2.1.mp hc247)) k) ?_
          show Go p.tables e below PP (T9.setTop (mkF m 263 #[.val (.long q1), .second, .val (.long q2), .second, .val (.long q3), .second, .val (.long q4), .second, .val (.int p5), .val (.long g1), .second, .val (.long o1), .second, .val (.long g2), .second, .val (.long o2), .second, .val (.ref b3), .val (.ref b5), .val (.long t1), .second, .val (.long t2), .second, .val (.long (-4611686018427387904 : Int64)), .second, .val (.long d1), .second, .val (.long d2), .second, .val (.int (1 : Int32)), .val (.int (1 : Int32)), .val (.int (1 : Int32)), .val (.int cc), .unset] [(.int (1 : Int32))]))
          refine Go.st (fun t k => XS.iconst X9.here hx rfl (hb hby at_263) k) ?_
          show Go p.tables e below PP (T9.setTop (mkF m 264 #[.val (.long q1), .second, .val (.long q2), .second, .val (.long q3), .second, .val (.long q4), .second, .val (.int p5), .val (.long g1), .second, .val (.long o1), .second, .val (.long g2), .second, .val (.long o2), .second, .val (.ref b3), .val (.ref b5), .val (.long t1), .second, .val (.long t2), .second, .val (.long (-4611686018427387904 : Int64)), .second, .val (.long d1), .second, .val (.long d2), .second, .val (.int (1 : Int32)), .val (.int (1 : Int32)), .val (.int (1 : Int32)), .val (.int cc), .unset] [(.int (1 : Int32)), (.int (1 : Int32))]))
          refine Go.st (fun t k => XS.goto X9.here hx rfl (pc0 := 264) (pc' := 268) rfl (hb hby at_264) (by decide) (by decide) k) ?_
          show Go p.tables e below PP (T9.setTop (mkF m 268 #[.val (.long q1), .second, .val (.long q2), .second, .val (.long q3), .second, .val (.long q4), .second, .val (.int p5), .val (.long g1), .second, .val (.long o1), .second, .val (.long g2), .second, .val (.long o2), .second, .val (.ref b3), .val (.ref b5), .val (.long t1), .second, .val (.long t2), .second, .val (.long (-4611686018427387904 : Int64)), .second, .val (.long d1), .second, .val (.long d2), .second, .val (.int (1 : Int32)), .val (.int (1 : Int32)), .val (.int (1 : Int32)), .val (.int cc), .unset] [(.int (1 : Int32)), (.int (1 : Int32))]))
          refine Go.st (fun t k => XS.icmpNo X9.here hx rfl (hb hby at_268) rfl (XT.ii_ne_f (by decide)) k) ?_
          show Go p.tables e below PP (T9.setTop (mkF m 271 #[.val (.long q1), .second, .val (.long q2), .second, .val (.long q3), .second, .val (.long q4), .second, .val (.int p5), .val (.long g1), .second, .val (.long o1), .second, .val (.long g2), .second, .val (.long o2), .second, .val (.ref b3), .val (.ref b5), .val (.long t1), .second, .val (.long t2), .second, .val (.long (-4611686018427387904 : Int64)), .second, .val (.long d1), .second, .val (.long d2), .second, .val (.int (1 : Int32)), .val (.int (1 : Int32)), .val (.int (1 : Int32)), .val (.int cc), .unset] []))
          refine Go.st (fun t k => XS.iload X9.here hx rfl (hb hby at_271) rfl k) ?_
          show Go p.tables e below PP (T9.setTop (mkF m 273 #[.val (.long q1), .second, .val (.long q2), .second, .val (.long q3), .second, .val (.long q4), .second, .val (.int p5), .val (.long g1), .second, .val (.long o1), .second, .val (.long g2), .second, .val (.long o2), .second, .val (.ref b3), .val (.ref b5), .val (.long t1), .second, .val (.long t2), .second, .val (.long (-4611686018427387904 : Int64)), .second, .val (.long d1), .second, .val (.long d2), .second, .val (.int (1 : Int32)), .val (.int (1 : Int32)), .val (.int (1 : Int32)), .val (.int cc), .unset] [(.int cc)]))
          by_cases hc273 : (0 : Int32) < cc
          · --
            refine Go.st (fun t k => XS.ifNo X9.here hx rfl (hb hby at_273) rfl (XT.i0_le_f hc273) k) ?_
            show Go p.tables e below PP (T9.setTop (mkF m 276 #[.val (.long q1), .second, .val (.long q2), .second, .val (.long q3), .second, .val (.long q4), .second, .val (.int p5), .val (.long g1), .second, .val (.long o1), .second, .val (.long g2), .second, .val (.long o2), .second, .val (.ref b3), .val (.ref b5), .val (.long t1), .second, .val (.long t2), .second, .val (.long (-4611686018427387904 : Int64)), .second, .val (.long d1), .second, .val (.long d2), .second, .val (.int (1 : Int32)), .val (.int (1 : Int32)), .val (.int (1 : Int32)), .val (.int cc), .unset] []))
            refine Go.st (fun t k => XS.iconst X9.here hx rfl (hb hby at_276) k) ?_
            show Go p.tables e below PP (T9.setTop (mkF m 277 #[.val (.long q1), .second, .val (.long q2), .second, .val (.long q3), .second, .val (.long q4), .second, .val (.int p5), .val (.long g1), .second, .val (.long o1), .second, .val (.long g2), .second, .val (.long o2), .second, .val (.ref b3), .val (.ref b5), .val (.long t1), .second, .val (.long t2), .second, .val (.long (-4611686018427387904 : Int64)), .second, .val (.long d1), .second, .val (.long d2), .second, .val (.int (1 : Int32)), .val (.int (1 : Int32)), .val (.int (1 : Int32)), .val (.int cc), .unset] [(.int (1 : Int32))]))
            refine Go.st (fun t k => XS.goto X9.here hx rfl (pc0 := 277) (pc' := 281) rfl (hb hby at_277) (by decide) (by decide) k) ?_
            show Go p.tables e below PP (T9.setTop (mkF m 281 #[.val (.long q1), .second, .val (.long q2), .second, .val (.long q3), .second, .val (.long q4), .second, .val (.int p5), .val (.long g1), .second, .val (.long o1), .second, .val (.long g2), .second, .val (.long o2), .second, .val (.ref b3), .val (.ref b5), .val (.long t1), .second, .val (.long t2), .second, .val (.long (-4611686018427387904 : Int64)), .second, .val (.long d1), .second, .val (.long d2), .second, .val (.int (1 : Int32)), .val (.int (1 : Int32)), .val (.int (1 : Int32)), .val (.int cc), .unset] [(.int (1 : Int32))]))
            refine Go.st (fun t k => XS.lload X9.here hx rfl (hb hby at_281) rfl k) ?_
            show Go p.tables e below PP (T9.setTop (mkF m 283 #[.val (.long q1), .second, .val (.long q2), .second, .val (.long q3), .second, .val (.long q4), .second, .val (.int p5), .val (.long g1), .second, .val (.long o1), .second, .val (.long g2), .second, .val (.long o2), .second, .val (.ref b3), .val (.ref b5), .val (.long t1), .second, .val (.long t2), .second, .val (.long (-4611686018427387904 : Int64)), .second, .val (.long d1), .second, .val (.long d2), .second, .val (.int (1 : Int32)), .val (.int (1 : Int32)), .val (.int (1 : Int32)), .val (.int cc), .unset] [(.long t1), (.int (1 : Int32))]))
            refine Go.st (fun t k => XS.lload X9.here hx rfl (hb hby at_283) rfl k) ?_
            show Go p.tables e below PP (T9.setTop (mkF m 285 #[.val (.long q1), .second, .val (.long q2), .second, .val (.long q3), .second, .val (.long q4), .second, .val (.int p5), .val (.long g1), .second, .val (.long o1), .second, .val (.long g2), .second, .val (.long o2), .second, .val (.ref b3), .val (.ref b5), .val (.long t1), .second, .val (.long t2), .second, .val (.long (-4611686018427387904 : Int64)), .second, .val (.long d1), .second, .val (.long d2), .second, .val (.int (1 : Int32)), .val (.int (1 : Int32)), .val (.int (1 : Int32)), .val (.int cc), .unset] [(.long t2), (.long t1), (.int (1 : Int32))]))
            refine Go.st (fun t k => XS.lcmp X9.here hx rfl (hb hby at_285) rfl k) ?_
            show Go p.tables e below PP (T9.setTop (mkF m 286 #[.val (.long q1), .second, .val (.long q2), .second, .val (.long q3), .second, .val (.long q4), .second, .val (.int p5), .val (.long g1), .second, .val (.long o1), .second, .val (.long g2), .second, .val (.long o2), .second, .val (.ref b3), .val (.ref b5), .val (.long t1), .second, .val (.long t2), .second, .val (.long (-4611686018427387904 : Int64)), .second, .val (.long d1), .second, .val (.long d2), .second, .val (.int (1 : Int32)), .val (.int (1 : Int32)), .val (.int (1 : Int32)), .val (.int cc), .unset] [(.int (XT.cmpL t1 t2)), (.int (1 : Int32))]))
            refine Go.st (fun t k => XS.ifNo X9.here hx rfl (hb hby at_286) rfl (XT.ll_le_f ((own_ord _ _ _ _ _ _ _ hg1 ho1 hJ32 hJ52 ht1 ht2 hcc).2.2.mp hc273)) k) ?_
            show Go p.tables e below PP (T9.setTop (mkF m 289 #[.val (.long q1), .second, .val (.long q2), .second, .val (.long q3), .second, .val (.long q4), .second, .val (.int p5), .val (.long g1), .second, .val (.long o1), .second, .val (.long g2), .second, .val (.long o2), .second, .val (.ref b3), .val (.ref b5), .val (.long t1), .second, .val (.long t2), .second, .val (.long (-4611686018427387904 : Int64)), .second, .val (.long d1), .second, .val (.long d2), .second, .val (.int (1 : Int32)), .val (.int (1 : Int32)), .val (.int (1 : Int32)), .val (.int cc), .unset] [(.int (1 : Int32))]))
            refine Go.st (fun t k => XS.iconst X9.here hx rfl (hb hby at_289) k) ?_
            show Go p.tables e below PP (T9.setTop (mkF m 290 #[.val (.long q1), .second, .val (.long q2), .second, .val (.long q3), .second, .val (.long q4), .second, .val (.int p5), .val (.long g1), .second, .val (.long o1), .second, .val (.long g2), .second, .val (.long o2), .second, .val (.ref b3), .val (.ref b5), .val (.long t1), .second, .val (.long t2), .second, .val (.long (-4611686018427387904 : Int64)), .second, .val (.long d1), .second, .val (.long d2), .second, .val (.int (1 : Int32)), .val (.int (1 : Int32)), .val (.int (1 : Int32)), .val (.int cc), .unset] [(.int (1 : Int32)), (.int (1 : Int32))]))
            refine Go.st (fun t k => XS.goto X9.here hx rfl (pc0 := 290) (pc' := 294) rfl (hb hby at_290) (by decide) (by decide) k) ?_
            show Go p.tables e below PP (T9.setTop (mkF m 294 #[.val (.long q1), .second, .val (.long q2), .second, .val (.long q3), .second, .val (.long q4), .second, .val (.int p5), .val (.long g1), .second, .val (.long o1), .second, .val (.long g2), .second, .val (.long o2), .second, .val (.ref b3), .val (.ref b5), .val (.long t1), .second, .val (.long t2), .second, .val (.long (-4611686018427387904 : Int64)), .second, .val (.long d1), .second, .val (.long d2), .second, .val (.int (1 : Int32)), .val (.int (1 : Int32)), .val (.int (1 : Int32)), .val (.int cc), .unset] [(.int (1 : Int32)), (.int (1 : Int32))]))
            refine Go.st (fun t k => XS.icmpNo X9.here hx rfl (hb hby at_294) rfl (XT.ii_ne_f (by decide)) k) ?_
            show Go p.tables e below PP (T9.setTop (mkF m 297 #[.val (.long q1), .second, .val (.long q2), .second, .val (.long q3), .second, .val (.long q4), .second, .val (.int p5), .val (.long g1), .second, .val (.long o1), .second, .val (.long g2), .second, .val (.long o2), .second, .val (.ref b3), .val (.ref b5), .val (.long t1), .second, .val (.long t2), .second, .val (.long (-4611686018427387904 : Int64)), .second, .val (.long d1), .second, .val (.long d2), .second, .val (.int (1 : Int32)), .val (.int (1 : Int32)), .val (.int (1 : Int32)), .val (.int cc), .unset] []))
            refine Go.st (fun t k => XS.iconst X9.here hx rfl (hb hby at_297) k) ?_
            show Go p.tables e below PP (T9.setTop (mkF m 298 #[.val (.long q1), .second, .val (.long q2), .second, .val (.long q3), .second, .val (.long q4), .second, .val (.int p5), .val (.long g1), .second, .val (.long o1), .second, .val (.long g2), .second, .val (.long o2), .second, .val (.ref b3), .val (.ref b5), .val (.long t1), .second, .val (.long t2), .second, .val (.long (-4611686018427387904 : Int64)), .second, .val (.long d1), .second, .val (.long d2), .second, .val (.int (1 : Int32)), .val (.int (1 : Int32)), .val (.int (1 : Int32)), .val (.int cc), .unset] [(.int (1 : Int32))]))
            refine Go.st (fun t k => XS.goto X9.here hx rfl (pc0 := 298) (pc' := 302) rfl (hb hby at_298) (by decide) (by decide) k) ?_
            show Go p.tables e below PP (T9.setTop (mkF m 302 #[.val (.long q1), .second, .val (.long q2), .second, .val (.long q3), .second, .val (.long q4), .second, .val (.int p5), .val (.long g1), .second, .val (.long o1), .second, .val (.long g2), .second, .val (.long o2), .second, .val (.ref b3), .val (.ref b5), .val (.long t1), .second, .val (.long t2), .second, .val (.long (-4611686018427387904 : Int64)), .second, .val (.long d1), .second, .val (.long d2), .second, .val (.int (1 : Int32)), .val (.int (1 : Int32)), .val (.int (1 : Int32)), .val (.int cc), .unset] [(.int (1 : Int32))]))
            refine Go.st (fun t k => XS.istore X9.here hx rfl (hb hby at_302) rfl (l' := #[.val (.long q1), .second, .val (.long q2), .second, .val (.long q3), .second, .val (.long q4), .second, .val (.int p5), .val (.long g1), .second, .val (.long o1), .second, .val (.long g2), .second, .val (.long o2), .second, .val (.ref b3), .val (.ref b5), .val (.long t1), .second, .val (.long t2), .second, .val (.long (-4611686018427387904 : Int64)), .second, .val (.long d1), .second, .val (.long d2), .second, .val (.int (1 : Int32)), .val (.int (1 : Int32)), .val (.int (1 : Int32)), .val (.int cc), .val (.int (1 : Int32))]) rfl k) ?_
            show Go p.tables e below PP (T9.setTop (mkF m 304 #[.val (.long q1), .second, .val (.long q2), .second, .val (.long q3), .second, .val (.long q4), .second, .val (.int p5), .val (.long g1), .second, .val (.long o1), .second, .val (.long g2), .second, .val (.long o2), .second, .val (.ref b3), .val (.ref b5), .val (.long t1), .second, .val (.long t2), .second, .val (.long (-4611686018427387904 : Int64)), .second, .val (.long d1), .second, .val (.long d2), .second, .val (.int (1 : Int32)), .val (.int (1 : Int32)), .val (.int (1 : Int32)), .val (.int cc), .val (.int (1 : Int32))] []))
            refine Go.st (fun t k => XS.iload X9.here hx rfl (hb hby at_304) rfl k) ?_
            show Go p.tables e below PP (T9.setTop (mkF m 306 #[.val (.long q1), .second, .val (.long q2), .second, .val (.long q3), .second, .val (.long q4), .second, .val (.int p5), .val (.long g1), .second, .val (.long o1), .second, .val (.long g2), .second, .val (.long o2), .second, .val (.ref b3), .val (.ref b5), .val (.long t1), .second, .val (.long t2), .second, .val (.long (-4611686018427387904 : Int64)), .second, .val (.long d1), .second, .val (.long d2), .second, .val (.int (1 : Int32)), .val (.int (1 : Int32)), .val (.int (1 : Int32)), .val (.int cc), .val (.int (1 : Int32))] [(.int (1 : Int32))]))
            refine Go.st (fun t k => XS.ifNo X9.here hx rfl (hb hby at_306) rfl (XT.i0_eq_f (by decide)) k) ?_
            show Go p.tables e below PP (T9.setTop (mkF m 309 #[.val (.long q1), .second, .val (.long q2), .second, .val (.long q3), .second, .val (.long q4), .second, .val (.int p5), .val (.long g1), .second, .val (.long o1), .second, .val (.long g2), .second, .val (.long o2), .second, .val (.ref b3), .val (.ref b5), .val (.long t1), .second, .val (.long t2), .second, .val (.long (-4611686018427387904 : Int64)), .second, .val (.long d1), .second, .val (.long d2), .second, .val (.int (1 : Int32)), .val (.int (1 : Int32)), .val (.int (1 : Int32)), .val (.int cc), .val (.int (1 : Int32))] []))
            refine Go.st (fun t k => XS.iload X9.here hx rfl (hb hby at_309) rfl k) ?_
            show Go p.tables e below PP (T9.setTop (mkF m 311 #[.val (.long q1), .second, .val (.long q2), .second, .val (.long q3), .second, .val (.long q4), .second, .val (.int p5), .val (.long g1), .second, .val (.long o1), .second, .val (.long g2), .second, .val (.long o2), .second, .val (.ref b3), .val (.ref b5), .val (.long t1), .second, .val (.long t2), .second, .val (.long (-4611686018427387904 : Int64)), .second, .val (.long d1), .second, .val (.long d2), .second, .val (.int (1 : Int32)), .val (.int (1 : Int32)), .val (.int (1 : Int32)), .val (.int cc), .val (.int (1 : Int32))] [(.int (1 : Int32))]))
            refine Go.st (fun t k => XS.ifNo X9.here hx rfl (hb hby at_311) rfl (XT.i0_eq_f (by decide)) k) ?_
            show Go p.tables e below PP (T9.setTop (mkF m 314 #[.val (.long q1), .second, .val (.long q2), .second, .val (.long q3), .second, .val (.long q4), .second, .val (.int p5), .val (.long g1), .second, .val (.long o1), .second, .val (.long g2), .second, .val (.long o2), .second, .val (.ref b3), .val (.ref b5), .val (.long t1), .second, .val (.long t2), .second, .val (.long (-4611686018427387904 : Int64)), .second, .val (.long d1), .second, .val (.long d2), .second, .val (.int (1 : Int32)), .val (.int (1 : Int32)), .val (.int (1 : Int32)), .val (.int cc), .val (.int (1 : Int32))] []))
            refine Go.st (fun t k => XS.iload X9.here hx rfl (hb hby at_314) rfl k) ?_
            show Go p.tables e below PP (T9.setTop (mkF m 316 #[.val (.long q1), .second, .val (.long q2), .second, .val (.long q3), .second, .val (.long q4), .second, .val (.int p5), .val (.long g1), .second, .val (.long o1), .second, .val (.long g2), .second, .val (.long o2), .second, .val (.ref b3), .val (.ref b5), .val (.long t1), .second, .val (.long t2), .second, .val (.long (-4611686018427387904 : Int64)), .second, .val (.long d1), .second, .val (.long d2), .second, .val (.int (1 : Int32)), .val (.int (1 : Int32)), .val (.int (1 : Int32)), .val (.int cc), .val (.int (1 : Int32))] [(.int (1 : Int32))]))
            refine Go.st (fun t k => XS.ifNo X9.here hx rfl (hb hby at_316) rfl (XT.i0_eq_f (by decide)) k) ?_
            show Go p.tables e below PP (T9.setTop (mkF m 319 #[.val (.long q1), .second, .val (.long q2), .second, .val (.long q3), .second, .val (.long q4), .second, .val (.int p5), .val (.long g1), .second, .val (.long o1), .second, .val (.long g2), .second, .val (.long o2), .second, .val (.ref b3), .val (.ref b5), .val (.long t1), .second, .val (.long t2), .second, .val (.long (-4611686018427387904 : Int64)), .second, .val (.long d1), .second, .val (.long d2), .second, .val (.int (1 : Int32)), .val (.int (1 : Int32)), .val (.int (1 : Int32)), .val (.int cc), .val (.int (1 : Int32))] []))
            refine Go.st (fun t k => XS.iload X9.here hx rfl (hb hby at_319) rfl k) ?_
            show Go p.tables e below PP (T9.setTop (mkF m 321 #[.val (.long q1), .second, .val (.long q2), .second, .val (.long q3), .second, .val (.long q4), .second, .val (.int p5), .val (.long g1), .second, .val (.long o1), .second, .val (.long g2), .second, .val (.long o2), .second, .val (.ref b3), .val (.ref b5), .val (.long t1), .second, .val (.long t2), .second, .val (.long (-4611686018427387904 : Int64)), .second, .val (.long d1), .second, .val (.long d2), .second, .val (.int (1 : Int32)), .val (.int (1 : Int32)), .val (.int (1 : Int32)), .val (.int cc), .val (.int (1 : Int32))] [(.int (1 : Int32))]))
            refine Go.st (fun t k => XS.ifNo X9.here hx rfl (hb hby at_321) rfl (XT.i0_eq_f (by decide)) k) ?_
            show Go p.tables e below PP (T9.setTop (mkF m 324 #[.val (.long q1), .second, .val (.long q2), .second, .val (.long q3), .second, .val (.long q4), .second, .val (.int p5), .val (.long g1), .second, .val (.long o1), .second, .val (.long g2), .second, .val (.long o2), .second, .val (.ref b3), .val (.ref b5), .val (.long t1), .second, .val (.long t2), .second, .val (.long (-4611686018427387904 : Int64)), .second, .val (.long d1), .second, .val (.long d2), .second, .val (.int (1 : Int32)), .val (.int (1 : Int32)), .val (.int (1 : Int32)), .val (.int cc), .val (.int (1 : Int32))] []))
            refine Go.st (fun t k => XS.iconst X9.here hx rfl (hb hby at_324) k) ?_
            show Go p.tables e below PP (T9.setTop (mkF m 325 #[.val (.long q1), .second, .val (.long q2), .second, .val (.long q3), .second, .val (.long q4), .second, .val (.int p5), .val (.long g1), .second, .val (.long o1), .second, .val (.long g2), .second, .val (.long o2), .second, .val (.ref b3), .val (.ref b5), .val (.long t1), .second, .val (.long t2), .second, .val (.long (-4611686018427387904 : Int64)), .second, .val (.long d1), .second, .val (.long d2), .second, .val (.int (1 : Int32)), .val (.int (1 : Int32)), .val (.int (1 : Int32)), .val (.int cc), .val (.int (1 : Int32))] [(.int (1 : Int32))]))
            refine Go.st (fun t k => XS.goto X9.here hx rfl (pc0 := 325) (pc' := 329) rfl (hb hby at_325) (by decide) (by decide) k) ?_
            show Go p.tables e below PP (T9.setTop (mkF m 329 #[.val (.long q1), .second, .val (.long q2), .second, .val (.long q3), .second, .val (.long q4), .second, .val (.int p5), .val (.long g1), .second, .val (.long o1), .second, .val (.long g2), .second, .val (.long o2), .second, .val (.ref b3), .val (.ref b5), .val (.long t1), .second, .val (.long t2), .second, .val (.long (-4611686018427387904 : Int64)), .second, .val (.long d1), .second, .val (.long d2), .second, .val (.int (1 : Int32)), .val (.int (1 : Int32)), .val (.int (1 : Int32)), .val (.int cc), .val (.int (1 : Int32))] [(.int (1 : Int32))]))
            rw [hPP]
            refine endN X9 hx hlk (t := .boolean) hret (by simp) (hb hby at_329) (w := (1 : Int32)) (rfl) ?_ (by decide) (by decide)
            show Q0 Z q1 q2 q3 q4 p5 h0 n0 (some (.int (1 : Int32))) T9.heap _
            rw [e9]
            exact ⟨rfl, N6⟩
          · --
            refine Go.st (fun t k => XS.ifYes X9.here hx rfl (pc0 := 273) (pc' := 280) rfl (hb hby at_273) rfl (XT.i0_le_t hc273) (by decide) (by decide) k) ?_
            show Go p.tables e below PP (T9.setTop (mkF m 280 #[.val (.long q1), .second, .val (.long q2), .second, .val (.long q3), .second, .val (.long q4), .second, .val (.int p5), .val (.long g1), .second, .val (.long o1), .second, .val (.long g2), .second, .val (.long o2), .second, .val (.ref b3), .val (.ref b5), .val (.long t1), .second, .val (.long t2), .second, .val (.long (-4611686018427387904 : Int64)), .second, .val (.long d1), .second, .val (.long d2), .second, .val (.int (1 : Int32)), .val (.int (1 : Int32)), .val (.int (1 : Int32)), .val (.int cc), .unset] []))
            refine Go.st (fun t k => XS.iconst X9.here hx rfl (hb hby at_280) k) ?_
            show Go p.tables e below PP (T9.setTop (mkF m 281 #[.val (.long q1), .second, .val (.long q2), .second, .val (.long q3), .second, .val (.long q4), .second, .val (.int p5), .val (.long g1), .second, .val (.long o1), .second, .val (.long g2), .second, .val (.long o2), .second, .val (.ref b3), .val (.ref b5), .val (.long t1), .second, .val (.long t2), .second, .val (.long (-4611686018427387904 : Int64)), .second, .val (.long d1), .second, .val (.long d2), .second, .val (.int (1 : Int32)), .val (.int (1 : Int32)), .val (.int (1 : Int32)), .val (.int cc), .unset] [(.int (0 : Int32))]))
            refine Go.st (fun t k => XS.lload X9.here hx rfl (hb hby at_281) rfl k) ?_
            show Go p.tables e below PP (T9.setTop (mkF m 283 #[.val (.long q1), .second, .val (.long q2), .second, .val (.long q3), .second, .val (.long q4), .second, .val (.int p5), .val (.long g1), .second, .val (.long o1), .second, .val (.long g2), .second, .val (.long o2), .second, .val (.ref b3), .val (.ref b5), .val (.long t1), .second, .val (.long t2), .second, .val (.long (-4611686018427387904 : Int64)), .second, .val (.long d1), .second, .val (.long d2), .second, .val (.int (1 : Int32)), .val (.int (1 : Int32)), .val (.int (1 : Int32)), .val (.int cc), .unset] [(.long t1), (.int (0 : Int32))]))
            refine Go.st (fun t k => XS.lload X9.here hx rfl (hb hby at_283) rfl k) ?_
            show Go p.tables e below PP (T9.setTop (mkF m 285 #[.val (.long q1), .second, .val (.long q2), .second, .val (.long q3), .second, .val (.long q4), .second, .val (.int p5), .val (.long g1), .second, .val (.long o1), .second, .val (.long g2), .second, .val (.long o2), .second, .val (.ref b3), .val (.ref b5), .val (.long t1), .second, .val (.long t2), .second, .val (.long (-4611686018427387904 : Int64)), .second, .val (.long d1), .second, .val (.long d2), .second, .val (.int (1 : Int32)), .val (.int (1 : Int32)), .val (.int (1 : Int32)), .val (.int cc), .unset] [(.long t2), (.long t1), (.int (0 : Int32))]))
            refine Go.st (fun t k => XS.lcmp X9.here hx rfl (hb hby at_285) rfl k) ?_
            show Go p.tables e below PP (T9.setTop (mkF m 286 #[.val (.long q1), .second, .val (.long q2), .second, .val (.long q3), .second, .val (.long q4), .second, .val (.int p5), .val (.long g1), .second, .val (.long o1), .second, .val (.long g2), .second, .val (.long o2), .second, .val (.ref b3), .val (.ref b5), .val (.long t1), .second, .val (.long t2), .second, .val (.long (-4611686018427387904 : Int64)), .second, .val (.long d1), .second, .val (.long d2), .second, .val (.int (1 : Int32)), .val (.int (1 : Int32)), .val (.int (1 : Int32)), .val (.int cc), .unset] [(.int (XT.cmpL t1 t2)), (.int (0 : Int32))]))
            refine Go.st (fun t k => XS.ifYes X9.here hx rfl (pc0 := 286) (pc' := 293) rfl (hb hby at_286) rfl (XT.ll_le_t (fun q => hc273 ((own_ord _ _ _ _ _ _ _ hg1 ho1 hJ32 hJ52 ht1 ht2 hcc).2.2.mpr q))) (by decide) (by decide) k) ?_
            show Go p.tables e below PP (T9.setTop (mkF m 293 #[.val (.long q1), .second, .val (.long q2), .second, .val (.long q3), .second, .val (.long q4), .second, .val (.int p5), .val (.long g1), .second, .val (.long o1), .second, .val (.long g2), .second, .val (.long o2), .second, .val (.ref b3), .val (.ref b5), .val (.long t1), .second, .val (.long t2), .second, .val (.long (-4611686018427387904 : Int64)), .second, .val (.long d1), .second, .val (.long d2), .second, .val (.int (1 : Int32)), .val (.int (1 : Int32)), .val (.int (1 : Int32)), .val (.int cc), .unset] [(.int (0 : Int32))]))
            refine Go.st (fun t k => XS.iconst X9.here hx rfl (hb hby at_293) k) ?_
            show Go p.tables e below PP (T9.setTop (mkF m 294 #[.val (.long q1), .second, .val (.long q2), .second, .val (.long q3), .second, .val (.long q4), .second, .val (.int p5), .val (.long g1), .second, .val (.long o1), .second, .val (.long g2), .second, .val (.long o2), .second, .val (.ref b3), .val (.ref b5), .val (.long t1), .second, .val (.long t2), .second, .val (.long (-4611686018427387904 : Int64)), .second, .val (.long d1), .second, .val (.long d2), .second, .val (.int (1 : Int32)), .val (.int (1 : Int32)), .val (.int (1 : Int32)), .val (.int cc), .unset] [(.int (0 : Int32)), (.int (0 : Int32))]))
            refine Go.st (fun t k => XS.icmpNo X9.here hx rfl (hb hby at_294) rfl (XT.ii_ne_f (by decide)) k) ?_
            show Go p.tables e below PP (T9.setTop (mkF m 297 #[.val (.long q1), .second, .val (.long q2), .second, .val (.long q3), .second, .val (.long q4), .second, .val (.int p5), .val (.long g1), .second, .val (.long o1), .second, .val (.long g2), .second, .val (.long o2), .second, .val (.ref b3), .val (.ref b5), .val (.long t1), .second, .val (.long t2), .second, .val (.long (-4611686018427387904 : Int64)), .second, .val (.long d1), .second, .val (.long d2), .second, .val (.int (1 : Int32)), .val (.int (1 : Int32)), .val (.int (1 : Int32)), .val (.int cc), .unset] []))
            refine Go.st (fun t k => XS.iconst X9.here hx rfl (hb hby at_297) k) ?_
            show Go p.tables e below PP (T9.setTop (mkF m 298 #[.val (.long q1), .second, .val (.long q2), .second, .val (.long q3), .second, .val (.long q4), .second, .val (.int p5), .val (.long g1), .second, .val (.long o1), .second, .val (.long g2), .second, .val (.long o2), .second, .val (.ref b3), .val (.ref b5), .val (.long t1), .second, .val (.long t2), .second, .val (.long (-4611686018427387904 : Int64)), .second, .val (.long d1), .second, .val (.long d2), .second, .val (.int (1 : Int32)), .val (.int (1 : Int32)), .val (.int (1 : Int32)), .val (.int cc), .unset] [(.int (1 : Int32))]))
            refine Go.st (fun t k => XS.goto X9.here hx rfl (pc0 := 298) (pc' := 302) rfl (hb hby at_298) (by decide) (by decide) k) ?_
            show Go p.tables e below PP (T9.setTop (mkF m 302 #[.val (.long q1), .second, .val (.long q2), .second, .val (.long q3), .second, .val (.long q4), .second, .val (.int p5), .val (.long g1), .second, .val (.long o1), .second, .val (.long g2), .second, .val (.long o2), .second, .val (.ref b3), .val (.ref b5), .val (.long t1), .second, .val (.long t2), .second, .val (.long (-4611686018427387904 : Int64)), .second, .val (.long d1), .second, .val (.long d2), .second, .val (.int (1 : Int32)), .val (.int (1 : Int32)), .val (.int (1 : Int32)), .val (.int cc), .unset] [(.int (1 : Int32))]))
            refine Go.st (fun t k => XS.istore X9.here hx rfl (hb hby at_302) rfl (l' := #[.val (.long q1), .second, .val (.long q2), .second, .val (.long q3), .second, .val (.long q4), .second, .val (.int p5), .val (.long g1), .second, .val (.long o1), .second, .val (.long g2), .second, .val (.long o2), .second, .val (.ref b3), .val (.ref b5), .val (.long t1), .second, .val (.long t2), .second, .val (.long (-4611686018427387904 : Int64)), .second, .val (.long d1), .second, .val (.long d2), .second, .val (.int (1 : Int32)), .val (.int (1 : Int32)), .val (.int (1 : Int32)), .val (.int cc), .val (.int (1 : Int32))]) rfl k) ?_
            show Go p.tables e below PP (T9.setTop (mkF m 304 #[.val (.long q1), .second, .val (.long q2), .second, .val (.long q3), .second, .val (.long q4), .second, .val (.int p5), .val (.long g1), .second, .val (.long o1), .second, .val (.long g2), .second, .val (.long o2), .second, .val (.ref b3), .val (.ref b5), .val (.long t1), .second, .val (.long t2), .second, .val (.long (-4611686018427387904 : Int64)), .second, .val (.long d1), .second, .val (.long d2), .second, .val (.int (1 : Int32)), .val (.int (1 : Int32)), .val (.int (1 : Int32)), .val (.int cc), .val (.int (1 : Int32))] []))
            refine Go.st (fun t k => XS.iload X9.here hx rfl (hb hby at_304) rfl k) ?_
            show Go p.tables e below PP (T9.setTop (mkF m 306 #[.val (.long q1), .second, .val (.long q2), .second, .val (.long q3), .second, .val (.long q4), .second, .val (.int p5), .val (.long g1), .second, .val (.long o1), .second, .val (.long g2), .second, .val (.long o2), .second, .val (.ref b3), .val (.ref b5), .val (.long t1), .second, .val (.long t2), .second, .val (.long (-4611686018427387904 : Int64)), .second, .val (.long d1), .second, .val (.long d2), .second, .val (.int (1 : Int32)), .val (.int (1 : Int32)), .val (.int (1 : Int32)), .val (.int cc), .val (.int (1 : Int32))] [(.int (1 : Int32))]))
            refine Go.st (fun t k => XS.ifNo X9.here hx rfl (hb hby at_306) rfl (XT.i0_eq_f (by decide)) k) ?_
            show Go p.tables e below PP (T9.setTop (mkF m 309 #[.val (.long q1), .second, .val (.long q2), .second, .val (.long q3), .second, .val (.long q4), .second, .val (.int p5), .val (.long g1), .second, .val (.long o1), .second, .val (.long g2), .second, .val (.long o2), .second, .val (.ref b3), .val (.ref b5), .val (.long t1), .second, .val (.long t2), .second, .val (.long (-4611686018427387904 : Int64)), .second, .val (.long d1), .second, .val (.long d2), .second, .val (.int (1 : Int32)), .val (.int (1 : Int32)), .val (.int (1 : Int32)), .val (.int cc), .val (.int (1 : Int32))] []))
            refine Go.st (fun t k => XS.iload X9.here hx rfl (hb hby at_309) rfl k) ?_
            show Go p.tables e below PP (T9.setTop (mkF m 311 #[.val (.long q1), .second, .val (.long q2), .second, .val (.long q3), .second, .val (.long q4), .second, .val (.int p5), .val (.long g1), .second, .val (.long o1), .second, .val (.long g2), .second, .val (.long o2), .second, .val (.ref b3), .val (.ref b5), .val (.long t1), .second, .val (.long t2), .second, .val (.long (-4611686018427387904 : Int64)), .second, .val (.long d1), .second, .val (.long d2), .second, .val (.int (1 : Int32)), .val (.int (1 : Int32)), .val (.int (1 : Int32)), .val (.int cc), .val (.int (1 : Int32))] [(.int (1 : Int32))]))
            refine Go.st (fun t k => XS.ifNo X9.here hx rfl (hb hby at_311) rfl (XT.i0_eq_f (by decide)) k) ?_
            show Go p.tables e below PP (T9.setTop (mkF m 314 #[.val (.long q1), .second, .val (.long q2), .second, .val (.long q3), .second, .val (.long q4), .second, .val (.int p5), .val (.long g1), .second, .val (.long o1), .second, .val (.long g2), .second, .val (.long o2), .second, .val (.ref b3), .val (.ref b5), .val (.long t1), .second, .val (.long t2), .second, .val (.long (-4611686018427387904 : Int64)), .second, .val (.long d1), .second, .val (.long d2), .second, .val (.int (1 : Int32)), .val (.int (1 : Int32)), .val (.int (1 : Int32)), .val (.int cc), .val (.int (1 : Int32))] []))
            refine Go.st (fun t k => XS.iload X9.here hx rfl (hb hby at_314) rfl k) ?_
            show Go p.tables e below PP (T9.setTop (mkF m 316 #[.val (.long q1), .second, .val (.long q2), .second, .val (.long q3), .second, .val (.long q4), .second, .val (.int p5), .val (.long g1), .second, .val (.long o1), .second, .val (.long g2), .second, .val (.long o2), .second, .val (.ref b3), .val (.ref b5), .val (.long t1), .second, .val (.long t2), .second, .val (.long (-4611686018427387904 : Int64)), .second, .val (.long d1), .second, .val (.long d2), .second, .val (.int (1 : Int32)), .val (.int (1 : Int32)), .val (.int (1 : Int32)), .val (.int cc), .val (.int (1 : Int32))] [(.int (1 : Int32))]))
            refine Go.st (fun t k => XS.ifNo X9.here hx rfl (hb hby at_316) rfl (XT.i0_eq_f (by decide)) k) ?_
            show Go p.tables e below PP (T9.setTop (mkF m 319 #[.val (.long q1), .second, .val (.long q2), .second, .val (.long q3), .second, .val (.long q4), .second, .val (.int p5), .val (.long g1), .second, .val (.long o1), .second, .val (.long g2), .second, .val (.long o2), .second, .val (.ref b3), .val (.ref b5), .val (.long t1), .second, .val (.long t2), .second, .val (.long (-4611686018427387904 : Int64)), .second, .val (.long d1), .second, .val (.long d2), .second, .val (.int (1 : Int32)), .val (.int (1 : Int32)), .val (.int (1 : Int32)), .val (.int cc), .val (.int (1 : Int32))] []))
            refine Go.st (fun t k => XS.iload X9.here hx rfl (hb hby at_319) rfl k) ?_
            show Go p.tables e below PP (T9.setTop (mkF m 321 #[.val (.long q1), .second, .val (.long q2), .second, .val (.long q3), .second, .val (.long q4), .second, .val (.int p5), .val (.long g1), .second, .val (.long o1), .second, .val (.long g2), .second, .val (.long o2), .second, .val (.ref b3), .val (.ref b5), .val (.long t1), .second, .val (.long t2), .second, .val (.long (-4611686018427387904 : Int64)), .second, .val (.long d1), .second, .val (.long d2), .second, .val (.int (1 : Int32)), .val (.int (1 : Int32)), .val (.int (1 : Int32)), .val (.int cc), .val (.int (1 : Int32))] [(.int (1 : Int32))]))
            refine Go.st (fun t k => XS.ifNo X9.here hx rfl (hb hby at_321) rfl (XT.i0_eq_f (by decide)) k) ?_
            show Go p.tables e below PP (T9.setTop (mkF m 324 #[.val (.long q1), .second, .val (.long q2), .second, .val (.long q3), .second, .val (.long q4), .second, .val (.int p5), .val (.long g1), .second, .val (.long o1), .second, .val (.long g2), .second, .val (.long o2), .second, .val (.ref b3), .val (.ref b5), .val (.long t1), .second, .val (.long t2), .second, .val (.long (-4611686018427387904 : Int64)), .second, .val (.long d1), .second, .val (.long d2), .second, .val (.int (1 : Int32)), .val (.int (1 : Int32)), .val (.int (1 : Int32)), .val (.int cc), .val (.int (1 : Int32))] []))
            refine Go.st (fun t k => XS.iconst X9.here hx rfl (hb hby at_324) k) ?_
            show Go p.tables e below PP (T9.setTop (mkF m 325 #[.val (.long q1), .second, .val (.long q2), .second, .val (.long q3), .second, .val (.long q4), .second, .val (.int p5), .val (.long g1), .second, .val (.long o1), .second, .val (.long g2), .second, .val (.long o2), .second, .val (.ref b3), .val (.ref b5), .val (.long t1), .second, .val (.long t2), .second, .val (.long (-4611686018427387904 : Int64)), .second, .val (.long d1), .second, .val (.long d2), .second, .val (.int (1 : Int32)), .val (.int (1 : Int32)), .val (.int (1 : Int32)), .val (.int cc), .val (.int (1 : Int32))] [(.int (1 : Int32))]))
            refine Go.st (fun t k => XS.goto X9.here hx rfl (pc0 := 325) (pc' := 329) rfl (hb hby at_325) (by decide) (by decide) k) ?_
            show Go p.tables e below PP (T9.setTop (mkF m 329 #[.val (.long q1), .second, .val (.long q2), .second, .val (.long q3), .second, .val (.long q4), .second, .val (.int p5), .val (.long g1), .second, .val (.long o1), .second, .val (.long g2), .second, .val (.long o2), .second, .val (.ref b3), .val (.ref b5), .val (.long t1), .second, .val (.long t2), .second, .val (.long (-4611686018427387904 : Int64)), .second, .val (.long d1), .second, .val (.long d2), .second, .val (.int (1 : Int32)), .val (.int (1 : Int32)), .val (.int (1 : Int32)), .val (.int cc), .val (.int (1 : Int32))] [(.int (1 : Int32))]))
            rw [hPP]
            refine endN X9 hx hlk (t := .boolean) hret (by simp) (hb hby at_329) (w := (1 : Int32)) (rfl) ?_ (by decide) (by decide)
            show Q0 Z q1 q2 q3 q4 p5 h0 n0 (some (.int (1 : Int32))) T9.heap _
            rw [e9]
            exact ⟨rfl, N6⟩
        · --
          refine Go.st (fun t k => XS.ifYes X9.here hx rfl (pc0 := 247) (pc' := 254) rfl (hb hby at_247) rfl (XT.i0_ne_t hc247) (by decide) (by decide) k) ?_
          show Go p.tables e below PP (T9.setTop (mkF m 254 #[.val (.long q1), .second, .val (.long q2), .second, .val (.long q3), .second, .val (.long q4), .second, .val (.int p5), .val (.long g1), .second, .val (.long o1), .second, .val (.long g2), .second, .val (.long o2), .second, .val (.ref b3), .val (.ref b5), .val (.long t1), .second, .val (.long t2), .second, .val (.long (-4611686018427387904 : Int64)), .second, .val (.long d1), .second, .val (.long d2), .second, .val (.int (1 : Int32)), .val (.int (1 : Int32)), .val (.int (1 : Int32)), .val (.int cc), .unset] []))
          refine Go.st (fun t k => XS.iconst X9.here hx rfl (hb hby at_254) k) ?_
          show Go p.tables e below PP (T9.setTop (mkF m 255 #[.val (.long q1), .second, .val (.long q2), .second, .val (.long q3), .second, .val (.long q4), .second, .val (.int p5), .val (.long g1), .second, .val (.long o1), .second, .val (.long g2), .second, .val (.long o2), .second, .val (.ref b3), .val (.ref b5), .val (.long t1), .second, .val (.long t2), .second, .val (.long (-4611686018427387904 : Int64)), .second, .val (.long d1), .second, .val (.long d2), .second, .val (.int (1 : Int32)), .val (.int (1 : Int32)), .val (.int (1 : Int32)), .val (.int cc), .unset] [(.int (0 : Int32))]))
          refine Go.st (fun t k => XS.lload X9.here hx rfl (hb hby at_255) rfl k) ?_
          show Go p.tables e below PP (T9.setTop (mkF m 257 #[.val (.long q1), .second, .val (.long q2), .second, .val (.long q3), .second, .val (.long q4), .second, .val (.int p5), .val (.long g1), .second, .val (.long o1), .second, .val (.long g2), .second, .val (.long o2), .second, .val (.ref b3), .val (.ref b5), .val (.long t1), .second, .val (.long t2), .second, .val (.long (-4611686018427387904 : Int64)), .second, .val (.long d1), .second, .val (.long d2), .second, .val (.int (1 : Int32)), .val (.int (1 : Int32)), .val (.int (1 : Int32)), .val (.int cc), .unset] [(.long t1), (.int (0 : Int32))]))
          refine Go.st (fun t k => XS.lload X9.here hx rfl (hb hby at_257) rfl k) ?_
          show Go p.tables e below PP (T9.setTop (mkF m 259 #[.val (.long q1), .second, .val (.long q2), .second, .val (.long q3), .second, .val (.long q4), .second, .val (.int p5), .val (.long g1), .second, .val (.long o1), .second, .val (.long g2), .second, .val (.long o2), .second, .val (.ref b3), .val (.ref b5), .val (.long t1), .second, .val (.long t2), .second, .val (.long (-4611686018427387904 : Int64)), .second, .val (.long d1), .second, .val (.long d2), .second, .val (.int (1 : Int32)), .val (.int (1 : Int32)), .val (.int (1 : Int32)), .val (.int cc), .unset] [(.long t2), (.long t1), (.int (0 : Int32))]))
          refine Go.st (fun t k => XS.lcmp X9.here hx rfl (hb hby at_259) rfl k) ?_
          show Go p.tables e below PP (T9.setTop (mkF m 260 #[.val (.long q1), .second, .val (.long q2), .second, .val (.long q3), .second, .val (.long q4), .second, .val (.int p5), .val (.long g1), .second, .val (.long o1), .second, .val (.long g2), .second, .val (.long o2), .second, .val (.ref b3), .val (.ref b5), .val (.long t1), .second, .val (.long t2), .second, .val (.long (-4611686018427387904 : Int64)), .second, .val (.long d1), .second, .val (.long d2), .second, .val (.int (1 : Int32)), .val (.int (1 : Int32)), .val (.int (1 : Int32)), .val (.int cc), .unset] [(.int (XT.cmpL t1 t2)), (.int (0 : Int32))]))
          refine Go.st (fun t k => XS.ifYes X9.here hx rfl (pc0 := 260) (pc' := 267) rfl (hb hby at_260) rfl (XT.ll_ne_t (fun q => hc247 ((own_ord _ _ _ _ _ _ _ hg1 ho1 hJ32 hJ52 ht1 ht2 hcc).2.1.mpr q))) (by decide) (by decide) k) ?_
          show Go p.tables e below PP (T9.setTop (mkF m 267 #[.val (.long q1), .second, .val (.long q2), .second, .val (.long q3), .second, .val (.long q4), .second, .val (.int p5), .val (.long g1), .second, .val (.long o1), .second, .val (.long g2), .second, .val (.long o2), .second, .val (.ref b3), .val (.ref b5), .val (.long t1), .second, .val (.long t2), .second, .val (.long (-4611686018427387904 : Int64)), .second, .val (.long d1), .second, .val (.long d2), .second, .val (.int (1 : Int32)), .val (.int (1 : Int32)), .val (.int (1 : Int32)), .val (.int cc), .unset] [(.int (0 : Int32))]))
          refine Go.st (fun t k => XS.iconst X9.here hx rfl (hb hby at_267) k) ?_
          show Go p.tables e below PP (T9.setTop (mkF m 268 #[.val (.long q1), .second, .val (.long q2), .second, .val (.long q3), .second, .val (.long q4), .second, .val (.int p5), .val (.long g1), .second, .val (.long o1), .second, .val (.long g2), .second, .val (.long o2), .second, .val (.ref b3), .val (.ref b5), .val (.long t1), .second, .val (.long t2), .second, .val (.long (-4611686018427387904 : Int64)), .second, .val (.long d1), .second, .val (.long d2), .second, .val (.int (1 : Int32)), .val (.int (1 : Int32)), .val (.int (1 : Int32)), .val (.int cc), .unset] [(.int (0 : Int32)), (.int (0 : Int32))]))
          refine Go.st (fun t k => XS.icmpNo X9.here hx rfl (hb hby at_268) rfl (XT.ii_ne_f (by decide)) k) ?_
          show Go p.tables e below PP (T9.setTop (mkF m 271 #[.val (.long q1), .second, .val (.long q2), .second, .val (.long q3), .second, .val (.long q4), .second, .val (.int p5), .val (.long g1), .second, .val (.long o1), .second, .val (.long g2), .second, .val (.long o2), .second, .val (.ref b3), .val (.ref b5), .val (.long t1), .second, .val (.long t2), .second, .val (.long (-4611686018427387904 : Int64)), .second, .val (.long d1), .second, .val (.long d2), .second, .val (.int (1 : Int32)), .val (.int (1 : Int32)), .val (.int (1 : Int32)), .val (.int cc), .unset] []))
          refine Go.st (fun t k => XS.iload X9.here hx rfl (hb hby at_271) rfl k) ?_
          show Go p.tables e below PP (T9.setTop (mkF m 273 #[.val (.long q1), .second, .val (.long q2), .second, .val (.long q3), .second, .val (.long q4), .second, .val (.int p5), .val (.long g1), .second, .val (.long o1), .second, .val (.long g2), .second, .val (.long o2), .second, .val (.ref b3), .val (.ref b5), .val (.long t1), .second, .val (.long t2), .second, .val (.long (-4611686018427387904 : Int64)), .second, .val (.long d1), .second, .val (.long d2), .second, .val (.int (1 : Int32)), .val (.int (1 : Int32)), .val (.int (1 : Int32)), .val (.int cc), .unset] [(.int cc)]))
          by_cases hc273 : (0 : Int32) < cc
          · --
            refine Go.st (fun t k => XS.ifNo X9.here hx rfl (hb hby at_273) rfl (XT.i0_le_f hc273) k) ?_
            show Go p.tables e below PP (T9.setTop (mkF m 276 #[.val (.long q1), .second, .val (.long q2), .second, .val (.long q3), .second, .val (.long q4), .second, .val (.int p5), .val (.long g1), .second, .val (.long o1), .second, .val (.long g2), .second, .val (.long o2), .second, .val (.ref b3), .val (.ref b5), .val (.long t1), .second, .val (.long t2), .second, .val (.long (-4611686018427387904 : Int64)), .second, .val (.long d1), .second, .val (.long d2), .second, .val (.int (1 : Int32)), .val (.int (1 : Int32)), .val (.int (1 : Int32)), .val (.int cc), .unset] []))
            refine Go.st (fun t k => XS.iconst X9.here hx rfl (hb hby at_276) k) ?_
            show Go p.tables e below PP (T9.setTop (mkF m 277 #[.val (.long q1), .second, .val (.long q2), .second, .val (.long q3), .second, .val (.long q4), .second, .val (.int p5), .val (.long g1), .second, .val (.long o1), .second, .val (.long g2), .second, .val (.long o2), .second, .val (.ref b3), .val (.ref b5), .val (.long t1), .second, .val (.long t2), .second, .val (.long (-4611686018427387904 : Int64)), .second, .val (.long d1), .second, .val (.long d2), .second, .val (.int (1 : Int32)), .val (.int (1 : Int32)), .val (.int (1 : Int32)), .val (.int cc), .unset] [(.int (1 : Int32))]))
            refine Go.st (fun t k => XS.goto X9.here hx rfl (pc0 := 277) (pc' := 281) rfl (hb hby at_277) (by decide) (by decide) k) ?_
            show Go p.tables e below PP (T9.setTop (mkF m 281 #[.val (.long q1), .second, .val (.long q2), .second, .val (.long q3), .second, .val (.long q4), .second, .val (.int p5), .val (.long g1), .second, .val (.long o1), .second, .val (.long g2), .second, .val (.long o2), .second, .val (.ref b3), .val (.ref b5), .val (.long t1), .second, .val (.long t2), .second, .val (.long (-4611686018427387904 : Int64)), .second, .val (.long d1), .second, .val (.long d2), .second, .val (.int (1 : Int32)), .val (.int (1 : Int32)), .val (.int (1 : Int32)), .val (.int cc), .unset] [(.int (1 : Int32))]))
            refine Go.st (fun t k => XS.lload X9.here hx rfl (hb hby at_281) rfl k) ?_
            show Go p.tables e below PP (T9.setTop (mkF m 283 #[.val (.long q1), .second, .val (.long q2), .second, .val (.long q3), .second, .val (.long q4), .second, .val (.int p5), .val (.long g1), .second, .val (.long o1), .second, .val (.long g2), .second, .val (.long o2), .second, .val (.ref b3), .val (.ref b5), .val (.long t1), .second, .val (.long t2), .second, .val (.long (-4611686018427387904 : Int64)), .second, .val (.long d1), .second, .val (.long d2), .second, .val (.int (1 : Int32)), .val (.int (1 : Int32)), .val (.int (1 : Int32)), .val (.int cc), .unset] [(.long t1), (.int (1 : Int32))]))
            refine Go.st (fun t k => XS.lload X9.here hx rfl (hb hby at_283) rfl k) ?_
            show Go p.tables e below PP (T9.setTop (mkF m 285 #[.val (.long q1), .second, .val (.long q2), .second, .val (.long q3), .second, .val (.long q4), .second, .val (.int p5), .val (.long g1), .second, .val (.long o1), .second, .val (.long g2), .second, .val (.long o2), .second, .val (.ref b3), .val (.ref b5), .val (.long t1), .second, .val (.long t2), .second, .val (.long (-4611686018427387904 : Int64)), .second, .val (.long d1), .second, .val (.long d2), .second, .val (.int (1 : Int32)), .val (.int (1 : Int32)), .val (.int (1 : Int32)), .val (.int cc), .unset] [(.long t2), (.long t1), (.int (1 : Int32))]))
            refine Go.st (fun t k => XS.lcmp X9.here hx rfl (hb hby at_285) rfl k) ?_
            show Go p.tables e below PP (T9.setTop (mkF m 286 #[.val (.long q1), .second, .val (.long q2), .second, .val (.long q3), .second, .val (.long q4), .second, .val (.int p5), .val (.long g1), .second, .val (.long o1), .second, .val (.long g2), .second, .val (.long o2), .second, .val (.ref b3), .val (.ref b5), .val (.long t1), .second, .val (.long t2), .second, .val (.long (-4611686018427387904 : Int64)), .second, .val (.long d1), .second, .val (.long d2), .second, .val (.int (1 : Int32)), .val (.int (1 : Int32)), .val (.int (1 : Int32)), .val (.int cc), .unset] [(.int (XT.cmpL t1 t2)), (.int (1 : Int32))]))
            refine Go.st (fun t k => XS.ifNo X9.here hx rfl (hb hby at_286) rfl (XT.ll_le_f ((own_ord _ _ _ _ _ _ _ hg1 ho1 hJ32 hJ52 ht1 ht2 hcc).2.2.mp hc273)) k) ?_
            show Go p.tables e below PP (T9.setTop (mkF m 289 #[.val (.long q1), .second, .val (.long q2), .second, .val (.long q3), .second, .val (.long q4), .second, .val (.int p5), .val (.long g1), .second, .val (.long o1), .second, .val (.long g2), .second, .val (.long o2), .second, .val (.ref b3), .val (.ref b5), .val (.long t1), .second, .val (.long t2), .second, .val (.long (-4611686018427387904 : Int64)), .second, .val (.long d1), .second, .val (.long d2), .second, .val (.int (1 : Int32)), .val (.int (1 : Int32)), .val (.int (1 : Int32)), .val (.int cc), .unset] [(.int (1 : Int32))]))
            refine Go.st (fun t k => XS.iconst X9.here hx rfl (hb hby at_289) k) ?_
            show Go p.tables e below PP (T9.setTop (mkF m 290 #[.val (.long q1), .second, .val (.long q2), .second, .val (.long q3), .second, .val (.long q4), .second, .val (.int p5), .val (.long g1), .second, .val (.long o1), .second, .val (.long g2), .second, .val (.long o2), .second, .val (.ref b3), .val (.ref b5), .val (.long t1), .second, .val (.long t2), .second, .val (.long (-4611686018427387904 : Int64)), .second, .val (.long d1), .second, .val (.long d2), .second, .val (.int (1 : Int32)), .val (.int (1 : Int32)), .val (.int (1 : Int32)), .val (.int cc), .unset] [(.int (1 : Int32)), (.int (1 : Int32))]))
            refine Go.st (fun t k => XS.goto X9.here hx rfl (pc0 := 290) (pc' := 294) rfl (hb hby at_290) (by decide) (by decide) k) ?_
            show Go p.tables e below PP (T9.setTop (mkF m 294 #[.val (.long q1), .second, .val (.long q2), .second, .val (.long q3), .second, .val (.long q4), .second, .val (.int p5), .val (.long g1), .second, .val (.long o1), .second, .val (.long g2), .second, .val (.long o2), .second, .val (.ref b3), .val (.ref b5), .val (.long t1), .second, .val (.long t2), .second, .val (.long (-4611686018427387904 : Int64)), .second, .val (.long d1), .second, .val (.long d2), .second, .val (.int (1 : Int32)), .val (.int (1 : Int32)), .val (.int (1 : Int32)), .val (.int cc), .unset] [(.int (1 : Int32)), (.int (1 : Int32))]))
            refine Go.st (fun t k => XS.icmpNo X9.here hx rfl (hb hby at_294) rfl (XT.ii_ne_f (by decide)) k) ?_
            show Go p.tables e below PP (T9.setTop (mkF m 297 #[.val (.long q1), .second, .val (.long q2), .second, .val (.long q3), .second, .val (.long q4), .second, .val (.int p5), .val (.long g1), .second, .val (.long o1), .second, .val (.long g2), .second, .val (.long o2), .second, .val (.ref b3), .val (.ref b5), .val (.long t1), .second, .val (.long t2), .second, .val (.long (-4611686018427387904 : Int64)), .second, .val (.long d1), .second, .val (.long d2), .second, .val (.int (1 : Int32)), .val (.int (1 : Int32)), .val (.int (1 : Int32)), .val (.int cc), .unset] []))
            refine Go.st (fun t k => XS.iconst X9.here hx rfl (hb hby at_297) k) ?_
            show Go p.tables e below PP (T9.setTop (mkF m 298 #[.val (.long q1), .second, .val (.long q2), .second, .val (.long q3), .second, .val (.long q4), .second, .val (.int p5), .val (.long g1), .second, .val (.long o1), .second, .val (.long g2), .second, .val (.long o2), .second, .val (.ref b3), .val (.ref b5), .val (.long t1), .second, .val (.long t2), .second, .val (.long (-4611686018427387904 : Int64)), .second, .val (.long d1), .second, .val (.long d2), .second, .val (.int (1 : Int32)), .val (.int (1 : Int32)), .val (.int (1 : Int32)), .val (.int cc), .unset] [(.int (1 : Int32))]))
            refine Go.st (fun t k => XS.goto X9.here hx rfl (pc0 := 298) (pc' := 302) rfl (hb hby at_298) (by decide) (by decide) k) ?_
            show Go p.tables e below PP (T9.setTop (mkF m 302 #[.val (.long q1), .second, .val (.long q2), .second, .val (.long q3), .second, .val (.long q4), .second, .val (.int p5), .val (.long g1), .second, .val (.long o1), .second, .val (.long g2), .second, .val (.long o2), .second, .val (.ref b3), .val (.ref b5), .val (.long t1), .second, .val (.long t2), .second, .val (.long (-4611686018427387904 : Int64)), .second, .val (.long d1), .second, .val (.long d2), .second, .val (.int (1 : Int32)), .val (.int (1 : Int32)), .val (.int (1 : Int32)), .val (.int cc), .unset] [(.int (1 : Int32))]))
            refine Go.st (fun t k => XS.istore X9.here hx rfl (hb hby at_302) rfl (l' := #[.val (.long q1), .second, .val (.long q2), .second, .val (.long q3), .second, .val (.long q4), .second, .val (.int p5), .val (.long g1), .second, .val (.long o1), .second, .val (.long g2), .second, .val (.long o2), .second, .val (.ref b3), .val (.ref b5), .val (.long t1), .second, .val (.long t2), .second, .val (.long (-4611686018427387904 : Int64)), .second, .val (.long d1), .second, .val (.long d2), .second, .val (.int (1 : Int32)), .val (.int (1 : Int32)), .val (.int (1 : Int32)), .val (.int cc), .val (.int (1 : Int32))]) rfl k) ?_
            show Go p.tables e below PP (T9.setTop (mkF m 304 #[.val (.long q1), .second, .val (.long q2), .second, .val (.long q3), .second, .val (.long q4), .second, .val (.int p5), .val (.long g1), .second, .val (.long o1), .second, .val (.long g2), .second, .val (.long o2), .second, .val (.ref b3), .val (.ref b5), .val (.long t1), .second, .val (.long t2), .second, .val (.long (-4611686018427387904 : Int64)), .second, .val (.long d1), .second, .val (.long d2), .second, .val (.int (1 : Int32)), .val (.int (1 : Int32)), .val (.int (1 : Int32)), .val (.int cc), .val (.int (1 : Int32))] []))
            refine Go.st (fun t k => XS.iload X9.here hx rfl (hb hby at_304) rfl k) ?_
            show Go p.tables e below PP (T9.setTop (mkF m 306 #[.val (.long q1), .second, .val (.long q2), .second, .val (.long q3), .second, .val (.long q4), .second, .val (.int p5), .val (.long g1), .second, .val (.long o1), .second, .val (.long g2), .second, .val (.long o2), .second, .val (.ref b3), .val (.ref b5), .val (.long t1), .second, .val (.long t2), .second, .val (.long (-4611686018427387904 : Int64)), .second, .val (.long d1), .second, .val (.long d2), .second, .val (.int (1 : Int32)), .val (.int (1 : Int32)), .val (.int (1 : Int32)), .val (.int cc), .val (.int (1 : Int32))] [(.int (1 : Int32))]))
            refine Go.st (fun t k => XS.ifNo X9.here hx rfl (hb hby at_306) rfl (XT.i0_eq_f (by decide)) k) ?_
            show Go p.tables e below PP (T9.setTop (mkF m 309 #[.val (.long q1), .second, .val (.long q2), .second, .val (.long q3), .second, .val (.long q4), .second, .val (.int p5), .val (.long g1), .second, .val (.long o1), .second, .val (.long g2), .second, .val (.long o2), .second, .val (.ref b3), .val (.ref b5), .val (.long t1), .second, .val (.long t2), .second, .val (.long (-4611686018427387904 : Int64)), .second, .val (.long d1), .second, .val (.long d2), .second, .val (.int (1 : Int32)), .val (.int (1 : Int32)), .val (.int (1 : Int32)), .val (.int cc), .val (.int (1 : Int32))] []))
            refine Go.st (fun t k => XS.iload X9.here hx rfl (hb hby at_309) rfl k) ?_
            show Go p.tables e below PP (T9.setTop (mkF m 311 #[.val (.long q1), .second, .val (.long q2), .second, .val (.long q3), .second, .val (.long q4), .second, .val (.int p5), .val (.long g1), .second, .val (.long o1), .second, .val (.long g2), .second, .val (.long o2), .second, .val (.ref b3), .val (.ref b5), .val (.long t1), .second, .val (.long t2), .second, .val (.long (-4611686018427387904 : Int64)), .second, .val (.long d1), .second, .val (.long d2), .second, .val (.int (1 : Int32)), .val (.int (1 : Int32)), .val (.int (1 : Int32)), .val (.int cc), .val (.int (1 : Int32))] [(.int (1 : Int32))]))
            refine Go.st (fun t k => XS.ifNo X9.here hx rfl (hb hby at_311) rfl (XT.i0_eq_f (by decide)) k) ?_
            show Go p.tables e below PP (T9.setTop (mkF m 314 #[.val (.long q1), .second, .val (.long q2), .second, .val (.long q3), .second, .val (.long q4), .second, .val (.int p5), .val (.long g1), .second, .val (.long o1), .second, .val (.long g2), .second, .val (.long o2), .second, .val (.ref b3), .val (.ref b5), .val (.long t1), .second, .val (.long t2), .second, .val (.long (-4611686018427387904 : Int64)), .second, .val (.long d1), .second, .val (.long d2), .second, .val (.int (1 : Int32)), .val (.int (1 : Int32)), .val (.int (1 : Int32)), .val (.int cc), .val (.int (1 : Int32))] []))
            refine Go.st (fun t k => XS.iload X9.here hx rfl (hb hby at_314) rfl k) ?_
            show Go p.tables e below PP (T9.setTop (mkF m 316 #[.val (.long q1), .second, .val (.long q2), .second, .val (.long q3), .second, .val (.long q4), .second, .val (.int p5), .val (.long g1), .second, .val (.long o1), .second, .val (.long g2), .second, .val (.long o2), .second, .val (.ref b3), .val (.ref b5), .val (.long t1), .second, .val (.long t2), .second, .val (.long (-4611686018427387904 : Int64)), .second, .val (.long d1), .second, .val (.long d2), .second, .val (.int (1 : Int32)), .val (.int (1 : Int32)), .val (.int (1 : Int32)), .val (.int cc), .val (.int (1 : Int32))] [(.int (1 : Int32))]))
            refine Go.st (fun t k => XS.ifNo X9.here hx rfl (hb hby at_316) rfl (XT.i0_eq_f (by decide)) k) ?_
            show Go p.tables e below PP (T9.setTop (mkF m 319 #[.val (.long q1), .second, .val (.long q2), .second, .val (.long q3), .second, .val (.long q4), .second, .val (.int p5), .val (.long g1), .second, .val (.long o1), .second, .val (.long g2), .second, .val (.long o2), .second, .val (.ref b3), .val (.ref b5), .val (.long t1), .second, .val (.long t2), .second, .val (.long (-4611686018427387904 : Int64)), .second, .val (.long d1), .second, .val (.long d2), .second, .val (.int (1 : Int32)), .val (.int (1 : Int32)), .val (.int (1 : Int32)), .val (.int cc), .val (.int (1 : Int32))] []))
            refine Go.st (fun t k => XS.iload X9.here hx rfl (hb hby at_319) rfl k) ?_
            show Go p.tables e below PP (T9.setTop (mkF m 321 #[.val (.long q1), .second, .val (.long q2), .second, .val (.long q3), .second, .val (.long q4), .second, .val (.int p5), .val (.long g1), .second, .val (.long o1), .second, .val (.long g2), .second, .val (.long o2), .second, .val (.ref b3), .val (.ref b5), .val (.long t1), .second, .val (.long t2), .second, .val (.long (-4611686018427387904 : Int64)), .second, .val (.long d1), .second, .val (.long d2), .second, .val (.int (1 : Int32)), .val (.int (1 : Int32)), .val (.int (1 : Int32)), .val (.int cc), .val (.int (1 : Int32))] [(.int (1 : Int32))]))
            refine Go.st (fun t k => XS.ifNo X9.here hx rfl (hb hby at_321) rfl (XT.i0_eq_f (by decide)) k) ?_
            show Go p.tables e below PP (T9.setTop (mkF m 324 #[.val (.long q1), .second, .val (.long q2), .second, .val (.long q3), .second, .val (.long q4), .second, .val (.int p5), .val (.long g1), .second, .val (.long o1), .second, .val (.long g2), .second, .val (.long o2), .second, .val (.ref b3), .val (.ref b5), .val (.long t1), .second, .val (.long t2), .second, .val (.long (-4611686018427387904 : Int64)), .second, .val (.long d1), .second, .val (.long d2), .second, .val (.int (1 : Int32)), .val (.int (1 : Int32)), .val (.int (1 : Int32)), .val (.int cc), .val (.int (1 : Int32))] []))
            refine Go.st (fun t k => XS.iconst X9.here hx rfl (hb hby at_324) k) ?_
            show Go p.tables e below PP (T9.setTop (mkF m 325 #[.val (.long q1), .second, .val (.long q2), .second, .val (.long q3), .second, .val (.long q4), .second, .val (.int p5), .val (.long g1), .second, .val (.long o1), .second, .val (.long g2), .second, .val (.long o2), .second, .val (.ref b3), .val (.ref b5), .val (.long t1), .second, .val (.long t2), .second, .val (.long (-4611686018427387904 : Int64)), .second, .val (.long d1), .second, .val (.long d2), .second, .val (.int (1 : Int32)), .val (.int (1 : Int32)), .val (.int (1 : Int32)), .val (.int cc), .val (.int (1 : Int32))] [(.int (1 : Int32))]))
            refine Go.st (fun t k => XS.goto X9.here hx rfl (pc0 := 325) (pc' := 329) rfl (hb hby at_325) (by decide) (by decide) k) ?_
            show Go p.tables e below PP (T9.setTop (mkF m 329 #[.val (.long q1), .second, .val (.long q2), .second, .val (.long q3), .second, .val (.long q4), .second, .val (.int p5), .val (.long g1), .second, .val (.long o1), .second, .val (.long g2), .second, .val (.long o2), .second, .val (.ref b3), .val (.ref b5), .val (.long t1), .second, .val (.long t2), .second, .val (.long (-4611686018427387904 : Int64)), .second, .val (.long d1), .second, .val (.long d2), .second, .val (.int (1 : Int32)), .val (.int (1 : Int32)), .val (.int (1 : Int32)), .val (.int cc), .val (.int (1 : Int32))] [(.int (1 : Int32))]))
            rw [hPP]
            refine endN X9 hx hlk (t := .boolean) hret (by simp) (hb hby at_329) (w := (1 : Int32)) (rfl) ?_ (by decide) (by decide)
            show Q0 Z q1 q2 q3 q4 p5 h0 n0 (some (.int (1 : Int32))) T9.heap _
            rw [e9]
            exact ⟨rfl, N6⟩
          · --
            refine Go.st (fun t k => XS.ifYes X9.here hx rfl (pc0 := 273) (pc' := 280) rfl (hb hby at_273) rfl (XT.i0_le_t hc273) (by decide) (by decide) k) ?_
            show Go p.tables e below PP (T9.setTop (mkF m 280 #[.val (.long q1), .second, .val (.long q2), .second, .val (.long q3), .second, .val (.long q4), .second, .val (.int p5), .val (.long g1), .second, .val (.long o1), .second, .val (.long g2), .second, .val (.long o2), .second, .val (.ref b3), .val (.ref b5), .val (.long t1), .second, .val (.long t2), .second, .val (.long (-4611686018427387904 : Int64)), .second, .val (.long d1), .second, .val (.long d2), .second, .val (.int (1 : Int32)), .val (.int (1 : Int32)), .val (.int (1 : Int32)), .val (.int cc), .unset] []))
            refine Go.st (fun t k => XS.iconst X9.here hx rfl (hb hby at_280) k) ?_
            show Go p.tables e below PP (T9.setTop (mkF m 281 #[.val (.long q1), .second, .val (.long q2), .second, .val (.long q3), .second, .val (.long q4), .second, .val (.int p5), .val (.long g1), .second, .val (.long o1), .second, .val (.long g2), .second, .val (.long o2), .second, .val (.ref b3), .val (.ref b5), .val (.long t1), .second, .val (.long t2), .second, .val (.long (-4611686018427387904 : Int64)), .second, .val (.long d1), .second, .val (.long d2), .second, .val (.int (1 : Int32)), .val (.int (1 : Int32)), .val (.int (1 : Int32)), .val (.int cc), .unset] [(.int (0 : Int32))]))
            refine Go.st (fun t k => XS.lload X9.here hx rfl (hb hby at_281) rfl k) ?_
            show Go p.tables e below PP (T9.setTop (mkF m 283 #[.val (.long q1), .second, .val (.long q2), .second, .val (.long q3), .second, .val (.long q4), .second, .val (.int p5), .val (.long g1), .second, .val (.long o1), .second, .val (.long g2), .second, .val (.long o2), .second, .val (.ref b3), .val (.ref b5), .val (.long t1), .second, .val (.long t2), .second, .val (.long (-4611686018427387904 : Int64)), .second, .val (.long d1), .second, .val (.long d2), .second, .val (.int (1 : Int32)), .val (.int (1 : Int32)), .val (.int (1 : Int32)), .val (.int cc), .unset] [(.long t1), (.int (0 : Int32))]))
            refine Go.st (fun t k => XS.lload X9.here hx rfl (hb hby at_283) rfl k) ?_
            show Go p.tables e below PP (T9.setTop (mkF m 285 #[.val (.long q1), .second, .val (.long q2), .second, .val (.long q3), .second, .val (.long q4), .second, .val (.int p5), .val (.long g1), .second, .val (.long o1), .second, .val (.long g2), .second, .val (.long o2), .second, .val (.ref b3), .val (.ref b5), .val (.long t1), .second, .val (.long t2), .second, .val (.long (-4611686018427387904 : Int64)), .second, .val (.long d1), .second, .val (.long d2), .second, .val (.int (1 : Int32)), .val (.int (1 : Int32)), .val (.int (1 : Int32)), .val (.int cc), .unset] [(.long t2), (.long t1), (.int (0 : Int32))]))
            refine Go.st (fun t k => XS.lcmp X9.here hx rfl (hb hby at_285) rfl k) ?_
            show Go p.tables e below PP (T9.setTop (mkF m 286 #[.val (.long q1), .second, .val (.long q2), .second, .val (.long q3), .second, .val (.long q4), .second, .val (.int p5), .val (.long g1), .second, .val (.long o1), .second, .val (.long g2), .second, .val (.long o2), .second, .val (.ref b3), .val (.ref b5), .val (.long t1), .second, .val (.long t2), .second, .val (.long (-4611686018427387904 : Int64)), .second, .val (.long d1), .second, .val (.long d2), .second, .val (.int (1 : Int32)), .val (.int (1 : Int32)), .val (.int (1 : Int32)), .val (.int cc), .unset] [(.int (XT.cmpL t1 t2)), (.int (0 : Int32))]))
            refine Go.st (fun t k => XS.ifYes X9.here hx rfl (pc0 := 286) (pc' := 293) rfl (hb hby at_286) rfl (XT.ll_le_t (fun q => hc273 ((own_ord _ _ _ _ _ _ _ hg1 ho1 hJ32 hJ52 ht1 ht2 hcc).2.2.mpr q))) (by decide) (by decide) k) ?_
            show Go p.tables e below PP (T9.setTop (mkF m 293 #[.val (.long q1), .second, .val (.long q2), .second, .val (.long q3), .second, .val (.long q4), .second, .val (.int p5), .val (.long g1), .second, .val (.long o1), .second, .val (.long g2), .second, .val (.long o2), .second, .val (.ref b3), .val (.ref b5), .val (.long t1), .second, .val (.long t2), .second, .val (.long (-4611686018427387904 : Int64)), .second, .val (.long d1), .second, .val (.long d2), .second, .val (.int (1 : Int32)), .val (.int (1 : Int32)), .val (.int (1 : Int32)), .val (.int cc), .unset] [(.int (0 : Int32))]))
            refine Go.st (fun t k => XS.iconst X9.here hx rfl (hb hby at_293) k) ?_
            show Go p.tables e below PP (T9.setTop (mkF m 294 #[.val (.long q1), .second, .val (.long q2), .second, .val (.long q3), .second, .val (.long q4), .second, .val (.int p5), .val (.long g1), .second, .val (.long o1), .second, .val (.long g2), .second, .val (.long o2), .second, .val (.ref b3), .val (.ref b5), .val (.long t1), .second, .val (.long t2), .second, .val (.long (-4611686018427387904 : Int64)), .second, .val (.long d1), .second, .val (.long d2), .second, .val (.int (1 : Int32)), .val (.int (1 : Int32)), .val (.int (1 : Int32)), .val (.int cc), .unset] [(.int (0 : Int32)), (.int (0 : Int32))]))
            refine Go.st (fun t k => XS.icmpNo X9.here hx rfl (hb hby at_294) rfl (XT.ii_ne_f (by decide)) k) ?_
            show Go p.tables e below PP (T9.setTop (mkF m 297 #[.val (.long q1), .second, .val (.long q2), .second, .val (.long q3), .second, .val (.long q4), .second, .val (.int p5), .val (.long g1), .second, .val (.long o1), .second, .val (.long g2), .second, .val (.long o2), .second, .val (.ref b3), .val (.ref b5), .val (.long t1), .second, .val (.long t2), .second, .val (.long (-4611686018427387904 : Int64)), .second, .val (.long d1), .second, .val (.long d2), .second, .val (.int (1 : Int32)), .val (.int (1 : Int32)), .val (.int (1 : Int32)), .val (.int cc), .unset] []))
            refine Go.st (fun t k => XS.iconst X9.here hx rfl (hb hby at_297) k) ?_
            show Go p.tables e below PP (T9.setTop (mkF m 298 #[.val (.long q1), .second, .val (.long q2), .second, .val (.long q3), .second, .val (.long q4), .second, .val (.int p5), .val (.long g1), .second, .val (.long o1), .second, .val (.long g2), .second, .val (.long o2), .second, .val (.ref b3), .val (.ref b5), .val (.long t1), .second, .val (.long t2), .second, .val (.long (-4611686018427387904 : Int64)), .second, .val (.long d1), .second, .val (.long d2), .second, .val (.int (1 : Int32)), .val (.int (1 : Int32)), .val (.int (1 : Int32)), .val (.int cc), .unset] [(.int (1 : Int32))]))
            refine Go.st (fun t k => XS.goto X9.here hx rfl (pc0 := 298) (pc' := 302) rfl (hb hby at_298) (by decide) (by decide) k) ?_
            show Go p.tables e below PP (T9.setTop (mkF m 302 #[.val (.long q1), .second, .val (.long q2), .second, .val (.long q3), .second, .val (.long q4), .second, .val (.int p5), .val (.long g1), .second, .val (.long o1), .second, .val (.long g2), .second, .val (.long o2), .second, .val (.ref b3), .val (.ref b5), .val (.long t1), .second, .val (.long t2), .second, .val (.long (-4611686018427387904 : Int64)), .second, .val (.long d1), .second, .val (.long d2), .second, .val (.int (1 : Int32)), .val (.int (1 : Int32)), .val (.int (1 : Int32)), .val (.int cc), .unset] [(.int (1 : Int32))]))
            refine Go.st (fun t k => XS.istore X9.here hx rfl (hb hby at_302) rfl (l' := #[.val (.long q1), .second, .val (.long q2), .second, .val (.long q3), .second, .val (.long q4), .second, .val (.int p5), .val (.long g1), .second, .val (.long o1), .second, .val (.long g2), .second, .val (.long o2), .second, .val (.ref b3), .val (.ref b5), .val (.long t1), .second, .val (.long t2), .second, .val (.long (-4611686018427387904 : Int64)), .second, .val (.long d1), .second, .val (.long d2), .second, .val (.int (1 : Int32)), .val (.int (1 : Int32)), .val (.int (1 : Int32)), .val (.int cc), .val (.int (1 : Int32))]) rfl k) ?_
            show Go p.tables e below PP (T9.setTop (mkF m 304 #[.val (.long q1), .second, .val (.long q2), .second, .val (.long q3), .second, .val (.long q4), .second, .val (.int p5), .val (.long g1), .second, .val (.long o1), .second, .val (.long g2), .second, .val (.long o2), .second, .val (.ref b3), .val (.ref b5), .val (.long t1), .second, .val (.long t2), .second, .val (.long (-4611686018427387904 : Int64)), .second, .val (.long d1), .second, .val (.long d2), .second, .val (.int (1 : Int32)), .val (.int (1 : Int32)), .val (.int (1 : Int32)), .val (.int cc), .val (.int (1 : Int32))] []))
            refine Go.st (fun t k => XS.iload X9.here hx rfl (hb hby at_304) rfl k) ?_
            show Go p.tables e below PP (T9.setTop (mkF m 306 #[.val (.long q1), .second, .val (.long q2), .second, .val (.long q3), .second, .val (.long q4), .second, .val (.int p5), .val (.long g1), .second, .val (.long o1), .second, .val (.long g2), .second, .val (.long o2), .second, .val (.ref b3), .val (.ref b5), .val (.long t1), .second, .val (.long t2), .second, .val (.long (-4611686018427387904 : Int64)), .second, .val (.long d1), .second, .val (.long d2), .second, .val (.int (1 : Int32)), .val (.int (1 : Int32)), .val (.int (1 : Int32)), .val (.int cc), .val (.int (1 : Int32))] [(.int (1 : Int32))]))
            refine Go.st (fun t k => XS.ifNo X9.here hx rfl (hb hby at_306) rfl (XT.i0_eq_f (by decide)) k) ?_
            show Go p.tables e below PP (T9.setTop (mkF m 309 #[.val (.long q1), .second, .val (.long q2), .second, .val (.long q3), .second, .val (.long q4), .second, .val (.int p5), .val (.long g1), .second, .val (.long o1), .second, .val (.long g2), .second, .val (.long o2), .second, .val (.ref b3), .val (.ref b5), .val (.long t1), .second, .val (.long t2), .second, .val (.long (-4611686018427387904 : Int64)), .second, .val (.long d1), .second, .val (.long d2), .second, .val (.int (1 : Int32)), .val (.int (1 : Int32)), .val (.int (1 : Int32)), .val (.int cc), .val (.int (1 : Int32))] []))
            refine Go.st (fun t k => XS.iload X9.here hx rfl (hb hby at_309) rfl k) ?_
            show Go p.tables e below PP (T9.setTop (mkF m 311 #[.val (.long q1), .second, .val (.long q2), .second, .val (.long q3), .second, .val (.long q4), .second, .val (.int p5), .val (.long g1), .second, .val (.long o1), .second, .val (.long g2), .second, .val (.long o2), .second, .val (.ref b3), .val (.ref b5), .val (.long t1), .second, .val (.long t2), .second, .val (.long (-4611686018427387904 : Int64)), .second, .val (.long d1), .second, .val (.long d2), .second, .val (.int (1 : Int32)), .val (.int (1 : Int32)), .val (.int (1 : Int32)), .val (.int cc), .val (.int (1 : Int32))] [(.int (1 : Int32))]))
            refine Go.st (fun t k => XS.ifNo X9.here hx rfl (hb hby at_311) rfl (XT.i0_eq_f (by decide)) k) ?_
            show Go p.tables e below PP (T9.setTop (mkF m 314 #[.val (.long q1), .second, .val (.long q2), .second, .val (.long q3), .second, .val (.long q4), .second, .val (.int p5), .val (.long g1), .second, .val (.long o1), .second, .val (.long g2), .second, .val (.long o2), .second, .val (.ref b3), .val (.ref b5), .val (.long t1), .second, .val (.long t2), .second, .val (.long (-4611686018427387904 : Int64)), .second, .val (.long d1), .second, .val (.long d2), .second, .val (.int (1 : Int32)), .val (.int (1 : Int32)), .val (.int (1 : Int32)), .val (.int cc), .val (.int (1 : Int32))] []))
            refine Go.st (fun t k => XS.iload X9.here hx rfl (hb hby at_314) rfl k) ?_
            show Go p.tables e below PP (T9.setTop (mkF m 316 #[.val (.long q1), .second, .val (.long q2), .second, .val (.long q3), .second, .val (.long q4), .second, .val (.int p5), .val (.long g1), .second, .val (.long o1), .second, .val (.long g2), .second, .val (.long o2), .second, .val (.ref b3), .val (.ref b5), .val (.long t1), .second, .val (.long t2), .second, .val (.long (-4611686018427387904 : Int64)), .second, .val (.long d1), .second, .val (.long d2), .second, .val (.int (1 : Int32)), .val (.int (1 : Int32)), .val (.int (1 : Int32)), .val (.int cc), .val (.int (1 : Int32))] [(.int (1 : Int32))]))
            refine Go.st (fun t k => XS.ifNo X9.here hx rfl (hb hby at_316) rfl (XT.i0_eq_f (by decide)) k) ?_
            show Go p.tables e below PP (T9.setTop (mkF m 319 #[.val (.long q1), .second, .val (.long q2), .second, .val (.long q3), .second, .val (.long q4), .second, .val (.int p5), .val (.long g1), .second, .val (.long o1), .second, .val (.long g2), .second, .val (.long o2), .second, .val (.ref b3), .val (.ref b5), .val (.long t1), .second, .val (.long t2), .second, .val (.long (-4611686018427387904 : Int64)), .second, .val (.long d1), .second, .val (.long d2), .second, .val (.int (1 : Int32)), .val (.int (1 : Int32)), .val (.int (1 : Int32)), .val (.int cc), .val (.int (1 : Int32))] []))
            refine Go.st (fun t k => XS.iload X9.here hx rfl (hb hby at_319) rfl k) ?_
            show Go p.tables e below PP (T9.setTop (mkF m 321 #[.val (.long q1), .second, .val (.long q2), .second, .val (.long q3), .second, .val (.long q4), .second, .val (.int p5), .val (.long g1), .second, .val (.long o1), .second, .val (.long g2), .second, .val (.long o2), .second, .val (.ref b3), .val (.ref b5), .val (.long t1), .second, .val (.long t2), .second, .val (.long (-4611686018427387904 : Int64)), .second, .val (.long d1), .second, .val (.long d2), .second, .val (.int (1 : Int32)), .val (.int (1 : Int32)), .val (.int (1 : Int32)), .val (.int cc), .val (.int (1 : Int32))] [(.int (1 : Int32))]))
            refine Go.st (fun t k => XS.ifNo X9.here hx rfl (hb hby at_321) rfl (XT.i0_eq_f (by decide)) k) ?_
            show Go p.tables e below PP (T9.setTop (mkF m 324 #[.val (.long q1), .second, .val (.long q2), .second, .val (.long q3), .second, .val (.long q4), .second, .val (.int p5), .val (.long g1), .second, .val (.long o1), .second, .val (.long g2), .second, .val (.long o2), .second, .val (.ref b3), .val (.ref b5), .val (.long t1), .second, .val (.long t2), .second, .val (.long (-4611686018427387904 : Int64)), .second, .val (.long d1), .second, .val (.long d2), .second, .val (.int (1 : Int32)), .val (.int (1 : Int32)), .val (.int (1 : Int32)), .val (.int cc), .val (.int (1 : Int32))] []))
            refine Go.st (fun t k => XS.iconst X9.here hx rfl (hb hby at_324) k) ?_
            show Go p.tables e below PP (T9.setTop (mkF m 325 #[.val (.long q1), .second, .val (.long q2), .second, .val (.long q3), .second, .val (.long q4), .second, .val (.int p5), .val (.long g1), .second, .val (.long o1), .second, .val (.long g2), .second, .val (.long o2), .second, .val (.ref b3), .val (.ref b5), .val (.long t1), .second, .val (.long t2), .second, .val (.long (-4611686018427387904 : Int64)), .second, .val (.long d1), .second, .val (.long d2), .second, .val (.int (1 : Int32)), .val (.int (1 : Int32)), .val (.int (1 : Int32)), .val (.int cc), .val (.int (1 : Int32))] [(.int (1 : Int32))]))
            refine Go.st (fun t k => XS.goto X9.here hx rfl (pc0 := 325) (pc' := 329) rfl (hb hby at_325) (by decide) (by decide) k) ?_
            show Go p.tables e below PP (T9.setTop (mkF m 329 #[.val (.long q1), .second, .val (.long q2), .second, .val (.long q3), .second, .val (.long q4), .second, .val (.int p5), .val (.long g1), .second, .val (.long o1), .second, .val (.long g2), .second, .val (.long o2), .second, .val (.ref b3), .val (.ref b5), .val (.long t1), .second, .val (.long t2), .second, .val (.long (-4611686018427387904 : Int64)), .second, .val (.long d1), .second, .val (.long d2), .second, .val (.int (1 : Int32)), .val (.int (1 : Int32)), .val (.int (1 : Int32)), .val (.int cc), .val (.int (1 : Int32))] [(.int (1 : Int32))]))
            rw [hPP]
            refine endN X9 hx hlk (t := .boolean) hret (by simp) (hb hby at_329) (w := (1 : Int32)) (rfl) ?_ (by decide) (by decide)
            show Q0 Z q1 q2 q3 q4 p5 h0 n0 (some (.int (1 : Int32))) T9.heap _
            rw [e9]
            exact ⟨rfl, N6⟩
    show Go p.tables e below PP (T1.setTop (mkF m 34 #[.val (.long q1), .second, .val (.long q2), .second, .val (.long q3), .second, .val (.long q4), .second, .val (.int p5), .val (.long g1), .second, .val (.long o1), .second, .val (.long g2), .second, .unset, .unset, .unset, .unset, .unset, .unset, .unset, .unset, .unset, .unset, .unset, .unset, .unset, .unset, .unset, .unset, .unset, .unset, .unset] []))
    refine Go.st (fun t k => XS.iload X1.here hx rfl (hb hby at_34) rfl k) ?_
    show Go p.tables e below PP (T1.setTop (mkF m 36 #[.val (.long q1), .second, .val (.long q2), .second, .val (.long q3), .second, .val (.long q4), .second, .val (.int p5), .val (.long g1), .second, .val (.long o1), .second, .val (.long g2), .second, .unset, .unset, .unset, .unset, .unset, .unset, .unset, .unset, .unset, .unset, .unset, .unset, .unset, .unset, .unset, .unset, .unset, .unset, .unset] [(.int p5)]))
    refine Go.st (fun t k => XS.iconst X1.here hx rfl (hb hby at_36) k) ?_
    show Go p.tables e below PP (T1.setTop (mkF m 37 #[.val (.long q1), .second, .val (.long q2), .second, .val (.long q3), .second, .val (.long q4), .second, .val (.int p5), .val (.long g1), .second, .val (.long o1), .second, .val (.long g2), .second, .unset, .unset, .unset, .unset, .unset, .unset, .unset, .unset, .unset, .unset, .unset, .unset, .unset, .unset, .unset, .unset, .unset, .unset, .unset] [(.int (2 : Int32)), (.int p5)]))
    refine Go.st (fun t k => XS.iand X1.here hx rfl (hb hby at_37) rfl k) ?_
    show Go p.tables e below PP (T1.setTop (mkF m 38 #[.val (.long q1), .second, .val (.long q2), .second, .val (.long q3), .second, .val (.long q4), .second, .val (.int p5), .val (.long g1), .second, .val (.long o1), .second, .val (.long g2), .second, .unset, .unset, .unset, .unset, .unset, .unset, .unset, .unset, .unset, .unset, .unset, .unset, .unset, .unset, .unset, .unset, .unset, .unset, .unset] [(.int (p5 &&& (2 : Int32)))]))
    by_cases hc38 : (p5 &&& (2 : Int32)) = (0 : Int32)
    · --
      refine Go.st (fun t k => XS.ifYes X1.here hx rfl (pc0 := 38) (pc' := 46) rfl (hb hby at_38) rfl (XT.i0_eq_t hc38) (by decide) (by decide) k) ?_
      show Go p.tables e below PP (T1.setTop (mkF m 46 #[.val (.long q1), .second, .val (.long q2), .second, .val (.long q3), .second, .val (.long q4), .second, .val (.int p5), .val (.long g1), .second, .val (.long o1), .second, .val (.long g2), .second, .unset, .unset, .unset, .unset, .unset, .unset, .unset, .unset, .unset, .unset, .unset, .unset, .unset, .unset, .unset, .unset, .unset, .unset, .unset] []))
      refine Go.st (fun t k => XS.lload X1.here hx rfl (hb hby at_46) rfl k) ?_
      show Go p.tables e below PP (T1.setTop (mkF m 48 #[.val (.long q1), .second, .val (.long q2), .second, .val (.long q3), .second, .val (.long q4), .second, .val (.int p5), .val (.long g1), .second, .val (.long o1), .second, .val (.long g2), .second, .unset, .unset, .unset, .unset, .unset, .unset, .unset, .unset, .unset, .unset, .unset, .unset, .unset, .unset, .unset, .unset, .unset, .unset, .unset] [(.long q4)]))
      refine Go.st (fun t k => X1.ldc2J hx hown (mvT hZ (hw _ (List.mem_of_getElem? (i := 1) rfl))) (g := (mkF m 48 #[.val (.long q1), .second, .val (.long q2), .second, .val (.long q3), .second, .val (.long q4), .second, .val (.int p5), .val (.long g1), .second, .val (.long o1), .second, .val (.long g2), .second, .unset, .unset, .unset, .unset, .unset, .unset, .unset, .unset, .unset, .unset, .unset, .unset, .unset, .unset, .unset, .unset, .unset, .unset, .unset] [(.long q4)])) rfl (hb hby at_48) k) ?_
      show Go p.tables e below PP (T1.setTop (mkF m 51 #[.val (.long q1), .second, .val (.long q2), .second, .val (.long q3), .second, .val (.long q4), .second, .val (.int p5), .val (.long g1), .second, .val (.long o1), .second, .val (.long g2), .second, .unset, .unset, .unset, .unset, .unset, .unset, .unset, .unset, .unset, .unset, .unset, .unset, .unset, .unset, .unset, .unset, .unset, .unset, .unset] [(.long (4294967295 : Int64)), (.long q4)]))
      refine Go.st (fun t k => XS.land X1.here hx rfl (hb hby at_51) rfl k) ?_
      show Go p.tables e below PP (T1.setTop (mkF m 52 #[.val (.long q1), .second, .val (.long q2), .second, .val (.long q3), .second, .val (.long q4), .second, .val (.int p5), .val (.long g1), .second, .val (.long o1), .second, .val (.long g2), .second, .unset, .unset, .unset, .unset, .unset, .unset, .unset, .unset, .unset, .unset, .unset, .unset, .unset, .unset, .unset, .unset, .unset, .unset, .unset] [(.long (q4 &&& (4294967295 : Int64)))]))
      exact J52 _ _ _ (X1.more (by decide) (by decide)) e1 N1 (own_off _ _ rfl)
    · --
      refine Go.st (fun t k => XS.ifNo X1.here hx rfl (hb hby at_38) rfl (XT.i0_eq_f hc38) k) ?_
      show Go p.tables e below PP (T1.setTop (mkF m 41 #[.val (.long q1), .second, .val (.long q2), .second, .val (.long q3), .second, .val (.long q4), .second, .val (.int p5), .val (.long g1), .second, .val (.long o1), .second, .val (.long g2), .second, .unset, .unset, .unset, .unset, .unset, .unset, .unset, .unset, .unset, .unset, .unset, .unset, .unset, .unset, .unset, .unset, .unset, .unset, .unset] []))
      refine Go.st (fun t k => XS.lload X1.here hx rfl (hb hby at_41) rfl k) ?_
      show Go p.tables e below PP (T1.setTop (mkF m 43 #[.val (.long q1), .second, .val (.long q2), .second, .val (.long q3), .second, .val (.long q4), .second, .val (.int p5), .val (.long g1), .second, .val (.long o1), .second, .val (.long g2), .second, .unset, .unset, .unset, .unset, .unset, .unset, .unset, .unset, .unset, .unset, .unset, .unset, .unset, .unset, .unset, .unset, .unset, .unset, .unset] [(.long o1)]))
      refine Go.st (fun t k => XS.goto X1.here hx rfl (pc0 := 43) (pc' := 52) rfl (hb hby at_43) (by decide) (by decide) k) ?_
      show Go p.tables e below PP (T1.setTop (mkF m 52 #[.val (.long q1), .second, .val (.long q2), .second, .val (.long q3), .second, .val (.long q4), .second, .val (.int p5), .val (.long g1), .second, .val (.long o1), .second, .val (.long g2), .second, .unset, .unset, .unset, .unset, .unset, .unset, .unset, .unset, .unset, .unset, .unset, .unset, .unset, .unset, .unset, .unset, .unset, .unset, .unset] [(.long o1)]))
      exact J52 _ _ _ (X1.more (by decide) (by decide)) e1 N1 (ho1)
  show Go p.tables e below PP (s₁.setTop (mkF m 14 #[.val (.long q1), .second, .val (.long q2), .second, .val (.long q3), .second, .val (.long q4), .second, .val (.int p5), .val (.long g1), .second, .val (.long o1), .second, .unset, .unset, .unset, .unset, .unset, .unset, .unset, .unset, .unset, .unset, .unset, .unset, .unset, .unset, .unset, .unset, .unset, .unset, .unset, .unset, .unset] []))
  refine Go.st (fun t k => XS.iload X0.here hx rfl (hb hby at_14) rfl k) ?_
  show Go p.tables e below PP (s₁.setTop (mkF m 16 #[.val (.long q1), .second, .val (.long q2), .second, .val (.long q3), .second, .val (.long q4), .second, .val (.int p5), .val (.long g1), .second, .val (.long o1), .second, .unset, .unset, .unset, .unset, .unset, .unset, .unset, .unset, .unset, .unset, .unset, .unset, .unset, .unset, .unset, .unset, .unset, .unset, .unset, .unset, .unset] [(.int p5)]))
  refine Go.st (fun t k => XS.iconst X0.here hx rfl (hb hby at_16) k) ?_
  show Go p.tables e below PP (s₁.setTop (mkF m 17 #[.val (.long q1), .second, .val (.long q2), .second, .val (.long q3), .second, .val (.long q4), .second, .val (.int p5), .val (.long g1), .second, .val (.long o1), .second, .unset, .unset, .unset, .unset, .unset, .unset, .unset, .unset, .unset, .unset, .unset, .unset, .unset, .unset, .unset, .unset, .unset, .unset, .unset, .unset, .unset] [(.int (1 : Int32)), (.int p5)]))
  refine Go.st (fun t k => XS.iand X0.here hx rfl (hb hby at_17) rfl k) ?_
  show Go p.tables e below PP (s₁.setTop (mkF m 18 #[.val (.long q1), .second, .val (.long q2), .second, .val (.long q3), .second, .val (.long q4), .second, .val (.int p5), .val (.long g1), .second, .val (.long o1), .second, .unset, .unset, .unset, .unset, .unset, .unset, .unset, .unset, .unset, .unset, .unset, .unset, .unset, .unset, .unset, .unset, .unset, .unset, .unset, .unset, .unset] [(.int (p5 &&& (1 : Int32)))]))
  by_cases hc18 : (p5 &&& (1 : Int32)) = (0 : Int32)
  · --
    refine Go.st (fun t k => XS.ifYes X0.here hx rfl (pc0 := 18) (pc' := 26) rfl (hb hby at_18) rfl (XT.i0_eq_t hc18) (by decide) (by decide) k) ?_
    show Go p.tables e below PP (s₁.setTop (mkF m 26 #[.val (.long q1), .second, .val (.long q2), .second, .val (.long q3), .second, .val (.long q4), .second, .val (.int p5), .val (.long g1), .second, .val (.long o1), .second, .unset, .unset, .unset, .unset, .unset, .unset, .unset, .unset, .unset, .unset, .unset, .unset, .unset, .unset, .unset, .unset, .unset, .unset, .unset, .unset, .unset] []))
    refine Go.st (fun t k => XS.lload X0.here hx rfl (hb hby at_26) rfl k) ?_
    show Go p.tables e below PP (s₁.setTop (mkF m 28 #[.val (.long q1), .second, .val (.long q2), .second, .val (.long q3), .second, .val (.long q4), .second, .val (.int p5), .val (.long g1), .second, .val (.long o1), .second, .unset, .unset, .unset, .unset, .unset, .unset, .unset, .unset, .unset, .unset, .unset, .unset, .unset, .unset, .unset, .unset, .unset, .unset, .unset, .unset, .unset] [(.long q3)]))
    refine Go.st (fun t k => X0.ldc2J hx hown (mvT hZ (hw _ (List.mem_of_getElem? (i := 0) rfl))) (g := (mkF m 28 #[.val (.long q1), .second, .val (.long q2), .second, .val (.long q3), .second, .val (.long q4), .second, .val (.int p5), .val (.long g1), .second, .val (.long o1), .second, .unset, .unset, .unset, .unset, .unset, .unset, .unset, .unset, .unset, .unset, .unset, .unset, .unset, .unset, .unset, .unset, .unset, .unset, .unset, .unset, .unset] [(.long q3)])) rfl (hb hby at_28) k) ?_
    show Go p.tables e below PP (s₁.setTop (mkF m 31 #[.val (.long q1), .second, .val (.long q2), .second, .val (.long q3), .second, .val (.long q4), .second, .val (.int p5), .val (.long g1), .second, .val (.long o1), .second, .unset, .unset, .unset, .unset, .unset, .unset, .unset, .unset, .unset, .unset, .unset, .unset, .unset, .unset, .unset, .unset, .unset, .unset, .unset, .unset, .unset] [(.long (1073741823 : Int64)), (.long q3)]))
    refine Go.st (fun t k => XS.land X0.here hx rfl (hb hby at_31) rfl k) ?_
    show Go p.tables e below PP (s₁.setTop (mkF m 32 #[.val (.long q1), .second, .val (.long q2), .second, .val (.long q3), .second, .val (.long q4), .second, .val (.int p5), .val (.long g1), .second, .val (.long o1), .second, .unset, .unset, .unset, .unset, .unset, .unset, .unset, .unset, .unset, .unset, .unset, .unset, .unset, .unset, .unset, .unset, .unset, .unset, .unset, .unset, .unset] [(.long (q3 &&& (1073741823 : Int64)))]))
    exact J32 _ _ _ X0 e0 N0 (own_seg _ _ rfl)
  · --
    refine Go.st (fun t k => XS.ifNo X0.here hx rfl (hb hby at_18) rfl (XT.i0_eq_f hc18) k) ?_
    show Go p.tables e below PP (s₁.setTop (mkF m 21 #[.val (.long q1), .second, .val (.long q2), .second, .val (.long q3), .second, .val (.long q4), .second, .val (.int p5), .val (.long g1), .second, .val (.long o1), .second, .unset, .unset, .unset, .unset, .unset, .unset, .unset, .unset, .unset, .unset, .unset, .unset, .unset, .unset, .unset, .unset, .unset, .unset, .unset, .unset, .unset] []))
    refine Go.st (fun t k => XS.lload X0.here hx rfl (hb hby at_21) rfl k) ?_
    show Go p.tables e below PP (s₁.setTop (mkF m 23 #[.val (.long q1), .second, .val (.long q2), .second, .val (.long q3), .second, .val (.long q4), .second, .val (.int p5), .val (.long g1), .second, .val (.long o1), .second, .unset, .unset, .unset, .unset, .unset, .unset, .unset, .unset, .unset, .unset, .unset, .unset, .unset, .unset, .unset, .unset, .unset, .unset, .unset, .unset, .unset] [(.long g1)]))
    refine Go.st (fun t k => XS.goto X0.here hx rfl (pc0 := 23) (pc' := 32) rfl (hb hby at_23) (by decide) (by decide) k) ?_
    show Go p.tables e below PP (s₁.setTop (mkF m 32 #[.val (.long q1), .second, .val (.long q2), .second, .val (.long q3), .second, .val (.long q4), .second, .val (.int p5), .val (.long g1), .second, .val (.long o1), .second, .unset, .unset, .unset, .unset, .unset, .unset, .unset, .unset, .unset, .unset, .unset, .unset, .unset, .unset, .unset, .unset, .unset, .unset, .unset, .unset, .unset] [(.long g1)]))
    exact J32 _ _ _ X0 e0 N0 (hg1)
set_option maxRecDepth 65536 in
set_option maxHeartbeats 40000000 in
theorem comes_1 {Post : Tables → Env → Array Value → State → Outcome → State → Prop} (hpost : ∀ tb e args s v u, (limb_1_1.after args s (.returned v) u = true ∧ limb_1_2.after args s (.returned v) u = true ∧ True) → FrameEnd s (.returned v) u (Jvm.fieldLocs frame_1_writes args s ++ Jvm.arrayLocs frame_1_arrays args s ++ Jvm.staticLocs frame_1_statics s) 16 128 → Post tb e args s (.returned v) u) :
    ArmFor flags0 classFile x code maxLocals ret World_1 tables_1 room_1 Calls_1 rest_1 Pre_1 Post := by
  intro l hfl _ _ p e ha hc hk s m args below hf hA hF happ hP
  obtain ⟨hcalls, hrest, hpre⟩ := hP
  obtain ⟨-, -, -, hnamed, -, -, -, hat⟩ := (Spec.applies_iff hf).mp happ
  obtain ⟨hg, hn⟩ := and_e (Cond.before_iff.mp (show (Jvm.Cond.and given_1 narrow_1).before args s = true from hpre))
  obtain ⟨g1, g2⟩ := and_e hg
  obtain ⟨g3, g4⟩ := and_e g2
  obtain ⟨g5, g6⟩ := and_e g4
  obtain ⟨g7, g8⟩ := and_e g6
  obtain ⟨g9, g10⟩ := and_e g8
  obtain ⟨w0, w1, w2, w3, w4, rfl⟩ : ∃ w0 w1 w2 w3 w4 : Value, args = #[w0, w1, w2, w3, w4] := by
    have hs : args.size = 5 := by simpa [Cond.value, given_1] using g1
    obtain ⟨L⟩ := args
    match L, hs with
    | [w0, w1, w2, w3, w4], _ => exact ⟨w0, w1, w2, w3, w4, rfl⟩
  have hw := fun d (hd : d ∈ tables_1) => atoms_spec (ws := Jvm.Cond.code x code maxLocals ret :: tables_1) hat d (List.mem_cons_of_mem _ hd)
  have hfit : Fit s := fun {y c} hc i hi => by
    obtain ⟨ha, rfl⟩ := Array.getElem?_eq_some_iff.mp hc
    have q := List.all_eq_true.mp ((Array.all_eq_true_iff_forall_mem.mp hF) _ (Array.getElem_mem ha)) i (List.mem_range.mpr hi)
    simpa [Array.getElem?_eq_getElem hi] using q
  obtain ⟨i0, ei0⟩ := isL_v g3
  obtain rfl : w0 = (.long i0) := Option.some.inj ei0
  obtain ⟨i1, ei1⟩ := isL_v g5
  obtain rfl : w1 = (.long i1) := Option.some.inj ei1
  obtain ⟨i2, ei2⟩ := isL_v g7
  obtain rfl : w2 = (.long i2) := Option.some.inj ei2
  obtain ⟨i3, ei3⟩ := isL_v g9
  obtain rfl : w3 = (.long i3) := Option.some.inj ei3
  obtain ⟨i4, ei4⟩ := is_v g10
  obtain rfl : w4 = (.int i4) := Option.some.inj ei4
  obtain ⟨n, o, h1, h2, h3, _, L, rfl, ⟨rfl, N⟩, hq⟩ := rm0 l s _ hw tables_1 i0 i1 i2 i3 i4  s.heap s.heap.size (Nat.le_refl _)  p e ha hc hk s m _ below hf ((Spec.applies_iff_loose hf).mp happ).1 ⟨rfl, State.Warmed39.refl s, rfl⟩ trivial
  refine ⟨n, _, h1, h2, h3, hpost _ _ _ _ _ _ ⟨Cond.after_iff.mpr rfl, Cond.after_iff.mpr (eq_i res_at (Term.int_eval (1)) rfl), trivial⟩ ⟨hq.1, hq.2.1, (hq.2.2.sift fun y hy => Or.inr (N y hy)).mono (by decide) (by decide)⟩⟩
theorem main_1_1 : Claimed_1_1 := comes_1 fun _ _ _ _ _ _ h hF => ⟨h.1, hF⟩
theorem main_1_2 : Claimed_1_2 := comes_1 fun _ _ _ _ _ _ h hF => ⟨h.2.1, hF⟩
end Jvm.Pilot.@@N@@
namespace Jvm.Pilot.@@N@@
open Jvm Jvm.ClassFile Sem Op Lib Jvm.Free Jvm.Stand Jvm.Pilot.@@N@@.Jvm.D
/-! MADE BY PROGRAM (witnessworld.py) out of the Statement's table words and the real class files: 15 classes; the members and pool entries that the words name. The judged class is class 1, her method 1. -/
namespace start1
open Jvm.ClassFile
def u (s : String) : CpInfo := .utf8 (stringToUtf16 s)
/-- a pool by its gaps: so many unusable entries, then the entry; so many at the end -/
def gap : Nat → List CpInfo → List CpInfo
  | 0, r => r
  | n + 1, r => .unusable :: gap n r
def poolList (es : List (Nat × CpInfo)) (last : Nat) : List CpInfo := es.foldr (fun e r => gap e.1 (e.2 :: r)) (gap last [])
def pool (es : List (Nat × CpInfo)) (last : Nat) : Array CpInfo := ⟨poolList es last⟩
def fileOf (pool : Array CpInfo) (this : Nat) (attrs : Array Attribute := #[]) (ms : Array MethodInfo := #[]) (fl : Nat := 33) (sup : Nat := 0) (ifs : Array Nat := #[]) (fds : Array FieldInfo := #[]) : ClassFile where
  minorVersion := 0
  majorVersion := 65
  constantPool := pool
  accessFlags := fl
  thisClass := this
  superClass := sup
  interfaces := ifs
  fields := fds
  methods := ms
  attributes := attrs
def plain (name : String) (sup : Option ClassId) : Class where
  name := name
  kind := .ordinary
  loader := none
  accessFlags := 33
  super := sup
  interfaces := #[]
  cf := none
  fields := #[]
  methods := #[]
  instanceTypes := #[]
  staticTypes := #[]
  resolved := #[]
  callSites := []
  init := .initialized
  statics := none
  mirror := none

def pool0 : Array CpInfo := pool [(5, u "<init>"), (0, u "()V"), (1, .class_ 10), (1, u "java/lang/Object")] 113

def k0c0 : Code := { maxStack := 0, maxLocals := 1, code := object_method_1_code, exceptionTable := #[], attributes := #[] }
def k0m0 : Method := { name := "<init>", desc := "()V", sig := { parameters := [], returnType := none }, accessFlags := 1, code := some k0c0 }
/-- java/lang/Object -/
def k0 : Class := { plain "java/lang/Object" none with
  accessFlags := 33
  interfaces := #[]
  cf := some (fileOf pool0 8 #[] #[{ accessFlags := 1, nameIndex := 5, descriptorIndex := 6, attributes := #[] }] 33 0 #[] #[])
  fields := #[]
  methods := #[k0m0]
  instanceTypes := #[]
  staticTypes := #[]
  resolved := Array.replicate 124 none
  statics := none }

def pool1 : Array CpInfo := pool [(2, .class_ 4), (1, u "java/lang/Object"), (0, u "<init>"), (0, u "()V"), (0, .long 1073741823), (1, .long 4294967295), (1, .class_ 12), (0, u "com/example/llave/llave/storage/CommitLog$Position"), (0, .methodref 11 14), (0, .nameAndType 5 15), (0, u "(JJ)V"), (0, .methodref 17 18), (0, .class_ 19), (0, .nameAndType 20 21), (0, u "com/example/llave/llave/storage/LegacyTimes"), (0, u "ofCommitLogRecord"), (0, u "(Lcom/example/llave/llave/storage/CommitLog$Position;)J"), (2, .long 13835058055282163712), (1, .methodref 11 27), (0, .nameAndType 28 29), (0, u "compareTo"), (0, u "(Lcom/example/llave/llave/storage/CommitLog$Position;)I"), (0, .class_ 31), (0, u "com/example/llave/llave/storage/LegacyTimesOfCommitLogRecordPinLaw"), (2, u "law"), (0, u "(JJJJI)Z")] 7

def k1m0 : Method := { name := "<init>", desc := "()V", sig := { parameters := [], returnType := none }, accessFlags := 2, code := none }
def k1c1 : Code := { maxStack := 6, maxLocals := 34, code := code, exceptionTable := #[], attributes := #[] }
def k1m1 : Method := { name := "law", desc := "(JJJJI)Z", sig := { parameters := [.long, .long, .long, .long, .int], returnType := some .boolean }, accessFlags := 9, code := some k1c1 }
/-- com/example/llave/llave/storage/LegacyTimesOfCommitLogRecordPinLaw -/
def k1 : Class := { plain "com/example/llave/llave/storage/LegacyTimesOfCommitLogRecordPinLaw" (some 0) with
  accessFlags := 49
  interfaces := #[]
  cf := some (fileOf pool1 30 #[] #[{ accessFlags := 2, nameIndex := 5, descriptorIndex := 6, attributes := #[] }, { accessFlags := 9, nameIndex := 34, descriptorIndex := 35, attributes := #[] }] 49 2 #[] #[])
  fields := #[]
  methods := #[k1m0, k1m1]
  instanceTypes := #[]
  staticTypes := #[]
  resolved := Array.replicate 43 none
  statics := none }

def pool2 : Array CpInfo := pool [(1, .class_ 2), (0, u "java/lang/Comparable"), (0, .class_ 4), (0, u "java/lang/Object")] 7

/-- java/lang/Comparable -/
def k2 : Class := { plain "java/lang/Comparable" (some 0) with
  accessFlags := 1537
  interfaces := #[]
  cf := some (fileOf pool2 1 #[] #[] 1537 3 #[] #[])
  fields := #[]
  methods := #[]
  instanceTypes := #[]
  staticTypes := #[]
  resolved := Array.replicate 12 none
  statics := none }

def pool3 : Array CpInfo := pool [(1, .methodref 2 3), (0, .class_ 4), (0, .nameAndType 5 6), (0, u "java/lang/Object"), (0, u "<init>"), (0, u "()V"), (0, .fieldref 8 9), (0, .class_ 10), (0, .nameAndType 11 12), (0, u "com/example/llave/llave/storage/CommitLog$Position"), (0, u "segment"), (0, u "J"), (0, .fieldref 8 14), (0, .nameAndType 15 12), (0, u "offset"), (0, .methodref 17 18), (0, .class_ 19), (0, .nameAndType 20 21), (0, u "java/lang/Long"), (0, u "compare"), (0, u "(JJ)I"), (2, u "compareTo"), (0, u "(Lcom/example/llave/llave/storage/CommitLog$Position;)I"), (10, u "(JJ)V"), (2, u "START"), (0, u "Lcom/example/llave/llave/storage/CommitLog$Position;"), (0, .class_ 42), (0, u "java/lang/Comparable"), (2, u "getSegment"), (0, u "()J"), (0, u "getOffset"), (14, .class_ 63), (0, u "com/example/llave/llave/storage/CommitLog")] 16

def k3c0 : Code := { maxStack := 3, maxLocals := 5, code := prog_139_method_1_code, exceptionTable := #[], attributes := #[] }
def k3m0 : Method := { name := "<init>", desc := "(JJ)V", sig := { parameters := [.long, .long], returnType := none }, accessFlags := 0, code := some k3c0 }
def k3c1 : Code := { maxStack := 2, maxLocals := 1, code := prog_139_method_2_code, exceptionTable := #[], attributes := #[] }
def k3m1 : Method := { name := "getSegment", desc := "()J", sig := { parameters := [], returnType := some .long }, accessFlags := 0, code := some k3c1 }
def k3c2 : Code := { maxStack := 2, maxLocals := 1, code := prog_139_method_3_code, exceptionTable := #[], attributes := #[] }
def k3m2 : Method := { name := "getOffset", desc := "()J", sig := { parameters := [], returnType := some .long }, accessFlags := 0, code := some k3c2 }
def k3c3 : Code := { maxStack := 4, maxLocals := 3, code := prog_139_method_4_code, exceptionTable := #[], attributes := #[] }
def k3m3 : Method := { name := "compareTo", desc := "(Lcom/example/llave/llave/storage/CommitLog$Position;)I", sig := { parameters := [(.object "com/example/llave/llave/storage/CommitLog$Position")], returnType := some .int }, accessFlags := 1, code := some k3c3 }
/-- com/example/llave/llave/storage/CommitLog$Position -/
def k3 : Class := { plain "com/example/llave/llave/storage/CommitLog$Position" (some 0) with
  accessFlags := 48
  interfaces := #[2]
  cf := some (fileOf pool3 8 #[.nestHost 62] #[{ accessFlags := 0, nameIndex := 5, descriptorIndex := 36, attributes := #[] }, { accessFlags := 0, nameIndex := 45, descriptorIndex := 46, attributes := #[] }, { accessFlags := 0, nameIndex := 47, descriptorIndex := 46, attributes := #[] }, { accessFlags := 1, nameIndex := 24, descriptorIndex := 25, attributes := #[] }] 48 2 #[41] #[{ accessFlags := 24, nameIndex := 39, descriptorIndex := 40, attributes := #[] }, { accessFlags := 18, nameIndex := 11, descriptorIndex := 12, attributes := #[] }, { accessFlags := 18, nameIndex := 15, descriptorIndex := 12, attributes := #[] }])
  fields := #[{ name := "START", type := (.object "com/example/llave/llave/storage/CommitLog$Position"), accessFlags := 24, slot := 0, constantValue := 0 }, { name := "segment", type := .long, accessFlags := 18, slot := 0, constantValue := 0 }, { name := "offset", type := .long, accessFlags := 18, slot := 1, constantValue := 0 }]
  methods := #[k3m0, k3m1, k3m2, k3m3]
  instanceTypes := #[.long, .long]
  staticTypes := #[(.object "com/example/llave/llave/storage/CommitLog$Position")]
  resolved := Array.replicate 80 none
  statics := none }

def pool4 : Array CpInfo := pool [(4, .class_ 6), (1, u "java/lang/Object"), (0, u "<init>"), (0, u "()V"), (57, .class_ 67), (0, u "com/example/llave/llave/storage/LegacyTimes"), (0, .long 13835058055282163712), (1, .methodref 71 72), (0, .class_ 73), (0, .nameAndType 74 75), (0, u "com/example/llave/llave/storage/CommitLog$Position"), (0, u "getSegment"), (0, u "()J"), (0, .methodref 71 77), (0, .nameAndType 78 75), (0, u "getOffset"), (0, u "COMMIT_LOG_BASE"), (0, u "J"), (1, u "OFFSET_BITS"), (0, u "I"), (10, u "ofCommitLogRecord"), (0, u "(Lcom/example/llave/llave/storage/CommitLog$Position;)J")] 7

def k4m0 : Method := { name := "<init>", desc := "()V", sig := { parameters := [], returnType := none }, accessFlags := 2, code := none }
def k4c1 : Code := { maxStack := 5, maxLocals := 1, code := prog_162_method_4_code, exceptionTable := #[], attributes := #[] }
def k4m1 : Method := { name := "ofCommitLogRecord", desc := "(Lcom/example/llave/llave/storage/CommitLog$Position;)J", sig := { parameters := [(.object "com/example/llave/llave/storage/CommitLog$Position")], returnType := some .long }, accessFlags := 8, code := some k4c1 }
/-- com/example/llave/llave/storage/LegacyTimes -/
def k4 : Class := { plain "com/example/llave/llave/storage/LegacyTimes" (some 0) with
  accessFlags := 48
  interfaces := #[]
  cf := some (fileOf pool4 66 #[] #[{ accessFlags := 2, nameIndex := 7, descriptorIndex := 8, attributes := #[] }, { accessFlags := 8, nameIndex := 94, descriptorIndex := 95, attributes := #[] }] 48 4 #[] #[{ accessFlags := 26, nameIndex := 79, descriptorIndex := 80, attributes := #[] }, { accessFlags := 26, nameIndex := 82, descriptorIndex := 83, attributes := #[] }])
  fields := #[{ name := "COMMIT_LOG_BASE", type := .long, accessFlags := 26, slot := 0, constantValue := 0 }, { name := "OFFSET_BITS", type := .int, accessFlags := 26, slot := 1, constantValue := 0 }]
  methods := #[k4m0, k4m1]
  instanceTypes := #[]
  staticTypes := #[.long, .int]
  resolved := Array.replicate 103 none
  statics := none }

def pool5 : Array CpInfo := pool [(1, .class_ 2), (0, u "java/io/Serializable"), (0, .class_ 4), (0, u "java/lang/Object")] 2

/-- java/io/Serializable -/
def k5 : Class := { plain "java/io/Serializable" (some 0) with
  accessFlags := 1537
  interfaces := #[]
  cf := some (fileOf pool5 1 #[] #[] 1537 3 #[] #[])
  fields := #[]
  methods := #[]
  instanceTypes := #[]
  staticTypes := #[]
  resolved := Array.replicate 7 none
  statics := none }

def pool6 : Array CpInfo := pool [(2, .class_ 4), (1, u "java/lang/Object"), (0, u "<init>"), (0, u "()V"), (1, .class_ 10), (1, u "java/lang/Number"), (2, .class_ 14), (0, u "java/io/Serializable"), (0, u "serialVersionUID"), (0, u "J")] 20

def k6m0 : Method := { name := "<init>", desc := "()V", sig := { parameters := [], returnType := none }, accessFlags := 1, code := none }
/-- java/lang/Number -/
def k6 : Class := { plain "java/lang/Number" (some 0) with
  accessFlags := 1057
  interfaces := #[5]
  cf := some (fileOf pool6 8 #[] #[{ accessFlags := 1, nameIndex := 5, descriptorIndex := 6, attributes := #[] }] 1057 2 #[13] #[{ accessFlags := 26, nameIndex := 15, descriptorIndex := 16, attributes := #[] }])
  fields := #[{ name := "serialVersionUID", type := .long, accessFlags := 26, slot := 0, constantValue := 0 }]
  methods := #[k6m0]
  instanceTypes := #[]
  staticTypes := #[.long]
  resolved := Array.replicate 37 none
  statics := none }

def pool7 : Array CpInfo := pool [(1, .class_ 2), (0, u "java/lang/constant/Constable"), (0, .class_ 4), (0, u "java/lang/Object")] 6

/-- java/lang/constant/Constable -/
def k7 : Class := { plain "java/lang/constant/Constable" (some 0) with
  accessFlags := 1537
  interfaces := #[]
  cf := some (fileOf pool7 1 #[] #[] 1537 3 #[] #[])
  fields := #[]
  methods := #[]
  instanceTypes := #[]
  staticTypes := #[]
  resolved := Array.replicate 11 none
  statics := none }

def pool8 : Array CpInfo := pool [(1, .class_ 2), (0, u "java/lang/constant/ConstantDesc"), (0, .class_ 4), (0, u "java/lang/Object")] 32

/-- java/lang/constant/ConstantDesc -/
def k8 : Class := { plain "java/lang/constant/ConstantDesc" (some 0) with
  accessFlags := 1537
  interfaces := #[]
  cf := some (fileOf pool8 1 #[] #[] 1537 3 #[] #[])
  fields := #[]
  methods := #[]
  instanceTypes := #[]
  staticTypes := #[]
  resolved := Array.replicate 37 none
  statics := none }

def pool9 : Array CpInfo := pool [(1, .class_ 2), (0, u "java/lang/Long"), (232, .class_ 237), (1, u "java/lang/Long$LongCache"), (33, .class_ 272), (0, u "java/lang/Number"), (2, u "value"), (0, u "J"), (27, u "compare"), (0, u "(JJ)I"), (55, u "TYPE"), (0, u "Ljava/lang/Class;"), (0, .class_ 364), (0, u "java/lang/Comparable"), (0, .class_ 366), (0, u "java/lang/constant/Constable"), (0, .class_ 368), (0, u "java/lang/constant/ConstantDesc"), (0, u "MIN_VALUE"), (1, u "MAX_VALUE"), (4, u "SIZE"), (0, u "I"), (1, u "BYTES"), (1, u "serialVersionUID")] 142

def k9c0 : Code := { maxStack := 4, maxLocals := 4, code := jdk_35_method_42_code, exceptionTable := #[], attributes := #[] }
def k9m0 : Method := { name := "compare", desc := "(JJ)I", sig := { parameters := [.long, .long], returnType := some .int }, accessFlags := 9, code := some k9c0 }
/-- java/lang/Long -/
def k9 : Class := { plain "java/lang/Long" (some 6) with
  accessFlags := 49
  interfaces := #[2, 7, 8]
  cf := some (fileOf pool9 1 #[.nestMembers #[235]] #[{ accessFlags := 9, nameIndex := 304, descriptorIndex := 305, attributes := #[] }] 49 271 #[363, 365, 367] #[{ accessFlags := 25, nameIndex := 369, descriptorIndex := 276, attributes := #[] }, { accessFlags := 25, nameIndex := 371, descriptorIndex := 276, attributes := #[] }, { accessFlags := 25, nameIndex := 361, descriptorIndex := 362, attributes := #[] }, { accessFlags := 18, nameIndex := 275, descriptorIndex := 276, attributes := #[] }, { accessFlags := 25, nameIndex := 376, descriptorIndex := 377, attributes := #[] }, { accessFlags := 25, nameIndex := 379, descriptorIndex := 377, attributes := #[] }, { accessFlags := 26, nameIndex := 381, descriptorIndex := 276, attributes := #[] }])
  fields := #[{ name := "MIN_VALUE", type := .long, accessFlags := 25, slot := 0, constantValue := 0 }, { name := "MAX_VALUE", type := .long, accessFlags := 25, slot := 1, constantValue := 0 }, { name := "TYPE", type := (.object "java/lang/Class"), accessFlags := 25, slot := 2, constantValue := 0 }, { name := "value", type := .long, accessFlags := 18, slot := 0, constantValue := 0 }, { name := "SIZE", type := .int, accessFlags := 25, slot := 3, constantValue := 0 }, { name := "BYTES", type := .int, accessFlags := 25, slot := 4, constantValue := 0 }, { name := "serialVersionUID", type := .long, accessFlags := 26, slot := 5, constantValue := 0 }]
  methods := #[k9m0]
  instanceTypes := #[.long]
  staticTypes := #[.long, .long, (.object "java/lang/Class"), .int, .int, .long]
  resolved := Array.replicate 524 none
  statics := none }

def pool10 : Array CpInfo := pool [(1, u "java/lang/Cloneable"), (0, .class_ 1), (0, u "java/lang/Object"), (0, .class_ 3)] 3

/-- java/lang/Cloneable -/
def k10 : Class := { plain "java/lang/Cloneable" (some 0) with
  accessFlags := 1537
  interfaces := #[]
  cf := some (fileOf pool10 2 #[] #[] 1537 4 #[] #[])
  fields := #[]
  methods := #[]
  instanceTypes := #[]
  staticTypes := #[]
  resolved := Array.replicate 8 none
  statics := none }

/-- the primitive byte -/
def k11 : Class := { plain "byte" none with kind := .primitive 'B', accessFlags := 0x411 }
/-- [B -/
def k12 : Class := { plain "[B" (some 0) with kind := .array 11 .byte, interfaces := #[10, 5], accessFlags := 1041 }

/-- the primitive int -/
def k13 : Class := { plain "int" none with kind := .primitive 'I', accessFlags := 0x411 }
/-- [I -/
def k14 : Class := { plain "[I" (some 0) with kind := .array 13 .int, interfaces := #[10, 5], accessFlags := 1041 }

def heap : Heap := #[]
def classes : Array Class := #[k0, k1, k2, k3, k4, k5, k6, k7, k8, k9, k10, k11, k12, k13, k14]
def interned : List (Array UInt16 × Addr) := []
def slotsUsed : Nat := 0
def theMethod : MethodId := ⟨1, 1⟩
def args0 : Array Value := #[.long 5, .long 6, .long 7, .long 8, .int 0]
def aboutOver (below : List Frame) : State where
  vm := { classes := classes, interned := interned.toArray }
  heap := heap
  slotsUsed := slotsUsed
  threads := #[{ frames := .invoking theMethod args0 :: below }]
def below0 : List Frame := [.native { method := ⟨0, 0⟩, args := #[] }]
def about1 : State := aboutOver below0
def p0 : Program := .bare "" "" ""
def e0 : Env := launch0.env 0 0 0
theorem w_frames : about1.frames = Frame.invoking theMethod args0 :: below0 := rfl
set_option maxRecDepth 65536 in
theorem w_args : argsFit about1.vm theMethod args0 = true := by decide +kernel
set_option maxRecDepth 65536 in
theorem w_heap : heapFits about1 = true := by decide +kernel
set_option maxRecDepth 65536 in
theorem w_runnable : about1.curStatus? = some .runnable := by decide +kernel
set_option maxRecDepth 65536 in
theorem w_alone : about1.alone = true := by decide +kernel
set_option maxRecDepth 65536 in
theorem w_named : about1.methodNamed? x = some theMethod := by decide +kernel
set_option maxRecDepth 65536 in
theorem w_hears : about1.hears theMethod below0 = true := by decide +kernel
set_option maxRecDepth 65536 in
theorem w_ripe : about1.ripe theMethod args0 below0 = true := by decide +kernel
theorem w_running : about1.status = .running := rfl
set_option maxRecDepth 65536 in
theorem w_room : about1.hasRoom e0.platform room_1 = true :=
  launch0.hasRoom_least _ room_1 (by decide +kernel) (by decide +kernel) (by decide +kernel) (by decide +kernel) (by decide +kernel) (by decide +kernel)
theorem allAtoms_all (ts : List Jvm.Cond) (a : Array Jvm.Value) (st : Jvm.State) : (allAtoms ts).before a st = ts.all (fun c => c.before a st) := by
  induction ts with
  | nil => rfl
  | cons c t ih =>
    show (Jvm.Cond.and c (allAtoms t)).before a st = _
    rw [Jvm.Cond.before_and, ih, List.all_cons]
def words1 : List Jvm.Cond := Jvm.Cond.code x code maxLocals ret :: tables_1
/-- a 'code' word, met by the world's own term for the bytes: nothing is compared byte by byte -/
theorem code_word {y : MethodName} {bytes : ByteArray} {mx : Nat} {rt : Option FieldType} {a : Array Value} {s : State} {m : MethodId} {meth : Method} {c : Code} (h1 : s.methodNamed? y = some m) (h2 : s.vm.method? m = some meth) (h3 : meth.code = some c) (h4 : c.code = bytes)
    (h5 : (c.maxLocals == mx && c.exceptionTable.isEmpty && decide (c.maxStack ≤ mostOperands) && decide (meth.sig.returnType = rt) && !meth.locks && decide (parseMethodDescriptor y.desc = some meth.sig)) = true) : (Jvm.Cond.code y bytes mx rt).before a s = true := by
  simp only [Bool.and_eq_true, beq_iff_eq, Bool.not_eq_true', decide_eq_true_eq] at h5
  obtain ⟨⟨⟨⟨⟨g1, g2⟩, g3⟩, g4⟩, g5⟩, g6⟩ := h5
  simp [Cond.before, Cond.holds, Cond.value, h1, h2, h3, h4, g1, g2, g3, g4, g5, g6]
def isCode : Jvm.Cond → Bool
  | .code _ _ _ _ => true
  | _ => false
theorem all_split {L : List Jvm.Cond} {P : Jvm.Cond → Bool} (h1 : L.all (fun c => isCode c || P c) = true) (h2 : ∀ c ∈ L.filter isCode, P c = true) : L.all P = true := by
  refine List.all_eq_true.mpr fun c hc => ?_
  have h := List.all_eq_true.mp h1 c hc
  rcases Bool.eq_false_or_eq_true (isCode c) with hi | hi
  · exact h2 c (List.mem_filter.mpr ⟨hc, hi⟩)
  · simpa [hi] using h
set_option maxRecDepth 65536 in
theorem w_c0 : (Jvm.Cond.code x code maxLocals ret).before args0 about1 = true := code_word (m := ⟨1, 1⟩) (meth := k1m1) (c := k1c1) (by decide +kernel) rfl rfl rfl (by decide +kernel)
set_option maxRecDepth 65536 in
theorem w_c1 : (Jvm.Cond.code ({ cls := "com/example/llave/llave/storage/CommitLog$Position", name := "<init>", desc := "(JJ)V" } : Jvm.MethodName) prog_139_method_1_code (5 : Nat) (Option.none : Option Jvm.ClassFile.FieldType)).before args0 about1 = true := code_word (m := ⟨3, 0⟩) (meth := k3m0) (c := k3c0) (by decide +kernel) rfl rfl rfl (by decide +kernel)
set_option maxRecDepth 65536 in
theorem w_c2 : (Jvm.Cond.code ({ cls := "java/lang/Object", name := "<init>", desc := "()V" } : Jvm.MethodName) object_method_1_code (1 : Nat) (Option.none : Option Jvm.ClassFile.FieldType)).before args0 about1 = true := code_word (m := ⟨0, 0⟩) (meth := k0m0) (c := k0c0) (by decide +kernel) rfl rfl rfl (by decide +kernel)
set_option maxRecDepth 65536 in
theorem w_c3 : (Jvm.Cond.code ({ cls := "com/example/llave/llave/storage/LegacyTimes", name := "ofCommitLogRecord", desc := "(Lcom/example/llave/llave/storage/CommitLog$Position;)J" } : Jvm.MethodName) prog_162_method_4_code (1 : Nat) (Option.some Jvm.ClassFile.FieldType.long)).before args0 about1 = true := code_word (m := ⟨4, 1⟩) (meth := k4m1) (c := k4c1) (by decide +kernel) rfl rfl rfl (by decide +kernel)
set_option maxRecDepth 65536 in
theorem w_c4 : (Jvm.Cond.code ({ cls := "com/example/llave/llave/storage/CommitLog$Position", name := "getSegment", desc := "()J" } : Jvm.MethodName) prog_139_method_2_code (1 : Nat) (Option.some Jvm.ClassFile.FieldType.long)).before args0 about1 = true := code_word (m := ⟨3, 1⟩) (meth := k3m1) (c := k3c1) (by decide +kernel) rfl rfl rfl (by decide +kernel)
set_option maxRecDepth 65536 in
theorem w_c5 : (Jvm.Cond.code ({ cls := "com/example/llave/llave/storage/CommitLog$Position", name := "getOffset", desc := "()J" } : Jvm.MethodName) prog_139_method_3_code (1 : Nat) (Option.some Jvm.ClassFile.FieldType.long)).before args0 about1 = true := code_word (m := ⟨3, 2⟩) (meth := k3m2) (c := k3c2) (by decide +kernel) rfl rfl rfl (by decide +kernel)
set_option maxRecDepth 65536 in
theorem w_c6 : (Jvm.Cond.code ({ cls := "com/example/llave/llave/storage/CommitLog$Position", name := "compareTo", desc := "(Lcom/example/llave/llave/storage/CommitLog$Position;)I" } : Jvm.MethodName) prog_139_method_4_code (3 : Nat) (Option.some Jvm.ClassFile.FieldType.int)).before args0 about1 = true := code_word (m := ⟨3, 3⟩) (meth := k3m3) (c := k3c3) (by decide +kernel) rfl rfl rfl (by decide +kernel)
set_option maxRecDepth 65536 in
theorem w_c7 : (Jvm.Cond.code ({ cls := "java/lang/Long", name := "compare", desc := "(JJ)I" } : Jvm.MethodName) jdk_35_method_42_code (4 : Nat) (Option.some Jvm.ClassFile.FieldType.int)).before args0 about1 = true := code_word (m := ⟨9, 0⟩) (meth := k9m0) (c := k9c0) (by decide +kernel) rfl rfl rfl (by decide +kernel)
def codes1 : List Jvm.Cond := [Jvm.Cond.code x code maxLocals ret, Jvm.Cond.code ({ cls := "com/example/llave/llave/storage/CommitLog$Position", name := "<init>", desc := "(JJ)V" } : Jvm.MethodName) prog_139_method_1_code (5 : Nat) (Option.none : Option Jvm.ClassFile.FieldType), Jvm.Cond.code ({ cls := "java/lang/Object", name := "<init>", desc := "()V" } : Jvm.MethodName) object_method_1_code (1 : Nat) (Option.none : Option Jvm.ClassFile.FieldType), Jvm.Cond.code ({ cls := "com/example/llave/llave/storage/LegacyTimes", name := "ofCommitLogRecord", desc := "(Lcom/example/llave/llave/storage/CommitLog$Position;)J" } : Jvm.MethodName) prog_162_method_4_code (1 : Nat) (Option.some Jvm.ClassFile.FieldType.long), Jvm.Cond.code ({ cls := "com/example/llave/llave/storage/CommitLog$Position", name := "getSegment", desc := "()J" } : Jvm.MethodName) prog_139_method_2_code (1 : Nat) (Option.some Jvm.ClassFile.FieldType.long), Jvm.Cond.code ({ cls := "com/example/llave/llave/storage/CommitLog$Position", name := "getOffset", desc := "()J" } : Jvm.MethodName) prog_139_method_3_code (1 : Nat) (Option.some Jvm.ClassFile.FieldType.long), Jvm.Cond.code ({ cls := "com/example/llave/llave/storage/CommitLog$Position", name := "compareTo", desc := "(Lcom/example/llave/llave/storage/CommitLog$Position;)I" } : Jvm.MethodName) prog_139_method_4_code (3 : Nat) (Option.some Jvm.ClassFile.FieldType.int), Jvm.Cond.code ({ cls := "java/lang/Long", name := "compare", desc := "(JJ)I" } : Jvm.MethodName) jdk_35_method_42_code (4 : Nat) (Option.some Jvm.ClassFile.FieldType.int)]
set_option maxRecDepth 65536 in
theorem codes_eq : words1.filter isCode = codes1 := rfl
theorem w_codes : ∀ c ∈ words1.filter isCode, c.before args0 about1 = true := by
  rw [codes_eq]
  intro c hc
  simp only [codes1, List.mem_cons, List.not_mem_nil, or_false] at hc
  rcases hc with rfl | rfl | rfl | rfl | rfl | rfl | rfl | rfl
  · exact w_c0
  · exact w_c1
  · exact w_c2
  · exact w_c3
  · exact w_c4
  · exact w_c5
  · exact w_c6
  · exact w_c7
set_option maxRecDepth 65536 in
theorem w_t1 : (words1.take 24).all (fun c => isCode c || c.before args0 about1) = true := by decide +kernel
set_option maxRecDepth 65536 in
theorem w_t2 : (words1.drop 24).all (fun c => isCode c || c.before args0 about1) = true := by decide +kernel
theorem w_tables : (allAtoms (Jvm.Cond.code x code maxLocals ret :: tables_1)).before args0 about1 = true := by
  rw [allAtoms_all]
  show words1.all (fun c => c.before args0 about1) = true
  refine all_split ?_ w_codes
  rw [← List.take_append_drop 24 words1, List.all_append, w_t1, w_t2]
  rfl
set_option maxRecDepth 65536 in
theorem w_case : (Jvm.Cond.and given_1 narrow_1).before args0 about1 = true := by decide +kernel
theorem w_applies : (headSpec (Jvm.Cond.code x code maxLocals ret :: tables_1) room_1).applies x e0.platform about1 = true :=
  (Spec.applies_iff w_frames).mpr ⟨w_running, w_runnable, w_alone, w_named, w_hears, w_ripe, w_room, w_tables⟩
theorem atStart : AtStart classFile x code maxLocals ret World_1 tables_1 room_1 Calls_1 rest_1 Pre_1 launch0 p0 e0 about1 theMethod args0 below0 :=
  ⟨lists_1, trivial, launch0.admits_env _ _ _, launch0.least_env, fairChoices_fair.cas, fairChoices_fair.clock, w_frames, w_args, w_heap, w_applies, trivial, trivial, w_case⟩
end start1
theorem witness_1 : WitnessClaimed_1 := ⟨start1.p0, start1.e0, start1.about1, start1.theMethod, start1.args0, start1.below0, start1.atStart⟩
end Jvm.Pilot.@@N@@
