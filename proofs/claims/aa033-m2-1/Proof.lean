import JvmDerived
import JvmDerived.Pilot.@@N@@Statement
import JvmDerived.Pilot.@@N@@Code
set_option linter.unusedVariables false
set_option linter.unusedSimpArgs false
namespace Jvm.RoadKit
open Sem ClassFile Op Lib Jvm.Stand Jvm.Free Jvm.LawKit
section New
variable {p : Program} {l : Launch} {e : Env} {R : Room} {s : State} {m : MethodId} {args : Array Value} {below : List Frame} {meth : Method} {c : Code} {T : State} {locs : List Loc} {cells slots : Nat}
theorem retI (X : Stand p l e R s m args below meth c T locs cells slots) (hx : p.tables.exec = Jvm.exec) {pc : Nat} {Ls : Array Slot} {z : Int32} {rest : List Value} (hret : meth.sig.returnType = some .int) (hd : decode c.code pc = .ok (.ireturn, 1)) {fs : List Frame}
    (hl : ∀ (f : JFrame) (acts : List Action), f.method = m → f.locked = none → f.entered = [] → (doReturn e (T.setTop f) acts (some (.int z))).1 = T.setFrames fs) : Steps p.tables e below (T.setTop (mkF m pc Ls (.int z :: rest))) (T.setFrames fs) := by
  have hm' : T.vm.method? m = some meth := X.method'
  have hn : narrow .int (.int z) = .int z := rfl
  show Steps p.tables e below (T.setTop { method := m, pc := pc, locals := Ls, stack := _ :: rest, locked := none }) _
  jvm_step X.here [X.here.top, hx, hd, hm', hret, hn]
  first | (intro acts; rw [hl _ acts rfl rfl rfl]) | rw [hl _ _ rfl rfl rfl]
  exact Steps.refl _
end New
end Jvm.RoadKit
namespace Jvm.Pilot.@@N@@
open Jvm Jvm.ClassFile Sem Op Lib Jvm.Free Jvm.Stand Jvm.LawKit Jvm.RoadKit Bundle Jvm.Pilot.@@N@@.Jvm.D

/-! the walk's goal: from this frame the run comes to its end, and Q holds of what it returns, of the heap and of the places written -/
def Fini (p : Program) (e : Env) (below : List Frame) (s : State) (Q : Option Value → Heap → List Loc → Prop) (C S : Nat) (T : State) (g : JFrame) : Prop :=
  ∃ s₂ o, Steps p.tables e below (T.setTop g) s₂ ∧ s₂.status = .running ∧ Ended s₂ below o ∧ ∃ v L, o = .returned v ∧ Q v s₂.heap L ∧ FrameEnd s o s₂ L C S
abbrev Cmet (l : Launch) (Z : State) (y : MethodName) (bytes : ByteArray) (ml : Nat) (ret : Option FieldType) (ws : List Jvm.Cond) (rm : Room) (as : Array Value) (h0 : Heap) (Q : Option Value → Heap → List Loc → Prop) : Prop :=
  MetFree l y (head1 (Jvm.Cond.code y bytes ml ret :: ws) rm) (fun a U => a = as ∧ Z.Warmed39 U.vm ∧ U.heap = h0) (fun _ _ _ _ _ => True) (fun _ U o U' => ∃ v L, o = .returned v ∧ Q v U'.heap L ∧ FrameEnd U o U' L rm.cells rm.slots)
section Own
variable {p : Program} {l : Launch} {e : Env} {R : Room} {s : State} {m : MethodId} {args : Array Value} {below : List Frame} {meth : Method} {c : Code} {T T' : State} {locs : List Loc} {cells slots : Nat} {Q : Option Value → Heap → List Loc → Prop} {C S : Nat} {g g' : JFrame} {Z : State} {a0 : Array Value} {h : Heap}
theorem Fini.st (k : ∀ t, Steps p.tables e below (T'.setTop g') t → Steps p.tables e below (T.setTop g) t) (f : Fini p e below s Q C S T' g') : Fini p e below s Q C S T g := by
  obtain ⟨s2, o, h1, r⟩ := f
  exact ⟨s2, o, k _ h1, r⟩
theorem Fini.cast (q : g = g') (f : Fini p e below s Q C S T g') : Fini p e below s Q C S T g := q ▸ f
theorem Fini.retI (X : Stand p l e R s m args below meth c T locs cells slots) (hx : p.tables.exec = Jvm.exec) (hl : meth.locks = false) (hret : meth.sig.returnType = some .int) {pc : Nat} {Ls : Array Slot} {z : Int32} {rest : List Value} (hd : decode c.code pc = .ok (.ireturn, 1))
    (hC : cells ≤ C) (hS : slots ≤ S) (hQ : Q (some (.int z)) T.heap locs) : Fini p e below s Q C S T (mkF m pc Ls (.int z :: rest)) := by
  obtain ⟨fs, hr, hrun, hended, hW, hsame⟩ := X.leave (v := some (.int z)) (fun h => by rw [hret] at h; cases h) hl
  exact ⟨_, _, Jvm.RoadKit.retI X hx hret hd hr, hrun, hended, _, _, rfl, hQ, ⟨_, rfl⟩, hW, hsame.mono hC hS⟩
theorem Fini.retN (X : Stand p l e R s m args below meth c T locs cells slots) (hx : p.tables.exec = Jvm.exec) (hl : meth.locks = false) {t : FieldType} (hret : meth.sig.returnType = some t) (ht : t = .boolean ∨ t = .byte ∨ t = .char ∨ t = .short) {pc : Nat} {Ls : Array Slot} {z z' : Int32} {rest : List Value} (hd : decode c.code pc = .ok (.ireturn, 1))
    (hz : nar t z = z') (hC : cells ≤ C) (hS : slots ≤ S) (hQ : Q (some (.int z')) T.heap locs) : Fini p e below s Q C S T (mkF m pc Ls (.int z :: rest)) := by
  subst hz
  obtain ⟨fs, hr, hrun, hended, hW, hsame⟩ := X.leave (v := some (.int (nar t z))) (fun h => by rw [hret] at h; cases h) hl
  exact ⟨_, _, Jvm.RoadKit.retN X hx hret ht hd hr, hrun, hended, _, _, rfl, hQ, ⟨_, rfl⟩, hW, hsame.mono hC hS⟩
theorem Fini.retJ (X : Stand p l e R s m args below meth c T locs cells slots) (hx : p.tables.exec = Jvm.exec) (hl : meth.locks = false) (hret : meth.sig.returnType = some .long) {pc : Nat} {Ls : Array Slot} {z : Int64} {rest : List Value} (hd : decode c.code pc = .ok (.lreturn, 1))
    (hC : cells ≤ C) (hS : slots ≤ S) (hQ : Q (some (.long z)) T.heap locs) : Fini p e below s Q C S T (mkF m pc Ls (.long z :: rest)) := by
  obtain ⟨fs, hr, hrun, hended, hW, hsame⟩ := X.leave (v := some (.long z)) (fun h => by rw [hret] at h; cases h) hl
  exact ⟨_, _, retOut X hx hret rfl (Or.inr (Or.inl ⟨rfl, rfl, z, rfl⟩)) hd hr, hrun, hended, _, _, rfl, hQ, ⟨_, rfl⟩, hW, hsame.mono hC hS⟩
theorem Fini.retA (X : Stand p l e R s m args below meth c T locs cells slots) (hx : p.tables.exec = Jvm.exec) (hl : meth.locks = false) {t : FieldType} (hret : meth.sig.returnType = some t) (ht : t.isReference = true) {pc : Nat} {Ls : Array Slot} {w : Value} {rest : List Value} (hd : decode c.code pc = .ok (.areturn, 1)) (hw : w.isRef = true) (hn : narrow t w = w)
    (hC : cells ≤ C) (hS : slots ≤ S) (hQ : Q (some w) T.heap locs) : Fini p e below s Q C S T (mkF m pc Ls (w :: rest)) := by
  obtain ⟨fs, hr, hrun, hended, hW, hsame⟩ := X.leave (v := some w) (fun h => by rw [hret] at h; cases h) hl
  exact ⟨_, _, retOut X hx hret hn (Or.inr (Or.inr (Or.inr (Or.inr ⟨rfl, ht, hw⟩)))) hd hr, hrun, hended, _, _, rfl, hQ, ⟨_, rfl⟩, hW, hsame.mono hC hS⟩
theorem Fini.ret0 (X : Stand p l e R s m args below meth c T locs cells slots) (hx : p.tables.exec = Jvm.exec) (hl : meth.locks = false) (hret : meth.sig.returnType = none) {pc : Nat} {Ls : Array Slot} (hd : decode c.code pc = .ok (.return_, 1))
    (hC : cells ≤ C) (hS : slots ≤ S) (hQ : Q none T.heap locs) : Fini p e below s Q C S T (mkF m pc Ls []) := by
  obtain ⟨fs, hr, hrun, hended, hW, hsame⟩ := X.leave (v := none) (fun _ => rfl) hl
  exact ⟨_, _, X.returnOut hx hret hd hr, hrun, hended, _, _, rfl, hQ, ⟨_, rfl⟩, hW, hsame.mono hC hS⟩
/-- a static call by its contract -/
theorem callQ (X : Stand p l e R s m args below meth c T locs cells slots) (hx : p.tables.exec = Jvm.exec) (hZ : Z.Warmed39 s.vm) {own : String} {index : Nat} {y : MethodName} {bytes : ByteArray} {maxL : Nat} {ret : Option FieldType} {rm : Room} {as : Array Value}
    (hown : s.vm.findClass own = some m.cls) (w1 : (Cond.methodLink own index y).before a0 Z = true) (w2 : (Cond.static y).before a0 Z = true) (w3 : (Cond.initialized y.cls).before a0 Z = true) (w4 : (Cond.code y bytes maxL ret).before a0 Z = true)
    (hy : y.cls ≠ "java/lang/invoke/MethodHandle" ∧ y.cls ≠ "java/lang/invoke/VarHandle") (M : Cmet l Z y bytes maxL ret [] rm as h Q) (eT : T.heap = h) {W : Nat} (hf : rm.frames + 1 ≤ R.frames) (hl : W + (maxL + 11) + rm.locals ≤ R.locals) (hc : cells + rm.cells ≤ R.cells) (hs : slots + rm.slots ≤ R.slots)
    (hg : g.method = m) (hsize : g.locals.size = c.maxLocals) {argsL rest : List Value} (has : argsL.toArray = as) (hlen : ∀ sig, parseMethodDescriptor y.desc = some sig → argsL.length = sig.parameters.length)
    (hstack : g.stack = argsL.reverse ++ rest) (hW : 2 * g.monitorRoom + (rest.map fun v => v.category).sum ≤ W) (hdg : decode c.code g.pc = .ok (.invokestatic index, 3)) :
    ∃ (v : Option Value) (T' : State) (L : List Loc), Stand p l e R s m args below meth c T' (locs ++ L) (cells + rm.cells) (slots + rm.slots) ∧ Q v T'.heap L ∧
      ∀ target, Steps p.tables e below (T'.setTop { g with pc := g.pc + 3, stack := v.toList ++ rest }) target → Steps p.tables e below (T.setTop g) target := by
  obtain ⟨v, vm1, ⟨T', L', c', n'⟩, -, X', ⟨L, hQ, q1, q2, q3⟩, st⟩ := Jvm.LawKit.callS X hx hown (mvT hZ w1) (mvT hZ w2) (mvT hZ w3) (mvT hZ w4) hy (backOf (W := W) M hZ w4 w3 hf hl) hg hsize hlen hstack hW hdg (fun _ _ => ⟨has, eT, hc, hs⟩)
  dsimp only [Pt.U, Pt.locs, Pt.cells, Pt.slots] at X' q1 q2 q3 st hQ
  subst q1 q2 q3
  exact ⟨v, T', L, X', hQ, st⟩
/-- a static call that leaves the heap as it was -/
theorem pureS (X : Stand p l e R s m args below meth c T locs cells slots) (hx : p.tables.exec = Jvm.exec) (hZ : Z.Warmed39 s.vm) {own : String} {index : Nat} {y : MethodName} {bytes : ByteArray} {maxL : Nat} {ret : Option FieldType} {fr lo : Nat} {as : Array Value} {w : Option Value}
    (hown : s.vm.findClass own = some m.cls) (w1 : (Cond.methodLink own index y).before a0 Z = true) (w2 : (Cond.static y).before a0 Z = true) (w3 : (Cond.initialized y.cls).before a0 Z = true) (w4 : (Cond.code y bytes maxL ret).before a0 Z = true)
    (hy : y.cls ≠ "java/lang/invoke/MethodHandle" ∧ y.cls ≠ "java/lang/invoke/VarHandle") (M : Cmet l Z y bytes maxL ret [] ({ frames := fr, cells := 0, slots := 0, locals := lo } : Room) as h (fun v h' L => v = w ∧ h' = h ∧ L = [])) (eT : T.heap = h) {W : Nat} (hf : fr + 1 ≤ R.frames) (hl : W + (maxL + 11) + lo ≤ R.locals) (hc : cells ≤ R.cells) (hs : slots ≤ R.slots)
    (hg : g.method = m) (hsize : g.locals.size = c.maxLocals) {argsL rest : List Value} (has : argsL.toArray = as) (hlen : ∀ sig, parseMethodDescriptor y.desc = some sig → argsL.length = sig.parameters.length)
    (hstack : g.stack = argsL.reverse ++ rest) (hW : 2 * g.monitorRoom + (rest.map fun v => v.category).sum ≤ W) (hdg : decode c.code g.pc = .ok (.invokestatic index, 3)) :
    ∃ (T' : State), Stand p l e R s m args below meth c T' locs cells slots ∧ T'.heap = h ∧
      ∀ target, Steps p.tables e below (T'.setTop { g with pc := g.pc + 3, stack := w.toList ++ rest }) target → Steps p.tables e below (T.setTop g) target := by
  obtain ⟨v, T', L, X', ⟨rfl, q, rfl⟩, st⟩ := callQ X hx hZ hown w1 w2 w3 w4 hy M eT (W := W) hf hl hc hs hg hsize has hlen hstack hW hdg
  rw [List.append_nil] at X'
  exact ⟨T', X', q, st⟩
/-- an instance method by the contract of the body that the receiver's class selects -/
theorem callV (X : Stand p l e R s m args below meth c T locs cells slots) (hx : p.tables.exec = Jvm.exec) (hZ : Z.Warmed39 s.vm) {own C' : String} {index : Nat} {y z : MethodName} {bytes : ByteArray} {maxL : Nat} {ret : Option FieldType} {rm : Room} {as : Array Value} {b : Addr}
    (hown : s.vm.findClass own = some m.cls) (w1 : (Cond.methodLink own index y).before a0 Z = true) (w2 : (Cond.declares y).before a0 Z = true) (w3 : (Cond.selects C' y z).before a0 Z = true) (w4 : (Cond.instanceMethod z).before a0 Z = true) (w5 : (Cond.initialized z.cls).before a0 Z = true) (w6 : (Cond.code z bytes maxL ret).before a0 Z = true)
    (nf : NotFace s y) (E : Exa Z h b C') (hy : y.cls ≠ "java/lang/invoke/MethodHandle" ∧ y.cls ≠ "java/lang/invoke/VarHandle") (M : Cmet l Z z bytes maxL ret [] rm as h Q) (eT : T.heap = h) {W : Nat} (hf : rm.frames + 1 ≤ R.frames) (hl : W + (maxL + 11) + rm.locals ≤ R.locals) (hc : cells + rm.cells ≤ R.cells) (hs : slots + rm.slots ≤ R.slots)
    (hg : g.method = m) (hsize : g.locals.size = c.maxLocals) {argsL rest : List Value} (has : (Value.ref b :: argsL).toArray = as) (hlen : ∀ sig, parseMethodDescriptor y.desc = some sig → argsL.length = sig.parameters.length)
    (hstack : g.stack = argsL.reverse ++ .ref b :: rest) (hW : 2 * g.monitorRoom + (rest.map fun v => v.category).sum ≤ W) (hdg : decode c.code g.pc = .ok (.invokevirtual index, 3)) :
    ∃ (v : Option Value) (T' : State) (L : List Loc), Stand p l e R s m args below meth c T' (locs ++ L) (cells + rm.cells) (slots + rm.slots) ∧ Q v T'.heap L ∧
      ∀ target, Steps p.tables e below (T'.setTop { g with pc := g.pc + 3, stack := v.toList ++ rest }) target → Steps p.tables e below (T.setTop g) target := by
  obtain ⟨cB, kB, q1, q2, q3⟩ := isOf hZ eT E
  obtain ⟨v, vm1, ⟨T', L', c', n'⟩, -, X', ⟨L, hQ, r1, r2, r3⟩, st⟩ := X.virtualBack hx hown (mvT hZ w1) (mvT hZ w2) nf (mvT hZ w3) (mvT hZ w4) hy (backOf (W := W) M hZ w6 w5 hf hl) q1 q3 hg hsize (Steps.refl _) hlen hstack hW hdg (fun _ _ => ⟨has, eT, hc, hs⟩)
  dsimp only [Pt.U, Pt.locs, Pt.cells, Pt.slots] at X' r1 r2 r3 st hQ
  subst r1 r2 r3
  exact ⟨v, T', L, X', hQ, fun _ k => st.trans k⟩
theorem pureV (X : Stand p l e R s m args below meth c T locs cells slots) (hx : p.tables.exec = Jvm.exec) (hZ : Z.Warmed39 s.vm) {own C' : String} {index : Nat} {y z : MethodName} {bytes : ByteArray} {maxL : Nat} {ret : Option FieldType} {fr lo : Nat} {as : Array Value} {b : Addr} {w : Option Value}
    (hown : s.vm.findClass own = some m.cls) (w1 : (Cond.methodLink own index y).before a0 Z = true) (w2 : (Cond.declares y).before a0 Z = true) (w3 : (Cond.selects C' y z).before a0 Z = true) (w4 : (Cond.instanceMethod z).before a0 Z = true) (w5 : (Cond.initialized z.cls).before a0 Z = true) (w6 : (Cond.code z bytes maxL ret).before a0 Z = true)
    (nf : NotFace s y) (E : Exa Z h b C') (hy : y.cls ≠ "java/lang/invoke/MethodHandle" ∧ y.cls ≠ "java/lang/invoke/VarHandle") (M : Cmet l Z z bytes maxL ret [] ({ frames := fr, cells := 0, slots := 0, locals := lo } : Room) as h (fun v h' L => v = w ∧ h' = h ∧ L = [])) (eT : T.heap = h) {W : Nat} (hf : fr + 1 ≤ R.frames) (hl : W + (maxL + 11) + lo ≤ R.locals) (hc : cells ≤ R.cells) (hs : slots ≤ R.slots)
    (hg : g.method = m) (hsize : g.locals.size = c.maxLocals) {argsL rest : List Value} (has : (Value.ref b :: argsL).toArray = as) (hlen : ∀ sig, parseMethodDescriptor y.desc = some sig → argsL.length = sig.parameters.length)
    (hstack : g.stack = argsL.reverse ++ .ref b :: rest) (hW : 2 * g.monitorRoom + (rest.map fun v => v.category).sum ≤ W) (hdg : decode c.code g.pc = .ok (.invokevirtual index, 3)) :
    ∃ (T' : State), Stand p l e R s m args below meth c T' locs cells slots ∧ T'.heap = h ∧
      ∀ target, Steps p.tables e below (T'.setTop { g with pc := g.pc + 3, stack := w.toList ++ rest }) target → Steps p.tables e below (T.setTop g) target := by
  obtain ⟨v, T', L, X', ⟨rfl, q, rfl⟩, st⟩ := callV X hx hZ hown w1 w2 w3 w4 w5 w6 nf E hy M eT (W := W) hf hl hc hs hg hsize has hlen hstack hW hdg
  rw [List.append_nil] at X'
  exact ⟨T', X', q, st⟩
/-- a constructor by its contract -/
theorem callNew (X : Stand p l e R s m args below meth c T locs cells slots) (hx : p.tables.exec = Jvm.exec) (hZ : Z.Warmed39 s.vm) {own : String} {index : Nat} {y : MethodName} {bytes : ByteArray} {maxL : Nat} {rm : Room} {as : Array Value} {b : Addr}
    (hown : s.vm.findClass own = some m.cls) (hy1 : y.name = "<init>") (w1 : (Cond.methodLink own index y).before a0 Z = true) (w2 : (Cond.instanceMethod y).before a0 Z = true) (w3 : (Cond.initialized y.cls).before a0 Z = true) (w4 : (Cond.code y bytes maxL none).before a0 Z = true)
    (hy : y.cls ≠ "java/lang/invoke/MethodHandle" ∧ y.cls ≠ "java/lang/invoke/VarHandle") (M : Cmet l Z y bytes maxL none [] rm as h Q) (eT : T.heap = h) {W : Nat} (hf : rm.frames + 1 ≤ R.frames) (hl : W + (maxL + 11) + rm.locals ≤ R.locals) (hc : cells + rm.cells ≤ R.cells) (hs : slots + rm.slots ≤ R.slots)
    (hg : g.method = m) (hsize : g.locals.size = c.maxLocals) {argsL rest : List Value} (has : (Value.ref b :: argsL).toArray = as) (hlen : ∀ sig, parseMethodDescriptor y.desc = some sig → argsL.length = sig.parameters.length)
    (hstack : g.stack = argsL.reverse ++ .ref b :: rest) (hW : 2 * g.monitorRoom + (rest.map fun v => v.category).sum ≤ W) (hdg : decode c.code g.pc = .ok (.invokespecial index, 3)) :
    ∃ (v : Option Value) (T' : State) (L : List Loc), Stand p l e R s m args below meth c T' (locs ++ L) (cells + rm.cells) (slots + rm.slots) ∧ Q v T'.heap L ∧
      ∀ target, Steps p.tables e below (T'.setTop { g with pc := g.pc + 3, stack := v.toList ++ rest }) target → Steps p.tables e below (T.setTop g) target := by
  obtain ⟨v, vm1, ⟨T', L', c', n'⟩, -, X', ⟨L, hQ, r1, r2, r3⟩, st⟩ := X.specialBack hx hy1 hown (mvT hZ w1) (mvT hZ w2) (mvT hZ w4) hy (backOf (W := W) M hZ w4 w3 hf hl) hg hsize (Steps.refl _) hlen hstack hW hdg (fun _ _ => ⟨has, eT, hc, hs⟩)
  dsimp only [Pt.U, Pt.locs, Pt.cells, Pt.slots] at X' r1 r2 r3 st hQ
  subst r1 r2 r3
  exact ⟨v, T', L, X', hQ, fun _ k => st.trans k⟩
theorem narrowR {C' : String} {v : Value} (hv : v.isRef = true) : narrow (.object C') v = v := by rcases ref_cases hv with rfl | ⟨a, rfl⟩ <;> rfl
theorem fitsR {C' : String} {v : Value} (hv : v.isRef = true) : fits (.object C') v = true := by rcases ref_cases hv with rfl | ⟨a, rfl⟩ <;> rfl
theorem nb0 : nar .boolean (0 : Int32) = 0 := by decide
theorem nb1 : nar .boolean (1 : Int32) = 1 := by decide
end Own
section Arrays
variable {p : Program} {l : Launch} {e : Env} {R : Room} {s : State} {m : MethodId} {args : Array Value} {below : List Frame} {meth : Method} {c : Code} {T T' : State} {locs : List Loc} {cells slots : Nat} {g : JFrame} {Z : State} {a0 : Array Value} {h h' : Heap} {a b : Addr} {ty : FieldType} {n j x : Int32} {rest : List Value} {ws : List Addr} {sl : Nat} {v : Value} {target : State}
/-- an array of ints (bytes, chars, ..), of longs, of references: its length and what lies at each place -/
def AryI (Z : State) (h : Heap) (a : Addr) (ty : FieldType) (n : Int32) (u : Nat → Int32) : Prop := ∃ cl : Cell, Arr Z h a cl ty ∧ cl.slots.size = n.toNatClampNeg ∧ ¬ n < 0 ∧ ∀ i, i < n.toNatClampNeg → cl.slots[i]? = some (.int (u i))
def AryJ (Z : State) (h : Heap) (a : Addr) (n : Int32) (u : Nat → Int64) : Prop := ∃ cl : Cell, Arr Z h a cl .long ∧ cl.slots.size = n.toNatClampNeg ∧ ¬ n < 0 ∧ ∀ i, i < n.toNatClampNeg → cl.slots[i]? = some (.long (u i))
def AryR (Z : State) (h : Heap) (a : Addr) (C : String) (n : Int32) (u : Nat → Value) : Prop := ∃ cl : Cell, Arr Z h a cl (.object C) ∧ cl.slots.size = n.toNatClampNeg ∧ ¬ n < 0 ∧ Ovr Z cl.cls C ∧ ∀ i, i < n.toNatClampNeg → cl.slots[i]? = some (u i)
def upd {A : Type} (u : Nat → A) (k : Nat) (x : A) : Nat → A := fun i => if i = k then x else u i
theorem upd_eq {A : Type} {u : Nat → A} {k i : Nat} {x : A} (q : i = k) : upd u k x i = x := if_pos q
theorem upd_ne {A : Type} {u : Nat → A} {k i : Nat} {x : A} (q : i ≠ k) : upd u k x i = u i := if_neg q
theorem nat_lt {j n : Int32} (q : ¬ j < 0 ∧ j < n) : j.toNatClampNeg < n.toNatClampNeg := by
  have h1 := nat_of q.1
  have h2 : j.toInt < n.toInt := Int32.lt_iff_toInt_lt.mp q.2
  have h3 : ¬ n < 0 := fun r => by
    have r' : n.toInt < 0 := Int32.lt_iff_toInt_lt.mp r
    omega
  have h4 := nat_of h3
  omega
theorem AryI.lt {u : Nat → Int32} (F : AryI Z h a ty n u) : a < h.size := by obtain ⟨_, A, -⟩ := F; exact A.lt
theorem AryJ.lt {u : Nat → Int64} (F : AryJ Z h a n u) : a < h.size := by obtain ⟨_, A, -⟩ := F; exact A.lt
theorem AryR.lt {C : String} {u : Nat → Value} (F : AryR Z h a C n u) : a < h.size := by obtain ⟨_, A, -⟩ := F; exact A.lt
theorem AryI.ext {u : Nat → Int32} (E : Ext h h') (F : AryI Z h a ty n u) : AryI Z h' a ty n u := by obtain ⟨cl, A, r⟩ := F; exact ⟨cl, A.ext E, r⟩
theorem AryJ.ext {u : Nat → Int64} (E : Ext h h') (F : AryJ Z h a n u) : AryJ Z h' a n u := by obtain ⟨cl, A, r⟩ := F; exact ⟨cl, A.ext E, r⟩
theorem AryR.ext {C : String} {u : Nat → Value} (E : Ext h h') (F : AryR Z h a C n u) : AryR Z h' a C n u := by obtain ⟨cl, A, r⟩ := F; exact ⟨cl, A.ext E, r⟩
theorem AryI.other {u : Nat → Int32} (W : Wr h h' b sl v) (F : AryI Z h a ty n u) (q : a ≠ b) : AryI Z h' a ty n u := by obtain ⟨cl, A, r⟩ := F; exact ⟨cl, A.other W q, r⟩
theorem AryJ.other {u : Nat → Int64} (W : Wr h h' b sl v) (F : AryJ Z h a n u) (q : a ≠ b) : AryJ Z h' a n u := by obtain ⟨cl, A, r⟩ := F; exact ⟨cl, A.other W q, r⟩
theorem AryR.other {C : String} {u : Nat → Value} (W : Wr h h' b sl v) (F : AryR Z h a C n u) (q : a ≠ b) : AryR Z h' a C n u := by obtain ⟨cl, A, r⟩ := F; exact ⟨cl, A.other W q, r⟩
theorem AryI.keep {u : Nat → Int32} (F : AryI Z h a ty n u) (K : Keep h h' ws) (q : a ∉ ws) : AryI Z h' a ty n u := by obtain ⟨cl, A, r⟩ := F; exact ⟨cl, ⟨K.2.1 a cl A.1 q, A.2⟩, r⟩
theorem AryJ.keep {u : Nat → Int64} (F : AryJ Z h a n u) (K : Keep h h' ws) (q : a ∉ ws) : AryJ Z h' a n u := by obtain ⟨cl, A, r⟩ := F; exact ⟨cl, ⟨K.2.1 a cl A.1 q, A.2⟩, r⟩
theorem AryR.keep {C : String} {u : Nat → Value} (F : AryR Z h a C n u) (K : Keep h h' ws) (q : a ∉ ws) : AryR Z h' a C n u := by obtain ⟨cl, A, r⟩ := F; exact ⟨cl, ⟨K.2.1 a cl A.1 q, A.2⟩, r⟩
theorem AryI.cast {u u' : Nat → Int32} (F : AryI Z h a ty n u) (q : ∀ i, i < n.toNatClampNeg → u i = u' i) : AryI Z h a ty n u' := by obtain ⟨cl, A, r1, r2, r3⟩ := F; exact ⟨cl, A, r1, r2, fun i hi => by rw [r3 i hi, q i hi]⟩
theorem AryJ.cast {u u' : Nat → Int64} (F : AryJ Z h a n u) (q : ∀ i, i < n.toNatClampNeg → u i = u' i) : AryJ Z h a n u' := by obtain ⟨cl, A, r1, r2, r3⟩ := F; exact ⟨cl, A, r1, r2, fun i hi => by rw [r3 i hi, q i hi]⟩
theorem AryI.new {cA : ClassId} (A : Arr Z h a (newA cA ty n) ty) (q : ¬ n < 0) (d : defaultValue ty = .int 0) : AryI Z h a ty n (fun _ => 0) := ⟨_, A, sz_new _ _ _, q, fun i hi => by simp [newA, d, hi]⟩
theorem AryJ.new {cA : ClassId} (A : Arr Z h a (newA cA .long n) .long) (q : ¬ n < 0) : AryJ Z h a n (fun _ => 0) := ⟨_, A, sz_new _ _ _, q, fun i hi => by
  have d : defaultValue .long = .long 0 := rfl
  simp [newA, d, hi]⟩
theorem AryR.new {C : String} {cA : ClassId} (A : Arr Z h a (newA cA (.object C) n) (.object C)) (O : Ovr Z cA C) (q : ¬ n < 0) : AryR Z h a C n (fun _ => .null) := ⟨_, A, sz_new _ _ _, q, O, fun i hi => by
  have d : defaultValue (.object C) = .null := rfl
  simp [newA, d, hi]⟩
theorem set_at {cl : Cell} {k i : Nat} {w : Value} (hk : k < cl.slots.size) : (cl.setSlot k w).slots[i]? = if i = k then some w else cl.slots[i]? := by
  by_cases q : i = k
  · subst q; simp [Cell.setSlot, hk]
  · rw [if_neg q]; simp [Cell.setSlot, Array.getElem?_setIfInBounds_ne (Ne.symm q)]
theorem AryI.len {u : Nat → Int32} (F : AryI Z h a ty n u) (X : Stand p l e R s m args below meth c T locs cells slots) (hx : p.tables.exec = Jvm.exec) (hZ : Z.Warmed39 s.vm) (eT : T.heap = h) (hg : g.method = m) (hs : g.stack = .ref a :: rest) (hd : decode c.code g.pc = .ok (.arraylength, 1)) (hr : Steps p.tables e below (T.setTop { g with pc := g.pc + 1, stack := .int n :: rest }) target) : Steps p.tables e below (T.setTop g) target := by
  obtain ⟨cl, A, S, N, H⟩ := F
  refine X.arraylength hx (by rw [eT]; exact A.1) (State.isArrayOf_alike hZ.alike A.2.1) hg hs hd _ ?_
  rw [len_of S N]; exact hr
theorem AryJ.len {u : Nat → Int64} (F : AryJ Z h a n u) (X : Stand p l e R s m args below meth c T locs cells slots) (hx : p.tables.exec = Jvm.exec) (hZ : Z.Warmed39 s.vm) (eT : T.heap = h) (hg : g.method = m) (hs : g.stack = .ref a :: rest) (hd : decode c.code g.pc = .ok (.arraylength, 1)) (hr : Steps p.tables e below (T.setTop { g with pc := g.pc + 1, stack := .int n :: rest }) target) : Steps p.tables e below (T.setTop g) target := by
  obtain ⟨cl, A, S, N, H⟩ := F
  refine X.arraylength hx (by rw [eT]; exact A.1) (State.isArrayOf_alike hZ.alike A.2.1) hg hs hd _ ?_
  rw [len_of S N]; exact hr
theorem AryI.loadI {u : Nat → Int32} (F : AryI Z h a .int n u) (X : Stand p l e R s m args below meth c T locs cells slots) (hx : p.tables.exec = Jvm.exec) (hZ : Z.Warmed39 s.vm) (eT : T.heap = h) (q : ¬ j < 0 ∧ j < n) (hg : g.method = m) (hs : g.stack = .int j :: .ref a :: rest) (hd : decode c.code g.pc = .ok (.iaload, 1)) (hr : Steps p.tables e below (T.setTop { g with pc := g.pc + 1, stack := .int (u j.toNatClampNeg) :: rest }) target) : Steps p.tables e below (T.setTop g) target := by
  obtain ⟨cl, A, S, N, H⟩ := F
  exact X.iaload hx (by rw [eT]; exact A.1) (State.isArrayOf_alike hZ.alike A.2.1) A.2.2 (inb_of S q) (H _ (nat_lt q)) hg hs hd _ hr
theorem AryI.loadB {u : Nat → Int32} (F : AryI Z h a .byte n u) (X : Stand p l e R s m args below meth c T locs cells slots) (hx : p.tables.exec = Jvm.exec) (hZ : Z.Warmed39 s.vm) (eT : T.heap = h) (q : ¬ j < 0 ∧ j < n) (hg : g.method = m) (hs : g.stack = .int j :: .ref a :: rest) (hd : decode c.code g.pc = .ok (.baload, 1)) (hr : Steps p.tables e below (T.setTop { g with pc := g.pc + 1, stack := .int (u j.toNatClampNeg) :: rest }) target) : Steps p.tables e below (T.setTop g) target := by
  obtain ⟨cl, A, S, N, H⟩ := F
  exact X.baloadBytes hx (by rw [eT]; exact A.1) (State.isArrayOf_alike hZ.alike A.2.1) A.2.2 (inb_of S q) (H _ (nat_lt q)) hg hs hd _ hr
theorem AryI.loadZ {u : Nat → Int32} (F : AryI Z h a .boolean n u) (X : Stand p l e R s m args below meth c T locs cells slots) (hx : p.tables.exec = Jvm.exec) (hZ : Z.Warmed39 s.vm) (eT : T.heap = h) (q : ¬ j < 0 ∧ j < n) (hg : g.method = m) (hs : g.stack = .int j :: .ref a :: rest) (hd : decode c.code g.pc = .ok (.baload, 1)) (hr : Steps p.tables e below (T.setTop { g with pc := g.pc + 1, stack := .int (u j.toNatClampNeg) :: rest }) target) : Steps p.tables e below (T.setTop g) target := by
  obtain ⟨cl, A, S, N, H⟩ := F
  exact X.baloadBooleans hx (by rw [eT]; exact A.1) (State.isArrayOf_alike hZ.alike A.2.1) A.2.2 (inb_of S q) (H _ (nat_lt q)) hg hs hd _ hr
theorem AryJ.load {u : Nat → Int64} (F : AryJ Z h a n u) (X : Stand p l e R s m args below meth c T locs cells slots) (hx : p.tables.exec = Jvm.exec) (hZ : Z.Warmed39 s.vm) (eT : T.heap = h) (q : ¬ j < 0 ∧ j < n) (hg : g.method = m) (hs : g.stack = .int j :: .ref a :: rest) (hd : decode c.code g.pc = .ok (.laload, 1)) (hr : Steps p.tables e below (T.setTop { g with pc := g.pc + 1, stack := .long (u j.toNatClampNeg) :: rest }) target) : Steps p.tables e below (T.setTop g) target := by
  obtain ⟨cl, A, S, N, H⟩ := F
  exact X.laload hx (by rw [eT]; exact A.1) (State.isArrayOf_alike hZ.alike A.2.1) A.2.2 (inb_of S q) (H _ (nat_lt q)) hg hs hd _ hr
theorem AryR.load {C : String} {u : Nat → Value} (F : AryR Z h a C n u) (X : Stand p l e R s m args below meth c T locs cells slots) (hx : p.tables.exec = Jvm.exec) (hZ : Z.Warmed39 s.vm) (eT : T.heap = h) (q : ¬ j < 0 ∧ j < n) (hg : g.method = m) (hs : g.stack = .int j :: .ref a :: rest) (hd : decode c.code g.pc = .ok (.aaload, 1)) (hr : Steps p.tables e below (T.setTop { g with pc := g.pc + 1, stack := u j.toNatClampNeg :: rest }) target) : Steps p.tables e below (T.setTop g) target := by
  obtain ⟨cl, A, S, N, O, H⟩ := F
  exact X.aaload hx (by rw [eT]; exact A.1) (State.isArrayOf_alike hZ.alike A.2.1) rfl A.2.2 (inb_of S q) (H _ (nat_lt q)) hg hs hd _ hr
theorem AryI.put {u : Nat → Int32} {cl : Cell} (A : Arr Z h a cl ty) (S : cl.slots.size = n.toNatClampNeg) (N : ¬ n < 0) (H : ∀ i, i < n.toNatClampNeg → cl.slots[i]? = some (.int (u i))) (q : ¬ j < 0 ∧ j < n) (W : Wr h h' a j.toNatClampNeg (.int x)) : AryI Z h' a ty n (upd u j.toNatClampNeg x) := by
  refine ⟨_, A.same W, by rw [sz_set]; exact S, N, fun i hi => ?_⟩
  rw [set_at (by rw [S]; exact nat_lt q)]
  by_cases r : i = j.toNatClampNeg
  · rw [if_pos r, upd_eq r]
  · rw [if_neg r, upd_ne r]; exact H i hi
theorem AryI.stI {u : Nat → Int32} (F : AryI Z h a .int n u) (X : Stand p l e R s m args below meth c T locs cells slots) (hx : p.tables.exec = Jvm.exec) (hZ : Z.Warmed39 s.vm) (eT : T.heap = h) (q : ¬ j < 0 ∧ j < n) (hg : g.method = m) (hs : g.stack = .int x :: .int j :: .ref a :: rest) (hd : decode c.code g.pc = .ok (.iastore, 1)) :
    ∃ T' h', Stand p l e R s m args below meth c T' (locs ++ [⟨a, j.toNatClampNeg⟩]) cells slots ∧ T'.heap = h' ∧ Wr h h' a j.toNatClampNeg (.int x) ∧ AryI Z h' a .int n (upd u j.toNatClampNeg x) ∧ ∀ target, Steps p.tables e below (T'.setTop { g with pc := g.pc + 1, stack := rest }) target → Steps p.tables e below (T.setTop g) target := by
  obtain ⟨cl, A, S, N, H⟩ := F
  obtain ⟨T', h', X', e', W, st⟩ := Jvm.RoadKit.stI X hx hZ eT A (inb_of S q) hg hs hd
  exact ⟨T', h', X', e', W, AryI.put A S N H q W, st⟩
theorem AryI.stB {u : Nat → Int32} (F : AryI Z h a .byte n u) (X : Stand p l e R s m args below meth c T locs cells slots) (hx : p.tables.exec = Jvm.exec) (hZ : Z.Warmed39 s.vm) (eT : T.heap = h) (q : ¬ j < 0 ∧ j < n) (hg : g.method = m) (hs : g.stack = .int x :: .int j :: .ref a :: rest) (hd : decode c.code g.pc = .ok (.bastore, 1)) :
    ∃ T' h', Stand p l e R s m args below meth c T' (locs ++ [⟨a, j.toNatClampNeg⟩]) cells slots ∧ T'.heap = h' ∧ Wr h h' a j.toNatClampNeg (.int (nar .byte x)) ∧ AryI Z h' a .byte n (upd u j.toNatClampNeg (nar .byte x)) ∧ ∀ target, Steps p.tables e below (T'.setTop { g with pc := g.pc + 1, stack := rest }) target → Steps p.tables e below (T.setTop g) target := by
  obtain ⟨cl, A, S, N, H⟩ := F
  obtain ⟨T', h', X', e', W, st⟩ := Jvm.RoadKit.stB X hx hZ eT A (inb_of S q) hg hs hd
  exact ⟨T', h', X', e', W, AryI.put A S N H q W, st⟩
theorem AryJ.st {u : Nat → Int64} {y : Int64} (F : AryJ Z h a n u) (X : Stand p l e R s m args below meth c T locs cells slots) (hx : p.tables.exec = Jvm.exec) (hZ : Z.Warmed39 s.vm) (eT : T.heap = h) (q : ¬ j < 0 ∧ j < n) (hg : g.method = m) (hs : g.stack = .long y :: .int j :: .ref a :: rest) (hd : decode c.code g.pc = .ok (.lastore, 1)) :
    ∃ T' h', Stand p l e R s m args below meth c T' (locs ++ [⟨a, j.toNatClampNeg⟩]) cells slots ∧ T'.heap = h' ∧ Wr h h' a j.toNatClampNeg (.long y) ∧ AryJ Z h' a n (upd u j.toNatClampNeg y) ∧ ∀ target, Steps p.tables e below (T'.setTop { g with pc := g.pc + 1, stack := rest }) target → Steps p.tables e below (T.setTop g) target := by
  obtain ⟨cl, A, S, N, H⟩ := F
  obtain ⟨T', h', X', e', W, st⟩ := Jvm.RoadKit.stJ X hx hZ eT A (inb_of S q) hg hs hd
  refine ⟨T', h', X', e', W, ⟨_, A.same W, by rw [sz_set]; exact S, N, fun i hi => ?_⟩, st⟩
  rw [set_at (by rw [S]; exact nat_lt q)]
  by_cases r : i = j.toNatClampNeg
  · rw [if_pos r, upd_eq r]
  · rw [if_neg r, upd_ne r]; exact H i hi
theorem AryR.st {C : String} {u : Nat → Value} (F : AryR Z h a C n u) (X : Stand p l e R s m args below meth c T locs cells slots) (hx : p.tables.exec = Jvm.exec) (hZ : Z.Warmed39 s.vm) (eT : T.heap = h) (q : ¬ j < 0 ∧ j < n) (hI : v = .null ∨ ∃ y, v = .ref y ∧ Ins Z h y C true) (hg : g.method = m) (hs : g.stack = v :: .int j :: .ref a :: rest) (hd : decode c.code g.pc = .ok (.aastore, 1)) :
    ∃ T' h', Stand p l e R s m args below meth c T' (locs ++ [⟨a, j.toNatClampNeg⟩]) cells slots ∧ T'.heap = h' ∧ Wr h h' a j.toNatClampNeg v ∧ AryR Z h' a C n (upd u j.toNatClampNeg v) ∧ ∀ target, Steps p.tables e below (T'.setTop { g with pc := g.pc + 1, stack := rest }) target → Steps p.tables e below (T.setTop g) target := by
  obtain ⟨cl, A, S, N, O, H⟩ := F
  have hS : Sto Z h a v := by
    rcases hI with r | ⟨y, rfl, r⟩
    · exact Or.inl r
    · exact Sto.of A O r
  obtain ⟨T', h', X', e', W, st⟩ := Jvm.RoadKit.stR X hx hZ eT A (inb_of S q) rfl hS hg hs hd
  refine ⟨T', h', X', e', W, ⟨_, A.same W, by rw [sz_set]; exact S, N, O, fun i hi => ?_⟩, st⟩
  rw [set_at (by rw [S]; exact nat_lt q)]
  by_cases r : i = j.toNatClampNeg
  · rw [if_pos r, upd_eq r]
  · rw [if_neg r, upd_ne r]; exact H i hi
end Arrays
section Iface
variable {p : Program} {l : Launch} {e : Env} {R : Room} {s : State} {m : MethodId} {args : Array Value} {below : List Frame} {meth : Method} {c : Code} {T T' : State} {locs : List Loc} {cells slots : Nat} {Q : Option Value → Heap → List Loc → Prop} {g : JFrame} {Z : State} {a0 : Array Value} {h h' : Heap}
/-- an interface's method that leaves the heap as it was -/
theorem pureI (X : Stand p l e R s m args below meth c T locs cells slots) (hx : p.tables.exec = Jvm.exec) (hZ : Z.Warmed39 s.vm) {own C' : String} {index count : Nat} {y z : MethodName} {bytes : ByteArray} {maxL : Nat} {ret : Option FieldType} {fr lo : Nat} {as : Array Value} {b : Addr} {w : Option Value}
    (hown : s.vm.findClass own = some m.cls) (w1 : (Cond.methodLink own index y).before a0 Z = true) (w2 : (Cond.declares y).before a0 Z = true) (wf : (Cond.interfaceMethod y.cls y.cls y.name y.desc).before a0 Z = true) (w3 : (Cond.selects C' y z).before a0 Z = true) (w4 : (Cond.instanceMethod z).before a0 Z = true) (wp : (Cond.publicMethod z).before a0 Z = true) (wu : (Cond.unhidden C' y.name y.desc).before a0 Z = true) (wk : (Cond.castable C' y.cls).before a0 Z = true) (w5 : (Cond.initialized z.cls).before a0 Z = true) (w6 : (Cond.code z bytes maxL ret).before a0 Z = true)
    (E : Exa Z h b C') (hy : y.cls ≠ "java/lang/invoke/MethodHandle" ∧ y.cls ≠ "java/lang/invoke/VarHandle") (M : Cmet l Z z bytes maxL ret [] ({ frames := fr, cells := 0, slots := 0, locals := lo } : Room) as h (fun v h' L => v = w ∧ h' = h ∧ L = [])) (eT : T.heap = h) {W : Nat} (hf : fr + 1 ≤ R.frames) (hl : W + (maxL + 11) + lo ≤ R.locals) (hc : cells ≤ R.cells) (hs : slots ≤ R.slots)
    (hg : g.method = m) (hsize : g.locals.size = c.maxLocals) {argsL rest : List Value} (has : (Value.ref b :: argsL).toArray = as) (hlen : ∀ sig, parseMethodDescriptor y.desc = some sig → argsL.length = sig.parameters.length)
    (hstack : g.stack = argsL.reverse ++ .ref b :: rest) (hW : 2 * g.monitorRoom + (rest.map fun v => v.category).sum ≤ W) (hdg : decode c.code g.pc = .ok (.invokeinterface index count, 5)) :
    ∃ (T' : State), Stand p l e R s m args below meth c T' locs cells slots ∧ T'.heap = h ∧
      ∀ target, Steps p.tables e below (T'.setTop { g with pc := g.pc + 5, stack := w.toList ++ rest }) target → Steps p.tables e below (T.setTop g) target := by
  obtain ⟨cB, kB, q1, q2, q3⟩ := isOf hZ eT E
  obtain ⟨v, vm1, ⟨T', L', c', n'⟩, -, X', ⟨L, ⟨rfl, q, rfl⟩, r1, r2, r3⟩, st⟩ := X.interfaceBack hx hown (mvT hZ w1) (mvT hZ w2) (mvT hZ wf (by simp [Cond.onTables, Cond.keepsFace, Cond.keeps, Cond.faceAtom, hy.1, hy.2])) (mvT hZ w3) (mvT hZ w4) (mvT hZ wp) (mvT hZ wu) (mvT hZ wk) hy (backOf (W := W) (Q := fun v h' L => v = w ∧ h' = h ∧ L = []) (rm := ({ frames := fr, cells := 0, slots := 0, locals := lo } : Room)) M hZ w6 w5 hf hl) q1 q2 q3 hg hsize (Steps.refl _) hlen hstack hW hdg (fun _ _ => ⟨has, eT, hc, hs⟩)
  dsimp only [Pt.U, Pt.locs, Pt.cells, Pt.slots] at X' r1 r2 r3 st q
  rw [List.append_nil] at r1
  subst r1 r2 r3
  exact ⟨T', X', q, fun _ k => st.trans k⟩
theorem AryJ.arh0 {a : Addr} {u : Nat → Int64} (F : AryJ Z h a (0 : Int32) u) : ∃ k, Arh Z h a k .long (0 : Int32) [] [] (.long 0) := by
  obtain ⟨cl, A, S, N, H⟩ := F
  have z : cl.slots.size = 0 := S
  exact ⟨cl.cls, cl, A, rfl, S, N, fun i hi => absurd hi (by omega), fun i hi => absurd hi (by omega)⟩
end Iface
section Calls2
variable {p : Program} {l : Launch} {e : Env} {R : Room} {s : State} {m : MethodId} {args : Array Value} {below : List Frame} {meth : Method} {c : Code} {T T' : State} {locs : List Loc} {cells slots : Nat} {Q : Option Value → Heap → List Loc → Prop} {g : JFrame} {Z : State} {a0 : Array Value} {h h' : Heap}
/-- an interface's method by its contract -/
theorem callI (X : Stand p l e R s m args below meth c T locs cells slots) (hx : p.tables.exec = Jvm.exec) (hZ : Z.Warmed39 s.vm) {own C' : String} {index count : Nat} {y z : MethodName} {bytes : ByteArray} {maxL : Nat} {ret : Option FieldType} {rm : Room} {as : Array Value} {b : Addr}
    (hown : s.vm.findClass own = some m.cls) (w1 : (Cond.methodLink own index y).before a0 Z = true) (w2 : (Cond.declares y).before a0 Z = true) (wf : (Cond.interfaceMethod y.cls y.cls y.name y.desc).before a0 Z = true) (w3 : (Cond.selects C' y z).before a0 Z = true) (w4 : (Cond.instanceMethod z).before a0 Z = true) (wp : (Cond.publicMethod z).before a0 Z = true) (wu : (Cond.unhidden C' y.name y.desc).before a0 Z = true) (wk : (Cond.castable C' y.cls).before a0 Z = true) (w5 : (Cond.initialized z.cls).before a0 Z = true) (w6 : (Cond.code z bytes maxL ret).before a0 Z = true)
    (E : Exa Z h b C') (hy : y.cls ≠ "java/lang/invoke/MethodHandle" ∧ y.cls ≠ "java/lang/invoke/VarHandle") (M : Cmet l Z z bytes maxL ret [] rm as h Q) (eT : T.heap = h) {W : Nat} (hf : rm.frames + 1 ≤ R.frames) (hl : W + (maxL + 11) + rm.locals ≤ R.locals) (hc : cells + rm.cells ≤ R.cells) (hs : slots + rm.slots ≤ R.slots)
    (hg : g.method = m) (hsize : g.locals.size = c.maxLocals) {argsL rest : List Value} (has : (Value.ref b :: argsL).toArray = as) (hlen : ∀ sig, parseMethodDescriptor y.desc = some sig → argsL.length = sig.parameters.length)
    (hstack : g.stack = argsL.reverse ++ .ref b :: rest) (hW : 2 * g.monitorRoom + (rest.map fun v => v.category).sum ≤ W) (hdg : decode c.code g.pc = .ok (.invokeinterface index count, 5)) :
    ∃ (v : Option Value) (T' : State) (L : List Loc), Stand p l e R s m args below meth c T' (locs ++ L) (cells + rm.cells) (slots + rm.slots) ∧ Q v T'.heap L ∧
      ∀ target, Steps p.tables e below (T'.setTop { g with pc := g.pc + 5, stack := v.toList ++ rest }) target → Steps p.tables e below (T.setTop g) target := by
  obtain ⟨cB, kB, q1, q2, q3⟩ := isOf hZ eT E
  obtain ⟨v, vm1, ⟨T', L', c', n'⟩, -, X', ⟨L, hQ, r1, r2, r3⟩, st⟩ := X.interfaceBack hx hown (mvT hZ w1) (mvT hZ w2) (mvT hZ wf (by simp [Cond.onTables, Cond.keepsFace, Cond.keeps, Cond.faceAtom, hy.1, hy.2])) (mvT hZ w3) (mvT hZ w4) (mvT hZ wp) (mvT hZ wu) (mvT hZ wk) hy (backOf (W := W) (Q := Q) (rm := rm) M hZ w6 w5 hf hl) q1 q2 q3 hg hsize (Steps.refl _) hlen hstack hW hdg (fun _ _ => ⟨has, eT, hc, hs⟩)
  dsimp only [Pt.U, Pt.locs, Pt.cells, Pt.slots] at X' r1 r2 r3 st hQ
  subst r1 r2 r3
  exact ⟨v, T', L, X', hQ, fun _ k => st.trans k⟩
/-- a private method by its contract, called with invokevirtual -/
theorem callP (X : Stand p l e R s m args below meth c T locs cells slots) (hx : p.tables.exec = Jvm.exec) (hZ : Z.Warmed39 s.vm) {own C' : String} {index : Nat} {y : MethodName} {bytes : ByteArray} {maxL : Nat} {ret : Option FieldType} {rm : Room} {as : Array Value} {b : Addr}
    (hown : s.vm.findClass own = some m.cls) (w1 : (Cond.methodLink own index y).before a0 Z = true) (w3 : (Cond.selects y.cls y y).before a0 Z = true) (w4 : (Cond.instanceMethod y).before a0 Z = true) (wp : (Cond.privateMethod y).before a0 Z = true) (w5 : (Cond.initialized y.cls).before a0 Z = true) (w6 : (Cond.code y bytes maxL ret).before a0 Z = true)
    (E : Exa Z h b C') (hy : y.cls ≠ "java/lang/invoke/MethodHandle" ∧ y.cls ≠ "java/lang/invoke/VarHandle") (M : Cmet l Z y bytes maxL ret [] rm as h Q) (eT : T.heap = h) {W : Nat} (hf : rm.frames + 1 ≤ R.frames) (hl : W + (maxL + 11) + rm.locals ≤ R.locals) (hc : cells + rm.cells ≤ R.cells) (hs : slots + rm.slots ≤ R.slots)
    (hg : g.method = m) (hsize : g.locals.size = c.maxLocals) {argsL rest : List Value} (has : (Value.ref b :: argsL).toArray = as) (hlen : ∀ sig, parseMethodDescriptor y.desc = some sig → argsL.length = sig.parameters.length)
    (hstack : g.stack = argsL.reverse ++ .ref b :: rest) (hW : 2 * g.monitorRoom + (rest.map fun v => v.category).sum ≤ W) (hdg : decode c.code g.pc = .ok (.invokevirtual index, 3)) :
    ∃ (v : Option Value) (T' : State) (L : List Loc), Stand p l e R s m args below meth c T' (locs ++ L) (cells + rm.cells) (slots + rm.slots) ∧ Q v T'.heap L ∧
      ∀ target, Steps p.tables e below (T'.setTop { g with pc := g.pc + 3, stack := v.toList ++ rest }) target → Steps p.tables e below (T.setTop g) target := by
  obtain ⟨cell, k, e1, -, -, e4, -⟩ := E
  obtain ⟨v, vm1, ⟨T', L', c', n'⟩, -, X', ⟨L, hQ, r1, r2, r3⟩, st⟩ := X.privateBack hx hown (mvT hZ w1) (mvT hZ w4) (mvT hZ w3) (Cond.privateMethod_at (mvT (args := #[]) hZ wp)) (mvT hZ w6) hy (backOf (W := W) (Q := Q) (rm := rm) M hZ w6 w5 hf hl) hg hsize (Steps.refl _) (by rw [eT]; exact e1) (fun q z => by rw [z] at e4; cases e4) hlen hstack hW hdg (fun _ _ => ⟨has, eT, hc, hs⟩)
  dsimp only [Pt.U, Pt.locs, Pt.cells, Pt.slots] at X' r1 r2 r3 st hQ
  subst r1 r2 r3
  exact ⟨v, T', L, X', hQ, fun _ k => st.trans k⟩
/-- a nestmate's constructor by its contract -/
theorem callNewN (X : Stand p l e R s m args below meth c T locs cells slots) (hx : p.tables.exec = Jvm.exec) (hZ : Z.Warmed39 s.vm) {own host : String} {index : Nat} {y : MethodName} {bytes : ByteArray} {maxL : Nat} {rm : Room} {as : Array Value} {b : Addr}
    (hown : s.vm.findClass own = some m.cls) (hy1 : y.name = "<init>") (w1 : (Cond.methodLinkNest own index y host).before args s = true) (w2 : (Cond.instanceMethod y).before a0 Z = true) (w3 : (Cond.initialized y.cls).before a0 Z = true) (w4 : (Cond.code y bytes maxL none).before a0 Z = true)
    (hy : y.cls ≠ "java/lang/invoke/MethodHandle" ∧ y.cls ≠ "java/lang/invoke/VarHandle") (M : Cmet l Z y bytes maxL none [] rm as h Q) (eT : T.heap = h) {W : Nat} (hf : rm.frames + 1 ≤ R.frames) (hl : W + (maxL + 11) + rm.locals ≤ R.locals) (hc : cells + rm.cells ≤ R.cells) (hs : slots + rm.slots ≤ R.slots)
    (hg : g.method = m) (hsize : g.locals.size = c.maxLocals) {argsL rest : List Value} (has : (Value.ref b :: argsL).toArray = as) (hlen : ∀ sig, parseMethodDescriptor y.desc = some sig → argsL.length = sig.parameters.length)
    (hstack : g.stack = argsL.reverse ++ .ref b :: rest) (hW : 2 * g.monitorRoom + (rest.map fun v => v.category).sum ≤ W) (hdg : decode c.code g.pc = .ok (.invokespecial index, 3)) :
    ∃ (v : Option Value) (T' : State) (L : List Loc), Stand p l e R s m args below meth c T' (locs ++ L) (cells + rm.cells) (slots + rm.slots) ∧ Q v T'.heap L ∧
      ∀ target, Steps p.tables e below (T'.setTop { g with pc := g.pc + 3, stack := v.toList ++ rest }) target → Steps p.tables e below (T.setTop g) target := by
  obtain ⟨v, vm1, ⟨T', L', c', n'⟩, -, X', ⟨L, hQ, r1, r2, r3⟩, st⟩ := X.specialBackNest hx hy1 hown w1 (mvT hZ w2) (mvT hZ w4) hy (backOf (W := W) (Q := Q) (rm := rm) M hZ w4 w3 hf hl) hg hsize (Steps.refl _) hlen hstack hW hdg (fun _ _ => ⟨has, eT, hc, hs⟩)
  dsimp only [Pt.U, Pt.locs, Pt.cells, Pt.slots] at X' r1 r2 r3 st hQ
  subst r1 r2 r3
  exact ⟨v, T', L, X', hQ, fun _ k => st.trans k⟩
end Calls2
section FieldRef
variable {p : Program} {l : Launch} {e : Env} {R : Room} {s : State} {m : MethodId} {args : Array Value} {below : List Frame} {meth : Method} {c : Code} {T : State} {locs : List Loc} {cells slots : Nat} {g : JFrame} {Z : State} {a0 : Array Value} {h : Heap}
/-- a getfield whose entry was resolved before the law -/
theorem getFR (X : Stand p l e R s m args below meth c T locs cells slots) (hx : p.tables.exec = Jvm.exec) (hZ : Z.Warmed39 s.vm) {own O n d : String} {index : Nat} (hown : s.vm.findClass own = some m.cls) (w : (Cond.fieldRef own index O n d).before a0 Z = true)
    (eT : T.heap = h) {a : Addr} {v : Value} (F : Fld Z h a O n d v) (hg : g.method = m) {rest : List Value} (hs : g.stack = .ref a :: rest) (hd : decode c.code g.pc = .ok (.getfield index, 3)) : ∀ target, Steps p.tables e below (T.setTop { g with pc := g.pc + 3, stack := v :: rest }) target → Steps p.tables e below (T.setTop g) target := by
  obtain ⟨cell, cf, k, i, f, h1, h2, h3, h4, -, -, h7⟩ := F
  have hZT : Z.Warmed39 T.vm := wtrans hZ X.warmed
  have w1 := Cond.fieldRef_warmed39 hZT w
  have hown' : (Z.setVm T.vm).vm.findClass own = some m.cls := by
    show T.vm.findClass own = some m.cls
    rw [X.warmed.alike.findClass]; exact hown
  obtain ⟨c', k', i', f', q1, q2⟩ := Cond.fieldRef_spec hown' w1
  obtain ⟨k2, q3, -⟩ := State.fieldFound?_setVm (s := Z) hZT.alike h2
  cases q1.symm.trans q3
  intro target hr
  subst hg
  jvm_step X.here [hx, hd, getfield.wp_ready (e := e) (s := T) (f := g) X.here.top q2 h3 hs (by rw [eT]; exact h1) h4 h7]
  exact hr
end FieldRef
section LdcClass
variable {p : Program} {l : Launch} {e : Env} {R : Room} {s : State} {m : MethodId} {args : Array Value} {below : List Frame} {meth : Method} {c : Code} {T : State} {locs : List Loc} {cells slots : Nat} {g : JFrame} {Z : State} {a0 : Array Value} {h : Heap}
/-- an ldc of a class whose Class object was made before the law -/
theorem ldcK (X : Stand p l e R s m args below meth c T locs cells slots) (hx : p.tables.exec = Jvm.exec) (hZ : Z.Warmed39 s.vm) {own C : String} {index : Nat} (hown : s.vm.findClass own = some m.cls) (w : (Cond.classLink own index C).before a0 Z = true) (eT : T.heap = h) {mr : Addr} (M : Mir Z C mr)
    (hg : g.method = m) (hd : decode c.code g.pc = .ok (.ldc index, 2)) : ∃ T', Stand p l e R s m args below meth c T' locs cells slots ∧ T'.heap = h ∧ ∀ target, Steps p.tables e below (T'.setTop { g with pc := g.pc + 2, stack := .ref mr :: g.stack }) target → Steps p.tables e below (T.setTop g) target := by
  obtain ⟨cc, kc, m1, m2, m3, -⟩ := M
  obtain ⟨k', q, ek⟩ := hZ.alike.2.2 _ _ m2
  have hev : (Term.mirror C).eval args s none [] s = some (.ref mr) := by
    have f1 : s.vm.findClass C = some cc := by rw [hZ.alike.findClass]; exact m1
    have f2 : k'.mirror = some mr := by rw [ek]; exact m3
    simp [Term.eval, f1, q, f2]
  obtain ⟨vm', X', st⟩ := X.ldcMirror hx hown (mv hZ w) hev hg hd
  exact ⟨_, X', eT, st⟩
end LdcClass
/-- an int[][] as a function -/
def AryA (Z : State) (h : Heap) (a : Addr) (n : Int32) (u : Nat → Value) : Prop := ∃ cl : Cell, Arr Z h a cl (.array .int) ∧ cl.slots.size = n.toNatClampNeg ∧ ¬ n < 0 ∧ OvrA Z cl.cls .int "[I" ∧ ∀ i, i < n.toNatClampNeg → cl.slots[i]? = some (u i)
section AryAs
variable {p : Program} {l : Launch} {e : Env} {R : Room} {s : State} {m : MethodId} {args : Array Value} {below : List Frame} {meth : Method} {c : Code} {T : State} {locs : List Loc} {cells slots : Nat} {g : JFrame} {Z : State} {a0 : Array Value} {h h' : Heap} {a b : Addr} {n j : Int32} {u : Nat → Value} {v : Value} {sl : Nat} {ws : List Addr} {rest : List Value} {target : State}
theorem AryA.lt (F : AryA Z h a n u) : a < h.size := by obtain ⟨_, A, -⟩ := F; exact A.lt
theorem AryA.ext (E : Ext h h') (F : AryA Z h a n u) : AryA Z h' a n u := by obtain ⟨cl, A, r⟩ := F; exact ⟨cl, A.ext E, r⟩
theorem AryA.other (W : Wr h h' b sl v) (F : AryA Z h a n u) (q : a ≠ b) : AryA Z h' a n u := by obtain ⟨cl, A, r⟩ := F; exact ⟨cl, A.other W q, r⟩
theorem AryA.keep (F : AryA Z h a n u) (K : Keep h h' ws) (q : a ∉ ws) : AryA Z h' a n u := by obtain ⟨cl, A, r⟩ := F; exact ⟨cl, ⟨K.2.1 a cl A.1 q, A.2⟩, r⟩
theorem AryA.cast {u' : Nat → Value} (F : AryA Z h a n u) (q : ∀ i, i < n.toNatClampNeg → u i = u' i) : AryA Z h a n u' := by obtain ⟨cl, A, r1, r2, O, r3⟩ := F; exact ⟨cl, A, r1, r2, O, fun i hi => by rw [r3 i hi, q i hi]⟩
theorem AryA.new {cA : ClassId} (A : Arr Z h a (newA cA (.array .int) n) (.array .int)) (O : OvrA Z cA .int "[I") (q : ¬ n < 0) : AryA Z h a n (fun _ => .null) := ⟨_, A, sz_new _ _ _, q, O, fun i hi => by
  have d : defaultValue (.array .int) = .null := rfl
  simp [newA, d, hi]⟩
theorem AryA.load (F : AryA Z h a n u) (X : Stand p l e R s m args below meth c T locs cells slots) (hx : p.tables.exec = Jvm.exec) (hZ : Z.Warmed39 s.vm) (eT : T.heap = h) (q : ¬ j < 0 ∧ j < n) (hg : g.method = m) (hs : g.stack = .int j :: .ref a :: rest) (hd : decode c.code g.pc = .ok (.aaload, 1)) (hr : Steps p.tables e below (T.setTop { g with pc := g.pc + 1, stack := u j.toNatClampNeg :: rest }) target) : Steps p.tables e below (T.setTop g) target := by
  obtain ⟨cl, A, S, N, O, H⟩ := F
  exact X.aaload hx (by rw [eT]; exact A.1) (State.isArrayOf_alike hZ.alike A.2.1) rfl A.2.2 (inb_of S q) (H _ (nat_lt q)) hg hs hd _ hr
theorem AryA.st (F : AryA Z h a n u) (X : Stand p l e R s m args below meth c T locs cells slots) (hx : p.tables.exec = Jvm.exec) (hZ : Z.Warmed39 s.vm) (eT : T.heap = h) (q : ¬ j < 0 ∧ j < n) (hI : v = .null ∨ ∃ y, v = .ref y ∧ Ins Z h y "[I" true) (hg : g.method = m) (hs : g.stack = v :: .int j :: .ref a :: rest) (hd : decode c.code g.pc = .ok (.aastore, 1)) :
    ∃ T' h', Stand p l e R s m args below meth c T' (locs ++ [⟨a, j.toNatClampNeg⟩]) cells slots ∧ T'.heap = h' ∧ Wr h h' a j.toNatClampNeg v ∧ AryA Z h' a n (upd u j.toNatClampNeg v) ∧ ∀ target, Steps p.tables e below (T'.setTop { g with pc := g.pc + 1, stack := rest }) target → Steps p.tables e below (T.setTop g) target := by
  obtain ⟨cl, A, S, N, O, H⟩ := F
  have hS : Sto Z h a v := by
    rcases hI with r | ⟨y, rfl, r⟩
    · exact Or.inl r
    · exact Sto.ofVA A rfl O r
  obtain ⟨T', h', X', e', W, st⟩ := Jvm.RoadKit.stR X hx hZ eT A (inb_of S q) rfl hS hg hs hd
  refine ⟨T', h', X', e', W, ⟨_, A.same W, by rw [sz_set]; exact S, N, O, fun i hi => ?_⟩, st⟩
  rw [set_at (by rw [S]; exact nat_lt q)]
  by_cases r : i = j.toNatClampNeg
  · rw [if_pos r, upd_eq r]
  · rw [if_neg r, upd_ne r]; exact H i hi
theorem AryR.cast {C : String} {u' : Nat → Value} (F : AryR Z h a C n u) (q : ∀ i, i < n.toNatClampNeg → u i = u' i) : AryR Z h a C n u' := by obtain ⟨cl, A, r1, r2, O, r3⟩ := F; exact ⟨cl, A, r1, r2, O, fun i hi => by rw [r3 i hi, q i hi]⟩
end AryAs
section Lists
variable {p : Program} {l : Launch} {e : Env} {R : Room} {s : State} {m : MethodId} {args : Array Value} {below : List Frame} {meth : Method} {c : Code} {T : State} {locs : List Loc} {cells slots : Nat} {g : JFrame} {Z : State} {a0 : Array Value} {h h' : Heap} {ws : List Addr} {sl : Nat} {v : Value}
/-- an array of objects of which the length alone is told -/
def AryQ (Z : State) (h : Heap) (a : Addr) (n : Int32) : Prop := ∃ cl : Cell, Arr Z h a cl (.object "java/lang/Object") ∧ cl.slots.size = n.toNatClampNeg ∧ ¬ n < 0
theorem AryQ.lt {a : Addr} {n : Int32} (F : AryQ Z h a n) : a < h.size := by obtain ⟨_, A, -⟩ := F; exact A.lt
theorem AryQ.ext {a : Addr} {n : Int32} (E : Ext h h') (F : AryQ Z h a n) : AryQ Z h' a n := by obtain ⟨cl, A, r⟩ := F; exact ⟨cl, A.ext E, r⟩
theorem AryQ.keep {a : Addr} {n : Int32} (F : AryQ Z h a n) (K : Keep h h' ws) (q : a ∉ ws) : AryQ Z h' a n := by obtain ⟨cl, A, r⟩ := F; exact ⟨cl, ⟨K.2.1 a cl A.1 q, A.2⟩, r⟩
theorem AryQ.len {a : Addr} {n : Int32} {rest : List Value} {target : State} (F : AryQ Z h a n) (X : Stand p l e R s m args below meth c T locs cells slots) (hx : p.tables.exec = Jvm.exec) (hZ : Z.Warmed39 s.vm) (eT : T.heap = h) (hg : g.method = m) (hs : g.stack = .ref a :: rest) (hd : decode c.code g.pc = .ok (.arraylength, 1)) (hr : Steps p.tables e below (T.setTop { g with pc := g.pc + 1, stack := .int n :: rest }) target) : Steps p.tables e below (T.setTop g) target := by
  obtain ⟨cl, A, S, N⟩ := F
  refine X.arraylength hx (by rw [eT]; exact A.1) (State.isArrayOf_alike hZ.alike A.2.1) hg hs hd _ ?_
  rw [len_of S N]; exact hr
/-- an ArrayList: its elementData x (the shared empty array dd, or an own array of ten that lies at or behind B), its size n, what lies at each place -/
def ALs (Z : State) (B : Nat) (dd : Addr) (h : Heap) (a x : Addr) (n : Int32) (u : Nat → Value) : Prop :=
  Exa Z h a "java/util/ArrayList" ∧ (∃ mc : Int32, Fld Z h a "java/util/AbstractList" "modCount" "I" (.int mc)) ∧ Fld Z h a "java/util/ArrayList" "elementData" "[Ljava/lang/Object;" (.ref x) ∧ Fld Z h a "java/util/ArrayList" "size" "I" (.int n) ∧ a ≠ x ∧ (∀ i, (u i).isRef = true) ∧
    ((n = 0 ∧ x = dd ∧ u = (fun _ => .null) ∧ AryQ Z h x 0) ∨ (B ≤ x ∧ ¬ n < 0 ∧ ¬ (10 : Int32) < n ∧ AryR Z h x "java/lang/Object" 10 u ∧ Exa Z h x "[Ljava/lang/Object;"))
variable {B : Nat} {dd a b x : Addr} {n : Int32} {u : Nat → Value}
theorem ALs.lt (F : ALs Z B dd h a x n u) : a < h.size := F.1.lt
theorem ALs.lte (F : ALs Z B dd h a x n u) : x < h.size := by
  obtain ⟨-, -, -, -, -, -, ⟨-, -, -, A⟩ | ⟨-, -, -, A, -⟩⟩ := F <;> exact A.lt
theorem ALs.exa (F : ALs Z B dd h a x n u) : Exa Z h a "java/util/ArrayList" := F.1
theorem ALs.nn (F : ALs Z B dd h a x n u) : ¬ n < 0 := by
  obtain ⟨-, -, -, -, -, -, ⟨r, -⟩ | ⟨-, q, -⟩⟩ := F
  · rw [r]; decide
  · exact q
theorem ALs.ref (F : ALs Z B dd h a x n u) (i : Nat) : (u i).isRef = true := F.2.2.2.2.2.1 i
theorem ALs.ext (E : Ext h h') (F : ALs Z B dd h a x n u) : ALs Z B dd h' a x n u := by
  obtain ⟨f1, ⟨mc, f2⟩, f3, f4, f5, f6, ⟨r, q, qu, A⟩ | ⟨r, q, q', A, A'⟩⟩ := F
  · exact ⟨f1.ext E, ⟨mc, f2.ext E⟩, f3.ext E, f4.ext E, f5, f6, Or.inl ⟨r, q, qu, A.ext E⟩⟩
  · exact ⟨f1.ext E, ⟨mc, f2.ext E⟩, f3.ext E, f4.ext E, f5, f6, Or.inr ⟨r, q, q', A.ext E, A'.ext E⟩⟩
theorem ALs.keep (F : ALs Z B dd h a x n u) (K : Keep h h' ws) (qa : a ∉ ws) (qx : x ∉ ws) : ALs Z B dd h' a x n u := by
  obtain ⟨f1, ⟨mc, f2⟩, f3, f4, f5, f6, ⟨r, q, qu, A⟩ | ⟨r, q, q', A, A'⟩⟩ := F
  · exact ⟨f1.keep K, ⟨mc, f2.keep K qa⟩, f3.keep K qa, f4.keep K qa, f5, f6, Or.inl ⟨r, q, qu, A.keep K qx⟩⟩
  · exact ⟨f1.keep K, ⟨mc, f2.keep K qa⟩, f3.keep K qa, f4.keep K qa, f5, f6, Or.inr ⟨r, q, q', A.keep K qx, A'.keep K⟩⟩
theorem ALs.other (F : ALs Z B dd h a x n u) (W : Wr h h' b sl v) (qa : a ≠ b) (qx : x ≠ b) : ALs Z B dd h' a x n u := F.keep (Keep.of_wr W) (ninS qa nin0) (ninS qx nin0)
theorem ALs.cast {n' : Int32} {u' : Nat → Value} (F : ALs Z B dd h a x n u) (en : n = n') (q : u = u') : ALs Z B dd h a x n' u' := by subst en q; exact F
theorem ALs.own (F : ALs Z B dd h a x n u) (q : ¬ n = 0) : B ≤ x ∧ ¬ n < 0 ∧ ¬ (10 : Int32) < n ∧ AryR Z h x "java/lang/Object" 10 u ∧ Exa Z h x "[Ljava/lang/Object;" := by
  obtain ⟨-, -, -, -, -, -, ⟨r, -⟩ | r⟩ := F
  · exact absurd r q
  · exact r
/-- any object -/
def IsO (Z : State) (h : Heap) (y : Addr) : Prop := Ins Z h y "java/lang/Object" true
theorem IsO.ext (E : Ext h h') (F : IsO Z h a) : IsO Z h' a := Ins.ext E F
theorem IsO.wrO (F : IsO Z h a) (W : Wr h h' b sl v) : IsO Z h' a := Ins.wr W F
theorem IsO.keep (F : IsO Z h a) (K : Keep h h' ws) (q : True) : IsO Z h' a := by
  obtain ⟨cell, cT, h1, h2, h3⟩ := F
  obtain ⟨c', q1, q2, q3, -⟩ := K.2.2 _ _ h1
  exact ⟨c', cT, q1, h2, by rw [q2, q3]; exact h3⟩
theorem Cmet.mono {y : MethodName} {bytes : ByteArray} {ml : Nat} {ret : Option FieldType} {cs : List Jvm.Cond} {rm : Room} {as : Array Value} {Q Q' : Option Value → Heap → List Loc → Prop} (M : Cmet l Z y bytes ml ret cs rm as h Q) (q : ∀ v h L, Q v h L → Q' v h L) : Cmet l Z y bytes ml ret cs rm as h Q' := fun p e ha hc hk s m args below hf happ hP hK => by
  obtain ⟨n, o, h1, h2, h3, v, L, r1, r2, r3⟩ := M p e ha hc hk s m args below hf happ hP hK
  exact ⟨n, o, h1, h2, h3, v, L, r1, q _ _ _ r2, r3⟩
theorem AryR.len {C : String} {rest : List Value} {target : State} (F : AryR Z h a C n u) (X : Stand p l e R s m args below meth c T locs cells slots) (hx : p.tables.exec = Jvm.exec) (hZ : Z.Warmed39 s.vm) (eT : T.heap = h) (hg : g.method = m) (hs : g.stack = .ref a :: rest) (hd : decode c.code g.pc = .ok (.arraylength, 1)) (hr : Steps p.tables e below (T.setTop { g with pc := g.pc + 1, stack := .int n :: rest }) target) : Steps p.tables e below (T.setTop g) target := by
  obtain ⟨cl, A, S, N, H⟩ := F
  refine X.arraylength hx (by rw [eT]; exact A.1) (State.isArrayOf_alike hZ.alike A.2.1) hg hs hd _ ?_
  rw [len_of S N]; exact hr
/-- the first n of u are boxes of v -/
def BX (Z : State) (n : Int32) (u : Nat → Value) (v : Nat → Int32) : Prop := ∀ i, i < n.toNatClampNeg → ∃ q : Addr, u i = .ref q ∧ Exa Z Z.heap q "java/lang/Integer" ∧ Fld Z Z.heap q "java/lang/Integer" "value" "I" (.int (v i))
/-- what an int[] holds, as a set -/
def Mem (n : Int32) (v : Nat → Int32) (S : Int32 → Prop) : Prop := ∀ x, (∃ i, i < n.toNatClampNeg ∧ v i = x) ↔ S x
/-- the first k of u are Moves of the transition t, the i-th outranked by S i; they and their arrays lie ahead of B -/
def MVn (Z : State) (h : Heap) (B : Nat) (t : Addr) (k : Nat) (u : Nat → Value) (S : Nat → Int32 → Prop) : Prop := ∀ i, i < k → ∃ (m ar : Addr) (n : Int32) (v : Nat → Int32), u i = .ref m ∧ m < B ∧ ar < B ∧ Exa Z h m "com/example/firm_handshake/firmhandshake/model/Location$Move" ∧ Fld Z h m "com/example/firm_handshake/firmhandshake/model/Location$Move" "transition" "Lcom/example/firm_handshake/firmhandshake/model/Transition;" (.ref t) ∧
  Fld Z h m "com/example/firm_handshake/firmhandshake/model/Location$Move" "outrankedBy" "[I" (.ref ar) ∧ Exa Z h ar "[I" ∧ AryI Z h ar .int n v ∧ ¬ (3 : Int32) < n ∧ Mem n v (S i)
def MV (Z : State) (h : Heap) (B : Nat) (t : Addr) (k : Int32) (u : Nat → Value) (S : Nat → Int32 → Prop) : Prop := MVn Z h B t k.toNatClampNeg u S
variable {t : Addr} {k : Int32} {S : Nat → Int32 → Prop}
theorem MV.keep (F : MV Z h B t k u S) (K : Keep h h' ws) (q : ∀ w ∈ ws, B ≤ w) : MV Z h' B t k u S := fun i hi => by
  obtain ⟨m, ar, n, v, f1, f2, f3, f4, f5, f6, f7, f8, f9⟩ := F i hi
  have n1 : m ∉ ws := fun r => absurd f2 (Nat.not_lt.mpr (q _ r))
  have n2 : ar ∉ ws := fun r => absurd f3 (Nat.not_lt.mpr (q _ r))
  exact ⟨m, ar, n, v, f1, f2, f3, f4.keep K, f5.keep K n1, f6.keep K n1, f7.keep K, f8.keep K n2, f9⟩
/-- System.arraycopy of the first n objects into a new array -/
theorem cpR (X : Stand p l e R s m args below meth c T locs cells slots) (hx : p.tables.exec = Jvm.exec) (hZ : Z.Warmed39 s.vm) {own : String} {index : Nat} (hown : s.vm.findClass own = some m.cls)
    (w1 : (Cond.methodLink own index Jvm.Stand.acN).before a0 Z = true) (w2 : (Cond.native Jvm.Stand.acN).before a0 Z = true) (w3 : (Cond.static Jvm.Stand.acN).before a0 Z = true) (w4 : (Cond.initialized "java/lang/System").before a0 Z = true) (eT : T.heap = h) {C : String} {w : Nat → Value}
    (A : AryR Z h a C 10 u) (hu : ∀ i, (u i).isRef = true) (D : AryR Z h b C n w) (hwr : ∀ i, (w i).isRef = true) (hn : ¬ n < 0) (hn' : ¬ (10 : Int32) < n) (hI : ∀ i, i < n.toNatClampNeg → ∃ y, u i = .ref y ∧ Ins Z h y C true) {n0 : Nat} (N : Fr n0 locs) (ge : n0 ≤ b)
    (hg : g.method = m) (hsize : g.locals.size = c.maxLocals) {rest : List Value} (hs : g.stack = .int n :: .int 0 :: .ref b :: .int 0 :: .ref a :: rest) (hd : decode c.code g.pc = .ok (.invokestatic index, 3))
    (hf : 1 ≤ R.frames) {W : Nat} (hW : 2 * g.monitorRoom + (rest.map fun v => v.category).sum ≤ W) (hlo : W + (nativeFrameWords "java/lang/System" "arraycopy" 5 + 11) ≤ R.locals) :
    ∃ T' h' L, Stand p l e R s m args below meth c T' L cells slots ∧ T'.heap = h' ∧ Fr n0 L ∧ Keep h h' [b] ∧ AryR Z h' b C n u ∧
      ∀ target, Steps p.tables e below (T'.setTop { g with pc := g.pc + 3, stack := rest }) target → Steps p.tables e below (T.setTop g) target := by
  obtain ⟨ca, A1, A2, A3, A4, A5⟩ := A
  obtain ⟨cb, D1, D2, D3, D4, D5⟩ := D
  have t10 : (10 : Int32).toNatClampNeg = 10 := rfl
  have le : n.toNatClampNeg ≤ 10 := by
    have q := (not_congr Int32.lt_iff_toInt_lt).mp hn'
    have r : (10 : Int32).toInt = 10 := rfl
    simp only [Int32.toNatClampNeg]; omega
  have VA : Arv Z h a ca.cls (.object C) 10 ((List.range 10).map u) .null := ⟨ca, A1, rfl, A2, A3, fun k hk => by
    have hk' : k < 10 := by rw [A2] at hk; exact hk
    rw [A5 k (by rw [t10]; exact hk')]; simp [List.getD, hk'], fun i hi => by
    have hi' : i < 10 := by rw [A2] at hi; exact hi
    have : ((List.range 10).map u).getD i .null = u i := by simp [List.getD, hi']
    rw [this]; exact fitsR (hu i)⟩
  have VB : Arv Z h b cb.cls (.object C) n ((List.range n.toNatClampNeg).map w) .null := ⟨cb, D1, rfl, D2, D3, fun k hk => by
    have hk' : k < n.toNatClampNeg := by rw [D2] at hk; exact hk
    rw [D5 k hk']; simp [List.getD, hk'], fun i hi => by
    have hi' : i < n.toNatClampNeg := by rw [D2] at hi; exact hi
    have : ((List.range n.toNatClampNeg).map w).getD i .null = w i := by simp [List.getD, hi']
    rw [this]; exact fitsR (hwr i)⟩
  have z0 : (0 : Int32).toNatClampNeg = 0 := rfl
  have eus : ∀ i, i < n.toNatClampNeg → ((List.range 10).map u).getD ((0 : Int32).toNatClampNeg + i) .null = u i := fun i hi => by
    have hi' : i < 10 := by omega
    simp [List.getD, z0, hi']
  have SL : StoL Z h b ((List.range n.toNatClampNeg).map fun i => ((List.range 10).map u).getD ((0 : Int32).toNatClampNeg + i) .null) := by
    have gen : ∀ L : List Nat, (∀ i ∈ L, i < n.toNatClampNeg) → StoL Z h b (L.map fun i => ((List.range 10).map u).getD ((0 : Int32).toNatClampNeg + i) .null) := by
      intro L
      induction L with
      | nil => intro _; trivial
      | cons i r ih =>
        intro q
        refine ⟨?_, ih fun j hj => q j (List.mem_cons_of_mem _ hj)⟩
        have hi := q i (List.mem_cons_self)
        show Sto Z h b (((List.range 10).map u).getD ((0 : Int32).toNatClampNeg + i) .null)
        rw [eus i hi]
        obtain ⟨y, e1, e2⟩ := hI i hi
        rw [e1]; exact Sto.of D1 D4 e2
    exact gen _ fun i hi => List.mem_range.mp hi
  obtain ⟨T', h', L, X', e', N', K, Q, st⟩ := cpA X hx hZ hown w1 w2 w3 w4 eT VA VB (Or.inr ⟨rfl, rfl, SL⟩) (by decide) (by decide) hn (by rw [z0, t10]; omega) (by rw [z0]; omega) rfl (by rw [z0]; simp) N ge hg hsize hs hd hf hW hlo
  refine ⟨T', h', L, X', e', N', K, ?_, st⟩
  obtain ⟨cq, Q1, Q2, Q3, Q4, Q5, -⟩ := Q
  refine ⟨cq, Q1, Q3, Q4, by rw [Q2]; exact D4, fun i hi => ?_⟩
  have hi' : i < cq.slots.size := by rw [Q3]; exact hi
  rw [Q5 i hi', ← eus i hi]
  simp [List.getD, z0, hi]
theorem Keep.more {a : Addr} (K : Keep h h' ws) : Keep h h' (ws ++ [a]) := ⟨K.1, fun x c q r => K.2.1 x c q fun z => r (List.mem_append_left _ z), K.2.2⟩
theorem AryA.loadE {j : Int32} {rest : List Value} {target : State} (F : AryA Z h a n u) (X : Stand p l e R s m args below meth c T locs cells slots) (hx : p.tables.exec = Jvm.exec) (hZ : Z.Warmed39 s.vm) (eT : T.heap = h) (q : ¬ j < 0 ∧ j < n) (eq : u j.toNatClampNeg = v) (hg : g.method = m) (hs : g.stack = .int j :: .ref a :: rest) (hd : decode c.code g.pc = .ok (.aaload, 1)) (hr : Steps p.tables e below (T.setTop { g with pc := g.pc + 1, stack := v :: rest }) target) : Steps p.tables e below (T.setTop g) target := by
  subst eq; exact F.load X hx hZ eT q hg hs hd hr
/-- an Integer of the cache -/
def BoxAt (Z : State) (ca : Addr) (j : Int32) (bx : Addr) : Prop := ∃ cl : Cell, Arr Z Z.heap ca cl (.object "java/lang/Integer") ∧ ¬ (j < 0 ∨ cl.slots.size ≤ j.toNatClampNeg) ∧ cl.slots[j.toNatClampNeg]? = some (.ref bx)
theorem BoxAt.load {ca bx : Addr} {j : Int32} {rest : List Value} {target : State} (F : BoxAt Z ca j bx) (E : Ext Z.heap h) (X : Stand p l e R s m args below meth c T locs cells slots) (hx : p.tables.exec = Jvm.exec) (hZ : Z.Warmed39 s.vm) (eT : T.heap = h) (hg : g.method = m) (hs : g.stack = .int j :: .ref ca :: rest) (hd : decode c.code g.pc = .ok (.aaload, 1)) (hr : Steps p.tables e below (T.setTop { g with pc := g.pc + 1, stack := .ref bx :: rest }) target) : Steps p.tables e below (T.setTop g) target := by
  obtain ⟨cl, A0, S, H⟩ := F
  have A := A0.ext E
  exact X.aaload hx (by rw [eT]; exact A.1) (State.isArrayOf_alike hZ.alike A.2.1) rfl A.2.2 S H hg hs hd _ hr
/-- an immutable list of n times t -/
def ILs (Z : State) (h : Heap) (B : Nat) (em t q : Addr) (n : Int32) : Prop := (Exa Z h q "java/util/ImmutableCollections$List12" ∧ ((n = 1 ∧ Fld Z h q "java/util/ImmutableCollections$List12" "e1" "Ljava/lang/Object;" (.ref em)) ∨ (n = 2 ∧ Fld Z h q "java/util/ImmutableCollections$List12" "e1" "Ljava/lang/Object;" (.ref t)))) ∨
  ∃ (ar : Addr) (w : Nat → Value), B ≤ ar ∧ Exa Z h q "java/util/ImmutableCollections$ListN" ∧ Fld Z h q "java/util/ImmutableCollections$ListN" "elements" "[Ljava/lang/Object;" (.ref ar) ∧ AryR Z h ar "java/lang/Object" n w
/-- a method of a class above that the receiver's class fills, which leaves the heap -/
theorem pureVU (X : Stand p l e R s m args below meth c T locs cells slots) (hx : p.tables.exec = Jvm.exec) (hZ : Z.Warmed39 s.vm) {own C' owner : String} {index : Nat} {y z : MethodName} {bytes : ByteArray} {maxL : Nat} {ret : Option FieldType} {fr lo : Nat} {as : Array Value} {b : Addr} {w : Option Value}
    (hown : s.vm.findClass own = some m.cls) (w1 : (Cond.methodLink own index y).before a0 Z = true) (ws1 : (Cond.sameMethod y.cls owner y.name y.desc).before a0 Z = true) (w2 : (Cond.declares ⟨owner, y.name, y.desc⟩).before a0 Z = true) (ho : owner ≠ "java/lang/invoke/MethodHandle" ∧ owner ≠ "java/lang/invoke/VarHandle") (w3 : (Cond.selects C' y z).before a0 Z = true) (w4 : (Cond.instanceMethod z).before a0 Z = true) (w5 : (Cond.initialized z.cls).before a0 Z = true) (w6 : (Cond.code z bytes maxL ret).before a0 Z = true)
    (E : Exa Z h b C') (hy : y.cls ≠ "java/lang/invoke/MethodHandle" ∧ y.cls ≠ "java/lang/invoke/VarHandle") (M : Cmet l Z z bytes maxL ret [] ({ frames := fr, cells := 0, slots := 0, locals := lo } : Room) as h (fun v h' L => v = w ∧ h' = h ∧ L = [])) (eT : T.heap = h) {W : Nat} (hf : fr + 1 ≤ R.frames) (hl : W + (maxL + 11) + lo ≤ R.locals) (hc : cells ≤ R.cells) (hs : slots ≤ R.slots)
    (hg : g.method = m) (hsize : g.locals.size = c.maxLocals) {argsL rest : List Value} (has : (Value.ref b :: argsL).toArray = as) (hlen : ∀ sig, parseMethodDescriptor y.desc = some sig → argsL.length = sig.parameters.length)
    (hstack : g.stack = argsL.reverse ++ .ref b :: rest) (hW : 2 * g.monitorRoom + (rest.map fun v => v.category).sum ≤ W) (hdg : decode c.code g.pc = .ok (.invokevirtual index, 3)) :
    ∃ (T' : State), Stand p l e R s m args below meth c T' locs cells slots ∧ T'.heap = h ∧
      ∀ target, Steps p.tables e below (T'.setTop { g with pc := g.pc + 3, stack := w.toList ++ rest }) target → Steps p.tables e below (T.setTop g) target := by
  obtain ⟨cB, kB, q1, q2, q3⟩ := isOf hZ eT E
  obtain ⟨v, vm1, ⟨T', L', c', n'⟩, -, X', ⟨L, ⟨rfl, q, rfl⟩, r1, r2, r3⟩, st⟩ := X.virtualBackUp hx hown (mvT hZ w1) (mvT hZ ws1) (mvT hZ w2) ho (mvT hZ w3) (mvT hZ w4) (backOf (W := W) (Q := fun v h' L => v = w ∧ h' = h ∧ L = []) (rm := ({ frames := fr, cells := 0, slots := 0, locals := lo } : Room)) M hZ w6 w5 hf hl) q1 q3 hg hsize (Steps.refl _) hlen hstack hW hdg (fun _ _ => ⟨has, eT, hc, hs⟩)
  dsimp only [Pt.U, Pt.locs, Pt.cells, Pt.slots] at X' r1 r2 r3 st q
  rw [List.append_nil] at r1
  subst r1 r2 r3
  exact ⟨T', X', q, fun _ k => st.trans k⟩
end Lists
section Fold
variable {p : Program} {l : Launch} {e : Env} {R : Room} {s : State} {m : MethodId} {args : Array Value} {below : List Frame} {meth : Method} {c : Code} {T : State} {locs : List Loc} {cells slots : Nat} {Q : Option Value → Heap → List Loc → Prop} {C S : Nat} {g : JFrame} {bs : ByteArray}
theorem fAN (X : Stand p l e R s m args below meth c T locs cells slots) (hx : p.tables.exec = Jvm.exec) (hby : c.code = bs) {k : Fin 4} {v : Value} (hd : decode bs g.pc = .ok (.aload_n k, 1)) (hg : g.method = m) (hl : g.locals[k.val]? = some (.val v)) (hv : v.isRef = true) (f : Fini p e below s Q C S T { g with pc := g.pc + 1, stack := v :: g.stack }) : Fini p e below s Q C S T g := Fini.st (fun _ k => XS.aloadN X.here hx hg (hb hby hd) hl hv k) f
theorem fA (X : Stand p l e R s m args below meth c T locs cells slots) (hx : p.tables.exec = Jvm.exec) (hby : c.code = bs) {k : Nat} {v : Value} (hd : decode bs g.pc = .ok (.aload k, 2)) (hg : g.method = m) (hl : g.locals[k]? = some (.val v)) (hv : v.isRef = true) (f : Fini p e below s Q C S T { g with pc := g.pc + 2, stack := v :: g.stack }) : Fini p e below s Q C S T g := Fini.st (fun _ k => XS.aload X.here hx hg (hb hby hd) hl hv k) f
theorem fIN (X : Stand p l e R s m args below meth c T locs cells slots) (hx : p.tables.exec = Jvm.exec) (hby : c.code = bs) {k : Fin 4} {v : Int32} (hd : decode bs g.pc = .ok (.iload_n k, 1)) (hg : g.method = m) (hl : g.locals[k.val]? = some (.val (.int v))) (f : Fini p e below s Q C S T { g with pc := g.pc + 1, stack := .int v :: g.stack }) : Fini p e below s Q C S T g := Fini.st (fun _ k => XS.iloadN X.here hx hg (hb hby hd) hl k) f
theorem fI (X : Stand p l e R s m args below meth c T locs cells slots) (hx : p.tables.exec = Jvm.exec) (hby : c.code = bs) {k : Nat} {v : Int32} (hd : decode bs g.pc = .ok (.iload k, 2)) (hg : g.method = m) (hl : g.locals[k]? = some (.val (.int v))) (f : Fini p e below s Q C S T { g with pc := g.pc + 2, stack := .int v :: g.stack }) : Fini p e below s Q C S T g := Fini.st (fun _ k => XS.iload X.here hx hg (hb hby hd) hl k) f
theorem fC (X : Stand p l e R s m args below meth c T locs cells slots) (hx : p.tables.exec = Jvm.exec) (hby : c.code = bs) {i : Int} (hd : decode bs g.pc = .ok (.iconst i, 1)) (hg : g.method = m) (f : Fini p e below s Q C S T { g with pc := g.pc + 1, stack := .int (Int32.ofInt i) :: g.stack }) : Fini p e below s Q C S T g := Fini.st (fun _ k => XS.iconst X.here hx hg (hb hby hd) k) f
end Fold
abbrev kLo : String := "com/example/firm_handshake/firmhandshake/model/Location"
abbrev kMv : String := "com/example/firm_handshake/firmhandshake/model/Location$Move"
abbrev kTr : String := "com/example/firm_handshake/firmhandshake/model/Transition"
abbrev vi (n : Int32) : Slot := .val (.int n)
abbrev vr (a : Addr) : Slot := .val (.ref a)
abbrev su : Slot := .unset
theorem wq {a0 : Array Value} {Z : State} {d : Jvm.Cond} {i : Nat} (hw : ∀ d ∈ tables_1, d.before a0 Z = true) (q : tables_1[i]? = some d) : d.before a0 Z = true := hw d (List.mem_of_getElem? q)
section Own0
variable {Z : State} {a0 : Array Value}
/-- a class whose chain of superclasses ends ahead of K -/
theorem ns_root {O K : String} {n : Nat} (w : (Jvm.Cond.noSuperclass O).before a0 Z = true) (wk : (Jvm.Cond.instantiable K n).before a0 Z = true) (hn : O ≠ K) : NS Z O K := by
 obtain ⟨c, k, h1, h2, h3, -, -⟩ := Cond.noSuperclass_spec w
 obtain ⟨t, kt, g1, -⟩ := Cond.instantiable_spec wk
 have ne := ids_ne h1 g1 hn
 refine ⟨c, t, h1, g1, fun fuel => ?_⟩
 cases fuel with
 | zero => rfl
 | succ f => simp [Vm.isSubclassAux, ne, h2, h3]
theorem ns_no {C S K : String} {n : Nat} (w : (Jvm.Cond.superclass C S).before a0 Z = true) (wk : (Jvm.Cond.instantiable K n).before a0 Z = true) (q : NS Z C K) (hn : C ≠ K) : ∃ c t, Z.vm.findClass C = some c ∧ Z.vm.findClass K = some t ∧ Z.vm.assignable c t = false := by
 obtain ⟨c, t, h0, g0, n3⟩ := q
 obtain ⟨p, k, kp, h1, h2, h3, h4, h5, -, h7⟩ := Cond.superclass_spec h0 w
 obtain ⟨t', kt, g1, g2, g3, g4, -⟩ := Cond.instantiable_spec wk
 cases g0.symm.trans g1
 have ne := ids_ne h0 g0 hn
 have g5 : kt.isInterface = false := (Bool.or_eq_false_iff.mp g4).1
 refine ⟨c, t, h0, g0, ?_⟩
 show Z.vm.assignableAux (255 + 1) c t = false
 simp [Vm.assignableAux, ne, h2, g2, h5, g3, g5, Vm.isSubclass, n3]
end Own0
theorem own_lt10 {i n : Int32} (h : i < n) (q : ¬ (10 : Int32) < n) : i < (10 : Int32) := by
 rw [Int32.lt_iff_toInt_lt] at *; omega
theorem own_ne10 {n : Int32} (h : n < (10 : Int32)) : ¬ n = (10 : Int32) := fun q => absurd (q ▸ h : (10 : Int32) < 10) (by decide)
theorem own_add {a b : Int32} (h1 : ¬ a < 0) (h2 : a < (1000 : Int32)) (h3 : ¬ b < 0) (h4 : b < (1000 : Int32)) : (a + b).toInt = a.toInt + b.toInt := by
 rw [Int32.lt_iff_toInt_lt] at *
 have t0 : (0 : Int32).toInt = 0 := rfl
 have t1 : (1000 : Int32).toInt = 1000 := rfl
 rw [Int32.toInt_add]
 exact Int.bmod_eq_of_le (by omega) (by omega)
theorem own_th {n : Int32} (h : n < (10 : Int32)) : n < (1000 : Int32) := Int32.lt_trans h (by decide)
theorem own_nn1 {n : Int32} (h : ¬ n < 0) (q : n < (10 : Int32)) : ¬ n + (1 : Int32) < 0 := by
 have e := own_add h (own_th q) (b := 1) (by decide) (by decide)
 rw [Int32.lt_iff_toInt_lt] at *
 have t0 : (0 : Int32).toInt = 0 := rfl
 have t1 : (1 : Int32).toInt = 1 := rfl
 omega
theorem own_le10 {n : Int32} (h : ¬ n < 0) (q : n < (10 : Int32)) : ¬ (10 : Int32) < n + (1 : Int32) := by
 have e := own_add h (own_th q) (b := 1) (by decide) (by decide)
 rw [Int32.lt_iff_toInt_lt] at *
 have t0 : (10 : Int32).toInt = 10 := rfl
 have t1 : (1 : Int32).toInt = 1 := rfl
 omega
theorem own_updr {u : Nat → Value} {k : Nat} {y : Addr} (f : ∀ i, (u i).isRef = true) : ∀ i, (upd u k (.ref y) i).isRef = true := fun i => by
 by_cases q : i = k
 ·
  rw [upd_eq q]; rfl
 ·
  rw [upd_ne q]; exact f i
theorem own_c2 {n : Int32} (h : ¬ n < 0) (q : ¬ (2 : Int32) < n) : n = 0 ∨ n = 1 ∨ n = 2 := by
 rw [Int32.lt_iff_toInt_lt] at *
 simp only [← Int32.toInt_inj]
 have t0 : (0 : Int32).toInt = 0 := rfl
 have t1 : (1 : Int32).toInt = 1 := rfl
 have t2 : (2 : Int32).toInt = 2 := rfl
 omega
theorem own_up0 (v : Nat → Int32) : ∀ i, i < (0 : Int32).toNatClampNeg → (fun _ => (0 : Int32)) i = v i := fun i hi => absurd hi (Nat.not_lt_zero i)
theorem own_up1 (v : Nat → Int32) : ∀ i, i < (1 : Int32).toNatClampNeg → upd (fun _ => (0 : Int32)) 0 (v 0) i = v i := fun i hi => by
 have q : i < 1 := hi
 have e : i = 0 := by omega
 subst e; rfl
theorem own_up2 (v : Nat → Int32) : ∀ i, i < (2 : Int32).toNatClampNeg → upd (upd (fun _ => (0 : Int32)) 0 (v 0)) 1 (v 1) i = v i := fun i hi => by
 have q : i < 2 := hi
 have e : i = 0 ∨ i = 1 := by omega
 rcases e with rfl | rfl <;> rfl
theorem own_lt5 {n : Int32} (h : ¬ (5 : Int32) < n) : n < (10 : Int32) := by
 rw [Int32.lt_iff_toInt_lt] at *
 have t0 : (5 : Int32).toInt = 5 := rfl
 have t1 : (10 : Int32).toInt = 10 := rfl
 omega
theorem own_n10 {n : Int32} (h : ¬ (5 : Int32) < n) : ¬ (10 : Int32) < n := fun q => absurd (Int32.lt_trans q (own_lt5 h)) (by decide)
theorem own_cap5 {n : Int32} (h : ¬ (5 : Int32) < n) : n.toNatClampNeg ≤ 5 := by
 rw [Int32.lt_iff_toInt_lt] at *
 have t0 : (5 : Int32).toInt = 5 := rfl
 simp only [Int32.toNatClampNeg]; omega
theorem own_cap3 {n : Int32} (h : ¬ (3 : Int32) < n) : n.toNatClampNeg ≤ 3 := by
 rw [Int32.lt_iff_toInt_lt] at *
 have t0 : (3 : Int32).toInt = 3 := rfl
 simp only [Int32.toNatClampNeg]; omega
theorem own_lt3 {n : Int32} (i : Int32) (h : ¬ n < (3 : Int32)) (hi : i < (3 : Int32)) : i < n := by
 rw [Int32.lt_iff_toInt_lt] at *; omega
theorem own_nn3 {n : Int32} (h : ¬ n < (3 : Int32)) : ¬ n < 0 := fun q => h (Int32.lt_trans q (by decide))
theorem own_n5 {n : Int32} (h : ¬ n < 0) (q : ¬ n = 0) : n = 1 ∨ n = 2 ∨ ¬ n < (3 : Int32) := by
 rw [Int32.lt_iff_toInt_lt] at *
 simp only [← Int32.toInt_inj] at *
 have t0 : (0 : Int32).toInt = 0 := rfl
 have t1 : (1 : Int32).toInt = 1 := rfl
 have t2 : (2 : Int32).toInt = 2 := rfl
 have t3 : (3 : Int32).toInt = 3 := rfl
 omega
theorem own_tsw {n : Int32} (h : ¬ n < (3 : Int32)) : n.toInt < 0 ∨ n.toInt > 2 := by
 rw [Int32.lt_iff_toInt_lt] at h
 have t3 : (3 : Int32).toInt = 3 := rfl
 omega
theorem own_ir (n : Int32) : ¬ n < n := Int32.lt_irrefl

theorem d5_0 : decode jdk_22_method_1_code 0 = .ok (.aload_n 0, 1) := by decide +kernel
theorem d5_1 : decode jdk_22_method_1_code 1 = .ok (.invokespecial 1, 3) := by decide +kernel
theorem d5_4 : decode jdk_22_method_1_code 4 = .ok (.return_, 1) := by decide +kernel
theorem pn_0 : plainName "java/util/AbstractCollection" = true := by first | (simp [plainName, overriddenIn]; done) | decide +kernel
theorem ef5 (m : MethodId) (x0 : Addr) : entryFrame m #[(.ref x0)] 1 = mkF m 0 #[.val (.ref x0)] [] := by first | (simp [entryFrame, mkF, argsToLocals, Value.category]; done) | rfl
set_option maxRecDepth 65536 in
set_option maxHeartbeats 40000000 in
theorem rm5 (l : Launch) (Z : State) (a0 : Array Value) (hw : ∀ d ∈ tables_1, d.before a0 Z = true) (ws : List Jvm.Cond) (o0 : Addr) (h0 : Heap) (n0 : Nat) (Z0 : n0 ≤ h0.size) :
  Cmet l Z (⟨"java/util/AbstractCollection", "<init>", "()V"⟩ : MethodName) jdk_22_method_1_code 1 none ws ({ frames := 1, cells := 0, slots := 0, locals := 12 } : Room) #[(.ref o0)] h0 (fun v h' L => v = none ∧ h' = h0 ∧ L = []) := by
 refine MetFree.of_bodySF (plainFor_of_name pn_0) hisR ?_
 intro p e s m args below meth c s₁ Bd hml0 hP hK
 obtain ⟨rfl, hZ, hh⟩ := hP
 have hx := Bd.exec
 have hlk : meth.locks = false := BodyLoose.notSynchronized Bd
 have hby := Bd.bytes
 have hml : c.maxLocals = 1 := hml0
 have hown : s.vm.findClass "java/util/AbstractCollection" = some m.cls := findClass_of_methodNamed Bd.named
 have hnm := (name_of_methodNamed Bd.named Bd.method).1
 have X0 : Stand p l e ({ frames := 1, cells := 0, slots := 0, locals := 12 } : Room) s m #[(.ref o0)] below meth c s₁ [] 0 0 := Stand.of_body Bd
 have e0 : s₁.heap = h0 := by rw [← hh, Bd.state]; rfl
 have N0 := Fr.nil n0
 show Fini p e below s (fun v h' L => v = none ∧ h' = h0 ∧ L = []) _ _ s₁ (entryFrame m #[(.ref o0)] 1)
 refine Fini.cast (ef5 m o0) ?_
 show Fini _ _ _ _ _ _ _ s₁ (mkF m 0 #[vr o0] [])
 refine fAN X0 hx hby d5_0 rfl rfl rfl ?_
 obtain ⟨T1, X1, e1, st1⟩ := initO X0 hx hZ hown (wq hw (i := 36) rfl) (wq hw (i := 8) rfl) (wq hw (i := 9) rfl) e0 (g := (mkF m 1 #[vr o0] [(.ref o0)])) rfl (by rw [hml]; rfl) rfl (hb hby d5_1) (by decide) (W := 0) (by show 2 * 0 + _ ≤ _; exact Nat.le_of_eq rfl) (by decide)
 refine Fini.st st1 ?_
 show Fini _ _ _ _ _ _ _ T1 (mkF m 4 #[vr o0] [])
 exact Fini.ret0 X1 hx hlk Bd.returns (hb hby d5_4) (by decide) (by decide) ⟨rfl, e1, rfl⟩
theorem pd_0 : parseMethodDescriptor "()V" = some ⟨[], none⟩ := by decide +kernel
theorem d28_0 : decode jdk_47_method_1_code 0 = .ok (.aload_n 0, 1) := by decide +kernel
theorem d28_1 : decode jdk_47_method_1_code 1 = .ok (.invokespecial 1, 3) := by decide +kernel
theorem d28_4 : decode jdk_47_method_1_code 4 = .ok (.return_, 1) := by decide +kernel
theorem pn_1 : plainName "java/util/ImmutableCollections$AbstractImmutableCollection" = true := by first | (simp [plainName, overriddenIn]; done) | decide +kernel
theorem ef28 (m : MethodId) (x0 : Addr) : entryFrame m #[(.ref x0)] 1 = mkF m 0 #[.val (.ref x0)] [] := by first | (simp [entryFrame, mkF, argsToLocals, Value.category]; done) | rfl
set_option maxRecDepth 65536 in
set_option maxHeartbeats 40000000 in
theorem rm28 (l : Launch) (Z : State) (a0 : Array Value) (hw : ∀ d ∈ tables_1, d.before a0 Z = true) (ws : List Jvm.Cond) (o0 : Addr) (h0 : Heap) (n0 : Nat) (Z0 : n0 ≤ h0.size) :
  Cmet l Z (⟨"java/util/ImmutableCollections$AbstractImmutableCollection", "<init>", "()V"⟩ : MethodName) jdk_47_method_1_code 1 none ws ({ frames := 2, cells := 0, slots := 0, locals := 24 } : Room) #[(.ref o0)] h0 (fun v h' L => v = none ∧ h' = h0 ∧ L = []) := by
 refine MetFree.of_bodySF (plainFor_of_name pn_1) hisR ?_
 intro p e s m args below meth c s₁ Bd hml0 hP hK
 obtain ⟨rfl, hZ, hh⟩ := hP
 have hx := Bd.exec
 have hlk : meth.locks = false := BodyLoose.notSynchronized Bd
 have hby := Bd.bytes
 have hml : c.maxLocals = 1 := hml0
 have hown : s.vm.findClass "java/util/ImmutableCollections$AbstractImmutableCollection" = some m.cls := findClass_of_methodNamed Bd.named
 have hnm := (name_of_methodNamed Bd.named Bd.method).1
 have X0 : Stand p l e ({ frames := 2, cells := 0, slots := 0, locals := 24 } : Room) s m #[(.ref o0)] below meth c s₁ [] 0 0 := Stand.of_body Bd
 have e0 : s₁.heap = h0 := by rw [← hh, Bd.state]; rfl
 have N0 := Fr.nil n0
 show Fini p e below s (fun v h' L => v = none ∧ h' = h0 ∧ L = []) _ _ s₁ (entryFrame m #[(.ref o0)] 1)
 refine Fini.cast (ef28 m o0) ?_
 show Fini _ _ _ _ _ _ _ s₁ (mkF m 0 #[vr o0] [])
 refine fAN X0 hx hby d28_0 rfl rfl rfl ?_
 obtain ⟨v1, T1, L1, X1, hQ1, st1⟩ := callNew X0 hx hZ hown rfl (wq hw (i := 214) rfl) (wq hw (i := 31) rfl) (wq hw (i := 34) rfl) (wq hw (i := 35) rfl) (by decide) (rm5 l Z a0 hw [] o0 h0 n0 Z0) e0 (W := 0) (by decide) (by decide) (by decide) (by decide) (g := (mkF m 1 #[vr o0] [(.ref o0)])) rfl (by rw [hml]; rfl) (argsL := []) (rest := []) rfl (lenOf pd_0 rfl) rfl (by show 2 * 0 + _ ≤ _; exact Nat.le_of_eq rfl) (hb hby d28_1)
 obtain ⟨rfl, hh1, rfl⟩ := hQ1
 have K1 : Keep h0 T1.heap [] := by rw [hh1]; exact Keep.refl _ _
 have Nq1 := Fr.nil n0
 have N1 := Fr.app N0 Nq1
 refine Fini.st st1 ?_
 show Fini _ _ _ _ _ _ _ T1 (mkF m 4 #[vr o0] [])
 exact Fini.ret0 X1 hx hlk Bd.returns (hb hby d28_4) (by decide) (by decide) ⟨rfl, hh1, rfl⟩
theorem d27_0 : decode jdk_46_method_1_code 0 = .ok (.aload_n 0, 1) := by decide +kernel
theorem d27_1 : decode jdk_46_method_1_code 1 = .ok (.invokespecial 1, 3) := by decide +kernel
theorem d27_4 : decode jdk_46_method_1_code 4 = .ok (.return_, 1) := by decide +kernel
theorem pn_2 : plainName "java/util/ImmutableCollections$AbstractImmutableList" = true := by first | (simp [plainName, overriddenIn]; done) | decide +kernel
theorem ef27 (m : MethodId) (x0 : Addr) : entryFrame m #[(.ref x0)] 1 = mkF m 0 #[.val (.ref x0)] [] := by first | (simp [entryFrame, mkF, argsToLocals, Value.category]; done) | rfl
set_option maxRecDepth 65536 in
set_option maxHeartbeats 40000000 in
theorem rm27 (l : Launch) (Z : State) (a0 : Array Value) (hw : ∀ d ∈ tables_1, d.before a0 Z = true) (ws : List Jvm.Cond) (o0 : Addr) (h0 : Heap) (n0 : Nat) (Z0 : n0 ≤ h0.size) :
  Cmet l Z (⟨"java/util/ImmutableCollections$AbstractImmutableList", "<init>", "()V"⟩ : MethodName) jdk_46_method_1_code 1 none ws ({ frames := 3, cells := 0, slots := 0, locals := 36 } : Room) #[(.ref o0)] h0 (fun v h' L => v = none ∧ h' = h0 ∧ L = []) := by
 refine MetFree.of_bodySF (plainFor_of_name pn_2) hisR ?_
 intro p e s m args below meth c s₁ Bd hml0 hP hK
 obtain ⟨rfl, hZ, hh⟩ := hP
 have hx := Bd.exec
 have hlk : meth.locks = false := BodyLoose.notSynchronized Bd
 have hby := Bd.bytes
 have hml : c.maxLocals = 1 := hml0
 have hown : s.vm.findClass "java/util/ImmutableCollections$AbstractImmutableList" = some m.cls := findClass_of_methodNamed Bd.named
 have hnm := (name_of_methodNamed Bd.named Bd.method).1
 have X0 : Stand p l e ({ frames := 3, cells := 0, slots := 0, locals := 36 } : Room) s m #[(.ref o0)] below meth c s₁ [] 0 0 := Stand.of_body Bd
 have e0 : s₁.heap = h0 := by rw [← hh, Bd.state]; rfl
 have N0 := Fr.nil n0
 show Fini p e below s (fun v h' L => v = none ∧ h' = h0 ∧ L = []) _ _ s₁ (entryFrame m #[(.ref o0)] 1)
 refine Fini.cast (ef27 m o0) ?_
 show Fini _ _ _ _ _ _ _ s₁ (mkF m 0 #[vr o0] [])
 refine fAN X0 hx hby d27_0 rfl rfl rfl ?_
 obtain ⟨v1, T1, L1, X1, hQ1, st1⟩ := callNew X0 hx hZ hown rfl (wq hw (i := 208) rfl) (wq hw (i := 209) rfl) (wq hw (i := 212) rfl) (wq hw (i := 213) rfl) (by decide) (rm28 l Z a0 hw [] o0 h0 n0 Z0) e0 (W := 0) (by decide) (by decide) (by decide) (by decide) (g := (mkF m 1 #[vr o0] [(.ref o0)])) rfl (by rw [hml]; rfl) (argsL := []) (rest := []) rfl (lenOf pd_0 rfl) rfl (by show 2 * 0 + _ ≤ _; exact Nat.le_of_eq rfl) (hb hby d27_1)
 obtain ⟨rfl, hh1, rfl⟩ := hQ1
 have K1 : Keep h0 T1.heap [] := by rw [hh1]; exact Keep.refl _ _
 have Nq1 := Fr.nil n0
 have N1 := Fr.app N0 Nq1
 refine Fini.st st1 ?_
 show Fini _ _ _ _ _ _ _ T1 (mkF m 4 #[vr o0] [])
 exact Fini.ret0 X1 hx hlk Bd.returns (hb hby d27_4) (by decide) (by decide) ⟨rfl, hh1, rfl⟩
theorem d4_0 : decode jdk_39_method_1_code 0 = .ok (.aload_n 0, 1) := by decide +kernel
theorem d4_1 : decode jdk_39_method_1_code 1 = .ok (.invokespecial 1, 3) := by decide +kernel
theorem d4_4 : decode jdk_39_method_1_code 4 = .ok (.aload_n 0, 1) := by decide +kernel
theorem d4_5 : decode jdk_39_method_1_code 5 = .ok (.iconst 0, 1) := by decide +kernel
theorem d4_6 : decode jdk_39_method_1_code 6 = .ok (.putfield 7, 3) := by decide +kernel
theorem d4_9 : decode jdk_39_method_1_code 9 = .ok (.return_, 1) := by decide +kernel
theorem pn_3 : plainName "java/util/AbstractList" = true := by first | (simp [plainName, overriddenIn]; done) | decide +kernel
theorem ef4 (m : MethodId) (x0 : Addr) : entryFrame m #[(.ref x0)] 1 = mkF m 0 #[.val (.ref x0)] [] := by first | (simp [entryFrame, mkF, argsToLocals, Value.category]; done) | rfl
set_option maxRecDepth 65536 in
set_option maxHeartbeats 40000000 in
theorem rm4 (l : Launch) (Z : State) (a0 : Array Value) (hw : ∀ d ∈ tables_1, d.before a0 Z = true) (ws : List Jvm.Cond) (o0 : Addr) (mc : Int32) (sz : Int32) (h0 : Heap) (n0 : Nat) (Z0 : n0 ≤ h0.size) (E_o0 : Exa Z h0 o0 "java/util/ArrayList") (F_mod : Fld Z h0 o0 "java/util/AbstractList" "modCount" "I" (.int mc)) (F_sz : Fld Z h0 o0 "java/util/ArrayList" "size" "I" (.int sz)) (F_el : Fld Z h0 o0 "java/util/ArrayList" "elementData" "[Ljava/lang/Object;" .null) (g0 : n0 ≤ o0) :
  Cmet l Z (⟨"java/util/AbstractList", "<init>", "()V"⟩ : MethodName) jdk_39_method_1_code 1 none ws ({ frames := 2, cells := 0, slots := 0, locals := 24 } : Room) #[(.ref o0)] h0 (fun v h' L => v = none ∧ Fr n0 L ∧ Keep h0 h' [o0] ∧ Fld Z h' o0 "java/util/AbstractList" "modCount" "I" (.int (0 : Int32)) ∧ Fld Z h' o0 "java/util/ArrayList" "size" "I" (.int sz) ∧ Fld Z h' o0 "java/util/ArrayList" "elementData" "[Ljava/lang/Object;" .null) := by
 refine MetFree.of_bodySF (plainFor_of_name pn_3) hisR ?_
 intro p e s m args below meth c s₁ Bd hml0 hP hK
 obtain ⟨rfl, hZ, hh⟩ := hP
 have hx := Bd.exec
 have hlk : meth.locks = false := BodyLoose.notSynchronized Bd
 have hby := Bd.bytes
 have hml : c.maxLocals = 1 := hml0
 have hown : s.vm.findClass "java/util/AbstractList" = some m.cls := findClass_of_methodNamed Bd.named
 have hnm := (name_of_methodNamed Bd.named Bd.method).1
 have X0 : Stand p l e ({ frames := 2, cells := 0, slots := 0, locals := 24 } : Room) s m #[(.ref o0)] below meth c s₁ [] 0 0 := Stand.of_body Bd
 have e0 : s₁.heap = h0 := by rw [← hh, Bd.state]; rfl
 have N0 := Fr.nil n0
 show Fini p e below s (fun v h' L => v = none ∧ Fr n0 L ∧ Keep h0 h' [o0] ∧ Fld Z h' o0 "java/util/AbstractList" "modCount" "I" (.int (0 : Int32)) ∧ Fld Z h' o0 "java/util/ArrayList" "size" "I" (.int sz) ∧ Fld Z h' o0 "java/util/ArrayList" "elementData" "[Ljava/lang/Object;" .null) _ _ s₁ (entryFrame m #[(.ref o0)] 1)
 refine Fini.cast (ef4 m o0) ?_
 show Fini _ _ _ _ _ _ _ s₁ (mkF m 0 #[vr o0] [])
 refine fAN X0 hx hby d4_0 rfl rfl rfl ?_
 obtain ⟨v1, T1, L1, X1, hQ1, st1⟩ := callNew X0 hx hZ hown rfl (wq hw (i := 30) rfl) (wq hw (i := 31) rfl) (wq hw (i := 34) rfl) (wq hw (i := 35) rfl) (by decide) (rm5 l Z a0 hw [] o0 h0 n0 Z0) e0 (W := 0) (by decide) (by decide) (by decide) (by decide) (g := (mkF m 1 #[vr o0] [(.ref o0)])) rfl (by rw [hml]; rfl) (argsL := []) (rest := []) rfl (lenOf pd_0 rfl) rfl (by show 2 * 0 + _ ≤ _; exact Nat.le_of_eq rfl) (hb hby d4_1)
 obtain ⟨rfl, hh1, rfl⟩ := hQ1
 have K1 : Keep h0 T1.heap [] := by rw [hh1]; exact Keep.refl _ _
 have Nq1 := Fr.nil n0
 have N1 := Fr.app N0 Nq1
 refine Fini.st st1 ?_
 show Fini _ _ _ _ _ _ _ T1 (mkF m 4 #[vr o0] [])
 refine fAN X1 hx hby d4_4 rfl rfl rfl ?_
 refine fC X1 hx hby d4_5 rfl ?_
 have F_3 : Fld Z T1.heap o0 "java/util/AbstractList" "modCount" "I" (.int mc) := (F_mod.keep K1 nin0)
 have Ex_4 : Exa Z T1.heap o0 "java/util/ArrayList" := (E_o0.keep K1)
 obtain ⟨T2, h2, X2, e2, W2, st2⟩ := putF X1 hx hZ hown (host := "") (Or.inl (wq hw (i := 37) rfl)) Via.refl rfl F_3 Ex_4 (Or.inl (wq hw (i := 38) rfl)) (wq hw (i := 19) rfl) (ty := .int) (by decide) rfl rfl (g := (mkF m 6 #[vr o0] [(.int (0 : Int32)), (.ref o0)])) rfl rfl (hb hby d4_6)
 have Fw2 : Fld Z h2 o0 "java/util/AbstractList" "modCount" "I" (.int (0 : Int32)) := F_3.same W2
 refine Fini.st st2 ?_
 have N2 := Fr.snoc X2 N1 g0
 have Kp_5 : Keep h0 h2 [o0] := (Keep.wr (Keep.trans (Keep.refl h0 [o0]) K1 all0) W2 (Or.inl (List.mem_of_getElem? (i := 0) rfl)))
 have F_6 : Fld Z h2 o0 "java/util/ArrayList" "size" "I" (.int sz) := ((F_sz.keep K1 nin0).other W2 (Or.inr (slot_ne (Or.inl (wq hw (i := 61) rfl)) (Or.inl (wq hw (i := 38) rfl)) (by decide) (t := .int) (t' := .int) (by decide) (by decide))))
 have F_7 : Fld Z h2 o0 "java/util/ArrayList" "elementData" "[Ljava/lang/Object;" .null := ((F_el.keep K1 nin0).other W2 (Or.inr (slot_ne (Or.inl (wq hw (i := 41) rfl)) (Or.inl (wq hw (i := 38) rfl)) (by decide) (t := (.array (.object "java/lang/Object"))) (t' := .int) (by decide) (by decide))))
 exact Fini.ret0 X2 hx hlk Bd.returns (hb hby d4_9) (by decide) (by decide) ⟨rfl, N2, (by rw [e2]; exact Kp_5), (by rw [e2]; exact Fw2), (by rw [e2]; exact F_6), (by rw [e2]; exact F_7)⟩
theorem d3_0 : decode jdk_38_method_2_code 0 = .ok (.aload_n 0, 1) := by decide +kernel
theorem d3_1 : decode jdk_38_method_2_code 1 = .ok (.invokespecial 1, 3) := by decide +kernel
theorem d3_4 : decode jdk_38_method_2_code 4 = .ok (.aload_n 0, 1) := by decide +kernel
theorem d3_5 : decode jdk_38_method_2_code 5 = .ok (.getstatic 39, 3) := by decide +kernel
theorem d3_8 : decode jdk_38_method_2_code 8 = .ok (.putfield 9, 3) := by decide +kernel
theorem d3_11 : decode jdk_38_method_2_code 11 = .ok (.return_, 1) := by decide +kernel
theorem pn_4 : plainName "java/util/ArrayList" = true := by first | (simp [plainName, overriddenIn]; done) | decide +kernel
theorem ef3 (m : MethodId) (x0 : Addr) : entryFrame m #[(.ref x0)] 1 = mkF m 0 #[.val (.ref x0)] [] := by first | (simp [entryFrame, mkF, argsToLocals, Value.category]; done) | rfl
set_option maxRecDepth 65536 in
set_option maxHeartbeats 40000000 in
theorem rm3 (l : Launch) (Z : State) (a0 : Array Value) (hw : ∀ d ∈ tables_1, d.before a0 Z = true) (ws : List Jvm.Cond) (o0 : Addr) (dd : Addr) (B : Nat) (mc : Int32) (h0 : Heap) (n0 : Nat) (Z0 : n0 ≤ h0.size) (E_o0 : Exa Z h0 o0 "java/util/ArrayList") (F_mod : Fld Z h0 o0 "java/util/AbstractList" "modCount" "I" (.int mc)) (F_sz : Fld Z h0 o0 "java/util/ArrayList" "size" "I" (.int (0 : Int32))) (F_el : Fld Z h0 o0 "java/util/ArrayList" "elementData" "[Ljava/lang/Object;" .null) (D0 : Old Z n0 h0) (S_dd : Sta Z Z.heap "java/util/ArrayList" "DEFAULTCAPACITY_EMPTY_ELEMENTDATA" "[Ljava/lang/Object;" (.ref dd)) (A_dd : AryQ Z Z.heap dd (0 : Int32)) (g0 : n0 ≤ o0) :
  Cmet l Z (⟨"java/util/ArrayList", "<init>", "()V"⟩ : MethodName) jdk_38_method_2_code 1 none ws ({ frames := 3, cells := 0, slots := 0, locals := 36 } : Room) #[(.ref o0)] h0 (fun v h' L => v = none ∧ Fr n0 L ∧ Keep h0 h' [o0] ∧ ALs Z B dd h' o0 dd (0 : Int32) (fun _ => .null)) := by
 refine MetFree.of_bodySF (plainFor_of_name pn_4) hisR ?_
 intro p e s m args below meth c s₁ Bd hml0 hP hK
 obtain ⟨rfl, hZ, hh⟩ := hP
 have hx := Bd.exec
 have hlk : meth.locks = false := BodyLoose.notSynchronized Bd
 have hby := Bd.bytes
 have hml : c.maxLocals = 1 := hml0
 have hown : s.vm.findClass "java/util/ArrayList" = some m.cls := findClass_of_methodNamed Bd.named
 have hnm := (name_of_methodNamed Bd.named Bd.method).1
 have X0 : Stand p l e ({ frames := 3, cells := 0, slots := 0, locals := 36 } : Room) s m #[(.ref o0)] below meth c s₁ [] 0 0 := Stand.of_body Bd
 have e0 : s₁.heap = h0 := by rw [← hh, Bd.state]; rfl
 have N0 := Fr.nil n0
 show Fini p e below s (fun v h' L => v = none ∧ Fr n0 L ∧ Keep h0 h' [o0] ∧ ALs Z B dd h' o0 dd (0 : Int32) (fun _ => .null)) _ _ s₁ (entryFrame m #[(.ref o0)] 1)
 refine Fini.cast (ef3 m o0) ?_
 show Fini _ _ _ _ _ _ _ s₁ (mkF m 0 #[vr o0] [])
 refine fAN X0 hx hby d3_0 rfl rfl rfl ?_
 obtain ⟨v1, T1, L1, X1, hQ1, st1⟩ := callNew X0 hx hZ hown rfl (wq hw (i := 24) rfl) (wq hw (i := 25) rfl) (wq hw (i := 28) rfl) (wq hw (i := 29) rfl) (by decide) (rm4 l Z a0 hw [] o0 mc (0 : Int32) h0 n0 Z0 E_o0 F_mod F_sz F_el g0) e0 (W := 0) (by decide) (by decide) (by decide) (by decide) (g := (mkF m 1 #[vr o0] [(.ref o0)])) rfl (by rw [hml]; rfl) (argsL := []) (rest := []) rfl (lenOf pd_0 rfl) rfl (by show 2 * 0 + _ ≤ _; exact Nat.le_of_eq rfl) (hb hby d3_1)
 obtain ⟨rfl, Nq1, K1, Fm1, Fs1, Fe1⟩ := hQ1
 have N1 := Fr.app N0 Nq1
 refine Fini.st st1 ?_
 show Fini _ _ _ _ _ _ _ T1 (mkF m 4 #[vr o0] [])
 refine fAN X1 hx hby d3_4 rfl rfl rfl ?_
 show Fini _ _ _ _ _ _ _ T1 (mkF m 5 #[vr o0] [(.ref o0)])
 have Od_3 : Old Z n0 T1.heap := (Old.keep D0 K1 (allS (P := fun x => n0 ≤ x) g0 all0))
 obtain ⟨T2, X2, e2, st2⟩ := getS2 X1 hx hZ hown (host := "") (Or.inl (wq hw (i := 39) rfl)) Via.refl rfl (Sta.ext Od_3.2 S_dd) (g := (mkF m 5 #[vr o0] [(.ref o0)])) rfl (hb hby d3_5)
 refine Fini.st st2 ?_
 show Fini _ _ _ _ _ _ _ T2 (mkF m 8 #[vr o0] [(.ref dd), (.ref o0)])
 have Ex_5 : Exa Z T1.heap o0 "java/util/ArrayList" := (E_o0.keep K1)
 obtain ⟨T4, h4, X4, e4, W4, st4⟩ := putF X2 hx hZ hown (host := "") (Or.inl (wq hw (i := 40) rfl)) Via.refl e2 Fe1 Ex_5 (Or.inl (wq hw (i := 41) rfl)) (wq hw (i := 19) rfl) (ty := (.array (.object "java/lang/Object"))) (by decide) rfl rfl (g := (mkF m 8 #[vr o0] [(.ref dd), (.ref o0)])) rfl rfl (hb hby d3_8)
 have Fw4 : Fld Z h4 o0 "java/util/ArrayList" "elementData" "[Ljava/lang/Object;" (.ref dd) := Fe1.same W4
 refine Fini.st st4 ?_
 have N4 := Fr.snoc X4 N1 g0
 have Od_6 : Old Z n0 h4 := (Old.wr Od_3 W4 g0)
 have An_7 : AryQ Z h4 dd (0 : Int32) := (A_dd.ext Od_6.2)
 have Ex_8 : Exa Z h4 o0 "java/util/ArrayList" := (Ex_5.wr W4)
 have F_9 : Fld Z h4 o0 "java/util/AbstractList" "modCount" "I" (.int (0 : Int32)) := (Fm1.other W4 (Or.inr (slot_ne (Or.inl (wq hw (i := 38) rfl)) (Or.inl (wq hw (i := 41) rfl)) (by decide) (t := .int) (t' := (.array (.object "java/lang/Object"))) (by decide) (by decide))))
 have F_10 : Fld Z h4 o0 "java/util/ArrayList" "size" "I" (.int (0 : Int32)) := (Fs1.other W4 (Or.inr (slot_ne (Or.inl (wq hw (i := 61) rfl)) (Or.inl (wq hw (i := 41) rfl)) (by decide) (t := .int) (t' := (.array (.object "java/lang/Object"))) (by decide) (by decide))))
 have Alq : ALs Z B dd h4 o0 dd (0 : Int32) (fun _ => .null) := ⟨Ex_8, ⟨_, F_9⟩, Fw4, F_10, Ne.symm (Old.ne Od_6 A_dd.lt g0), fun _ => rfl, Or.inl ⟨rfl, rfl, rfl, An_7⟩⟩
 have Kp_11 : Keep h0 h4 [o0] := (Keep.wr (Keep.trans (Keep.refl h0 [o0]) K1 (allS (P := fun x => x ∈ _ ∨ _ ≤ x) (Or.inl (List.mem_of_getElem? (i := 0) rfl)) all0)) W4 (Or.inl (List.mem_of_getElem? (i := 0) rfl)))
 exact Fini.ret0 X4 hx hlk Bd.returns (hb hby d3_11) (by decide) (by decide) ⟨rfl, N4, (by rw [e4]; exact Kp_11), (by rw [e4]; exact Alq)⟩
theorem d7_0 : decode jdk_38_method_8_code 0 = .ok (.aload_n 0, 1) := by decide +kernel
theorem d7_1 : decode jdk_38_method_8_code 1 = .ok (.getfield 48, 3) := by decide +kernel
theorem d7_4 : decode jdk_38_method_8_code 4 = .ok (.ireturn, 1) := by decide +kernel
theorem ef7 (m : MethodId) (x0 : Addr) : entryFrame m #[(.ref x0)] 1 = mkF m 0 #[.val (.ref x0)] [] := by first | (simp [entryFrame, mkF, argsToLocals, Value.category]; done) | rfl
def f7 (x : Int32) : Int32 := x
set_option maxRecDepth 65536 in
set_option maxHeartbeats 40000000 in
theorem rm7 (l : Launch) (Z : State) (a0 : Array Value) (hw : ∀ d ∈ tables_1, d.before a0 Z = true) (ws : List Jvm.Cond) (o0 : Addr) (x : Int32) (h0 : Heap) (F_x : Fld Z h0 o0 "java/util/ArrayList" "size" "I" (.int x)) :
  Cmet l Z (⟨"java/util/ArrayList", "size", "()I"⟩ : MethodName) jdk_38_method_8_code 1 (some .int) ws ({ frames := 0, cells := 0, slots := 0, locals := 0 } : Room) #[(.ref o0)] h0 (fun v h' L => v = some (.int (f7 x)) ∧ h' = h0 ∧ L = []) := by
 refine MetFree.of_bodySF (plainFor_of_name pn_4) hisR ?_
 intro p e s m args below meth c s₁ Bd hml0 hP hK
 obtain ⟨rfl, hZ, hh⟩ := hP
 have hx := Bd.exec
 have hlk : meth.locks = false := BodyLoose.notSynchronized Bd
 have hby := Bd.bytes
 have hml : c.maxLocals = 1 := hml0
 have hown : s.vm.findClass "java/util/ArrayList" = some m.cls := findClass_of_methodNamed Bd.named
 have hnm := (name_of_methodNamed Bd.named Bd.method).1
 have X0 : Stand p l e ({ frames := 0, cells := 0, slots := 0, locals := 0 } : Room) s m #[(.ref o0)] below meth c s₁ [] 0 0 := Stand.of_body Bd
 have e0 : s₁.heap = h0 := by rw [← hh, Bd.state]; rfl
 have hv0 : f7 x = f7 x := rfl
 show Fini p e below s (fun v h' L => v = some (.int (f7 x)) ∧ h' = h0 ∧ L = []) _ _ s₁ (entryFrame m #[(.ref o0)] 1)
 refine Fini.cast (ef7 m o0) ?_
 show Fini _ _ _ _ _ _ _ s₁ (mkF m 0 #[vr o0] [])
 refine fAN X0 hx hby d7_0 rfl rfl rfl ?_
 obtain ⟨T1, X1, e1, st1⟩ := getF X0 hx hZ hown (host := "") (Or.inl (wq hw (i := 60) rfl)) Via.refl e0 F_x (g := (mkF m 1 #[vr o0] [(.ref o0)])) rfl rfl (hb hby d7_1)
 refine Fini.st st1 ?_
 exact Fini.retI X1 hx hlk Bd.returns (hb hby d7_4) (by decide) (by decide) ⟨congrArg (fun z => some (Value.int z)) hv0.symm, e1, rfl⟩
theorem c7 (l : Launch) (Z : State) (a0 : Array Value) (hw : ∀ d ∈ tables_1, d.before a0 Z = true) (h0 : Heap) {B : Nat} {dd a x : Addr} {n : Int32} {u : Nat → Value} (A : ALs Z B dd h0 a x n u) : Cmet l Z (⟨"java/util/ArrayList", "size", "()I"⟩ : MethodName) jdk_38_method_8_code 1 (some .int) [] ({ frames := 0, cells := 0, slots := 0, locals := 0 } : Room) #[.ref a] h0 (fun v h' L => v = some (.int n) ∧ h' = h0 ∧ L = []) := rm7 l Z a0 hw [] a n h0 A.2.2.2.1
theorem d20_0 : decode jdk_38_method_9_code 0 = .ok (.aload_n 0, 1) := by decide +kernel
theorem d20_1 : decode jdk_38_method_9_code 1 = .ok (.getfield 48, 3) := by decide +kernel
theorem d20_4 : decode jdk_38_method_9_code 4 = .ok (.ifCond .ne 7, 3) := by decide +kernel
theorem d20_7 : decode jdk_38_method_9_code 7 = .ok (.iconst 1, 1) := by decide +kernel
theorem d20_8 : decode jdk_38_method_9_code 8 = .ok (.goto 4, 3) := by decide +kernel
theorem d20_12 : decode jdk_38_method_9_code 12 = .ok (.ireturn, 1) := by decide +kernel
theorem ef20e (m : MethodId) (x0 : Addr) : entryFrame m #[(.ref x0)] 1 = mkF m 0 #[.val (.ref x0)] [] := by first | (simp [entryFrame, mkF, argsToLocals, Value.category]; done) | rfl
def f20e  : Int32 := (1 : Int32)
set_option maxRecDepth 65536 in
set_option maxHeartbeats 40000000 in
theorem rm20e (l : Launch) (Z : State) (a0 : Array Value) (hw : ∀ d ∈ tables_1, d.before a0 Z = true) (ws : List Jvm.Cond) (o0 : Addr) (h0 : Heap) (F_x : Fld Z h0 o0 "java/util/ArrayList" "size" "I" (.int (0 : Int32))) :
  Cmet l Z (⟨"java/util/ArrayList", "isEmpty", "()Z"⟩ : MethodName) jdk_38_method_9_code 1 (some .boolean) ws ({ frames := 0, cells := 0, slots := 0, locals := 0 } : Room) #[(.ref o0)] h0 (fun v h' L => v = some (.int (f20e )) ∧ h' = h0 ∧ L = []) := by
 refine MetFree.of_bodySF (plainFor_of_name pn_4) hisR ?_
 intro p e s m args below meth c s₁ Bd hml0 hP hK
 obtain ⟨rfl, hZ, hh⟩ := hP
 have hx := Bd.exec
 have hlk : meth.locks = false := BodyLoose.notSynchronized Bd
 have hby := Bd.bytes
 have hml : c.maxLocals = 1 := hml0
 have hown : s.vm.findClass "java/util/ArrayList" = some m.cls := findClass_of_methodNamed Bd.named
 have hnm := (name_of_methodNamed Bd.named Bd.method).1
 have X0 : Stand p l e ({ frames := 0, cells := 0, slots := 0, locals := 0 } : Room) s m #[(.ref o0)] below meth c s₁ [] 0 0 := Stand.of_body Bd
 have e0 : s₁.heap = h0 := by rw [← hh, Bd.state]; rfl
 have hv0 : f20e  = f20e  := rfl
 show Fini p e below s (fun v h' L => v = some (.int (f20e )) ∧ h' = h0 ∧ L = []) _ _ s₁ (entryFrame m #[(.ref o0)] 1)
 refine Fini.cast (ef20e m o0) ?_
 show Fini _ _ _ _ _ _ _ s₁ (mkF m 0 #[vr o0] [])
 refine fAN X0 hx hby d20_0 rfl rfl rfl ?_
 obtain ⟨T1, X1, e1, st1⟩ := getF X0 hx hZ hown (host := "") (Or.inl (wq hw (i := 60) rfl)) Via.refl e0 F_x (g := (mkF m 1 #[vr o0] [(.ref o0)])) rfl rfl (hb hby d20_1)
 refine Fini.st st1 ?_
 show Fini _ _ _ _ _ _ _ T1 (mkF m 4 #[vr o0] [(.int (0 : Int32))])
 refine Fini.st (fun _ k => XS.ifNo X1.here hx rfl (hb hby d20_4) rfl (XT.i0_ne_f (by decide : (0 : Int32) = (0 : Int32))) k) ?_
 refine fC X1 hx hby d20_7 rfl ?_
 refine Fini.st (fun _ k => XS.goto X1.here hx rfl (pc0 := 8) (pc' := 12) rfl (hb hby d20_8) (by decide) (by decide) k) ?_
 exact Fini.retN X1 hx hlk (t := .boolean) Bd.returns (by simp) (hb hby d20_12) nb1 (by decide) (by decide) ⟨congrArg (fun z => some (Value.int z)) hv0.symm, e1, rfl⟩
theorem d20_11 : decode jdk_38_method_9_code 11 = .ok (.iconst 0, 1) := by decide +kernel
theorem ef20n (m : MethodId) (x0 : Addr) : entryFrame m #[(.ref x0)] 1 = mkF m 0 #[.val (.ref x0)] [] := by first | (simp [entryFrame, mkF, argsToLocals, Value.category]; done) | rfl
def f20n (x : Int32) : Int32 := (0 : Int32)
set_option maxRecDepth 65536 in
set_option maxHeartbeats 40000000 in
theorem rm20n (l : Launch) (Z : State) (a0 : Array Value) (hw : ∀ d ∈ tables_1, d.before a0 Z = true) (ws : List Jvm.Cond) (o0 : Addr) (x : Int32) (h0 : Heap) (F_x : Fld Z h0 o0 "java/util/ArrayList" "size" "I" (.int x)) (hx0 : ¬ x = (0 : Int32)) :
  Cmet l Z (⟨"java/util/ArrayList", "isEmpty", "()Z"⟩ : MethodName) jdk_38_method_9_code 1 (some .boolean) ws ({ frames := 0, cells := 0, slots := 0, locals := 0 } : Room) #[(.ref o0)] h0 (fun v h' L => v = some (.int (f20n x)) ∧ h' = h0 ∧ L = []) := by
 refine MetFree.of_bodySF (plainFor_of_name pn_4) hisR ?_
 intro p e s m args below meth c s₁ Bd hml0 hP hK
 obtain ⟨rfl, hZ, hh⟩ := hP
 have hx := Bd.exec
 have hlk : meth.locks = false := BodyLoose.notSynchronized Bd
 have hby := Bd.bytes
 have hml : c.maxLocals = 1 := hml0
 have hown : s.vm.findClass "java/util/ArrayList" = some m.cls := findClass_of_methodNamed Bd.named
 have hnm := (name_of_methodNamed Bd.named Bd.method).1
 have X0 : Stand p l e ({ frames := 0, cells := 0, slots := 0, locals := 0 } : Room) s m #[(.ref o0)] below meth c s₁ [] 0 0 := Stand.of_body Bd
 have e0 : s₁.heap = h0 := by rw [← hh, Bd.state]; rfl
 have hv0 : f20n x = f20n x := rfl
 show Fini p e below s (fun v h' L => v = some (.int (f20n x)) ∧ h' = h0 ∧ L = []) _ _ s₁ (entryFrame m #[(.ref o0)] 1)
 refine Fini.cast (ef20n m o0) ?_
 show Fini _ _ _ _ _ _ _ s₁ (mkF m 0 #[vr o0] [])
 refine fAN X0 hx hby d20_0 rfl rfl rfl ?_
 obtain ⟨T1, X1, e1, st1⟩ := getF X0 hx hZ hown (host := "") (Or.inl (wq hw (i := 60) rfl)) Via.refl e0 F_x (g := (mkF m 1 #[vr o0] [(.ref o0)])) rfl rfl (hb hby d20_1)
 refine Fini.st st1 ?_
 show Fini _ _ _ _ _ _ _ T1 (mkF m 4 #[vr o0] [(.int x)])
 refine Fini.st (fun _ k => XS.ifYes X1.here hx rfl (pc0 := 4) (pc' := 11) rfl (hb hby d20_4) rfl (XT.i0_ne_t hx0) (by decide) (by decide) k) ?_
 refine fC X1 hx hby d20_11 rfl ?_
 exact Fini.retN X1 hx hlk (t := .boolean) Bd.returns (by simp) (hb hby d20_12) nb0 (by decide) (by decide) ⟨congrArg (fun z => some (Value.int z)) hv0.symm, e1, rfl⟩
theorem d16_0 : decode jdk_41_method_11_code 0 = .ok (.iload_n 0, 1) := by decide +kernel
theorem d16_1 : decode jdk_41_method_11_code 1 = .ok (.ifCond .lt 8, 3) := by decide +kernel
theorem d16_4 : decode jdk_41_method_11_code 4 = .ok (.iload_n 0, 1) := by decide +kernel
theorem d16_5 : decode jdk_41_method_11_code 5 = .ok (.iload_n 1, 1) := by decide +kernel
theorem d16_6 : decode jdk_41_method_11_code 6 = .ok (.if_icmp .lt 10, 3) := by decide +kernel
theorem d16_16 : decode jdk_41_method_11_code 16 = .ok (.iload_n 0, 1) := by decide +kernel
theorem d16_17 : decode jdk_41_method_11_code 17 = .ok (.ireturn, 1) := by decide +kernel
theorem pn_5 : plainName "jdk/internal/util/Preconditions" = true := by first | (simp [plainName, overriddenIn]; done) | decide +kernel
theorem ef16 (m : MethodId) (x0 : Int32) (x1 : Int32) : entryFrame m #[(.int x0), (.int x1), .null] 3 = mkF m 0 #[.val (.int x0), .val (.int x1), .val .null] [] := by first | (simp [entryFrame, mkF, argsToLocals, Value.category]; done) | rfl
def f16 (p0 : Int32) (p1 : Int32) : Int32 := p0
set_option maxRecDepth 65536 in
set_option maxHeartbeats 40000000 in
theorem rm16 (l : Launch) (Z : State) (a0 : Array Value) (hw : ∀ d ∈ tables_1, d.before a0 Z = true) (ws : List Jvm.Cond) (p0 : Int32) (p1 : Int32) (h0 : Heap) (hq1 : ¬ p0 < (0 : Int32)) (hq2 : p0 < p1) :
  Cmet l Z (⟨"jdk/internal/util/Preconditions", "checkIndex", "(IILjava/util/function/BiFunction;)I"⟩ : MethodName) jdk_41_method_11_code 3 (some .int) ws ({ frames := 0, cells := 0, slots := 0, locals := 0 } : Room) #[(.int p0), (.int p1), .null] h0 (fun v h' L => v = some (.int (f16 p0 p1)) ∧ h' = h0 ∧ L = []) := by
 refine MetFree.of_bodySF (plainFor_of_name pn_5) hisR ?_
 intro p e s m args below meth c s₁ Bd hml0 hP hK
 obtain ⟨rfl, hZ, hh⟩ := hP
 have hx := Bd.exec
 have hlk : meth.locks = false := BodyLoose.notSynchronized Bd
 have hby := Bd.bytes
 have hml : c.maxLocals = 3 := hml0
 have hown : s.vm.findClass "jdk/internal/util/Preconditions" = some m.cls := findClass_of_methodNamed Bd.named
 have hnm := (name_of_methodNamed Bd.named Bd.method).1
 have X0 : Stand p l e ({ frames := 0, cells := 0, slots := 0, locals := 0 } : Room) s m #[(.int p0), (.int p1), .null] below meth c s₁ [] 0 0 := Stand.of_body Bd
 have e0 : s₁.heap = h0 := by rw [← hh, Bd.state]; rfl
 have hv0 : f16 p0 p1 = f16 p0 p1 := rfl
 show Fini p e below s (fun v h' L => v = some (.int (f16 p0 p1)) ∧ h' = h0 ∧ L = []) _ _ s₁ (entryFrame m #[(.int p0), (.int p1), .null] 3)
 refine Fini.cast (ef16 m p0 p1) ?_
 show Fini _ _ _ _ _ _ _ s₁ (mkF m 0 #[vi p0, vi p1, .val .null] [])
 refine fIN X0 hx hby d16_0 rfl rfl ?_
 show Fini _ _ _ _ _ _ _ s₁ (mkF m 1 #[vi p0, vi p1, .val .null] [(.int p0)])
 refine Fini.st (fun _ k => XS.ifNo X0.here hx rfl (hb hby d16_1) rfl (XT.i0_lt_f hq1) k) ?_
 refine fIN X0 hx hby d16_4 rfl rfl ?_
 refine fIN X0 hx hby d16_5 rfl rfl ?_
 show Fini _ _ _ _ _ _ _ s₁ (mkF m 6 #[vi p0, vi p1, .val .null] [(.int p1), (.int p0)])
 refine Fini.st (fun _ k => XS.icmpYes X0.here hx rfl (pc0 := 6) (pc' := 16) rfl (hb hby d16_6) rfl (XT.ii_lt_t hq2) (by decide) (by decide) k) ?_
 refine fIN X0 hx hby d16_16 rfl rfl ?_
 exact Fini.retI X0 hx hlk Bd.returns (hb hby d16_17) (by decide) (by decide) ⟨congrArg (fun z => some (Value.int z)) hv0.symm, e0, rfl⟩
theorem pd_1 : parseMethodDescriptor "(IILjava/util/function/BiFunction;)I" = some ⟨[.int, .int, (.object "java/util/function/BiFunction")], some .int⟩ := by decide +kernel
theorem d15_0 : decode jdk_31_method_17_code 0 = .ok (.iload_n 0, 1) := by decide +kernel
theorem d15_1 : decode jdk_31_method_17_code 1 = .ok (.iload_n 1, 1) := by decide +kernel
theorem d15_2 : decode jdk_31_method_17_code 2 = .ok (.aconst_null, 1) := by decide +kernel
theorem d15_3 : decode jdk_31_method_17_code 3 = .ok (.invokestatic 105, 3) := by decide +kernel
theorem d15_6 : decode jdk_31_method_17_code 6 = .ok (.ireturn, 1) := by decide +kernel
theorem pn_6 : plainName "java/util/Objects" = true := by first | (simp [plainName, overriddenIn]; done) | decide +kernel
theorem ef15 (m : MethodId) (x0 : Int32) (x1 : Int32) : entryFrame m #[(.int x0), (.int x1)] 2 = mkF m 0 #[.val (.int x0), .val (.int x1)] [] := by first | (simp [entryFrame, mkF, argsToLocals, Value.category]; done) | rfl
def f15 (p0 : Int32) (p1 : Int32) : Int32 := (f16 p0 p1)
set_option maxRecDepth 65536 in
set_option maxHeartbeats 40000000 in
theorem rm15 (l : Launch) (Z : State) (a0 : Array Value) (hw : ∀ d ∈ tables_1, d.before a0 Z = true) (ws : List Jvm.Cond) (p0 : Int32) (p1 : Int32) (h0 : Heap) (hq1 : ¬ p0 < (0 : Int32)) (hq2 : p0 < p1) :
  Cmet l Z (⟨"java/util/Objects", "checkIndex", "(II)I"⟩ : MethodName) jdk_31_method_17_code 2 (some .int) ws ({ frames := 1, cells := 0, slots := 0, locals := 14 } : Room) #[(.int p0), (.int p1)] h0 (fun v h' L => v = some (.int (f15 p0 p1)) ∧ h' = h0 ∧ L = []) := by
 refine MetFree.of_bodySF (plainFor_of_name pn_6) hisR ?_
 intro p e s m args below meth c s₁ Bd hml0 hP hK
 obtain ⟨rfl, hZ, hh⟩ := hP
 have hx := Bd.exec
 have hlk : meth.locks = false := BodyLoose.notSynchronized Bd
 have hby := Bd.bytes
 have hml : c.maxLocals = 2 := hml0
 have hown : s.vm.findClass "java/util/Objects" = some m.cls := findClass_of_methodNamed Bd.named
 have hnm := (name_of_methodNamed Bd.named Bd.method).1
 have X0 : Stand p l e ({ frames := 1, cells := 0, slots := 0, locals := 14 } : Room) s m #[(.int p0), (.int p1)] below meth c s₁ [] 0 0 := Stand.of_body Bd
 have e0 : s₁.heap = h0 := by rw [← hh, Bd.state]; rfl
 have hv0 : f15 p0 p1 = f15 p0 p1 := rfl
 show Fini p e below s (fun v h' L => v = some (.int (f15 p0 p1)) ∧ h' = h0 ∧ L = []) _ _ s₁ (entryFrame m #[(.int p0), (.int p1)] 2)
 refine Fini.cast (ef15 m p0 p1) ?_
 show Fini _ _ _ _ _ _ _ s₁ (mkF m 0 #[vi p0, vi p1] [])
 refine fIN X0 hx hby d15_0 rfl rfl ?_
 refine fIN X0 hx hby d15_1 rfl rfl ?_
 refine Fini.st (fun _ k => XS.aconstNull X0.here hx rfl (hb hby d15_2) k) ?_
 obtain ⟨T1, X1, e1, st1⟩ := pureS X0 hx hZ hown (wq hw (i := 123) rfl) (wq hw (i := 124) rfl) (wq hw (i := 125) rfl) (wq hw (i := 126) rfl) (by decide) (rm16 l Z a0 hw [] p0 p1 h0 hq1 hq2) e0 (W := 0) (by decide) (by decide) (by decide) (by decide) (g := (mkF m 3 #[vi p0, vi p1] [.null, (.int p1), (.int p0)])) rfl (by rw [hml]; rfl) (argsL := [(.int p0), (.int p1), .null]) (rest := []) rfl (lenOf pd_1 rfl) rfl (by show 2 * 0 + _ ≤ _; exact Nat.le_of_eq rfl) (hb hby d15_3)
 refine Fini.st st1 ?_
 show Fini _ _ _ _ _ _ _ T1 (mkF m 6 #[vi p0, vi p1] [(.int (f16 p0 p1))])
 exact Fini.retI X1 hx hlk Bd.returns (hb hby d15_6) (by decide) (by decide) ⟨congrArg (fun z => some (Value.int z)) hv0.symm, e1, rfl⟩
theorem d17_0 : decode jdk_38_method_18_code 0 = .ok (.aload_n 0, 1) := by decide +kernel
theorem d17_1 : decode jdk_38_method_18_code 1 = .ok (.getfield 9, 3) := by decide +kernel
theorem d17_4 : decode jdk_38_method_18_code 4 = .ok (.iload_n 1, 1) := by decide +kernel
theorem d17_5 : decode jdk_38_method_18_code 5 = .ok (.aaload, 1) := by decide +kernel
theorem d17_6 : decode jdk_38_method_18_code 6 = .ok (.areturn, 1) := by decide +kernel
theorem ef17 (m : MethodId) (x0 : Addr) (x1 : Int32) : entryFrame m #[(.ref x0), (.int x1)] 2 = mkF m 0 #[.val (.ref x0), .val (.int x1)] [] := by first | (simp [entryFrame, mkF, argsToLocals, Value.category]; done) | rfl
set_option maxRecDepth 65536 in
set_option maxHeartbeats 40000000 in
theorem rm17 (l : Launch) (Z : State) (a0 : Array Value) (hw : ∀ d ∈ tables_1, d.before a0 Z = true) (ws : List Jvm.Cond) (o0 : Addr) (p1 : Int32) (x : Addr) (u : Nat → Value) (h0 : Heap) (n0 : Nat) (Z0 : n0 ≤ h0.size) (F_el : Fld Z h0 o0 "java/util/ArrayList" "elementData" "[Ljava/lang/Object;" (.ref x)) (A_x : AryR Z h0 x "java/lang/Object" (10 : Int32) u) (hu : ∀ i, (u i).isRef = true) (hq1 : ¬ p1 < (0 : Int32)) (hq3 : p1 < (10 : Int32)) :
  Cmet l Z (⟨"java/util/ArrayList", "elementData", "(I)Ljava/lang/Object;"⟩ : MethodName) jdk_38_method_18_code 2 (some (.object "java/lang/Object")) ws ({ frames := 0, cells := 0, slots := 0, locals := 0 } : Room) #[(.ref o0), (.int p1)] h0 (fun v h' L => v = some (u p1.toNatClampNeg) ∧ h' = h0 ∧ L = []) := by
 refine MetFree.of_bodySF (plainFor_of_name pn_4) hisR ?_
 intro p e s m args below meth c s₁ Bd hml0 hP hK
 obtain ⟨rfl, hZ, hh⟩ := hP
 have hx := Bd.exec
 have hlk : meth.locks = false := BodyLoose.notSynchronized Bd
 have hby := Bd.bytes
 have hml : c.maxLocals = 2 := hml0
 have hown : s.vm.findClass "java/util/ArrayList" = some m.cls := findClass_of_methodNamed Bd.named
 have hnm := (name_of_methodNamed Bd.named Bd.method).1
 have X0 : Stand p l e ({ frames := 0, cells := 0, slots := 0, locals := 0 } : Room) s m #[(.ref o0), (.int p1)] below meth c s₁ [] 0 0 := Stand.of_body Bd
 have e0 : s₁.heap = h0 := by rw [← hh, Bd.state]; rfl
 have N0 := Fr.nil n0
 show Fini p e below s (fun v h' L => v = some (u p1.toNatClampNeg) ∧ h' = h0 ∧ L = []) _ _ s₁ (entryFrame m #[(.ref o0), (.int p1)] 2)
 refine Fini.cast (ef17 m o0 p1) ?_
 show Fini _ _ _ _ _ _ _ s₁ (mkF m 0 #[vr o0, vi p1] [])
 refine fAN X0 hx hby d17_0 rfl rfl rfl ?_
 obtain ⟨T1, X1, e1, st1⟩ := getF X0 hx hZ hown (host := "") (Or.inl (wq hw (i := 40) rfl)) Via.refl e0 F_el (g := (mkF m 1 #[vr o0, vi p1] [(.ref o0)])) rfl rfl (hb hby d17_1)
 refine Fini.st st1 ?_
 refine fIN X1 hx hby d17_4 rfl rfl ?_
 show Fini _ _ _ _ _ _ _ T1 (mkF m 5 #[vr o0, vi p1] [(.int p1), (.ref x)])
 refine Fini.st (fun _ k => A_x.load X1 hx hZ e1 ⟨hq1, hq3⟩ rfl rfl (hb hby d17_5) k) ?_
 show Fini _ _ _ _ _ _ _ T1 (mkF m 6 #[vr o0, vi p1] [(u (p1).toNatClampNeg)])
 exact Fini.retA X1 hx hlk Bd.returns rfl (hb hby d17_6) (hu _) (narrowR (hu _)) (by decide) (by decide) ⟨rfl, e1, rfl⟩
theorem pd_2 : parseMethodDescriptor "(II)I" = some ⟨[.int, .int], some .int⟩ := by decide +kernel
theorem pd_3 : parseMethodDescriptor "(I)Ljava/lang/Object;" = some ⟨[.int], some (.object "java/lang/Object")⟩ := by decide +kernel
theorem d14_0 : decode jdk_38_method_20_code 0 = .ok (.iload_n 1, 1) := by decide +kernel
theorem d14_1 : decode jdk_38_method_20_code 1 = .ok (.aload_n 0, 1) := by decide +kernel
theorem d14_2 : decode jdk_38_method_20_code 2 = .ok (.getfield 48, 3) := by decide +kernel
theorem d14_5 : decode jdk_38_method_20_code 5 = .ok (.invokestatic 118, 3) := by decide +kernel
theorem d14_8 : decode jdk_38_method_20_code 8 = .ok (.pop, 1) := by decide +kernel
theorem d14_9 : decode jdk_38_method_20_code 9 = .ok (.aload_n 0, 1) := by decide +kernel
theorem d14_10 : decode jdk_38_method_20_code 10 = .ok (.iload_n 1, 1) := by decide +kernel
theorem d14_11 : decode jdk_38_method_20_code 11 = .ok (.invokevirtual 123, 3) := by decide +kernel
theorem d14_14 : decode jdk_38_method_20_code 14 = .ok (.areturn, 1) := by decide +kernel
theorem ef14 (m : MethodId) (x0 : Addr) (x1 : Int32) : entryFrame m #[(.ref x0), (.int x1)] 2 = mkF m 0 #[.val (.ref x0), .val (.int x1)] [] := by first | (simp [entryFrame, mkF, argsToLocals, Value.category]; done) | rfl
set_option maxRecDepth 65536 in
set_option maxHeartbeats 40000000 in
theorem rm14 (l : Launch) (Z : State) (a0 : Array Value) (hw : ∀ d ∈ tables_1, d.before a0 Z = true) (ws : List Jvm.Cond) (o0 : Addr) (p1 : Int32) (x : Addr) (u : Nat → Value) (sz : Int32) (h0 : Heap) (n0 : Nat) (Z0 : n0 ≤ h0.size) (E_o0 : Exa Z h0 o0 "java/util/ArrayList") (F_sz : Fld Z h0 o0 "java/util/ArrayList" "size" "I" (.int sz)) (F_el : Fld Z h0 o0 "java/util/ArrayList" "elementData" "[Ljava/lang/Object;" (.ref x)) (A_x : AryR Z h0 x "java/lang/Object" (10 : Int32) u) (hu : ∀ i, (u i).isRef = true) (hq1 : ¬ p1 < (0 : Int32)) (hq2 : p1 < sz) (hq3 : p1 < (10 : Int32)) :
  Cmet l Z (⟨"java/util/ArrayList", "get", "(I)Ljava/lang/Object;"⟩ : MethodName) jdk_38_method_20_code 2 (some (.object "java/lang/Object")) ws ({ frames := 2, cells := 0, slots := 0, locals := 27 } : Room) #[(.ref o0), (.int p1)] h0 (fun v h' L => v = some (u p1.toNatClampNeg) ∧ h' = h0 ∧ L = []) := by
 refine MetFree.of_bodySF (plainFor_of_name pn_4) hisR ?_
 intro p e s m args below meth c s₁ Bd hml0 hP hK
 obtain ⟨rfl, hZ, hh⟩ := hP
 have hx := Bd.exec
 have hlk : meth.locks = false := BodyLoose.notSynchronized Bd
 have hby := Bd.bytes
 have hml : c.maxLocals = 2 := hml0
 have hown : s.vm.findClass "java/util/ArrayList" = some m.cls := findClass_of_methodNamed Bd.named
 have hnm := (name_of_methodNamed Bd.named Bd.method).1
 have X0 : Stand p l e ({ frames := 2, cells := 0, slots := 0, locals := 27 } : Room) s m #[(.ref o0), (.int p1)] below meth c s₁ [] 0 0 := Stand.of_body Bd
 have e0 : s₁.heap = h0 := by rw [← hh, Bd.state]; rfl
 have N0 := Fr.nil n0
 show Fini p e below s (fun v h' L => v = some (u p1.toNatClampNeg) ∧ h' = h0 ∧ L = []) _ _ s₁ (entryFrame m #[(.ref o0), (.int p1)] 2)
 refine Fini.cast (ef14 m o0 p1) ?_
 show Fini _ _ _ _ _ _ _ s₁ (mkF m 0 #[vr o0, vi p1] [])
 refine fIN X0 hx hby d14_0 rfl rfl ?_
 refine fAN X0 hx hby d14_1 rfl rfl rfl ?_
 obtain ⟨T1, X1, e1, st1⟩ := getF X0 hx hZ hown (host := "") (Or.inl (wq hw (i := 60) rfl)) Via.refl e0 F_sz (g := (mkF m 2 #[vr o0, vi p1] [(.ref o0), (.int p1)])) rfl rfl (hb hby d14_2)
 refine Fini.st st1 ?_
 obtain ⟨T2, X2, e2, st2⟩ := pureS X1 hx hZ hown (wq hw (i := 119) rfl) (wq hw (i := 120) rfl) (wq hw (i := 121) rfl) (wq hw (i := 122) rfl) (by decide) (rm15 l Z a0 hw [] p1 sz h0 hq1 hq2) e1 (W := 0) (by decide) (by decide) (by decide) (by decide) (g := (mkF m 5 #[vr o0, vi p1] [(.int sz), (.int p1)])) rfl (by rw [hml]; rfl) (argsL := [(.int p1), (.int sz)]) (rest := []) rfl (lenOf pd_2 rfl) rfl (by show 2 * 0 + _ ≤ _; exact Nat.le_of_eq rfl) (hb hby d14_5)
 refine Fini.st st2 ?_
 show Fini _ _ _ _ _ _ _ T2 (mkF m 8 #[vr o0, vi p1] [(.int (f15 p1 sz))])
 refine Fini.st (fun _ k => XS.pop X2.here hx rfl (hb hby d14_8) rfl rfl k) ?_
 refine fAN X2 hx hby d14_9 rfl rfl rfl ?_
 refine fIN X2 hx hby d14_10 rfl rfl ?_
 obtain ⟨v3, T3, L3, X3, hQ3, st3⟩ := callV X2 hx hZ hown (wq hw (i := 127) rfl) (wq hw (i := 128) rfl) (wq hw (i := 130) rfl) (wq hw (i := 129) rfl) (wq hw (i := 20) rfl) (wq hw (i := 131) rfl) (notFace_of_selects (args := #[]) (mvT hZ (wq hw (i := 130) rfl))) E_o0 (by decide) (rm17 l Z a0 hw [] o0 p1 x u h0 n0 Z0 F_el A_x hu hq1 hq3) e2 (W := 0) (by decide) (by decide) (by decide) (by decide) (g := (mkF m 11 #[vr o0, vi p1] [(.int p1), (.ref o0)])) rfl (by rw [hml]; rfl) (argsL := [(.int p1)]) (rest := []) rfl (lenOf pd_3 rfl) rfl (by show 2 * 0 + _ ≤ _; exact Nat.le_of_eq rfl) (hb hby d14_11)
 obtain ⟨rfl, hh3, rfl⟩ := hQ3
 have K3 : Keep h0 T3.heap [] := by rw [hh3]; exact Keep.refl _ _
 have Nq3 := Fr.nil n0
 have N3 := Fr.app N0 Nq3
 refine Fini.st st3 ?_
 show Fini _ _ _ _ _ _ _ T3 (mkF m 14 #[vr o0, vi p1] [(u (p1).toNatClampNeg)])
 exact Fini.retA X3 hx hlk Bd.returns rfl (hb hby d14_14) (hu _) (narrowR (hu _)) (by decide) (by decide) ⟨rfl, hh3, rfl⟩
theorem c14 (l : Launch) (Z : State) (a0 : Array Value) (hw : ∀ d ∈ tables_1, d.before a0 Z = true) (h0 : Heap) {B : Nat} {dd a x : Addr} {n : Int32} {u : Nat → Value} (A : ALs Z B dd h0 a x n u) {i : Int32} (hq1 : ¬ i < (0 : Int32)) (hq2 : i < n) : Cmet l Z (⟨"java/util/ArrayList", "get", "(I)Ljava/lang/Object;"⟩ : MethodName) jdk_38_method_20_code 2 (some (.object "java/lang/Object")) [] ({ frames := 2, cells := 0, slots := 0, locals := 27 } : Room) #[.ref a, .int i] h0 (fun v h' L => v = some (u i.toNatClampNeg) ∧ h' = h0 ∧ L = []) := by
 have hn0 : ¬ n = 0 := fun q => hq1 (q ▸ hq2)
 obtain ⟨-, q1, q2, q3, -⟩ := A.own hn0
 exact rm14 l Z a0 hw [] a i x u n h0 0 (Nat.zero_le _) A.1 A.2.2.2.1 A.2.2.1 q3 A.2.2.2.2.2.1 hq1 hq2 (own_lt10 hq2 q2)
theorem d12_0 : decode jdk_29_method_65_code 0 = .ok (.iload_n 0, 1) := by decide +kernel
theorem d12_1 : decode jdk_29_method_65_code 1 = .ok (.iload_n 1, 1) := by decide +kernel
theorem d12_2 : decode jdk_29_method_65_code 2 = .ok (.if_icmp .lt 7, 3) := by decide +kernel
theorem d12_5 : decode jdk_29_method_65_code 5 = .ok (.iload_n 0, 1) := by decide +kernel
theorem d12_6 : decode jdk_29_method_65_code 6 = .ok (.goto 4, 3) := by decide +kernel
theorem d12_10 : decode jdk_29_method_65_code 10 = .ok (.ireturn, 1) := by decide +kernel
theorem ef12 (m : MethodId) (x0 : Int32) (x1 : Int32) : entryFrame m #[(.int x0), (.int x1)] 2 = mkF m 0 #[.val (.int x0), .val (.int x1)] [] := by first | (simp [entryFrame, mkF, argsToLocals, Value.category]; done) | rfl
def f12  : Int32 := (10 : Int32)
set_option maxRecDepth 65536 in
set_option maxHeartbeats 40000000 in
theorem rm12 (l : Launch) (Z : State) (a0 : Array Value) (hw : ∀ d ∈ tables_1, d.before a0 Z = true) (ws : List Jvm.Cond)  (h0 : Heap) :
  Cmet l Z (⟨"java/lang/Math", "max", "(II)I"⟩ : MethodName) jdk_29_method_65_code 2 (some .int) ws ({ frames := 0, cells := 0, slots := 0, locals := 0 } : Room) #[(.int (10 : Int32)), (.int (1 : Int32))] h0 (fun v h' L => v = some (.int (f12 )) ∧ h' = h0 ∧ L = []) := by
 refine MetFree.of_bodySF (Jvm.Free.JP.mathPlain rfl (by decide +kernel)) hisR ?_
 intro p e s m args below meth c s₁ Bd hml0 hP hK
 obtain ⟨rfl, hZ, hh⟩ := hP
 have hx := Bd.exec
 have hlk : meth.locks = false := BodyLoose.notSynchronized Bd
 have hby := Bd.bytes
 have hml : c.maxLocals = 2 := hml0
 have hown : s.vm.findClass "java/lang/Math" = some m.cls := findClass_of_methodNamed Bd.named
 have hnm := (name_of_methodNamed Bd.named Bd.method).1
 have X0 : Stand p l e ({ frames := 0, cells := 0, slots := 0, locals := 0 } : Room) s m #[(.int (10 : Int32)), (.int (1 : Int32))] below meth c s₁ [] 0 0 := Stand.of_body Bd
 have e0 : s₁.heap = h0 := by rw [← hh, Bd.state]; rfl
 have hv0 : f12  = f12  := rfl
 show Fini p e below s (fun v h' L => v = some (.int (f12 )) ∧ h' = h0 ∧ L = []) _ _ s₁ (entryFrame m #[(.int (10 : Int32)), (.int (1 : Int32))] 2)
 refine Fini.cast (ef12 m (10 : Int32) (1 : Int32)) ?_
 show Fini _ _ _ _ _ _ _ s₁ (mkF m 0 #[vi (10 : Int32), vi (1 : Int32)] [])
 refine fIN X0 hx hby d12_0 rfl rfl ?_
 refine fIN X0 hx hby d12_1 rfl rfl ?_
 show Fini _ _ _ _ _ _ _ s₁ (mkF m 2 #[vi (10 : Int32), vi (1 : Int32)] [(.int (1 : Int32)), (.int (10 : Int32))])
 refine Fini.st (fun _ k => XS.icmpNo X0.here hx rfl (hb hby d12_2) rfl (XT.ii_lt_f (by decide : ¬ (10 : Int32) < (1 : Int32))) k) ?_
 refine fIN X0 hx hby d12_5 rfl rfl ?_
 refine Fini.st (fun _ k => XS.goto X0.here hx rfl (pc0 := 6) (pc' := 10) rfl (hb hby d12_6) (by decide) (by decide) k) ?_
 exact Fini.retI X0 hx hlk Bd.returns (hb hby d12_10) (by decide) (by decide) ⟨congrArg (fun z => some (Value.int z)) hv0.symm, e0, rfl⟩
theorem d11_0 : decode jdk_38_method_6_code 0 = .ok (.aload_n 0, 1) := by decide +kernel
theorem d11_1 : decode jdk_38_method_6_code 1 = .ok (.getfield 9, 3) := by decide +kernel
theorem d11_4 : decode jdk_38_method_6_code 4 = .ok (.arraylength, 1) := by decide +kernel
theorem d11_5 : decode jdk_38_method_6_code 5 = .ok (.istore_n 2, 1) := by decide +kernel
theorem d11_6 : decode jdk_38_method_6_code 6 = .ok (.iload_n 2, 1) := by decide +kernel
theorem d11_7 : decode jdk_38_method_6_code 7 = .ok (.ifCond .gt 13, 3) := by decide +kernel
theorem d11_10 : decode jdk_38_method_6_code 10 = .ok (.aload_n 0, 1) := by decide +kernel
theorem d11_11 : decode jdk_38_method_6_code 11 = .ok (.getfield 9, 3) := by decide +kernel
theorem d11_14 : decode jdk_38_method_6_code 14 = .ok (.getstatic 39, 3) := by decide +kernel
theorem d11_17 : decode jdk_38_method_6_code 17 = .ok (.if_acmp .eq 28, 3) := by decide +kernel
theorem d11_45 : decode jdk_38_method_6_code 45 = .ok (.aload_n 0, 1) := by decide +kernel
theorem d11_46 : decode jdk_38_method_6_code 46 = .ok (.bipush 10, 2) := by decide +kernel
theorem d11_48 : decode jdk_38_method_6_code 48 = .ok (.iload_n 1, 1) := by decide +kernel
theorem d11_49 : decode jdk_38_method_6_code 49 = .ok (.invokestatic 79, 3) := by decide +kernel
theorem d11_52 : decode jdk_38_method_6_code 52 = .ok (.anewarray 7, 3) := by decide +kernel
theorem d11_55 : decode jdk_38_method_6_code 55 = .ok (.dup_x1, 1) := by decide +kernel
theorem d11_56 : decode jdk_38_method_6_code 56 = .ok (.putfield 9, 3) := by decide +kernel
theorem d11_59 : decode jdk_38_method_6_code 59 = .ok (.areturn, 1) := by decide +kernel
theorem ef11 (m : MethodId) (x0 : Addr) (x1 : Int32) : entryFrame m #[(.ref x0), (.int x1)] 4 = mkF m 0 #[.val (.ref x0), .val (.int x1), .unset, .unset] [] := by first | (simp [entryFrame, mkF, argsToLocals, Value.category]; done) | rfl
set_option maxRecDepth 65536 in
set_option maxHeartbeats 40000000 in
theorem rm11 (l : Launch) (Z : State) (a0 : Array Value) (hw : ∀ d ∈ tables_1, d.before a0 Z = true) (ws : List Jvm.Cond) (o0 : Addr) (dd : Addr) (mc : Int32) (h0 : Heap) (n0 : Nat) (Z0 : n0 ≤ h0.size) (E_o0 : Exa Z h0 o0 "java/util/ArrayList") (F_mod : Fld Z h0 o0 "java/util/AbstractList" "modCount" "I" (.int mc)) (F_sz : Fld Z h0 o0 "java/util/ArrayList" "size" "I" (.int (0 : Int32))) (F_el : Fld Z h0 o0 "java/util/ArrayList" "elementData" "[Ljava/lang/Object;" (.ref dd)) (D0 : Old Z n0 h0) (S_dd : Sta Z Z.heap "java/util/ArrayList" "DEFAULTCAPACITY_EMPTY_ELEMENTDATA" "[Ljava/lang/Object;" (.ref dd)) (A_dd : AryQ Z Z.heap dd (0 : Int32)) (g0 : n0 ≤ o0) :
  Cmet l Z (⟨"java/util/ArrayList", "grow", "(I)[Ljava/lang/Object;"⟩ : MethodName) jdk_38_method_6_code 4 (some (.array (.object "java/lang/Object"))) ws ({ frames := 1, cells := 1, slots := 10, locals := 14 } : Room) #[(.ref o0), (.int (1 : Int32))] h0 (fun v h' L => ∃ b, v = some (.ref b) ∧ Fr n0 L ∧ Keep h0 h' [o0] ∧ h0.size ≤ b ∧ n0 ≤ b ∧ Exa Z h' b "[Ljava/lang/Object;" ∧ AryR Z h' b "java/lang/Object" (10 : Int32) (fun _ => .null) ∧ Fld Z h' o0 "java/util/AbstractList" "modCount" "I" (.int mc) ∧ Fld Z h' o0 "java/util/ArrayList" "size" "I" (.int (0 : Int32)) ∧ Fld Z h' o0 "java/util/ArrayList" "elementData" "[Ljava/lang/Object;" (.ref b)) := by
 refine MetFree.of_bodySF (plainFor_of_name pn_4) hisR ?_
 intro p e s m args below meth c s₁ Bd hml0 hP hK
 obtain ⟨rfl, hZ, hh⟩ := hP
 have hx := Bd.exec
 have hlk : meth.locks = false := BodyLoose.notSynchronized Bd
 have hby := Bd.bytes
 have hml : c.maxLocals = 4 := hml0
 have hown : s.vm.findClass "java/util/ArrayList" = some m.cls := findClass_of_methodNamed Bd.named
 have hnm := (name_of_methodNamed Bd.named Bd.method).1
 have X0 : Stand p l e ({ frames := 1, cells := 1, slots := 10, locals := 14 } : Room) s m #[(.ref o0), (.int (1 : Int32))] below meth c s₁ [] 0 0 := Stand.of_body Bd
 have e0 : s₁.heap = h0 := by rw [← hh, Bd.state]; rfl
 have N0 := Fr.nil n0
 show Fini p e below s (fun v h' L => ∃ b, v = some (.ref b) ∧ Fr n0 L ∧ Keep h0 h' [o0] ∧ h0.size ≤ b ∧ n0 ≤ b ∧ Exa Z h' b "[Ljava/lang/Object;" ∧ AryR Z h' b "java/lang/Object" (10 : Int32) (fun _ => .null) ∧ Fld Z h' o0 "java/util/AbstractList" "modCount" "I" (.int mc) ∧ Fld Z h' o0 "java/util/ArrayList" "size" "I" (.int (0 : Int32)) ∧ Fld Z h' o0 "java/util/ArrayList" "elementData" "[Ljava/lang/Object;" (.ref b)) _ _ s₁ (entryFrame m #[(.ref o0), (.int (1 : Int32))] 4)
 refine Fini.cast (ef11 m o0 (1 : Int32)) ?_
 show Fini _ _ _ _ _ _ _ s₁ (mkF m 0 #[vr o0, vi (1 : Int32), su, su] [])
 refine fAN X0 hx hby d11_0 rfl rfl rfl ?_
 obtain ⟨T1, X1, e1, st1⟩ := getF X0 hx hZ hown (host := "") (Or.inl (wq hw (i := 40) rfl)) Via.refl e0 F_el (g := (mkF m 1 #[vr o0, vi (1 : Int32), su, su] [(.ref o0)])) rfl rfl (hb hby d11_1)
 refine Fini.st st1 ?_
 show Fini _ _ _ _ _ _ _ T1 (mkF m 4 #[vr o0, vi (1 : Int32), su, su] [(.ref dd)])
 have An_2 : AryQ Z h0 dd (0 : Int32) := (A_dd.ext D0.2)
 refine Fini.st (fun _ k => An_2.len X1 hx hZ e1 rfl rfl (hb hby d11_4) k) ?_
 show Fini _ _ _ _ _ _ _ T1 (mkF m 5 #[vr o0, vi (1 : Int32), su, su] [(.int (0 : Int32))])
 refine Fini.st (fun _ k => XS.istoreN X1.here hx rfl (hb hby d11_5) rfl (l' := #[vr o0, vi (1 : Int32), vi (0 : Int32), su]) rfl k) ?_
 refine fIN X1 hx hby d11_6 rfl rfl ?_
 show Fini _ _ _ _ _ _ _ T1 (mkF m 7 #[vr o0, vi (1 : Int32), vi (0 : Int32), su] [(.int (0 : Int32))])
 refine Fini.st (fun _ k => XS.ifNo X1.here hx rfl (hb hby d11_7) rfl (XT.i0_gt_f (by decide : ¬ (0 : Int32) < (0 : Int32))) k) ?_
 refine fAN X1 hx hby d11_10 rfl rfl rfl ?_
 obtain ⟨T3, X3, e3, st3⟩ := getF X1 hx hZ hown (host := "") (Or.inl (wq hw (i := 40) rfl)) Via.refl e1 F_el (g := (mkF m 11 #[vr o0, vi (1 : Int32), vi (0 : Int32), su] [(.ref o0)])) rfl rfl (hb hby d11_11)
 refine Fini.st st3 ?_
 show Fini _ _ _ _ _ _ _ T3 (mkF m 14 #[vr o0, vi (1 : Int32), vi (0 : Int32), su] [(.ref dd)])
 obtain ⟨T4, X4, e4, st4⟩ := getS2 X3 hx hZ hown (host := "") (Or.inl (wq hw (i := 39) rfl)) Via.refl e3 (Sta.ext D0.2 S_dd) (g := (mkF m 14 #[vr o0, vi (1 : Int32), vi (0 : Int32), su] [(.ref dd)])) rfl (hb hby d11_14)
 refine Fini.st st4 ?_
 show Fini _ _ _ _ _ _ _ T4 (mkF m 17 #[vr o0, vi (1 : Int32), vi (0 : Int32), su] [(.ref dd), (.ref dd)])
 refine Fini.st (fun _ k => Jvm.RoadKit.acmp (g := (mkF m 17 #[vr o0, vi (1 : Int32), vi (0 : Int32), su] [(.ref dd), (.ref dd)])) X4 hx rfl rfl rfl (pc0 := 17) (pc' := 45) (same := true) rfl (hb hby d11_17) rfl (decide_eq_true rfl) (by decide) (by decide) k) ?_
 show Fini _ _ _ _ _ _ _ T4 (mkF m 45 #[vr o0, vi (1 : Int32), vi (0 : Int32), su] [])
 refine fAN X4 hx hby d11_45 rfl rfl rfl ?_
 refine Fini.st (fun _ k => XS.bipush X4.here hx rfl (hb hby d11_46) k) ?_
 refine fIN X4 hx hby d11_48 rfl rfl ?_
 obtain ⟨T5, X5, e5, st5⟩ := pureS X4 hx hZ hown (wq hw (i := 90) rfl) (wq hw (i := 91) rfl) (wq hw (i := 92) rfl) (wq hw (i := 93) rfl) (by decide) (rm12 l Z a0 hw [] h0) e4 (W := 1) (by decide) (by decide) (by decide) (by decide) (g := (mkF m 49 #[vr o0, vi (1 : Int32), vi (0 : Int32), su] [(.int (1 : Int32)), (.int (10 : Int32)), (.ref o0)])) rfl (by rw [hml]; rfl) (argsL := [(.int (10 : Int32)), (.int (1 : Int32))]) (rest := [(.ref o0)]) rfl (lenOf pd_2 rfl) rfl (by show 2 * 0 + _ ≤ _; exact Nat.le_of_eq rfl) (hb hby d11_49)
 refine Fini.st st5 ?_
 show Fini _ _ _ _ _ _ _ T5 (mkF m 52 #[vr o0, vi (1 : Int32), vi (0 : Int32), su] [(.int (10 : Int32)), (.ref o0)])
 obtain ⟨T6, h6, k6, X6, e6, E6, A6, Ea6, O6, st6⟩ := newRE X5 hx hZ hown (wq hw (i := 94) rfl) (wq hw (i := 95) rfl) e5 (g := (mkF m 52 #[vr o0, vi (1 : Int32), vi (0 : Int32), su] [(.int (10 : Int32)), (.ref o0)])) rfl (hb hby d11_52) rfl (by decide) (cap := 10) (by decide) (by decide) (by decide) (by decide) (ad := "[Ljava/lang/Object;") (by decide)
 obtain ⟨b6, g6⟩ : ∃ z, z = h0.size := ⟨_, rfl⟩
 rw [← g6] at A6 Ea6 st6
 have ne_o0_b6 : o0 ≠ b6 := Nat.ne_of_lt (Nat.lt_of_lt_of_le E_o0.lt (Nat.le_of_eq g6.symm))
 have ne_dd_b6 : dd ≠ b6 := Nat.ne_of_lt (Nat.lt_of_lt_of_le An_2.lt (Nat.le_of_eq g6.symm))
 have ge_b6 : n0 ≤ b6 := Nat.le_trans Z0 (Nat.le_of_eq g6.symm)
 have sz_b6 : h0.size ≤ b6 := Nat.le_trans (Keep.refl h0 [o0]).1 (Nat.le_of_eq g6.symm)
 have Ar6 : AryR Z h6 b6 "java/lang/Object" (10 : Int32) (fun _ => .null) := AryR.new A6 O6 (by decide)
 refine Fini.st st6 ?_
 show Fini _ _ _ _ _ _ _ T6 (mkF m 55 #[vr o0, vi (1 : Int32), vi (0 : Int32), su] [(.ref b6), (.ref o0)])
 refine Fini.st (fun _ k => XS.dupX1 X6.here hx rfl (hb hby d11_55) rfl rfl rfl k) ?_
 show Fini _ _ _ _ _ _ _ T6 (mkF m 56 #[vr o0, vi (1 : Int32), vi (0 : Int32), su] [(.ref b6), (.ref o0), (.ref b6)])
 have F_8 : Fld Z h6 o0 "java/util/ArrayList" "elementData" "[Ljava/lang/Object;" (.ref dd) := (F_el.ext E6)
 have Ex_9 : Exa Z h6 o0 "java/util/ArrayList" := (E_o0.ext E6)
 obtain ⟨T7, h7, X7, e7, W7, st7⟩ := putF X6 hx hZ hown (host := "") (Or.inl (wq hw (i := 40) rfl)) Via.refl e6 F_8 Ex_9 (Or.inl (wq hw (i := 41) rfl)) (wq hw (i := 19) rfl) (ty := (.array (.object "java/lang/Object"))) (by decide) rfl rfl (g := (mkF m 56 #[vr o0, vi (1 : Int32), vi (0 : Int32), su] [(.ref b6), (.ref o0), (.ref b6)])) rfl rfl (hb hby d11_56)
 have Fw7 : Fld Z h7 o0 "java/util/ArrayList" "elementData" "[Ljava/lang/Object;" (.ref b6) := F_8.same W7
 refine Fini.st st7 ?_
 have N7 := Fr.snoc X7 N0 g0
 have Kp_10 : Keep h0 h7 [o0] := (Keep.wr (Keep.ext (Keep.refl h0 [o0]) E6) W7 (Or.inl (List.mem_of_getElem? (i := 0) rfl)))
 have Ex_11 : Exa Z h7 b6 "[Ljava/lang/Object;" := (Ea6.wr W7)
 have Ar_12 : AryR Z h7 b6 "java/lang/Object" (10 : Int32) (fun _ => .null) := (Ar6.other W7 (Ne.symm ne_o0_b6))
 have F_13 : Fld Z h7 o0 "java/util/AbstractList" "modCount" "I" (.int mc) := ((F_mod.ext E6).other W7 (Or.inr (slot_ne (Or.inl (wq hw (i := 38) rfl)) (Or.inl (wq hw (i := 41) rfl)) (by decide) (t := .int) (t' := (.array (.object "java/lang/Object"))) (by decide) (by decide))))
 have F_14 : Fld Z h7 o0 "java/util/ArrayList" "size" "I" (.int (0 : Int32)) := ((F_sz.ext E6).other W7 (Or.inr (slot_ne (Or.inl (wq hw (i := 61) rfl)) (Or.inl (wq hw (i := 41) rfl)) (by decide) (t := .int) (t' := (.array (.object "java/lang/Object"))) (by decide) (by decide))))
 exact Fini.retA X7 hx hlk Bd.returns rfl (hb hby d11_59) rfl rfl (by decide) (by decide) ⟨_, rfl, N7, (by rw [e7]; exact Kp_10), sz_b6, ge_b6, (by rw [e7]; exact Ex_11), (by rw [e7]; exact Ar_12), (by rw [e7]; exact F_13), (by rw [e7]; exact F_14), (by rw [e7]; exact Fw7)⟩
theorem pd_4 : parseMethodDescriptor "(I)[Ljava/lang/Object;" = some ⟨[.int], some (.array (.object "java/lang/Object"))⟩ := by decide +kernel
theorem d10_0 : decode jdk_38_method_7_code 0 = .ok (.aload_n 0, 1) := by decide +kernel
theorem d10_1 : decode jdk_38_method_7_code 1 = .ok (.aload_n 0, 1) := by decide +kernel
theorem d10_2 : decode jdk_38_method_7_code 2 = .ok (.getfield 48, 3) := by decide +kernel
theorem d10_5 : decode jdk_38_method_7_code 5 = .ok (.iconst 1, 1) := by decide +kernel
theorem d10_6 : decode jdk_38_method_7_code 6 = .ok (.iadd, 1) := by decide +kernel
theorem d10_7 : decode jdk_38_method_7_code 7 = .ok (.invokevirtual 69, 3) := by decide +kernel
theorem d10_10 : decode jdk_38_method_7_code 10 = .ok (.areturn, 1) := by decide +kernel
theorem ef10 (m : MethodId) (x0 : Addr) : entryFrame m #[(.ref x0)] 1 = mkF m 0 #[.val (.ref x0)] [] := by first | (simp [entryFrame, mkF, argsToLocals, Value.category]; done) | rfl
set_option maxRecDepth 65536 in
set_option maxHeartbeats 40000000 in
theorem rm10 (l : Launch) (Z : State) (a0 : Array Value) (hw : ∀ d ∈ tables_1, d.before a0 Z = true) (ws : List Jvm.Cond) (o0 : Addr) (dd : Addr) (mc : Int32) (h0 : Heap) (n0 : Nat) (Z0 : n0 ≤ h0.size) (E_o0 : Exa Z h0 o0 "java/util/ArrayList") (F_mod : Fld Z h0 o0 "java/util/AbstractList" "modCount" "I" (.int mc)) (F_sz : Fld Z h0 o0 "java/util/ArrayList" "size" "I" (.int (0 : Int32))) (F_el : Fld Z h0 o0 "java/util/ArrayList" "elementData" "[Ljava/lang/Object;" (.ref dd)) (D0 : Old Z n0 h0) (S_dd : Sta Z Z.heap "java/util/ArrayList" "DEFAULTCAPACITY_EMPTY_ELEMENTDATA" "[Ljava/lang/Object;" (.ref dd)) (A_dd : AryQ Z Z.heap dd (0 : Int32)) (g0 : n0 ≤ o0) :
  Cmet l Z (⟨"java/util/ArrayList", "grow", "()[Ljava/lang/Object;"⟩ : MethodName) jdk_38_method_7_code 1 (some (.array (.object "java/lang/Object"))) ws ({ frames := 2, cells := 1, slots := 10, locals := 29 } : Room) #[(.ref o0)] h0 (fun v h' L => ∃ b, v = some (.ref b) ∧ Fr n0 L ∧ Keep h0 h' [o0] ∧ h0.size ≤ b ∧ n0 ≤ b ∧ Exa Z h' b "[Ljava/lang/Object;" ∧ AryR Z h' b "java/lang/Object" (10 : Int32) (fun _ => .null) ∧ Fld Z h' o0 "java/util/AbstractList" "modCount" "I" (.int mc) ∧ Fld Z h' o0 "java/util/ArrayList" "size" "I" (.int (0 : Int32)) ∧ Fld Z h' o0 "java/util/ArrayList" "elementData" "[Ljava/lang/Object;" (.ref b)) := by
 refine MetFree.of_bodySF (plainFor_of_name pn_4) hisR ?_
 intro p e s m args below meth c s₁ Bd hml0 hP hK
 obtain ⟨rfl, hZ, hh⟩ := hP
 have hx := Bd.exec
 have hlk : meth.locks = false := BodyLoose.notSynchronized Bd
 have hby := Bd.bytes
 have hml : c.maxLocals = 1 := hml0
 have hown : s.vm.findClass "java/util/ArrayList" = some m.cls := findClass_of_methodNamed Bd.named
 have hnm := (name_of_methodNamed Bd.named Bd.method).1
 have X0 : Stand p l e ({ frames := 2, cells := 1, slots := 10, locals := 29 } : Room) s m #[(.ref o0)] below meth c s₁ [] 0 0 := Stand.of_body Bd
 have e0 : s₁.heap = h0 := by rw [← hh, Bd.state]; rfl
 have N0 := Fr.nil n0
 show Fini p e below s (fun v h' L => ∃ b, v = some (.ref b) ∧ Fr n0 L ∧ Keep h0 h' [o0] ∧ h0.size ≤ b ∧ n0 ≤ b ∧ Exa Z h' b "[Ljava/lang/Object;" ∧ AryR Z h' b "java/lang/Object" (10 : Int32) (fun _ => .null) ∧ Fld Z h' o0 "java/util/AbstractList" "modCount" "I" (.int mc) ∧ Fld Z h' o0 "java/util/ArrayList" "size" "I" (.int (0 : Int32)) ∧ Fld Z h' o0 "java/util/ArrayList" "elementData" "[Ljava/lang/Object;" (.ref b)) _ _ s₁ (entryFrame m #[(.ref o0)] 1)
 refine Fini.cast (ef10 m o0) ?_
 show Fini _ _ _ _ _ _ _ s₁ (mkF m 0 #[vr o0] [])
 refine fAN X0 hx hby d10_0 rfl rfl rfl ?_
 refine fAN X0 hx hby d10_1 rfl rfl rfl ?_
 obtain ⟨T1, X1, e1, st1⟩ := getF X0 hx hZ hown (host := "") (Or.inl (wq hw (i := 60) rfl)) Via.refl e0 F_sz (g := (mkF m 2 #[vr o0] [(.ref o0), (.ref o0)])) rfl rfl (hb hby d10_2)
 refine Fini.st st1 ?_
 refine fC X1 hx hby d10_5 rfl ?_
 refine Fini.st (fun _ k => XS.iadd X1.here hx rfl (hb hby d10_6) rfl k) ?_
 obtain ⟨v2, T2, L2, X2, hQ2, st2⟩ := callP X1 hx hZ hown (wq hw (i := 85) rfl) (wq hw (i := 88) rfl) (wq hw (i := 86) rfl) (wq hw (i := 87) rfl) (wq hw (i := 20) rfl) (wq hw (i := 89) rfl) E_o0 (by decide) (rm11 l Z a0 hw [] o0 dd mc h0 n0 Z0 E_o0 F_mod F_sz F_el D0 S_dd A_dd g0) e1 (W := 0) (by decide) (by decide) (by decide) (by decide) (g := (mkF m 7 #[vr o0] [(.int (1 : Int32)), (.ref o0)])) rfl (by rw [hml]; rfl) (argsL := [(.int (1 : Int32))]) (rest := []) rfl (lenOf pd_4 rfl) rfl (by show 2 * 0 + _ ≤ _; exact Nat.le_of_eq rfl) (hb hby d10_7)
 obtain ⟨b2, rfl, Nq2, K2, sz2, ge_b2, Ea2, Ar2, Fm2, Fs2, Fe2⟩ := hQ2
 have ne_o0_b2 : o0 ≠ b2 := Nat.ne_of_lt (Nat.lt_of_lt_of_le E_o0.lt sz2)
 have An_3 : AryQ Z h0 dd (0 : Int32) := (A_dd.ext D0.2)
 have ne_dd_b2 : dd ≠ b2 := Nat.ne_of_lt (Nat.lt_of_lt_of_le An_3.lt sz2)
 have sz_b2 : h0.size ≤ b2 := Nat.le_trans (Keep.refl h0 [o0]).1 sz2
 have N2 := Fr.app N0 Nq2
 refine Fini.st st2 ?_
 show Fini _ _ _ _ _ _ _ T2 (mkF m 10 #[vr o0] [(.ref b2)])
 have Kp_4 : Keep h0 T2.heap [o0] := (Keep.trans (Keep.refl h0 [o0]) K2 (allS (P := fun x => x ∈ _ ∨ _ ≤ x) (Or.inl (List.mem_of_getElem? (i := 0) rfl)) all0))
 exact Fini.retA X2 hx hlk Bd.returns rfl (hb hby d10_10) rfl rfl (by decide) (by decide) ⟨_, rfl, N2, Kp_4, sz_b2, ge_b2, Ea2, Ar2, Fm2, Fs2, Fe2⟩
theorem pd_5 : parseMethodDescriptor "()[Ljava/lang/Object;" = some ⟨[], some (.array (.object "java/lang/Object"))⟩ := by decide +kernel
theorem d9_0 : decode jdk_38_method_24_code 0 = .ok (.iload_n 3, 1) := by decide +kernel
theorem d9_1 : decode jdk_38_method_24_code 1 = .ok (.aload_n 2, 1) := by decide +kernel
theorem d9_2 : decode jdk_38_method_24_code 2 = .ok (.arraylength, 1) := by decide +kernel
theorem d9_3 : decode jdk_38_method_24_code 3 = .ok (.if_icmp .ne 8, 3) := by decide +kernel
theorem d9_6 : decode jdk_38_method_24_code 6 = .ok (.aload_n 0, 1) := by decide +kernel
theorem d9_7 : decode jdk_38_method_24_code 7 = .ok (.invokevirtual 129, 3) := by decide +kernel
theorem d9_10 : decode jdk_38_method_24_code 10 = .ok (.astore_n 2, 1) := by decide +kernel
theorem d9_11 : decode jdk_38_method_24_code 11 = .ok (.aload_n 2, 1) := by decide +kernel
theorem d9_12 : decode jdk_38_method_24_code 12 = .ok (.iload_n 3, 1) := by decide +kernel
theorem d9_13 : decode jdk_38_method_24_code 13 = .ok (.aload_n 1, 1) := by decide +kernel
theorem d9_14 : decode jdk_38_method_24_code 14 = .ok (.aastore, 1) := by decide +kernel
theorem d9_15 : decode jdk_38_method_24_code 15 = .ok (.aload_n 0, 1) := by decide +kernel
theorem d9_16 : decode jdk_38_method_24_code 16 = .ok (.iload_n 3, 1) := by decide +kernel
theorem d9_17 : decode jdk_38_method_24_code 17 = .ok (.iconst 1, 1) := by decide +kernel
theorem d9_18 : decode jdk_38_method_24_code 18 = .ok (.iadd, 1) := by decide +kernel
theorem d9_19 : decode jdk_38_method_24_code 19 = .ok (.putfield 48, 3) := by decide +kernel
theorem d9_22 : decode jdk_38_method_24_code 22 = .ok (.return_, 1) := by decide +kernel
theorem ef9e (m : MethodId) (x0 : Addr) (x1 : Addr) (x2 : Addr) (x3 : Int32) : entryFrame m #[(.ref x0), (.ref x1), (.ref x2), (.int x3)] 4 = mkF m 0 #[.val (.ref x0), .val (.ref x1), .val (.ref x2), .val (.int x3)] [] := by first | (simp [entryFrame, mkF, argsToLocals, Value.category]; done) | rfl
set_option maxRecDepth 65536 in
set_option maxHeartbeats 40000000 in
theorem rm9e (l : Launch) (Z : State) (a0 : Array Value) (hw : ∀ d ∈ tables_1, d.before a0 Z = true) (ws : List Jvm.Cond) (o0 : Addr) (o1 : Addr) (o2 : Addr) (mc : Int32) (h0 : Heap) (n0 : Nat) (Z0 : n0 ≤ h0.size) (E_o0 : Exa Z h0 o0 "java/util/ArrayList") (F_mod : Fld Z h0 o0 "java/util/AbstractList" "modCount" "I" (.int mc)) (F_sz : Fld Z h0 o0 "java/util/ArrayList" "size" "I" (.int (0 : Int32))) (F_el : Fld Z h0 o0 "java/util/ArrayList" "elementData" "[Ljava/lang/Object;" (.ref o2)) (D0 : Old Z n0 h0) (S_dd : Sta Z Z.heap "java/util/ArrayList" "DEFAULTCAPACITY_EMPTY_ELEMENTDATA" "[Ljava/lang/Object;" (.ref o2)) (A_dd : AryQ Z Z.heap o2 (0 : Int32)) (I_o1 : IsO Z h0 o1) (g0 : n0 ≤ o0) :
  Cmet l Z (⟨"java/util/ArrayList", "add", "(Ljava/lang/Object;[Ljava/lang/Object;I)V"⟩ : MethodName) jdk_38_method_24_code 4 none ws ({ frames := 3, cells := 1, slots := 10, locals := 41 } : Room) #[(.ref o0), (.ref o1), (.ref o2), (.int (0 : Int32))] h0 (fun v h' L => v = none ∧ Fr n0 L ∧ Keep h0 h' [o0] ∧ ∃ b, h0.size ≤ b ∧ n0 ≤ b ∧ o0 ≠ b ∧ Exa Z h' b "[Ljava/lang/Object;" ∧ AryR Z h' b "java/lang/Object" (10 : Int32) (upd (fun _ => .null) 0 (.ref o1)) ∧ Fld Z h' o0 "java/util/AbstractList" "modCount" "I" (.int mc) ∧ Fld Z h' o0 "java/util/ArrayList" "size" "I" (.int (1 : Int32)) ∧ Fld Z h' o0 "java/util/ArrayList" "elementData" "[Ljava/lang/Object;" (.ref b)) := by
 refine MetFree.of_bodySF (plainFor_of_name pn_4) hisR ?_
 intro p e s m args below meth c s₁ Bd hml0 hP hK
 obtain ⟨rfl, hZ, hh⟩ := hP
 have hx := Bd.exec
 have hlk : meth.locks = false := BodyLoose.notSynchronized Bd
 have hby := Bd.bytes
 have hml : c.maxLocals = 4 := hml0
 have hown : s.vm.findClass "java/util/ArrayList" = some m.cls := findClass_of_methodNamed Bd.named
 have hnm := (name_of_methodNamed Bd.named Bd.method).1
 have X0 : Stand p l e ({ frames := 3, cells := 1, slots := 10, locals := 41 } : Room) s m #[(.ref o0), (.ref o1), (.ref o2), (.int (0 : Int32))] below meth c s₁ [] 0 0 := Stand.of_body Bd
 have e0 : s₁.heap = h0 := by rw [← hh, Bd.state]; rfl
 have N0 := Fr.nil n0
 show Fini p e below s (fun v h' L => v = none ∧ Fr n0 L ∧ Keep h0 h' [o0] ∧ ∃ b, h0.size ≤ b ∧ n0 ≤ b ∧ o0 ≠ b ∧ Exa Z h' b "[Ljava/lang/Object;" ∧ AryR Z h' b "java/lang/Object" (10 : Int32) (upd (fun _ => .null) 0 (.ref o1)) ∧ Fld Z h' o0 "java/util/AbstractList" "modCount" "I" (.int mc) ∧ Fld Z h' o0 "java/util/ArrayList" "size" "I" (.int (1 : Int32)) ∧ Fld Z h' o0 "java/util/ArrayList" "elementData" "[Ljava/lang/Object;" (.ref b)) _ _ s₁ (entryFrame m #[(.ref o0), (.ref o1), (.ref o2), (.int (0 : Int32))] 4)
 refine Fini.cast (ef9e m o0 o1 o2 (0 : Int32)) ?_
 show Fini _ _ _ _ _ _ _ s₁ (mkF m 0 #[vr o0, vr o1, vr o2, vi (0 : Int32)] [])
 refine fIN X0 hx hby d9_0 rfl rfl ?_
 refine fAN X0 hx hby d9_1 rfl rfl rfl ?_
 show Fini _ _ _ _ _ _ _ s₁ (mkF m 2 #[vr o0, vr o1, vr o2, vi (0 : Int32)] [(.ref o2), (.int (0 : Int32))])
 have An_1 : AryQ Z h0 o2 (0 : Int32) := (A_dd.ext D0.2)
 refine Fini.st (fun _ k => An_1.len X0 hx hZ e0 rfl rfl (hb hby d9_2) k) ?_
 show Fini _ _ _ _ _ _ _ s₁ (mkF m 3 #[vr o0, vr o1, vr o2, vi (0 : Int32)] [(.int (0 : Int32)), (.int (0 : Int32))])
 refine Fini.st (fun _ k => XS.icmpNo X0.here hx rfl (hb hby d9_3) rfl (XT.ii_ne_f (by decide : (0 : Int32) = (0 : Int32))) k) ?_
 refine fAN X0 hx hby d9_6 rfl rfl rfl ?_
 obtain ⟨v2, T2, L2, X2, hQ2, st2⟩ := callP X0 hx hZ hown (wq hw (i := 80) rfl) (wq hw (i := 83) rfl) (wq hw (i := 81) rfl) (wq hw (i := 82) rfl) (wq hw (i := 20) rfl) (wq hw (i := 84) rfl) E_o0 (by decide) (rm10 l Z a0 hw [] o0 o2 mc h0 n0 Z0 E_o0 F_mod F_sz F_el D0 S_dd A_dd g0) e0 (W := 0) (by decide) (by decide) (by decide) (by decide) (g := (mkF m 7 #[vr o0, vr o1, vr o2, vi (0 : Int32)] [(.ref o0)])) rfl (by rw [hml]; rfl) (argsL := []) (rest := []) rfl (lenOf pd_5 rfl) rfl (by show 2 * 0 + _ ≤ _; exact Nat.le_of_eq rfl) (hb hby d9_7)
 obtain ⟨b2, rfl, Nq2, K2, sz2, ge_b2, Ea2, Ar2, Fm2, Fs2, Fe2⟩ := hQ2
 have ne_o0_b2 : o0 ≠ b2 := Nat.ne_of_lt (Nat.lt_of_lt_of_le E_o0.lt sz2)
 have ne_o2_b2 : o2 ≠ b2 := Nat.ne_of_lt (Nat.lt_of_lt_of_le An_1.lt sz2)
 have sz_b2 : h0.size ≤ b2 := Nat.le_trans (Keep.refl h0 [o0]).1 sz2
 have N2 := Fr.app N0 Nq2
 refine Fini.st st2 ?_
 show Fini _ _ _ _ _ _ _ T2 (mkF m 10 #[vr o0, vr o1, vr o2, vi (0 : Int32)] [(.ref b2)])
 refine Fini.st (fun _ k => XS.astoreN X2.here hx rfl (hb hby d9_10) rfl rfl (l' := #[vr o0, vr o1, vr b2, vi (0 : Int32)]) rfl k) ?_
 refine fAN X2 hx hby d9_11 rfl rfl rfl ?_
 refine fIN X2 hx hby d9_12 rfl rfl ?_
 refine fAN X2 hx hby d9_13 rfl rfl rfl ?_
 show Fini _ _ _ _ _ _ _ T2 (mkF m 14 #[vr o0, vr o1, vr b2, vi (0 : Int32)] [(.ref o1), (.int (0 : Int32)), (.ref b2)])
 have Of_4 : IsO Z T2.heap o1 := (I_o1.keep K2 trivial)
 obtain ⟨T3, h3, X3, e3, W3, Ar3, st3⟩ := Ar2.st X2 hx hZ rfl ⟨by decide, by decide⟩ (Or.inr ⟨_, rfl, Of_4⟩) (g := (mkF m 14 #[vr o0, vr o1, vr b2, vi (0 : Int32)] [(.ref o1), (.int (0 : Int32)), (.ref b2)])) rfl rfl (hb hby d9_14)
 refine Fini.st st3 ?_
 have N3 := Fr.snoc X3 N2 ge_b2
 refine fAN X3 hx hby d9_15 rfl rfl rfl ?_
 refine fIN X3 hx hby d9_16 rfl rfl ?_
 refine fC X3 hx hby d9_17 rfl ?_
 refine Fini.st (fun _ k => XS.iadd X3.here hx rfl (hb hby d9_18) rfl k) ?_
 have F_6 : Fld Z h3 o0 "java/util/ArrayList" "size" "I" (.int (0 : Int32)) := (Fs2.other W3 (Or.inl ne_o0_b2))
 have Ex_7 : Exa Z h3 o0 "java/util/ArrayList" := ((E_o0.keep K2).wr W3)
 obtain ⟨T5, h5, X5, e5, W5, st5⟩ := putF X3 hx hZ hown (host := "") (Or.inl (wq hw (i := 60) rfl)) Via.refl e3 F_6 Ex_7 (Or.inl (wq hw (i := 61) rfl)) (wq hw (i := 19) rfl) (ty := .int) (by decide) rfl rfl (g := (mkF m 19 #[vr o0, vr o1, vr b2, vi (0 : Int32)] [(.int (1 : Int32)), (.ref o0)])) rfl rfl (hb hby d9_19)
 have Fw5 : Fld Z h5 o0 "java/util/ArrayList" "size" "I" (.int (1 : Int32)) := F_6.same W5
 refine Fini.st st5 ?_
 have N5 := Fr.snoc X5 N3 g0
 have Kp_8 : Keep h0 h5 [o0] := (Keep.wr (Keep.wr (Keep.trans (Keep.refl h0 [o0]) K2 (allS (P := fun x => x ∈ _ ∨ _ ≤ x) (Or.inl (List.mem_of_getElem? (i := 0) rfl)) all0)) W3 (Or.inr sz_b2)) W5 (Or.inl (List.mem_of_getElem? (i := 0) rfl)))
 have Ex_9 : Exa Z h5 b2 "[Ljava/lang/Object;" := ((Ea2.wr W3).wr W5)
 have Ar_10 : AryR Z h5 b2 "java/lang/Object" (10 : Int32) (upd (fun _ => .null) 0 (.ref o1)) := (Ar3.other W5 (Ne.symm ne_o0_b2))
 have F_11 : Fld Z h5 o0 "java/util/AbstractList" "modCount" "I" (.int mc) := ((Fm2.other W3 (Or.inl ne_o0_b2)).other W5 (Or.inr (slot_ne (Or.inl (wq hw (i := 38) rfl)) (Or.inl (wq hw (i := 61) rfl)) (by decide) (t := .int) (t' := .int) (by decide) (by decide))))
 have F_12 : Fld Z h5 o0 "java/util/ArrayList" "elementData" "[Ljava/lang/Object;" (.ref b2) := ((Fe2.other W3 (Or.inl ne_o0_b2)).other W5 (Or.inr (slot_ne (Or.inl (wq hw (i := 41) rfl)) (Or.inl (wq hw (i := 61) rfl)) (by decide) (t := (.array (.object "java/lang/Object"))) (t' := .int) (by decide) (by decide))))
 exact Fini.ret0 X5 hx hlk Bd.returns (hb hby d9_22) (by decide) (by decide) ⟨rfl, N5, (by rw [e5]; exact Kp_8), _, sz_b2, ge_b2, ne_o0_b2, (by rw [e5]; exact Ex_9), (by rw [e5]; exact Ar_10), (by rw [e5]; exact F_11), (by rw [e5]; exact Fw5), (by rw [e5]; exact F_12)⟩
theorem ef9n (m : MethodId) (x0 : Addr) (x1 : Addr) (x2 : Addr) (x3 : Int32) : entryFrame m #[(.ref x0), (.ref x1), (.ref x2), (.int x3)] 4 = mkF m 0 #[.val (.ref x0), .val (.ref x1), .val (.ref x2), .val (.int x3)] [] := by first | (simp [entryFrame, mkF, argsToLocals, Value.category]; done) | rfl
set_option maxRecDepth 65536 in
set_option maxHeartbeats 40000000 in
theorem rm9n (l : Launch) (Z : State) (a0 : Array Value) (hw : ∀ d ∈ tables_1, d.before a0 Z = true) (ws : List Jvm.Cond) (o0 : Addr) (o1 : Addr) (o2 : Addr) (p3 : Int32) (mc : Int32) (u : Nat → Value) (h0 : Heap) (n0 : Nat) (Z0 : n0 ≤ h0.size) (E_o0 : Exa Z h0 o0 "java/util/ArrayList") (F_mod : Fld Z h0 o0 "java/util/AbstractList" "modCount" "I" (.int mc)) (F_sz : Fld Z h0 o0 "java/util/ArrayList" "size" "I" (.int p3)) (F_el : Fld Z h0 o0 "java/util/ArrayList" "elementData" "[Ljava/lang/Object;" (.ref o2)) (E_o2 : Exa Z h0 o2 "[Ljava/lang/Object;") (A_o2 : AryR Z h0 o2 "java/lang/Object" (10 : Int32) u) (I_o1 : IsO Z h0 o1) (g0 : n0 ≤ o0) (g2 : n0 ≤ o2) (n02 : o0 ≠ o2) (hq1 : ¬ p3 < (0 : Int32)) (hq2 : p3 < (10 : Int32)) (hq3 : ¬ p3 = (10 : Int32)) :
  Cmet l Z (⟨"java/util/ArrayList", "add", "(Ljava/lang/Object;[Ljava/lang/Object;I)V"⟩ : MethodName) jdk_38_method_24_code 4 none ws ({ frames := 0, cells := 0, slots := 0, locals := 0 } : Room) #[(.ref o0), (.ref o1), (.ref o2), (.int p3)] h0 (fun v h' L => v = none ∧ Fr n0 L ∧ Keep h0 h' [o0, o2] ∧ Exa Z h' o2 "[Ljava/lang/Object;" ∧ AryR Z h' o2 "java/lang/Object" (10 : Int32) (upd u (p3).toNatClampNeg (.ref o1)) ∧ Fld Z h' o0 "java/util/AbstractList" "modCount" "I" (.int mc) ∧ Fld Z h' o0 "java/util/ArrayList" "size" "I" (.int (p3 + (1 : Int32))) ∧ Fld Z h' o0 "java/util/ArrayList" "elementData" "[Ljava/lang/Object;" (.ref o2)) := by
 refine MetFree.of_bodySF (plainFor_of_name pn_4) hisR ?_
 intro p e s m args below meth c s₁ Bd hml0 hP hK
 obtain ⟨rfl, hZ, hh⟩ := hP
 have hx := Bd.exec
 have hlk : meth.locks = false := BodyLoose.notSynchronized Bd
 have hby := Bd.bytes
 have hml : c.maxLocals = 4 := hml0
 have hown : s.vm.findClass "java/util/ArrayList" = some m.cls := findClass_of_methodNamed Bd.named
 have hnm := (name_of_methodNamed Bd.named Bd.method).1
 have X0 : Stand p l e ({ frames := 0, cells := 0, slots := 0, locals := 0 } : Room) s m #[(.ref o0), (.ref o1), (.ref o2), (.int p3)] below meth c s₁ [] 0 0 := Stand.of_body Bd
 have e0 : s₁.heap = h0 := by rw [← hh, Bd.state]; rfl
 have N0 := Fr.nil n0
 show Fini p e below s (fun v h' L => v = none ∧ Fr n0 L ∧ Keep h0 h' [o0, o2] ∧ Exa Z h' o2 "[Ljava/lang/Object;" ∧ AryR Z h' o2 "java/lang/Object" (10 : Int32) (upd u (p3).toNatClampNeg (.ref o1)) ∧ Fld Z h' o0 "java/util/AbstractList" "modCount" "I" (.int mc) ∧ Fld Z h' o0 "java/util/ArrayList" "size" "I" (.int (p3 + (1 : Int32))) ∧ Fld Z h' o0 "java/util/ArrayList" "elementData" "[Ljava/lang/Object;" (.ref o2)) _ _ s₁ (entryFrame m #[(.ref o0), (.ref o1), (.ref o2), (.int p3)] 4)
 refine Fini.cast (ef9n m o0 o1 o2 p3) ?_
 show Fini _ _ _ _ _ _ _ s₁ (mkF m 0 #[vr o0, vr o1, vr o2, vi p3] [])
 refine fIN X0 hx hby d9_0 rfl rfl ?_
 refine fAN X0 hx hby d9_1 rfl rfl rfl ?_
 show Fini _ _ _ _ _ _ _ s₁ (mkF m 2 #[vr o0, vr o1, vr o2, vi p3] [(.ref o2), (.int p3)])
 refine Fini.st (fun _ k => A_o2.len X0 hx hZ e0 rfl rfl (hb hby d9_2) k) ?_
 show Fini _ _ _ _ _ _ _ s₁ (mkF m 3 #[vr o0, vr o1, vr o2, vi p3] [(.int (10 : Int32)), (.int p3)])
 refine Fini.st (fun _ k => XS.icmpYes X0.here hx rfl (pc0 := 3) (pc' := 11) rfl (hb hby d9_3) rfl (XT.ii_ne_t hq3) (by decide) (by decide) k) ?_
 refine fAN X0 hx hby d9_11 rfl rfl rfl ?_
 refine fIN X0 hx hby d9_12 rfl rfl ?_
 refine fAN X0 hx hby d9_13 rfl rfl rfl ?_
 show Fini _ _ _ _ _ _ _ s₁ (mkF m 14 #[vr o0, vr o1, vr o2, vi p3] [(.ref o1), (.int p3), (.ref o2)])
 obtain ⟨T1, h1, X1, e1, W1, Ar1, st1⟩ := A_o2.st X0 hx hZ e0 ⟨hq1, hq2⟩ (Or.inr ⟨_, rfl, I_o1⟩) (g := (mkF m 14 #[vr o0, vr o1, vr o2, vi p3] [(.ref o1), (.int p3), (.ref o2)])) rfl rfl (hb hby d9_14)
 refine Fini.st st1 ?_
 have N1 := Fr.snoc X1 N0 g2
 refine fAN X1 hx hby d9_15 rfl rfl rfl ?_
 refine fIN X1 hx hby d9_16 rfl rfl ?_
 refine fC X1 hx hby d9_17 rfl ?_
 refine Fini.st (fun _ k => XS.iadd X1.here hx rfl (hb hby d9_18) rfl k) ?_
 have F_3 : Fld Z h1 o0 "java/util/ArrayList" "size" "I" (.int p3) := (F_sz.other W1 (Or.inl n02))
 have Ex_4 : Exa Z h1 o0 "java/util/ArrayList" := (E_o0.wr W1)
 obtain ⟨T2, h2, X2, e2, W2, st2⟩ := putF X1 hx hZ hown (host := "") (Or.inl (wq hw (i := 60) rfl)) Via.refl e1 F_3 Ex_4 (Or.inl (wq hw (i := 61) rfl)) (wq hw (i := 19) rfl) (ty := .int) (by decide) rfl rfl (g := (mkF m 19 #[vr o0, vr o1, vr o2, vi p3] [(.int (p3 + (1 : Int32))), (.ref o0)])) rfl rfl (hb hby d9_19)
 have Fw2 : Fld Z h2 o0 "java/util/ArrayList" "size" "I" (.int (p3 + (1 : Int32))) := F_3.same W2
 refine Fini.st st2 ?_
 have N2 := Fr.snoc X2 N1 g0
 have Kp_5 : Keep h0 h2 [o0, o2] := (Keep.wr (Keep.wr (Keep.refl h0 [o0, o2]) W1 (Or.inl (List.mem_of_getElem? (i := 1) rfl))) W2 (Or.inl (List.mem_of_getElem? (i := 0) rfl)))
 have Ex_6 : Exa Z h2 o2 "[Ljava/lang/Object;" := ((E_o2.wr W1).wr W2)
 have Ar_7 : AryR Z h2 o2 "java/lang/Object" (10 : Int32) (upd u (p3).toNatClampNeg (.ref o1)) := (Ar1.other W2 (Ne.symm n02))
 have F_8 : Fld Z h2 o0 "java/util/AbstractList" "modCount" "I" (.int mc) := ((F_mod.other W1 (Or.inl n02)).other W2 (Or.inr (slot_ne (Or.inl (wq hw (i := 38) rfl)) (Or.inl (wq hw (i := 61) rfl)) (by decide) (t := .int) (t' := .int) (by decide) (by decide))))
 have F_9 : Fld Z h2 o0 "java/util/ArrayList" "elementData" "[Ljava/lang/Object;" (.ref o2) := ((F_el.other W1 (Or.inl n02)).other W2 (Or.inr (slot_ne (Or.inl (wq hw (i := 41) rfl)) (Or.inl (wq hw (i := 61) rfl)) (by decide) (t := (.array (.object "java/lang/Object"))) (t' := .int) (by decide) (by decide))))
 exact Fini.ret0 X2 hx hlk Bd.returns (hb hby d9_22) (by decide) (by decide) ⟨rfl, N2, (by rw [e2]; exact Kp_5), (by rw [e2]; exact Ex_6), (by rw [e2]; exact Ar_7), (by rw [e2]; exact F_8), (by rw [e2]; exact Fw2), (by rw [e2]; exact F_9)⟩
theorem pd_6 : parseMethodDescriptor "(Ljava/lang/Object;[Ljava/lang/Object;I)V" = some ⟨[(.object "java/lang/Object"), (.array (.object "java/lang/Object")), .int], none⟩ := by decide +kernel
theorem d8_0 : decode jdk_38_method_25_code 0 = .ok (.aload_n 0, 1) := by decide +kernel
theorem d8_1 : decode jdk_38_method_25_code 1 = .ok (.dup, 1) := by decide +kernel
theorem d8_2 : decode jdk_38_method_25_code 2 = .ok (.getfield 63, 3) := by decide +kernel
theorem d8_5 : decode jdk_38_method_25_code 5 = .ok (.iconst 1, 1) := by decide +kernel
theorem d8_6 : decode jdk_38_method_25_code 6 = .ok (.iadd, 1) := by decide +kernel
theorem d8_7 : decode jdk_38_method_25_code 7 = .ok (.putfield 63, 3) := by decide +kernel
theorem d8_10 : decode jdk_38_method_25_code 10 = .ok (.aload_n 0, 1) := by decide +kernel
theorem d8_11 : decode jdk_38_method_25_code 11 = .ok (.aload_n 1, 1) := by decide +kernel
theorem d8_12 : decode jdk_38_method_25_code 12 = .ok (.aload_n 0, 1) := by decide +kernel
theorem d8_13 : decode jdk_38_method_25_code 13 = .ok (.getfield 9, 3) := by decide +kernel
theorem d8_16 : decode jdk_38_method_25_code 16 = .ok (.aload_n 0, 1) := by decide +kernel
theorem d8_17 : decode jdk_38_method_25_code 17 = .ok (.getfield 48, 3) := by decide +kernel
theorem d8_20 : decode jdk_38_method_25_code 20 = .ok (.invokevirtual 131, 3) := by decide +kernel
theorem d8_23 : decode jdk_38_method_25_code 23 = .ok (.iconst 1, 1) := by decide +kernel
theorem d8_24 : decode jdk_38_method_25_code 24 = .ok (.ireturn, 1) := by decide +kernel
theorem ef8e (m : MethodId) (x0 : Addr) (x1 : Addr) : entryFrame m #[(.ref x0), (.ref x1)] 2 = mkF m 0 #[.val (.ref x0), .val (.ref x1)] [] := by first | (simp [entryFrame, mkF, argsToLocals, Value.category]; done) | rfl
set_option maxRecDepth 65536 in
set_option maxHeartbeats 40000000 in
theorem rm8e (l : Launch) (Z : State) (a0 : Array Value) (hw : ∀ d ∈ tables_1, d.before a0 Z = true) (ws : List Jvm.Cond) (o0 : Addr) (o1 : Addr) (dd : Addr) (mc : Int32) (h0 : Heap) (n0 : Nat) (Z0 : n0 ≤ h0.size) (E_o0 : Exa Z h0 o0 "java/util/ArrayList") (F_mod : Fld Z h0 o0 "java/util/AbstractList" "modCount" "I" (.int mc)) (F_sz : Fld Z h0 o0 "java/util/ArrayList" "size" "I" (.int (0 : Int32))) (F_el : Fld Z h0 o0 "java/util/ArrayList" "elementData" "[Ljava/lang/Object;" (.ref dd)) (D0 : Old Z n0 h0) (S_dd : Sta Z Z.heap "java/util/ArrayList" "DEFAULTCAPACITY_EMPTY_ELEMENTDATA" "[Ljava/lang/Object;" (.ref dd)) (A_dd : AryQ Z Z.heap dd (0 : Int32)) (I_o1 : IsO Z h0 o1) (g0 : n0 ≤ o0) :
  Cmet l Z (⟨"java/util/ArrayList", "add", "(Ljava/lang/Object;)Z"⟩ : MethodName) jdk_38_method_25_code 2 (some .boolean) ws ({ frames := 4, cells := 1, slots := 10, locals := 56 } : Room) #[(.ref o0), (.ref o1)] h0 (fun v h' L => v = some (.int 1) ∧ Fr n0 L ∧ Keep h0 h' [o0] ∧ ∃ b, h0.size ≤ b ∧ n0 ≤ b ∧ o0 ≠ b ∧ Exa Z h' b "[Ljava/lang/Object;" ∧ AryR Z h' b "java/lang/Object" (10 : Int32) (upd (fun _ => .null) 0 (.ref o1)) ∧ Fld Z h' o0 "java/util/AbstractList" "modCount" "I" (.int (mc + (1 : Int32))) ∧ Fld Z h' o0 "java/util/ArrayList" "size" "I" (.int (1 : Int32)) ∧ Fld Z h' o0 "java/util/ArrayList" "elementData" "[Ljava/lang/Object;" (.ref b)) := by
 refine MetFree.of_bodySF (plainFor_of_name pn_4) hisR ?_
 intro p e s m args below meth c s₁ Bd hml0 hP hK
 obtain ⟨rfl, hZ, hh⟩ := hP
 have hx := Bd.exec
 have hlk : meth.locks = false := BodyLoose.notSynchronized Bd
 have hby := Bd.bytes
 have hml : c.maxLocals = 2 := hml0
 have hown : s.vm.findClass "java/util/ArrayList" = some m.cls := findClass_of_methodNamed Bd.named
 have hnm := (name_of_methodNamed Bd.named Bd.method).1
 have X0 : Stand p l e ({ frames := 4, cells := 1, slots := 10, locals := 56 } : Room) s m #[(.ref o0), (.ref o1)] below meth c s₁ [] 0 0 := Stand.of_body Bd
 have e0 : s₁.heap = h0 := by rw [← hh, Bd.state]; rfl
 have N0 := Fr.nil n0
 show Fini p e below s (fun v h' L => v = some (.int 1) ∧ Fr n0 L ∧ Keep h0 h' [o0] ∧ ∃ b, h0.size ≤ b ∧ n0 ≤ b ∧ o0 ≠ b ∧ Exa Z h' b "[Ljava/lang/Object;" ∧ AryR Z h' b "java/lang/Object" (10 : Int32) (upd (fun _ => .null) 0 (.ref o1)) ∧ Fld Z h' o0 "java/util/AbstractList" "modCount" "I" (.int (mc + (1 : Int32))) ∧ Fld Z h' o0 "java/util/ArrayList" "size" "I" (.int (1 : Int32)) ∧ Fld Z h' o0 "java/util/ArrayList" "elementData" "[Ljava/lang/Object;" (.ref b)) _ _ s₁ (entryFrame m #[(.ref o0), (.ref o1)] 2)
 refine Fini.cast (ef8e m o0 o1) ?_
 show Fini _ _ _ _ _ _ _ s₁ (mkF m 0 #[vr o0, vr o1] [])
 refine fAN X0 hx hby d8_0 rfl rfl rfl ?_
 refine Fini.st (fun _ k => XS.dup X0.here hx rfl (hb hby d8_1) rfl rfl k) ?_
 obtain ⟨T1, X1, e1, st1⟩ := getF X0 hx hZ hown (host := "") (Or.inl (wq hw (i := 73) rfl)) (Via.of (wq hw (i := 74) rfl)) e0 F_mod (g := (mkF m 2 #[vr o0, vr o1] [(.ref o0), (.ref o0)])) rfl rfl (hb hby d8_2)
 refine Fini.st st1 ?_
 refine fC X1 hx hby d8_5 rfl ?_
 refine Fini.st (fun _ k => XS.iadd X1.here hx rfl (hb hby d8_6) rfl k) ?_
 obtain ⟨T2, h2, X2, e2, W2, st2⟩ := putF X1 hx hZ hown (host := "") (Or.inl (wq hw (i := 73) rfl)) (Via.of (wq hw (i := 74) rfl)) e1 F_mod E_o0 (Or.inl (wq hw (i := 38) rfl)) (wq hw (i := 19) rfl) (ty := .int) (by decide) rfl rfl (g := (mkF m 7 #[vr o0, vr o1] [(.int (mc + (1 : Int32))), (.ref o0)])) rfl rfl (hb hby d8_7)
 have Fw2 : Fld Z h2 o0 "java/util/AbstractList" "modCount" "I" (.int (mc + (1 : Int32))) := F_mod.same W2
 refine Fini.st st2 ?_
 have N2 := Fr.snoc X2 N0 g0
 refine fAN X2 hx hby d8_10 rfl rfl rfl ?_
 refine fAN X2 hx hby d8_11 rfl rfl rfl ?_
 refine fAN X2 hx hby d8_12 rfl rfl rfl ?_
 have F_4 : Fld Z h2 o0 "java/util/ArrayList" "elementData" "[Ljava/lang/Object;" (.ref dd) := (F_el.other W2 (Or.inr (slot_ne (Or.inl (wq hw (i := 41) rfl)) (Or.inl (wq hw (i := 38) rfl)) (by decide) (t := (.array (.object "java/lang/Object"))) (t' := .int) (by decide) (by decide))))
 obtain ⟨T3, X3, e3, st3⟩ := getF X2 hx hZ hown (host := "") (Or.inl (wq hw (i := 40) rfl)) Via.refl e2 F_4 (g := (mkF m 13 #[vr o0, vr o1] [(.ref o0), (.ref o1), (.ref o0)])) rfl rfl (hb hby d8_13)
 refine Fini.st st3 ?_
 refine fAN X3 hx hby d8_16 rfl rfl rfl ?_
 have F_6 : Fld Z h2 o0 "java/util/ArrayList" "size" "I" (.int (0 : Int32)) := (F_sz.other W2 (Or.inr (slot_ne (Or.inl (wq hw (i := 61) rfl)) (Or.inl (wq hw (i := 38) rfl)) (by decide) (t := .int) (t' := .int) (by decide) (by decide))))
 obtain ⟨T5, X5, e5, st5⟩ := getF X3 hx hZ hown (host := "") (Or.inl (wq hw (i := 60) rfl)) Via.refl e3 F_6 (g := (mkF m 17 #[vr o0, vr o1] [(.ref o0), (.ref dd), (.ref o1), (.ref o0)])) rfl rfl (hb hby d8_17)
 refine Fini.st st5 ?_
 have Zs_8 : n0 ≤ h2.size := (Nat.le_trans Z0 (Nat.le_of_eq W2.size.symm))
 have Ex_9 : Exa Z h2 o0 "java/util/ArrayList" := (E_o0.wr W2)
 have Od_10 : Old Z n0 h2 := (Old.wr D0 W2 g0)
 have Of_11 : IsO Z h2 o1 := (I_o1.wrO W2)
 obtain ⟨v7, T7, L7, X7, hQ7, st7⟩ := callP X5 hx hZ hown (wq hw (i := 75) rfl) (wq hw (i := 78) rfl) (wq hw (i := 76) rfl) (wq hw (i := 77) rfl) (wq hw (i := 20) rfl) (wq hw (i := 79) rfl) Ex_9 (by decide) (rm9e l Z a0 hw [] o0 o1 dd (mc + (1 : Int32)) h2 n0 Zs_8 Ex_9 Fw2 F_6 F_4 Od_10 S_dd A_dd Of_11 g0) e5 (W := 0) (by decide) (by decide) (by decide) (by decide) (g := (mkF m 20 #[vr o0, vr o1] [(.int (0 : Int32)), (.ref dd), (.ref o1), (.ref o0)])) rfl (by rw [hml]; rfl) (argsL := [(.ref o1), (.ref dd), (.int (0 : Int32))]) (rest := []) rfl (lenOf pd_6 rfl) rfl (by show 2 * 0 + _ ≤ _; exact Nat.le_of_eq rfl) (hb hby d8_20)
 obtain ⟨rfl, Nq7, K7, b7, sz7, ge_b7, nq7, Ea7, Ar7, Fm7, Fs7, Fe7⟩ := hQ7
 have ne_o0_b7 : o0 ≠ b7 := Nat.ne_of_lt (Nat.lt_of_lt_of_le Ex_9.lt sz7)
 have An_12 : AryQ Z h2 dd (0 : Int32) := (A_dd.ext Od_10.2)
 have ne_dd_b7 : dd ≠ b7 := Nat.ne_of_lt (Nat.lt_of_lt_of_le An_12.lt sz7)
 have Kp_13 : Keep h0 h2 [o0] := (Keep.wr (Keep.refl h0 [o0]) W2 (Or.inl (List.mem_of_getElem? (i := 0) rfl)))
 have sz_b7 : h0.size ≤ b7 := Nat.le_trans Kp_13.1 sz7
 have N7 := Fr.app N2 Nq7
 refine Fini.st st7 ?_
 show Fini _ _ _ _ _ _ _ T7 (mkF m 23 #[vr o0, vr o1] [])
 refine fC X7 hx hby d8_23 rfl ?_
 have Kp_14 : Keep h0 T7.heap [o0] := (Keep.trans Kp_13 K7 (allS (P := fun x => x ∈ _ ∨ _ ≤ x) (Or.inl (List.mem_of_getElem? (i := 0) rfl)) all0))
 exact Fini.retN X7 hx hlk (t := .boolean) Bd.returns (by simp) (hb hby d8_24) nb1 (by decide) (by decide) ⟨rfl, N7, Kp_14, _, sz_b7, ge_b7, ne_o0_b7, Ea7, Ar7, Fm7, Fs7, Fe7⟩
theorem ef8n (m : MethodId) (x0 : Addr) (x1 : Addr) : entryFrame m #[(.ref x0), (.ref x1)] 2 = mkF m 0 #[.val (.ref x0), .val (.ref x1)] [] := by first | (simp [entryFrame, mkF, argsToLocals, Value.category]; done) | rfl
set_option maxRecDepth 65536 in
set_option maxHeartbeats 40000000 in
theorem rm8n (l : Launch) (Z : State) (a0 : Array Value) (hw : ∀ d ∈ tables_1, d.before a0 Z = true) (ws : List Jvm.Cond) (o0 : Addr) (o1 : Addr) (x : Addr) (mc : Int32) (sz : Int32) (u : Nat → Value) (h0 : Heap) (n0 : Nat) (Z0 : n0 ≤ h0.size) (E_o0 : Exa Z h0 o0 "java/util/ArrayList") (F_mod : Fld Z h0 o0 "java/util/AbstractList" "modCount" "I" (.int mc)) (F_sz : Fld Z h0 o0 "java/util/ArrayList" "size" "I" (.int sz)) (F_el : Fld Z h0 o0 "java/util/ArrayList" "elementData" "[Ljava/lang/Object;" (.ref x)) (E_x : Exa Z h0 x "[Ljava/lang/Object;") (A_x : AryR Z h0 x "java/lang/Object" (10 : Int32) u) (I_o1 : IsO Z h0 o1) (g0 : n0 ≤ o0) (g2 : n0 ≤ x) (n02 : o0 ≠ x) (hq1 : ¬ sz < (0 : Int32)) (hq2 : sz < (10 : Int32)) (hq3 : ¬ sz = (10 : Int32)) :
  Cmet l Z (⟨"java/util/ArrayList", "add", "(Ljava/lang/Object;)Z"⟩ : MethodName) jdk_38_method_25_code 2 (some .boolean) ws ({ frames := 4, cells := 1, slots := 10, locals := 56 } : Room) #[(.ref o0), (.ref o1)] h0 (fun v h' L => v = some (.int 1) ∧ Fr n0 L ∧ Keep h0 h' [o0, x] ∧ Exa Z h' x "[Ljava/lang/Object;" ∧ AryR Z h' x "java/lang/Object" (10 : Int32) (upd u (sz).toNatClampNeg (.ref o1)) ∧ Fld Z h' o0 "java/util/AbstractList" "modCount" "I" (.int (mc + (1 : Int32))) ∧ Fld Z h' o0 "java/util/ArrayList" "size" "I" (.int (sz + (1 : Int32))) ∧ Fld Z h' o0 "java/util/ArrayList" "elementData" "[Ljava/lang/Object;" (.ref x)) := by
 refine MetFree.of_bodySF (plainFor_of_name pn_4) hisR ?_
 intro p e s m args below meth c s₁ Bd hml0 hP hK
 obtain ⟨rfl, hZ, hh⟩ := hP
 have hx := Bd.exec
 have hlk : meth.locks = false := BodyLoose.notSynchronized Bd
 have hby := Bd.bytes
 have hml : c.maxLocals = 2 := hml0
 have hown : s.vm.findClass "java/util/ArrayList" = some m.cls := findClass_of_methodNamed Bd.named
 have hnm := (name_of_methodNamed Bd.named Bd.method).1
 have X0 : Stand p l e ({ frames := 4, cells := 1, slots := 10, locals := 56 } : Room) s m #[(.ref o0), (.ref o1)] below meth c s₁ [] 0 0 := Stand.of_body Bd
 have e0 : s₁.heap = h0 := by rw [← hh, Bd.state]; rfl
 have N0 := Fr.nil n0
 show Fini p e below s (fun v h' L => v = some (.int 1) ∧ Fr n0 L ∧ Keep h0 h' [o0, x] ∧ Exa Z h' x "[Ljava/lang/Object;" ∧ AryR Z h' x "java/lang/Object" (10 : Int32) (upd u (sz).toNatClampNeg (.ref o1)) ∧ Fld Z h' o0 "java/util/AbstractList" "modCount" "I" (.int (mc + (1 : Int32))) ∧ Fld Z h' o0 "java/util/ArrayList" "size" "I" (.int (sz + (1 : Int32))) ∧ Fld Z h' o0 "java/util/ArrayList" "elementData" "[Ljava/lang/Object;" (.ref x)) _ _ s₁ (entryFrame m #[(.ref o0), (.ref o1)] 2)
 refine Fini.cast (ef8n m o0 o1) ?_
 show Fini _ _ _ _ _ _ _ s₁ (mkF m 0 #[vr o0, vr o1] [])
 refine fAN X0 hx hby d8_0 rfl rfl rfl ?_
 refine Fini.st (fun _ k => XS.dup X0.here hx rfl (hb hby d8_1) rfl rfl k) ?_
 obtain ⟨T1, X1, e1, st1⟩ := getF X0 hx hZ hown (host := "") (Or.inl (wq hw (i := 73) rfl)) (Via.of (wq hw (i := 74) rfl)) e0 F_mod (g := (mkF m 2 #[vr o0, vr o1] [(.ref o0), (.ref o0)])) rfl rfl (hb hby d8_2)
 refine Fini.st st1 ?_
 refine fC X1 hx hby d8_5 rfl ?_
 refine Fini.st (fun _ k => XS.iadd X1.here hx rfl (hb hby d8_6) rfl k) ?_
 obtain ⟨T2, h2, X2, e2, W2, st2⟩ := putF X1 hx hZ hown (host := "") (Or.inl (wq hw (i := 73) rfl)) (Via.of (wq hw (i := 74) rfl)) e1 F_mod E_o0 (Or.inl (wq hw (i := 38) rfl)) (wq hw (i := 19) rfl) (ty := .int) (by decide) rfl rfl (g := (mkF m 7 #[vr o0, vr o1] [(.int (mc + (1 : Int32))), (.ref o0)])) rfl rfl (hb hby d8_7)
 have Fw2 : Fld Z h2 o0 "java/util/AbstractList" "modCount" "I" (.int (mc + (1 : Int32))) := F_mod.same W2
 refine Fini.st st2 ?_
 have N2 := Fr.snoc X2 N0 g0
 refine fAN X2 hx hby d8_10 rfl rfl rfl ?_
 refine fAN X2 hx hby d8_11 rfl rfl rfl ?_
 refine fAN X2 hx hby d8_12 rfl rfl rfl ?_
 have F_4 : Fld Z h2 o0 "java/util/ArrayList" "elementData" "[Ljava/lang/Object;" (.ref x) := (F_el.other W2 (Or.inr (slot_ne (Or.inl (wq hw (i := 41) rfl)) (Or.inl (wq hw (i := 38) rfl)) (by decide) (t := (.array (.object "java/lang/Object"))) (t' := .int) (by decide) (by decide))))
 obtain ⟨T3, X3, e3, st3⟩ := getF X2 hx hZ hown (host := "") (Or.inl (wq hw (i := 40) rfl)) Via.refl e2 F_4 (g := (mkF m 13 #[vr o0, vr o1] [(.ref o0), (.ref o1), (.ref o0)])) rfl rfl (hb hby d8_13)
 refine Fini.st st3 ?_
 refine fAN X3 hx hby d8_16 rfl rfl rfl ?_
 have F_6 : Fld Z h2 o0 "java/util/ArrayList" "size" "I" (.int sz) := (F_sz.other W2 (Or.inr (slot_ne (Or.inl (wq hw (i := 61) rfl)) (Or.inl (wq hw (i := 38) rfl)) (by decide) (t := .int) (t' := .int) (by decide) (by decide))))
 obtain ⟨T5, X5, e5, st5⟩ := getF X3 hx hZ hown (host := "") (Or.inl (wq hw (i := 60) rfl)) Via.refl e3 F_6 (g := (mkF m 17 #[vr o0, vr o1] [(.ref o0), (.ref x), (.ref o1), (.ref o0)])) rfl rfl (hb hby d8_17)
 refine Fini.st st5 ?_
 have Zs_8 : n0 ≤ h2.size := (Nat.le_trans Z0 (Nat.le_of_eq W2.size.symm))
 have Ex_9 : Exa Z h2 o0 "java/util/ArrayList" := (E_o0.wr W2)
 have Ex_10 : Exa Z h2 x "[Ljava/lang/Object;" := (E_x.wr W2)
 have Ar_11 : AryR Z h2 x "java/lang/Object" (10 : Int32) u := (A_x.other W2 (Ne.symm n02))
 have Of_12 : IsO Z h2 o1 := (I_o1.wrO W2)
 obtain ⟨v7, T7, L7, X7, hQ7, st7⟩ := callP X5 hx hZ hown (wq hw (i := 75) rfl) (wq hw (i := 78) rfl) (wq hw (i := 76) rfl) (wq hw (i := 77) rfl) (wq hw (i := 20) rfl) (wq hw (i := 79) rfl) Ex_9 (by decide) (rm9n l Z a0 hw [] o0 o1 x sz (mc + (1 : Int32)) u h2 n0 Zs_8 Ex_9 Fw2 F_6 F_4 Ex_10 Ar_11 Of_12 g0 g2 n02 hq1 hq2 hq3) e5 (W := 0) (by decide) (by decide) (by decide) (by decide) (g := (mkF m 20 #[vr o0, vr o1] [(.int sz), (.ref x), (.ref o1), (.ref o0)])) rfl (by rw [hml]; rfl) (argsL := [(.ref o1), (.ref x), (.int sz)]) (rest := []) rfl (lenOf pd_6 rfl) rfl (by show 2 * 0 + _ ≤ _; exact Nat.le_of_eq rfl) (hb hby d8_20)
 obtain ⟨rfl, Nq7, K7, Ea7, Ar7, Fm7, Fs7, Fe7⟩ := hQ7
 have N7 := Fr.app N2 Nq7
 refine Fini.st st7 ?_
 show Fini _ _ _ _ _ _ _ T7 (mkF m 23 #[vr o0, vr o1] [])
 refine fC X7 hx hby d8_23 rfl ?_
 have Kp_13 : Keep h0 T7.heap [o0, x] := (Keep.trans (Keep.wr (Keep.refl h0 [o0, x]) W2 (Or.inl (List.mem_of_getElem? (i := 0) rfl))) K7 (allS (P := fun x => x ∈ _ ∨ _ ≤ x) (Or.inl (List.mem_of_getElem? (i := 0) rfl)) (allS (P := fun x => x ∈ _ ∨ _ ≤ x) (Or.inl (List.mem_of_getElem? (i := 1) rfl)) all0)))
 exact Fini.retN X7 hx hlk (t := .boolean) Bd.returns (by simp) (hb hby d8_24) nb1 (by decide) (by decide) ⟨rfl, N7, Kp_13, Ea7, Ar7, Fm7, Fs7, Fe7⟩
theorem c8 (l : Launch) (Z : State) (a0 : Array Value) (hw : ∀ d ∈ tables_1, d.before a0 Z = true) (h0 : Heap) (n0 : Nat) (Z0 : n0 ≤ h0.size) {B : Nat} {dd a x : Addr} {n : Int32} {u : Nat → Value} (A : ALs Z B dd h0 a x n u) {o1 : Addr} (hB : n0 ≤ B) (ga : n0 ≤ a) (hn : n < (10 : Int32)) (D0 : Old Z n0 h0) (S_dd : Sta Z Z.heap "java/util/ArrayList" "DEFAULTCAPACITY_EMPTY_ELEMENTDATA" "[Ljava/lang/Object;" (.ref dd)) (A_dd : AryQ Z Z.heap dd (0 : Int32)) (I_o1 : IsO Z h0 o1) (BZ : B ≤ h0.size) : Cmet l Z (⟨"java/util/ArrayList", "add", "(Ljava/lang/Object;)Z"⟩ : MethodName) jdk_38_method_25_code 2 (some .boolean) [] ({ frames := 4, cells := 1, slots := 10, locals := 56 } : Room) #[.ref a, .ref o1] h0 (fun v h' L => v = some (.int 1) ∧ Fr n0 L ∧ ∃ x', Keep h0 h' [a, x'] ∧ ((x' = x ∧ B ≤ x) ∨ h0.size ≤ x') ∧ B ≤ x' ∧ ALs Z B dd h' a x' (n + (1 : Int32)) (upd u n.toNatClampNeg (.ref o1))) := by
 obtain ⟨f1, ⟨mc, f2⟩, f3, f4, f5, f6, ⟨rfl, rfl, rfl, A1⟩ | ⟨r1, r2, r3, r4, r5⟩⟩ := A
 ·
  refine Cmet.mono (rm8e l Z a0 hw [] a o1 x mc h0 n0 Z0 f1 f2 f4 f3 D0 S_dd A_dd I_o1 ga) fun v h' L hQ => ?_
  obtain ⟨rfl, q1, q2, b, q3, q4, q5, q6, q7, q8, q9, q10⟩ := hQ
  exact ⟨rfl, q1, b, Keep.more q2, Or.inr q3, Nat.le_trans BZ q3, Exa.keep f1 q2, ⟨_, q8⟩, q10, q9, q5, own_updr f6, Or.inr ⟨Nat.le_trans BZ q3, by decide, by decide, q7, q6⟩⟩
 ·
  refine Cmet.mono (rm8n l Z a0 hw [] a o1 x mc n u h0 n0 Z0 f1 f2 f4 f3 r5 r4 I_o1 ga (Nat.le_trans hB r1) f5 r2 hn (own_ne10 hn)) fun v h' L hQ => ?_
  obtain ⟨rfl, q1, q2, q6, q7, q8, q9, q10⟩ := hQ
  exact ⟨rfl, q1, x, q2, Or.inl ⟨rfl, r1⟩, r1, Exa.keep f1 q2, ⟨_, q8⟩, q10, q9, f5, own_updr f6, Or.inr ⟨r1, own_nn1 r2 hn, own_le10 r2 hn, q7, q6⟩⟩
theorem d1_0 : decode prog_157_method_1_code 0 = .ok (.aload_n 0, 1) := by decide +kernel
theorem d1_1 : decode prog_157_method_1_code 1 = .ok (.invokespecial 1, 3) := by decide +kernel
theorem d1_4 : decode prog_157_method_1_code 4 = .ok (.aload_n 0, 1) := by decide +kernel
theorem d1_5 : decode prog_157_method_1_code 5 = .ok (.aload_n 1, 1) := by decide +kernel
theorem d1_6 : decode prog_157_method_1_code 6 = .ok (.putfield 7, 3) := by decide +kernel
theorem d1_9 : decode prog_157_method_1_code 9 = .ok (.aload_n 0, 1) := by decide +kernel
theorem d1_10 : decode prog_157_method_1_code 10 = .ok (.iload_n 2, 1) := by decide +kernel
theorem d1_11 : decode prog_157_method_1_code 11 = .ok (.putfield 13, 3) := by decide +kernel
theorem d1_14 : decode prog_157_method_1_code 14 = .ok (.aload_n 0, 1) := by decide +kernel
theorem d1_15 : decode prog_157_method_1_code 15 = .ok (.aload_n 3, 1) := by decide +kernel
theorem d1_16 : decode prog_157_method_1_code 16 = .ok (.putfield 17, 3) := by decide +kernel
theorem d1_19 : decode prog_157_method_1_code 19 = .ok (.aload_n 0, 1) := by decide +kernel
theorem d1_20 : decode prog_157_method_1_code 20 = .ok (.iload 4, 2) := by decide +kernel
theorem d1_22 : decode prog_157_method_1_code 22 = .ok (.putfield 21, 3) := by decide +kernel
theorem d1_25 : decode prog_157_method_1_code 25 = .ok (.return_, 1) := by decide +kernel
theorem pn_7 : plainName "com/example/firm_handshake/firmhandshake/model/Transition" = true := by first | (simp [plainName, overriddenIn]; done) | decide +kernel
theorem ef1 (m : MethodId) (x0 : Addr) (x2 : Int32) (x4 : Int32) : entryFrame m #[(.ref x0), .null, (.int x2), .null, (.int x4)] 5 = mkF m 0 #[.val (.ref x0), .val .null, .val (.int x2), .val .null, .val (.int x4)] [] := by first | (simp [entryFrame, mkF, argsToLocals, Value.category]; done) | rfl
set_option maxRecDepth 65536 in
set_option maxHeartbeats 40000000 in
theorem rm1 (l : Launch) (Z : State) (a0 : Array Value) (hw : ∀ d ∈ tables_1, d.before a0 Z = true) (ws : List Jvm.Cond) (o0 : Addr) (h0 : Heap) (n0 : Nat) (Z0 : n0 ≤ h0.size) (E_o0 : Exa Z h0 o0 kTr) (F_ac : Fld Z h0 o0 kTr "action" "Lcom/example/firm_handshake/firmhandshake/model/Action;" .null) (F_ta : Fld Z h0 o0 kTr "target" "I" (.int (0 : Int32))) (F_co : Fld Z h0 o0 kTr "continuation" "Lcom/example/firm_handshake/firmhandshake/model/Transition$Continuation;" .null) (F_ds : Fld Z h0 o0 kTr "dStep" "I" (.int (0 : Int32))) (g0 : n0 ≤ o0) :
  Cmet l Z (⟨"com/example/firm_handshake/firmhandshake/model/Transition", "<init>", "(Lcom/example/firm_handshake/firmhandshake/model/Action;ILcom/example/firm_handshake/firmhandshake/model/Transition$Continuation;I)V"⟩ : MethodName) prog_157_method_1_code 5 none ws ({ frames := 1, cells := 0, slots := 0, locals := 12 } : Room) #[(.ref o0), .null, (.int (0 : Int32)), .null, (.int (-1 : Int32))] h0 (fun v h' L => v = none ∧ Fr n0 L ∧ Keep h0 h' [o0]) := by
 refine MetFree.of_bodySF (plainFor_of_name pn_7) hisR ?_
 intro p e s m args below meth c s₁ Bd hml0 hP hK
 obtain ⟨rfl, hZ, hh⟩ := hP
 have hx := Bd.exec
 have hlk : meth.locks = false := BodyLoose.notSynchronized Bd
 have hby := Bd.bytes
 have hml : c.maxLocals = 5 := hml0
 have hown : s.vm.findClass "com/example/firm_handshake/firmhandshake/model/Transition" = some m.cls := findClass_of_methodNamed Bd.named
 have hnm := (name_of_methodNamed Bd.named Bd.method).1
 have X0 : Stand p l e ({ frames := 1, cells := 0, slots := 0, locals := 12 } : Room) s m #[(.ref o0), .null, (.int (0 : Int32)), .null, (.int (-1 : Int32))] below meth c s₁ [] 0 0 := Stand.of_body Bd
 have e0 : s₁.heap = h0 := by rw [← hh, Bd.state]; rfl
 have N0 := Fr.nil n0
 show Fini p e below s (fun v h' L => v = none ∧ Fr n0 L ∧ Keep h0 h' [o0]) _ _ s₁ (entryFrame m #[(.ref o0), .null, (.int (0 : Int32)), .null, (.int (-1 : Int32))] 5)
 refine Fini.cast (ef1 m o0 (0 : Int32) (-1 : Int32)) ?_
 show Fini _ _ _ _ _ _ _ s₁ (mkF m 0 #[vr o0, .val .null, vi (0 : Int32), .val .null, vi (-1 : Int32)] [])
 refine fAN X0 hx hby d1_0 rfl rfl rfl ?_
 obtain ⟨T1, X1, e1, st1⟩ := initO X0 hx hZ hown (wq hw (i := 7) rfl) (wq hw (i := 8) rfl) (wq hw (i := 9) rfl) e0 (g := (mkF m 1 #[vr o0, .val .null, vi (0 : Int32), .val .null, vi (-1 : Int32)] [(.ref o0)])) rfl (by rw [hml]; rfl) rfl (hb hby d1_1) (by decide) (W := 0) (by show 2 * 0 + _ ≤ _; exact Nat.le_of_eq rfl) (by decide)
 refine Fini.st st1 ?_
 show Fini _ _ _ _ _ _ _ T1 (mkF m 4 #[vr o0, .val .null, vi (0 : Int32), .val .null, vi (-1 : Int32)] [])
 refine fAN X1 hx hby d1_4 rfl rfl rfl ?_
 refine fAN X1 hx hby d1_5 rfl rfl rfl ?_
 obtain ⟨T2, h2, X2, e2, W2, st2⟩ := putF X1 hx hZ hown (host := "") (Or.inl (wq hw (i := 10) rfl)) Via.refl e1 F_ac E_o0 (Or.inr ⟨(wq hw (i := 11) rfl), rfl, hnm⟩) (wq hw (i := 2) rfl) (ty := (.object "com/example/firm_handshake/firmhandshake/model/Action")) (by decide) rfl rfl (g := (mkF m 6 #[vr o0, .val .null, vi (0 : Int32), .val .null, vi (-1 : Int32)] [.null, (.ref o0)])) rfl rfl (hb hby d1_6)
 have Fw2 : Fld Z h2 o0 kTr "action" "Lcom/example/firm_handshake/firmhandshake/model/Action;" .null := F_ac.same W2
 refine Fini.st st2 ?_
 have N2 := Fr.snoc X2 N0 g0
 refine fAN X2 hx hby d1_9 rfl rfl rfl ?_
 refine fIN X2 hx hby d1_10 rfl rfl ?_
 have F_4 : Fld Z h2 o0 kTr "target" "I" (.int (0 : Int32)) := (F_ta.other W2 (Or.inr (slot_ne (Or.inr (wq hw (i := 13) rfl)) (Or.inr (wq hw (i := 11) rfl)) (by decide) (t := .int) (t' := (.object "com/example/firm_handshake/firmhandshake/model/Action")) (by decide) (by decide))))
 have Ex_5 : Exa Z h2 o0 kTr := (E_o0.wr W2)
 obtain ⟨T3, h3, X3, e3, W3, st3⟩ := putF X2 hx hZ hown (host := "") (Or.inl (wq hw (i := 12) rfl)) Via.refl e2 F_4 Ex_5 (Or.inr ⟨(wq hw (i := 13) rfl), rfl, hnm⟩) (wq hw (i := 2) rfl) (ty := .int) (by decide) rfl rfl (g := (mkF m 11 #[vr o0, .val .null, vi (0 : Int32), .val .null, vi (-1 : Int32)] [(.int (0 : Int32)), (.ref o0)])) rfl rfl (hb hby d1_11)
 have Fw3 : Fld Z h3 o0 kTr "target" "I" (.int (0 : Int32)) := F_4.same W3
 refine Fini.st st3 ?_
 have N3 := Fr.snoc X3 N2 g0
 refine fAN X3 hx hby d1_14 rfl rfl rfl ?_
 refine fAN X3 hx hby d1_15 rfl rfl rfl ?_
 have F_7 : Fld Z h3 o0 kTr "continuation" "Lcom/example/firm_handshake/firmhandshake/model/Transition$Continuation;" .null := ((F_co.other W2 (Or.inr (slot_ne (Or.inr (wq hw (i := 15) rfl)) (Or.inr (wq hw (i := 11) rfl)) (by decide) (t := (.object "com/example/firm_handshake/firmhandshake/model/Transition$Continuation")) (t' := (.object "com/example/firm_handshake/firmhandshake/model/Action")) (by decide) (by decide)))).other W3 (Or.inr (slot_ne (Or.inr (wq hw (i := 15) rfl)) (Or.inr (wq hw (i := 13) rfl)) (by decide) (t := (.object "com/example/firm_handshake/firmhandshake/model/Transition$Continuation")) (t' := .int) (by decide) (by decide))))
 have Ex_8 : Exa Z h3 o0 kTr := (Ex_5.wr W3)
 obtain ⟨T6, h6, X6, e6, W6, st6⟩ := putF X3 hx hZ hown (host := "") (Or.inl (wq hw (i := 14) rfl)) Via.refl e3 F_7 Ex_8 (Or.inr ⟨(wq hw (i := 15) rfl), rfl, hnm⟩) (wq hw (i := 2) rfl) (ty := (.object "com/example/firm_handshake/firmhandshake/model/Transition$Continuation")) (by decide) rfl rfl (g := (mkF m 16 #[vr o0, .val .null, vi (0 : Int32), .val .null, vi (-1 : Int32)] [.null, (.ref o0)])) rfl rfl (hb hby d1_16)
 have Fw6 : Fld Z h6 o0 kTr "continuation" "Lcom/example/firm_handshake/firmhandshake/model/Transition$Continuation;" .null := F_7.same W6
 refine Fini.st st6 ?_
 have N6 := Fr.snoc X6 N3 g0
 refine fAN X6 hx hby d1_19 rfl rfl rfl ?_
 refine fI X6 hx hby d1_20 rfl rfl ?_
 have F_10 : Fld Z h6 o0 kTr "dStep" "I" (.int (0 : Int32)) := (((F_ds.other W2 (Or.inr (slot_ne (Or.inr (wq hw (i := 17) rfl)) (Or.inr (wq hw (i := 11) rfl)) (by decide) (t := .int) (t' := (.object "com/example/firm_handshake/firmhandshake/model/Action")) (by decide) (by decide)))).other W3 (Or.inr (slot_ne (Or.inr (wq hw (i := 17) rfl)) (Or.inr (wq hw (i := 13) rfl)) (by decide) (t := .int) (t' := .int) (by decide) (by decide)))).other W6 (Or.inr (slot_ne (Or.inr (wq hw (i := 17) rfl)) (Or.inr (wq hw (i := 15) rfl)) (by decide) (t := .int) (t' := (.object "com/example/firm_handshake/firmhandshake/model/Transition$Continuation")) (by decide) (by decide))))
 have Ex_11 : Exa Z h6 o0 kTr := (Ex_8.wr W6)
 obtain ⟨T9, h9, X9, e9, W9, st9⟩ := putF X6 hx hZ hown (host := "") (Or.inl (wq hw (i := 16) rfl)) Via.refl e6 F_10 Ex_11 (Or.inr ⟨(wq hw (i := 17) rfl), rfl, hnm⟩) (wq hw (i := 2) rfl) (ty := .int) (by decide) rfl rfl (g := (mkF m 22 #[vr o0, .val .null, vi (0 : Int32), .val .null, vi (-1 : Int32)] [(.int (-1 : Int32)), (.ref o0)])) rfl rfl (hb hby d1_22)
 have Fw9 : Fld Z h9 o0 kTr "dStep" "I" (.int (-1 : Int32)) := F_10.same W9
 refine Fini.st st9 ?_
 have N9 := Fr.snoc X9 N6 g0
 have Kp_12 : Keep h0 h9 [o0] := (Keep.wr (Keep.wr (Keep.wr (Keep.wr (Keep.refl h0 [o0]) W2 (Or.inl (List.mem_of_getElem? (i := 0) rfl))) W3 (Or.inl (List.mem_of_getElem? (i := 0) rfl))) W6 (Or.inl (List.mem_of_getElem? (i := 0) rfl))) W9 (Or.inl (List.mem_of_getElem? (i := 0) rfl)))
 exact Fini.ret0 X9 hx hlk Bd.returns (hb hby d1_25) (by decide) (by decide) ⟨rfl, N9, (by rw [e9]; exact Kp_12)⟩
theorem d37_0 : decode jdk_33_method_22_code 0 = .ok (.iload_n 0, 1) := by decide +kernel
theorem d37_1 : decode jdk_33_method_22_code 1 = .ok (.bipush (-128), 2) := by decide +kernel
theorem d37_3 : decode jdk_33_method_22_code 3 = .ok (.if_icmp .lt 20, 3) := by decide +kernel
theorem d37_6 : decode jdk_33_method_22_code 6 = .ok (.iload_n 0, 1) := by decide +kernel
theorem d37_7 : decode jdk_33_method_22_code 7 = .ok (.getstatic 191, 3) := by decide +kernel
theorem d37_10 : decode jdk_33_method_22_code 10 = .ok (.if_icmp .gt 13, 3) := by decide +kernel
theorem d37_13 : decode jdk_33_method_22_code 13 = .ok (.getstatic 195, 3) := by decide +kernel
theorem d37_16 : decode jdk_33_method_22_code 16 = .ok (.iload_n 0, 1) := by decide +kernel
theorem d37_17 : decode jdk_33_method_22_code 17 = .ok (.sipush 128, 3) := by decide +kernel
theorem d37_20 : decode jdk_33_method_22_code 20 = .ok (.iadd, 1) := by decide +kernel
theorem d37_21 : decode jdk_33_method_22_code 21 = .ok (.aaload, 1) := by decide +kernel
theorem d37_22 : decode jdk_33_method_22_code 22 = .ok (.areturn, 1) := by decide +kernel
theorem pn_8 : plainName "java/lang/Integer" = true := by first | (simp [plainName, overriddenIn]; done) | decide +kernel
theorem ef37_0 (m : MethodId) (x0 : Int32) : entryFrame m #[(.int x0)] 1 = mkF m 0 #[.val (.int x0)] [] := by first | (simp [entryFrame, mkF, argsToLocals, Value.category]; done) | rfl
set_option maxRecDepth 65536 in
set_option maxHeartbeats 40000000 in
theorem rm37_0 (l : Launch) (Z : State) (a0 : Array Value) (hw : ∀ d ∈ tables_1, d.before a0 Z = true) (ws : List Jvm.Cond)  (ca : Addr) (bx : Addr) (h0 : Heap) (n0 : Nat) (Z0 : n0 ≤ h0.size) (D0 : Old Z n0 h0) (S_hi : Sta Z Z.heap "java/lang/Integer$IntegerCache" "high" "I" (.int (127 : Int32))) (S_ca : Sta Z Z.heap "java/lang/Integer$IntegerCache" "cache" "[Ljava/lang/Integer;" (.ref ca)) (hC : BoxAt Z ca (128 : Int32) bx) :
  Cmet l Z (⟨"java/lang/Integer", "valueOf", "(I)Ljava/lang/Integer;"⟩ : MethodName) jdk_33_method_22_code 1 (some (.object "java/lang/Integer")) ws ({ frames := 0, cells := 0, slots := 0, locals := 0 } : Room) #[(.int (0 : Int32))] h0 (fun v h' L => v = some (.ref bx) ∧ h' = h0 ∧ L = []) := by
 refine MetFree.of_bodySF (plainFor_of_name pn_8) hisR ?_
 intro p e s m args below meth c s₁ Bd hml0 hP hK
 obtain ⟨rfl, hZ, hh⟩ := hP
 have hx := Bd.exec
 have hlk : meth.locks = false := BodyLoose.notSynchronized Bd
 have hby := Bd.bytes
 have hml : c.maxLocals = 1 := hml0
 have hown : s.vm.findClass "java/lang/Integer" = some m.cls := findClass_of_methodNamed Bd.named
 have hnm := (name_of_methodNamed Bd.named Bd.method).1
 have X0 : Stand p l e ({ frames := 0, cells := 0, slots := 0, locals := 0 } : Room) s m #[(.int (0 : Int32))] below meth c s₁ [] 0 0 := Stand.of_body Bd
 have e0 : s₁.heap = h0 := by rw [← hh, Bd.state]; rfl
 have N0 := Fr.nil n0
 show Fini p e below s (fun v h' L => v = some (.ref bx) ∧ h' = h0 ∧ L = []) _ _ s₁ (entryFrame m #[(.int (0 : Int32))] 1)
 refine Fini.cast (ef37_0 m (0 : Int32)) ?_
 show Fini _ _ _ _ _ _ _ s₁ (mkF m 0 #[vi (0 : Int32)] [])
 refine fIN X0 hx hby d37_0 rfl rfl ?_
 refine Fini.st (fun _ k => XS.bipush X0.here hx rfl (hb hby d37_1) k) ?_
 show Fini _ _ _ _ _ _ _ s₁ (mkF m 3 #[vi (0 : Int32)] [(.int (-128 : Int32)), (.int (0 : Int32))])
 refine Fini.st (fun _ k => XS.icmpNo X0.here hx rfl (hb hby d37_3) rfl (XT.ii_lt_f (by decide : ¬ (0 : Int32) < (-128 : Int32))) k) ?_
 refine fIN X0 hx hby d37_6 rfl rfl ?_
 show Fini _ _ _ _ _ _ _ s₁ (mkF m 7 #[vi (0 : Int32)] [(.int (0 : Int32))])
 obtain ⟨T1, X1, e1, st1⟩ := getS2 X0 hx hZ hown (host := "") (Or.inl (wq hw (i := 291) rfl)) Via.refl e0 (Sta.ext D0.2 S_hi) (g := (mkF m 7 #[vi (0 : Int32)] [(.int (0 : Int32))])) rfl (hb hby d37_7)
 refine Fini.st st1 ?_
 show Fini _ _ _ _ _ _ _ T1 (mkF m 10 #[vi (0 : Int32)] [(.int (127 : Int32)), (.int (0 : Int32))])
 refine Fini.st (fun _ k => XS.icmpNo X1.here hx rfl (hb hby d37_10) rfl (XT.ii_gt_f (by decide : ¬ (127 : Int32) < (0 : Int32))) k) ?_
 show Fini _ _ _ _ _ _ _ T1 (mkF m 13 #[vi (0 : Int32)] [])
 obtain ⟨T2, X2, e2, st2⟩ := getS2 X1 hx hZ hown (host := "") (Or.inl (wq hw (i := 293) rfl)) Via.refl e1 (Sta.ext D0.2 S_ca) (g := (mkF m 13 #[vi (0 : Int32)] [])) rfl (hb hby d37_13)
 refine Fini.st st2 ?_
 show Fini _ _ _ _ _ _ _ T2 (mkF m 16 #[vi (0 : Int32)] [(.ref ca)])
 refine fIN X2 hx hby d37_16 rfl rfl ?_
 refine Fini.st (fun _ k => XS.sipush X2.here hx rfl (hb hby d37_17) k) ?_
 refine Fini.st (fun _ k => XS.iadd X2.here hx rfl (hb hby d37_20) rfl k) ?_
 show Fini _ _ _ _ _ _ _ T2 (mkF m 21 #[vi (0 : Int32)] [(.int (128 : Int32)), (.ref ca)])
 refine Fini.st (fun _ k => BoxAt.load hC D0.2 X2 hx hZ e2 rfl rfl (hb hby d37_21) k) ?_
 show Fini _ _ _ _ _ _ _ T2 (mkF m 22 #[vi (0 : Int32)] [(.ref bx)])
 exact Fini.retA X2 hx hlk Bd.returns rfl (hb hby d37_22) rfl rfl (by decide) (by decide) ⟨rfl, e2, rfl⟩
theorem ef37_1 (m : MethodId) (x0 : Int32) : entryFrame m #[(.int x0)] 1 = mkF m 0 #[.val (.int x0)] [] := by first | (simp [entryFrame, mkF, argsToLocals, Value.category]; done) | rfl
set_option maxRecDepth 65536 in
set_option maxHeartbeats 40000000 in
theorem rm37_1 (l : Launch) (Z : State) (a0 : Array Value) (hw : ∀ d ∈ tables_1, d.before a0 Z = true) (ws : List Jvm.Cond)  (ca : Addr) (bx : Addr) (h0 : Heap) (n0 : Nat) (Z0 : n0 ≤ h0.size) (D0 : Old Z n0 h0) (S_hi : Sta Z Z.heap "java/lang/Integer$IntegerCache" "high" "I" (.int (127 : Int32))) (S_ca : Sta Z Z.heap "java/lang/Integer$IntegerCache" "cache" "[Ljava/lang/Integer;" (.ref ca)) (hC : BoxAt Z ca (129 : Int32) bx) :
  Cmet l Z (⟨"java/lang/Integer", "valueOf", "(I)Ljava/lang/Integer;"⟩ : MethodName) jdk_33_method_22_code 1 (some (.object "java/lang/Integer")) ws ({ frames := 0, cells := 0, slots := 0, locals := 0 } : Room) #[(.int (1 : Int32))] h0 (fun v h' L => v = some (.ref bx) ∧ h' = h0 ∧ L = []) := by
 refine MetFree.of_bodySF (plainFor_of_name pn_8) hisR ?_
 intro p e s m args below meth c s₁ Bd hml0 hP hK
 obtain ⟨rfl, hZ, hh⟩ := hP
 have hx := Bd.exec
 have hlk : meth.locks = false := BodyLoose.notSynchronized Bd
 have hby := Bd.bytes
 have hml : c.maxLocals = 1 := hml0
 have hown : s.vm.findClass "java/lang/Integer" = some m.cls := findClass_of_methodNamed Bd.named
 have hnm := (name_of_methodNamed Bd.named Bd.method).1
 have X0 : Stand p l e ({ frames := 0, cells := 0, slots := 0, locals := 0 } : Room) s m #[(.int (1 : Int32))] below meth c s₁ [] 0 0 := Stand.of_body Bd
 have e0 : s₁.heap = h0 := by rw [← hh, Bd.state]; rfl
 have N0 := Fr.nil n0
 show Fini p e below s (fun v h' L => v = some (.ref bx) ∧ h' = h0 ∧ L = []) _ _ s₁ (entryFrame m #[(.int (1 : Int32))] 1)
 refine Fini.cast (ef37_1 m (1 : Int32)) ?_
 show Fini _ _ _ _ _ _ _ s₁ (mkF m 0 #[vi (1 : Int32)] [])
 refine fIN X0 hx hby d37_0 rfl rfl ?_
 refine Fini.st (fun _ k => XS.bipush X0.here hx rfl (hb hby d37_1) k) ?_
 show Fini _ _ _ _ _ _ _ s₁ (mkF m 3 #[vi (1 : Int32)] [(.int (-128 : Int32)), (.int (1 : Int32))])
 refine Fini.st (fun _ k => XS.icmpNo X0.here hx rfl (hb hby d37_3) rfl (XT.ii_lt_f (by decide : ¬ (1 : Int32) < (-128 : Int32))) k) ?_
 refine fIN X0 hx hby d37_6 rfl rfl ?_
 show Fini _ _ _ _ _ _ _ s₁ (mkF m 7 #[vi (1 : Int32)] [(.int (1 : Int32))])
 obtain ⟨T1, X1, e1, st1⟩ := getS2 X0 hx hZ hown (host := "") (Or.inl (wq hw (i := 291) rfl)) Via.refl e0 (Sta.ext D0.2 S_hi) (g := (mkF m 7 #[vi (1 : Int32)] [(.int (1 : Int32))])) rfl (hb hby d37_7)
 refine Fini.st st1 ?_
 show Fini _ _ _ _ _ _ _ T1 (mkF m 10 #[vi (1 : Int32)] [(.int (127 : Int32)), (.int (1 : Int32))])
 refine Fini.st (fun _ k => XS.icmpNo X1.here hx rfl (hb hby d37_10) rfl (XT.ii_gt_f (by decide : ¬ (127 : Int32) < (1 : Int32))) k) ?_
 show Fini _ _ _ _ _ _ _ T1 (mkF m 13 #[vi (1 : Int32)] [])
 obtain ⟨T2, X2, e2, st2⟩ := getS2 X1 hx hZ hown (host := "") (Or.inl (wq hw (i := 293) rfl)) Via.refl e1 (Sta.ext D0.2 S_ca) (g := (mkF m 13 #[vi (1 : Int32)] [])) rfl (hb hby d37_13)
 refine Fini.st st2 ?_
 show Fini _ _ _ _ _ _ _ T2 (mkF m 16 #[vi (1 : Int32)] [(.ref ca)])
 refine fIN X2 hx hby d37_16 rfl rfl ?_
 refine Fini.st (fun _ k => XS.sipush X2.here hx rfl (hb hby d37_17) k) ?_
 refine Fini.st (fun _ k => XS.iadd X2.here hx rfl (hb hby d37_20) rfl k) ?_
 show Fini _ _ _ _ _ _ _ T2 (mkF m 21 #[vi (1 : Int32)] [(.int (129 : Int32)), (.ref ca)])
 refine Fini.st (fun _ k => BoxAt.load hC D0.2 X2 hx hZ e2 rfl rfl (hb hby d37_21) k) ?_
 show Fini _ _ _ _ _ _ _ T2 (mkF m 22 #[vi (1 : Int32)] [(.ref bx)])
 exact Fini.retA X2 hx hlk Bd.returns rfl (hb hby d37_22) rfl rfl (by decide) (by decide) ⟨rfl, e2, rfl⟩
theorem d42_0 : decode jdk_33_method_27_code 0 = .ok (.aload_n 0, 1) := by decide +kernel
theorem d42_1 : decode jdk_33_method_27_code 1 = .ok (.getfield 205, 3) := by decide +kernel
theorem d42_4 : decode jdk_33_method_27_code 4 = .ok (.ireturn, 1) := by decide +kernel
theorem ef42 (m : MethodId) (x0 : Addr) : entryFrame m #[(.ref x0)] 1 = mkF m 0 #[.val (.ref x0)] [] := by first | (simp [entryFrame, mkF, argsToLocals, Value.category]; done) | rfl
def f42 (x : Int32) : Int32 := x
set_option maxRecDepth 65536 in
set_option maxHeartbeats 40000000 in
theorem rm42 (l : Launch) (Z : State) (a0 : Array Value) (hw : ∀ d ∈ tables_1, d.before a0 Z = true) (ws : List Jvm.Cond) (o0 : Addr) (x : Int32) (h0 : Heap) (F_x : Fld Z h0 o0 "java/lang/Integer" "value" "I" (.int x)) :
  Cmet l Z (⟨"java/lang/Integer", "intValue", "()I"⟩ : MethodName) jdk_33_method_27_code 1 (some .int) ws ({ frames := 0, cells := 0, slots := 0, locals := 0 } : Room) #[(.ref o0)] h0 (fun v h' L => v = some (.int (f42 x)) ∧ h' = h0 ∧ L = []) := by
 refine MetFree.of_bodySF (plainFor_of_name pn_8) hisR ?_
 intro p e s m args below meth c s₁ Bd hml0 hP hK
 obtain ⟨rfl, hZ, hh⟩ := hP
 have hx := Bd.exec
 have hlk : meth.locks = false := BodyLoose.notSynchronized Bd
 have hby := Bd.bytes
 have hml : c.maxLocals = 1 := hml0
 have hown : s.vm.findClass "java/lang/Integer" = some m.cls := findClass_of_methodNamed Bd.named
 have hnm := (name_of_methodNamed Bd.named Bd.method).1
 have X0 : Stand p l e ({ frames := 0, cells := 0, slots := 0, locals := 0 } : Room) s m #[(.ref o0)] below meth c s₁ [] 0 0 := Stand.of_body Bd
 have e0 : s₁.heap = h0 := by rw [← hh, Bd.state]; rfl
 have hv0 : f42 x = f42 x := rfl
 show Fini p e below s (fun v h' L => v = some (.int (f42 x)) ∧ h' = h0 ∧ L = []) _ _ s₁ (entryFrame m #[(.ref o0)] 1)
 refine Fini.cast (ef42 m o0) ?_
 show Fini _ _ _ _ _ _ _ s₁ (mkF m 0 #[vr o0] [])
 refine fAN X0 hx hby d42_0 rfl rfl rfl ?_
 obtain ⟨T1, X1, e1, st1⟩ := getF X0 hx hZ hown (host := "") (Or.inl (wq hw (i := 336) rfl)) Via.refl e0 F_x (g := (mkF m 1 #[vr o0] [(.ref o0)])) rfl rfl (hb hby d42_1)
 refine Fini.st st1 ?_
 exact Fini.retI X1 hx hlk Bd.returns (hb hby d42_4) (by decide) (by decide) ⟨congrArg (fun z => some (Value.int z)) hv0.symm, e1, rfl⟩
theorem pd_7 : parseMethodDescriptor "()I" = some ⟨[], some .int⟩ := by decide +kernel
theorem d6_0 : decode prog_119_method_1_code 0 = .ok (.aload_n 0, 1) := by decide +kernel
theorem d6_1 : decode prog_119_method_1_code 1 = .ok (.invokespecial 1, 3) := by decide +kernel
theorem d6_4 : decode prog_119_method_1_code 4 = .ok (.aload_n 0, 1) := by decide +kernel
theorem d6_5 : decode prog_119_method_1_code 5 = .ok (.aload_n 1, 1) := by decide +kernel
theorem d6_6 : decode prog_119_method_1_code 6 = .ok (.putfield 7, 3) := by decide +kernel
theorem d6_9 : decode prog_119_method_1_code 9 = .ok (.aload_n 0, 1) := by decide +kernel
theorem d6_10 : decode prog_119_method_1_code 10 = .ok (.aload_n 2, 1) := by decide +kernel
theorem d6_11 : decode prog_119_method_1_code 11 = .ok (.invokeinterface 13 1, 5) := by decide +kernel
theorem d6_16 : decode prog_119_method_1_code 16 = .ok (.newarray .int, 2) := by decide +kernel
theorem d6_18 : decode prog_119_method_1_code 18 = .ok (.putfield 19, 3) := by decide +kernel
theorem d6_21 : decode prog_119_method_1_code 21 = .ok (.iconst 0, 1) := by decide +kernel
theorem d6_22 : decode prog_119_method_1_code 22 = .ok (.istore_n 3, 1) := by decide +kernel
theorem d6_23 : decode prog_119_method_1_code 23 = .ok (.iload_n 3, 1) := by decide +kernel
theorem d6_24 : decode prog_119_method_1_code 24 = .ok (.aload_n 0, 1) := by decide +kernel
theorem d6_25 : decode prog_119_method_1_code 25 = .ok (.getfield 19, 3) := by decide +kernel
theorem d6_28 : decode prog_119_method_1_code 28 = .ok (.arraylength, 1) := by decide +kernel
theorem d6_29 : decode prog_119_method_1_code 29 = .ok (.if_icmp .ge 28, 3) := by decide +kernel
theorem d6_32 : decode prog_119_method_1_code 32 = .ok (.aload_n 0, 1) := by decide +kernel
theorem d6_33 : decode prog_119_method_1_code 33 = .ok (.getfield 19, 3) := by decide +kernel
theorem d6_36 : decode prog_119_method_1_code 36 = .ok (.iload_n 3, 1) := by decide +kernel
theorem d6_37 : decode prog_119_method_1_code 37 = .ok (.aload_n 2, 1) := by decide +kernel
theorem d6_38 : decode prog_119_method_1_code 38 = .ok (.iload_n 3, 1) := by decide +kernel
theorem d6_39 : decode prog_119_method_1_code 39 = .ok (.invokeinterface 23 2, 5) := by decide +kernel
theorem d6_44 : decode prog_119_method_1_code 44 = .ok (.checkcast 27, 3) := by decide +kernel
theorem d6_47 : decode prog_119_method_1_code 47 = .ok (.invokevirtual 29, 3) := by decide +kernel
theorem d6_50 : decode prog_119_method_1_code 50 = .ok (.iastore, 1) := by decide +kernel
theorem d6_51 : decode prog_119_method_1_code 51 = .ok (.iinc 3 1, 3) := by decide +kernel
theorem d6_54 : decode prog_119_method_1_code 54 = .ok (.goto (-31), 3) := by decide +kernel
theorem d6_57 : decode prog_119_method_1_code 57 = .ok (.return_, 1) := by decide +kernel
theorem pn_9 : plainName "com/example/firm_handshake/firmhandshake/model/Location$Move" = true := by first | (simp [plainName, overriddenIn]; done) | decide +kernel
theorem ef6 (m : MethodId) (x0 : Addr) (x1 : Addr) (x2 : Addr) : entryFrame m #[(.ref x0), (.ref x1), (.ref x2)] 4 = mkF m 0 #[.val (.ref x0), .val (.ref x1), .val (.ref x2), .unset] [] := by first | (simp [entryFrame, mkF, argsToLocals, Value.category]; done) | rfl
set_option maxRecDepth 65536 in
set_option maxHeartbeats 40000000 in
theorem rm6 (l : Launch) (Z : State) (a0 : Array Value) (hw : ∀ d ∈ tables_1, d.before a0 Z = true) (ws : List Jvm.Cond) (o0 : Addr) (o1 : Addr) (o2 : Addr) (B : Nat) (dd : Addr) (x : Addr) (n : Int32) (u : Nat → Value) (v : Nat → Int32) (h0 : Heap) (n0 : Nat) (Z0 : n0 ≤ h0.size) (E_o0 : Exa Z h0 o0 kMv) (F_tr : Fld Z h0 o0 kMv "transition" "Lcom/example/firm_handshake/firmhandshake/model/Transition;" .null) (F_ob : Fld Z h0 o0 kMv "outrankedBy" "[I" .null) (A_o2 : ALs Z B dd h0 o2 x n u) (D0 : Old Z n0 h0) (g0 : n0 ≤ o0) (n20 : o2 ≠ o0) (nx0 : x ≠ o0) (hbx : BX Z n u v) (hn2 : ¬ (2 : Int32) < n) :
  Cmet l Z (⟨"com/example/firm_handshake/firmhandshake/model/Location$Move", "<init>", "(Lcom/example/firm_handshake/firmhandshake/model/Transition;Ljava/util/List;)V"⟩ : MethodName) prog_119_method_1_code 4 none ws ({ frames := 3, cells := 1, slots := 2, locals := 42 } : Room) #[(.ref o0), (.ref o1), (.ref o2)] h0 (fun w h' L => w = none ∧ Fr n0 L ∧ Keep h0 h' [o0] ∧ ∃ ar, h0.size ≤ ar ∧ n0 ≤ ar ∧ o0 ≠ ar ∧ Exa Z h' o0 kMv ∧ Fld Z h' o0 kMv "transition" "Lcom/example/firm_handshake/firmhandshake/model/Transition;" (.ref o1) ∧ Fld Z h' o0 kMv "outrankedBy" "[I" (.ref ar) ∧ Exa Z h' ar "[I" ∧ AryI Z h' ar .int n v) := by
 refine MetFree.of_bodySF (plainFor_of_name pn_9) hisR ?_
 intro p e s m args below meth c s₁ Bd hml0 hP hK
 obtain ⟨rfl, hZ, hh⟩ := hP
 have hx := Bd.exec
 have hlk : meth.locks = false := BodyLoose.notSynchronized Bd
 have hby := Bd.bytes
 have hml : c.maxLocals = 4 := hml0
 have hown : s.vm.findClass "com/example/firm_handshake/firmhandshake/model/Location$Move" = some m.cls := findClass_of_methodNamed Bd.named
 have hnm := (name_of_methodNamed Bd.named Bd.method).1
 have X0 : Stand p l e ({ frames := 3, cells := 1, slots := 2, locals := 42 } : Room) s m #[(.ref o0), (.ref o1), (.ref o2)] below meth c s₁ [] 0 0 := Stand.of_body Bd
 have e0 : s₁.heap = h0 := by rw [← hh, Bd.state]; rfl
 have N0 := Fr.nil n0
 show Fini p e below s (fun w h' L => w = none ∧ Fr n0 L ∧ Keep h0 h' [o0] ∧ ∃ ar, h0.size ≤ ar ∧ n0 ≤ ar ∧ o0 ≠ ar ∧ Exa Z h' o0 kMv ∧ Fld Z h' o0 kMv "transition" "Lcom/example/firm_handshake/firmhandshake/model/Transition;" (.ref o1) ∧ Fld Z h' o0 kMv "outrankedBy" "[I" (.ref ar) ∧ Exa Z h' ar "[I" ∧ AryI Z h' ar .int n v) _ _ s₁ (entryFrame m #[(.ref o0), (.ref o1), (.ref o2)] 4)
 refine Fini.cast (ef6 m o0 o1 o2) ?_
 show Fini _ _ _ _ _ _ _ s₁ (mkF m 0 #[vr o0, vr o1, vr o2, su] [])
 refine fAN X0 hx hby d6_0 rfl rfl rfl ?_
 obtain ⟨T1, X1, e1, st1⟩ := initO X0 hx hZ hown (wq hw (i := 48) rfl) (wq hw (i := 8) rfl) (wq hw (i := 9) rfl) e0 (g := (mkF m 1 #[vr o0, vr o1, vr o2, su] [(.ref o0)])) rfl (by rw [hml]; rfl) rfl (hb hby d6_1) (by decide) (W := 0) (by show 2 * 0 + _ ≤ _; exact Nat.le_of_eq rfl) (by decide)
 refine Fini.st st1 ?_
 show Fini _ _ _ _ _ _ _ T1 (mkF m 4 #[vr o0, vr o1, vr o2, su] [])
 rcases own_c2 (ALs.nn A_o2) hn2 with hn | hn | hn
 ·
  subst hn
  refine fAN X1 hx hby d6_4 rfl rfl rfl ?_
  refine fAN X1 hx hby d6_5 rfl rfl rfl ?_
  obtain ⟨T2, h2, X2, e2, W2, st2⟩ := putF X1 hx hZ hown (host := "") (Or.inl (wq hw (i := 49) rfl)) Via.refl e1 F_tr E_o0 (Or.inr ⟨(wq hw (i := 50) rfl), rfl, hnm⟩) (wq hw (i := 43) rfl) (ty := (.object "com/example/firm_handshake/firmhandshake/model/Transition")) (by decide) rfl rfl (g := (mkF m 6 #[vr o0, vr o1, vr o2, su] [(.ref o1), (.ref o0)])) rfl rfl (hb hby d6_6)
  have Fw2 : Fld Z h2 o0 kMv "transition" "Lcom/example/firm_handshake/firmhandshake/model/Transition;" (.ref o1) := F_tr.same W2
  refine Fini.st st2 ?_
  have N2 := Fr.snoc X2 N0 g0
  refine fAN X2 hx hby d6_9 rfl rfl rfl ?_
  refine fAN X2 hx hby d6_10 rfl rfl rfl ?_
  have Al_4 : ALs Z B dd h2 o2 x (0 : Int32) u := (A_o2.other W2 n20 nx0)
  obtain ⟨T3, X3, e3, st3⟩ := pureI X2 hx hZ hown (wq hw (i := 51) rfl) (wq hw (i := 52) rfl) (wq hw (i := 53) rfl) (wq hw (i := 54) rfl) (wq hw (i := 55) rfl) (wq hw (i := 56) rfl) (wq hw (i := 57) rfl) (wq hw (i := 58) rfl) (wq hw (i := 20) rfl) (wq hw (i := 59) rfl) Al_4.exa (by decide) (c7 l Z a0 hw h2 Al_4) e2 (W := 1) (by decide) (by decide) (by decide) (by decide) (g := (mkF m 11 #[vr o0, vr o1, vr o2, su] [(.ref o2), (.ref o0)])) rfl (by rw [hml]; rfl) (argsL := []) (rest := [(.ref o0)]) rfl (lenOf pd_7 rfl) rfl (by show 2 * 0 + _ ≤ _; exact Nat.le_of_eq rfl) (hb hby d6_11)
  refine Fini.st st3 ?_
  show Fini _ _ _ _ _ _ _ T3 (mkF m 16 #[vr o0, vr o1, vr o2, su] [(.int (0 : Int32)), (.ref o0)])
  obtain ⟨T5, h5, k5, X5, e5, E5, A5, Ea5, st5⟩ := newPE X3 hx hZ (wq hw (i := 62) rfl) e3 (g := (mkF m 16 #[vr o0, vr o1, vr o2, su] [(.int (0 : Int32)), (.ref o0)])) rfl (hb hby d6_16) rfl (by decide) (cap := 0) (by decide) (by decide) (by decide) (by decide) (ad := "[I") (by decide)
  obtain ⟨b5, g5⟩ : ∃ z, z = h2.size := ⟨_, rfl⟩
  rw [← g5] at A5 st5 Ea5
  have Ex_6 : Exa Z h2 o0 kMv := (E_o0.wr W2)
  have ne_o0_b5 : o0 ≠ b5 := Nat.ne_of_lt (Nat.lt_of_lt_of_le Ex_6.lt (Nat.le_of_eq g5.symm))
  have ne_o2_b5 : o2 ≠ b5 := Nat.ne_of_lt (Nat.lt_of_lt_of_le Al_4.lt (Nat.le_of_eq g5.symm))
  have ne_x_b5 : x ≠ b5 := Nat.ne_of_lt (Nat.lt_of_lt_of_le Al_4.lte (Nat.le_of_eq g5.symm))
  have Zs_7 : n0 ≤ h2.size := (Nat.le_trans Z0 (Nat.le_of_eq W2.size.symm))
  have ge_b5 : n0 ≤ b5 := Nat.le_trans Zs_7 (Nat.le_of_eq g5.symm)
  have Kp_8 : Keep h0 h2 [o0] := (Keep.wr (Keep.refl h0 [o0]) W2 (Or.inl (List.mem_of_getElem? (i := 0) rfl)))
  have sz_b5 : h0.size ≤ b5 := Nat.le_trans Kp_8.1 (Nat.le_of_eq g5.symm)
  have Ar5 : AryI Z h5 b5 .int (0 : Int32) (fun _ => 0) := AryI.new A5 (by decide) rfl
  refine Fini.st st5 ?_
  show Fini _ _ _ _ _ _ _ T5 (mkF m 18 #[vr o0, vr o1, vr o2, su] [(.ref b5), (.ref o0)])
  have F_10 : Fld Z h5 o0 kMv "outrankedBy" "[I" .null := ((F_ob.other W2 (Or.inr (slot_ne (Or.inr (wq hw (i := 64) rfl)) (Or.inr (wq hw (i := 50) rfl)) (by decide) (t := (.array .int)) (t' := (.object "com/example/firm_handshake/firmhandshake/model/Transition")) (by decide) (by decide)))).ext E5)
  have Ex_11 : Exa Z h5 o0 kMv := (Ex_6.ext E5)
  obtain ⟨T9, h9, X9, e9, W9, st9⟩ := putF X5 hx hZ hown (host := "") (Or.inl (wq hw (i := 63) rfl)) Via.refl e5 F_10 Ex_11 (Or.inr ⟨(wq hw (i := 64) rfl), rfl, hnm⟩) (wq hw (i := 43) rfl) (ty := (.array .int)) (by decide) rfl rfl (g := (mkF m 18 #[vr o0, vr o1, vr o2, su] [(.ref b5), (.ref o0)])) rfl rfl (hb hby d6_18)
  have Fw9 : Fld Z h9 o0 kMv "outrankedBy" "[I" (.ref b5) := F_10.same W9
  refine Fini.st st9 ?_
  have N9 := Fr.snoc X9 N2 g0
  refine fC X9 hx hby d6_21 rfl ?_
  refine Fini.st (fun _ k => XS.istoreN X9.here hx rfl (hb hby d6_22) rfl (l' := #[vr o0, vr o1, vr o2, vi (0 : Int32)]) rfl k) ?_
  refine fIN X9 hx hby d6_23 rfl rfl ?_
  refine fAN X9 hx hby d6_24 rfl rfl rfl ?_
  obtain ⟨T12, X12, e12, st12⟩ := getF X9 hx hZ hown (host := "") (Or.inl (wq hw (i := 63) rfl)) Via.refl e9 Fw9 (g := (mkF m 25 #[vr o0, vr o1, vr o2, vi (0 : Int32)] [(.ref o0), (.int (0 : Int32))])) rfl rfl (hb hby d6_25)
  refine Fini.st st12 ?_
  show Fini _ _ _ _ _ _ _ T12 (mkF m 28 #[vr o0, vr o1, vr o2, vi (0 : Int32)] [(.ref b5), (.int (0 : Int32))])
  have Ar_13 : AryI Z h9 b5 .int (0 : Int32) (fun _ => 0) := (Ar5.other W9 (Ne.symm ne_o0_b5))
  refine Fini.st (fun _ k => Ar_13.len X12 hx hZ e12 rfl rfl (hb hby d6_28) k) ?_
  show Fini _ _ _ _ _ _ _ T12 (mkF m 29 #[vr o0, vr o1, vr o2, vi (0 : Int32)] [(.int (0 : Int32)), (.int (0 : Int32))])
  refine Fini.st (fun _ k => XS.icmpYes X12.here hx rfl (pc0 := 29) (pc' := 57) rfl (hb hby d6_29) rfl (XT.ii_ge_t (by decide : ¬ (0 : Int32) < (0 : Int32))) (by decide) (by decide) k) ?_
  have Kp_14 : Keep h0 h9 [o0] := (Keep.wr (Keep.ext Kp_8 E5) W9 (Or.inl (List.mem_of_getElem? (i := 0) rfl)))
  have Ex_15 : Exa Z h9 o0 kMv := (Ex_11.wr W9)
  have F_16 : Fld Z h9 o0 kMv "transition" "Lcom/example/firm_handshake/firmhandshake/model/Transition;" (.ref o1) := ((Fw2.ext E5).other W9 (Or.inr (slot_ne (Or.inr (wq hw (i := 50) rfl)) (Or.inr (wq hw (i := 64) rfl)) (by decide) (t := (.object "com/example/firm_handshake/firmhandshake/model/Transition")) (t' := (.array .int)) (by decide) (by decide))))
  have Ex_17 : Exa Z h9 b5 "[I" := (Ea5.wr W9)
  exact Fini.ret0 X12 hx hlk Bd.returns (hb hby d6_57) (by decide) (by decide) ⟨rfl, N9, (by rw [e12]; exact Kp_14), _, sz_b5, ge_b5, ne_o0_b5, (by rw [e12]; exact Ex_15), (by rw [e12]; exact F_16), (by rw [e12]; exact Fw9), (by rw [e12]; exact Ex_17), (by rw [e12]; exact (AryI.cast Ar_13 (own_up0 v)))⟩
 ·
  subst hn
  refine fAN X1 hx hby d6_4 rfl rfl rfl ?_
  refine fAN X1 hx hby d6_5 rfl rfl rfl ?_
  obtain ⟨T18, h18, X18, e18, W18, st18⟩ := putF X1 hx hZ hown (host := "") (Or.inl (wq hw (i := 49) rfl)) Via.refl e1 F_tr E_o0 (Or.inr ⟨(wq hw (i := 50) rfl), rfl, hnm⟩) (wq hw (i := 43) rfl) (ty := (.object "com/example/firm_handshake/firmhandshake/model/Transition")) (by decide) rfl rfl (g := (mkF m 6 #[vr o0, vr o1, vr o2, su] [(.ref o1), (.ref o0)])) rfl rfl (hb hby d6_6)
  have Fw18 : Fld Z h18 o0 kMv "transition" "Lcom/example/firm_handshake/firmhandshake/model/Transition;" (.ref o1) := F_tr.same W18
  refine Fini.st st18 ?_
  have N18 := Fr.snoc X18 N0 g0
  refine fAN X18 hx hby d6_9 rfl rfl rfl ?_
  refine fAN X18 hx hby d6_10 rfl rfl rfl ?_
  have Al_20 : ALs Z B dd h18 o2 x (1 : Int32) u := (A_o2.other W18 n20 nx0)
  obtain ⟨T19, X19, e19, st19⟩ := pureI X18 hx hZ hown (wq hw (i := 51) rfl) (wq hw (i := 52) rfl) (wq hw (i := 53) rfl) (wq hw (i := 54) rfl) (wq hw (i := 55) rfl) (wq hw (i := 56) rfl) (wq hw (i := 57) rfl) (wq hw (i := 58) rfl) (wq hw (i := 20) rfl) (wq hw (i := 59) rfl) Al_20.exa (by decide) (c7 l Z a0 hw h18 Al_20) e18 (W := 1) (by decide) (by decide) (by decide) (by decide) (g := (mkF m 11 #[vr o0, vr o1, vr o2, su] [(.ref o2), (.ref o0)])) rfl (by rw [hml]; rfl) (argsL := []) (rest := [(.ref o0)]) rfl (lenOf pd_7 rfl) rfl (by show 2 * 0 + _ ≤ _; exact Nat.le_of_eq rfl) (hb hby d6_11)
  refine Fini.st st19 ?_
  show Fini _ _ _ _ _ _ _ T19 (mkF m 16 #[vr o0, vr o1, vr o2, su] [(.int (1 : Int32)), (.ref o0)])
  obtain ⟨T21, h21, k21, X21, e21, E21, A21, Ea21, st21⟩ := newPE X19 hx hZ (wq hw (i := 62) rfl) e19 (g := (mkF m 16 #[vr o0, vr o1, vr o2, su] [(.int (1 : Int32)), (.ref o0)])) rfl (hb hby d6_16) rfl (by decide) (cap := 1) (by decide) (by decide) (by decide) (by decide) (ad := "[I") (by decide)
  obtain ⟨b21, g21⟩ : ∃ z, z = h18.size := ⟨_, rfl⟩
  rw [← g21] at A21 st21 Ea21
  have Ex_22 : Exa Z h18 o0 kMv := (E_o0.wr W18)
  have ne_o0_b21 : o0 ≠ b21 := Nat.ne_of_lt (Nat.lt_of_lt_of_le Ex_22.lt (Nat.le_of_eq g21.symm))
  have ne_o2_b21 : o2 ≠ b21 := Nat.ne_of_lt (Nat.lt_of_lt_of_le Al_20.lt (Nat.le_of_eq g21.symm))
  have ne_x_b21 : x ≠ b21 := Nat.ne_of_lt (Nat.lt_of_lt_of_le Al_20.lte (Nat.le_of_eq g21.symm))
  have Zs_23 : n0 ≤ h18.size := (Nat.le_trans Z0 (Nat.le_of_eq W18.size.symm))
  have ge_b21 : n0 ≤ b21 := Nat.le_trans Zs_23 (Nat.le_of_eq g21.symm)
  have Kp_24 : Keep h0 h18 [o0] := (Keep.wr (Keep.refl h0 [o0]) W18 (Or.inl (List.mem_of_getElem? (i := 0) rfl)))
  have sz_b21 : h0.size ≤ b21 := Nat.le_trans Kp_24.1 (Nat.le_of_eq g21.symm)
  have Ar21 : AryI Z h21 b21 .int (1 : Int32) (fun _ => 0) := AryI.new A21 (by decide) rfl
  refine Fini.st st21 ?_
  show Fini _ _ _ _ _ _ _ T21 (mkF m 18 #[vr o0, vr o1, vr o2, su] [(.ref b21), (.ref o0)])
  have F_26 : Fld Z h21 o0 kMv "outrankedBy" "[I" .null := ((F_ob.other W18 (Or.inr (slot_ne (Or.inr (wq hw (i := 64) rfl)) (Or.inr (wq hw (i := 50) rfl)) (by decide) (t := (.array .int)) (t' := (.object "com/example/firm_handshake/firmhandshake/model/Transition")) (by decide) (by decide)))).ext E21)
  have Ex_27 : Exa Z h21 o0 kMv := (Ex_22.ext E21)
  obtain ⟨T25, h25, X25, e25, W25, st25⟩ := putF X21 hx hZ hown (host := "") (Or.inl (wq hw (i := 63) rfl)) Via.refl e21 F_26 Ex_27 (Or.inr ⟨(wq hw (i := 64) rfl), rfl, hnm⟩) (wq hw (i := 43) rfl) (ty := (.array .int)) (by decide) rfl rfl (g := (mkF m 18 #[vr o0, vr o1, vr o2, su] [(.ref b21), (.ref o0)])) rfl rfl (hb hby d6_18)
  have Fw25 : Fld Z h25 o0 kMv "outrankedBy" "[I" (.ref b21) := F_26.same W25
  refine Fini.st st25 ?_
  have N25 := Fr.snoc X25 N18 g0
  refine fC X25 hx hby d6_21 rfl ?_
  refine Fini.st (fun _ k => XS.istoreN X25.here hx rfl (hb hby d6_22) rfl (l' := #[vr o0, vr o1, vr o2, vi (0 : Int32)]) rfl k) ?_
  refine fIN X25 hx hby d6_23 rfl rfl ?_
  refine fAN X25 hx hby d6_24 rfl rfl rfl ?_
  obtain ⟨T28, X28, e28, st28⟩ := getF X25 hx hZ hown (host := "") (Or.inl (wq hw (i := 63) rfl)) Via.refl e25 Fw25 (g := (mkF m 25 #[vr o0, vr o1, vr o2, vi (0 : Int32)] [(.ref o0), (.int (0 : Int32))])) rfl rfl (hb hby d6_25)
  refine Fini.st st28 ?_
  show Fini _ _ _ _ _ _ _ T28 (mkF m 28 #[vr o0, vr o1, vr o2, vi (0 : Int32)] [(.ref b21), (.int (0 : Int32))])
  have Ar_29 : AryI Z h25 b21 .int (1 : Int32) (fun _ => 0) := (Ar21.other W25 (Ne.symm ne_o0_b21))
  refine Fini.st (fun _ k => Ar_29.len X28 hx hZ e28 rfl rfl (hb hby d6_28) k) ?_
  show Fini _ _ _ _ _ _ _ T28 (mkF m 29 #[vr o0, vr o1, vr o2, vi (0 : Int32)] [(.int (1 : Int32)), (.int (0 : Int32))])
  refine Fini.st (fun _ k => XS.icmpNo X28.here hx rfl (hb hby d6_29) rfl (XT.ii_ge_f (by decide : (0 : Int32) < (1 : Int32))) k) ?_
  refine fAN X28 hx hby d6_32 rfl rfl rfl ?_
  obtain ⟨T30, X30, e30, st30⟩ := getF X28 hx hZ hown (host := "") (Or.inl (wq hw (i := 63) rfl)) Via.refl e28 Fw25 (g := (mkF m 33 #[vr o0, vr o1, vr o2, vi (0 : Int32)] [(.ref o0)])) rfl rfl (hb hby d6_33)
  refine Fini.st st30 ?_
  refine fIN X30 hx hby d6_36 rfl rfl ?_
  refine fAN X30 hx hby d6_37 rfl rfl rfl ?_
  refine fIN X30 hx hby d6_38 rfl rfl ?_
  have Al_32 : ALs Z B dd h25 o2 x (1 : Int32) u := ((Al_20.ext E21).other W25 n20 nx0)
  obtain ⟨v31, T31, L31, X31, hQ31, st31⟩ := callI X30 hx hZ hown (wq hw (i := 328) rfl) (wq hw (i := 112) rfl) (wq hw (i := 113) rfl) (wq hw (i := 114) rfl) (wq hw (i := 115) rfl) (wq hw (i := 116) rfl) (wq hw (i := 117) rfl) (wq hw (i := 58) rfl) (wq hw (i := 20) rfl) (wq hw (i := 118) rfl) Al_32.exa (by decide) (c14 l Z a0 hw h25 Al_32 (i := (0 : Int32)) (by decide) (by decide)) e30 (W := 2) (by decide) (by decide) (by decide) (by decide) (g := (mkF m 39 #[vr o0, vr o1, vr o2, vi (0 : Int32)] [(.int (0 : Int32)), (.ref o2), (.int (0 : Int32)), (.ref b21)])) rfl (by rw [hml]; rfl) (argsL := [(.int (0 : Int32))]) (rest := [(.int (0 : Int32)), (.ref b21)]) rfl (lenOf pd_3 rfl) rfl (by show 2 * 0 + _ ≤ _; exact Nat.le_of_eq rfl) (hb hby d6_39)
  obtain ⟨q31, eq31, Eq31, Fq31⟩ := hbx 0 (by decide)
  have eq31 : u ((0 : Int32)).toNatClampNeg = .ref q31 := eq31
  rw [eq31] at hQ31
  obtain ⟨rfl, hh31, rfl⟩ := hQ31
  have K31 : Keep h25 T31.heap [] := by rw [hh31]; exact Keep.refl _ _
  have Nq31 := Fr.nil n0
  have N31 := Fr.app N25 Nq31
  refine Fini.st st31 ?_
  show Fini _ _ _ _ _ _ _ T31 (mkF m 44 #[vr o0, vr o1, vr o2, vi (0 : Int32)] [(.ref q31), (.int (0 : Int32)), (.ref b21)])
  have Od_34 : Old Z n0 T31.heap := (Old.keep (Old.wr (Old.ext (Old.wr D0 W18 g0) E21) W25 g0) K31 all0)
  have An_35 : Exa Z T31.heap q31 "java/lang/Integer" := (Eq31.ext Od_34.2)
  obtain ⟨T33, X33, e33, st33⟩ := castY X31 hx hZ hown (wq hw (i := 329) rfl) rfl (Ins.self An_35) (g := (mkF m 44 #[vr o0, vr o1, vr o2, vi (0 : Int32)] [(.ref q31), (.int (0 : Int32)), (.ref b21)])) rfl rfl (hb hby d6_44)
  refine Fini.st st33 ?_
  have An_37 : Fld Z T31.heap q31 "java/lang/Integer" "value" "I" (.int (v 0)) := (Fq31.ext Od_34.2)
  obtain ⟨T36, X36, e36, st36⟩ := pureV X33 hx hZ hown (wq hw (i := 331) rfl) (wq hw (i := 332) rfl) (wq hw (i := 334) rfl) (wq hw (i := 333) rfl) (wq hw (i := 289) rfl) (wq hw (i := 335) rfl) (notFace_of_selects (args := #[]) (mvT hZ (wq hw (i := 334) rfl))) An_35 (by decide) (rm42 l Z a0 hw [] q31 (v 0) T31.heap An_37) e33 (W := 2) (by decide) (by decide) (by decide) (by decide) (g := (mkF m 47 #[vr o0, vr o1, vr o2, vi (0 : Int32)] [(.ref q31), (.int (0 : Int32)), (.ref b21)])) rfl (by rw [hml]; rfl) (argsL := []) (rest := [(.int (0 : Int32)), (.ref b21)]) rfl (lenOf pd_7 rfl) rfl (by show 2 * 0 + _ ≤ _; exact Nat.le_of_eq rfl) (hb hby d6_47)
  refine Fini.st st36 ?_
  show Fini _ _ _ _ _ _ _ T36 (mkF m 50 #[vr o0, vr o1, vr o2, vi (0 : Int32)] [(.int (v 0)), (.int (0 : Int32)), (.ref b21)])
  have Ar_38 : AryI Z T31.heap b21 .int (1 : Int32) (fun _ => 0) := (Ar_29.keep K31 nin0)
  obtain ⟨T39, h39, X39, e39, W39, Ar39, st39⟩ := Ar_38.stI X36 hx hZ e36 ⟨by decide, by decide⟩ (g := (mkF m 50 #[vr o0, vr o1, vr o2, vi (0 : Int32)] [(.int (v 0)), (.int (0 : Int32)), (.ref b21)])) rfl rfl (hb hby d6_50)
  refine Fini.st st39 ?_
  have N39 := Fr.snoc X39 N31 ge_b21
  show Fini _ _ _ _ _ _ _ T39 (mkF m 51 #[vr o0, vr o1, vr o2, vi (0 : Int32)] [])
  refine Fini.st (fun _ k => XS.iinc X39.here hx rfl (hb hby d6_51) rfl (l' := #[vr o0, vr o1, vr o2, vi (1 : Int32)]) rfl k) ?_
  refine Fini.st (fun _ k => XS.goto X39.here hx rfl (pc0 := 54) (pc' := 23) rfl (hb hby d6_54) (by decide) (by decide) k) ?_
  refine fIN X39 hx hby d6_23 rfl rfl ?_
  refine fAN X39 hx hby d6_24 rfl rfl rfl ?_
  have F_41 : Fld Z h39 o0 kMv "outrankedBy" "[I" (.ref b21) := ((Fw25.keep K31 nin0).other W39 (Or.inl ne_o0_b21))
  obtain ⟨T40, X40, e40, st40⟩ := getF X39 hx hZ hown (host := "") (Or.inl (wq hw (i := 63) rfl)) Via.refl e39 F_41 (g := (mkF m 25 #[vr o0, vr o1, vr o2, vi (1 : Int32)] [(.ref o0), (.int (1 : Int32))])) rfl rfl (hb hby d6_25)
  refine Fini.st st40 ?_
  show Fini _ _ _ _ _ _ _ T40 (mkF m 28 #[vr o0, vr o1, vr o2, vi (1 : Int32)] [(.ref b21), (.int (1 : Int32))])
  refine Fini.st (fun _ k => Ar39.len X40 hx hZ e40 rfl rfl (hb hby d6_28) k) ?_
  show Fini _ _ _ _ _ _ _ T40 (mkF m 29 #[vr o0, vr o1, vr o2, vi (1 : Int32)] [(.int (1 : Int32)), (.int (1 : Int32))])
  refine Fini.st (fun _ k => XS.icmpYes X40.here hx rfl (pc0 := 29) (pc' := 57) rfl (hb hby d6_29) rfl (XT.ii_ge_t (by decide : ¬ (1 : Int32) < (1 : Int32))) (by decide) (by decide) k) ?_
  have Kp_42 : Keep h0 h39 [o0] := (Keep.wr (Keep.trans (Keep.wr (Keep.ext Kp_24 E21) W25 (Or.inl (List.mem_of_getElem? (i := 0) rfl))) K31 all0) W39 (Or.inr sz_b21))
  have Ex_43 : Exa Z h39 o0 kMv := (((Ex_27.wr W25).keep K31).wr W39)
  have F_44 : Fld Z h39 o0 kMv "transition" "Lcom/example/firm_handshake/firmhandshake/model/Transition;" (.ref o1) := ((((Fw18.ext E21).other W25 (Or.inr (slot_ne (Or.inr (wq hw (i := 50) rfl)) (Or.inr (wq hw (i := 64) rfl)) (by decide) (t := (.object "com/example/firm_handshake/firmhandshake/model/Transition")) (t' := (.array .int)) (by decide) (by decide)))).keep K31 nin0).other W39 (Or.inl ne_o0_b21))
  have Ex_45 : Exa Z h39 b21 "[I" := (((Ea21.wr W25).keep K31).wr W39)
  exact Fini.ret0 X40 hx hlk Bd.returns (hb hby d6_57) (by decide) (by decide) ⟨rfl, N39, (by rw [e40]; exact Kp_42), _, sz_b21, ge_b21, ne_o0_b21, (by rw [e40]; exact Ex_43), (by rw [e40]; exact F_44), (by rw [e40]; exact F_41), (by rw [e40]; exact Ex_45), (by rw [e40]; exact (AryI.cast Ar39 (own_up1 v)))⟩
 ·
  subst hn
  refine fAN X1 hx hby d6_4 rfl rfl rfl ?_
  refine fAN X1 hx hby d6_5 rfl rfl rfl ?_
  obtain ⟨T46, h46, X46, e46, W46, st46⟩ := putF X1 hx hZ hown (host := "") (Or.inl (wq hw (i := 49) rfl)) Via.refl e1 F_tr E_o0 (Or.inr ⟨(wq hw (i := 50) rfl), rfl, hnm⟩) (wq hw (i := 43) rfl) (ty := (.object "com/example/firm_handshake/firmhandshake/model/Transition")) (by decide) rfl rfl (g := (mkF m 6 #[vr o0, vr o1, vr o2, su] [(.ref o1), (.ref o0)])) rfl rfl (hb hby d6_6)
  have Fw46 : Fld Z h46 o0 kMv "transition" "Lcom/example/firm_handshake/firmhandshake/model/Transition;" (.ref o1) := F_tr.same W46
  refine Fini.st st46 ?_
  have N46 := Fr.snoc X46 N0 g0
  refine fAN X46 hx hby d6_9 rfl rfl rfl ?_
  refine fAN X46 hx hby d6_10 rfl rfl rfl ?_
  have Al_48 : ALs Z B dd h46 o2 x (2 : Int32) u := (A_o2.other W46 n20 nx0)
  obtain ⟨T47, X47, e47, st47⟩ := pureI X46 hx hZ hown (wq hw (i := 51) rfl) (wq hw (i := 52) rfl) (wq hw (i := 53) rfl) (wq hw (i := 54) rfl) (wq hw (i := 55) rfl) (wq hw (i := 56) rfl) (wq hw (i := 57) rfl) (wq hw (i := 58) rfl) (wq hw (i := 20) rfl) (wq hw (i := 59) rfl) Al_48.exa (by decide) (c7 l Z a0 hw h46 Al_48) e46 (W := 1) (by decide) (by decide) (by decide) (by decide) (g := (mkF m 11 #[vr o0, vr o1, vr o2, su] [(.ref o2), (.ref o0)])) rfl (by rw [hml]; rfl) (argsL := []) (rest := [(.ref o0)]) rfl (lenOf pd_7 rfl) rfl (by show 2 * 0 + _ ≤ _; exact Nat.le_of_eq rfl) (hb hby d6_11)
  refine Fini.st st47 ?_
  show Fini _ _ _ _ _ _ _ T47 (mkF m 16 #[vr o0, vr o1, vr o2, su] [(.int (2 : Int32)), (.ref o0)])
  obtain ⟨T49, h49, k49, X49, e49, E49, A49, Ea49, st49⟩ := newPE X47 hx hZ (wq hw (i := 62) rfl) e47 (g := (mkF m 16 #[vr o0, vr o1, vr o2, su] [(.int (2 : Int32)), (.ref o0)])) rfl (hb hby d6_16) rfl (by decide) (cap := 2) (by decide) (by decide) (by decide) (by decide) (ad := "[I") (by decide)
  obtain ⟨b49, g49⟩ : ∃ z, z = h46.size := ⟨_, rfl⟩
  rw [← g49] at A49 st49 Ea49
  have Ex_50 : Exa Z h46 o0 kMv := (E_o0.wr W46)
  have ne_o0_b49 : o0 ≠ b49 := Nat.ne_of_lt (Nat.lt_of_lt_of_le Ex_50.lt (Nat.le_of_eq g49.symm))
  have ne_o2_b49 : o2 ≠ b49 := Nat.ne_of_lt (Nat.lt_of_lt_of_le Al_48.lt (Nat.le_of_eq g49.symm))
  have ne_x_b49 : x ≠ b49 := Nat.ne_of_lt (Nat.lt_of_lt_of_le Al_48.lte (Nat.le_of_eq g49.symm))
  have Zs_51 : n0 ≤ h46.size := (Nat.le_trans Z0 (Nat.le_of_eq W46.size.symm))
  have ge_b49 : n0 ≤ b49 := Nat.le_trans Zs_51 (Nat.le_of_eq g49.symm)
  have Kp_52 : Keep h0 h46 [o0] := (Keep.wr (Keep.refl h0 [o0]) W46 (Or.inl (List.mem_of_getElem? (i := 0) rfl)))
  have sz_b49 : h0.size ≤ b49 := Nat.le_trans Kp_52.1 (Nat.le_of_eq g49.symm)
  have Ar49 : AryI Z h49 b49 .int (2 : Int32) (fun _ => 0) := AryI.new A49 (by decide) rfl
  refine Fini.st st49 ?_
  show Fini _ _ _ _ _ _ _ T49 (mkF m 18 #[vr o0, vr o1, vr o2, su] [(.ref b49), (.ref o0)])
  have F_54 : Fld Z h49 o0 kMv "outrankedBy" "[I" .null := ((F_ob.other W46 (Or.inr (slot_ne (Or.inr (wq hw (i := 64) rfl)) (Or.inr (wq hw (i := 50) rfl)) (by decide) (t := (.array .int)) (t' := (.object "com/example/firm_handshake/firmhandshake/model/Transition")) (by decide) (by decide)))).ext E49)
  have Ex_55 : Exa Z h49 o0 kMv := (Ex_50.ext E49)
  obtain ⟨T53, h53, X53, e53, W53, st53⟩ := putF X49 hx hZ hown (host := "") (Or.inl (wq hw (i := 63) rfl)) Via.refl e49 F_54 Ex_55 (Or.inr ⟨(wq hw (i := 64) rfl), rfl, hnm⟩) (wq hw (i := 43) rfl) (ty := (.array .int)) (by decide) rfl rfl (g := (mkF m 18 #[vr o0, vr o1, vr o2, su] [(.ref b49), (.ref o0)])) rfl rfl (hb hby d6_18)
  have Fw53 : Fld Z h53 o0 kMv "outrankedBy" "[I" (.ref b49) := F_54.same W53
  refine Fini.st st53 ?_
  have N53 := Fr.snoc X53 N46 g0
  refine fC X53 hx hby d6_21 rfl ?_
  refine Fini.st (fun _ k => XS.istoreN X53.here hx rfl (hb hby d6_22) rfl (l' := #[vr o0, vr o1, vr o2, vi (0 : Int32)]) rfl k) ?_
  refine fIN X53 hx hby d6_23 rfl rfl ?_
  refine fAN X53 hx hby d6_24 rfl rfl rfl ?_
  obtain ⟨T56, X56, e56, st56⟩ := getF X53 hx hZ hown (host := "") (Or.inl (wq hw (i := 63) rfl)) Via.refl e53 Fw53 (g := (mkF m 25 #[vr o0, vr o1, vr o2, vi (0 : Int32)] [(.ref o0), (.int (0 : Int32))])) rfl rfl (hb hby d6_25)
  refine Fini.st st56 ?_
  show Fini _ _ _ _ _ _ _ T56 (mkF m 28 #[vr o0, vr o1, vr o2, vi (0 : Int32)] [(.ref b49), (.int (0 : Int32))])
  have Ar_57 : AryI Z h53 b49 .int (2 : Int32) (fun _ => 0) := (Ar49.other W53 (Ne.symm ne_o0_b49))
  refine Fini.st (fun _ k => Ar_57.len X56 hx hZ e56 rfl rfl (hb hby d6_28) k) ?_
  show Fini _ _ _ _ _ _ _ T56 (mkF m 29 #[vr o0, vr o1, vr o2, vi (0 : Int32)] [(.int (2 : Int32)), (.int (0 : Int32))])
  refine Fini.st (fun _ k => XS.icmpNo X56.here hx rfl (hb hby d6_29) rfl (XT.ii_ge_f (by decide : (0 : Int32) < (2 : Int32))) k) ?_
  refine fAN X56 hx hby d6_32 rfl rfl rfl ?_
  obtain ⟨T58, X58, e58, st58⟩ := getF X56 hx hZ hown (host := "") (Or.inl (wq hw (i := 63) rfl)) Via.refl e56 Fw53 (g := (mkF m 33 #[vr o0, vr o1, vr o2, vi (0 : Int32)] [(.ref o0)])) rfl rfl (hb hby d6_33)
  refine Fini.st st58 ?_
  refine fIN X58 hx hby d6_36 rfl rfl ?_
  refine fAN X58 hx hby d6_37 rfl rfl rfl ?_
  refine fIN X58 hx hby d6_38 rfl rfl ?_
  have Al_60 : ALs Z B dd h53 o2 x (2 : Int32) u := ((Al_48.ext E49).other W53 n20 nx0)
  obtain ⟨v59, T59, L59, X59, hQ59, st59⟩ := callI X58 hx hZ hown (wq hw (i := 328) rfl) (wq hw (i := 112) rfl) (wq hw (i := 113) rfl) (wq hw (i := 114) rfl) (wq hw (i := 115) rfl) (wq hw (i := 116) rfl) (wq hw (i := 117) rfl) (wq hw (i := 58) rfl) (wq hw (i := 20) rfl) (wq hw (i := 118) rfl) Al_60.exa (by decide) (c14 l Z a0 hw h53 Al_60 (i := (0 : Int32)) (by decide) (by decide)) e58 (W := 2) (by decide) (by decide) (by decide) (by decide) (g := (mkF m 39 #[vr o0, vr o1, vr o2, vi (0 : Int32)] [(.int (0 : Int32)), (.ref o2), (.int (0 : Int32)), (.ref b49)])) rfl (by rw [hml]; rfl) (argsL := [(.int (0 : Int32))]) (rest := [(.int (0 : Int32)), (.ref b49)]) rfl (lenOf pd_3 rfl) rfl (by show 2 * 0 + _ ≤ _; exact Nat.le_of_eq rfl) (hb hby d6_39)
  obtain ⟨q59, eq59, Eq59, Fq59⟩ := hbx 0 (by decide)
  have eq59 : u ((0 : Int32)).toNatClampNeg = .ref q59 := eq59
  rw [eq59] at hQ59
  obtain ⟨rfl, hh59, rfl⟩ := hQ59
  have K59 : Keep h53 T59.heap [] := by rw [hh59]; exact Keep.refl _ _
  have Nq59 := Fr.nil n0
  have N59 := Fr.app N53 Nq59
  refine Fini.st st59 ?_
  show Fini _ _ _ _ _ _ _ T59 (mkF m 44 #[vr o0, vr o1, vr o2, vi (0 : Int32)] [(.ref q59), (.int (0 : Int32)), (.ref b49)])
  have Od_62 : Old Z n0 T59.heap := (Old.keep (Old.wr (Old.ext (Old.wr D0 W46 g0) E49) W53 g0) K59 all0)
  have An_63 : Exa Z T59.heap q59 "java/lang/Integer" := (Eq59.ext Od_62.2)
  obtain ⟨T61, X61, e61, st61⟩ := castY X59 hx hZ hown (wq hw (i := 329) rfl) rfl (Ins.self An_63) (g := (mkF m 44 #[vr o0, vr o1, vr o2, vi (0 : Int32)] [(.ref q59), (.int (0 : Int32)), (.ref b49)])) rfl rfl (hb hby d6_44)
  refine Fini.st st61 ?_
  have An_65 : Fld Z T59.heap q59 "java/lang/Integer" "value" "I" (.int (v 0)) := (Fq59.ext Od_62.2)
  obtain ⟨T64, X64, e64, st64⟩ := pureV X61 hx hZ hown (wq hw (i := 331) rfl) (wq hw (i := 332) rfl) (wq hw (i := 334) rfl) (wq hw (i := 333) rfl) (wq hw (i := 289) rfl) (wq hw (i := 335) rfl) (notFace_of_selects (args := #[]) (mvT hZ (wq hw (i := 334) rfl))) An_63 (by decide) (rm42 l Z a0 hw [] q59 (v 0) T59.heap An_65) e61 (W := 2) (by decide) (by decide) (by decide) (by decide) (g := (mkF m 47 #[vr o0, vr o1, vr o2, vi (0 : Int32)] [(.ref q59), (.int (0 : Int32)), (.ref b49)])) rfl (by rw [hml]; rfl) (argsL := []) (rest := [(.int (0 : Int32)), (.ref b49)]) rfl (lenOf pd_7 rfl) rfl (by show 2 * 0 + _ ≤ _; exact Nat.le_of_eq rfl) (hb hby d6_47)
  refine Fini.st st64 ?_
  show Fini _ _ _ _ _ _ _ T64 (mkF m 50 #[vr o0, vr o1, vr o2, vi (0 : Int32)] [(.int (v 0)), (.int (0 : Int32)), (.ref b49)])
  have Ar_66 : AryI Z T59.heap b49 .int (2 : Int32) (fun _ => 0) := (Ar_57.keep K59 nin0)
  obtain ⟨T67, h67, X67, e67, W67, Ar67, st67⟩ := Ar_66.stI X64 hx hZ e64 ⟨by decide, by decide⟩ (g := (mkF m 50 #[vr o0, vr o1, vr o2, vi (0 : Int32)] [(.int (v 0)), (.int (0 : Int32)), (.ref b49)])) rfl rfl (hb hby d6_50)
  refine Fini.st st67 ?_
  have N67 := Fr.snoc X67 N59 ge_b49
  show Fini _ _ _ _ _ _ _ T67 (mkF m 51 #[vr o0, vr o1, vr o2, vi (0 : Int32)] [])
  refine Fini.st (fun _ k => XS.iinc X67.here hx rfl (hb hby d6_51) rfl (l' := #[vr o0, vr o1, vr o2, vi (1 : Int32)]) rfl k) ?_
  refine Fini.st (fun _ k => XS.goto X67.here hx rfl (pc0 := 54) (pc' := 23) rfl (hb hby d6_54) (by decide) (by decide) k) ?_
  refine fIN X67 hx hby d6_23 rfl rfl ?_
  refine fAN X67 hx hby d6_24 rfl rfl rfl ?_
  have F_69 : Fld Z h67 o0 kMv "outrankedBy" "[I" (.ref b49) := ((Fw53.keep K59 nin0).other W67 (Or.inl ne_o0_b49))
  obtain ⟨T68, X68, e68, st68⟩ := getF X67 hx hZ hown (host := "") (Or.inl (wq hw (i := 63) rfl)) Via.refl e67 F_69 (g := (mkF m 25 #[vr o0, vr o1, vr o2, vi (1 : Int32)] [(.ref o0), (.int (1 : Int32))])) rfl rfl (hb hby d6_25)
  refine Fini.st st68 ?_
  show Fini _ _ _ _ _ _ _ T68 (mkF m 28 #[vr o0, vr o1, vr o2, vi (1 : Int32)] [(.ref b49), (.int (1 : Int32))])
  refine Fini.st (fun _ k => Ar67.len X68 hx hZ e68 rfl rfl (hb hby d6_28) k) ?_
  show Fini _ _ _ _ _ _ _ T68 (mkF m 29 #[vr o0, vr o1, vr o2, vi (1 : Int32)] [(.int (2 : Int32)), (.int (1 : Int32))])
  refine Fini.st (fun _ k => XS.icmpNo X68.here hx rfl (hb hby d6_29) rfl (XT.ii_ge_f (by decide : (1 : Int32) < (2 : Int32))) k) ?_
  refine fAN X68 hx hby d6_32 rfl rfl rfl ?_
  obtain ⟨T70, X70, e70, st70⟩ := getF X68 hx hZ hown (host := "") (Or.inl (wq hw (i := 63) rfl)) Via.refl e68 F_69 (g := (mkF m 33 #[vr o0, vr o1, vr o2, vi (1 : Int32)] [(.ref o0)])) rfl rfl (hb hby d6_33)
  refine Fini.st st70 ?_
  refine fIN X70 hx hby d6_36 rfl rfl ?_
  refine fAN X70 hx hby d6_37 rfl rfl rfl ?_
  refine fIN X70 hx hby d6_38 rfl rfl ?_
  have Al_72 : ALs Z B dd h67 o2 x (2 : Int32) u := ((Al_60.keep K59 nin0 nin0).other W67 ne_o2_b49 ne_x_b49)
  obtain ⟨v71, T71, L71, X71, hQ71, st71⟩ := callI X70 hx hZ hown (wq hw (i := 328) rfl) (wq hw (i := 112) rfl) (wq hw (i := 113) rfl) (wq hw (i := 114) rfl) (wq hw (i := 115) rfl) (wq hw (i := 116) rfl) (wq hw (i := 117) rfl) (wq hw (i := 58) rfl) (wq hw (i := 20) rfl) (wq hw (i := 118) rfl) Al_72.exa (by decide) (c14 l Z a0 hw h67 Al_72 (i := (1 : Int32)) (by decide) (by decide)) e70 (W := 2) (by decide) (by decide) (by decide) (by decide) (g := (mkF m 39 #[vr o0, vr o1, vr o2, vi (1 : Int32)] [(.int (1 : Int32)), (.ref o2), (.int (1 : Int32)), (.ref b49)])) rfl (by rw [hml]; rfl) (argsL := [(.int (1 : Int32))]) (rest := [(.int (1 : Int32)), (.ref b49)]) rfl (lenOf pd_3 rfl) rfl (by show 2 * 0 + _ ≤ _; exact Nat.le_of_eq rfl) (hb hby d6_39)
  obtain ⟨q71, eq71, Eq71, Fq71⟩ := hbx 1 (by decide)
  have eq71 : u ((1 : Int32)).toNatClampNeg = .ref q71 := eq71
  rw [eq71] at hQ71
  obtain ⟨rfl, hh71, rfl⟩ := hQ71
  have K71 : Keep h67 T71.heap [] := by rw [hh71]; exact Keep.refl _ _
  have Nq71 := Fr.nil n0
  have N71 := Fr.app N67 Nq71
  refine Fini.st st71 ?_
  show Fini _ _ _ _ _ _ _ T71 (mkF m 44 #[vr o0, vr o1, vr o2, vi (1 : Int32)] [(.ref q71), (.int (1 : Int32)), (.ref b49)])
  have Od_74 : Old Z n0 T71.heap := (Old.keep (Old.wr Od_62 W67 ge_b49) K71 all0)
  have An_75 : Exa Z T71.heap q71 "java/lang/Integer" := (Eq71.ext Od_74.2)
  obtain ⟨T73, X73, e73, st73⟩ := castY X71 hx hZ hown (wq hw (i := 329) rfl) rfl (Ins.self An_75) (g := (mkF m 44 #[vr o0, vr o1, vr o2, vi (1 : Int32)] [(.ref q71), (.int (1 : Int32)), (.ref b49)])) rfl rfl (hb hby d6_44)
  refine Fini.st st73 ?_
  have An_77 : Fld Z T71.heap q71 "java/lang/Integer" "value" "I" (.int (v 1)) := (Fq71.ext Od_74.2)
  obtain ⟨T76, X76, e76, st76⟩ := pureV X73 hx hZ hown (wq hw (i := 331) rfl) (wq hw (i := 332) rfl) (wq hw (i := 334) rfl) (wq hw (i := 333) rfl) (wq hw (i := 289) rfl) (wq hw (i := 335) rfl) (notFace_of_selects (args := #[]) (mvT hZ (wq hw (i := 334) rfl))) An_75 (by decide) (rm42 l Z a0 hw [] q71 (v 1) T71.heap An_77) e73 (W := 2) (by decide) (by decide) (by decide) (by decide) (g := (mkF m 47 #[vr o0, vr o1, vr o2, vi (1 : Int32)] [(.ref q71), (.int (1 : Int32)), (.ref b49)])) rfl (by rw [hml]; rfl) (argsL := []) (rest := [(.int (1 : Int32)), (.ref b49)]) rfl (lenOf pd_7 rfl) rfl (by show 2 * 0 + _ ≤ _; exact Nat.le_of_eq rfl) (hb hby d6_47)
  refine Fini.st st76 ?_
  show Fini _ _ _ _ _ _ _ T76 (mkF m 50 #[vr o0, vr o1, vr o2, vi (1 : Int32)] [(.int (v 1)), (.int (1 : Int32)), (.ref b49)])
  have Ar_78 : AryI Z T71.heap b49 .int (2 : Int32) (upd (fun _ => 0) 0 (v 0)) := (Ar67.keep K71 nin0)
  obtain ⟨T79, h79, X79, e79, W79, Ar79, st79⟩ := Ar_78.stI X76 hx hZ e76 ⟨by decide, by decide⟩ (g := (mkF m 50 #[vr o0, vr o1, vr o2, vi (1 : Int32)] [(.int (v 1)), (.int (1 : Int32)), (.ref b49)])) rfl rfl (hb hby d6_50)
  refine Fini.st st79 ?_
  have N79 := Fr.snoc X79 N71 ge_b49
  show Fini _ _ _ _ _ _ _ T79 (mkF m 51 #[vr o0, vr o1, vr o2, vi (1 : Int32)] [])
  refine Fini.st (fun _ k => XS.iinc X79.here hx rfl (hb hby d6_51) rfl (l' := #[vr o0, vr o1, vr o2, vi (2 : Int32)]) rfl k) ?_
  refine Fini.st (fun _ k => XS.goto X79.here hx rfl (pc0 := 54) (pc' := 23) rfl (hb hby d6_54) (by decide) (by decide) k) ?_
  refine fIN X79 hx hby d6_23 rfl rfl ?_
  refine fAN X79 hx hby d6_24 rfl rfl rfl ?_
  have F_81 : Fld Z h79 o0 kMv "outrankedBy" "[I" (.ref b49) := ((F_69.keep K71 nin0).other W79 (Or.inl ne_o0_b49))
  obtain ⟨T80, X80, e80, st80⟩ := getF X79 hx hZ hown (host := "") (Or.inl (wq hw (i := 63) rfl)) Via.refl e79 F_81 (g := (mkF m 25 #[vr o0, vr o1, vr o2, vi (2 : Int32)] [(.ref o0), (.int (2 : Int32))])) rfl rfl (hb hby d6_25)
  refine Fini.st st80 ?_
  show Fini _ _ _ _ _ _ _ T80 (mkF m 28 #[vr o0, vr o1, vr o2, vi (2 : Int32)] [(.ref b49), (.int (2 : Int32))])
  refine Fini.st (fun _ k => Ar79.len X80 hx hZ e80 rfl rfl (hb hby d6_28) k) ?_
  show Fini _ _ _ _ _ _ _ T80 (mkF m 29 #[vr o0, vr o1, vr o2, vi (2 : Int32)] [(.int (2 : Int32)), (.int (2 : Int32))])
  refine Fini.st (fun _ k => XS.icmpYes X80.here hx rfl (pc0 := 29) (pc' := 57) rfl (hb hby d6_29) rfl (XT.ii_ge_t (by decide : ¬ (2 : Int32) < (2 : Int32))) (by decide) (by decide) k) ?_
  have Kp_82 : Keep h0 h79 [o0] := (Keep.wr (Keep.trans (Keep.wr (Keep.trans (Keep.wr (Keep.ext Kp_52 E49) W53 (Or.inl (List.mem_of_getElem? (i := 0) rfl))) K59 all0) W67 (Or.inr sz_b49)) K71 all0) W79 (Or.inr sz_b49))
  have Ex_83 : Exa Z h79 o0 kMv := (((((Ex_55.wr W53).keep K59).wr W67).keep K71).wr W79)
  have F_84 : Fld Z h79 o0 kMv "transition" "Lcom/example/firm_handshake/firmhandshake/model/Transition;" (.ref o1) := ((((((Fw46.ext E49).other W53 (Or.inr (slot_ne (Or.inr (wq hw (i := 50) rfl)) (Or.inr (wq hw (i := 64) rfl)) (by decide) (t := (.object "com/example/firm_handshake/firmhandshake/model/Transition")) (t' := (.array .int)) (by decide) (by decide)))).keep K59 nin0).other W67 (Or.inl ne_o0_b49)).keep K71 nin0).other W79 (Or.inl ne_o0_b49))
  have Ex_85 : Exa Z h79 b49 "[I" := (((((Ea49.wr W53).keep K59).wr W67).keep K71).wr W79)
  exact Fini.ret0 X80 hx hlk Bd.returns (hb hby d6_57) (by decide) (by decide) ⟨rfl, N79, (by rw [e80]; exact Kp_82), _, sz_b49, ge_b49, ne_o0_b49, (by rw [e80]; exact Ex_83), (by rw [e80]; exact F_84), (by rw [e80]; exact F_81), (by rw [e80]; exact Ex_85), (by rw [e80]; exact (AryI.cast Ar79 (own_up2 v)))⟩
theorem d36_0 : decode prog_118_method_7_code 0 = .ok (.aload_n 0, 1) := by decide +kernel
theorem d36_1 : decode prog_118_method_7_code 1 = .ok (.getfield 18, 3) := by decide +kernel
theorem d36_4 : decode prog_118_method_7_code 4 = .ok (.iload_n 2, 1) := by decide +kernel
theorem d36_5 : decode prog_118_method_7_code 5 = .ok (.aaload, 1) := by decide +kernel
theorem d36_6 : decode prog_118_method_7_code 6 = .ok (.astore_n 3, 1) := by decide +kernel
theorem d36_7 : decode prog_118_method_7_code 7 = .ok (.aload_n 3, 1) := by decide +kernel
theorem d36_8 : decode prog_118_method_7_code 8 = .ok (.arraylength, 1) := by decide +kernel
theorem d36_9 : decode prog_118_method_7_code 9 = .ok (.istore 4, 2) := by decide +kernel
theorem d36_11 : decode prog_118_method_7_code 11 = .ok (.iconst 0, 1) := by decide +kernel
theorem d36_12 : decode prog_118_method_7_code 12 = .ok (.istore 5, 2) := by decide +kernel
theorem d36_14 : decode prog_118_method_7_code 14 = .ok (.iload 5, 2) := by decide +kernel
theorem d36_16 : decode prog_118_method_7_code 16 = .ok (.iload 4, 2) := by decide +kernel
theorem d36_18 : decode prog_118_method_7_code 18 = .ok (.if_icmp .ge 23, 3) := by decide +kernel
theorem d36_21 : decode prog_118_method_7_code 21 = .ok (.aload_n 3, 1) := by decide +kernel
theorem d36_22 : decode prog_118_method_7_code 22 = .ok (.iload 5, 2) := by decide +kernel
theorem d36_24 : decode prog_118_method_7_code 24 = .ok (.iaload, 1) := by decide +kernel
theorem d36_25 : decode prog_118_method_7_code 25 = .ok (.istore 6, 2) := by decide +kernel
theorem d36_27 : decode prog_118_method_7_code 27 = .ok (.iload 6, 2) := by decide +kernel
theorem d36_29 : decode prog_118_method_7_code 29 = .ok (.iload_n 1, 1) := by decide +kernel
theorem d36_30 : decode prog_118_method_7_code 30 = .ok (.if_icmp .ne 5, 3) := by decide +kernel
theorem d36_33 : decode prog_118_method_7_code 33 = .ok (.iconst 1, 1) := by decide +kernel
theorem d36_34 : decode prog_118_method_7_code 34 = .ok (.ireturn, 1) := by decide +kernel
theorem d36_35 : decode prog_118_method_7_code 35 = .ok (.iinc 5 1, 3) := by decide +kernel
theorem d36_38 : decode prog_118_method_7_code 38 = .ok (.goto (-24), 3) := by decide +kernel
theorem d36_41 : decode prog_118_method_7_code 41 = .ok (.iconst 0, 1) := by decide +kernel
theorem d36_42 : decode prog_118_method_7_code 42 = .ok (.ireturn, 1) := by decide +kernel
theorem pn_10 : plainName "com/example/firm_handshake/firmhandshake/model/Location" = true := by first | (simp [plainName, overriddenIn]; done) | decide +kernel
theorem ef36 (m : MethodId) (x0 : Addr) (x1 : Int32) (x2 : Int32) : entryFrame m #[(.ref x0), (.int x1), (.int x2)] 7 = mkF m 0 #[.val (.ref x0), .val (.int x1), .val (.int x2), .unset, .unset, .unset, .unset] [] := by first | (simp [entryFrame, mkF, argsToLocals, Value.category]; done) | rfl
def f36 (p1 : Int32) (p2 : Int32) (N : Int32) (w : Nat → Value) (n : Int32) (vq : Nat → Int32) : Int32 := (if (0 : Int32) < n then (if (vq 0) = p1 then (1 : Int32) else (if (1 : Int32) < n then (if (vq 1) = p1 then (1 : Int32) else (if (2 : Int32) < n then (if (vq 2) = p1 then (1 : Int32) else (0 : Int32)) else (0 : Int32))) else (0 : Int32))) else (0 : Int32))
set_option maxRecDepth 65536 in
set_option maxHeartbeats 40000000 in
theorem rm36 (l : Launch) (Z : State) (a0 : Array Value) (hw : ∀ d ∈ tables_1, d.before a0 Z = true) (ws : List Jvm.Cond) (o0 : Addr) (p1 : Int32) (p2 : Int32) (ob : Addr) (ar : Addr) (N : Int32) (w : Nat → Value) (n : Int32) (vq : Nat → Int32) (h0 : Heap) (F_ob : Fld Z h0 o0 kLo "outranking" "[[I" (.ref ob)) (A_ob : AryA Z h0 ob N w) (A_ar : AryI Z h0 ar .int n vq) (i1 : ¬ p2 < 0) (i2 : p2 < N) (heq : w p2.toNatClampNeg = .ref ar) (hn3 : ¬ (3 : Int32) < n) :
  Cmet l Z (⟨"com/example/firm_handshake/firmhandshake/model/Location", "ranksAbove", "(II)Z"⟩ : MethodName) prog_118_method_7_code 7 (some .boolean) ws ({ frames := 0, cells := 0, slots := 0, locals := 0 } : Room) #[(.ref o0), (.int p1), (.int p2)] h0 (fun v h' L => v = some (.int (f36 p1 p2 N w n vq)) ∧ h' = h0 ∧ L = []) := by
 refine MetFree.of_bodySF (plainFor_of_name pn_10) hisR ?_
 intro p e s m args below meth c s₁ Bd hml0 hP hK
 obtain ⟨rfl, hZ, hh⟩ := hP
 have hx := Bd.exec
 have hlk : meth.locks = false := BodyLoose.notSynchronized Bd
 have hby := Bd.bytes
 have hml : c.maxLocals = 7 := hml0
 have hown : s.vm.findClass "com/example/firm_handshake/firmhandshake/model/Location" = some m.cls := findClass_of_methodNamed Bd.named
 have hnm := (name_of_methodNamed Bd.named Bd.method).1
 have X0 : Stand p l e ({ frames := 0, cells := 0, slots := 0, locals := 0 } : Room) s m #[(.ref o0), (.int p1), (.int p2)] below meth c s₁ [] 0 0 := Stand.of_body Bd
 have e0 : s₁.heap = h0 := by rw [← hh, Bd.state]; rfl
 have hv0 : f36 p1 p2 N w n vq = f36 p1 p2 N w n vq := rfl
 show Fini p e below s (fun v h' L => v = some (.int (f36 p1 p2 N w n vq)) ∧ h' = h0 ∧ L = []) _ _ s₁ (entryFrame m #[(.ref o0), (.int p1), (.int p2)] 7)
 refine Fini.cast (ef36 m o0 p1 p2) ?_
 show Fini _ _ _ _ _ _ _ s₁ (mkF m 0 #[vr o0, vi p1, vi p2, su, su, su, su] [])
 refine fAN X0 hx hby d36_0 rfl rfl rfl ?_
 obtain ⟨T1, X1, e1, st1⟩ := getF X0 hx hZ hown (host := "") (Or.inl (wq hw (i := 109) rfl)) Via.refl e0 F_ob (g := (mkF m 1 #[vr o0, vi p1, vi p2, su, su, su, su] [(.ref o0)])) rfl rfl (hb hby d36_1)
 refine Fini.st st1 ?_
 refine fIN X1 hx hby d36_4 rfl rfl ?_
 show Fini _ _ _ _ _ _ _ T1 (mkF m 5 #[vr o0, vi p1, vi p2, su, su, su, su] [(.int p2), (.ref ob)])
 refine Fini.st (fun _ k => AryA.loadE A_ob X1 hx hZ e1 ⟨i1, i2⟩ heq rfl rfl (hb hby d36_5) k) ?_
 show Fini _ _ _ _ _ _ _ T1 (mkF m 6 #[vr o0, vi p1, vi p2, su, su, su, su] [(.ref ar)])
 refine Fini.st (fun _ k => XS.astoreN X1.here hx rfl (hb hby d36_6) rfl rfl (l' := #[vr o0, vi p1, vi p2, vr ar, su, su, su]) rfl k) ?_
 refine fAN X1 hx hby d36_7 rfl rfl rfl ?_
 show Fini _ _ _ _ _ _ _ T1 (mkF m 8 #[vr o0, vi p1, vi p2, vr ar, su, su, su] [(.ref ar)])
 refine Fini.st (fun _ k => A_ar.len X1 hx hZ e1 rfl rfl (hb hby d36_8) k) ?_
 show Fini _ _ _ _ _ _ _ T1 (mkF m 9 #[vr o0, vi p1, vi p2, vr ar, su, su, su] [(.int n)])
 refine Fini.st (fun _ k => XS.istore X1.here hx rfl (hb hby d36_9) rfl (l' := #[vr o0, vi p1, vi p2, vr ar, vi n, su, su]) rfl k) ?_
 refine fC X1 hx hby d36_11 rfl ?_
 refine Fini.st (fun _ k => XS.istore X1.here hx rfl (hb hby d36_12) rfl (l' := #[vr o0, vi p1, vi p2, vr ar, vi n, vi (0 : Int32), su]) rfl k) ?_
 refine fI X1 hx hby d36_14 rfl rfl ?_
 refine fI X1 hx hby d36_16 rfl rfl ?_
 show Fini _ _ _ _ _ _ _ T1 (mkF m 18 #[vr o0, vi p1, vi p2, vr ar, vi n, vi (0 : Int32), su] [(.int n), (.int (0 : Int32))])
 by_cases c2 : (0 : Int32) < n
 ·
  have hv3 := hv0.trans (if_pos c2)
  refine Fini.st (fun _ k => XS.icmpNo X1.here hx rfl (hb hby d36_18) rfl (XT.ii_ge_f c2) k) ?_
  refine fAN X1 hx hby d36_21 rfl rfl rfl ?_
  refine fI X1 hx hby d36_22 rfl rfl ?_
  show Fini _ _ _ _ _ _ _ T1 (mkF m 24 #[vr o0, vi p1, vi p2, vr ar, vi n, vi (0 : Int32), su] [(.int (0 : Int32)), (.ref ar)])
  refine Fini.st (fun _ k => A_ar.loadI X1 hx hZ e1 ⟨by decide, c2⟩ rfl rfl (hb hby d36_24) k) ?_
  show Fini _ _ _ _ _ _ _ T1 (mkF m 25 #[vr o0, vi p1, vi p2, vr ar, vi n, vi (0 : Int32), su] [(.int (vq 0))])
  refine Fini.st (fun _ k => XS.istore X1.here hx rfl (hb hby d36_25) rfl (l' := #[vr o0, vi p1, vi p2, vr ar, vi n, vi (0 : Int32), vi (vq 0)]) rfl k) ?_
  refine fI X1 hx hby d36_27 rfl rfl ?_
  refine fIN X1 hx hby d36_29 rfl rfl ?_
  show Fini _ _ _ _ _ _ _ T1 (mkF m 30 #[vr o0, vi p1, vi p2, vr ar, vi n, vi (0 : Int32), vi (vq 0)] [(.int p1), (.int (vq 0))])
  by_cases c4 : (vq 0) = p1
  ·
   have hv5 := hv3.trans (if_pos c4)
   refine Fini.st (fun _ k => XS.icmpNo X1.here hx rfl (hb hby d36_30) rfl (XT.ii_ne_f c4) k) ?_
   refine fC X1 hx hby d36_33 rfl ?_
   exact Fini.retN X1 hx hlk (t := .boolean) Bd.returns (by simp) (hb hby d36_34) nb1 (by decide) (by decide) ⟨congrArg (fun z => some (Value.int z)) hv5.symm, e1, rfl⟩
  ·
   have hv6 := hv3.trans (if_neg c4)
   refine Fini.st (fun _ k => XS.icmpYes X1.here hx rfl (pc0 := 30) (pc' := 35) rfl (hb hby d36_30) rfl (XT.ii_ne_t c4) (by decide) (by decide) k) ?_
   show Fini _ _ _ _ _ _ _ T1 (mkF m 35 #[vr o0, vi p1, vi p2, vr ar, vi n, vi (0 : Int32), vi (vq 0)] [])
   refine Fini.st (fun _ k => XS.iinc X1.here hx rfl (hb hby d36_35) rfl (l' := #[vr o0, vi p1, vi p2, vr ar, vi n, vi (1 : Int32), vi (vq 0)]) rfl k) ?_
   refine Fini.st (fun _ k => XS.goto X1.here hx rfl (pc0 := 38) (pc' := 14) rfl (hb hby d36_38) (by decide) (by decide) k) ?_
   refine fI X1 hx hby d36_14 rfl rfl ?_
   refine fI X1 hx hby d36_16 rfl rfl ?_
   show Fini _ _ _ _ _ _ _ T1 (mkF m 18 #[vr o0, vi p1, vi p2, vr ar, vi n, vi (1 : Int32), vi (vq 0)] [(.int n), (.int (1 : Int32))])
   by_cases c7 : (1 : Int32) < n
   ·
    have hv8 := hv6.trans (if_pos c7)
    refine Fini.st (fun _ k => XS.icmpNo X1.here hx rfl (hb hby d36_18) rfl (XT.ii_ge_f c7) k) ?_
    refine fAN X1 hx hby d36_21 rfl rfl rfl ?_
    refine fI X1 hx hby d36_22 rfl rfl ?_
    show Fini _ _ _ _ _ _ _ T1 (mkF m 24 #[vr o0, vi p1, vi p2, vr ar, vi n, vi (1 : Int32), vi (vq 0)] [(.int (1 : Int32)), (.ref ar)])
    refine Fini.st (fun _ k => A_ar.loadI X1 hx hZ e1 ⟨by decide, c7⟩ rfl rfl (hb hby d36_24) k) ?_
    show Fini _ _ _ _ _ _ _ T1 (mkF m 25 #[vr o0, vi p1, vi p2, vr ar, vi n, vi (1 : Int32), vi (vq 0)] [(.int (vq 1))])
    refine Fini.st (fun _ k => XS.istore X1.here hx rfl (hb hby d36_25) rfl (l' := #[vr o0, vi p1, vi p2, vr ar, vi n, vi (1 : Int32), vi (vq 1)]) rfl k) ?_
    refine fI X1 hx hby d36_27 rfl rfl ?_
    refine fIN X1 hx hby d36_29 rfl rfl ?_
    show Fini _ _ _ _ _ _ _ T1 (mkF m 30 #[vr o0, vi p1, vi p2, vr ar, vi n, vi (1 : Int32), vi (vq 1)] [(.int p1), (.int (vq 1))])
    by_cases c9 : (vq 1) = p1
    ·
     have hv10 := hv8.trans (if_pos c9)
     refine Fini.st (fun _ k => XS.icmpNo X1.here hx rfl (hb hby d36_30) rfl (XT.ii_ne_f c9) k) ?_
     refine fC X1 hx hby d36_33 rfl ?_
     exact Fini.retN X1 hx hlk (t := .boolean) Bd.returns (by simp) (hb hby d36_34) nb1 (by decide) (by decide) ⟨congrArg (fun z => some (Value.int z)) hv10.symm, e1, rfl⟩
    ·
     have hv11 := hv8.trans (if_neg c9)
     refine Fini.st (fun _ k => XS.icmpYes X1.here hx rfl (pc0 := 30) (pc' := 35) rfl (hb hby d36_30) rfl (XT.ii_ne_t c9) (by decide) (by decide) k) ?_
     show Fini _ _ _ _ _ _ _ T1 (mkF m 35 #[vr o0, vi p1, vi p2, vr ar, vi n, vi (1 : Int32), vi (vq 1)] [])
     refine Fini.st (fun _ k => XS.iinc X1.here hx rfl (hb hby d36_35) rfl (l' := #[vr o0, vi p1, vi p2, vr ar, vi n, vi (2 : Int32), vi (vq 1)]) rfl k) ?_
     refine Fini.st (fun _ k => XS.goto X1.here hx rfl (pc0 := 38) (pc' := 14) rfl (hb hby d36_38) (by decide) (by decide) k) ?_
     refine fI X1 hx hby d36_14 rfl rfl ?_
     refine fI X1 hx hby d36_16 rfl rfl ?_
     show Fini _ _ _ _ _ _ _ T1 (mkF m 18 #[vr o0, vi p1, vi p2, vr ar, vi n, vi (2 : Int32), vi (vq 1)] [(.int n), (.int (2 : Int32))])
     by_cases c12 : (2 : Int32) < n
     ·
      have hv13 := hv11.trans (if_pos c12)
      refine Fini.st (fun _ k => XS.icmpNo X1.here hx rfl (hb hby d36_18) rfl (XT.ii_ge_f c12) k) ?_
      refine fAN X1 hx hby d36_21 rfl rfl rfl ?_
      refine fI X1 hx hby d36_22 rfl rfl ?_
      show Fini _ _ _ _ _ _ _ T1 (mkF m 24 #[vr o0, vi p1, vi p2, vr ar, vi n, vi (2 : Int32), vi (vq 1)] [(.int (2 : Int32)), (.ref ar)])
      refine Fini.st (fun _ k => A_ar.loadI X1 hx hZ e1 ⟨by decide, c12⟩ rfl rfl (hb hby d36_24) k) ?_
      show Fini _ _ _ _ _ _ _ T1 (mkF m 25 #[vr o0, vi p1, vi p2, vr ar, vi n, vi (2 : Int32), vi (vq 1)] [(.int (vq 2))])
      refine Fini.st (fun _ k => XS.istore X1.here hx rfl (hb hby d36_25) rfl (l' := #[vr o0, vi p1, vi p2, vr ar, vi n, vi (2 : Int32), vi (vq 2)]) rfl k) ?_
      refine fI X1 hx hby d36_27 rfl rfl ?_
      refine fIN X1 hx hby d36_29 rfl rfl ?_
      show Fini _ _ _ _ _ _ _ T1 (mkF m 30 #[vr o0, vi p1, vi p2, vr ar, vi n, vi (2 : Int32), vi (vq 2)] [(.int p1), (.int (vq 2))])
      by_cases c14 : (vq 2) = p1
      ·
       have hv15 := hv13.trans (if_pos c14)
       refine Fini.st (fun _ k => XS.icmpNo X1.here hx rfl (hb hby d36_30) rfl (XT.ii_ne_f c14) k) ?_
       refine fC X1 hx hby d36_33 rfl ?_
       exact Fini.retN X1 hx hlk (t := .boolean) Bd.returns (by simp) (hb hby d36_34) nb1 (by decide) (by decide) ⟨congrArg (fun z => some (Value.int z)) hv15.symm, e1, rfl⟩
      ·
       have hv16 := hv13.trans (if_neg c14)
       refine Fini.st (fun _ k => XS.icmpYes X1.here hx rfl (pc0 := 30) (pc' := 35) rfl (hb hby d36_30) rfl (XT.ii_ne_t c14) (by decide) (by decide) k) ?_
       show Fini _ _ _ _ _ _ _ T1 (mkF m 35 #[vr o0, vi p1, vi p2, vr ar, vi n, vi (2 : Int32), vi (vq 2)] [])
       refine Fini.st (fun _ k => XS.iinc X1.here hx rfl (hb hby d36_35) rfl (l' := #[vr o0, vi p1, vi p2, vr ar, vi n, vi (3 : Int32), vi (vq 2)]) rfl k) ?_
       refine Fini.st (fun _ k => XS.goto X1.here hx rfl (pc0 := 38) (pc' := 14) rfl (hb hby d36_38) (by decide) (by decide) k) ?_
       refine fI X1 hx hby d36_14 rfl rfl ?_
       refine fI X1 hx hby d36_16 rfl rfl ?_
       show Fini _ _ _ _ _ _ _ T1 (mkF m 18 #[vr o0, vi p1, vi p2, vr ar, vi n, vi (3 : Int32), vi (vq 2)] [(.int n), (.int (3 : Int32))])
       refine Fini.st (fun _ k => XS.icmpYes X1.here hx rfl (pc0 := 18) (pc' := 41) rfl (hb hby d36_18) rfl (XT.ii_ge_t hn3) (by decide) (by decide) k) ?_
       refine fC X1 hx hby d36_41 rfl ?_
       exact Fini.retN X1 hx hlk (t := .boolean) Bd.returns (by simp) (hb hby d36_42) nb0 (by decide) (by decide) ⟨congrArg (fun z => some (Value.int z)) hv16.symm, e1, rfl⟩
     ·
      have hv17 := hv11.trans (if_neg c12)
      refine Fini.st (fun _ k => XS.icmpYes X1.here hx rfl (pc0 := 18) (pc' := 41) rfl (hb hby d36_18) rfl (XT.ii_ge_t c12) (by decide) (by decide) k) ?_
      refine fC X1 hx hby d36_41 rfl ?_
      exact Fini.retN X1 hx hlk (t := .boolean) Bd.returns (by simp) (hb hby d36_42) nb0 (by decide) (by decide) ⟨congrArg (fun z => some (Value.int z)) hv17.symm, e1, rfl⟩
   ·
    have hv18 := hv6.trans (if_neg c7)
    refine Fini.st (fun _ k => XS.icmpYes X1.here hx rfl (pc0 := 18) (pc' := 41) rfl (hb hby d36_18) rfl (XT.ii_ge_t c7) (by decide) (by decide) k) ?_
    refine fC X1 hx hby d36_41 rfl ?_
    exact Fini.retN X1 hx hlk (t := .boolean) Bd.returns (by simp) (hb hby d36_42) nb0 (by decide) (by decide) ⟨congrArg (fun z => some (Value.int z)) hv18.symm, e1, rfl⟩
 ·
  have hv19 := hv0.trans (if_neg c2)
  refine Fini.st (fun _ k => XS.icmpYes X1.here hx rfl (pc0 := 18) (pc' := 41) rfl (hb hby d36_18) rfl (XT.ii_ge_t c2) (by decide) (by decide) k) ?_
  refine fC X1 hx hby d36_41 rfl ?_
  exact Fini.retN X1 hx hlk (t := .boolean) Bd.returns (by simp) (hb hby d36_42) nb0 (by decide) (by decide) ⟨congrArg (fun z => some (Value.int z)) hv19.symm, e1, rfl⟩
theorem d29_0 : decode jdk_31_method_10_code 0 = .ok (.aload_n 0, 1) := by decide +kernel
theorem d29_1 : decode jdk_31_method_10_code 1 = .ok (.ifnonnull 11, 3) := by decide +kernel
theorem d29_12 : decode jdk_31_method_10_code 12 = .ok (.aload_n 0, 1) := by decide +kernel
theorem d29_13 : decode jdk_31_method_10_code 13 = .ok (.areturn, 1) := by decide +kernel
theorem ef29 (m : MethodId) (x0 : Addr) : entryFrame m #[(.ref x0)] 1 = mkF m 0 #[.val (.ref x0)] [] := by first | (simp [entryFrame, mkF, argsToLocals, Value.category]; done) | rfl
set_option maxRecDepth 65536 in
set_option maxHeartbeats 40000000 in
theorem rm29 (l : Launch) (Z : State) (a0 : Array Value) (hw : ∀ d ∈ tables_1, d.before a0 Z = true) (ws : List Jvm.Cond) (o0 : Addr) (h0 : Heap) (n0 : Nat) (Z0 : n0 ≤ h0.size) :
  Cmet l Z (⟨"java/util/Objects", "requireNonNull", "(Ljava/lang/Object;)Ljava/lang/Object;"⟩ : MethodName) jdk_31_method_10_code 1 (some (.object "java/lang/Object")) ws ({ frames := 0, cells := 0, slots := 0, locals := 0 } : Room) #[(.ref o0)] h0 (fun v h' L => v = some (.ref o0) ∧ h' = h0 ∧ L = []) := by
 refine MetFree.of_bodySF (plainFor_of_name pn_6) hisR ?_
 intro p e s m args below meth c s₁ Bd hml0 hP hK
 obtain ⟨rfl, hZ, hh⟩ := hP
 have hx := Bd.exec
 have hlk : meth.locks = false := BodyLoose.notSynchronized Bd
 have hby := Bd.bytes
 have hml : c.maxLocals = 1 := hml0
 have hown : s.vm.findClass "java/util/Objects" = some m.cls := findClass_of_methodNamed Bd.named
 have hnm := (name_of_methodNamed Bd.named Bd.method).1
 have X0 : Stand p l e ({ frames := 0, cells := 0, slots := 0, locals := 0 } : Room) s m #[(.ref o0)] below meth c s₁ [] 0 0 := Stand.of_body Bd
 have e0 : s₁.heap = h0 := by rw [← hh, Bd.state]; rfl
 have N0 := Fr.nil n0
 show Fini p e below s (fun v h' L => v = some (.ref o0) ∧ h' = h0 ∧ L = []) _ _ s₁ (entryFrame m #[(.ref o0)] 1)
 refine Fini.cast (ef29 m o0) ?_
 show Fini _ _ _ _ _ _ _ s₁ (mkF m 0 #[vr o0] [])
 refine fAN X0 hx hby d29_0 rfl rfl rfl ?_
 show Fini _ _ _ _ _ _ _ s₁ (mkF m 1 #[vr o0] [(.ref o0)])
 refine Fini.st (fun _ k => XS.ifnonnullYes X0.here hx rfl (pc0 := 1) (pc' := 12) rfl (hb hby d29_1) rfl (by decide) (by decide) k) ?_
 show Fini _ _ _ _ _ _ _ s₁ (mkF m 12 #[vr o0] [])
 refine fAN X0 hx hby d29_12 rfl rfl rfl ?_
 exact Fini.retA X0 hx hlk Bd.returns rfl (hb hby d29_13) rfl rfl (by decide) (by decide) ⟨rfl, e0, rfl⟩
theorem d24_0 : decode jdk_29_method_69_code 0 = .ok (.iload_n 0, 1) := by decide +kernel
theorem d24_1 : decode jdk_29_method_69_code 1 = .ok (.iload_n 1, 1) := by decide +kernel
theorem d24_2 : decode jdk_29_method_69_code 2 = .ok (.if_icmp .gt 7, 3) := by decide +kernel
theorem d24_9 : decode jdk_29_method_69_code 9 = .ok (.iload_n 1, 1) := by decide +kernel
theorem d24_10 : decode jdk_29_method_69_code 10 = .ok (.ireturn, 1) := by decide +kernel
theorem ef24 (m : MethodId) (x0 : Int32) (x1 : Int32) : entryFrame m #[(.int x0), (.int x1)] 2 = mkF m 0 #[.val (.int x0), .val (.int x1)] [] := by first | (simp [entryFrame, mkF, argsToLocals, Value.category]; done) | rfl
def f24 (p1 : Int32) : Int32 := p1
set_option maxRecDepth 65536 in
set_option maxHeartbeats 40000000 in
theorem rm24 (l : Launch) (Z : State) (a0 : Array Value) (hw : ∀ d ∈ tables_1, d.before a0 Z = true) (ws : List Jvm.Cond) (p1 : Int32) (h0 : Heap) (hm : p1 < (10 : Int32)) :
  Cmet l Z (⟨"java/lang/Math", "min", "(II)I"⟩ : MethodName) jdk_29_method_69_code 2 (some .int) ws ({ frames := 0, cells := 0, slots := 0, locals := 0 } : Room) #[(.int (10 : Int32)), (.int p1)] h0 (fun v h' L => v = some (.int (f24 p1)) ∧ h' = h0 ∧ L = []) := by
 refine MetFree.of_bodySF (Jvm.Free.JP.mathPlain rfl (by decide +kernel)) hisR ?_
 intro p e s m args below meth c s₁ Bd hml0 hP hK
 obtain ⟨rfl, hZ, hh⟩ := hP
 have hx := Bd.exec
 have hlk : meth.locks = false := BodyLoose.notSynchronized Bd
 have hby := Bd.bytes
 have hml : c.maxLocals = 2 := hml0
 have hown : s.vm.findClass "java/lang/Math" = some m.cls := findClass_of_methodNamed Bd.named
 have hnm := (name_of_methodNamed Bd.named Bd.method).1
 have X0 : Stand p l e ({ frames := 0, cells := 0, slots := 0, locals := 0 } : Room) s m #[(.int (10 : Int32)), (.int p1)] below meth c s₁ [] 0 0 := Stand.of_body Bd
 have e0 : s₁.heap = h0 := by rw [← hh, Bd.state]; rfl
 have hv0 : f24 p1 = f24 p1 := rfl
 show Fini p e below s (fun v h' L => v = some (.int (f24 p1)) ∧ h' = h0 ∧ L = []) _ _ s₁ (entryFrame m #[(.int (10 : Int32)), (.int p1)] 2)
 refine Fini.cast (ef24 m (10 : Int32) p1) ?_
 show Fini _ _ _ _ _ _ _ s₁ (mkF m 0 #[vi (10 : Int32), vi p1] [])
 refine fIN X0 hx hby d24_0 rfl rfl ?_
 refine fIN X0 hx hby d24_1 rfl rfl ?_
 show Fini _ _ _ _ _ _ _ s₁ (mkF m 2 #[vi (10 : Int32), vi p1] [(.int p1), (.int (10 : Int32))])
 refine Fini.st (fun _ k => XS.icmpYes X0.here hx rfl (pc0 := 2) (pc' := 9) rfl (hb hby d24_2) rfl (XT.ii_gt_t hm) (by decide) (by decide) k) ?_
 refine fIN X0 hx hby d24_9 rfl rfl ?_
 exact Fini.retI X0 hx hlk Bd.returns (hb hby d24_10) (by decide) (by decide) ⟨congrArg (fun z => some (Value.int z)) hv0.symm, e0, rfl⟩
theorem d23_0 : decode jdk_65_method_120_code 0 = .ok (.aload_n 2, 1) := by decide +kernel
theorem d23_1 : decode jdk_65_method_120_code 1 = .ok (.ldc 110, 2) := by decide +kernel
theorem d23_3 : decode jdk_65_method_120_code 3 = .ok (.if_acmp .ne 10, 3) := by decide +kernel
theorem d23_6 : decode jdk_65_method_120_code 6 = .ok (.iload_n 1, 1) := by decide +kernel
theorem d23_7 : decode jdk_65_method_120_code 7 = .ok (.anewarray 2, 3) := by decide +kernel
theorem d23_10 : decode jdk_65_method_120_code 10 = .ok (.goto 14, 3) := by decide +kernel
theorem d23_24 : decode jdk_65_method_120_code 24 = .ok (.astore_n 3, 1) := by decide +kernel
theorem d23_25 : decode jdk_65_method_120_code 25 = .ok (.aload_n 0, 1) := by decide +kernel
theorem d23_26 : decode jdk_65_method_120_code 26 = .ok (.iconst 0, 1) := by decide +kernel
theorem d23_27 : decode jdk_65_method_120_code 27 = .ok (.aload_n 3, 1) := by decide +kernel
theorem d23_28 : decode jdk_65_method_120_code 28 = .ok (.iconst 0, 1) := by decide +kernel
theorem d23_29 : decode jdk_65_method_120_code 29 = .ok (.aload_n 0, 1) := by decide +kernel
theorem d23_30 : decode jdk_65_method_120_code 30 = .ok (.arraylength, 1) := by decide +kernel
theorem d23_31 : decode jdk_65_method_120_code 31 = .ok (.iload_n 1, 1) := by decide +kernel
theorem d23_32 : decode jdk_65_method_120_code 32 = .ok (.invokestatic 304, 3) := by decide +kernel
theorem d23_35 : decode jdk_65_method_120_code 35 = .ok (.invokestatic 150, 3) := by decide +kernel
theorem d23_38 : decode jdk_65_method_120_code 38 = .ok (.aload_n 3, 1) := by decide +kernel
theorem d23_39 : decode jdk_65_method_120_code 39 = .ok (.areturn, 1) := by decide +kernel
theorem pn_11 : plainName "java/util/Arrays" = true := by first | (simp [plainName, overriddenIn]; done) | decide +kernel
theorem ef23 (m : MethodId) (x0 : Addr) (x1 : Int32) (x2 : Addr) : entryFrame m #[(.ref x0), (.int x1), (.ref x2)] 4 = mkF m 0 #[.val (.ref x0), .val (.int x1), .val (.ref x2), .unset] [] := by first | (simp [entryFrame, mkF, argsToLocals, Value.category]; done) | rfl
set_option maxRecDepth 65536 in
set_option maxHeartbeats 40000000 in
theorem rm23 (l : Launch) (Z : State) (a0 : Array Value) (hw : ∀ d ∈ tables_1, d.before a0 Z = true) (ws : List Jvm.Cond) (o0 : Addr) (p1 : Int32) (o2 : Addr) (u : Nat → Value) (t : Addr) (h0 : Heap) (n0 : Nat) (Z0 : n0 ≤ h0.size) (A_o0 : AryR Z h0 o0 "java/lang/Object" (10 : Int32) u) (I_t : IsO Z h0 t) (hu : ∀ i, (u i).isRef = true) (hq1 : ¬ p1 < (0 : Int32)) (hq5 : ¬ (5 : Int32) < p1) (hI : ∀ i, i < p1.toNatClampNeg → u i = .ref t) (M_o2 : Mir Z "[Ljava/lang/Object;" o2) :
  Cmet l Z (⟨"java/util/Arrays", "copyOf", "([Ljava/lang/Object;ILjava/lang/Class;)[Ljava/lang/Object;"⟩ : MethodName) jdk_65_method_120_code 4 (some (.array (.object "java/lang/Object"))) ws ({ frames := 1, cells := 1, slots := 5, locals := 40 } : Room) #[(.ref o0), (.int p1), (.ref o2)] h0 (fun v h' L => ∃ q, v = some (.ref q) ∧ Fr n0 L ∧ Keep h0 h' [] ∧ h0.size ≤ q ∧ n0 ≤ q ∧ AryR Z h' q "java/lang/Object" p1 (fun _ => .ref t)) := by
 refine MetFree.of_bodySF (plainFor_of_name pn_11) hisR ?_
 intro p e s m args below meth c s₁ Bd hml0 hP hK
 obtain ⟨rfl, hZ, hh⟩ := hP
 have hx := Bd.exec
 have hlk : meth.locks = false := BodyLoose.notSynchronized Bd
 have hby := Bd.bytes
 have hml : c.maxLocals = 4 := hml0
 have hown : s.vm.findClass "java/util/Arrays" = some m.cls := findClass_of_methodNamed Bd.named
 have hnm := (name_of_methodNamed Bd.named Bd.method).1
 have X0 : Stand p l e ({ frames := 1, cells := 1, slots := 5, locals := 40 } : Room) s m #[(.ref o0), (.int p1), (.ref o2)] below meth c s₁ [] 0 0 := Stand.of_body Bd
 have e0 : s₁.heap = h0 := by rw [← hh, Bd.state]; rfl
 have N0 := Fr.nil n0
 show Fini p e below s (fun v h' L => ∃ q, v = some (.ref q) ∧ Fr n0 L ∧ Keep h0 h' [] ∧ h0.size ≤ q ∧ n0 ≤ q ∧ AryR Z h' q "java/lang/Object" p1 (fun _ => .ref t)) _ _ s₁ (entryFrame m #[(.ref o0), (.int p1), (.ref o2)] 4)
 refine Fini.cast (ef23 m o0 p1 o2) ?_
 show Fini _ _ _ _ _ _ _ s₁ (mkF m 0 #[vr o0, vi p1, vr o2, su] [])
 refine fAN X0 hx hby d23_0 rfl rfl rfl ?_
 show Fini _ _ _ _ _ _ _ s₁ (mkF m 1 #[vr o0, vi p1, vr o2, su] [(.ref o2)])
 obtain ⟨T1, X1, e1, st1⟩ := ldcK X0 hx hZ hown (wq hw (i := 183) rfl) e0 M_o2 (g := (mkF m 1 #[vr o0, vi p1, vr o2, su] [(.ref o2)])) rfl (hb hby d23_1)
 refine Fini.st st1 ?_
 show Fini _ _ _ _ _ _ _ T1 (mkF m 3 #[vr o0, vi p1, vr o2, su] [(.ref o2), (.ref o2)])
 refine Fini.st (fun _ k => Jvm.RoadKit.acmp (g := (mkF m 3 #[vr o0, vi p1, vr o2, su] [(.ref o2), (.ref o2)])) X1 hx rfl rfl rfl (pc0 := 3) (pc' := 6) (same := true) rfl (hb hby d23_3) rfl (decide_eq_true rfl) (by decide) (by decide) k) ?_
 show Fini _ _ _ _ _ _ _ T1 (mkF m 6 #[vr o0, vi p1, vr o2, su] [])
 refine fIN X1 hx hby d23_6 rfl rfl ?_
 show Fini _ _ _ _ _ _ _ T1 (mkF m 7 #[vr o0, vi p1, vr o2, su] [(.int p1)])
 obtain ⟨T2, h2, k2, X2, e2, E2, A2, O2, st2⟩ := newR X1 hx hZ hown (wq hw (i := 184) rfl) (wq hw (i := 95) rfl) e1 (g := (mkF m 7 #[vr o0, vi p1, vr o2, su] [(.int p1)])) rfl (hb hby d23_7) rfl hq1 (cap := 5) (own_cap5 hq5) (by decide) (by decide) (by decide)
 obtain ⟨b2, g2⟩ : ∃ z, z = h0.size := ⟨_, rfl⟩
 rw [← g2] at A2 st2
 have ne_o0_b2 : o0 ≠ b2 := Nat.ne_of_lt (Nat.lt_of_lt_of_le A_o0.lt (Nat.le_of_eq g2.symm))
 have ge_b2 : n0 ≤ b2 := Nat.le_trans Z0 (Nat.le_of_eq g2.symm)
 have sz_b2 : h0.size ≤ b2 := Nat.le_trans (Keep.refl h0 []).1 (Nat.le_of_eq g2.symm)
 have Ar2 : AryR Z h2 b2 "java/lang/Object" p1 (fun _ => .null) := AryR.new A2 O2 hq1
 refine Fini.st st2 ?_
 show Fini _ _ _ _ _ _ _ T2 (mkF m 10 #[vr o0, vi p1, vr o2, su] [(.ref b2)])
 refine Fini.st (fun _ k => XS.goto X2.here hx rfl (pc0 := 10) (pc' := 24) rfl (hb hby d23_10) (by decide) (by decide) k) ?_
 refine Fini.st (fun _ k => XS.astoreN X2.here hx rfl (hb hby d23_24) rfl rfl (l' := #[vr o0, vi p1, vr o2, vr b2]) rfl k) ?_
 refine fAN X2 hx hby d23_25 rfl rfl rfl ?_
 refine fC X2 hx hby d23_26 rfl ?_
 refine fAN X2 hx hby d23_27 rfl rfl rfl ?_
 refine fC X2 hx hby d23_28 rfl ?_
 refine fAN X2 hx hby d23_29 rfl rfl rfl ?_
 show Fini _ _ _ _ _ _ _ T2 (mkF m 30 #[vr o0, vi p1, vr o2, vr b2] [(.ref o0), (.int (0 : Int32)), (.ref b2), (.int (0 : Int32)), (.ref o0)])
 have Ar_3 : AryR Z h2 o0 "java/lang/Object" (10 : Int32) u := (A_o0.ext E2)
 refine Fini.st (fun _ k => Ar_3.len X2 hx hZ e2 rfl rfl (hb hby d23_30) k) ?_
 show Fini _ _ _ _ _ _ _ T2 (mkF m 31 #[vr o0, vi p1, vr o2, vr b2] [(.int (10 : Int32)), (.int (0 : Int32)), (.ref b2), (.int (0 : Int32)), (.ref o0)])
 refine fIN X2 hx hby d23_31 rfl rfl ?_
 obtain ⟨T4, X4, e4, st4⟩ := pureS X2 hx hZ hown (wq hw (i := 185) rfl) (wq hw (i := 186) rfl) (wq hw (i := 92) rfl) (wq hw (i := 187) rfl) (by decide) (rm24 l Z a0 hw [] p1 h2 (own_lt5 hq5)) e2 (W := 4) (by decide) (by decide) (by decide) (by decide) (g := (mkF m 32 #[vr o0, vi p1, vr o2, vr b2] [(.int p1), (.int (10 : Int32)), (.int (0 : Int32)), (.ref b2), (.int (0 : Int32)), (.ref o0)])) rfl (by rw [hml]; rfl) (argsL := [(.int (10 : Int32)), (.int p1)]) (rest := [(.int (0 : Int32)), (.ref b2), (.int (0 : Int32)), (.ref o0)]) rfl (lenOf pd_2 rfl) rfl (by show 2 * 0 + _ ≤ _; exact Nat.le_of_eq rfl) (hb hby d23_32)
 refine Fini.st st4 ?_
 show Fini _ _ _ _ _ _ _ T4 (mkF m 35 #[vr o0, vi p1, vr o2, vr b2] [(.int p1), (.int (0 : Int32)), (.ref b2), (.int (0 : Int32)), (.ref o0)])
 have Of_6 : IsO Z h2 t := (I_t.ext E2)
 obtain ⟨T5, h5, L5, X5, e5, N5, K5, Ac5, st5⟩ := cpR X4 hx hZ hown (wq hw (i := 188) rfl) (wq hw (i := 191) rfl) (wq hw (i := 189) rfl) (wq hw (i := 190) rfl) e4 Ar_3 hu Ar2 (fun _ => rfl) hq1 (own_n10 hq5) (fun i hi => ⟨t, hI i hi, Of_6⟩) N0 ge_b2 (g := (mkF m 35 #[vr o0, vi p1, vr o2, vr b2] [(.int p1), (.int (0 : Int32)), (.ref b2), (.int (0 : Int32)), (.ref o0)])) rfl (by rw [hml]; rfl) rfl (hb hby d23_35) (by decide) (W := 0) (by show 2 * 0 + _ ≤ _; exact Nat.le_of_eq rfl) (by decide)
 have Ar5 : AryR Z h5 b2 "java/lang/Object" p1 (fun _ => .ref t) := AryR.cast Ac5 hI
 refine Fini.st st5 ?_
 show Fini _ _ _ _ _ _ _ T5 (mkF m 38 #[vr o0, vi p1, vr o2, vr b2] [])
 refine fAN X5 hx hby d23_38 rfl rfl rfl ?_
 have Kp_7 : Keep h0 h5 [] := (Keep.trans (Keep.ext (Keep.refl h0 []) E2) K5 (allS (P := fun x => x ∈ _ ∨ _ ≤ x) (Or.inr sz_b2) all0))
 exact Fini.retA X5 hx hlk Bd.returns rfl (hb hby d23_39) rfl rfl (by decide) (by decide) ⟨_, rfl, N5, (by rw [e5]; exact Kp_7), sz_b2, ge_b2, (by rw [e5]; exact Ar5)⟩
theorem pd_8 : parseMethodDescriptor "([Ljava/lang/Object;ILjava/lang/Class;)[Ljava/lang/Object;" = some ⟨[(.array (.object "java/lang/Object")), .int, (.object "java/lang/Class")], some (.array (.object "java/lang/Object"))⟩ := by decide +kernel
theorem d22_0 : decode jdk_65_method_119_code 0 = .ok (.aload_n 0, 1) := by decide +kernel
theorem d22_1 : decode jdk_65_method_119_code 1 = .ok (.iload_n 1, 1) := by decide +kernel
theorem d22_2 : decode jdk_65_method_119_code 2 = .ok (.aload_n 0, 1) := by decide +kernel
theorem d22_3 : decode jdk_65_method_119_code 3 = .ok (.invokevirtual 86, 3) := by decide +kernel
theorem d22_6 : decode jdk_65_method_119_code 6 = .ok (.invokestatic 300, 3) := by decide +kernel
theorem d22_9 : decode jdk_65_method_119_code 9 = .ok (.areturn, 1) := by decide +kernel
theorem ef22 (m : MethodId) (x0 : Addr) (x1 : Int32) : entryFrame m #[(.ref x0), (.int x1)] 2 = mkF m 0 #[.val (.ref x0), .val (.int x1)] [] := by first | (simp [entryFrame, mkF, argsToLocals, Value.category]; done) | rfl
set_option maxRecDepth 65536 in
set_option maxHeartbeats 40000000 in
theorem rm22 (l : Launch) (Z : State) (a0 : Array Value) (hw : ∀ d ∈ tables_1, d.before a0 Z = true) (ws : List Jvm.Cond) (o0 : Addr) (p1 : Int32) (u : Nat → Value) (t : Addr) (mr : Addr) (h0 : Heap) (n0 : Nat) (Z0 : n0 ≤ h0.size) (E_o0 : Exa Z h0 o0 "[Ljava/lang/Object;") (A_o0 : AryR Z h0 o0 "java/lang/Object" (10 : Int32) u) (I_t : IsO Z h0 t) (hu : ∀ i, (u i).isRef = true) (hq1 : ¬ p1 < (0 : Int32)) (hq5 : ¬ (5 : Int32) < p1) (hI : ∀ i, i < p1.toNatClampNeg → u i = .ref t) (M_mr : Mir Z "[Ljava/lang/Object;" mr) :
  Cmet l Z (⟨"java/util/Arrays", "copyOf", "([Ljava/lang/Object;I)[Ljava/lang/Object;"⟩ : MethodName) jdk_65_method_119_code 2 (some (.array (.object "java/lang/Object"))) ws ({ frames := 2, cells := 1, slots := 5, locals := 55 } : Room) #[(.ref o0), (.int p1)] h0 (fun v h' L => ∃ q, v = some (.ref q) ∧ Fr n0 L ∧ Keep h0 h' [] ∧ h0.size ≤ q ∧ n0 ≤ q ∧ AryR Z h' q "java/lang/Object" p1 (fun _ => .ref t)) := by
 refine MetFree.of_bodySF (plainFor_of_name pn_11) hisR ?_
 intro p e s m args below meth c s₁ Bd hml0 hP hK
 obtain ⟨rfl, hZ, hh⟩ := hP
 have hx := Bd.exec
 have hlk : meth.locks = false := BodyLoose.notSynchronized Bd
 have hby := Bd.bytes
 have hml : c.maxLocals = 2 := hml0
 have hown : s.vm.findClass "java/util/Arrays" = some m.cls := findClass_of_methodNamed Bd.named
 have hnm := (name_of_methodNamed Bd.named Bd.method).1
 have X0 : Stand p l e ({ frames := 2, cells := 1, slots := 5, locals := 55 } : Room) s m #[(.ref o0), (.int p1)] below meth c s₁ [] 0 0 := Stand.of_body Bd
 have e0 : s₁.heap = h0 := by rw [← hh, Bd.state]; rfl
 have N0 := Fr.nil n0
 show Fini p e below s (fun v h' L => ∃ q, v = some (.ref q) ∧ Fr n0 L ∧ Keep h0 h' [] ∧ h0.size ≤ q ∧ n0 ≤ q ∧ AryR Z h' q "java/lang/Object" p1 (fun _ => .ref t)) _ _ s₁ (entryFrame m #[(.ref o0), (.int p1)] 2)
 refine Fini.cast (ef22 m o0 p1) ?_
 show Fini _ _ _ _ _ _ _ s₁ (mkF m 0 #[vr o0, vi p1] [])
 refine fAN X0 hx hby d22_0 rfl rfl rfl ?_
 refine fIN X0 hx hby d22_1 rfl rfl ?_
 refine fAN X0 hx hby d22_2 rfl rfl rfl ?_
 obtain ⟨T1, X1, e1, st1⟩ := gcls X0 hx hZ hown (wq hw (i := 174) rfl) (wq hw (i := 175) rfl) (wq hw (i := 151) rfl) (wq hw (i := 177) rfl) (wq hw (i := 176) rfl) (wq hw (i := 178) rfl) e0 E_o0 M_mr (g := (mkF m 3 #[vr o0, vi p1] [(.ref o0), (.int p1), (.ref o0)])) rfl (by rw [hml]; rfl) rfl (hb hby d22_3) (by decide) (W := 2) (by show 2 * 0 + _ ≤ _; exact Nat.le_of_eq rfl) (by decide)
 refine Fini.st st1 ?_
 show Fini _ _ _ _ _ _ _ T1 (mkF m 6 #[vr o0, vi p1] [(.ref mr), (.int p1), (.ref o0)])
 obtain ⟨v2, T2, L2, X2, hQ2, st2⟩ := callQ X1 hx hZ hown (wq hw (i := 180) rfl) (wq hw (i := 181) rfl) (wq hw (i := 172) rfl) (wq hw (i := 182) rfl) (by decide) (rm23 l Z a0 hw [] o0 p1 mr u t h0 n0 Z0 A_o0 I_t hu hq1 hq5 hI M_mr) e1 (W := 0) (by decide) (by decide) (by decide) (by decide) (g := (mkF m 6 #[vr o0, vi p1] [(.ref mr), (.int p1), (.ref o0)])) rfl (by rw [hml]; rfl) (argsL := [(.ref o0), (.int p1), (.ref mr)]) (rest := []) rfl (lenOf pd_8 rfl) rfl (by show 2 * 0 + _ ≤ _; exact Nat.le_of_eq rfl) (hb hby d22_6)
 obtain ⟨b2, rfl, Nq2, K2, sz2, ge_b2, Ar2⟩ := hQ2
 have ne_o0_b2 : o0 ≠ b2 := Nat.ne_of_lt (Nat.lt_of_lt_of_le E_o0.lt sz2)
 have sz_b2 : h0.size ≤ b2 := Nat.le_trans (Keep.refl h0 []).1 sz2
 have N2 := Fr.app N0 Nq2
 refine Fini.st st2 ?_
 show Fini _ _ _ _ _ _ _ T2 (mkF m 9 #[vr o0, vi p1] [(.ref b2)])
 have Kp_3 : Keep h0 T2.heap [] := (Keep.trans (Keep.refl h0 []) K2 all0)
 exact Fini.retA X2 hx hlk Bd.returns rfl (hb hby d22_9) rfl rfl (by decide) (by decide) ⟨_, rfl, N2, Kp_3, sz_b2, ge_b2, Ar2⟩
theorem pd_9 : parseMethodDescriptor "([Ljava/lang/Object;I)[Ljava/lang/Object;" = some ⟨[(.array (.object "java/lang/Object")), .int], some (.array (.object "java/lang/Object"))⟩ := by decide +kernel
theorem d21_0 : decode jdk_38_method_16_code 0 = .ok (.aload_n 0, 1) := by decide +kernel
theorem d21_1 : decode jdk_38_method_16_code 1 = .ok (.getfield 9, 3) := by decide +kernel
theorem d21_4 : decode jdk_38_method_16_code 4 = .ok (.aload_n 0, 1) := by decide +kernel
theorem d21_5 : decode jdk_38_method_16_code 5 = .ok (.getfield 48, 3) := by decide +kernel
theorem d21_8 : decode jdk_38_method_16_code 8 = .ok (.invokestatic 66, 3) := by decide +kernel
theorem d21_11 : decode jdk_38_method_16_code 11 = .ok (.areturn, 1) := by decide +kernel
theorem ef21 (m : MethodId) (x0 : Addr) : entryFrame m #[(.ref x0)] 1 = mkF m 0 #[.val (.ref x0)] [] := by first | (simp [entryFrame, mkF, argsToLocals, Value.category]; done) | rfl
set_option maxRecDepth 65536 in
set_option maxHeartbeats 40000000 in
theorem rm21 (l : Launch) (Z : State) (a0 : Array Value) (hw : ∀ d ∈ tables_1, d.before a0 Z = true) (ws : List Jvm.Cond) (o0 : Addr) (x : Addr) (n : Int32) (u : Nat → Value) (t : Addr) (mr : Addr) (h0 : Heap) (n0 : Nat) (Z0 : n0 ≤ h0.size) (F_sz : Fld Z h0 o0 "java/util/ArrayList" "size" "I" (.int n)) (F_el : Fld Z h0 o0 "java/util/ArrayList" "elementData" "[Ljava/lang/Object;" (.ref x)) (E_x : Exa Z h0 x "[Ljava/lang/Object;") (A_x : AryR Z h0 x "java/lang/Object" (10 : Int32) u) (I_t : IsO Z h0 t) (hu : ∀ i, (u i).isRef = true) (hq1 : ¬ n < (0 : Int32)) (hq5 : ¬ (5 : Int32) < n) (hI : ∀ i, i < n.toNatClampNeg → u i = .ref t) (M_mr : Mir Z "[Ljava/lang/Object;" mr) :
  Cmet l Z (⟨"java/util/ArrayList", "toArray", "()[Ljava/lang/Object;"⟩ : MethodName) jdk_38_method_16_code 1 (some (.array (.object "java/lang/Object"))) ws ({ frames := 3, cells := 1, slots := 5, locals := 68 } : Room) #[(.ref o0)] h0 (fun v h' L => ∃ q, v = some (.ref q) ∧ Fr n0 L ∧ Keep h0 h' [] ∧ h0.size ≤ q ∧ n0 ≤ q ∧ AryR Z h' q "java/lang/Object" n (fun _ => .ref t)) := by
 refine MetFree.of_bodySF (plainFor_of_name pn_4) hisR ?_
 intro p e s m args below meth c s₁ Bd hml0 hP hK
 obtain ⟨rfl, hZ, hh⟩ := hP
 have hx := Bd.exec
 have hlk : meth.locks = false := BodyLoose.notSynchronized Bd
 have hby := Bd.bytes
 have hml : c.maxLocals = 1 := hml0
 have hown : s.vm.findClass "java/util/ArrayList" = some m.cls := findClass_of_methodNamed Bd.named
 have hnm := (name_of_methodNamed Bd.named Bd.method).1
 have X0 : Stand p l e ({ frames := 3, cells := 1, slots := 5, locals := 68 } : Room) s m #[(.ref o0)] below meth c s₁ [] 0 0 := Stand.of_body Bd
 have e0 : s₁.heap = h0 := by rw [← hh, Bd.state]; rfl
 have N0 := Fr.nil n0
 show Fini p e below s (fun v h' L => ∃ q, v = some (.ref q) ∧ Fr n0 L ∧ Keep h0 h' [] ∧ h0.size ≤ q ∧ n0 ≤ q ∧ AryR Z h' q "java/lang/Object" n (fun _ => .ref t)) _ _ s₁ (entryFrame m #[(.ref o0)] 1)
 refine Fini.cast (ef21 m o0) ?_
 show Fini _ _ _ _ _ _ _ s₁ (mkF m 0 #[vr o0] [])
 refine fAN X0 hx hby d21_0 rfl rfl rfl ?_
 obtain ⟨T1, X1, e1, st1⟩ := getF X0 hx hZ hown (host := "") (Or.inl (wq hw (i := 40) rfl)) Via.refl e0 F_el (g := (mkF m 1 #[vr o0] [(.ref o0)])) rfl rfl (hb hby d21_1)
 refine Fini.st st1 ?_
 refine fAN X1 hx hby d21_4 rfl rfl rfl ?_
 obtain ⟨T2, X2, e2, st2⟩ := getF X1 hx hZ hown (host := "") (Or.inl (wq hw (i := 60) rfl)) Via.refl e1 F_sz (g := (mkF m 5 #[vr o0] [(.ref o0), (.ref x)])) rfl rfl (hb hby d21_5)
 refine Fini.st st2 ?_
 obtain ⟨v3, T3, L3, X3, hQ3, st3⟩ := callQ X2 hx hZ hown (wq hw (i := 170) rfl) (wq hw (i := 171) rfl) (wq hw (i := 172) rfl) (wq hw (i := 173) rfl) (by decide) (rm22 l Z a0 hw [] x n u t mr h0 n0 Z0 E_x A_x I_t hu hq1 hq5 hI M_mr) e2 (W := 0) (by decide) (by decide) (by decide) (by decide) (g := (mkF m 8 #[vr o0] [(.int n), (.ref x)])) rfl (by rw [hml]; rfl) (argsL := [(.ref x), (.int n)]) (rest := []) rfl (lenOf pd_9 rfl) rfl (by show 2 * 0 + _ ≤ _; exact Nat.le_of_eq rfl) (hb hby d21_8)
 obtain ⟨b3, rfl, Nq3, K3, sz3, ge_b3, Ar3⟩ := hQ3
 have ne_o0_b3 : o0 ≠ b3 := Nat.ne_of_lt (Nat.lt_of_lt_of_le F_sz.lt sz3)
 have ne_x_b3 : x ≠ b3 := Nat.ne_of_lt (Nat.lt_of_lt_of_le E_x.lt sz3)
 have sz_b3 : h0.size ≤ b3 := Nat.le_trans (Keep.refl h0 []).1 sz3
 have N3 := Fr.app N0 Nq3
 refine Fini.st st3 ?_
 show Fini _ _ _ _ _ _ _ T3 (mkF m 11 #[vr o0] [(.ref b3)])
 have Kp_4 : Keep h0 T3.heap [] := (Keep.trans (Keep.refl h0 []) K3 all0)
 exact Fini.retA X3 hx hlk Bd.returns rfl (hb hby d21_11) rfl rfl (by decide) (by decide) ⟨_, rfl, N3, Kp_4, sz_b3, ge_b3, Ar3⟩
theorem c21 (l : Launch) (Z : State) (a0 : Array Value) (hw : ∀ d ∈ tables_1, d.before a0 Z = true) (h0 : Heap) (n0 : Nat) (Z0 : n0 ≤ h0.size) {B : Nat} {dd a x : Addr} {n : Int32} {u : Nat → Value} (A : ALs Z B dd h0 a x n u) {t mr : Addr} (hn0 : ¬ n = 0) (I_t : IsO Z h0 t) (hq5 : ¬ (5 : Int32) < n) (hI : ∀ i, i < n.toNatClampNeg → u i = .ref t) (M_mr : Mir Z "[Ljava/lang/Object;" mr) : Cmet l Z (⟨"java/util/ArrayList", "toArray", "()[Ljava/lang/Object;"⟩ : MethodName) jdk_38_method_16_code 1 (some (.array (.object "java/lang/Object"))) [] ({ frames := 3, cells := 1, slots := 5, locals := 68 } : Room) #[.ref a] h0 (fun v h' L => ∃ q, v = some (.ref q) ∧ Fr n0 L ∧ Keep h0 h' [] ∧ h0.size ≤ q ∧ n0 ≤ q ∧ AryR Z h' q "java/lang/Object" n (fun _ => .ref t)) := by
 obtain ⟨-, q1, q2, q3, q4⟩ := A.own hn0
 exact rm21 l Z a0 hw [] a x n u t mr h0 n0 Z0 A.2.2.2.1 A.2.2.1 q4 q3 I_t A.2.2.2.2.2.1 q1 hq5 hI M_mr
theorem pd_10 : parseMethodDescriptor "(Ljava/lang/Object;)Ljava/lang/Object;" = some ⟨[(.object "java/lang/Object")], some (.object "java/lang/Object")⟩ := by decide +kernel
theorem d26_0 : decode jdk_44_method_1_code 0 = .ok (.aload_n 0, 1) := by decide +kernel
theorem d26_1 : decode jdk_44_method_1_code 1 = .ok (.invokespecial 1, 3) := by decide +kernel
theorem d26_4 : decode jdk_44_method_1_code 4 = .ok (.aload_n 0, 1) := by decide +kernel
theorem d26_5 : decode jdk_44_method_1_code 5 = .ok (.aload_n 1, 1) := by decide +kernel
theorem d26_6 : decode jdk_44_method_1_code 6 = .ok (.invokestatic 7, 3) := by decide +kernel
theorem d26_9 : decode jdk_44_method_1_code 9 = .ok (.putfield 13, 3) := by decide +kernel
theorem d26_12 : decode jdk_44_method_1_code 12 = .ok (.aload_n 0, 1) := by decide +kernel
theorem d26_13 : decode jdk_44_method_1_code 13 = .ok (.getstatic 19, 3) := by decide +kernel
theorem d26_16 : decode jdk_44_method_1_code 16 = .ok (.putfield 24, 3) := by decide +kernel
theorem d26_19 : decode jdk_44_method_1_code 19 = .ok (.return_, 1) := by decide +kernel
theorem pn_12 : plainName "java/util/ImmutableCollections$List12" = true := by first | (simp [plainName, overriddenIn]; done) | decide +kernel
theorem ef26 (m : MethodId) (x0 : Addr) (x1 : Addr) : entryFrame m #[(.ref x0), (.ref x1)] 2 = mkF m 0 #[.val (.ref x0), .val (.ref x1)] [] := by first | (simp [entryFrame, mkF, argsToLocals, Value.category]; done) | rfl
set_option maxRecDepth 65536 in
set_option maxHeartbeats 40000000 in
theorem rm26 (l : Launch) (Z : State) (a0 : Array Value) (hw : ∀ d ∈ tables_1, d.before a0 Z = true) (ws : List Jvm.Cond) (o0 : Addr) (o1 : Addr) (em : Addr) (h0 : Heap) (n0 : Nat) (Z0 : n0 ≤ h0.size) (E_o0 : Exa Z h0 o0 "java/util/ImmutableCollections$List12") (F_e0 : Fld Z h0 o0 "java/util/ImmutableCollections$List12" "e0" "Ljava/lang/Object;" .null) (F_e1 : Fld Z h0 o0 "java/util/ImmutableCollections$List12" "e1" "Ljava/lang/Object;" .null) (D0 : Old Z n0 h0) (S_em : Sta Z Z.heap "java/util/ImmutableCollections" "EMPTY" "Ljava/lang/Object;" (.ref em)) (g0 : n0 ≤ o0) :
  Cmet l Z (⟨"java/util/ImmutableCollections$List12", "<init>", "(Ljava/lang/Object;)V"⟩ : MethodName) jdk_44_method_1_code 2 none ws ({ frames := 4, cells := 0, slots := 0, locals := 48 } : Room) #[(.ref o0), (.ref o1)] h0 (fun v h' L => v = none ∧ Fr n0 L ∧ Keep h0 h' [o0] ∧ Fld Z h' o0 "java/util/ImmutableCollections$List12" "e1" "Ljava/lang/Object;" (.ref em)) := by
 refine MetFree.of_bodySF (plainFor_of_name pn_12) hisR ?_
 intro p e s m args below meth c s₁ Bd hml0 hP hK
 obtain ⟨rfl, hZ, hh⟩ := hP
 have hx := Bd.exec
 have hlk : meth.locks = false := BodyLoose.notSynchronized Bd
 have hby := Bd.bytes
 have hml : c.maxLocals = 2 := hml0
 have hown : s.vm.findClass "java/util/ImmutableCollections$List12" = some m.cls := findClass_of_methodNamed Bd.named
 have hnm := (name_of_methodNamed Bd.named Bd.method).1
 have X0 : Stand p l e ({ frames := 4, cells := 0, slots := 0, locals := 48 } : Room) s m #[(.ref o0), (.ref o1)] below meth c s₁ [] 0 0 := Stand.of_body Bd
 have e0 : s₁.heap = h0 := by rw [← hh, Bd.state]; rfl
 have N0 := Fr.nil n0
 show Fini p e below s (fun v h' L => v = none ∧ Fr n0 L ∧ Keep h0 h' [o0] ∧ Fld Z h' o0 "java/util/ImmutableCollections$List12" "e1" "Ljava/lang/Object;" (.ref em)) _ _ s₁ (entryFrame m #[(.ref o0), (.ref o1)] 2)
 refine Fini.cast (ef26 m o0 o1) ?_
 show Fini _ _ _ _ _ _ _ s₁ (mkF m 0 #[vr o0, vr o1] [])
 refine fAN X0 hx hby d26_0 rfl rfl rfl ?_
 obtain ⟨v1, T1, L1, X1, hQ1, st1⟩ := callNew X0 hx hZ hown rfl (wq hw (i := 202) rfl) (wq hw (i := 203) rfl) (wq hw (i := 206) rfl) (wq hw (i := 207) rfl) (by decide) (rm27 l Z a0 hw [] o0 h0 n0 Z0) e0 (W := 0) (by decide) (by decide) (by decide) (by decide) (g := (mkF m 1 #[vr o0, vr o1] [(.ref o0)])) rfl (by rw [hml]; rfl) (argsL := []) (rest := []) rfl (lenOf pd_0 rfl) rfl (by show 2 * 0 + _ ≤ _; exact Nat.le_of_eq rfl) (hb hby d26_1)
 obtain ⟨rfl, hh1, rfl⟩ := hQ1
 have K1 : Keep h0 T1.heap [] := by rw [hh1]; exact Keep.refl _ _
 have Nq1 := Fr.nil n0
 have N1 := Fr.app N0 Nq1
 refine Fini.st st1 ?_
 show Fini _ _ _ _ _ _ _ T1 (mkF m 4 #[vr o0, vr o1] [])
 refine fAN X1 hx hby d26_4 rfl rfl rfl ?_
 refine fAN X1 hx hby d26_5 rfl rfl rfl ?_
 have Zs_3 : n0 ≤ T1.heap.size := (Nat.le_trans Z0 K1.1)
 obtain ⟨v2, T2, L2, X2, hQ2, st2⟩ := callQ X1 hx hZ hown (wq hw (i := 216) rfl) (wq hw (i := 217) rfl) (wq hw (i := 121) rfl) (wq hw (i := 218) rfl) (by decide) (rm29 l Z a0 hw [] o1 T1.heap n0 Zs_3) rfl (W := 1) (by decide) (by decide) (by decide) (by decide) (g := (mkF m 6 #[vr o0, vr o1] [(.ref o1), (.ref o0)])) rfl (by rw [hml]; rfl) (argsL := [(.ref o1)]) (rest := [(.ref o0)]) rfl (lenOf pd_10 rfl) rfl (by show 2 * 0 + _ ≤ _; exact Nat.le_of_eq rfl) (hb hby d26_6)
 obtain ⟨rfl, hh2, rfl⟩ := hQ2
 have K2 : Keep T1.heap T2.heap [] := by rw [hh2]; exact Keep.refl _ _
 have Nq2 := Fr.nil n0
 have N2 := Fr.app N1 Nq2
 refine Fini.st st2 ?_
 show Fini _ _ _ _ _ _ _ T2 (mkF m 9 #[vr o0, vr o1] [(.ref o1), (.ref o0)])
 have F_5 : Fld Z T2.heap o0 "java/util/ImmutableCollections$List12" "e0" "Ljava/lang/Object;" .null := ((F_e0.keep K1 nin0).keep K2 nin0)
 have Ex_6 : Exa Z T2.heap o0 "java/util/ImmutableCollections$List12" := ((E_o0.keep K1).keep K2)
 obtain ⟨T4, h4, X4, e4, W4, st4⟩ := putF X2 hx hZ hown (host := "") (Or.inl (wq hw (i := 219) rfl)) Via.refl rfl F_5 Ex_6 (Or.inr ⟨(wq hw (i := 220) rfl), rfl, hnm⟩) (wq hw (i := 196) rfl) (ty := (.object "java/lang/Object")) (by decide) rfl rfl (g := (mkF m 9 #[vr o0, vr o1] [(.ref o1), (.ref o0)])) rfl rfl (hb hby d26_9)
 have Fw4 : Fld Z h4 o0 "java/util/ImmutableCollections$List12" "e0" "Ljava/lang/Object;" (.ref o1) := F_5.same W4
 refine Fini.st st4 ?_
 have N4 := Fr.snoc X4 N2 g0
 refine fAN X4 hx hby d26_12 rfl rfl rfl ?_
 show Fini _ _ _ _ _ _ _ T4 (mkF m 13 #[vr o0, vr o1] [(.ref o0)])
 have Od_8 : Old Z n0 h4 := (Old.wr (Old.keep (Old.keep D0 K1 all0) K2 all0) W4 g0)
 obtain ⟨T7, X7, e7, st7⟩ := getS2 X4 hx hZ hown (Or.inr (wq hw (i := 221) rfl)) Via.refl e4 (Sta.ext Od_8.2 S_em) (g := (mkF m 13 #[vr o0, vr o1] [(.ref o0)])) rfl (hb hby d26_13)
 refine Fini.st st7 ?_
 show Fini _ _ _ _ _ _ _ T7 (mkF m 16 #[vr o0, vr o1] [(.ref em), (.ref o0)])
 have F_10 : Fld Z h4 o0 "java/util/ImmutableCollections$List12" "e1" "Ljava/lang/Object;" .null := (((F_e1.keep K1 nin0).keep K2 nin0).other W4 (Or.inr (slot_ne (Or.inr (wq hw (i := 223) rfl)) (Or.inr (wq hw (i := 220) rfl)) (by decide) (t := (.object "java/lang/Object")) (t' := (.object "java/lang/Object")) (by decide) (by decide))))
 have Ex_11 : Exa Z h4 o0 "java/util/ImmutableCollections$List12" := (Ex_6.wr W4)
 obtain ⟨T9, h9, X9, e9, W9, st9⟩ := putF X7 hx hZ hown (host := "") (Or.inl (wq hw (i := 222) rfl)) Via.refl e7 F_10 Ex_11 (Or.inr ⟨(wq hw (i := 223) rfl), rfl, hnm⟩) (wq hw (i := 196) rfl) (ty := (.object "java/lang/Object")) (by decide) rfl rfl (g := (mkF m 16 #[vr o0, vr o1] [(.ref em), (.ref o0)])) rfl rfl (hb hby d26_16)
 have Fw9 : Fld Z h9 o0 "java/util/ImmutableCollections$List12" "e1" "Ljava/lang/Object;" (.ref em) := F_10.same W9
 refine Fini.st st9 ?_
 have N9 := Fr.snoc X9 N4 g0
 have Kp_12 : Keep h0 h9 [o0] := (Keep.wr (Keep.wr (Keep.trans (Keep.trans (Keep.refl h0 [o0]) K1 all0) K2 all0) W4 (Or.inl (List.mem_of_getElem? (i := 0) rfl))) W9 (Or.inl (List.mem_of_getElem? (i := 0) rfl)))
 exact Fini.ret0 X9 hx hlk Bd.returns (hb hby d26_19) (by decide) (by decide) ⟨rfl, N9, (by rw [e9]; exact Kp_12), (by rw [e9]; exact Fw9)⟩
theorem d41_0 : decode jdk_44_method_2_code 0 = .ok (.aload_n 0, 1) := by decide +kernel
theorem d41_1 : decode jdk_44_method_2_code 1 = .ok (.invokespecial 1, 3) := by decide +kernel
theorem d41_4 : decode jdk_44_method_2_code 4 = .ok (.aload_n 0, 1) := by decide +kernel
theorem d41_5 : decode jdk_44_method_2_code 5 = .ok (.aload_n 1, 1) := by decide +kernel
theorem d41_6 : decode jdk_44_method_2_code 6 = .ok (.invokestatic 7, 3) := by decide +kernel
theorem d41_9 : decode jdk_44_method_2_code 9 = .ok (.putfield 13, 3) := by decide +kernel
theorem d41_12 : decode jdk_44_method_2_code 12 = .ok (.aload_n 0, 1) := by decide +kernel
theorem d41_13 : decode jdk_44_method_2_code 13 = .ok (.aload_n 2, 1) := by decide +kernel
theorem d41_14 : decode jdk_44_method_2_code 14 = .ok (.invokestatic 7, 3) := by decide +kernel
theorem d41_17 : decode jdk_44_method_2_code 17 = .ok (.putfield 24, 3) := by decide +kernel
theorem d41_20 : decode jdk_44_method_2_code 20 = .ok (.return_, 1) := by decide +kernel
theorem ef41 (m : MethodId) (x0 : Addr) (x1 : Addr) (x2 : Addr) : entryFrame m #[(.ref x0), (.ref x1), (.ref x2)] 3 = mkF m 0 #[.val (.ref x0), .val (.ref x1), .val (.ref x2)] [] := by first | (simp [entryFrame, mkF, argsToLocals, Value.category]; done) | rfl
set_option maxRecDepth 65536 in
set_option maxHeartbeats 40000000 in
theorem rm41 (l : Launch) (Z : State) (a0 : Array Value) (hw : ∀ d ∈ tables_1, d.before a0 Z = true) (ws : List Jvm.Cond) (o0 : Addr) (o1 : Addr) (o2 : Addr) (h0 : Heap) (n0 : Nat) (Z0 : n0 ≤ h0.size) (E_o0 : Exa Z h0 o0 "java/util/ImmutableCollections$List12") (F_e0 : Fld Z h0 o0 "java/util/ImmutableCollections$List12" "e0" "Ljava/lang/Object;" .null) (F_e1 : Fld Z h0 o0 "java/util/ImmutableCollections$List12" "e1" "Ljava/lang/Object;" .null) (g0 : n0 ≤ o0) :
  Cmet l Z (⟨"java/util/ImmutableCollections$List12", "<init>", "(Ljava/lang/Object;Ljava/lang/Object;)V"⟩ : MethodName) jdk_44_method_2_code 3 none ws ({ frames := 4, cells := 0, slots := 0, locals := 48 } : Room) #[(.ref o0), (.ref o1), (.ref o2)] h0 (fun v h' L => v = none ∧ Fr n0 L ∧ Keep h0 h' [o0] ∧ Fld Z h' o0 "java/util/ImmutableCollections$List12" "e1" "Ljava/lang/Object;" (.ref o2)) := by
 refine MetFree.of_bodySF (plainFor_of_name pn_12) hisR ?_
 intro p e s m args below meth c s₁ Bd hml0 hP hK
 obtain ⟨rfl, hZ, hh⟩ := hP
 have hx := Bd.exec
 have hlk : meth.locks = false := BodyLoose.notSynchronized Bd
 have hby := Bd.bytes
 have hml : c.maxLocals = 3 := hml0
 have hown : s.vm.findClass "java/util/ImmutableCollections$List12" = some m.cls := findClass_of_methodNamed Bd.named
 have hnm := (name_of_methodNamed Bd.named Bd.method).1
 have X0 : Stand p l e ({ frames := 4, cells := 0, slots := 0, locals := 48 } : Room) s m #[(.ref o0), (.ref o1), (.ref o2)] below meth c s₁ [] 0 0 := Stand.of_body Bd
 have e0 : s₁.heap = h0 := by rw [← hh, Bd.state]; rfl
 have N0 := Fr.nil n0
 show Fini p e below s (fun v h' L => v = none ∧ Fr n0 L ∧ Keep h0 h' [o0] ∧ Fld Z h' o0 "java/util/ImmutableCollections$List12" "e1" "Ljava/lang/Object;" (.ref o2)) _ _ s₁ (entryFrame m #[(.ref o0), (.ref o1), (.ref o2)] 3)
 refine Fini.cast (ef41 m o0 o1 o2) ?_
 show Fini _ _ _ _ _ _ _ s₁ (mkF m 0 #[vr o0, vr o1, vr o2] [])
 refine fAN X0 hx hby d41_0 rfl rfl rfl ?_
 obtain ⟨v1, T1, L1, X1, hQ1, st1⟩ := callNew X0 hx hZ hown rfl (wq hw (i := 202) rfl) (wq hw (i := 203) rfl) (wq hw (i := 206) rfl) (wq hw (i := 207) rfl) (by decide) (rm27 l Z a0 hw [] o0 h0 n0 Z0) e0 (W := 0) (by decide) (by decide) (by decide) (by decide) (g := (mkF m 1 #[vr o0, vr o1, vr o2] [(.ref o0)])) rfl (by rw [hml]; rfl) (argsL := []) (rest := []) rfl (lenOf pd_0 rfl) rfl (by show 2 * 0 + _ ≤ _; exact Nat.le_of_eq rfl) (hb hby d41_1)
 obtain ⟨rfl, hh1, rfl⟩ := hQ1
 have K1 : Keep h0 T1.heap [] := by rw [hh1]; exact Keep.refl _ _
 have Nq1 := Fr.nil n0
 have N1 := Fr.app N0 Nq1
 refine Fini.st st1 ?_
 show Fini _ _ _ _ _ _ _ T1 (mkF m 4 #[vr o0, vr o1, vr o2] [])
 refine fAN X1 hx hby d41_4 rfl rfl rfl ?_
 refine fAN X1 hx hby d41_5 rfl rfl rfl ?_
 have Zs_3 : n0 ≤ T1.heap.size := (Nat.le_trans Z0 K1.1)
 obtain ⟨v2, T2, L2, X2, hQ2, st2⟩ := callQ X1 hx hZ hown (wq hw (i := 216) rfl) (wq hw (i := 217) rfl) (wq hw (i := 121) rfl) (wq hw (i := 218) rfl) (by decide) (rm29 l Z a0 hw [] o1 T1.heap n0 Zs_3) rfl (W := 1) (by decide) (by decide) (by decide) (by decide) (g := (mkF m 6 #[vr o0, vr o1, vr o2] [(.ref o1), (.ref o0)])) rfl (by rw [hml]; rfl) (argsL := [(.ref o1)]) (rest := [(.ref o0)]) rfl (lenOf pd_10 rfl) rfl (by show 2 * 0 + _ ≤ _; exact Nat.le_of_eq rfl) (hb hby d41_6)
 obtain ⟨rfl, hh2, rfl⟩ := hQ2
 have K2 : Keep T1.heap T2.heap [] := by rw [hh2]; exact Keep.refl _ _
 have Nq2 := Fr.nil n0
 have N2 := Fr.app N1 Nq2
 refine Fini.st st2 ?_
 show Fini _ _ _ _ _ _ _ T2 (mkF m 9 #[vr o0, vr o1, vr o2] [(.ref o1), (.ref o0)])
 have F_5 : Fld Z T2.heap o0 "java/util/ImmutableCollections$List12" "e0" "Ljava/lang/Object;" .null := ((F_e0.keep K1 nin0).keep K2 nin0)
 have Ex_6 : Exa Z T2.heap o0 "java/util/ImmutableCollections$List12" := ((E_o0.keep K1).keep K2)
 obtain ⟨T4, h4, X4, e4, W4, st4⟩ := putF X2 hx hZ hown (host := "") (Or.inl (wq hw (i := 219) rfl)) Via.refl rfl F_5 Ex_6 (Or.inr ⟨(wq hw (i := 220) rfl), rfl, hnm⟩) (wq hw (i := 196) rfl) (ty := (.object "java/lang/Object")) (by decide) rfl rfl (g := (mkF m 9 #[vr o0, vr o1, vr o2] [(.ref o1), (.ref o0)])) rfl rfl (hb hby d41_9)
 have Fw4 : Fld Z h4 o0 "java/util/ImmutableCollections$List12" "e0" "Ljava/lang/Object;" (.ref o1) := F_5.same W4
 refine Fini.st st4 ?_
 have N4 := Fr.snoc X4 N2 g0
 refine fAN X4 hx hby d41_12 rfl rfl rfl ?_
 refine fAN X4 hx hby d41_13 rfl rfl rfl ?_
 have Zs_8 : n0 ≤ h4.size := (Nat.le_trans (Nat.le_trans Zs_3 K2.1) (Nat.le_of_eq W4.size.symm))
 obtain ⟨v7, T7, L7, X7, hQ7, st7⟩ := callQ X4 hx hZ hown (wq hw (i := 216) rfl) (wq hw (i := 217) rfl) (wq hw (i := 121) rfl) (wq hw (i := 218) rfl) (by decide) (rm29 l Z a0 hw [] o2 h4 n0 Zs_8) e4 (W := 1) (by decide) (by decide) (by decide) (by decide) (g := (mkF m 14 #[vr o0, vr o1, vr o2] [(.ref o2), (.ref o0)])) rfl (by rw [hml]; rfl) (argsL := [(.ref o2)]) (rest := [(.ref o0)]) rfl (lenOf pd_10 rfl) rfl (by show 2 * 0 + _ ≤ _; exact Nat.le_of_eq rfl) (hb hby d41_14)
 obtain ⟨rfl, hh7, rfl⟩ := hQ7
 have K7 : Keep h4 T7.heap [] := by rw [hh7]; exact Keep.refl _ _
 have Nq7 := Fr.nil n0
 have N7 := Fr.app N4 Nq7
 refine Fini.st st7 ?_
 show Fini _ _ _ _ _ _ _ T7 (mkF m 17 #[vr o0, vr o1, vr o2] [(.ref o2), (.ref o0)])
 have F_10 : Fld Z T7.heap o0 "java/util/ImmutableCollections$List12" "e1" "Ljava/lang/Object;" .null := ((((F_e1.keep K1 nin0).keep K2 nin0).other W4 (Or.inr (slot_ne (Or.inr (wq hw (i := 223) rfl)) (Or.inr (wq hw (i := 220) rfl)) (by decide) (t := (.object "java/lang/Object")) (t' := (.object "java/lang/Object")) (by decide) (by decide)))).keep K7 nin0)
 have Ex_11 : Exa Z T7.heap o0 "java/util/ImmutableCollections$List12" := ((Ex_6.wr W4).keep K7)
 obtain ⟨T9, h9, X9, e9, W9, st9⟩ := putF X7 hx hZ hown (host := "") (Or.inl (wq hw (i := 222) rfl)) Via.refl rfl F_10 Ex_11 (Or.inr ⟨(wq hw (i := 223) rfl), rfl, hnm⟩) (wq hw (i := 196) rfl) (ty := (.object "java/lang/Object")) (by decide) rfl rfl (g := (mkF m 17 #[vr o0, vr o1, vr o2] [(.ref o2), (.ref o0)])) rfl rfl (hb hby d41_17)
 have Fw9 : Fld Z h9 o0 "java/util/ImmutableCollections$List12" "e1" "Ljava/lang/Object;" (.ref o2) := F_10.same W9
 refine Fini.st st9 ?_
 have N9 := Fr.snoc X9 N7 g0
 have Kp_12 : Keep h0 h9 [o0] := (Keep.wr (Keep.trans (Keep.wr (Keep.trans (Keep.trans (Keep.refl h0 [o0]) K1 all0) K2 all0) W4 (Or.inl (List.mem_of_getElem? (i := 0) rfl))) K7 all0) W9 (Or.inl (List.mem_of_getElem? (i := 0) rfl)))
 exact Fini.ret0 X9 hx hlk Bd.returns (hb hby d41_20) (by decide) (by decide) ⟨rfl, N9, (by rw [e9]; exact Kp_12), (by rw [e9]; exact Fw9)⟩
theorem d39_0 : decode jdk_45_method_1_code 0 = .ok (.aload_n 0, 1) := by decide +kernel
theorem d39_1 : decode jdk_45_method_1_code 1 = .ok (.invokespecial 1, 3) := by decide +kernel
theorem d39_4 : decode jdk_45_method_1_code 4 = .ok (.aload_n 0, 1) := by decide +kernel
theorem d39_5 : decode jdk_45_method_1_code 5 = .ok (.aload_n 1, 1) := by decide +kernel
theorem d39_6 : decode jdk_45_method_1_code 6 = .ok (.putfield 7, 3) := by decide +kernel
theorem d39_9 : decode jdk_45_method_1_code 9 = .ok (.aload_n 0, 1) := by decide +kernel
theorem d39_10 : decode jdk_45_method_1_code 10 = .ok (.iload_n 2, 1) := by decide +kernel
theorem d39_11 : decode jdk_45_method_1_code 11 = .ok (.putfield 13, 3) := by decide +kernel
theorem d39_14 : decode jdk_45_method_1_code 14 = .ok (.return_, 1) := by decide +kernel
theorem pn_13 : plainName "java/util/ImmutableCollections$ListN" = true := by first | (simp [plainName, overriddenIn]; done) | decide +kernel
theorem ef39 (m : MethodId) (x0 : Addr) (x1 : Addr) (x2 : Int32) : entryFrame m #[(.ref x0), (.ref x1), (.int x2)] 3 = mkF m 0 #[.val (.ref x0), .val (.ref x1), .val (.int x2)] [] := by first | (simp [entryFrame, mkF, argsToLocals, Value.category]; done) | rfl
set_option maxRecDepth 65536 in
set_option maxHeartbeats 40000000 in
theorem rm39 (l : Launch) (Z : State) (a0 : Array Value) (hw : ∀ d ∈ tables_1, d.before a0 Z = true) (ws : List Jvm.Cond) (o0 : Addr) (o1 : Addr) (h0 : Heap) (n0 : Nat) (Z0 : n0 ≤ h0.size) (E_o0 : Exa Z h0 o0 "java/util/ImmutableCollections$ListN") (F_el : Fld Z h0 o0 "java/util/ImmutableCollections$ListN" "elements" "[Ljava/lang/Object;" .null) (F_an : Fld Z h0 o0 "java/util/ImmutableCollections$ListN" "allowNulls" "Z" (.int (0 : Int32))) (g0 : n0 ≤ o0) :
  Cmet l Z (⟨"java/util/ImmutableCollections$ListN", "<init>", "([Ljava/lang/Object;Z)V"⟩ : MethodName) jdk_45_method_1_code 3 none ws ({ frames := 4, cells := 0, slots := 0, locals := 48 } : Room) #[(.ref o0), (.ref o1), (.int (0 : Int32))] h0 (fun v h' L => v = none ∧ Fr n0 L ∧ Keep h0 h' [o0] ∧ Fld Z h' o0 "java/util/ImmutableCollections$ListN" "elements" "[Ljava/lang/Object;" (.ref o1)) := by
 refine MetFree.of_bodySF (plainFor_of_name pn_13) hisR ?_
 intro p e s m args below meth c s₁ Bd hml0 hP hK
 obtain ⟨rfl, hZ, hh⟩ := hP
 have hx := Bd.exec
 have hlk : meth.locks = false := BodyLoose.notSynchronized Bd
 have hby := Bd.bytes
 have hml : c.maxLocals = 3 := hml0
 have hown : s.vm.findClass "java/util/ImmutableCollections$ListN" = some m.cls := findClass_of_methodNamed Bd.named
 have hnm := (name_of_methodNamed Bd.named Bd.method).1
 have X0 : Stand p l e ({ frames := 4, cells := 0, slots := 0, locals := 48 } : Room) s m #[(.ref o0), (.ref o1), (.int (0 : Int32))] below meth c s₁ [] 0 0 := Stand.of_body Bd
 have e0 : s₁.heap = h0 := by rw [← hh, Bd.state]; rfl
 have N0 := Fr.nil n0
 show Fini p e below s (fun v h' L => v = none ∧ Fr n0 L ∧ Keep h0 h' [o0] ∧ Fld Z h' o0 "java/util/ImmutableCollections$ListN" "elements" "[Ljava/lang/Object;" (.ref o1)) _ _ s₁ (entryFrame m #[(.ref o0), (.ref o1), (.int (0 : Int32))] 3)
 refine Fini.cast (ef39 m o0 o1 (0 : Int32)) ?_
 show Fini _ _ _ _ _ _ _ s₁ (mkF m 0 #[vr o0, vr o1, vi (0 : Int32)] [])
 refine fAN X0 hx hby d39_0 rfl rfl rfl ?_
 obtain ⟨v1, T1, L1, X1, hQ1, st1⟩ := callNew X0 hx hZ hown rfl (wq hw (i := 308) rfl) (wq hw (i := 203) rfl) (wq hw (i := 206) rfl) (wq hw (i := 207) rfl) (by decide) (rm27 l Z a0 hw [] o0 h0 n0 Z0) e0 (W := 0) (by decide) (by decide) (by decide) (by decide) (g := (mkF m 1 #[vr o0, vr o1, vi (0 : Int32)] [(.ref o0)])) rfl (by rw [hml]; rfl) (argsL := []) (rest := []) rfl (lenOf pd_0 rfl) rfl (by show 2 * 0 + _ ≤ _; exact Nat.le_of_eq rfl) (hb hby d39_1)
 obtain ⟨rfl, hh1, rfl⟩ := hQ1
 have K1 : Keep h0 T1.heap [] := by rw [hh1]; exact Keep.refl _ _
 have Nq1 := Fr.nil n0
 have N1 := Fr.app N0 Nq1
 refine Fini.st st1 ?_
 show Fini _ _ _ _ _ _ _ T1 (mkF m 4 #[vr o0, vr o1, vi (0 : Int32)] [])
 refine fAN X1 hx hby d39_4 rfl rfl rfl ?_
 refine fAN X1 hx hby d39_5 rfl rfl rfl ?_
 have F_3 : Fld Z T1.heap o0 "java/util/ImmutableCollections$ListN" "elements" "[Ljava/lang/Object;" .null := (F_el.keep K1 nin0)
 have Ex_4 : Exa Z T1.heap o0 "java/util/ImmutableCollections$ListN" := (E_o0.keep K1)
 obtain ⟨T2, h2, X2, e2, W2, st2⟩ := putF X1 hx hZ hown (host := "") (Or.inl (wq hw (i := 312) rfl)) Via.refl rfl F_3 Ex_4 (Or.inr ⟨(wq hw (i := 313) rfl), rfl, hnm⟩) (wq hw (i := 302) rfl) (ty := (.array (.object "java/lang/Object"))) (by decide) rfl rfl (g := (mkF m 6 #[vr o0, vr o1, vi (0 : Int32)] [(.ref o1), (.ref o0)])) rfl rfl (hb hby d39_6)
 have Fw2 : Fld Z h2 o0 "java/util/ImmutableCollections$ListN" "elements" "[Ljava/lang/Object;" (.ref o1) := F_3.same W2
 refine Fini.st st2 ?_
 have N2 := Fr.snoc X2 N1 g0
 refine fAN X2 hx hby d39_9 rfl rfl rfl ?_
 refine fIN X2 hx hby d39_10 rfl rfl ?_
 have F_6 : Fld Z h2 o0 "java/util/ImmutableCollections$ListN" "allowNulls" "Z" (.int (0 : Int32)) := ((F_an.keep K1 nin0).other W2 (Or.inr (slot_ne (Or.inr (wq hw (i := 315) rfl)) (Or.inr (wq hw (i := 313) rfl)) (by decide) (t := .boolean) (t' := (.array (.object "java/lang/Object"))) (by decide) (by decide))))
 have Ex_7 : Exa Z h2 o0 "java/util/ImmutableCollections$ListN" := (Ex_4.wr W2)
 obtain ⟨T5, h5, X5, e5, W5, st5⟩ := putFN X2 hx hZ hown (wq hw (i := 314) rfl) Via.refl e2 F_6 Ex_7 (Or.inr ⟨(wq hw (i := 315) rfl), rfl, hnm⟩) (wq hw (i := 302) rfl) (ty := .boolean) (v' := .int (0 : Int32)) (by decide) rfl rfl (g := (mkF m 11 #[vr o0, vr o1, vi (0 : Int32)] [(.int (0 : Int32)), (.ref o0)])) rfl rfl (hb hby d39_11)
 have Fw5 : Fld Z h5 o0 "java/util/ImmutableCollections$ListN" "allowNulls" "Z" (.int (0 : Int32)) := F_6.same W5
 refine Fini.st st5 ?_
 have N5 := Fr.snoc X5 N2 g0
 have Kp_8 : Keep h0 h5 [o0] := (Keep.wr (Keep.wr (Keep.trans (Keep.refl h0 [o0]) K1 all0) W2 (Or.inl (List.mem_of_getElem? (i := 0) rfl))) W5 (Or.inl (List.mem_of_getElem? (i := 0) rfl)))
 have F_9 : Fld Z h5 o0 "java/util/ImmutableCollections$ListN" "elements" "[Ljava/lang/Object;" (.ref o1) := (Fw2.other W5 (Or.inr (slot_ne (Or.inr (wq hw (i := 313) rfl)) (Or.inr (wq hw (i := 315) rfl)) (by decide) (t := (.array (.object "java/lang/Object"))) (t' := .boolean) (by decide) (by decide))))
 exact Fini.ret0 X5 hx hlk Bd.returns (hb hby d39_14) (by decide) (by decide) ⟨rfl, N5, (by rw [e5]; exact Kp_8), (by rw [e5]; exact F_9)⟩
theorem pd_11 : parseMethodDescriptor "([Ljava/lang/Object;Z)V" = some ⟨[(.array (.object "java/lang/Object")), .boolean], none⟩ := by decide +kernel
theorem d38_0 : decode jdk_56_method_4_code 0 = .ok (.aload_n 0, 1) := by decide +kernel
theorem d38_1 : decode jdk_56_method_4_code 1 = .ok (.arraylength, 1) := by decide +kernel
theorem d38_2 : decode jdk_56_method_4_code 2 = .ok (.anewarray 2, 3) := by decide +kernel
theorem d38_5 : decode jdk_56_method_4_code 5 = .ok (.astore_n 1, 1) := by decide +kernel
theorem d38_6 : decode jdk_56_method_4_code 6 = .ok (.iconst 0, 1) := by decide +kernel
theorem d38_7 : decode jdk_56_method_4_code 7 = .ok (.istore_n 2, 1) := by decide +kernel
theorem d38_8 : decode jdk_56_method_4_code 8 = .ok (.iload_n 2, 1) := by decide +kernel
theorem d38_9 : decode jdk_56_method_4_code 9 = .ok (.aload_n 0, 1) := by decide +kernel
theorem d38_10 : decode jdk_56_method_4_code 10 = .ok (.arraylength, 1) := by decide +kernel
theorem d38_11 : decode jdk_56_method_4_code 11 = .ok (.if_icmp .ge 18, 3) := by decide +kernel
theorem d38_14 : decode jdk_56_method_4_code 14 = .ok (.aload_n 1, 1) := by decide +kernel
theorem d38_15 : decode jdk_56_method_4_code 15 = .ok (.iload_n 2, 1) := by decide +kernel
theorem d38_16 : decode jdk_56_method_4_code 16 = .ok (.aload_n 0, 1) := by decide +kernel
theorem d38_17 : decode jdk_56_method_4_code 17 = .ok (.iload_n 2, 1) := by decide +kernel
theorem d38_18 : decode jdk_56_method_4_code 18 = .ok (.aaload, 1) := by decide +kernel
theorem d38_19 : decode jdk_56_method_4_code 19 = .ok (.invokestatic 37, 3) := by decide +kernel
theorem d38_22 : decode jdk_56_method_4_code 22 = .ok (.aastore, 1) := by decide +kernel
theorem d38_23 : decode jdk_56_method_4_code 23 = .ok (.iinc 2 1, 3) := by decide +kernel
theorem d38_26 : decode jdk_56_method_4_code 26 = .ok (.goto (-18), 3) := by decide +kernel
theorem d38_29 : decode jdk_56_method_4_code 29 = .ok (.new 12, 3) := by decide +kernel
theorem d38_32 : decode jdk_56_method_4_code 32 = .ok (.dup, 1) := by decide +kernel
theorem d38_33 : decode jdk_56_method_4_code 33 = .ok (.aload_n 1, 1) := by decide +kernel
theorem d38_34 : decode jdk_56_method_4_code 34 = .ok (.iconst 0, 1) := by decide +kernel
theorem d38_35 : decode jdk_56_method_4_code 35 = .ok (.invokespecial 43, 3) := by decide +kernel
theorem d38_38 : decode jdk_56_method_4_code 38 = .ok (.areturn, 1) := by decide +kernel
theorem pn_14 : plainName "java/util/ImmutableCollections" = true := by first | (simp [plainName, overriddenIn]; done) | decide +kernel
theorem ef38 (m : MethodId) (x0 : Addr) : entryFrame m #[(.ref x0)] 3 = mkF m 0 #[.val (.ref x0), .unset, .unset] [] := by first | (simp [entryFrame, mkF, argsToLocals, Value.category]; done) | rfl
set_option maxRecDepth 65536 in
set_option maxHeartbeats 40000000 in
theorem rm38 (l : Launch) (Z : State) (a0 : Array Value) (hw : ∀ d ∈ tables_1, d.before a0 Z = true) (ws : List Jvm.Cond) (o0 : Addr) (n : Int32) (t : Addr) (h0 : Heap) (n0 : Nat) (Z0 : n0 ≤ h0.size) (A_o0 : AryR Z h0 o0 "java/lang/Object" n (fun _ => .ref t)) (I_t : IsO Z h0 t) (hq3 : ¬ n < (3 : Int32)) (hq5 : ¬ (5 : Int32) < n) :
  Cmet l Z (⟨"java/util/ImmutableCollections", "listFromArray", "([Ljava/lang/Object;)Ljava/util/List;"⟩ : MethodName) jdk_56_method_4_code 3 (some (.object "java/util/List")) ws ({ frames := 5, cells := 2, slots := 7, locals := 63 } : Room) #[(.ref o0)] h0 (fun v h' L => ∃ q ar w, v = some (.ref q) ∧ Fr n0 L ∧ Keep h0 h' [] ∧ h0.size ≤ q ∧ n0 ≤ q ∧ h0.size ≤ ar ∧ Exa Z h' q "java/util/ImmutableCollections$ListN" ∧ Fld Z h' q "java/util/ImmutableCollections$ListN" "elements" "[Ljava/lang/Object;" (.ref ar) ∧ AryR Z h' ar "java/lang/Object" n w) := by
 refine MetFree.of_bodySF (plainFor_of_name pn_14) hisR ?_
 intro p e s m args below meth c s₁ Bd hml0 hP hK
 obtain ⟨rfl, hZ, hh⟩ := hP
 have hx := Bd.exec
 have hlk : meth.locks = false := BodyLoose.notSynchronized Bd
 have hby := Bd.bytes
 have hml : c.maxLocals = 3 := hml0
 have hown : s.vm.findClass "java/util/ImmutableCollections" = some m.cls := findClass_of_methodNamed Bd.named
 have hnm := (name_of_methodNamed Bd.named Bd.method).1
 have X0 : Stand p l e ({ frames := 5, cells := 2, slots := 7, locals := 63 } : Room) s m #[(.ref o0)] below meth c s₁ [] 0 0 := Stand.of_body Bd
 have e0 : s₁.heap = h0 := by rw [← hh, Bd.state]; rfl
 have N0 := Fr.nil n0
 have B29 : ∀ (T_29 : State) (h_29 : Heap) (locs : List Loc) (X_29 : Stand p l e ({ frames := 5, cells := 2, slots := 7, locals := 63 } : Room) s m #[(.ref o0)] below meth c T_29 locs 1 5) (e_29 : T_29.heap = h_29) (b1 : Addr) (z29_l2 : Int32) (z29_f_A_b1 : Nat → Value) (N_29 : Fr n0 locs) (H29_A_o0 : AryR Z h_29 o0 "java/lang/Object" n (fun _ => .ref t)) (H29_O_I_t : IsO Z h_29 t) (H29_Z : n0 ≤ h_29.size) (H29_K : Keep h0 h_29 []) (H29_A_b1 : AryR Z h_29 b1 "java/lang/Object" n z29_f_A_b1) (ne29_o0_b1 : o0 ≠ b1) (ge29_b1 : n0 ≤ b1) (sz29_b1 : h0.size ≤ b1), Fini p e below s (fun v h' L => ∃ q ar w, v = some (.ref q) ∧ Fr n0 L ∧ Keep h0 h' [] ∧ h0.size ≤ q ∧ n0 ≤ q ∧ h0.size ≤ ar ∧ Exa Z h' q "java/util/ImmutableCollections$ListN" ∧ Fld Z h' q "java/util/ImmutableCollections$ListN" "elements" "[Ljava/lang/Object;" (.ref ar) ∧ AryR Z h' ar "java/lang/Object" n w) (Room.cells ({ frames := 5, cells := 2, slots := 7, locals := 63 } : Room)) (Room.slots ({ frames := 5, cells := 2, slots := 7, locals := 63 } : Room)) T_29 (mkF m 29 #[vr o0, vr b1, vi z29_l2] []) := by
  intro T_29 h_29 locs  X_29 e_29  b1 z29_l2 z29_f_A_b1 N_29 H29_A_o0 H29_O_I_t H29_Z H29_K H29_A_b1 ne29_o0_b1 ge29_b1 sz29_b1
  obtain ⟨T35, h35, X35, e35, E35, A35, D35, -, st35⟩ := newO X_29 hx hZ hown (wq hw (i := 152) rfl) (wq hw (i := 302) rfl) (wq hw (i := 303) rfl) e_29 (g := (mkF m 29 #[vr o0, vr b1, vi z29_l2] [])) rfl (hb hby d38_29) (by decide) (by decide)
  obtain ⟨b35, g35⟩ : ∃ z, z = h_29.size := ⟨_, rfl⟩
  rw [← g35] at A35 D35 st35
  have ne_o0_b35 : o0 ≠ b35 := Nat.ne_of_lt (Nat.lt_of_lt_of_le H29_A_o0.lt (Nat.le_of_eq g35.symm))
  have ne_b1_b35 : b1 ≠ b35 := Nat.ne_of_lt (Nat.lt_of_lt_of_le H29_A_b1.lt (Nat.le_of_eq g35.symm))
  have ge_b35 : n0 ≤ b35 := Nat.le_trans H29_Z (Nat.le_of_eq g35.symm)
  have sz_b35 : h0.size ≤ b35 := Nat.le_trans H29_K.1 (Nat.le_of_eq g35.symm)
  have Fn35_elements : Fld Z h35 b35 "java/util/ImmutableCollections$ListN" "elements" "[Ljava/lang/Object;" .null := D35 (Or.inr (wq hw (i := 313) rfl)) (ty := (.array (.object "java/lang/Object"))) (by decide)
  have Fn35_allowNulls : Fld Z h35 b35 "java/util/ImmutableCollections$ListN" "allowNulls" "Z" (.int (0 : Int32)) := D35 (Or.inr (wq hw (i := 315) rfl)) (ty := .boolean) (by decide)
  refine Fini.st st35 ?_
  refine Fini.st (fun _ k => XS.dup X35.here hx rfl (hb hby d38_32) rfl rfl k) ?_
  refine fAN X35 hx hby d38_33 rfl rfl rfl ?_
  refine fC X35 hx hby d38_34 rfl ?_
  have Zs_37 : n0 ≤ h35.size := (Nat.le_trans H29_Z E35.1)
  obtain ⟨v36, T36, L36, X36, hQ36, st36⟩ := callNewN X35 hx hZ hown rfl (Cond.methodLinkNest_wide hZ (wq hw (i := 304) rfl) :) (wq hw (i := 305) rfl) (wq hw (i := 303) rfl) (wq hw (i := 307) rfl) (by decide) (rm39 l Z a0 hw [] b35 b1 h35 n0 Zs_37 A35 Fn35_elements Fn35_allowNulls ge_b35) e35 (W := 1) (by decide) (by decide) (by decide) (by decide) (g := (mkF m 35 #[vr o0, vr b1, vi z29_l2] [(.int (0 : Int32)), (.ref b1), (.ref b35), (.ref b35)])) rfl (by rw [hml]; rfl) (argsL := [(.ref b1), (.int (0 : Int32))]) (rest := [(.ref b35)]) rfl (lenOf pd_11 rfl) rfl (by show 2 * 0 + _ ≤ _; exact Nat.le_of_eq rfl) (hb hby d38_35)
  obtain ⟨rfl, Nq36, K36, Fe36⟩ := hQ36
  have N36 := Fr.app N_29 Nq36
  refine Fini.st st36 ?_
  show Fini _ _ _ _ _ _ _ T36 (mkF m 38 #[vr o0, vr b1, vi z29_l2] [(.ref b35)])
  have Kp_38 : Keep h0 T36.heap [] := (Keep.trans (Keep.ext H29_K E35) K36 (allS (P := fun x => x ∈ _ ∨ _ ≤ x) (Or.inr sz_b35) all0))
  have Ex_39 : Exa Z T36.heap b35 "java/util/ImmutableCollections$ListN" := (A35.keep K36)
  have Ar_40 : AryR Z T36.heap b1 "java/lang/Object" n z29_f_A_b1 := ((H29_A_b1.ext E35).keep K36 (ninS ne_b1_b35 nin0))
  exact Fini.retA X36 hx hlk Bd.returns rfl (hb hby d38_38) rfl rfl (by decide) (by decide) ⟨_, _, _, rfl, N36, Kp_38, sz_b35, ge_b35, sz29_b1, Ex_39, Fe36, Ar_40⟩
 show Fini p e below s (fun v h' L => ∃ q ar w, v = some (.ref q) ∧ Fr n0 L ∧ Keep h0 h' [] ∧ h0.size ≤ q ∧ n0 ≤ q ∧ h0.size ≤ ar ∧ Exa Z h' q "java/util/ImmutableCollections$ListN" ∧ Fld Z h' q "java/util/ImmutableCollections$ListN" "elements" "[Ljava/lang/Object;" (.ref ar) ∧ AryR Z h' ar "java/lang/Object" n w) _ _ s₁ (entryFrame m #[(.ref o0)] 3)
 refine Fini.cast (ef38 m o0) ?_
 show Fini _ _ _ _ _ _ _ s₁ (mkF m 0 #[vr o0, su, su] [])
 refine fAN X0 hx hby d38_0 rfl rfl rfl ?_
 show Fini _ _ _ _ _ _ _ s₁ (mkF m 1 #[vr o0, su, su] [(.ref o0)])
 refine Fini.st (fun _ k => A_o0.len X0 hx hZ e0 rfl rfl (hb hby d38_1) k) ?_
 show Fini _ _ _ _ _ _ _ s₁ (mkF m 2 #[vr o0, su, su] [(.int n)])
 obtain ⟨T1, h1, k1, X1, e1, E1, A1, O1, st1⟩ := newR X0 hx hZ hown (wq hw (i := 300) rfl) (wq hw (i := 95) rfl) e0 (g := (mkF m 2 #[vr o0, su, su] [(.int n)])) rfl (hb hby d38_2) rfl (own_nn3 hq3) (cap := 5) (own_cap5 hq5) (by decide) (by decide) (by decide)
 obtain ⟨b1, g1⟩ : ∃ z, z = h0.size := ⟨_, rfl⟩
 rw [← g1] at A1 st1
 have ne_o0_b1 : o0 ≠ b1 := Nat.ne_of_lt (Nat.lt_of_lt_of_le A_o0.lt (Nat.le_of_eq g1.symm))
 have ge_b1 : n0 ≤ b1 := Nat.le_trans Z0 (Nat.le_of_eq g1.symm)
 have sz_b1 : h0.size ≤ b1 := Nat.le_trans (Keep.refl h0 []).1 (Nat.le_of_eq g1.symm)
 have Ar1 : AryR Z h1 b1 "java/lang/Object" n (fun _ => .null) := AryR.new A1 O1 (own_nn3 hq3)
 refine Fini.st st1 ?_
 show Fini _ _ _ _ _ _ _ T1 (mkF m 5 #[vr o0, su, su] [(.ref b1)])
 refine Fini.st (fun _ k => XS.astoreN X1.here hx rfl (hb hby d38_5) rfl rfl (l' := #[vr o0, vr b1, su]) rfl k) ?_
 refine fC X1 hx hby d38_6 rfl ?_
 refine Fini.st (fun _ k => XS.istoreN X1.here hx rfl (hb hby d38_7) rfl (l' := #[vr o0, vr b1, vi (0 : Int32)]) rfl k) ?_
 refine fIN X1 hx hby d38_8 rfl rfl ?_
 refine fAN X1 hx hby d38_9 rfl rfl rfl ?_
 show Fini _ _ _ _ _ _ _ T1 (mkF m 10 #[vr o0, vr b1, vi (0 : Int32)] [(.ref o0), (.int (0 : Int32))])
 have Ar_2 : AryR Z h1 o0 "java/lang/Object" n (fun _ => .ref t) := (A_o0.ext E1)
 refine Fini.st (fun _ k => Ar_2.len X1 hx hZ e1 rfl rfl (hb hby d38_10) k) ?_
 show Fini _ _ _ _ _ _ _ T1 (mkF m 11 #[vr o0, vr b1, vi (0 : Int32)] [(.int n), (.int (0 : Int32))])
 refine Fini.st (fun _ k => XS.icmpNo X1.here hx rfl (hb hby d38_11) rfl (XT.ii_ge_f (own_lt3 (0 : Int32) hq3 (by decide))) k) ?_
 refine fAN X1 hx hby d38_14 rfl rfl rfl ?_
 refine fIN X1 hx hby d38_15 rfl rfl ?_
 refine fAN X1 hx hby d38_16 rfl rfl rfl ?_
 refine fIN X1 hx hby d38_17 rfl rfl ?_
 show Fini _ _ _ _ _ _ _ T1 (mkF m 18 #[vr o0, vr b1, vi (0 : Int32)] [(.int (0 : Int32)), (.ref o0), (.int (0 : Int32)), (.ref b1)])
 refine Fini.st (fun _ k => Ar_2.load X1 hx hZ e1 ⟨by decide, (own_lt3 (0 : Int32) hq3 (by decide))⟩ rfl rfl (hb hby d38_18) k) ?_
 show Fini _ _ _ _ _ _ _ T1 (mkF m 19 #[vr o0, vr b1, vi (0 : Int32)] [(.ref t), (.int (0 : Int32)), (.ref b1)])
 have Zs_4 : n0 ≤ h1.size := (Nat.le_trans Z0 E1.1)
 obtain ⟨v3, T3, L3, X3, hQ3, st3⟩ := callQ X1 hx hZ hown (wq hw (i := 301) rfl) (wq hw (i := 217) rfl) (wq hw (i := 121) rfl) (wq hw (i := 218) rfl) (by decide) (rm29 l Z a0 hw [] t h1 n0 Zs_4) e1 (W := 2) (by decide) (by decide) (by decide) (by decide) (g := (mkF m 19 #[vr o0, vr b1, vi (0 : Int32)] [(.ref t), (.int (0 : Int32)), (.ref b1)])) rfl (by rw [hml]; rfl) (argsL := [(.ref t)]) (rest := [(.int (0 : Int32)), (.ref b1)]) rfl (lenOf pd_10 rfl) rfl (by show 2 * 0 + _ ≤ _; exact Nat.le_of_eq rfl) (hb hby d38_19)
 obtain ⟨rfl, hh3, rfl⟩ := hQ3
 have K3 : Keep h1 T3.heap [] := by rw [hh3]; exact Keep.refl _ _
 have Nq3 := Fr.nil n0
 have N3 := Fr.app N0 Nq3
 refine Fini.st st3 ?_
 show Fini _ _ _ _ _ _ _ T3 (mkF m 22 #[vr o0, vr b1, vi (0 : Int32)] [(.ref t), (.int (0 : Int32)), (.ref b1)])
 have Ar_5 : AryR Z T3.heap b1 "java/lang/Object" n (fun _ => .null) := (Ar1.keep K3 nin0)
 have Of_7 : IsO Z T3.heap t := ((I_t.ext E1).keep K3 trivial)
 obtain ⟨T6, h6, X6, e6, W6, Ar6, st6⟩ := Ar_5.st X3 hx hZ rfl ⟨by decide, (own_lt3 (0 : Int32) hq3 (by decide))⟩ (Or.inr ⟨_, rfl, Of_7⟩) (g := (mkF m 22 #[vr o0, vr b1, vi (0 : Int32)] [(.ref t), (.int (0 : Int32)), (.ref b1)])) rfl rfl (hb hby d38_22)
 refine Fini.st st6 ?_
 have N6 := Fr.snoc X6 N3 ge_b1
 show Fini _ _ _ _ _ _ _ T6 (mkF m 23 #[vr o0, vr b1, vi (0 : Int32)] [])
 refine Fini.st (fun _ k => XS.iinc X6.here hx rfl (hb hby d38_23) rfl (l' := #[vr o0, vr b1, vi (1 : Int32)]) rfl k) ?_
 refine Fini.st (fun _ k => XS.goto X6.here hx rfl (pc0 := 26) (pc' := 8) rfl (hb hby d38_26) (by decide) (by decide) k) ?_
 refine fIN X6 hx hby d38_8 rfl rfl ?_
 refine fAN X6 hx hby d38_9 rfl rfl rfl ?_
 show Fini _ _ _ _ _ _ _ T6 (mkF m 10 #[vr o0, vr b1, vi (1 : Int32)] [(.ref o0), (.int (1 : Int32))])
 have Ar_8 : AryR Z h6 o0 "java/lang/Object" n (fun _ => .ref t) := ((Ar_2.keep K3 nin0).other W6 ne_o0_b1)
 refine Fini.st (fun _ k => Ar_8.len X6 hx hZ e6 rfl rfl (hb hby d38_10) k) ?_
 show Fini _ _ _ _ _ _ _ T6 (mkF m 11 #[vr o0, vr b1, vi (1 : Int32)] [(.int n), (.int (1 : Int32))])
 refine Fini.st (fun _ k => XS.icmpNo X6.here hx rfl (hb hby d38_11) rfl (XT.ii_ge_f (own_lt3 (1 : Int32) hq3 (by decide))) k) ?_
 refine fAN X6 hx hby d38_14 rfl rfl rfl ?_
 refine fIN X6 hx hby d38_15 rfl rfl ?_
 refine fAN X6 hx hby d38_16 rfl rfl rfl ?_
 refine fIN X6 hx hby d38_17 rfl rfl ?_
 show Fini _ _ _ _ _ _ _ T6 (mkF m 18 #[vr o0, vr b1, vi (1 : Int32)] [(.int (1 : Int32)), (.ref o0), (.int (1 : Int32)), (.ref b1)])
 refine Fini.st (fun _ k => Ar_8.load X6 hx hZ e6 ⟨by decide, (own_lt3 (1 : Int32) hq3 (by decide))⟩ rfl rfl (hb hby d38_18) k) ?_
 show Fini _ _ _ _ _ _ _ T6 (mkF m 19 #[vr o0, vr b1, vi (1 : Int32)] [(.ref t), (.int (1 : Int32)), (.ref b1)])
 have Zs_10 : n0 ≤ h6.size := (Nat.le_trans (Nat.le_trans Zs_4 K3.1) (Nat.le_of_eq W6.size.symm))
 obtain ⟨v9, T9, L9, X9, hQ9, st9⟩ := callQ X6 hx hZ hown (wq hw (i := 301) rfl) (wq hw (i := 217) rfl) (wq hw (i := 121) rfl) (wq hw (i := 218) rfl) (by decide) (rm29 l Z a0 hw [] t h6 n0 Zs_10) e6 (W := 2) (by decide) (by decide) (by decide) (by decide) (g := (mkF m 19 #[vr o0, vr b1, vi (1 : Int32)] [(.ref t), (.int (1 : Int32)), (.ref b1)])) rfl (by rw [hml]; rfl) (argsL := [(.ref t)]) (rest := [(.int (1 : Int32)), (.ref b1)]) rfl (lenOf pd_10 rfl) rfl (by show 2 * 0 + _ ≤ _; exact Nat.le_of_eq rfl) (hb hby d38_19)
 obtain ⟨rfl, hh9, rfl⟩ := hQ9
 have K9 : Keep h6 T9.heap [] := by rw [hh9]; exact Keep.refl _ _
 have Nq9 := Fr.nil n0
 have N9 := Fr.app N6 Nq9
 refine Fini.st st9 ?_
 show Fini _ _ _ _ _ _ _ T9 (mkF m 22 #[vr o0, vr b1, vi (1 : Int32)] [(.ref t), (.int (1 : Int32)), (.ref b1)])
 have Ar_11 : AryR Z T9.heap b1 "java/lang/Object" n (upd (fun _ => .null) 0 (.ref t)) := (Ar6.keep K9 nin0)
 have Of_13 : IsO Z T9.heap t := ((Of_7.wrO W6).keep K9 trivial)
 obtain ⟨T12, h12, X12, e12, W12, Ar12, st12⟩ := Ar_11.st X9 hx hZ rfl ⟨by decide, (own_lt3 (1 : Int32) hq3 (by decide))⟩ (Or.inr ⟨_, rfl, Of_13⟩) (g := (mkF m 22 #[vr o0, vr b1, vi (1 : Int32)] [(.ref t), (.int (1 : Int32)), (.ref b1)])) rfl rfl (hb hby d38_22)
 refine Fini.st st12 ?_
 have N12 := Fr.snoc X12 N9 ge_b1
 show Fini _ _ _ _ _ _ _ T12 (mkF m 23 #[vr o0, vr b1, vi (1 : Int32)] [])
 refine Fini.st (fun _ k => XS.iinc X12.here hx rfl (hb hby d38_23) rfl (l' := #[vr o0, vr b1, vi (2 : Int32)]) rfl k) ?_
 refine Fini.st (fun _ k => XS.goto X12.here hx rfl (pc0 := 26) (pc' := 8) rfl (hb hby d38_26) (by decide) (by decide) k) ?_
 refine fIN X12 hx hby d38_8 rfl rfl ?_
 refine fAN X12 hx hby d38_9 rfl rfl rfl ?_
 show Fini _ _ _ _ _ _ _ T12 (mkF m 10 #[vr o0, vr b1, vi (2 : Int32)] [(.ref o0), (.int (2 : Int32))])
 have Ar_14 : AryR Z h12 o0 "java/lang/Object" n (fun _ => .ref t) := ((Ar_8.keep K9 nin0).other W12 ne_o0_b1)
 refine Fini.st (fun _ k => Ar_14.len X12 hx hZ e12 rfl rfl (hb hby d38_10) k) ?_
 show Fini _ _ _ _ _ _ _ T12 (mkF m 11 #[vr o0, vr b1, vi (2 : Int32)] [(.int n), (.int (2 : Int32))])
 refine Fini.st (fun _ k => XS.icmpNo X12.here hx rfl (hb hby d38_11) rfl (XT.ii_ge_f (own_lt3 (2 : Int32) hq3 (by decide))) k) ?_
 refine fAN X12 hx hby d38_14 rfl rfl rfl ?_
 refine fIN X12 hx hby d38_15 rfl rfl ?_
 refine fAN X12 hx hby d38_16 rfl rfl rfl ?_
 refine fIN X12 hx hby d38_17 rfl rfl ?_
 show Fini _ _ _ _ _ _ _ T12 (mkF m 18 #[vr o0, vr b1, vi (2 : Int32)] [(.int (2 : Int32)), (.ref o0), (.int (2 : Int32)), (.ref b1)])
 refine Fini.st (fun _ k => Ar_14.load X12 hx hZ e12 ⟨by decide, (own_lt3 (2 : Int32) hq3 (by decide))⟩ rfl rfl (hb hby d38_18) k) ?_
 show Fini _ _ _ _ _ _ _ T12 (mkF m 19 #[vr o0, vr b1, vi (2 : Int32)] [(.ref t), (.int (2 : Int32)), (.ref b1)])
 have Zs_16 : n0 ≤ h12.size := (Nat.le_trans (Nat.le_trans Zs_10 K9.1) (Nat.le_of_eq W12.size.symm))
 obtain ⟨v15, T15, L15, X15, hQ15, st15⟩ := callQ X12 hx hZ hown (wq hw (i := 301) rfl) (wq hw (i := 217) rfl) (wq hw (i := 121) rfl) (wq hw (i := 218) rfl) (by decide) (rm29 l Z a0 hw [] t h12 n0 Zs_16) e12 (W := 2) (by decide) (by decide) (by decide) (by decide) (g := (mkF m 19 #[vr o0, vr b1, vi (2 : Int32)] [(.ref t), (.int (2 : Int32)), (.ref b1)])) rfl (by rw [hml]; rfl) (argsL := [(.ref t)]) (rest := [(.int (2 : Int32)), (.ref b1)]) rfl (lenOf pd_10 rfl) rfl (by show 2 * 0 + _ ≤ _; exact Nat.le_of_eq rfl) (hb hby d38_19)
 obtain ⟨rfl, hh15, rfl⟩ := hQ15
 have K15 : Keep h12 T15.heap [] := by rw [hh15]; exact Keep.refl _ _
 have Nq15 := Fr.nil n0
 have N15 := Fr.app N12 Nq15
 refine Fini.st st15 ?_
 show Fini _ _ _ _ _ _ _ T15 (mkF m 22 #[vr o0, vr b1, vi (2 : Int32)] [(.ref t), (.int (2 : Int32)), (.ref b1)])
 have Ar_17 : AryR Z T15.heap b1 "java/lang/Object" n (upd (upd (fun _ => .null) 0 (.ref t)) 1 (.ref t)) := (Ar12.keep K15 nin0)
 have Of_19 : IsO Z T15.heap t := ((Of_13.wrO W12).keep K15 trivial)
 obtain ⟨T18, h18, X18, e18, W18, Ar18, st18⟩ := Ar_17.st X15 hx hZ rfl ⟨by decide, (own_lt3 (2 : Int32) hq3 (by decide))⟩ (Or.inr ⟨_, rfl, Of_19⟩) (g := (mkF m 22 #[vr o0, vr b1, vi (2 : Int32)] [(.ref t), (.int (2 : Int32)), (.ref b1)])) rfl rfl (hb hby d38_22)
 refine Fini.st st18 ?_
 have N18 := Fr.snoc X18 N15 ge_b1
 show Fini _ _ _ _ _ _ _ T18 (mkF m 23 #[vr o0, vr b1, vi (2 : Int32)] [])
 refine Fini.st (fun _ k => XS.iinc X18.here hx rfl (hb hby d38_23) rfl (l' := #[vr o0, vr b1, vi (3 : Int32)]) rfl k) ?_
 refine Fini.st (fun _ k => XS.goto X18.here hx rfl (pc0 := 26) (pc' := 8) rfl (hb hby d38_26) (by decide) (by decide) k) ?_
 refine fIN X18 hx hby d38_8 rfl rfl ?_
 refine fAN X18 hx hby d38_9 rfl rfl rfl ?_
 show Fini _ _ _ _ _ _ _ T18 (mkF m 10 #[vr o0, vr b1, vi (3 : Int32)] [(.ref o0), (.int (3 : Int32))])
 have Ar_20 : AryR Z h18 o0 "java/lang/Object" n (fun _ => .ref t) := ((Ar_14.keep K15 nin0).other W18 ne_o0_b1)
 refine Fini.st (fun _ k => Ar_20.len X18 hx hZ e18 rfl rfl (hb hby d38_10) k) ?_
 show Fini _ _ _ _ _ _ _ T18 (mkF m 11 #[vr o0, vr b1, vi (3 : Int32)] [(.int n), (.int (3 : Int32))])
 by_cases c21 : (3 : Int32) < n
 ·
  refine Fini.st (fun _ k => XS.icmpNo X18.here hx rfl (hb hby d38_11) rfl (XT.ii_ge_f c21) k) ?_
  refine fAN X18 hx hby d38_14 rfl rfl rfl ?_
  refine fIN X18 hx hby d38_15 rfl rfl ?_
  refine fAN X18 hx hby d38_16 rfl rfl rfl ?_
  refine fIN X18 hx hby d38_17 rfl rfl ?_
  show Fini _ _ _ _ _ _ _ T18 (mkF m 18 #[vr o0, vr b1, vi (3 : Int32)] [(.int (3 : Int32)), (.ref o0), (.int (3 : Int32)), (.ref b1)])
  refine Fini.st (fun _ k => Ar_20.load X18 hx hZ e18 ⟨by decide, c21⟩ rfl rfl (hb hby d38_18) k) ?_
  show Fini _ _ _ _ _ _ _ T18 (mkF m 19 #[vr o0, vr b1, vi (3 : Int32)] [(.ref t), (.int (3 : Int32)), (.ref b1)])
  have Zs_23 : n0 ≤ h18.size := (Nat.le_trans (Nat.le_trans Zs_16 K15.1) (Nat.le_of_eq W18.size.symm))
  obtain ⟨v22, T22, L22, X22, hQ22, st22⟩ := callQ X18 hx hZ hown (wq hw (i := 301) rfl) (wq hw (i := 217) rfl) (wq hw (i := 121) rfl) (wq hw (i := 218) rfl) (by decide) (rm29 l Z a0 hw [] t h18 n0 Zs_23) e18 (W := 2) (by decide) (by decide) (by decide) (by decide) (g := (mkF m 19 #[vr o0, vr b1, vi (3 : Int32)] [(.ref t), (.int (3 : Int32)), (.ref b1)])) rfl (by rw [hml]; rfl) (argsL := [(.ref t)]) (rest := [(.int (3 : Int32)), (.ref b1)]) rfl (lenOf pd_10 rfl) rfl (by show 2 * 0 + _ ≤ _; exact Nat.le_of_eq rfl) (hb hby d38_19)
  obtain ⟨rfl, hh22, rfl⟩ := hQ22
  have K22 : Keep h18 T22.heap [] := by rw [hh22]; exact Keep.refl _ _
  have Nq22 := Fr.nil n0
  have N22 := Fr.app N18 Nq22
  refine Fini.st st22 ?_
  show Fini _ _ _ _ _ _ _ T22 (mkF m 22 #[vr o0, vr b1, vi (3 : Int32)] [(.ref t), (.int (3 : Int32)), (.ref b1)])
  have Ar_24 : AryR Z T22.heap b1 "java/lang/Object" n (upd (upd (upd (fun _ => .null) 0 (.ref t)) 1 (.ref t)) 2 (.ref t)) := (Ar18.keep K22 nin0)
  have Of_26 : IsO Z T22.heap t := ((Of_19.wrO W18).keep K22 trivial)
  obtain ⟨T25, h25, X25, e25, W25, Ar25, st25⟩ := Ar_24.st X22 hx hZ rfl ⟨by decide, c21⟩ (Or.inr ⟨_, rfl, Of_26⟩) (g := (mkF m 22 #[vr o0, vr b1, vi (3 : Int32)] [(.ref t), (.int (3 : Int32)), (.ref b1)])) rfl rfl (hb hby d38_22)
  refine Fini.st st25 ?_
  have N25 := Fr.snoc X25 N22 ge_b1
  show Fini _ _ _ _ _ _ _ T25 (mkF m 23 #[vr o0, vr b1, vi (3 : Int32)] [])
  refine Fini.st (fun _ k => XS.iinc X25.here hx rfl (hb hby d38_23) rfl (l' := #[vr o0, vr b1, vi (4 : Int32)]) rfl k) ?_
  refine Fini.st (fun _ k => XS.goto X25.here hx rfl (pc0 := 26) (pc' := 8) rfl (hb hby d38_26) (by decide) (by decide) k) ?_
  refine fIN X25 hx hby d38_8 rfl rfl ?_
  refine fAN X25 hx hby d38_9 rfl rfl rfl ?_
  show Fini _ _ _ _ _ _ _ T25 (mkF m 10 #[vr o0, vr b1, vi (4 : Int32)] [(.ref o0), (.int (4 : Int32))])
  have Ar_27 : AryR Z h25 o0 "java/lang/Object" n (fun _ => .ref t) := ((Ar_20.keep K22 nin0).other W25 ne_o0_b1)
  refine Fini.st (fun _ k => Ar_27.len X25 hx hZ e25 rfl rfl (hb hby d38_10) k) ?_
  show Fini _ _ _ _ _ _ _ T25 (mkF m 11 #[vr o0, vr b1, vi (4 : Int32)] [(.int n), (.int (4 : Int32))])
  by_cases c28 : (4 : Int32) < n
  ·
   refine Fini.st (fun _ k => XS.icmpNo X25.here hx rfl (hb hby d38_11) rfl (XT.ii_ge_f c28) k) ?_
   refine fAN X25 hx hby d38_14 rfl rfl rfl ?_
   refine fIN X25 hx hby d38_15 rfl rfl ?_
   refine fAN X25 hx hby d38_16 rfl rfl rfl ?_
   refine fIN X25 hx hby d38_17 rfl rfl ?_
   show Fini _ _ _ _ _ _ _ T25 (mkF m 18 #[vr o0, vr b1, vi (4 : Int32)] [(.int (4 : Int32)), (.ref o0), (.int (4 : Int32)), (.ref b1)])
   refine Fini.st (fun _ k => Ar_27.load X25 hx hZ e25 ⟨by decide, c28⟩ rfl rfl (hb hby d38_18) k) ?_
   show Fini _ _ _ _ _ _ _ T25 (mkF m 19 #[vr o0, vr b1, vi (4 : Int32)] [(.ref t), (.int (4 : Int32)), (.ref b1)])
   have Zs_30 : n0 ≤ h25.size := (Nat.le_trans (Nat.le_trans Zs_23 K22.1) (Nat.le_of_eq W25.size.symm))
   obtain ⟨v29, T29, L29, X29, hQ29, st29⟩ := callQ X25 hx hZ hown (wq hw (i := 301) rfl) (wq hw (i := 217) rfl) (wq hw (i := 121) rfl) (wq hw (i := 218) rfl) (by decide) (rm29 l Z a0 hw [] t h25 n0 Zs_30) e25 (W := 2) (by decide) (by decide) (by decide) (by decide) (g := (mkF m 19 #[vr o0, vr b1, vi (4 : Int32)] [(.ref t), (.int (4 : Int32)), (.ref b1)])) rfl (by rw [hml]; rfl) (argsL := [(.ref t)]) (rest := [(.int (4 : Int32)), (.ref b1)]) rfl (lenOf pd_10 rfl) rfl (by show 2 * 0 + _ ≤ _; exact Nat.le_of_eq rfl) (hb hby d38_19)
   obtain ⟨rfl, hh29, rfl⟩ := hQ29
   have K29 : Keep h25 T29.heap [] := by rw [hh29]; exact Keep.refl _ _
   have Nq29 := Fr.nil n0
   have N29 := Fr.app N25 Nq29
   refine Fini.st st29 ?_
   show Fini _ _ _ _ _ _ _ T29 (mkF m 22 #[vr o0, vr b1, vi (4 : Int32)] [(.ref t), (.int (4 : Int32)), (.ref b1)])
   have Ar_31 : AryR Z T29.heap b1 "java/lang/Object" n (upd (upd (upd (upd (fun _ => .null) 0 (.ref t)) 1 (.ref t)) 2 (.ref t)) 3 (.ref t)) := (Ar25.keep K29 nin0)
   have Of_33 : IsO Z T29.heap t := ((Of_26.wrO W25).keep K29 trivial)
   obtain ⟨T32, h32, X32, e32, W32, Ar32, st32⟩ := Ar_31.st X29 hx hZ rfl ⟨by decide, c28⟩ (Or.inr ⟨_, rfl, Of_33⟩) (g := (mkF m 22 #[vr o0, vr b1, vi (4 : Int32)] [(.ref t), (.int (4 : Int32)), (.ref b1)])) rfl rfl (hb hby d38_22)
   refine Fini.st st32 ?_
   have N32 := Fr.snoc X32 N29 ge_b1
   show Fini _ _ _ _ _ _ _ T32 (mkF m 23 #[vr o0, vr b1, vi (4 : Int32)] [])
   refine Fini.st (fun _ k => XS.iinc X32.here hx rfl (hb hby d38_23) rfl (l' := #[vr o0, vr b1, vi (5 : Int32)]) rfl k) ?_
   refine Fini.st (fun _ k => XS.goto X32.here hx rfl (pc0 := 26) (pc' := 8) rfl (hb hby d38_26) (by decide) (by decide) k) ?_
   refine fIN X32 hx hby d38_8 rfl rfl ?_
   refine fAN X32 hx hby d38_9 rfl rfl rfl ?_
   show Fini _ _ _ _ _ _ _ T32 (mkF m 10 #[vr o0, vr b1, vi (5 : Int32)] [(.ref o0), (.int (5 : Int32))])
   have Ar_34 : AryR Z h32 o0 "java/lang/Object" n (fun _ => .ref t) := ((Ar_27.keep K29 nin0).other W32 ne_o0_b1)
   refine Fini.st (fun _ k => Ar_34.len X32 hx hZ e32 rfl rfl (hb hby d38_10) k) ?_
   show Fini _ _ _ _ _ _ _ T32 (mkF m 11 #[vr o0, vr b1, vi (5 : Int32)] [(.int n), (.int (5 : Int32))])
   refine Fini.st (fun _ k => XS.icmpYes X32.here hx rfl (pc0 := 11) (pc' := 29) rfl (hb hby d38_11) rfl (XT.ii_ge_t hq5) (by decide) (by decide) k) ?_
   show Fini _ _ _ _ _ _ _ T32 (mkF m 29 #[vr o0, vr b1, vi (5 : Int32)] [])
   have Of_41 : IsO Z h32 t := (Of_33.wrO W32)
   have Zs_42 : n0 ≤ h32.size := (Nat.le_trans (Nat.le_trans Zs_30 K29.1) (Nat.le_of_eq W32.size.symm))
   have Kp_43 : Keep h0 h32 [] := (Keep.wr (Keep.trans (Keep.wr (Keep.trans (Keep.wr (Keep.trans (Keep.wr (Keep.trans (Keep.wr (Keep.trans (Keep.ext (Keep.refl h0 []) E1) K3 all0) W6 (Or.inr sz_b1)) K9 all0) W12 (Or.inr sz_b1)) K15 all0) W18 (Or.inr sz_b1)) K22 all0) W25 (Or.inr sz_b1)) K29 all0) W32 (Or.inr sz_b1))
   exact B29 T32 _ _ (X32.more (cells' := 1) (slots' := 5) (by decide) (by decide)) e32 b1 (5 : Int32) (upd (upd (upd (upd (upd (fun _ => .null) 0 (.ref t)) 1 (.ref t)) 2 (.ref t)) 3 (.ref t)) 4 (.ref t)) N32 Ar_34 Of_41 Zs_42 Kp_43 Ar32 ne_o0_b1 ge_b1 sz_b1
  ·
   refine Fini.st (fun _ k => XS.icmpYes X25.here hx rfl (pc0 := 11) (pc' := 29) rfl (hb hby d38_11) rfl (XT.ii_ge_t c28) (by decide) (by decide) k) ?_
   show Fini _ _ _ _ _ _ _ T25 (mkF m 29 #[vr o0, vr b1, vi (4 : Int32)] [])
   have Of_44 : IsO Z h25 t := (Of_26.wrO W25)
   have Zs_45 : n0 ≤ h25.size := (Nat.le_trans (Nat.le_trans Zs_23 K22.1) (Nat.le_of_eq W25.size.symm))
   have Kp_46 : Keep h0 h25 [] := (Keep.wr (Keep.trans (Keep.wr (Keep.trans (Keep.wr (Keep.trans (Keep.wr (Keep.trans (Keep.ext (Keep.refl h0 []) E1) K3 all0) W6 (Or.inr sz_b1)) K9 all0) W12 (Or.inr sz_b1)) K15 all0) W18 (Or.inr sz_b1)) K22 all0) W25 (Or.inr sz_b1))
   exact B29 T25 _ _ (X25.more (cells' := 1) (slots' := 5) (by decide) (by decide)) e25 b1 (4 : Int32) (upd (upd (upd (upd (fun _ => .null) 0 (.ref t)) 1 (.ref t)) 2 (.ref t)) 3 (.ref t)) N25 Ar_27 Of_44 Zs_45 Kp_46 Ar25 ne_o0_b1 ge_b1 sz_b1
 ·
  refine Fini.st (fun _ k => XS.icmpYes X18.here hx rfl (pc0 := 11) (pc' := 29) rfl (hb hby d38_11) rfl (XT.ii_ge_t c21) (by decide) (by decide) k) ?_
  show Fini _ _ _ _ _ _ _ T18 (mkF m 29 #[vr o0, vr b1, vi (3 : Int32)] [])
  have Of_47 : IsO Z h18 t := (Of_19.wrO W18)
  have Zs_48 : n0 ≤ h18.size := (Nat.le_trans (Nat.le_trans Zs_16 K15.1) (Nat.le_of_eq W18.size.symm))
  have Kp_49 : Keep h0 h18 [] := (Keep.wr (Keep.trans (Keep.wr (Keep.trans (Keep.wr (Keep.trans (Keep.ext (Keep.refl h0 []) E1) K3 all0) W6 (Or.inr sz_b1)) K9 all0) W12 (Or.inr sz_b1)) K15 all0) W18 (Or.inr sz_b1))
  exact B29 T18 _ _ (X18.more (cells' := 1) (slots' := 5) (by decide) (by decide)) e18 b1 (3 : Int32) (upd (upd (upd (fun _ => .null) 0 (.ref t)) 1 (.ref t)) 2 (.ref t)) N18 Ar_20 Of_47 Zs_48 Kp_49 Ar18 ne_o0_b1 ge_b1 sz_b1
theorem pd_12 : parseMethodDescriptor "(Ljava/lang/Object;)V" = some ⟨[(.object "java/lang/Object")], none⟩ := by decide +kernel
theorem pd_13 : parseMethodDescriptor "(Ljava/lang/Object;Ljava/lang/Object;)V" = some ⟨[(.object "java/lang/Object"), (.object "java/lang/Object")], none⟩ := by decide +kernel
theorem pd_14 : parseMethodDescriptor "([Ljava/lang/Object;)Ljava/util/List;" = some ⟨[(.array (.object "java/lang/Object"))], some (.object "java/util/List")⟩ := by decide +kernel
theorem d25_0 : decode jdk_40_method_47_code 0 = .ok (.aload_n 0, 1) := by decide +kernel
theorem d25_1 : decode jdk_40_method_47_code 1 = .ok (.arraylength, 1) := by decide +kernel
theorem d25_2 : decode jdk_40_method_47_code 2 = .ok (.tableswitch 57 0 2 #[26, 32, 43], 26) := by decide +kernel
theorem d25_34 : decode jdk_40_method_47_code 34 = .ok (.new 96, 3) := by decide +kernel
theorem d25_37 : decode jdk_40_method_47_code 37 = .ok (.dup, 1) := by decide +kernel
theorem d25_38 : decode jdk_40_method_47_code 38 = .ok (.aload_n 0, 1) := by decide +kernel
theorem d25_39 : decode jdk_40_method_47_code 39 = .ok (.iconst 0, 1) := by decide +kernel
theorem d25_40 : decode jdk_40_method_47_code 40 = .ok (.aaload, 1) := by decide +kernel
theorem d25_41 : decode jdk_40_method_47_code 41 = .ok (.invokespecial 98, 3) := by decide +kernel
theorem d25_44 : decode jdk_40_method_47_code 44 = .ok (.areturn, 1) := by decide +kernel
theorem d25_45 : decode jdk_40_method_47_code 45 = .ok (.new 96, 3) := by decide +kernel
theorem d25_48 : decode jdk_40_method_47_code 48 = .ok (.dup, 1) := by decide +kernel
theorem d25_49 : decode jdk_40_method_47_code 49 = .ok (.aload_n 0, 1) := by decide +kernel
theorem d25_50 : decode jdk_40_method_47_code 50 = .ok (.iconst 0, 1) := by decide +kernel
theorem d25_51 : decode jdk_40_method_47_code 51 = .ok (.aaload, 1) := by decide +kernel
theorem d25_52 : decode jdk_40_method_47_code 52 = .ok (.aload_n 0, 1) := by decide +kernel
theorem d25_53 : decode jdk_40_method_47_code 53 = .ok (.iconst 1, 1) := by decide +kernel
theorem d25_54 : decode jdk_40_method_47_code 54 = .ok (.aaload, 1) := by decide +kernel
theorem d25_55 : decode jdk_40_method_47_code 55 = .ok (.invokespecial 100, 3) := by decide +kernel
theorem d25_58 : decode jdk_40_method_47_code 58 = .ok (.areturn, 1) := by decide +kernel
theorem d25_59 : decode jdk_40_method_47_code 59 = .ok (.aload_n 0, 1) := by decide +kernel
theorem d25_60 : decode jdk_40_method_47_code 60 = .ok (.invokestatic 109, 3) := by decide +kernel
theorem d25_63 : decode jdk_40_method_47_code 63 = .ok (.areturn, 1) := by decide +kernel
theorem pn_15 : plainName "java/util/List" = true := by first | (simp [plainName, overriddenIn]; done) | decide +kernel
theorem ef25 (m : MethodId) (x0 : Addr) : entryFrame m #[(.ref x0)] 2 = mkF m 0 #[.val (.ref x0), .unset] [] := by first | (simp [entryFrame, mkF, argsToLocals, Value.category]; done) | rfl
set_option maxRecDepth 65536 in
set_option maxHeartbeats 40000000 in
theorem rm25 (l : Launch) (Z : State) (a0 : Array Value) (hw : ∀ d ∈ tables_1, d.before a0 Z = true) (ws : List Jvm.Cond) (o0 : Addr) (n : Int32) (t : Addr) (em : Addr) (h0 : Heap) (n0 : Nat) (Z0 : n0 ≤ h0.size) (A_o0 : AryR Z h0 o0 "java/lang/Object" n (fun _ => .ref t)) (I_t : IsO Z h0 t) (D0 : Old Z n0 h0) (S_em : Sta Z Z.heap "java/util/ImmutableCollections" "EMPTY" "Ljava/lang/Object;" (.ref em)) (hq1 : ¬ n < (0 : Int32)) (hn0 : ¬ n = 0) (hq5 : ¬ (5 : Int32) < n) :
  Cmet l Z (⟨"java/util/List", "of", "([Ljava/lang/Object;)Ljava/util/List;"⟩ : MethodName) jdk_40_method_47_code 2 (some (.object "java/util/List")) ws ({ frames := 6, cells := 2, slots := 7, locals := 77 } : Room) #[(.ref o0)] h0 (fun v h' L => ∃ q, v = some (.ref q) ∧ Fr n0 L ∧ Keep h0 h' [] ∧ h0.size ≤ q ∧ n0 ≤ q ∧ ILs Z h' h0.size em t q n) := by
 refine MetFree.of_bodySF (plainFor_of_name pn_15) hisR ?_
 intro p e s m args below meth c s₁ Bd hml0 hP hK
 obtain ⟨rfl, hZ, hh⟩ := hP
 have hx := Bd.exec
 have hlk : meth.locks = false := BodyLoose.notSynchronized Bd
 have hby := Bd.bytes
 have hml : c.maxLocals = 2 := hml0
 have hown : s.vm.findClass "java/util/List" = some m.cls := findClass_of_methodNamed Bd.named
 have hnm := (name_of_methodNamed Bd.named Bd.method).1
 have X0 : Stand p l e ({ frames := 6, cells := 2, slots := 7, locals := 77 } : Room) s m #[(.ref o0)] below meth c s₁ [] 0 0 := Stand.of_body Bd
 have e0 : s₁.heap = h0 := by rw [← hh, Bd.state]; rfl
 have N0 := Fr.nil n0
 show Fini p e below s (fun v h' L => ∃ q, v = some (.ref q) ∧ Fr n0 L ∧ Keep h0 h' [] ∧ h0.size ≤ q ∧ n0 ≤ q ∧ ILs Z h' h0.size em t q n) _ _ s₁ (entryFrame m #[(.ref o0)] 2)
 refine Fini.cast (ef25 m o0) ?_
 show Fini _ _ _ _ _ _ _ s₁ (mkF m 0 #[vr o0, su] [])
 refine fAN X0 hx hby d25_0 rfl rfl rfl ?_
 show Fini _ _ _ _ _ _ _ s₁ (mkF m 1 #[vr o0, su] [(.ref o0)])
 refine Fini.st (fun _ k => A_o0.len X0 hx hZ e0 rfl rfl (hb hby d25_1) k) ?_
 show Fini _ _ _ _ _ _ _ s₁ (mkF m 2 #[vr o0, su] [(.int n)])
 rcases own_n5 hq1 hn0 with hn3 | hn3 | hn3
 ·
  subst hn3
  refine Fini.st (fun _ k => XS.tswIn X0.here hx rfl (pc0 := 2) (pc' := 34) rfl (hb hby d25_2) rfl (by decide) rfl (by decide) (by decide) k) ?_
  show Fini _ _ _ _ _ _ _ s₁ (mkF m 34 #[vr o0, su] [])
  obtain ⟨T1, h1, X1, e1, E1, A1, D1, -, st1⟩ := newO X0 hx hZ hown (wq hw (i := 195) rfl) (wq hw (i := 196) rfl) (wq hw (i := 197) rfl) e0 (g := (mkF m 34 #[vr o0, su] [])) rfl (hb hby d25_34) (by decide) (by decide)
  obtain ⟨b1, g1⟩ : ∃ z, z = h0.size := ⟨_, rfl⟩
  rw [← g1] at A1 D1 st1
  have ne_o0_b1 : o0 ≠ b1 := Nat.ne_of_lt (Nat.lt_of_lt_of_le A_o0.lt (Nat.le_of_eq g1.symm))
  have ge_b1 : n0 ≤ b1 := Nat.le_trans Z0 (Nat.le_of_eq g1.symm)
  have sz_b1 : h0.size ≤ b1 := Nat.le_trans (Keep.refl h0 []).1 (Nat.le_of_eq g1.symm)
  have Fn1_e0 : Fld Z h1 b1 "java/util/ImmutableCollections$List12" "e0" "Ljava/lang/Object;" .null := D1 (Or.inr (wq hw (i := 220) rfl)) (ty := (.object "java/lang/Object")) (by decide)
  have Fn1_e1 : Fld Z h1 b1 "java/util/ImmutableCollections$List12" "e1" "Ljava/lang/Object;" .null := D1 (Or.inr (wq hw (i := 223) rfl)) (ty := (.object "java/lang/Object")) (by decide)
  refine Fini.st st1 ?_
  refine Fini.st (fun _ k => XS.dup X1.here hx rfl (hb hby d25_37) rfl rfl k) ?_
  refine fAN X1 hx hby d25_38 rfl rfl rfl ?_
  refine fC X1 hx hby d25_39 rfl ?_
  show Fini _ _ _ _ _ _ _ T1 (mkF m 40 #[vr o0, su] [(.int (0 : Int32)), (.ref o0), (.ref b1), (.ref b1)])
  have Ar_2 : AryR Z h1 o0 "java/lang/Object" (1 : Int32) (fun _ => .ref t) := (A_o0.ext E1)
  refine Fini.st (fun _ k => Ar_2.load X1 hx hZ e1 ⟨by decide, by decide⟩ rfl rfl (hb hby d25_40) k) ?_
  show Fini _ _ _ _ _ _ _ T1 (mkF m 41 #[vr o0, su] [(.ref t), (.ref b1), (.ref b1)])
  have Zs_4 : n0 ≤ h1.size := (Nat.le_trans Z0 E1.1)
  have Od_5 : Old Z n0 h1 := (Old.ext D0 E1)
  obtain ⟨v3, T3, L3, X3, hQ3, st3⟩ := callNew X1 hx hZ hown rfl (wq hw (i := 198) rfl) (wq hw (i := 199) rfl) (wq hw (i := 197) rfl) (wq hw (i := 201) rfl) (by decide) (rm26 l Z a0 hw [] b1 t em h1 n0 Zs_4 A1 Fn1_e0 Fn1_e1 Od_5 S_em ge_b1) e1 (W := 1) (by decide) (by decide) (by decide) (by decide) (g := (mkF m 41 #[vr o0, su] [(.ref t), (.ref b1), (.ref b1)])) rfl (by rw [hml]; rfl) (argsL := [(.ref t)]) (rest := [(.ref b1)]) rfl (lenOf pd_12 rfl) rfl (by show 2 * 0 + _ ≤ _; exact Nat.le_of_eq rfl) (hb hby d25_41)
  obtain ⟨rfl, Nq3, K3, Fe3⟩ := hQ3
  have N3 := Fr.app N0 Nq3
  refine Fini.st st3 ?_
  show Fini _ _ _ _ _ _ _ T3 (mkF m 44 #[vr o0, su] [(.ref b1)])
  have Ex_6 : Exa Z T3.heap b1 "java/util/ImmutableCollections$List12" := (A1.keep K3)
  have Kp_7 : Keep h0 T3.heap [] := (Keep.trans (Keep.ext (Keep.refl h0 []) E1) K3 (allS (P := fun x => x ∈ _ ∨ _ ≤ x) (Or.inr sz_b1) all0))
  exact Fini.retA X3 hx hlk Bd.returns rfl (hb hby d25_44) rfl rfl (by decide) (by decide) ⟨_, rfl, N3, Kp_7, sz_b1, ge_b1, Or.inl ⟨Ex_6, Or.inl ⟨rfl, Fe3⟩⟩⟩
 ·
  subst hn3
  refine Fini.st (fun _ k => XS.tswIn X0.here hx rfl (pc0 := 2) (pc' := 45) rfl (hb hby d25_2) rfl (by decide) rfl (by decide) (by decide) k) ?_
  show Fini _ _ _ _ _ _ _ s₁ (mkF m 45 #[vr o0, su] [])
  obtain ⟨T8, h8, X8, e8, E8, A8, D8, -, st8⟩ := newO X0 hx hZ hown (wq hw (i := 195) rfl) (wq hw (i := 196) rfl) (wq hw (i := 197) rfl) e0 (g := (mkF m 45 #[vr o0, su] [])) rfl (hb hby d25_45) (by decide) (by decide)
  obtain ⟨b8, g8⟩ : ∃ z, z = h0.size := ⟨_, rfl⟩
  rw [← g8] at A8 D8 st8
  have ne_o0_b8 : o0 ≠ b8 := Nat.ne_of_lt (Nat.lt_of_lt_of_le A_o0.lt (Nat.le_of_eq g8.symm))
  have ge_b8 : n0 ≤ b8 := Nat.le_trans Z0 (Nat.le_of_eq g8.symm)
  have sz_b8 : h0.size ≤ b8 := Nat.le_trans (Keep.refl h0 []).1 (Nat.le_of_eq g8.symm)
  have Fn8_e0 : Fld Z h8 b8 "java/util/ImmutableCollections$List12" "e0" "Ljava/lang/Object;" .null := D8 (Or.inr (wq hw (i := 220) rfl)) (ty := (.object "java/lang/Object")) (by decide)
  have Fn8_e1 : Fld Z h8 b8 "java/util/ImmutableCollections$List12" "e1" "Ljava/lang/Object;" .null := D8 (Or.inr (wq hw (i := 223) rfl)) (ty := (.object "java/lang/Object")) (by decide)
  refine Fini.st st8 ?_
  refine Fini.st (fun _ k => XS.dup X8.here hx rfl (hb hby d25_48) rfl rfl k) ?_
  refine fAN X8 hx hby d25_49 rfl rfl rfl ?_
  refine fC X8 hx hby d25_50 rfl ?_
  show Fini _ _ _ _ _ _ _ T8 (mkF m 51 #[vr o0, su] [(.int (0 : Int32)), (.ref o0), (.ref b8), (.ref b8)])
  have Ar_9 : AryR Z h8 o0 "java/lang/Object" (2 : Int32) (fun _ => .ref t) := (A_o0.ext E8)
  refine Fini.st (fun _ k => Ar_9.load X8 hx hZ e8 ⟨by decide, by decide⟩ rfl rfl (hb hby d25_51) k) ?_
  show Fini _ _ _ _ _ _ _ T8 (mkF m 52 #[vr o0, su] [(.ref t), (.ref b8), (.ref b8)])
  refine fAN X8 hx hby d25_52 rfl rfl rfl ?_
  refine fC X8 hx hby d25_53 rfl ?_
  show Fini _ _ _ _ _ _ _ T8 (mkF m 54 #[vr o0, su] [(.int (1 : Int32)), (.ref o0), (.ref t), (.ref b8), (.ref b8)])
  refine Fini.st (fun _ k => Ar_9.load X8 hx hZ e8 ⟨by decide, by decide⟩ rfl rfl (hb hby d25_54) k) ?_
  show Fini _ _ _ _ _ _ _ T8 (mkF m 55 #[vr o0, su] [(.ref t), (.ref t), (.ref b8), (.ref b8)])
  have Zs_11 : n0 ≤ h8.size := (Nat.le_trans Z0 E8.1)
  obtain ⟨v10, T10, L10, X10, hQ10, st10⟩ := callNew X8 hx hZ hown rfl (wq hw (i := 325) rfl) (wq hw (i := 326) rfl) (wq hw (i := 197) rfl) (wq hw (i := 327) rfl) (by decide) (rm41 l Z a0 hw [] b8 t t h8 n0 Zs_11 A8 Fn8_e0 Fn8_e1 ge_b8) e8 (W := 1) (by decide) (by decide) (by decide) (by decide) (g := (mkF m 55 #[vr o0, su] [(.ref t), (.ref t), (.ref b8), (.ref b8)])) rfl (by rw [hml]; rfl) (argsL := [(.ref t), (.ref t)]) (rest := [(.ref b8)]) rfl (lenOf pd_13 rfl) rfl (by show 2 * 0 + _ ≤ _; exact Nat.le_of_eq rfl) (hb hby d25_55)
  obtain ⟨rfl, Nq10, K10, Fe10⟩ := hQ10
  have N10 := Fr.app N0 Nq10
  refine Fini.st st10 ?_
  show Fini _ _ _ _ _ _ _ T10 (mkF m 58 #[vr o0, su] [(.ref b8)])
  have Ex_12 : Exa Z T10.heap b8 "java/util/ImmutableCollections$List12" := (A8.keep K10)
  have Kp_13 : Keep h0 T10.heap [] := (Keep.trans (Keep.ext (Keep.refl h0 []) E8) K10 (allS (P := fun x => x ∈ _ ∨ _ ≤ x) (Or.inr sz_b8) all0))
  exact Fini.retA X10 hx hlk Bd.returns rfl (hb hby d25_58) rfl rfl (by decide) (by decide) ⟨_, rfl, N10, Kp_13, sz_b8, ge_b8, Or.inl ⟨Ex_12, Or.inr ⟨rfl, Fe10⟩⟩⟩
 ·
  refine Fini.st (fun _ k => XS.tswOut X0.here hx rfl (pc0 := 2) (pc' := 59) rfl (hb hby d25_2) rfl (own_tsw hn3) (by decide) (by decide) k) ?_
  show Fini _ _ _ _ _ _ _ s₁ (mkF m 59 #[vr o0, su] [])
  refine fAN X0 hx hby d25_59 rfl rfl rfl ?_
  obtain ⟨v14, T14, L14, X14, hQ14, st14⟩ := callQ X0 hx hZ hown (wq hw (i := 297) rfl) (wq hw (i := 298) rfl) (wq hw (i := 145) rfl) (wq hw (i := 299) rfl) (by decide) (rm38 l Z a0 hw [] o0 n t h0 n0 Z0 A_o0 I_t hn3 hq5) e0 (W := 0) (by decide) (by decide) (by decide) (by decide) (g := (mkF m 60 #[vr o0, su] [(.ref o0)])) rfl (by rw [hml]; rfl) (argsL := [(.ref o0)]) (rest := []) rfl (lenOf pd_14 rfl) rfl (by show 2 * 0 + _ ≤ _; exact Nat.le_of_eq rfl) (hb hby d25_60)
  obtain ⟨b14, y14, u14, rfl, Nq14, K14, sz14, ge_b14, sa14, Eq14, Fe14, Ar14⟩ := hQ14
  have ne_o0_b14 : o0 ≠ b14 := Nat.ne_of_lt (Nat.lt_of_lt_of_le A_o0.lt sz14)
  have sz_b14 : h0.size ≤ b14 := Nat.le_trans (Keep.refl h0 []).1 sz14
  have sz_y14 : h0.size ≤ y14 := Nat.le_trans (Keep.refl h0 []).1 sa14
  have N14 := Fr.app N0 Nq14
  refine Fini.st st14 ?_
  show Fini _ _ _ _ _ _ _ T14 (mkF m 63 #[vr o0, su] [(.ref b14)])
  have Kp_15 : Keep h0 T14.heap [] := (Keep.trans (Keep.refl h0 []) K14 all0)
  exact Fini.retA X14 hx hlk Bd.returns rfl (hb hby d25_63) rfl rfl (by decide) (by decide) ⟨_, rfl, N14, Kp_15, sz_b14, ge_b14, Or.inr ⟨_, _, sz_y14, Eq14, Fe14, Ar14⟩⟩
theorem pd_15 : parseMethodDescriptor "()Z" = some ⟨[], some .boolean⟩ := by decide +kernel
theorem d19_0 : decode jdk_56_method_3_code 0 = .ok (.aload_n 0, 1) := by decide +kernel
theorem d19_1 : decode jdk_56_method_3_code 1 = .ok (.instanceof 10, 3) := by decide +kernel
theorem d19_4 : decode jdk_56_method_3_code 4 = .ok (.ifCond .ne 22, 3) := by decide +kernel
theorem d19_7 : decode jdk_56_method_3_code 7 = .ok (.aload_n 0, 1) := by decide +kernel
theorem d19_8 : decode jdk_56_method_3_code 8 = .ok (.instanceof 12, 3) := by decide +kernel
theorem d19_11 : decode jdk_56_method_3_code 11 = .ok (.ifCond .eq 20, 3) := by decide +kernel
theorem d19_31 : decode jdk_56_method_3_code 31 = .ok (.aload_n 0, 1) := by decide +kernel
theorem d19_32 : decode jdk_56_method_3_code 32 = .ok (.invokeinterface 20 1, 5) := by decide +kernel
theorem d19_37 : decode jdk_56_method_3_code 37 = .ok (.ifCond .eq 7, 3) := by decide +kernel
theorem d19_44 : decode jdk_56_method_3_code 44 = .ok (.aload_n 0, 1) := by decide +kernel
theorem d19_45 : decode jdk_56_method_3_code 45 = .ok (.invokeinterface 30 1, 5) := by decide +kernel
theorem d19_50 : decode jdk_56_method_3_code 50 = .ok (.invokestatic 34, 3) := by decide +kernel
theorem d19_53 : decode jdk_56_method_3_code 53 = .ok (.areturn, 1) := by decide +kernel
theorem ef19n (m : MethodId) (x0 : Addr) : entryFrame m #[(.ref x0)] 2 = mkF m 0 #[.val (.ref x0), .unset] [] := by first | (simp [entryFrame, mkF, argsToLocals, Value.category]; done) | rfl
set_option maxRecDepth 65536 in
set_option maxHeartbeats 40000000 in
theorem rm19n (l : Launch) (Z : State) (a0 : Array Value) (hw : ∀ d ∈ tables_1, d.before a0 Z = true) (ws : List Jvm.Cond) (o0 : Addr) (B : Nat) (dd : Addr) (x : Addr) (n : Int32) (u : Nat → Value) (t : Addr) (mr : Addr) (em : Addr) (h0 : Heap) (n0 : Nat) (Z0 : n0 ≤ h0.size) (E_o0 : Exa Z h0 o0 "java/util/ArrayList") (A_o0 : ALs Z B dd h0 o0 x n u) (I_t : IsO Z h0 t) (D0 : Old Z n0 h0) (S_em : Sta Z Z.heap "java/util/ImmutableCollections" "EMPTY" "Ljava/lang/Object;" (.ref em)) (hn0 : ¬ n = 0) (hq1 : ¬ n < (0 : Int32)) (hq5 : ¬ (5 : Int32) < n) (hI : ∀ i, i < n.toNatClampNeg → u i = .ref t) (M_mr : Mir Z "[Ljava/lang/Object;" mr) :
  Cmet l Z (⟨"java/util/ImmutableCollections", "listCopy", "(Ljava/util/Collection;)Ljava/util/List;"⟩ : MethodName) jdk_56_method_3_code 2 (some (.object "java/util/List")) ws ({ frames := 7, cells := 3, slots := 12, locals := 90 } : Room) #[(.ref o0)] h0 (fun v h' L => ∃ q, v = some (.ref q) ∧ Fr n0 L ∧ Keep h0 h' [] ∧ h0.size ≤ q ∧ n0 ≤ q ∧ ILs Z h' h0.size em t q n) := by
 refine MetFree.of_bodySF (plainFor_of_name pn_14) hisR ?_
 intro p e s m args below meth c s₁ Bd hml0 hP hK
 obtain ⟨rfl, hZ, hh⟩ := hP
 have hx := Bd.exec
 have hlk : meth.locks = false := BodyLoose.notSynchronized Bd
 have hby := Bd.bytes
 have hml : c.maxLocals = 2 := hml0
 have hown : s.vm.findClass "java/util/ImmutableCollections" = some m.cls := findClass_of_methodNamed Bd.named
 have hnm := (name_of_methodNamed Bd.named Bd.method).1
 have X0 : Stand p l e ({ frames := 7, cells := 3, slots := 12, locals := 90 } : Room) s m #[(.ref o0)] below meth c s₁ [] 0 0 := Stand.of_body Bd
 have e0 : s₁.heap = h0 := by rw [← hh, Bd.state]; rfl
 have N0 := Fr.nil n0
 show Fini p e below s (fun v h' L => ∃ q, v = some (.ref q) ∧ Fr n0 L ∧ Keep h0 h' [] ∧ h0.size ≤ q ∧ n0 ≤ q ∧ ILs Z h' h0.size em t q n) _ _ s₁ (entryFrame m #[(.ref o0)] 2)
 refine Fini.cast (ef19n m o0) ?_
 show Fini _ _ _ _ _ _ _ s₁ (mkF m 0 #[vr o0, su] [])
 refine fAN X0 hx hby d19_0 rfl rfl rfl ?_
 show Fini _ _ _ _ _ _ _ s₁ (mkF m 1 #[vr o0, su] [(.ref o0)])
 obtain ⟨T1, X1, e1, st1⟩ := instNo X0 hx hZ hown (wq hw (i := 147) rfl) e0 E_o0 (ns_no (wq hw (i := 148) rfl) (wq hw (i := 196) rfl) (NS.step (wq hw (i := 148) rfl) (NS.step (wq hw (i := 149) rfl) (NS.step (wq hw (i := 150) rfl) (ns_root (wq hw (i := 151) rfl) (wq hw (i := 196) rfl) (by decide)) (by decide)) (by decide)) (by decide)) (by decide)) (g := (mkF m 1 #[vr o0, su] [(.ref o0)])) rfl rfl (hb hby d19_1)
 refine Fini.st st1 ?_
 show Fini _ _ _ _ _ _ _ T1 (mkF m 4 #[vr o0, su] [(.int (0 : Int32))])
 refine Fini.st (fun _ k => XS.ifNo X1.here hx rfl (hb hby d19_4) rfl (XT.i0_ne_f (by decide : (0 : Int32) = (0 : Int32))) k) ?_
 refine fAN X1 hx hby d19_7 rfl rfl rfl ?_
 show Fini _ _ _ _ _ _ _ T1 (mkF m 8 #[vr o0, su] [(.ref o0)])
 obtain ⟨T2, X2, e2, st2⟩ := instNo X1 hx hZ hown (wq hw (i := 152) rfl) e1 E_o0 (ns_no (wq hw (i := 148) rfl) (wq hw (i := 302) rfl) (NS.step (wq hw (i := 148) rfl) (NS.step (wq hw (i := 149) rfl) (NS.step (wq hw (i := 150) rfl) (ns_root (wq hw (i := 151) rfl) (wq hw (i := 302) rfl) (by decide)) (by decide)) (by decide)) (by decide)) (by decide)) (g := (mkF m 8 #[vr o0, su] [(.ref o0)])) rfl rfl (hb hby d19_8)
 refine Fini.st st2 ?_
 show Fini _ _ _ _ _ _ _ T2 (mkF m 11 #[vr o0, su] [(.int (0 : Int32))])
 refine Fini.st (fun _ k => XS.ifYes X2.here hx rfl (pc0 := 11) (pc' := 31) rfl (hb hby d19_11) rfl (XT.i0_eq_t (by decide : (0 : Int32) = (0 : Int32))) (by decide) (by decide) k) ?_
 refine fAN X2 hx hby d19_31 rfl rfl rfl ?_
 obtain ⟨T3, X3, e3, st3⟩ := pureI X2 hx hZ hown (wq hw (i := 153) rfl) (wq hw (i := 154) rfl) (wq hw (i := 155) rfl) (wq hw (i := 156) rfl) (wq hw (i := 157) rfl) (wq hw (i := 158) rfl) (wq hw (i := 159) rfl) (wq hw (i := 160) rfl) (wq hw (i := 20) rfl) (wq hw (i := 161) rfl) A_o0.exa (by decide) (rm20n l Z a0 hw [] o0 n h0 A_o0.2.2.2.1 hn0) e2 (W := 0) (by decide) (by decide) (by decide) (by decide) (g := (mkF m 32 #[vr o0, su] [(.ref o0)])) rfl (by rw [hml]; rfl) (argsL := []) (rest := []) rfl (lenOf pd_15 rfl) rfl (by show 2 * 0 + _ ≤ _; exact Nat.le_of_eq rfl) (hb hby d19_32)
 refine Fini.st st3 ?_
 show Fini _ _ _ _ _ _ _ T3 (mkF m 37 #[vr o0, su] [(.int (0 : Int32))])
 refine Fini.st (fun _ k => XS.ifYes X3.here hx rfl (pc0 := 37) (pc' := 44) rfl (hb hby d19_37) rfl (XT.i0_eq_t (by decide : (0 : Int32) = (0 : Int32))) (by decide) (by decide) k) ?_
 refine fAN X3 hx hby d19_44 rfl rfl rfl ?_
 obtain ⟨v4, T4, L4, X4, hQ4, st4⟩ := callI X3 hx hZ hown (wq hw (i := 162) rfl) (wq hw (i := 163) rfl) (wq hw (i := 164) rfl) (wq hw (i := 165) rfl) (wq hw (i := 166) rfl) (wq hw (i := 167) rfl) (wq hw (i := 168) rfl) (wq hw (i := 160) rfl) (wq hw (i := 20) rfl) (wq hw (i := 169) rfl) A_o0.exa (by decide) (c21 l Z a0 hw h0 n0 Z0 A_o0 hn0 I_t hq5 hI M_mr) e3 (W := 0) (by decide) (by decide) (by decide) (by decide) (g := (mkF m 45 #[vr o0, su] [(.ref o0)])) rfl (by rw [hml]; rfl) (argsL := []) (rest := []) rfl (lenOf pd_5 rfl) rfl (by show 2 * 0 + _ ≤ _; exact Nat.le_of_eq rfl) (hb hby d19_45)
 obtain ⟨b4, rfl, Nq4, K4, sz4, ge_b4, Ar4⟩ := hQ4
 have ne_o0_b4 : o0 ≠ b4 := Nat.ne_of_lt (Nat.lt_of_lt_of_le E_o0.lt sz4)
 have ne_x_b4 : x ≠ b4 := Nat.ne_of_lt (Nat.lt_of_lt_of_le A_o0.lte sz4)
 have sz_b4 : h0.size ≤ b4 := Nat.le_trans (Keep.refl h0 []).1 sz4
 have N4 := Fr.app N0 Nq4
 refine Fini.st st4 ?_
 show Fini _ _ _ _ _ _ _ T4 (mkF m 50 #[vr o0, su] [(.ref b4)])
 have Kp_5 : Keep h0 T4.heap [] := (Keep.trans (Keep.refl h0 []) K4 all0)
 have Zs_7 : n0 ≤ T4.heap.size := (Nat.le_trans Z0 K4.1)
 have Of_8 : IsO Z T4.heap t := (I_t.keep K4 trivial)
 have Od_9 : Old Z n0 T4.heap := (Old.keep D0 K4 all0)
 obtain ⟨v6, T6, L6, X6, hQ6, st6⟩ := callQ X4 hx hZ hown (wq hw (i := 192) rfl) (wq hw (i := 193) rfl) (wq hw (i := 141) rfl) (wq hw (i := 194) rfl) (by decide) (rm25 l Z a0 hw [] b4 n t em T4.heap n0 Zs_7 Ar4 Of_8 Od_9 S_em hq1 hn0 hq5) rfl (W := 0) (by decide) (by decide) (by decide) (by decide) (g := (mkF m 50 #[vr o0, su] [(.ref b4)])) rfl (by rw [hml]; rfl) (argsL := [(.ref b4)]) (rest := []) rfl (lenOf pd_14 rfl) rfl (by show 2 * 0 + _ ≤ _; exact Nat.le_of_eq rfl) (hb hby d19_50)
 obtain ⟨b6, rfl, Nq6, K6, sz6, ge_b6, Il6⟩ := hQ6
 have Ex_10 : Exa Z T4.heap o0 "java/util/ArrayList" := (E_o0.keep K4)
 have ne_o0_b6 : o0 ≠ b6 := Nat.ne_of_lt (Nat.lt_of_lt_of_le Ex_10.lt sz6)
 have Al_11 : ALs Z B dd T4.heap o0 x n u := (A_o0.keep K4 nin0 nin0)
 have ne_x_b6 : x ≠ b6 := Nat.ne_of_lt (Nat.lt_of_lt_of_le Al_11.lte sz6)
 have ne_b4_b6 : b4 ≠ b6 := Nat.ne_of_lt (Nat.lt_of_lt_of_le Ar4.lt sz6)
 have sz_b6 : h0.size ≤ b6 := Nat.le_trans Kp_5.1 sz6
 have N6 := Fr.app N4 Nq6
 refine Fini.st st6 ?_
 show Fini _ _ _ _ _ _ _ T6 (mkF m 53 #[vr o0, su] [(.ref b6)])
 have Ik : ILs Z T6.heap h0.size em t b6 n := Il6.elim (fun q => Or.inl q) (fun ⟨ar, w, q1, q2⟩ => Or.inr ⟨ar, w, Nat.le_trans Kp_5.1 q1, q2⟩)
 have Kp_12 : Keep h0 T6.heap [] := (Keep.trans Kp_5 K6 all0)
 exact Fini.retA X6 hx hlk Bd.returns rfl (hb hby d19_53) rfl rfl (by decide) (by decide) ⟨_, rfl, N6, Kp_12, sz_b6, ge_b6, Ik⟩
theorem pd_16 : parseMethodDescriptor "(Ljava/util/Collection;)Ljava/util/List;" = some ⟨[(.object "java/util/Collection")], some (.object "java/util/List")⟩ := by decide +kernel
theorem d18_0 : decode jdk_40_method_48_code 0 = .ok (.aload_n 0, 1) := by decide +kernel
theorem d18_1 : decode jdk_40_method_48_code 1 = .ok (.invokestatic 112, 3) := by decide +kernel
theorem d18_4 : decode jdk_40_method_48_code 4 = .ok (.areturn, 1) := by decide +kernel
theorem ef18n (m : MethodId) (x0 : Addr) : entryFrame m #[(.ref x0)] 1 = mkF m 0 #[.val (.ref x0)] [] := by first | (simp [entryFrame, mkF, argsToLocals, Value.category]; done) | rfl
set_option maxRecDepth 65536 in
set_option maxHeartbeats 40000000 in
theorem rm18n (l : Launch) (Z : State) (a0 : Array Value) (hw : ∀ d ∈ tables_1, d.before a0 Z = true) (ws : List Jvm.Cond) (o0 : Addr) (B : Nat) (dd : Addr) (x : Addr) (n : Int32) (u : Nat → Value) (t : Addr) (mr : Addr) (em : Addr) (h0 : Heap) (n0 : Nat) (Z0 : n0 ≤ h0.size) (E_o0 : Exa Z h0 o0 "java/util/ArrayList") (A_o0 : ALs Z B dd h0 o0 x n u) (I_t : IsO Z h0 t) (D0 : Old Z n0 h0) (S_em : Sta Z Z.heap "java/util/ImmutableCollections" "EMPTY" "Ljava/lang/Object;" (.ref em)) (hn0 : ¬ n = 0) (hq1 : ¬ n < (0 : Int32)) (hq5 : ¬ (5 : Int32) < n) (hI : ∀ i, i < n.toNatClampNeg → u i = .ref t) (M_mr : Mir Z "[Ljava/lang/Object;" mr) :
  Cmet l Z (⟨"java/util/List", "copyOf", "(Ljava/util/Collection;)Ljava/util/List;"⟩ : MethodName) jdk_40_method_48_code 1 (some (.object "java/util/List")) ws ({ frames := 8, cells := 3, slots := 12, locals := 103 } : Room) #[(.ref o0)] h0 (fun v h' L => ∃ q, v = some (.ref q) ∧ Fr n0 L ∧ Keep h0 h' [] ∧ h0.size ≤ q ∧ n0 ≤ q ∧ ILs Z h' h0.size em t q n) := by
 refine MetFree.of_bodySF (plainFor_of_name pn_15) hisR ?_
 intro p e s m args below meth c s₁ Bd hml0 hP hK
 obtain ⟨rfl, hZ, hh⟩ := hP
 have hx := Bd.exec
 have hlk : meth.locks = false := BodyLoose.notSynchronized Bd
 have hby := Bd.bytes
 have hml : c.maxLocals = 1 := hml0
 have hown : s.vm.findClass "java/util/List" = some m.cls := findClass_of_methodNamed Bd.named
 have hnm := (name_of_methodNamed Bd.named Bd.method).1
 have X0 : Stand p l e ({ frames := 8, cells := 3, slots := 12, locals := 103 } : Room) s m #[(.ref o0)] below meth c s₁ [] 0 0 := Stand.of_body Bd
 have e0 : s₁.heap = h0 := by rw [← hh, Bd.state]; rfl
 have N0 := Fr.nil n0
 show Fini p e below s (fun v h' L => ∃ q, v = some (.ref q) ∧ Fr n0 L ∧ Keep h0 h' [] ∧ h0.size ≤ q ∧ n0 ≤ q ∧ ILs Z h' h0.size em t q n) _ _ s₁ (entryFrame m #[(.ref o0)] 1)
 refine Fini.cast (ef18n m o0) ?_
 show Fini _ _ _ _ _ _ _ s₁ (mkF m 0 #[vr o0] [])
 refine fAN X0 hx hby d18_0 rfl rfl rfl ?_
 obtain ⟨v1, T1, L1, X1, hQ1, st1⟩ := callQ X0 hx hZ hown (wq hw (i := 143) rfl) (wq hw (i := 144) rfl) (wq hw (i := 145) rfl) (wq hw (i := 146) rfl) (by decide) (rm19n l Z a0 hw [] o0 B dd x n u t mr em h0 n0 Z0 A_o0.exa A_o0 I_t D0 S_em hn0 hq1 hq5 hI M_mr) e0 (W := 0) (by decide) (by decide) (by decide) (by decide) (g := (mkF m 1 #[vr o0] [(.ref o0)])) rfl (by rw [hml]; rfl) (argsL := [(.ref o0)]) (rest := []) rfl (lenOf pd_16 rfl) rfl (by show 2 * 0 + _ ≤ _; exact Nat.le_of_eq rfl) (hb hby d18_1)
 obtain ⟨b1, rfl, Nq1, K1, sz1, ge_b1, Il1⟩ := hQ1
 have ne_o0_b1 : o0 ≠ b1 := Nat.ne_of_lt (Nat.lt_of_lt_of_le E_o0.lt sz1)
 have ne_x_b1 : x ≠ b1 := Nat.ne_of_lt (Nat.lt_of_lt_of_le A_o0.lte sz1)
 have sz_b1 : h0.size ≤ b1 := Nat.le_trans (Keep.refl h0 []).1 sz1
 have N1 := Fr.app N0 Nq1
 refine Fini.st st1 ?_
 show Fini _ _ _ _ _ _ _ T1 (mkF m 4 #[vr o0] [(.ref b1)])
 have Ik : ILs Z T1.heap h0.size em t b1 n := Il1.elim (fun q => Or.inl q) (fun ⟨ar, w, q1, q2⟩ => Or.inr ⟨ar, w, Nat.le_trans (Nat.le_refl _) q1, q2⟩)
 have Kp_2 : Keep h0 T1.heap [] := (Keep.trans (Keep.refl h0 []) K1 all0)
 exact Fini.retA X1 hx hlk Bd.returns rfl (hb hby d18_4) rfl rfl (by decide) (by decide) ⟨_, rfl, N1, Kp_2, sz_b1, ge_b1, Ik⟩
theorem d35_0 : decode jdk_40_method_36_code 0 = .ok (.getstatic 90, 3) := by decide +kernel
theorem d35_3 : decode jdk_40_method_36_code 3 = .ok (.areturn, 1) := by decide +kernel
theorem ef35 (m : MethodId)  : entryFrame m #[] 0 = mkF m 0 #[] [] := by first | (simp [entryFrame, mkF, argsToLocals, Value.category]; done) | rfl
set_option maxRecDepth 65536 in
set_option maxHeartbeats 40000000 in
theorem rm35 (l : Launch) (Z : State) (a0 : Array Value) (hw : ∀ d ∈ tables_1, d.before a0 Z = true) (ws : List Jvm.Cond)  (el : Addr) (h0 : Heap) (n0 : Nat) (Z0 : n0 ≤ h0.size) (D0 : Old Z n0 h0) (S_el : Sta Z Z.heap "java/util/ImmutableCollections" "EMPTY_LIST" "Ljava/util/ImmutableCollections$ListN;" (.ref el)) :
  Cmet l Z (⟨"java/util/List", "of", "()Ljava/util/List;"⟩ : MethodName) jdk_40_method_36_code 0 (some (.object "java/util/List")) ws ({ frames := 0, cells := 0, slots := 0, locals := 0 } : Room) #[] h0 (fun v h' L => v = some (.ref el) ∧ h' = h0 ∧ L = []) := by
 refine MetFree.of_bodySF (plainFor_of_name pn_15) hisR ?_
 intro p e s m args below meth c s₁ Bd hml0 hP hK
 obtain ⟨rfl, hZ, hh⟩ := hP
 have hx := Bd.exec
 have hlk : meth.locks = false := BodyLoose.notSynchronized Bd
 have hby := Bd.bytes
 have hml : c.maxLocals = 0 := hml0
 have hown : s.vm.findClass "java/util/List" = some m.cls := findClass_of_methodNamed Bd.named
 have hnm := (name_of_methodNamed Bd.named Bd.method).1
 have X0 : Stand p l e ({ frames := 0, cells := 0, slots := 0, locals := 0 } : Room) s m #[] below meth c s₁ [] 0 0 := Stand.of_body Bd
 have e0 : s₁.heap = h0 := by rw [← hh, Bd.state]; rfl
 have N0 := Fr.nil n0
 show Fini p e below s (fun v h' L => v = some (.ref el) ∧ h' = h0 ∧ L = []) _ _ s₁ (entryFrame m #[] 0)
 refine Fini.cast (ef35 m ) ?_
 show Fini _ _ _ _ _ _ _ s₁ (mkF m 0 #[] [])
 obtain ⟨T1, X1, e1, st1⟩ := getS2 X0 hx hZ hown (host := "") (Or.inl (wq hw (i := 277) rfl)) Via.refl e0 (Sta.ext D0.2 S_el) (g := (mkF m 0 #[] [])) rfl (hb hby d35_0)
 refine Fini.st st1 ?_
 show Fini _ _ _ _ _ _ _ T1 (mkF m 3 #[] [(.ref el)])
 exact Fini.retA X1 hx hlk Bd.returns rfl (hb hby d35_3) rfl rfl (by decide) (by decide) ⟨rfl, e1, rfl⟩
theorem pd_17 : parseMethodDescriptor "()Ljava/util/List;" = some ⟨[], some (.object "java/util/List")⟩ := by decide +kernel
theorem d19_40 : decode jdk_56_method_3_code 40 = .ok (.invokestatic 26, 3) := by decide +kernel
theorem d19_43 : decode jdk_56_method_3_code 43 = .ok (.areturn, 1) := by decide +kernel
theorem ef19e (m : MethodId) (x0 : Addr) : entryFrame m #[(.ref x0)] 2 = mkF m 0 #[.val (.ref x0), .unset] [] := by first | (simp [entryFrame, mkF, argsToLocals, Value.category]; done) | rfl
set_option maxRecDepth 65536 in
set_option maxHeartbeats 40000000 in
theorem rm19e (l : Launch) (Z : State) (a0 : Array Value) (hw : ∀ d ∈ tables_1, d.before a0 Z = true) (ws : List Jvm.Cond) (o0 : Addr) (B : Nat) (dd : Addr) (x : Addr) (u : Nat → Value) (el : Addr) (h0 : Heap) (n0 : Nat) (Z0 : n0 ≤ h0.size) (E_o0 : Exa Z h0 o0 "java/util/ArrayList") (A_o0 : ALs Z B dd h0 o0 x (0 : Int32) u) (D0 : Old Z n0 h0) (S_el : Sta Z Z.heap "java/util/ImmutableCollections" "EMPTY_LIST" "Ljava/util/ImmutableCollections$ListN;" (.ref el)) :
  Cmet l Z (⟨"java/util/ImmutableCollections", "listCopy", "(Ljava/util/Collection;)Ljava/util/List;"⟩ : MethodName) jdk_56_method_3_code 2 (some (.object "java/util/List")) ws ({ frames := 1, cells := 0, slots := 0, locals := 12 } : Room) #[(.ref o0)] h0 (fun v h' L => v = some (.ref el) ∧ Keep h0 h' [] ∧ Fr n0 L) := by
 refine MetFree.of_bodySF (plainFor_of_name pn_14) hisR ?_
 intro p e s m args below meth c s₁ Bd hml0 hP hK
 obtain ⟨rfl, hZ, hh⟩ := hP
 have hx := Bd.exec
 have hlk : meth.locks = false := BodyLoose.notSynchronized Bd
 have hby := Bd.bytes
 have hml : c.maxLocals = 2 := hml0
 have hown : s.vm.findClass "java/util/ImmutableCollections" = some m.cls := findClass_of_methodNamed Bd.named
 have hnm := (name_of_methodNamed Bd.named Bd.method).1
 have X0 : Stand p l e ({ frames := 1, cells := 0, slots := 0, locals := 12 } : Room) s m #[(.ref o0)] below meth c s₁ [] 0 0 := Stand.of_body Bd
 have e0 : s₁.heap = h0 := by rw [← hh, Bd.state]; rfl
 have N0 := Fr.nil n0
 show Fini p e below s (fun v h' L => v = some (.ref el) ∧ Keep h0 h' [] ∧ Fr n0 L) _ _ s₁ (entryFrame m #[(.ref o0)] 2)
 refine Fini.cast (ef19e m o0) ?_
 show Fini _ _ _ _ _ _ _ s₁ (mkF m 0 #[vr o0, su] [])
 refine fAN X0 hx hby d19_0 rfl rfl rfl ?_
 show Fini _ _ _ _ _ _ _ s₁ (mkF m 1 #[vr o0, su] [(.ref o0)])
 obtain ⟨T1, X1, e1, st1⟩ := instNo X0 hx hZ hown (wq hw (i := 147) rfl) e0 E_o0 (ns_no (wq hw (i := 148) rfl) (wq hw (i := 196) rfl) (NS.step (wq hw (i := 148) rfl) (NS.step (wq hw (i := 149) rfl) (NS.step (wq hw (i := 150) rfl) (ns_root (wq hw (i := 151) rfl) (wq hw (i := 196) rfl) (by decide)) (by decide)) (by decide)) (by decide)) (by decide)) (g := (mkF m 1 #[vr o0, su] [(.ref o0)])) rfl rfl (hb hby d19_1)
 refine Fini.st st1 ?_
 show Fini _ _ _ _ _ _ _ T1 (mkF m 4 #[vr o0, su] [(.int (0 : Int32))])
 refine Fini.st (fun _ k => XS.ifNo X1.here hx rfl (hb hby d19_4) rfl (XT.i0_ne_f (by decide : (0 : Int32) = (0 : Int32))) k) ?_
 refine fAN X1 hx hby d19_7 rfl rfl rfl ?_
 show Fini _ _ _ _ _ _ _ T1 (mkF m 8 #[vr o0, su] [(.ref o0)])
 obtain ⟨T2, X2, e2, st2⟩ := instNo X1 hx hZ hown (wq hw (i := 152) rfl) e1 E_o0 (ns_no (wq hw (i := 148) rfl) (wq hw (i := 302) rfl) (NS.step (wq hw (i := 148) rfl) (NS.step (wq hw (i := 149) rfl) (NS.step (wq hw (i := 150) rfl) (ns_root (wq hw (i := 151) rfl) (wq hw (i := 302) rfl) (by decide)) (by decide)) (by decide)) (by decide)) (by decide)) (g := (mkF m 8 #[vr o0, su] [(.ref o0)])) rfl rfl (hb hby d19_8)
 refine Fini.st st2 ?_
 show Fini _ _ _ _ _ _ _ T2 (mkF m 11 #[vr o0, su] [(.int (0 : Int32))])
 refine Fini.st (fun _ k => XS.ifYes X2.here hx rfl (pc0 := 11) (pc' := 31) rfl (hb hby d19_11) rfl (XT.i0_eq_t (by decide : (0 : Int32) = (0 : Int32))) (by decide) (by decide) k) ?_
 refine fAN X2 hx hby d19_31 rfl rfl rfl ?_
 obtain ⟨T3, X3, e3, st3⟩ := pureI X2 hx hZ hown (wq hw (i := 153) rfl) (wq hw (i := 154) rfl) (wq hw (i := 155) rfl) (wq hw (i := 156) rfl) (wq hw (i := 157) rfl) (wq hw (i := 158) rfl) (wq hw (i := 159) rfl) (wq hw (i := 160) rfl) (wq hw (i := 20) rfl) (wq hw (i := 161) rfl) A_o0.exa (by decide) (rm20e l Z a0 hw [] o0 h0 A_o0.2.2.2.1) e2 (W := 0) (by decide) (by decide) (by decide) (by decide) (g := (mkF m 32 #[vr o0, su] [(.ref o0)])) rfl (by rw [hml]; rfl) (argsL := []) (rest := []) rfl (lenOf pd_15 rfl) rfl (by show 2 * 0 + _ ≤ _; exact Nat.le_of_eq rfl) (hb hby d19_32)
 refine Fini.st st3 ?_
 show Fini _ _ _ _ _ _ _ T3 (mkF m 37 #[vr o0, su] [(.int (1 : Int32))])
 refine Fini.st (fun _ k => XS.ifNo X3.here hx rfl (hb hby d19_37) rfl (XT.i0_eq_f (by decide : ¬ (1 : Int32) = (0 : Int32))) k) ?_
 obtain ⟨v4, T4, L4, X4, hQ4, st4⟩ := callQ X3 hx hZ hown (wq hw (i := 274) rfl) (wq hw (i := 275) rfl) (wq hw (i := 141) rfl) (wq hw (i := 276) rfl) (by decide) (rm35 l Z a0 hw [] el h0 n0 Z0 D0 S_el) e3 (W := 0) (by decide) (by decide) (by decide) (by decide) (g := (mkF m 40 #[vr o0, su] [])) rfl (by rw [hml]; rfl) (argsL := []) (rest := []) rfl (lenOf pd_17 rfl) rfl (by show 2 * 0 + _ ≤ _; exact Nat.le_of_eq rfl) (hb hby d19_40)
 obtain ⟨rfl, hh4, rfl⟩ := hQ4
 have K4 : Keep h0 T4.heap [] := by rw [hh4]; exact Keep.refl _ _
 have Nq4 := Fr.nil n0
 have N4 := Fr.app N0 Nq4
 refine Fini.st st4 ?_
 show Fini _ _ _ _ _ _ _ T4 (mkF m 43 #[vr o0, su] [(.ref el)])
 have Kp_5 : Keep h0 T4.heap [] := (Keep.trans (Keep.refl h0 []) K4 all0)
 exact Fini.retA X4 hx hlk Bd.returns rfl (hb hby d19_43) rfl rfl (by decide) (by decide) ⟨rfl, Kp_5, N4⟩
theorem ef18e (m : MethodId) (x0 : Addr) : entryFrame m #[(.ref x0)] 1 = mkF m 0 #[.val (.ref x0)] [] := by first | (simp [entryFrame, mkF, argsToLocals, Value.category]; done) | rfl
set_option maxRecDepth 65536 in
set_option maxHeartbeats 40000000 in
theorem rm18e (l : Launch) (Z : State) (a0 : Array Value) (hw : ∀ d ∈ tables_1, d.before a0 Z = true) (ws : List Jvm.Cond) (o0 : Addr) (B : Nat) (dd : Addr) (x : Addr) (u : Nat → Value) (el : Addr) (h0 : Heap) (n0 : Nat) (Z0 : n0 ≤ h0.size) (E_o0 : Exa Z h0 o0 "java/util/ArrayList") (A_o0 : ALs Z B dd h0 o0 x (0 : Int32) u) (D0 : Old Z n0 h0) (S_el : Sta Z Z.heap "java/util/ImmutableCollections" "EMPTY_LIST" "Ljava/util/ImmutableCollections$ListN;" (.ref el)) :
  Cmet l Z (⟨"java/util/List", "copyOf", "(Ljava/util/Collection;)Ljava/util/List;"⟩ : MethodName) jdk_40_method_48_code 1 (some (.object "java/util/List")) ws ({ frames := 2, cells := 0, slots := 0, locals := 25 } : Room) #[(.ref o0)] h0 (fun v h' L => v = some (.ref el) ∧ Keep h0 h' [] ∧ Fr n0 L) := by
 refine MetFree.of_bodySF (plainFor_of_name pn_15) hisR ?_
 intro p e s m args below meth c s₁ Bd hml0 hP hK
 obtain ⟨rfl, hZ, hh⟩ := hP
 have hx := Bd.exec
 have hlk : meth.locks = false := BodyLoose.notSynchronized Bd
 have hby := Bd.bytes
 have hml : c.maxLocals = 1 := hml0
 have hown : s.vm.findClass "java/util/List" = some m.cls := findClass_of_methodNamed Bd.named
 have hnm := (name_of_methodNamed Bd.named Bd.method).1
 have X0 : Stand p l e ({ frames := 2, cells := 0, slots := 0, locals := 25 } : Room) s m #[(.ref o0)] below meth c s₁ [] 0 0 := Stand.of_body Bd
 have e0 : s₁.heap = h0 := by rw [← hh, Bd.state]; rfl
 have N0 := Fr.nil n0
 show Fini p e below s (fun v h' L => v = some (.ref el) ∧ Keep h0 h' [] ∧ Fr n0 L) _ _ s₁ (entryFrame m #[(.ref o0)] 1)
 refine Fini.cast (ef18e m o0) ?_
 show Fini _ _ _ _ _ _ _ s₁ (mkF m 0 #[vr o0] [])
 refine fAN X0 hx hby d18_0 rfl rfl rfl ?_
 obtain ⟨v1, T1, L1, X1, hQ1, st1⟩ := callQ X0 hx hZ hown (wq hw (i := 143) rfl) (wq hw (i := 144) rfl) (wq hw (i := 145) rfl) (wq hw (i := 146) rfl) (by decide) (rm19e l Z a0 hw [] o0 B dd x u el h0 n0 Z0 A_o0.exa A_o0 D0 S_el) e0 (W := 0) (by decide) (by decide) (by decide) (by decide) (g := (mkF m 1 #[vr o0] [(.ref o0)])) rfl (by rw [hml]; rfl) (argsL := [(.ref o0)]) (rest := []) rfl (lenOf pd_16 rfl) rfl (by show 2 * 0 + _ ≤ _; exact Nat.le_of_eq rfl) (hb hby d18_1)
 obtain ⟨rfl, K1, Nq1⟩ := hQ1
 have N1 := Fr.app N0 Nq1
 refine Fini.st st1 ?_
 show Fini _ _ _ _ _ _ _ T1 (mkF m 4 #[vr o0] [(.ref el)])
 have Kp_2 : Keep h0 T1.heap [] := (Keep.trans (Keep.refl h0 []) K1 all0)
 exact Fini.retA X1 hx hlk Bd.returns rfl (hb hby d18_4) rfl rfl (by decide) (by decide) ⟨rfl, Kp_2, N1⟩
theorem d30_0 : decode jdk_44_method_3_code 0 = .ok (.aload_n 0, 1) := by decide +kernel
theorem d30_1 : decode jdk_44_method_3_code 1 = .ok (.getfield 24, 3) := by decide +kernel
theorem d30_4 : decode jdk_44_method_3_code 4 = .ok (.getstatic 19, 3) := by decide +kernel
theorem d30_7 : decode jdk_44_method_3_code 7 = .ok (.if_acmp .eq 7, 3) := by decide +kernel
theorem d30_14 : decode jdk_44_method_3_code 14 = .ok (.iconst 1, 1) := by decide +kernel
theorem d30_15 : decode jdk_44_method_3_code 15 = .ok (.ireturn, 1) := by decide +kernel
theorem ef30a (m : MethodId) (x0 : Addr) : entryFrame m #[(.ref x0)] 1 = mkF m 0 #[.val (.ref x0)] [] := by first | (simp [entryFrame, mkF, argsToLocals, Value.category]; done) | rfl
def f30a  : Int32 := (1 : Int32)
set_option maxRecDepth 65536 in
set_option maxHeartbeats 40000000 in
theorem rm30a (l : Launch) (Z : State) (a0 : Array Value) (hw : ∀ d ∈ tables_1, d.before a0 Z = true) (ws : List Jvm.Cond) (o0 : Addr) (em : Addr) (h0 : Heap) (F_e1 : Fld Z h0 o0 "java/util/ImmutableCollections$List12" "e1" "Ljava/lang/Object;" (.ref em)) (S_em : Sta Z h0 "java/util/ImmutableCollections" "EMPTY" "Ljava/lang/Object;" (.ref em)) :
  Cmet l Z (⟨"java/util/ImmutableCollections$List12", "size", "()I"⟩ : MethodName) jdk_44_method_3_code 1 (some .int) ws ({ frames := 0, cells := 0, slots := 0, locals := 0 } : Room) #[(.ref o0)] h0 (fun v h' L => v = some (.int (f30a )) ∧ h' = h0 ∧ L = []) := by
 refine MetFree.of_bodySF (plainFor_of_name pn_12) hisR ?_
 intro p e s m args below meth c s₁ Bd hml0 hP hK
 obtain ⟨rfl, hZ, hh⟩ := hP
 have hx := Bd.exec
 have hlk : meth.locks = false := BodyLoose.notSynchronized Bd
 have hby := Bd.bytes
 have hml : c.maxLocals = 1 := hml0
 have hown : s.vm.findClass "java/util/ImmutableCollections$List12" = some m.cls := findClass_of_methodNamed Bd.named
 have hnm := (name_of_methodNamed Bd.named Bd.method).1
 have X0 : Stand p l e ({ frames := 0, cells := 0, slots := 0, locals := 0 } : Room) s m #[(.ref o0)] below meth c s₁ [] 0 0 := Stand.of_body Bd
 have e0 : s₁.heap = h0 := by rw [← hh, Bd.state]; rfl
 have hv0 : f30a  = f30a  := rfl
 show Fini p e below s (fun v h' L => v = some (.int (f30a )) ∧ h' = h0 ∧ L = []) _ _ s₁ (entryFrame m #[(.ref o0)] 1)
 refine Fini.cast (ef30a m o0) ?_
 show Fini _ _ _ _ _ _ _ s₁ (mkF m 0 #[vr o0] [])
 refine fAN X0 hx hby d30_0 rfl rfl rfl ?_
 obtain ⟨T1, X1, e1, st1⟩ := getF X0 hx hZ hown (host := "") (Or.inl (wq hw (i := 222) rfl)) Via.refl e0 F_e1 (g := (mkF m 1 #[vr o0] [(.ref o0)])) rfl rfl (hb hby d30_1)
 refine Fini.st st1 ?_
 show Fini _ _ _ _ _ _ _ T1 (mkF m 4 #[vr o0] [(.ref em)])
 obtain ⟨T2, X2, e2, st2⟩ := getS2 X1 hx hZ hown (Or.inr (wq hw (i := 221) rfl)) Via.refl e1 S_em (g := (mkF m 4 #[vr o0] [(.ref em)])) rfl (hb hby d30_4)
 refine Fini.st st2 ?_
 show Fini _ _ _ _ _ _ _ T2 (mkF m 7 #[vr o0] [(.ref em), (.ref em)])
 refine Fini.st (fun _ k => Jvm.RoadKit.acmp (g := (mkF m 7 #[vr o0] [(.ref em), (.ref em)])) X2 hx rfl rfl rfl (pc0 := 7) (pc' := 14) (same := true) rfl (hb hby d30_7) rfl (decide_eq_true rfl) (by decide) (by decide) k) ?_
 show Fini _ _ _ _ _ _ _ T2 (mkF m 14 #[vr o0] [])
 refine fC X2 hx hby d30_14 rfl ?_
 exact Fini.retI X2 hx hlk Bd.returns (hb hby d30_15) (by decide) (by decide) ⟨congrArg (fun z => some (Value.int z)) hv0.symm, e2, rfl⟩
theorem d30_10 : decode jdk_44_method_3_code 10 = .ok (.iconst 2, 1) := by decide +kernel
theorem d30_11 : decode jdk_44_method_3_code 11 = .ok (.goto 4, 3) := by decide +kernel
theorem ef30b (m : MethodId) (x0 : Addr) : entryFrame m #[(.ref x0)] 1 = mkF m 0 #[.val (.ref x0)] [] := by first | (simp [entryFrame, mkF, argsToLocals, Value.category]; done) | rfl
def f30b  : Int32 := (2 : Int32)
set_option maxRecDepth 65536 in
set_option maxHeartbeats 40000000 in
theorem rm30b (l : Launch) (Z : State) (a0 : Array Value) (hw : ∀ d ∈ tables_1, d.before a0 Z = true) (ws : List Jvm.Cond) (o0 : Addr) (em : Addr) (t : Addr) (h0 : Heap) (F_e1 : Fld Z h0 o0 "java/util/ImmutableCollections$List12" "e1" "Ljava/lang/Object;" (.ref t)) (S_em : Sta Z h0 "java/util/ImmutableCollections" "EMPTY" "Ljava/lang/Object;" (.ref em)) (nte : t ≠ em) :
  Cmet l Z (⟨"java/util/ImmutableCollections$List12", "size", "()I"⟩ : MethodName) jdk_44_method_3_code 1 (some .int) ws ({ frames := 0, cells := 0, slots := 0, locals := 0 } : Room) #[(.ref o0)] h0 (fun v h' L => v = some (.int (f30b )) ∧ h' = h0 ∧ L = []) := by
 refine MetFree.of_bodySF (plainFor_of_name pn_12) hisR ?_
 intro p e s m args below meth c s₁ Bd hml0 hP hK
 obtain ⟨rfl, hZ, hh⟩ := hP
 have hx := Bd.exec
 have hlk : meth.locks = false := BodyLoose.notSynchronized Bd
 have hby := Bd.bytes
 have hml : c.maxLocals = 1 := hml0
 have hown : s.vm.findClass "java/util/ImmutableCollections$List12" = some m.cls := findClass_of_methodNamed Bd.named
 have hnm := (name_of_methodNamed Bd.named Bd.method).1
 have X0 : Stand p l e ({ frames := 0, cells := 0, slots := 0, locals := 0 } : Room) s m #[(.ref o0)] below meth c s₁ [] 0 0 := Stand.of_body Bd
 have e0 : s₁.heap = h0 := by rw [← hh, Bd.state]; rfl
 have hv0 : f30b  = f30b  := rfl
 show Fini p e below s (fun v h' L => v = some (.int (f30b )) ∧ h' = h0 ∧ L = []) _ _ s₁ (entryFrame m #[(.ref o0)] 1)
 refine Fini.cast (ef30b m o0) ?_
 show Fini _ _ _ _ _ _ _ s₁ (mkF m 0 #[vr o0] [])
 refine fAN X0 hx hby d30_0 rfl rfl rfl ?_
 obtain ⟨T1, X1, e1, st1⟩ := getF X0 hx hZ hown (host := "") (Or.inl (wq hw (i := 222) rfl)) Via.refl e0 F_e1 (g := (mkF m 1 #[vr o0] [(.ref o0)])) rfl rfl (hb hby d30_1)
 refine Fini.st st1 ?_
 show Fini _ _ _ _ _ _ _ T1 (mkF m 4 #[vr o0] [(.ref t)])
 obtain ⟨T2, X2, e2, st2⟩ := getS2 X1 hx hZ hown (Or.inr (wq hw (i := 221) rfl)) Via.refl e1 S_em (g := (mkF m 4 #[vr o0] [(.ref t)])) rfl (hb hby d30_4)
 refine Fini.st st2 ?_
 show Fini _ _ _ _ _ _ _ T2 (mkF m 7 #[vr o0] [(.ref em), (.ref t)])
 refine Fini.st (fun _ k => Jvm.RoadKit.acmp (g := (mkF m 7 #[vr o0] [(.ref em), (.ref t)])) X2 hx rfl rfl rfl (pc0 := 7) (pc' := 10) (same := false) rfl (hb hby d30_7) rfl (decide_eq_false fun q => nte (Value.ref.inj q)) (by decide) (by decide) k) ?_
 show Fini _ _ _ _ _ _ _ T2 (mkF m 10 #[vr o0] [])
 refine fC X2 hx hby d30_10 rfl ?_
 refine Fini.st (fun _ k => XS.goto X2.here hx rfl (pc0 := 11) (pc' := 15) rfl (hb hby d30_11) (by decide) (by decide) k) ?_
 exact Fini.retI X2 hx hlk Bd.returns (hb hby d30_15) (by decide) (by decide) ⟨congrArg (fun z => some (Value.int z)) hv0.symm, e2, rfl⟩
theorem c30 (l : Launch) (Z : State) (a0 : Array Value) (hw : ∀ d ∈ tables_1, d.before a0 Z = true) (h0 : Heap) {a em t : Addr} {n : Int32} (S : Sta Z h0 "java/util/ImmutableCollections" "EMPTY" "Ljava/lang/Object;" (.ref em)) (nte : t ≠ em) (H : (n = 1 ∧ Fld Z h0 a "java/util/ImmutableCollections$List12" "e1" "Ljava/lang/Object;" (.ref em)) ∨ (n = 2 ∧ Fld Z h0 a "java/util/ImmutableCollections$List12" "e1" "Ljava/lang/Object;" (.ref t))) : Cmet l Z (⟨"java/util/ImmutableCollections$List12", "size", "()I"⟩ : MethodName) jdk_44_method_3_code 1 (some .int) [] ({ frames := 0, cells := 0, slots := 0, locals := 0 } : Room) #[.ref a] h0 (fun v h' L => v = some (.int n) ∧ h' = h0 ∧ L = []) := by
 rcases H with ⟨rfl, F⟩ | ⟨rfl, F⟩
 ·
  exact rm30a l Z a0 hw [] a em h0 F S
 ·
  exact rm30b l Z a0 hw [] a em t h0 F S nte
theorem d40_0 : decode jdk_45_method_3_code 0 = .ok (.aload_n 0, 1) := by decide +kernel
theorem d40_1 : decode jdk_45_method_3_code 1 = .ok (.getfield 7, 3) := by decide +kernel
theorem d40_4 : decode jdk_45_method_3_code 4 = .ok (.arraylength, 1) := by decide +kernel
theorem d40_5 : decode jdk_45_method_3_code 5 = .ok (.ireturn, 1) := by decide +kernel
theorem ef40 (m : MethodId) (x0 : Addr) : entryFrame m #[(.ref x0)] 1 = mkF m 0 #[.val (.ref x0)] [] := by first | (simp [entryFrame, mkF, argsToLocals, Value.category]; done) | rfl
def f40 (n : Int32) (w : Nat → Value) : Int32 := n
set_option maxRecDepth 65536 in
set_option maxHeartbeats 40000000 in
theorem rm40 (l : Launch) (Z : State) (a0 : Array Value) (hw : ∀ d ∈ tables_1, d.before a0 Z = true) (ws : List Jvm.Cond) (o0 : Addr) (ar : Addr) (n : Int32) (w : Nat → Value) (h0 : Heap) (F_el : Fld Z h0 o0 "java/util/ImmutableCollections$ListN" "elements" "[Ljava/lang/Object;" (.ref ar)) (A_ar : AryR Z h0 ar "java/lang/Object" n w) :
  Cmet l Z (⟨"java/util/ImmutableCollections$ListN", "size", "()I"⟩ : MethodName) jdk_45_method_3_code 1 (some .int) ws ({ frames := 0, cells := 0, slots := 0, locals := 0 } : Room) #[(.ref o0)] h0 (fun v h' L => v = some (.int (f40 n w)) ∧ h' = h0 ∧ L = []) := by
 refine MetFree.of_bodySF (plainFor_of_name pn_13) hisR ?_
 intro p e s m args below meth c s₁ Bd hml0 hP hK
 obtain ⟨rfl, hZ, hh⟩ := hP
 have hx := Bd.exec
 have hlk : meth.locks = false := BodyLoose.notSynchronized Bd
 have hby := Bd.bytes
 have hml : c.maxLocals = 1 := hml0
 have hown : s.vm.findClass "java/util/ImmutableCollections$ListN" = some m.cls := findClass_of_methodNamed Bd.named
 have hnm := (name_of_methodNamed Bd.named Bd.method).1
 have X0 : Stand p l e ({ frames := 0, cells := 0, slots := 0, locals := 0 } : Room) s m #[(.ref o0)] below meth c s₁ [] 0 0 := Stand.of_body Bd
 have e0 : s₁.heap = h0 := by rw [← hh, Bd.state]; rfl
 have hv0 : f40 n w = f40 n w := rfl
 show Fini p e below s (fun v h' L => v = some (.int (f40 n w)) ∧ h' = h0 ∧ L = []) _ _ s₁ (entryFrame m #[(.ref o0)] 1)
 refine Fini.cast (ef40 m o0) ?_
 show Fini _ _ _ _ _ _ _ s₁ (mkF m 0 #[vr o0] [])
 refine fAN X0 hx hby d40_0 rfl rfl rfl ?_
 obtain ⟨T1, X1, e1, st1⟩ := getF X0 hx hZ hown (host := "") (Or.inl (wq hw (i := 312) rfl)) Via.refl e0 F_el (g := (mkF m 1 #[vr o0] [(.ref o0)])) rfl rfl (hb hby d40_1)
 refine Fini.st st1 ?_
 show Fini _ _ _ _ _ _ _ T1 (mkF m 4 #[vr o0] [(.ref ar)])
 refine Fini.st (fun _ k => A_ar.len X1 hx hZ e1 rfl rfl (hb hby d40_4) k) ?_
 show Fini _ _ _ _ _ _ _ T1 (mkF m 5 #[vr o0] [(.int n)])
 exact Fini.retI X1 hx hlk Bd.returns (hb hby d40_5) (by decide) (by decide) ⟨congrArg (fun z => some (Value.int z)) hv0.symm, e1, rfl⟩
theorem d32_0 : decode jdk_46_method_9_code 0 = .ok (.iload_n 0, 1) := by decide +kernel
theorem d32_1 : decode jdk_46_method_9_code 1 = .ok (.ifCond .ge 30, 3) := by decide +kernel
theorem d32_31 : decode jdk_46_method_9_code 31 = .ok (.iload_n 1, 1) := by decide +kernel
theorem d32_32 : decode jdk_46_method_9_code 32 = .ok (.iload_n 2, 1) := by decide +kernel
theorem d32_33 : decode jdk_46_method_9_code 33 = .ok (.if_icmp .le 30, 3) := by decide +kernel
theorem d32_63 : decode jdk_46_method_9_code 63 = .ok (.iload_n 0, 1) := by decide +kernel
theorem d32_64 : decode jdk_46_method_9_code 64 = .ok (.iload_n 1, 1) := by decide +kernel
theorem d32_65 : decode jdk_46_method_9_code 65 = .ok (.if_icmp .le 44, 3) := by decide +kernel
theorem d32_109 : decode jdk_46_method_9_code 109 = .ok (.return_, 1) := by decide +kernel
theorem ef32 (m : MethodId) (x0 : Int32) (x1 : Int32) (x2 : Int32) : entryFrame m #[(.int x0), (.int x1), (.int x2)] 3 = mkF m 0 #[.val (.int x0), .val (.int x1), .val (.int x2)] [] := by first | (simp [entryFrame, mkF, argsToLocals, Value.category]; done) | rfl
set_option maxRecDepth 65536 in
set_option maxHeartbeats 40000000 in
theorem rm32 (l : Launch) (Z : State) (a0 : Array Value) (hw : ∀ d ∈ tables_1, d.before a0 Z = true) (ws : List Jvm.Cond) (p0 : Int32) (p1 : Int32) (p2 : Int32) (h0 : Heap) (n0 : Nat) (Z0 : n0 ≤ h0.size) (hq1 : ¬ p0 < (0 : Int32)) (hq2 : ¬ p2 < p1) (hq3 : ¬ p1 < p0) :
  Cmet l Z (⟨"java/util/ImmutableCollections$AbstractImmutableList", "subListRangeCheck", "(III)V"⟩ : MethodName) jdk_46_method_9_code 3 none ws ({ frames := 0, cells := 0, slots := 0, locals := 0 } : Room) #[(.int p0), (.int p1), (.int p2)] h0 (fun v h' L => v = none ∧ h' = h0 ∧ L = []) := by
 refine MetFree.of_bodySF (plainFor_of_name pn_2) hisR ?_
 intro p e s m args below meth c s₁ Bd hml0 hP hK
 obtain ⟨rfl, hZ, hh⟩ := hP
 have hx := Bd.exec
 have hlk : meth.locks = false := BodyLoose.notSynchronized Bd
 have hby := Bd.bytes
 have hml : c.maxLocals = 3 := hml0
 have hown : s.vm.findClass "java/util/ImmutableCollections$AbstractImmutableList" = some m.cls := findClass_of_methodNamed Bd.named
 have hnm := (name_of_methodNamed Bd.named Bd.method).1
 have X0 : Stand p l e ({ frames := 0, cells := 0, slots := 0, locals := 0 } : Room) s m #[(.int p0), (.int p1), (.int p2)] below meth c s₁ [] 0 0 := Stand.of_body Bd
 have e0 : s₁.heap = h0 := by rw [← hh, Bd.state]; rfl
 have N0 := Fr.nil n0
 show Fini p e below s (fun v h' L => v = none ∧ h' = h0 ∧ L = []) _ _ s₁ (entryFrame m #[(.int p0), (.int p1), (.int p2)] 3)
 refine Fini.cast (ef32 m p0 p1 p2) ?_
 show Fini _ _ _ _ _ _ _ s₁ (mkF m 0 #[vi p0, vi p1, vi p2] [])
 refine fIN X0 hx hby d32_0 rfl rfl ?_
 show Fini _ _ _ _ _ _ _ s₁ (mkF m 1 #[vi p0, vi p1, vi p2] [(.int p0)])
 refine Fini.st (fun _ k => XS.ifYes X0.here hx rfl (pc0 := 1) (pc' := 31) rfl (hb hby d32_1) rfl (XT.i0_ge_t hq1) (by decide) (by decide) k) ?_
 refine fIN X0 hx hby d32_31 rfl rfl ?_
 refine fIN X0 hx hby d32_32 rfl rfl ?_
 show Fini _ _ _ _ _ _ _ s₁ (mkF m 33 #[vi p0, vi p1, vi p2] [(.int p2), (.int p1)])
 refine Fini.st (fun _ k => XS.icmpYes X0.here hx rfl (pc0 := 33) (pc' := 63) rfl (hb hby d32_33) rfl (XT.ii_le_t hq2) (by decide) (by decide) k) ?_
 refine fIN X0 hx hby d32_63 rfl rfl ?_
 refine fIN X0 hx hby d32_64 rfl rfl ?_
 show Fini _ _ _ _ _ _ _ s₁ (mkF m 65 #[vi p0, vi p1, vi p2] [(.int p1), (.int p0)])
 refine Fini.st (fun _ k => XS.icmpYes X0.here hx rfl (pc0 := 65) (pc' := 109) rfl (hb hby d32_65) rfl (XT.ii_le_t hq3) (by decide) (by decide) k) ?_
 exact Fini.ret0 X0 hx hlk Bd.returns (hb hby d32_109) (by decide) (by decide) ⟨rfl, e0, rfl⟩
theorem d34_0 : decode jdk_2608_method_1_code 0 = .ok (.aload_n 0, 1) := by decide +kernel
theorem d34_1 : decode jdk_2608_method_1_code 1 = .ok (.invokespecial 1, 3) := by decide +kernel
theorem d34_4 : decode jdk_2608_method_1_code 4 = .ok (.getstatic 7, 3) := by decide +kernel
theorem d34_7 : decode jdk_2608_method_1_code 7 = .ok (.ifCond .ne 25, 3) := by decide +kernel
theorem d34_32 : decode jdk_2608_method_1_code 32 = .ok (.aload_n 0, 1) := by decide +kernel
theorem d34_33 : decode jdk_2608_method_1_code 33 = .ok (.aload_n 1, 1) := by decide +kernel
theorem d34_34 : decode jdk_2608_method_1_code 34 = .ok (.putfield 20, 3) := by decide +kernel
theorem d34_37 : decode jdk_2608_method_1_code 37 = .ok (.aload_n 0, 1) := by decide +kernel
theorem d34_38 : decode jdk_2608_method_1_code 38 = .ok (.iload_n 2, 1) := by decide +kernel
theorem d34_39 : decode jdk_2608_method_1_code 39 = .ok (.putfield 24, 3) := by decide +kernel
theorem d34_42 : decode jdk_2608_method_1_code 42 = .ok (.aload_n 0, 1) := by decide +kernel
theorem d34_43 : decode jdk_2608_method_1_code 43 = .ok (.iload_n 3, 1) := by decide +kernel
theorem d34_44 : decode jdk_2608_method_1_code 44 = .ok (.putfield 28, 3) := by decide +kernel
theorem d34_47 : decode jdk_2608_method_1_code 47 = .ok (.return_, 1) := by decide +kernel
theorem pn_16 : plainName "java/util/ImmutableCollections$SubList" = true := by first | (simp [plainName, overriddenIn]; done) | decide +kernel
theorem ef34 (m : MethodId) (x0 : Addr) (x1 : Addr) (x2 : Int32) (x3 : Int32) : entryFrame m #[(.ref x0), (.ref x1), (.int x2), (.int x3)] 4 = mkF m 0 #[.val (.ref x0), .val (.ref x1), .val (.int x2), .val (.int x3)] [] := by first | (simp [entryFrame, mkF, argsToLocals, Value.category]; done) | rfl
set_option maxRecDepth 65536 in
set_option maxHeartbeats 40000000 in
theorem rm34 (l : Launch) (Z : State) (a0 : Array Value) (hw : ∀ d ∈ tables_1, d.before a0 Z = true) (ws : List Jvm.Cond) (o0 : Addr) (o1 : Addr) (p2 : Int32) (p3 : Int32) (h0 : Heap) (n0 : Nat) (Z0 : n0 ≤ h0.size) (E_o0 : Exa Z h0 o0 "java/util/ImmutableCollections$SubList") (F_ro : Fld Z h0 o0 "java/util/ImmutableCollections$SubList" "root" "Ljava/util/ImmutableCollections$AbstractImmutableList;" .null) (F_of : Fld Z h0 o0 "java/util/ImmutableCollections$SubList" "offset" "I" (.int (0 : Int32))) (F_si : Fld Z h0 o0 "java/util/ImmutableCollections$SubList" "size" "I" (.int (0 : Int32))) (D0 : Old Z n0 h0) (S_sa : Sta Z Z.heap "java/util/ImmutableCollections$SubList" "$assertionsDisabled" "Z" (.int (1 : Int32))) (g0 : n0 ≤ o0) :
  Cmet l Z (⟨"java/util/ImmutableCollections$SubList", "<init>", "(Ljava/util/ImmutableCollections$AbstractImmutableList;II)V"⟩ : MethodName) jdk_2608_method_1_code 4 none ws ({ frames := 4, cells := 0, slots := 0, locals := 48 } : Room) #[(.ref o0), (.ref o1), (.int p2), (.int p3)] h0 (fun v h' L => v = none ∧ Fr n0 L ∧ Keep h0 h' [o0]) := by
 refine MetFree.of_bodySF (plainFor_of_name pn_16) hisR ?_
 intro p e s m args below meth c s₁ Bd hml0 hP hK
 obtain ⟨rfl, hZ, hh⟩ := hP
 have hx := Bd.exec
 have hlk : meth.locks = false := BodyLoose.notSynchronized Bd
 have hby := Bd.bytes
 have hml : c.maxLocals = 4 := hml0
 have hown : s.vm.findClass "java/util/ImmutableCollections$SubList" = some m.cls := findClass_of_methodNamed Bd.named
 have hnm := (name_of_methodNamed Bd.named Bd.method).1
 have X0 : Stand p l e ({ frames := 4, cells := 0, slots := 0, locals := 48 } : Room) s m #[(.ref o0), (.ref o1), (.int p2), (.int p3)] below meth c s₁ [] 0 0 := Stand.of_body Bd
 have e0 : s₁.heap = h0 := by rw [← hh, Bd.state]; rfl
 have N0 := Fr.nil n0
 show Fini p e below s (fun v h' L => v = none ∧ Fr n0 L ∧ Keep h0 h' [o0]) _ _ s₁ (entryFrame m #[(.ref o0), (.ref o1), (.int p2), (.int p3)] 4)
 refine Fini.cast (ef34 m o0 o1 p2 p3) ?_
 show Fini _ _ _ _ _ _ _ s₁ (mkF m 0 #[vr o0, vr o1, vi p2, vi p3] [])
 refine fAN X0 hx hby d34_0 rfl rfl rfl ?_
 obtain ⟨v1, T1, L1, X1, hQ1, st1⟩ := callNew X0 hx hZ hown rfl (wq hw (i := 257) rfl) (wq hw (i := 203) rfl) (wq hw (i := 206) rfl) (wq hw (i := 207) rfl) (by decide) (rm27 l Z a0 hw [] o0 h0 n0 Z0) e0 (W := 0) (by decide) (by decide) (by decide) (by decide) (g := (mkF m 1 #[vr o0, vr o1, vi p2, vi p3] [(.ref o0)])) rfl (by rw [hml]; rfl) (argsL := []) (rest := []) rfl (lenOf pd_0 rfl) rfl (by show 2 * 0 + _ ≤ _; exact Nat.le_of_eq rfl) (hb hby d34_1)
 obtain ⟨rfl, hh1, rfl⟩ := hQ1
 have K1 : Keep h0 T1.heap [] := by rw [hh1]; exact Keep.refl _ _
 have Nq1 := Fr.nil n0
 have N1 := Fr.app N0 Nq1
 refine Fini.st st1 ?_
 show Fini _ _ _ _ _ _ _ T1 (mkF m 4 #[vr o0, vr o1, vi p2, vi p3] [])
 have Od_3 : Old Z n0 T1.heap := (Old.keep D0 K1 all0)
 obtain ⟨T2, X2, e2, st2⟩ := getS2 X1 hx hZ hown (host := "") (Or.inl (wq hw (i := 261) rfl)) Via.refl rfl (Sta.ext Od_3.2 S_sa) (g := (mkF m 4 #[vr o0, vr o1, vi p2, vi p3] [])) rfl (hb hby d34_4)
 refine Fini.st st2 ?_
 show Fini _ _ _ _ _ _ _ T2 (mkF m 7 #[vr o0, vr o1, vi p2, vi p3] [(.int (1 : Int32))])
 refine Fini.st (fun _ k => XS.ifYes X2.here hx rfl (pc0 := 7) (pc' := 32) rfl (hb hby d34_7) rfl (XT.i0_ne_t (by decide : ¬ (1 : Int32) = (0 : Int32))) (by decide) (by decide) k) ?_
 refine fAN X2 hx hby d34_32 rfl rfl rfl ?_
 refine fAN X2 hx hby d34_33 rfl rfl rfl ?_
 have F_5 : Fld Z T1.heap o0 "java/util/ImmutableCollections$SubList" "root" "Ljava/util/ImmutableCollections$AbstractImmutableList;" .null := (F_ro.keep K1 nin0)
 have Ex_6 : Exa Z T1.heap o0 "java/util/ImmutableCollections$SubList" := (E_o0.keep K1)
 obtain ⟨T4, h4, X4, e4, W4, st4⟩ := putF X2 hx hZ hown (host := "") (Or.inl (wq hw (i := 262) rfl)) Via.refl e2 F_5 Ex_6 (Or.inr ⟨(wq hw (i := 263) rfl), rfl, hnm⟩) (wq hw (i := 252) rfl) (ty := (.object "java/util/ImmutableCollections$AbstractImmutableList")) (by decide) rfl rfl (g := (mkF m 34 #[vr o0, vr o1, vi p2, vi p3] [(.ref o1), (.ref o0)])) rfl rfl (hb hby d34_34)
 have Fw4 : Fld Z h4 o0 "java/util/ImmutableCollections$SubList" "root" "Ljava/util/ImmutableCollections$AbstractImmutableList;" (.ref o1) := F_5.same W4
 refine Fini.st st4 ?_
 have N4 := Fr.snoc X4 N1 g0
 refine fAN X4 hx hby d34_37 rfl rfl rfl ?_
 refine fIN X4 hx hby d34_38 rfl rfl ?_
 have F_8 : Fld Z h4 o0 "java/util/ImmutableCollections$SubList" "offset" "I" (.int (0 : Int32)) := ((F_of.keep K1 nin0).other W4 (Or.inr (slot_ne (Or.inr (wq hw (i := 265) rfl)) (Or.inr (wq hw (i := 263) rfl)) (by decide) (t := .int) (t' := (.object "java/util/ImmutableCollections$AbstractImmutableList")) (by decide) (by decide))))
 have Ex_9 : Exa Z h4 o0 "java/util/ImmutableCollections$SubList" := (Ex_6.wr W4)
 obtain ⟨T7, h7, X7, e7, W7, st7⟩ := putF X4 hx hZ hown (host := "") (Or.inl (wq hw (i := 264) rfl)) Via.refl e4 F_8 Ex_9 (Or.inr ⟨(wq hw (i := 265) rfl), rfl, hnm⟩) (wq hw (i := 252) rfl) (ty := .int) (by decide) rfl rfl (g := (mkF m 39 #[vr o0, vr o1, vi p2, vi p3] [(.int p2), (.ref o0)])) rfl rfl (hb hby d34_39)
 have Fw7 : Fld Z h7 o0 "java/util/ImmutableCollections$SubList" "offset" "I" (.int p2) := F_8.same W7
 refine Fini.st st7 ?_
 have N7 := Fr.snoc X7 N4 g0
 refine fAN X7 hx hby d34_42 rfl rfl rfl ?_
 refine fIN X7 hx hby d34_43 rfl rfl ?_
 have F_11 : Fld Z h7 o0 "java/util/ImmutableCollections$SubList" "size" "I" (.int (0 : Int32)) := (((F_si.keep K1 nin0).other W4 (Or.inr (slot_ne (Or.inr (wq hw (i := 267) rfl)) (Or.inr (wq hw (i := 263) rfl)) (by decide) (t := .int) (t' := (.object "java/util/ImmutableCollections$AbstractImmutableList")) (by decide) (by decide)))).other W7 (Or.inr (slot_ne (Or.inr (wq hw (i := 267) rfl)) (Or.inr (wq hw (i := 265) rfl)) (by decide) (t := .int) (t' := .int) (by decide) (by decide))))
 have Ex_12 : Exa Z h7 o0 "java/util/ImmutableCollections$SubList" := (Ex_9.wr W7)
 obtain ⟨T10, h10, X10, e10, W10, st10⟩ := putF X7 hx hZ hown (host := "") (Or.inl (wq hw (i := 266) rfl)) Via.refl e7 F_11 Ex_12 (Or.inr ⟨(wq hw (i := 267) rfl), rfl, hnm⟩) (wq hw (i := 252) rfl) (ty := .int) (by decide) rfl rfl (g := (mkF m 44 #[vr o0, vr o1, vi p2, vi p3] [(.int p3), (.ref o0)])) rfl rfl (hb hby d34_44)
 have Fw10 : Fld Z h10 o0 "java/util/ImmutableCollections$SubList" "size" "I" (.int p3) := F_11.same W10
 refine Fini.st st10 ?_
 have N10 := Fr.snoc X10 N7 g0
 have Kp_13 : Keep h0 h10 [o0] := (Keep.wr (Keep.wr (Keep.wr (Keep.trans (Keep.refl h0 [o0]) K1 all0) W4 (Or.inl (List.mem_of_getElem? (i := 0) rfl))) W7 (Or.inl (List.mem_of_getElem? (i := 0) rfl))) W10 (Or.inl (List.mem_of_getElem? (i := 0) rfl)))
 exact Fini.ret0 X10 hx hlk Bd.returns (hb hby d34_47) (by decide) (by decide) ⟨rfl, N10, (by rw [e10]; exact Kp_13)⟩
theorem pd_18 : parseMethodDescriptor "(Ljava/util/ImmutableCollections$AbstractImmutableList;II)V" = some ⟨[(.object "java/util/ImmutableCollections$AbstractImmutableList"), .int, .int], none⟩ := by decide +kernel
theorem d33_0 : decode jdk_2608_method_3_code 0 = .ok (.new 8, 3) := by decide +kernel
theorem d33_3 : decode jdk_2608_method_3_code 3 = .ok (.dup, 1) := by decide +kernel
theorem d33_4 : decode jdk_2608_method_3_code 4 = .ok (.aload_n 0, 1) := by decide +kernel
theorem d33_5 : decode jdk_2608_method_3_code 5 = .ok (.iload_n 1, 1) := by decide +kernel
theorem d33_6 : decode jdk_2608_method_3_code 6 = .ok (.iload_n 2, 1) := by decide +kernel
theorem d33_7 : decode jdk_2608_method_3_code 7 = .ok (.iload_n 1, 1) := by decide +kernel
theorem d33_8 : decode jdk_2608_method_3_code 8 = .ok (.isub, 1) := by decide +kernel
theorem d33_9 : decode jdk_2608_method_3_code 9 = .ok (.invokespecial 31, 3) := by decide +kernel
theorem d33_12 : decode jdk_2608_method_3_code 12 = .ok (.areturn, 1) := by decide +kernel
theorem ef33 (m : MethodId) (x0 : Addr) (x1 : Int32) (x2 : Int32) : entryFrame m #[(.ref x0), (.int x1), (.int x2)] 3 = mkF m 0 #[.val (.ref x0), .val (.int x1), .val (.int x2)] [] := by first | (simp [entryFrame, mkF, argsToLocals, Value.category]; done) | rfl
set_option maxRecDepth 65536 in
set_option maxHeartbeats 40000000 in
theorem rm33 (l : Launch) (Z : State) (a0 : Array Value) (hw : ∀ d ∈ tables_1, d.before a0 Z = true) (ws : List Jvm.Cond) (o0 : Addr) (p1 : Int32) (p2 : Int32) (h0 : Heap) (n0 : Nat) (Z0 : n0 ≤ h0.size) (D0 : Old Z n0 h0) (S_sa : Sta Z Z.heap "java/util/ImmutableCollections$SubList" "$assertionsDisabled" "Z" (.int (1 : Int32))) :
  Cmet l Z (⟨"java/util/ImmutableCollections$SubList", "fromList", "(Ljava/util/ImmutableCollections$AbstractImmutableList;II)Ljava/util/ImmutableCollections$SubList;"⟩ : MethodName) jdk_2608_method_3_code 3 (some (.object "java/util/ImmutableCollections$SubList")) ws ({ frames := 5, cells := 1, slots := 3, locals := 64 } : Room) #[(.ref o0), (.int p1), (.int p2)] h0 (fun v h' L => ∃ q, v = some (.ref q) ∧ Fr n0 L ∧ Keep h0 h' []) := by
 refine MetFree.of_bodySF (plainFor_of_name pn_16) hisR ?_
 intro p e s m args below meth c s₁ Bd hml0 hP hK
 obtain ⟨rfl, hZ, hh⟩ := hP
 have hx := Bd.exec
 have hlk : meth.locks = false := BodyLoose.notSynchronized Bd
 have hby := Bd.bytes
 have hml : c.maxLocals = 3 := hml0
 have hown : s.vm.findClass "java/util/ImmutableCollections$SubList" = some m.cls := findClass_of_methodNamed Bd.named
 have hnm := (name_of_methodNamed Bd.named Bd.method).1
 have X0 : Stand p l e ({ frames := 5, cells := 1, slots := 3, locals := 64 } : Room) s m #[(.ref o0), (.int p1), (.int p2)] below meth c s₁ [] 0 0 := Stand.of_body Bd
 have e0 : s₁.heap = h0 := by rw [← hh, Bd.state]; rfl
 have N0 := Fr.nil n0
 show Fini p e below s (fun v h' L => ∃ q, v = some (.ref q) ∧ Fr n0 L ∧ Keep h0 h' []) _ _ s₁ (entryFrame m #[(.ref o0), (.int p1), (.int p2)] 3)
 refine Fini.cast (ef33 m o0 p1 p2) ?_
 show Fini _ _ _ _ _ _ _ s₁ (mkF m 0 #[vr o0, vi p1, vi p2] [])
 obtain ⟨T1, h1, X1, e1, E1, A1, D1, -, st1⟩ := newO X0 hx hZ hown (wq hw (i := 251) rfl) (wq hw (i := 252) rfl) (wq hw (i := 249) rfl) e0 (g := (mkF m 0 #[vr o0, vi p1, vi p2] [])) rfl (hb hby d33_0) (by decide) (by decide)
 obtain ⟨b1, g1⟩ : ∃ z, z = h0.size := ⟨_, rfl⟩
 rw [← g1] at A1 D1 st1
 have ge_b1 : n0 ≤ b1 := Nat.le_trans Z0 (Nat.le_of_eq g1.symm)
 have sz_b1 : h0.size ≤ b1 := Nat.le_trans (Keep.refl h0 []).1 (Nat.le_of_eq g1.symm)
 have Fn1_root : Fld Z h1 b1 "java/util/ImmutableCollections$SubList" "root" "Ljava/util/ImmutableCollections$AbstractImmutableList;" .null := D1 (Or.inr (wq hw (i := 263) rfl)) (ty := (.object "java/util/ImmutableCollections$AbstractImmutableList")) (by decide)
 have Fn1_offset : Fld Z h1 b1 "java/util/ImmutableCollections$SubList" "offset" "I" (.int (0 : Int32)) := D1 (Or.inr (wq hw (i := 265) rfl)) (ty := .int) (by decide)
 have Fn1_size : Fld Z h1 b1 "java/util/ImmutableCollections$SubList" "size" "I" (.int (0 : Int32)) := D1 (Or.inr (wq hw (i := 267) rfl)) (ty := .int) (by decide)
 refine Fini.st st1 ?_
 refine Fini.st (fun _ k => XS.dup X1.here hx rfl (hb hby d33_3) rfl rfl k) ?_
 refine fAN X1 hx hby d33_4 rfl rfl rfl ?_
 refine fIN X1 hx hby d33_5 rfl rfl ?_
 refine fIN X1 hx hby d33_6 rfl rfl ?_
 refine fIN X1 hx hby d33_7 rfl rfl ?_
 show Fini _ _ _ _ _ _ _ T1 (mkF m 8 #[vr o0, vi p1, vi p2] [(.int p1), (.int p2), (.int p1), (.ref o0), (.ref b1), (.ref b1)])
 refine Fini.st (fun _ k => XS.isub X1.here hx rfl (hb hby d33_8) rfl k) ?_
 show Fini _ _ _ _ _ _ _ T1 (mkF m 9 #[vr o0, vi p1, vi p2] [(.int (p2 - p1)), (.int p1), (.ref o0), (.ref b1), (.ref b1)])
 have Zs_3 : n0 ≤ h1.size := (Nat.le_trans Z0 E1.1)
 have Od_4 : Old Z n0 h1 := (Old.ext D0 E1)
 obtain ⟨v2, T2, L2, X2, hQ2, st2⟩ := callNew X1 hx hZ hown rfl (wq hw (i := 253) rfl) (wq hw (i := 254) rfl) (wq hw (i := 249) rfl) (wq hw (i := 256) rfl) (by decide) (rm34 l Z a0 hw [] b1 o0 p1 (p2 - p1) h1 n0 Zs_3 A1 Fn1_root Fn1_offset Fn1_size Od_4 S_sa ge_b1) e1 (W := 1) (by decide) (by decide) (by decide) (by decide) (g := (mkF m 9 #[vr o0, vi p1, vi p2] [(.int (p2 - p1)), (.int p1), (.ref o0), (.ref b1), (.ref b1)])) rfl (by rw [hml]; rfl) (argsL := [(.ref o0), (.int p1), (.int (p2 - p1))]) (rest := [(.ref b1)]) rfl (lenOf pd_18 rfl) rfl (by show 2 * 0 + _ ≤ _; exact Nat.le_of_eq rfl) (hb hby d33_9)
 obtain ⟨rfl, Nq2, K2⟩ := hQ2
 have N2 := Fr.app N0 Nq2
 refine Fini.st st2 ?_
 show Fini _ _ _ _ _ _ _ T2 (mkF m 12 #[vr o0, vi p1, vi p2] [(.ref b1)])
 have Kp_5 : Keep h0 T2.heap [] := (Keep.trans (Keep.ext (Keep.refl h0 []) E1) K2 (allS (P := fun x => x ∈ _ ∨ _ ≤ x) (Or.inr sz_b1) all0))
 exact Fini.retA X2 hx hlk Bd.returns rfl (hb hby d33_12) rfl rfl (by decide) (by decide) ⟨_, rfl, N2, Kp_5⟩
theorem pd_19 : parseMethodDescriptor "(III)V" = some ⟨[.int, .int, .int], none⟩ := by decide +kernel
theorem pd_20 : parseMethodDescriptor "(Ljava/util/ImmutableCollections$AbstractImmutableList;II)Ljava/util/ImmutableCollections$SubList;" = some ⟨[(.object "java/util/ImmutableCollections$AbstractImmutableList"), .int, .int], some (.object "java/util/ImmutableCollections$SubList")⟩ := by decide +kernel
theorem d31_0 : decode jdk_46_method_8_code 0 = .ok (.aload_n 0, 1) := by decide +kernel
theorem d31_1 : decode jdk_46_method_8_code 1 = .ok (.invokevirtual 13, 3) := by decide +kernel
theorem d31_4 : decode jdk_46_method_8_code 4 = .ok (.istore_n 3, 1) := by decide +kernel
theorem d31_5 : decode jdk_46_method_8_code 5 = .ok (.iload_n 1, 1) := by decide +kernel
theorem d31_6 : decode jdk_46_method_8_code 6 = .ok (.iload_n 2, 1) := by decide +kernel
theorem d31_7 : decode jdk_46_method_8_code 7 = .ok (.iload_n 3, 1) := by decide +kernel
theorem d31_8 : decode jdk_46_method_8_code 8 = .ok (.invokestatic 19, 3) := by decide +kernel
theorem d31_11 : decode jdk_46_method_8_code 11 = .ok (.aload_n 0, 1) := by decide +kernel
theorem d31_12 : decode jdk_46_method_8_code 12 = .ok (.iload_n 1, 1) := by decide +kernel
theorem d31_13 : decode jdk_46_method_8_code 13 = .ok (.iload_n 2, 1) := by decide +kernel
theorem d31_14 : decode jdk_46_method_8_code 14 = .ok (.invokestatic 23, 3) := by decide +kernel
theorem d31_17 : decode jdk_46_method_8_code 17 = .ok (.areturn, 1) := by decide +kernel
theorem ef31a (m : MethodId) (x0 : Addr) (x1 : Int32) (x2 : Int32) : entryFrame m #[(.ref x0), (.int x1), (.int x2)] 4 = mkF m 0 #[.val (.ref x0), .val (.int x1), .val (.int x2), .unset] [] := by first | (simp [entryFrame, mkF, argsToLocals, Value.category]; done) | rfl
set_option maxRecDepth 65536 in
set_option maxHeartbeats 40000000 in
theorem rm31a (l : Launch) (Z : State) (a0 : Array Value) (hw : ∀ d ∈ tables_1, d.before a0 Z = true) (ws : List Jvm.Cond) (o0 : Addr) (p1 : Int32) (n : Int32) (em : Addr) (t : Addr) (h0 : Heap) (n0 : Nat) (Z0 : n0 ≤ h0.size) (E_o0 : Exa Z h0 o0 "java/util/ImmutableCollections$List12") (D0 : Old Z n0 h0) (S_sa : Sta Z Z.heap "java/util/ImmutableCollections$SubList" "$assertionsDisabled" "Z" (.int (1 : Int32))) (S_em : Sta Z Z.heap "java/util/ImmutableCollections" "EMPTY" "Ljava/lang/Object;" (.ref em)) (hq1 : ¬ p1 < (0 : Int32)) (hq3 : ¬ n < p1) (nte : t ≠ em) (H12 : (n = 1 ∧ Fld Z h0 o0 "java/util/ImmutableCollections$List12" "e1" "Ljava/lang/Object;" (.ref em)) ∨ (n = 2 ∧ Fld Z h0 o0 "java/util/ImmutableCollections$List12" "e1" "Ljava/lang/Object;" (.ref t))) :
  Cmet l Z (⟨"java/util/ImmutableCollections$AbstractImmutableList", "subList", "(II)Ljava/util/List;"⟩ : MethodName) jdk_46_method_8_code 4 (some (.object "java/util/List")) ws ({ frames := 6, cells := 1, slots := 3, locals := 78 } : Room) #[(.ref o0), (.int p1), (.int n)] h0 (fun v h' L => ∃ q, v = some (.ref q) ∧ Fr n0 L ∧ Keep h0 h' []) := by
 refine MetFree.of_bodySF (plainFor_of_name pn_2) hisR ?_
 intro p e s m args below meth c s₁ Bd hml0 hP hK
 obtain ⟨rfl, hZ, hh⟩ := hP
 have hx := Bd.exec
 have hlk : meth.locks = false := BodyLoose.notSynchronized Bd
 have hby := Bd.bytes
 have hml : c.maxLocals = 4 := hml0
 have hown : s.vm.findClass "java/util/ImmutableCollections$AbstractImmutableList" = some m.cls := findClass_of_methodNamed Bd.named
 have hnm := (name_of_methodNamed Bd.named Bd.method).1
 have X0 : Stand p l e ({ frames := 6, cells := 1, slots := 3, locals := 78 } : Room) s m #[(.ref o0), (.int p1), (.int n)] below meth c s₁ [] 0 0 := Stand.of_body Bd
 have e0 : s₁.heap = h0 := by rw [← hh, Bd.state]; rfl
 have N0 := Fr.nil n0
 show Fini p e below s (fun v h' L => ∃ q, v = some (.ref q) ∧ Fr n0 L ∧ Keep h0 h' []) _ _ s₁ (entryFrame m #[(.ref o0), (.int p1), (.int n)] 4)
 refine Fini.cast (ef31a m o0 p1 n) ?_
 show Fini _ _ _ _ _ _ _ s₁ (mkF m 0 #[vr o0, vi p1, vi n, su] [])
 refine fAN X0 hx hby d31_0 rfl rfl rfl ?_
 obtain ⟨T1, X1, e1, st1⟩ := pureVU X0 hx hZ hown (wq hw (i := 240) rfl) (wq hw (i := 241) rfl) (wq hw (i := 242) rfl) (by decide) (wq hw (i := 243) rfl) (wq hw (i := 227) rfl) (wq hw (i := 197) rfl) (wq hw (i := 231) rfl) E_o0 (by decide) (c30 l Z a0 hw h0 (n := n) (Sta.ext D0.2 S_em) nte H12) e0 (W := 0) (by decide) (by decide) (by decide) (by decide) (g := (mkF m 1 #[vr o0, vi p1, vi n, su] [(.ref o0)])) rfl (by rw [hml]; rfl) (argsL := []) (rest := []) rfl (lenOf pd_7 rfl) rfl (by show 2 * 0 + _ ≤ _; exact Nat.le_of_eq rfl) (hb hby d31_1)
 refine Fini.st st1 ?_
 show Fini _ _ _ _ _ _ _ T1 (mkF m 4 #[vr o0, vi p1, vi n, su] [(.int n)])
 refine Fini.st (fun _ k => XS.istoreN X1.here hx rfl (hb hby d31_4) rfl (l' := #[vr o0, vi p1, vi n, vi n]) rfl k) ?_
 refine fIN X1 hx hby d31_5 rfl rfl ?_
 refine fIN X1 hx hby d31_6 rfl rfl ?_
 refine fIN X1 hx hby d31_7 rfl rfl ?_
 obtain ⟨v2, T2, L2, X2, hQ2, st2⟩ := callQ X1 hx hZ hown (wq hw (i := 244) rfl) (wq hw (i := 245) rfl) (wq hw (i := 206) rfl) (wq hw (i := 246) rfl) (by decide) (rm32 l Z a0 hw [] p1 n n h0 n0 Z0 hq1 (own_ir n) hq3) e1 (W := 0) (by decide) (by decide) (by decide) (by decide) (g := (mkF m 8 #[vr o0, vi p1, vi n, vi n] [(.int n), (.int n), (.int p1)])) rfl (by rw [hml]; rfl) (argsL := [(.int p1), (.int n), (.int n)]) (rest := []) rfl (lenOf pd_19 rfl) rfl (by show 2 * 0 + _ ≤ _; exact Nat.le_of_eq rfl) (hb hby d31_8)
 obtain ⟨rfl, hh2, rfl⟩ := hQ2
 have K2 : Keep h0 T2.heap [] := by rw [hh2]; exact Keep.refl _ _
 have Nq2 := Fr.nil n0
 have N2 := Fr.app N0 Nq2
 refine Fini.st st2 ?_
 show Fini _ _ _ _ _ _ _ T2 (mkF m 11 #[vr o0, vi p1, vi n, vi n] [])
 refine fAN X2 hx hby d31_11 rfl rfl rfl ?_
 refine fIN X2 hx hby d31_12 rfl rfl ?_
 refine fIN X2 hx hby d31_13 rfl rfl ?_
 have Zs_4 : n0 ≤ T2.heap.size := (Nat.le_trans Z0 K2.1)
 have Od_5 : Old Z n0 T2.heap := (Old.keep D0 K2 all0)
 obtain ⟨v3, T3, L3, X3, hQ3, st3⟩ := callQ X2 hx hZ hown (wq hw (i := 247) rfl) (wq hw (i := 248) rfl) (wq hw (i := 249) rfl) (wq hw (i := 250) rfl) (by decide) (rm33 l Z a0 hw [] o0 p1 n T2.heap n0 Zs_4 Od_5 S_sa) rfl (W := 0) (by decide) (by decide) (by decide) (by decide) (g := (mkF m 14 #[vr o0, vi p1, vi n, vi n] [(.int n), (.int p1), (.ref o0)])) rfl (by rw [hml]; rfl) (argsL := [(.ref o0), (.int p1), (.int n)]) (rest := []) rfl (lenOf pd_20 rfl) rfl (by show 2 * 0 + _ ≤ _; exact Nat.le_of_eq rfl) (hb hby d31_14)
 obtain ⟨b3, rfl, Nq3, K3⟩ := hQ3
 have N3 := Fr.app N2 Nq3
 refine Fini.st st3 ?_
 show Fini _ _ _ _ _ _ _ T3 (mkF m 17 #[vr o0, vi p1, vi n, vi n] [(.ref b3)])
 have Kp_6 : Keep h0 T3.heap [] := (Keep.trans (Keep.trans (Keep.refl h0 []) K2 all0) K3 all0)
 exact Fini.retA X3 hx hlk Bd.returns rfl (hb hby d31_17) rfl rfl (by decide) (by decide) ⟨_, rfl, N3, Kp_6⟩
theorem ef31b (m : MethodId) (x0 : Addr) (x1 : Int32) (x2 : Int32) : entryFrame m #[(.ref x0), (.int x1), (.int x2)] 4 = mkF m 0 #[.val (.ref x0), .val (.int x1), .val (.int x2), .unset] [] := by first | (simp [entryFrame, mkF, argsToLocals, Value.category]; done) | rfl
set_option maxRecDepth 65536 in
set_option maxHeartbeats 40000000 in
theorem rm31b (l : Launch) (Z : State) (a0 : Array Value) (hw : ∀ d ∈ tables_1, d.before a0 Z = true) (ws : List Jvm.Cond) (o0 : Addr) (p1 : Int32) (n : Int32) (ar : Addr) (w : Nat → Value) (h0 : Heap) (n0 : Nat) (Z0 : n0 ≤ h0.size) (E_o0 : Exa Z h0 o0 "java/util/ImmutableCollections$ListN") (D0 : Old Z n0 h0) (S_sa : Sta Z Z.heap "java/util/ImmutableCollections$SubList" "$assertionsDisabled" "Z" (.int (1 : Int32))) (F_el : Fld Z h0 o0 "java/util/ImmutableCollections$ListN" "elements" "[Ljava/lang/Object;" (.ref ar)) (A_ar : AryR Z h0 ar "java/lang/Object" n w) (hq1 : ¬ p1 < (0 : Int32)) (hq3 : ¬ n < p1) :
  Cmet l Z (⟨"java/util/ImmutableCollections$AbstractImmutableList", "subList", "(II)Ljava/util/List;"⟩ : MethodName) jdk_46_method_8_code 4 (some (.object "java/util/List")) ws ({ frames := 6, cells := 1, slots := 3, locals := 78 } : Room) #[(.ref o0), (.int p1), (.int n)] h0 (fun v h' L => ∃ q, v = some (.ref q) ∧ Fr n0 L ∧ Keep h0 h' []) := by
 refine MetFree.of_bodySF (plainFor_of_name pn_2) hisR ?_
 intro p e s m args below meth c s₁ Bd hml0 hP hK
 obtain ⟨rfl, hZ, hh⟩ := hP
 have hx := Bd.exec
 have hlk : meth.locks = false := BodyLoose.notSynchronized Bd
 have hby := Bd.bytes
 have hml : c.maxLocals = 4 := hml0
 have hown : s.vm.findClass "java/util/ImmutableCollections$AbstractImmutableList" = some m.cls := findClass_of_methodNamed Bd.named
 have hnm := (name_of_methodNamed Bd.named Bd.method).1
 have X0 : Stand p l e ({ frames := 6, cells := 1, slots := 3, locals := 78 } : Room) s m #[(.ref o0), (.int p1), (.int n)] below meth c s₁ [] 0 0 := Stand.of_body Bd
 have e0 : s₁.heap = h0 := by rw [← hh, Bd.state]; rfl
 have N0 := Fr.nil n0
 show Fini p e below s (fun v h' L => ∃ q, v = some (.ref q) ∧ Fr n0 L ∧ Keep h0 h' []) _ _ s₁ (entryFrame m #[(.ref o0), (.int p1), (.int n)] 4)
 refine Fini.cast (ef31b m o0 p1 n) ?_
 show Fini _ _ _ _ _ _ _ s₁ (mkF m 0 #[vr o0, vi p1, vi n, su] [])
 refine fAN X0 hx hby d31_0 rfl rfl rfl ?_
 obtain ⟨T1, X1, e1, st1⟩ := pureVU X0 hx hZ hown (wq hw (i := 240) rfl) (wq hw (i := 241) rfl) (wq hw (i := 242) rfl) (by decide) (wq hw (i := 324) rfl) (wq hw (i := 317) rfl) (wq hw (i := 303) rfl) (wq hw (i := 321) rfl) E_o0 (by decide) (rm40 l Z a0 hw [] o0 ar n w h0 F_el A_ar) e0 (W := 0) (by decide) (by decide) (by decide) (by decide) (g := (mkF m 1 #[vr o0, vi p1, vi n, su] [(.ref o0)])) rfl (by rw [hml]; rfl) (argsL := []) (rest := []) rfl (lenOf pd_7 rfl) rfl (by show 2 * 0 + _ ≤ _; exact Nat.le_of_eq rfl) (hb hby d31_1)
 refine Fini.st st1 ?_
 show Fini _ _ _ _ _ _ _ T1 (mkF m 4 #[vr o0, vi p1, vi n, su] [(.int n)])
 refine Fini.st (fun _ k => XS.istoreN X1.here hx rfl (hb hby d31_4) rfl (l' := #[vr o0, vi p1, vi n, vi n]) rfl k) ?_
 refine fIN X1 hx hby d31_5 rfl rfl ?_
 refine fIN X1 hx hby d31_6 rfl rfl ?_
 refine fIN X1 hx hby d31_7 rfl rfl ?_
 obtain ⟨v2, T2, L2, X2, hQ2, st2⟩ := callQ X1 hx hZ hown (wq hw (i := 244) rfl) (wq hw (i := 245) rfl) (wq hw (i := 206) rfl) (wq hw (i := 246) rfl) (by decide) (rm32 l Z a0 hw [] p1 n n h0 n0 Z0 hq1 (own_ir n) hq3) e1 (W := 0) (by decide) (by decide) (by decide) (by decide) (g := (mkF m 8 #[vr o0, vi p1, vi n, vi n] [(.int n), (.int n), (.int p1)])) rfl (by rw [hml]; rfl) (argsL := [(.int p1), (.int n), (.int n)]) (rest := []) rfl (lenOf pd_19 rfl) rfl (by show 2 * 0 + _ ≤ _; exact Nat.le_of_eq rfl) (hb hby d31_8)
 obtain ⟨rfl, hh2, rfl⟩ := hQ2
 have K2 : Keep h0 T2.heap [] := by rw [hh2]; exact Keep.refl _ _
 have Nq2 := Fr.nil n0
 have N2 := Fr.app N0 Nq2
 refine Fini.st st2 ?_
 show Fini _ _ _ _ _ _ _ T2 (mkF m 11 #[vr o0, vi p1, vi n, vi n] [])
 refine fAN X2 hx hby d31_11 rfl rfl rfl ?_
 refine fIN X2 hx hby d31_12 rfl rfl ?_
 refine fIN X2 hx hby d31_13 rfl rfl ?_
 have Zs_4 : n0 ≤ T2.heap.size := (Nat.le_trans Z0 K2.1)
 have Od_5 : Old Z n0 T2.heap := (Old.keep D0 K2 all0)
 obtain ⟨v3, T3, L3, X3, hQ3, st3⟩ := callQ X2 hx hZ hown (wq hw (i := 247) rfl) (wq hw (i := 248) rfl) (wq hw (i := 249) rfl) (wq hw (i := 250) rfl) (by decide) (rm33 l Z a0 hw [] o0 p1 n T2.heap n0 Zs_4 Od_5 S_sa) rfl (W := 0) (by decide) (by decide) (by decide) (by decide) (g := (mkF m 14 #[vr o0, vi p1, vi n, vi n] [(.int n), (.int p1), (.ref o0)])) rfl (by rw [hml]; rfl) (argsL := [(.ref o0), (.int p1), (.int n)]) (rest := []) rfl (lenOf pd_20 rfl) rfl (by show 2 * 0 + _ ≤ _; exact Nat.le_of_eq rfl) (hb hby d31_14)
 obtain ⟨b3, rfl, Nq3, K3⟩ := hQ3
 have N3 := Fr.app N2 Nq3
 refine Fini.st st3 ?_
 show Fini _ _ _ _ _ _ _ T3 (mkF m 17 #[vr o0, vi p1, vi n, vi n] [(.ref b3)])
 have Kp_6 : Keep h0 T3.heap [] := (Keep.trans (Keep.trans (Keep.refl h0 []) K2 all0) K3 all0)
 exact Fini.retA X3 hx hlk Bd.returns rfl (hb hby d31_17) rfl rfl (by decide) (by decide) ⟨_, rfl, N3, Kp_6⟩
section Own1
variable {Z : State} {h h' : Heap} {B : Nat} {t b o : Addr} {S : Nat → Int32 → Prop} {u w : Nat → Value} {y : Value} {i k n6 j : Int32}
def FT (k : Nat) (u : Nat → Value) (t : Addr) : Prop := ∀ i, i < k → u i = .ref t
theorem FT.zero (u : Nat → Value) (t : Addr) : FT 0 u t := fun _ q => nomatch q
theorem FT.step {k : Nat} (F : FT k u t) : FT (k + 1) (upd u k (.ref t)) t := fun i hi => by
 by_cases q : i = k
 ·
  rw [upd_eq q]
 ·
  rw [upd_ne q]; exact F i (by omega)
def WV (Z : State) (h : Heap) (B k : Nat) (w : Nat → Value) (S : Nat → Int32 → Prop) : Prop := ∀ i, i < k → ∃ (ar : Addr) (n : Int32) (v : Nat → Int32), w i = .ref ar ∧ ar < B ∧ AryI Z h ar .int n v ∧ ¬ (3 : Int32) < n ∧ Mem n v (S i)
theorem WV.zero (Z : State) (h : Heap) (B : Nat) (S : Nat → Int32 → Prop) (w : Nat → Value) : WV Z h B 0 w S := fun _ q => nomatch q
theorem WV.step {k : Nat} (F : WV Z h B k w S) (E : ∃ (ar : Addr) (n : Int32) (v : Nat → Int32), y = .ref ar ∧ ar < B ∧ AryI Z h ar .int n v ∧ ¬ (3 : Int32) < n ∧ Mem n v (S k)) : WV Z h B (k + 1) (upd w k y) S := fun i hi => by
 by_cases q : i = k
 ·
  rw [upd_eq q, q]; exact E
 ·
  rw [upd_ne q]; exact F i (by omega)
theorem WV.other {k x : Nat} (F : WV Z h B k w S) (q : k ≤ x) : WV Z h B k (upd w x y) S := fun i hi => by
 rw [upd_ne (by omega)]; exact F i hi
def WT (k i : Nat) (w : Nat → Value) (b : Addr) : Prop := ∀ x, k ≤ x → x < k + i → w x = .ref b
theorem WT.zero (k : Nat) (w : Nat → Value) (b : Addr) : WT k 0 w b := fun x h1 h2 => by omega
theorem WT.step {k i x : Nat} (F : WT k i w b) (e : x = k + i) : WT k (i + 1) (upd w x (.ref b)) b := fun z h1 h2 => by
 by_cases q : z = x
 ·
  rw [upd_eq q]
 ·
  rw [upd_ne q]; exact F z h1 (by omega)
def ID (k : Nat) (u : Nat → Int32) : Prop := ∀ i, i < k → u i = Int32.ofNat i
theorem ID.zero (u : Nat → Int32) : ID 0 u := fun _ q => nomatch q
theorem ID.step {k : Nat} {u : Nat → Int32} {x : Int32} (F : ID k u) (e : x = Int32.ofNat k) : ID (k + 1) (upd u k x) := fun i hi => by
 by_cases q : i = k
 ·
  rw [upd_eq q, q]; exact e
 ·
  rw [upd_ne q]; exact F i (by omega)
theorem MVn.zero (Z : State) (h : Heap) (B : Nat) (t : Addr) (u : Nat → Value) (S : Nat → Int32 → Prop) : MVn Z h B t 0 u S := fun _ q => nomatch q
theorem MVn.step {k : Nat} (F : MVn Z h B t k u S) (E : ∃ (m ar : Addr) (n : Int32) (v : Nat → Int32), y = .ref m ∧ m < B ∧ ar < B ∧ Exa Z h m kMv ∧ Fld Z h m kMv "transition" "Lcom/example/firm_handshake/firmhandshake/model/Transition;" (.ref t) ∧
  Fld Z h m kMv "outrankedBy" "[I" (.ref ar) ∧ Exa Z h ar "[I" ∧ AryI Z h ar .int n v ∧ ¬ (3 : Int32) < n ∧ Mem n v (S k)) : MVn Z h B t (k + 1) (upd u k y) S := fun i hi => by
 by_cases q : i = k
 ·
  rw [upd_eq q, q]; exact E
 ·
  rw [upd_ne q]; exact F i (by omega)
theorem own_k0 (a : ¬ k < 0) (c : ¬ (0 : Int32) < k) : k = 0 := by
 rw [Int32.lt_iff_toInt_lt] at *; simp only [← Int32.toInt_inj]; omega
theorem own_k1 (a : (0 : Int32) < k) (c : ¬ (1 : Int32) < k) : k = 1 := by
 rw [Int32.lt_iff_toInt_lt] at *; simp only [← Int32.toInt_inj]; have t0 : (0 : Int32).toInt = 0 := rfl; have t1 : (1 : Int32).toInt = 1 := rfl; omega
theorem own_k2 (a : (1 : Int32) < k) (c : ¬ (2 : Int32) < k) : k = 2 := by
 rw [Int32.lt_iff_toInt_lt] at *; simp only [← Int32.toInt_inj]; have t0 : (2 : Int32).toInt = 2 := rfl; have t1 : (1 : Int32).toInt = 1 := rfl; omega
theorem own_k3 (a : (2 : Int32) < k) (c : ¬ (3 : Int32) < k) : k = 3 := by
 rw [Int32.lt_iff_toInt_lt] at *; simp only [← Int32.toInt_inj]; have t0 : (2 : Int32).toInt = 2 := rfl; have t1 : (3 : Int32).toInt = 3 := rfl; omega
theorem own_q0 (a : ¬ k < 0) (c : k < (1 : Int32)) : k = 0 := by
 rw [Int32.lt_iff_toInt_lt] at *; simp only [← Int32.toInt_inj]; have t0 : (0 : Int32).toInt = 0 := rfl; have t1 : (1 : Int32).toInt = 1 := rfl; omega
theorem own_q1 (a : ¬ k < (1 : Int32)) (c : k < (2 : Int32)) : k = 1 := by
 rw [Int32.lt_iff_toInt_lt] at *; simp only [← Int32.toInt_inj]; have t0 : (2 : Int32).toInt = 2 := rfl; have t1 : (1 : Int32).toInt = 1 := rfl; omega
theorem own_q2 (a : ¬ k < (2 : Int32)) (c : k < (3 : Int32)) : k = 2 := by
 rw [Int32.lt_iff_toInt_lt] at *; simp only [← Int32.toInt_inj]; have t0 : (2 : Int32).toInt = 2 := rfl; have t1 : (3 : Int32).toInt = 3 := rfl; omega
theorem own_t2 (a : ¬ k < (2 : Int32)) (c : ¬ (2 : Int32) < k) : k = 2 := by
 rw [Int32.lt_iff_toInt_lt] at *; simp only [← Int32.toInt_inj]; omega
theorem own_t3 (a : ¬ k < (3 : Int32)) (c : ¬ (3 : Int32) < k) : k = 3 := by
 rw [Int32.lt_iff_toInt_lt] at *; simp only [← Int32.toInt_inj]; omega
theorem own_s3 (a : ¬ (3 : Int32) < k) : k < (1000 : Int32) := by
 rw [Int32.lt_iff_toInt_lt] at *; have t0 : (3 : Int32).toInt = 3 := rfl; have t1 : (1000 : Int32).toInt = 1000 := rfl; omega
theorem own_s2' (a : ¬ (2 : Int32) < k) : k < (1000 : Int32) := by
 rw [Int32.lt_iff_toInt_lt] at *; have t0 : (2 : Int32).toInt = 2 := rfl; have t1 : (1000 : Int32).toInt = 1000 := rfl; omega
theorem own_sum (hk0 : ¬ k < 0) (hk : ¬ (3 : Int32) < k) (hj0 : ¬ j < 0) (hj : ¬ (2 : Int32) < j) : (k + j).toInt = k.toInt + j.toInt := own_add hk0 (own_s3 hk) hj0 (own_s2' hj)
theorem own_kj (hk0 : ¬ k < 0) (hk : ¬ (3 : Int32) < k) (hj0 : ¬ j < 0) (hj : ¬ (2 : Int32) < j) : ¬ (k + j) < 0 ∧ ¬ (5 : Int32) < (k + j) := by
 have e := own_sum hk0 hk hj0 hj
 rw [Int32.lt_iff_toInt_lt] at *
 rw [Int32.lt_iff_toInt_lt, e]
 have t0 : (0 : Int32).toInt = 0 := rfl
 have t2 : (2 : Int32).toInt = 2 := rfl
 have t3 : (3 : Int32).toInt = 3 := rfl
 have t5 : (5 : Int32).toInt = 5 := rfl
 omega
theorem own_ikj (c : i < k) (hk0 : ¬ k < 0) (hk : ¬ (3 : Int32) < k) (hj0 : ¬ j < 0) (hj : ¬ (2 : Int32) < j) : i < (k + j) := by
 have e := own_sum hk0 hk hj0 hj
 rw [Int32.lt_iff_toInt_lt] at *
 have t0 : (0 : Int32).toInt = 0 := rfl
 omega
theorem own_kle (hk0 : ¬ k < 0) (hk : ¬ (3 : Int32) < k) (hj0 : ¬ j < 0) (hj : ¬ (2 : Int32) < j) : ¬ (k + j) < k := by
 have e := own_sum hk0 hk hj0 hj
 rw [Int32.lt_iff_toInt_lt] at *
 have t0 : (0 : Int32).toInt = 0 := rfl
 omega
theorem own_kiin (c : i < j) (hi : ¬ i < 0) (hk0 : ¬ k < 0) (hk : ¬ (3 : Int32) < k) (hj0 : ¬ j < 0) (hj : ¬ (2 : Int32) < j) : ¬ (k + i) < 0 ∧ (k + i) < (k + j) := by
 have e := own_sum hk0 hk hj0 hj
 have e2 := own_add hk0 (own_s3 hk) hi (Int32.lt_trans c (own_s2' hj))
 rw [Int32.lt_iff_toInt_lt] at *
 rw [Int32.lt_iff_toInt_lt, e, e2]
 have t0 : (0 : Int32).toInt = 0 := rfl
 omega
theorem own_a0 (en : n6 = k) (hk0 : ¬ k < 0) (hk : ¬ (3 : Int32) < k) : n6 < (10 : Int32) := by
 subst en
 rw [Int32.lt_iff_toInt_lt] at *; have t0 : (3 : Int32).toInt = 3 := rfl; have t1 : (10 : Int32).toInt = 10 := rfl; omega
theorem own_a1 (en : n6 = k) (hk0 : ¬ k < 0) (hk : ¬ (3 : Int32) < k) : (n6 + (1 : Int32)) < (10 : Int32) := by
 subst en
 have e := own_add hk0 (own_s3 hk) (b := 1) (by decide) (by decide)
 rw [Int32.lt_iff_toInt_lt] at *; have t0 : (3 : Int32).toInt = 3 := rfl; have t1 : (10 : Int32).toInt = 10 := rfl; have t2 : (1 : Int32).toInt = 1 := rfl; omega
theorem own_n6_0 (en : n6 = k) : n6 = k + (0 : Int32) := by rw [Int32.add_zero]; exact en
theorem own_n6_1 (en : n6 = k) : n6 + (1 : Int32) = k + (1 : Int32) := by rw [en]
theorem own_n6_2 (en : n6 = k) : (n6 + (1 : Int32)) + (1 : Int32) = k + (2 : Int32) := by rw [en, Int32.add_assoc]; rfl
theorem own_nat1 (hk0 : ¬ k < 0) (hk : ¬ (3 : Int32) < k) : (k + (1 : Int32)).toNatClampNeg = k.toNatClampNeg + 1 := by
 have e := own_add hk0 (own_s3 hk) (b := 1) (by decide) (by decide)
 rw [Int32.lt_iff_toInt_lt] at hk0
 have t0 : (0 : Int32).toInt = 0 := rfl
 have t1 : (1 : Int32).toInt = 1 := rfl
 simp only [Int32.toNatClampNeg, e]; omega
theorem own_nat2 (hk0 : ¬ k < 0) (hk : ¬ (3 : Int32) < k) : (k + (2 : Int32)).toNatClampNeg = k.toNatClampNeg + 2 := by
 have e := own_add hk0 (own_s3 hk) (b := 2) (by decide) (by decide)
 rw [Int32.lt_iff_toInt_lt] at hk0
 have t0 : (0 : Int32).toInt = 0 := rfl
 have t1 : (2 : Int32).toInt = 2 := rfl
 simp only [Int32.toNatClampNeg, e]; omega
theorem own_ft0 (hk0 : ¬ k < 0) (hk : ¬ (3 : Int32) < k) (en : n6 = k) (F : FT k.toNatClampNeg u t) : FT (k + (0 : Int32)).toNatClampNeg u t := by rw [Int32.add_zero]; exact F
theorem own_ft1 (hk0 : ¬ k < 0) (hk : ¬ (3 : Int32) < k) (en : n6 = k) (F : FT k.toNatClampNeg u t) : FT (k + (1 : Int32)).toNatClampNeg (upd u (n6).toNatClampNeg (.ref t)) t := by
 rw [own_nat1 hk0 hk, en]; exact F.step
theorem own_ft2 (hk0 : ¬ k < 0) (hk : ¬ (3 : Int32) < k) (en : n6 = k) (F : FT k.toNatClampNeg u t) : FT (k + (2 : Int32)).toNatClampNeg (upd (upd u (n6).toNatClampNeg (.ref t)) ((n6 + (1 : Int32))).toNatClampNeg (.ref t)) t := by
 rw [own_nat2 hk0 hk, en, own_nat1 hk0 hk]; exact F.step.step
theorem own_at0 (hk0 : ¬ k < 0) (hk : ¬ (3 : Int32) < k) : (k + (0 : Int32)).toNatClampNeg = k.toNatClampNeg + 0 := by rw [Int32.add_zero, Nat.add_zero]
theorem own_at1 (hk0 : ¬ k < 0) (hk : ¬ (3 : Int32) < k) : (k + (1 : Int32)).toNatClampNeg = k.toNatClampNeg + 1 := own_nat1 hk0 hk
theorem own_ge0 (hk0 : ¬ k < 0) (hk : ¬ (3 : Int32) < k) : k.toNatClampNeg ≤ (k + (0 : Int32)).toNatClampNeg := by rw [own_at0 hk0 hk]; omega
theorem own_ge1 (hk0 : ¬ k < 0) (hk : ¬ (3 : Int32) < k) : k.toNatClampNeg ≤ (k + (1 : Int32)).toNatClampNeg := by rw [own_at1 hk0 hk]; omega
/-- what ranksAbove reads -/
def OUT (Z : State) (h : Heap) (k j : Int32) (w : Nat → Value) (S : Nat → Int32 → Prop) : Prop := ∀ i : Int32, ¬ i < 0 → i < (k + j) → ∃ (ar : Addr) (n : Int32) (v : Nat → Int32), w i.toNatClampNeg = .ref ar ∧ AryI Z h ar .int n v ∧ ¬ (3 : Int32) < n ∧ Mem n v (fun x => (i < k ∧ S i.toNatClampNeg x) ∨ (¬ i < k ∧ ¬ x < 0 ∧ x < k))
theorem own_out {b7 : Addr} {u7 : Nat → Int32} (wv : WV Z h B k.toNatClampNeg w S) (wt : WT k.toNatClampNeg j.toNatClampNeg w b7) (id : ID k.toNatClampNeg u7) (A7 : AryI Z h' b7 .int k u7) (K : Keep h h' [o]) (hB : B ≤ o) (hk0 : ¬ k < 0) (hk : ¬ (3 : Int32) < k) (hj0 : ¬ j < 0) (hj : ¬ (2 : Int32) < j) : OUT Z h' k j w S := fun i i0 i1 => by
 have e := own_sum hk0 hk hj0 hj
 have ni : i.toInt = i.toNatClampNeg := nat_of i0
 have nk : k.toInt = k.toNatClampNeg := nat_of hk0
 have nj : j.toInt = j.toNatClampNeg := nat_of hj0
 have i1' := Int32.lt_iff_toInt_lt.mp i1
 by_cases c : i < k
 ·
  have c' := Int32.lt_iff_toInt_lt.mp c
  obtain ⟨ar, n, v, f1, f2, f3, f4, f5⟩ := wv i.toNatClampNeg (by omega)
  refine ⟨ar, n, v, f1, f3.keep K (ninS (Nat.ne_of_lt (Nat.lt_of_lt_of_le f2 hB)) nin0), f4, fun x => (f5 x).trans ⟨fun q => Or.inl ⟨c, q⟩, fun q => q.elim (fun r => r.2) (fun r => absurd c r.1)⟩⟩
 ·
  have c' := (not_congr Int32.lt_iff_toInt_lt).mp c
  refine ⟨b7, k, u7, wt _ (by omega) (by omega), A7, hk, fun x => ⟨fun ⟨y, h1, h2⟩ => Or.inr ⟨c, ?_⟩, fun q => ?_⟩⟩
  ·
   have ex := id y h1
   have ly : y < 2147483648 := by
    have := (not_congr Int32.lt_iff_toInt_lt).mp hk
    have t3 : (3 : Int32).toInt = 3 := rfl
    omega
   have ey : x.toInt = y := by rw [← h2, ex]; exact len_toInt ly
   rw [Int32.lt_iff_toInt_lt, Int32.lt_iff_toInt_lt, ey, nk]
   have t0 : (0 : Int32).toInt = 0 := rfl
   omega
  ·
   rcases q with r | r
   ·
    exact absurd r.1 c
   ·
    have l := nat_lt ⟨r.2.1, r.2.2⟩
    have nx := nat_of r.2.1
    refine ⟨x.toNatClampNeg, l, ?_⟩
    rw [id _ l, ← Int32.toInt_inj, nx]
    exact len_toInt (by have := (not_congr Int32.lt_iff_toInt_lt).mp hk; have t3 : (3 : Int32).toInt = 3 := rfl; omega)
end Own1

theorem pd_21 : parseMethodDescriptor "(Ljava/lang/Object;)Z" = some ⟨[(.object "java/lang/Object")], some .boolean⟩ := by decide +kernel
theorem pd_22 : parseMethodDescriptor "(II)Ljava/util/List;" = some ⟨[.int, .int], some (.object "java/util/List")⟩ := by decide +kernel
theorem d13_0 : decode prog_118_method_1_code 0 = .ok (.aload_n 0, 1) := by decide +kernel
theorem d13_1 : decode prog_118_method_1_code 1 = .ok (.invokespecial 1, 3) := by decide +kernel
theorem d13_4 : decode prog_118_method_1_code 4 = .ok (.new 7, 3) := by decide +kernel
theorem d13_7 : decode prog_118_method_1_code 7 = .ok (.dup, 1) := by decide +kernel
theorem d13_8 : decode prog_118_method_1_code 8 = .ok (.invokespecial 9, 3) := by decide +kernel
theorem d13_11 : decode prog_118_method_1_code 11 = .ok (.astore 6, 2) := by decide +kernel
theorem d13_13 : decode prog_118_method_1_code 13 = .ok (.aload_n 0, 1) := by decide +kernel
theorem d13_14 : decode prog_118_method_1_code 14 = .ok (.aload_n 1, 1) := by decide +kernel
theorem d13_15 : decode prog_118_method_1_code 15 = .ok (.invokeinterface 10 1, 5) := by decide +kernel
theorem d13_20 : decode prog_118_method_1_code 20 = .ok (.aload_n 2, 1) := by decide +kernel
theorem d13_21 : decode prog_118_method_1_code 21 = .ok (.invokeinterface 10 1, 5) := by decide +kernel
theorem d13_26 : decode prog_118_method_1_code 26 = .ok (.iadd, 1) := by decide +kernel
theorem d13_27 : decode prog_118_method_1_code 27 = .ok (.anewarray 16, 3) := by decide +kernel
theorem d13_30 : decode prog_118_method_1_code 30 = .ok (.putfield 18, 3) := by decide +kernel
theorem d13_33 : decode prog_118_method_1_code 33 = .ok (.iconst 0, 1) := by decide +kernel
theorem d13_34 : decode prog_118_method_1_code 34 = .ok (.istore 7, 2) := by decide +kernel
theorem d13_36 : decode prog_118_method_1_code 36 = .ok (.iload 7, 2) := by decide +kernel
theorem d13_38 : decode prog_118_method_1_code 38 = .ok (.aload_n 1, 1) := by decide +kernel
theorem d13_39 : decode prog_118_method_1_code 39 = .ok (.invokeinterface 10 1, 5) := by decide +kernel
theorem d13_44 : decode prog_118_method_1_code 44 = .ok (.if_icmp .ge 47, 3) := by decide +kernel
theorem d13_47 : decode prog_118_method_1_code 47 = .ok (.aload_n 1, 1) := by decide +kernel
theorem d13_48 : decode prog_118_method_1_code 48 = .ok (.iload 7, 2) := by decide +kernel
theorem d13_50 : decode prog_118_method_1_code 50 = .ok (.invokeinterface 24 2, 5) := by decide +kernel
theorem d13_55 : decode prog_118_method_1_code 55 = .ok (.checkcast 28, 3) := by decide +kernel
theorem d13_58 : decode prog_118_method_1_code 58 = .ok (.astore 8, 2) := by decide +kernel
theorem d13_60 : decode prog_118_method_1_code 60 = .ok (.aload 6, 2) := by decide +kernel
theorem d13_62 : decode prog_118_method_1_code 62 = .ok (.aload 8, 2) := by decide +kernel
theorem d13_64 : decode prog_118_method_1_code 64 = .ok (.getfield 30, 3) := by decide +kernel
theorem d13_67 : decode prog_118_method_1_code 67 = .ok (.invokeinterface 34 2, 5) := by decide +kernel
theorem d13_72 : decode prog_118_method_1_code 72 = .ok (.pop, 1) := by decide +kernel
theorem d13_73 : decode prog_118_method_1_code 73 = .ok (.aload_n 0, 1) := by decide +kernel
theorem d13_74 : decode prog_118_method_1_code 74 = .ok (.getfield 18, 3) := by decide +kernel
theorem d13_77 : decode prog_118_method_1_code 77 = .ok (.iload 7, 2) := by decide +kernel
theorem d13_79 : decode prog_118_method_1_code 79 = .ok (.aload 8, 2) := by decide +kernel
theorem d13_81 : decode prog_118_method_1_code 81 = .ok (.getfield 38, 3) := by decide +kernel
theorem d13_84 : decode prog_118_method_1_code 84 = .ok (.aastore, 1) := by decide +kernel
theorem d13_85 : decode prog_118_method_1_code 85 = .ok (.iinc 7 1, 3) := by decide +kernel
theorem d13_88 : decode prog_118_method_1_code 88 = .ok (.goto (-52), 3) := by decide +kernel
theorem d13_91 : decode prog_118_method_1_code 91 = .ok (.aload_n 1, 1) := by decide +kernel
theorem d13_92 : decode prog_118_method_1_code 92 = .ok (.invokeinterface 10 1, 5) := by decide +kernel
theorem d13_97 : decode prog_118_method_1_code 97 = .ok (.newarray .int, 2) := by decide +kernel
theorem d13_99 : decode prog_118_method_1_code 99 = .ok (.astore 7, 2) := by decide +kernel
theorem d13_101 : decode prog_118_method_1_code 101 = .ok (.iconst 0, 1) := by decide +kernel
theorem d13_102 : decode prog_118_method_1_code 102 = .ok (.istore 8, 2) := by decide +kernel
theorem d13_104 : decode prog_118_method_1_code 104 = .ok (.iload 8, 2) := by decide +kernel
theorem d13_106 : decode prog_118_method_1_code 106 = .ok (.aload 7, 2) := by decide +kernel
theorem d13_108 : decode prog_118_method_1_code 108 = .ok (.arraylength, 1) := by decide +kernel
theorem d13_109 : decode prog_118_method_1_code 109 = .ok (.if_icmp .ge 16, 3) := by decide +kernel
theorem d13_112 : decode prog_118_method_1_code 112 = .ok (.aload 7, 2) := by decide +kernel
theorem d13_114 : decode prog_118_method_1_code 114 = .ok (.iload 8, 2) := by decide +kernel
theorem d13_116 : decode prog_118_method_1_code 116 = .ok (.iload 8, 2) := by decide +kernel
theorem d13_118 : decode prog_118_method_1_code 118 = .ok (.iastore, 1) := by decide +kernel
theorem d13_119 : decode prog_118_method_1_code 119 = .ok (.iinc 8 1, 3) := by decide +kernel
theorem d13_122 : decode prog_118_method_1_code 122 = .ok (.goto (-18), 3) := by decide +kernel
theorem d13_125 : decode prog_118_method_1_code 125 = .ok (.iconst 0, 1) := by decide +kernel
theorem d13_126 : decode prog_118_method_1_code 126 = .ok (.istore 8, 2) := by decide +kernel
theorem d13_128 : decode prog_118_method_1_code 128 = .ok (.iload 8, 2) := by decide +kernel
theorem d13_130 : decode prog_118_method_1_code 130 = .ok (.aload_n 2, 1) := by decide +kernel
theorem d13_131 : decode prog_118_method_1_code 131 = .ok (.invokeinterface 10 1, 5) := by decide +kernel
theorem d13_136 : decode prog_118_method_1_code 136 = .ok (.if_icmp .ge 44, 3) := by decide +kernel
theorem d13_139 : decode prog_118_method_1_code 139 = .ok (.aload 6, 2) := by decide +kernel
theorem d13_141 : decode prog_118_method_1_code 141 = .ok (.aload_n 2, 1) := by decide +kernel
theorem d13_142 : decode prog_118_method_1_code 142 = .ok (.iload 8, 2) := by decide +kernel
theorem d13_144 : decode prog_118_method_1_code 144 = .ok (.invokeinterface 24 2, 5) := by decide +kernel
theorem d13_149 : decode prog_118_method_1_code 149 = .ok (.checkcast 41, 3) := by decide +kernel
theorem d13_152 : decode prog_118_method_1_code 152 = .ok (.invokeinterface 34 2, 5) := by decide +kernel
theorem d13_157 : decode prog_118_method_1_code 157 = .ok (.pop, 1) := by decide +kernel
theorem d13_158 : decode prog_118_method_1_code 158 = .ok (.aload_n 0, 1) := by decide +kernel
theorem d13_159 : decode prog_118_method_1_code 159 = .ok (.getfield 18, 3) := by decide +kernel
theorem d13_162 : decode prog_118_method_1_code 162 = .ok (.aload_n 1, 1) := by decide +kernel
theorem d13_163 : decode prog_118_method_1_code 163 = .ok (.invokeinterface 10 1, 5) := by decide +kernel
theorem d13_168 : decode prog_118_method_1_code 168 = .ok (.iload 8, 2) := by decide +kernel
theorem d13_170 : decode prog_118_method_1_code 170 = .ok (.iadd, 1) := by decide +kernel
theorem d13_171 : decode prog_118_method_1_code 171 = .ok (.aload 7, 2) := by decide +kernel
theorem d13_173 : decode prog_118_method_1_code 173 = .ok (.aastore, 1) := by decide +kernel
theorem d13_174 : decode prog_118_method_1_code 174 = .ok (.iinc 8 1, 3) := by decide +kernel
theorem d13_177 : decode prog_118_method_1_code 177 = .ok (.goto (-49), 3) := by decide +kernel
theorem d13_180 : decode prog_118_method_1_code 180 = .ok (.aload_n 0, 1) := by decide +kernel
theorem d13_181 : decode prog_118_method_1_code 181 = .ok (.aload 6, 2) := by decide +kernel
theorem d13_183 : decode prog_118_method_1_code 183 = .ok (.invokestatic 43, 3) := by decide +kernel
theorem d13_186 : decode prog_118_method_1_code 186 = .ok (.putfield 47, 3) := by decide +kernel
theorem d13_189 : decode prog_118_method_1_code 189 = .ok (.aload_n 0, 1) := by decide +kernel
theorem d13_190 : decode prog_118_method_1_code 190 = .ok (.aload_n 0, 1) := by decide +kernel
theorem d13_191 : decode prog_118_method_1_code 191 = .ok (.getfield 47, 3) := by decide +kernel
theorem d13_194 : decode prog_118_method_1_code 194 = .ok (.aload_n 1, 1) := by decide +kernel
theorem d13_195 : decode prog_118_method_1_code 195 = .ok (.invokeinterface 10 1, 5) := by decide +kernel
theorem d13_200 : decode prog_118_method_1_code 200 = .ok (.aload_n 0, 1) := by decide +kernel
theorem d13_201 : decode prog_118_method_1_code 201 = .ok (.getfield 47, 3) := by decide +kernel
theorem d13_204 : decode prog_118_method_1_code 204 = .ok (.invokeinterface 10 1, 5) := by decide +kernel
theorem d13_209 : decode prog_118_method_1_code 209 = .ok (.invokeinterface 51 3, 5) := by decide +kernel
theorem d13_214 : decode prog_118_method_1_code 214 = .ok (.putfield 55, 3) := by decide +kernel
theorem d13_217 : decode prog_118_method_1_code 217 = .ok (.aload_n 0, 1) := by decide +kernel
theorem d13_218 : decode prog_118_method_1_code 218 = .ok (.iload_n 3, 1) := by decide +kernel
theorem d13_219 : decode prog_118_method_1_code 219 = .ok (.putfield 58, 3) := by decide +kernel
theorem d13_222 : decode prog_118_method_1_code 222 = .ok (.aload_n 0, 1) := by decide +kernel
theorem d13_223 : decode prog_118_method_1_code 223 = .ok (.iload 4, 2) := by decide +kernel
theorem d13_225 : decode prog_118_method_1_code 225 = .ok (.putfield 62, 3) := by decide +kernel
theorem d13_228 : decode prog_118_method_1_code 228 = .ok (.aload_n 0, 1) := by decide +kernel
theorem d13_229 : decode prog_118_method_1_code 229 = .ok (.aload 5, 2) := by decide +kernel
theorem d13_231 : decode prog_118_method_1_code 231 = .ok (.invokestatic 43, 3) := by decide +kernel
theorem d13_234 : decode prog_118_method_1_code 234 = .ok (.putfield 66, 3) := by decide +kernel
theorem d13_237 : decode prog_118_method_1_code 237 = .ok (.aload_n 0, 1) := by decide +kernel
theorem d13_238 : decode prog_118_method_1_code 238 = .ok (.aload_n 0, 1) := by decide +kernel
theorem d13_239 : decode prog_118_method_1_code 239 = .ok (.getfield 66, 3) := by decide +kernel
theorem d13_242 : decode prog_118_method_1_code 242 = .ok (.putfield 69, 3) := by decide +kernel
theorem d13_245 : decode prog_118_method_1_code 245 = .ok (.return_, 1) := by decide +kernel
theorem ef13 (m : MethodId) (x0 : Addr) (x1 : Addr) (x2 : Addr) (x3 : Int32) (x4 : Int32) (x5 : Addr) : entryFrame m #[(.ref x0), (.ref x1), (.ref x2), (.int x3), (.int x4), (.ref x5)] 9 = mkF m 0 #[.val (.ref x0), .val (.ref x1), .val (.ref x2), .val (.int x3), .val (.int x4), .val (.ref x5), .unset, .unset, .unset] [] := by first | (simp [entryFrame, mkF, argsToLocals, Value.category]; done) | rfl
set_option maxRecDepth 65536 in
set_option maxHeartbeats 40000000 in
theorem rm13 (l : Launch) (Z : State) (a0 : Array Value) (hw : ∀ d ∈ tables_1, d.before a0 Z = true) (ws : List Jvm.Cond) (o0 : Addr) (o1 : Addr) (o2 : Addr) (o5 : Addr) (dd : Addr) (xa1 : Addr) (xa2 : Addr) (t : Addr) (em : Addr) (el : Addr) (mr : Addr) (k : Int32) (j : Int32) (u1 : Nat → Value) (u2 : Nat → Value) (Bm : Nat) (S : Nat → Int32 → Prop) (h0 : Heap) (n0 : Nat) (Z0 : n0 ≤ h0.size) (E_o0 : Exa Z h0 o0 kLo) (F_outranking : Fld Z h0 o0 kLo "outranking" "[[I" .null) (F_transitions : Fld Z h0 o0 kLo "transitions" "Ljava/util/List;" .null) (F_ownTransitions : Fld Z h0 o0 kLo "ownTransitions" "Ljava/util/List;" .null) (F_line : Fld Z h0 o0 kLo "line" "I" (.int (0 : Int32))) (F_end : Fld Z h0 o0 kLo "end" "Z" (.int (0 : Int32))) (F_labels : Fld Z h0 o0 kLo "labels" "Ljava/util/List;" .null) (F_counting : Fld Z h0 o0 kLo "counting" "Ljava/util/List;" .null) (A_o1 : ALs Z n0 dd h0 o1 xa1 k u1) (A_o2 : ALs Z n0 dd h0 o2 xa2 j u2) (A_o5 : ALs Z n0 dd h0 o5 dd (0 : Int32) (fun _ => .null)) (E_t : Exa Z h0 t kTr) (D0 : Old Z n0 h0) (S_dd : Sta Z Z.heap "java/util/ArrayList" "DEFAULTCAPACITY_EMPTY_ELEMENTDATA" "[Ljava/lang/Object;" (.ref dd)) (A_dd : AryQ Z Z.heap dd (0 : Int32)) (S_el : Sta Z Z.heap "java/util/ImmutableCollections" "EMPTY_LIST" "Ljava/util/ImmutableCollections$ListN;" (.ref el)) (S_em : Sta Z Z.heap "java/util/ImmutableCollections" "EMPTY" "Ljava/lang/Object;" (.ref em)) (S_sa : Sta Z Z.heap "java/util/ImmutableCollections$SubList" "$assertionsDisabled" "Z" (.int (1 : Int32))) (g0 : n0 ≤ o0) (n1 : o1 ≠ o0) (ne1 : xa1 ≠ o0) (n2 : o2 ≠ o0) (ne2 : xa2 ≠ o0) (n5 : o5 ≠ o0) (nd : dd ≠ o0) (hMV : MV Z h0 Bm t k u1 S) (hBm : Bm ≤ o0) (hu2 : FT j.toNatClampNeg u2 t) (hk0 : ¬ k < (0 : Int32)) (hk : ¬ (3 : Int32) < k) (hj0 : ¬ j < (0 : Int32)) (hj : ¬ (2 : Int32) < j) (hkj : ¬ (k + j) = 0) (nte : t ≠ em) (M_mr : Mir Z "[Ljava/lang/Object;" mr) :
  Cmet l Z (⟨"com/example/firm_handshake/firmhandshake/model/Location", "<init>", "(Ljava/util/List;Ljava/util/List;IZLjava/util/List;)V"⟩ : MethodName) prog_118_method_1_code 9 none ws ({ frames := 9, cells := 12, slots := 76, locals := 116 } : Room) #[(.ref o0), (.ref o1), (.ref o2), (.int (0 : Int32)), (.int (0 : Int32)), (.ref o5)] h0 (fun v h' L => v = none ∧ Fr n0 L ∧ Keep h0 h' [o0] ∧ ∃ ob w, Fld Z h' o0 kLo "outranking" "[[I" (.ref ob) ∧ AryA Z h' ob (k + j) w ∧ OUT Z h' k j w S) := by
 refine MetFree.of_bodySF (plainFor_of_name pn_10) hisR ?_
 intro p e s m args below meth c s₁ Bd hml0 hP hK
 obtain ⟨rfl, hZ, hh⟩ := hP
 have hx := Bd.exec
 have hlk : meth.locks = false := BodyLoose.notSynchronized Bd
 have hby := Bd.bytes
 have hml : c.maxLocals = 9 := hml0
 have hown : s.vm.findClass "com/example/firm_handshake/firmhandshake/model/Location" = some m.cls := findClass_of_methodNamed Bd.named
 have hnm := (name_of_methodNamed Bd.named Bd.method).1
 have X0 : Stand p l e ({ frames := 9, cells := 12, slots := 76, locals := 116 } : Room) s m #[(.ref o0), (.ref o1), (.ref o2), (.int (0 : Int32)), (.int (0 : Int32)), (.ref o5)] below meth c s₁ [] 0 0 := Stand.of_body Bd
 have e0 : s₁.heap = h0 := by rw [← hh, Bd.state]; rfl
 have N0 := Fr.nil n0
 have B217 : ∀ (T_217 : State) (h_217 : Heap) (locs : List Loc) (X_217 : Stand p l e ({ frames := 9, cells := 12, slots := 76, locals := 116 } : Room) s m #[(.ref o0), (.ref o1), (.ref o2), (.int (0 : Int32)), (.int (0 : Int32)), (.ref o5)] below meth c T_217 locs 12 76) (e_217 : T_217.heap = h_217) (b112 : Addr) (b12 : Addr) (b2 : Addr) (z125_f_A_b112 : Nat → Int32) (z180_f_A_b12 : Nat → Value) (z180_l8 : Int32) (N_217 : Fr n0 locs) (H217_E_o0 : Exa Z h_217 o0 kLo) (H217_F_o0_outranking : Fld Z h_217 o0 kLo "outranking" "[[I" (.ref b12)) (H217_F_o0_line : Fld Z h_217 o0 kLo "line" "I" (.int (0 : Int32))) (H217_F_o0_end : Fld Z h_217 o0 kLo "end" "Z" (.int (0 : Int32))) (H217_F_o0_labels : Fld Z h_217 o0 kLo "labels" "Ljava/util/List;" .null) (H217_F_o0_counting : Fld Z h_217 o0 kLo "counting" "Ljava/util/List;" .null) (H217_D : Old Z n0 h_217) (H217_Z : n0 ≤ h_217.size) (H217_K : Keep h0 h_217 [o0]) (H217_A_b12 : AryA Z h_217 b12 (k + j) z180_f_A_b12) (H217_E_b12 : Exa Z h_217 b12 "[[I") (H217_E_b112 : Exa Z h_217 b112 "[I") (H217_A_b112 : AryI Z h_217 b112 .int k z125_f_A_b112) (ne217_o0_b12 : o0 ≠ b12) (ne217_dd_b12 : dd ≠ b12) (ne217_o0_b112 : o0 ≠ b112) (ne217_dd_b112 : dd ≠ b112) (ne217_b12_b112 : b12 ≠ b112) (ge217_b112 : n0 ≤ b112) (ge217_b12 : n0 ≤ b12) (sz217_b112 : h0.size ≤ b112) (sz217_b12 : h0.size ≤ b12) (cy217_wv : WV Z h0 Bm k.toNatClampNeg z180_f_A_b12 S) (cy217_id : ID k.toNatClampNeg z125_f_A_b112) (cy217_wt : WT k.toNatClampNeg j.toNatClampNeg z180_f_A_b12 b112), Fini p e below s (fun v h' L => v = none ∧ Fr n0 L ∧ Keep h0 h' [o0] ∧ ∃ ob w, Fld Z h' o0 kLo "outranking" "[[I" (.ref ob) ∧ AryA Z h' ob (k + j) w ∧ OUT Z h' k j w S) (Room.cells ({ frames := 9, cells := 12, slots := 76, locals := 116 } : Room)) (Room.slots ({ frames := 9, cells := 12, slots := 76, locals := 116 } : Room)) T_217 (mkF m 217 #[vr o0, vr o1, vr o2, vi (0 : Int32), vi (0 : Int32), vr o5, vr b2, vr b112, vi z180_l8] []) := by
  intro T_217 h_217 locs  X_217 e_217  b112 b12 b2 z125_f_A_b112 z180_f_A_b12 z180_l8 N_217 H217_E_o0 H217_F_o0_outranking H217_F_o0_line H217_F_o0_end H217_F_o0_labels H217_F_o0_counting H217_D H217_Z H217_K H217_A_b12 H217_E_b12 H217_E_b112 H217_A_b112 ne217_o0_b12 ne217_dd_b12 ne217_o0_b112 ne217_dd_b112 ne217_b12_b112 ge217_b112 ge217_b12 sz217_b112 sz217_b12 cy217_wv cy217_id cy217_wt
  refine fAN X_217 hx hby d13_217 rfl rfl rfl ?_
  refine fIN X_217 hx hby d13_218 rfl rfl ?_
  obtain ⟨T241, h241, X241, e241, W241, st241⟩ := putF X_217 hx hZ hown (host := "") (Or.inl (wq hw (i := 270) rfl)) Via.refl e_217 H217_F_o0_line H217_E_o0 (Or.inr ⟨(wq hw (i := 271) rfl), rfl, hnm⟩) (wq hw (i := 98) rfl) (ty := .int) (by decide) rfl rfl (g := (mkF m 219 #[vr o0, vr o1, vr o2, vi (0 : Int32), vi (0 : Int32), vr o5, vr b2, vr b112, vi z180_l8] [(.int (0 : Int32)), (.ref o0)])) rfl rfl (hb hby d13_219)
  have Fw241 : Fld Z h241 o0 kLo "line" "I" (.int (0 : Int32)) := H217_F_o0_line.same W241
  refine Fini.st st241 ?_
  have N241 := Fr.snoc X241 N_217 g0
  refine fAN X241 hx hby d13_222 rfl rfl rfl ?_
  refine fI X241 hx hby d13_223 rfl rfl ?_
  have F_243 : Fld Z h241 o0 kLo "end" "Z" (.int (0 : Int32)) := (H217_F_o0_end.other W241 (Or.inr (slot_ne (Or.inr (wq hw (i := 273) rfl)) (Or.inr (wq hw (i := 271) rfl)) (by decide) (t := .boolean) (t' := .int) (by decide) (by decide))))
  have Ex_244 : Exa Z h241 o0 kLo := (H217_E_o0.wr W241)
  obtain ⟨T242, h242, X242, e242, W242, st242⟩ := putFN X241 hx hZ hown (wq hw (i := 272) rfl) Via.refl e241 F_243 Ex_244 (Or.inr ⟨(wq hw (i := 273) rfl), rfl, hnm⟩) (wq hw (i := 98) rfl) (ty := .boolean) (v' := .int (0 : Int32)) (by decide) rfl rfl (g := (mkF m 225 #[vr o0, vr o1, vr o2, vi (0 : Int32), vi (0 : Int32), vr o5, vr b2, vr b112, vi z180_l8] [(.int (0 : Int32)), (.ref o0)])) rfl rfl (hb hby d13_225)
  have Fw242 : Fld Z h242 o0 kLo "end" "Z" (.int (0 : Int32)) := F_243.same W242
  refine Fini.st st242 ?_
  have N242 := Fr.snoc X242 N241 g0
  refine fAN X242 hx hby d13_228 rfl rfl rfl ?_
  refine fA X242 hx hby d13_229 rfl rfl rfl ?_
  have Zs_246 : n0 ≤ h242.size := (Nat.le_trans (Nat.le_trans H217_Z (Nat.le_of_eq W241.size.symm)) (Nat.le_of_eq W242.size.symm))
  have Kp_247 : Keep h0 h242 [o0] := (Keep.wr (Keep.wr H217_K W241 (Or.inl (List.mem_of_getElem? (i := 0) rfl))) W242 (Or.inl (List.mem_of_getElem? (i := 0) rfl)))
  have An_248 : ALs Z n0 dd h242 o5 dd (0 : Int32) (fun _ => .null) := (A_o5.keep Kp_247 (ninS n5 nin0) (ninS nd nin0))
  have Od_249 : Old Z n0 h242 := (Old.wr (Old.wr H217_D W241 g0) W242 g0)
  obtain ⟨v245, T245, L245, X245, hQ245, st245⟩ := callQ X242 hx hZ hown (wq hw (i := 139) rfl) (wq hw (i := 140) rfl) (wq hw (i := 141) rfl) (wq hw (i := 142) rfl) (by decide) (rm18e l Z a0 hw [] o5 n0 dd dd (fun _ => .null) el h242 n0 Zs_246 An_248.exa An_248 Od_249 S_el) e242 (W := 1) (by decide) (by decide) (by decide) (by decide) (g := (mkF m 231 #[vr o0, vr o1, vr o2, vi (0 : Int32), vi (0 : Int32), vr o5, vr b2, vr b112, vi z180_l8] [(.ref o5), (.ref o0)])) rfl (by rw [hml]; rfl) (argsL := [(.ref o5)]) (rest := [(.ref o0)]) rfl (lenOf pd_16 rfl) rfl (by show 2 * 0 + _ ≤ _; exact Nat.le_of_eq rfl) (hb hby d13_231)
  obtain ⟨rfl, K245, Nq245⟩ := hQ245
  have N245 := Fr.app N242 Nq245
  refine Fini.st st245 ?_
  show Fini _ _ _ _ _ _ _ T245 (mkF m 234 #[vr o0, vr o1, vr o2, vi (0 : Int32), vi (0 : Int32), vr o5, vr b2, vr b112, vi z180_l8] [(.ref el), (.ref o0)])
  have F_251 : Fld Z T245.heap o0 kLo "labels" "Ljava/util/List;" .null := (((H217_F_o0_labels.other W241 (Or.inr (slot_ne (Or.inr (wq hw (i := 279) rfl)) (Or.inr (wq hw (i := 271) rfl)) (by decide) (t := (.object "java/util/List")) (t' := .int) (by decide) (by decide)))).other W242 (Or.inr (slot_ne (Or.inr (wq hw (i := 279) rfl)) (Or.inr (wq hw (i := 273) rfl)) (by decide) (t := (.object "java/util/List")) (t' := .boolean) (by decide) (by decide)))).keep K245 nin0)
  have Ex_252 : Exa Z T245.heap o0 kLo := ((Ex_244.wr W242).keep K245)
  obtain ⟨T250, h250, X250, e250, W250, st250⟩ := putF X245 hx hZ hown (host := "") (Or.inl (wq hw (i := 278) rfl)) Via.refl rfl F_251 Ex_252 (Or.inr ⟨(wq hw (i := 279) rfl), rfl, hnm⟩) (wq hw (i := 98) rfl) (ty := (.object "java/util/List")) (by decide) rfl rfl (g := (mkF m 234 #[vr o0, vr o1, vr o2, vi (0 : Int32), vi (0 : Int32), vr o5, vr b2, vr b112, vi z180_l8] [(.ref el), (.ref o0)])) rfl rfl (hb hby d13_234)
  have Fw250 : Fld Z h250 o0 kLo "labels" "Ljava/util/List;" (.ref el) := F_251.same W250
  refine Fini.st st250 ?_
  have N250 := Fr.snoc X250 N245 g0
  refine fAN X250 hx hby d13_237 rfl rfl rfl ?_
  refine fAN X250 hx hby d13_238 rfl rfl rfl ?_
  obtain ⟨T253, X253, e253, st253⟩ := getF X250 hx hZ hown (host := "") (Or.inl (wq hw (i := 278) rfl)) Via.refl e250 Fw250 (g := (mkF m 239 #[vr o0, vr o1, vr o2, vi (0 : Int32), vi (0 : Int32), vr o5, vr b2, vr b112, vi z180_l8] [(.ref o0), (.ref o0)])) rfl rfl (hb hby d13_239)
  refine Fini.st st253 ?_
  have F_255 : Fld Z h250 o0 kLo "counting" "Ljava/util/List;" .null := ((((H217_F_o0_counting.other W241 (Or.inr (slot_ne (Or.inr (wq hw (i := 281) rfl)) (Or.inr (wq hw (i := 271) rfl)) (by decide) (t := (.object "java/util/List")) (t' := .int) (by decide) (by decide)))).other W242 (Or.inr (slot_ne (Or.inr (wq hw (i := 281) rfl)) (Or.inr (wq hw (i := 273) rfl)) (by decide) (t := (.object "java/util/List")) (t' := .boolean) (by decide) (by decide)))).keep K245 nin0).other W250 (Or.inr (slot_ne (Or.inr (wq hw (i := 281) rfl)) (Or.inr (wq hw (i := 279) rfl)) (by decide) (t := (.object "java/util/List")) (t' := (.object "java/util/List")) (by decide) (by decide))))
  have Ex_256 : Exa Z h250 o0 kLo := (Ex_252.wr W250)
  obtain ⟨T254, h254, X254, e254, W254, st254⟩ := putF X253 hx hZ hown (host := "") (Or.inl (wq hw (i := 280) rfl)) Via.refl e253 F_255 Ex_256 (Or.inr ⟨(wq hw (i := 281) rfl), rfl, hnm⟩) (wq hw (i := 98) rfl) (ty := (.object "java/util/List")) (by decide) rfl rfl (g := (mkF m 242 #[vr o0, vr o1, vr o2, vi (0 : Int32), vi (0 : Int32), vr o5, vr b2, vr b112, vi z180_l8] [(.ref el), (.ref o0)])) rfl rfl (hb hby d13_242)
  have Fw254 : Fld Z h254 o0 kLo "counting" "Ljava/util/List;" (.ref el) := F_255.same W254
  refine Fini.st st254 ?_
  have N254 := Fr.snoc X254 N250 g0
  have Kp_257 : Keep h0 h254 [o0] := (Keep.wr (Keep.wr (Keep.trans Kp_247 K245 all0) W250 (Or.inl (List.mem_of_getElem? (i := 0) rfl))) W254 (Or.inl (List.mem_of_getElem? (i := 0) rfl)))
  have Ar_258 : AryI Z h254 b112 .int k z125_f_A_b112 := (((((H217_A_b112.other W241 (Ne.symm ne217_o0_b112)).other W242 (Ne.symm ne217_o0_b112)).keep K245 nin0).other W250 (Ne.symm ne217_o0_b112)).other W254 (Ne.symm ne217_o0_b112))
  have F_259 : Fld Z h254 o0 kLo "outranking" "[[I" (.ref b12) := (((((H217_F_o0_outranking.other W241 (Or.inr (slot_ne (Or.inr (wq hw (i := 110) rfl)) (Or.inr (wq hw (i := 271) rfl)) (by decide) (t := (.array (.array .int))) (t' := .int) (by decide) (by decide)))).other W242 (Or.inr (slot_ne (Or.inr (wq hw (i := 110) rfl)) (Or.inr (wq hw (i := 273) rfl)) (by decide) (t := (.array (.array .int))) (t' := .boolean) (by decide) (by decide)))).keep K245 nin0).other W250 (Or.inr (slot_ne (Or.inr (wq hw (i := 110) rfl)) (Or.inr (wq hw (i := 279) rfl)) (by decide) (t := (.array (.array .int))) (t' := (.object "java/util/List")) (by decide) (by decide)))).other W254 (Or.inr (slot_ne (Or.inr (wq hw (i := 110) rfl)) (Or.inr (wq hw (i := 281) rfl)) (by decide) (t := (.array (.array .int))) (t' := (.object "java/util/List")) (by decide) (by decide))))
  have Ar_260 : AryA Z h254 b12 (k + j) z180_f_A_b12 := (((((H217_A_b12.other W241 (Ne.symm ne217_o0_b12)).other W242 (Ne.symm ne217_o0_b12)).keep K245 nin0).other W250 (Ne.symm ne217_o0_b12)).other W254 (Ne.symm ne217_o0_b12))
  exact Fini.ret0 X254 hx hlk Bd.returns (hb hby d13_245) (by decide) (by decide) ⟨rfl, N254, (by rw [e254]; exact Kp_257), _, _, (by rw [e254]; exact F_259), (by rw [e254]; exact Ar_260), (by rw [e254]; exact (own_out cy217_wv cy217_wt cy217_id Ar_258 Kp_257 hBm hk0 hk hj0 hj))⟩
 have B180 : ∀ (T_180 : State) (h_180 : Heap) (locs : List Loc) (X_180 : Stand p l e ({ frames := 9, cells := 12, slots := 76, locals := 116 } : Room) s m #[(.ref o0), (.ref o1), (.ref o2), (.int (0 : Int32)), (.int (0 : Int32)), (.ref o5)] below meth c T_180 locs 8 61) (e_180 : T_180.heap = h_180) (b112 : Addr) (b12 : Addr) (b2 : Addr) (e6b : Addr) (z180_l8 : Int32) (z180_f_L_b2 : Nat → Value) (z180_n_L_b2 : Int32) (z180_f_A_b12 : Nat → Value) (z125_f_A_b112 : Nat → Int32) (N_180 : Fr n0 locs) (H180_E_o0 : Exa Z h_180 o0 kLo) (H180_F_o0_outranking : Fld Z h_180 o0 kLo "outranking" "[[I" (.ref b12)) (H180_F_o0_transitions : Fld Z h_180 o0 kLo "transitions" "Ljava/util/List;" .null) (H180_F_o0_ownTransitions : Fld Z h_180 o0 kLo "ownTransitions" "Ljava/util/List;" .null) (H180_F_o0_line : Fld Z h_180 o0 kLo "line" "I" (.int (0 : Int32))) (H180_F_o0_end : Fld Z h_180 o0 kLo "end" "Z" (.int (0 : Int32))) (H180_F_o0_labels : Fld Z h_180 o0 kLo "labels" "Ljava/util/List;" .null) (H180_F_o0_counting : Fld Z h_180 o0 kLo "counting" "Ljava/util/List;" .null) (H180_D : Old Z n0 h_180) (H180_Z : n0 ≤ h_180.size) (H180_K : Keep h0 h_180 [o0]) (H180_L_b2 : ALs Z h0.size dd h_180 b2 e6b z180_n_L_b2 z180_f_L_b2) (H180_A_b12 : AryA Z h_180 b12 (k + j) z180_f_A_b12) (H180_E_b12 : Exa Z h_180 b12 "[[I") (H180_E_b112 : Exa Z h_180 b112 "[I") (H180_A_b112 : AryI Z h_180 b112 .int k z125_f_A_b112) (ne180_o0_b2 : o0 ≠ b2) (ne180_dd_b2 : dd ≠ b2) (ne180_o0_b12 : o0 ≠ b12) (ne180_dd_b12 : dd ≠ b12) (ne180_b2_b12 : b2 ≠ b12) (ne180_o0_b112 : o0 ≠ b112) (ne180_dd_b112 : dd ≠ b112) (ne180_b2_b112 : b2 ≠ b112) (ne180_b12_b112 : b12 ≠ b112) (ne180_e6b_o0 : e6b ≠ o0) (ne180_e6b_b2 : e6b ≠ b2) (ne180_e6b_b12 : e6b ≠ b12) (ne180_e6b_b112 : e6b ≠ b112) (ge180_b112 : n0 ≤ b112) (ge180_b12 : n0 ≤ b12) (ge180_b2 : n0 ≤ b2) (sz180_b112 : h0.size ≤ b112) (sz180_b12 : h0.size ≤ b12) (sz180_b2 : h0.size ≤ b2) (cy180_n6 : z180_n_L_b2 = (k + j)) (cy180_ft : FT (k + j).toNatClampNeg z180_f_L_b2 t) (cy180_wv : WV Z h0 Bm k.toNatClampNeg z180_f_A_b12 S) (cy180_id : ID k.toNatClampNeg z125_f_A_b112) (cy180_wt : WT k.toNatClampNeg j.toNatClampNeg z180_f_A_b12 b112), Fini p e below s (fun v h' L => v = none ∧ Fr n0 L ∧ Keep h0 h' [o0] ∧ ∃ ob w, Fld Z h' o0 kLo "outranking" "[[I" (.ref ob) ∧ AryA Z h' ob (k + j) w ∧ OUT Z h' k j w S) (Room.cells ({ frames := 9, cells := 12, slots := 76, locals := 116 } : Room)) (Room.slots ({ frames := 9, cells := 12, slots := 76, locals := 116 } : Room)) T_180 (mkF m 180 #[vr o0, vr o1, vr o2, vi (0 : Int32), vi (0 : Int32), vr o5, vr b2, vr b112, vi z180_l8] []) := by
  intro T_180 h_180 locs  X_180 e_180  b112 b12 b2 e6b z180_l8 z180_f_L_b2 z180_n_L_b2 z180_f_A_b12 z125_f_A_b112 N_180 H180_E_o0 H180_F_o0_outranking H180_F_o0_transitions H180_F_o0_ownTransitions H180_F_o0_line H180_F_o0_end H180_F_o0_labels H180_F_o0_counting H180_D H180_Z H180_K H180_L_b2 H180_A_b12 H180_E_b12 H180_E_b112 H180_A_b112 ne180_o0_b2 ne180_dd_b2 ne180_o0_b12 ne180_dd_b12 ne180_b2_b12 ne180_o0_b112 ne180_dd_b112 ne180_b2_b112 ne180_b12_b112 ne180_e6b_o0 ne180_e6b_b2 ne180_e6b_b12 ne180_e6b_b112 ge180_b112 ge180_b12 ge180_b2 sz180_b112 sz180_b12 sz180_b2 cy180_n6 cy180_ft cy180_wv cy180_id cy180_wt
  refine fAN X_180 hx hby d13_180 rfl rfl rfl ?_
  refine fA X_180 hx hby d13_181 rfl rfl rfl ?_
  show Fini _ _ _ _ _ _ _ T_180 (mkF m 183 #[vr o0, vr o1, vr o2, vi (0 : Int32), vi (0 : Int32), vr o5, vr b2, vr b112, vi z180_l8] [(.ref b2), (.ref o0)])
  have An_185 : Exa Z h_180 t kTr := (E_t.keep H180_K)
  have It184 : IsO Z h_180 t := Ins.of_exa An_185 (wq hw (i := 136) rfl)
  obtain ⟨v186, T186, L186, X186, hQ186, st186⟩ := callQ X_180 hx hZ hown (wq hw (i := 139) rfl) (wq hw (i := 140) rfl) (wq hw (i := 141) rfl) (wq hw (i := 142) rfl) (by decide) (rm18n l Z a0 hw [] b2 h0.size dd e6b z180_n_L_b2 z180_f_L_b2 t mr em h_180 n0 H180_Z H180_L_b2.exa H180_L_b2 It184 H180_D S_em (by rw [cy180_n6]; exact hkj) (ALs.nn H180_L_b2) (by rw [cy180_n6]; exact (own_kj hk0 hk hj0 hj).2) (by rw [cy180_n6]; exact cy180_ft) M_mr) e_180 (W := 1) (by decide) (by decide) (by decide) (by decide) (g := (mkF m 183 #[vr o0, vr o1, vr o2, vi (0 : Int32), vi (0 : Int32), vr o5, vr b2, vr b112, vi z180_l8] [(.ref b2), (.ref o0)])) rfl (by rw [hml]; rfl) (argsL := [(.ref b2)]) (rest := [(.ref o0)]) rfl (lenOf pd_16 rfl) rfl (by show 2 * 0 + _ ≤ _; exact Nat.le_of_eq rfl) (hb hby d13_183)
  obtain ⟨b186, rfl, Nq186, K186, sz186, ge_b186, Il186⟩ := hQ186
  have ne_o0_b186 : o0 ≠ b186 := Nat.ne_of_lt (Nat.lt_of_lt_of_le H180_E_o0.lt sz186)
  have An_187 : AryQ Z h_180 dd (0 : Int32) := (A_dd.ext H180_D.2)
  have ne_dd_b186 : dd ≠ b186 := Nat.ne_of_lt (Nat.lt_of_lt_of_le An_187.lt sz186)
  have ne_b2_b186 : b2 ≠ b186 := Nat.ne_of_lt (Nat.lt_of_lt_of_le H180_L_b2.lt sz186)
  have ne_e6b_b186 : e6b ≠ b186 := Nat.ne_of_lt (Nat.lt_of_lt_of_le H180_L_b2.lte sz186)
  have ne_b12_b186 : b12 ≠ b186 := Nat.ne_of_lt (Nat.lt_of_lt_of_le H180_A_b12.lt sz186)
  have ne_b112_b186 : b112 ≠ b186 := Nat.ne_of_lt (Nat.lt_of_lt_of_le H180_E_b112.lt sz186)
  have sz_b186 : h0.size ≤ b186 := Nat.le_trans H180_K.1 sz186
  have N186 := Fr.app N_180 Nq186
  refine Fini.st st186 ?_
  show Fini _ _ _ _ _ _ _ T186 (mkF m 186 #[vr o0, vr o1, vr o2, vi (0 : Int32), vi (0 : Int32), vr o5, vr b2, vr b112, vi z180_l8] [(.ref b186), (.ref o0)])
  rcases Il186 with ⟨Eq188, ⟨en188, Fq188⟩ | ⟨en188, Fq188⟩⟩ | ⟨ar188, w188, Bq188, Eq188, Fq188, Aq188⟩
  ·
   have F_190 : Fld Z T186.heap o0 kLo "transitions" "Ljava/util/List;" .null := (H180_F_o0_transitions.keep K186 nin0)
   have Ex_191 : Exa Z T186.heap o0 kLo := (H180_E_o0.keep K186)
   obtain ⟨T189, h189, X189, e189, W189, st189⟩ := putF X186 hx hZ hown (host := "") (Or.inl (wq hw (i := 224) rfl)) Via.refl rfl F_190 Ex_191 (Or.inr ⟨(wq hw (i := 225) rfl), rfl, hnm⟩) (wq hw (i := 98) rfl) (ty := (.object "java/util/List")) (by decide) rfl rfl (g := (mkF m 186 #[vr o0, vr o1, vr o2, vi (0 : Int32), vi (0 : Int32), vr o5, vr b2, vr b112, vi z180_l8] [(.ref b186), (.ref o0)])) rfl rfl (hb hby d13_186)
   have Fw189 : Fld Z h189 o0 kLo "transitions" "Ljava/util/List;" (.ref b186) := F_190.same W189
   refine Fini.st st189 ?_
   have N189 := Fr.snoc X189 N186 g0
   refine fAN X189 hx hby d13_189 rfl rfl rfl ?_
   refine fAN X189 hx hby d13_190 rfl rfl rfl ?_
   obtain ⟨T192, X192, e192, st192⟩ := getF X189 hx hZ hown (host := "") (Or.inl (wq hw (i := 224) rfl)) Via.refl e189 Fw189 (g := (mkF m 191 #[vr o0, vr o1, vr o2, vi (0 : Int32), vi (0 : Int32), vr o5, vr b2, vr b112, vi z180_l8] [(.ref o0), (.ref o0)])) rfl rfl (hb hby d13_191)
   refine Fini.st st192 ?_
   refine fAN X192 hx hby d13_194 rfl rfl rfl ?_
   have Kp_194 : Keep h0 h189 [o0] := (Keep.wr (Keep.trans H180_K K186 all0) W189 (Or.inl (List.mem_of_getElem? (i := 0) rfl)))
   have An_195 : ALs Z n0 dd h189 o1 xa1 k u1 := (A_o1.keep Kp_194 (ninS n1 nin0) (ninS ne1 nin0))
   obtain ⟨T193, X193, e193, st193⟩ := pureI X192 hx hZ hown (wq hw (i := 106) rfl) (wq hw (i := 52) rfl) (wq hw (i := 53) rfl) (wq hw (i := 54) rfl) (wq hw (i := 55) rfl) (wq hw (i := 56) rfl) (wq hw (i := 57) rfl) (wq hw (i := 58) rfl) (wq hw (i := 20) rfl) (wq hw (i := 59) rfl) An_195.exa (by decide) (c7 l Z a0 hw h189 An_195) e192 (W := 2) (by decide) (by decide) (by decide) (by decide) (g := (mkF m 195 #[vr o0, vr o1, vr o2, vi (0 : Int32), vi (0 : Int32), vr o5, vr b2, vr b112, vi z180_l8] [(.ref o1), (.ref b186), (.ref o0)])) rfl (by rw [hml]; rfl) (argsL := []) (rest := [(.ref b186), (.ref o0)]) rfl (lenOf pd_7 rfl) rfl (by show 2 * 0 + _ ≤ _; exact Nat.le_of_eq rfl) (hb hby d13_195)
   refine Fini.st st193 ?_
   show Fini _ _ _ _ _ _ _ T193 (mkF m 200 #[vr o0, vr o1, vr o2, vi (0 : Int32), vi (0 : Int32), vr o5, vr b2, vr b112, vi z180_l8] [(.int k), (.ref b186), (.ref o0)])
   refine fAN X193 hx hby d13_200 rfl rfl rfl ?_
   obtain ⟨T196, X196, e196, st196⟩ := getF X193 hx hZ hown (host := "") (Or.inl (wq hw (i := 224) rfl)) Via.refl e193 Fw189 (g := (mkF m 201 #[vr o0, vr o1, vr o2, vi (0 : Int32), vi (0 : Int32), vr o5, vr b2, vr b112, vi z180_l8] [(.ref o0), (.int k), (.ref b186), (.ref o0)])) rfl rfl (hb hby d13_201)
   refine Fini.st st196 ?_
   have Od_198 : Old Z n0 h189 := (Old.wr (Old.keep H180_D K186 all0) W189 g0)
   have F_199 : Fld Z h189 b186 "java/util/ImmutableCollections$List12" "e1" "Ljava/lang/Object;" (.ref em) := (Fq188.other W189 (Or.inl (Ne.symm ne_o0_b186)))
   have Ex_200 : Exa Z h189 b186 "java/util/ImmutableCollections$List12" := (Eq188.wr W189)
   obtain ⟨T197, X197, e197, st197⟩ := pureI X196 hx hZ hown (wq hw (i := 106) rfl) (wq hw (i := 52) rfl) (wq hw (i := 53) rfl) (wq hw (i := 226) rfl) (wq hw (i := 227) rfl) (wq hw (i := 228) rfl) (wq hw (i := 229) rfl) (wq hw (i := 230) rfl) (wq hw (i := 197) rfl) (wq hw (i := 231) rfl) Ex_200 (by decide) (c30 l Z a0 hw h189 (n := z180_n_L_b2) (Sta.ext Od_198.2 S_em) nte (Or.inl ⟨en188, F_199⟩)) e196 (W := 3) (by decide) (by decide) (by decide) (by decide) (g := (mkF m 204 #[vr o0, vr o1, vr o2, vi (0 : Int32), vi (0 : Int32), vr o5, vr b2, vr b112, vi z180_l8] [(.ref b186), (.int k), (.ref b186), (.ref o0)])) rfl (by rw [hml]; rfl) (argsL := []) (rest := [(.int k), (.ref b186), (.ref o0)]) rfl (lenOf pd_7 rfl) rfl (by show 2 * 0 + _ ≤ _; exact Nat.le_of_eq rfl) (hb hby d13_204)
   refine Fini.st st197 ?_
   show Fini _ _ _ _ _ _ _ T197 (mkF m 209 #[vr o0, vr o1, vr o2, vi (0 : Int32), vi (0 : Int32), vr o5, vr b2, vr b112, vi z180_l8] [(.int z180_n_L_b2), (.int k), (.ref b186), (.ref o0)])
   have Zs_202 : n0 ≤ h189.size := (Nat.le_trans (Nat.le_trans H180_Z K186.1) (Nat.le_of_eq W189.size.symm))
   obtain ⟨v201, T201, L201, X201, hQ201, st201⟩ := callI X197 hx hZ hown (wq hw (i := 232) rfl) (wq hw (i := 233) rfl) (wq hw (i := 234) rfl) (wq hw (i := 235) rfl) (wq hw (i := 236) rfl) (wq hw (i := 237) rfl) (wq hw (i := 238) rfl) (wq hw (i := 230) rfl) (wq hw (i := 206) rfl) (wq hw (i := 239) rfl) Ex_200 (by decide) (rm31a l Z a0 hw [] b186 k z180_n_L_b2 em t h189 n0 Zs_202 Ex_200 Od_198 S_sa S_em hk0 (by rw [cy180_n6]; exact own_kle hk0 hk hj0 hj) nte (Or.inl ⟨en188, F_199⟩)) e197 (W := 1) (by decide) (by decide) (by decide) (by decide) (g := (mkF m 209 #[vr o0, vr o1, vr o2, vi (0 : Int32), vi (0 : Int32), vr o5, vr b2, vr b112, vi z180_l8] [(.int z180_n_L_b2), (.int k), (.ref b186), (.ref o0)])) rfl (by rw [hml]; rfl) (argsL := [(.int k), (.int z180_n_L_b2)]) (rest := [(.ref o0)]) rfl (lenOf pd_22 rfl) rfl (by show 2 * 0 + _ ≤ _; exact Nat.le_of_eq rfl) (hb hby d13_209)
   obtain ⟨b201, rfl, Nq201, K201⟩ := hQ201
   have N201 := Fr.app N189 Nq201
   refine Fini.st st201 ?_
   show Fini _ _ _ _ _ _ _ T201 (mkF m 214 #[vr o0, vr o1, vr o2, vi (0 : Int32), vi (0 : Int32), vr o5, vr b2, vr b112, vi z180_l8] [(.ref b201), (.ref o0)])
   have F_204 : Fld Z T201.heap o0 kLo "ownTransitions" "Ljava/util/List;" .null := (((H180_F_o0_ownTransitions.keep K186 nin0).other W189 (Or.inr (slot_ne (Or.inr (wq hw (i := 269) rfl)) (Or.inr (wq hw (i := 225) rfl)) (by decide) (t := (.object "java/util/List")) (t' := (.object "java/util/List")) (by decide) (by decide)))).keep K201 nin0)
   have Ex_205 : Exa Z T201.heap o0 kLo := ((Ex_191.wr W189).keep K201)
   obtain ⟨T203, h203, X203, e203, W203, st203⟩ := putF X201 hx hZ hown (host := "") (Or.inl (wq hw (i := 268) rfl)) Via.refl rfl F_204 Ex_205 (Or.inr ⟨(wq hw (i := 269) rfl), rfl, hnm⟩) (wq hw (i := 98) rfl) (ty := (.object "java/util/List")) (by decide) rfl rfl (g := (mkF m 214 #[vr o0, vr o1, vr o2, vi (0 : Int32), vi (0 : Int32), vr o5, vr b2, vr b112, vi z180_l8] [(.ref b201), (.ref o0)])) rfl rfl (hb hby d13_214)
   have Fw203 : Fld Z h203 o0 kLo "ownTransitions" "Ljava/util/List;" (.ref b201) := F_204.same W203
   refine Fini.st st203 ?_
   have N203 := Fr.snoc X203 N201 g0
   show Fini _ _ _ _ _ _ _ T203 (mkF m 217 #[vr o0, vr o1, vr o2, vi (0 : Int32), vi (0 : Int32), vr o5, vr b2, vr b112, vi z180_l8] [])
   have Ex_261 : Exa Z h203 o0 kLo := (Ex_205.wr W203)
   have F_262 : Fld Z h203 o0 kLo "outranking" "[[I" (.ref b12) := ((((H180_F_o0_outranking.keep K186 nin0).other W189 (Or.inr (slot_ne (Or.inr (wq hw (i := 110) rfl)) (Or.inr (wq hw (i := 225) rfl)) (by decide) (t := (.array (.array .int))) (t' := (.object "java/util/List")) (by decide) (by decide)))).keep K201 nin0).other W203 (Or.inr (slot_ne (Or.inr (wq hw (i := 110) rfl)) (Or.inr (wq hw (i := 269) rfl)) (by decide) (t := (.array (.array .int))) (t' := (.object "java/util/List")) (by decide) (by decide))))
   have F_263 : Fld Z h203 o0 kLo "line" "I" (.int (0 : Int32)) := ((((H180_F_o0_line.keep K186 nin0).other W189 (Or.inr (slot_ne (Or.inr (wq hw (i := 271) rfl)) (Or.inr (wq hw (i := 225) rfl)) (by decide) (t := .int) (t' := (.object "java/util/List")) (by decide) (by decide)))).keep K201 nin0).other W203 (Or.inr (slot_ne (Or.inr (wq hw (i := 271) rfl)) (Or.inr (wq hw (i := 269) rfl)) (by decide) (t := .int) (t' := (.object "java/util/List")) (by decide) (by decide))))
   have F_264 : Fld Z h203 o0 kLo "end" "Z" (.int (0 : Int32)) := ((((H180_F_o0_end.keep K186 nin0).other W189 (Or.inr (slot_ne (Or.inr (wq hw (i := 273) rfl)) (Or.inr (wq hw (i := 225) rfl)) (by decide) (t := .boolean) (t' := (.object "java/util/List")) (by decide) (by decide)))).keep K201 nin0).other W203 (Or.inr (slot_ne (Or.inr (wq hw (i := 273) rfl)) (Or.inr (wq hw (i := 269) rfl)) (by decide) (t := .boolean) (t' := (.object "java/util/List")) (by decide) (by decide))))
   have F_265 : Fld Z h203 o0 kLo "labels" "Ljava/util/List;" .null := ((((H180_F_o0_labels.keep K186 nin0).other W189 (Or.inr (slot_ne (Or.inr (wq hw (i := 279) rfl)) (Or.inr (wq hw (i := 225) rfl)) (by decide) (t := (.object "java/util/List")) (t' := (.object "java/util/List")) (by decide) (by decide)))).keep K201 nin0).other W203 (Or.inr (slot_ne (Or.inr (wq hw (i := 279) rfl)) (Or.inr (wq hw (i := 269) rfl)) (by decide) (t := (.object "java/util/List")) (t' := (.object "java/util/List")) (by decide) (by decide))))
   have F_266 : Fld Z h203 o0 kLo "counting" "Ljava/util/List;" .null := ((((H180_F_o0_counting.keep K186 nin0).other W189 (Or.inr (slot_ne (Or.inr (wq hw (i := 281) rfl)) (Or.inr (wq hw (i := 225) rfl)) (by decide) (t := (.object "java/util/List")) (t' := (.object "java/util/List")) (by decide) (by decide)))).keep K201 nin0).other W203 (Or.inr (slot_ne (Or.inr (wq hw (i := 281) rfl)) (Or.inr (wq hw (i := 269) rfl)) (by decide) (t := (.object "java/util/List")) (t' := (.object "java/util/List")) (by decide) (by decide))))
   have Od_267 : Old Z n0 h203 := (Old.wr (Old.keep Od_198 K201 all0) W203 g0)
   have Zs_268 : n0 ≤ h203.size := (Nat.le_trans (Nat.le_trans Zs_202 K201.1) (Nat.le_of_eq W203.size.symm))
   have Kp_269 : Keep h0 h203 [o0] := (Keep.wr (Keep.trans Kp_194 K201 all0) W203 (Or.inl (List.mem_of_getElem? (i := 0) rfl)))
   have Ar_270 : AryA Z h203 b12 (k + j) z180_f_A_b12 := ((((H180_A_b12.keep K186 nin0).other W189 (Ne.symm ne180_o0_b12)).keep K201 nin0).other W203 (Ne.symm ne180_o0_b12))
   have Ex_271 : Exa Z h203 b12 "[[I" := ((((H180_E_b12.keep K186).wr W189).keep K201).wr W203)
   have Ex_272 : Exa Z h203 b112 "[I" := ((((H180_E_b112.keep K186).wr W189).keep K201).wr W203)
   have Ar_273 : AryI Z h203 b112 .int k z125_f_A_b112 := ((((H180_A_b112.keep K186 nin0).other W189 (Ne.symm ne180_o0_b112)).keep K201 nin0).other W203 (Ne.symm ne180_o0_b112))
   exact B217 T203 _ _ (X203.more (cells' := 12) (slots' := 76) (by decide) (by decide)) e203 b112 b12 b2 z125_f_A_b112 z180_f_A_b12 z180_l8 N203 Ex_261 F_262 F_263 F_264 F_265 F_266 Od_267 Zs_268 Kp_269 Ar_270 Ex_271 Ex_272 Ar_273 ne180_o0_b12 ne180_dd_b12 ne180_o0_b112 ne180_dd_b112 ne180_b12_b112 ge180_b112 ge180_b12 sz180_b112 sz180_b12 cy180_wv cy180_id cy180_wt
  ·
   have F_207 : Fld Z T186.heap o0 kLo "transitions" "Ljava/util/List;" .null := (H180_F_o0_transitions.keep K186 nin0)
   have Ex_208 : Exa Z T186.heap o0 kLo := (H180_E_o0.keep K186)
   obtain ⟨T206, h206, X206, e206, W206, st206⟩ := putF X186 hx hZ hown (host := "") (Or.inl (wq hw (i := 224) rfl)) Via.refl rfl F_207 Ex_208 (Or.inr ⟨(wq hw (i := 225) rfl), rfl, hnm⟩) (wq hw (i := 98) rfl) (ty := (.object "java/util/List")) (by decide) rfl rfl (g := (mkF m 186 #[vr o0, vr o1, vr o2, vi (0 : Int32), vi (0 : Int32), vr o5, vr b2, vr b112, vi z180_l8] [(.ref b186), (.ref o0)])) rfl rfl (hb hby d13_186)
   have Fw206 : Fld Z h206 o0 kLo "transitions" "Ljava/util/List;" (.ref b186) := F_207.same W206
   refine Fini.st st206 ?_
   have N206 := Fr.snoc X206 N186 g0
   refine fAN X206 hx hby d13_189 rfl rfl rfl ?_
   refine fAN X206 hx hby d13_190 rfl rfl rfl ?_
   obtain ⟨T209, X209, e209, st209⟩ := getF X206 hx hZ hown (host := "") (Or.inl (wq hw (i := 224) rfl)) Via.refl e206 Fw206 (g := (mkF m 191 #[vr o0, vr o1, vr o2, vi (0 : Int32), vi (0 : Int32), vr o5, vr b2, vr b112, vi z180_l8] [(.ref o0), (.ref o0)])) rfl rfl (hb hby d13_191)
   refine Fini.st st209 ?_
   refine fAN X209 hx hby d13_194 rfl rfl rfl ?_
   have Kp_211 : Keep h0 h206 [o0] := (Keep.wr (Keep.trans H180_K K186 all0) W206 (Or.inl (List.mem_of_getElem? (i := 0) rfl)))
   have An_212 : ALs Z n0 dd h206 o1 xa1 k u1 := (A_o1.keep Kp_211 (ninS n1 nin0) (ninS ne1 nin0))
   obtain ⟨T210, X210, e210, st210⟩ := pureI X209 hx hZ hown (wq hw (i := 106) rfl) (wq hw (i := 52) rfl) (wq hw (i := 53) rfl) (wq hw (i := 54) rfl) (wq hw (i := 55) rfl) (wq hw (i := 56) rfl) (wq hw (i := 57) rfl) (wq hw (i := 58) rfl) (wq hw (i := 20) rfl) (wq hw (i := 59) rfl) An_212.exa (by decide) (c7 l Z a0 hw h206 An_212) e209 (W := 2) (by decide) (by decide) (by decide) (by decide) (g := (mkF m 195 #[vr o0, vr o1, vr o2, vi (0 : Int32), vi (0 : Int32), vr o5, vr b2, vr b112, vi z180_l8] [(.ref o1), (.ref b186), (.ref o0)])) rfl (by rw [hml]; rfl) (argsL := []) (rest := [(.ref b186), (.ref o0)]) rfl (lenOf pd_7 rfl) rfl (by show 2 * 0 + _ ≤ _; exact Nat.le_of_eq rfl) (hb hby d13_195)
   refine Fini.st st210 ?_
   show Fini _ _ _ _ _ _ _ T210 (mkF m 200 #[vr o0, vr o1, vr o2, vi (0 : Int32), vi (0 : Int32), vr o5, vr b2, vr b112, vi z180_l8] [(.int k), (.ref b186), (.ref o0)])
   refine fAN X210 hx hby d13_200 rfl rfl rfl ?_
   obtain ⟨T213, X213, e213, st213⟩ := getF X210 hx hZ hown (host := "") (Or.inl (wq hw (i := 224) rfl)) Via.refl e210 Fw206 (g := (mkF m 201 #[vr o0, vr o1, vr o2, vi (0 : Int32), vi (0 : Int32), vr o5, vr b2, vr b112, vi z180_l8] [(.ref o0), (.int k), (.ref b186), (.ref o0)])) rfl rfl (hb hby d13_201)
   refine Fini.st st213 ?_
   have Od_215 : Old Z n0 h206 := (Old.wr (Old.keep H180_D K186 all0) W206 g0)
   have F_216 : Fld Z h206 b186 "java/util/ImmutableCollections$List12" "e1" "Ljava/lang/Object;" (.ref t) := (Fq188.other W206 (Or.inl (Ne.symm ne_o0_b186)))
   have Ex_217 : Exa Z h206 b186 "java/util/ImmutableCollections$List12" := (Eq188.wr W206)
   obtain ⟨T214, X214, e214, st214⟩ := pureI X213 hx hZ hown (wq hw (i := 106) rfl) (wq hw (i := 52) rfl) (wq hw (i := 53) rfl) (wq hw (i := 226) rfl) (wq hw (i := 227) rfl) (wq hw (i := 228) rfl) (wq hw (i := 229) rfl) (wq hw (i := 230) rfl) (wq hw (i := 197) rfl) (wq hw (i := 231) rfl) Ex_217 (by decide) (c30 l Z a0 hw h206 (n := z180_n_L_b2) (Sta.ext Od_215.2 S_em) nte (Or.inr ⟨en188, F_216⟩)) e213 (W := 3) (by decide) (by decide) (by decide) (by decide) (g := (mkF m 204 #[vr o0, vr o1, vr o2, vi (0 : Int32), vi (0 : Int32), vr o5, vr b2, vr b112, vi z180_l8] [(.ref b186), (.int k), (.ref b186), (.ref o0)])) rfl (by rw [hml]; rfl) (argsL := []) (rest := [(.int k), (.ref b186), (.ref o0)]) rfl (lenOf pd_7 rfl) rfl (by show 2 * 0 + _ ≤ _; exact Nat.le_of_eq rfl) (hb hby d13_204)
   refine Fini.st st214 ?_
   show Fini _ _ _ _ _ _ _ T214 (mkF m 209 #[vr o0, vr o1, vr o2, vi (0 : Int32), vi (0 : Int32), vr o5, vr b2, vr b112, vi z180_l8] [(.int z180_n_L_b2), (.int k), (.ref b186), (.ref o0)])
   have Zs_219 : n0 ≤ h206.size := (Nat.le_trans (Nat.le_trans H180_Z K186.1) (Nat.le_of_eq W206.size.symm))
   obtain ⟨v218, T218, L218, X218, hQ218, st218⟩ := callI X214 hx hZ hown (wq hw (i := 232) rfl) (wq hw (i := 233) rfl) (wq hw (i := 234) rfl) (wq hw (i := 235) rfl) (wq hw (i := 236) rfl) (wq hw (i := 237) rfl) (wq hw (i := 238) rfl) (wq hw (i := 230) rfl) (wq hw (i := 206) rfl) (wq hw (i := 239) rfl) Ex_217 (by decide) (rm31a l Z a0 hw [] b186 k z180_n_L_b2 em t h206 n0 Zs_219 Ex_217 Od_215 S_sa S_em hk0 (by rw [cy180_n6]; exact own_kle hk0 hk hj0 hj) nte (Or.inr ⟨en188, F_216⟩)) e214 (W := 1) (by decide) (by decide) (by decide) (by decide) (g := (mkF m 209 #[vr o0, vr o1, vr o2, vi (0 : Int32), vi (0 : Int32), vr o5, vr b2, vr b112, vi z180_l8] [(.int z180_n_L_b2), (.int k), (.ref b186), (.ref o0)])) rfl (by rw [hml]; rfl) (argsL := [(.int k), (.int z180_n_L_b2)]) (rest := [(.ref o0)]) rfl (lenOf pd_22 rfl) rfl (by show 2 * 0 + _ ≤ _; exact Nat.le_of_eq rfl) (hb hby d13_209)
   obtain ⟨b218, rfl, Nq218, K218⟩ := hQ218
   have N218 := Fr.app N206 Nq218
   refine Fini.st st218 ?_
   show Fini _ _ _ _ _ _ _ T218 (mkF m 214 #[vr o0, vr o1, vr o2, vi (0 : Int32), vi (0 : Int32), vr o5, vr b2, vr b112, vi z180_l8] [(.ref b218), (.ref o0)])
   have F_221 : Fld Z T218.heap o0 kLo "ownTransitions" "Ljava/util/List;" .null := (((H180_F_o0_ownTransitions.keep K186 nin0).other W206 (Or.inr (slot_ne (Or.inr (wq hw (i := 269) rfl)) (Or.inr (wq hw (i := 225) rfl)) (by decide) (t := (.object "java/util/List")) (t' := (.object "java/util/List")) (by decide) (by decide)))).keep K218 nin0)
   have Ex_222 : Exa Z T218.heap o0 kLo := ((Ex_208.wr W206).keep K218)
   obtain ⟨T220, h220, X220, e220, W220, st220⟩ := putF X218 hx hZ hown (host := "") (Or.inl (wq hw (i := 268) rfl)) Via.refl rfl F_221 Ex_222 (Or.inr ⟨(wq hw (i := 269) rfl), rfl, hnm⟩) (wq hw (i := 98) rfl) (ty := (.object "java/util/List")) (by decide) rfl rfl (g := (mkF m 214 #[vr o0, vr o1, vr o2, vi (0 : Int32), vi (0 : Int32), vr o5, vr b2, vr b112, vi z180_l8] [(.ref b218), (.ref o0)])) rfl rfl (hb hby d13_214)
   have Fw220 : Fld Z h220 o0 kLo "ownTransitions" "Ljava/util/List;" (.ref b218) := F_221.same W220
   refine Fini.st st220 ?_
   have N220 := Fr.snoc X220 N218 g0
   show Fini _ _ _ _ _ _ _ T220 (mkF m 217 #[vr o0, vr o1, vr o2, vi (0 : Int32), vi (0 : Int32), vr o5, vr b2, vr b112, vi z180_l8] [])
   have Ex_274 : Exa Z h220 o0 kLo := (Ex_222.wr W220)
   have F_275 : Fld Z h220 o0 kLo "outranking" "[[I" (.ref b12) := ((((H180_F_o0_outranking.keep K186 nin0).other W206 (Or.inr (slot_ne (Or.inr (wq hw (i := 110) rfl)) (Or.inr (wq hw (i := 225) rfl)) (by decide) (t := (.array (.array .int))) (t' := (.object "java/util/List")) (by decide) (by decide)))).keep K218 nin0).other W220 (Or.inr (slot_ne (Or.inr (wq hw (i := 110) rfl)) (Or.inr (wq hw (i := 269) rfl)) (by decide) (t := (.array (.array .int))) (t' := (.object "java/util/List")) (by decide) (by decide))))
   have F_276 : Fld Z h220 o0 kLo "line" "I" (.int (0 : Int32)) := ((((H180_F_o0_line.keep K186 nin0).other W206 (Or.inr (slot_ne (Or.inr (wq hw (i := 271) rfl)) (Or.inr (wq hw (i := 225) rfl)) (by decide) (t := .int) (t' := (.object "java/util/List")) (by decide) (by decide)))).keep K218 nin0).other W220 (Or.inr (slot_ne (Or.inr (wq hw (i := 271) rfl)) (Or.inr (wq hw (i := 269) rfl)) (by decide) (t := .int) (t' := (.object "java/util/List")) (by decide) (by decide))))
   have F_277 : Fld Z h220 o0 kLo "end" "Z" (.int (0 : Int32)) := ((((H180_F_o0_end.keep K186 nin0).other W206 (Or.inr (slot_ne (Or.inr (wq hw (i := 273) rfl)) (Or.inr (wq hw (i := 225) rfl)) (by decide) (t := .boolean) (t' := (.object "java/util/List")) (by decide) (by decide)))).keep K218 nin0).other W220 (Or.inr (slot_ne (Or.inr (wq hw (i := 273) rfl)) (Or.inr (wq hw (i := 269) rfl)) (by decide) (t := .boolean) (t' := (.object "java/util/List")) (by decide) (by decide))))
   have F_278 : Fld Z h220 o0 kLo "labels" "Ljava/util/List;" .null := ((((H180_F_o0_labels.keep K186 nin0).other W206 (Or.inr (slot_ne (Or.inr (wq hw (i := 279) rfl)) (Or.inr (wq hw (i := 225) rfl)) (by decide) (t := (.object "java/util/List")) (t' := (.object "java/util/List")) (by decide) (by decide)))).keep K218 nin0).other W220 (Or.inr (slot_ne (Or.inr (wq hw (i := 279) rfl)) (Or.inr (wq hw (i := 269) rfl)) (by decide) (t := (.object "java/util/List")) (t' := (.object "java/util/List")) (by decide) (by decide))))
   have F_279 : Fld Z h220 o0 kLo "counting" "Ljava/util/List;" .null := ((((H180_F_o0_counting.keep K186 nin0).other W206 (Or.inr (slot_ne (Or.inr (wq hw (i := 281) rfl)) (Or.inr (wq hw (i := 225) rfl)) (by decide) (t := (.object "java/util/List")) (t' := (.object "java/util/List")) (by decide) (by decide)))).keep K218 nin0).other W220 (Or.inr (slot_ne (Or.inr (wq hw (i := 281) rfl)) (Or.inr (wq hw (i := 269) rfl)) (by decide) (t := (.object "java/util/List")) (t' := (.object "java/util/List")) (by decide) (by decide))))
   have Od_280 : Old Z n0 h220 := (Old.wr (Old.keep Od_215 K218 all0) W220 g0)
   have Zs_281 : n0 ≤ h220.size := (Nat.le_trans (Nat.le_trans Zs_219 K218.1) (Nat.le_of_eq W220.size.symm))
   have Kp_282 : Keep h0 h220 [o0] := (Keep.wr (Keep.trans Kp_211 K218 all0) W220 (Or.inl (List.mem_of_getElem? (i := 0) rfl)))
   have Ar_283 : AryA Z h220 b12 (k + j) z180_f_A_b12 := ((((H180_A_b12.keep K186 nin0).other W206 (Ne.symm ne180_o0_b12)).keep K218 nin0).other W220 (Ne.symm ne180_o0_b12))
   have Ex_284 : Exa Z h220 b12 "[[I" := ((((H180_E_b12.keep K186).wr W206).keep K218).wr W220)
   have Ex_285 : Exa Z h220 b112 "[I" := ((((H180_E_b112.keep K186).wr W206).keep K218).wr W220)
   have Ar_286 : AryI Z h220 b112 .int k z125_f_A_b112 := ((((H180_A_b112.keep K186 nin0).other W206 (Ne.symm ne180_o0_b112)).keep K218 nin0).other W220 (Ne.symm ne180_o0_b112))
   exact B217 T220 _ _ (X220.more (cells' := 12) (slots' := 76) (by decide) (by decide)) e220 b112 b12 b2 z125_f_A_b112 z180_f_A_b12 z180_l8 N220 Ex_274 F_275 F_276 F_277 F_278 F_279 Od_280 Zs_281 Kp_282 Ar_283 Ex_284 Ex_285 Ar_286 ne180_o0_b12 ne180_dd_b12 ne180_o0_b112 ne180_dd_b112 ne180_b12_b112 ge180_b112 ge180_b12 sz180_b112 sz180_b12 cy180_wv cy180_id cy180_wt
  ·
   have sa188 := Nat.le_trans H180_K.1 Bq188
   have nao188 : ar188 ≠ o0 := Ne.symm (Nat.ne_of_lt (Nat.lt_of_lt_of_le E_o0.lt sa188))
   have F_224 : Fld Z T186.heap o0 kLo "transitions" "Ljava/util/List;" .null := (H180_F_o0_transitions.keep K186 nin0)
   have Ex_225 : Exa Z T186.heap o0 kLo := (H180_E_o0.keep K186)
   obtain ⟨T223, h223, X223, e223, W223, st223⟩ := putF X186 hx hZ hown (host := "") (Or.inl (wq hw (i := 224) rfl)) Via.refl rfl F_224 Ex_225 (Or.inr ⟨(wq hw (i := 225) rfl), rfl, hnm⟩) (wq hw (i := 98) rfl) (ty := (.object "java/util/List")) (by decide) rfl rfl (g := (mkF m 186 #[vr o0, vr o1, vr o2, vi (0 : Int32), vi (0 : Int32), vr o5, vr b2, vr b112, vi z180_l8] [(.ref b186), (.ref o0)])) rfl rfl (hb hby d13_186)
   have Fw223 : Fld Z h223 o0 kLo "transitions" "Ljava/util/List;" (.ref b186) := F_224.same W223
   refine Fini.st st223 ?_
   have N223 := Fr.snoc X223 N186 g0
   refine fAN X223 hx hby d13_189 rfl rfl rfl ?_
   refine fAN X223 hx hby d13_190 rfl rfl rfl ?_
   obtain ⟨T226, X226, e226, st226⟩ := getF X223 hx hZ hown (host := "") (Or.inl (wq hw (i := 224) rfl)) Via.refl e223 Fw223 (g := (mkF m 191 #[vr o0, vr o1, vr o2, vi (0 : Int32), vi (0 : Int32), vr o5, vr b2, vr b112, vi z180_l8] [(.ref o0), (.ref o0)])) rfl rfl (hb hby d13_191)
   refine Fini.st st226 ?_
   refine fAN X226 hx hby d13_194 rfl rfl rfl ?_
   have Kp_228 : Keep h0 h223 [o0] := (Keep.wr (Keep.trans H180_K K186 all0) W223 (Or.inl (List.mem_of_getElem? (i := 0) rfl)))
   have An_229 : ALs Z n0 dd h223 o1 xa1 k u1 := (A_o1.keep Kp_228 (ninS n1 nin0) (ninS ne1 nin0))
   obtain ⟨T227, X227, e227, st227⟩ := pureI X226 hx hZ hown (wq hw (i := 106) rfl) (wq hw (i := 52) rfl) (wq hw (i := 53) rfl) (wq hw (i := 54) rfl) (wq hw (i := 55) rfl) (wq hw (i := 56) rfl) (wq hw (i := 57) rfl) (wq hw (i := 58) rfl) (wq hw (i := 20) rfl) (wq hw (i := 59) rfl) An_229.exa (by decide) (c7 l Z a0 hw h223 An_229) e226 (W := 2) (by decide) (by decide) (by decide) (by decide) (g := (mkF m 195 #[vr o0, vr o1, vr o2, vi (0 : Int32), vi (0 : Int32), vr o5, vr b2, vr b112, vi z180_l8] [(.ref o1), (.ref b186), (.ref o0)])) rfl (by rw [hml]; rfl) (argsL := []) (rest := [(.ref b186), (.ref o0)]) rfl (lenOf pd_7 rfl) rfl (by show 2 * 0 + _ ≤ _; exact Nat.le_of_eq rfl) (hb hby d13_195)
   refine Fini.st st227 ?_
   show Fini _ _ _ _ _ _ _ T227 (mkF m 200 #[vr o0, vr o1, vr o2, vi (0 : Int32), vi (0 : Int32), vr o5, vr b2, vr b112, vi z180_l8] [(.int k), (.ref b186), (.ref o0)])
   refine fAN X227 hx hby d13_200 rfl rfl rfl ?_
   obtain ⟨T230, X230, e230, st230⟩ := getF X227 hx hZ hown (host := "") (Or.inl (wq hw (i := 224) rfl)) Via.refl e227 Fw223 (g := (mkF m 201 #[vr o0, vr o1, vr o2, vi (0 : Int32), vi (0 : Int32), vr o5, vr b2, vr b112, vi z180_l8] [(.ref o0), (.int k), (.ref b186), (.ref o0)])) rfl rfl (hb hby d13_201)
   refine Fini.st st230 ?_
   have F_232 : Fld Z h223 b186 "java/util/ImmutableCollections$ListN" "elements" "[Ljava/lang/Object;" (.ref ar188) := (Fq188.other W223 (Or.inl (Ne.symm ne_o0_b186)))
   have Ar_233 : AryR Z h223 ar188 "java/lang/Object" z180_n_L_b2 w188 := (Aq188.other W223 nao188)
   have Ex_234 : Exa Z h223 b186 "java/util/ImmutableCollections$ListN" := (Eq188.wr W223)
   obtain ⟨T231, X231, e231, st231⟩ := pureI X230 hx hZ hown (wq hw (i := 106) rfl) (wq hw (i := 52) rfl) (wq hw (i := 53) rfl) (wq hw (i := 316) rfl) (wq hw (i := 317) rfl) (wq hw (i := 318) rfl) (wq hw (i := 319) rfl) (wq hw (i := 320) rfl) (wq hw (i := 303) rfl) (wq hw (i := 321) rfl) Ex_234 (by decide) (rm40 l Z a0 hw [] b186 ar188 z180_n_L_b2 w188 h223 F_232 Ar_233) e230 (W := 3) (by decide) (by decide) (by decide) (by decide) (g := (mkF m 204 #[vr o0, vr o1, vr o2, vi (0 : Int32), vi (0 : Int32), vr o5, vr b2, vr b112, vi z180_l8] [(.ref b186), (.int k), (.ref b186), (.ref o0)])) rfl (by rw [hml]; rfl) (argsL := []) (rest := [(.int k), (.ref b186), (.ref o0)]) rfl (lenOf pd_7 rfl) rfl (by show 2 * 0 + _ ≤ _; exact Nat.le_of_eq rfl) (hb hby d13_204)
   refine Fini.st st231 ?_
   show Fini _ _ _ _ _ _ _ T231 (mkF m 209 #[vr o0, vr o1, vr o2, vi (0 : Int32), vi (0 : Int32), vr o5, vr b2, vr b112, vi z180_l8] [(.int z180_n_L_b2), (.int k), (.ref b186), (.ref o0)])
   have Zs_236 : n0 ≤ h223.size := (Nat.le_trans (Nat.le_trans H180_Z K186.1) (Nat.le_of_eq W223.size.symm))
   have Od_237 : Old Z n0 h223 := (Old.wr (Old.keep H180_D K186 all0) W223 g0)
   obtain ⟨v235, T235, L235, X235, hQ235, st235⟩ := callI X231 hx hZ hown (wq hw (i := 232) rfl) (wq hw (i := 233) rfl) (wq hw (i := 234) rfl) (wq hw (i := 322) rfl) (wq hw (i := 236) rfl) (wq hw (i := 237) rfl) (wq hw (i := 323) rfl) (wq hw (i := 320) rfl) (wq hw (i := 206) rfl) (wq hw (i := 239) rfl) Ex_234 (by decide) (rm31b l Z a0 hw [] b186 k z180_n_L_b2 ar188 w188 h223 n0 Zs_236 Ex_234 Od_237 S_sa F_232 Ar_233 hk0 (by rw [cy180_n6]; exact own_kle hk0 hk hj0 hj)) e231 (W := 1) (by decide) (by decide) (by decide) (by decide) (g := (mkF m 209 #[vr o0, vr o1, vr o2, vi (0 : Int32), vi (0 : Int32), vr o5, vr b2, vr b112, vi z180_l8] [(.int z180_n_L_b2), (.int k), (.ref b186), (.ref o0)])) rfl (by rw [hml]; rfl) (argsL := [(.int k), (.int z180_n_L_b2)]) (rest := [(.ref o0)]) rfl (lenOf pd_22 rfl) rfl (by show 2 * 0 + _ ≤ _; exact Nat.le_of_eq rfl) (hb hby d13_209)
   obtain ⟨b235, rfl, Nq235, K235⟩ := hQ235
   have N235 := Fr.app N223 Nq235
   refine Fini.st st235 ?_
   show Fini _ _ _ _ _ _ _ T235 (mkF m 214 #[vr o0, vr o1, vr o2, vi (0 : Int32), vi (0 : Int32), vr o5, vr b2, vr b112, vi z180_l8] [(.ref b235), (.ref o0)])
   have F_239 : Fld Z T235.heap o0 kLo "ownTransitions" "Ljava/util/List;" .null := (((H180_F_o0_ownTransitions.keep K186 nin0).other W223 (Or.inr (slot_ne (Or.inr (wq hw (i := 269) rfl)) (Or.inr (wq hw (i := 225) rfl)) (by decide) (t := (.object "java/util/List")) (t' := (.object "java/util/List")) (by decide) (by decide)))).keep K235 nin0)
   have Ex_240 : Exa Z T235.heap o0 kLo := ((Ex_225.wr W223).keep K235)
   obtain ⟨T238, h238, X238, e238, W238, st238⟩ := putF X235 hx hZ hown (host := "") (Or.inl (wq hw (i := 268) rfl)) Via.refl rfl F_239 Ex_240 (Or.inr ⟨(wq hw (i := 269) rfl), rfl, hnm⟩) (wq hw (i := 98) rfl) (ty := (.object "java/util/List")) (by decide) rfl rfl (g := (mkF m 214 #[vr o0, vr o1, vr o2, vi (0 : Int32), vi (0 : Int32), vr o5, vr b2, vr b112, vi z180_l8] [(.ref b235), (.ref o0)])) rfl rfl (hb hby d13_214)
   have Fw238 : Fld Z h238 o0 kLo "ownTransitions" "Ljava/util/List;" (.ref b235) := F_239.same W238
   refine Fini.st st238 ?_
   have N238 := Fr.snoc X238 N235 g0
   show Fini _ _ _ _ _ _ _ T238 (mkF m 217 #[vr o0, vr o1, vr o2, vi (0 : Int32), vi (0 : Int32), vr o5, vr b2, vr b112, vi z180_l8] [])
   have Ex_287 : Exa Z h238 o0 kLo := (Ex_240.wr W238)
   have F_288 : Fld Z h238 o0 kLo "outranking" "[[I" (.ref b12) := ((((H180_F_o0_outranking.keep K186 nin0).other W223 (Or.inr (slot_ne (Or.inr (wq hw (i := 110) rfl)) (Or.inr (wq hw (i := 225) rfl)) (by decide) (t := (.array (.array .int))) (t' := (.object "java/util/List")) (by decide) (by decide)))).keep K235 nin0).other W238 (Or.inr (slot_ne (Or.inr (wq hw (i := 110) rfl)) (Or.inr (wq hw (i := 269) rfl)) (by decide) (t := (.array (.array .int))) (t' := (.object "java/util/List")) (by decide) (by decide))))
   have F_289 : Fld Z h238 o0 kLo "line" "I" (.int (0 : Int32)) := ((((H180_F_o0_line.keep K186 nin0).other W223 (Or.inr (slot_ne (Or.inr (wq hw (i := 271) rfl)) (Or.inr (wq hw (i := 225) rfl)) (by decide) (t := .int) (t' := (.object "java/util/List")) (by decide) (by decide)))).keep K235 nin0).other W238 (Or.inr (slot_ne (Or.inr (wq hw (i := 271) rfl)) (Or.inr (wq hw (i := 269) rfl)) (by decide) (t := .int) (t' := (.object "java/util/List")) (by decide) (by decide))))
   have F_290 : Fld Z h238 o0 kLo "end" "Z" (.int (0 : Int32)) := ((((H180_F_o0_end.keep K186 nin0).other W223 (Or.inr (slot_ne (Or.inr (wq hw (i := 273) rfl)) (Or.inr (wq hw (i := 225) rfl)) (by decide) (t := .boolean) (t' := (.object "java/util/List")) (by decide) (by decide)))).keep K235 nin0).other W238 (Or.inr (slot_ne (Or.inr (wq hw (i := 273) rfl)) (Or.inr (wq hw (i := 269) rfl)) (by decide) (t := .boolean) (t' := (.object "java/util/List")) (by decide) (by decide))))
   have F_291 : Fld Z h238 o0 kLo "labels" "Ljava/util/List;" .null := ((((H180_F_o0_labels.keep K186 nin0).other W223 (Or.inr (slot_ne (Or.inr (wq hw (i := 279) rfl)) (Or.inr (wq hw (i := 225) rfl)) (by decide) (t := (.object "java/util/List")) (t' := (.object "java/util/List")) (by decide) (by decide)))).keep K235 nin0).other W238 (Or.inr (slot_ne (Or.inr (wq hw (i := 279) rfl)) (Or.inr (wq hw (i := 269) rfl)) (by decide) (t := (.object "java/util/List")) (t' := (.object "java/util/List")) (by decide) (by decide))))
   have F_292 : Fld Z h238 o0 kLo "counting" "Ljava/util/List;" .null := ((((H180_F_o0_counting.keep K186 nin0).other W223 (Or.inr (slot_ne (Or.inr (wq hw (i := 281) rfl)) (Or.inr (wq hw (i := 225) rfl)) (by decide) (t := (.object "java/util/List")) (t' := (.object "java/util/List")) (by decide) (by decide)))).keep K235 nin0).other W238 (Or.inr (slot_ne (Or.inr (wq hw (i := 281) rfl)) (Or.inr (wq hw (i := 269) rfl)) (by decide) (t := (.object "java/util/List")) (t' := (.object "java/util/List")) (by decide) (by decide))))
   have Od_293 : Old Z n0 h238 := (Old.wr (Old.keep Od_237 K235 all0) W238 g0)
   have Zs_294 : n0 ≤ h238.size := (Nat.le_trans (Nat.le_trans Zs_236 K235.1) (Nat.le_of_eq W238.size.symm))
   have Kp_295 : Keep h0 h238 [o0] := (Keep.wr (Keep.trans Kp_228 K235 all0) W238 (Or.inl (List.mem_of_getElem? (i := 0) rfl)))
   have Ar_296 : AryA Z h238 b12 (k + j) z180_f_A_b12 := ((((H180_A_b12.keep K186 nin0).other W223 (Ne.symm ne180_o0_b12)).keep K235 nin0).other W238 (Ne.symm ne180_o0_b12))
   have Ex_297 : Exa Z h238 b12 "[[I" := ((((H180_E_b12.keep K186).wr W223).keep K235).wr W238)
   have Ex_298 : Exa Z h238 b112 "[I" := ((((H180_E_b112.keep K186).wr W223).keep K235).wr W238)
   have Ar_299 : AryI Z h238 b112 .int k z125_f_A_b112 := ((((H180_A_b112.keep K186 nin0).other W223 (Ne.symm ne180_o0_b112)).keep K235 nin0).other W238 (Ne.symm ne180_o0_b112))
   exact B217 T238 _ _ (X238.more (cells' := 12) (slots' := 76) (by decide) (by decide)) e238 b112 b12 b2 z125_f_A_b112 z180_f_A_b12 z180_l8 N238 Ex_287 F_288 F_289 F_290 F_291 F_292 Od_293 Zs_294 Kp_295 Ar_296 Ex_297 Ex_298 Ar_299 ne180_o0_b12 ne180_dd_b12 ne180_o0_b112 ne180_dd_b112 ne180_b12_b112 ge180_b112 ge180_b12 sz180_b112 sz180_b12 cy180_wv cy180_id cy180_wt
 have B125 : ∀ (T_125 : State) (h_125 : Heap) (locs : List Loc) (X_125 : Stand p l e ({ frames := 9, cells := 12, slots := 76, locals := 116 } : Room) s m #[(.ref o0), (.ref o1), (.ref o2), (.int (0 : Int32)), (.int (0 : Int32)), (.ref o5)] below meth c T_125 locs 6 41) (e_125 : T_125.heap = h_125) (b112 : Addr) (b12 : Addr) (b2 : Addr) (e6 : Addr) (z125_l8 : Int32) (z125_f_A_b112 : Nat → Int32) (z91_f_A_b12 : Nat → Value) (z91_f_L_b2 : Nat → Value) (z91_l7 : Int32) (N_125 : Fr n0 locs) (H125_E_o0 : Exa Z h_125 o0 kLo) (H125_F_o0_outranking : Fld Z h_125 o0 kLo "outranking" "[[I" (.ref b12)) (H125_F_o0_transitions : Fld Z h_125 o0 kLo "transitions" "Ljava/util/List;" .null) (H125_F_o0_ownTransitions : Fld Z h_125 o0 kLo "ownTransitions" "Ljava/util/List;" .null) (H125_F_o0_line : Fld Z h_125 o0 kLo "line" "I" (.int (0 : Int32))) (H125_F_o0_end : Fld Z h_125 o0 kLo "end" "Z" (.int (0 : Int32))) (H125_F_o0_labels : Fld Z h_125 o0 kLo "labels" "Ljava/util/List;" .null) (H125_F_o0_counting : Fld Z h_125 o0 kLo "counting" "Ljava/util/List;" .null) (H125_D : Old Z n0 h_125) (H125_Z : n0 ≤ h_125.size) (H125_K : Keep h0 h_125 [o0]) (H125_L_b2 : ALs Z h0.size dd h_125 b2 e6 z91_l7 z91_f_L_b2) (H125_A_b12 : AryA Z h_125 b12 (k + j) z91_f_A_b12) (H125_E_b12 : Exa Z h_125 b12 "[[I") (H125_E_b112 : Exa Z h_125 b112 "[I") (H125_A_b112 : AryI Z h_125 b112 .int k z125_f_A_b112) (ne125_o0_b2 : o0 ≠ b2) (ne125_dd_b2 : dd ≠ b2) (ne125_o0_b12 : o0 ≠ b12) (ne125_dd_b12 : dd ≠ b12) (ne125_b2_b12 : b2 ≠ b12) (ne125_e6_o0 : e6 ≠ o0) (ne125_e6_b2 : e6 ≠ b2) (ne125_e6_b12 : e6 ≠ b12) (ne125_o0_b112 : o0 ≠ b112) (ne125_dd_b112 : dd ≠ b112) (ne125_b2_b112 : b2 ≠ b112) (ne125_e6_b112 : e6 ≠ b112) (ne125_b12_b112 : b12 ≠ b112) (ge125_b112 : n0 ≤ b112) (ge125_b12 : n0 ≤ b12) (ge125_b2 : n0 ≤ b2) (sz125_b112 : h0.size ≤ b112) (sz125_b12 : h0.size ≤ b12) (sz125_b2 : h0.size ≤ b2) (cy125_n6 : z91_l7 = k) (cy125_ft : FT k.toNatClampNeg z91_f_L_b2 t) (cy125_wv : WV Z h0 Bm k.toNatClampNeg z91_f_A_b12 S) (cy125_id : ID k.toNatClampNeg z125_f_A_b112), Fini p e below s (fun v h' L => v = none ∧ Fr n0 L ∧ Keep h0 h' [o0] ∧ ∃ ob w, Fld Z h' o0 kLo "outranking" "[[I" (.ref ob) ∧ AryA Z h' ob (k + j) w ∧ OUT Z h' k j w S) (Room.cells ({ frames := 9, cells := 12, slots := 76, locals := 116 } : Room)) (Room.slots ({ frames := 9, cells := 12, slots := 76, locals := 116 } : Room)) T_125 (mkF m 125 #[vr o0, vr o1, vr o2, vi (0 : Int32), vi (0 : Int32), vr o5, vr b2, vr b112, vi z125_l8] []) := by
  intro T_125 h_125 locs  X_125 e_125  b112 b12 b2 e6 z125_l8 z125_f_A_b112 z91_f_A_b12 z91_f_L_b2 z91_l7 N_125 H125_E_o0 H125_F_o0_outranking H125_F_o0_transitions H125_F_o0_ownTransitions H125_F_o0_line H125_F_o0_end H125_F_o0_labels H125_F_o0_counting H125_D H125_Z H125_K H125_L_b2 H125_A_b12 H125_E_b12 H125_E_b112 H125_A_b112 ne125_o0_b2 ne125_dd_b2 ne125_o0_b12 ne125_dd_b12 ne125_b2_b12 ne125_e6_o0 ne125_e6_b2 ne125_e6_b12 ne125_o0_b112 ne125_dd_b112 ne125_b2_b112 ne125_e6_b112 ne125_b12_b112 ge125_b112 ge125_b12 ge125_b2 sz125_b112 sz125_b12 sz125_b2 cy125_n6 cy125_ft cy125_wv cy125_id
  refine fC X_125 hx hby d13_125 rfl ?_
  refine Fini.st (fun _ k => XS.istore X_125.here hx rfl (hb hby d13_126) rfl (l' := #[vr o0, vr o1, vr o2, vi (0 : Int32), vi (0 : Int32), vr o5, vr b2, vr b112, vi (0 : Int32)]) rfl k) ?_
  show Fini _ _ _ _ _ _ _ T_125 (mkF m 128 #[vr o0, vr o1, vr o2, vi (0 : Int32), vi (0 : Int32), vr o5, vr b2, vr b112, vi (0 : Int32)] [])
  refine fI X_125 hx hby d13_128 rfl rfl ?_
  refine fAN X_125 hx hby d13_130 rfl rfl rfl ?_
  have An_125 : ALs Z n0 dd h_125 o2 xa2 j u2 := (A_o2.keep H125_K (ninS n2 nin0) (ninS ne2 nin0))
  obtain ⟨T124, X124, e124, st124⟩ := pureI X_125 hx hZ hown (wq hw (i := 106) rfl) (wq hw (i := 52) rfl) (wq hw (i := 53) rfl) (wq hw (i := 54) rfl) (wq hw (i := 55) rfl) (wq hw (i := 56) rfl) (wq hw (i := 57) rfl) (wq hw (i := 58) rfl) (wq hw (i := 20) rfl) (wq hw (i := 59) rfl) An_125.exa (by decide) (c7 l Z a0 hw h_125 An_125) e_125 (W := 1) (by decide) (by decide) (by decide) (by decide) (g := (mkF m 131 #[vr o0, vr o1, vr o2, vi (0 : Int32), vi (0 : Int32), vr o5, vr b2, vr b112, vi (0 : Int32)] [(.ref o2), (.int (0 : Int32))])) rfl (by rw [hml]; rfl) (argsL := []) (rest := [(.int (0 : Int32))]) rfl (lenOf pd_7 rfl) rfl (by show 2 * 0 + _ ≤ _; exact Nat.le_of_eq rfl) (hb hby d13_131)
  refine Fini.st st124 ?_
  show Fini _ _ _ _ _ _ _ T124 (mkF m 136 #[vr o0, vr o1, vr o2, vi (0 : Int32), vi (0 : Int32), vr o5, vr b2, vr b112, vi (0 : Int32)] [(.int j), (.int (0 : Int32))])
  by_cases c126 : (0 : Int32) < j
  ·
   refine Fini.st (fun _ k => XS.icmpNo X124.here hx rfl (hb hby d13_136) rfl (XT.ii_ge_f c126) k) ?_
   refine fA X124 hx hby d13_139 rfl rfl rfl ?_
   refine fAN X124 hx hby d13_141 rfl rfl rfl ?_
   refine fI X124 hx hby d13_142 rfl rfl ?_
   obtain ⟨v127, T127, L127, X127, hQ127, st127⟩ := callI X124 hx hZ hown (wq hw (i := 111) rfl) (wq hw (i := 112) rfl) (wq hw (i := 113) rfl) (wq hw (i := 114) rfl) (wq hw (i := 115) rfl) (wq hw (i := 116) rfl) (wq hw (i := 117) rfl) (wq hw (i := 58) rfl) (wq hw (i := 20) rfl) (wq hw (i := 118) rfl) An_125.exa (by decide) (c14 l Z a0 hw h_125 An_125 (i := (0 : Int32)) (by decide) c126) e124 (W := 1) (by decide) (by decide) (by decide) (by decide) (g := (mkF m 144 #[vr o0, vr o1, vr o2, vi (0 : Int32), vi (0 : Int32), vr o5, vr b2, vr b112, vi (0 : Int32)] [(.int (0 : Int32)), (.ref o2), (.ref b2)])) rfl (by rw [hml]; rfl) (argsL := [(.int (0 : Int32))]) (rest := [(.ref b2)]) rfl (lenOf pd_3 rfl) rfl (by show 2 * 0 + _ ≤ _; exact Nat.le_of_eq rfl) (hb hby d13_144)
   have eq127 : u2 ((0 : Int32)).toNatClampNeg = .ref t := hu2 _ (nat_lt ⟨by decide, c126⟩)
   rw [eq127] at hQ127
   obtain ⟨rfl, hh127, rfl⟩ := hQ127
   have K127 : Keep h_125 T127.heap [] := by rw [hh127]; exact Keep.refl _ _
   have Nq127 := Fr.nil n0
   have N127 := Fr.app N_125 Nq127
   refine Fini.st st127 ?_
   show Fini _ _ _ _ _ _ _ T127 (mkF m 149 #[vr o0, vr o1, vr o2, vi (0 : Int32), vi (0 : Int32), vr o5, vr b2, vr b112, vi (0 : Int32)] [(.ref t), (.ref b2)])
   have Kp_129 : Keep h0 T127.heap [o0] := (Keep.trans H125_K K127 all0)
   have An_130 : Exa Z T127.heap t kTr := (E_t.keep Kp_129)
   obtain ⟨T128, X128, e128, st128⟩ := castY X127 hx hZ hown (wq hw (i := 295) rfl) rfl (Ins.self An_130) (g := (mkF m 149 #[vr o0, vr o1, vr o2, vi (0 : Int32), vi (0 : Int32), vr o5, vr b2, vr b112, vi (0 : Int32)] [(.ref t), (.ref b2)])) rfl rfl (hb hby d13_149)
   refine Fini.st st128 ?_
   have Zs_132 : n0 ≤ T127.heap.size := (Nat.le_trans H125_Z K127.1)
   have Al_133 : ALs Z h0.size dd T127.heap b2 e6 z91_l7 z91_f_L_b2 := (H125_L_b2.keep K127 nin0 nin0)
   have Od_134 : Old Z n0 T127.heap := (Old.keep H125_D K127 all0)
   obtain ⟨v131, T131, L131, X131, hQ131, st131⟩ := callI X128 hx hZ hown (wq hw (i := 135) rfl) (wq hw (i := 66) rfl) (wq hw (i := 67) rfl) (wq hw (i := 68) rfl) (wq hw (i := 69) rfl) (wq hw (i := 70) rfl) (wq hw (i := 71) rfl) (wq hw (i := 58) rfl) (wq hw (i := 20) rfl) (wq hw (i := 72) rfl) Al_133.exa (by decide) (c8 l Z a0 hw T127.heap n0 Zs_132 Al_133 (o1 := t) Z0 ge125_b2 (own_a0 cy125_n6 hk0 hk) Od_134 S_dd A_dd (Ins.of_exa An_130 (wq hw (i := 136) rfl)) Kp_129.1) e128 (W := 0) (by decide) (by decide) (by decide) (by decide) (g := (mkF m 152 #[vr o0, vr o1, vr o2, vi (0 : Int32), vi (0 : Int32), vr o5, vr b2, vr b112, vi (0 : Int32)] [(.ref t), (.ref b2)])) rfl (by rw [hml]; rfl) (argsL := [(.ref t)]) (rest := []) rfl (lenOf pd_21 rfl) rfl (by show 2 * 0 + _ ≤ _; exact Nat.le_of_eq rfl) (hb hby d13_152)
   obtain ⟨rfl, Nq131, x131, K131, hx131, Bx131, Al131⟩ := hQ131
   have Ex_135 : Exa Z T127.heap o0 kLo := (H125_E_o0.keep K127)
   have An_136 : AryQ Z T127.heap dd (0 : Int32) := (A_dd.ext Od_134.2)
   have Ar_137 : AryA Z T127.heap b12 (k + j) z91_f_A_b12 := (H125_A_b12.keep K127 nin0)
   have Ex_138 : Exa Z T127.heap b112 "[I" := (H125_E_b112.keep K127)
   have ne_o0_x131 : o0 ≠ x131 := hx131.elim (fun w => by rw [w.1]; exact (Ne.symm ne125_e6_o0)) (fun w => Nat.ne_of_lt (Nat.lt_of_lt_of_le Ex_135.lt w))
   have ne_dd_x131 : dd ≠ x131 := Nat.ne_of_lt (Nat.lt_of_lt_of_le (Od_134.1 ▸ A_dd.lt) (Nat.le_trans Z0 Bx131))
   have ne_b2_x131 : b2 ≠ x131 := hx131.elim (fun w => by rw [w.1]; exact Al_133.2.2.2.2.1) (fun w => Nat.ne_of_lt (Nat.lt_of_lt_of_le Al_133.lt w))
   have ne_b12_x131 : b12 ≠ x131 := hx131.elim (fun w => by rw [w.1]; exact (Ne.symm ne125_e6_b12)) (fun w => Nat.ne_of_lt (Nat.lt_of_lt_of_le Ar_137.lt w))
   have ne_b112_x131 : b112 ≠ x131 := hx131.elim (fun w => by rw [w.1]; exact (Ne.symm ne125_e6_b112)) (fun w => Nat.ne_of_lt (Nat.lt_of_lt_of_le Ex_138.lt w))
   have sz_x131 : h0.size ≤ x131 := Bx131
   have N131 := Fr.app N127 Nq131
   refine Fini.st st131 ?_
   show Fini _ _ _ _ _ _ _ T131 (mkF m 157 #[vr o0, vr o1, vr o2, vi (0 : Int32), vi (0 : Int32), vr o5, vr b2, vr b112, vi (0 : Int32)] [(.int (1 : Int32))])
   refine Fini.st (fun _ k => XS.pop X131.here hx rfl (hb hby d13_157) rfl rfl k) ?_
   refine fAN X131 hx hby d13_158 rfl rfl rfl ?_
   have F_140 : Fld Z T131.heap o0 kLo "outranking" "[[I" (.ref b12) := ((H125_F_o0_outranking.keep K127 nin0).keep K131 (ninS ne125_o0_b2 (ninS ne_o0_x131 nin0)))
   obtain ⟨T139, X139, e139, st139⟩ := getF X131 hx hZ hown (host := "") (Or.inl (wq hw (i := 109) rfl)) Via.refl rfl F_140 (g := (mkF m 159 #[vr o0, vr o1, vr o2, vi (0 : Int32), vi (0 : Int32), vr o5, vr b2, vr b112, vi (0 : Int32)] [(.ref o0)])) rfl rfl (hb hby d13_159)
   refine Fini.st st139 ?_
   refine fAN X139 hx hby d13_162 rfl rfl rfl ?_
   have Kp_142 : Keep h0 T131.heap [o0] := (Keep.trans Kp_129 K131 (allS (P := fun x => x ∈ _ ∨ _ ≤ x) (Or.inr sz125_b2) (allS (P := fun x => x ∈ _ ∨ _ ≤ x) (Or.inr sz_x131) all0)))
   have An_143 : ALs Z n0 dd T131.heap o1 xa1 k u1 := (A_o1.keep Kp_142 (ninS n1 nin0) (ninS ne1 nin0))
   obtain ⟨T141, X141, e141, st141⟩ := pureI X139 hx hZ hown (wq hw (i := 106) rfl) (wq hw (i := 52) rfl) (wq hw (i := 53) rfl) (wq hw (i := 54) rfl) (wq hw (i := 55) rfl) (wq hw (i := 56) rfl) (wq hw (i := 57) rfl) (wq hw (i := 58) rfl) (wq hw (i := 20) rfl) (wq hw (i := 59) rfl) An_143.exa (by decide) (c7 l Z a0 hw T131.heap An_143) e139 (W := 1) (by decide) (by decide) (by decide) (by decide) (g := (mkF m 163 #[vr o0, vr o1, vr o2, vi (0 : Int32), vi (0 : Int32), vr o5, vr b2, vr b112, vi (0 : Int32)] [(.ref o1), (.ref b12)])) rfl (by rw [hml]; rfl) (argsL := []) (rest := [(.ref b12)]) rfl (lenOf pd_7 rfl) rfl (by show 2 * 0 + _ ≤ _; exact Nat.le_of_eq rfl) (hb hby d13_163)
   refine Fini.st st141 ?_
   show Fini _ _ _ _ _ _ _ T141 (mkF m 168 #[vr o0, vr o1, vr o2, vi (0 : Int32), vi (0 : Int32), vr o5, vr b2, vr b112, vi (0 : Int32)] [(.int k), (.ref b12)])
   refine fI X141 hx hby d13_168 rfl rfl ?_
   refine Fini.st (fun _ k => XS.iadd X141.here hx rfl (hb hby d13_170) rfl k) ?_
   refine fA X141 hx hby d13_171 rfl rfl rfl ?_
   show Fini _ _ _ _ _ _ _ T141 (mkF m 173 #[vr o0, vr o1, vr o2, vi (0 : Int32), vi (0 : Int32), vr o5, vr b2, vr b112, vi (0 : Int32)] [(.ref b112), (.int (k + (0 : Int32))), (.ref b12)])
   have Ar_144 : AryA Z T131.heap b12 (k + j) z91_f_A_b12 := (Ar_137.keep K131 (ninS (Ne.symm ne125_b2_b12) (ninS ne_b12_x131 nin0)))
   have Ex_146 : Exa Z T131.heap b112 "[I" := (Ex_138.keep K131)
   obtain ⟨T145, h145, X145, e145, W145, Ar145, st145⟩ := Ar_144.st X141 hx hZ e141 (own_kiin c126 (by decide) hk0 hk hj0 hj) (Or.inr ⟨_, rfl, (Ins.self Ex_146)⟩) (g := (mkF m 173 #[vr o0, vr o1, vr o2, vi (0 : Int32), vi (0 : Int32), vr o5, vr b2, vr b112, vi (0 : Int32)] [(.ref b112), (.int (k + (0 : Int32))), (.ref b12)])) rfl rfl (hb hby d13_173)
   refine Fini.st st145 ?_
   have N145 := Fr.snoc X145 N131 ge125_b12
   have wv147 := WV.other (y := .ref b112) cy125_wv (own_ge0 hk0 hk)
   have wt147 := WT.step (WT.zero k.toNatClampNeg z91_f_A_b12 b112) (own_at0 hk0 hk)
   show Fini _ _ _ _ _ _ _ T145 (mkF m 174 #[vr o0, vr o1, vr o2, vi (0 : Int32), vi (0 : Int32), vr o5, vr b2, vr b112, vi (0 : Int32)] [])
   refine Fini.st (fun _ k => XS.iinc X145.here hx rfl (hb hby d13_174) rfl (l' := #[vr o0, vr o1, vr o2, vi (0 : Int32), vi (0 : Int32), vr o5, vr b2, vr b112, vi (1 : Int32)]) rfl k) ?_
   refine Fini.st (fun _ k => XS.goto X145.here hx rfl (pc0 := 177) (pc' := 128) rfl (hb hby d13_177) (by decide) (by decide) k) ?_
   show Fini _ _ _ _ _ _ _ T145 (mkF m 128 #[vr o0, vr o1, vr o2, vi (0 : Int32), vi (0 : Int32), vr o5, vr b2, vr b112, vi (1 : Int32)] [])
   refine fI X145 hx hby d13_128 rfl rfl ?_
   refine fAN X145 hx hby d13_130 rfl rfl rfl ?_
   have Kp_149 : Keep h0 h145 [o0] := (Keep.wr Kp_142 W145 (Or.inr sz125_b12))
   have An_150 : ALs Z n0 dd h145 o2 xa2 j u2 := (A_o2.keep Kp_149 (ninS n2 nin0) (ninS ne2 nin0))
   obtain ⟨T148, X148, e148, st148⟩ := pureI X145 hx hZ hown (wq hw (i := 106) rfl) (wq hw (i := 52) rfl) (wq hw (i := 53) rfl) (wq hw (i := 54) rfl) (wq hw (i := 55) rfl) (wq hw (i := 56) rfl) (wq hw (i := 57) rfl) (wq hw (i := 58) rfl) (wq hw (i := 20) rfl) (wq hw (i := 59) rfl) An_150.exa (by decide) (c7 l Z a0 hw h145 An_150) e145 (W := 1) (by decide) (by decide) (by decide) (by decide) (g := (mkF m 131 #[vr o0, vr o1, vr o2, vi (0 : Int32), vi (0 : Int32), vr o5, vr b2, vr b112, vi (1 : Int32)] [(.ref o2), (.int (1 : Int32))])) rfl (by rw [hml]; rfl) (argsL := []) (rest := [(.int (1 : Int32))]) rfl (lenOf pd_7 rfl) rfl (by show 2 * 0 + _ ≤ _; exact Nat.le_of_eq rfl) (hb hby d13_131)
   refine Fini.st st148 ?_
   show Fini _ _ _ _ _ _ _ T148 (mkF m 136 #[vr o0, vr o1, vr o2, vi (0 : Int32), vi (0 : Int32), vr o5, vr b2, vr b112, vi (1 : Int32)] [(.int j), (.int (1 : Int32))])
   by_cases c151 : (1 : Int32) < j
   ·
    refine Fini.st (fun _ k => XS.icmpNo X148.here hx rfl (hb hby d13_136) rfl (XT.ii_ge_f c151) k) ?_
    refine fA X148 hx hby d13_139 rfl rfl rfl ?_
    refine fAN X148 hx hby d13_141 rfl rfl rfl ?_
    refine fI X148 hx hby d13_142 rfl rfl ?_
    obtain ⟨v152, T152, L152, X152, hQ152, st152⟩ := callI X148 hx hZ hown (wq hw (i := 111) rfl) (wq hw (i := 112) rfl) (wq hw (i := 113) rfl) (wq hw (i := 114) rfl) (wq hw (i := 115) rfl) (wq hw (i := 116) rfl) (wq hw (i := 117) rfl) (wq hw (i := 58) rfl) (wq hw (i := 20) rfl) (wq hw (i := 118) rfl) An_150.exa (by decide) (c14 l Z a0 hw h145 An_150 (i := (1 : Int32)) (by decide) c151) e148 (W := 1) (by decide) (by decide) (by decide) (by decide) (g := (mkF m 144 #[vr o0, vr o1, vr o2, vi (0 : Int32), vi (0 : Int32), vr o5, vr b2, vr b112, vi (1 : Int32)] [(.int (1 : Int32)), (.ref o2), (.ref b2)])) rfl (by rw [hml]; rfl) (argsL := [(.int (1 : Int32))]) (rest := [(.ref b2)]) rfl (lenOf pd_3 rfl) rfl (by show 2 * 0 + _ ≤ _; exact Nat.le_of_eq rfl) (hb hby d13_144)
    have eq152 : u2 ((1 : Int32)).toNatClampNeg = .ref t := hu2 _ (nat_lt ⟨by decide, c151⟩)
    rw [eq152] at hQ152
    obtain ⟨rfl, hh152, rfl⟩ := hQ152
    have K152 : Keep h145 T152.heap [] := by rw [hh152]; exact Keep.refl _ _
    have Nq152 := Fr.nil n0
    have N152 := Fr.app N145 Nq152
    refine Fini.st st152 ?_
    show Fini _ _ _ _ _ _ _ T152 (mkF m 149 #[vr o0, vr o1, vr o2, vi (0 : Int32), vi (0 : Int32), vr o5, vr b2, vr b112, vi (1 : Int32)] [(.ref t), (.ref b2)])
    have Kp_154 : Keep h0 T152.heap [o0] := (Keep.trans Kp_149 K152 all0)
    have An_155 : Exa Z T152.heap t kTr := (E_t.keep Kp_154)
    obtain ⟨T153, X153, e153, st153⟩ := castY X152 hx hZ hown (wq hw (i := 295) rfl) rfl (Ins.self An_155) (g := (mkF m 149 #[vr o0, vr o1, vr o2, vi (0 : Int32), vi (0 : Int32), vr o5, vr b2, vr b112, vi (1 : Int32)] [(.ref t), (.ref b2)])) rfl rfl (hb hby d13_149)
    refine Fini.st st153 ?_
    have Zs_157 : n0 ≤ T152.heap.size := (Nat.le_trans (Nat.le_trans (Nat.le_trans Zs_132 K131.1) (Nat.le_of_eq W145.size.symm)) K152.1)
    have Al_158 : ALs Z h0.size dd T152.heap b2 x131 (z91_l7 + (1 : Int32)) (upd z91_f_L_b2 (z91_l7).toNatClampNeg (.ref t)) := ((Al131.other W145 ne125_b2_b12 (Ne.symm ne_b12_x131)).keep K152 nin0 nin0)
    have Od_159 : Old Z n0 T152.heap := (Old.keep (Old.wr (Old.keep Od_134 K131 (allS (P := fun x => n0 ≤ x) ge125_b2 (allS (P := fun x => n0 ≤ x) (Nat.le_trans Z0 Bx131) all0))) W145 ge125_b12) K152 all0)
    obtain ⟨v156, T156, L156, X156, hQ156, st156⟩ := callI X153 hx hZ hown (wq hw (i := 135) rfl) (wq hw (i := 66) rfl) (wq hw (i := 67) rfl) (wq hw (i := 68) rfl) (wq hw (i := 69) rfl) (wq hw (i := 70) rfl) (wq hw (i := 71) rfl) (wq hw (i := 58) rfl) (wq hw (i := 20) rfl) (wq hw (i := 72) rfl) Al_158.exa (by decide) (c8 l Z a0 hw T152.heap n0 Zs_157 Al_158 (o1 := t) Z0 ge125_b2 (own_a1 cy125_n6 hk0 hk) Od_159 S_dd A_dd (Ins.of_exa An_155 (wq hw (i := 136) rfl)) Kp_154.1) e153 (W := 0) (by decide) (by decide) (by decide) (by decide) (g := (mkF m 152 #[vr o0, vr o1, vr o2, vi (0 : Int32), vi (0 : Int32), vr o5, vr b2, vr b112, vi (1 : Int32)] [(.ref t), (.ref b2)])) rfl (by rw [hml]; rfl) (argsL := [(.ref t)]) (rest := []) rfl (lenOf pd_21 rfl) rfl (by show 2 * 0 + _ ≤ _; exact Nat.le_of_eq rfl) (hb hby d13_152)
    obtain ⟨rfl, Nq156, x156, K156, hx156, Bx156, Al156⟩ := hQ156
    have Ex_160 : Exa Z T152.heap o0 kLo := (((Ex_135.keep K131).wr W145).keep K152)
    have An_161 : AryQ Z T152.heap dd (0 : Int32) := (A_dd.ext Od_159.2)
    have Ar_162 : AryA Z T152.heap b12 (k + j) (upd z91_f_A_b12 ((k + (0 : Int32))).toNatClampNeg (.ref b112)) := (Ar145.keep K152 nin0)
    have Ex_163 : Exa Z T152.heap b112 "[I" := ((Ex_146.wr W145).keep K152)
    have ne_o0_x156 : o0 ≠ x156 := hx156.elim (fun w => by rw [w.1]; exact ne_o0_x131) (fun w => Nat.ne_of_lt (Nat.lt_of_lt_of_le Ex_160.lt w))
    have ne_dd_x156 : dd ≠ x156 := Nat.ne_of_lt (Nat.lt_of_lt_of_le (Od_159.1 ▸ A_dd.lt) (Nat.le_trans Z0 Bx156))
    have ne_b2_x156 : b2 ≠ x156 := hx156.elim (fun w => by rw [w.1]; exact Al_158.2.2.2.2.1) (fun w => Nat.ne_of_lt (Nat.lt_of_lt_of_le Al_158.lt w))
    have ne_b12_x156 : b12 ≠ x156 := hx156.elim (fun w => by rw [w.1]; exact ne_b12_x131) (fun w => Nat.ne_of_lt (Nat.lt_of_lt_of_le Ar_162.lt w))
    have ne_b112_x156 : b112 ≠ x156 := hx156.elim (fun w => by rw [w.1]; exact ne_b112_x131) (fun w => Nat.ne_of_lt (Nat.lt_of_lt_of_le Ex_163.lt w))
    have sz_x156 : h0.size ≤ x156 := Bx156
    have N156 := Fr.app N152 Nq156
    refine Fini.st st156 ?_
    show Fini _ _ _ _ _ _ _ T156 (mkF m 157 #[vr o0, vr o1, vr o2, vi (0 : Int32), vi (0 : Int32), vr o5, vr b2, vr b112, vi (1 : Int32)] [(.int (1 : Int32))])
    refine Fini.st (fun _ k => XS.pop X156.here hx rfl (hb hby d13_157) rfl rfl k) ?_
    refine fAN X156 hx hby d13_158 rfl rfl rfl ?_
    have F_165 : Fld Z T156.heap o0 kLo "outranking" "[[I" (.ref b12) := (((F_140.other W145 (Or.inl ne125_o0_b12)).keep K152 nin0).keep K156 (ninS ne125_o0_b2 (ninS ne_o0_x156 nin0)))
    obtain ⟨T164, X164, e164, st164⟩ := getF X156 hx hZ hown (host := "") (Or.inl (wq hw (i := 109) rfl)) Via.refl rfl F_165 (g := (mkF m 159 #[vr o0, vr o1, vr o2, vi (0 : Int32), vi (0 : Int32), vr o5, vr b2, vr b112, vi (1 : Int32)] [(.ref o0)])) rfl rfl (hb hby d13_159)
    refine Fini.st st164 ?_
    refine fAN X164 hx hby d13_162 rfl rfl rfl ?_
    have Kp_167 : Keep h0 T156.heap [o0] := (Keep.trans Kp_154 K156 (allS (P := fun x => x ∈ _ ∨ _ ≤ x) (Or.inr sz125_b2) (allS (P := fun x => x ∈ _ ∨ _ ≤ x) (Or.inr sz_x156) all0)))
    have An_168 : ALs Z n0 dd T156.heap o1 xa1 k u1 := (A_o1.keep Kp_167 (ninS n1 nin0) (ninS ne1 nin0))
    obtain ⟨T166, X166, e166, st166⟩ := pureI X164 hx hZ hown (wq hw (i := 106) rfl) (wq hw (i := 52) rfl) (wq hw (i := 53) rfl) (wq hw (i := 54) rfl) (wq hw (i := 55) rfl) (wq hw (i := 56) rfl) (wq hw (i := 57) rfl) (wq hw (i := 58) rfl) (wq hw (i := 20) rfl) (wq hw (i := 59) rfl) An_168.exa (by decide) (c7 l Z a0 hw T156.heap An_168) e164 (W := 1) (by decide) (by decide) (by decide) (by decide) (g := (mkF m 163 #[vr o0, vr o1, vr o2, vi (0 : Int32), vi (0 : Int32), vr o5, vr b2, vr b112, vi (1 : Int32)] [(.ref o1), (.ref b12)])) rfl (by rw [hml]; rfl) (argsL := []) (rest := [(.ref b12)]) rfl (lenOf pd_7 rfl) rfl (by show 2 * 0 + _ ≤ _; exact Nat.le_of_eq rfl) (hb hby d13_163)
    refine Fini.st st166 ?_
    show Fini _ _ _ _ _ _ _ T166 (mkF m 168 #[vr o0, vr o1, vr o2, vi (0 : Int32), vi (0 : Int32), vr o5, vr b2, vr b112, vi (1 : Int32)] [(.int k), (.ref b12)])
    refine fI X166 hx hby d13_168 rfl rfl ?_
    refine Fini.st (fun _ k => XS.iadd X166.here hx rfl (hb hby d13_170) rfl k) ?_
    refine fA X166 hx hby d13_171 rfl rfl rfl ?_
    show Fini _ _ _ _ _ _ _ T166 (mkF m 173 #[vr o0, vr o1, vr o2, vi (0 : Int32), vi (0 : Int32), vr o5, vr b2, vr b112, vi (1 : Int32)] [(.ref b112), (.int (k + (1 : Int32))), (.ref b12)])
    have Ar_169 : AryA Z T156.heap b12 (k + j) (upd z91_f_A_b12 ((k + (0 : Int32))).toNatClampNeg (.ref b112)) := (Ar_162.keep K156 (ninS (Ne.symm ne125_b2_b12) (ninS ne_b12_x156 nin0)))
    have Ex_171 : Exa Z T156.heap b112 "[I" := (Ex_163.keep K156)
    obtain ⟨T170, h170, X170, e170, W170, Ar170, st170⟩ := Ar_169.st X166 hx hZ e166 (own_kiin c151 (by decide) hk0 hk hj0 hj) (Or.inr ⟨_, rfl, (Ins.self Ex_171)⟩) (g := (mkF m 173 #[vr o0, vr o1, vr o2, vi (0 : Int32), vi (0 : Int32), vr o5, vr b2, vr b112, vi (1 : Int32)] [(.ref b112), (.int (k + (1 : Int32))), (.ref b12)])) rfl rfl (hb hby d13_173)
    refine Fini.st st170 ?_
    have N170 := Fr.snoc X170 N156 ge125_b12
    have wv172 := WV.other (y := .ref b112) wv147 (own_ge1 hk0 hk)
    have wt172 := WT.step wt147 (own_at1 hk0 hk)
    show Fini _ _ _ _ _ _ _ T170 (mkF m 174 #[vr o0, vr o1, vr o2, vi (0 : Int32), vi (0 : Int32), vr o5, vr b2, vr b112, vi (1 : Int32)] [])
    refine Fini.st (fun _ k => XS.iinc X170.here hx rfl (hb hby d13_174) rfl (l' := #[vr o0, vr o1, vr o2, vi (0 : Int32), vi (0 : Int32), vr o5, vr b2, vr b112, vi (2 : Int32)]) rfl k) ?_
    refine Fini.st (fun _ k => XS.goto X170.here hx rfl (pc0 := 177) (pc' := 128) rfl (hb hby d13_177) (by decide) (by decide) k) ?_
    show Fini _ _ _ _ _ _ _ T170 (mkF m 128 #[vr o0, vr o1, vr o2, vi (0 : Int32), vi (0 : Int32), vr o5, vr b2, vr b112, vi (2 : Int32)] [])
    refine fI X170 hx hby d13_128 rfl rfl ?_
    refine fAN X170 hx hby d13_130 rfl rfl rfl ?_
    have Kp_174 : Keep h0 h170 [o0] := (Keep.wr Kp_167 W170 (Or.inr sz125_b12))
    have An_175 : ALs Z n0 dd h170 o2 xa2 j u2 := (A_o2.keep Kp_174 (ninS n2 nin0) (ninS ne2 nin0))
    obtain ⟨T173, X173, e173, st173⟩ := pureI X170 hx hZ hown (wq hw (i := 106) rfl) (wq hw (i := 52) rfl) (wq hw (i := 53) rfl) (wq hw (i := 54) rfl) (wq hw (i := 55) rfl) (wq hw (i := 56) rfl) (wq hw (i := 57) rfl) (wq hw (i := 58) rfl) (wq hw (i := 20) rfl) (wq hw (i := 59) rfl) An_175.exa (by decide) (c7 l Z a0 hw h170 An_175) e170 (W := 1) (by decide) (by decide) (by decide) (by decide) (g := (mkF m 131 #[vr o0, vr o1, vr o2, vi (0 : Int32), vi (0 : Int32), vr o5, vr b2, vr b112, vi (2 : Int32)] [(.ref o2), (.int (2 : Int32))])) rfl (by rw [hml]; rfl) (argsL := []) (rest := [(.int (2 : Int32))]) rfl (lenOf pd_7 rfl) rfl (by show 2 * 0 + _ ≤ _; exact Nat.le_of_eq rfl) (hb hby d13_131)
    refine Fini.st st173 ?_
    show Fini _ _ _ _ _ _ _ T173 (mkF m 136 #[vr o0, vr o1, vr o2, vi (0 : Int32), vi (0 : Int32), vr o5, vr b2, vr b112, vi (2 : Int32)] [(.int j), (.int (2 : Int32))])
    refine Fini.st (fun _ k => XS.icmpYes X173.here hx rfl (pc0 := 136) (pc' := 180) rfl (hb hby d13_136) rfl (XT.ii_ge_t hj) (by decide) (by decide) k) ?_
    show Fini _ _ _ _ _ _ _ T173 (mkF m 180 #[vr o0, vr o1, vr o2, vi (0 : Int32), vi (0 : Int32), vr o5, vr b2, vr b112, vi (2 : Int32)] [])
    have ej176 : j = (2 : Int32) := (own_k2 c151 hj)
    have Al_177 : ALs Z h0.size dd h170 b2 x156 ((z91_l7 + (1 : Int32)) + (1 : Int32)) (upd (upd z91_f_L_b2 (z91_l7).toNatClampNeg (.ref t)) ((z91_l7 + (1 : Int32))).toNatClampNeg (.ref t)) := (Al156.other W170 ne125_b2_b12 (Ne.symm ne_b12_x156))
    obtain ⟨e6b, q_e6b⟩ : ∃ q, q = x156 := ⟨_, rfl⟩
    have Al_e6b_178 : ALs Z h0.size dd h170 b2 e6b ((z91_l7 + (1 : Int32)) + (1 : Int32)) (upd (upd z91_f_L_b2 (z91_l7).toNatClampNeg (.ref t)) ((z91_l7 + (1 : Int32))).toNatClampNeg (.ref t)) := by rw [q_e6b]; exact Al_177
    have ne_e6b_o0 : e6b ≠ o0 := by rw [q_e6b]; exact Ne.symm ne_o0_x156
    have ne_e6b_dd : e6b ≠ dd := by rw [q_e6b]; exact Ne.symm ne_dd_x156
    have ne_e6b_b2 : e6b ≠ b2 := by rw [q_e6b]; exact Ne.symm ne_b2_x156
    have ne_e6b_b12 : e6b ≠ b12 := by rw [q_e6b]; exact Ne.symm ne_b12_x156
    have ne_e6b_b112 : e6b ≠ b112 := by rw [q_e6b]; exact Ne.symm ne_b112_x156
    have fq176 := (own_ft2 hk0 hk cy125_n6 cy125_ft)
    have nq176 := (own_n6_2 cy125_n6)
    have Ex_300 : Exa Z h170 o0 kLo := ((Ex_160.keep K156).wr W170)
    have F_301 : Fld Z h170 o0 kLo "outranking" "[[I" (.ref b12) := (F_165.other W170 (Or.inl ne125_o0_b12))
    have F_302 : Fld Z h170 o0 kLo "transitions" "Ljava/util/List;" .null := ((((((H125_F_o0_transitions.keep K127 nin0).keep K131 (ninS ne125_o0_b2 (ninS ne_o0_x131 nin0))).other W145 (Or.inl ne125_o0_b12)).keep K152 nin0).keep K156 (ninS ne125_o0_b2 (ninS ne_o0_x156 nin0))).other W170 (Or.inl ne125_o0_b12))
    have F_303 : Fld Z h170 o0 kLo "ownTransitions" "Ljava/util/List;" .null := ((((((H125_F_o0_ownTransitions.keep K127 nin0).keep K131 (ninS ne125_o0_b2 (ninS ne_o0_x131 nin0))).other W145 (Or.inl ne125_o0_b12)).keep K152 nin0).keep K156 (ninS ne125_o0_b2 (ninS ne_o0_x156 nin0))).other W170 (Or.inl ne125_o0_b12))
    have F_304 : Fld Z h170 o0 kLo "line" "I" (.int (0 : Int32)) := ((((((H125_F_o0_line.keep K127 nin0).keep K131 (ninS ne125_o0_b2 (ninS ne_o0_x131 nin0))).other W145 (Or.inl ne125_o0_b12)).keep K152 nin0).keep K156 (ninS ne125_o0_b2 (ninS ne_o0_x156 nin0))).other W170 (Or.inl ne125_o0_b12))
    have F_305 : Fld Z h170 o0 kLo "end" "Z" (.int (0 : Int32)) := ((((((H125_F_o0_end.keep K127 nin0).keep K131 (ninS ne125_o0_b2 (ninS ne_o0_x131 nin0))).other W145 (Or.inl ne125_o0_b12)).keep K152 nin0).keep K156 (ninS ne125_o0_b2 (ninS ne_o0_x156 nin0))).other W170 (Or.inl ne125_o0_b12))
    have F_306 : Fld Z h170 o0 kLo "labels" "Ljava/util/List;" .null := ((((((H125_F_o0_labels.keep K127 nin0).keep K131 (ninS ne125_o0_b2 (ninS ne_o0_x131 nin0))).other W145 (Or.inl ne125_o0_b12)).keep K152 nin0).keep K156 (ninS ne125_o0_b2 (ninS ne_o0_x156 nin0))).other W170 (Or.inl ne125_o0_b12))
    have F_307 : Fld Z h170 o0 kLo "counting" "Ljava/util/List;" .null := ((((((H125_F_o0_counting.keep K127 nin0).keep K131 (ninS ne125_o0_b2 (ninS ne_o0_x131 nin0))).other W145 (Or.inl ne125_o0_b12)).keep K152 nin0).keep K156 (ninS ne125_o0_b2 (ninS ne_o0_x156 nin0))).other W170 (Or.inl ne125_o0_b12))
    have Od_308 : Old Z n0 h170 := (Old.wr (Old.keep Od_159 K156 (allS (P := fun x => n0 ≤ x) ge125_b2 (allS (P := fun x => n0 ≤ x) (Nat.le_trans Z0 Bx156) all0))) W170 ge125_b12)
    have Zs_309 : n0 ≤ h170.size := (Nat.le_trans (Nat.le_trans Zs_157 K156.1) (Nat.le_of_eq W170.size.symm))
    have Ex_310 : Exa Z h170 b12 "[[I" := ((((((H125_E_b12.keep K127).keep K131).wr W145).keep K152).keep K156).wr W170)
    have Ex_311 : Exa Z h170 b112 "[I" := (Ex_171.wr W170)
    have Ar_312 : AryI Z h170 b112 .int k z125_f_A_b112 := ((((((H125_A_b112.keep K127 nin0).keep K131 (ninS (Ne.symm ne125_b2_b112) (ninS ne_b112_x131 nin0))).other W145 (Ne.symm ne125_b12_b112)).keep K152 nin0).keep K156 (ninS (Ne.symm ne125_b2_b112) (ninS ne_b112_x156 nin0))).other W170 (Ne.symm ne125_b12_b112))
    exact B180 T173 _ _ (X173.more (cells' := 8) (slots' := 61) (by decide) (by decide)) e173 b112 b12 b2 e6b (2 : Int32) (upd (upd z91_f_L_b2 (z91_l7).toNatClampNeg (.ref t)) ((z91_l7 + (1 : Int32))).toNatClampNeg (.ref t)) ((z91_l7 + (1 : Int32)) + (1 : Int32)) (upd (upd z91_f_A_b12 ((k + (0 : Int32))).toNatClampNeg (.ref b112)) ((k + (1 : Int32))).toNatClampNeg (.ref b112)) z125_f_A_b112 N170 Ex_300 F_301 F_302 F_303 F_304 F_305 F_306 F_307 Od_308 Zs_309 Kp_174 Al_e6b_178 Ar170 Ex_310 Ex_311 Ar_312 ne125_o0_b2 ne125_dd_b2 ne125_o0_b12 ne125_dd_b12 ne125_b2_b12 ne125_o0_b112 ne125_dd_b112 ne125_b2_b112 ne125_b12_b112 ne_e6b_o0 ne_e6b_b2 ne_e6b_b12 ne_e6b_b112 ge125_b112 ge125_b12 ge125_b2 sz125_b112 sz125_b12 sz125_b2 (by rw [ej176]; exact nq176) (by rw [ej176]; exact fq176) wv172 cy125_id (by rw [ej176]; exact wt172)
   ·
    refine Fini.st (fun _ k => XS.icmpYes X148.here hx rfl (pc0 := 136) (pc' := 180) rfl (hb hby d13_136) rfl (XT.ii_ge_t c151) (by decide) (by decide) k) ?_
    show Fini _ _ _ _ _ _ _ T148 (mkF m 180 #[vr o0, vr o1, vr o2, vi (0 : Int32), vi (0 : Int32), vr o5, vr b2, vr b112, vi (1 : Int32)] [])
    have ej179 : j = (1 : Int32) := (own_k1 c126 c151)
    have Al_180 : ALs Z h0.size dd h145 b2 x131 (z91_l7 + (1 : Int32)) (upd z91_f_L_b2 (z91_l7).toNatClampNeg (.ref t)) := (Al131.other W145 ne125_b2_b12 (Ne.symm ne_b12_x131))
    obtain ⟨e6b, q_e6b⟩ : ∃ q, q = x131 := ⟨_, rfl⟩
    have Al_e6b_181 : ALs Z h0.size dd h145 b2 e6b (z91_l7 + (1 : Int32)) (upd z91_f_L_b2 (z91_l7).toNatClampNeg (.ref t)) := by rw [q_e6b]; exact Al_180
    have ne_e6b_o0 : e6b ≠ o0 := by rw [q_e6b]; exact Ne.symm ne_o0_x131
    have ne_e6b_dd : e6b ≠ dd := by rw [q_e6b]; exact Ne.symm ne_dd_x131
    have ne_e6b_b2 : e6b ≠ b2 := by rw [q_e6b]; exact Ne.symm ne_b2_x131
    have ne_e6b_b12 : e6b ≠ b12 := by rw [q_e6b]; exact Ne.symm ne_b12_x131
    have ne_e6b_b112 : e6b ≠ b112 := by rw [q_e6b]; exact Ne.symm ne_b112_x131
    have fq179 := (own_ft1 hk0 hk cy125_n6 cy125_ft)
    have nq179 := (own_n6_1 cy125_n6)
    have Ex_313 : Exa Z h145 o0 kLo := ((Ex_135.keep K131).wr W145)
    have F_314 : Fld Z h145 o0 kLo "outranking" "[[I" (.ref b12) := (F_140.other W145 (Or.inl ne125_o0_b12))
    have F_315 : Fld Z h145 o0 kLo "transitions" "Ljava/util/List;" .null := (((H125_F_o0_transitions.keep K127 nin0).keep K131 (ninS ne125_o0_b2 (ninS ne_o0_x131 nin0))).other W145 (Or.inl ne125_o0_b12))
    have F_316 : Fld Z h145 o0 kLo "ownTransitions" "Ljava/util/List;" .null := (((H125_F_o0_ownTransitions.keep K127 nin0).keep K131 (ninS ne125_o0_b2 (ninS ne_o0_x131 nin0))).other W145 (Or.inl ne125_o0_b12))
    have F_317 : Fld Z h145 o0 kLo "line" "I" (.int (0 : Int32)) := (((H125_F_o0_line.keep K127 nin0).keep K131 (ninS ne125_o0_b2 (ninS ne_o0_x131 nin0))).other W145 (Or.inl ne125_o0_b12))
    have F_318 : Fld Z h145 o0 kLo "end" "Z" (.int (0 : Int32)) := (((H125_F_o0_end.keep K127 nin0).keep K131 (ninS ne125_o0_b2 (ninS ne_o0_x131 nin0))).other W145 (Or.inl ne125_o0_b12))
    have F_319 : Fld Z h145 o0 kLo "labels" "Ljava/util/List;" .null := (((H125_F_o0_labels.keep K127 nin0).keep K131 (ninS ne125_o0_b2 (ninS ne_o0_x131 nin0))).other W145 (Or.inl ne125_o0_b12))
    have F_320 : Fld Z h145 o0 kLo "counting" "Ljava/util/List;" .null := (((H125_F_o0_counting.keep K127 nin0).keep K131 (ninS ne125_o0_b2 (ninS ne_o0_x131 nin0))).other W145 (Or.inl ne125_o0_b12))
    have Od_321 : Old Z n0 h145 := (Old.wr (Old.keep Od_134 K131 (allS (P := fun x => n0 ≤ x) ge125_b2 (allS (P := fun x => n0 ≤ x) (Nat.le_trans Z0 Bx131) all0))) W145 ge125_b12)
    have Zs_322 : n0 ≤ h145.size := (Nat.le_trans (Nat.le_trans Zs_132 K131.1) (Nat.le_of_eq W145.size.symm))
    have Ex_323 : Exa Z h145 b12 "[[I" := (((H125_E_b12.keep K127).keep K131).wr W145)
    have Ex_324 : Exa Z h145 b112 "[I" := (Ex_146.wr W145)
    have Ar_325 : AryI Z h145 b112 .int k z125_f_A_b112 := (((H125_A_b112.keep K127 nin0).keep K131 (ninS (Ne.symm ne125_b2_b112) (ninS ne_b112_x131 nin0))).other W145 (Ne.symm ne125_b12_b112))
    exact B180 T148 _ _ (X148.more (cells' := 8) (slots' := 61) (by decide) (by decide)) e148 b112 b12 b2 e6b (1 : Int32) (upd z91_f_L_b2 (z91_l7).toNatClampNeg (.ref t)) (z91_l7 + (1 : Int32)) (upd z91_f_A_b12 ((k + (0 : Int32))).toNatClampNeg (.ref b112)) z125_f_A_b112 N145 Ex_313 F_314 F_315 F_316 F_317 F_318 F_319 F_320 Od_321 Zs_322 Kp_149 Al_e6b_181 Ar145 Ex_323 Ex_324 Ar_325 ne125_o0_b2 ne125_dd_b2 ne125_o0_b12 ne125_dd_b12 ne125_b2_b12 ne125_o0_b112 ne125_dd_b112 ne125_b2_b112 ne125_b12_b112 ne_e6b_o0 ne_e6b_b2 ne_e6b_b12 ne_e6b_b112 ge125_b112 ge125_b12 ge125_b2 sz125_b112 sz125_b12 sz125_b2 (by rw [ej179]; exact nq179) (by rw [ej179]; exact fq179) wv147 cy125_id (by rw [ej179]; exact wt147)
  ·
   refine Fini.st (fun _ k => XS.icmpYes X124.here hx rfl (pc0 := 136) (pc' := 180) rfl (hb hby d13_136) rfl (XT.ii_ge_t c126) (by decide) (by decide) k) ?_
   show Fini _ _ _ _ _ _ _ T124 (mkF m 180 #[vr o0, vr o1, vr o2, vi (0 : Int32), vi (0 : Int32), vr o5, vr b2, vr b112, vi (0 : Int32)] [])
   have ej182 : j = (0 : Int32) := (own_k0 hj0 c126)
   obtain ⟨e6b, q_e6b⟩ : ∃ q, q = e6 := ⟨_, rfl⟩
   have Al_e6b_183 : ALs Z h0.size dd h_125 b2 e6b z91_l7 z91_f_L_b2 := by rw [q_e6b]; exact H125_L_b2
   have ne_e6b_o0 : e6b ≠ o0 := by rw [q_e6b]; exact ne125_e6_o0
   have ne_e6b_b2 : e6b ≠ b2 := by rw [q_e6b]; exact ne125_e6_b2
   have ne_e6b_b12 : e6b ≠ b12 := by rw [q_e6b]; exact ne125_e6_b12
   have ne_e6b_b112 : e6b ≠ b112 := by rw [q_e6b]; exact ne125_e6_b112
   have fq182 := (own_ft0 hk0 hk cy125_n6 cy125_ft)
   have nq182 := (own_n6_0 cy125_n6)
   exact B180 T124 _ _ (X124.more (cells' := 8) (slots' := 61) (by decide) (by decide)) e124 b112 b12 b2 e6b (0 : Int32) z91_f_L_b2 z91_l7 z91_f_A_b12 z125_f_A_b112 N_125 H125_E_o0 H125_F_o0_outranking H125_F_o0_transitions H125_F_o0_ownTransitions H125_F_o0_line H125_F_o0_end H125_F_o0_labels H125_F_o0_counting H125_D H125_Z H125_K Al_e6b_183 H125_A_b12 H125_E_b12 H125_E_b112 H125_A_b112 ne125_o0_b2 ne125_dd_b2 ne125_o0_b12 ne125_dd_b12 ne125_b2_b12 ne125_o0_b112 ne125_dd_b112 ne125_b2_b112 ne125_b12_b112 ne_e6b_o0 ne_e6b_b2 ne_e6b_b12 ne_e6b_b112 ge125_b112 ge125_b12 ge125_b2 sz125_b112 sz125_b12 sz125_b2 (by rw [ej182]; exact nq182) (by rw [ej182]; exact fq182) cy125_wv cy125_id (by rw [ej182]; exact (WT.zero k.toNatClampNeg z91_f_A_b12 b112))
 have B91 : ∀ (T_91 : State) (h_91 : Heap) (locs : List Loc) (X_91 : Stand p l e ({ frames := 9, cells := 12, slots := 76, locals := 116 } : Room) s m #[(.ref o0), (.ref o1), (.ref o2), (.int (0 : Int32)), (.int (0 : Int32)), (.ref o5)] below meth c T_91 locs 5 38) (e_91 : T_91.heap = h_91) (b12 : Addr) (b2 : Addr) (e6 : Addr) (z91_l7 : Int32) (z91_l8 : Slot) (z91_f_L_b2 : Nat → Value) (z91_f_A_b12 : Nat → Value) (hz91_l8 : One z91_l8) (N_91 : Fr n0 locs) (H91_E_o0 : Exa Z h_91 o0 kLo) (H91_F_o0_outranking : Fld Z h_91 o0 kLo "outranking" "[[I" (.ref b12)) (H91_F_o0_transitions : Fld Z h_91 o0 kLo "transitions" "Ljava/util/List;" .null) (H91_F_o0_ownTransitions : Fld Z h_91 o0 kLo "ownTransitions" "Ljava/util/List;" .null) (H91_F_o0_line : Fld Z h_91 o0 kLo "line" "I" (.int (0 : Int32))) (H91_F_o0_end : Fld Z h_91 o0 kLo "end" "Z" (.int (0 : Int32))) (H91_F_o0_labels : Fld Z h_91 o0 kLo "labels" "Ljava/util/List;" .null) (H91_F_o0_counting : Fld Z h_91 o0 kLo "counting" "Ljava/util/List;" .null) (H91_D : Old Z n0 h_91) (H91_Z : n0 ≤ h_91.size) (H91_K : Keep h0 h_91 [o0]) (H91_L_b2 : ALs Z h0.size dd h_91 b2 e6 z91_l7 z91_f_L_b2) (H91_A_b12 : AryA Z h_91 b12 (k + j) z91_f_A_b12) (H91_E_b12 : Exa Z h_91 b12 "[[I") (ne91_o0_b2 : o0 ≠ b2) (ne91_dd_b2 : dd ≠ b2) (ne91_o0_b12 : o0 ≠ b12) (ne91_dd_b12 : dd ≠ b12) (ne91_b2_b12 : b2 ≠ b12) (ne91_e6_o0 : e6 ≠ o0) (ne91_e6_b2 : e6 ≠ b2) (ne91_e6_b12 : e6 ≠ b12) (ge91_b12 : n0 ≤ b12) (ge91_b2 : n0 ≤ b2) (sz91_b12 : h0.size ≤ b12) (sz91_b2 : h0.size ≤ b2) (cy91_n6 : z91_l7 = k) (cy91_ft : FT k.toNatClampNeg z91_f_L_b2 t) (cy91_wv : WV Z h0 Bm k.toNatClampNeg z91_f_A_b12 S), Fini p e below s (fun v h' L => v = none ∧ Fr n0 L ∧ Keep h0 h' [o0] ∧ ∃ ob w, Fld Z h' o0 kLo "outranking" "[[I" (.ref ob) ∧ AryA Z h' ob (k + j) w ∧ OUT Z h' k j w S) (Room.cells ({ frames := 9, cells := 12, slots := 76, locals := 116 } : Room)) (Room.slots ({ frames := 9, cells := 12, slots := 76, locals := 116 } : Room)) T_91 (mkF m 91 #[vr o0, vr o1, vr o2, vi (0 : Int32), vi (0 : Int32), vr o5, vr b2, vi z91_l7, z91_l8] []) := by
  intro T_91 h_91 locs  X_91 e_91  b12 b2 e6 z91_l7 z91_l8 z91_f_L_b2 z91_f_A_b12 hz91_l8 N_91 H91_E_o0 H91_F_o0_outranking H91_F_o0_transitions H91_F_o0_ownTransitions H91_F_o0_line H91_F_o0_end H91_F_o0_labels H91_F_o0_counting H91_D H91_Z H91_K H91_L_b2 H91_A_b12 H91_E_b12 ne91_o0_b2 ne91_dd_b2 ne91_o0_b12 ne91_dd_b12 ne91_b2_b12 ne91_e6_o0 ne91_e6_b2 ne91_e6_b12 ge91_b12 ge91_b2 sz91_b12 sz91_b2 cy91_n6 cy91_ft cy91_wv
  refine fAN X_91 hx hby d13_91 rfl rfl rfl ?_
  have An_111 : ALs Z n0 dd h_91 o1 xa1 k u1 := (A_o1.keep H91_K (ninS n1 nin0) (ninS ne1 nin0))
  obtain ⟨T110, X110, e110, st110⟩ := pureI X_91 hx hZ hown (wq hw (i := 106) rfl) (wq hw (i := 52) rfl) (wq hw (i := 53) rfl) (wq hw (i := 54) rfl) (wq hw (i := 55) rfl) (wq hw (i := 56) rfl) (wq hw (i := 57) rfl) (wq hw (i := 58) rfl) (wq hw (i := 20) rfl) (wq hw (i := 59) rfl) An_111.exa (by decide) (c7 l Z a0 hw h_91 An_111) e_91 (W := 0) (by decide) (by decide) (by decide) (by decide) (g := (mkF m 92 #[vr o0, vr o1, vr o2, vi (0 : Int32), vi (0 : Int32), vr o5, vr b2, vi z91_l7, z91_l8] [(.ref o1)])) rfl (by rw [hml]; rfl) (argsL := []) (rest := []) rfl (lenOf pd_7 rfl) rfl (by show 2 * 0 + _ ≤ _; exact Nat.le_of_eq rfl) (hb hby d13_92)
  refine Fini.st st110 ?_
  show Fini _ _ _ _ _ _ _ T110 (mkF m 97 #[vr o0, vr o1, vr o2, vi (0 : Int32), vi (0 : Int32), vr o5, vr b2, vi z91_l7, z91_l8] [(.int k)])
  obtain ⟨T112, h112, k112, X112, e112, E112, A112, Ea112, st112⟩ := newPE X110 hx hZ (wq hw (i := 62) rfl) e110 (g := (mkF m 97 #[vr o0, vr o1, vr o2, vi (0 : Int32), vi (0 : Int32), vr o5, vr b2, vi z91_l7, z91_l8] [(.int k)])) rfl (hb hby d13_97) rfl hk0 (cap := 3) (own_cap3 hk) (by decide) (by decide) (by decide) (ad := "[I") (by decide)
  obtain ⟨b112, g112⟩ : ∃ z, z = h_91.size := ⟨_, rfl⟩
  rw [← g112] at A112 st112 Ea112
  have ne_o0_b112 : o0 ≠ b112 := Nat.ne_of_lt (Nat.lt_of_lt_of_le H91_E_o0.lt (Nat.le_of_eq g112.symm))
  have An_113 : AryQ Z h_91 dd (0 : Int32) := (A_dd.ext H91_D.2)
  have ne_dd_b112 : dd ≠ b112 := Nat.ne_of_lt (Nat.lt_of_lt_of_le An_113.lt (Nat.le_of_eq g112.symm))
  have ne_b2_b112 : b2 ≠ b112 := Nat.ne_of_lt (Nat.lt_of_lt_of_le H91_L_b2.lt (Nat.le_of_eq g112.symm))
  have ne_e6_b112 : e6 ≠ b112 := Nat.ne_of_lt (Nat.lt_of_lt_of_le H91_L_b2.lte (Nat.le_of_eq g112.symm))
  have ne_b12_b112 : b12 ≠ b112 := Nat.ne_of_lt (Nat.lt_of_lt_of_le H91_A_b12.lt (Nat.le_of_eq g112.symm))
  have ge_b112 : n0 ≤ b112 := Nat.le_trans H91_Z (Nat.le_of_eq g112.symm)
  have sz_b112 : h0.size ≤ b112 := Nat.le_trans H91_K.1 (Nat.le_of_eq g112.symm)
  have Ar112 : AryI Z h112 b112 .int k (fun _ => 0) := AryI.new A112 hk0 rfl
  refine Fini.st st112 ?_
  show Fini _ _ _ _ _ _ _ T112 (mkF m 99 #[vr o0, vr o1, vr o2, vi (0 : Int32), vi (0 : Int32), vr o5, vr b2, vi z91_l7, z91_l8] [(.ref b112)])
  refine Fini.st (fun _ k => XS.astore X112.here hx rfl (hb hby d13_99) rfl rfl (l' := #[vr o0, vr o1, vr o2, vi (0 : Int32), vi (0 : Int32), vr o5, vr b2, vr b112, z91_l8]) rfl k) ?_
  refine fC X112 hx hby d13_101 rfl ?_
  refine Fini.st (fun _ k => XS.istore X112.here hx rfl (hb hby d13_102) rfl (l' := #[vr o0, vr o1, vr o2, vi (0 : Int32), vi (0 : Int32), vr o5, vr b2, vr b112, vi (0 : Int32)]) (by first | rfl | (rcases hz91_l8 with rfl | ⟨w, rfl, hw⟩ <;> first | rfl | (cases w <;> first | rfl | (simp [Value.category] at hw)))) k) ?_
  refine fI X112 hx hby d13_104 rfl rfl ?_
  refine fA X112 hx hby d13_106 rfl rfl rfl ?_
  show Fini _ _ _ _ _ _ _ T112 (mkF m 108 #[vr o0, vr o1, vr o2, vi (0 : Int32), vi (0 : Int32), vr o5, vr b2, vr b112, vi (0 : Int32)] [(.ref b112), (.int (0 : Int32))])
  refine Fini.st (fun _ k => Ar112.len X112 hx hZ e112 rfl rfl (hb hby d13_108) k) ?_
  show Fini _ _ _ _ _ _ _ T112 (mkF m 109 #[vr o0, vr o1, vr o2, vi (0 : Int32), vi (0 : Int32), vr o5, vr b2, vr b112, vi (0 : Int32)] [(.int k), (.int (0 : Int32))])
  by_cases c114 : (0 : Int32) < k
  ·
   refine Fini.st (fun _ k => XS.icmpNo X112.here hx rfl (hb hby d13_109) rfl (XT.ii_ge_f c114) k) ?_
   refine fA X112 hx hby d13_112 rfl rfl rfl ?_
   refine fI X112 hx hby d13_114 rfl rfl ?_
   refine fI X112 hx hby d13_116 rfl rfl ?_
   show Fini _ _ _ _ _ _ _ T112 (mkF m 118 #[vr o0, vr o1, vr o2, vi (0 : Int32), vi (0 : Int32), vr o5, vr b2, vr b112, vi (0 : Int32)] [(.int (0 : Int32)), (.int (0 : Int32)), (.ref b112)])
   obtain ⟨T115, h115, X115, e115, W115, Ar115, st115⟩ := Ar112.stI X112 hx hZ e112 ⟨by decide, c114⟩ (g := (mkF m 118 #[vr o0, vr o1, vr o2, vi (0 : Int32), vi (0 : Int32), vr o5, vr b2, vr b112, vi (0 : Int32)] [(.int (0 : Int32)), (.int (0 : Int32)), (.ref b112)])) rfl rfl (hb hby d13_118)
   refine Fini.st st115 ?_
   have N115 := Fr.snoc X115 N_91 ge_b112
   show Fini _ _ _ _ _ _ _ T115 (mkF m 119 #[vr o0, vr o1, vr o2, vi (0 : Int32), vi (0 : Int32), vr o5, vr b2, vr b112, vi (0 : Int32)] [])
   refine Fini.st (fun _ k => XS.iinc X115.here hx rfl (hb hby d13_119) rfl (l' := #[vr o0, vr o1, vr o2, vi (0 : Int32), vi (0 : Int32), vr o5, vr b2, vr b112, vi (1 : Int32)]) rfl k) ?_
   refine Fini.st (fun _ k => XS.goto X115.here hx rfl (pc0 := 122) (pc' := 104) rfl (hb hby d13_122) (by decide) (by decide) k) ?_
   refine fI X115 hx hby d13_104 rfl rfl ?_
   refine fA X115 hx hby d13_106 rfl rfl rfl ?_
   show Fini _ _ _ _ _ _ _ T115 (mkF m 108 #[vr o0, vr o1, vr o2, vi (0 : Int32), vi (0 : Int32), vr o5, vr b2, vr b112, vi (1 : Int32)] [(.ref b112), (.int (1 : Int32))])
   refine Fini.st (fun _ k => Ar115.len X115 hx hZ e115 rfl rfl (hb hby d13_108) k) ?_
   show Fini _ _ _ _ _ _ _ T115 (mkF m 109 #[vr o0, vr o1, vr o2, vi (0 : Int32), vi (0 : Int32), vr o5, vr b2, vr b112, vi (1 : Int32)] [(.int k), (.int (1 : Int32))])
   by_cases c116 : (1 : Int32) < k
   ·
    refine Fini.st (fun _ k => XS.icmpNo X115.here hx rfl (hb hby d13_109) rfl (XT.ii_ge_f c116) k) ?_
    refine fA X115 hx hby d13_112 rfl rfl rfl ?_
    refine fI X115 hx hby d13_114 rfl rfl ?_
    refine fI X115 hx hby d13_116 rfl rfl ?_
    show Fini _ _ _ _ _ _ _ T115 (mkF m 118 #[vr o0, vr o1, vr o2, vi (0 : Int32), vi (0 : Int32), vr o5, vr b2, vr b112, vi (1 : Int32)] [(.int (1 : Int32)), (.int (1 : Int32)), (.ref b112)])
    obtain ⟨T117, h117, X117, e117, W117, Ar117, st117⟩ := Ar115.stI X115 hx hZ e115 ⟨by decide, c116⟩ (g := (mkF m 118 #[vr o0, vr o1, vr o2, vi (0 : Int32), vi (0 : Int32), vr o5, vr b2, vr b112, vi (1 : Int32)] [(.int (1 : Int32)), (.int (1 : Int32)), (.ref b112)])) rfl rfl (hb hby d13_118)
    refine Fini.st st117 ?_
    have N117 := Fr.snoc X117 N115 ge_b112
    show Fini _ _ _ _ _ _ _ T117 (mkF m 119 #[vr o0, vr o1, vr o2, vi (0 : Int32), vi (0 : Int32), vr o5, vr b2, vr b112, vi (1 : Int32)] [])
    refine Fini.st (fun _ k => XS.iinc X117.here hx rfl (hb hby d13_119) rfl (l' := #[vr o0, vr o1, vr o2, vi (0 : Int32), vi (0 : Int32), vr o5, vr b2, vr b112, vi (2 : Int32)]) rfl k) ?_
    refine Fini.st (fun _ k => XS.goto X117.here hx rfl (pc0 := 122) (pc' := 104) rfl (hb hby d13_122) (by decide) (by decide) k) ?_
    refine fI X117 hx hby d13_104 rfl rfl ?_
    refine fA X117 hx hby d13_106 rfl rfl rfl ?_
    show Fini _ _ _ _ _ _ _ T117 (mkF m 108 #[vr o0, vr o1, vr o2, vi (0 : Int32), vi (0 : Int32), vr o5, vr b2, vr b112, vi (2 : Int32)] [(.ref b112), (.int (2 : Int32))])
    refine Fini.st (fun _ k => Ar117.len X117 hx hZ e117 rfl rfl (hb hby d13_108) k) ?_
    show Fini _ _ _ _ _ _ _ T117 (mkF m 109 #[vr o0, vr o1, vr o2, vi (0 : Int32), vi (0 : Int32), vr o5, vr b2, vr b112, vi (2 : Int32)] [(.int k), (.int (2 : Int32))])
    by_cases c118 : (2 : Int32) < k
    ·
     refine Fini.st (fun _ k => XS.icmpNo X117.here hx rfl (hb hby d13_109) rfl (XT.ii_ge_f c118) k) ?_
     refine fA X117 hx hby d13_112 rfl rfl rfl ?_
     refine fI X117 hx hby d13_114 rfl rfl ?_
     refine fI X117 hx hby d13_116 rfl rfl ?_
     show Fini _ _ _ _ _ _ _ T117 (mkF m 118 #[vr o0, vr o1, vr o2, vi (0 : Int32), vi (0 : Int32), vr o5, vr b2, vr b112, vi (2 : Int32)] [(.int (2 : Int32)), (.int (2 : Int32)), (.ref b112)])
     obtain ⟨T119, h119, X119, e119, W119, Ar119, st119⟩ := Ar117.stI X117 hx hZ e117 ⟨by decide, c118⟩ (g := (mkF m 118 #[vr o0, vr o1, vr o2, vi (0 : Int32), vi (0 : Int32), vr o5, vr b2, vr b112, vi (2 : Int32)] [(.int (2 : Int32)), (.int (2 : Int32)), (.ref b112)])) rfl rfl (hb hby d13_118)
     refine Fini.st st119 ?_
     have N119 := Fr.snoc X119 N117 ge_b112
     show Fini _ _ _ _ _ _ _ T119 (mkF m 119 #[vr o0, vr o1, vr o2, vi (0 : Int32), vi (0 : Int32), vr o5, vr b2, vr b112, vi (2 : Int32)] [])
     refine Fini.st (fun _ k => XS.iinc X119.here hx rfl (hb hby d13_119) rfl (l' := #[vr o0, vr o1, vr o2, vi (0 : Int32), vi (0 : Int32), vr o5, vr b2, vr b112, vi (3 : Int32)]) rfl k) ?_
     refine Fini.st (fun _ k => XS.goto X119.here hx rfl (pc0 := 122) (pc' := 104) rfl (hb hby d13_122) (by decide) (by decide) k) ?_
     refine fI X119 hx hby d13_104 rfl rfl ?_
     refine fA X119 hx hby d13_106 rfl rfl rfl ?_
     show Fini _ _ _ _ _ _ _ T119 (mkF m 108 #[vr o0, vr o1, vr o2, vi (0 : Int32), vi (0 : Int32), vr o5, vr b2, vr b112, vi (3 : Int32)] [(.ref b112), (.int (3 : Int32))])
     refine Fini.st (fun _ k => Ar119.len X119 hx hZ e119 rfl rfl (hb hby d13_108) k) ?_
     show Fini _ _ _ _ _ _ _ T119 (mkF m 109 #[vr o0, vr o1, vr o2, vi (0 : Int32), vi (0 : Int32), vr o5, vr b2, vr b112, vi (3 : Int32)] [(.int k), (.int (3 : Int32))])
     refine Fini.st (fun _ k => XS.icmpYes X119.here hx rfl (pc0 := 109) (pc' := 125) rfl (hb hby d13_109) rfl (XT.ii_ge_t hk) (by decide) (by decide) k) ?_
     show Fini _ _ _ _ _ _ _ T119 (mkF m 125 #[vr o0, vr o1, vr o2, vi (0 : Int32), vi (0 : Int32), vr o5, vr b2, vr b112, vi (3 : Int32)] [])
     have ek120 : k = (3 : Int32) := (own_k3 c118 hk)
     have iq120 : ID 3 (upd (upd (upd (fun _ => 0) 0 (0 : Int32)) 1 (1 : Int32)) 2 (2 : Int32)) := (ID.step (ID.step (ID.step (ID.zero _) rfl) rfl) rfl)
     have Ex_326 : Exa Z h119 o0 kLo := ((((H91_E_o0.ext E112).wr W115).wr W117).wr W119)
     have F_327 : Fld Z h119 o0 kLo "outranking" "[[I" (.ref b12) := ((((H91_F_o0_outranking.ext E112).other W115 (Or.inl ne_o0_b112)).other W117 (Or.inl ne_o0_b112)).other W119 (Or.inl ne_o0_b112))
     have F_328 : Fld Z h119 o0 kLo "transitions" "Ljava/util/List;" .null := ((((H91_F_o0_transitions.ext E112).other W115 (Or.inl ne_o0_b112)).other W117 (Or.inl ne_o0_b112)).other W119 (Or.inl ne_o0_b112))
     have F_329 : Fld Z h119 o0 kLo "ownTransitions" "Ljava/util/List;" .null := ((((H91_F_o0_ownTransitions.ext E112).other W115 (Or.inl ne_o0_b112)).other W117 (Or.inl ne_o0_b112)).other W119 (Or.inl ne_o0_b112))
     have F_330 : Fld Z h119 o0 kLo "line" "I" (.int (0 : Int32)) := ((((H91_F_o0_line.ext E112).other W115 (Or.inl ne_o0_b112)).other W117 (Or.inl ne_o0_b112)).other W119 (Or.inl ne_o0_b112))
     have F_331 : Fld Z h119 o0 kLo "end" "Z" (.int (0 : Int32)) := ((((H91_F_o0_end.ext E112).other W115 (Or.inl ne_o0_b112)).other W117 (Or.inl ne_o0_b112)).other W119 (Or.inl ne_o0_b112))
     have F_332 : Fld Z h119 o0 kLo "labels" "Ljava/util/List;" .null := ((((H91_F_o0_labels.ext E112).other W115 (Or.inl ne_o0_b112)).other W117 (Or.inl ne_o0_b112)).other W119 (Or.inl ne_o0_b112))
     have F_333 : Fld Z h119 o0 kLo "counting" "Ljava/util/List;" .null := ((((H91_F_o0_counting.ext E112).other W115 (Or.inl ne_o0_b112)).other W117 (Or.inl ne_o0_b112)).other W119 (Or.inl ne_o0_b112))
     have Od_334 : Old Z n0 h119 := (Old.wr (Old.wr (Old.wr (Old.ext H91_D E112) W115 ge_b112) W117 ge_b112) W119 ge_b112)
     have Zs_335 : n0 ≤ h119.size := (Nat.le_trans (Nat.le_trans (Nat.le_trans (Nat.le_trans H91_Z E112.1) (Nat.le_of_eq W115.size.symm)) (Nat.le_of_eq W117.size.symm)) (Nat.le_of_eq W119.size.symm))
     have Kp_336 : Keep h0 h119 [o0] := (Keep.wr (Keep.wr (Keep.wr (Keep.ext H91_K E112) W115 (Or.inr sz_b112)) W117 (Or.inr sz_b112)) W119 (Or.inr sz_b112))
     have Al_337 : ALs Z h0.size dd h119 b2 e6 z91_l7 z91_f_L_b2 := ((((H91_L_b2.ext E112).other W115 ne_b2_b112 ne_e6_b112).other W117 ne_b2_b112 ne_e6_b112).other W119 ne_b2_b112 ne_e6_b112)
     have Ar_338 : AryA Z h119 b12 (k + j) z91_f_A_b12 := ((((H91_A_b12.ext E112).other W115 ne_b12_b112).other W117 ne_b12_b112).other W119 ne_b12_b112)
     have Ex_339 : Exa Z h119 b12 "[[I" := ((((H91_E_b12.ext E112).wr W115).wr W117).wr W119)
     have Ex_340 : Exa Z h119 b112 "[I" := (((Ea112.wr W115).wr W117).wr W119)
     exact B125 T119 _ _ (X119.more (cells' := 6) (slots' := 41) (by decide) (by decide)) e119 b112 b12 b2 e6 (3 : Int32) (upd (upd (upd (fun _ => 0) 0 (0 : Int32)) 1 (1 : Int32)) 2 (2 : Int32)) z91_f_A_b12 z91_f_L_b2 z91_l7 N119 Ex_326 F_327 F_328 F_329 F_330 F_331 F_332 F_333 Od_334 Zs_335 Kp_336 Al_337 Ar_338 Ex_339 Ex_340 Ar119 ne91_o0_b2 ne91_dd_b2 ne91_o0_b12 ne91_dd_b12 ne91_b2_b12 ne91_e6_o0 ne91_e6_b2 ne91_e6_b12 ne_o0_b112 ne_dd_b112 ne_b2_b112 ne_e6_b112 ne_b12_b112 ge_b112 ge91_b12 ge91_b2 sz_b112 sz91_b12 sz91_b2 cy91_n6 cy91_ft cy91_wv (by rw [ek120]; exact iq120)
    ·
     refine Fini.st (fun _ k => XS.icmpYes X117.here hx rfl (pc0 := 109) (pc' := 125) rfl (hb hby d13_109) rfl (XT.ii_ge_t c118) (by decide) (by decide) k) ?_
     show Fini _ _ _ _ _ _ _ T117 (mkF m 125 #[vr o0, vr o1, vr o2, vi (0 : Int32), vi (0 : Int32), vr o5, vr b2, vr b112, vi (2 : Int32)] [])
     have ek121 : k = (2 : Int32) := (own_k2 c116 c118)
     have iq121 : ID 2 (upd (upd (fun _ => 0) 0 (0 : Int32)) 1 (1 : Int32)) := (ID.step (ID.step (ID.zero _) rfl) rfl)
     have Ex_341 : Exa Z h117 o0 kLo := (((H91_E_o0.ext E112).wr W115).wr W117)
     have F_342 : Fld Z h117 o0 kLo "outranking" "[[I" (.ref b12) := (((H91_F_o0_outranking.ext E112).other W115 (Or.inl ne_o0_b112)).other W117 (Or.inl ne_o0_b112))
     have F_343 : Fld Z h117 o0 kLo "transitions" "Ljava/util/List;" .null := (((H91_F_o0_transitions.ext E112).other W115 (Or.inl ne_o0_b112)).other W117 (Or.inl ne_o0_b112))
     have F_344 : Fld Z h117 o0 kLo "ownTransitions" "Ljava/util/List;" .null := (((H91_F_o0_ownTransitions.ext E112).other W115 (Or.inl ne_o0_b112)).other W117 (Or.inl ne_o0_b112))
     have F_345 : Fld Z h117 o0 kLo "line" "I" (.int (0 : Int32)) := (((H91_F_o0_line.ext E112).other W115 (Or.inl ne_o0_b112)).other W117 (Or.inl ne_o0_b112))
     have F_346 : Fld Z h117 o0 kLo "end" "Z" (.int (0 : Int32)) := (((H91_F_o0_end.ext E112).other W115 (Or.inl ne_o0_b112)).other W117 (Or.inl ne_o0_b112))
     have F_347 : Fld Z h117 o0 kLo "labels" "Ljava/util/List;" .null := (((H91_F_o0_labels.ext E112).other W115 (Or.inl ne_o0_b112)).other W117 (Or.inl ne_o0_b112))
     have F_348 : Fld Z h117 o0 kLo "counting" "Ljava/util/List;" .null := (((H91_F_o0_counting.ext E112).other W115 (Or.inl ne_o0_b112)).other W117 (Or.inl ne_o0_b112))
     have Od_349 : Old Z n0 h117 := (Old.wr (Old.wr (Old.ext H91_D E112) W115 ge_b112) W117 ge_b112)
     have Zs_350 : n0 ≤ h117.size := (Nat.le_trans (Nat.le_trans (Nat.le_trans H91_Z E112.1) (Nat.le_of_eq W115.size.symm)) (Nat.le_of_eq W117.size.symm))
     have Kp_351 : Keep h0 h117 [o0] := (Keep.wr (Keep.wr (Keep.ext H91_K E112) W115 (Or.inr sz_b112)) W117 (Or.inr sz_b112))
     have Al_352 : ALs Z h0.size dd h117 b2 e6 z91_l7 z91_f_L_b2 := (((H91_L_b2.ext E112).other W115 ne_b2_b112 ne_e6_b112).other W117 ne_b2_b112 ne_e6_b112)
     have Ar_353 : AryA Z h117 b12 (k + j) z91_f_A_b12 := (((H91_A_b12.ext E112).other W115 ne_b12_b112).other W117 ne_b12_b112)
     have Ex_354 : Exa Z h117 b12 "[[I" := (((H91_E_b12.ext E112).wr W115).wr W117)
     have Ex_355 : Exa Z h117 b112 "[I" := ((Ea112.wr W115).wr W117)
     exact B125 T117 _ _ (X117.more (cells' := 6) (slots' := 41) (by decide) (by decide)) e117 b112 b12 b2 e6 (2 : Int32) (upd (upd (fun _ => 0) 0 (0 : Int32)) 1 (1 : Int32)) z91_f_A_b12 z91_f_L_b2 z91_l7 N117 Ex_341 F_342 F_343 F_344 F_345 F_346 F_347 F_348 Od_349 Zs_350 Kp_351 Al_352 Ar_353 Ex_354 Ex_355 Ar117 ne91_o0_b2 ne91_dd_b2 ne91_o0_b12 ne91_dd_b12 ne91_b2_b12 ne91_e6_o0 ne91_e6_b2 ne91_e6_b12 ne_o0_b112 ne_dd_b112 ne_b2_b112 ne_e6_b112 ne_b12_b112 ge_b112 ge91_b12 ge91_b2 sz_b112 sz91_b12 sz91_b2 cy91_n6 cy91_ft cy91_wv (by rw [ek121]; exact iq121)
   ·
    refine Fini.st (fun _ k => XS.icmpYes X115.here hx rfl (pc0 := 109) (pc' := 125) rfl (hb hby d13_109) rfl (XT.ii_ge_t c116) (by decide) (by decide) k) ?_
    show Fini _ _ _ _ _ _ _ T115 (mkF m 125 #[vr o0, vr o1, vr o2, vi (0 : Int32), vi (0 : Int32), vr o5, vr b2, vr b112, vi (1 : Int32)] [])
    have ek122 : k = (1 : Int32) := (own_k1 c114 c116)
    have iq122 : ID 1 (upd (fun _ => 0) 0 (0 : Int32)) := (ID.step (ID.zero _) rfl)
    have Ex_356 : Exa Z h115 o0 kLo := ((H91_E_o0.ext E112).wr W115)
    have F_357 : Fld Z h115 o0 kLo "outranking" "[[I" (.ref b12) := ((H91_F_o0_outranking.ext E112).other W115 (Or.inl ne_o0_b112))
    have F_358 : Fld Z h115 o0 kLo "transitions" "Ljava/util/List;" .null := ((H91_F_o0_transitions.ext E112).other W115 (Or.inl ne_o0_b112))
    have F_359 : Fld Z h115 o0 kLo "ownTransitions" "Ljava/util/List;" .null := ((H91_F_o0_ownTransitions.ext E112).other W115 (Or.inl ne_o0_b112))
    have F_360 : Fld Z h115 o0 kLo "line" "I" (.int (0 : Int32)) := ((H91_F_o0_line.ext E112).other W115 (Or.inl ne_o0_b112))
    have F_361 : Fld Z h115 o0 kLo "end" "Z" (.int (0 : Int32)) := ((H91_F_o0_end.ext E112).other W115 (Or.inl ne_o0_b112))
    have F_362 : Fld Z h115 o0 kLo "labels" "Ljava/util/List;" .null := ((H91_F_o0_labels.ext E112).other W115 (Or.inl ne_o0_b112))
    have F_363 : Fld Z h115 o0 kLo "counting" "Ljava/util/List;" .null := ((H91_F_o0_counting.ext E112).other W115 (Or.inl ne_o0_b112))
    have Od_364 : Old Z n0 h115 := (Old.wr (Old.ext H91_D E112) W115 ge_b112)
    have Zs_365 : n0 ≤ h115.size := (Nat.le_trans (Nat.le_trans H91_Z E112.1) (Nat.le_of_eq W115.size.symm))
    have Kp_366 : Keep h0 h115 [o0] := (Keep.wr (Keep.ext H91_K E112) W115 (Or.inr sz_b112))
    have Al_367 : ALs Z h0.size dd h115 b2 e6 z91_l7 z91_f_L_b2 := ((H91_L_b2.ext E112).other W115 ne_b2_b112 ne_e6_b112)
    have Ar_368 : AryA Z h115 b12 (k + j) z91_f_A_b12 := ((H91_A_b12.ext E112).other W115 ne_b12_b112)
    have Ex_369 : Exa Z h115 b12 "[[I" := ((H91_E_b12.ext E112).wr W115)
    have Ex_370 : Exa Z h115 b112 "[I" := (Ea112.wr W115)
    exact B125 T115 _ _ (X115.more (cells' := 6) (slots' := 41) (by decide) (by decide)) e115 b112 b12 b2 e6 (1 : Int32) (upd (fun _ => 0) 0 (0 : Int32)) z91_f_A_b12 z91_f_L_b2 z91_l7 N115 Ex_356 F_357 F_358 F_359 F_360 F_361 F_362 F_363 Od_364 Zs_365 Kp_366 Al_367 Ar_368 Ex_369 Ex_370 Ar115 ne91_o0_b2 ne91_dd_b2 ne91_o0_b12 ne91_dd_b12 ne91_b2_b12 ne91_e6_o0 ne91_e6_b2 ne91_e6_b12 ne_o0_b112 ne_dd_b112 ne_b2_b112 ne_e6_b112 ne_b12_b112 ge_b112 ge91_b12 ge91_b2 sz_b112 sz91_b12 sz91_b2 cy91_n6 cy91_ft cy91_wv (by rw [ek122]; exact iq122)
  ·
   refine Fini.st (fun _ k => XS.icmpYes X112.here hx rfl (pc0 := 109) (pc' := 125) rfl (hb hby d13_109) rfl (XT.ii_ge_t c114) (by decide) (by decide) k) ?_
   show Fini _ _ _ _ _ _ _ T112 (mkF m 125 #[vr o0, vr o1, vr o2, vi (0 : Int32), vi (0 : Int32), vr o5, vr b2, vr b112, vi (0 : Int32)] [])
   have ek123 : k = (0 : Int32) := (own_k0 hk0 c114)
   have iq123 : ID 0 (fun _ => 0) := (ID.zero _)
   have Ex_371 : Exa Z h112 o0 kLo := (H91_E_o0.ext E112)
   have F_372 : Fld Z h112 o0 kLo "outranking" "[[I" (.ref b12) := (H91_F_o0_outranking.ext E112)
   have F_373 : Fld Z h112 o0 kLo "transitions" "Ljava/util/List;" .null := (H91_F_o0_transitions.ext E112)
   have F_374 : Fld Z h112 o0 kLo "ownTransitions" "Ljava/util/List;" .null := (H91_F_o0_ownTransitions.ext E112)
   have F_375 : Fld Z h112 o0 kLo "line" "I" (.int (0 : Int32)) := (H91_F_o0_line.ext E112)
   have F_376 : Fld Z h112 o0 kLo "end" "Z" (.int (0 : Int32)) := (H91_F_o0_end.ext E112)
   have F_377 : Fld Z h112 o0 kLo "labels" "Ljava/util/List;" .null := (H91_F_o0_labels.ext E112)
   have F_378 : Fld Z h112 o0 kLo "counting" "Ljava/util/List;" .null := (H91_F_o0_counting.ext E112)
   have Od_379 : Old Z n0 h112 := (Old.ext H91_D E112)
   have Zs_380 : n0 ≤ h112.size := (Nat.le_trans H91_Z E112.1)
   have Kp_381 : Keep h0 h112 [o0] := (Keep.ext H91_K E112)
   have Al_382 : ALs Z h0.size dd h112 b2 e6 z91_l7 z91_f_L_b2 := (H91_L_b2.ext E112)
   have Ar_383 : AryA Z h112 b12 (k + j) z91_f_A_b12 := (H91_A_b12.ext E112)
   have Ex_384 : Exa Z h112 b12 "[[I" := (H91_E_b12.ext E112)
   exact B125 T112 _ _ (X112.more (cells' := 6) (slots' := 41) (by decide) (by decide)) e112 b112 b12 b2 e6 (0 : Int32) (fun _ => 0) z91_f_A_b12 z91_f_L_b2 z91_l7 N_91 Ex_371 F_372 F_373 F_374 F_375 F_376 F_377 F_378 Od_379 Zs_380 Kp_381 Al_382 Ar_383 Ex_384 Ea112 Ar112 ne91_o0_b2 ne91_dd_b2 ne91_o0_b12 ne91_dd_b12 ne91_b2_b12 ne91_e6_o0 ne91_e6_b2 ne91_e6_b12 ne_o0_b112 ne_dd_b112 ne_b2_b112 ne_e6_b112 ne_b12_b112 ge_b112 ge91_b12 ge91_b2 sz_b112 sz91_b12 sz91_b2 cy91_n6 cy91_ft cy91_wv (by rw [ek123]; exact iq123)
 show Fini p e below s (fun v h' L => v = none ∧ Fr n0 L ∧ Keep h0 h' [o0] ∧ ∃ ob w, Fld Z h' o0 kLo "outranking" "[[I" (.ref ob) ∧ AryA Z h' ob (k + j) w ∧ OUT Z h' k j w S) _ _ s₁ (entryFrame m #[(.ref o0), (.ref o1), (.ref o2), (.int (0 : Int32)), (.int (0 : Int32)), (.ref o5)] 9)
 refine Fini.cast (ef13 m o0 o1 o2 (0 : Int32) (0 : Int32) o5) ?_
 show Fini _ _ _ _ _ _ _ s₁ (mkF m 0 #[vr o0, vr o1, vr o2, vi (0 : Int32), vi (0 : Int32), vr o5, su, su, su] [])
 refine fAN X0 hx hby d13_0 rfl rfl rfl ?_
 obtain ⟨T1, X1, e1, st1⟩ := initO X0 hx hZ hown (wq hw (i := 103) rfl) (wq hw (i := 8) rfl) (wq hw (i := 9) rfl) e0 (g := (mkF m 1 #[vr o0, vr o1, vr o2, vi (0 : Int32), vi (0 : Int32), vr o5, su, su, su] [(.ref o0)])) rfl (by rw [hml]; rfl) rfl (hb hby d13_1) (by decide) (W := 0) (by show 2 * 0 + _ ≤ _; exact Nat.le_of_eq rfl) (by decide)
 refine Fini.st st1 ?_
 show Fini _ _ _ _ _ _ _ T1 (mkF m 4 #[vr o0, vr o1, vr o2, vi (0 : Int32), vi (0 : Int32), vr o5, su, su, su] [])
 obtain ⟨T2, h2, X2, e2, E2, A2, D2, -, st2⟩ := newO X1 hx hZ hown (wq hw (i := 104) rfl) (wq hw (i := 19) rfl) (wq hw (i := 20) rfl) e1 (g := (mkF m 4 #[vr o0, vr o1, vr o2, vi (0 : Int32), vi (0 : Int32), vr o5, su, su, su] [])) rfl (hb hby d13_4) (by decide) (by decide)
 obtain ⟨b2, g2⟩ : ∃ z, z = h0.size := ⟨_, rfl⟩
 rw [← g2] at A2 D2 st2
 have ne_o0_b2 : o0 ≠ b2 := Nat.ne_of_lt (Nat.lt_of_lt_of_le E_o0.lt (Nat.le_of_eq g2.symm))
 have An_3 : AryQ Z h0 dd (0 : Int32) := (A_dd.ext D0.2)
 have ne_dd_b2 : dd ≠ b2 := Nat.ne_of_lt (Nat.lt_of_lt_of_le An_3.lt (Nat.le_of_eq g2.symm))
 have ge_b2 : n0 ≤ b2 := Nat.le_trans Z0 (Nat.le_of_eq g2.symm)
 have sz_b2 : h0.size ≤ b2 := Nat.le_trans (Keep.refl h0 [o0]).1 (Nat.le_of_eq g2.symm)
 have Fn2_modCount : Fld Z h2 b2 "java/util/AbstractList" "modCount" "I" (.int (0 : Int32)) := D2 (Or.inl (wq hw (i := 38) rfl)) (ty := .int) (by decide)
 have Fn2_elementData : Fld Z h2 b2 "java/util/ArrayList" "elementData" "[Ljava/lang/Object;" .null := D2 (Or.inl (wq hw (i := 41) rfl)) (ty := (.array (.object "java/lang/Object"))) (by decide)
 have Fn2_size : Fld Z h2 b2 "java/util/ArrayList" "size" "I" (.int (0 : Int32)) := D2 (Or.inl (wq hw (i := 61) rfl)) (ty := .int) (by decide)
 refine Fini.st st2 ?_
 refine Fini.st (fun _ k => XS.dup X2.here hx rfl (hb hby d13_7) rfl rfl k) ?_
 have Zs_5 : n0 ≤ h2.size := (Nat.le_trans Z0 E2.1)
 have Od_6 : Old Z n0 h2 := (Old.ext D0 E2)
 obtain ⟨v4, T4, L4, X4, hQ4, st4⟩ := callNew X2 hx hZ hown rfl (wq hw (i := 105) rfl) (wq hw (i := 22) rfl) (wq hw (i := 20) rfl) (wq hw (i := 23) rfl) (by decide) (rm3 l Z a0 hw [] b2 dd h0.size (0 : Int32) h2 n0 Zs_5 A2 Fn2_modCount Fn2_size Fn2_elementData Od_6 S_dd A_dd ge_b2) e2 (W := 1) (by decide) (by decide) (by decide) (by decide) (g := (mkF m 8 #[vr o0, vr o1, vr o2, vi (0 : Int32), vi (0 : Int32), vr o5, su, su, su] [(.ref b2), (.ref b2)])) rfl (by rw [hml]; rfl) (argsL := []) (rest := [(.ref b2)]) rfl (lenOf pd_0 rfl) rfl (by show 2 * 0 + _ ≤ _; exact Nat.le_of_eq rfl) (hb hby d13_8)
 obtain ⟨rfl, Nq4, K4, Al4⟩ := hQ4
 have N4 := Fr.app N0 Nq4
 refine Fini.st st4 ?_
 show Fini _ _ _ _ _ _ _ T4 (mkF m 11 #[vr o0, vr o1, vr o2, vi (0 : Int32), vi (0 : Int32), vr o5, su, su, su] [(.ref b2)])
 refine Fini.st (fun _ k => XS.astore X4.here hx rfl (hb hby d13_11) rfl rfl (l' := #[vr o0, vr o1, vr o2, vi (0 : Int32), vi (0 : Int32), vr o5, vr b2, su, su]) rfl k) ?_
 refine fAN X4 hx hby d13_13 rfl rfl rfl ?_
 refine fAN X4 hx hby d13_14 rfl rfl rfl ?_
 have Kp_8 : Keep h0 T4.heap [o0] := (Keep.trans (Keep.ext (Keep.refl h0 [o0]) E2) K4 (allS (P := fun x => x ∈ _ ∨ _ ≤ x) (Or.inr sz_b2) all0))
 have An_9 : ALs Z n0 dd T4.heap o1 xa1 k u1 := (A_o1.keep Kp_8 (ninS n1 nin0) (ninS ne1 nin0))
 obtain ⟨T7, X7, e7, st7⟩ := pureI X4 hx hZ hown (wq hw (i := 106) rfl) (wq hw (i := 52) rfl) (wq hw (i := 53) rfl) (wq hw (i := 54) rfl) (wq hw (i := 55) rfl) (wq hw (i := 56) rfl) (wq hw (i := 57) rfl) (wq hw (i := 58) rfl) (wq hw (i := 20) rfl) (wq hw (i := 59) rfl) An_9.exa (by decide) (c7 l Z a0 hw T4.heap An_9) rfl (W := 1) (by decide) (by decide) (by decide) (by decide) (g := (mkF m 15 #[vr o0, vr o1, vr o2, vi (0 : Int32), vi (0 : Int32), vr o5, vr b2, su, su] [(.ref o1), (.ref o0)])) rfl (by rw [hml]; rfl) (argsL := []) (rest := [(.ref o0)]) rfl (lenOf pd_7 rfl) rfl (by show 2 * 0 + _ ≤ _; exact Nat.le_of_eq rfl) (hb hby d13_15)
 refine Fini.st st7 ?_
 show Fini _ _ _ _ _ _ _ T7 (mkF m 20 #[vr o0, vr o1, vr o2, vi (0 : Int32), vi (0 : Int32), vr o5, vr b2, su, su] [(.int k), (.ref o0)])
 refine fAN X7 hx hby d13_20 rfl rfl rfl ?_
 have An_11 : ALs Z n0 dd T4.heap o2 xa2 j u2 := (A_o2.keep Kp_8 (ninS n2 nin0) (ninS ne2 nin0))
 obtain ⟨T10, X10, e10, st10⟩ := pureI X7 hx hZ hown (wq hw (i := 106) rfl) (wq hw (i := 52) rfl) (wq hw (i := 53) rfl) (wq hw (i := 54) rfl) (wq hw (i := 55) rfl) (wq hw (i := 56) rfl) (wq hw (i := 57) rfl) (wq hw (i := 58) rfl) (wq hw (i := 20) rfl) (wq hw (i := 59) rfl) An_11.exa (by decide) (c7 l Z a0 hw T4.heap An_11) e7 (W := 2) (by decide) (by decide) (by decide) (by decide) (g := (mkF m 21 #[vr o0, vr o1, vr o2, vi (0 : Int32), vi (0 : Int32), vr o5, vr b2, su, su] [(.ref o2), (.int k), (.ref o0)])) rfl (by rw [hml]; rfl) (argsL := []) (rest := [(.int k), (.ref o0)]) rfl (lenOf pd_7 rfl) rfl (by show 2 * 0 + _ ≤ _; exact Nat.le_of_eq rfl) (hb hby d13_21)
 refine Fini.st st10 ?_
 show Fini _ _ _ _ _ _ _ T10 (mkF m 26 #[vr o0, vr o1, vr o2, vi (0 : Int32), vi (0 : Int32), vr o5, vr b2, su, su] [(.int j), (.int k), (.ref o0)])
 refine Fini.st (fun _ k => XS.iadd X10.here hx rfl (hb hby d13_26) rfl k) ?_
 show Fini _ _ _ _ _ _ _ T10 (mkF m 27 #[vr o0, vr o1, vr o2, vi (0 : Int32), vi (0 : Int32), vr o5, vr b2, su, su] [(.int (k + j)), (.ref o0)])
 obtain ⟨T12, h12, k12, X12, e12, E12, A12, Ea12, O12, st12⟩ := newRA X10 hx hZ hown (C := "[I") (ty := .int) (by decide) (wq hw (i := 107) rfl) (wq hw (i := 108) rfl) e10 (g := (mkF m 27 #[vr o0, vr o1, vr o2, vi (0 : Int32), vi (0 : Int32), vr o5, vr b2, su, su] [(.int (k + j)), (.ref o0)])) rfl (hb hby d13_27) rfl (own_kj hk0 hk hj0 hj).1 (cap := 5) (own_cap5 (own_kj hk0 hk hj0 hj).2) (by decide) (by decide) (by decide) (ad := "[[I") (by decide)
 obtain ⟨b12, g12⟩ : ∃ z, z = T4.heap.size := ⟨_, rfl⟩
 rw [← g12] at A12 Ea12 st12
 have Ex_13 : Exa Z T4.heap o0 kLo := ((E_o0.ext E2).keep K4)
 have ne_o0_b12 : o0 ≠ b12 := Nat.ne_of_lt (Nat.lt_of_lt_of_le Ex_13.lt (Nat.le_of_eq g12.symm))
 have Od_14 : Old Z n0 T4.heap := (Old.keep Od_6 K4 (allS (P := fun x => n0 ≤ x) ge_b2 all0))
 have An_15 : AryQ Z T4.heap dd (0 : Int32) := (A_dd.ext Od_14.2)
 have ne_dd_b12 : dd ≠ b12 := Nat.ne_of_lt (Nat.lt_of_lt_of_le An_15.lt (Nat.le_of_eq g12.symm))
 have ne_b2_b12 : b2 ≠ b12 := Nat.ne_of_lt (Nat.lt_of_lt_of_le Al4.lt (Nat.le_of_eq g12.symm))
 have Zs_16 : n0 ≤ T4.heap.size := (Nat.le_trans Zs_5 K4.1)
 have ge_b12 : n0 ≤ b12 := Nat.le_trans Zs_16 (Nat.le_of_eq g12.symm)
 have sz_b12 : h0.size ≤ b12 := Nat.le_trans Kp_8.1 (Nat.le_of_eq g12.symm)
 have Ar12 : AryA Z h12 b12 (k + j) (fun _ => .null) := AryA.new A12 O12 (own_kj hk0 hk hj0 hj).1
 refine Fini.st st12 ?_
 show Fini _ _ _ _ _ _ _ T12 (mkF m 30 #[vr o0, vr o1, vr o2, vi (0 : Int32), vi (0 : Int32), vr o5, vr b2, su, su] [(.ref b12), (.ref o0)])
 have F_18 : Fld Z h12 o0 kLo "outranking" "[[I" .null := (((F_outranking.ext E2).keep K4 (ninS ne_o0_b2 nin0)).ext E12)
 have Ex_19 : Exa Z h12 o0 kLo := (Ex_13.ext E12)
 obtain ⟨T17, h17, X17, e17, W17, st17⟩ := putF X12 hx hZ hown (host := "") (Or.inl (wq hw (i := 109) rfl)) Via.refl e12 F_18 Ex_19 (Or.inr ⟨(wq hw (i := 110) rfl), rfl, hnm⟩) (wq hw (i := 98) rfl) (ty := (.array (.array .int))) (by decide) rfl rfl (g := (mkF m 30 #[vr o0, vr o1, vr o2, vi (0 : Int32), vi (0 : Int32), vr o5, vr b2, su, su] [(.ref b12), (.ref o0)])) rfl rfl (hb hby d13_30)
 have Fw17 : Fld Z h17 o0 kLo "outranking" "[[I" (.ref b12) := F_18.same W17
 refine Fini.st st17 ?_
 have N17 := Fr.snoc X17 N4 g0
 refine fC X17 hx hby d13_33 rfl ?_
 refine Fini.st (fun _ k => XS.istore X17.here hx rfl (hb hby d13_34) rfl (l' := #[vr o0, vr o1, vr o2, vi (0 : Int32), vi (0 : Int32), vr o5, vr b2, vi (0 : Int32), su]) rfl k) ?_
 show Fini _ _ _ _ _ _ _ T17 (mkF m 36 #[vr o0, vr o1, vr o2, vi (0 : Int32), vi (0 : Int32), vr o5, vr b2, vi (0 : Int32), su] [])
 refine fI X17 hx hby d13_36 rfl rfl ?_
 refine fAN X17 hx hby d13_38 rfl rfl rfl ?_
 have Kp_21 : Keep h0 h17 [o0] := (Keep.wr (Keep.ext Kp_8 E12) W17 (Or.inl (List.mem_of_getElem? (i := 0) rfl)))
 have An_22 : ALs Z n0 dd h17 o1 xa1 k u1 := (A_o1.keep Kp_21 (ninS n1 nin0) (ninS ne1 nin0))
 obtain ⟨T20, X20, e20, st20⟩ := pureI X17 hx hZ hown (wq hw (i := 106) rfl) (wq hw (i := 52) rfl) (wq hw (i := 53) rfl) (wq hw (i := 54) rfl) (wq hw (i := 55) rfl) (wq hw (i := 56) rfl) (wq hw (i := 57) rfl) (wq hw (i := 58) rfl) (wq hw (i := 20) rfl) (wq hw (i := 59) rfl) An_22.exa (by decide) (c7 l Z a0 hw h17 An_22) e17 (W := 1) (by decide) (by decide) (by decide) (by decide) (g := (mkF m 39 #[vr o0, vr o1, vr o2, vi (0 : Int32), vi (0 : Int32), vr o5, vr b2, vi (0 : Int32), su] [(.ref o1), (.int (0 : Int32))])) rfl (by rw [hml]; rfl) (argsL := []) (rest := [(.int (0 : Int32))]) rfl (lenOf pd_7 rfl) rfl (by show 2 * 0 + _ ≤ _; exact Nat.le_of_eq rfl) (hb hby d13_39)
 refine Fini.st st20 ?_
 show Fini _ _ _ _ _ _ _ T20 (mkF m 44 #[vr o0, vr o1, vr o2, vi (0 : Int32), vi (0 : Int32), vr o5, vr b2, vi (0 : Int32), su] [(.int k), (.int (0 : Int32))])
 by_cases c23 : (0 : Int32) < k
 ·
  refine Fini.st (fun _ k => XS.icmpNo X20.here hx rfl (hb hby d13_44) rfl (XT.ii_ge_f c23) k) ?_
  refine fAN X20 hx hby d13_47 rfl rfl rfl ?_
  refine fI X20 hx hby d13_48 rfl rfl ?_
  obtain ⟨v24, T24, L24, X24, hQ24, st24⟩ := callI X20 hx hZ hown (wq hw (i := 111) rfl) (wq hw (i := 112) rfl) (wq hw (i := 113) rfl) (wq hw (i := 114) rfl) (wq hw (i := 115) rfl) (wq hw (i := 116) rfl) (wq hw (i := 117) rfl) (wq hw (i := 58) rfl) (wq hw (i := 20) rfl) (wq hw (i := 118) rfl) An_22.exa (by decide) (c14 l Z a0 hw h17 An_22 (i := (0 : Int32)) (by decide) c23) e20 (W := 0) (by decide) (by decide) (by decide) (by decide) (g := (mkF m 50 #[vr o0, vr o1, vr o2, vi (0 : Int32), vi (0 : Int32), vr o5, vr b2, vi (0 : Int32), su] [(.int (0 : Int32)), (.ref o1)])) rfl (by rw [hml]; rfl) (argsL := [(.int (0 : Int32))]) (rest := []) rfl (lenOf pd_3 rfl) rfl (by show 2 * 0 + _ ≤ _; exact Nat.le_of_eq rfl) (hb hby d13_50)
  obtain ⟨m24, y24, nn24, vv24, eq24, lm24, la24, Em24, Ft24, Fo24, Ea24, Aa24, hn24, hm24⟩ := hMV 0 (nat_lt (j := (0 : Int32)) ⟨by decide, c23⟩)
  have eq24 : u1 ((0 : Int32)).toNatClampNeg = .ref m24 := eq24
  have ne_m24 : m24 ≠ o0 := Nat.ne_of_lt (Nat.lt_of_lt_of_le lm24 hBm)
  have ne_y24 : y24 ≠ o0 := Nat.ne_of_lt (Nat.lt_of_lt_of_le la24 hBm)
  rw [eq24] at hQ24
  obtain ⟨rfl, hh24, rfl⟩ := hQ24
  have K24 : Keep h17 T24.heap [] := by rw [hh24]; exact Keep.refl _ _
  have Nq24 := Fr.nil n0
  have N24 := Fr.app N17 Nq24
  refine Fini.st st24 ?_
  show Fini _ _ _ _ _ _ _ T24 (mkF m 55 #[vr o0, vr o1, vr o2, vi (0 : Int32), vi (0 : Int32), vr o5, vr b2, vi (0 : Int32), su] [(.ref m24)])
  have Kp_26 : Keep h0 T24.heap [o0] := (Keep.trans Kp_21 K24 all0)
  have An_27 : Exa Z T24.heap m24 kMv := (Em24.keep Kp_26)
  obtain ⟨T25, X25, e25, st25⟩ := castY X24 hx hZ hown (wq hw (i := 132) rfl) rfl (Ins.self An_27) (g := (mkF m 55 #[vr o0, vr o1, vr o2, vi (0 : Int32), vi (0 : Int32), vr o5, vr b2, vi (0 : Int32), su] [(.ref m24)])) rfl rfl (hb hby d13_55)
  refine Fini.st st25 ?_
  refine Fini.st (fun _ k => XS.astore X25.here hx rfl (hb hby d13_58) rfl rfl (l' := #[vr o0, vr o1, vr o2, vi (0 : Int32), vi (0 : Int32), vr o5, vr b2, vi (0 : Int32), vr m24]) rfl k) ?_
  refine fA X25 hx hby d13_60 rfl rfl rfl ?_
  refine fA X25 hx hby d13_62 rfl rfl rfl ?_
  have An_28 : Fld Z T24.heap m24 kMv "transition" "Lcom/example/firm_handshake/firmhandshake/model/Transition;" (.ref t) := (Ft24.keep Kp_26 (ninS ne_m24 nin0))
  refine Fini.st (getFR X25 hx hZ hown (wq hw (i := 134) rfl) e25 An_28 rfl rfl (hb hby d13_64)) ?_
  show Fini _ _ _ _ _ _ _ T25 (mkF m 67 #[vr o0, vr o1, vr o2, vi (0 : Int32), vi (0 : Int32), vr o5, vr b2, vi (0 : Int32), vr m24] [(.ref t), (.ref b2)])
  have Zs_30 : n0 ≤ T24.heap.size := (Nat.le_trans (Nat.le_trans (Nat.le_trans Zs_16 E12.1) (Nat.le_of_eq W17.size.symm)) K24.1)
  have Al_31 : ALs Z h0.size dd T24.heap b2 dd (0 : Int32) (fun _ => .null) := (((Al4.ext E12).other W17 (Ne.symm ne_o0_b2) nd).keep K24 nin0 nin0)
  have Od_32 : Old Z n0 T24.heap := (Old.keep (Old.wr (Old.ext Od_14 E12) W17 g0) K24 all0)
  have An_33 : Exa Z T24.heap t kTr := (E_t.keep Kp_26)
  obtain ⟨v29, T29, L29, X29, hQ29, st29⟩ := callI X25 hx hZ hown (wq hw (i := 135) rfl) (wq hw (i := 66) rfl) (wq hw (i := 67) rfl) (wq hw (i := 68) rfl) (wq hw (i := 69) rfl) (wq hw (i := 70) rfl) (wq hw (i := 71) rfl) (wq hw (i := 58) rfl) (wq hw (i := 20) rfl) (wq hw (i := 72) rfl) Al_31.exa (by decide) (c8 l Z a0 hw T24.heap n0 Zs_30 Al_31 (o1 := t) Z0 ge_b2 (by decide) Od_32 S_dd A_dd (Ins.of_exa An_33 (wq hw (i := 136) rfl)) Kp_26.1) e25 (W := 0) (by decide) (by decide) (by decide) (by decide) (g := (mkF m 67 #[vr o0, vr o1, vr o2, vi (0 : Int32), vi (0 : Int32), vr o5, vr b2, vi (0 : Int32), vr m24] [(.ref t), (.ref b2)])) rfl (by rw [hml]; rfl) (argsL := [(.ref t)]) (rest := []) rfl (lenOf pd_21 rfl) rfl (by show 2 * 0 + _ ≤ _; exact Nat.le_of_eq rfl) (hb hby d13_67)
  obtain ⟨rfl, Nq29, x29, K29, hx29, Bx29, Al29⟩ := hQ29
  have Ex_34 : Exa Z T24.heap o0 kLo := ((Ex_19.wr W17).keep K24)
  have Ar_35 : AryA Z T24.heap b12 (k + j) (fun _ => .null) := ((Ar12.other W17 (Ne.symm ne_o0_b12)).keep K24 nin0)
  have hz29 : T24.heap.size ≤ x29 := hx29.elim (fun w => absurd (Nat.lt_of_lt_of_le (Od_32.1 ▸ A_dd.lt) Z0) (Nat.not_lt.mpr w.2)) id
  have ne_o0_x29 : o0 ≠ x29 := Nat.ne_of_lt (Nat.lt_of_lt_of_le Ex_34.lt hz29)
  have An_36 : AryQ Z T24.heap dd (0 : Int32) := (A_dd.ext Od_32.2)
  have ne_dd_x29 : dd ≠ x29 := Nat.ne_of_lt (Nat.lt_of_lt_of_le An_36.lt hz29)
  have ne_b2_x29 : b2 ≠ x29 := Nat.ne_of_lt (Nat.lt_of_lt_of_le Al_31.lt hz29)
  have ne_b12_x29 : b12 ≠ x29 := Nat.ne_of_lt (Nat.lt_of_lt_of_le Ar_35.lt hz29)
  have sz_x29 : h0.size ≤ x29 := Nat.le_trans Kp_26.1 hz29
  have N29 := Fr.app N24 Nq29
  refine Fini.st st29 ?_
  show Fini _ _ _ _ _ _ _ T29 (mkF m 72 #[vr o0, vr o1, vr o2, vi (0 : Int32), vi (0 : Int32), vr o5, vr b2, vi (0 : Int32), vr m24] [(.int (1 : Int32))])
  refine Fini.st (fun _ k => XS.pop X29.here hx rfl (hb hby d13_72) rfl rfl k) ?_
  refine fAN X29 hx hby d13_73 rfl rfl rfl ?_
  have F_38 : Fld Z T29.heap o0 kLo "outranking" "[[I" (.ref b12) := ((Fw17.keep K24 nin0).keep K29 (ninS ne_o0_b2 (ninS ne_o0_x29 nin0)))
  obtain ⟨T37, X37, e37, st37⟩ := getF X29 hx hZ hown (host := "") (Or.inl (wq hw (i := 109) rfl)) Via.refl rfl F_38 (g := (mkF m 74 #[vr o0, vr o1, vr o2, vi (0 : Int32), vi (0 : Int32), vr o5, vr b2, vi (0 : Int32), vr m24] [(.ref o0)])) rfl rfl (hb hby d13_74)
  refine Fini.st st37 ?_
  refine fI X37 hx hby d13_77 rfl rfl ?_
  refine fA X37 hx hby d13_79 rfl rfl rfl ?_
  have Kp_39 : Keep h0 T29.heap [o0] := (Keep.trans Kp_26 K29 (allS (P := fun x => x ∈ _ ∨ _ ≤ x) (Or.inr sz_b2) (allS (P := fun x => x ∈ _ ∨ _ ≤ x) (Or.inr sz_x29) all0)))
  have An_40 : Fld Z T29.heap m24 kMv "outrankedBy" "[I" (.ref y24) := (Fo24.keep Kp_39 (ninS ne_m24 nin0))
  refine Fini.st (getFR X37 hx hZ hown (wq hw (i := 137) rfl) e37 An_40 rfl rfl (hb hby d13_81)) ?_
  show Fini _ _ _ _ _ _ _ T37 (mkF m 84 #[vr o0, vr o1, vr o2, vi (0 : Int32), vi (0 : Int32), vr o5, vr b2, vi (0 : Int32), vr m24] [(.ref y24), (.int (0 : Int32)), (.ref b12)])
  have Ar_41 : AryA Z T29.heap b12 (k + j) (fun _ => .null) := (Ar_35.keep K29 (ninS (Ne.symm ne_b2_b12) (ninS ne_b12_x29 nin0)))
  have An_43 : Exa Z T29.heap y24 "[I" := (Ea24.keep Kp_39)
  obtain ⟨T42, h42, X42, e42, W42, Ar42, st42⟩ := Ar_41.st X37 hx hZ e37 ⟨by decide, own_ikj c23 hk0 hk hj0 hj⟩ (Or.inr ⟨_, rfl, (Ins.self An_43)⟩) (g := (mkF m 84 #[vr o0, vr o1, vr o2, vi (0 : Int32), vi (0 : Int32), vr o5, vr b2, vi (0 : Int32), vr m24] [(.ref y24), (.int (0 : Int32)), (.ref b12)])) rfl rfl (hb hby d13_84)
  refine Fini.st st42 ?_
  have N42 := Fr.snoc X42 N29 ge_b12
  have wv44 := WV.step (WV.zero Z h0 Bm S (fun _ => .null)) ⟨y24, nn24, vv24, rfl, la24, Aa24, hn24, hm24⟩
  show Fini _ _ _ _ _ _ _ T42 (mkF m 85 #[vr o0, vr o1, vr o2, vi (0 : Int32), vi (0 : Int32), vr o5, vr b2, vi (0 : Int32), vr m24] [])
  refine Fini.st (fun _ k => XS.iinc X42.here hx rfl (hb hby d13_85) rfl (l' := #[vr o0, vr o1, vr o2, vi (0 : Int32), vi (0 : Int32), vr o5, vr b2, vi (1 : Int32), vr m24]) rfl k) ?_
  refine Fini.st (fun _ k => XS.goto X42.here hx rfl (pc0 := 88) (pc' := 36) rfl (hb hby d13_88) (by decide) (by decide) k) ?_
  show Fini _ _ _ _ _ _ _ T42 (mkF m 36 #[vr o0, vr o1, vr o2, vi (0 : Int32), vi (0 : Int32), vr o5, vr b2, vi (1 : Int32), vr m24] [])
  refine fI X42 hx hby d13_36 rfl rfl ?_
  refine fAN X42 hx hby d13_38 rfl rfl rfl ?_
  have Kp_46 : Keep h0 h42 [o0] := (Keep.wr Kp_39 W42 (Or.inr sz_b12))
  have An_47 : ALs Z n0 dd h42 o1 xa1 k u1 := (A_o1.keep Kp_46 (ninS n1 nin0) (ninS ne1 nin0))
  obtain ⟨T45, X45, e45, st45⟩ := pureI X42 hx hZ hown (wq hw (i := 106) rfl) (wq hw (i := 52) rfl) (wq hw (i := 53) rfl) (wq hw (i := 54) rfl) (wq hw (i := 55) rfl) (wq hw (i := 56) rfl) (wq hw (i := 57) rfl) (wq hw (i := 58) rfl) (wq hw (i := 20) rfl) (wq hw (i := 59) rfl) An_47.exa (by decide) (c7 l Z a0 hw h42 An_47) e42 (W := 1) (by decide) (by decide) (by decide) (by decide) (g := (mkF m 39 #[vr o0, vr o1, vr o2, vi (0 : Int32), vi (0 : Int32), vr o5, vr b2, vi (1 : Int32), vr m24] [(.ref o1), (.int (1 : Int32))])) rfl (by rw [hml]; rfl) (argsL := []) (rest := [(.int (1 : Int32))]) rfl (lenOf pd_7 rfl) rfl (by show 2 * 0 + _ ≤ _; exact Nat.le_of_eq rfl) (hb hby d13_39)
  refine Fini.st st45 ?_
  show Fini _ _ _ _ _ _ _ T45 (mkF m 44 #[vr o0, vr o1, vr o2, vi (0 : Int32), vi (0 : Int32), vr o5, vr b2, vi (1 : Int32), vr m24] [(.int k), (.int (1 : Int32))])
  by_cases c48 : (1 : Int32) < k
  ·
   refine Fini.st (fun _ k => XS.icmpNo X45.here hx rfl (hb hby d13_44) rfl (XT.ii_ge_f c48) k) ?_
   refine fAN X45 hx hby d13_47 rfl rfl rfl ?_
   refine fI X45 hx hby d13_48 rfl rfl ?_
   obtain ⟨v49, T49, L49, X49, hQ49, st49⟩ := callI X45 hx hZ hown (wq hw (i := 111) rfl) (wq hw (i := 112) rfl) (wq hw (i := 113) rfl) (wq hw (i := 114) rfl) (wq hw (i := 115) rfl) (wq hw (i := 116) rfl) (wq hw (i := 117) rfl) (wq hw (i := 58) rfl) (wq hw (i := 20) rfl) (wq hw (i := 118) rfl) An_47.exa (by decide) (c14 l Z a0 hw h42 An_47 (i := (1 : Int32)) (by decide) c48) e45 (W := 0) (by decide) (by decide) (by decide) (by decide) (g := (mkF m 50 #[vr o0, vr o1, vr o2, vi (0 : Int32), vi (0 : Int32), vr o5, vr b2, vi (1 : Int32), vr m24] [(.int (1 : Int32)), (.ref o1)])) rfl (by rw [hml]; rfl) (argsL := [(.int (1 : Int32))]) (rest := []) rfl (lenOf pd_3 rfl) rfl (by show 2 * 0 + _ ≤ _; exact Nat.le_of_eq rfl) (hb hby d13_50)
   obtain ⟨m49, y49, nn49, vv49, eq49, lm49, la49, Em49, Ft49, Fo49, Ea49, Aa49, hn49, hm49⟩ := hMV 1 (nat_lt (j := (1 : Int32)) ⟨by decide, c48⟩)
   have eq49 : u1 ((1 : Int32)).toNatClampNeg = .ref m49 := eq49
   have ne_m49 : m49 ≠ o0 := Nat.ne_of_lt (Nat.lt_of_lt_of_le lm49 hBm)
   have ne_y49 : y49 ≠ o0 := Nat.ne_of_lt (Nat.lt_of_lt_of_le la49 hBm)
   rw [eq49] at hQ49
   obtain ⟨rfl, hh49, rfl⟩ := hQ49
   have K49 : Keep h42 T49.heap [] := by rw [hh49]; exact Keep.refl _ _
   have Nq49 := Fr.nil n0
   have N49 := Fr.app N42 Nq49
   refine Fini.st st49 ?_
   show Fini _ _ _ _ _ _ _ T49 (mkF m 55 #[vr o0, vr o1, vr o2, vi (0 : Int32), vi (0 : Int32), vr o5, vr b2, vi (1 : Int32), vr m24] [(.ref m49)])
   have Kp_51 : Keep h0 T49.heap [o0] := (Keep.trans Kp_46 K49 all0)
   have An_52 : Exa Z T49.heap m49 kMv := (Em49.keep Kp_51)
   obtain ⟨T50, X50, e50, st50⟩ := castY X49 hx hZ hown (wq hw (i := 132) rfl) rfl (Ins.self An_52) (g := (mkF m 55 #[vr o0, vr o1, vr o2, vi (0 : Int32), vi (0 : Int32), vr o5, vr b2, vi (1 : Int32), vr m24] [(.ref m49)])) rfl rfl (hb hby d13_55)
   refine Fini.st st50 ?_
   refine Fini.st (fun _ k => XS.astore X50.here hx rfl (hb hby d13_58) rfl rfl (l' := #[vr o0, vr o1, vr o2, vi (0 : Int32), vi (0 : Int32), vr o5, vr b2, vi (1 : Int32), vr m49]) rfl k) ?_
   refine fA X50 hx hby d13_60 rfl rfl rfl ?_
   refine fA X50 hx hby d13_62 rfl rfl rfl ?_
   have An_53 : Fld Z T49.heap m49 kMv "transition" "Lcom/example/firm_handshake/firmhandshake/model/Transition;" (.ref t) := (Ft49.keep Kp_51 (ninS ne_m49 nin0))
   refine Fini.st (getFR X50 hx hZ hown (wq hw (i := 134) rfl) e50 An_53 rfl rfl (hb hby d13_64)) ?_
   show Fini _ _ _ _ _ _ _ T50 (mkF m 67 #[vr o0, vr o1, vr o2, vi (0 : Int32), vi (0 : Int32), vr o5, vr b2, vi (1 : Int32), vr m49] [(.ref t), (.ref b2)])
   have Zs_55 : n0 ≤ T49.heap.size := (Nat.le_trans (Nat.le_trans (Nat.le_trans Zs_30 K29.1) (Nat.le_of_eq W42.size.symm)) K49.1)
   have Al_56 : ALs Z h0.size dd T49.heap b2 x29 (1 : Int32) (upd (fun _ => .null) 0 (.ref t)) := ((Al29.other W42 ne_b2_b12 (Ne.symm ne_b12_x29)).keep K49 nin0 nin0)
   have Od_57 : Old Z n0 T49.heap := (Old.keep (Old.wr (Old.keep Od_32 K29 (allS (P := fun x => n0 ≤ x) ge_b2 (allS (P := fun x => n0 ≤ x) (Nat.le_trans Z0 Bx29) all0))) W42 ge_b12) K49 all0)
   have An_58 : Exa Z T49.heap t kTr := (E_t.keep Kp_51)
   obtain ⟨v54, T54, L54, X54, hQ54, st54⟩ := callI X50 hx hZ hown (wq hw (i := 135) rfl) (wq hw (i := 66) rfl) (wq hw (i := 67) rfl) (wq hw (i := 68) rfl) (wq hw (i := 69) rfl) (wq hw (i := 70) rfl) (wq hw (i := 71) rfl) (wq hw (i := 58) rfl) (wq hw (i := 20) rfl) (wq hw (i := 72) rfl) Al_56.exa (by decide) (c8 l Z a0 hw T49.heap n0 Zs_55 Al_56 (o1 := t) Z0 ge_b2 (by decide) Od_57 S_dd A_dd (Ins.of_exa An_58 (wq hw (i := 136) rfl)) Kp_51.1) e50 (W := 0) (by decide) (by decide) (by decide) (by decide) (g := (mkF m 67 #[vr o0, vr o1, vr o2, vi (0 : Int32), vi (0 : Int32), vr o5, vr b2, vi (1 : Int32), vr m49] [(.ref t), (.ref b2)])) rfl (by rw [hml]; rfl) (argsL := [(.ref t)]) (rest := []) rfl (lenOf pd_21 rfl) rfl (by show 2 * 0 + _ ≤ _; exact Nat.le_of_eq rfl) (hb hby d13_67)
   obtain ⟨rfl, Nq54, x54, K54, hx54, Bx54, Al54⟩ := hQ54
   have Ex_59 : Exa Z T49.heap o0 kLo := (((Ex_34.keep K29).wr W42).keep K49)
   have An_60 : AryQ Z T49.heap dd (0 : Int32) := (A_dd.ext Od_57.2)
   have Ar_61 : AryA Z T49.heap b12 (k + j) (upd (fun _ => .null) 0 (.ref y24)) := (Ar42.keep K49 nin0)
   have ne_o0_x54 : o0 ≠ x54 := hx54.elim (fun w => by rw [w.1]; exact ne_o0_x29) (fun w => Nat.ne_of_lt (Nat.lt_of_lt_of_le Ex_59.lt w))
   have ne_dd_x54 : dd ≠ x54 := Nat.ne_of_lt (Nat.lt_of_lt_of_le (Od_57.1 ▸ A_dd.lt) (Nat.le_trans Z0 Bx54))
   have ne_b2_x54 : b2 ≠ x54 := hx54.elim (fun w => by rw [w.1]; exact Al_56.2.2.2.2.1) (fun w => Nat.ne_of_lt (Nat.lt_of_lt_of_le Al_56.lt w))
   have ne_b12_x54 : b12 ≠ x54 := hx54.elim (fun w => by rw [w.1]; exact ne_b12_x29) (fun w => Nat.ne_of_lt (Nat.lt_of_lt_of_le Ar_61.lt w))
   have sz_x54 : h0.size ≤ x54 := Bx54
   have N54 := Fr.app N49 Nq54
   refine Fini.st st54 ?_
   show Fini _ _ _ _ _ _ _ T54 (mkF m 72 #[vr o0, vr o1, vr o2, vi (0 : Int32), vi (0 : Int32), vr o5, vr b2, vi (1 : Int32), vr m49] [(.int (1 : Int32))])
   refine Fini.st (fun _ k => XS.pop X54.here hx rfl (hb hby d13_72) rfl rfl k) ?_
   refine fAN X54 hx hby d13_73 rfl rfl rfl ?_
   have F_63 : Fld Z T54.heap o0 kLo "outranking" "[[I" (.ref b12) := (((F_38.other W42 (Or.inl ne_o0_b12)).keep K49 nin0).keep K54 (ninS ne_o0_b2 (ninS ne_o0_x54 nin0)))
   obtain ⟨T62, X62, e62, st62⟩ := getF X54 hx hZ hown (host := "") (Or.inl (wq hw (i := 109) rfl)) Via.refl rfl F_63 (g := (mkF m 74 #[vr o0, vr o1, vr o2, vi (0 : Int32), vi (0 : Int32), vr o5, vr b2, vi (1 : Int32), vr m49] [(.ref o0)])) rfl rfl (hb hby d13_74)
   refine Fini.st st62 ?_
   refine fI X62 hx hby d13_77 rfl rfl ?_
   refine fA X62 hx hby d13_79 rfl rfl rfl ?_
   have Kp_64 : Keep h0 T54.heap [o0] := (Keep.trans Kp_51 K54 (allS (P := fun x => x ∈ _ ∨ _ ≤ x) (Or.inr sz_b2) (allS (P := fun x => x ∈ _ ∨ _ ≤ x) (Or.inr sz_x54) all0)))
   have An_65 : Fld Z T54.heap m49 kMv "outrankedBy" "[I" (.ref y49) := (Fo49.keep Kp_64 (ninS ne_m49 nin0))
   refine Fini.st (getFR X62 hx hZ hown (wq hw (i := 137) rfl) e62 An_65 rfl rfl (hb hby d13_81)) ?_
   show Fini _ _ _ _ _ _ _ T62 (mkF m 84 #[vr o0, vr o1, vr o2, vi (0 : Int32), vi (0 : Int32), vr o5, vr b2, vi (1 : Int32), vr m49] [(.ref y49), (.int (1 : Int32)), (.ref b12)])
   have Ar_66 : AryA Z T54.heap b12 (k + j) (upd (fun _ => .null) 0 (.ref y24)) := (Ar_61.keep K54 (ninS (Ne.symm ne_b2_b12) (ninS ne_b12_x54 nin0)))
   have An_68 : Exa Z T54.heap y49 "[I" := (Ea49.keep Kp_64)
   obtain ⟨T67, h67, X67, e67, W67, Ar67, st67⟩ := Ar_66.st X62 hx hZ e62 ⟨by decide, own_ikj c48 hk0 hk hj0 hj⟩ (Or.inr ⟨_, rfl, (Ins.self An_68)⟩) (g := (mkF m 84 #[vr o0, vr o1, vr o2, vi (0 : Int32), vi (0 : Int32), vr o5, vr b2, vi (1 : Int32), vr m49] [(.ref y49), (.int (1 : Int32)), (.ref b12)])) rfl rfl (hb hby d13_84)
   refine Fini.st st67 ?_
   have N67 := Fr.snoc X67 N54 ge_b12
   have wv69 := WV.step wv44 ⟨y49, nn49, vv49, rfl, la49, Aa49, hn49, hm49⟩
   show Fini _ _ _ _ _ _ _ T67 (mkF m 85 #[vr o0, vr o1, vr o2, vi (0 : Int32), vi (0 : Int32), vr o5, vr b2, vi (1 : Int32), vr m49] [])
   refine Fini.st (fun _ k => XS.iinc X67.here hx rfl (hb hby d13_85) rfl (l' := #[vr o0, vr o1, vr o2, vi (0 : Int32), vi (0 : Int32), vr o5, vr b2, vi (2 : Int32), vr m49]) rfl k) ?_
   refine Fini.st (fun _ k => XS.goto X67.here hx rfl (pc0 := 88) (pc' := 36) rfl (hb hby d13_88) (by decide) (by decide) k) ?_
   show Fini _ _ _ _ _ _ _ T67 (mkF m 36 #[vr o0, vr o1, vr o2, vi (0 : Int32), vi (0 : Int32), vr o5, vr b2, vi (2 : Int32), vr m49] [])
   refine fI X67 hx hby d13_36 rfl rfl ?_
   refine fAN X67 hx hby d13_38 rfl rfl rfl ?_
   have Kp_71 : Keep h0 h67 [o0] := (Keep.wr Kp_64 W67 (Or.inr sz_b12))
   have An_72 : ALs Z n0 dd h67 o1 xa1 k u1 := (A_o1.keep Kp_71 (ninS n1 nin0) (ninS ne1 nin0))
   obtain ⟨T70, X70, e70, st70⟩ := pureI X67 hx hZ hown (wq hw (i := 106) rfl) (wq hw (i := 52) rfl) (wq hw (i := 53) rfl) (wq hw (i := 54) rfl) (wq hw (i := 55) rfl) (wq hw (i := 56) rfl) (wq hw (i := 57) rfl) (wq hw (i := 58) rfl) (wq hw (i := 20) rfl) (wq hw (i := 59) rfl) An_72.exa (by decide) (c7 l Z a0 hw h67 An_72) e67 (W := 1) (by decide) (by decide) (by decide) (by decide) (g := (mkF m 39 #[vr o0, vr o1, vr o2, vi (0 : Int32), vi (0 : Int32), vr o5, vr b2, vi (2 : Int32), vr m49] [(.ref o1), (.int (2 : Int32))])) rfl (by rw [hml]; rfl) (argsL := []) (rest := [(.int (2 : Int32))]) rfl (lenOf pd_7 rfl) rfl (by show 2 * 0 + _ ≤ _; exact Nat.le_of_eq rfl) (hb hby d13_39)
   refine Fini.st st70 ?_
   show Fini _ _ _ _ _ _ _ T70 (mkF m 44 #[vr o0, vr o1, vr o2, vi (0 : Int32), vi (0 : Int32), vr o5, vr b2, vi (2 : Int32), vr m49] [(.int k), (.int (2 : Int32))])
   by_cases c73 : (2 : Int32) < k
   ·
    refine Fini.st (fun _ k => XS.icmpNo X70.here hx rfl (hb hby d13_44) rfl (XT.ii_ge_f c73) k) ?_
    refine fAN X70 hx hby d13_47 rfl rfl rfl ?_
    refine fI X70 hx hby d13_48 rfl rfl ?_
    obtain ⟨v74, T74, L74, X74, hQ74, st74⟩ := callI X70 hx hZ hown (wq hw (i := 111) rfl) (wq hw (i := 112) rfl) (wq hw (i := 113) rfl) (wq hw (i := 114) rfl) (wq hw (i := 115) rfl) (wq hw (i := 116) rfl) (wq hw (i := 117) rfl) (wq hw (i := 58) rfl) (wq hw (i := 20) rfl) (wq hw (i := 118) rfl) An_72.exa (by decide) (c14 l Z a0 hw h67 An_72 (i := (2 : Int32)) (by decide) c73) e70 (W := 0) (by decide) (by decide) (by decide) (by decide) (g := (mkF m 50 #[vr o0, vr o1, vr o2, vi (0 : Int32), vi (0 : Int32), vr o5, vr b2, vi (2 : Int32), vr m49] [(.int (2 : Int32)), (.ref o1)])) rfl (by rw [hml]; rfl) (argsL := [(.int (2 : Int32))]) (rest := []) rfl (lenOf pd_3 rfl) rfl (by show 2 * 0 + _ ≤ _; exact Nat.le_of_eq rfl) (hb hby d13_50)
    obtain ⟨m74, y74, nn74, vv74, eq74, lm74, la74, Em74, Ft74, Fo74, Ea74, Aa74, hn74, hm74⟩ := hMV 2 (nat_lt (j := (2 : Int32)) ⟨by decide, c73⟩)
    have eq74 : u1 ((2 : Int32)).toNatClampNeg = .ref m74 := eq74
    have ne_m74 : m74 ≠ o0 := Nat.ne_of_lt (Nat.lt_of_lt_of_le lm74 hBm)
    have ne_y74 : y74 ≠ o0 := Nat.ne_of_lt (Nat.lt_of_lt_of_le la74 hBm)
    rw [eq74] at hQ74
    obtain ⟨rfl, hh74, rfl⟩ := hQ74
    have K74 : Keep h67 T74.heap [] := by rw [hh74]; exact Keep.refl _ _
    have Nq74 := Fr.nil n0
    have N74 := Fr.app N67 Nq74
    refine Fini.st st74 ?_
    show Fini _ _ _ _ _ _ _ T74 (mkF m 55 #[vr o0, vr o1, vr o2, vi (0 : Int32), vi (0 : Int32), vr o5, vr b2, vi (2 : Int32), vr m49] [(.ref m74)])
    have Kp_76 : Keep h0 T74.heap [o0] := (Keep.trans Kp_71 K74 all0)
    have An_77 : Exa Z T74.heap m74 kMv := (Em74.keep Kp_76)
    obtain ⟨T75, X75, e75, st75⟩ := castY X74 hx hZ hown (wq hw (i := 132) rfl) rfl (Ins.self An_77) (g := (mkF m 55 #[vr o0, vr o1, vr o2, vi (0 : Int32), vi (0 : Int32), vr o5, vr b2, vi (2 : Int32), vr m49] [(.ref m74)])) rfl rfl (hb hby d13_55)
    refine Fini.st st75 ?_
    refine Fini.st (fun _ k => XS.astore X75.here hx rfl (hb hby d13_58) rfl rfl (l' := #[vr o0, vr o1, vr o2, vi (0 : Int32), vi (0 : Int32), vr o5, vr b2, vi (2 : Int32), vr m74]) rfl k) ?_
    refine fA X75 hx hby d13_60 rfl rfl rfl ?_
    refine fA X75 hx hby d13_62 rfl rfl rfl ?_
    have An_78 : Fld Z T74.heap m74 kMv "transition" "Lcom/example/firm_handshake/firmhandshake/model/Transition;" (.ref t) := (Ft74.keep Kp_76 (ninS ne_m74 nin0))
    refine Fini.st (getFR X75 hx hZ hown (wq hw (i := 134) rfl) e75 An_78 rfl rfl (hb hby d13_64)) ?_
    show Fini _ _ _ _ _ _ _ T75 (mkF m 67 #[vr o0, vr o1, vr o2, vi (0 : Int32), vi (0 : Int32), vr o5, vr b2, vi (2 : Int32), vr m74] [(.ref t), (.ref b2)])
    have Zs_80 : n0 ≤ T74.heap.size := (Nat.le_trans (Nat.le_trans (Nat.le_trans Zs_55 K54.1) (Nat.le_of_eq W67.size.symm)) K74.1)
    have Al_81 : ALs Z h0.size dd T74.heap b2 x54 (2 : Int32) (upd (upd (fun _ => .null) 0 (.ref t)) 1 (.ref t)) := ((Al54.other W67 ne_b2_b12 (Ne.symm ne_b12_x54)).keep K74 nin0 nin0)
    have Od_82 : Old Z n0 T74.heap := (Old.keep (Old.wr (Old.keep Od_57 K54 (allS (P := fun x => n0 ≤ x) ge_b2 (allS (P := fun x => n0 ≤ x) (Nat.le_trans Z0 Bx54) all0))) W67 ge_b12) K74 all0)
    have An_83 : Exa Z T74.heap t kTr := (E_t.keep Kp_76)
    obtain ⟨v79, T79, L79, X79, hQ79, st79⟩ := callI X75 hx hZ hown (wq hw (i := 135) rfl) (wq hw (i := 66) rfl) (wq hw (i := 67) rfl) (wq hw (i := 68) rfl) (wq hw (i := 69) rfl) (wq hw (i := 70) rfl) (wq hw (i := 71) rfl) (wq hw (i := 58) rfl) (wq hw (i := 20) rfl) (wq hw (i := 72) rfl) Al_81.exa (by decide) (c8 l Z a0 hw T74.heap n0 Zs_80 Al_81 (o1 := t) Z0 ge_b2 (by decide) Od_82 S_dd A_dd (Ins.of_exa An_83 (wq hw (i := 136) rfl)) Kp_76.1) e75 (W := 0) (by decide) (by decide) (by decide) (by decide) (g := (mkF m 67 #[vr o0, vr o1, vr o2, vi (0 : Int32), vi (0 : Int32), vr o5, vr b2, vi (2 : Int32), vr m74] [(.ref t), (.ref b2)])) rfl (by rw [hml]; rfl) (argsL := [(.ref t)]) (rest := []) rfl (lenOf pd_21 rfl) rfl (by show 2 * 0 + _ ≤ _; exact Nat.le_of_eq rfl) (hb hby d13_67)
    obtain ⟨rfl, Nq79, x79, K79, hx79, Bx79, Al79⟩ := hQ79
    have Ex_84 : Exa Z T74.heap o0 kLo := (((Ex_59.keep K54).wr W67).keep K74)
    have An_85 : AryQ Z T74.heap dd (0 : Int32) := (A_dd.ext Od_82.2)
    have Ar_86 : AryA Z T74.heap b12 (k + j) (upd (upd (fun _ => .null) 0 (.ref y24)) 1 (.ref y49)) := (Ar67.keep K74 nin0)
    have ne_o0_x79 : o0 ≠ x79 := hx79.elim (fun w => by rw [w.1]; exact ne_o0_x54) (fun w => Nat.ne_of_lt (Nat.lt_of_lt_of_le Ex_84.lt w))
    have ne_dd_x79 : dd ≠ x79 := Nat.ne_of_lt (Nat.lt_of_lt_of_le (Od_82.1 ▸ A_dd.lt) (Nat.le_trans Z0 Bx79))
    have ne_b2_x79 : b2 ≠ x79 := hx79.elim (fun w => by rw [w.1]; exact Al_81.2.2.2.2.1) (fun w => Nat.ne_of_lt (Nat.lt_of_lt_of_le Al_81.lt w))
    have ne_b12_x79 : b12 ≠ x79 := hx79.elim (fun w => by rw [w.1]; exact ne_b12_x54) (fun w => Nat.ne_of_lt (Nat.lt_of_lt_of_le Ar_86.lt w))
    have sz_x79 : h0.size ≤ x79 := Bx79
    have N79 := Fr.app N74 Nq79
    refine Fini.st st79 ?_
    show Fini _ _ _ _ _ _ _ T79 (mkF m 72 #[vr o0, vr o1, vr o2, vi (0 : Int32), vi (0 : Int32), vr o5, vr b2, vi (2 : Int32), vr m74] [(.int (1 : Int32))])
    refine Fini.st (fun _ k => XS.pop X79.here hx rfl (hb hby d13_72) rfl rfl k) ?_
    refine fAN X79 hx hby d13_73 rfl rfl rfl ?_
    have F_88 : Fld Z T79.heap o0 kLo "outranking" "[[I" (.ref b12) := (((F_63.other W67 (Or.inl ne_o0_b12)).keep K74 nin0).keep K79 (ninS ne_o0_b2 (ninS ne_o0_x79 nin0)))
    obtain ⟨T87, X87, e87, st87⟩ := getF X79 hx hZ hown (host := "") (Or.inl (wq hw (i := 109) rfl)) Via.refl rfl F_88 (g := (mkF m 74 #[vr o0, vr o1, vr o2, vi (0 : Int32), vi (0 : Int32), vr o5, vr b2, vi (2 : Int32), vr m74] [(.ref o0)])) rfl rfl (hb hby d13_74)
    refine Fini.st st87 ?_
    refine fI X87 hx hby d13_77 rfl rfl ?_
    refine fA X87 hx hby d13_79 rfl rfl rfl ?_
    have Kp_89 : Keep h0 T79.heap [o0] := (Keep.trans Kp_76 K79 (allS (P := fun x => x ∈ _ ∨ _ ≤ x) (Or.inr sz_b2) (allS (P := fun x => x ∈ _ ∨ _ ≤ x) (Or.inr sz_x79) all0)))
    have An_90 : Fld Z T79.heap m74 kMv "outrankedBy" "[I" (.ref y74) := (Fo74.keep Kp_89 (ninS ne_m74 nin0))
    refine Fini.st (getFR X87 hx hZ hown (wq hw (i := 137) rfl) e87 An_90 rfl rfl (hb hby d13_81)) ?_
    show Fini _ _ _ _ _ _ _ T87 (mkF m 84 #[vr o0, vr o1, vr o2, vi (0 : Int32), vi (0 : Int32), vr o5, vr b2, vi (2 : Int32), vr m74] [(.ref y74), (.int (2 : Int32)), (.ref b12)])
    have Ar_91 : AryA Z T79.heap b12 (k + j) (upd (upd (fun _ => .null) 0 (.ref y24)) 1 (.ref y49)) := (Ar_86.keep K79 (ninS (Ne.symm ne_b2_b12) (ninS ne_b12_x79 nin0)))
    have An_93 : Exa Z T79.heap y74 "[I" := (Ea74.keep Kp_89)
    obtain ⟨T92, h92, X92, e92, W92, Ar92, st92⟩ := Ar_91.st X87 hx hZ e87 ⟨by decide, own_ikj c73 hk0 hk hj0 hj⟩ (Or.inr ⟨_, rfl, (Ins.self An_93)⟩) (g := (mkF m 84 #[vr o0, vr o1, vr o2, vi (0 : Int32), vi (0 : Int32), vr o5, vr b2, vi (2 : Int32), vr m74] [(.ref y74), (.int (2 : Int32)), (.ref b12)])) rfl rfl (hb hby d13_84)
    refine Fini.st st92 ?_
    have N92 := Fr.snoc X92 N79 ge_b12
    have wv94 := WV.step wv69 ⟨y74, nn74, vv74, rfl, la74, Aa74, hn74, hm74⟩
    show Fini _ _ _ _ _ _ _ T92 (mkF m 85 #[vr o0, vr o1, vr o2, vi (0 : Int32), vi (0 : Int32), vr o5, vr b2, vi (2 : Int32), vr m74] [])
    refine Fini.st (fun _ k => XS.iinc X92.here hx rfl (hb hby d13_85) rfl (l' := #[vr o0, vr o1, vr o2, vi (0 : Int32), vi (0 : Int32), vr o5, vr b2, vi (3 : Int32), vr m74]) rfl k) ?_
    refine Fini.st (fun _ k => XS.goto X92.here hx rfl (pc0 := 88) (pc' := 36) rfl (hb hby d13_88) (by decide) (by decide) k) ?_
    show Fini _ _ _ _ _ _ _ T92 (mkF m 36 #[vr o0, vr o1, vr o2, vi (0 : Int32), vi (0 : Int32), vr o5, vr b2, vi (3 : Int32), vr m74] [])
    refine fI X92 hx hby d13_36 rfl rfl ?_
    refine fAN X92 hx hby d13_38 rfl rfl rfl ?_
    have Kp_96 : Keep h0 h92 [o0] := (Keep.wr Kp_89 W92 (Or.inr sz_b12))
    have An_97 : ALs Z n0 dd h92 o1 xa1 k u1 := (A_o1.keep Kp_96 (ninS n1 nin0) (ninS ne1 nin0))
    obtain ⟨T95, X95, e95, st95⟩ := pureI X92 hx hZ hown (wq hw (i := 106) rfl) (wq hw (i := 52) rfl) (wq hw (i := 53) rfl) (wq hw (i := 54) rfl) (wq hw (i := 55) rfl) (wq hw (i := 56) rfl) (wq hw (i := 57) rfl) (wq hw (i := 58) rfl) (wq hw (i := 20) rfl) (wq hw (i := 59) rfl) An_97.exa (by decide) (c7 l Z a0 hw h92 An_97) e92 (W := 1) (by decide) (by decide) (by decide) (by decide) (g := (mkF m 39 #[vr o0, vr o1, vr o2, vi (0 : Int32), vi (0 : Int32), vr o5, vr b2, vi (3 : Int32), vr m74] [(.ref o1), (.int (3 : Int32))])) rfl (by rw [hml]; rfl) (argsL := []) (rest := [(.int (3 : Int32))]) rfl (lenOf pd_7 rfl) rfl (by show 2 * 0 + _ ≤ _; exact Nat.le_of_eq rfl) (hb hby d13_39)
    refine Fini.st st95 ?_
    show Fini _ _ _ _ _ _ _ T95 (mkF m 44 #[vr o0, vr o1, vr o2, vi (0 : Int32), vi (0 : Int32), vr o5, vr b2, vi (3 : Int32), vr m74] [(.int k), (.int (3 : Int32))])
    refine Fini.st (fun _ k => XS.icmpYes X95.here hx rfl (pc0 := 44) (pc' := 91) rfl (hb hby d13_44) rfl (XT.ii_ge_t hk) (by decide) (by decide) k) ?_
    show Fini _ _ _ _ _ _ _ T95 (mkF m 91 #[vr o0, vr o1, vr o2, vi (0 : Int32), vi (0 : Int32), vr o5, vr b2, vi (3 : Int32), vr m74] [])
    have ek98 : k = (3 : Int32) := (own_k3 c73 hk)
    have Al_99 : ALs Z h0.size dd h92 b2 x79 (3 : Int32) (upd (upd (upd (fun _ => .null) 0 (.ref t)) 1 (.ref t)) 2 (.ref t)) := (Al79.other W92 ne_b2_b12 (Ne.symm ne_b12_x79))
    obtain ⟨e6, q_e6⟩ : ∃ q, q = x79 := ⟨_, rfl⟩
    have Al_e6_100 : ALs Z h0.size dd h92 b2 e6 (3 : Int32) (upd (upd (upd (fun _ => .null) 0 (.ref t)) 1 (.ref t)) 2 (.ref t)) := by rw [q_e6]; exact Al_99
    have ne_e6_o0 : e6 ≠ o0 := by rw [q_e6]; exact Ne.symm ne_o0_x79
    have ne_e6_dd : e6 ≠ dd := by rw [q_e6]; exact Ne.symm ne_dd_x79
    have ne_e6_b2 : e6 ≠ b2 := by rw [q_e6]; exact Ne.symm ne_b2_x79
    have ne_e6_b12 : e6 ≠ b12 := by rw [q_e6]; exact Ne.symm ne_b12_x79
    have fq98 : FT 3 (upd (upd (upd (fun _ => .null) 0 (.ref t)) 1 (.ref t)) 2 (.ref t)) t := (FT.step (FT.step (FT.step (FT.zero _ _))))
    have Ex_385 : Exa Z h92 o0 kLo := ((Ex_84.keep K79).wr W92)
    have F_386 : Fld Z h92 o0 kLo "outranking" "[[I" (.ref b12) := (F_88.other W92 (Or.inl ne_o0_b12))
    have F_387 : Fld Z h92 o0 kLo "transitions" "Ljava/util/List;" .null := (((((((((((((F_transitions.ext E2).keep K4 (ninS ne_o0_b2 nin0)).ext E12).other W17 (Or.inr (slot_ne (Or.inr (wq hw (i := 225) rfl)) (Or.inr (wq hw (i := 110) rfl)) (by decide) (t := (.object "java/util/List")) (t' := (.array (.array .int))) (by decide) (by decide)))).keep K24 nin0).keep K29 (ninS ne_o0_b2 (ninS ne_o0_x29 nin0))).other W42 (Or.inl ne_o0_b12)).keep K49 nin0).keep K54 (ninS ne_o0_b2 (ninS ne_o0_x54 nin0))).other W67 (Or.inl ne_o0_b12)).keep K74 nin0).keep K79 (ninS ne_o0_b2 (ninS ne_o0_x79 nin0))).other W92 (Or.inl ne_o0_b12))
    have F_388 : Fld Z h92 o0 kLo "ownTransitions" "Ljava/util/List;" .null := (((((((((((((F_ownTransitions.ext E2).keep K4 (ninS ne_o0_b2 nin0)).ext E12).other W17 (Or.inr (slot_ne (Or.inr (wq hw (i := 269) rfl)) (Or.inr (wq hw (i := 110) rfl)) (by decide) (t := (.object "java/util/List")) (t' := (.array (.array .int))) (by decide) (by decide)))).keep K24 nin0).keep K29 (ninS ne_o0_b2 (ninS ne_o0_x29 nin0))).other W42 (Or.inl ne_o0_b12)).keep K49 nin0).keep K54 (ninS ne_o0_b2 (ninS ne_o0_x54 nin0))).other W67 (Or.inl ne_o0_b12)).keep K74 nin0).keep K79 (ninS ne_o0_b2 (ninS ne_o0_x79 nin0))).other W92 (Or.inl ne_o0_b12))
    have F_389 : Fld Z h92 o0 kLo "line" "I" (.int (0 : Int32)) := (((((((((((((F_line.ext E2).keep K4 (ninS ne_o0_b2 nin0)).ext E12).other W17 (Or.inr (slot_ne (Or.inr (wq hw (i := 271) rfl)) (Or.inr (wq hw (i := 110) rfl)) (by decide) (t := .int) (t' := (.array (.array .int))) (by decide) (by decide)))).keep K24 nin0).keep K29 (ninS ne_o0_b2 (ninS ne_o0_x29 nin0))).other W42 (Or.inl ne_o0_b12)).keep K49 nin0).keep K54 (ninS ne_o0_b2 (ninS ne_o0_x54 nin0))).other W67 (Or.inl ne_o0_b12)).keep K74 nin0).keep K79 (ninS ne_o0_b2 (ninS ne_o0_x79 nin0))).other W92 (Or.inl ne_o0_b12))
    have F_390 : Fld Z h92 o0 kLo "end" "Z" (.int (0 : Int32)) := (((((((((((((F_end.ext E2).keep K4 (ninS ne_o0_b2 nin0)).ext E12).other W17 (Or.inr (slot_ne (Or.inr (wq hw (i := 273) rfl)) (Or.inr (wq hw (i := 110) rfl)) (by decide) (t := .boolean) (t' := (.array (.array .int))) (by decide) (by decide)))).keep K24 nin0).keep K29 (ninS ne_o0_b2 (ninS ne_o0_x29 nin0))).other W42 (Or.inl ne_o0_b12)).keep K49 nin0).keep K54 (ninS ne_o0_b2 (ninS ne_o0_x54 nin0))).other W67 (Or.inl ne_o0_b12)).keep K74 nin0).keep K79 (ninS ne_o0_b2 (ninS ne_o0_x79 nin0))).other W92 (Or.inl ne_o0_b12))
    have F_391 : Fld Z h92 o0 kLo "labels" "Ljava/util/List;" .null := (((((((((((((F_labels.ext E2).keep K4 (ninS ne_o0_b2 nin0)).ext E12).other W17 (Or.inr (slot_ne (Or.inr (wq hw (i := 279) rfl)) (Or.inr (wq hw (i := 110) rfl)) (by decide) (t := (.object "java/util/List")) (t' := (.array (.array .int))) (by decide) (by decide)))).keep K24 nin0).keep K29 (ninS ne_o0_b2 (ninS ne_o0_x29 nin0))).other W42 (Or.inl ne_o0_b12)).keep K49 nin0).keep K54 (ninS ne_o0_b2 (ninS ne_o0_x54 nin0))).other W67 (Or.inl ne_o0_b12)).keep K74 nin0).keep K79 (ninS ne_o0_b2 (ninS ne_o0_x79 nin0))).other W92 (Or.inl ne_o0_b12))
    have F_392 : Fld Z h92 o0 kLo "counting" "Ljava/util/List;" .null := (((((((((((((F_counting.ext E2).keep K4 (ninS ne_o0_b2 nin0)).ext E12).other W17 (Or.inr (slot_ne (Or.inr (wq hw (i := 281) rfl)) (Or.inr (wq hw (i := 110) rfl)) (by decide) (t := (.object "java/util/List")) (t' := (.array (.array .int))) (by decide) (by decide)))).keep K24 nin0).keep K29 (ninS ne_o0_b2 (ninS ne_o0_x29 nin0))).other W42 (Or.inl ne_o0_b12)).keep K49 nin0).keep K54 (ninS ne_o0_b2 (ninS ne_o0_x54 nin0))).other W67 (Or.inl ne_o0_b12)).keep K74 nin0).keep K79 (ninS ne_o0_b2 (ninS ne_o0_x79 nin0))).other W92 (Or.inl ne_o0_b12))
    have Od_393 : Old Z n0 h92 := (Old.wr (Old.keep Od_82 K79 (allS (P := fun x => n0 ≤ x) ge_b2 (allS (P := fun x => n0 ≤ x) (Nat.le_trans Z0 Bx79) all0))) W92 ge_b12)
    have Zs_394 : n0 ≤ h92.size := (Nat.le_trans (Nat.le_trans Zs_80 K79.1) (Nat.le_of_eq W92.size.symm))
    have Ex_395 : Exa Z h92 b12 "[[I" := ((((((((((Ea12.wr W17).keep K24).keep K29).wr W42).keep K49).keep K54).wr W67).keep K74).keep K79).wr W92)
    exact B91 T95 _ _ (X95.more (cells' := 5) (slots' := 38) (by decide) (by decide)) e95 b12 b2 e6 (3 : Int32) (vr m74) (upd (upd (upd (fun _ => .null) 0 (.ref t)) 1 (.ref t)) 2 (.ref t)) (upd (upd (upd (fun _ => .null) 0 (.ref y24)) 1 (.ref y49)) 2 (.ref y74)) (One.val rfl) N92 Ex_385 F_386 F_387 F_388 F_389 F_390 F_391 F_392 Od_393 Zs_394 Kp_96 Al_e6_100 Ar92 Ex_395 ne_o0_b2 ne_dd_b2 ne_o0_b12 ne_dd_b12 ne_b2_b12 ne_e6_o0 ne_e6_b2 ne_e6_b12 ge_b12 ge_b2 sz_b12 sz_b2 ek98.symm (by rw [ek98]; exact fq98) (by rw [ek98]; exact wv94)
   ·
    refine Fini.st (fun _ k => XS.icmpYes X70.here hx rfl (pc0 := 44) (pc' := 91) rfl (hb hby d13_44) rfl (XT.ii_ge_t c73) (by decide) (by decide) k) ?_
    show Fini _ _ _ _ _ _ _ T70 (mkF m 91 #[vr o0, vr o1, vr o2, vi (0 : Int32), vi (0 : Int32), vr o5, vr b2, vi (2 : Int32), vr m49] [])
    have ek101 : k = (2 : Int32) := (own_k2 c48 c73)
    have Al_102 : ALs Z h0.size dd h67 b2 x54 (2 : Int32) (upd (upd (fun _ => .null) 0 (.ref t)) 1 (.ref t)) := (Al54.other W67 ne_b2_b12 (Ne.symm ne_b12_x54))
    obtain ⟨e6, q_e6⟩ : ∃ q, q = x54 := ⟨_, rfl⟩
    have Al_e6_103 : ALs Z h0.size dd h67 b2 e6 (2 : Int32) (upd (upd (fun _ => .null) 0 (.ref t)) 1 (.ref t)) := by rw [q_e6]; exact Al_102
    have ne_e6_o0 : e6 ≠ o0 := by rw [q_e6]; exact Ne.symm ne_o0_x54
    have ne_e6_dd : e6 ≠ dd := by rw [q_e6]; exact Ne.symm ne_dd_x54
    have ne_e6_b2 : e6 ≠ b2 := by rw [q_e6]; exact Ne.symm ne_b2_x54
    have ne_e6_b12 : e6 ≠ b12 := by rw [q_e6]; exact Ne.symm ne_b12_x54
    have fq101 : FT 2 (upd (upd (fun _ => .null) 0 (.ref t)) 1 (.ref t)) t := (FT.step (FT.step (FT.zero _ _)))
    have Ex_396 : Exa Z h67 o0 kLo := ((Ex_59.keep K54).wr W67)
    have F_397 : Fld Z h67 o0 kLo "outranking" "[[I" (.ref b12) := (F_63.other W67 (Or.inl ne_o0_b12))
    have F_398 : Fld Z h67 o0 kLo "transitions" "Ljava/util/List;" .null := ((((((((((F_transitions.ext E2).keep K4 (ninS ne_o0_b2 nin0)).ext E12).other W17 (Or.inr (slot_ne (Or.inr (wq hw (i := 225) rfl)) (Or.inr (wq hw (i := 110) rfl)) (by decide) (t := (.object "java/util/List")) (t' := (.array (.array .int))) (by decide) (by decide)))).keep K24 nin0).keep K29 (ninS ne_o0_b2 (ninS ne_o0_x29 nin0))).other W42 (Or.inl ne_o0_b12)).keep K49 nin0).keep K54 (ninS ne_o0_b2 (ninS ne_o0_x54 nin0))).other W67 (Or.inl ne_o0_b12))
    have F_399 : Fld Z h67 o0 kLo "ownTransitions" "Ljava/util/List;" .null := ((((((((((F_ownTransitions.ext E2).keep K4 (ninS ne_o0_b2 nin0)).ext E12).other W17 (Or.inr (slot_ne (Or.inr (wq hw (i := 269) rfl)) (Or.inr (wq hw (i := 110) rfl)) (by decide) (t := (.object "java/util/List")) (t' := (.array (.array .int))) (by decide) (by decide)))).keep K24 nin0).keep K29 (ninS ne_o0_b2 (ninS ne_o0_x29 nin0))).other W42 (Or.inl ne_o0_b12)).keep K49 nin0).keep K54 (ninS ne_o0_b2 (ninS ne_o0_x54 nin0))).other W67 (Or.inl ne_o0_b12))
    have F_400 : Fld Z h67 o0 kLo "line" "I" (.int (0 : Int32)) := ((((((((((F_line.ext E2).keep K4 (ninS ne_o0_b2 nin0)).ext E12).other W17 (Or.inr (slot_ne (Or.inr (wq hw (i := 271) rfl)) (Or.inr (wq hw (i := 110) rfl)) (by decide) (t := .int) (t' := (.array (.array .int))) (by decide) (by decide)))).keep K24 nin0).keep K29 (ninS ne_o0_b2 (ninS ne_o0_x29 nin0))).other W42 (Or.inl ne_o0_b12)).keep K49 nin0).keep K54 (ninS ne_o0_b2 (ninS ne_o0_x54 nin0))).other W67 (Or.inl ne_o0_b12))
    have F_401 : Fld Z h67 o0 kLo "end" "Z" (.int (0 : Int32)) := ((((((((((F_end.ext E2).keep K4 (ninS ne_o0_b2 nin0)).ext E12).other W17 (Or.inr (slot_ne (Or.inr (wq hw (i := 273) rfl)) (Or.inr (wq hw (i := 110) rfl)) (by decide) (t := .boolean) (t' := (.array (.array .int))) (by decide) (by decide)))).keep K24 nin0).keep K29 (ninS ne_o0_b2 (ninS ne_o0_x29 nin0))).other W42 (Or.inl ne_o0_b12)).keep K49 nin0).keep K54 (ninS ne_o0_b2 (ninS ne_o0_x54 nin0))).other W67 (Or.inl ne_o0_b12))
    have F_402 : Fld Z h67 o0 kLo "labels" "Ljava/util/List;" .null := ((((((((((F_labels.ext E2).keep K4 (ninS ne_o0_b2 nin0)).ext E12).other W17 (Or.inr (slot_ne (Or.inr (wq hw (i := 279) rfl)) (Or.inr (wq hw (i := 110) rfl)) (by decide) (t := (.object "java/util/List")) (t' := (.array (.array .int))) (by decide) (by decide)))).keep K24 nin0).keep K29 (ninS ne_o0_b2 (ninS ne_o0_x29 nin0))).other W42 (Or.inl ne_o0_b12)).keep K49 nin0).keep K54 (ninS ne_o0_b2 (ninS ne_o0_x54 nin0))).other W67 (Or.inl ne_o0_b12))
    have F_403 : Fld Z h67 o0 kLo "counting" "Ljava/util/List;" .null := ((((((((((F_counting.ext E2).keep K4 (ninS ne_o0_b2 nin0)).ext E12).other W17 (Or.inr (slot_ne (Or.inr (wq hw (i := 281) rfl)) (Or.inr (wq hw (i := 110) rfl)) (by decide) (t := (.object "java/util/List")) (t' := (.array (.array .int))) (by decide) (by decide)))).keep K24 nin0).keep K29 (ninS ne_o0_b2 (ninS ne_o0_x29 nin0))).other W42 (Or.inl ne_o0_b12)).keep K49 nin0).keep K54 (ninS ne_o0_b2 (ninS ne_o0_x54 nin0))).other W67 (Or.inl ne_o0_b12))
    have Od_404 : Old Z n0 h67 := (Old.wr (Old.keep Od_57 K54 (allS (P := fun x => n0 ≤ x) ge_b2 (allS (P := fun x => n0 ≤ x) (Nat.le_trans Z0 Bx54) all0))) W67 ge_b12)
    have Zs_405 : n0 ≤ h67.size := (Nat.le_trans (Nat.le_trans Zs_55 K54.1) (Nat.le_of_eq W67.size.symm))
    have Ex_406 : Exa Z h67 b12 "[[I" := (((((((Ea12.wr W17).keep K24).keep K29).wr W42).keep K49).keep K54).wr W67)
    exact B91 T70 _ _ (X70.more (cells' := 5) (slots' := 38) (by decide) (by decide)) e70 b12 b2 e6 (2 : Int32) (vr m49) (upd (upd (fun _ => .null) 0 (.ref t)) 1 (.ref t)) (upd (upd (fun _ => .null) 0 (.ref y24)) 1 (.ref y49)) (One.val rfl) N67 Ex_396 F_397 F_398 F_399 F_400 F_401 F_402 F_403 Od_404 Zs_405 Kp_71 Al_e6_103 Ar67 Ex_406 ne_o0_b2 ne_dd_b2 ne_o0_b12 ne_dd_b12 ne_b2_b12 ne_e6_o0 ne_e6_b2 ne_e6_b12 ge_b12 ge_b2 sz_b12 sz_b2 ek101.symm (by rw [ek101]; exact fq101) (by rw [ek101]; exact wv69)
  ·
   refine Fini.st (fun _ k => XS.icmpYes X45.here hx rfl (pc0 := 44) (pc' := 91) rfl (hb hby d13_44) rfl (XT.ii_ge_t c48) (by decide) (by decide) k) ?_
   show Fini _ _ _ _ _ _ _ T45 (mkF m 91 #[vr o0, vr o1, vr o2, vi (0 : Int32), vi (0 : Int32), vr o5, vr b2, vi (1 : Int32), vr m24] [])
   have ek104 : k = (1 : Int32) := (own_k1 c23 c48)
   have Al_105 : ALs Z h0.size dd h42 b2 x29 (1 : Int32) (upd (fun _ => .null) 0 (.ref t)) := (Al29.other W42 ne_b2_b12 (Ne.symm ne_b12_x29))
   obtain ⟨e6, q_e6⟩ : ∃ q, q = x29 := ⟨_, rfl⟩
   have Al_e6_106 : ALs Z h0.size dd h42 b2 e6 (1 : Int32) (upd (fun _ => .null) 0 (.ref t)) := by rw [q_e6]; exact Al_105
   have ne_e6_o0 : e6 ≠ o0 := by rw [q_e6]; exact Ne.symm ne_o0_x29
   have ne_e6_dd : e6 ≠ dd := by rw [q_e6]; exact Ne.symm ne_dd_x29
   have ne_e6_b2 : e6 ≠ b2 := by rw [q_e6]; exact Ne.symm ne_b2_x29
   have ne_e6_b12 : e6 ≠ b12 := by rw [q_e6]; exact Ne.symm ne_b12_x29
   have fq104 : FT 1 (upd (fun _ => .null) 0 (.ref t)) t := (FT.step (FT.zero _ _))
   have Ex_407 : Exa Z h42 o0 kLo := ((Ex_34.keep K29).wr W42)
   have F_408 : Fld Z h42 o0 kLo "outranking" "[[I" (.ref b12) := (F_38.other W42 (Or.inl ne_o0_b12))
   have F_409 : Fld Z h42 o0 kLo "transitions" "Ljava/util/List;" .null := (((((((F_transitions.ext E2).keep K4 (ninS ne_o0_b2 nin0)).ext E12).other W17 (Or.inr (slot_ne (Or.inr (wq hw (i := 225) rfl)) (Or.inr (wq hw (i := 110) rfl)) (by decide) (t := (.object "java/util/List")) (t' := (.array (.array .int))) (by decide) (by decide)))).keep K24 nin0).keep K29 (ninS ne_o0_b2 (ninS ne_o0_x29 nin0))).other W42 (Or.inl ne_o0_b12))
   have F_410 : Fld Z h42 o0 kLo "ownTransitions" "Ljava/util/List;" .null := (((((((F_ownTransitions.ext E2).keep K4 (ninS ne_o0_b2 nin0)).ext E12).other W17 (Or.inr (slot_ne (Or.inr (wq hw (i := 269) rfl)) (Or.inr (wq hw (i := 110) rfl)) (by decide) (t := (.object "java/util/List")) (t' := (.array (.array .int))) (by decide) (by decide)))).keep K24 nin0).keep K29 (ninS ne_o0_b2 (ninS ne_o0_x29 nin0))).other W42 (Or.inl ne_o0_b12))
   have F_411 : Fld Z h42 o0 kLo "line" "I" (.int (0 : Int32)) := (((((((F_line.ext E2).keep K4 (ninS ne_o0_b2 nin0)).ext E12).other W17 (Or.inr (slot_ne (Or.inr (wq hw (i := 271) rfl)) (Or.inr (wq hw (i := 110) rfl)) (by decide) (t := .int) (t' := (.array (.array .int))) (by decide) (by decide)))).keep K24 nin0).keep K29 (ninS ne_o0_b2 (ninS ne_o0_x29 nin0))).other W42 (Or.inl ne_o0_b12))
   have F_412 : Fld Z h42 o0 kLo "end" "Z" (.int (0 : Int32)) := (((((((F_end.ext E2).keep K4 (ninS ne_o0_b2 nin0)).ext E12).other W17 (Or.inr (slot_ne (Or.inr (wq hw (i := 273) rfl)) (Or.inr (wq hw (i := 110) rfl)) (by decide) (t := .boolean) (t' := (.array (.array .int))) (by decide) (by decide)))).keep K24 nin0).keep K29 (ninS ne_o0_b2 (ninS ne_o0_x29 nin0))).other W42 (Or.inl ne_o0_b12))
   have F_413 : Fld Z h42 o0 kLo "labels" "Ljava/util/List;" .null := (((((((F_labels.ext E2).keep K4 (ninS ne_o0_b2 nin0)).ext E12).other W17 (Or.inr (slot_ne (Or.inr (wq hw (i := 279) rfl)) (Or.inr (wq hw (i := 110) rfl)) (by decide) (t := (.object "java/util/List")) (t' := (.array (.array .int))) (by decide) (by decide)))).keep K24 nin0).keep K29 (ninS ne_o0_b2 (ninS ne_o0_x29 nin0))).other W42 (Or.inl ne_o0_b12))
   have F_414 : Fld Z h42 o0 kLo "counting" "Ljava/util/List;" .null := (((((((F_counting.ext E2).keep K4 (ninS ne_o0_b2 nin0)).ext E12).other W17 (Or.inr (slot_ne (Or.inr (wq hw (i := 281) rfl)) (Or.inr (wq hw (i := 110) rfl)) (by decide) (t := (.object "java/util/List")) (t' := (.array (.array .int))) (by decide) (by decide)))).keep K24 nin0).keep K29 (ninS ne_o0_b2 (ninS ne_o0_x29 nin0))).other W42 (Or.inl ne_o0_b12))
   have Od_415 : Old Z n0 h42 := (Old.wr (Old.keep Od_32 K29 (allS (P := fun x => n0 ≤ x) ge_b2 (allS (P := fun x => n0 ≤ x) (Nat.le_trans Z0 Bx29) all0))) W42 ge_b12)
   have Zs_416 : n0 ≤ h42.size := (Nat.le_trans (Nat.le_trans Zs_30 K29.1) (Nat.le_of_eq W42.size.symm))
   have Ex_417 : Exa Z h42 b12 "[[I" := ((((Ea12.wr W17).keep K24).keep K29).wr W42)
   exact B91 T45 _ _ (X45.more (cells' := 5) (slots' := 38) (by decide) (by decide)) e45 b12 b2 e6 (1 : Int32) (vr m24) (upd (fun _ => .null) 0 (.ref t)) (upd (fun _ => .null) 0 (.ref y24)) (One.val rfl) N42 Ex_407 F_408 F_409 F_410 F_411 F_412 F_413 F_414 Od_415 Zs_416 Kp_46 Al_e6_106 Ar42 Ex_417 ne_o0_b2 ne_dd_b2 ne_o0_b12 ne_dd_b12 ne_b2_b12 ne_e6_o0 ne_e6_b2 ne_e6_b12 ge_b12 ge_b2 sz_b12 sz_b2 ek104.symm (by rw [ek104]; exact fq104) (by rw [ek104]; exact wv44)
 ·
  refine Fini.st (fun _ k => XS.icmpYes X20.here hx rfl (pc0 := 44) (pc' := 91) rfl (hb hby d13_44) rfl (XT.ii_ge_t c23) (by decide) (by decide) k) ?_
  show Fini _ _ _ _ _ _ _ T20 (mkF m 91 #[vr o0, vr o1, vr o2, vi (0 : Int32), vi (0 : Int32), vr o5, vr b2, vi (0 : Int32), su] [])
  have ek107 : k = (0 : Int32) := (own_k0 hk0 c23)
  have Al_108 : ALs Z h0.size dd h17 b2 dd (0 : Int32) (fun _ => .null) := ((Al4.ext E12).other W17 (Ne.symm ne_o0_b2) nd)
  obtain ⟨e6, q_e6⟩ : ∃ q, q = dd := ⟨_, rfl⟩
  have Al_e6_109 : ALs Z h0.size dd h17 b2 e6 (0 : Int32) (fun _ => .null) := by rw [q_e6]; exact Al_108
  have ne_e6_o0 : e6 ≠ o0 := by rw [q_e6]; exact nd
  have ne_e6_b2 : e6 ≠ b2 := by rw [q_e6]; exact ne_dd_b2
  have ne_e6_b12 : e6 ≠ b12 := by rw [q_e6]; exact ne_dd_b12
  have fq107 : FT 0 (fun _ => .null) t := (FT.zero _ _)
  have Ex_418 : Exa Z h17 o0 kLo := (Ex_19.wr W17)
  have F_419 : Fld Z h17 o0 kLo "transitions" "Ljava/util/List;" .null := ((((F_transitions.ext E2).keep K4 (ninS ne_o0_b2 nin0)).ext E12).other W17 (Or.inr (slot_ne (Or.inr (wq hw (i := 225) rfl)) (Or.inr (wq hw (i := 110) rfl)) (by decide) (t := (.object "java/util/List")) (t' := (.array (.array .int))) (by decide) (by decide))))
  have F_420 : Fld Z h17 o0 kLo "ownTransitions" "Ljava/util/List;" .null := ((((F_ownTransitions.ext E2).keep K4 (ninS ne_o0_b2 nin0)).ext E12).other W17 (Or.inr (slot_ne (Or.inr (wq hw (i := 269) rfl)) (Or.inr (wq hw (i := 110) rfl)) (by decide) (t := (.object "java/util/List")) (t' := (.array (.array .int))) (by decide) (by decide))))
  have F_421 : Fld Z h17 o0 kLo "line" "I" (.int (0 : Int32)) := ((((F_line.ext E2).keep K4 (ninS ne_o0_b2 nin0)).ext E12).other W17 (Or.inr (slot_ne (Or.inr (wq hw (i := 271) rfl)) (Or.inr (wq hw (i := 110) rfl)) (by decide) (t := .int) (t' := (.array (.array .int))) (by decide) (by decide))))
  have F_422 : Fld Z h17 o0 kLo "end" "Z" (.int (0 : Int32)) := ((((F_end.ext E2).keep K4 (ninS ne_o0_b2 nin0)).ext E12).other W17 (Or.inr (slot_ne (Or.inr (wq hw (i := 273) rfl)) (Or.inr (wq hw (i := 110) rfl)) (by decide) (t := .boolean) (t' := (.array (.array .int))) (by decide) (by decide))))
  have F_423 : Fld Z h17 o0 kLo "labels" "Ljava/util/List;" .null := ((((F_labels.ext E2).keep K4 (ninS ne_o0_b2 nin0)).ext E12).other W17 (Or.inr (slot_ne (Or.inr (wq hw (i := 279) rfl)) (Or.inr (wq hw (i := 110) rfl)) (by decide) (t := (.object "java/util/List")) (t' := (.array (.array .int))) (by decide) (by decide))))
  have F_424 : Fld Z h17 o0 kLo "counting" "Ljava/util/List;" .null := ((((F_counting.ext E2).keep K4 (ninS ne_o0_b2 nin0)).ext E12).other W17 (Or.inr (slot_ne (Or.inr (wq hw (i := 281) rfl)) (Or.inr (wq hw (i := 110) rfl)) (by decide) (t := (.object "java/util/List")) (t' := (.array (.array .int))) (by decide) (by decide))))
  have Od_425 : Old Z n0 h17 := (Old.wr (Old.ext Od_14 E12) W17 g0)
  have Zs_426 : n0 ≤ h17.size := (Nat.le_trans (Nat.le_trans Zs_16 E12.1) (Nat.le_of_eq W17.size.symm))
  have Ar_427 : AryA Z h17 b12 (k + j) (fun _ => .null) := (Ar12.other W17 (Ne.symm ne_o0_b12))
  have Ex_428 : Exa Z h17 b12 "[[I" := (Ea12.wr W17)
  exact B91 T20 _ _ (X20.more (cells' := 5) (slots' := 38) (by decide) (by decide)) e20 b12 b2 e6 (0 : Int32) su (fun _ => .null) (fun _ => .null) One.u N17 Ex_418 Fw17 F_419 F_420 F_421 F_422 F_423 F_424 Od_425 Zs_426 Kp_21 Al_e6_109 Ar_427 Ex_428 ne_o0_b2 ne_dd_b2 ne_o0_b12 ne_dd_b12 ne_b2_b12 ne_e6_o0 ne_e6_b2 ne_e6_b12 ge_b12 ge_b2 sz_b12 sz_b2 ek107.symm (by rw [ek107]; exact fq107) (by rw [ek107]; exact (WV.zero Z h0 Bm S (fun _ => .null)))
theorem pd_23 : parseMethodDescriptor "(Lcom/example/firm_handshake/firmhandshake/model/Action;ILcom/example/firm_handshake/firmhandshake/model/Transition$Continuation;I)V" = some ⟨[(.object "com/example/firm_handshake/firmhandshake/model/Action"), .int, (.object "com/example/firm_handshake/firmhandshake/model/Transition$Continuation"), .int], none⟩ := by decide +kernel
theorem pd_24 : parseMethodDescriptor "(I)Ljava/lang/Integer;" = some ⟨[.int], some (.object "java/lang/Integer")⟩ := by decide +kernel
theorem pd_25 : parseMethodDescriptor "(Lcom/example/firm_handshake/firmhandshake/model/Transition;Ljava/util/List;)V" = some ⟨[(.object "com/example/firm_handshake/firmhandshake/model/Transition"), (.object "java/util/List")], none⟩ := by decide +kernel
theorem pd_26 : parseMethodDescriptor "(Ljava/util/List;Ljava/util/List;IZLjava/util/List;)V" = some ⟨[(.object "java/util/List"), (.object "java/util/List"), .int, .boolean, (.object "java/util/List")], none⟩ := by decide +kernel
theorem pd_27 : parseMethodDescriptor "(II)Z" = some ⟨[.int, .int], some .boolean⟩ := by decide +kernel
theorem pn_17 : plainName "com/example/firm_handshake/firmhandshake/model/LocationRanksAbovePinLaw" = true := by first | (simp [plainName, overriddenIn]; done) | decide +kernel
theorem ef0 (m : MethodId) (x0 : Int32) (x1 : Int32) (x2 : Int32) : entryFrame m #[(.int x0), (.int x1), (.int x2)] maxLocals = mkF m 0 #[.val (.int x0), .val (.int x1), .val (.int x2), .unset, .unset, .unset, .unset, .unset, .unset, .unset, .unset, .unset, .unset, .unset, .unset, .unset, .unset, .unset, .unset] [] := by first | (simp [entryFrame, mkF, argsToLocals, Value.category, maxLocals]; done) | rfl
def g0_11 (p0 : Int32) : Int32 := (((p0.toUInt32 >>> ((2 : Int32) &&& 31).toUInt32).toInt32 &&& (3 : Int32)) % (3 : Int32))
def g0_74 (p0 : Int32) : Int32 := ((p0 &&& (3 : Int32)) + (g0_11 p0))
def g0_90 (p0 : Int32) (p2 : Int32) : Int32 := ((p2 &&& (2147483647 : Int32)) % (g0_74 p0))
def own_b16 (p0 : Int32) : Int32 := if (p0 &&& (16 : Int32)) = (0 : Int32) then (0 : Int32) else (1 : Int32)
def own_b32 (p0 : Int32) : Int32 := if (p0 &&& (32 : Int32)) = (0 : Int32) then (0 : Int32) else (1 : Int32)
def own_b64 (p0 : Int32) : Int32 := if (p0 &&& (64 : Int32)) = (0 : Int32) then (0 : Int32) else (1 : Int32)
def own_b128 (p0 : Int32) : Int32 := if (p0 &&& (128 : Int32)) = (0 : Int32) then (0 : Int32) else (1 : Int32)
def own_S (p0 : Int32) (i : Nat) (x : Int32) : Prop := (i = 1 ∧ ¬ own_b16 p0 = (0 : Int32) ∧ x = (0 : Int32)) ∨ (i = 2 ∧ ((¬ own_b32 p0 = (0 : Int32) ∧ x = (0 : Int32)) ∨ (¬ own_b64 p0 = (0 : Int32) ∧ x = (1 : Int32))))
section Own2
variable {Z : State} {bx0 bx1 : Addr} {p0 p1 p2 i k n N x : Int32} {u w : Nat → Value} {v : Nat → Int32} {P : Int32 → Prop}
def BXS (Z : State) (n : Int32) (u : Nat → Value) (S : Int32 → Prop) : Prop := ∃ v, BX Z n u v ∧ Mem n v S ∧ ¬ (2 : Int32) < n
theorem own_23 (h : ¬ (2 : Int32) < n) : ¬ (3 : Int32) < n := fun q => h (Int32.lt_trans (by decide) q)
theorem bxs_0 {S : Int32 → Prop} (h : ∀ x, ¬ S x) : BXS Z (0 : Int32) (fun _ => .null) S := ⟨fun _ => 0, fun i hi => absurd hi (Nat.not_lt_zero i), fun x => ⟨fun ⟨i, hi, _⟩ => absurd hi (Nat.not_lt_zero i), fun q => absurd q (h x)⟩, by decide⟩
theorem bxs_1 {S : Int32 → Prop} {b : Addr} {y : Int32} (E : Exa Z Z.heap b "java/lang/Integer") (F : Fld Z Z.heap b "java/lang/Integer" "value" "I" (.int y)) (h : ∀ x, S x ↔ x = y) : BXS Z (1 : Int32) (upd (fun _ => .null) 0 (.ref b)) S := by
 refine ⟨fun _ => y, fun i hi => ?_, fun x => ⟨fun ⟨i, _, e⟩ => (h x).mpr e.symm, fun q => ⟨0, by decide, ((h x).mp q).symm⟩⟩, by decide⟩
 have hi' : i < 1 := hi
 have e : i = 0 := by omega
 subst e
 exact ⟨b, rfl, E, F⟩
theorem bxs_2 {S : Int32 → Prop} {b b' : Addr} {y y' : Int32} (E : Exa Z Z.heap b "java/lang/Integer") (F : Fld Z Z.heap b "java/lang/Integer" "value" "I" (.int y)) (E' : Exa Z Z.heap b' "java/lang/Integer") (F' : Fld Z Z.heap b' "java/lang/Integer" "value" "I" (.int y')) (h : ∀ x, S x ↔ (x = y ∨ x = y')) : BXS Z (2 : Int32) (upd (upd (fun _ => .null) 0 (.ref b)) 1 (.ref b')) S := by
 refine ⟨fun i => if i = 0 then y else y', fun i hi => ?_, fun x => ⟨fun ⟨i, hi, e⟩ => (h x).mpr ?_, fun q => ?_⟩, by decide⟩
 ·
  have hi' : i < 2 := hi
  have e : i = 0 ∨ i = 1 := by omega
  rcases e with rfl | rfl
  ·
   exact ⟨b, rfl, E, F⟩
  ·
   exact ⟨b', rfl, E', F'⟩
 ·
  by_cases c : i = 0
  ·
   exact Or.inl (e.symm.trans (if_pos c))
  ·
   exact Or.inr (e.symm.trans (if_neg c))
 ·
  rcases (h x).mp q with r | r
  ·
   exact ⟨0, by decide, r.symm⟩
  ·
   exact ⟨1, by decide, r.symm⟩
theorem bxs12 (p0 : Int32) : BXS Z (0 : Int32) (fun _ => .null) (own_S p0 0) := bxs_0 fun x q => by rcases q with ⟨r, _⟩ | ⟨r, _⟩ <;> cases r
theorem bxs13z (E_bx0 : Exa Z Z.heap bx0 "java/lang/Integer") (F_bx0 : Fld Z Z.heap bx0 "java/lang/Integer" "value" "I" (.int 0)) (E_bx1 : Exa Z Z.heap bx1 "java/lang/Integer") (F_bx1 : Fld Z Z.heap bx1 "java/lang/Integer" "value" "I" (.int 1)) (c : (own_b16 p0) = (0 : Int32)) : BXS Z (0 : Int32) (fun _ => .null) (own_S p0 1) := bxs_0 fun x q => by
 rcases q with ⟨_, r, _⟩ | ⟨r, _⟩
 ·
  exact r c
 ·
  cases r
theorem bxs13o (E_bx0 : Exa Z Z.heap bx0 "java/lang/Integer") (F_bx0 : Fld Z Z.heap bx0 "java/lang/Integer" "value" "I" (.int 0)) (E_bx1 : Exa Z Z.heap bx1 "java/lang/Integer") (F_bx1 : Fld Z Z.heap bx1 "java/lang/Integer" "value" "I" (.int 1)) (c : ¬ (own_b16 p0) = (0 : Int32)) : BXS Z (1 : Int32) (upd (fun _ => .null) 0 (.ref bx0)) (own_S p0 1) := bxs_1 E_bx0 F_bx0 fun x => by
 unfold own_S; simp [c]
theorem bxs14_n (E_bx0 : Exa Z Z.heap bx0 "java/lang/Integer") (F_bx0 : Fld Z Z.heap bx0 "java/lang/Integer" "value" "I" (.int 0)) (E_bx1 : Exa Z Z.heap bx1 "java/lang/Integer") (F_bx1 : Fld Z Z.heap bx1 "java/lang/Integer" "value" "I" (.int 1)) (c6 : (own_b32 p0) = (0 : Int32)) (c7 : (own_b64 p0) = (0 : Int32)) : BXS Z (0 : Int32) (fun _ => .null) (own_S p0 2) := bxs_0 fun x => by
 unfold own_S; simp [c6, c7]
theorem bxs14_0 (E_bx0 : Exa Z Z.heap bx0 "java/lang/Integer") (F_bx0 : Fld Z Z.heap bx0 "java/lang/Integer" "value" "I" (.int 0)) (E_bx1 : Exa Z Z.heap bx1 "java/lang/Integer") (F_bx1 : Fld Z Z.heap bx1 "java/lang/Integer" "value" "I" (.int 1)) (c6 : ¬ (own_b32 p0) = (0 : Int32)) (c7 : (own_b64 p0) = (0 : Int32)) : BXS Z (1 : Int32) (upd (fun _ => .null) 0 (.ref bx0)) (own_S p0 2) := bxs_1 E_bx0 F_bx0 fun x => by
 unfold own_S; simp [c6, c7]
theorem bxs14_1 (E_bx0 : Exa Z Z.heap bx0 "java/lang/Integer") (F_bx0 : Fld Z Z.heap bx0 "java/lang/Integer" "value" "I" (.int 0)) (E_bx1 : Exa Z Z.heap bx1 "java/lang/Integer") (F_bx1 : Fld Z Z.heap bx1 "java/lang/Integer" "value" "I" (.int 1)) (c6 : (own_b32 p0) = (0 : Int32)) (c7 : ¬ (own_b64 p0) = (0 : Int32)) : BXS Z (1 : Int32) (upd (fun _ => .null) 0 (.ref bx1)) (own_S p0 2) := bxs_1 E_bx1 F_bx1 fun x => by
 unfold own_S; simp [c6, c7]
theorem bxs14_01 (E_bx0 : Exa Z Z.heap bx0 "java/lang/Integer") (F_bx0 : Fld Z Z.heap bx0 "java/lang/Integer" "value" "I" (.int 0)) (E_bx1 : Exa Z Z.heap bx1 "java/lang/Integer") (F_bx1 : Fld Z Z.heap bx1 "java/lang/Integer" "value" "I" (.int 1)) (c6 : ¬ (own_b32 p0) = (0 : Int32)) (c7 : ¬ (own_b64 p0) = (0 : Int32)) : BXS Z (2 : Int32) (upd (upd (fun _ => .null) 0 (.ref bx0)) 1 (.ref bx1)) (own_S p0 2) := bxs_2 E_bx0 F_bx0 E_bx1 F_bx1 fun x => by
 unfold own_S; simp [c6, c7]
theorem bxs14_10 (E_bx0 : Exa Z Z.heap bx0 "java/lang/Integer") (F_bx0 : Fld Z Z.heap bx0 "java/lang/Integer" "value" "I" (.int 0)) (E_bx1 : Exa Z Z.heap bx1 "java/lang/Integer") (F_bx1 : Fld Z Z.heap bx1 "java/lang/Integer" "value" "I" (.int 1)) (c6 : ¬ (own_b32 p0) = (0 : Int32)) (c7 : ¬ (own_b64 p0) = (0 : Int32)) : BXS Z (2 : Int32) (upd (upd (fun _ => .null) 0 (.ref bx1)) 1 (.ref bx0)) (own_S p0 2) := bxs_2 E_bx1 F_bx1 E_bx0 F_bx0 fun x => by
 unfold own_S; simp [c6, c7]; exact Or.comm
theorem own_g3 (p0 : Int32) : ¬ (p0 &&& (3 : Int32)) < (0 : Int32) ∧ ¬ (3 : Int32) < (p0 &&& (3 : Int32)) := by
 have m := c_mask p0 3 2 (by decide) (by decide)
 have t0 : (0 : Int32).toInt = 0 := rfl
 have t3 : (3 : Int32).toInt = 3 := rfl
 rw [Int32.lt_iff_toInt_lt, Int32.lt_iff_toInt_lt]
 omega
theorem own_g4 (p0 : Int32) : ¬ g0_11 p0 < (0 : Int32) ∧ ¬ (2 : Int32) < g0_11 p0 := by
 unfold g0_11
 have m := c_mask (p0.toUInt32 >>> ((2 : Int32) &&& 31).toUInt32).toInt32 3 2 (by decide) (by decide)
 have r := c_irem ((p0.toUInt32 >>> ((2 : Int32) &&& 31).toUInt32).toInt32 &&& 3) 3 3 rfl
 have t0 : (0 : Int32).toInt = 0 := rfl
 have t2 : (2 : Int32).toInt = 2 := rfl
 rw [Int32.lt_iff_toInt_lt, Int32.lt_iff_toInt_lt]
 omega
theorem own_i10 (p0 p2 : Int32) (nz : ¬ g0_74 p0 = (0 : Int32)) : ¬ g0_90 p0 p2 < 0 ∧ g0_90 p0 p2 < ((p0 &&& (3 : Int32)) + g0_11 p0) := by
 show ¬ g0_90 p0 p2 < 0 ∧ g0_90 p0 p2 < g0_74 p0
 have q := own_kj (own_g3 p0).1 (own_g3 p0).2 (own_g4 p0).1 (own_g4 p0).2
 have q1 : ¬ g0_74 p0 < 0 := q.1
 have m := c_mask p2 2147483647 31 (by decide) (by decide)
 have r := c_iremV (p2 &&& 2147483647) (g0_74 p0)
 have t0 : (0 : Int32).toInt = 0 := rfl
 rw [← Int32.toInt_inj] at nz
 unfold g0_90
 rw [Int32.lt_iff_toInt_lt] at q1
 rw [Int32.lt_iff_toInt_lt, Int32.lt_iff_toInt_lt]
 have a1 : 0 ≤ (p2 &&& 2147483647).toInt := by rw [m]; omega
 have a2 : 0 < (g0_74 p0).toInt := by omega
 have a3 := r.1 a1 a2
 omega
theorem own_nat {i j : Int32} (e : i = j) : i.toNatClampNeg = j.toNatClampNeg := by rw [e]
theorem own_s0 (c : i = (0 : Int32)) (s : own_S p0 i.toNatClampNeg x) : False := by
 subst c; rcases s with ⟨r, _⟩ | ⟨r, _⟩ <;> exact absurd r (by decide)
theorem own_s1 (c : i = (1 : Int32)) (c5 : ¬ own_b16 p0 = (0 : Int32)) (c0 : x = (0 : Int32)) : own_S p0 i.toNatClampNeg x := by
 subst c; exact Or.inl ⟨rfl, c5, c0⟩
theorem own_s1a (c : i = (1 : Int32)) (c5 : own_b16 p0 = (0 : Int32)) (s : own_S p0 i.toNatClampNeg x) : False := by
 subst c; rcases s with ⟨_, r, _⟩ | ⟨r, _⟩
 ·
  exact r c5
 ·
  exact absurd r (by decide)
theorem own_s1b (c : i = (1 : Int32)) (c0 : ¬ x = (0 : Int32)) (s : own_S p0 i.toNatClampNeg x) : False := by
 subst c; rcases s with ⟨_, _, r⟩ | ⟨r, _⟩
 ·
  exact c0 r
 ·
  exact absurd r (by decide)
theorem own_i2 (c1 : i < k) (c2 : ¬ i = (0 : Int32)) (c3 : ¬ i = (1 : Int32)) (hk : ¬ (3 : Int32) < k) (h0 : ¬ i < 0) : i = (2 : Int32) := by
 rw [Int32.lt_iff_toInt_lt] at *
 simp only [← Int32.toInt_inj] at *
 have t0 : (0 : Int32).toInt = 0 := rfl
 have t1 : (1 : Int32).toInt = 1 := rfl
 have t2 : (2 : Int32).toInt = 2 := rfl
 have t3 : (3 : Int32).toInt = 3 := rfl
 omega
theorem own_s2 (e : i = (2 : Int32)) (h : (¬ own_b32 p0 = (0 : Int32) ∧ x = (0 : Int32)) ∨ (¬ own_b64 p0 = (0 : Int32) ∧ x = (1 : Int32))) : own_S p0 i.toNatClampNeg x := by
 subst e; exact Or.inr ⟨rfl, h⟩
theorem own_s2n (e : i = (2 : Int32)) (h : ¬ ((¬ own_b32 p0 = (0 : Int32) ∧ x = (0 : Int32)) ∨ (¬ own_b64 p0 = (0 : Int32) ∧ x = (1 : Int32)))) (s : own_S p0 i.toNatClampNeg x) : False := by
 subst e; rcases s with ⟨r, _⟩ | ⟨_, r⟩
 ·
  exact absurd r (by decide)
 ·
  exact h r
theorem own_f36 (hn : ¬ (3 : Int32) < n) (M : Mem n v P) : (P p1 → f36 p1 p2 N w n v = 1) ∧ (¬ P p1 → f36 p1 p2 N w n v = 0) := by
 have m := M p1
 have nk : ∀ i : Nat, i < 3 → ((Int32.ofNat i) < n ↔ i < n.toNatClampNeg) := fun i hi => by
  rw [Int32.lt_iff_toInt_lt]
  have e : (Int32.ofNat i).toInt = i := len_toInt (by omega)
  rw [e]
  simp only [Int32.toNatClampNeg]; omega
 have l3 : n.toNatClampNeg ≤ 3 := own_cap3 hn
 have n0 : (0 : Int32) < n ↔ 0 < n.toNatClampNeg := nk 0 (by omega)
 have n1 : (1 : Int32) < n ↔ 1 < n.toNatClampNeg := nk 1 (by omega)
 have n2 : (2 : Int32) < n ↔ 2 < n.toNatClampNeg := nk 2 (by omega)
 have key : (∃ i, i < n.toNatClampNeg ∧ v i = p1) ↔ ((0 : Int32) < n ∧ v 0 = p1) ∨ ((1 : Int32) < n ∧ v 1 = p1) ∨ ((2 : Int32) < n ∧ v 2 = p1) := by
  rw [n0, n1, n2]
  constructor
  ·
   rintro ⟨i, h1, h2⟩
   have c : i = 0 ∨ i = 1 ∨ i = 2 := by omega
   rcases c with rfl | rfl | rfl
   ·
    exact Or.inl ⟨h1, h2⟩
   ·
    exact Or.inr (Or.inl ⟨h1, h2⟩)
   ·
    exact Or.inr (Or.inr ⟨h1, h2⟩)
  ·
   rintro (⟨h1, h2⟩ | ⟨h1, h2⟩ | ⟨h1, h2⟩)
   ·
    exact ⟨0, h1, h2⟩
   ·
    exact ⟨1, h1, h2⟩
   ·
    exact ⟨2, h1, h2⟩
 rw [← m, key]
 have d1 : (1 : Int32) < n → (0 : Int32) < n := fun q => by rw [n0]; rw [n1] at q; omega
 have d2 : (2 : Int32) < n → (1 : Int32) < n := fun q => by rw [n1]; rw [n2] at q; omega
 unfold f36
 by_cases a : (0 : Int32) < n <;> by_cases b : (1 : Int32) < n <;> by_cases c : (2 : Int32) < n <;> by_cases x : v 0 = p1 <;> by_cases y : v 1 = p1 <;> by_cases z : v 2 = p1 <;> simp [a, b, c, x, y, z] <;> first | exact a (d1 b) | exact b (d2 c) | skip
end Own2

set_option maxRecDepth 65536 in
set_option maxHeartbeats 40000000 in
theorem rm0 (l : Launch) (Z : State) (a0 : Array Value) (hw : ∀ d ∈ tables_1, d.before a0 Z = true) (ws : List Jvm.Cond) (p0 : Int32) (p1 : Int32) (p2 : Int32) (dd : Addr) (el : Addr) (em : Addr) (ca : Addr) (bx0 : Addr) (bx1 : Addr) (mr : Addr) (h0 : Heap) (n0 : Nat) (Z0 : n0 ≤ h0.size) (D0 : Old Z n0 h0) (S_dd : Sta Z Z.heap "java/util/ArrayList" "DEFAULTCAPACITY_EMPTY_ELEMENTDATA" "[Ljava/lang/Object;" (.ref dd)) (A_dd : AryQ Z Z.heap dd (0 : Int32)) (S_el : Sta Z Z.heap "java/util/ImmutableCollections" "EMPTY_LIST" "Ljava/util/ImmutableCollections$ListN;" (.ref el)) (S_em : Sta Z Z.heap "java/util/ImmutableCollections" "EMPTY" "Ljava/lang/Object;" (.ref em)) (S_sa : Sta Z Z.heap "java/util/ImmutableCollections$SubList" "$assertionsDisabled" "Z" (.int (1 : Int32))) (S_hi : Sta Z Z.heap "java/lang/Integer$IntegerCache" "high" "I" (.int (127 : Int32))) (S_ca : Sta Z Z.heap "java/lang/Integer$IntegerCache" "cache" "[Ljava/lang/Integer;" (.ref ca)) (E_bx0 : Exa Z Z.heap bx0 "java/lang/Integer") (E_bx1 : Exa Z Z.heap bx1 "java/lang/Integer") (E_em : Exa Z Z.heap em "java/lang/Object") (hC0 : BoxAt Z ca (128 : Int32) bx0) (hC1 : BoxAt Z ca (129 : Int32) bx1) (F_bx0 : Fld Z Z.heap bx0 "java/lang/Integer" "value" "I" (.int 0)) (F_bx1 : Fld Z Z.heap bx1 "java/lang/Integer" "value" "I" (.int 1)) (M_mr : Mir Z "[Ljava/lang/Object;" mr) :
  Cmet l Z x code maxLocals ret ws room_1 #[(.int p0), (.int p1), (.int p2)] h0 (fun v h' L => v = some (.int 1) ∧ Fr n0 L) := by
 refine MetFree.of_bodySF (plainFor_of_name pn_17) hisR ?_
 intro p e s m args below meth c s₁ Bd hml0 hP hK
 obtain ⟨rfl, hZ, hh⟩ := hP
 have hx := Bd.exec
 have hlk : meth.locks = false := BodyLoose.notSynchronized Bd
 have hby := Bd.bytes
 have hml : c.maxLocals = 19 := hml0
 have hown : s.vm.findClass "com/example/firm_handshake/firmhandshake/model/LocationRanksAbovePinLaw" = some m.cls := findClass_of_methodNamed Bd.named
 have hnm := (name_of_methodNamed Bd.named Bd.method).1
 have X0 : Stand p l e room_1 s m #[(.int p0), (.int p1), (.int p2)] below meth c s₁ [] 0 0 := Stand.of_body Bd
 have e0 : s₁.heap = h0 := by rw [← hh, Bd.state]; rfl
 have N0 := Fr.nil n0
 have B347 : ∀ (T_347 : State) (h_347 : Heap) (locs : List Loc) (X_347 : Stand p l e room_1 s m #[(.int p0), (.int p1), (.int p2)] below meth c T_347 locs 20 111) (e_347 : T_347.heap = h_347) (h_306 : Heap) (b139 : Addr) (b14 : Addr) (b19 : Addr) (b27 : Addr) (b284 : Addr) (b35 : Addr) (e15 : Addr) (e16 : Addr) (z347_f_L_b284 : Nat → Value) (z347_n_L_b284 : Int32) (z306_f_L_b139 : Nat → Value) (z306_n_L_b139 : Int32) (N_347 : Fr n0 locs) (H347_D : Old Z n0 h_347) (H347_Z : n0 ≤ h_347.size) (H347_E_b14 : Exa Z h_347 b14 kTr) (H347_L_b139 : ALs Z n0 dd h_347 b139 e15 z306_n_L_b139 z306_f_L_b139) (H347_K : Keep h_306 h_347 []) (H347_L_b284 : ALs Z n0 dd h_347 b284 e16 z347_n_L_b284 z347_f_L_b284) (ne347_dd_b14 : dd ≠ b14) (ne347_dd_b139 : dd ≠ b139) (ne347_b14_b139 : b14 ≠ b139) (ne347_e15_b14 : e15 ≠ b14) (ne347_e15_b139 : e15 ≠ b139) (ne347_dd_b284 : dd ≠ b284) (ne347_b14_b284 : b14 ≠ b284) (ne347_b139_b284 : b139 ≠ b284) (ne347_e15_b284 : e15 ≠ b284) (ne347_e16_b14 : e16 ≠ b14) (ne347_e16_b139 : e16 ≠ b139) (ne347_e16_b284 : e16 ≠ b284) (ge347_b139 : n0 ≤ b139) (ge347_b14 : n0 ≤ b14) (ge347_b284 : n0 ≤ b284) (sz347_b284 : h_306.size ≤ b284) (cy347_nz : ¬ (g0_74 p0) = (0 : Int32)) (cy347_te : b14 ≠ em) (cy347_mv : MV Z h_306 h_306.size b14 z306_n_L_b139 z306_f_L_b139 (own_S p0)) (cy347_k15 : z306_n_L_b139 = (p0 &&& (3 : Int32))) (cy347_j16 : z347_n_L_b284 = (g0_11 p0)) (cy347_ft16 : FT (z347_n_L_b284).toNatClampNeg z347_f_L_b284 b14), Fini p e below s (fun v h' L => v = some (.int 1) ∧ Fr n0 L) (Room.cells room_1) (Room.slots room_1) T_347 (mkF m 347 #[vi p0, vi p1, vi p2, vi (p0 &&& (3 : Int32)), vi (g0_11 p0), vi (own_b16 p0), vi (own_b32 p0), vi (own_b64 p0), vi (own_b128 p0), vi (g0_74 p0), vi (g0_90 p0 p2), vr b14, vr b19, vr b27, vr b35, vr b139, vr b284, su, su] []) := by
  intro T_347 h_347 locs  X_347 e_347  h_306 b139 b14 b19 b27 b284 b35 e15 e16 z347_f_L_b284 z347_n_L_b284 z306_f_L_b139 z306_n_L_b139 N_347 H347_D H347_Z H347_E_b14 H347_L_b139 H347_K H347_L_b284 ne347_dd_b14 ne347_dd_b139 ne347_b14_b139 ne347_e15_b14 ne347_e15_b139 ne347_dd_b284 ne347_b14_b284 ne347_b139_b284 ne347_e15_b284 ne347_e16_b14 ne347_e16_b139 ne347_e16_b284 ge347_b139 ge347_b14 ge347_b284 sz347_b284 cy347_nz cy347_te cy347_mv cy347_k15 cy347_j16 cy347_ft16
  obtain ⟨T311, h311, X311, e311, E311, A311, D311, -, st311⟩ := newO X_347 hx hZ hown (wq hw (i := 97) rfl) (wq hw (i := 98) rfl) (wq hw (i := 99) rfl) e_347 (g := (mkF m 347 #[vi p0, vi p1, vi p2, vi (p0 &&& (3 : Int32)), vi (g0_11 p0), vi (own_b16 p0), vi (own_b32 p0), vi (own_b64 p0), vi (own_b128 p0), vi (g0_74 p0), vi (g0_90 p0 p2), vr b14, vr b19, vr b27, vr b35, vr b139, vr b284, su, su] [])) rfl (hb hby at_347) (by decide) (by decide)
  obtain ⟨b311, g311⟩ : ∃ z, z = h_347.size := ⟨_, rfl⟩
  rw [← g311] at A311 D311 st311
  have An_312 : AryQ Z h_347 dd (0 : Int32) := (A_dd.ext H347_D.2)
  have ne_dd_b311 : dd ≠ b311 := Nat.ne_of_lt (Nat.lt_of_lt_of_le An_312.lt (Nat.le_of_eq g311.symm))
  have ne_b14_b311 : b14 ≠ b311 := Nat.ne_of_lt (Nat.lt_of_lt_of_le H347_E_b14.lt (Nat.le_of_eq g311.symm))
  have ne_b139_b311 : b139 ≠ b311 := Nat.ne_of_lt (Nat.lt_of_lt_of_le H347_L_b139.lt (Nat.le_of_eq g311.symm))
  have ne_e15_b311 : e15 ≠ b311 := Nat.ne_of_lt (Nat.lt_of_lt_of_le H347_L_b139.lte (Nat.le_of_eq g311.symm))
  have ne_b284_b311 : b284 ≠ b311 := Nat.ne_of_lt (Nat.lt_of_lt_of_le H347_L_b284.lt (Nat.le_of_eq g311.symm))
  have ne_e16_b311 : e16 ≠ b311 := Nat.ne_of_lt (Nat.lt_of_lt_of_le H347_L_b284.lte (Nat.le_of_eq g311.symm))
  have ge_b311 : n0 ≤ b311 := Nat.le_trans H347_Z (Nat.le_of_eq g311.symm)
  have sz_b311 : h_306.size ≤ b311 := Nat.le_trans H347_K.1 (Nat.le_of_eq g311.symm)
  have Fn311_outranking : Fld Z h311 b311 kLo "outranking" "[[I" .null := D311 (Or.inr (wq hw (i := 110) rfl)) (ty := (.array (.array .int))) (by decide)
  have Fn311_transitions : Fld Z h311 b311 kLo "transitions" "Ljava/util/List;" .null := D311 (Or.inr (wq hw (i := 225) rfl)) (ty := (.object "java/util/List")) (by decide)
  have Fn311_ownTransitions : Fld Z h311 b311 kLo "ownTransitions" "Ljava/util/List;" .null := D311 (Or.inr (wq hw (i := 269) rfl)) (ty := (.object "java/util/List")) (by decide)
  have Fn311_line : Fld Z h311 b311 kLo "line" "I" (.int (0 : Int32)) := D311 (Or.inr (wq hw (i := 271) rfl)) (ty := .int) (by decide)
  have Fn311_end : Fld Z h311 b311 kLo "end" "Z" (.int (0 : Int32)) := D311 (Or.inr (wq hw (i := 273) rfl)) (ty := .boolean) (by decide)
  have Fn311_labels : Fld Z h311 b311 kLo "labels" "Ljava/util/List;" .null := D311 (Or.inr (wq hw (i := 279) rfl)) (ty := (.object "java/util/List")) (by decide)
  have Fn311_counting : Fld Z h311 b311 kLo "counting" "Ljava/util/List;" .null := D311 (Or.inr (wq hw (i := 281) rfl)) (ty := (.object "java/util/List")) (by decide)
  refine Fini.st st311 ?_
  show Fini _ _ _ _ _ _ _ T311 (mkF m 350 #[vi p0, vi p1, vi p2, vi (p0 &&& (3 : Int32)), vi (g0_11 p0), vi (own_b16 p0), vi (own_b32 p0), vi (own_b64 p0), vi (own_b128 p0), vi (g0_74 p0), vi (g0_90 p0 p2), vr b14, vr b19, vr b27, vr b35, vr b139, vr b284, su, su] [(.ref b311)])
  refine Fini.st (fun _ k => XS.dup X311.here hx rfl (hb hby at_350) rfl rfl k) ?_
  refine fA X311 hx hby at_351 rfl rfl rfl ?_
  refine fA X311 hx hby at_353 rfl rfl rfl ?_
  refine fC X311 hx hby at_355 rfl ?_
  refine fC X311 hx hby at_356 rfl ?_
  obtain ⟨T313, h313, X313, e313, E313, A313, D313, -, st313⟩ := newO X311 hx hZ hown (wq hw (i := 18) rfl) (wq hw (i := 19) rfl) (wq hw (i := 20) rfl) e311 (g := (mkF m 357 #[vi p0, vi p1, vi p2, vi (p0 &&& (3 : Int32)), vi (g0_11 p0), vi (own_b16 p0), vi (own_b32 p0), vi (own_b64 p0), vi (own_b128 p0), vi (g0_74 p0), vi (g0_90 p0 p2), vr b14, vr b19, vr b27, vr b35, vr b139, vr b284, su, su] [(.int (0 : Int32)), (.int (0 : Int32)), (.ref b284), (.ref b139), (.ref b311), (.ref b311)])) rfl (hb hby at_357) (by decide) (by decide)
  obtain ⟨b313, g313⟩ : ∃ z, z = h311.size := ⟨_, rfl⟩
  rw [← g313] at A313 D313 st313
  have Od_314 : Old Z n0 h311 := (Old.ext H347_D E311)
  have An_315 : AryQ Z h311 dd (0 : Int32) := (A_dd.ext Od_314.2)
  have ne_dd_b313 : dd ≠ b313 := Nat.ne_of_lt (Nat.lt_of_lt_of_le An_315.lt (Nat.le_of_eq g313.symm))
  have Ex_316 : Exa Z h311 b14 kTr := (H347_E_b14.ext E311)
  have ne_b14_b313 : b14 ≠ b313 := Nat.ne_of_lt (Nat.lt_of_lt_of_le Ex_316.lt (Nat.le_of_eq g313.symm))
  have Al_317 : ALs Z n0 dd h311 b139 e15 z306_n_L_b139 z306_f_L_b139 := (H347_L_b139.ext E311)
  have ne_b139_b313 : b139 ≠ b313 := Nat.ne_of_lt (Nat.lt_of_lt_of_le Al_317.lt (Nat.le_of_eq g313.symm))
  have ne_e15_b313 : e15 ≠ b313 := Nat.ne_of_lt (Nat.lt_of_lt_of_le Al_317.lte (Nat.le_of_eq g313.symm))
  have Al_318 : ALs Z n0 dd h311 b284 e16 z347_n_L_b284 z347_f_L_b284 := (H347_L_b284.ext E311)
  have ne_b284_b313 : b284 ≠ b313 := Nat.ne_of_lt (Nat.lt_of_lt_of_le Al_318.lt (Nat.le_of_eq g313.symm))
  have ne_e16_b313 : e16 ≠ b313 := Nat.ne_of_lt (Nat.lt_of_lt_of_le Al_318.lte (Nat.le_of_eq g313.symm))
  have ne_b311_b313 : b311 ≠ b313 := Nat.ne_of_lt (Nat.lt_of_lt_of_le A311.lt (Nat.le_of_eq g313.symm))
  have Zs_319 : n0 ≤ h311.size := (Nat.le_trans H347_Z E311.1)
  have ge_b313 : n0 ≤ b313 := Nat.le_trans Zs_319 (Nat.le_of_eq g313.symm)
  have Kp_320 : Keep h_306 h311 [] := (Keep.ext H347_K E311)
  have sz_b313 : h_306.size ≤ b313 := Nat.le_trans Kp_320.1 (Nat.le_of_eq g313.symm)
  have Fn313_modCount : Fld Z h313 b313 "java/util/AbstractList" "modCount" "I" (.int (0 : Int32)) := D313 (Or.inl (wq hw (i := 38) rfl)) (ty := .int) (by decide)
  have Fn313_elementData : Fld Z h313 b313 "java/util/ArrayList" "elementData" "[Ljava/lang/Object;" .null := D313 (Or.inl (wq hw (i := 41) rfl)) (ty := (.array (.object "java/lang/Object"))) (by decide)
  have Fn313_size : Fld Z h313 b313 "java/util/ArrayList" "size" "I" (.int (0 : Int32)) := D313 (Or.inl (wq hw (i := 61) rfl)) (ty := .int) (by decide)
  refine Fini.st st313 ?_
  show Fini _ _ _ _ _ _ _ T313 (mkF m 360 #[vi p0, vi p1, vi p2, vi (p0 &&& (3 : Int32)), vi (g0_11 p0), vi (own_b16 p0), vi (own_b32 p0), vi (own_b64 p0), vi (own_b128 p0), vi (g0_74 p0), vi (g0_90 p0 p2), vr b14, vr b19, vr b27, vr b35, vr b139, vr b284, su, su] [(.ref b313), (.int (0 : Int32)), (.int (0 : Int32)), (.ref b284), (.ref b139), (.ref b311), (.ref b311)])
  refine Fini.st (fun _ k => XS.dup X313.here hx rfl (hb hby at_360) rfl rfl k) ?_
  have Zs_322 : n0 ≤ h313.size := (Nat.le_trans Zs_319 E313.1)
  have Od_323 : Old Z n0 h313 := (Old.ext Od_314 E313)
  obtain ⟨v321, T321, L321, X321, hQ321, st321⟩ := callNew X313 hx hZ hown rfl (wq hw (i := 21) rfl) (wq hw (i := 22) rfl) (wq hw (i := 20) rfl) (wq hw (i := 23) rfl) (by decide) (rm3 l Z a0 hw [] b313 dd n0 (0 : Int32) h313 n0 Zs_322 A313 Fn313_modCount Fn313_size Fn313_elementData Od_323 S_dd A_dd ge_b313) e313 (W := 7) (by decide) (by decide) (by decide) (by decide) (g := (mkF m 361 #[vi p0, vi p1, vi p2, vi (p0 &&& (3 : Int32)), vi (g0_11 p0), vi (own_b16 p0), vi (own_b32 p0), vi (own_b64 p0), vi (own_b128 p0), vi (g0_74 p0), vi (g0_90 p0 p2), vr b14, vr b19, vr b27, vr b35, vr b139, vr b284, su, su] [(.ref b313), (.ref b313), (.int (0 : Int32)), (.int (0 : Int32)), (.ref b284), (.ref b139), (.ref b311), (.ref b311)])) rfl (by rw [hml]; rfl) (argsL := []) (rest := [(.ref b313), (.int (0 : Int32)), (.int (0 : Int32)), (.ref b284), (.ref b139), (.ref b311), (.ref b311)]) rfl (lenOf pd_0 rfl) rfl (by show 2 * 0 + _ ≤ _; exact Nat.le_of_eq rfl) (hb hby at_361)
  obtain ⟨rfl, Nq321, K321, Al321⟩ := hQ321
  have N321 := Fr.app N_347 Nq321
  refine Fini.st st321 ?_
  show Fini _ _ _ _ _ _ _ T321 (mkF m 364 #[vi p0, vi p1, vi p2, vi (p0 &&& (3 : Int32)), vi (g0_11 p0), vi (own_b16 p0), vi (own_b32 p0), vi (own_b64 p0), vi (own_b128 p0), vi (g0_74 p0), vi (g0_90 p0 p2), vr b14, vr b19, vr b27, vr b35, vr b139, vr b284, su, su] [(.ref b313), (.int (0 : Int32)), (.int (0 : Int32)), (.ref b284), (.ref b139), (.ref b311), (.ref b311)])
  have Zs_325 : n0 ≤ T321.heap.size := (Nat.le_trans Zs_322 K321.1)
  have Ex_326 : Exa Z T321.heap b311 kLo := ((A311.ext E313).keep K321)
  have F_327 : Fld Z T321.heap b311 kLo "outranking" "[[I" .null := ((Fn311_outranking.ext E313).keep K321 (ninS ne_b311_b313 nin0))
  have F_328 : Fld Z T321.heap b311 kLo "transitions" "Ljava/util/List;" .null := ((Fn311_transitions.ext E313).keep K321 (ninS ne_b311_b313 nin0))
  have F_329 : Fld Z T321.heap b311 kLo "ownTransitions" "Ljava/util/List;" .null := ((Fn311_ownTransitions.ext E313).keep K321 (ninS ne_b311_b313 nin0))
  have F_330 : Fld Z T321.heap b311 kLo "line" "I" (.int (0 : Int32)) := ((Fn311_line.ext E313).keep K321 (ninS ne_b311_b313 nin0))
  have F_331 : Fld Z T321.heap b311 kLo "end" "Z" (.int (0 : Int32)) := ((Fn311_end.ext E313).keep K321 (ninS ne_b311_b313 nin0))
  have F_332 : Fld Z T321.heap b311 kLo "labels" "Ljava/util/List;" .null := ((Fn311_labels.ext E313).keep K321 (ninS ne_b311_b313 nin0))
  have F_333 : Fld Z T321.heap b311 kLo "counting" "Ljava/util/List;" .null := ((Fn311_counting.ext E313).keep K321 (ninS ne_b311_b313 nin0))
  have Al_334 : ALs Z n0 dd T321.heap b139 e15 z306_n_L_b139 z306_f_L_b139 := ((Al_317.ext E313).keep K321 (ninS ne_b139_b313 nin0) (ninS ne_e15_b313 nin0))
  have Al_335 : ALs Z n0 dd T321.heap b284 e16 z347_n_L_b284 z347_f_L_b284 := ((Al_318.ext E313).keep K321 (ninS ne_b284_b313 nin0) (ninS ne_e16_b313 nin0))
  have Ex_336 : Exa Z T321.heap b14 kTr := ((Ex_316.ext E313).keep K321)
  have Od_337 : Old Z n0 T321.heap := (Old.keep Od_323 K321 (allS (P := fun x => n0 ≤ x) ge_b313 all0))
  have Kp_338 : Keep h_306 T321.heap [] := (Keep.trans (Keep.ext Kp_320 E313) K321 (allS (P := fun x => x ∈ _ ∨ _ ≤ x) (Or.inr sz_b313) all0))
  obtain ⟨v324, T324, L324, X324, hQ324, st324⟩ := callNew X321 hx hZ hown rfl (wq hw (i := 100) rfl) (wq hw (i := 101) rfl) (wq hw (i := 99) rfl) (wq hw (i := 102) rfl) (by decide) (rm13 l Z a0 hw [] b311 b139 b284 b313 dd e15 e16 b14 em el mr z306_n_L_b139 z347_n_L_b284 z306_f_L_b139 z347_f_L_b284 h_306.size (own_S p0) T321.heap n0 Zs_325 Ex_326 F_327 F_328 F_329 F_330 F_331 F_332 F_333 Al_334 Al_335 Al321 Ex_336 Od_337 S_dd A_dd S_el S_em S_sa ge_b311 ne_b139_b311 ne_e15_b311 ne_b284_b311 ne_e16_b311 (Ne.symm ne_b311_b313) ne_dd_b311 (MV.keep cy347_mv Kp_338 all0) sz_b311 cy347_ft16 (by rw [cy347_k15]; exact (own_g3 p0).1) (by rw [cy347_k15]; exact (own_g3 p0).2) (by rw [cy347_j16]; exact (own_g4 p0).1) (by rw [cy347_j16]; exact (own_g4 p0).2) (by rw [cy347_k15, cy347_j16]; exact cy347_nz) cy347_te M_mr) rfl (W := 1) (by decide) (by decide) (by decide) (by decide) (g := (mkF m 364 #[vi p0, vi p1, vi p2, vi (p0 &&& (3 : Int32)), vi (g0_11 p0), vi (own_b16 p0), vi (own_b32 p0), vi (own_b64 p0), vi (own_b128 p0), vi (g0_74 p0), vi (g0_90 p0 p2), vr b14, vr b19, vr b27, vr b35, vr b139, vr b284, su, su] [(.ref b313), (.int (0 : Int32)), (.int (0 : Int32)), (.ref b284), (.ref b139), (.ref b311), (.ref b311)])) rfl (by rw [hml]; rfl) (argsL := [(.ref b139), (.ref b284), (.int (0 : Int32)), (.int (0 : Int32)), (.ref b313)]) (rest := [(.ref b311)]) rfl (lenOf pd_26 rfl) rfl (by show 2 * 0 + _ ≤ _; exact Nat.le_of_eq rfl) (hb hby at_364)
  obtain ⟨rfl, Nq324, K324, ob324, w324, Fo324, Ao324, ho324⟩ := hQ324
  have N324 := Fr.app N321 Nq324
  refine Fini.st st324 ?_
  show Fini _ _ _ _ _ _ _ T324 (mkF m 367 #[vi p0, vi p1, vi p2, vi (p0 &&& (3 : Int32)), vi (g0_11 p0), vi (own_b16 p0), vi (own_b32 p0), vi (own_b64 p0), vi (own_b128 p0), vi (g0_74 p0), vi (g0_90 p0 p2), vr b14, vr b19, vr b27, vr b35, vr b139, vr b284, su, su] [(.ref b311)])
  refine Fini.st (fun _ k => XS.astore X324.here hx rfl (hb hby at_367) rfl rfl (l' := #[vi p0, vi p1, vi p2, vi (p0 &&& (3 : Int32)), vi (g0_11 p0), vi (own_b16 p0), vi (own_b32 p0), vi (own_b64 p0), vi (own_b128 p0), vi (g0_74 p0), vi (g0_90 p0 p2), vr b14, vr b19, vr b27, vr b35, vr b139, vr b284, vr b311, su]) rfl k) ?_
  show Fini _ _ _ _ _ _ _ T324 (mkF m 369 #[vi p0, vi p1, vi p2, vi (p0 &&& (3 : Int32)), vi (g0_11 p0), vi (own_b16 p0), vi (own_b32 p0), vi (own_b64 p0), vi (own_b128 p0), vi (g0_74 p0), vi (g0_90 p0 p2), vr b14, vr b19, vr b27, vr b35, vr b139, vr b284, vr b311, su] [])
  have hi339 : ¬ (g0_90 p0 p2) < 0 ∧ (g0_90 p0 p2) < (z306_n_L_b139 + z347_n_L_b284) := by rw [cy347_k15, cy347_j16]; exact own_i10 p0 p2 cy347_nz
  obtain ⟨ya339, yn339, yv339, yq339, yA339, yh339, ym339⟩ := ho324 _ hi339.1 hi339.2
  rw [cy347_k15] at ym339
  refine fI X324 hx hby at_369 rfl rfl ?_
  refine fIN X324 hx hby at_371 rfl rfl ?_
  show Fini _ _ _ _ _ _ _ T324 (mkF m 372 #[vi p0, vi p1, vi p2, vi (p0 &&& (3 : Int32)), vi (g0_11 p0), vi (own_b16 p0), vi (own_b32 p0), vi (own_b64 p0), vi (own_b128 p0), vi (g0_74 p0), vi (g0_90 p0 p2), vr b14, vr b19, vr b27, vr b35, vr b139, vr b284, vr b311, su] [(.int (p0 &&& (3 : Int32))), (.int (g0_90 p0 p2))])
  by_cases c340 : (g0_90 p0 p2) < (p0 &&& (3 : Int32))
  ·
   refine Fini.st (fun _ k => XS.icmpYes X324.here hx rfl (pc0 := 372) (pc' := 394) rfl (hb hby at_372) rfl (XT.ii_lt_t c340) (by decide) (by decide) k) ?_
   show Fini _ _ _ _ _ _ _ T324 (mkF m 394 #[vi p0, vi p1, vi p2, vi (p0 &&& (3 : Int32)), vi (g0_11 p0), vi (own_b16 p0), vi (own_b32 p0), vi (own_b64 p0), vi (own_b128 p0), vi (g0_74 p0), vi (g0_90 p0 p2), vr b14, vr b19, vr b27, vr b35, vr b139, vr b284, vr b311, su] [])
   refine fI X324 hx hby at_394 rfl rfl ?_
   show Fini _ _ _ _ _ _ _ T324 (mkF m 396 #[vi p0, vi p1, vi p2, vi (p0 &&& (3 : Int32)), vi (g0_11 p0), vi (own_b16 p0), vi (own_b32 p0), vi (own_b64 p0), vi (own_b128 p0), vi (g0_74 p0), vi (g0_90 p0 p2), vr b14, vr b19, vr b27, vr b35, vr b139, vr b284, vr b311, su] [(.int (g0_90 p0 p2))])
   by_cases c341 : (g0_90 p0 p2) = (0 : Int32)
   ·
    refine Fini.st (fun _ k => XS.ifNo X324.here hx rfl (hb hby at_396) rfl (XT.i0_ne_f c341) k) ?_
    show Fini _ _ _ _ _ _ _ T324 (mkF m 399 #[vi p0, vi p1, vi p2, vi (p0 &&& (3 : Int32)), vi (g0_11 p0), vi (own_b16 p0), vi (own_b32 p0), vi (own_b64 p0), vi (own_b128 p0), vi (g0_74 p0), vi (g0_90 p0 p2), vr b14, vr b19, vr b27, vr b35, vr b139, vr b284, vr b311, su] [])
    refine fC X324 hx hby at_399 rfl ?_
    refine Fini.st (fun _ k => XS.istore X324.here hx rfl (hb hby at_400) rfl (l' := #[vi p0, vi p1, vi p2, vi (p0 &&& (3 : Int32)), vi (g0_11 p0), vi (own_b16 p0), vi (own_b32 p0), vi (own_b64 p0), vi (own_b128 p0), vi (g0_74 p0), vi (g0_90 p0 p2), vr b14, vr b19, vr b27, vr b35, vr b139, vr b284, vr b311, vi (0 : Int32)]) rfl k) ?_
    refine Fini.st (fun _ k => XS.goto X324.here hx rfl (pc0 := 402) (pc' := 456) rfl (hb hby at_402) (by decide) (by decide) k) ?_
    refine fA X324 hx hby at_456 rfl rfl rfl ?_
    refine fIN X324 hx hby at_458 rfl rfl ?_
    refine fI X324 hx hby at_459 rfl rfl ?_
    have Ex_343 : Exa Z T324.heap b311 kLo := (Ex_326.keep K324)
    obtain ⟨T342, X342, e342, st342⟩ := pureV X324 hx hZ hown (wq hw (i := 282) rfl) (wq hw (i := 283) rfl) (wq hw (i := 285) rfl) (wq hw (i := 284) rfl) (wq hw (i := 99) rfl) (wq hw (i := 286) rfl) (notFace_of_selects (args := #[]) (mvT hZ (wq hw (i := 285) rfl))) Ex_343 (by decide) (rm36 l Z a0 hw [] b311 p1 (g0_90 p0 p2) ob324 ya339 (z306_n_L_b139 + z347_n_L_b284) w324 yn339 yv339 T324.heap Fo324 Ao324 yA339 hi339.1 hi339.2 yq339 yh339) rfl (W := 0) (by decide) (by decide) (by decide) (by decide) (g := (mkF m 461 #[vi p0, vi p1, vi p2, vi (p0 &&& (3 : Int32)), vi (g0_11 p0), vi (own_b16 p0), vi (own_b32 p0), vi (own_b64 p0), vi (own_b128 p0), vi (g0_74 p0), vi (g0_90 p0 p2), vr b14, vr b19, vr b27, vr b35, vr b139, vr b284, vr b311, vi (0 : Int32)] [(.int (g0_90 p0 p2)), (.int p1), (.ref b311)])) rfl (by rw [hml]; rfl) (argsL := [(.int p1), (.int (g0_90 p0 p2))]) (rest := []) rfl (lenOf pd_27 rfl) rfl (by show 2 * 0 + _ ≤ _; exact Nat.le_of_eq rfl) (hb hby at_461)
    refine Fini.st st342 ?_
    show Fini _ _ _ _ _ _ _ T342 (mkF m 464 #[vi p0, vi p1, vi p2, vi (p0 &&& (3 : Int32)), vi (g0_11 p0), vi (own_b16 p0), vi (own_b32 p0), vi (own_b64 p0), vi (own_b128 p0), vi (g0_74 p0), vi (g0_90 p0 p2), vr b14, vr b19, vr b27, vr b35, vr b139, vr b284, vr b311, vi (0 : Int32)] [(.int (f36 p1 (g0_90 p0 p2) (z306_n_L_b139 + z347_n_L_b284) w324 yn339 yv339))])
    refine fI X342 hx hby at_464 rfl rfl ?_
    show Fini _ _ _ _ _ _ _ T342 (mkF m 466 #[vi p0, vi p1, vi p2, vi (p0 &&& (3 : Int32)), vi (g0_11 p0), vi (own_b16 p0), vi (own_b32 p0), vi (own_b64 p0), vi (own_b128 p0), vi (g0_74 p0), vi (g0_90 p0 p2), vr b14, vr b19, vr b27, vr b35, vr b139, vr b284, vr b311, vi (0 : Int32)] [(.int (0 : Int32)), (.int (f36 p1 (g0_90 p0 p2) (z306_n_L_b139 + z347_n_L_b284) w324 yn339 yv339))])
    refine Fini.st (fun _ k => XS.icmpNo X342.here hx rfl (hb hby at_466) rfl (XT.ii_ne_f ((own_f36 (p2 := (g0_90 p0 p2)) yh339 ym339).2 (fun q => q.elim (fun r => own_s0 c341 r.2) (fun r => r.1 c340)))) k) ?_
    show Fini _ _ _ _ _ _ _ T342 (mkF m 469 #[vi p0, vi p1, vi p2, vi (p0 &&& (3 : Int32)), vi (g0_11 p0), vi (own_b16 p0), vi (own_b32 p0), vi (own_b64 p0), vi (own_b128 p0), vi (g0_74 p0), vi (g0_90 p0 p2), vr b14, vr b19, vr b27, vr b35, vr b139, vr b284, vr b311, vi (0 : Int32)] [])
    refine fC X342 hx hby at_469 rfl ?_
    refine Fini.st (fun _ k => XS.goto X342.here hx rfl (pc0 := 470) (pc' := 474) rfl (hb hby at_470) (by decide) (by decide) k) ?_
    exact Fini.retN X342 hx hlk (t := .boolean) Bd.returns (by simp) (hb hby at_474) nb1 (by decide) (by decide) ⟨rfl, N324⟩
   ·
    refine Fini.st (fun _ k => XS.ifYes X324.here hx rfl (pc0 := 396) (pc' := 405) rfl (hb hby at_396) rfl (XT.i0_ne_t c341) (by decide) (by decide) k) ?_
    show Fini _ _ _ _ _ _ _ T324 (mkF m 405 #[vi p0, vi p1, vi p2, vi (p0 &&& (3 : Int32)), vi (g0_11 p0), vi (own_b16 p0), vi (own_b32 p0), vi (own_b64 p0), vi (own_b128 p0), vi (g0_74 p0), vi (g0_90 p0 p2), vr b14, vr b19, vr b27, vr b35, vr b139, vr b284, vr b311, su] [])
    refine fI X324 hx hby at_405 rfl rfl ?_
    refine fC X324 hx hby at_407 rfl ?_
    show Fini _ _ _ _ _ _ _ T324 (mkF m 408 #[vi p0, vi p1, vi p2, vi (p0 &&& (3 : Int32)), vi (g0_11 p0), vi (own_b16 p0), vi (own_b32 p0), vi (own_b64 p0), vi (own_b128 p0), vi (g0_74 p0), vi (g0_90 p0 p2), vr b14, vr b19, vr b27, vr b35, vr b139, vr b284, vr b311, su] [(.int (1 : Int32)), (.int (g0_90 p0 p2))])
    by_cases c344 : (g0_90 p0 p2) = (1 : Int32)
    ·
     refine Fini.st (fun _ k => XS.icmpNo X324.here hx rfl (hb hby at_408) rfl (XT.ii_ne_f c344) k) ?_
     show Fini _ _ _ _ _ _ _ T324 (mkF m 411 #[vi p0, vi p1, vi p2, vi (p0 &&& (3 : Int32)), vi (g0_11 p0), vi (own_b16 p0), vi (own_b32 p0), vi (own_b64 p0), vi (own_b128 p0), vi (g0_74 p0), vi (g0_90 p0 p2), vr b14, vr b19, vr b27, vr b35, vr b139, vr b284, vr b311, su] [])
     refine fI X324 hx hby at_411 rfl rfl ?_
     show Fini _ _ _ _ _ _ _ T324 (mkF m 413 #[vi p0, vi p1, vi p2, vi (p0 &&& (3 : Int32)), vi (g0_11 p0), vi (own_b16 p0), vi (own_b32 p0), vi (own_b64 p0), vi (own_b128 p0), vi (g0_74 p0), vi (g0_90 p0 p2), vr b14, vr b19, vr b27, vr b35, vr b139, vr b284, vr b311, su] [(.int (own_b16 p0))])
     by_cases c345 : (own_b16 p0) = (0 : Int32)
     ·
      refine Fini.st (fun _ k => XS.ifYes X324.here hx rfl (pc0 := 413) (pc' := 424) rfl (hb hby at_413) rfl (XT.i0_eq_t c345) (by decide) (by decide) k) ?_
      show Fini _ _ _ _ _ _ _ T324 (mkF m 424 #[vi p0, vi p1, vi p2, vi (p0 &&& (3 : Int32)), vi (g0_11 p0), vi (own_b16 p0), vi (own_b32 p0), vi (own_b64 p0), vi (own_b128 p0), vi (g0_74 p0), vi (g0_90 p0 p2), vr b14, vr b19, vr b27, vr b35, vr b139, vr b284, vr b311, su] [])
      refine fC X324 hx hby at_424 rfl ?_
      refine Fini.st (fun _ k => XS.istore X324.here hx rfl (hb hby at_425) rfl (l' := #[vi p0, vi p1, vi p2, vi (p0 &&& (3 : Int32)), vi (g0_11 p0), vi (own_b16 p0), vi (own_b32 p0), vi (own_b64 p0), vi (own_b128 p0), vi (g0_74 p0), vi (g0_90 p0 p2), vr b14, vr b19, vr b27, vr b35, vr b139, vr b284, vr b311, vi (0 : Int32)]) rfl k) ?_
      refine Fini.st (fun _ k => XS.goto X324.here hx rfl (pc0 := 427) (pc' := 456) rfl (hb hby at_427) (by decide) (by decide) k) ?_
      refine fA X324 hx hby at_456 rfl rfl rfl ?_
      refine fIN X324 hx hby at_458 rfl rfl ?_
      refine fI X324 hx hby at_459 rfl rfl ?_
      have Ex_347 : Exa Z T324.heap b311 kLo := (Ex_326.keep K324)
      obtain ⟨T346, X346, e346, st346⟩ := pureV X324 hx hZ hown (wq hw (i := 282) rfl) (wq hw (i := 283) rfl) (wq hw (i := 285) rfl) (wq hw (i := 284) rfl) (wq hw (i := 99) rfl) (wq hw (i := 286) rfl) (notFace_of_selects (args := #[]) (mvT hZ (wq hw (i := 285) rfl))) Ex_347 (by decide) (rm36 l Z a0 hw [] b311 p1 (g0_90 p0 p2) ob324 ya339 (z306_n_L_b139 + z347_n_L_b284) w324 yn339 yv339 T324.heap Fo324 Ao324 yA339 hi339.1 hi339.2 yq339 yh339) rfl (W := 0) (by decide) (by decide) (by decide) (by decide) (g := (mkF m 461 #[vi p0, vi p1, vi p2, vi (p0 &&& (3 : Int32)), vi (g0_11 p0), vi (own_b16 p0), vi (own_b32 p0), vi (own_b64 p0), vi (own_b128 p0), vi (g0_74 p0), vi (g0_90 p0 p2), vr b14, vr b19, vr b27, vr b35, vr b139, vr b284, vr b311, vi (0 : Int32)] [(.int (g0_90 p0 p2)), (.int p1), (.ref b311)])) rfl (by rw [hml]; rfl) (argsL := [(.int p1), (.int (g0_90 p0 p2))]) (rest := []) rfl (lenOf pd_27 rfl) rfl (by show 2 * 0 + _ ≤ _; exact Nat.le_of_eq rfl) (hb hby at_461)
      refine Fini.st st346 ?_
      show Fini _ _ _ _ _ _ _ T346 (mkF m 464 #[vi p0, vi p1, vi p2, vi (p0 &&& (3 : Int32)), vi (g0_11 p0), vi (own_b16 p0), vi (own_b32 p0), vi (own_b64 p0), vi (own_b128 p0), vi (g0_74 p0), vi (g0_90 p0 p2), vr b14, vr b19, vr b27, vr b35, vr b139, vr b284, vr b311, vi (0 : Int32)] [(.int (f36 p1 (g0_90 p0 p2) (z306_n_L_b139 + z347_n_L_b284) w324 yn339 yv339))])
      refine fI X346 hx hby at_464 rfl rfl ?_
      show Fini _ _ _ _ _ _ _ T346 (mkF m 466 #[vi p0, vi p1, vi p2, vi (p0 &&& (3 : Int32)), vi (g0_11 p0), vi (own_b16 p0), vi (own_b32 p0), vi (own_b64 p0), vi (own_b128 p0), vi (g0_74 p0), vi (g0_90 p0 p2), vr b14, vr b19, vr b27, vr b35, vr b139, vr b284, vr b311, vi (0 : Int32)] [(.int (0 : Int32)), (.int (f36 p1 (g0_90 p0 p2) (z306_n_L_b139 + z347_n_L_b284) w324 yn339 yv339))])
      refine Fini.st (fun _ k => XS.icmpNo X346.here hx rfl (hb hby at_466) rfl (XT.ii_ne_f ((own_f36 (p2 := (g0_90 p0 p2)) yh339 ym339).2 (fun q => q.elim (fun r => own_s1a c344 c345 r.2) (fun r => r.1 c340)))) k) ?_
      show Fini _ _ _ _ _ _ _ T346 (mkF m 469 #[vi p0, vi p1, vi p2, vi (p0 &&& (3 : Int32)), vi (g0_11 p0), vi (own_b16 p0), vi (own_b32 p0), vi (own_b64 p0), vi (own_b128 p0), vi (g0_74 p0), vi (g0_90 p0 p2), vr b14, vr b19, vr b27, vr b35, vr b139, vr b284, vr b311, vi (0 : Int32)] [])
      refine fC X346 hx hby at_469 rfl ?_
      refine Fini.st (fun _ k => XS.goto X346.here hx rfl (pc0 := 470) (pc' := 474) rfl (hb hby at_470) (by decide) (by decide) k) ?_
      exact Fini.retN X346 hx hlk (t := .boolean) Bd.returns (by simp) (hb hby at_474) nb1 (by decide) (by decide) ⟨rfl, N324⟩
     ·
      refine Fini.st (fun _ k => XS.ifNo X324.here hx rfl (hb hby at_413) rfl (XT.i0_eq_f c345) k) ?_
      show Fini _ _ _ _ _ _ _ T324 (mkF m 416 #[vi p0, vi p1, vi p2, vi (p0 &&& (3 : Int32)), vi (g0_11 p0), vi (own_b16 p0), vi (own_b32 p0), vi (own_b64 p0), vi (own_b128 p0), vi (g0_74 p0), vi (g0_90 p0 p2), vr b14, vr b19, vr b27, vr b35, vr b139, vr b284, vr b311, su] [])
      refine fIN X324 hx hby at_416 rfl rfl ?_
      show Fini _ _ _ _ _ _ _ T324 (mkF m 417 #[vi p0, vi p1, vi p2, vi (p0 &&& (3 : Int32)), vi (g0_11 p0), vi (own_b16 p0), vi (own_b32 p0), vi (own_b64 p0), vi (own_b128 p0), vi (g0_74 p0), vi (g0_90 p0 p2), vr b14, vr b19, vr b27, vr b35, vr b139, vr b284, vr b311, su] [(.int p1)])
      by_cases c348 : p1 = (0 : Int32)
      ·
       refine Fini.st (fun _ k => XS.ifNo X324.here hx rfl (hb hby at_417) rfl (XT.i0_ne_f c348) k) ?_
       show Fini _ _ _ _ _ _ _ T324 (mkF m 420 #[vi p0, vi p1, vi p2, vi (p0 &&& (3 : Int32)), vi (g0_11 p0), vi (own_b16 p0), vi (own_b32 p0), vi (own_b64 p0), vi (own_b128 p0), vi (g0_74 p0), vi (g0_90 p0 p2), vr b14, vr b19, vr b27, vr b35, vr b139, vr b284, vr b311, su] [])
       refine fC X324 hx hby at_420 rfl ?_
       refine Fini.st (fun _ k => XS.goto X324.here hx rfl (pc0 := 421) (pc' := 425) rfl (hb hby at_421) (by decide) (by decide) k) ?_
       refine Fini.st (fun _ k => XS.istore X324.here hx rfl (hb hby at_425) rfl (l' := #[vi p0, vi p1, vi p2, vi (p0 &&& (3 : Int32)), vi (g0_11 p0), vi (own_b16 p0), vi (own_b32 p0), vi (own_b64 p0), vi (own_b128 p0), vi (g0_74 p0), vi (g0_90 p0 p2), vr b14, vr b19, vr b27, vr b35, vr b139, vr b284, vr b311, vi (1 : Int32)]) rfl k) ?_
       refine Fini.st (fun _ k => XS.goto X324.here hx rfl (pc0 := 427) (pc' := 456) rfl (hb hby at_427) (by decide) (by decide) k) ?_
       refine fA X324 hx hby at_456 rfl rfl rfl ?_
       refine fIN X324 hx hby at_458 rfl rfl ?_
       refine fI X324 hx hby at_459 rfl rfl ?_
       have Ex_350 : Exa Z T324.heap b311 kLo := (Ex_326.keep K324)
       obtain ⟨T349, X349, e349, st349⟩ := pureV X324 hx hZ hown (wq hw (i := 282) rfl) (wq hw (i := 283) rfl) (wq hw (i := 285) rfl) (wq hw (i := 284) rfl) (wq hw (i := 99) rfl) (wq hw (i := 286) rfl) (notFace_of_selects (args := #[]) (mvT hZ (wq hw (i := 285) rfl))) Ex_350 (by decide) (rm36 l Z a0 hw [] b311 p1 (g0_90 p0 p2) ob324 ya339 (z306_n_L_b139 + z347_n_L_b284) w324 yn339 yv339 T324.heap Fo324 Ao324 yA339 hi339.1 hi339.2 yq339 yh339) rfl (W := 0) (by decide) (by decide) (by decide) (by decide) (g := (mkF m 461 #[vi p0, vi p1, vi p2, vi (p0 &&& (3 : Int32)), vi (g0_11 p0), vi (own_b16 p0), vi (own_b32 p0), vi (own_b64 p0), vi (own_b128 p0), vi (g0_74 p0), vi (g0_90 p0 p2), vr b14, vr b19, vr b27, vr b35, vr b139, vr b284, vr b311, vi (1 : Int32)] [(.int (g0_90 p0 p2)), (.int p1), (.ref b311)])) rfl (by rw [hml]; rfl) (argsL := [(.int p1), (.int (g0_90 p0 p2))]) (rest := []) rfl (lenOf pd_27 rfl) rfl (by show 2 * 0 + _ ≤ _; exact Nat.le_of_eq rfl) (hb hby at_461)
       refine Fini.st st349 ?_
       show Fini _ _ _ _ _ _ _ T349 (mkF m 464 #[vi p0, vi p1, vi p2, vi (p0 &&& (3 : Int32)), vi (g0_11 p0), vi (own_b16 p0), vi (own_b32 p0), vi (own_b64 p0), vi (own_b128 p0), vi (g0_74 p0), vi (g0_90 p0 p2), vr b14, vr b19, vr b27, vr b35, vr b139, vr b284, vr b311, vi (1 : Int32)] [(.int (f36 p1 (g0_90 p0 p2) (z306_n_L_b139 + z347_n_L_b284) w324 yn339 yv339))])
       refine fI X349 hx hby at_464 rfl rfl ?_
       show Fini _ _ _ _ _ _ _ T349 (mkF m 466 #[vi p0, vi p1, vi p2, vi (p0 &&& (3 : Int32)), vi (g0_11 p0), vi (own_b16 p0), vi (own_b32 p0), vi (own_b64 p0), vi (own_b128 p0), vi (g0_74 p0), vi (g0_90 p0 p2), vr b14, vr b19, vr b27, vr b35, vr b139, vr b284, vr b311, vi (1 : Int32)] [(.int (1 : Int32)), (.int (f36 p1 (g0_90 p0 p2) (z306_n_L_b139 + z347_n_L_b284) w324 yn339 yv339))])
       refine Fini.st (fun _ k => XS.icmpNo X349.here hx rfl (hb hby at_466) rfl (XT.ii_ne_f ((own_f36 (p2 := (g0_90 p0 p2)) yh339 ym339).1 (Or.inl ⟨c340, own_s1 c344 c345 c348⟩))) k) ?_
       show Fini _ _ _ _ _ _ _ T349 (mkF m 469 #[vi p0, vi p1, vi p2, vi (p0 &&& (3 : Int32)), vi (g0_11 p0), vi (own_b16 p0), vi (own_b32 p0), vi (own_b64 p0), vi (own_b128 p0), vi (g0_74 p0), vi (g0_90 p0 p2), vr b14, vr b19, vr b27, vr b35, vr b139, vr b284, vr b311, vi (1 : Int32)] [])
       refine fC X349 hx hby at_469 rfl ?_
       refine Fini.st (fun _ k => XS.goto X349.here hx rfl (pc0 := 470) (pc' := 474) rfl (hb hby at_470) (by decide) (by decide) k) ?_
       exact Fini.retN X349 hx hlk (t := .boolean) Bd.returns (by simp) (hb hby at_474) nb1 (by decide) (by decide) ⟨rfl, N324⟩
      ·
       refine Fini.st (fun _ k => XS.ifYes X324.here hx rfl (pc0 := 417) (pc' := 424) rfl (hb hby at_417) rfl (XT.i0_ne_t c348) (by decide) (by decide) k) ?_
       show Fini _ _ _ _ _ _ _ T324 (mkF m 424 #[vi p0, vi p1, vi p2, vi (p0 &&& (3 : Int32)), vi (g0_11 p0), vi (own_b16 p0), vi (own_b32 p0), vi (own_b64 p0), vi (own_b128 p0), vi (g0_74 p0), vi (g0_90 p0 p2), vr b14, vr b19, vr b27, vr b35, vr b139, vr b284, vr b311, su] [])
       refine fC X324 hx hby at_424 rfl ?_
       refine Fini.st (fun _ k => XS.istore X324.here hx rfl (hb hby at_425) rfl (l' := #[vi p0, vi p1, vi p2, vi (p0 &&& (3 : Int32)), vi (g0_11 p0), vi (own_b16 p0), vi (own_b32 p0), vi (own_b64 p0), vi (own_b128 p0), vi (g0_74 p0), vi (g0_90 p0 p2), vr b14, vr b19, vr b27, vr b35, vr b139, vr b284, vr b311, vi (0 : Int32)]) rfl k) ?_
       refine Fini.st (fun _ k => XS.goto X324.here hx rfl (pc0 := 427) (pc' := 456) rfl (hb hby at_427) (by decide) (by decide) k) ?_
       refine fA X324 hx hby at_456 rfl rfl rfl ?_
       refine fIN X324 hx hby at_458 rfl rfl ?_
       refine fI X324 hx hby at_459 rfl rfl ?_
       have Ex_352 : Exa Z T324.heap b311 kLo := (Ex_326.keep K324)
       obtain ⟨T351, X351, e351, st351⟩ := pureV X324 hx hZ hown (wq hw (i := 282) rfl) (wq hw (i := 283) rfl) (wq hw (i := 285) rfl) (wq hw (i := 284) rfl) (wq hw (i := 99) rfl) (wq hw (i := 286) rfl) (notFace_of_selects (args := #[]) (mvT hZ (wq hw (i := 285) rfl))) Ex_352 (by decide) (rm36 l Z a0 hw [] b311 p1 (g0_90 p0 p2) ob324 ya339 (z306_n_L_b139 + z347_n_L_b284) w324 yn339 yv339 T324.heap Fo324 Ao324 yA339 hi339.1 hi339.2 yq339 yh339) rfl (W := 0) (by decide) (by decide) (by decide) (by decide) (g := (mkF m 461 #[vi p0, vi p1, vi p2, vi (p0 &&& (3 : Int32)), vi (g0_11 p0), vi (own_b16 p0), vi (own_b32 p0), vi (own_b64 p0), vi (own_b128 p0), vi (g0_74 p0), vi (g0_90 p0 p2), vr b14, vr b19, vr b27, vr b35, vr b139, vr b284, vr b311, vi (0 : Int32)] [(.int (g0_90 p0 p2)), (.int p1), (.ref b311)])) rfl (by rw [hml]; rfl) (argsL := [(.int p1), (.int (g0_90 p0 p2))]) (rest := []) rfl (lenOf pd_27 rfl) rfl (by show 2 * 0 + _ ≤ _; exact Nat.le_of_eq rfl) (hb hby at_461)
       refine Fini.st st351 ?_
       show Fini _ _ _ _ _ _ _ T351 (mkF m 464 #[vi p0, vi p1, vi p2, vi (p0 &&& (3 : Int32)), vi (g0_11 p0), vi (own_b16 p0), vi (own_b32 p0), vi (own_b64 p0), vi (own_b128 p0), vi (g0_74 p0), vi (g0_90 p0 p2), vr b14, vr b19, vr b27, vr b35, vr b139, vr b284, vr b311, vi (0 : Int32)] [(.int (f36 p1 (g0_90 p0 p2) (z306_n_L_b139 + z347_n_L_b284) w324 yn339 yv339))])
       refine fI X351 hx hby at_464 rfl rfl ?_
       show Fini _ _ _ _ _ _ _ T351 (mkF m 466 #[vi p0, vi p1, vi p2, vi (p0 &&& (3 : Int32)), vi (g0_11 p0), vi (own_b16 p0), vi (own_b32 p0), vi (own_b64 p0), vi (own_b128 p0), vi (g0_74 p0), vi (g0_90 p0 p2), vr b14, vr b19, vr b27, vr b35, vr b139, vr b284, vr b311, vi (0 : Int32)] [(.int (0 : Int32)), (.int (f36 p1 (g0_90 p0 p2) (z306_n_L_b139 + z347_n_L_b284) w324 yn339 yv339))])
       refine Fini.st (fun _ k => XS.icmpNo X351.here hx rfl (hb hby at_466) rfl (XT.ii_ne_f ((own_f36 (p2 := (g0_90 p0 p2)) yh339 ym339).2 (fun q => q.elim (fun r => own_s1b c344 c348 r.2) (fun r => r.1 c340)))) k) ?_
       show Fini _ _ _ _ _ _ _ T351 (mkF m 469 #[vi p0, vi p1, vi p2, vi (p0 &&& (3 : Int32)), vi (g0_11 p0), vi (own_b16 p0), vi (own_b32 p0), vi (own_b64 p0), vi (own_b128 p0), vi (g0_74 p0), vi (g0_90 p0 p2), vr b14, vr b19, vr b27, vr b35, vr b139, vr b284, vr b311, vi (0 : Int32)] [])
       refine fC X351 hx hby at_469 rfl ?_
       refine Fini.st (fun _ k => XS.goto X351.here hx rfl (pc0 := 470) (pc' := 474) rfl (hb hby at_470) (by decide) (by decide) k) ?_
       exact Fini.retN X351 hx hlk (t := .boolean) Bd.returns (by simp) (hb hby at_474) nb1 (by decide) (by decide) ⟨rfl, N324⟩
    ·
     refine Fini.st (fun _ k => XS.icmpYes X324.here hx rfl (pc0 := 408) (pc' := 430) rfl (hb hby at_408) rfl (XT.ii_ne_t c344) (by decide) (by decide) k) ?_
     show Fini _ _ _ _ _ _ _ T324 (mkF m 430 #[vi p0, vi p1, vi p2, vi (p0 &&& (3 : Int32)), vi (g0_11 p0), vi (own_b16 p0), vi (own_b32 p0), vi (own_b64 p0), vi (own_b128 p0), vi (g0_74 p0), vi (g0_90 p0 p2), vr b14, vr b19, vr b27, vr b35, vr b139, vr b284, vr b311, su] [])
     refine fI X324 hx hby at_430 rfl rfl ?_
     show Fini _ _ _ _ _ _ _ T324 (mkF m 432 #[vi p0, vi p1, vi p2, vi (p0 &&& (3 : Int32)), vi (g0_11 p0), vi (own_b16 p0), vi (own_b32 p0), vi (own_b64 p0), vi (own_b128 p0), vi (g0_74 p0), vi (g0_90 p0 p2), vr b14, vr b19, vr b27, vr b35, vr b139, vr b284, vr b311, su] [(.int (own_b32 p0))])
     by_cases c353 : (own_b32 p0) = (0 : Int32)
     ·
      refine Fini.st (fun _ k => XS.ifYes X324.here hx rfl (pc0 := 432) (pc' := 439) rfl (hb hby at_432) rfl (XT.i0_eq_t c353) (by decide) (by decide) k) ?_
      show Fini _ _ _ _ _ _ _ T324 (mkF m 439 #[vi p0, vi p1, vi p2, vi (p0 &&& (3 : Int32)), vi (g0_11 p0), vi (own_b16 p0), vi (own_b32 p0), vi (own_b64 p0), vi (own_b128 p0), vi (g0_74 p0), vi (g0_90 p0 p2), vr b14, vr b19, vr b27, vr b35, vr b139, vr b284, vr b311, su] [])
      refine fI X324 hx hby at_439 rfl rfl ?_
      show Fini _ _ _ _ _ _ _ T324 (mkF m 441 #[vi p0, vi p1, vi p2, vi (p0 &&& (3 : Int32)), vi (g0_11 p0), vi (own_b16 p0), vi (own_b32 p0), vi (own_b64 p0), vi (own_b128 p0), vi (g0_74 p0), vi (g0_90 p0 p2), vr b14, vr b19, vr b27, vr b35, vr b139, vr b284, vr b311, su] [(.int (own_b64 p0))])
      by_cases c354 : (own_b64 p0) = (0 : Int32)
      ·
       refine Fini.st (fun _ k => XS.ifYes X324.here hx rfl (pc0 := 441) (pc' := 453) rfl (hb hby at_441) rfl (XT.i0_eq_t c354) (by decide) (by decide) k) ?_
       show Fini _ _ _ _ _ _ _ T324 (mkF m 453 #[vi p0, vi p1, vi p2, vi (p0 &&& (3 : Int32)), vi (g0_11 p0), vi (own_b16 p0), vi (own_b32 p0), vi (own_b64 p0), vi (own_b128 p0), vi (g0_74 p0), vi (g0_90 p0 p2), vr b14, vr b19, vr b27, vr b35, vr b139, vr b284, vr b311, su] [])
       refine fC X324 hx hby at_453 rfl ?_
       refine Fini.st (fun _ k => XS.istore X324.here hx rfl (hb hby at_454) rfl (l' := #[vi p0, vi p1, vi p2, vi (p0 &&& (3 : Int32)), vi (g0_11 p0), vi (own_b16 p0), vi (own_b32 p0), vi (own_b64 p0), vi (own_b128 p0), vi (g0_74 p0), vi (g0_90 p0 p2), vr b14, vr b19, vr b27, vr b35, vr b139, vr b284, vr b311, vi (0 : Int32)]) rfl k) ?_
       refine fA X324 hx hby at_456 rfl rfl rfl ?_
       refine fIN X324 hx hby at_458 rfl rfl ?_
       refine fI X324 hx hby at_459 rfl rfl ?_
       have Ex_356 : Exa Z T324.heap b311 kLo := (Ex_326.keep K324)
       obtain ⟨T355, X355, e355, st355⟩ := pureV X324 hx hZ hown (wq hw (i := 282) rfl) (wq hw (i := 283) rfl) (wq hw (i := 285) rfl) (wq hw (i := 284) rfl) (wq hw (i := 99) rfl) (wq hw (i := 286) rfl) (notFace_of_selects (args := #[]) (mvT hZ (wq hw (i := 285) rfl))) Ex_356 (by decide) (rm36 l Z a0 hw [] b311 p1 (g0_90 p0 p2) ob324 ya339 (z306_n_L_b139 + z347_n_L_b284) w324 yn339 yv339 T324.heap Fo324 Ao324 yA339 hi339.1 hi339.2 yq339 yh339) rfl (W := 0) (by decide) (by decide) (by decide) (by decide) (g := (mkF m 461 #[vi p0, vi p1, vi p2, vi (p0 &&& (3 : Int32)), vi (g0_11 p0), vi (own_b16 p0), vi (own_b32 p0), vi (own_b64 p0), vi (own_b128 p0), vi (g0_74 p0), vi (g0_90 p0 p2), vr b14, vr b19, vr b27, vr b35, vr b139, vr b284, vr b311, vi (0 : Int32)] [(.int (g0_90 p0 p2)), (.int p1), (.ref b311)])) rfl (by rw [hml]; rfl) (argsL := [(.int p1), (.int (g0_90 p0 p2))]) (rest := []) rfl (lenOf pd_27 rfl) rfl (by show 2 * 0 + _ ≤ _; exact Nat.le_of_eq rfl) (hb hby at_461)
       refine Fini.st st355 ?_
       show Fini _ _ _ _ _ _ _ T355 (mkF m 464 #[vi p0, vi p1, vi p2, vi (p0 &&& (3 : Int32)), vi (g0_11 p0), vi (own_b16 p0), vi (own_b32 p0), vi (own_b64 p0), vi (own_b128 p0), vi (g0_74 p0), vi (g0_90 p0 p2), vr b14, vr b19, vr b27, vr b35, vr b139, vr b284, vr b311, vi (0 : Int32)] [(.int (f36 p1 (g0_90 p0 p2) (z306_n_L_b139 + z347_n_L_b284) w324 yn339 yv339))])
       refine fI X355 hx hby at_464 rfl rfl ?_
       show Fini _ _ _ _ _ _ _ T355 (mkF m 466 #[vi p0, vi p1, vi p2, vi (p0 &&& (3 : Int32)), vi (g0_11 p0), vi (own_b16 p0), vi (own_b32 p0), vi (own_b64 p0), vi (own_b128 p0), vi (g0_74 p0), vi (g0_90 p0 p2), vr b14, vr b19, vr b27, vr b35, vr b139, vr b284, vr b311, vi (0 : Int32)] [(.int (0 : Int32)), (.int (f36 p1 (g0_90 p0 p2) (z306_n_L_b139 + z347_n_L_b284) w324 yn339 yv339))])
       refine Fini.st (fun _ k => XS.icmpNo X355.here hx rfl (hb hby at_466) rfl (XT.ii_ne_f ((own_f36 (p2 := (g0_90 p0 p2)) yh339 ym339).2 (fun q => q.elim (fun r => own_s2n (own_i2 c340 c341 c344 (own_g3 p0).2 (own_i10 p0 p2 cy347_nz).1) (fun q => q.elim (fun r => r.1 c353) (fun r => r.1 c354)) r.2) (fun r => r.1 c340)))) k) ?_
       show Fini _ _ _ _ _ _ _ T355 (mkF m 469 #[vi p0, vi p1, vi p2, vi (p0 &&& (3 : Int32)), vi (g0_11 p0), vi (own_b16 p0), vi (own_b32 p0), vi (own_b64 p0), vi (own_b128 p0), vi (g0_74 p0), vi (g0_90 p0 p2), vr b14, vr b19, vr b27, vr b35, vr b139, vr b284, vr b311, vi (0 : Int32)] [])
       refine fC X355 hx hby at_469 rfl ?_
       refine Fini.st (fun _ k => XS.goto X355.here hx rfl (pc0 := 470) (pc' := 474) rfl (hb hby at_470) (by decide) (by decide) k) ?_
       exact Fini.retN X355 hx hlk (t := .boolean) Bd.returns (by simp) (hb hby at_474) nb1 (by decide) (by decide) ⟨rfl, N324⟩
      ·
       refine Fini.st (fun _ k => XS.ifNo X324.here hx rfl (hb hby at_441) rfl (XT.i0_eq_f c354) k) ?_
       show Fini _ _ _ _ _ _ _ T324 (mkF m 444 #[vi p0, vi p1, vi p2, vi (p0 &&& (3 : Int32)), vi (g0_11 p0), vi (own_b16 p0), vi (own_b32 p0), vi (own_b64 p0), vi (own_b128 p0), vi (g0_74 p0), vi (g0_90 p0 p2), vr b14, vr b19, vr b27, vr b35, vr b139, vr b284, vr b311, su] [])
       refine fIN X324 hx hby at_444 rfl rfl ?_
       refine fC X324 hx hby at_445 rfl ?_
       show Fini _ _ _ _ _ _ _ T324 (mkF m 446 #[vi p0, vi p1, vi p2, vi (p0 &&& (3 : Int32)), vi (g0_11 p0), vi (own_b16 p0), vi (own_b32 p0), vi (own_b64 p0), vi (own_b128 p0), vi (g0_74 p0), vi (g0_90 p0 p2), vr b14, vr b19, vr b27, vr b35, vr b139, vr b284, vr b311, su] [(.int (1 : Int32)), (.int p1)])
       by_cases c357 : p1 = (1 : Int32)
       ·
        refine Fini.st (fun _ k => XS.icmpNo X324.here hx rfl (hb hby at_446) rfl (XT.ii_ne_f c357) k) ?_
        show Fini _ _ _ _ _ _ _ T324 (mkF m 449 #[vi p0, vi p1, vi p2, vi (p0 &&& (3 : Int32)), vi (g0_11 p0), vi (own_b16 p0), vi (own_b32 p0), vi (own_b64 p0), vi (own_b128 p0), vi (g0_74 p0), vi (g0_90 p0 p2), vr b14, vr b19, vr b27, vr b35, vr b139, vr b284, vr b311, su] [])
        refine fC X324 hx hby at_449 rfl ?_
        refine Fini.st (fun _ k => XS.goto X324.here hx rfl (pc0 := 450) (pc' := 454) rfl (hb hby at_450) (by decide) (by decide) k) ?_
        refine Fini.st (fun _ k => XS.istore X324.here hx rfl (hb hby at_454) rfl (l' := #[vi p0, vi p1, vi p2, vi (p0 &&& (3 : Int32)), vi (g0_11 p0), vi (own_b16 p0), vi (own_b32 p0), vi (own_b64 p0), vi (own_b128 p0), vi (g0_74 p0), vi (g0_90 p0 p2), vr b14, vr b19, vr b27, vr b35, vr b139, vr b284, vr b311, vi (1 : Int32)]) rfl k) ?_
        refine fA X324 hx hby at_456 rfl rfl rfl ?_
        refine fIN X324 hx hby at_458 rfl rfl ?_
        refine fI X324 hx hby at_459 rfl rfl ?_
        have Ex_359 : Exa Z T324.heap b311 kLo := (Ex_326.keep K324)
        obtain ⟨T358, X358, e358, st358⟩ := pureV X324 hx hZ hown (wq hw (i := 282) rfl) (wq hw (i := 283) rfl) (wq hw (i := 285) rfl) (wq hw (i := 284) rfl) (wq hw (i := 99) rfl) (wq hw (i := 286) rfl) (notFace_of_selects (args := #[]) (mvT hZ (wq hw (i := 285) rfl))) Ex_359 (by decide) (rm36 l Z a0 hw [] b311 p1 (g0_90 p0 p2) ob324 ya339 (z306_n_L_b139 + z347_n_L_b284) w324 yn339 yv339 T324.heap Fo324 Ao324 yA339 hi339.1 hi339.2 yq339 yh339) rfl (W := 0) (by decide) (by decide) (by decide) (by decide) (g := (mkF m 461 #[vi p0, vi p1, vi p2, vi (p0 &&& (3 : Int32)), vi (g0_11 p0), vi (own_b16 p0), vi (own_b32 p0), vi (own_b64 p0), vi (own_b128 p0), vi (g0_74 p0), vi (g0_90 p0 p2), vr b14, vr b19, vr b27, vr b35, vr b139, vr b284, vr b311, vi (1 : Int32)] [(.int (g0_90 p0 p2)), (.int p1), (.ref b311)])) rfl (by rw [hml]; rfl) (argsL := [(.int p1), (.int (g0_90 p0 p2))]) (rest := []) rfl (lenOf pd_27 rfl) rfl (by show 2 * 0 + _ ≤ _; exact Nat.le_of_eq rfl) (hb hby at_461)
        refine Fini.st st358 ?_
        show Fini _ _ _ _ _ _ _ T358 (mkF m 464 #[vi p0, vi p1, vi p2, vi (p0 &&& (3 : Int32)), vi (g0_11 p0), vi (own_b16 p0), vi (own_b32 p0), vi (own_b64 p0), vi (own_b128 p0), vi (g0_74 p0), vi (g0_90 p0 p2), vr b14, vr b19, vr b27, vr b35, vr b139, vr b284, vr b311, vi (1 : Int32)] [(.int (f36 p1 (g0_90 p0 p2) (z306_n_L_b139 + z347_n_L_b284) w324 yn339 yv339))])
        refine fI X358 hx hby at_464 rfl rfl ?_
        show Fini _ _ _ _ _ _ _ T358 (mkF m 466 #[vi p0, vi p1, vi p2, vi (p0 &&& (3 : Int32)), vi (g0_11 p0), vi (own_b16 p0), vi (own_b32 p0), vi (own_b64 p0), vi (own_b128 p0), vi (g0_74 p0), vi (g0_90 p0 p2), vr b14, vr b19, vr b27, vr b35, vr b139, vr b284, vr b311, vi (1 : Int32)] [(.int (1 : Int32)), (.int (f36 p1 (g0_90 p0 p2) (z306_n_L_b139 + z347_n_L_b284) w324 yn339 yv339))])
        refine Fini.st (fun _ k => XS.icmpNo X358.here hx rfl (hb hby at_466) rfl (XT.ii_ne_f ((own_f36 (p2 := (g0_90 p0 p2)) yh339 ym339).1 (Or.inl ⟨c340, own_s2 (own_i2 c340 c341 c344 (own_g3 p0).2 (own_i10 p0 p2 cy347_nz).1) (Or.inr ⟨c354, c357⟩)⟩))) k) ?_
        show Fini _ _ _ _ _ _ _ T358 (mkF m 469 #[vi p0, vi p1, vi p2, vi (p0 &&& (3 : Int32)), vi (g0_11 p0), vi (own_b16 p0), vi (own_b32 p0), vi (own_b64 p0), vi (own_b128 p0), vi (g0_74 p0), vi (g0_90 p0 p2), vr b14, vr b19, vr b27, vr b35, vr b139, vr b284, vr b311, vi (1 : Int32)] [])
        refine fC X358 hx hby at_469 rfl ?_
        refine Fini.st (fun _ k => XS.goto X358.here hx rfl (pc0 := 470) (pc' := 474) rfl (hb hby at_470) (by decide) (by decide) k) ?_
        exact Fini.retN X358 hx hlk (t := .boolean) Bd.returns (by simp) (hb hby at_474) nb1 (by decide) (by decide) ⟨rfl, N324⟩
       ·
        refine Fini.st (fun _ k => XS.icmpYes X324.here hx rfl (pc0 := 446) (pc' := 453) rfl (hb hby at_446) rfl (XT.ii_ne_t c357) (by decide) (by decide) k) ?_
        show Fini _ _ _ _ _ _ _ T324 (mkF m 453 #[vi p0, vi p1, vi p2, vi (p0 &&& (3 : Int32)), vi (g0_11 p0), vi (own_b16 p0), vi (own_b32 p0), vi (own_b64 p0), vi (own_b128 p0), vi (g0_74 p0), vi (g0_90 p0 p2), vr b14, vr b19, vr b27, vr b35, vr b139, vr b284, vr b311, su] [])
        refine fC X324 hx hby at_453 rfl ?_
        refine Fini.st (fun _ k => XS.istore X324.here hx rfl (hb hby at_454) rfl (l' := #[vi p0, vi p1, vi p2, vi (p0 &&& (3 : Int32)), vi (g0_11 p0), vi (own_b16 p0), vi (own_b32 p0), vi (own_b64 p0), vi (own_b128 p0), vi (g0_74 p0), vi (g0_90 p0 p2), vr b14, vr b19, vr b27, vr b35, vr b139, vr b284, vr b311, vi (0 : Int32)]) rfl k) ?_
        refine fA X324 hx hby at_456 rfl rfl rfl ?_
        refine fIN X324 hx hby at_458 rfl rfl ?_
        refine fI X324 hx hby at_459 rfl rfl ?_
        have Ex_361 : Exa Z T324.heap b311 kLo := (Ex_326.keep K324)
        obtain ⟨T360, X360, e360, st360⟩ := pureV X324 hx hZ hown (wq hw (i := 282) rfl) (wq hw (i := 283) rfl) (wq hw (i := 285) rfl) (wq hw (i := 284) rfl) (wq hw (i := 99) rfl) (wq hw (i := 286) rfl) (notFace_of_selects (args := #[]) (mvT hZ (wq hw (i := 285) rfl))) Ex_361 (by decide) (rm36 l Z a0 hw [] b311 p1 (g0_90 p0 p2) ob324 ya339 (z306_n_L_b139 + z347_n_L_b284) w324 yn339 yv339 T324.heap Fo324 Ao324 yA339 hi339.1 hi339.2 yq339 yh339) rfl (W := 0) (by decide) (by decide) (by decide) (by decide) (g := (mkF m 461 #[vi p0, vi p1, vi p2, vi (p0 &&& (3 : Int32)), vi (g0_11 p0), vi (own_b16 p0), vi (own_b32 p0), vi (own_b64 p0), vi (own_b128 p0), vi (g0_74 p0), vi (g0_90 p0 p2), vr b14, vr b19, vr b27, vr b35, vr b139, vr b284, vr b311, vi (0 : Int32)] [(.int (g0_90 p0 p2)), (.int p1), (.ref b311)])) rfl (by rw [hml]; rfl) (argsL := [(.int p1), (.int (g0_90 p0 p2))]) (rest := []) rfl (lenOf pd_27 rfl) rfl (by show 2 * 0 + _ ≤ _; exact Nat.le_of_eq rfl) (hb hby at_461)
        refine Fini.st st360 ?_
        show Fini _ _ _ _ _ _ _ T360 (mkF m 464 #[vi p0, vi p1, vi p2, vi (p0 &&& (3 : Int32)), vi (g0_11 p0), vi (own_b16 p0), vi (own_b32 p0), vi (own_b64 p0), vi (own_b128 p0), vi (g0_74 p0), vi (g0_90 p0 p2), vr b14, vr b19, vr b27, vr b35, vr b139, vr b284, vr b311, vi (0 : Int32)] [(.int (f36 p1 (g0_90 p0 p2) (z306_n_L_b139 + z347_n_L_b284) w324 yn339 yv339))])
        refine fI X360 hx hby at_464 rfl rfl ?_
        show Fini _ _ _ _ _ _ _ T360 (mkF m 466 #[vi p0, vi p1, vi p2, vi (p0 &&& (3 : Int32)), vi (g0_11 p0), vi (own_b16 p0), vi (own_b32 p0), vi (own_b64 p0), vi (own_b128 p0), vi (g0_74 p0), vi (g0_90 p0 p2), vr b14, vr b19, vr b27, vr b35, vr b139, vr b284, vr b311, vi (0 : Int32)] [(.int (0 : Int32)), (.int (f36 p1 (g0_90 p0 p2) (z306_n_L_b139 + z347_n_L_b284) w324 yn339 yv339))])
        refine Fini.st (fun _ k => XS.icmpNo X360.here hx rfl (hb hby at_466) rfl (XT.ii_ne_f ((own_f36 (p2 := (g0_90 p0 p2)) yh339 ym339).2 (fun q => q.elim (fun r => own_s2n (own_i2 c340 c341 c344 (own_g3 p0).2 (own_i10 p0 p2 cy347_nz).1) (fun q => q.elim (fun r => r.1 c353) (fun r => c357 r.2)) r.2) (fun r => r.1 c340)))) k) ?_
        show Fini _ _ _ _ _ _ _ T360 (mkF m 469 #[vi p0, vi p1, vi p2, vi (p0 &&& (3 : Int32)), vi (g0_11 p0), vi (own_b16 p0), vi (own_b32 p0), vi (own_b64 p0), vi (own_b128 p0), vi (g0_74 p0), vi (g0_90 p0 p2), vr b14, vr b19, vr b27, vr b35, vr b139, vr b284, vr b311, vi (0 : Int32)] [])
        refine fC X360 hx hby at_469 rfl ?_
        refine Fini.st (fun _ k => XS.goto X360.here hx rfl (pc0 := 470) (pc' := 474) rfl (hb hby at_470) (by decide) (by decide) k) ?_
        exact Fini.retN X360 hx hlk (t := .boolean) Bd.returns (by simp) (hb hby at_474) nb1 (by decide) (by decide) ⟨rfl, N324⟩
     ·
      refine Fini.st (fun _ k => XS.ifNo X324.here hx rfl (hb hby at_432) rfl (XT.i0_eq_f c353) k) ?_
      show Fini _ _ _ _ _ _ _ T324 (mkF m 435 #[vi p0, vi p1, vi p2, vi (p0 &&& (3 : Int32)), vi (g0_11 p0), vi (own_b16 p0), vi (own_b32 p0), vi (own_b64 p0), vi (own_b128 p0), vi (g0_74 p0), vi (g0_90 p0 p2), vr b14, vr b19, vr b27, vr b35, vr b139, vr b284, vr b311, su] [])
      refine fIN X324 hx hby at_435 rfl rfl ?_
      show Fini _ _ _ _ _ _ _ T324 (mkF m 436 #[vi p0, vi p1, vi p2, vi (p0 &&& (3 : Int32)), vi (g0_11 p0), vi (own_b16 p0), vi (own_b32 p0), vi (own_b64 p0), vi (own_b128 p0), vi (g0_74 p0), vi (g0_90 p0 p2), vr b14, vr b19, vr b27, vr b35, vr b139, vr b284, vr b311, su] [(.int p1)])
      by_cases c362 : p1 = (0 : Int32)
      ·
       refine Fini.st (fun _ k => XS.ifYes X324.here hx rfl (pc0 := 436) (pc' := 449) rfl (hb hby at_436) rfl (XT.i0_eq_t c362) (by decide) (by decide) k) ?_
       show Fini _ _ _ _ _ _ _ T324 (mkF m 449 #[vi p0, vi p1, vi p2, vi (p0 &&& (3 : Int32)), vi (g0_11 p0), vi (own_b16 p0), vi (own_b32 p0), vi (own_b64 p0), vi (own_b128 p0), vi (g0_74 p0), vi (g0_90 p0 p2), vr b14, vr b19, vr b27, vr b35, vr b139, vr b284, vr b311, su] [])
       refine fC X324 hx hby at_449 rfl ?_
       refine Fini.st (fun _ k => XS.goto X324.here hx rfl (pc0 := 450) (pc' := 454) rfl (hb hby at_450) (by decide) (by decide) k) ?_
       refine Fini.st (fun _ k => XS.istore X324.here hx rfl (hb hby at_454) rfl (l' := #[vi p0, vi p1, vi p2, vi (p0 &&& (3 : Int32)), vi (g0_11 p0), vi (own_b16 p0), vi (own_b32 p0), vi (own_b64 p0), vi (own_b128 p0), vi (g0_74 p0), vi (g0_90 p0 p2), vr b14, vr b19, vr b27, vr b35, vr b139, vr b284, vr b311, vi (1 : Int32)]) rfl k) ?_
       refine fA X324 hx hby at_456 rfl rfl rfl ?_
       refine fIN X324 hx hby at_458 rfl rfl ?_
       refine fI X324 hx hby at_459 rfl rfl ?_
       have Ex_364 : Exa Z T324.heap b311 kLo := (Ex_326.keep K324)
       obtain ⟨T363, X363, e363, st363⟩ := pureV X324 hx hZ hown (wq hw (i := 282) rfl) (wq hw (i := 283) rfl) (wq hw (i := 285) rfl) (wq hw (i := 284) rfl) (wq hw (i := 99) rfl) (wq hw (i := 286) rfl) (notFace_of_selects (args := #[]) (mvT hZ (wq hw (i := 285) rfl))) Ex_364 (by decide) (rm36 l Z a0 hw [] b311 p1 (g0_90 p0 p2) ob324 ya339 (z306_n_L_b139 + z347_n_L_b284) w324 yn339 yv339 T324.heap Fo324 Ao324 yA339 hi339.1 hi339.2 yq339 yh339) rfl (W := 0) (by decide) (by decide) (by decide) (by decide) (g := (mkF m 461 #[vi p0, vi p1, vi p2, vi (p0 &&& (3 : Int32)), vi (g0_11 p0), vi (own_b16 p0), vi (own_b32 p0), vi (own_b64 p0), vi (own_b128 p0), vi (g0_74 p0), vi (g0_90 p0 p2), vr b14, vr b19, vr b27, vr b35, vr b139, vr b284, vr b311, vi (1 : Int32)] [(.int (g0_90 p0 p2)), (.int p1), (.ref b311)])) rfl (by rw [hml]; rfl) (argsL := [(.int p1), (.int (g0_90 p0 p2))]) (rest := []) rfl (lenOf pd_27 rfl) rfl (by show 2 * 0 + _ ≤ _; exact Nat.le_of_eq rfl) (hb hby at_461)
       refine Fini.st st363 ?_
       show Fini _ _ _ _ _ _ _ T363 (mkF m 464 #[vi p0, vi p1, vi p2, vi (p0 &&& (3 : Int32)), vi (g0_11 p0), vi (own_b16 p0), vi (own_b32 p0), vi (own_b64 p0), vi (own_b128 p0), vi (g0_74 p0), vi (g0_90 p0 p2), vr b14, vr b19, vr b27, vr b35, vr b139, vr b284, vr b311, vi (1 : Int32)] [(.int (f36 p1 (g0_90 p0 p2) (z306_n_L_b139 + z347_n_L_b284) w324 yn339 yv339))])
       refine fI X363 hx hby at_464 rfl rfl ?_
       show Fini _ _ _ _ _ _ _ T363 (mkF m 466 #[vi p0, vi p1, vi p2, vi (p0 &&& (3 : Int32)), vi (g0_11 p0), vi (own_b16 p0), vi (own_b32 p0), vi (own_b64 p0), vi (own_b128 p0), vi (g0_74 p0), vi (g0_90 p0 p2), vr b14, vr b19, vr b27, vr b35, vr b139, vr b284, vr b311, vi (1 : Int32)] [(.int (1 : Int32)), (.int (f36 p1 (g0_90 p0 p2) (z306_n_L_b139 + z347_n_L_b284) w324 yn339 yv339))])
       refine Fini.st (fun _ k => XS.icmpNo X363.here hx rfl (hb hby at_466) rfl (XT.ii_ne_f ((own_f36 (p2 := (g0_90 p0 p2)) yh339 ym339).1 (Or.inl ⟨c340, own_s2 (own_i2 c340 c341 c344 (own_g3 p0).2 (own_i10 p0 p2 cy347_nz).1) (Or.inl ⟨c353, c362⟩)⟩))) k) ?_
       show Fini _ _ _ _ _ _ _ T363 (mkF m 469 #[vi p0, vi p1, vi p2, vi (p0 &&& (3 : Int32)), vi (g0_11 p0), vi (own_b16 p0), vi (own_b32 p0), vi (own_b64 p0), vi (own_b128 p0), vi (g0_74 p0), vi (g0_90 p0 p2), vr b14, vr b19, vr b27, vr b35, vr b139, vr b284, vr b311, vi (1 : Int32)] [])
       refine fC X363 hx hby at_469 rfl ?_
       refine Fini.st (fun _ k => XS.goto X363.here hx rfl (pc0 := 470) (pc' := 474) rfl (hb hby at_470) (by decide) (by decide) k) ?_
       exact Fini.retN X363 hx hlk (t := .boolean) Bd.returns (by simp) (hb hby at_474) nb1 (by decide) (by decide) ⟨rfl, N324⟩
      ·
       refine Fini.st (fun _ k => XS.ifNo X324.here hx rfl (hb hby at_436) rfl (XT.i0_eq_f c362) k) ?_
       show Fini _ _ _ _ _ _ _ T324 (mkF m 439 #[vi p0, vi p1, vi p2, vi (p0 &&& (3 : Int32)), vi (g0_11 p0), vi (own_b16 p0), vi (own_b32 p0), vi (own_b64 p0), vi (own_b128 p0), vi (g0_74 p0), vi (g0_90 p0 p2), vr b14, vr b19, vr b27, vr b35, vr b139, vr b284, vr b311, su] [])
       refine fI X324 hx hby at_439 rfl rfl ?_
       show Fini _ _ _ _ _ _ _ T324 (mkF m 441 #[vi p0, vi p1, vi p2, vi (p0 &&& (3 : Int32)), vi (g0_11 p0), vi (own_b16 p0), vi (own_b32 p0), vi (own_b64 p0), vi (own_b128 p0), vi (g0_74 p0), vi (g0_90 p0 p2), vr b14, vr b19, vr b27, vr b35, vr b139, vr b284, vr b311, su] [(.int (own_b64 p0))])
       by_cases c365 : (own_b64 p0) = (0 : Int32)
       ·
        refine Fini.st (fun _ k => XS.ifYes X324.here hx rfl (pc0 := 441) (pc' := 453) rfl (hb hby at_441) rfl (XT.i0_eq_t c365) (by decide) (by decide) k) ?_
        show Fini _ _ _ _ _ _ _ T324 (mkF m 453 #[vi p0, vi p1, vi p2, vi (p0 &&& (3 : Int32)), vi (g0_11 p0), vi (own_b16 p0), vi (own_b32 p0), vi (own_b64 p0), vi (own_b128 p0), vi (g0_74 p0), vi (g0_90 p0 p2), vr b14, vr b19, vr b27, vr b35, vr b139, vr b284, vr b311, su] [])
        refine fC X324 hx hby at_453 rfl ?_
        refine Fini.st (fun _ k => XS.istore X324.here hx rfl (hb hby at_454) rfl (l' := #[vi p0, vi p1, vi p2, vi (p0 &&& (3 : Int32)), vi (g0_11 p0), vi (own_b16 p0), vi (own_b32 p0), vi (own_b64 p0), vi (own_b128 p0), vi (g0_74 p0), vi (g0_90 p0 p2), vr b14, vr b19, vr b27, vr b35, vr b139, vr b284, vr b311, vi (0 : Int32)]) rfl k) ?_
        refine fA X324 hx hby at_456 rfl rfl rfl ?_
        refine fIN X324 hx hby at_458 rfl rfl ?_
        refine fI X324 hx hby at_459 rfl rfl ?_
        have Ex_367 : Exa Z T324.heap b311 kLo := (Ex_326.keep K324)
        obtain ⟨T366, X366, e366, st366⟩ := pureV X324 hx hZ hown (wq hw (i := 282) rfl) (wq hw (i := 283) rfl) (wq hw (i := 285) rfl) (wq hw (i := 284) rfl) (wq hw (i := 99) rfl) (wq hw (i := 286) rfl) (notFace_of_selects (args := #[]) (mvT hZ (wq hw (i := 285) rfl))) Ex_367 (by decide) (rm36 l Z a0 hw [] b311 p1 (g0_90 p0 p2) ob324 ya339 (z306_n_L_b139 + z347_n_L_b284) w324 yn339 yv339 T324.heap Fo324 Ao324 yA339 hi339.1 hi339.2 yq339 yh339) rfl (W := 0) (by decide) (by decide) (by decide) (by decide) (g := (mkF m 461 #[vi p0, vi p1, vi p2, vi (p0 &&& (3 : Int32)), vi (g0_11 p0), vi (own_b16 p0), vi (own_b32 p0), vi (own_b64 p0), vi (own_b128 p0), vi (g0_74 p0), vi (g0_90 p0 p2), vr b14, vr b19, vr b27, vr b35, vr b139, vr b284, vr b311, vi (0 : Int32)] [(.int (g0_90 p0 p2)), (.int p1), (.ref b311)])) rfl (by rw [hml]; rfl) (argsL := [(.int p1), (.int (g0_90 p0 p2))]) (rest := []) rfl (lenOf pd_27 rfl) rfl (by show 2 * 0 + _ ≤ _; exact Nat.le_of_eq rfl) (hb hby at_461)
        refine Fini.st st366 ?_
        show Fini _ _ _ _ _ _ _ T366 (mkF m 464 #[vi p0, vi p1, vi p2, vi (p0 &&& (3 : Int32)), vi (g0_11 p0), vi (own_b16 p0), vi (own_b32 p0), vi (own_b64 p0), vi (own_b128 p0), vi (g0_74 p0), vi (g0_90 p0 p2), vr b14, vr b19, vr b27, vr b35, vr b139, vr b284, vr b311, vi (0 : Int32)] [(.int (f36 p1 (g0_90 p0 p2) (z306_n_L_b139 + z347_n_L_b284) w324 yn339 yv339))])
        refine fI X366 hx hby at_464 rfl rfl ?_
        show Fini _ _ _ _ _ _ _ T366 (mkF m 466 #[vi p0, vi p1, vi p2, vi (p0 &&& (3 : Int32)), vi (g0_11 p0), vi (own_b16 p0), vi (own_b32 p0), vi (own_b64 p0), vi (own_b128 p0), vi (g0_74 p0), vi (g0_90 p0 p2), vr b14, vr b19, vr b27, vr b35, vr b139, vr b284, vr b311, vi (0 : Int32)] [(.int (0 : Int32)), (.int (f36 p1 (g0_90 p0 p2) (z306_n_L_b139 + z347_n_L_b284) w324 yn339 yv339))])
        refine Fini.st (fun _ k => XS.icmpNo X366.here hx rfl (hb hby at_466) rfl (XT.ii_ne_f ((own_f36 (p2 := (g0_90 p0 p2)) yh339 ym339).2 (fun q => q.elim (fun r => own_s2n (own_i2 c340 c341 c344 (own_g3 p0).2 (own_i10 p0 p2 cy347_nz).1) (fun q => q.elim (fun r => c362 r.2) (fun r => r.1 c365)) r.2) (fun r => r.1 c340)))) k) ?_
        show Fini _ _ _ _ _ _ _ T366 (mkF m 469 #[vi p0, vi p1, vi p2, vi (p0 &&& (3 : Int32)), vi (g0_11 p0), vi (own_b16 p0), vi (own_b32 p0), vi (own_b64 p0), vi (own_b128 p0), vi (g0_74 p0), vi (g0_90 p0 p2), vr b14, vr b19, vr b27, vr b35, vr b139, vr b284, vr b311, vi (0 : Int32)] [])
        refine fC X366 hx hby at_469 rfl ?_
        refine Fini.st (fun _ k => XS.goto X366.here hx rfl (pc0 := 470) (pc' := 474) rfl (hb hby at_470) (by decide) (by decide) k) ?_
        exact Fini.retN X366 hx hlk (t := .boolean) Bd.returns (by simp) (hb hby at_474) nb1 (by decide) (by decide) ⟨rfl, N324⟩
       ·
        refine Fini.st (fun _ k => XS.ifNo X324.here hx rfl (hb hby at_441) rfl (XT.i0_eq_f c365) k) ?_
        show Fini _ _ _ _ _ _ _ T324 (mkF m 444 #[vi p0, vi p1, vi p2, vi (p0 &&& (3 : Int32)), vi (g0_11 p0), vi (own_b16 p0), vi (own_b32 p0), vi (own_b64 p0), vi (own_b128 p0), vi (g0_74 p0), vi (g0_90 p0 p2), vr b14, vr b19, vr b27, vr b35, vr b139, vr b284, vr b311, su] [])
        refine fIN X324 hx hby at_444 rfl rfl ?_
        refine fC X324 hx hby at_445 rfl ?_
        show Fini _ _ _ _ _ _ _ T324 (mkF m 446 #[vi p0, vi p1, vi p2, vi (p0 &&& (3 : Int32)), vi (g0_11 p0), vi (own_b16 p0), vi (own_b32 p0), vi (own_b64 p0), vi (own_b128 p0), vi (g0_74 p0), vi (g0_90 p0 p2), vr b14, vr b19, vr b27, vr b35, vr b139, vr b284, vr b311, su] [(.int (1 : Int32)), (.int p1)])
        by_cases c368 : p1 = (1 : Int32)
        ·
         refine Fini.st (fun _ k => XS.icmpNo X324.here hx rfl (hb hby at_446) rfl (XT.ii_ne_f c368) k) ?_
         show Fini _ _ _ _ _ _ _ T324 (mkF m 449 #[vi p0, vi p1, vi p2, vi (p0 &&& (3 : Int32)), vi (g0_11 p0), vi (own_b16 p0), vi (own_b32 p0), vi (own_b64 p0), vi (own_b128 p0), vi (g0_74 p0), vi (g0_90 p0 p2), vr b14, vr b19, vr b27, vr b35, vr b139, vr b284, vr b311, su] [])
         refine fC X324 hx hby at_449 rfl ?_
         refine Fini.st (fun _ k => XS.goto X324.here hx rfl (pc0 := 450) (pc' := 454) rfl (hb hby at_450) (by decide) (by decide) k) ?_
         refine Fini.st (fun _ k => XS.istore X324.here hx rfl (hb hby at_454) rfl (l' := #[vi p0, vi p1, vi p2, vi (p0 &&& (3 : Int32)), vi (g0_11 p0), vi (own_b16 p0), vi (own_b32 p0), vi (own_b64 p0), vi (own_b128 p0), vi (g0_74 p0), vi (g0_90 p0 p2), vr b14, vr b19, vr b27, vr b35, vr b139, vr b284, vr b311, vi (1 : Int32)]) rfl k) ?_
         refine fA X324 hx hby at_456 rfl rfl rfl ?_
         refine fIN X324 hx hby at_458 rfl rfl ?_
         refine fI X324 hx hby at_459 rfl rfl ?_
         have Ex_370 : Exa Z T324.heap b311 kLo := (Ex_326.keep K324)
         obtain ⟨T369, X369, e369, st369⟩ := pureV X324 hx hZ hown (wq hw (i := 282) rfl) (wq hw (i := 283) rfl) (wq hw (i := 285) rfl) (wq hw (i := 284) rfl) (wq hw (i := 99) rfl) (wq hw (i := 286) rfl) (notFace_of_selects (args := #[]) (mvT hZ (wq hw (i := 285) rfl))) Ex_370 (by decide) (rm36 l Z a0 hw [] b311 p1 (g0_90 p0 p2) ob324 ya339 (z306_n_L_b139 + z347_n_L_b284) w324 yn339 yv339 T324.heap Fo324 Ao324 yA339 hi339.1 hi339.2 yq339 yh339) rfl (W := 0) (by decide) (by decide) (by decide) (by decide) (g := (mkF m 461 #[vi p0, vi p1, vi p2, vi (p0 &&& (3 : Int32)), vi (g0_11 p0), vi (own_b16 p0), vi (own_b32 p0), vi (own_b64 p0), vi (own_b128 p0), vi (g0_74 p0), vi (g0_90 p0 p2), vr b14, vr b19, vr b27, vr b35, vr b139, vr b284, vr b311, vi (1 : Int32)] [(.int (g0_90 p0 p2)), (.int p1), (.ref b311)])) rfl (by rw [hml]; rfl) (argsL := [(.int p1), (.int (g0_90 p0 p2))]) (rest := []) rfl (lenOf pd_27 rfl) rfl (by show 2 * 0 + _ ≤ _; exact Nat.le_of_eq rfl) (hb hby at_461)
         refine Fini.st st369 ?_
         show Fini _ _ _ _ _ _ _ T369 (mkF m 464 #[vi p0, vi p1, vi p2, vi (p0 &&& (3 : Int32)), vi (g0_11 p0), vi (own_b16 p0), vi (own_b32 p0), vi (own_b64 p0), vi (own_b128 p0), vi (g0_74 p0), vi (g0_90 p0 p2), vr b14, vr b19, vr b27, vr b35, vr b139, vr b284, vr b311, vi (1 : Int32)] [(.int (f36 p1 (g0_90 p0 p2) (z306_n_L_b139 + z347_n_L_b284) w324 yn339 yv339))])
         refine fI X369 hx hby at_464 rfl rfl ?_
         show Fini _ _ _ _ _ _ _ T369 (mkF m 466 #[vi p0, vi p1, vi p2, vi (p0 &&& (3 : Int32)), vi (g0_11 p0), vi (own_b16 p0), vi (own_b32 p0), vi (own_b64 p0), vi (own_b128 p0), vi (g0_74 p0), vi (g0_90 p0 p2), vr b14, vr b19, vr b27, vr b35, vr b139, vr b284, vr b311, vi (1 : Int32)] [(.int (1 : Int32)), (.int (f36 p1 (g0_90 p0 p2) (z306_n_L_b139 + z347_n_L_b284) w324 yn339 yv339))])
         refine Fini.st (fun _ k => XS.icmpNo X369.here hx rfl (hb hby at_466) rfl (XT.ii_ne_f ((own_f36 (p2 := (g0_90 p0 p2)) yh339 ym339).1 (Or.inl ⟨c340, own_s2 (own_i2 c340 c341 c344 (own_g3 p0).2 (own_i10 p0 p2 cy347_nz).1) (Or.inr ⟨c365, c368⟩)⟩))) k) ?_
         show Fini _ _ _ _ _ _ _ T369 (mkF m 469 #[vi p0, vi p1, vi p2, vi (p0 &&& (3 : Int32)), vi (g0_11 p0), vi (own_b16 p0), vi (own_b32 p0), vi (own_b64 p0), vi (own_b128 p0), vi (g0_74 p0), vi (g0_90 p0 p2), vr b14, vr b19, vr b27, vr b35, vr b139, vr b284, vr b311, vi (1 : Int32)] [])
         refine fC X369 hx hby at_469 rfl ?_
         refine Fini.st (fun _ k => XS.goto X369.here hx rfl (pc0 := 470) (pc' := 474) rfl (hb hby at_470) (by decide) (by decide) k) ?_
         exact Fini.retN X369 hx hlk (t := .boolean) Bd.returns (by simp) (hb hby at_474) nb1 (by decide) (by decide) ⟨rfl, N324⟩
        ·
         refine Fini.st (fun _ k => XS.icmpYes X324.here hx rfl (pc0 := 446) (pc' := 453) rfl (hb hby at_446) rfl (XT.ii_ne_t c368) (by decide) (by decide) k) ?_
         show Fini _ _ _ _ _ _ _ T324 (mkF m 453 #[vi p0, vi p1, vi p2, vi (p0 &&& (3 : Int32)), vi (g0_11 p0), vi (own_b16 p0), vi (own_b32 p0), vi (own_b64 p0), vi (own_b128 p0), vi (g0_74 p0), vi (g0_90 p0 p2), vr b14, vr b19, vr b27, vr b35, vr b139, vr b284, vr b311, su] [])
         refine fC X324 hx hby at_453 rfl ?_
         refine Fini.st (fun _ k => XS.istore X324.here hx rfl (hb hby at_454) rfl (l' := #[vi p0, vi p1, vi p2, vi (p0 &&& (3 : Int32)), vi (g0_11 p0), vi (own_b16 p0), vi (own_b32 p0), vi (own_b64 p0), vi (own_b128 p0), vi (g0_74 p0), vi (g0_90 p0 p2), vr b14, vr b19, vr b27, vr b35, vr b139, vr b284, vr b311, vi (0 : Int32)]) rfl k) ?_
         refine fA X324 hx hby at_456 rfl rfl rfl ?_
         refine fIN X324 hx hby at_458 rfl rfl ?_
         refine fI X324 hx hby at_459 rfl rfl ?_
         have Ex_372 : Exa Z T324.heap b311 kLo := (Ex_326.keep K324)
         obtain ⟨T371, X371, e371, st371⟩ := pureV X324 hx hZ hown (wq hw (i := 282) rfl) (wq hw (i := 283) rfl) (wq hw (i := 285) rfl) (wq hw (i := 284) rfl) (wq hw (i := 99) rfl) (wq hw (i := 286) rfl) (notFace_of_selects (args := #[]) (mvT hZ (wq hw (i := 285) rfl))) Ex_372 (by decide) (rm36 l Z a0 hw [] b311 p1 (g0_90 p0 p2) ob324 ya339 (z306_n_L_b139 + z347_n_L_b284) w324 yn339 yv339 T324.heap Fo324 Ao324 yA339 hi339.1 hi339.2 yq339 yh339) rfl (W := 0) (by decide) (by decide) (by decide) (by decide) (g := (mkF m 461 #[vi p0, vi p1, vi p2, vi (p0 &&& (3 : Int32)), vi (g0_11 p0), vi (own_b16 p0), vi (own_b32 p0), vi (own_b64 p0), vi (own_b128 p0), vi (g0_74 p0), vi (g0_90 p0 p2), vr b14, vr b19, vr b27, vr b35, vr b139, vr b284, vr b311, vi (0 : Int32)] [(.int (g0_90 p0 p2)), (.int p1), (.ref b311)])) rfl (by rw [hml]; rfl) (argsL := [(.int p1), (.int (g0_90 p0 p2))]) (rest := []) rfl (lenOf pd_27 rfl) rfl (by show 2 * 0 + _ ≤ _; exact Nat.le_of_eq rfl) (hb hby at_461)
         refine Fini.st st371 ?_
         show Fini _ _ _ _ _ _ _ T371 (mkF m 464 #[vi p0, vi p1, vi p2, vi (p0 &&& (3 : Int32)), vi (g0_11 p0), vi (own_b16 p0), vi (own_b32 p0), vi (own_b64 p0), vi (own_b128 p0), vi (g0_74 p0), vi (g0_90 p0 p2), vr b14, vr b19, vr b27, vr b35, vr b139, vr b284, vr b311, vi (0 : Int32)] [(.int (f36 p1 (g0_90 p0 p2) (z306_n_L_b139 + z347_n_L_b284) w324 yn339 yv339))])
         refine fI X371 hx hby at_464 rfl rfl ?_
         show Fini _ _ _ _ _ _ _ T371 (mkF m 466 #[vi p0, vi p1, vi p2, vi (p0 &&& (3 : Int32)), vi (g0_11 p0), vi (own_b16 p0), vi (own_b32 p0), vi (own_b64 p0), vi (own_b128 p0), vi (g0_74 p0), vi (g0_90 p0 p2), vr b14, vr b19, vr b27, vr b35, vr b139, vr b284, vr b311, vi (0 : Int32)] [(.int (0 : Int32)), (.int (f36 p1 (g0_90 p0 p2) (z306_n_L_b139 + z347_n_L_b284) w324 yn339 yv339))])
         refine Fini.st (fun _ k => XS.icmpNo X371.here hx rfl (hb hby at_466) rfl (XT.ii_ne_f ((own_f36 (p2 := (g0_90 p0 p2)) yh339 ym339).2 (fun q => q.elim (fun r => own_s2n (own_i2 c340 c341 c344 (own_g3 p0).2 (own_i10 p0 p2 cy347_nz).1) (fun q => q.elim (fun r => c362 r.2) (fun r => c368 r.2)) r.2) (fun r => r.1 c340)))) k) ?_
         show Fini _ _ _ _ _ _ _ T371 (mkF m 469 #[vi p0, vi p1, vi p2, vi (p0 &&& (3 : Int32)), vi (g0_11 p0), vi (own_b16 p0), vi (own_b32 p0), vi (own_b64 p0), vi (own_b128 p0), vi (g0_74 p0), vi (g0_90 p0 p2), vr b14, vr b19, vr b27, vr b35, vr b139, vr b284, vr b311, vi (0 : Int32)] [])
         refine fC X371 hx hby at_469 rfl ?_
         refine Fini.st (fun _ k => XS.goto X371.here hx rfl (pc0 := 470) (pc' := 474) rfl (hb hby at_470) (by decide) (by decide) k) ?_
         exact Fini.retN X371 hx hlk (t := .boolean) Bd.returns (by simp) (hb hby at_474) nb1 (by decide) (by decide) ⟨rfl, N324⟩
  ·
   refine Fini.st (fun _ k => XS.icmpNo X324.here hx rfl (hb hby at_372) rfl (XT.ii_lt_f c340) k) ?_
   show Fini _ _ _ _ _ _ _ T324 (mkF m 375 #[vi p0, vi p1, vi p2, vi (p0 &&& (3 : Int32)), vi (g0_11 p0), vi (own_b16 p0), vi (own_b32 p0), vi (own_b64 p0), vi (own_b128 p0), vi (g0_74 p0), vi (g0_90 p0 p2), vr b14, vr b19, vr b27, vr b35, vr b139, vr b284, vr b311, su] [])
   refine fIN X324 hx hby at_375 rfl rfl ?_
   show Fini _ _ _ _ _ _ _ T324 (mkF m 376 #[vi p0, vi p1, vi p2, vi (p0 &&& (3 : Int32)), vi (g0_11 p0), vi (own_b16 p0), vi (own_b32 p0), vi (own_b64 p0), vi (own_b128 p0), vi (g0_74 p0), vi (g0_90 p0 p2), vr b14, vr b19, vr b27, vr b35, vr b139, vr b284, vr b311, su] [(.int p1)])
   by_cases c373 : p1 < (0 : Int32)
   ·
    refine Fini.st (fun _ k => XS.ifYes X324.here hx rfl (pc0 := 376) (pc' := 388) rfl (hb hby at_376) rfl (XT.i0_lt_t c373) (by decide) (by decide) k) ?_
    show Fini _ _ _ _ _ _ _ T324 (mkF m 388 #[vi p0, vi p1, vi p2, vi (p0 &&& (3 : Int32)), vi (g0_11 p0), vi (own_b16 p0), vi (own_b32 p0), vi (own_b64 p0), vi (own_b128 p0), vi (g0_74 p0), vi (g0_90 p0 p2), vr b14, vr b19, vr b27, vr b35, vr b139, vr b284, vr b311, su] [])
    refine fC X324 hx hby at_388 rfl ?_
    refine Fini.st (fun _ k => XS.istore X324.here hx rfl (hb hby at_389) rfl (l' := #[vi p0, vi p1, vi p2, vi (p0 &&& (3 : Int32)), vi (g0_11 p0), vi (own_b16 p0), vi (own_b32 p0), vi (own_b64 p0), vi (own_b128 p0), vi (g0_74 p0), vi (g0_90 p0 p2), vr b14, vr b19, vr b27, vr b35, vr b139, vr b284, vr b311, vi (0 : Int32)]) rfl k) ?_
    refine Fini.st (fun _ k => XS.goto X324.here hx rfl (pc0 := 391) (pc' := 456) rfl (hb hby at_391) (by decide) (by decide) k) ?_
    refine fA X324 hx hby at_456 rfl rfl rfl ?_
    refine fIN X324 hx hby at_458 rfl rfl ?_
    refine fI X324 hx hby at_459 rfl rfl ?_
    have Ex_375 : Exa Z T324.heap b311 kLo := (Ex_326.keep K324)
    obtain ⟨T374, X374, e374, st374⟩ := pureV X324 hx hZ hown (wq hw (i := 282) rfl) (wq hw (i := 283) rfl) (wq hw (i := 285) rfl) (wq hw (i := 284) rfl) (wq hw (i := 99) rfl) (wq hw (i := 286) rfl) (notFace_of_selects (args := #[]) (mvT hZ (wq hw (i := 285) rfl))) Ex_375 (by decide) (rm36 l Z a0 hw [] b311 p1 (g0_90 p0 p2) ob324 ya339 (z306_n_L_b139 + z347_n_L_b284) w324 yn339 yv339 T324.heap Fo324 Ao324 yA339 hi339.1 hi339.2 yq339 yh339) rfl (W := 0) (by decide) (by decide) (by decide) (by decide) (g := (mkF m 461 #[vi p0, vi p1, vi p2, vi (p0 &&& (3 : Int32)), vi (g0_11 p0), vi (own_b16 p0), vi (own_b32 p0), vi (own_b64 p0), vi (own_b128 p0), vi (g0_74 p0), vi (g0_90 p0 p2), vr b14, vr b19, vr b27, vr b35, vr b139, vr b284, vr b311, vi (0 : Int32)] [(.int (g0_90 p0 p2)), (.int p1), (.ref b311)])) rfl (by rw [hml]; rfl) (argsL := [(.int p1), (.int (g0_90 p0 p2))]) (rest := []) rfl (lenOf pd_27 rfl) rfl (by show 2 * 0 + _ ≤ _; exact Nat.le_of_eq rfl) (hb hby at_461)
    refine Fini.st st374 ?_
    show Fini _ _ _ _ _ _ _ T374 (mkF m 464 #[vi p0, vi p1, vi p2, vi (p0 &&& (3 : Int32)), vi (g0_11 p0), vi (own_b16 p0), vi (own_b32 p0), vi (own_b64 p0), vi (own_b128 p0), vi (g0_74 p0), vi (g0_90 p0 p2), vr b14, vr b19, vr b27, vr b35, vr b139, vr b284, vr b311, vi (0 : Int32)] [(.int (f36 p1 (g0_90 p0 p2) (z306_n_L_b139 + z347_n_L_b284) w324 yn339 yv339))])
    refine fI X374 hx hby at_464 rfl rfl ?_
    show Fini _ _ _ _ _ _ _ T374 (mkF m 466 #[vi p0, vi p1, vi p2, vi (p0 &&& (3 : Int32)), vi (g0_11 p0), vi (own_b16 p0), vi (own_b32 p0), vi (own_b64 p0), vi (own_b128 p0), vi (g0_74 p0), vi (g0_90 p0 p2), vr b14, vr b19, vr b27, vr b35, vr b139, vr b284, vr b311, vi (0 : Int32)] [(.int (0 : Int32)), (.int (f36 p1 (g0_90 p0 p2) (z306_n_L_b139 + z347_n_L_b284) w324 yn339 yv339))])
    refine Fini.st (fun _ k => XS.icmpNo X374.here hx rfl (hb hby at_466) rfl (XT.ii_ne_f ((own_f36 (p2 := (g0_90 p0 p2)) yh339 ym339).2 (fun q => q.elim (fun r => c340 r.1) (fun r => r.2.1 c373)))) k) ?_
    show Fini _ _ _ _ _ _ _ T374 (mkF m 469 #[vi p0, vi p1, vi p2, vi (p0 &&& (3 : Int32)), vi (g0_11 p0), vi (own_b16 p0), vi (own_b32 p0), vi (own_b64 p0), vi (own_b128 p0), vi (g0_74 p0), vi (g0_90 p0 p2), vr b14, vr b19, vr b27, vr b35, vr b139, vr b284, vr b311, vi (0 : Int32)] [])
    refine fC X374 hx hby at_469 rfl ?_
    refine Fini.st (fun _ k => XS.goto X374.here hx rfl (pc0 := 470) (pc' := 474) rfl (hb hby at_470) (by decide) (by decide) k) ?_
    exact Fini.retN X374 hx hlk (t := .boolean) Bd.returns (by simp) (hb hby at_474) nb1 (by decide) (by decide) ⟨rfl, N324⟩
   ·
    refine Fini.st (fun _ k => XS.ifNo X324.here hx rfl (hb hby at_376) rfl (XT.i0_lt_f c373) k) ?_
    show Fini _ _ _ _ _ _ _ T324 (mkF m 379 #[vi p0, vi p1, vi p2, vi (p0 &&& (3 : Int32)), vi (g0_11 p0), vi (own_b16 p0), vi (own_b32 p0), vi (own_b64 p0), vi (own_b128 p0), vi (g0_74 p0), vi (g0_90 p0 p2), vr b14, vr b19, vr b27, vr b35, vr b139, vr b284, vr b311, su] [])
    refine fIN X324 hx hby at_379 rfl rfl ?_
    refine fIN X324 hx hby at_380 rfl rfl ?_
    show Fini _ _ _ _ _ _ _ T324 (mkF m 381 #[vi p0, vi p1, vi p2, vi (p0 &&& (3 : Int32)), vi (g0_11 p0), vi (own_b16 p0), vi (own_b32 p0), vi (own_b64 p0), vi (own_b128 p0), vi (g0_74 p0), vi (g0_90 p0 p2), vr b14, vr b19, vr b27, vr b35, vr b139, vr b284, vr b311, su] [(.int (p0 &&& (3 : Int32))), (.int p1)])
    by_cases c376 : p1 < (p0 &&& (3 : Int32))
    ·
     refine Fini.st (fun _ k => XS.icmpNo X324.here hx rfl (hb hby at_381) rfl (XT.ii_ge_f c376) k) ?_
     show Fini _ _ _ _ _ _ _ T324 (mkF m 384 #[vi p0, vi p1, vi p2, vi (p0 &&& (3 : Int32)), vi (g0_11 p0), vi (own_b16 p0), vi (own_b32 p0), vi (own_b64 p0), vi (own_b128 p0), vi (g0_74 p0), vi (g0_90 p0 p2), vr b14, vr b19, vr b27, vr b35, vr b139, vr b284, vr b311, su] [])
     refine fC X324 hx hby at_384 rfl ?_
     refine Fini.st (fun _ k => XS.goto X324.here hx rfl (pc0 := 385) (pc' := 389) rfl (hb hby at_385) (by decide) (by decide) k) ?_
     refine Fini.st (fun _ k => XS.istore X324.here hx rfl (hb hby at_389) rfl (l' := #[vi p0, vi p1, vi p2, vi (p0 &&& (3 : Int32)), vi (g0_11 p0), vi (own_b16 p0), vi (own_b32 p0), vi (own_b64 p0), vi (own_b128 p0), vi (g0_74 p0), vi (g0_90 p0 p2), vr b14, vr b19, vr b27, vr b35, vr b139, vr b284, vr b311, vi (1 : Int32)]) rfl k) ?_
     refine Fini.st (fun _ k => XS.goto X324.here hx rfl (pc0 := 391) (pc' := 456) rfl (hb hby at_391) (by decide) (by decide) k) ?_
     refine fA X324 hx hby at_456 rfl rfl rfl ?_
     refine fIN X324 hx hby at_458 rfl rfl ?_
     refine fI X324 hx hby at_459 rfl rfl ?_
     have Ex_378 : Exa Z T324.heap b311 kLo := (Ex_326.keep K324)
     obtain ⟨T377, X377, e377, st377⟩ := pureV X324 hx hZ hown (wq hw (i := 282) rfl) (wq hw (i := 283) rfl) (wq hw (i := 285) rfl) (wq hw (i := 284) rfl) (wq hw (i := 99) rfl) (wq hw (i := 286) rfl) (notFace_of_selects (args := #[]) (mvT hZ (wq hw (i := 285) rfl))) Ex_378 (by decide) (rm36 l Z a0 hw [] b311 p1 (g0_90 p0 p2) ob324 ya339 (z306_n_L_b139 + z347_n_L_b284) w324 yn339 yv339 T324.heap Fo324 Ao324 yA339 hi339.1 hi339.2 yq339 yh339) rfl (W := 0) (by decide) (by decide) (by decide) (by decide) (g := (mkF m 461 #[vi p0, vi p1, vi p2, vi (p0 &&& (3 : Int32)), vi (g0_11 p0), vi (own_b16 p0), vi (own_b32 p0), vi (own_b64 p0), vi (own_b128 p0), vi (g0_74 p0), vi (g0_90 p0 p2), vr b14, vr b19, vr b27, vr b35, vr b139, vr b284, vr b311, vi (1 : Int32)] [(.int (g0_90 p0 p2)), (.int p1), (.ref b311)])) rfl (by rw [hml]; rfl) (argsL := [(.int p1), (.int (g0_90 p0 p2))]) (rest := []) rfl (lenOf pd_27 rfl) rfl (by show 2 * 0 + _ ≤ _; exact Nat.le_of_eq rfl) (hb hby at_461)
     refine Fini.st st377 ?_
     show Fini _ _ _ _ _ _ _ T377 (mkF m 464 #[vi p0, vi p1, vi p2, vi (p0 &&& (3 : Int32)), vi (g0_11 p0), vi (own_b16 p0), vi (own_b32 p0), vi (own_b64 p0), vi (own_b128 p0), vi (g0_74 p0), vi (g0_90 p0 p2), vr b14, vr b19, vr b27, vr b35, vr b139, vr b284, vr b311, vi (1 : Int32)] [(.int (f36 p1 (g0_90 p0 p2) (z306_n_L_b139 + z347_n_L_b284) w324 yn339 yv339))])
     refine fI X377 hx hby at_464 rfl rfl ?_
     show Fini _ _ _ _ _ _ _ T377 (mkF m 466 #[vi p0, vi p1, vi p2, vi (p0 &&& (3 : Int32)), vi (g0_11 p0), vi (own_b16 p0), vi (own_b32 p0), vi (own_b64 p0), vi (own_b128 p0), vi (g0_74 p0), vi (g0_90 p0 p2), vr b14, vr b19, vr b27, vr b35, vr b139, vr b284, vr b311, vi (1 : Int32)] [(.int (1 : Int32)), (.int (f36 p1 (g0_90 p0 p2) (z306_n_L_b139 + z347_n_L_b284) w324 yn339 yv339))])
     refine Fini.st (fun _ k => XS.icmpNo X377.here hx rfl (hb hby at_466) rfl (XT.ii_ne_f ((own_f36 (p2 := (g0_90 p0 p2)) yh339 ym339).1 (Or.inr ⟨c340, c373, c376⟩))) k) ?_
     show Fini _ _ _ _ _ _ _ T377 (mkF m 469 #[vi p0, vi p1, vi p2, vi (p0 &&& (3 : Int32)), vi (g0_11 p0), vi (own_b16 p0), vi (own_b32 p0), vi (own_b64 p0), vi (own_b128 p0), vi (g0_74 p0), vi (g0_90 p0 p2), vr b14, vr b19, vr b27, vr b35, vr b139, vr b284, vr b311, vi (1 : Int32)] [])
     refine fC X377 hx hby at_469 rfl ?_
     refine Fini.st (fun _ k => XS.goto X377.here hx rfl (pc0 := 470) (pc' := 474) rfl (hb hby at_470) (by decide) (by decide) k) ?_
     exact Fini.retN X377 hx hlk (t := .boolean) Bd.returns (by simp) (hb hby at_474) nb1 (by decide) (by decide) ⟨rfl, N324⟩
    ·
     refine Fini.st (fun _ k => XS.icmpYes X324.here hx rfl (pc0 := 381) (pc' := 388) rfl (hb hby at_381) rfl (XT.ii_ge_t c376) (by decide) (by decide) k) ?_
     show Fini _ _ _ _ _ _ _ T324 (mkF m 388 #[vi p0, vi p1, vi p2, vi (p0 &&& (3 : Int32)), vi (g0_11 p0), vi (own_b16 p0), vi (own_b32 p0), vi (own_b64 p0), vi (own_b128 p0), vi (g0_74 p0), vi (g0_90 p0 p2), vr b14, vr b19, vr b27, vr b35, vr b139, vr b284, vr b311, su] [])
     refine fC X324 hx hby at_388 rfl ?_
     refine Fini.st (fun _ k => XS.istore X324.here hx rfl (hb hby at_389) rfl (l' := #[vi p0, vi p1, vi p2, vi (p0 &&& (3 : Int32)), vi (g0_11 p0), vi (own_b16 p0), vi (own_b32 p0), vi (own_b64 p0), vi (own_b128 p0), vi (g0_74 p0), vi (g0_90 p0 p2), vr b14, vr b19, vr b27, vr b35, vr b139, vr b284, vr b311, vi (0 : Int32)]) rfl k) ?_
     refine Fini.st (fun _ k => XS.goto X324.here hx rfl (pc0 := 391) (pc' := 456) rfl (hb hby at_391) (by decide) (by decide) k) ?_
     refine fA X324 hx hby at_456 rfl rfl rfl ?_
     refine fIN X324 hx hby at_458 rfl rfl ?_
     refine fI X324 hx hby at_459 rfl rfl ?_
     have Ex_380 : Exa Z T324.heap b311 kLo := (Ex_326.keep K324)
     obtain ⟨T379, X379, e379, st379⟩ := pureV X324 hx hZ hown (wq hw (i := 282) rfl) (wq hw (i := 283) rfl) (wq hw (i := 285) rfl) (wq hw (i := 284) rfl) (wq hw (i := 99) rfl) (wq hw (i := 286) rfl) (notFace_of_selects (args := #[]) (mvT hZ (wq hw (i := 285) rfl))) Ex_380 (by decide) (rm36 l Z a0 hw [] b311 p1 (g0_90 p0 p2) ob324 ya339 (z306_n_L_b139 + z347_n_L_b284) w324 yn339 yv339 T324.heap Fo324 Ao324 yA339 hi339.1 hi339.2 yq339 yh339) rfl (W := 0) (by decide) (by decide) (by decide) (by decide) (g := (mkF m 461 #[vi p0, vi p1, vi p2, vi (p0 &&& (3 : Int32)), vi (g0_11 p0), vi (own_b16 p0), vi (own_b32 p0), vi (own_b64 p0), vi (own_b128 p0), vi (g0_74 p0), vi (g0_90 p0 p2), vr b14, vr b19, vr b27, vr b35, vr b139, vr b284, vr b311, vi (0 : Int32)] [(.int (g0_90 p0 p2)), (.int p1), (.ref b311)])) rfl (by rw [hml]; rfl) (argsL := [(.int p1), (.int (g0_90 p0 p2))]) (rest := []) rfl (lenOf pd_27 rfl) rfl (by show 2 * 0 + _ ≤ _; exact Nat.le_of_eq rfl) (hb hby at_461)
     refine Fini.st st379 ?_
     show Fini _ _ _ _ _ _ _ T379 (mkF m 464 #[vi p0, vi p1, vi p2, vi (p0 &&& (3 : Int32)), vi (g0_11 p0), vi (own_b16 p0), vi (own_b32 p0), vi (own_b64 p0), vi (own_b128 p0), vi (g0_74 p0), vi (g0_90 p0 p2), vr b14, vr b19, vr b27, vr b35, vr b139, vr b284, vr b311, vi (0 : Int32)] [(.int (f36 p1 (g0_90 p0 p2) (z306_n_L_b139 + z347_n_L_b284) w324 yn339 yv339))])
     refine fI X379 hx hby at_464 rfl rfl ?_
     show Fini _ _ _ _ _ _ _ T379 (mkF m 466 #[vi p0, vi p1, vi p2, vi (p0 &&& (3 : Int32)), vi (g0_11 p0), vi (own_b16 p0), vi (own_b32 p0), vi (own_b64 p0), vi (own_b128 p0), vi (g0_74 p0), vi (g0_90 p0 p2), vr b14, vr b19, vr b27, vr b35, vr b139, vr b284, vr b311, vi (0 : Int32)] [(.int (0 : Int32)), (.int (f36 p1 (g0_90 p0 p2) (z306_n_L_b139 + z347_n_L_b284) w324 yn339 yv339))])
     refine Fini.st (fun _ k => XS.icmpNo X379.here hx rfl (hb hby at_466) rfl (XT.ii_ne_f ((own_f36 (p2 := (g0_90 p0 p2)) yh339 ym339).2 (fun q => q.elim (fun r => c340 r.1) (fun r => c376 r.2.2)))) k) ?_
     show Fini _ _ _ _ _ _ _ T379 (mkF m 469 #[vi p0, vi p1, vi p2, vi (p0 &&& (3 : Int32)), vi (g0_11 p0), vi (own_b16 p0), vi (own_b32 p0), vi (own_b64 p0), vi (own_b128 p0), vi (g0_74 p0), vi (g0_90 p0 p2), vr b14, vr b19, vr b27, vr b35, vr b139, vr b284, vr b311, vi (0 : Int32)] [])
     refine fC X379 hx hby at_469 rfl ?_
     refine Fini.st (fun _ k => XS.goto X379.here hx rfl (pc0 := 470) (pc' := 474) rfl (hb hby at_470) (by decide) (by decide) k) ?_
     exact Fini.retN X379 hx hlk (t := .boolean) Bd.returns (by simp) (hb hby at_474) nb1 (by decide) (by decide) ⟨rfl, N324⟩
 have B306 : ∀ (T_306 : State) (h_306 : Heap) (locs : List Loc) (X_306 : Stand p l e room_1 s m #[(.int p0), (.int p1), (.int p2)] below meth c T_306 locs 17 88) (e_306 : T_306.heap = h_306) (b139 : Addr) (b14 : Addr) (b19 : Addr) (b27 : Addr) (b35 : Addr) (e15 : Addr) (z306_f_L_b139 : Nat → Value) (z306_n_L_b139 : Int32) (N_306 : Fr n0 locs) (H306_D : Old Z n0 h_306) (H306_Z : n0 ≤ h_306.size) (H306_E_b14 : Exa Z h_306 b14 kTr) (H306_L_b139 : ALs Z n0 dd h_306 b139 e15 z306_n_L_b139 z306_f_L_b139) (ne306_dd_b14 : dd ≠ b14) (ne306_dd_b139 : dd ≠ b139) (ne306_b14_b139 : b14 ≠ b139) (ne306_e15_b14 : e15 ≠ b14) (ne306_e15_b139 : e15 ≠ b139) (ge306_b139 : n0 ≤ b139) (ge306_b14 : n0 ≤ b14) (cy306_nz : ¬ (g0_74 p0) = (0 : Int32)) (cy306_te : b14 ≠ em) (cy306_mv : MV Z h_306 h_306.size b14 z306_n_L_b139 z306_f_L_b139 (own_S p0)) (cy306_k15 : z306_n_L_b139 = (p0 &&& (3 : Int32))), Fini p e below s (fun v h' L => v = some (.int 1) ∧ Fr n0 L) (Room.cells room_1) (Room.slots room_1) T_306 (mkF m 306 #[vi p0, vi p1, vi p2, vi (p0 &&& (3 : Int32)), vi (g0_11 p0), vi (own_b16 p0), vi (own_b32 p0), vi (own_b64 p0), vi (own_b128 p0), vi (g0_74 p0), vi (g0_90 p0 p2), vr b14, vr b19, vr b27, vr b35, vr b139, su, su, su] []) := by
  intro T_306 h_306 locs  X_306 e_306  b139 b14 b19 b27 b35 e15 z306_f_L_b139 z306_n_L_b139 N_306 H306_D H306_Z H306_E_b14 H306_L_b139 ne306_dd_b14 ne306_dd_b139 ne306_b14_b139 ne306_e15_b14 ne306_e15_b139 ge306_b139 ge306_b14 cy306_nz cy306_te cy306_mv cy306_k15
  obtain ⟨T284, h284, X284, e284, E284, A284, D284, -, st284⟩ := newO X_306 hx hZ hown (wq hw (i := 18) rfl) (wq hw (i := 19) rfl) (wq hw (i := 20) rfl) e_306 (g := (mkF m 306 #[vi p0, vi p1, vi p2, vi (p0 &&& (3 : Int32)), vi (g0_11 p0), vi (own_b16 p0), vi (own_b32 p0), vi (own_b64 p0), vi (own_b128 p0), vi (g0_74 p0), vi (g0_90 p0 p2), vr b14, vr b19, vr b27, vr b35, vr b139, su, su, su] [])) rfl (hb hby at_306) (by decide) (by decide)
  obtain ⟨b284, g284⟩ : ∃ z, z = h_306.size := ⟨_, rfl⟩
  rw [← g284] at A284 D284 st284
  have An_285 : AryQ Z h_306 dd (0 : Int32) := (A_dd.ext H306_D.2)
  have ne_dd_b284 : dd ≠ b284 := Nat.ne_of_lt (Nat.lt_of_lt_of_le An_285.lt (Nat.le_of_eq g284.symm))
  have ne_b14_b284 : b14 ≠ b284 := Nat.ne_of_lt (Nat.lt_of_lt_of_le H306_E_b14.lt (Nat.le_of_eq g284.symm))
  have ne_b139_b284 : b139 ≠ b284 := Nat.ne_of_lt (Nat.lt_of_lt_of_le H306_L_b139.lt (Nat.le_of_eq g284.symm))
  have ne_e15_b284 : e15 ≠ b284 := Nat.ne_of_lt (Nat.lt_of_lt_of_le H306_L_b139.lte (Nat.le_of_eq g284.symm))
  have ge_b284 : n0 ≤ b284 := Nat.le_trans H306_Z (Nat.le_of_eq g284.symm)
  have sz_b284 : h_306.size ≤ b284 := Nat.le_trans (Keep.refl h_306 []).1 (Nat.le_of_eq g284.symm)
  have Fn284_modCount : Fld Z h284 b284 "java/util/AbstractList" "modCount" "I" (.int (0 : Int32)) := D284 (Or.inl (wq hw (i := 38) rfl)) (ty := .int) (by decide)
  have Fn284_elementData : Fld Z h284 b284 "java/util/ArrayList" "elementData" "[Ljava/lang/Object;" .null := D284 (Or.inl (wq hw (i := 41) rfl)) (ty := (.array (.object "java/lang/Object"))) (by decide)
  have Fn284_size : Fld Z h284 b284 "java/util/ArrayList" "size" "I" (.int (0 : Int32)) := D284 (Or.inl (wq hw (i := 61) rfl)) (ty := .int) (by decide)
  refine Fini.st st284 ?_
  show Fini _ _ _ _ _ _ _ T284 (mkF m 309 #[vi p0, vi p1, vi p2, vi (p0 &&& (3 : Int32)), vi (g0_11 p0), vi (own_b16 p0), vi (own_b32 p0), vi (own_b64 p0), vi (own_b128 p0), vi (g0_74 p0), vi (g0_90 p0 p2), vr b14, vr b19, vr b27, vr b35, vr b139, su, su, su] [(.ref b284)])
  refine Fini.st (fun _ k => XS.dup X284.here hx rfl (hb hby at_309) rfl rfl k) ?_
  have Zs_287 : n0 ≤ h284.size := (Nat.le_trans H306_Z E284.1)
  have Od_288 : Old Z n0 h284 := (Old.ext H306_D E284)
  obtain ⟨v286, T286, L286, X286, hQ286, st286⟩ := callNew X284 hx hZ hown rfl (wq hw (i := 21) rfl) (wq hw (i := 22) rfl) (wq hw (i := 20) rfl) (wq hw (i := 23) rfl) (by decide) (rm3 l Z a0 hw [] b284 dd n0 (0 : Int32) h284 n0 Zs_287 A284 Fn284_modCount Fn284_size Fn284_elementData Od_288 S_dd A_dd ge_b284) e284 (W := 1) (by decide) (by decide) (by decide) (by decide) (g := (mkF m 310 #[vi p0, vi p1, vi p2, vi (p0 &&& (3 : Int32)), vi (g0_11 p0), vi (own_b16 p0), vi (own_b32 p0), vi (own_b64 p0), vi (own_b128 p0), vi (g0_74 p0), vi (g0_90 p0 p2), vr b14, vr b19, vr b27, vr b35, vr b139, su, su, su] [(.ref b284), (.ref b284)])) rfl (by rw [hml]; rfl) (argsL := []) (rest := [(.ref b284)]) rfl (lenOf pd_0 rfl) rfl (by show 2 * 0 + _ ≤ _; exact Nat.le_of_eq rfl) (hb hby at_310)
  obtain ⟨rfl, Nq286, K286, Al286⟩ := hQ286
  have N286 := Fr.app N_306 Nq286
  refine Fini.st st286 ?_
  show Fini _ _ _ _ _ _ _ T286 (mkF m 313 #[vi p0, vi p1, vi p2, vi (p0 &&& (3 : Int32)), vi (g0_11 p0), vi (own_b16 p0), vi (own_b32 p0), vi (own_b64 p0), vi (own_b128 p0), vi (g0_74 p0), vi (g0_90 p0 p2), vr b14, vr b19, vr b27, vr b35, vr b139, su, su, su] [(.ref b284)])
  refine Fini.st (fun _ k => XS.astore X286.here hx rfl (hb hby at_313) rfl rfl (l' := #[vi p0, vi p1, vi p2, vi (p0 &&& (3 : Int32)), vi (g0_11 p0), vi (own_b16 p0), vi (own_b32 p0), vi (own_b64 p0), vi (own_b128 p0), vi (g0_74 p0), vi (g0_90 p0 p2), vr b14, vr b19, vr b27, vr b35, vr b139, vr b284, su, su]) rfl k) ?_
  refine fI X286 hx hby at_315 rfl rfl ?_
  refine fC X286 hx hby at_317 rfl ?_
  show Fini _ _ _ _ _ _ _ T286 (mkF m 318 #[vi p0, vi p1, vi p2, vi (p0 &&& (3 : Int32)), vi (g0_11 p0), vi (own_b16 p0), vi (own_b32 p0), vi (own_b64 p0), vi (own_b128 p0), vi (g0_74 p0), vi (g0_90 p0 p2), vr b14, vr b19, vr b27, vr b35, vr b139, vr b284, su, su] [(.int (1 : Int32)), (.int (g0_11 p0))])
  by_cases c289 : (g0_11 p0) < (1 : Int32)
  ·
   refine Fini.st (fun _ k => XS.icmpYes X286.here hx rfl (pc0 := 318) (pc' := 331) rfl (hb hby at_318) rfl (XT.ii_lt_t c289) (by decide) (by decide) k) ?_
   show Fini _ _ _ _ _ _ _ T286 (mkF m 331 #[vi p0, vi p1, vi p2, vi (p0 &&& (3 : Int32)), vi (g0_11 p0), vi (own_b16 p0), vi (own_b32 p0), vi (own_b64 p0), vi (own_b128 p0), vi (g0_74 p0), vi (g0_90 p0 p2), vr b14, vr b19, vr b27, vr b35, vr b139, vr b284, su, su] [])
   refine fI X286 hx hby at_331 rfl rfl ?_
   refine fC X286 hx hby at_333 rfl ?_
   show Fini _ _ _ _ _ _ _ T286 (mkF m 334 #[vi p0, vi p1, vi p2, vi (p0 &&& (3 : Int32)), vi (g0_11 p0), vi (own_b16 p0), vi (own_b32 p0), vi (own_b64 p0), vi (own_b128 p0), vi (g0_74 p0), vi (g0_90 p0 p2), vr b14, vr b19, vr b27, vr b35, vr b139, vr b284, su, su] [(.int (2 : Int32)), (.int (g0_11 p0))])
   refine Fini.st (fun _ k => XS.icmpYes X286.here hx rfl (pc0 := 334) (pc' := 347) rfl (hb hby at_334) rfl (XT.ii_lt_t (Int32.lt_trans c289 (by decide))) (by decide) (by decide) k) ?_
   show Fini _ _ _ _ _ _ _ T286 (mkF m 347 #[vi p0, vi p1, vi p2, vi (p0 &&& (3 : Int32)), vi (g0_11 p0), vi (own_b16 p0), vi (own_b32 p0), vi (own_b64 p0), vi (own_b128 p0), vi (g0_74 p0), vi (g0_90 p0 p2), vr b14, vr b19, vr b27, vr b35, vr b139, vr b284, su, su] [])
   have ej290 : (g0_11 p0) = (0 : Int32) := (own_q0 (own_g4 p0).1 c289)
   have fj290 : FT 0 (fun _ => .null) b14 := (FT.zero _ _)
   obtain ⟨e16, q_e16⟩ : ∃ q, q = dd := ⟨_, rfl⟩
   have Al_e16_291 : ALs Z n0 dd T286.heap b284 e16 (0 : Int32) (fun _ => .null) := by rw [q_e16]; exact Al286
   have ne_e16_b14 : e16 ≠ b14 := by rw [q_e16]; exact ne306_dd_b14
   have ne_e16_b139 : e16 ≠ b139 := by rw [q_e16]; exact ne306_dd_b139
   have ne_e16_b284 : e16 ≠ b284 := by rw [q_e16]; exact ne_dd_b284
   have Od_381 : Old Z n0 T286.heap := (Old.keep Od_288 K286 (allS (P := fun x => n0 ≤ x) ge_b284 all0))
   have Zs_382 : n0 ≤ T286.heap.size := (Nat.le_trans Zs_287 K286.1)
   have Ex_383 : Exa Z T286.heap b14 kTr := ((H306_E_b14.ext E284).keep K286)
   have Al_384 : ALs Z n0 dd T286.heap b139 e15 z306_n_L_b139 z306_f_L_b139 := ((H306_L_b139.ext E284).keep K286 (ninS ne_b139_b284 nin0) (ninS ne_e15_b284 nin0))
   have Kp_385 : Keep h_306 T286.heap [] := (Keep.trans (Keep.ext (Keep.refl h_306 []) E284) K286 (allS (P := fun x => x ∈ _ ∨ _ ≤ x) (Or.inr sz_b284) all0))
   exact B347 T286 _ _ (X286.more (cells' := 20) (slots' := 111) (by decide) (by decide)) rfl h_306 b139 b14 b19 b27 b284 b35 e15 e16 (fun _ => .null) (0 : Int32) z306_f_L_b139 z306_n_L_b139 N286 Od_381 Zs_382 Ex_383 Al_384 Kp_385 Al_e16_291 ne306_dd_b14 ne306_dd_b139 ne306_b14_b139 ne306_e15_b14 ne306_e15_b139 ne_dd_b284 ne_b14_b284 ne_b139_b284 ne_e15_b284 ne_e16_b14 ne_e16_b139 ne_e16_b284 ge306_b139 ge306_b14 ge_b284 sz_b284 cy306_nz cy306_te cy306_mv cy306_k15 ej290.symm fj290
  ·
   refine Fini.st (fun _ k => XS.icmpNo X286.here hx rfl (hb hby at_318) rfl (XT.ii_lt_f c289) k) ?_
   show Fini _ _ _ _ _ _ _ T286 (mkF m 321 #[vi p0, vi p1, vi p2, vi (p0 &&& (3 : Int32)), vi (g0_11 p0), vi (own_b16 p0), vi (own_b32 p0), vi (own_b64 p0), vi (own_b128 p0), vi (g0_74 p0), vi (g0_90 p0 p2), vr b14, vr b19, vr b27, vr b35, vr b139, vr b284, su, su] [])
   refine fA X286 hx hby at_321 rfl rfl rfl ?_
   refine fA X286 hx hby at_323 rfl rfl rfl ?_
   have Zs_293 : n0 ≤ T286.heap.size := (Nat.le_trans Zs_287 K286.1)
   have Od_294 : Old Z n0 T286.heap := (Old.keep Od_288 K286 (allS (P := fun x => n0 ≤ x) ge_b284 all0))
   have Ex_295 : Exa Z T286.heap b14 kTr := ((H306_E_b14.ext E284).keep K286)
   obtain ⟨v292, T292, L292, X292, hQ292, st292⟩ := callI X286 hx hZ hown (wq hw (i := 65) rfl) (wq hw (i := 66) rfl) (wq hw (i := 67) rfl) (wq hw (i := 68) rfl) (wq hw (i := 69) rfl) (wq hw (i := 70) rfl) (wq hw (i := 71) rfl) (wq hw (i := 58) rfl) (wq hw (i := 20) rfl) (wq hw (i := 72) rfl) Al286.exa (by decide) (c8 l Z a0 hw T286.heap n0 Zs_293 Al286 (o1 := b14) (Nat.le_refl n0) ge_b284 (by decide) Od_294 S_dd A_dd (Ins.of_exa Ex_295 (wq hw (i := 136) rfl)) Zs_293) rfl (W := 0) (by decide) (by decide) (by decide) (by decide) (g := (mkF m 325 #[vi p0, vi p1, vi p2, vi (p0 &&& (3 : Int32)), vi (g0_11 p0), vi (own_b16 p0), vi (own_b32 p0), vi (own_b64 p0), vi (own_b128 p0), vi (g0_74 p0), vi (g0_90 p0 p2), vr b14, vr b19, vr b27, vr b35, vr b139, vr b284, su, su] [(.ref b14), (.ref b284)])) rfl (by rw [hml]; rfl) (argsL := [(.ref b14)]) (rest := []) rfl (lenOf pd_21 rfl) rfl (by show 2 * 0 + _ ≤ _; exact Nat.le_of_eq rfl) (hb hby at_325)
   obtain ⟨rfl, Nq292, x292, K292, hx292, Bx292, Al292⟩ := hQ292
   have Al_296 : ALs Z n0 dd T286.heap b139 e15 z306_n_L_b139 z306_f_L_b139 := ((H306_L_b139.ext E284).keep K286 (ninS ne_b139_b284 nin0) (ninS ne_e15_b284 nin0))
   have hz292 : T286.heap.size ≤ x292 := hx292.elim (fun w => absurd (Nat.lt_of_lt_of_le (Od_294.1 ▸ A_dd.lt) (Nat.le_refl n0)) (Nat.not_lt.mpr w.2)) id
   have An_297 : AryQ Z T286.heap dd (0 : Int32) := (A_dd.ext Od_294.2)
   have ne_dd_x292 : dd ≠ x292 := Nat.ne_of_lt (Nat.lt_of_lt_of_le An_297.lt hz292)
   have ne_b14_x292 : b14 ≠ x292 := Nat.ne_of_lt (Nat.lt_of_lt_of_le Ex_295.lt hz292)
   have ne_b139_x292 : b139 ≠ x292 := Nat.ne_of_lt (Nat.lt_of_lt_of_le Al_296.lt hz292)
   have ne_e15_x292 : e15 ≠ x292 := Nat.ne_of_lt (Nat.lt_of_lt_of_le Al_296.lte hz292)
   have ne_b284_x292 : b284 ≠ x292 := Nat.ne_of_lt (Nat.lt_of_lt_of_le Al286.lt hz292)
   have Kp_298 : Keep h_306 T286.heap [] := (Keep.trans (Keep.ext (Keep.refl h_306 []) E284) K286 (allS (P := fun x => x ∈ _ ∨ _ ≤ x) (Or.inr sz_b284) all0))
   have sz_x292 : h_306.size ≤ x292 := Nat.le_trans Kp_298.1 hz292
   have N292 := Fr.app N286 Nq292
   refine Fini.st st292 ?_
   show Fini _ _ _ _ _ _ _ T292 (mkF m 330 #[vi p0, vi p1, vi p2, vi (p0 &&& (3 : Int32)), vi (g0_11 p0), vi (own_b16 p0), vi (own_b32 p0), vi (own_b64 p0), vi (own_b128 p0), vi (g0_74 p0), vi (g0_90 p0 p2), vr b14, vr b19, vr b27, vr b35, vr b139, vr b284, su, su] [(.int (1 : Int32))])
   refine Fini.st (fun _ k => XS.pop X292.here hx rfl (hb hby at_330) rfl rfl k) ?_
   refine fI X292 hx hby at_331 rfl rfl ?_
   refine fC X292 hx hby at_333 rfl ?_
   show Fini _ _ _ _ _ _ _ T292 (mkF m 334 #[vi p0, vi p1, vi p2, vi (p0 &&& (3 : Int32)), vi (g0_11 p0), vi (own_b16 p0), vi (own_b32 p0), vi (own_b64 p0), vi (own_b128 p0), vi (g0_74 p0), vi (g0_90 p0 p2), vr b14, vr b19, vr b27, vr b35, vr b139, vr b284, su, su] [(.int (2 : Int32)), (.int (g0_11 p0))])
   by_cases c299 : (g0_11 p0) < (2 : Int32)
   ·
    refine Fini.st (fun _ k => XS.icmpYes X292.here hx rfl (pc0 := 334) (pc' := 347) rfl (hb hby at_334) rfl (XT.ii_lt_t c299) (by decide) (by decide) k) ?_
    show Fini _ _ _ _ _ _ _ T292 (mkF m 347 #[vi p0, vi p1, vi p2, vi (p0 &&& (3 : Int32)), vi (g0_11 p0), vi (own_b16 p0), vi (own_b32 p0), vi (own_b64 p0), vi (own_b128 p0), vi (g0_74 p0), vi (g0_90 p0 p2), vr b14, vr b19, vr b27, vr b35, vr b139, vr b284, su, su] [])
    have ej300 : (g0_11 p0) = (1 : Int32) := (own_q1 c289 c299)
    have fj300 : FT 1 (upd (fun _ => .null) 0 (.ref b14)) b14 := (FT.step (FT.zero _ _))
    obtain ⟨e16, q_e16⟩ : ∃ q, q = x292 := ⟨_, rfl⟩
    have Al_e16_301 : ALs Z n0 dd T292.heap b284 e16 (1 : Int32) (upd (fun _ => .null) 0 (.ref b14)) := by rw [q_e16]; exact Al292
    have ne_e16_dd : e16 ≠ dd := by rw [q_e16]; exact Ne.symm ne_dd_x292
    have ne_e16_b14 : e16 ≠ b14 := by rw [q_e16]; exact Ne.symm ne_b14_x292
    have ne_e16_b139 : e16 ≠ b139 := by rw [q_e16]; exact Ne.symm ne_b139_x292
    have ne_e16_e15 : e16 ≠ e15 := by rw [q_e16]; exact Ne.symm ne_e15_x292
    have ne_e16_b284 : e16 ≠ b284 := by rw [q_e16]; exact Ne.symm ne_b284_x292
    have Od_386 : Old Z n0 T292.heap := (Old.keep Od_294 K292 (allS (P := fun x => n0 ≤ x) ge_b284 (allS (P := fun x => n0 ≤ x) (Nat.le_trans (Nat.le_refl n0) Bx292) all0)))
    have Zs_387 : n0 ≤ T292.heap.size := (Nat.le_trans Zs_293 K292.1)
    have Ex_388 : Exa Z T292.heap b14 kTr := (Ex_295.keep K292)
    have Al_389 : ALs Z n0 dd T292.heap b139 e15 z306_n_L_b139 z306_f_L_b139 := (Al_296.keep K292 (ninS ne_b139_b284 (ninS ne_b139_x292 nin0)) (ninS ne_e15_b284 (ninS ne_e15_x292 nin0)))
    have Kp_390 : Keep h_306 T292.heap [] := (Keep.trans Kp_298 K292 (allS (P := fun x => x ∈ _ ∨ _ ≤ x) (Or.inr sz_b284) (allS (P := fun x => x ∈ _ ∨ _ ≤ x) (Or.inr sz_x292) all0)))
    exact B347 T292 _ _ (X292.more (cells' := 20) (slots' := 111) (by decide) (by decide)) rfl h_306 b139 b14 b19 b27 b284 b35 e15 e16 (upd (fun _ => .null) 0 (.ref b14)) (1 : Int32) z306_f_L_b139 z306_n_L_b139 N292 Od_386 Zs_387 Ex_388 Al_389 Kp_390 Al_e16_301 ne306_dd_b14 ne306_dd_b139 ne306_b14_b139 ne306_e15_b14 ne306_e15_b139 ne_dd_b284 ne_b14_b284 ne_b139_b284 ne_e15_b284 ne_e16_b14 ne_e16_b139 ne_e16_b284 ge306_b139 ge306_b14 ge_b284 sz_b284 cy306_nz cy306_te cy306_mv cy306_k15 ej300.symm fj300
   ·
    refine Fini.st (fun _ k => XS.icmpNo X292.here hx rfl (hb hby at_334) rfl (XT.ii_lt_f c299) k) ?_
    show Fini _ _ _ _ _ _ _ T292 (mkF m 337 #[vi p0, vi p1, vi p2, vi (p0 &&& (3 : Int32)), vi (g0_11 p0), vi (own_b16 p0), vi (own_b32 p0), vi (own_b64 p0), vi (own_b128 p0), vi (g0_74 p0), vi (g0_90 p0 p2), vr b14, vr b19, vr b27, vr b35, vr b139, vr b284, su, su] [])
    refine fA X292 hx hby at_337 rfl rfl rfl ?_
    refine fA X292 hx hby at_339 rfl rfl rfl ?_
    have Zs_303 : n0 ≤ T292.heap.size := (Nat.le_trans Zs_293 K292.1)
    have Od_304 : Old Z n0 T292.heap := (Old.keep Od_294 K292 (allS (P := fun x => n0 ≤ x) ge_b284 (allS (P := fun x => n0 ≤ x) (Nat.le_trans (Nat.le_refl n0) Bx292) all0)))
    have Ex_305 : Exa Z T292.heap b14 kTr := (Ex_295.keep K292)
    obtain ⟨v302, T302, L302, X302, hQ302, st302⟩ := callI X292 hx hZ hown (wq hw (i := 65) rfl) (wq hw (i := 66) rfl) (wq hw (i := 67) rfl) (wq hw (i := 68) rfl) (wq hw (i := 69) rfl) (wq hw (i := 70) rfl) (wq hw (i := 71) rfl) (wq hw (i := 58) rfl) (wq hw (i := 20) rfl) (wq hw (i := 72) rfl) Al292.exa (by decide) (c8 l Z a0 hw T292.heap n0 Zs_303 Al292 (o1 := b14) (Nat.le_refl n0) ge_b284 (by decide) Od_304 S_dd A_dd (Ins.of_exa Ex_305 (wq hw (i := 136) rfl)) Zs_303) rfl (W := 0) (by decide) (by decide) (by decide) (by decide) (g := (mkF m 341 #[vi p0, vi p1, vi p2, vi (p0 &&& (3 : Int32)), vi (g0_11 p0), vi (own_b16 p0), vi (own_b32 p0), vi (own_b64 p0), vi (own_b128 p0), vi (g0_74 p0), vi (g0_90 p0 p2), vr b14, vr b19, vr b27, vr b35, vr b139, vr b284, su, su] [(.ref b14), (.ref b284)])) rfl (by rw [hml]; rfl) (argsL := [(.ref b14)]) (rest := []) rfl (lenOf pd_21 rfl) rfl (by show 2 * 0 + _ ≤ _; exact Nat.le_of_eq rfl) (hb hby at_341)
    obtain ⟨rfl, Nq302, x302, K302, hx302, Bx302, Al302⟩ := hQ302
    have An_306 : AryQ Z T292.heap dd (0 : Int32) := (A_dd.ext Od_304.2)
    have Al_307 : ALs Z n0 dd T292.heap b139 e15 z306_n_L_b139 z306_f_L_b139 := (Al_296.keep K292 (ninS ne_b139_b284 (ninS ne_b139_x292 nin0)) (ninS ne_e15_b284 (ninS ne_e15_x292 nin0)))
    have ne_dd_x302 : dd ≠ x302 := Nat.ne_of_lt (Nat.lt_of_lt_of_le (Od_304.1 ▸ A_dd.lt) (Nat.le_trans (Nat.le_refl n0) Bx302))
    have ne_b14_x302 : b14 ≠ x302 := hx302.elim (fun w => by rw [w.1]; exact ne_b14_x292) (fun w => Nat.ne_of_lt (Nat.lt_of_lt_of_le Ex_305.lt w))
    have ne_b139_x302 : b139 ≠ x302 := hx302.elim (fun w => by rw [w.1]; exact ne_b139_x292) (fun w => Nat.ne_of_lt (Nat.lt_of_lt_of_le Al_307.lt w))
    have ne_e15_x302 : e15 ≠ x302 := hx302.elim (fun w => by rw [w.1]; exact ne_e15_x292) (fun w => Nat.ne_of_lt (Nat.lt_of_lt_of_le Al_307.lte w))
    have ne_b284_x302 : b284 ≠ x302 := hx302.elim (fun w => by rw [w.1]; exact Al292.2.2.2.2.1) (fun w => Nat.ne_of_lt (Nat.lt_of_lt_of_le Al292.lt w))
    have Kp_308 : Keep h_306 T292.heap [] := (Keep.trans Kp_298 K292 (allS (P := fun x => x ∈ _ ∨ _ ≤ x) (Or.inr sz_b284) (allS (P := fun x => x ∈ _ ∨ _ ≤ x) (Or.inr sz_x292) all0)))
    have sz_x302 : h_306.size ≤ x302 := hx302.elim (fun w => by rw [w.1]; exact sz_x292) (fun w => Nat.le_trans Kp_308.1 w)
    have N302 := Fr.app N292 Nq302
    refine Fini.st st302 ?_
    show Fini _ _ _ _ _ _ _ T302 (mkF m 346 #[vi p0, vi p1, vi p2, vi (p0 &&& (3 : Int32)), vi (g0_11 p0), vi (own_b16 p0), vi (own_b32 p0), vi (own_b64 p0), vi (own_b128 p0), vi (g0_74 p0), vi (g0_90 p0 p2), vr b14, vr b19, vr b27, vr b35, vr b139, vr b284, su, su] [(.int (1 : Int32))])
    refine Fini.st (fun _ k => XS.pop X302.here hx rfl (hb hby at_346) rfl rfl k) ?_
    show Fini _ _ _ _ _ _ _ T302 (mkF m 347 #[vi p0, vi p1, vi p2, vi (p0 &&& (3 : Int32)), vi (g0_11 p0), vi (own_b16 p0), vi (own_b32 p0), vi (own_b64 p0), vi (own_b128 p0), vi (g0_74 p0), vi (g0_90 p0 p2), vr b14, vr b19, vr b27, vr b35, vr b139, vr b284, su, su] [])
    have ej309 : (g0_11 p0) = (2 : Int32) := (own_t2 c299 (own_g4 p0).2)
    have fj309 : FT 2 (upd (upd (fun _ => .null) 0 (.ref b14)) 1 (.ref b14)) b14 := (FT.step (FT.step (FT.zero _ _)))
    obtain ⟨e16, q_e16⟩ : ∃ q, q = x302 := ⟨_, rfl⟩
    have Al_e16_310 : ALs Z n0 dd T302.heap b284 e16 (2 : Int32) (upd (upd (fun _ => .null) 0 (.ref b14)) 1 (.ref b14)) := by rw [q_e16]; exact Al302
    have ne_e16_dd : e16 ≠ dd := by rw [q_e16]; exact Ne.symm ne_dd_x302
    have ne_e16_b14 : e16 ≠ b14 := by rw [q_e16]; exact Ne.symm ne_b14_x302
    have ne_e16_b139 : e16 ≠ b139 := by rw [q_e16]; exact Ne.symm ne_b139_x302
    have ne_e16_e15 : e16 ≠ e15 := by rw [q_e16]; exact Ne.symm ne_e15_x302
    have ne_e16_b284 : e16 ≠ b284 := by rw [q_e16]; exact Ne.symm ne_b284_x302
    have Od_391 : Old Z n0 T302.heap := (Old.keep Od_304 K302 (allS (P := fun x => n0 ≤ x) ge_b284 (allS (P := fun x => n0 ≤ x) (Nat.le_trans (Nat.le_refl n0) Bx302) all0)))
    have Zs_392 : n0 ≤ T302.heap.size := (Nat.le_trans Zs_303 K302.1)
    have Ex_393 : Exa Z T302.heap b14 kTr := (Ex_305.keep K302)
    have Al_394 : ALs Z n0 dd T302.heap b139 e15 z306_n_L_b139 z306_f_L_b139 := (Al_307.keep K302 (ninS ne_b139_b284 (ninS ne_b139_x302 nin0)) (ninS ne_e15_b284 (ninS ne_e15_x302 nin0)))
    have Kp_395 : Keep h_306 T302.heap [] := (Keep.trans Kp_308 K302 (allS (P := fun x => x ∈ _ ∨ _ ≤ x) (Or.inr sz_b284) (allS (P := fun x => x ∈ _ ∨ _ ≤ x) (Or.inr sz_x302) all0)))
    exact B347 T302 _ _ (X302.more (cells' := 20) (slots' := 111) (by decide) (by decide)) rfl h_306 b139 b14 b19 b27 b284 b35 e15 e16 (upd (upd (fun _ => .null) 0 (.ref b14)) 1 (.ref b14)) (2 : Int32) z306_f_L_b139 z306_n_L_b139 N302 Od_391 Zs_392 Ex_393 Al_394 Kp_395 Al_e16_310 ne306_dd_b14 ne306_dd_b139 ne306_b14_b139 ne306_e15_b14 ne306_e15_b139 ne_dd_b284 ne_b14_b284 ne_b139_b284 ne_e15_b284 ne_e16_b14 ne_e16_b139 ne_e16_b284 ge306_b139 ge306_b14 ge_b284 sz_b284 cy306_nz cy306_te cy306_mv cy306_k15 ej309.symm fj309
 have B225 : ∀ (T_225 : State) (h_225 : Heap) (locs : List Loc) (X_225 : Stand p l e room_1 s m #[(.int p0), (.int p1), (.int p2)] below meth c T_225 locs 7 43) (e_225 : T_225.heap = h_225) (b14 : Addr) (b19 : Addr) (b27 : Addr) (b35 : Addr) (e13 : Addr) (e14 : Addr) (z225_f_L_b35 : Nat → Value) (z225_n_L_b35 : Int32) (z149_f_L_b27 : Nat → Value) (z149_n_L_b27 : Int32) (N_225 : Fr n0 locs) (H225_D : Old Z n0 h_225) (H225_Z : n0 ≤ h_225.size) (H225_E_b14 : Exa Z h_225 b14 kTr) (H225_L_b19 : ALs Z n0 dd h_225 b19 dd (0 : Int32) (fun _ => .null)) (H225_L_b27 : ALs Z n0 dd h_225 b27 e13 z149_n_L_b27 z149_f_L_b27) (H225_L_b35 : ALs Z n0 dd h_225 b35 e14 z225_n_L_b35 z225_f_L_b35) (ne225_dd_b14 : dd ≠ b14) (ne225_dd_b19 : dd ≠ b19) (ne225_b14_b19 : b14 ≠ b19) (ne225_dd_b27 : dd ≠ b27) (ne225_b14_b27 : b14 ≠ b27) (ne225_b19_b27 : b19 ≠ b27) (ne225_dd_b35 : dd ≠ b35) (ne225_b14_b35 : b14 ≠ b35) (ne225_b19_b35 : b19 ≠ b35) (ne225_b27_b35 : b27 ≠ b35) (ne225_e13_b14 : e13 ≠ b14) (ne225_e13_b19 : e13 ≠ b19) (ne225_e13_b27 : e13 ≠ b27) (ne225_e13_b35 : e13 ≠ b35) (ne225_e14_b14 : e14 ≠ b14) (ne225_e14_b19 : e14 ≠ b19) (ne225_e14_b27 : e14 ≠ b27) (ne225_e14_b35 : e14 ≠ b35) (ge225_b14 : n0 ≤ b14) (ge225_b19 : n0 ≤ b19) (ge225_b27 : n0 ≤ b27) (ge225_b35 : n0 ≤ b35) (cy225_nz : ¬ (g0_74 p0) = (0 : Int32)) (cy225_te : b14 ≠ em) (cy225_bx13 : BXS Z z149_n_L_b27 z149_f_L_b27 (own_S p0 1)) (cy225_bx14 : BXS Z z225_n_L_b35 z225_f_L_b35 (own_S p0 2)), Fini p e below s (fun v h' L => v = some (.int 1) ∧ Fr n0 L) (Room.cells room_1) (Room.slots room_1) T_225 (mkF m 225 #[vi p0, vi p1, vi p2, vi (p0 &&& (3 : Int32)), vi (g0_11 p0), vi (own_b16 p0), vi (own_b32 p0), vi (own_b64 p0), vi (own_b128 p0), vi (g0_74 p0), vi (g0_90 p0 p2), vr b14, vr b19, vr b27, vr b35, su, su, su, su] []) := by
  intro T_225 h_225 locs  X_225 e_225  b14 b19 b27 b35 e13 e14 z225_f_L_b35 z225_n_L_b35 z149_f_L_b27 z149_n_L_b27 N_225 H225_D H225_Z H225_E_b14 H225_L_b19 H225_L_b27 H225_L_b35 ne225_dd_b14 ne225_dd_b19 ne225_b14_b19 ne225_dd_b27 ne225_b14_b27 ne225_b19_b27 ne225_dd_b35 ne225_b14_b35 ne225_b19_b35 ne225_b27_b35 ne225_e13_b14 ne225_e13_b19 ne225_e13_b27 ne225_e13_b35 ne225_e14_b14 ne225_e14_b19 ne225_e14_b27 ne225_e14_b35 ge225_b14 ge225_b19 ge225_b27 ge225_b35 cy225_nz cy225_te cy225_bx13 cy225_bx14
  obtain ⟨T139, h139, X139, e139, E139, A139, D139, -, st139⟩ := newO X_225 hx hZ hown (wq hw (i := 18) rfl) (wq hw (i := 19) rfl) (wq hw (i := 20) rfl) e_225 (g := (mkF m 225 #[vi p0, vi p1, vi p2, vi (p0 &&& (3 : Int32)), vi (g0_11 p0), vi (own_b16 p0), vi (own_b32 p0), vi (own_b64 p0), vi (own_b128 p0), vi (g0_74 p0), vi (g0_90 p0 p2), vr b14, vr b19, vr b27, vr b35, su, su, su, su] [])) rfl (hb hby at_225) (by decide) (by decide)
  obtain ⟨b139, g139⟩ : ∃ z, z = h_225.size := ⟨_, rfl⟩
  rw [← g139] at A139 D139 st139
  have An_140 : AryQ Z h_225 dd (0 : Int32) := (A_dd.ext H225_D.2)
  have ne_dd_b139 : dd ≠ b139 := Nat.ne_of_lt (Nat.lt_of_lt_of_le An_140.lt (Nat.le_of_eq g139.symm))
  have ne_b14_b139 : b14 ≠ b139 := Nat.ne_of_lt (Nat.lt_of_lt_of_le H225_E_b14.lt (Nat.le_of_eq g139.symm))
  have ne_b19_b139 : b19 ≠ b139 := Nat.ne_of_lt (Nat.lt_of_lt_of_le H225_L_b19.lt (Nat.le_of_eq g139.symm))
  have ne_b27_b139 : b27 ≠ b139 := Nat.ne_of_lt (Nat.lt_of_lt_of_le H225_L_b27.lt (Nat.le_of_eq g139.symm))
  have ne_e13_b139 : e13 ≠ b139 := Nat.ne_of_lt (Nat.lt_of_lt_of_le H225_L_b27.lte (Nat.le_of_eq g139.symm))
  have ne_b35_b139 : b35 ≠ b139 := Nat.ne_of_lt (Nat.lt_of_lt_of_le H225_L_b35.lt (Nat.le_of_eq g139.symm))
  have ne_e14_b139 : e14 ≠ b139 := Nat.ne_of_lt (Nat.lt_of_lt_of_le H225_L_b35.lte (Nat.le_of_eq g139.symm))
  have ge_b139 : n0 ≤ b139 := Nat.le_trans H225_Z (Nat.le_of_eq g139.symm)
  have Fn139_modCount : Fld Z h139 b139 "java/util/AbstractList" "modCount" "I" (.int (0 : Int32)) := D139 (Or.inl (wq hw (i := 38) rfl)) (ty := .int) (by decide)
  have Fn139_elementData : Fld Z h139 b139 "java/util/ArrayList" "elementData" "[Ljava/lang/Object;" .null := D139 (Or.inl (wq hw (i := 41) rfl)) (ty := (.array (.object "java/lang/Object"))) (by decide)
  have Fn139_size : Fld Z h139 b139 "java/util/ArrayList" "size" "I" (.int (0 : Int32)) := D139 (Or.inl (wq hw (i := 61) rfl)) (ty := .int) (by decide)
  refine Fini.st st139 ?_
  show Fini _ _ _ _ _ _ _ T139 (mkF m 228 #[vi p0, vi p1, vi p2, vi (p0 &&& (3 : Int32)), vi (g0_11 p0), vi (own_b16 p0), vi (own_b32 p0), vi (own_b64 p0), vi (own_b128 p0), vi (g0_74 p0), vi (g0_90 p0 p2), vr b14, vr b19, vr b27, vr b35, su, su, su, su] [(.ref b139)])
  refine Fini.st (fun _ k => XS.dup X139.here hx rfl (hb hby at_228) rfl rfl k) ?_
  have Zs_142 : n0 ≤ h139.size := (Nat.le_trans H225_Z E139.1)
  have Od_143 : Old Z n0 h139 := (Old.ext H225_D E139)
  obtain ⟨v141, T141, L141, X141, hQ141, st141⟩ := callNew X139 hx hZ hown rfl (wq hw (i := 21) rfl) (wq hw (i := 22) rfl) (wq hw (i := 20) rfl) (wq hw (i := 23) rfl) (by decide) (rm3 l Z a0 hw [] b139 dd n0 (0 : Int32) h139 n0 Zs_142 A139 Fn139_modCount Fn139_size Fn139_elementData Od_143 S_dd A_dd ge_b139) e139 (W := 1) (by decide) (by decide) (by decide) (by decide) (g := (mkF m 229 #[vi p0, vi p1, vi p2, vi (p0 &&& (3 : Int32)), vi (g0_11 p0), vi (own_b16 p0), vi (own_b32 p0), vi (own_b64 p0), vi (own_b128 p0), vi (g0_74 p0), vi (g0_90 p0 p2), vr b14, vr b19, vr b27, vr b35, su, su, su, su] [(.ref b139), (.ref b139)])) rfl (by rw [hml]; rfl) (argsL := []) (rest := [(.ref b139)]) rfl (lenOf pd_0 rfl) rfl (by show 2 * 0 + _ ≤ _; exact Nat.le_of_eq rfl) (hb hby at_229)
  obtain ⟨rfl, Nq141, K141, Al141⟩ := hQ141
  have N141 := Fr.app N_225 Nq141
  refine Fini.st st141 ?_
  show Fini _ _ _ _ _ _ _ T141 (mkF m 232 #[vi p0, vi p1, vi p2, vi (p0 &&& (3 : Int32)), vi (g0_11 p0), vi (own_b16 p0), vi (own_b32 p0), vi (own_b64 p0), vi (own_b128 p0), vi (g0_74 p0), vi (g0_90 p0 p2), vr b14, vr b19, vr b27, vr b35, su, su, su, su] [(.ref b139)])
  refine Fini.st (fun _ k => XS.astore X141.here hx rfl (hb hby at_232) rfl rfl (l' := #[vi p0, vi p1, vi p2, vi (p0 &&& (3 : Int32)), vi (g0_11 p0), vi (own_b16 p0), vi (own_b32 p0), vi (own_b64 p0), vi (own_b128 p0), vi (g0_74 p0), vi (g0_90 p0 p2), vr b14, vr b19, vr b27, vr b35, vr b139, su, su, su]) rfl k) ?_
  refine fIN X141 hx hby at_234 rfl rfl ?_
  refine fC X141 hx hby at_235 rfl ?_
  show Fini _ _ _ _ _ _ _ T141 (mkF m 236 #[vi p0, vi p1, vi p2, vi (p0 &&& (3 : Int32)), vi (g0_11 p0), vi (own_b16 p0), vi (own_b32 p0), vi (own_b64 p0), vi (own_b128 p0), vi (g0_74 p0), vi (g0_90 p0 p2), vr b14, vr b19, vr b27, vr b35, vr b139, su, su, su] [(.int (1 : Int32)), (.int (p0 &&& (3 : Int32)))])
  by_cases c144 : (p0 &&& (3 : Int32)) < (1 : Int32)
  ·
   refine Fini.st (fun _ k => XS.icmpYes X141.here hx rfl (pc0 := 236) (pc' := 258) rfl (hb hby at_236) rfl (XT.ii_lt_t c144) (by decide) (by decide) k) ?_
   show Fini _ _ _ _ _ _ _ T141 (mkF m 258 #[vi p0, vi p1, vi p2, vi (p0 &&& (3 : Int32)), vi (g0_11 p0), vi (own_b16 p0), vi (own_b32 p0), vi (own_b64 p0), vi (own_b128 p0), vi (g0_74 p0), vi (g0_90 p0 p2), vr b14, vr b19, vr b27, vr b35, vr b139, su, su, su] [])
   refine fIN X141 hx hby at_258 rfl rfl ?_
   refine fC X141 hx hby at_259 rfl ?_
   show Fini _ _ _ _ _ _ _ T141 (mkF m 260 #[vi p0, vi p1, vi p2, vi (p0 &&& (3 : Int32)), vi (g0_11 p0), vi (own_b16 p0), vi (own_b32 p0), vi (own_b64 p0), vi (own_b128 p0), vi (g0_74 p0), vi (g0_90 p0 p2), vr b14, vr b19, vr b27, vr b35, vr b139, su, su, su] [(.int (2 : Int32)), (.int (p0 &&& (3 : Int32)))])
   refine Fini.st (fun _ k => XS.icmpYes X141.here hx rfl (pc0 := 260) (pc' := 282) rfl (hb hby at_260) rfl (XT.ii_lt_t (Int32.lt_trans c144 (by decide))) (by decide) (by decide) k) ?_
   show Fini _ _ _ _ _ _ _ T141 (mkF m 282 #[vi p0, vi p1, vi p2, vi (p0 &&& (3 : Int32)), vi (g0_11 p0), vi (own_b16 p0), vi (own_b32 p0), vi (own_b64 p0), vi (own_b128 p0), vi (g0_74 p0), vi (g0_90 p0 p2), vr b14, vr b19, vr b27, vr b35, vr b139, su, su, su] [])
   refine fIN X141 hx hby at_282 rfl rfl ?_
   refine fC X141 hx hby at_283 rfl ?_
   show Fini _ _ _ _ _ _ _ T141 (mkF m 284 #[vi p0, vi p1, vi p2, vi (p0 &&& (3 : Int32)), vi (g0_11 p0), vi (own_b16 p0), vi (own_b32 p0), vi (own_b64 p0), vi (own_b128 p0), vi (g0_74 p0), vi (g0_90 p0 p2), vr b14, vr b19, vr b27, vr b35, vr b139, su, su, su] [(.int (3 : Int32)), (.int (p0 &&& (3 : Int32)))])
   refine Fini.st (fun _ k => XS.icmpYes X141.here hx rfl (pc0 := 284) (pc' := 306) rfl (hb hby at_284) rfl (XT.ii_lt_t (Int32.lt_trans c144 (by decide))) (by decide) (by decide) k) ?_
   show Fini _ _ _ _ _ _ _ T141 (mkF m 306 #[vi p0, vi p1, vi p2, vi (p0 &&& (3 : Int32)), vi (g0_11 p0), vi (own_b16 p0), vi (own_b32 p0), vi (own_b64 p0), vi (own_b128 p0), vi (g0_74 p0), vi (g0_90 p0 p2), vr b14, vr b19, vr b27, vr b35, vr b139, su, su, su] [])
   have ek145 : (p0 &&& (3 : Int32)) = (0 : Int32) := (own_q0 (own_g3 p0).1 c144)
   have mw145 : MV Z T141.heap T141.heap.size b14 (0 : Int32) (fun _ => .null) (own_S p0) := (MVn.zero _ _ _ _ _ _)
   obtain ⟨e15, q_e15⟩ : ∃ q, q = dd := ⟨_, rfl⟩
   have Al_e15_146 : ALs Z n0 dd T141.heap b139 e15 (0 : Int32) (fun _ => .null) := by rw [q_e15]; exact Al141
   have ne_e15_b14 : e15 ≠ b14 := by rw [q_e15]; exact ne225_dd_b14
   have ne_e15_b19 : e15 ≠ b19 := by rw [q_e15]; exact ne225_dd_b19
   have ne_e15_b27 : e15 ≠ b27 := by rw [q_e15]; exact ne225_dd_b27
   have ne_e15_b35 : e15 ≠ b35 := by rw [q_e15]; exact ne225_dd_b35
   have ne_e15_b139 : e15 ≠ b139 := by rw [q_e15]; exact ne_dd_b139
   have Od_396 : Old Z n0 T141.heap := (Old.keep Od_143 K141 (allS (P := fun x => n0 ≤ x) ge_b139 all0))
   have Zs_397 : n0 ≤ T141.heap.size := (Nat.le_trans Zs_142 K141.1)
   have Ex_398 : Exa Z T141.heap b14 kTr := ((H225_E_b14.ext E139).keep K141)
   exact B306 T141 _ _ (X141.more (cells' := 17) (slots' := 88) (by decide) (by decide)) rfl b139 b14 b19 b27 b35 e15 (fun _ => .null) (0 : Int32) N141 Od_396 Zs_397 Ex_398 Al_e15_146 ne225_dd_b14 ne_dd_b139 ne_b14_b139 ne_e15_b14 ne_e15_b139 ge_b139 ge225_b14 cy225_nz cy225_te mw145 ek145.symm
  ·
   refine Fini.st (fun _ k => XS.icmpNo X141.here hx rfl (hb hby at_236) rfl (XT.ii_lt_f c144) k) ?_
   show Fini _ _ _ _ _ _ _ T141 (mkF m 239 #[vi p0, vi p1, vi p2, vi (p0 &&& (3 : Int32)), vi (g0_11 p0), vi (own_b16 p0), vi (own_b32 p0), vi (own_b64 p0), vi (own_b128 p0), vi (g0_74 p0), vi (g0_90 p0 p2), vr b14, vr b19, vr b27, vr b35, vr b139, su, su, su] [])
   refine fA X141 hx hby at_239 rfl rfl rfl ?_
   obtain ⟨T147, h147, X147, e147, E147, A147, D147, -, st147⟩ := newO X141 hx hZ hown (wq hw (i := 42) rfl) (wq hw (i := 43) rfl) (wq hw (i := 44) rfl) rfl (g := (mkF m 241 #[vi p0, vi p1, vi p2, vi (p0 &&& (3 : Int32)), vi (g0_11 p0), vi (own_b16 p0), vi (own_b32 p0), vi (own_b64 p0), vi (own_b128 p0), vi (g0_74 p0), vi (g0_90 p0 p2), vr b14, vr b19, vr b27, vr b35, vr b139, su, su, su] [(.ref b139)])) rfl (hb hby at_241) (by decide) (by decide)
   obtain ⟨b147, g147⟩ : ∃ z, z = T141.heap.size := ⟨_, rfl⟩
   rw [← g147] at A147 D147 st147
   have Od_148 : Old Z n0 T141.heap := (Old.keep Od_143 K141 (allS (P := fun x => n0 ≤ x) ge_b139 all0))
   have An_149 : AryQ Z T141.heap dd (0 : Int32) := (A_dd.ext Od_148.2)
   have ne_dd_b147 : dd ≠ b147 := Nat.ne_of_lt (Nat.lt_of_lt_of_le An_149.lt (Nat.le_of_eq g147.symm))
   have Ex_150 : Exa Z T141.heap b14 kTr := ((H225_E_b14.ext E139).keep K141)
   have ne_b14_b147 : b14 ≠ b147 := Nat.ne_of_lt (Nat.lt_of_lt_of_le Ex_150.lt (Nat.le_of_eq g147.symm))
   have Al_151 : ALs Z n0 dd T141.heap b19 dd (0 : Int32) (fun _ => .null) := ((H225_L_b19.ext E139).keep K141 (ninS ne_b19_b139 nin0) (ninS ne_dd_b139 nin0))
   have ne_b19_b147 : b19 ≠ b147 := Nat.ne_of_lt (Nat.lt_of_lt_of_le Al_151.lt (Nat.le_of_eq g147.symm))
   have Al_152 : ALs Z n0 dd T141.heap b27 e13 z149_n_L_b27 z149_f_L_b27 := ((H225_L_b27.ext E139).keep K141 (ninS ne_b27_b139 nin0) (ninS ne_e13_b139 nin0))
   have ne_b27_b147 : b27 ≠ b147 := Nat.ne_of_lt (Nat.lt_of_lt_of_le Al_152.lt (Nat.le_of_eq g147.symm))
   have ne_e13_b147 : e13 ≠ b147 := Nat.ne_of_lt (Nat.lt_of_lt_of_le Al_152.lte (Nat.le_of_eq g147.symm))
   have Al_153 : ALs Z n0 dd T141.heap b35 e14 z225_n_L_b35 z225_f_L_b35 := ((H225_L_b35.ext E139).keep K141 (ninS ne_b35_b139 nin0) (ninS ne_e14_b139 nin0))
   have ne_b35_b147 : b35 ≠ b147 := Nat.ne_of_lt (Nat.lt_of_lt_of_le Al_153.lt (Nat.le_of_eq g147.symm))
   have ne_e14_b147 : e14 ≠ b147 := Nat.ne_of_lt (Nat.lt_of_lt_of_le Al_153.lte (Nat.le_of_eq g147.symm))
   have ne_b139_b147 : b139 ≠ b147 := Nat.ne_of_lt (Nat.lt_of_lt_of_le Al141.lt (Nat.le_of_eq g147.symm))
   have Zs_154 : n0 ≤ T141.heap.size := (Nat.le_trans Zs_142 K141.1)
   have ge_b147 : n0 ≤ b147 := Nat.le_trans Zs_154 (Nat.le_of_eq g147.symm)
   have Fn147_transition : Fld Z h147 b147 kMv "transition" "Lcom/example/firm_handshake/firmhandshake/model/Transition;" .null := D147 (Or.inr (wq hw (i := 50) rfl)) (ty := (.object "com/example/firm_handshake/firmhandshake/model/Transition")) (by decide)
   have Fn147_outrankedBy : Fld Z h147 b147 kMv "outrankedBy" "[I" .null := D147 (Or.inr (wq hw (i := 64) rfl)) (ty := (.array .int)) (by decide)
   refine Fini.st st147 ?_
   show Fini _ _ _ _ _ _ _ T147 (mkF m 244 #[vi p0, vi p1, vi p2, vi (p0 &&& (3 : Int32)), vi (g0_11 p0), vi (own_b16 p0), vi (own_b32 p0), vi (own_b64 p0), vi (own_b128 p0), vi (g0_74 p0), vi (g0_90 p0 p2), vr b14, vr b19, vr b27, vr b35, vr b139, su, su, su] [(.ref b147), (.ref b139)])
   refine Fini.st (fun _ k => XS.dup X147.here hx rfl (hb hby at_244) rfl rfl k) ?_
   refine fA X147 hx hby at_245 rfl rfl rfl ?_
   refine fA X147 hx hby at_247 rfl rfl rfl ?_
   show Fini _ _ _ _ _ _ _ T147 (mkF m 249 #[vi p0, vi p1, vi p2, vi (p0 &&& (3 : Int32)), vi (g0_11 p0), vi (own_b16 p0), vi (own_b32 p0), vi (own_b64 p0), vi (own_b128 p0), vi (g0_74 p0), vi (g0_90 p0 p2), vr b14, vr b19, vr b27, vr b35, vr b139, su, su, su] [(.ref b19), (.ref b14), (.ref b147), (.ref b147), (.ref b139)])
   obtain ⟨vb155, hb155, hm155, hl155⟩ := bxs12 (Z := Z) p0
   have Zs_157 : n0 ≤ h147.size := (Nat.le_trans Zs_154 E147.1)
   have Al_158 : ALs Z n0 dd h147 b19 dd (0 : Int32) (fun _ => .null) := (Al_151.ext E147)
   have Od_159 : Old Z n0 h147 := (Old.ext Od_148 E147)
   obtain ⟨v156, T156, L156, X156, hQ156, st156⟩ := callNew X147 hx hZ hown rfl (wq hw (i := 45) rfl) (wq hw (i := 46) rfl) (wq hw (i := 44) rfl) (wq hw (i := 47) rfl) (by decide) (rm6 l Z a0 hw [] b147 b14 b19 n0 dd dd (0 : Int32) (fun _ => .null) vb155 h147 n0 Zs_157 A147 Fn147_transition Fn147_outrankedBy Al_158 Od_159 ge_b147 ne_b19_b147 ne_dd_b147 hb155 hl155) e147 (W := 2) (by decide) (by decide) (by decide) (by decide) (g := (mkF m 249 #[vi p0, vi p1, vi p2, vi (p0 &&& (3 : Int32)), vi (g0_11 p0), vi (own_b16 p0), vi (own_b32 p0), vi (own_b64 p0), vi (own_b128 p0), vi (g0_74 p0), vi (g0_90 p0 p2), vr b14, vr b19, vr b27, vr b35, vr b139, su, su, su] [(.ref b19), (.ref b14), (.ref b147), (.ref b147), (.ref b139)])) rfl (by rw [hml]; rfl) (argsL := [(.ref b14), (.ref b19)]) (rest := [(.ref b147), (.ref b139)]) rfl (lenOf pd_25 rfl) rfl (by show 2 * 0 + _ ≤ _; exact Nat.le_of_eq rfl) (hb hby at_249)
   obtain ⟨rfl, Nq156, K156, b156, sz156, ge_b156, nq156, Em156, Ft156, Fo156, Ea156, Ar156⟩ := hQ156
   have An_160 : AryQ Z h147 dd (0 : Int32) := (A_dd.ext Od_159.2)
   have ne_dd_b156 : dd ≠ b156 := Nat.ne_of_lt (Nat.lt_of_lt_of_le An_160.lt sz156)
   have Ex_161 : Exa Z h147 b14 kTr := (Ex_150.ext E147)
   have ne_b14_b156 : b14 ≠ b156 := Nat.ne_of_lt (Nat.lt_of_lt_of_le Ex_161.lt sz156)
   have ne_b19_b156 : b19 ≠ b156 := Nat.ne_of_lt (Nat.lt_of_lt_of_le Al_158.lt sz156)
   have Al_162 : ALs Z n0 dd h147 b27 e13 z149_n_L_b27 z149_f_L_b27 := (Al_152.ext E147)
   have ne_b27_b156 : b27 ≠ b156 := Nat.ne_of_lt (Nat.lt_of_lt_of_le Al_162.lt sz156)
   have ne_e13_b156 : e13 ≠ b156 := Nat.ne_of_lt (Nat.lt_of_lt_of_le Al_162.lte sz156)
   have Al_163 : ALs Z n0 dd h147 b35 e14 z225_n_L_b35 z225_f_L_b35 := (Al_153.ext E147)
   have ne_b35_b156 : b35 ≠ b156 := Nat.ne_of_lt (Nat.lt_of_lt_of_le Al_163.lt sz156)
   have ne_e14_b156 : e14 ≠ b156 := Nat.ne_of_lt (Nat.lt_of_lt_of_le Al_163.lte sz156)
   have Al_164 : ALs Z n0 dd h147 b139 dd (0 : Int32) (fun _ => .null) := (Al141.ext E147)
   have ne_b139_b156 : b139 ≠ b156 := Nat.ne_of_lt (Nat.lt_of_lt_of_le Al_164.lt sz156)
   have ne_b147_b156 : b147 ≠ b156 := Nat.ne_of_lt (Nat.lt_of_lt_of_le A147.lt sz156)
   have N156 := Fr.app N141 Nq156
   refine Fini.st st156 ?_
   show Fini _ _ _ _ _ _ _ T156 (mkF m 252 #[vi p0, vi p1, vi p2, vi (p0 &&& (3 : Int32)), vi (g0_11 p0), vi (own_b16 p0), vi (own_b32 p0), vi (own_b64 p0), vi (own_b128 p0), vi (g0_74 p0), vi (g0_90 p0 p2), vr b14, vr b19, vr b27, vr b35, vr b139, su, su, su] [(.ref b147), (.ref b139)])
   have Zs_166 : n0 ≤ T156.heap.size := (Nat.le_trans Zs_157 K156.1)
   have Al_167 : ALs Z n0 dd T156.heap b139 dd (0 : Int32) (fun _ => .null) := (Al_164.keep K156 (ninS ne_b139_b147 nin0) (ninS ne_dd_b147 nin0))
   have Od_168 : Old Z n0 T156.heap := (Old.keep Od_159 K156 (allS (P := fun x => n0 ≤ x) ge_b147 all0))
   obtain ⟨v165, T165, L165, X165, hQ165, st165⟩ := callI X156 hx hZ hown (wq hw (i := 65) rfl) (wq hw (i := 66) rfl) (wq hw (i := 67) rfl) (wq hw (i := 68) rfl) (wq hw (i := 69) rfl) (wq hw (i := 70) rfl) (wq hw (i := 71) rfl) (wq hw (i := 58) rfl) (wq hw (i := 20) rfl) (wq hw (i := 72) rfl) Al_167.exa (by decide) (c8 l Z a0 hw T156.heap n0 Zs_166 Al_167 (o1 := b147) (Nat.le_refl n0) ge_b139 (by decide) Od_168 S_dd A_dd (Ins.of_exa Em156 (wq hw (i := 96) rfl)) Zs_166) rfl (W := 0) (by decide) (by decide) (by decide) (by decide) (g := (mkF m 252 #[vi p0, vi p1, vi p2, vi (p0 &&& (3 : Int32)), vi (g0_11 p0), vi (own_b16 p0), vi (own_b32 p0), vi (own_b64 p0), vi (own_b128 p0), vi (g0_74 p0), vi (g0_90 p0 p2), vr b14, vr b19, vr b27, vr b35, vr b139, su, su, su] [(.ref b147), (.ref b139)])) rfl (by rw [hml]; rfl) (argsL := [(.ref b147)]) (rest := []) rfl (lenOf pd_21 rfl) rfl (by show 2 * 0 + _ ≤ _; exact Nat.le_of_eq rfl) (hb hby at_252)
   obtain ⟨rfl, Nq165, x165, K165, hx165, Bx165, Al165⟩ := hQ165
   have Ex_169 : Exa Z T156.heap b14 kTr := (Ex_161.keep K156)
   have Al_170 : ALs Z n0 dd T156.heap b19 dd (0 : Int32) (fun _ => .null) := (Al_158.keep K156 (ninS ne_b19_b147 nin0) (ninS ne_dd_b147 nin0))
   have Al_171 : ALs Z n0 dd T156.heap b27 e13 z149_n_L_b27 z149_f_L_b27 := (Al_162.keep K156 (ninS ne_b27_b147 nin0) (ninS ne_e13_b147 nin0))
   have Al_172 : ALs Z n0 dd T156.heap b35 e14 z225_n_L_b35 z225_f_L_b35 := (Al_163.keep K156 (ninS ne_b35_b147 nin0) (ninS ne_e14_b147 nin0))
   have hz165 : T156.heap.size ≤ x165 := hx165.elim (fun w => absurd (Nat.lt_of_lt_of_le (Od_168.1 ▸ A_dd.lt) (Nat.le_refl n0)) (Nat.not_lt.mpr w.2)) id
   have An_173 : AryQ Z T156.heap dd (0 : Int32) := (A_dd.ext Od_168.2)
   have ne_dd_x165 : dd ≠ x165 := Nat.ne_of_lt (Nat.lt_of_lt_of_le An_173.lt hz165)
   have ne_b14_x165 : b14 ≠ x165 := Nat.ne_of_lt (Nat.lt_of_lt_of_le Ex_169.lt hz165)
   have ne_b19_x165 : b19 ≠ x165 := Nat.ne_of_lt (Nat.lt_of_lt_of_le Al_170.lt hz165)
   have ne_b27_x165 : b27 ≠ x165 := Nat.ne_of_lt (Nat.lt_of_lt_of_le Al_171.lt hz165)
   have ne_e13_x165 : e13 ≠ x165 := Nat.ne_of_lt (Nat.lt_of_lt_of_le Al_171.lte hz165)
   have ne_b35_x165 : b35 ≠ x165 := Nat.ne_of_lt (Nat.lt_of_lt_of_le Al_172.lt hz165)
   have ne_e14_x165 : e14 ≠ x165 := Nat.ne_of_lt (Nat.lt_of_lt_of_le Al_172.lte hz165)
   have ne_b139_x165 : b139 ≠ x165 := Nat.ne_of_lt (Nat.lt_of_lt_of_le Al_167.lt hz165)
   have ne_b147_x165 : b147 ≠ x165 := Nat.ne_of_lt (Nat.lt_of_lt_of_le Em156.lt hz165)
   have ne_b156_x165 : b156 ≠ x165 := Nat.ne_of_lt (Nat.lt_of_lt_of_le Ea156.lt hz165)
   have N165 := Fr.app N156 Nq165
   refine Fini.st st165 ?_
   show Fini _ _ _ _ _ _ _ T165 (mkF m 257 #[vi p0, vi p1, vi p2, vi (p0 &&& (3 : Int32)), vi (g0_11 p0), vi (own_b16 p0), vi (own_b32 p0), vi (own_b64 p0), vi (own_b128 p0), vi (g0_74 p0), vi (g0_90 p0 p2), vr b14, vr b19, vr b27, vr b35, vr b139, su, su, su] [(.int (1 : Int32))])
   refine Fini.st (fun _ k => XS.pop X165.here hx rfl (hb hby at_257) rfl rfl k) ?_
   refine fIN X165 hx hby at_258 rfl rfl ?_
   refine fC X165 hx hby at_259 rfl ?_
   show Fini _ _ _ _ _ _ _ T165 (mkF m 260 #[vi p0, vi p1, vi p2, vi (p0 &&& (3 : Int32)), vi (g0_11 p0), vi (own_b16 p0), vi (own_b32 p0), vi (own_b64 p0), vi (own_b128 p0), vi (g0_74 p0), vi (g0_90 p0 p2), vr b14, vr b19, vr b27, vr b35, vr b139, su, su, su] [(.int (2 : Int32)), (.int (p0 &&& (3 : Int32)))])
   by_cases c174 : (p0 &&& (3 : Int32)) < (2 : Int32)
   ·
    refine Fini.st (fun _ k => XS.icmpYes X165.here hx rfl (pc0 := 260) (pc' := 282) rfl (hb hby at_260) rfl (XT.ii_lt_t c174) (by decide) (by decide) k) ?_
    show Fini _ _ _ _ _ _ _ T165 (mkF m 282 #[vi p0, vi p1, vi p2, vi (p0 &&& (3 : Int32)), vi (g0_11 p0), vi (own_b16 p0), vi (own_b32 p0), vi (own_b64 p0), vi (own_b128 p0), vi (g0_74 p0), vi (g0_90 p0 p2), vr b14, vr b19, vr b27, vr b35, vr b139, su, su, su] [])
    refine fIN X165 hx hby at_282 rfl rfl ?_
    refine fC X165 hx hby at_283 rfl ?_
    show Fini _ _ _ _ _ _ _ T165 (mkF m 284 #[vi p0, vi p1, vi p2, vi (p0 &&& (3 : Int32)), vi (g0_11 p0), vi (own_b16 p0), vi (own_b32 p0), vi (own_b64 p0), vi (own_b128 p0), vi (g0_74 p0), vi (g0_90 p0 p2), vr b14, vr b19, vr b27, vr b35, vr b139, su, su, su] [(.int (3 : Int32)), (.int (p0 &&& (3 : Int32)))])
    refine Fini.st (fun _ k => XS.icmpYes X165.here hx rfl (pc0 := 284) (pc' := 306) rfl (hb hby at_284) rfl (XT.ii_lt_t (Int32.lt_trans c174 (by decide))) (by decide) (by decide) k) ?_
    show Fini _ _ _ _ _ _ _ T165 (mkF m 306 #[vi p0, vi p1, vi p2, vi (p0 &&& (3 : Int32)), vi (g0_11 p0), vi (own_b16 p0), vi (own_b32 p0), vi (own_b64 p0), vi (own_b128 p0), vi (g0_74 p0), vi (g0_90 p0 p2), vr b14, vr b19, vr b27, vr b35, vr b139, su, su, su] [])
    have Ex_176 : Exa Z T165.heap b147 kMv := (Em156.keep K165)
    have Ex_177 : Exa Z T165.heap b156 "[I" := (Ea156.keep K165)
    have Ar_178 : AryI Z T165.heap b156 .int (0 : Int32) vb155 := (Ar156.keep K165 (ninS (Ne.symm ne_b139_b156) (ninS ne_b156_x165 nin0)))
    have F_179 : Fld Z T165.heap b147 kMv "transition" "Lcom/example/firm_handshake/firmhandshake/model/Transition;" (.ref b14) := (Ft156.keep K165 (ninS (Ne.symm ne_b139_b147) (ninS ne_b147_x165 nin0)))
    have F_180 : Fld Z T165.heap b147 kMv "outrankedBy" "[I" (.ref b156) := (Fo156.keep K165 (ninS (Ne.symm ne_b139_b147) (ninS ne_b147_x165 nin0)))
    have mv175_0 : MVn Z T165.heap T165.heap.size b14 1 (upd (fun _ => .null) 0 (.ref b147)) (own_S p0) := MVn.step (MVn.zero _ _ _ _ _ _) ⟨b147, b156, _, _, rfl, Ex_176.lt, Ar_178.lt, Ex_176, F_179, F_180, Ex_177, Ar_178, own_23 hl155, hm155⟩
    have ek175 : (p0 &&& (3 : Int32)) = (1 : Int32) := (own_q1 c144 c174)
    have mw175 : MV Z T165.heap T165.heap.size b14 (1 : Int32) (upd (fun _ => .null) 0 (.ref b147)) (own_S p0) := mv175_0
    obtain ⟨e15, q_e15⟩ : ∃ q, q = x165 := ⟨_, rfl⟩
    have Al_e15_181 : ALs Z n0 dd T165.heap b139 e15 (1 : Int32) (upd (fun _ => .null) 0 (.ref b147)) := by rw [q_e15]; exact Al165
    have ne_e15_dd : e15 ≠ dd := by rw [q_e15]; exact Ne.symm ne_dd_x165
    have ne_e15_b14 : e15 ≠ b14 := by rw [q_e15]; exact Ne.symm ne_b14_x165
    have ne_e15_b19 : e15 ≠ b19 := by rw [q_e15]; exact Ne.symm ne_b19_x165
    have ne_e15_b27 : e15 ≠ b27 := by rw [q_e15]; exact Ne.symm ne_b27_x165
    have ne_e15_e13 : e15 ≠ e13 := by rw [q_e15]; exact Ne.symm ne_e13_x165
    have ne_e15_b35 : e15 ≠ b35 := by rw [q_e15]; exact Ne.symm ne_b35_x165
    have ne_e15_e14 : e15 ≠ e14 := by rw [q_e15]; exact Ne.symm ne_e14_x165
    have ne_e15_b139 : e15 ≠ b139 := by rw [q_e15]; exact Ne.symm ne_b139_x165
    have ne_e15_b147 : e15 ≠ b147 := by rw [q_e15]; exact Ne.symm ne_b147_x165
    have ne_e15_b156 : e15 ≠ b156 := by rw [q_e15]; exact Ne.symm ne_b156_x165
    have Od_399 : Old Z n0 T165.heap := (Old.keep Od_168 K165 (allS (P := fun x => n0 ≤ x) ge_b139 (allS (P := fun x => n0 ≤ x) (Nat.le_trans (Nat.le_refl n0) Bx165) all0)))
    have Zs_400 : n0 ≤ T165.heap.size := (Nat.le_trans Zs_166 K165.1)
    have Ex_401 : Exa Z T165.heap b14 kTr := (Ex_169.keep K165)
    exact B306 T165 _ _ (X165.more (cells' := 17) (slots' := 88) (by decide) (by decide)) rfl b139 b14 b19 b27 b35 e15 (upd (fun _ => .null) 0 (.ref b147)) (1 : Int32) N165 Od_399 Zs_400 Ex_401 Al_e15_181 ne225_dd_b14 ne_dd_b139 ne_b14_b139 ne_e15_b14 ne_e15_b139 ge_b139 ge225_b14 cy225_nz cy225_te mw175 ek175.symm
   ·
    refine Fini.st (fun _ k => XS.icmpNo X165.here hx rfl (hb hby at_260) rfl (XT.ii_lt_f c174) k) ?_
    show Fini _ _ _ _ _ _ _ T165 (mkF m 263 #[vi p0, vi p1, vi p2, vi (p0 &&& (3 : Int32)), vi (g0_11 p0), vi (own_b16 p0), vi (own_b32 p0), vi (own_b64 p0), vi (own_b128 p0), vi (g0_74 p0), vi (g0_90 p0 p2), vr b14, vr b19, vr b27, vr b35, vr b139, su, su, su] [])
    refine fA X165 hx hby at_263 rfl rfl rfl ?_
    obtain ⟨T182, h182, X182, e182, E182, A182, D182, -, st182⟩ := newO X165 hx hZ hown (wq hw (i := 42) rfl) (wq hw (i := 43) rfl) (wq hw (i := 44) rfl) rfl (g := (mkF m 265 #[vi p0, vi p1, vi p2, vi (p0 &&& (3 : Int32)), vi (g0_11 p0), vi (own_b16 p0), vi (own_b32 p0), vi (own_b64 p0), vi (own_b128 p0), vi (g0_74 p0), vi (g0_90 p0 p2), vr b14, vr b19, vr b27, vr b35, vr b139, su, su, su] [(.ref b139)])) rfl (hb hby at_265) (by decide) (by decide)
    obtain ⟨b182, g182⟩ : ∃ z, z = T165.heap.size := ⟨_, rfl⟩
    rw [← g182] at A182 D182 st182
    have Od_183 : Old Z n0 T165.heap := (Old.keep Od_168 K165 (allS (P := fun x => n0 ≤ x) ge_b139 (allS (P := fun x => n0 ≤ x) (Nat.le_trans (Nat.le_refl n0) Bx165) all0)))
    have An_184 : AryQ Z T165.heap dd (0 : Int32) := (A_dd.ext Od_183.2)
    have ne_dd_b182 : dd ≠ b182 := Nat.ne_of_lt (Nat.lt_of_lt_of_le An_184.lt (Nat.le_of_eq g182.symm))
    have Ex_185 : Exa Z T165.heap b14 kTr := (Ex_169.keep K165)
    have ne_b14_b182 : b14 ≠ b182 := Nat.ne_of_lt (Nat.lt_of_lt_of_le Ex_185.lt (Nat.le_of_eq g182.symm))
    have Al_186 : ALs Z n0 dd T165.heap b19 dd (0 : Int32) (fun _ => .null) := (Al_170.keep K165 (ninS ne_b19_b139 (ninS ne_b19_x165 nin0)) (ninS ne_dd_b139 (ninS ne_dd_x165 nin0)))
    have ne_b19_b182 : b19 ≠ b182 := Nat.ne_of_lt (Nat.lt_of_lt_of_le Al_186.lt (Nat.le_of_eq g182.symm))
    have Al_187 : ALs Z n0 dd T165.heap b27 e13 z149_n_L_b27 z149_f_L_b27 := (Al_171.keep K165 (ninS ne_b27_b139 (ninS ne_b27_x165 nin0)) (ninS ne_e13_b139 (ninS ne_e13_x165 nin0)))
    have ne_b27_b182 : b27 ≠ b182 := Nat.ne_of_lt (Nat.lt_of_lt_of_le Al_187.lt (Nat.le_of_eq g182.symm))
    have ne_e13_b182 : e13 ≠ b182 := Nat.ne_of_lt (Nat.lt_of_lt_of_le Al_187.lte (Nat.le_of_eq g182.symm))
    have Al_188 : ALs Z n0 dd T165.heap b35 e14 z225_n_L_b35 z225_f_L_b35 := (Al_172.keep K165 (ninS ne_b35_b139 (ninS ne_b35_x165 nin0)) (ninS ne_e14_b139 (ninS ne_e14_x165 nin0)))
    have ne_b35_b182 : b35 ≠ b182 := Nat.ne_of_lt (Nat.lt_of_lt_of_le Al_188.lt (Nat.le_of_eq g182.symm))
    have ne_e14_b182 : e14 ≠ b182 := Nat.ne_of_lt (Nat.lt_of_lt_of_le Al_188.lte (Nat.le_of_eq g182.symm))
    have ne_b139_b182 : b139 ≠ b182 := Nat.ne_of_lt (Nat.lt_of_lt_of_le Al165.lt (Nat.le_of_eq g182.symm))
    have ne_x165_b182 : x165 ≠ b182 := Nat.ne_of_lt (Nat.lt_of_lt_of_le Al165.lte (Nat.le_of_eq g182.symm))
    have Ex_189 : Exa Z T165.heap b147 kMv := (Em156.keep K165)
    have ne_b147_b182 : b147 ≠ b182 := Nat.ne_of_lt (Nat.lt_of_lt_of_le Ex_189.lt (Nat.le_of_eq g182.symm))
    have Ex_190 : Exa Z T165.heap b156 "[I" := (Ea156.keep K165)
    have ne_b156_b182 : b156 ≠ b182 := Nat.ne_of_lt (Nat.lt_of_lt_of_le Ex_190.lt (Nat.le_of_eq g182.symm))
    have Zs_191 : n0 ≤ T165.heap.size := (Nat.le_trans Zs_166 K165.1)
    have ge_b182 : n0 ≤ b182 := Nat.le_trans Zs_191 (Nat.le_of_eq g182.symm)
    have Fn182_transition : Fld Z h182 b182 kMv "transition" "Lcom/example/firm_handshake/firmhandshake/model/Transition;" .null := D182 (Or.inr (wq hw (i := 50) rfl)) (ty := (.object "com/example/firm_handshake/firmhandshake/model/Transition")) (by decide)
    have Fn182_outrankedBy : Fld Z h182 b182 kMv "outrankedBy" "[I" .null := D182 (Or.inr (wq hw (i := 64) rfl)) (ty := (.array .int)) (by decide)
    refine Fini.st st182 ?_
    show Fini _ _ _ _ _ _ _ T182 (mkF m 268 #[vi p0, vi p1, vi p2, vi (p0 &&& (3 : Int32)), vi (g0_11 p0), vi (own_b16 p0), vi (own_b32 p0), vi (own_b64 p0), vi (own_b128 p0), vi (g0_74 p0), vi (g0_90 p0 p2), vr b14, vr b19, vr b27, vr b35, vr b139, su, su, su] [(.ref b182), (.ref b139)])
    refine Fini.st (fun _ k => XS.dup X182.here hx rfl (hb hby at_268) rfl rfl k) ?_
    refine fA X182 hx hby at_269 rfl rfl rfl ?_
    refine fA X182 hx hby at_271 rfl rfl rfl ?_
    show Fini _ _ _ _ _ _ _ T182 (mkF m 273 #[vi p0, vi p1, vi p2, vi (p0 &&& (3 : Int32)), vi (g0_11 p0), vi (own_b16 p0), vi (own_b32 p0), vi (own_b64 p0), vi (own_b128 p0), vi (g0_74 p0), vi (g0_90 p0 p2), vr b14, vr b19, vr b27, vr b35, vr b139, su, su, su] [(.ref b27), (.ref b14), (.ref b182), (.ref b182), (.ref b139)])
    obtain ⟨vb192, hb192, hm192, hl192⟩ := cy225_bx13
    have Zs_194 : n0 ≤ h182.size := (Nat.le_trans Zs_191 E182.1)
    have Al_195 : ALs Z n0 dd h182 b27 e13 z149_n_L_b27 z149_f_L_b27 := (Al_187.ext E182)
    have Od_196 : Old Z n0 h182 := (Old.ext Od_183 E182)
    obtain ⟨v193, T193, L193, X193, hQ193, st193⟩ := callNew X182 hx hZ hown rfl (wq hw (i := 45) rfl) (wq hw (i := 46) rfl) (wq hw (i := 44) rfl) (wq hw (i := 47) rfl) (by decide) (rm6 l Z a0 hw [] b182 b14 b27 n0 dd e13 z149_n_L_b27 z149_f_L_b27 vb192 h182 n0 Zs_194 A182 Fn182_transition Fn182_outrankedBy Al_195 Od_196 ge_b182 ne_b27_b182 ne_e13_b182 hb192 hl192) e182 (W := 2) (by decide) (by decide) (by decide) (by decide) (g := (mkF m 273 #[vi p0, vi p1, vi p2, vi (p0 &&& (3 : Int32)), vi (g0_11 p0), vi (own_b16 p0), vi (own_b32 p0), vi (own_b64 p0), vi (own_b128 p0), vi (g0_74 p0), vi (g0_90 p0 p2), vr b14, vr b19, vr b27, vr b35, vr b139, su, su, su] [(.ref b27), (.ref b14), (.ref b182), (.ref b182), (.ref b139)])) rfl (by rw [hml]; rfl) (argsL := [(.ref b14), (.ref b27)]) (rest := [(.ref b182), (.ref b139)]) rfl (lenOf pd_25 rfl) rfl (by show 2 * 0 + _ ≤ _; exact Nat.le_of_eq rfl) (hb hby at_273)
    obtain ⟨rfl, Nq193, K193, b193, sz193, ge_b193, nq193, Em193, Ft193, Fo193, Ea193, Ar193⟩ := hQ193
    have An_197 : AryQ Z h182 dd (0 : Int32) := (A_dd.ext Od_196.2)
    have ne_dd_b193 : dd ≠ b193 := Nat.ne_of_lt (Nat.lt_of_lt_of_le An_197.lt sz193)
    have Ex_198 : Exa Z h182 b14 kTr := (Ex_185.ext E182)
    have ne_b14_b193 : b14 ≠ b193 := Nat.ne_of_lt (Nat.lt_of_lt_of_le Ex_198.lt sz193)
    have Al_199 : ALs Z n0 dd h182 b19 dd (0 : Int32) (fun _ => .null) := (Al_186.ext E182)
    have ne_b19_b193 : b19 ≠ b193 := Nat.ne_of_lt (Nat.lt_of_lt_of_le Al_199.lt sz193)
    have ne_b27_b193 : b27 ≠ b193 := Nat.ne_of_lt (Nat.lt_of_lt_of_le Al_195.lt sz193)
    have ne_e13_b193 : e13 ≠ b193 := Nat.ne_of_lt (Nat.lt_of_lt_of_le Al_195.lte sz193)
    have Al_200 : ALs Z n0 dd h182 b35 e14 z225_n_L_b35 z225_f_L_b35 := (Al_188.ext E182)
    have ne_b35_b193 : b35 ≠ b193 := Nat.ne_of_lt (Nat.lt_of_lt_of_le Al_200.lt sz193)
    have ne_e14_b193 : e14 ≠ b193 := Nat.ne_of_lt (Nat.lt_of_lt_of_le Al_200.lte sz193)
    have Al_201 : ALs Z n0 dd h182 b139 x165 (1 : Int32) (upd (fun _ => .null) 0 (.ref b147)) := (Al165.ext E182)
    have ne_b139_b193 : b139 ≠ b193 := Nat.ne_of_lt (Nat.lt_of_lt_of_le Al_201.lt sz193)
    have ne_x165_b193 : x165 ≠ b193 := Nat.ne_of_lt (Nat.lt_of_lt_of_le Al_201.lte sz193)
    have Ex_202 : Exa Z h182 b147 kMv := (Ex_189.ext E182)
    have ne_b147_b193 : b147 ≠ b193 := Nat.ne_of_lt (Nat.lt_of_lt_of_le Ex_202.lt sz193)
    have Ex_203 : Exa Z h182 b156 "[I" := (Ex_190.ext E182)
    have ne_b156_b193 : b156 ≠ b193 := Nat.ne_of_lt (Nat.lt_of_lt_of_le Ex_203.lt sz193)
    have ne_b182_b193 : b182 ≠ b193 := Nat.ne_of_lt (Nat.lt_of_lt_of_le A182.lt sz193)
    have N193 := Fr.app N165 Nq193
    refine Fini.st st193 ?_
    show Fini _ _ _ _ _ _ _ T193 (mkF m 276 #[vi p0, vi p1, vi p2, vi (p0 &&& (3 : Int32)), vi (g0_11 p0), vi (own_b16 p0), vi (own_b32 p0), vi (own_b64 p0), vi (own_b128 p0), vi (g0_74 p0), vi (g0_90 p0 p2), vr b14, vr b19, vr b27, vr b35, vr b139, su, su, su] [(.ref b182), (.ref b139)])
    have Zs_205 : n0 ≤ T193.heap.size := (Nat.le_trans Zs_194 K193.1)
    have Al_206 : ALs Z n0 dd T193.heap b139 x165 (1 : Int32) (upd (fun _ => .null) 0 (.ref b147)) := (Al_201.keep K193 (ninS ne_b139_b182 nin0) (ninS ne_x165_b182 nin0))
    have Od_207 : Old Z n0 T193.heap := (Old.keep Od_196 K193 (allS (P := fun x => n0 ≤ x) ge_b182 all0))
    obtain ⟨v204, T204, L204, X204, hQ204, st204⟩ := callI X193 hx hZ hown (wq hw (i := 65) rfl) (wq hw (i := 66) rfl) (wq hw (i := 67) rfl) (wq hw (i := 68) rfl) (wq hw (i := 69) rfl) (wq hw (i := 70) rfl) (wq hw (i := 71) rfl) (wq hw (i := 58) rfl) (wq hw (i := 20) rfl) (wq hw (i := 72) rfl) Al_206.exa (by decide) (c8 l Z a0 hw T193.heap n0 Zs_205 Al_206 (o1 := b182) (Nat.le_refl n0) ge_b139 (by decide) Od_207 S_dd A_dd (Ins.of_exa Em193 (wq hw (i := 96) rfl)) Zs_205) rfl (W := 0) (by decide) (by decide) (by decide) (by decide) (g := (mkF m 276 #[vi p0, vi p1, vi p2, vi (p0 &&& (3 : Int32)), vi (g0_11 p0), vi (own_b16 p0), vi (own_b32 p0), vi (own_b64 p0), vi (own_b128 p0), vi (g0_74 p0), vi (g0_90 p0 p2), vr b14, vr b19, vr b27, vr b35, vr b139, su, su, su] [(.ref b182), (.ref b139)])) rfl (by rw [hml]; rfl) (argsL := [(.ref b182)]) (rest := []) rfl (lenOf pd_21 rfl) rfl (by show 2 * 0 + _ ≤ _; exact Nat.le_of_eq rfl) (hb hby at_276)
    obtain ⟨rfl, Nq204, x204, K204, hx204, Bx204, Al204⟩ := hQ204
    have An_208 : AryQ Z T193.heap dd (0 : Int32) := (A_dd.ext Od_207.2)
    have Ex_209 : Exa Z T193.heap b14 kTr := (Ex_198.keep K193)
    have Al_210 : ALs Z n0 dd T193.heap b19 dd (0 : Int32) (fun _ => .null) := (Al_199.keep K193 (ninS ne_b19_b182 nin0) (ninS ne_dd_b182 nin0))
    have Al_211 : ALs Z n0 dd T193.heap b27 e13 z149_n_L_b27 z149_f_L_b27 := (Al_195.keep K193 (ninS ne_b27_b182 nin0) (ninS ne_e13_b182 nin0))
    have Al_212 : ALs Z n0 dd T193.heap b35 e14 z225_n_L_b35 z225_f_L_b35 := (Al_200.keep K193 (ninS ne_b35_b182 nin0) (ninS ne_e14_b182 nin0))
    have Ex_213 : Exa Z T193.heap b147 kMv := (Ex_202.keep K193)
    have Ex_214 : Exa Z T193.heap b156 "[I" := (Ex_203.keep K193)
    have ne_dd_x204 : dd ≠ x204 := Nat.ne_of_lt (Nat.lt_of_lt_of_le (Od_207.1 ▸ A_dd.lt) (Nat.le_trans (Nat.le_refl n0) Bx204))
    have ne_b14_x204 : b14 ≠ x204 := hx204.elim (fun w => by rw [w.1]; exact ne_b14_x165) (fun w => Nat.ne_of_lt (Nat.lt_of_lt_of_le Ex_209.lt w))
    have ne_b19_x204 : b19 ≠ x204 := hx204.elim (fun w => by rw [w.1]; exact ne_b19_x165) (fun w => Nat.ne_of_lt (Nat.lt_of_lt_of_le Al_210.lt w))
    have ne_b27_x204 : b27 ≠ x204 := hx204.elim (fun w => by rw [w.1]; exact ne_b27_x165) (fun w => Nat.ne_of_lt (Nat.lt_of_lt_of_le Al_211.lt w))
    have ne_e13_x204 : e13 ≠ x204 := hx204.elim (fun w => by rw [w.1]; exact ne_e13_x165) (fun w => Nat.ne_of_lt (Nat.lt_of_lt_of_le Al_211.lte w))
    have ne_b35_x204 : b35 ≠ x204 := hx204.elim (fun w => by rw [w.1]; exact ne_b35_x165) (fun w => Nat.ne_of_lt (Nat.lt_of_lt_of_le Al_212.lt w))
    have ne_e14_x204 : e14 ≠ x204 := hx204.elim (fun w => by rw [w.1]; exact ne_e14_x165) (fun w => Nat.ne_of_lt (Nat.lt_of_lt_of_le Al_212.lte w))
    have ne_b139_x204 : b139 ≠ x204 := hx204.elim (fun w => by rw [w.1]; exact Al_206.2.2.2.2.1) (fun w => Nat.ne_of_lt (Nat.lt_of_lt_of_le Al_206.lt w))
    have ne_b147_x204 : b147 ≠ x204 := hx204.elim (fun w => by rw [w.1]; exact ne_b147_x165) (fun w => Nat.ne_of_lt (Nat.lt_of_lt_of_le Ex_213.lt w))
    have ne_b156_x204 : b156 ≠ x204 := hx204.elim (fun w => by rw [w.1]; exact ne_b156_x165) (fun w => Nat.ne_of_lt (Nat.lt_of_lt_of_le Ex_214.lt w))
    have ne_b182_x204 : b182 ≠ x204 := hx204.elim (fun w => by rw [w.1]; exact (Ne.symm ne_x165_b182)) (fun w => Nat.ne_of_lt (Nat.lt_of_lt_of_le Em193.lt w))
    have ne_b193_x204 : b193 ≠ x204 := hx204.elim (fun w => by rw [w.1]; exact (Ne.symm ne_x165_b193)) (fun w => Nat.ne_of_lt (Nat.lt_of_lt_of_le Ea193.lt w))
    have N204 := Fr.app N193 Nq204
    refine Fini.st st204 ?_
    show Fini _ _ _ _ _ _ _ T204 (mkF m 281 #[vi p0, vi p1, vi p2, vi (p0 &&& (3 : Int32)), vi (g0_11 p0), vi (own_b16 p0), vi (own_b32 p0), vi (own_b64 p0), vi (own_b128 p0), vi (g0_74 p0), vi (g0_90 p0 p2), vr b14, vr b19, vr b27, vr b35, vr b139, su, su, su] [(.int (1 : Int32))])
    refine Fini.st (fun _ k => XS.pop X204.here hx rfl (hb hby at_281) rfl rfl k) ?_
    refine fIN X204 hx hby at_282 rfl rfl ?_
    refine fC X204 hx hby at_283 rfl ?_
    show Fini _ _ _ _ _ _ _ T204 (mkF m 284 #[vi p0, vi p1, vi p2, vi (p0 &&& (3 : Int32)), vi (g0_11 p0), vi (own_b16 p0), vi (own_b32 p0), vi (own_b64 p0), vi (own_b128 p0), vi (g0_74 p0), vi (g0_90 p0 p2), vr b14, vr b19, vr b27, vr b35, vr b139, su, su, su] [(.int (3 : Int32)), (.int (p0 &&& (3 : Int32)))])
    by_cases c215 : (p0 &&& (3 : Int32)) < (3 : Int32)
    ·
     refine Fini.st (fun _ k => XS.icmpYes X204.here hx rfl (pc0 := 284) (pc' := 306) rfl (hb hby at_284) rfl (XT.ii_lt_t c215) (by decide) (by decide) k) ?_
     show Fini _ _ _ _ _ _ _ T204 (mkF m 306 #[vi p0, vi p1, vi p2, vi (p0 &&& (3 : Int32)), vi (g0_11 p0), vi (own_b16 p0), vi (own_b32 p0), vi (own_b64 p0), vi (own_b128 p0), vi (g0_74 p0), vi (g0_90 p0 p2), vr b14, vr b19, vr b27, vr b35, vr b139, su, su, su] [])
     have Ex_217 : Exa Z T204.heap b147 kMv := (Ex_213.keep K204)
     have Ex_218 : Exa Z T204.heap b156 "[I" := (Ex_214.keep K204)
     have Ar_219 : AryI Z T204.heap b156 .int (0 : Int32) vb155 := ((((Ar156.keep K165 (ninS (Ne.symm ne_b139_b156) (ninS ne_b156_x165 nin0))).ext E182).keep K193 (ninS ne_b156_b182 nin0)).keep K204 (ninS (Ne.symm ne_b139_b156) (ninS ne_b156_x204 nin0)))
     have F_220 : Fld Z T204.heap b147 kMv "transition" "Lcom/example/firm_handshake/firmhandshake/model/Transition;" (.ref b14) := ((((Ft156.keep K165 (ninS (Ne.symm ne_b139_b147) (ninS ne_b147_x165 nin0))).ext E182).keep K193 (ninS ne_b147_b182 nin0)).keep K204 (ninS (Ne.symm ne_b139_b147) (ninS ne_b147_x204 nin0)))
     have F_221 : Fld Z T204.heap b147 kMv "outrankedBy" "[I" (.ref b156) := ((((Fo156.keep K165 (ninS (Ne.symm ne_b139_b147) (ninS ne_b147_x165 nin0))).ext E182).keep K193 (ninS ne_b147_b182 nin0)).keep K204 (ninS (Ne.symm ne_b139_b147) (ninS ne_b147_x204 nin0)))
     have mv216_0 : MVn Z T204.heap T204.heap.size b14 1 (upd (fun _ => .null) 0 (.ref b147)) (own_S p0) := MVn.step (MVn.zero _ _ _ _ _ _) ⟨b147, b156, _, _, rfl, Ex_217.lt, Ar_219.lt, Ex_217, F_220, F_221, Ex_218, Ar_219, own_23 hl155, hm155⟩
     have Ex_222 : Exa Z T204.heap b182 kMv := (Em193.keep K204)
     have Ex_223 : Exa Z T204.heap b193 "[I" := (Ea193.keep K204)
     have Ar_224 : AryI Z T204.heap b193 .int z149_n_L_b27 vb192 := (Ar193.keep K204 (ninS (Ne.symm ne_b139_b193) (ninS ne_b193_x204 nin0)))
     have F_225 : Fld Z T204.heap b182 kMv "transition" "Lcom/example/firm_handshake/firmhandshake/model/Transition;" (.ref b14) := (Ft193.keep K204 (ninS (Ne.symm ne_b139_b182) (ninS ne_b182_x204 nin0)))
     have F_226 : Fld Z T204.heap b182 kMv "outrankedBy" "[I" (.ref b193) := (Fo193.keep K204 (ninS (Ne.symm ne_b139_b182) (ninS ne_b182_x204 nin0)))
     have mv216_1 : MVn Z T204.heap T204.heap.size b14 2 (upd (upd (fun _ => .null) 0 (.ref b147)) 1 (.ref b182)) (own_S p0) := MVn.step mv216_0 ⟨b182, b193, _, _, rfl, Ex_222.lt, Ar_224.lt, Ex_222, F_225, F_226, Ex_223, Ar_224, own_23 hl192, hm192⟩
     have ek216 : (p0 &&& (3 : Int32)) = (2 : Int32) := (own_q2 c174 c215)
     have mw216 : MV Z T204.heap T204.heap.size b14 (2 : Int32) (upd (upd (fun _ => .null) 0 (.ref b147)) 1 (.ref b182)) (own_S p0) := mv216_1
     obtain ⟨e15, q_e15⟩ : ∃ q, q = x204 := ⟨_, rfl⟩
     have Al_e15_227 : ALs Z n0 dd T204.heap b139 e15 (2 : Int32) (upd (upd (fun _ => .null) 0 (.ref b147)) 1 (.ref b182)) := by rw [q_e15]; exact Al204
     have ne_e15_dd : e15 ≠ dd := by rw [q_e15]; exact Ne.symm ne_dd_x204
     have ne_e15_b14 : e15 ≠ b14 := by rw [q_e15]; exact Ne.symm ne_b14_x204
     have ne_e15_b19 : e15 ≠ b19 := by rw [q_e15]; exact Ne.symm ne_b19_x204
     have ne_e15_b27 : e15 ≠ b27 := by rw [q_e15]; exact Ne.symm ne_b27_x204
     have ne_e15_e13 : e15 ≠ e13 := by rw [q_e15]; exact Ne.symm ne_e13_x204
     have ne_e15_b35 : e15 ≠ b35 := by rw [q_e15]; exact Ne.symm ne_b35_x204
     have ne_e15_e14 : e15 ≠ e14 := by rw [q_e15]; exact Ne.symm ne_e14_x204
     have ne_e15_b139 : e15 ≠ b139 := by rw [q_e15]; exact Ne.symm ne_b139_x204
     have ne_e15_b147 : e15 ≠ b147 := by rw [q_e15]; exact Ne.symm ne_b147_x204
     have ne_e15_b156 : e15 ≠ b156 := by rw [q_e15]; exact Ne.symm ne_b156_x204
     have ne_e15_b182 : e15 ≠ b182 := by rw [q_e15]; exact Ne.symm ne_b182_x204
     have ne_e15_b193 : e15 ≠ b193 := by rw [q_e15]; exact Ne.symm ne_b193_x204
     have Od_402 : Old Z n0 T204.heap := (Old.keep Od_207 K204 (allS (P := fun x => n0 ≤ x) ge_b139 (allS (P := fun x => n0 ≤ x) (Nat.le_trans (Nat.le_refl n0) Bx204) all0)))
     have Zs_403 : n0 ≤ T204.heap.size := (Nat.le_trans Zs_205 K204.1)
     have Ex_404 : Exa Z T204.heap b14 kTr := (Ex_209.keep K204)
     exact B306 T204 _ _ (X204.more (cells' := 17) (slots' := 88) (by decide) (by decide)) rfl b139 b14 b19 b27 b35 e15 (upd (upd (fun _ => .null) 0 (.ref b147)) 1 (.ref b182)) (2 : Int32) N204 Od_402 Zs_403 Ex_404 Al_e15_227 ne225_dd_b14 ne_dd_b139 ne_b14_b139 ne_e15_b14 ne_e15_b139 ge_b139 ge225_b14 cy225_nz cy225_te mw216 ek216.symm
    ·
     refine Fini.st (fun _ k => XS.icmpNo X204.here hx rfl (hb hby at_284) rfl (XT.ii_lt_f c215) k) ?_
     show Fini _ _ _ _ _ _ _ T204 (mkF m 287 #[vi p0, vi p1, vi p2, vi (p0 &&& (3 : Int32)), vi (g0_11 p0), vi (own_b16 p0), vi (own_b32 p0), vi (own_b64 p0), vi (own_b128 p0), vi (g0_74 p0), vi (g0_90 p0 p2), vr b14, vr b19, vr b27, vr b35, vr b139, su, su, su] [])
     refine fA X204 hx hby at_287 rfl rfl rfl ?_
     obtain ⟨T228, h228, X228, e228, E228, A228, D228, -, st228⟩ := newO X204 hx hZ hown (wq hw (i := 42) rfl) (wq hw (i := 43) rfl) (wq hw (i := 44) rfl) rfl (g := (mkF m 289 #[vi p0, vi p1, vi p2, vi (p0 &&& (3 : Int32)), vi (g0_11 p0), vi (own_b16 p0), vi (own_b32 p0), vi (own_b64 p0), vi (own_b128 p0), vi (g0_74 p0), vi (g0_90 p0 p2), vr b14, vr b19, vr b27, vr b35, vr b139, su, su, su] [(.ref b139)])) rfl (hb hby at_289) (by decide) (by decide)
     obtain ⟨b228, g228⟩ : ∃ z, z = T204.heap.size := ⟨_, rfl⟩
     rw [← g228] at A228 D228 st228
     have Od_229 : Old Z n0 T204.heap := (Old.keep Od_207 K204 (allS (P := fun x => n0 ≤ x) ge_b139 (allS (P := fun x => n0 ≤ x) (Nat.le_trans (Nat.le_refl n0) Bx204) all0)))
     have An_230 : AryQ Z T204.heap dd (0 : Int32) := (A_dd.ext Od_229.2)
     have ne_dd_b228 : dd ≠ b228 := Nat.ne_of_lt (Nat.lt_of_lt_of_le An_230.lt (Nat.le_of_eq g228.symm))
     have Ex_231 : Exa Z T204.heap b14 kTr := (Ex_209.keep K204)
     have ne_b14_b228 : b14 ≠ b228 := Nat.ne_of_lt (Nat.lt_of_lt_of_le Ex_231.lt (Nat.le_of_eq g228.symm))
     have Al_232 : ALs Z n0 dd T204.heap b19 dd (0 : Int32) (fun _ => .null) := (Al_210.keep K204 (ninS ne_b19_b139 (ninS ne_b19_x204 nin0)) (ninS ne_dd_b139 (ninS ne_dd_x204 nin0)))
     have ne_b19_b228 : b19 ≠ b228 := Nat.ne_of_lt (Nat.lt_of_lt_of_le Al_232.lt (Nat.le_of_eq g228.symm))
     have Al_233 : ALs Z n0 dd T204.heap b27 e13 z149_n_L_b27 z149_f_L_b27 := (Al_211.keep K204 (ninS ne_b27_b139 (ninS ne_b27_x204 nin0)) (ninS ne_e13_b139 (ninS ne_e13_x204 nin0)))
     have ne_b27_b228 : b27 ≠ b228 := Nat.ne_of_lt (Nat.lt_of_lt_of_le Al_233.lt (Nat.le_of_eq g228.symm))
     have ne_e13_b228 : e13 ≠ b228 := Nat.ne_of_lt (Nat.lt_of_lt_of_le Al_233.lte (Nat.le_of_eq g228.symm))
     have Al_234 : ALs Z n0 dd T204.heap b35 e14 z225_n_L_b35 z225_f_L_b35 := (Al_212.keep K204 (ninS ne_b35_b139 (ninS ne_b35_x204 nin0)) (ninS ne_e14_b139 (ninS ne_e14_x204 nin0)))
     have ne_b35_b228 : b35 ≠ b228 := Nat.ne_of_lt (Nat.lt_of_lt_of_le Al_234.lt (Nat.le_of_eq g228.symm))
     have ne_e14_b228 : e14 ≠ b228 := Nat.ne_of_lt (Nat.lt_of_lt_of_le Al_234.lte (Nat.le_of_eq g228.symm))
     have ne_b139_b228 : b139 ≠ b228 := Nat.ne_of_lt (Nat.lt_of_lt_of_le Al204.lt (Nat.le_of_eq g228.symm))
     have ne_x204_b228 : x204 ≠ b228 := Nat.ne_of_lt (Nat.lt_of_lt_of_le Al204.lte (Nat.le_of_eq g228.symm))
     have Ex_235 : Exa Z T204.heap b147 kMv := (Ex_213.keep K204)
     have ne_b147_b228 : b147 ≠ b228 := Nat.ne_of_lt (Nat.lt_of_lt_of_le Ex_235.lt (Nat.le_of_eq g228.symm))
     have Ex_236 : Exa Z T204.heap b156 "[I" := (Ex_214.keep K204)
     have ne_b156_b228 : b156 ≠ b228 := Nat.ne_of_lt (Nat.lt_of_lt_of_le Ex_236.lt (Nat.le_of_eq g228.symm))
     have Ex_237 : Exa Z T204.heap b182 kMv := (Em193.keep K204)
     have ne_b182_b228 : b182 ≠ b228 := Nat.ne_of_lt (Nat.lt_of_lt_of_le Ex_237.lt (Nat.le_of_eq g228.symm))
     have Ex_238 : Exa Z T204.heap b193 "[I" := (Ea193.keep K204)
     have ne_b193_b228 : b193 ≠ b228 := Nat.ne_of_lt (Nat.lt_of_lt_of_le Ex_238.lt (Nat.le_of_eq g228.symm))
     have Zs_239 : n0 ≤ T204.heap.size := (Nat.le_trans Zs_205 K204.1)
     have ge_b228 : n0 ≤ b228 := Nat.le_trans Zs_239 (Nat.le_of_eq g228.symm)
     have Fn228_transition : Fld Z h228 b228 kMv "transition" "Lcom/example/firm_handshake/firmhandshake/model/Transition;" .null := D228 (Or.inr (wq hw (i := 50) rfl)) (ty := (.object "com/example/firm_handshake/firmhandshake/model/Transition")) (by decide)
     have Fn228_outrankedBy : Fld Z h228 b228 kMv "outrankedBy" "[I" .null := D228 (Or.inr (wq hw (i := 64) rfl)) (ty := (.array .int)) (by decide)
     refine Fini.st st228 ?_
     show Fini _ _ _ _ _ _ _ T228 (mkF m 292 #[vi p0, vi p1, vi p2, vi (p0 &&& (3 : Int32)), vi (g0_11 p0), vi (own_b16 p0), vi (own_b32 p0), vi (own_b64 p0), vi (own_b128 p0), vi (g0_74 p0), vi (g0_90 p0 p2), vr b14, vr b19, vr b27, vr b35, vr b139, su, su, su] [(.ref b228), (.ref b139)])
     refine Fini.st (fun _ k => XS.dup X228.here hx rfl (hb hby at_292) rfl rfl k) ?_
     refine fA X228 hx hby at_293 rfl rfl rfl ?_
     refine fA X228 hx hby at_295 rfl rfl rfl ?_
     show Fini _ _ _ _ _ _ _ T228 (mkF m 297 #[vi p0, vi p1, vi p2, vi (p0 &&& (3 : Int32)), vi (g0_11 p0), vi (own_b16 p0), vi (own_b32 p0), vi (own_b64 p0), vi (own_b128 p0), vi (g0_74 p0), vi (g0_90 p0 p2), vr b14, vr b19, vr b27, vr b35, vr b139, su, su, su] [(.ref b35), (.ref b14), (.ref b228), (.ref b228), (.ref b139)])
     obtain ⟨vb240, hb240, hm240, hl240⟩ := cy225_bx14
     have Zs_242 : n0 ≤ h228.size := (Nat.le_trans Zs_239 E228.1)
     have Al_243 : ALs Z n0 dd h228 b35 e14 z225_n_L_b35 z225_f_L_b35 := (Al_234.ext E228)
     have Od_244 : Old Z n0 h228 := (Old.ext Od_229 E228)
     obtain ⟨v241, T241, L241, X241, hQ241, st241⟩ := callNew X228 hx hZ hown rfl (wq hw (i := 45) rfl) (wq hw (i := 46) rfl) (wq hw (i := 44) rfl) (wq hw (i := 47) rfl) (by decide) (rm6 l Z a0 hw [] b228 b14 b35 n0 dd e14 z225_n_L_b35 z225_f_L_b35 vb240 h228 n0 Zs_242 A228 Fn228_transition Fn228_outrankedBy Al_243 Od_244 ge_b228 ne_b35_b228 ne_e14_b228 hb240 hl240) e228 (W := 2) (by decide) (by decide) (by decide) (by decide) (g := (mkF m 297 #[vi p0, vi p1, vi p2, vi (p0 &&& (3 : Int32)), vi (g0_11 p0), vi (own_b16 p0), vi (own_b32 p0), vi (own_b64 p0), vi (own_b128 p0), vi (g0_74 p0), vi (g0_90 p0 p2), vr b14, vr b19, vr b27, vr b35, vr b139, su, su, su] [(.ref b35), (.ref b14), (.ref b228), (.ref b228), (.ref b139)])) rfl (by rw [hml]; rfl) (argsL := [(.ref b14), (.ref b35)]) (rest := [(.ref b228), (.ref b139)]) rfl (lenOf pd_25 rfl) rfl (by show 2 * 0 + _ ≤ _; exact Nat.le_of_eq rfl) (hb hby at_297)
     obtain ⟨rfl, Nq241, K241, b241, sz241, ge_b241, nq241, Em241, Ft241, Fo241, Ea241, Ar241⟩ := hQ241
     have An_245 : AryQ Z h228 dd (0 : Int32) := (A_dd.ext Od_244.2)
     have ne_dd_b241 : dd ≠ b241 := Nat.ne_of_lt (Nat.lt_of_lt_of_le An_245.lt sz241)
     have Ex_246 : Exa Z h228 b14 kTr := (Ex_231.ext E228)
     have ne_b14_b241 : b14 ≠ b241 := Nat.ne_of_lt (Nat.lt_of_lt_of_le Ex_246.lt sz241)
     have Al_247 : ALs Z n0 dd h228 b19 dd (0 : Int32) (fun _ => .null) := (Al_232.ext E228)
     have ne_b19_b241 : b19 ≠ b241 := Nat.ne_of_lt (Nat.lt_of_lt_of_le Al_247.lt sz241)
     have Al_248 : ALs Z n0 dd h228 b27 e13 z149_n_L_b27 z149_f_L_b27 := (Al_233.ext E228)
     have ne_b27_b241 : b27 ≠ b241 := Nat.ne_of_lt (Nat.lt_of_lt_of_le Al_248.lt sz241)
     have ne_e13_b241 : e13 ≠ b241 := Nat.ne_of_lt (Nat.lt_of_lt_of_le Al_248.lte sz241)
     have ne_b35_b241 : b35 ≠ b241 := Nat.ne_of_lt (Nat.lt_of_lt_of_le Al_243.lt sz241)
     have ne_e14_b241 : e14 ≠ b241 := Nat.ne_of_lt (Nat.lt_of_lt_of_le Al_243.lte sz241)
     have Al_249 : ALs Z n0 dd h228 b139 x204 (2 : Int32) (upd (upd (fun _ => .null) 0 (.ref b147)) 1 (.ref b182)) := (Al204.ext E228)
     have ne_b139_b241 : b139 ≠ b241 := Nat.ne_of_lt (Nat.lt_of_lt_of_le Al_249.lt sz241)
     have ne_x204_b241 : x204 ≠ b241 := Nat.ne_of_lt (Nat.lt_of_lt_of_le Al_249.lte sz241)
     have Ex_250 : Exa Z h228 b147 kMv := (Ex_235.ext E228)
     have ne_b147_b241 : b147 ≠ b241 := Nat.ne_of_lt (Nat.lt_of_lt_of_le Ex_250.lt sz241)
     have Ex_251 : Exa Z h228 b156 "[I" := (Ex_236.ext E228)
     have ne_b156_b241 : b156 ≠ b241 := Nat.ne_of_lt (Nat.lt_of_lt_of_le Ex_251.lt sz241)
     have Ex_252 : Exa Z h228 b182 kMv := (Ex_237.ext E228)
     have ne_b182_b241 : b182 ≠ b241 := Nat.ne_of_lt (Nat.lt_of_lt_of_le Ex_252.lt sz241)
     have Ex_253 : Exa Z h228 b193 "[I" := (Ex_238.ext E228)
     have ne_b193_b241 : b193 ≠ b241 := Nat.ne_of_lt (Nat.lt_of_lt_of_le Ex_253.lt sz241)
     have ne_b228_b241 : b228 ≠ b241 := Nat.ne_of_lt (Nat.lt_of_lt_of_le A228.lt sz241)
     have N241 := Fr.app N204 Nq241
     refine Fini.st st241 ?_
     show Fini _ _ _ _ _ _ _ T241 (mkF m 300 #[vi p0, vi p1, vi p2, vi (p0 &&& (3 : Int32)), vi (g0_11 p0), vi (own_b16 p0), vi (own_b32 p0), vi (own_b64 p0), vi (own_b128 p0), vi (g0_74 p0), vi (g0_90 p0 p2), vr b14, vr b19, vr b27, vr b35, vr b139, su, su, su] [(.ref b228), (.ref b139)])
     have Zs_255 : n0 ≤ T241.heap.size := (Nat.le_trans Zs_242 K241.1)
     have Al_256 : ALs Z n0 dd T241.heap b139 x204 (2 : Int32) (upd (upd (fun _ => .null) 0 (.ref b147)) 1 (.ref b182)) := (Al_249.keep K241 (ninS ne_b139_b228 nin0) (ninS ne_x204_b228 nin0))
     have Od_257 : Old Z n0 T241.heap := (Old.keep Od_244 K241 (allS (P := fun x => n0 ≤ x) ge_b228 all0))
     obtain ⟨v254, T254, L254, X254, hQ254, st254⟩ := callI X241 hx hZ hown (wq hw (i := 65) rfl) (wq hw (i := 66) rfl) (wq hw (i := 67) rfl) (wq hw (i := 68) rfl) (wq hw (i := 69) rfl) (wq hw (i := 70) rfl) (wq hw (i := 71) rfl) (wq hw (i := 58) rfl) (wq hw (i := 20) rfl) (wq hw (i := 72) rfl) Al_256.exa (by decide) (c8 l Z a0 hw T241.heap n0 Zs_255 Al_256 (o1 := b228) (Nat.le_refl n0) ge_b139 (by decide) Od_257 S_dd A_dd (Ins.of_exa Em241 (wq hw (i := 96) rfl)) Zs_255) rfl (W := 0) (by decide) (by decide) (by decide) (by decide) (g := (mkF m 300 #[vi p0, vi p1, vi p2, vi (p0 &&& (3 : Int32)), vi (g0_11 p0), vi (own_b16 p0), vi (own_b32 p0), vi (own_b64 p0), vi (own_b128 p0), vi (g0_74 p0), vi (g0_90 p0 p2), vr b14, vr b19, vr b27, vr b35, vr b139, su, su, su] [(.ref b228), (.ref b139)])) rfl (by rw [hml]; rfl) (argsL := [(.ref b228)]) (rest := []) rfl (lenOf pd_21 rfl) rfl (by show 2 * 0 + _ ≤ _; exact Nat.le_of_eq rfl) (hb hby at_300)
     obtain ⟨rfl, Nq254, x254, K254, hx254, Bx254, Al254⟩ := hQ254
     have An_258 : AryQ Z T241.heap dd (0 : Int32) := (A_dd.ext Od_257.2)
     have Ex_259 : Exa Z T241.heap b14 kTr := (Ex_246.keep K241)
     have Al_260 : ALs Z n0 dd T241.heap b19 dd (0 : Int32) (fun _ => .null) := (Al_247.keep K241 (ninS ne_b19_b228 nin0) (ninS ne_dd_b228 nin0))
     have Al_261 : ALs Z n0 dd T241.heap b27 e13 z149_n_L_b27 z149_f_L_b27 := (Al_248.keep K241 (ninS ne_b27_b228 nin0) (ninS ne_e13_b228 nin0))
     have Al_262 : ALs Z n0 dd T241.heap b35 e14 z225_n_L_b35 z225_f_L_b35 := (Al_243.keep K241 (ninS ne_b35_b228 nin0) (ninS ne_e14_b228 nin0))
     have Ex_263 : Exa Z T241.heap b147 kMv := (Ex_250.keep K241)
     have Ex_264 : Exa Z T241.heap b156 "[I" := (Ex_251.keep K241)
     have Ex_265 : Exa Z T241.heap b182 kMv := (Ex_252.keep K241)
     have Ex_266 : Exa Z T241.heap b193 "[I" := (Ex_253.keep K241)
     have ne_dd_x254 : dd ≠ x254 := Nat.ne_of_lt (Nat.lt_of_lt_of_le (Od_257.1 ▸ A_dd.lt) (Nat.le_trans (Nat.le_refl n0) Bx254))
     have ne_b14_x254 : b14 ≠ x254 := hx254.elim (fun w => by rw [w.1]; exact ne_b14_x204) (fun w => Nat.ne_of_lt (Nat.lt_of_lt_of_le Ex_259.lt w))
     have ne_b19_x254 : b19 ≠ x254 := hx254.elim (fun w => by rw [w.1]; exact ne_b19_x204) (fun w => Nat.ne_of_lt (Nat.lt_of_lt_of_le Al_260.lt w))
     have ne_b27_x254 : b27 ≠ x254 := hx254.elim (fun w => by rw [w.1]; exact ne_b27_x204) (fun w => Nat.ne_of_lt (Nat.lt_of_lt_of_le Al_261.lt w))
     have ne_e13_x254 : e13 ≠ x254 := hx254.elim (fun w => by rw [w.1]; exact ne_e13_x204) (fun w => Nat.ne_of_lt (Nat.lt_of_lt_of_le Al_261.lte w))
     have ne_b35_x254 : b35 ≠ x254 := hx254.elim (fun w => by rw [w.1]; exact ne_b35_x204) (fun w => Nat.ne_of_lt (Nat.lt_of_lt_of_le Al_262.lt w))
     have ne_e14_x254 : e14 ≠ x254 := hx254.elim (fun w => by rw [w.1]; exact ne_e14_x204) (fun w => Nat.ne_of_lt (Nat.lt_of_lt_of_le Al_262.lte w))
     have ne_b139_x254 : b139 ≠ x254 := hx254.elim (fun w => by rw [w.1]; exact Al_256.2.2.2.2.1) (fun w => Nat.ne_of_lt (Nat.lt_of_lt_of_le Al_256.lt w))
     have ne_b147_x254 : b147 ≠ x254 := hx254.elim (fun w => by rw [w.1]; exact ne_b147_x204) (fun w => Nat.ne_of_lt (Nat.lt_of_lt_of_le Ex_263.lt w))
     have ne_b156_x254 : b156 ≠ x254 := hx254.elim (fun w => by rw [w.1]; exact ne_b156_x204) (fun w => Nat.ne_of_lt (Nat.lt_of_lt_of_le Ex_264.lt w))
     have ne_b182_x254 : b182 ≠ x254 := hx254.elim (fun w => by rw [w.1]; exact ne_b182_x204) (fun w => Nat.ne_of_lt (Nat.lt_of_lt_of_le Ex_265.lt w))
     have ne_b193_x254 : b193 ≠ x254 := hx254.elim (fun w => by rw [w.1]; exact ne_b193_x204) (fun w => Nat.ne_of_lt (Nat.lt_of_lt_of_le Ex_266.lt w))
     have ne_b228_x254 : b228 ≠ x254 := hx254.elim (fun w => by rw [w.1]; exact (Ne.symm ne_x204_b228)) (fun w => Nat.ne_of_lt (Nat.lt_of_lt_of_le Em241.lt w))
     have ne_b241_x254 : b241 ≠ x254 := hx254.elim (fun w => by rw [w.1]; exact (Ne.symm ne_x204_b241)) (fun w => Nat.ne_of_lt (Nat.lt_of_lt_of_le Ea241.lt w))
     have N254 := Fr.app N241 Nq254
     refine Fini.st st254 ?_
     show Fini _ _ _ _ _ _ _ T254 (mkF m 305 #[vi p0, vi p1, vi p2, vi (p0 &&& (3 : Int32)), vi (g0_11 p0), vi (own_b16 p0), vi (own_b32 p0), vi (own_b64 p0), vi (own_b128 p0), vi (g0_74 p0), vi (g0_90 p0 p2), vr b14, vr b19, vr b27, vr b35, vr b139, su, su, su] [(.int (1 : Int32))])
     refine Fini.st (fun _ k => XS.pop X254.here hx rfl (hb hby at_305) rfl rfl k) ?_
     show Fini _ _ _ _ _ _ _ T254 (mkF m 306 #[vi p0, vi p1, vi p2, vi (p0 &&& (3 : Int32)), vi (g0_11 p0), vi (own_b16 p0), vi (own_b32 p0), vi (own_b64 p0), vi (own_b128 p0), vi (g0_74 p0), vi (g0_90 p0 p2), vr b14, vr b19, vr b27, vr b35, vr b139, su, su, su] [])
     have Ex_268 : Exa Z T254.heap b147 kMv := (Ex_263.keep K254)
     have Ex_269 : Exa Z T254.heap b156 "[I" := (Ex_264.keep K254)
     have Ar_270 : AryI Z T254.heap b156 .int (0 : Int32) vb155 := (((((((Ar156.keep K165 (ninS (Ne.symm ne_b139_b156) (ninS ne_b156_x165 nin0))).ext E182).keep K193 (ninS ne_b156_b182 nin0)).keep K204 (ninS (Ne.symm ne_b139_b156) (ninS ne_b156_x204 nin0))).ext E228).keep K241 (ninS ne_b156_b228 nin0)).keep K254 (ninS (Ne.symm ne_b139_b156) (ninS ne_b156_x254 nin0)))
     have F_271 : Fld Z T254.heap b147 kMv "transition" "Lcom/example/firm_handshake/firmhandshake/model/Transition;" (.ref b14) := (((((((Ft156.keep K165 (ninS (Ne.symm ne_b139_b147) (ninS ne_b147_x165 nin0))).ext E182).keep K193 (ninS ne_b147_b182 nin0)).keep K204 (ninS (Ne.symm ne_b139_b147) (ninS ne_b147_x204 nin0))).ext E228).keep K241 (ninS ne_b147_b228 nin0)).keep K254 (ninS (Ne.symm ne_b139_b147) (ninS ne_b147_x254 nin0)))
     have F_272 : Fld Z T254.heap b147 kMv "outrankedBy" "[I" (.ref b156) := (((((((Fo156.keep K165 (ninS (Ne.symm ne_b139_b147) (ninS ne_b147_x165 nin0))).ext E182).keep K193 (ninS ne_b147_b182 nin0)).keep K204 (ninS (Ne.symm ne_b139_b147) (ninS ne_b147_x204 nin0))).ext E228).keep K241 (ninS ne_b147_b228 nin0)).keep K254 (ninS (Ne.symm ne_b139_b147) (ninS ne_b147_x254 nin0)))
     have mv267_0 : MVn Z T254.heap T254.heap.size b14 1 (upd (fun _ => .null) 0 (.ref b147)) (own_S p0) := MVn.step (MVn.zero _ _ _ _ _ _) ⟨b147, b156, _, _, rfl, Ex_268.lt, Ar_270.lt, Ex_268, F_271, F_272, Ex_269, Ar_270, own_23 hl155, hm155⟩
     have Ex_273 : Exa Z T254.heap b182 kMv := (Ex_265.keep K254)
     have Ex_274 : Exa Z T254.heap b193 "[I" := (Ex_266.keep K254)
     have Ar_275 : AryI Z T254.heap b193 .int z149_n_L_b27 vb192 := ((((Ar193.keep K204 (ninS (Ne.symm ne_b139_b193) (ninS ne_b193_x204 nin0))).ext E228).keep K241 (ninS ne_b193_b228 nin0)).keep K254 (ninS (Ne.symm ne_b139_b193) (ninS ne_b193_x254 nin0)))
     have F_276 : Fld Z T254.heap b182 kMv "transition" "Lcom/example/firm_handshake/firmhandshake/model/Transition;" (.ref b14) := ((((Ft193.keep K204 (ninS (Ne.symm ne_b139_b182) (ninS ne_b182_x204 nin0))).ext E228).keep K241 (ninS ne_b182_b228 nin0)).keep K254 (ninS (Ne.symm ne_b139_b182) (ninS ne_b182_x254 nin0)))
     have F_277 : Fld Z T254.heap b182 kMv "outrankedBy" "[I" (.ref b193) := ((((Fo193.keep K204 (ninS (Ne.symm ne_b139_b182) (ninS ne_b182_x204 nin0))).ext E228).keep K241 (ninS ne_b182_b228 nin0)).keep K254 (ninS (Ne.symm ne_b139_b182) (ninS ne_b182_x254 nin0)))
     have mv267_1 : MVn Z T254.heap T254.heap.size b14 2 (upd (upd (fun _ => .null) 0 (.ref b147)) 1 (.ref b182)) (own_S p0) := MVn.step mv267_0 ⟨b182, b193, _, _, rfl, Ex_273.lt, Ar_275.lt, Ex_273, F_276, F_277, Ex_274, Ar_275, own_23 hl192, hm192⟩
     have Ex_278 : Exa Z T254.heap b228 kMv := (Em241.keep K254)
     have Ex_279 : Exa Z T254.heap b241 "[I" := (Ea241.keep K254)
     have Ar_280 : AryI Z T254.heap b241 .int z225_n_L_b35 vb240 := (Ar241.keep K254 (ninS (Ne.symm ne_b139_b241) (ninS ne_b241_x254 nin0)))
     have F_281 : Fld Z T254.heap b228 kMv "transition" "Lcom/example/firm_handshake/firmhandshake/model/Transition;" (.ref b14) := (Ft241.keep K254 (ninS (Ne.symm ne_b139_b228) (ninS ne_b228_x254 nin0)))
     have F_282 : Fld Z T254.heap b228 kMv "outrankedBy" "[I" (.ref b241) := (Fo241.keep K254 (ninS (Ne.symm ne_b139_b228) (ninS ne_b228_x254 nin0)))
     have mv267_2 : MVn Z T254.heap T254.heap.size b14 3 (upd (upd (upd (fun _ => .null) 0 (.ref b147)) 1 (.ref b182)) 2 (.ref b228)) (own_S p0) := MVn.step mv267_1 ⟨b228, b241, _, _, rfl, Ex_278.lt, Ar_280.lt, Ex_278, F_281, F_282, Ex_279, Ar_280, own_23 hl240, hm240⟩
     have ek267 : (p0 &&& (3 : Int32)) = (3 : Int32) := (own_t3 c215 (own_g3 p0).2)
     have mw267 : MV Z T254.heap T254.heap.size b14 (3 : Int32) (upd (upd (upd (fun _ => .null) 0 (.ref b147)) 1 (.ref b182)) 2 (.ref b228)) (own_S p0) := mv267_2
     obtain ⟨e15, q_e15⟩ : ∃ q, q = x254 := ⟨_, rfl⟩
     have Al_e15_283 : ALs Z n0 dd T254.heap b139 e15 (3 : Int32) (upd (upd (upd (fun _ => .null) 0 (.ref b147)) 1 (.ref b182)) 2 (.ref b228)) := by rw [q_e15]; exact Al254
     have ne_e15_dd : e15 ≠ dd := by rw [q_e15]; exact Ne.symm ne_dd_x254
     have ne_e15_b14 : e15 ≠ b14 := by rw [q_e15]; exact Ne.symm ne_b14_x254
     have ne_e15_b19 : e15 ≠ b19 := by rw [q_e15]; exact Ne.symm ne_b19_x254
     have ne_e15_b27 : e15 ≠ b27 := by rw [q_e15]; exact Ne.symm ne_b27_x254
     have ne_e15_e13 : e15 ≠ e13 := by rw [q_e15]; exact Ne.symm ne_e13_x254
     have ne_e15_b35 : e15 ≠ b35 := by rw [q_e15]; exact Ne.symm ne_b35_x254
     have ne_e15_e14 : e15 ≠ e14 := by rw [q_e15]; exact Ne.symm ne_e14_x254
     have ne_e15_b139 : e15 ≠ b139 := by rw [q_e15]; exact Ne.symm ne_b139_x254
     have ne_e15_b147 : e15 ≠ b147 := by rw [q_e15]; exact Ne.symm ne_b147_x254
     have ne_e15_b156 : e15 ≠ b156 := by rw [q_e15]; exact Ne.symm ne_b156_x254
     have ne_e15_b182 : e15 ≠ b182 := by rw [q_e15]; exact Ne.symm ne_b182_x254
     have ne_e15_b193 : e15 ≠ b193 := by rw [q_e15]; exact Ne.symm ne_b193_x254
     have ne_e15_b228 : e15 ≠ b228 := by rw [q_e15]; exact Ne.symm ne_b228_x254
     have ne_e15_b241 : e15 ≠ b241 := by rw [q_e15]; exact Ne.symm ne_b241_x254
     have Od_405 : Old Z n0 T254.heap := (Old.keep Od_257 K254 (allS (P := fun x => n0 ≤ x) ge_b139 (allS (P := fun x => n0 ≤ x) (Nat.le_trans (Nat.le_refl n0) Bx254) all0)))
     have Zs_406 : n0 ≤ T254.heap.size := (Nat.le_trans Zs_255 K254.1)
     have Ex_407 : Exa Z T254.heap b14 kTr := (Ex_259.keep K254)
     exact B306 T254 _ _ (X254.more (cells' := 17) (slots' := 88) (by decide) (by decide)) rfl b139 b14 b19 b27 b35 e15 (upd (upd (upd (fun _ => .null) 0 (.ref b147)) 1 (.ref b182)) 2 (.ref b228)) (3 : Int32) N254 Od_405 Zs_406 Ex_407 Al_e15_283 ne225_dd_b14 ne_dd_b139 ne_b14_b139 ne_e15_b14 ne_e15_b139 ge_b139 ge225_b14 cy225_nz cy225_te mw267 ek267.symm
 have B149 : ∀ (T_149 : State) (h_149 : Heap) (locs : List Loc) (X_149 : Stand p l e room_1 s m #[(.int p0), (.int p1), (.int p2)] below meth c T_149 locs 5 23) (e_149 : T_149.heap = h_149) (b14 : Addr) (b19 : Addr) (b27 : Addr) (b35 : Addr) (e13 : Addr) (z149_f_L_b27 : Nat → Value) (z149_n_L_b27 : Int32) (N_149 : Fr n0 locs) (H149_D : Old Z n0 h_149) (H149_Z : n0 ≤ h_149.size) (H149_E_b14 : Exa Z h_149 b14 kTr) (H149_L_b19 : ALs Z n0 dd h_149 b19 dd (0 : Int32) (fun _ => .null)) (H149_L_b27 : ALs Z n0 dd h_149 b27 e13 z149_n_L_b27 z149_f_L_b27) (H149_L_b35 : ALs Z n0 dd h_149 b35 dd (0 : Int32) (fun _ => .null)) (ne149_dd_b14 : dd ≠ b14) (ne149_dd_b19 : dd ≠ b19) (ne149_b14_b19 : b14 ≠ b19) (ne149_dd_b27 : dd ≠ b27) (ne149_b14_b27 : b14 ≠ b27) (ne149_b19_b27 : b19 ≠ b27) (ne149_dd_b35 : dd ≠ b35) (ne149_b14_b35 : b14 ≠ b35) (ne149_b19_b35 : b19 ≠ b35) (ne149_b27_b35 : b27 ≠ b35) (ne149_e13_b14 : e13 ≠ b14) (ne149_e13_b19 : e13 ≠ b19) (ne149_e13_b27 : e13 ≠ b27) (ne149_e13_b35 : e13 ≠ b35) (ge149_b14 : n0 ≤ b14) (ge149_b19 : n0 ≤ b19) (ge149_b27 : n0 ≤ b27) (ge149_b35 : n0 ≤ b35) (cy149_nz : ¬ (g0_74 p0) = (0 : Int32)) (cy149_te : b14 ≠ em) (cy149_bx13 : BXS Z z149_n_L_b27 z149_f_L_b27 (own_S p0 1)), Fini p e below s (fun v h' L => v = some (.int 1) ∧ Fr n0 L) (Room.cells room_1) (Room.slots room_1) T_149 (mkF m 149 #[vi p0, vi p1, vi p2, vi (p0 &&& (3 : Int32)), vi (g0_11 p0), vi (own_b16 p0), vi (own_b32 p0), vi (own_b64 p0), vi (own_b128 p0), vi (g0_74 p0), vi (g0_90 p0 p2), vr b14, vr b19, vr b27, vr b35, su, su, su, su] []) := by
  intro T_149 h_149 locs  X_149 e_149  b14 b19 b27 b35 e13 z149_f_L_b27 z149_n_L_b27 N_149 H149_D H149_Z H149_E_b14 H149_L_b19 H149_L_b27 H149_L_b35 ne149_dd_b14 ne149_dd_b19 ne149_b14_b19 ne149_dd_b27 ne149_b14_b27 ne149_b19_b27 ne149_dd_b35 ne149_b14_b35 ne149_b19_b35 ne149_b27_b35 ne149_e13_b14 ne149_e13_b19 ne149_e13_b27 ne149_e13_b35 ge149_b14 ge149_b19 ge149_b27 ge149_b35 cy149_nz cy149_te cy149_bx13
  refine fI X_149 hx hby at_149 rfl rfl ?_
  show Fini _ _ _ _ _ _ _ T_149 (mkF m 151 #[vi p0, vi p1, vi p2, vi (p0 &&& (3 : Int32)), vi (g0_11 p0), vi (own_b16 p0), vi (own_b32 p0), vi (own_b64 p0), vi (own_b128 p0), vi (g0_74 p0), vi (g0_90 p0 p2), vr b14, vr b19, vr b27, vr b35, su, su, su, su] [(.int (own_b128 p0))])
  by_cases c60 : (own_b128 p0) = (0 : Int32)
  ·
   refine Fini.st (fun _ k => XS.ifYes X_149.here hx rfl (pc0 := 151) (pc' := 191) rfl (hb hby at_151) rfl (XT.i0_eq_t c60) (by decide) (by decide) k) ?_
   show Fini _ _ _ _ _ _ _ T_149 (mkF m 191 #[vi p0, vi p1, vi p2, vi (p0 &&& (3 : Int32)), vi (g0_11 p0), vi (own_b16 p0), vi (own_b32 p0), vi (own_b64 p0), vi (own_b128 p0), vi (g0_74 p0), vi (g0_90 p0 p2), vr b14, vr b19, vr b27, vr b35, su, su, su, su] [])
   refine fI X_149 hx hby at_191 rfl rfl ?_
   show Fini _ _ _ _ _ _ _ T_149 (mkF m 193 #[vi p0, vi p1, vi p2, vi (p0 &&& (3 : Int32)), vi (g0_11 p0), vi (own_b16 p0), vi (own_b32 p0), vi (own_b64 p0), vi (own_b128 p0), vi (g0_74 p0), vi (g0_90 p0 p2), vr b14, vr b19, vr b27, vr b35, su, su, su, su] [(.int (own_b32 p0))])
   by_cases c61 : (own_b32 p0) = (0 : Int32)
   ·
    refine Fini.st (fun _ k => XS.ifYes X_149.here hx rfl (pc0 := 193) (pc' := 208) rfl (hb hby at_193) rfl (XT.i0_eq_t c61) (by decide) (by decide) k) ?_
    show Fini _ _ _ _ _ _ _ T_149 (mkF m 208 #[vi p0, vi p1, vi p2, vi (p0 &&& (3 : Int32)), vi (g0_11 p0), vi (own_b16 p0), vi (own_b32 p0), vi (own_b64 p0), vi (own_b128 p0), vi (g0_74 p0), vi (g0_90 p0 p2), vr b14, vr b19, vr b27, vr b35, su, su, su, su] [])
    refine fI X_149 hx hby at_208 rfl rfl ?_
    show Fini _ _ _ _ _ _ _ T_149 (mkF m 210 #[vi p0, vi p1, vi p2, vi (p0 &&& (3 : Int32)), vi (g0_11 p0), vi (own_b16 p0), vi (own_b32 p0), vi (own_b64 p0), vi (own_b128 p0), vi (g0_74 p0), vi (g0_90 p0 p2), vr b14, vr b19, vr b27, vr b35, su, su, su, su] [(.int (own_b64 p0))])
    by_cases c62 : (own_b64 p0) = (0 : Int32)
    ·
     refine Fini.st (fun _ k => XS.ifYes X_149.here hx rfl (pc0 := 210) (pc' := 225) rfl (hb hby at_210) rfl (XT.i0_eq_t c62) (by decide) (by decide) k) ?_
     show Fini _ _ _ _ _ _ _ T_149 (mkF m 225 #[vi p0, vi p1, vi p2, vi (p0 &&& (3 : Int32)), vi (g0_11 p0), vi (own_b16 p0), vi (own_b32 p0), vi (own_b64 p0), vi (own_b128 p0), vi (g0_74 p0), vi (g0_90 p0 p2), vr b14, vr b19, vr b27, vr b35, su, su, su, su] [])
     obtain ⟨e14, q_e14⟩ : ∃ q, q = dd := ⟨_, rfl⟩
     have Al_e14_63 : ALs Z n0 dd h_149 b35 e14 (0 : Int32) (fun _ => .null) := by rw [q_e14]; exact H149_L_b35
     have ne_e14_b14 : e14 ≠ b14 := by rw [q_e14]; exact ne149_dd_b14
     have ne_e14_b19 : e14 ≠ b19 := by rw [q_e14]; exact ne149_dd_b19
     have ne_e14_b27 : e14 ≠ b27 := by rw [q_e14]; exact ne149_dd_b27
     have ne_e14_b35 : e14 ≠ b35 := by rw [q_e14]; exact ne149_dd_b35
     exact B225 T_149 _ _ (X_149.more (cells' := 7) (slots' := 43) (by decide) (by decide)) e_149 b14 b19 b27 b35 e13 e14 (fun _ => .null) (0 : Int32) z149_f_L_b27 z149_n_L_b27 N_149 H149_D H149_Z H149_E_b14 H149_L_b19 H149_L_b27 Al_e14_63 ne149_dd_b14 ne149_dd_b19 ne149_b14_b19 ne149_dd_b27 ne149_b14_b27 ne149_b19_b27 ne149_dd_b35 ne149_b14_b35 ne149_b19_b35 ne149_b27_b35 ne149_e13_b14 ne149_e13_b19 ne149_e13_b27 ne149_e13_b35 ne_e14_b14 ne_e14_b19 ne_e14_b27 ne_e14_b35 ge149_b14 ge149_b19 ge149_b27 ge149_b35 cy149_nz cy149_te cy149_bx13 (bxs14_n E_bx0 F_bx0 E_bx1 F_bx1 c61 c62)
    ·
     refine Fini.st (fun _ k => XS.ifNo X_149.here hx rfl (hb hby at_210) rfl (XT.i0_eq_f c62) k) ?_
     show Fini _ _ _ _ _ _ _ T_149 (mkF m 213 #[vi p0, vi p1, vi p2, vi (p0 &&& (3 : Int32)), vi (g0_11 p0), vi (own_b16 p0), vi (own_b32 p0), vi (own_b64 p0), vi (own_b128 p0), vi (g0_74 p0), vi (g0_90 p0 p2), vr b14, vr b19, vr b27, vr b35, su, su, su, su] [])
     refine fA X_149 hx hby at_213 rfl rfl rfl ?_
     refine fC X_149 hx hby at_215 rfl ?_
     obtain ⟨v64, T64, L64, X64, hQ64, st64⟩ := callQ X_149 hx hZ hown (wq hw (i := 287) rfl) (wq hw (i := 288) rfl) (wq hw (i := 289) rfl) (wq hw (i := 290) rfl) (by decide) (rm37_1 l Z a0 hw [] ca bx1 h_149 n0 H149_Z H149_D S_hi S_ca hC1) e_149 (W := 1) (by decide) (by decide) (by decide) (by decide) (g := (mkF m 216 #[vi p0, vi p1, vi p2, vi (p0 &&& (3 : Int32)), vi (g0_11 p0), vi (own_b16 p0), vi (own_b32 p0), vi (own_b64 p0), vi (own_b128 p0), vi (g0_74 p0), vi (g0_90 p0 p2), vr b14, vr b19, vr b27, vr b35, su, su, su, su] [(.int (1 : Int32)), (.ref b35)])) rfl (by rw [hml]; rfl) (argsL := [(.int (1 : Int32))]) (rest := [(.ref b35)]) rfl (lenOf pd_24 rfl) rfl (by show 2 * 0 + _ ≤ _; exact Nat.le_of_eq rfl) (hb hby at_216)
     obtain ⟨rfl, hh64, rfl⟩ := hQ64
     have K64 : Keep h_149 T64.heap [] := by rw [hh64]; exact Keep.refl _ _
     have Nq64 := Fr.nil n0
     have N64 := Fr.app N_149 Nq64
     refine Fini.st st64 ?_
     show Fini _ _ _ _ _ _ _ T64 (mkF m 219 #[vi p0, vi p1, vi p2, vi (p0 &&& (3 : Int32)), vi (g0_11 p0), vi (own_b16 p0), vi (own_b32 p0), vi (own_b64 p0), vi (own_b128 p0), vi (g0_74 p0), vi (g0_90 p0 p2), vr b14, vr b19, vr b27, vr b35, su, su, su, su] [(.ref bx1), (.ref b35)])
     have Zs_66 : n0 ≤ T64.heap.size := (Nat.le_trans H149_Z K64.1)
     have Al_67 : ALs Z n0 dd T64.heap b35 dd (0 : Int32) (fun _ => .null) := (H149_L_b35.keep K64 nin0 nin0)
     have Od_68 : Old Z n0 T64.heap := (Old.keep H149_D K64 all0)
     have An_69 : Exa Z T64.heap bx1 "java/lang/Integer" := (E_bx1.ext Od_68.2)
     obtain ⟨v65, T65, L65, X65, hQ65, st65⟩ := callI X64 hx hZ hown (wq hw (i := 65) rfl) (wq hw (i := 66) rfl) (wq hw (i := 67) rfl) (wq hw (i := 68) rfl) (wq hw (i := 69) rfl) (wq hw (i := 70) rfl) (wq hw (i := 71) rfl) (wq hw (i := 58) rfl) (wq hw (i := 20) rfl) (wq hw (i := 72) rfl) Al_67.exa (by decide) (c8 l Z a0 hw T64.heap n0 Zs_66 Al_67 (o1 := bx1) (Nat.le_refl n0) ge149_b35 (by decide) Od_68 S_dd A_dd (Ins.of_exa An_69 (wq hw (i := 294) rfl)) Zs_66) rfl (W := 0) (by decide) (by decide) (by decide) (by decide) (g := (mkF m 219 #[vi p0, vi p1, vi p2, vi (p0 &&& (3 : Int32)), vi (g0_11 p0), vi (own_b16 p0), vi (own_b32 p0), vi (own_b64 p0), vi (own_b128 p0), vi (g0_74 p0), vi (g0_90 p0 p2), vr b14, vr b19, vr b27, vr b35, su, su, su, su] [(.ref bx1), (.ref b35)])) rfl (by rw [hml]; rfl) (argsL := [(.ref bx1)]) (rest := []) rfl (lenOf pd_21 rfl) rfl (by show 2 * 0 + _ ≤ _; exact Nat.le_of_eq rfl) (hb hby at_219)
     obtain ⟨rfl, Nq65, x65, K65, hx65, Bx65, Al65⟩ := hQ65
     have Ex_70 : Exa Z T64.heap b14 kTr := (H149_E_b14.keep K64)
     have Al_71 : ALs Z n0 dd T64.heap b19 dd (0 : Int32) (fun _ => .null) := (H149_L_b19.keep K64 nin0 nin0)
     have Al_72 : ALs Z n0 dd T64.heap b27 e13 z149_n_L_b27 z149_f_L_b27 := (H149_L_b27.keep K64 nin0 nin0)
     have hz65 : T64.heap.size ≤ x65 := hx65.elim (fun w => absurd (Nat.lt_of_lt_of_le (Od_68.1 ▸ A_dd.lt) (Nat.le_refl n0)) (Nat.not_lt.mpr w.2)) id
     have An_73 : AryQ Z T64.heap dd (0 : Int32) := (A_dd.ext Od_68.2)
     have ne_dd_x65 : dd ≠ x65 := Nat.ne_of_lt (Nat.lt_of_lt_of_le An_73.lt hz65)
     have ne_b14_x65 : b14 ≠ x65 := Nat.ne_of_lt (Nat.lt_of_lt_of_le Ex_70.lt hz65)
     have ne_b19_x65 : b19 ≠ x65 := Nat.ne_of_lt (Nat.lt_of_lt_of_le Al_71.lt hz65)
     have ne_b27_x65 : b27 ≠ x65 := Nat.ne_of_lt (Nat.lt_of_lt_of_le Al_72.lt hz65)
     have ne_e13_x65 : e13 ≠ x65 := Nat.ne_of_lt (Nat.lt_of_lt_of_le Al_72.lte hz65)
     have ne_b35_x65 : b35 ≠ x65 := Nat.ne_of_lt (Nat.lt_of_lt_of_le Al_67.lt hz65)
     have N65 := Fr.app N64 Nq65
     refine Fini.st st65 ?_
     show Fini _ _ _ _ _ _ _ T65 (mkF m 224 #[vi p0, vi p1, vi p2, vi (p0 &&& (3 : Int32)), vi (g0_11 p0), vi (own_b16 p0), vi (own_b32 p0), vi (own_b64 p0), vi (own_b128 p0), vi (g0_74 p0), vi (g0_90 p0 p2), vr b14, vr b19, vr b27, vr b35, su, su, su, su] [(.int (1 : Int32))])
     refine Fini.st (fun _ k => XS.pop X65.here hx rfl (hb hby at_224) rfl rfl k) ?_
     show Fini _ _ _ _ _ _ _ T65 (mkF m 225 #[vi p0, vi p1, vi p2, vi (p0 &&& (3 : Int32)), vi (g0_11 p0), vi (own_b16 p0), vi (own_b32 p0), vi (own_b64 p0), vi (own_b128 p0), vi (g0_74 p0), vi (g0_90 p0 p2), vr b14, vr b19, vr b27, vr b35, su, su, su, su] [])
     obtain ⟨e14, q_e14⟩ : ∃ q, q = x65 := ⟨_, rfl⟩
     have Al_e14_74 : ALs Z n0 dd T65.heap b35 e14 (1 : Int32) (upd (fun _ => .null) 0 (.ref bx1)) := by rw [q_e14]; exact Al65
     have ne_e14_dd : e14 ≠ dd := by rw [q_e14]; exact Ne.symm ne_dd_x65
     have ne_e14_b14 : e14 ≠ b14 := by rw [q_e14]; exact Ne.symm ne_b14_x65
     have ne_e14_b19 : e14 ≠ b19 := by rw [q_e14]; exact Ne.symm ne_b19_x65
     have ne_e14_b27 : e14 ≠ b27 := by rw [q_e14]; exact Ne.symm ne_b27_x65
     have ne_e14_e13 : e14 ≠ e13 := by rw [q_e14]; exact Ne.symm ne_e13_x65
     have ne_e14_b35 : e14 ≠ b35 := by rw [q_e14]; exact Ne.symm ne_b35_x65
     have Od_408 : Old Z n0 T65.heap := (Old.keep Od_68 K65 (allS (P := fun x => n0 ≤ x) ge149_b35 (allS (P := fun x => n0 ≤ x) (Nat.le_trans (Nat.le_refl n0) Bx65) all0)))
     have Zs_409 : n0 ≤ T65.heap.size := (Nat.le_trans Zs_66 K65.1)
     have Ex_410 : Exa Z T65.heap b14 kTr := (Ex_70.keep K65)
     have Al_411 : ALs Z n0 dd T65.heap b19 dd (0 : Int32) (fun _ => .null) := (Al_71.keep K65 (ninS ne149_b19_b35 (ninS ne_b19_x65 nin0)) (ninS ne149_dd_b35 (ninS ne_dd_x65 nin0)))
     have Al_412 : ALs Z n0 dd T65.heap b27 e13 z149_n_L_b27 z149_f_L_b27 := (Al_72.keep K65 (ninS ne149_b27_b35 (ninS ne_b27_x65 nin0)) (ninS ne149_e13_b35 (ninS ne_e13_x65 nin0)))
     exact B225 T65 _ _ (X65.more (cells' := 7) (slots' := 43) (by decide) (by decide)) rfl b14 b19 b27 b35 e13 e14 (upd (fun _ => .null) 0 (.ref bx1)) (1 : Int32) z149_f_L_b27 z149_n_L_b27 N65 Od_408 Zs_409 Ex_410 Al_411 Al_412 Al_e14_74 ne149_dd_b14 ne149_dd_b19 ne149_b14_b19 ne149_dd_b27 ne149_b14_b27 ne149_b19_b27 ne149_dd_b35 ne149_b14_b35 ne149_b19_b35 ne149_b27_b35 ne149_e13_b14 ne149_e13_b19 ne149_e13_b27 ne149_e13_b35 ne_e14_b14 ne_e14_b19 ne_e14_b27 ne_e14_b35 ge149_b14 ge149_b19 ge149_b27 ge149_b35 cy149_nz cy149_te cy149_bx13 (bxs14_1 E_bx0 F_bx0 E_bx1 F_bx1 c61 c62)
   ·
    refine Fini.st (fun _ k => XS.ifNo X_149.here hx rfl (hb hby at_193) rfl (XT.i0_eq_f c61) k) ?_
    show Fini _ _ _ _ _ _ _ T_149 (mkF m 196 #[vi p0, vi p1, vi p2, vi (p0 &&& (3 : Int32)), vi (g0_11 p0), vi (own_b16 p0), vi (own_b32 p0), vi (own_b64 p0), vi (own_b128 p0), vi (g0_74 p0), vi (g0_90 p0 p2), vr b14, vr b19, vr b27, vr b35, su, su, su, su] [])
    refine fA X_149 hx hby at_196 rfl rfl rfl ?_
    refine fC X_149 hx hby at_198 rfl ?_
    obtain ⟨v75, T75, L75, X75, hQ75, st75⟩ := callQ X_149 hx hZ hown (wq hw (i := 287) rfl) (wq hw (i := 288) rfl) (wq hw (i := 289) rfl) (wq hw (i := 290) rfl) (by decide) (rm37_0 l Z a0 hw [] ca bx0 h_149 n0 H149_Z H149_D S_hi S_ca hC0) e_149 (W := 1) (by decide) (by decide) (by decide) (by decide) (g := (mkF m 199 #[vi p0, vi p1, vi p2, vi (p0 &&& (3 : Int32)), vi (g0_11 p0), vi (own_b16 p0), vi (own_b32 p0), vi (own_b64 p0), vi (own_b128 p0), vi (g0_74 p0), vi (g0_90 p0 p2), vr b14, vr b19, vr b27, vr b35, su, su, su, su] [(.int (0 : Int32)), (.ref b35)])) rfl (by rw [hml]; rfl) (argsL := [(.int (0 : Int32))]) (rest := [(.ref b35)]) rfl (lenOf pd_24 rfl) rfl (by show 2 * 0 + _ ≤ _; exact Nat.le_of_eq rfl) (hb hby at_199)
    obtain ⟨rfl, hh75, rfl⟩ := hQ75
    have K75 : Keep h_149 T75.heap [] := by rw [hh75]; exact Keep.refl _ _
    have Nq75 := Fr.nil n0
    have N75 := Fr.app N_149 Nq75
    refine Fini.st st75 ?_
    show Fini _ _ _ _ _ _ _ T75 (mkF m 202 #[vi p0, vi p1, vi p2, vi (p0 &&& (3 : Int32)), vi (g0_11 p0), vi (own_b16 p0), vi (own_b32 p0), vi (own_b64 p0), vi (own_b128 p0), vi (g0_74 p0), vi (g0_90 p0 p2), vr b14, vr b19, vr b27, vr b35, su, su, su, su] [(.ref bx0), (.ref b35)])
    have Zs_77 : n0 ≤ T75.heap.size := (Nat.le_trans H149_Z K75.1)
    have Al_78 : ALs Z n0 dd T75.heap b35 dd (0 : Int32) (fun _ => .null) := (H149_L_b35.keep K75 nin0 nin0)
    have Od_79 : Old Z n0 T75.heap := (Old.keep H149_D K75 all0)
    have An_80 : Exa Z T75.heap bx0 "java/lang/Integer" := (E_bx0.ext Od_79.2)
    obtain ⟨v76, T76, L76, X76, hQ76, st76⟩ := callI X75 hx hZ hown (wq hw (i := 65) rfl) (wq hw (i := 66) rfl) (wq hw (i := 67) rfl) (wq hw (i := 68) rfl) (wq hw (i := 69) rfl) (wq hw (i := 70) rfl) (wq hw (i := 71) rfl) (wq hw (i := 58) rfl) (wq hw (i := 20) rfl) (wq hw (i := 72) rfl) Al_78.exa (by decide) (c8 l Z a0 hw T75.heap n0 Zs_77 Al_78 (o1 := bx0) (Nat.le_refl n0) ge149_b35 (by decide) Od_79 S_dd A_dd (Ins.of_exa An_80 (wq hw (i := 294) rfl)) Zs_77) rfl (W := 0) (by decide) (by decide) (by decide) (by decide) (g := (mkF m 202 #[vi p0, vi p1, vi p2, vi (p0 &&& (3 : Int32)), vi (g0_11 p0), vi (own_b16 p0), vi (own_b32 p0), vi (own_b64 p0), vi (own_b128 p0), vi (g0_74 p0), vi (g0_90 p0 p2), vr b14, vr b19, vr b27, vr b35, su, su, su, su] [(.ref bx0), (.ref b35)])) rfl (by rw [hml]; rfl) (argsL := [(.ref bx0)]) (rest := []) rfl (lenOf pd_21 rfl) rfl (by show 2 * 0 + _ ≤ _; exact Nat.le_of_eq rfl) (hb hby at_202)
    obtain ⟨rfl, Nq76, x76, K76, hx76, Bx76, Al76⟩ := hQ76
    have Ex_81 : Exa Z T75.heap b14 kTr := (H149_E_b14.keep K75)
    have Al_82 : ALs Z n0 dd T75.heap b19 dd (0 : Int32) (fun _ => .null) := (H149_L_b19.keep K75 nin0 nin0)
    have Al_83 : ALs Z n0 dd T75.heap b27 e13 z149_n_L_b27 z149_f_L_b27 := (H149_L_b27.keep K75 nin0 nin0)
    have hz76 : T75.heap.size ≤ x76 := hx76.elim (fun w => absurd (Nat.lt_of_lt_of_le (Od_79.1 ▸ A_dd.lt) (Nat.le_refl n0)) (Nat.not_lt.mpr w.2)) id
    have An_84 : AryQ Z T75.heap dd (0 : Int32) := (A_dd.ext Od_79.2)
    have ne_dd_x76 : dd ≠ x76 := Nat.ne_of_lt (Nat.lt_of_lt_of_le An_84.lt hz76)
    have ne_b14_x76 : b14 ≠ x76 := Nat.ne_of_lt (Nat.lt_of_lt_of_le Ex_81.lt hz76)
    have ne_b19_x76 : b19 ≠ x76 := Nat.ne_of_lt (Nat.lt_of_lt_of_le Al_82.lt hz76)
    have ne_b27_x76 : b27 ≠ x76 := Nat.ne_of_lt (Nat.lt_of_lt_of_le Al_83.lt hz76)
    have ne_e13_x76 : e13 ≠ x76 := Nat.ne_of_lt (Nat.lt_of_lt_of_le Al_83.lte hz76)
    have ne_b35_x76 : b35 ≠ x76 := Nat.ne_of_lt (Nat.lt_of_lt_of_le Al_78.lt hz76)
    have N76 := Fr.app N75 Nq76
    refine Fini.st st76 ?_
    show Fini _ _ _ _ _ _ _ T76 (mkF m 207 #[vi p0, vi p1, vi p2, vi (p0 &&& (3 : Int32)), vi (g0_11 p0), vi (own_b16 p0), vi (own_b32 p0), vi (own_b64 p0), vi (own_b128 p0), vi (g0_74 p0), vi (g0_90 p0 p2), vr b14, vr b19, vr b27, vr b35, su, su, su, su] [(.int (1 : Int32))])
    refine Fini.st (fun _ k => XS.pop X76.here hx rfl (hb hby at_207) rfl rfl k) ?_
    refine fI X76 hx hby at_208 rfl rfl ?_
    show Fini _ _ _ _ _ _ _ T76 (mkF m 210 #[vi p0, vi p1, vi p2, vi (p0 &&& (3 : Int32)), vi (g0_11 p0), vi (own_b16 p0), vi (own_b32 p0), vi (own_b64 p0), vi (own_b128 p0), vi (g0_74 p0), vi (g0_90 p0 p2), vr b14, vr b19, vr b27, vr b35, su, su, su, su] [(.int (own_b64 p0))])
    by_cases c85 : (own_b64 p0) = (0 : Int32)
    ·
     refine Fini.st (fun _ k => XS.ifYes X76.here hx rfl (pc0 := 210) (pc' := 225) rfl (hb hby at_210) rfl (XT.i0_eq_t c85) (by decide) (by decide) k) ?_
     show Fini _ _ _ _ _ _ _ T76 (mkF m 225 #[vi p0, vi p1, vi p2, vi (p0 &&& (3 : Int32)), vi (g0_11 p0), vi (own_b16 p0), vi (own_b32 p0), vi (own_b64 p0), vi (own_b128 p0), vi (g0_74 p0), vi (g0_90 p0 p2), vr b14, vr b19, vr b27, vr b35, su, su, su, su] [])
     obtain ⟨e14, q_e14⟩ : ∃ q, q = x76 := ⟨_, rfl⟩
     have Al_e14_86 : ALs Z n0 dd T76.heap b35 e14 (1 : Int32) (upd (fun _ => .null) 0 (.ref bx0)) := by rw [q_e14]; exact Al76
     have ne_e14_dd : e14 ≠ dd := by rw [q_e14]; exact Ne.symm ne_dd_x76
     have ne_e14_b14 : e14 ≠ b14 := by rw [q_e14]; exact Ne.symm ne_b14_x76
     have ne_e14_b19 : e14 ≠ b19 := by rw [q_e14]; exact Ne.symm ne_b19_x76
     have ne_e14_b27 : e14 ≠ b27 := by rw [q_e14]; exact Ne.symm ne_b27_x76
     have ne_e14_e13 : e14 ≠ e13 := by rw [q_e14]; exact Ne.symm ne_e13_x76
     have ne_e14_b35 : e14 ≠ b35 := by rw [q_e14]; exact Ne.symm ne_b35_x76
     have Od_413 : Old Z n0 T76.heap := (Old.keep Od_79 K76 (allS (P := fun x => n0 ≤ x) ge149_b35 (allS (P := fun x => n0 ≤ x) (Nat.le_trans (Nat.le_refl n0) Bx76) all0)))
     have Zs_414 : n0 ≤ T76.heap.size := (Nat.le_trans Zs_77 K76.1)
     have Ex_415 : Exa Z T76.heap b14 kTr := (Ex_81.keep K76)
     have Al_416 : ALs Z n0 dd T76.heap b19 dd (0 : Int32) (fun _ => .null) := (Al_82.keep K76 (ninS ne149_b19_b35 (ninS ne_b19_x76 nin0)) (ninS ne149_dd_b35 (ninS ne_dd_x76 nin0)))
     have Al_417 : ALs Z n0 dd T76.heap b27 e13 z149_n_L_b27 z149_f_L_b27 := (Al_83.keep K76 (ninS ne149_b27_b35 (ninS ne_b27_x76 nin0)) (ninS ne149_e13_b35 (ninS ne_e13_x76 nin0)))
     exact B225 T76 _ _ (X76.more (cells' := 7) (slots' := 43) (by decide) (by decide)) rfl b14 b19 b27 b35 e13 e14 (upd (fun _ => .null) 0 (.ref bx0)) (1 : Int32) z149_f_L_b27 z149_n_L_b27 N76 Od_413 Zs_414 Ex_415 Al_416 Al_417 Al_e14_86 ne149_dd_b14 ne149_dd_b19 ne149_b14_b19 ne149_dd_b27 ne149_b14_b27 ne149_b19_b27 ne149_dd_b35 ne149_b14_b35 ne149_b19_b35 ne149_b27_b35 ne149_e13_b14 ne149_e13_b19 ne149_e13_b27 ne149_e13_b35 ne_e14_b14 ne_e14_b19 ne_e14_b27 ne_e14_b35 ge149_b14 ge149_b19 ge149_b27 ge149_b35 cy149_nz cy149_te cy149_bx13 (bxs14_0 E_bx0 F_bx0 E_bx1 F_bx1 c61 c85)
    ·
     refine Fini.st (fun _ k => XS.ifNo X76.here hx rfl (hb hby at_210) rfl (XT.i0_eq_f c85) k) ?_
     show Fini _ _ _ _ _ _ _ T76 (mkF m 213 #[vi p0, vi p1, vi p2, vi (p0 &&& (3 : Int32)), vi (g0_11 p0), vi (own_b16 p0), vi (own_b32 p0), vi (own_b64 p0), vi (own_b128 p0), vi (g0_74 p0), vi (g0_90 p0 p2), vr b14, vr b19, vr b27, vr b35, su, su, su, su] [])
     refine fA X76 hx hby at_213 rfl rfl rfl ?_
     refine fC X76 hx hby at_215 rfl ?_
     have Zs_88 : n0 ≤ T76.heap.size := (Nat.le_trans Zs_77 K76.1)
     have Od_89 : Old Z n0 T76.heap := (Old.keep Od_79 K76 (allS (P := fun x => n0 ≤ x) ge149_b35 (allS (P := fun x => n0 ≤ x) (Nat.le_trans (Nat.le_refl n0) Bx76) all0)))
     obtain ⟨v87, T87, L87, X87, hQ87, st87⟩ := callQ X76 hx hZ hown (wq hw (i := 287) rfl) (wq hw (i := 288) rfl) (wq hw (i := 289) rfl) (wq hw (i := 290) rfl) (by decide) (rm37_1 l Z a0 hw [] ca bx1 T76.heap n0 Zs_88 Od_89 S_hi S_ca hC1) rfl (W := 1) (by decide) (by decide) (by decide) (by decide) (g := (mkF m 216 #[vi p0, vi p1, vi p2, vi (p0 &&& (3 : Int32)), vi (g0_11 p0), vi (own_b16 p0), vi (own_b32 p0), vi (own_b64 p0), vi (own_b128 p0), vi (g0_74 p0), vi (g0_90 p0 p2), vr b14, vr b19, vr b27, vr b35, su, su, su, su] [(.int (1 : Int32)), (.ref b35)])) rfl (by rw [hml]; rfl) (argsL := [(.int (1 : Int32))]) (rest := [(.ref b35)]) rfl (lenOf pd_24 rfl) rfl (by show 2 * 0 + _ ≤ _; exact Nat.le_of_eq rfl) (hb hby at_216)
     obtain ⟨rfl, hh87, rfl⟩ := hQ87
     have K87 : Keep T76.heap T87.heap [] := by rw [hh87]; exact Keep.refl _ _
     have Nq87 := Fr.nil n0
     have N87 := Fr.app N76 Nq87
     refine Fini.st st87 ?_
     show Fini _ _ _ _ _ _ _ T87 (mkF m 219 #[vi p0, vi p1, vi p2, vi (p0 &&& (3 : Int32)), vi (g0_11 p0), vi (own_b16 p0), vi (own_b32 p0), vi (own_b64 p0), vi (own_b128 p0), vi (g0_74 p0), vi (g0_90 p0 p2), vr b14, vr b19, vr b27, vr b35, su, su, su, su] [(.ref bx1), (.ref b35)])
     have Zs_91 : n0 ≤ T87.heap.size := (Nat.le_trans Zs_88 K87.1)
     have Al_92 : ALs Z n0 dd T87.heap b35 x76 (1 : Int32) (upd (fun _ => .null) 0 (.ref bx0)) := (Al76.keep K87 nin0 nin0)
     have Od_93 : Old Z n0 T87.heap := (Old.keep Od_89 K87 all0)
     have An_94 : Exa Z T87.heap bx1 "java/lang/Integer" := (E_bx1.ext Od_93.2)
     obtain ⟨v90, T90, L90, X90, hQ90, st90⟩ := callI X87 hx hZ hown (wq hw (i := 65) rfl) (wq hw (i := 66) rfl) (wq hw (i := 67) rfl) (wq hw (i := 68) rfl) (wq hw (i := 69) rfl) (wq hw (i := 70) rfl) (wq hw (i := 71) rfl) (wq hw (i := 58) rfl) (wq hw (i := 20) rfl) (wq hw (i := 72) rfl) Al_92.exa (by decide) (c8 l Z a0 hw T87.heap n0 Zs_91 Al_92 (o1 := bx1) (Nat.le_refl n0) ge149_b35 (by decide) Od_93 S_dd A_dd (Ins.of_exa An_94 (wq hw (i := 294) rfl)) Zs_91) rfl (W := 0) (by decide) (by decide) (by decide) (by decide) (g := (mkF m 219 #[vi p0, vi p1, vi p2, vi (p0 &&& (3 : Int32)), vi (g0_11 p0), vi (own_b16 p0), vi (own_b32 p0), vi (own_b64 p0), vi (own_b128 p0), vi (g0_74 p0), vi (g0_90 p0 p2), vr b14, vr b19, vr b27, vr b35, su, su, su, su] [(.ref bx1), (.ref b35)])) rfl (by rw [hml]; rfl) (argsL := [(.ref bx1)]) (rest := []) rfl (lenOf pd_21 rfl) rfl (by show 2 * 0 + _ ≤ _; exact Nat.le_of_eq rfl) (hb hby at_219)
     obtain ⟨rfl, Nq90, x90, K90, hx90, Bx90, Al90⟩ := hQ90
     have An_95 : AryQ Z T87.heap dd (0 : Int32) := (A_dd.ext Od_93.2)
     have Ex_96 : Exa Z T87.heap b14 kTr := ((Ex_81.keep K76).keep K87)
     have Al_97 : ALs Z n0 dd T87.heap b19 dd (0 : Int32) (fun _ => .null) := ((Al_82.keep K76 (ninS ne149_b19_b35 (ninS ne_b19_x76 nin0)) (ninS ne149_dd_b35 (ninS ne_dd_x76 nin0))).keep K87 nin0 nin0)
     have Al_98 : ALs Z n0 dd T87.heap b27 e13 z149_n_L_b27 z149_f_L_b27 := ((Al_83.keep K76 (ninS ne149_b27_b35 (ninS ne_b27_x76 nin0)) (ninS ne149_e13_b35 (ninS ne_e13_x76 nin0))).keep K87 nin0 nin0)
     have ne_dd_x90 : dd ≠ x90 := Nat.ne_of_lt (Nat.lt_of_lt_of_le (Od_93.1 ▸ A_dd.lt) (Nat.le_trans (Nat.le_refl n0) Bx90))
     have ne_b14_x90 : b14 ≠ x90 := hx90.elim (fun w => by rw [w.1]; exact ne_b14_x76) (fun w => Nat.ne_of_lt (Nat.lt_of_lt_of_le Ex_96.lt w))
     have ne_b19_x90 : b19 ≠ x90 := hx90.elim (fun w => by rw [w.1]; exact ne_b19_x76) (fun w => Nat.ne_of_lt (Nat.lt_of_lt_of_le Al_97.lt w))
     have ne_b27_x90 : b27 ≠ x90 := hx90.elim (fun w => by rw [w.1]; exact ne_b27_x76) (fun w => Nat.ne_of_lt (Nat.lt_of_lt_of_le Al_98.lt w))
     have ne_e13_x90 : e13 ≠ x90 := hx90.elim (fun w => by rw [w.1]; exact ne_e13_x76) (fun w => Nat.ne_of_lt (Nat.lt_of_lt_of_le Al_98.lte w))
     have ne_b35_x90 : b35 ≠ x90 := hx90.elim (fun w => by rw [w.1]; exact Al_92.2.2.2.2.1) (fun w => Nat.ne_of_lt (Nat.lt_of_lt_of_le Al_92.lt w))
     have N90 := Fr.app N87 Nq90
     refine Fini.st st90 ?_
     show Fini _ _ _ _ _ _ _ T90 (mkF m 224 #[vi p0, vi p1, vi p2, vi (p0 &&& (3 : Int32)), vi (g0_11 p0), vi (own_b16 p0), vi (own_b32 p0), vi (own_b64 p0), vi (own_b128 p0), vi (g0_74 p0), vi (g0_90 p0 p2), vr b14, vr b19, vr b27, vr b35, su, su, su, su] [(.int (1 : Int32))])
     refine Fini.st (fun _ k => XS.pop X90.here hx rfl (hb hby at_224) rfl rfl k) ?_
     show Fini _ _ _ _ _ _ _ T90 (mkF m 225 #[vi p0, vi p1, vi p2, vi (p0 &&& (3 : Int32)), vi (g0_11 p0), vi (own_b16 p0), vi (own_b32 p0), vi (own_b64 p0), vi (own_b128 p0), vi (g0_74 p0), vi (g0_90 p0 p2), vr b14, vr b19, vr b27, vr b35, su, su, su, su] [])
     obtain ⟨e14, q_e14⟩ : ∃ q, q = x90 := ⟨_, rfl⟩
     have Al_e14_99 : ALs Z n0 dd T90.heap b35 e14 (2 : Int32) (upd (upd (fun _ => .null) 0 (.ref bx0)) 1 (.ref bx1)) := by rw [q_e14]; exact Al90
     have ne_e14_dd : e14 ≠ dd := by rw [q_e14]; exact Ne.symm ne_dd_x90
     have ne_e14_b14 : e14 ≠ b14 := by rw [q_e14]; exact Ne.symm ne_b14_x90
     have ne_e14_b19 : e14 ≠ b19 := by rw [q_e14]; exact Ne.symm ne_b19_x90
     have ne_e14_b27 : e14 ≠ b27 := by rw [q_e14]; exact Ne.symm ne_b27_x90
     have ne_e14_e13 : e14 ≠ e13 := by rw [q_e14]; exact Ne.symm ne_e13_x90
     have ne_e14_b35 : e14 ≠ b35 := by rw [q_e14]; exact Ne.symm ne_b35_x90
     have Od_418 : Old Z n0 T90.heap := (Old.keep Od_93 K90 (allS (P := fun x => n0 ≤ x) ge149_b35 (allS (P := fun x => n0 ≤ x) (Nat.le_trans (Nat.le_refl n0) Bx90) all0)))
     have Zs_419 : n0 ≤ T90.heap.size := (Nat.le_trans Zs_91 K90.1)
     have Ex_420 : Exa Z T90.heap b14 kTr := (Ex_96.keep K90)
     have Al_421 : ALs Z n0 dd T90.heap b19 dd (0 : Int32) (fun _ => .null) := (Al_97.keep K90 (ninS ne149_b19_b35 (ninS ne_b19_x90 nin0)) (ninS ne149_dd_b35 (ninS ne_dd_x90 nin0)))
     have Al_422 : ALs Z n0 dd T90.heap b27 e13 z149_n_L_b27 z149_f_L_b27 := (Al_98.keep K90 (ninS ne149_b27_b35 (ninS ne_b27_x90 nin0)) (ninS ne149_e13_b35 (ninS ne_e13_x90 nin0)))
     exact B225 T90 _ _ (X90.more (cells' := 7) (slots' := 43) (by decide) (by decide)) rfl b14 b19 b27 b35 e13 e14 (upd (upd (fun _ => .null) 0 (.ref bx0)) 1 (.ref bx1)) (2 : Int32) z149_f_L_b27 z149_n_L_b27 N90 Od_418 Zs_419 Ex_420 Al_421 Al_422 Al_e14_99 ne149_dd_b14 ne149_dd_b19 ne149_b14_b19 ne149_dd_b27 ne149_b14_b27 ne149_b19_b27 ne149_dd_b35 ne149_b14_b35 ne149_b19_b35 ne149_b27_b35 ne149_e13_b14 ne149_e13_b19 ne149_e13_b27 ne149_e13_b35 ne_e14_b14 ne_e14_b19 ne_e14_b27 ne_e14_b35 ge149_b14 ge149_b19 ge149_b27 ge149_b35 cy149_nz cy149_te cy149_bx13 (bxs14_01 E_bx0 F_bx0 E_bx1 F_bx1 c61 c85)
  ·
   refine Fini.st (fun _ k => XS.ifNo X_149.here hx rfl (hb hby at_151) rfl (XT.i0_eq_f c60) k) ?_
   show Fini _ _ _ _ _ _ _ T_149 (mkF m 154 #[vi p0, vi p1, vi p2, vi (p0 &&& (3 : Int32)), vi (g0_11 p0), vi (own_b16 p0), vi (own_b32 p0), vi (own_b64 p0), vi (own_b128 p0), vi (g0_74 p0), vi (g0_90 p0 p2), vr b14, vr b19, vr b27, vr b35, su, su, su, su] [])
   refine fI X_149 hx hby at_154 rfl rfl ?_
   show Fini _ _ _ _ _ _ _ T_149 (mkF m 156 #[vi p0, vi p1, vi p2, vi (p0 &&& (3 : Int32)), vi (g0_11 p0), vi (own_b16 p0), vi (own_b32 p0), vi (own_b64 p0), vi (own_b128 p0), vi (g0_74 p0), vi (g0_90 p0 p2), vr b14, vr b19, vr b27, vr b35, su, su, su, su] [(.int (own_b64 p0))])
   by_cases c100 : (own_b64 p0) = (0 : Int32)
   ·
    refine Fini.st (fun _ k => XS.ifYes X_149.here hx rfl (pc0 := 156) (pc' := 171) rfl (hb hby at_156) rfl (XT.i0_eq_t c100) (by decide) (by decide) k) ?_
    show Fini _ _ _ _ _ _ _ T_149 (mkF m 171 #[vi p0, vi p1, vi p2, vi (p0 &&& (3 : Int32)), vi (g0_11 p0), vi (own_b16 p0), vi (own_b32 p0), vi (own_b64 p0), vi (own_b128 p0), vi (g0_74 p0), vi (g0_90 p0 p2), vr b14, vr b19, vr b27, vr b35, su, su, su, su] [])
    refine fI X_149 hx hby at_171 rfl rfl ?_
    show Fini _ _ _ _ _ _ _ T_149 (mkF m 173 #[vi p0, vi p1, vi p2, vi (p0 &&& (3 : Int32)), vi (g0_11 p0), vi (own_b16 p0), vi (own_b32 p0), vi (own_b64 p0), vi (own_b128 p0), vi (g0_74 p0), vi (g0_90 p0 p2), vr b14, vr b19, vr b27, vr b35, su, su, su, su] [(.int (own_b32 p0))])
    by_cases c101 : (own_b32 p0) = (0 : Int32)
    ·
     refine Fini.st (fun _ k => XS.ifYes X_149.here hx rfl (pc0 := 173) (pc' := 225) rfl (hb hby at_173) rfl (XT.i0_eq_t c101) (by decide) (by decide) k) ?_
     show Fini _ _ _ _ _ _ _ T_149 (mkF m 225 #[vi p0, vi p1, vi p2, vi (p0 &&& (3 : Int32)), vi (g0_11 p0), vi (own_b16 p0), vi (own_b32 p0), vi (own_b64 p0), vi (own_b128 p0), vi (g0_74 p0), vi (g0_90 p0 p2), vr b14, vr b19, vr b27, vr b35, su, su, su, su] [])
     obtain ⟨e14, q_e14⟩ : ∃ q, q = dd := ⟨_, rfl⟩
     have Al_e14_102 : ALs Z n0 dd h_149 b35 e14 (0 : Int32) (fun _ => .null) := by rw [q_e14]; exact H149_L_b35
     have ne_e14_b14 : e14 ≠ b14 := by rw [q_e14]; exact ne149_dd_b14
     have ne_e14_b19 : e14 ≠ b19 := by rw [q_e14]; exact ne149_dd_b19
     have ne_e14_b27 : e14 ≠ b27 := by rw [q_e14]; exact ne149_dd_b27
     have ne_e14_b35 : e14 ≠ b35 := by rw [q_e14]; exact ne149_dd_b35
     exact B225 T_149 _ _ (X_149.more (cells' := 7) (slots' := 43) (by decide) (by decide)) e_149 b14 b19 b27 b35 e13 e14 (fun _ => .null) (0 : Int32) z149_f_L_b27 z149_n_L_b27 N_149 H149_D H149_Z H149_E_b14 H149_L_b19 H149_L_b27 Al_e14_102 ne149_dd_b14 ne149_dd_b19 ne149_b14_b19 ne149_dd_b27 ne149_b14_b27 ne149_b19_b27 ne149_dd_b35 ne149_b14_b35 ne149_b19_b35 ne149_b27_b35 ne149_e13_b14 ne149_e13_b19 ne149_e13_b27 ne149_e13_b35 ne_e14_b14 ne_e14_b19 ne_e14_b27 ne_e14_b35 ge149_b14 ge149_b19 ge149_b27 ge149_b35 cy149_nz cy149_te cy149_bx13 (bxs14_n E_bx0 F_bx0 E_bx1 F_bx1 c101 c100)
    ·
     refine Fini.st (fun _ k => XS.ifNo X_149.here hx rfl (hb hby at_173) rfl (XT.i0_eq_f c101) k) ?_
     show Fini _ _ _ _ _ _ _ T_149 (mkF m 176 #[vi p0, vi p1, vi p2, vi (p0 &&& (3 : Int32)), vi (g0_11 p0), vi (own_b16 p0), vi (own_b32 p0), vi (own_b64 p0), vi (own_b128 p0), vi (g0_74 p0), vi (g0_90 p0 p2), vr b14, vr b19, vr b27, vr b35, su, su, su, su] [])
     refine fA X_149 hx hby at_176 rfl rfl rfl ?_
     refine fC X_149 hx hby at_178 rfl ?_
     obtain ⟨v103, T103, L103, X103, hQ103, st103⟩ := callQ X_149 hx hZ hown (wq hw (i := 287) rfl) (wq hw (i := 288) rfl) (wq hw (i := 289) rfl) (wq hw (i := 290) rfl) (by decide) (rm37_0 l Z a0 hw [] ca bx0 h_149 n0 H149_Z H149_D S_hi S_ca hC0) e_149 (W := 1) (by decide) (by decide) (by decide) (by decide) (g := (mkF m 179 #[vi p0, vi p1, vi p2, vi (p0 &&& (3 : Int32)), vi (g0_11 p0), vi (own_b16 p0), vi (own_b32 p0), vi (own_b64 p0), vi (own_b128 p0), vi (g0_74 p0), vi (g0_90 p0 p2), vr b14, vr b19, vr b27, vr b35, su, su, su, su] [(.int (0 : Int32)), (.ref b35)])) rfl (by rw [hml]; rfl) (argsL := [(.int (0 : Int32))]) (rest := [(.ref b35)]) rfl (lenOf pd_24 rfl) rfl (by show 2 * 0 + _ ≤ _; exact Nat.le_of_eq rfl) (hb hby at_179)
     obtain ⟨rfl, hh103, rfl⟩ := hQ103
     have K103 : Keep h_149 T103.heap [] := by rw [hh103]; exact Keep.refl _ _
     have Nq103 := Fr.nil n0
     have N103 := Fr.app N_149 Nq103
     refine Fini.st st103 ?_
     show Fini _ _ _ _ _ _ _ T103 (mkF m 182 #[vi p0, vi p1, vi p2, vi (p0 &&& (3 : Int32)), vi (g0_11 p0), vi (own_b16 p0), vi (own_b32 p0), vi (own_b64 p0), vi (own_b128 p0), vi (g0_74 p0), vi (g0_90 p0 p2), vr b14, vr b19, vr b27, vr b35, su, su, su, su] [(.ref bx0), (.ref b35)])
     have Zs_105 : n0 ≤ T103.heap.size := (Nat.le_trans H149_Z K103.1)
     have Al_106 : ALs Z n0 dd T103.heap b35 dd (0 : Int32) (fun _ => .null) := (H149_L_b35.keep K103 nin0 nin0)
     have Od_107 : Old Z n0 T103.heap := (Old.keep H149_D K103 all0)
     have An_108 : Exa Z T103.heap bx0 "java/lang/Integer" := (E_bx0.ext Od_107.2)
     obtain ⟨v104, T104, L104, X104, hQ104, st104⟩ := callI X103 hx hZ hown (wq hw (i := 65) rfl) (wq hw (i := 66) rfl) (wq hw (i := 67) rfl) (wq hw (i := 68) rfl) (wq hw (i := 69) rfl) (wq hw (i := 70) rfl) (wq hw (i := 71) rfl) (wq hw (i := 58) rfl) (wq hw (i := 20) rfl) (wq hw (i := 72) rfl) Al_106.exa (by decide) (c8 l Z a0 hw T103.heap n0 Zs_105 Al_106 (o1 := bx0) (Nat.le_refl n0) ge149_b35 (by decide) Od_107 S_dd A_dd (Ins.of_exa An_108 (wq hw (i := 294) rfl)) Zs_105) rfl (W := 0) (by decide) (by decide) (by decide) (by decide) (g := (mkF m 182 #[vi p0, vi p1, vi p2, vi (p0 &&& (3 : Int32)), vi (g0_11 p0), vi (own_b16 p0), vi (own_b32 p0), vi (own_b64 p0), vi (own_b128 p0), vi (g0_74 p0), vi (g0_90 p0 p2), vr b14, vr b19, vr b27, vr b35, su, su, su, su] [(.ref bx0), (.ref b35)])) rfl (by rw [hml]; rfl) (argsL := [(.ref bx0)]) (rest := []) rfl (lenOf pd_21 rfl) rfl (by show 2 * 0 + _ ≤ _; exact Nat.le_of_eq rfl) (hb hby at_182)
     obtain ⟨rfl, Nq104, x104, K104, hx104, Bx104, Al104⟩ := hQ104
     have Ex_109 : Exa Z T103.heap b14 kTr := (H149_E_b14.keep K103)
     have Al_110 : ALs Z n0 dd T103.heap b19 dd (0 : Int32) (fun _ => .null) := (H149_L_b19.keep K103 nin0 nin0)
     have Al_111 : ALs Z n0 dd T103.heap b27 e13 z149_n_L_b27 z149_f_L_b27 := (H149_L_b27.keep K103 nin0 nin0)
     have hz104 : T103.heap.size ≤ x104 := hx104.elim (fun w => absurd (Nat.lt_of_lt_of_le (Od_107.1 ▸ A_dd.lt) (Nat.le_refl n0)) (Nat.not_lt.mpr w.2)) id
     have An_112 : AryQ Z T103.heap dd (0 : Int32) := (A_dd.ext Od_107.2)
     have ne_dd_x104 : dd ≠ x104 := Nat.ne_of_lt (Nat.lt_of_lt_of_le An_112.lt hz104)
     have ne_b14_x104 : b14 ≠ x104 := Nat.ne_of_lt (Nat.lt_of_lt_of_le Ex_109.lt hz104)
     have ne_b19_x104 : b19 ≠ x104 := Nat.ne_of_lt (Nat.lt_of_lt_of_le Al_110.lt hz104)
     have ne_b27_x104 : b27 ≠ x104 := Nat.ne_of_lt (Nat.lt_of_lt_of_le Al_111.lt hz104)
     have ne_e13_x104 : e13 ≠ x104 := Nat.ne_of_lt (Nat.lt_of_lt_of_le Al_111.lte hz104)
     have ne_b35_x104 : b35 ≠ x104 := Nat.ne_of_lt (Nat.lt_of_lt_of_le Al_106.lt hz104)
     have N104 := Fr.app N103 Nq104
     refine Fini.st st104 ?_
     show Fini _ _ _ _ _ _ _ T104 (mkF m 187 #[vi p0, vi p1, vi p2, vi (p0 &&& (3 : Int32)), vi (g0_11 p0), vi (own_b16 p0), vi (own_b32 p0), vi (own_b64 p0), vi (own_b128 p0), vi (g0_74 p0), vi (g0_90 p0 p2), vr b14, vr b19, vr b27, vr b35, su, su, su, su] [(.int (1 : Int32))])
     refine Fini.st (fun _ k => XS.pop X104.here hx rfl (hb hby at_187) rfl rfl k) ?_
     refine Fini.st (fun _ k => XS.goto X104.here hx rfl (pc0 := 188) (pc' := 225) rfl (hb hby at_188) (by decide) (by decide) k) ?_
     show Fini _ _ _ _ _ _ _ T104 (mkF m 225 #[vi p0, vi p1, vi p2, vi (p0 &&& (3 : Int32)), vi (g0_11 p0), vi (own_b16 p0), vi (own_b32 p0), vi (own_b64 p0), vi (own_b128 p0), vi (g0_74 p0), vi (g0_90 p0 p2), vr b14, vr b19, vr b27, vr b35, su, su, su, su] [])
     obtain ⟨e14, q_e14⟩ : ∃ q, q = x104 := ⟨_, rfl⟩
     have Al_e14_113 : ALs Z n0 dd T104.heap b35 e14 (1 : Int32) (upd (fun _ => .null) 0 (.ref bx0)) := by rw [q_e14]; exact Al104
     have ne_e14_dd : e14 ≠ dd := by rw [q_e14]; exact Ne.symm ne_dd_x104
     have ne_e14_b14 : e14 ≠ b14 := by rw [q_e14]; exact Ne.symm ne_b14_x104
     have ne_e14_b19 : e14 ≠ b19 := by rw [q_e14]; exact Ne.symm ne_b19_x104
     have ne_e14_b27 : e14 ≠ b27 := by rw [q_e14]; exact Ne.symm ne_b27_x104
     have ne_e14_e13 : e14 ≠ e13 := by rw [q_e14]; exact Ne.symm ne_e13_x104
     have ne_e14_b35 : e14 ≠ b35 := by rw [q_e14]; exact Ne.symm ne_b35_x104
     have Od_423 : Old Z n0 T104.heap := (Old.keep Od_107 K104 (allS (P := fun x => n0 ≤ x) ge149_b35 (allS (P := fun x => n0 ≤ x) (Nat.le_trans (Nat.le_refl n0) Bx104) all0)))
     have Zs_424 : n0 ≤ T104.heap.size := (Nat.le_trans Zs_105 K104.1)
     have Ex_425 : Exa Z T104.heap b14 kTr := (Ex_109.keep K104)
     have Al_426 : ALs Z n0 dd T104.heap b19 dd (0 : Int32) (fun _ => .null) := (Al_110.keep K104 (ninS ne149_b19_b35 (ninS ne_b19_x104 nin0)) (ninS ne149_dd_b35 (ninS ne_dd_x104 nin0)))
     have Al_427 : ALs Z n0 dd T104.heap b27 e13 z149_n_L_b27 z149_f_L_b27 := (Al_111.keep K104 (ninS ne149_b27_b35 (ninS ne_b27_x104 nin0)) (ninS ne149_e13_b35 (ninS ne_e13_x104 nin0)))
     exact B225 T104 _ _ (X104.more (cells' := 7) (slots' := 43) (by decide) (by decide)) rfl b14 b19 b27 b35 e13 e14 (upd (fun _ => .null) 0 (.ref bx0)) (1 : Int32) z149_f_L_b27 z149_n_L_b27 N104 Od_423 Zs_424 Ex_425 Al_426 Al_427 Al_e14_113 ne149_dd_b14 ne149_dd_b19 ne149_b14_b19 ne149_dd_b27 ne149_b14_b27 ne149_b19_b27 ne149_dd_b35 ne149_b14_b35 ne149_b19_b35 ne149_b27_b35 ne149_e13_b14 ne149_e13_b19 ne149_e13_b27 ne149_e13_b35 ne_e14_b14 ne_e14_b19 ne_e14_b27 ne_e14_b35 ge149_b14 ge149_b19 ge149_b27 ge149_b35 cy149_nz cy149_te cy149_bx13 (bxs14_0 E_bx0 F_bx0 E_bx1 F_bx1 c101 c100)
   ·
    refine Fini.st (fun _ k => XS.ifNo X_149.here hx rfl (hb hby at_156) rfl (XT.i0_eq_f c100) k) ?_
    show Fini _ _ _ _ _ _ _ T_149 (mkF m 159 #[vi p0, vi p1, vi p2, vi (p0 &&& (3 : Int32)), vi (g0_11 p0), vi (own_b16 p0), vi (own_b32 p0), vi (own_b64 p0), vi (own_b128 p0), vi (g0_74 p0), vi (g0_90 p0 p2), vr b14, vr b19, vr b27, vr b35, su, su, su, su] [])
    refine fA X_149 hx hby at_159 rfl rfl rfl ?_
    refine fC X_149 hx hby at_161 rfl ?_
    obtain ⟨v114, T114, L114, X114, hQ114, st114⟩ := callQ X_149 hx hZ hown (wq hw (i := 287) rfl) (wq hw (i := 288) rfl) (wq hw (i := 289) rfl) (wq hw (i := 290) rfl) (by decide) (rm37_1 l Z a0 hw [] ca bx1 h_149 n0 H149_Z H149_D S_hi S_ca hC1) e_149 (W := 1) (by decide) (by decide) (by decide) (by decide) (g := (mkF m 162 #[vi p0, vi p1, vi p2, vi (p0 &&& (3 : Int32)), vi (g0_11 p0), vi (own_b16 p0), vi (own_b32 p0), vi (own_b64 p0), vi (own_b128 p0), vi (g0_74 p0), vi (g0_90 p0 p2), vr b14, vr b19, vr b27, vr b35, su, su, su, su] [(.int (1 : Int32)), (.ref b35)])) rfl (by rw [hml]; rfl) (argsL := [(.int (1 : Int32))]) (rest := [(.ref b35)]) rfl (lenOf pd_24 rfl) rfl (by show 2 * 0 + _ ≤ _; exact Nat.le_of_eq rfl) (hb hby at_162)
    obtain ⟨rfl, hh114, rfl⟩ := hQ114
    have K114 : Keep h_149 T114.heap [] := by rw [hh114]; exact Keep.refl _ _
    have Nq114 := Fr.nil n0
    have N114 := Fr.app N_149 Nq114
    refine Fini.st st114 ?_
    show Fini _ _ _ _ _ _ _ T114 (mkF m 165 #[vi p0, vi p1, vi p2, vi (p0 &&& (3 : Int32)), vi (g0_11 p0), vi (own_b16 p0), vi (own_b32 p0), vi (own_b64 p0), vi (own_b128 p0), vi (g0_74 p0), vi (g0_90 p0 p2), vr b14, vr b19, vr b27, vr b35, su, su, su, su] [(.ref bx1), (.ref b35)])
    have Zs_116 : n0 ≤ T114.heap.size := (Nat.le_trans H149_Z K114.1)
    have Al_117 : ALs Z n0 dd T114.heap b35 dd (0 : Int32) (fun _ => .null) := (H149_L_b35.keep K114 nin0 nin0)
    have Od_118 : Old Z n0 T114.heap := (Old.keep H149_D K114 all0)
    have An_119 : Exa Z T114.heap bx1 "java/lang/Integer" := (E_bx1.ext Od_118.2)
    obtain ⟨v115, T115, L115, X115, hQ115, st115⟩ := callI X114 hx hZ hown (wq hw (i := 65) rfl) (wq hw (i := 66) rfl) (wq hw (i := 67) rfl) (wq hw (i := 68) rfl) (wq hw (i := 69) rfl) (wq hw (i := 70) rfl) (wq hw (i := 71) rfl) (wq hw (i := 58) rfl) (wq hw (i := 20) rfl) (wq hw (i := 72) rfl) Al_117.exa (by decide) (c8 l Z a0 hw T114.heap n0 Zs_116 Al_117 (o1 := bx1) (Nat.le_refl n0) ge149_b35 (by decide) Od_118 S_dd A_dd (Ins.of_exa An_119 (wq hw (i := 294) rfl)) Zs_116) rfl (W := 0) (by decide) (by decide) (by decide) (by decide) (g := (mkF m 165 #[vi p0, vi p1, vi p2, vi (p0 &&& (3 : Int32)), vi (g0_11 p0), vi (own_b16 p0), vi (own_b32 p0), vi (own_b64 p0), vi (own_b128 p0), vi (g0_74 p0), vi (g0_90 p0 p2), vr b14, vr b19, vr b27, vr b35, su, su, su, su] [(.ref bx1), (.ref b35)])) rfl (by rw [hml]; rfl) (argsL := [(.ref bx1)]) (rest := []) rfl (lenOf pd_21 rfl) rfl (by show 2 * 0 + _ ≤ _; exact Nat.le_of_eq rfl) (hb hby at_165)
    obtain ⟨rfl, Nq115, x115, K115, hx115, Bx115, Al115⟩ := hQ115
    have Ex_120 : Exa Z T114.heap b14 kTr := (H149_E_b14.keep K114)
    have Al_121 : ALs Z n0 dd T114.heap b19 dd (0 : Int32) (fun _ => .null) := (H149_L_b19.keep K114 nin0 nin0)
    have Al_122 : ALs Z n0 dd T114.heap b27 e13 z149_n_L_b27 z149_f_L_b27 := (H149_L_b27.keep K114 nin0 nin0)
    have hz115 : T114.heap.size ≤ x115 := hx115.elim (fun w => absurd (Nat.lt_of_lt_of_le (Od_118.1 ▸ A_dd.lt) (Nat.le_refl n0)) (Nat.not_lt.mpr w.2)) id
    have An_123 : AryQ Z T114.heap dd (0 : Int32) := (A_dd.ext Od_118.2)
    have ne_dd_x115 : dd ≠ x115 := Nat.ne_of_lt (Nat.lt_of_lt_of_le An_123.lt hz115)
    have ne_b14_x115 : b14 ≠ x115 := Nat.ne_of_lt (Nat.lt_of_lt_of_le Ex_120.lt hz115)
    have ne_b19_x115 : b19 ≠ x115 := Nat.ne_of_lt (Nat.lt_of_lt_of_le Al_121.lt hz115)
    have ne_b27_x115 : b27 ≠ x115 := Nat.ne_of_lt (Nat.lt_of_lt_of_le Al_122.lt hz115)
    have ne_e13_x115 : e13 ≠ x115 := Nat.ne_of_lt (Nat.lt_of_lt_of_le Al_122.lte hz115)
    have ne_b35_x115 : b35 ≠ x115 := Nat.ne_of_lt (Nat.lt_of_lt_of_le Al_117.lt hz115)
    have N115 := Fr.app N114 Nq115
    refine Fini.st st115 ?_
    show Fini _ _ _ _ _ _ _ T115 (mkF m 170 #[vi p0, vi p1, vi p2, vi (p0 &&& (3 : Int32)), vi (g0_11 p0), vi (own_b16 p0), vi (own_b32 p0), vi (own_b64 p0), vi (own_b128 p0), vi (g0_74 p0), vi (g0_90 p0 p2), vr b14, vr b19, vr b27, vr b35, su, su, su, su] [(.int (1 : Int32))])
    refine Fini.st (fun _ k => XS.pop X115.here hx rfl (hb hby at_170) rfl rfl k) ?_
    refine fI X115 hx hby at_171 rfl rfl ?_
    show Fini _ _ _ _ _ _ _ T115 (mkF m 173 #[vi p0, vi p1, vi p2, vi (p0 &&& (3 : Int32)), vi (g0_11 p0), vi (own_b16 p0), vi (own_b32 p0), vi (own_b64 p0), vi (own_b128 p0), vi (g0_74 p0), vi (g0_90 p0 p2), vr b14, vr b19, vr b27, vr b35, su, su, su, su] [(.int (own_b32 p0))])
    by_cases c124 : (own_b32 p0) = (0 : Int32)
    ·
     refine Fini.st (fun _ k => XS.ifYes X115.here hx rfl (pc0 := 173) (pc' := 225) rfl (hb hby at_173) rfl (XT.i0_eq_t c124) (by decide) (by decide) k) ?_
     show Fini _ _ _ _ _ _ _ T115 (mkF m 225 #[vi p0, vi p1, vi p2, vi (p0 &&& (3 : Int32)), vi (g0_11 p0), vi (own_b16 p0), vi (own_b32 p0), vi (own_b64 p0), vi (own_b128 p0), vi (g0_74 p0), vi (g0_90 p0 p2), vr b14, vr b19, vr b27, vr b35, su, su, su, su] [])
     obtain ⟨e14, q_e14⟩ : ∃ q, q = x115 := ⟨_, rfl⟩
     have Al_e14_125 : ALs Z n0 dd T115.heap b35 e14 (1 : Int32) (upd (fun _ => .null) 0 (.ref bx1)) := by rw [q_e14]; exact Al115
     have ne_e14_dd : e14 ≠ dd := by rw [q_e14]; exact Ne.symm ne_dd_x115
     have ne_e14_b14 : e14 ≠ b14 := by rw [q_e14]; exact Ne.symm ne_b14_x115
     have ne_e14_b19 : e14 ≠ b19 := by rw [q_e14]; exact Ne.symm ne_b19_x115
     have ne_e14_b27 : e14 ≠ b27 := by rw [q_e14]; exact Ne.symm ne_b27_x115
     have ne_e14_e13 : e14 ≠ e13 := by rw [q_e14]; exact Ne.symm ne_e13_x115
     have ne_e14_b35 : e14 ≠ b35 := by rw [q_e14]; exact Ne.symm ne_b35_x115
     have Od_428 : Old Z n0 T115.heap := (Old.keep Od_118 K115 (allS (P := fun x => n0 ≤ x) ge149_b35 (allS (P := fun x => n0 ≤ x) (Nat.le_trans (Nat.le_refl n0) Bx115) all0)))
     have Zs_429 : n0 ≤ T115.heap.size := (Nat.le_trans Zs_116 K115.1)
     have Ex_430 : Exa Z T115.heap b14 kTr := (Ex_120.keep K115)
     have Al_431 : ALs Z n0 dd T115.heap b19 dd (0 : Int32) (fun _ => .null) := (Al_121.keep K115 (ninS ne149_b19_b35 (ninS ne_b19_x115 nin0)) (ninS ne149_dd_b35 (ninS ne_dd_x115 nin0)))
     have Al_432 : ALs Z n0 dd T115.heap b27 e13 z149_n_L_b27 z149_f_L_b27 := (Al_122.keep K115 (ninS ne149_b27_b35 (ninS ne_b27_x115 nin0)) (ninS ne149_e13_b35 (ninS ne_e13_x115 nin0)))
     exact B225 T115 _ _ (X115.more (cells' := 7) (slots' := 43) (by decide) (by decide)) rfl b14 b19 b27 b35 e13 e14 (upd (fun _ => .null) 0 (.ref bx1)) (1 : Int32) z149_f_L_b27 z149_n_L_b27 N115 Od_428 Zs_429 Ex_430 Al_431 Al_432 Al_e14_125 ne149_dd_b14 ne149_dd_b19 ne149_b14_b19 ne149_dd_b27 ne149_b14_b27 ne149_b19_b27 ne149_dd_b35 ne149_b14_b35 ne149_b19_b35 ne149_b27_b35 ne149_e13_b14 ne149_e13_b19 ne149_e13_b27 ne149_e13_b35 ne_e14_b14 ne_e14_b19 ne_e14_b27 ne_e14_b35 ge149_b14 ge149_b19 ge149_b27 ge149_b35 cy149_nz cy149_te cy149_bx13 (bxs14_1 E_bx0 F_bx0 E_bx1 F_bx1 c124 c100)
    ·
     refine Fini.st (fun _ k => XS.ifNo X115.here hx rfl (hb hby at_173) rfl (XT.i0_eq_f c124) k) ?_
     show Fini _ _ _ _ _ _ _ T115 (mkF m 176 #[vi p0, vi p1, vi p2, vi (p0 &&& (3 : Int32)), vi (g0_11 p0), vi (own_b16 p0), vi (own_b32 p0), vi (own_b64 p0), vi (own_b128 p0), vi (g0_74 p0), vi (g0_90 p0 p2), vr b14, vr b19, vr b27, vr b35, su, su, su, su] [])
     refine fA X115 hx hby at_176 rfl rfl rfl ?_
     refine fC X115 hx hby at_178 rfl ?_
     have Zs_127 : n0 ≤ T115.heap.size := (Nat.le_trans Zs_116 K115.1)
     have Od_128 : Old Z n0 T115.heap := (Old.keep Od_118 K115 (allS (P := fun x => n0 ≤ x) ge149_b35 (allS (P := fun x => n0 ≤ x) (Nat.le_trans (Nat.le_refl n0) Bx115) all0)))
     obtain ⟨v126, T126, L126, X126, hQ126, st126⟩ := callQ X115 hx hZ hown (wq hw (i := 287) rfl) (wq hw (i := 288) rfl) (wq hw (i := 289) rfl) (wq hw (i := 290) rfl) (by decide) (rm37_0 l Z a0 hw [] ca bx0 T115.heap n0 Zs_127 Od_128 S_hi S_ca hC0) rfl (W := 1) (by decide) (by decide) (by decide) (by decide) (g := (mkF m 179 #[vi p0, vi p1, vi p2, vi (p0 &&& (3 : Int32)), vi (g0_11 p0), vi (own_b16 p0), vi (own_b32 p0), vi (own_b64 p0), vi (own_b128 p0), vi (g0_74 p0), vi (g0_90 p0 p2), vr b14, vr b19, vr b27, vr b35, su, su, su, su] [(.int (0 : Int32)), (.ref b35)])) rfl (by rw [hml]; rfl) (argsL := [(.int (0 : Int32))]) (rest := [(.ref b35)]) rfl (lenOf pd_24 rfl) rfl (by show 2 * 0 + _ ≤ _; exact Nat.le_of_eq rfl) (hb hby at_179)
     obtain ⟨rfl, hh126, rfl⟩ := hQ126
     have K126 : Keep T115.heap T126.heap [] := by rw [hh126]; exact Keep.refl _ _
     have Nq126 := Fr.nil n0
     have N126 := Fr.app N115 Nq126
     refine Fini.st st126 ?_
     show Fini _ _ _ _ _ _ _ T126 (mkF m 182 #[vi p0, vi p1, vi p2, vi (p0 &&& (3 : Int32)), vi (g0_11 p0), vi (own_b16 p0), vi (own_b32 p0), vi (own_b64 p0), vi (own_b128 p0), vi (g0_74 p0), vi (g0_90 p0 p2), vr b14, vr b19, vr b27, vr b35, su, su, su, su] [(.ref bx0), (.ref b35)])
     have Zs_130 : n0 ≤ T126.heap.size := (Nat.le_trans Zs_127 K126.1)
     have Al_131 : ALs Z n0 dd T126.heap b35 x115 (1 : Int32) (upd (fun _ => .null) 0 (.ref bx1)) := (Al115.keep K126 nin0 nin0)
     have Od_132 : Old Z n0 T126.heap := (Old.keep Od_128 K126 all0)
     have An_133 : Exa Z T126.heap bx0 "java/lang/Integer" := (E_bx0.ext Od_132.2)
     obtain ⟨v129, T129, L129, X129, hQ129, st129⟩ := callI X126 hx hZ hown (wq hw (i := 65) rfl) (wq hw (i := 66) rfl) (wq hw (i := 67) rfl) (wq hw (i := 68) rfl) (wq hw (i := 69) rfl) (wq hw (i := 70) rfl) (wq hw (i := 71) rfl) (wq hw (i := 58) rfl) (wq hw (i := 20) rfl) (wq hw (i := 72) rfl) Al_131.exa (by decide) (c8 l Z a0 hw T126.heap n0 Zs_130 Al_131 (o1 := bx0) (Nat.le_refl n0) ge149_b35 (by decide) Od_132 S_dd A_dd (Ins.of_exa An_133 (wq hw (i := 294) rfl)) Zs_130) rfl (W := 0) (by decide) (by decide) (by decide) (by decide) (g := (mkF m 182 #[vi p0, vi p1, vi p2, vi (p0 &&& (3 : Int32)), vi (g0_11 p0), vi (own_b16 p0), vi (own_b32 p0), vi (own_b64 p0), vi (own_b128 p0), vi (g0_74 p0), vi (g0_90 p0 p2), vr b14, vr b19, vr b27, vr b35, su, su, su, su] [(.ref bx0), (.ref b35)])) rfl (by rw [hml]; rfl) (argsL := [(.ref bx0)]) (rest := []) rfl (lenOf pd_21 rfl) rfl (by show 2 * 0 + _ ≤ _; exact Nat.le_of_eq rfl) (hb hby at_182)
     obtain ⟨rfl, Nq129, x129, K129, hx129, Bx129, Al129⟩ := hQ129
     have An_134 : AryQ Z T126.heap dd (0 : Int32) := (A_dd.ext Od_132.2)
     have Ex_135 : Exa Z T126.heap b14 kTr := ((Ex_120.keep K115).keep K126)
     have Al_136 : ALs Z n0 dd T126.heap b19 dd (0 : Int32) (fun _ => .null) := ((Al_121.keep K115 (ninS ne149_b19_b35 (ninS ne_b19_x115 nin0)) (ninS ne149_dd_b35 (ninS ne_dd_x115 nin0))).keep K126 nin0 nin0)
     have Al_137 : ALs Z n0 dd T126.heap b27 e13 z149_n_L_b27 z149_f_L_b27 := ((Al_122.keep K115 (ninS ne149_b27_b35 (ninS ne_b27_x115 nin0)) (ninS ne149_e13_b35 (ninS ne_e13_x115 nin0))).keep K126 nin0 nin0)
     have ne_dd_x129 : dd ≠ x129 := Nat.ne_of_lt (Nat.lt_of_lt_of_le (Od_132.1 ▸ A_dd.lt) (Nat.le_trans (Nat.le_refl n0) Bx129))
     have ne_b14_x129 : b14 ≠ x129 := hx129.elim (fun w => by rw [w.1]; exact ne_b14_x115) (fun w => Nat.ne_of_lt (Nat.lt_of_lt_of_le Ex_135.lt w))
     have ne_b19_x129 : b19 ≠ x129 := hx129.elim (fun w => by rw [w.1]; exact ne_b19_x115) (fun w => Nat.ne_of_lt (Nat.lt_of_lt_of_le Al_136.lt w))
     have ne_b27_x129 : b27 ≠ x129 := hx129.elim (fun w => by rw [w.1]; exact ne_b27_x115) (fun w => Nat.ne_of_lt (Nat.lt_of_lt_of_le Al_137.lt w))
     have ne_e13_x129 : e13 ≠ x129 := hx129.elim (fun w => by rw [w.1]; exact ne_e13_x115) (fun w => Nat.ne_of_lt (Nat.lt_of_lt_of_le Al_137.lte w))
     have ne_b35_x129 : b35 ≠ x129 := hx129.elim (fun w => by rw [w.1]; exact Al_131.2.2.2.2.1) (fun w => Nat.ne_of_lt (Nat.lt_of_lt_of_le Al_131.lt w))
     have N129 := Fr.app N126 Nq129
     refine Fini.st st129 ?_
     show Fini _ _ _ _ _ _ _ T129 (mkF m 187 #[vi p0, vi p1, vi p2, vi (p0 &&& (3 : Int32)), vi (g0_11 p0), vi (own_b16 p0), vi (own_b32 p0), vi (own_b64 p0), vi (own_b128 p0), vi (g0_74 p0), vi (g0_90 p0 p2), vr b14, vr b19, vr b27, vr b35, su, su, su, su] [(.int (1 : Int32))])
     refine Fini.st (fun _ k => XS.pop X129.here hx rfl (hb hby at_187) rfl rfl k) ?_
     refine Fini.st (fun _ k => XS.goto X129.here hx rfl (pc0 := 188) (pc' := 225) rfl (hb hby at_188) (by decide) (by decide) k) ?_
     show Fini _ _ _ _ _ _ _ T129 (mkF m 225 #[vi p0, vi p1, vi p2, vi (p0 &&& (3 : Int32)), vi (g0_11 p0), vi (own_b16 p0), vi (own_b32 p0), vi (own_b64 p0), vi (own_b128 p0), vi (g0_74 p0), vi (g0_90 p0 p2), vr b14, vr b19, vr b27, vr b35, su, su, su, su] [])
     obtain ⟨e14, q_e14⟩ : ∃ q, q = x129 := ⟨_, rfl⟩
     have Al_e14_138 : ALs Z n0 dd T129.heap b35 e14 (2 : Int32) (upd (upd (fun _ => .null) 0 (.ref bx1)) 1 (.ref bx0)) := by rw [q_e14]; exact Al129
     have ne_e14_dd : e14 ≠ dd := by rw [q_e14]; exact Ne.symm ne_dd_x129
     have ne_e14_b14 : e14 ≠ b14 := by rw [q_e14]; exact Ne.symm ne_b14_x129
     have ne_e14_b19 : e14 ≠ b19 := by rw [q_e14]; exact Ne.symm ne_b19_x129
     have ne_e14_b27 : e14 ≠ b27 := by rw [q_e14]; exact Ne.symm ne_b27_x129
     have ne_e14_e13 : e14 ≠ e13 := by rw [q_e14]; exact Ne.symm ne_e13_x129
     have ne_e14_b35 : e14 ≠ b35 := by rw [q_e14]; exact Ne.symm ne_b35_x129
     have Od_433 : Old Z n0 T129.heap := (Old.keep Od_132 K129 (allS (P := fun x => n0 ≤ x) ge149_b35 (allS (P := fun x => n0 ≤ x) (Nat.le_trans (Nat.le_refl n0) Bx129) all0)))
     have Zs_434 : n0 ≤ T129.heap.size := (Nat.le_trans Zs_130 K129.1)
     have Ex_435 : Exa Z T129.heap b14 kTr := (Ex_135.keep K129)
     have Al_436 : ALs Z n0 dd T129.heap b19 dd (0 : Int32) (fun _ => .null) := (Al_136.keep K129 (ninS ne149_b19_b35 (ninS ne_b19_x129 nin0)) (ninS ne149_dd_b35 (ninS ne_dd_x129 nin0)))
     have Al_437 : ALs Z n0 dd T129.heap b27 e13 z149_n_L_b27 z149_f_L_b27 := (Al_137.keep K129 (ninS ne149_b27_b35 (ninS ne_b27_x129 nin0)) (ninS ne149_e13_b35 (ninS ne_e13_x129 nin0)))
     exact B225 T129 _ _ (X129.more (cells' := 7) (slots' := 43) (by decide) (by decide)) rfl b14 b19 b27 b35 e13 e14 (upd (upd (fun _ => .null) 0 (.ref bx1)) 1 (.ref bx0)) (2 : Int32) z149_f_L_b27 z149_n_L_b27 N129 Od_433 Zs_434 Ex_435 Al_436 Al_437 Al_e14_138 ne149_dd_b14 ne149_dd_b19 ne149_b14_b19 ne149_dd_b27 ne149_b14_b27 ne149_b19_b27 ne149_dd_b35 ne149_b14_b35 ne149_b19_b35 ne149_b27_b35 ne149_e13_b14 ne149_e13_b19 ne149_e13_b27 ne149_e13_b35 ne_e14_b14 ne_e14_b19 ne_e14_b27 ne_e14_b35 ge149_b14 ge149_b19 ge149_b27 ge149_b35 cy149_nz cy149_te cy149_bx13 (bxs14_10 E_bx0 F_bx0 E_bx1 F_bx1 c124 c100)
 have B68 : ∀ (T_68 : State) (h_68 : Heap) (locs : List Loc) (X_68 : Stand p l e room_1 s m #[(.int p0), (.int p1), (.int p2)] below meth c T_68 locs 0 0) (e_68 : T_68.heap = h_68) (N_68 : Fr n0 locs) (H68_D : Old Z n0 h_68) (H68_Z : n0 ≤ h_68.size), Fini p e below s (fun v h' L => v = some (.int 1) ∧ Fr n0 L) (Room.cells room_1) (Room.slots room_1) T_68 (mkF m 68 #[vi p0, vi p1, vi p2, vi (p0 &&& (3 : Int32)), vi (g0_11 p0), vi (own_b16 p0), vi (own_b32 p0), vi (own_b64 p0), su, su, su, su, su, su, su, su, su, su, su] [(.int (own_b128 p0))]) := by
  intro T_68 h_68 locs  X_68 e_68   N_68 H68_D H68_Z 
  refine Fini.st (fun _ k => XS.istore X_68.here hx rfl (hb hby at_68) rfl (l' := #[vi p0, vi p1, vi p2, vi (p0 &&& (3 : Int32)), vi (g0_11 p0), vi (own_b16 p0), vi (own_b32 p0), vi (own_b64 p0), vi (own_b128 p0), su, su, su, su, su, su, su, su, su, su]) rfl k) ?_
  refine fIN X_68 hx hby at_70 rfl rfl ?_
  refine fI X_68 hx hby at_71 rfl rfl ?_
  refine Fini.st (fun _ k => XS.iadd X_68.here hx rfl (hb hby at_73) rfl k) ?_
  show Fini _ _ _ _ _ _ _ T_68 (mkF m 74 #[vi p0, vi p1, vi p2, vi (p0 &&& (3 : Int32)), vi (g0_11 p0), vi (own_b16 p0), vi (own_b32 p0), vi (own_b64 p0), vi (own_b128 p0), su, su, su, su, su, su, su, su, su, su] [(.int ((p0 &&& (3 : Int32)) + (g0_11 p0)))])
  refine Fini.st (fun _ k => XS.istore X_68.here hx rfl (hb hby at_74) rfl (l' := #[vi p0, vi p1, vi p2, vi (p0 &&& (3 : Int32)), vi (g0_11 p0), vi (own_b16 p0), vi (own_b32 p0), vi (own_b64 p0), vi (own_b128 p0), vi (g0_74 p0), su, su, su, su, su, su, su, su, su]) rfl k) ?_
  refine fI X_68 hx hby at_76 rfl rfl ?_
  show Fini _ _ _ _ _ _ _ T_68 (mkF m 78 #[vi p0, vi p1, vi p2, vi (p0 &&& (3 : Int32)), vi (g0_11 p0), vi (own_b16 p0), vi (own_b32 p0), vi (own_b64 p0), vi (own_b128 p0), vi (g0_74 p0), su, su, su, su, su, su, su, su, su] [(.int (g0_74 p0))])
  by_cases c13 : (g0_74 p0) = (0 : Int32)
  ·
   refine Fini.st (fun _ k => XS.ifNo X_68.here hx rfl (hb hby at_78) rfl (XT.i0_ne_f c13) k) ?_
   show Fini _ _ _ _ _ _ _ T_68 (mkF m 81 #[vi p0, vi p1, vi p2, vi (p0 &&& (3 : Int32)), vi (g0_11 p0), vi (own_b16 p0), vi (own_b32 p0), vi (own_b64 p0), vi (own_b128 p0), vi (g0_74 p0), su, su, su, su, su, su, su, su, su] [])
   refine fC X_68 hx hby at_81 rfl ?_
   exact Fini.retN X_68 hx hlk (t := .boolean) Bd.returns (by simp) (hb hby at_82) nb1 (by decide) (by decide) ⟨rfl, N_68⟩
  ·
   refine Fini.st (fun _ k => XS.ifYes X_68.here hx rfl (pc0 := 78) (pc' := 83) rfl (hb hby at_78) rfl (XT.i0_ne_t c13) (by decide) (by decide) k) ?_
   show Fini _ _ _ _ _ _ _ T_68 (mkF m 83 #[vi p0, vi p1, vi p2, vi (p0 &&& (3 : Int32)), vi (g0_11 p0), vi (own_b16 p0), vi (own_b32 p0), vi (own_b64 p0), vi (own_b128 p0), vi (g0_74 p0), su, su, su, su, su, su, su, su, su] [])
   refine fIN X_68 hx hby at_83 rfl rfl ?_
   show Fini _ _ _ _ _ _ _ T_68 (mkF m 84 #[vi p0, vi p1, vi p2, vi (p0 &&& (3 : Int32)), vi (g0_11 p0), vi (own_b16 p0), vi (own_b32 p0), vi (own_b64 p0), vi (own_b128 p0), vi (g0_74 p0), su, su, su, su, su, su, su, su, su] [(.int p2)])
   refine Fini.st (fun _ k => X_68.ldcI hx hown (mvT hZ (wq hw (i := 0) rfl)) rfl (hb hby at_84) k) ?_
   show Fini _ _ _ _ _ _ _ T_68 (mkF m 86 #[vi p0, vi p1, vi p2, vi (p0 &&& (3 : Int32)), vi (g0_11 p0), vi (own_b16 p0), vi (own_b32 p0), vi (own_b64 p0), vi (own_b128 p0), vi (g0_74 p0), su, su, su, su, su, su, su, su, su] [(.int (2147483647 : Int32)), (.int p2)])
   refine Fini.st (fun _ k => XS.iand X_68.here hx rfl (hb hby at_86) rfl k) ?_
   show Fini _ _ _ _ _ _ _ T_68 (mkF m 87 #[vi p0, vi p1, vi p2, vi (p0 &&& (3 : Int32)), vi (g0_11 p0), vi (own_b16 p0), vi (own_b32 p0), vi (own_b64 p0), vi (own_b128 p0), vi (g0_74 p0), su, su, su, su, su, su, su, su, su] [(.int (p2 &&& (2147483647 : Int32)))])
   refine fI X_68 hx hby at_87 rfl rfl ?_
   show Fini _ _ _ _ _ _ _ T_68 (mkF m 89 #[vi p0, vi p1, vi p2, vi (p0 &&& (3 : Int32)), vi (g0_11 p0), vi (own_b16 p0), vi (own_b32 p0), vi (own_b64 p0), vi (own_b128 p0), vi (g0_74 p0), su, su, su, su, su, su, su, su, su] [(.int (g0_74 p0)), (.int (p2 &&& (2147483647 : Int32)))])
   refine Fini.st (fun _ k => iremM X_68 hx rfl (hb hby at_89) rfl c13 k) ?_
   show Fini _ _ _ _ _ _ _ T_68 (mkF m 90 #[vi p0, vi p1, vi p2, vi (p0 &&& (3 : Int32)), vi (g0_11 p0), vi (own_b16 p0), vi (own_b32 p0), vi (own_b64 p0), vi (own_b128 p0), vi (g0_74 p0), su, su, su, su, su, su, su, su, su] [(.int ((p2 &&& (2147483647 : Int32)) % (g0_74 p0)))])
   refine Fini.st (fun _ k => XS.istore X_68.here hx rfl (hb hby at_90) rfl (l' := #[vi p0, vi p1, vi p2, vi (p0 &&& (3 : Int32)), vi (g0_11 p0), vi (own_b16 p0), vi (own_b32 p0), vi (own_b64 p0), vi (own_b128 p0), vi (g0_74 p0), vi (g0_90 p0 p2), su, su, su, su, su, su, su, su]) rfl k) ?_
   show Fini _ _ _ _ _ _ _ T_68 (mkF m 92 #[vi p0, vi p1, vi p2, vi (p0 &&& (3 : Int32)), vi (g0_11 p0), vi (own_b16 p0), vi (own_b32 p0), vi (own_b64 p0), vi (own_b128 p0), vi (g0_74 p0), vi (g0_90 p0 p2), su, su, su, su, su, su, su, su] [])
   obtain ⟨T14, h14, X14, e14, E14, A14, D14, -, st14⟩ := newO X_68 hx hZ hown (wq hw (i := 1) rfl) (wq hw (i := 2) rfl) (wq hw (i := 3) rfl) e_68 (g := (mkF m 92 #[vi p0, vi p1, vi p2, vi (p0 &&& (3 : Int32)), vi (g0_11 p0), vi (own_b16 p0), vi (own_b32 p0), vi (own_b64 p0), vi (own_b128 p0), vi (g0_74 p0), vi (g0_90 p0 p2), su, su, su, su, su, su, su, su] [])) rfl (hb hby at_92) (by decide) (by decide)
   obtain ⟨b14, g14⟩ : ∃ z, z = h_68.size := ⟨_, rfl⟩
   rw [← g14] at A14 D14 st14
   have An_15 : AryQ Z h_68 dd (0 : Int32) := (A_dd.ext H68_D.2)
   have ne_dd_b14 : dd ≠ b14 := Nat.ne_of_lt (Nat.lt_of_lt_of_le An_15.lt (Nat.le_of_eq g14.symm))
   have An_16 : Exa Z h_68 em "java/lang/Object" := (E_em.ext H68_D.2)
   have ne_em_b14 : em ≠ b14 := Nat.ne_of_lt (Nat.lt_of_lt_of_le An_16.lt (Nat.le_of_eq g14.symm))
   have ge_b14 : n0 ≤ b14 := Nat.le_trans H68_Z (Nat.le_of_eq g14.symm)
   have Fn14_action : Fld Z h14 b14 kTr "action" "Lcom/example/firm_handshake/firmhandshake/model/Action;" .null := D14 (Or.inr (wq hw (i := 11) rfl)) (ty := (.object "com/example/firm_handshake/firmhandshake/model/Action")) (by decide)
   have Fn14_target : Fld Z h14 b14 kTr "target" "I" (.int (0 : Int32)) := D14 (Or.inr (wq hw (i := 13) rfl)) (ty := .int) (by decide)
   have Fn14_continuation : Fld Z h14 b14 kTr "continuation" "Lcom/example/firm_handshake/firmhandshake/model/Transition$Continuation;" .null := D14 (Or.inr (wq hw (i := 15) rfl)) (ty := (.object "com/example/firm_handshake/firmhandshake/model/Transition$Continuation")) (by decide)
   have Fn14_dStep : Fld Z h14 b14 kTr "dStep" "I" (.int (0 : Int32)) := D14 (Or.inr (wq hw (i := 17) rfl)) (ty := .int) (by decide)
   refine Fini.st st14 ?_
   show Fini _ _ _ _ _ _ _ T14 (mkF m 95 #[vi p0, vi p1, vi p2, vi (p0 &&& (3 : Int32)), vi (g0_11 p0), vi (own_b16 p0), vi (own_b32 p0), vi (own_b64 p0), vi (own_b128 p0), vi (g0_74 p0), vi (g0_90 p0 p2), su, su, su, su, su, su, su, su] [(.ref b14)])
   refine Fini.st (fun _ k => XS.dup X14.here hx rfl (hb hby at_95) rfl rfl k) ?_
   refine Fini.st (fun _ k => XS.aconstNull X14.here hx rfl (hb hby at_96) k) ?_
   refine fC X14 hx hby at_97 rfl ?_
   refine Fini.st (fun _ k => XS.aconstNull X14.here hx rfl (hb hby at_98) k) ?_
   refine fC X14 hx hby at_99 rfl ?_
   have Zs_18 : n0 ≤ h14.size := (Nat.le_trans H68_Z E14.1)
   obtain ⟨v17, T17, L17, X17, hQ17, st17⟩ := callNew X14 hx hZ hown rfl (wq hw (i := 4) rfl) (wq hw (i := 5) rfl) (wq hw (i := 3) rfl) (wq hw (i := 6) rfl) (by decide) (rm1 l Z a0 hw [] b14 h14 n0 Zs_18 A14 Fn14_action Fn14_target Fn14_continuation Fn14_dStep ge_b14) e14 (W := 1) (by decide) (by decide) (by decide) (by decide) (g := (mkF m 100 #[vi p0, vi p1, vi p2, vi (p0 &&& (3 : Int32)), vi (g0_11 p0), vi (own_b16 p0), vi (own_b32 p0), vi (own_b64 p0), vi (own_b128 p0), vi (g0_74 p0), vi (g0_90 p0 p2), su, su, su, su, su, su, su, su] [(.int (-1 : Int32)), .null, (.int (0 : Int32)), .null, (.ref b14), (.ref b14)])) rfl (by rw [hml]; rfl) (argsL := [.null, (.int (0 : Int32)), .null, (.int (-1 : Int32))]) (rest := [(.ref b14)]) rfl (lenOf pd_23 rfl) rfl (by show 2 * 0 + _ ≤ _; exact Nat.le_of_eq rfl) (hb hby at_100)
   obtain ⟨rfl, Nq17, K17⟩ := hQ17
   have N17 := Fr.app N_68 Nq17
   refine Fini.st st17 ?_
   show Fini _ _ _ _ _ _ _ T17 (mkF m 103 #[vi p0, vi p1, vi p2, vi (p0 &&& (3 : Int32)), vi (g0_11 p0), vi (own_b16 p0), vi (own_b32 p0), vi (own_b64 p0), vi (own_b128 p0), vi (g0_74 p0), vi (g0_90 p0 p2), su, su, su, su, su, su, su, su] [(.ref b14)])
   refine Fini.st (fun _ k => XS.astore X17.here hx rfl (hb hby at_103) rfl rfl (l' := #[vi p0, vi p1, vi p2, vi (p0 &&& (3 : Int32)), vi (g0_11 p0), vi (own_b16 p0), vi (own_b32 p0), vi (own_b64 p0), vi (own_b128 p0), vi (g0_74 p0), vi (g0_90 p0 p2), vr b14, su, su, su, su, su, su, su]) rfl k) ?_
   obtain ⟨T19, h19, X19, e19, E19, A19, D19, -, st19⟩ := newO X17 hx hZ hown (wq hw (i := 18) rfl) (wq hw (i := 19) rfl) (wq hw (i := 20) rfl) rfl (g := (mkF m 105 #[vi p0, vi p1, vi p2, vi (p0 &&& (3 : Int32)), vi (g0_11 p0), vi (own_b16 p0), vi (own_b32 p0), vi (own_b64 p0), vi (own_b128 p0), vi (g0_74 p0), vi (g0_90 p0 p2), vr b14, su, su, su, su, su, su, su] [])) rfl (hb hby at_105) (by decide) (by decide)
   obtain ⟨b19, g19⟩ : ∃ z, z = T17.heap.size := ⟨_, rfl⟩
   rw [← g19] at A19 D19 st19
   have Od_20 : Old Z n0 T17.heap := (Old.keep (Old.ext H68_D E14) K17 (allS (P := fun x => n0 ≤ x) ge_b14 all0))
   have An_21 : AryQ Z T17.heap dd (0 : Int32) := (A_dd.ext Od_20.2)
   have ne_dd_b19 : dd ≠ b19 := Nat.ne_of_lt (Nat.lt_of_lt_of_le An_21.lt (Nat.le_of_eq g19.symm))
   have Ex_22 : Exa Z T17.heap b14 kTr := (A14.keep K17)
   have ne_b14_b19 : b14 ≠ b19 := Nat.ne_of_lt (Nat.lt_of_lt_of_le Ex_22.lt (Nat.le_of_eq g19.symm))
   have Zs_23 : n0 ≤ T17.heap.size := (Nat.le_trans Zs_18 K17.1)
   have ge_b19 : n0 ≤ b19 := Nat.le_trans Zs_23 (Nat.le_of_eq g19.symm)
   have Fn19_modCount : Fld Z h19 b19 "java/util/AbstractList" "modCount" "I" (.int (0 : Int32)) := D19 (Or.inl (wq hw (i := 38) rfl)) (ty := .int) (by decide)
   have Fn19_elementData : Fld Z h19 b19 "java/util/ArrayList" "elementData" "[Ljava/lang/Object;" .null := D19 (Or.inl (wq hw (i := 41) rfl)) (ty := (.array (.object "java/lang/Object"))) (by decide)
   have Fn19_size : Fld Z h19 b19 "java/util/ArrayList" "size" "I" (.int (0 : Int32)) := D19 (Or.inl (wq hw (i := 61) rfl)) (ty := .int) (by decide)
   refine Fini.st st19 ?_
   show Fini _ _ _ _ _ _ _ T19 (mkF m 108 #[vi p0, vi p1, vi p2, vi (p0 &&& (3 : Int32)), vi (g0_11 p0), vi (own_b16 p0), vi (own_b32 p0), vi (own_b64 p0), vi (own_b128 p0), vi (g0_74 p0), vi (g0_90 p0 p2), vr b14, su, su, su, su, su, su, su] [(.ref b19)])
   refine Fini.st (fun _ k => XS.dup X19.here hx rfl (hb hby at_108) rfl rfl k) ?_
   have Zs_25 : n0 ≤ h19.size := (Nat.le_trans Zs_23 E19.1)
   have Od_26 : Old Z n0 h19 := (Old.ext Od_20 E19)
   obtain ⟨v24, T24, L24, X24, hQ24, st24⟩ := callNew X19 hx hZ hown rfl (wq hw (i := 21) rfl) (wq hw (i := 22) rfl) (wq hw (i := 20) rfl) (wq hw (i := 23) rfl) (by decide) (rm3 l Z a0 hw [] b19 dd n0 (0 : Int32) h19 n0 Zs_25 A19 Fn19_modCount Fn19_size Fn19_elementData Od_26 S_dd A_dd ge_b19) e19 (W := 1) (by decide) (by decide) (by decide) (by decide) (g := (mkF m 109 #[vi p0, vi p1, vi p2, vi (p0 &&& (3 : Int32)), vi (g0_11 p0), vi (own_b16 p0), vi (own_b32 p0), vi (own_b64 p0), vi (own_b128 p0), vi (g0_74 p0), vi (g0_90 p0 p2), vr b14, su, su, su, su, su, su, su] [(.ref b19), (.ref b19)])) rfl (by rw [hml]; rfl) (argsL := []) (rest := [(.ref b19)]) rfl (lenOf pd_0 rfl) rfl (by show 2 * 0 + _ ≤ _; exact Nat.le_of_eq rfl) (hb hby at_109)
   obtain ⟨rfl, Nq24, K24, Al24⟩ := hQ24
   have N24 := Fr.app N17 Nq24
   refine Fini.st st24 ?_
   show Fini _ _ _ _ _ _ _ T24 (mkF m 112 #[vi p0, vi p1, vi p2, vi (p0 &&& (3 : Int32)), vi (g0_11 p0), vi (own_b16 p0), vi (own_b32 p0), vi (own_b64 p0), vi (own_b128 p0), vi (g0_74 p0), vi (g0_90 p0 p2), vr b14, su, su, su, su, su, su, su] [(.ref b19)])
   refine Fini.st (fun _ k => XS.astore X24.here hx rfl (hb hby at_112) rfl rfl (l' := #[vi p0, vi p1, vi p2, vi (p0 &&& (3 : Int32)), vi (g0_11 p0), vi (own_b16 p0), vi (own_b32 p0), vi (own_b64 p0), vi (own_b128 p0), vi (g0_74 p0), vi (g0_90 p0 p2), vr b14, vr b19, su, su, su, su, su, su]) rfl k) ?_
   obtain ⟨T27, h27, X27, e27, E27, A27, D27, -, st27⟩ := newO X24 hx hZ hown (wq hw (i := 18) rfl) (wq hw (i := 19) rfl) (wq hw (i := 20) rfl) rfl (g := (mkF m 114 #[vi p0, vi p1, vi p2, vi (p0 &&& (3 : Int32)), vi (g0_11 p0), vi (own_b16 p0), vi (own_b32 p0), vi (own_b64 p0), vi (own_b128 p0), vi (g0_74 p0), vi (g0_90 p0 p2), vr b14, vr b19, su, su, su, su, su, su] [])) rfl (hb hby at_114) (by decide) (by decide)
   obtain ⟨b27, g27⟩ : ∃ z, z = T24.heap.size := ⟨_, rfl⟩
   rw [← g27] at A27 D27 st27
   have Od_28 : Old Z n0 T24.heap := (Old.keep Od_26 K24 (allS (P := fun x => n0 ≤ x) ge_b19 all0))
   have An_29 : AryQ Z T24.heap dd (0 : Int32) := (A_dd.ext Od_28.2)
   have ne_dd_b27 : dd ≠ b27 := Nat.ne_of_lt (Nat.lt_of_lt_of_le An_29.lt (Nat.le_of_eq g27.symm))
   have Ex_30 : Exa Z T24.heap b14 kTr := ((Ex_22.ext E19).keep K24)
   have ne_b14_b27 : b14 ≠ b27 := Nat.ne_of_lt (Nat.lt_of_lt_of_le Ex_30.lt (Nat.le_of_eq g27.symm))
   have ne_b19_b27 : b19 ≠ b27 := Nat.ne_of_lt (Nat.lt_of_lt_of_le Al24.lt (Nat.le_of_eq g27.symm))
   have Zs_31 : n0 ≤ T24.heap.size := (Nat.le_trans Zs_25 K24.1)
   have ge_b27 : n0 ≤ b27 := Nat.le_trans Zs_31 (Nat.le_of_eq g27.symm)
   have Fn27_modCount : Fld Z h27 b27 "java/util/AbstractList" "modCount" "I" (.int (0 : Int32)) := D27 (Or.inl (wq hw (i := 38) rfl)) (ty := .int) (by decide)
   have Fn27_elementData : Fld Z h27 b27 "java/util/ArrayList" "elementData" "[Ljava/lang/Object;" .null := D27 (Or.inl (wq hw (i := 41) rfl)) (ty := (.array (.object "java/lang/Object"))) (by decide)
   have Fn27_size : Fld Z h27 b27 "java/util/ArrayList" "size" "I" (.int (0 : Int32)) := D27 (Or.inl (wq hw (i := 61) rfl)) (ty := .int) (by decide)
   refine Fini.st st27 ?_
   show Fini _ _ _ _ _ _ _ T27 (mkF m 117 #[vi p0, vi p1, vi p2, vi (p0 &&& (3 : Int32)), vi (g0_11 p0), vi (own_b16 p0), vi (own_b32 p0), vi (own_b64 p0), vi (own_b128 p0), vi (g0_74 p0), vi (g0_90 p0 p2), vr b14, vr b19, su, su, su, su, su, su] [(.ref b27)])
   refine Fini.st (fun _ k => XS.dup X27.here hx rfl (hb hby at_117) rfl rfl k) ?_
   have Zs_33 : n0 ≤ h27.size := (Nat.le_trans Zs_31 E27.1)
   have Od_34 : Old Z n0 h27 := (Old.ext Od_28 E27)
   obtain ⟨v32, T32, L32, X32, hQ32, st32⟩ := callNew X27 hx hZ hown rfl (wq hw (i := 21) rfl) (wq hw (i := 22) rfl) (wq hw (i := 20) rfl) (wq hw (i := 23) rfl) (by decide) (rm3 l Z a0 hw [] b27 dd n0 (0 : Int32) h27 n0 Zs_33 A27 Fn27_modCount Fn27_size Fn27_elementData Od_34 S_dd A_dd ge_b27) e27 (W := 1) (by decide) (by decide) (by decide) (by decide) (g := (mkF m 118 #[vi p0, vi p1, vi p2, vi (p0 &&& (3 : Int32)), vi (g0_11 p0), vi (own_b16 p0), vi (own_b32 p0), vi (own_b64 p0), vi (own_b128 p0), vi (g0_74 p0), vi (g0_90 p0 p2), vr b14, vr b19, su, su, su, su, su, su] [(.ref b27), (.ref b27)])) rfl (by rw [hml]; rfl) (argsL := []) (rest := [(.ref b27)]) rfl (lenOf pd_0 rfl) rfl (by show 2 * 0 + _ ≤ _; exact Nat.le_of_eq rfl) (hb hby at_118)
   obtain ⟨rfl, Nq32, K32, Al32⟩ := hQ32
   have N32 := Fr.app N24 Nq32
   refine Fini.st st32 ?_
   show Fini _ _ _ _ _ _ _ T32 (mkF m 121 #[vi p0, vi p1, vi p2, vi (p0 &&& (3 : Int32)), vi (g0_11 p0), vi (own_b16 p0), vi (own_b32 p0), vi (own_b64 p0), vi (own_b128 p0), vi (g0_74 p0), vi (g0_90 p0 p2), vr b14, vr b19, su, su, su, su, su, su] [(.ref b27)])
   refine Fini.st (fun _ k => XS.astore X32.here hx rfl (hb hby at_121) rfl rfl (l' := #[vi p0, vi p1, vi p2, vi (p0 &&& (3 : Int32)), vi (g0_11 p0), vi (own_b16 p0), vi (own_b32 p0), vi (own_b64 p0), vi (own_b128 p0), vi (g0_74 p0), vi (g0_90 p0 p2), vr b14, vr b19, vr b27, su, su, su, su, su]) rfl k) ?_
   obtain ⟨T35, h35, X35, e35, E35, A35, D35, -, st35⟩ := newO X32 hx hZ hown (wq hw (i := 18) rfl) (wq hw (i := 19) rfl) (wq hw (i := 20) rfl) rfl (g := (mkF m 123 #[vi p0, vi p1, vi p2, vi (p0 &&& (3 : Int32)), vi (g0_11 p0), vi (own_b16 p0), vi (own_b32 p0), vi (own_b64 p0), vi (own_b128 p0), vi (g0_74 p0), vi (g0_90 p0 p2), vr b14, vr b19, vr b27, su, su, su, su, su] [])) rfl (hb hby at_123) (by decide) (by decide)
   obtain ⟨b35, g35⟩ : ∃ z, z = T32.heap.size := ⟨_, rfl⟩
   rw [← g35] at A35 D35 st35
   have Od_36 : Old Z n0 T32.heap := (Old.keep Od_34 K32 (allS (P := fun x => n0 ≤ x) ge_b27 all0))
   have An_37 : AryQ Z T32.heap dd (0 : Int32) := (A_dd.ext Od_36.2)
   have ne_dd_b35 : dd ≠ b35 := Nat.ne_of_lt (Nat.lt_of_lt_of_le An_37.lt (Nat.le_of_eq g35.symm))
   have Ex_38 : Exa Z T32.heap b14 kTr := ((Ex_30.ext E27).keep K32)
   have ne_b14_b35 : b14 ≠ b35 := Nat.ne_of_lt (Nat.lt_of_lt_of_le Ex_38.lt (Nat.le_of_eq g35.symm))
   have Al_39 : ALs Z n0 dd T32.heap b19 dd (0 : Int32) (fun _ => .null) := ((Al24.ext E27).keep K32 (ninS ne_b19_b27 nin0) (ninS ne_dd_b27 nin0))
   have ne_b19_b35 : b19 ≠ b35 := Nat.ne_of_lt (Nat.lt_of_lt_of_le Al_39.lt (Nat.le_of_eq g35.symm))
   have ne_b27_b35 : b27 ≠ b35 := Nat.ne_of_lt (Nat.lt_of_lt_of_le Al32.lt (Nat.le_of_eq g35.symm))
   have Zs_40 : n0 ≤ T32.heap.size := (Nat.le_trans Zs_33 K32.1)
   have ge_b35 : n0 ≤ b35 := Nat.le_trans Zs_40 (Nat.le_of_eq g35.symm)
   have Fn35_modCount : Fld Z h35 b35 "java/util/AbstractList" "modCount" "I" (.int (0 : Int32)) := D35 (Or.inl (wq hw (i := 38) rfl)) (ty := .int) (by decide)
   have Fn35_elementData : Fld Z h35 b35 "java/util/ArrayList" "elementData" "[Ljava/lang/Object;" .null := D35 (Or.inl (wq hw (i := 41) rfl)) (ty := (.array (.object "java/lang/Object"))) (by decide)
   have Fn35_size : Fld Z h35 b35 "java/util/ArrayList" "size" "I" (.int (0 : Int32)) := D35 (Or.inl (wq hw (i := 61) rfl)) (ty := .int) (by decide)
   refine Fini.st st35 ?_
   show Fini _ _ _ _ _ _ _ T35 (mkF m 126 #[vi p0, vi p1, vi p2, vi (p0 &&& (3 : Int32)), vi (g0_11 p0), vi (own_b16 p0), vi (own_b32 p0), vi (own_b64 p0), vi (own_b128 p0), vi (g0_74 p0), vi (g0_90 p0 p2), vr b14, vr b19, vr b27, su, su, su, su, su] [(.ref b35)])
   refine Fini.st (fun _ k => XS.dup X35.here hx rfl (hb hby at_126) rfl rfl k) ?_
   have Zs_42 : n0 ≤ h35.size := (Nat.le_trans Zs_40 E35.1)
   have Od_43 : Old Z n0 h35 := (Old.ext Od_36 E35)
   obtain ⟨v41, T41, L41, X41, hQ41, st41⟩ := callNew X35 hx hZ hown rfl (wq hw (i := 21) rfl) (wq hw (i := 22) rfl) (wq hw (i := 20) rfl) (wq hw (i := 23) rfl) (by decide) (rm3 l Z a0 hw [] b35 dd n0 (0 : Int32) h35 n0 Zs_42 A35 Fn35_modCount Fn35_size Fn35_elementData Od_43 S_dd A_dd ge_b35) e35 (W := 1) (by decide) (by decide) (by decide) (by decide) (g := (mkF m 127 #[vi p0, vi p1, vi p2, vi (p0 &&& (3 : Int32)), vi (g0_11 p0), vi (own_b16 p0), vi (own_b32 p0), vi (own_b64 p0), vi (own_b128 p0), vi (g0_74 p0), vi (g0_90 p0 p2), vr b14, vr b19, vr b27, su, su, su, su, su] [(.ref b35), (.ref b35)])) rfl (by rw [hml]; rfl) (argsL := []) (rest := [(.ref b35)]) rfl (lenOf pd_0 rfl) rfl (by show 2 * 0 + _ ≤ _; exact Nat.le_of_eq rfl) (hb hby at_127)
   obtain ⟨rfl, Nq41, K41, Al41⟩ := hQ41
   have N41 := Fr.app N32 Nq41
   refine Fini.st st41 ?_
   show Fini _ _ _ _ _ _ _ T41 (mkF m 130 #[vi p0, vi p1, vi p2, vi (p0 &&& (3 : Int32)), vi (g0_11 p0), vi (own_b16 p0), vi (own_b32 p0), vi (own_b64 p0), vi (own_b128 p0), vi (g0_74 p0), vi (g0_90 p0 p2), vr b14, vr b19, vr b27, su, su, su, su, su] [(.ref b35)])
   refine Fini.st (fun _ k => XS.astore X41.here hx rfl (hb hby at_130) rfl rfl (l' := #[vi p0, vi p1, vi p2, vi (p0 &&& (3 : Int32)), vi (g0_11 p0), vi (own_b16 p0), vi (own_b32 p0), vi (own_b64 p0), vi (own_b128 p0), vi (g0_74 p0), vi (g0_90 p0 p2), vr b14, vr b19, vr b27, vr b35, su, su, su, su]) rfl k) ?_
   refine fI X41 hx hby at_132 rfl rfl ?_
   show Fini _ _ _ _ _ _ _ T41 (mkF m 134 #[vi p0, vi p1, vi p2, vi (p0 &&& (3 : Int32)), vi (g0_11 p0), vi (own_b16 p0), vi (own_b32 p0), vi (own_b64 p0), vi (own_b128 p0), vi (g0_74 p0), vi (g0_90 p0 p2), vr b14, vr b19, vr b27, vr b35, su, su, su, su] [(.int (own_b16 p0))])
   by_cases c44 : (own_b16 p0) = (0 : Int32)
   ·
    refine Fini.st (fun _ k => XS.ifYes X41.here hx rfl (pc0 := 134) (pc' := 149) rfl (hb hby at_134) rfl (XT.i0_eq_t c44) (by decide) (by decide) k) ?_
    show Fini _ _ _ _ _ _ _ T41 (mkF m 149 #[vi p0, vi p1, vi p2, vi (p0 &&& (3 : Int32)), vi (g0_11 p0), vi (own_b16 p0), vi (own_b32 p0), vi (own_b64 p0), vi (own_b128 p0), vi (g0_74 p0), vi (g0_90 p0 p2), vr b14, vr b19, vr b27, vr b35, su, su, su, su] [])
    have Al_45 : ALs Z n0 dd T41.heap b27 dd (0 : Int32) (fun _ => .null) := ((Al32.ext E35).keep K41 (ninS ne_b27_b35 nin0) (ninS ne_dd_b35 nin0))
    obtain ⟨e13, q_e13⟩ : ∃ q, q = dd := ⟨_, rfl⟩
    have Al_e13_46 : ALs Z n0 dd T41.heap b27 e13 (0 : Int32) (fun _ => .null) := by rw [q_e13]; exact Al_45
    have ne_e13_b14 : e13 ≠ b14 := by rw [q_e13]; exact ne_dd_b14
    have ne_e13_b19 : e13 ≠ b19 := by rw [q_e13]; exact ne_dd_b19
    have ne_e13_b27 : e13 ≠ b27 := by rw [q_e13]; exact ne_dd_b27
    have ne_e13_b35 : e13 ≠ b35 := by rw [q_e13]; exact ne_dd_b35
    have Od_438 : Old Z n0 T41.heap := (Old.keep Od_43 K41 (allS (P := fun x => n0 ≤ x) ge_b35 all0))
    have Zs_439 : n0 ≤ T41.heap.size := (Nat.le_trans Zs_42 K41.1)
    have Ex_440 : Exa Z T41.heap b14 kTr := ((Ex_38.ext E35).keep K41)
    have Al_441 : ALs Z n0 dd T41.heap b19 dd (0 : Int32) (fun _ => .null) := ((Al_39.ext E35).keep K41 (ninS ne_b19_b35 nin0) (ninS ne_dd_b35 nin0))
    exact B149 T41 _ _ (X41.more (cells' := 5) (slots' := 23) (by decide) (by decide)) rfl b14 b19 b27 b35 e13 (fun _ => .null) (0 : Int32) N41 Od_438 Zs_439 Ex_440 Al_441 Al_e13_46 Al41 ne_dd_b14 ne_dd_b19 ne_b14_b19 ne_dd_b27 ne_b14_b27 ne_b19_b27 ne_dd_b35 ne_b14_b35 ne_b19_b35 ne_b27_b35 ne_e13_b14 ne_e13_b19 ne_e13_b27 ne_e13_b35 ge_b14 ge_b19 ge_b27 ge_b35 c13 (Ne.symm ne_em_b14) (bxs13z E_bx0 F_bx0 E_bx1 F_bx1 c44)
   ·
    refine Fini.st (fun _ k => XS.ifNo X41.here hx rfl (hb hby at_134) rfl (XT.i0_eq_f c44) k) ?_
    show Fini _ _ _ _ _ _ _ T41 (mkF m 137 #[vi p0, vi p1, vi p2, vi (p0 &&& (3 : Int32)), vi (g0_11 p0), vi (own_b16 p0), vi (own_b32 p0), vi (own_b64 p0), vi (own_b128 p0), vi (g0_74 p0), vi (g0_90 p0 p2), vr b14, vr b19, vr b27, vr b35, su, su, su, su] [])
    refine fA X41 hx hby at_137 rfl rfl rfl ?_
    refine fC X41 hx hby at_139 rfl ?_
    have Zs_48 : n0 ≤ T41.heap.size := (Nat.le_trans Zs_42 K41.1)
    have Od_49 : Old Z n0 T41.heap := (Old.keep Od_43 K41 (allS (P := fun x => n0 ≤ x) ge_b35 all0))
    obtain ⟨v47, T47, L47, X47, hQ47, st47⟩ := callQ X41 hx hZ hown (wq hw (i := 287) rfl) (wq hw (i := 288) rfl) (wq hw (i := 289) rfl) (wq hw (i := 290) rfl) (by decide) (rm37_0 l Z a0 hw [] ca bx0 T41.heap n0 Zs_48 Od_49 S_hi S_ca hC0) rfl (W := 1) (by decide) (by decide) (by decide) (by decide) (g := (mkF m 140 #[vi p0, vi p1, vi p2, vi (p0 &&& (3 : Int32)), vi (g0_11 p0), vi (own_b16 p0), vi (own_b32 p0), vi (own_b64 p0), vi (own_b128 p0), vi (g0_74 p0), vi (g0_90 p0 p2), vr b14, vr b19, vr b27, vr b35, su, su, su, su] [(.int (0 : Int32)), (.ref b27)])) rfl (by rw [hml]; rfl) (argsL := [(.int (0 : Int32))]) (rest := [(.ref b27)]) rfl (lenOf pd_24 rfl) rfl (by show 2 * 0 + _ ≤ _; exact Nat.le_of_eq rfl) (hb hby at_140)
    obtain ⟨rfl, hh47, rfl⟩ := hQ47
    have K47 : Keep T41.heap T47.heap [] := by rw [hh47]; exact Keep.refl _ _
    have Nq47 := Fr.nil n0
    have N47 := Fr.app N41 Nq47
    refine Fini.st st47 ?_
    show Fini _ _ _ _ _ _ _ T47 (mkF m 143 #[vi p0, vi p1, vi p2, vi (p0 &&& (3 : Int32)), vi (g0_11 p0), vi (own_b16 p0), vi (own_b32 p0), vi (own_b64 p0), vi (own_b128 p0), vi (g0_74 p0), vi (g0_90 p0 p2), vr b14, vr b19, vr b27, vr b35, su, su, su, su] [(.ref bx0), (.ref b27)])
    have Zs_51 : n0 ≤ T47.heap.size := (Nat.le_trans Zs_48 K47.1)
    have Al_52 : ALs Z n0 dd T47.heap b27 dd (0 : Int32) (fun _ => .null) := (((Al32.ext E35).keep K41 (ninS ne_b27_b35 nin0) (ninS ne_dd_b35 nin0)).keep K47 nin0 nin0)
    have Od_53 : Old Z n0 T47.heap := (Old.keep Od_49 K47 all0)
    have An_54 : Exa Z T47.heap bx0 "java/lang/Integer" := (E_bx0.ext Od_53.2)
    obtain ⟨v50, T50, L50, X50, hQ50, st50⟩ := callI X47 hx hZ hown (wq hw (i := 65) rfl) (wq hw (i := 66) rfl) (wq hw (i := 67) rfl) (wq hw (i := 68) rfl) (wq hw (i := 69) rfl) (wq hw (i := 70) rfl) (wq hw (i := 71) rfl) (wq hw (i := 58) rfl) (wq hw (i := 20) rfl) (wq hw (i := 72) rfl) Al_52.exa (by decide) (c8 l Z a0 hw T47.heap n0 Zs_51 Al_52 (o1 := bx0) (Nat.le_refl n0) ge_b27 (by decide) Od_53 S_dd A_dd (Ins.of_exa An_54 (wq hw (i := 294) rfl)) Zs_51) rfl (W := 0) (by decide) (by decide) (by decide) (by decide) (g := (mkF m 143 #[vi p0, vi p1, vi p2, vi (p0 &&& (3 : Int32)), vi (g0_11 p0), vi (own_b16 p0), vi (own_b32 p0), vi (own_b64 p0), vi (own_b128 p0), vi (g0_74 p0), vi (g0_90 p0 p2), vr b14, vr b19, vr b27, vr b35, su, su, su, su] [(.ref bx0), (.ref b27)])) rfl (by rw [hml]; rfl) (argsL := [(.ref bx0)]) (rest := []) rfl (lenOf pd_21 rfl) rfl (by show 2 * 0 + _ ≤ _; exact Nat.le_of_eq rfl) (hb hby at_143)
    obtain ⟨rfl, Nq50, x50, K50, hx50, Bx50, Al50⟩ := hQ50
    have Ex_55 : Exa Z T47.heap b14 kTr := (((Ex_38.ext E35).keep K41).keep K47)
    have Al_56 : ALs Z n0 dd T47.heap b19 dd (0 : Int32) (fun _ => .null) := (((Al_39.ext E35).keep K41 (ninS ne_b19_b35 nin0) (ninS ne_dd_b35 nin0)).keep K47 nin0 nin0)
    have Al_57 : ALs Z n0 dd T47.heap b35 dd (0 : Int32) (fun _ => .null) := (Al41.keep K47 nin0 nin0)
    have hz50 : T47.heap.size ≤ x50 := hx50.elim (fun w => absurd (Nat.lt_of_lt_of_le (Od_53.1 ▸ A_dd.lt) (Nat.le_refl n0)) (Nat.not_lt.mpr w.2)) id
    have An_58 : AryQ Z T47.heap dd (0 : Int32) := (A_dd.ext Od_53.2)
    have ne_dd_x50 : dd ≠ x50 := Nat.ne_of_lt (Nat.lt_of_lt_of_le An_58.lt hz50)
    have ne_b14_x50 : b14 ≠ x50 := Nat.ne_of_lt (Nat.lt_of_lt_of_le Ex_55.lt hz50)
    have ne_b19_x50 : b19 ≠ x50 := Nat.ne_of_lt (Nat.lt_of_lt_of_le Al_56.lt hz50)
    have ne_b27_x50 : b27 ≠ x50 := Nat.ne_of_lt (Nat.lt_of_lt_of_le Al_52.lt hz50)
    have ne_b35_x50 : b35 ≠ x50 := Nat.ne_of_lt (Nat.lt_of_lt_of_le Al_57.lt hz50)
    have N50 := Fr.app N47 Nq50
    refine Fini.st st50 ?_
    show Fini _ _ _ _ _ _ _ T50 (mkF m 148 #[vi p0, vi p1, vi p2, vi (p0 &&& (3 : Int32)), vi (g0_11 p0), vi (own_b16 p0), vi (own_b32 p0), vi (own_b64 p0), vi (own_b128 p0), vi (g0_74 p0), vi (g0_90 p0 p2), vr b14, vr b19, vr b27, vr b35, su, su, su, su] [(.int (1 : Int32))])
    refine Fini.st (fun _ k => XS.pop X50.here hx rfl (hb hby at_148) rfl rfl k) ?_
    show Fini _ _ _ _ _ _ _ T50 (mkF m 149 #[vi p0, vi p1, vi p2, vi (p0 &&& (3 : Int32)), vi (g0_11 p0), vi (own_b16 p0), vi (own_b32 p0), vi (own_b64 p0), vi (own_b128 p0), vi (g0_74 p0), vi (g0_90 p0 p2), vr b14, vr b19, vr b27, vr b35, su, su, su, su] [])
    obtain ⟨e13, q_e13⟩ : ∃ q, q = x50 := ⟨_, rfl⟩
    have Al_e13_59 : ALs Z n0 dd T50.heap b27 e13 (1 : Int32) (upd (fun _ => .null) 0 (.ref bx0)) := by rw [q_e13]; exact Al50
    have ne_e13_dd : e13 ≠ dd := by rw [q_e13]; exact Ne.symm ne_dd_x50
    have ne_e13_b14 : e13 ≠ b14 := by rw [q_e13]; exact Ne.symm ne_b14_x50
    have ne_e13_b19 : e13 ≠ b19 := by rw [q_e13]; exact Ne.symm ne_b19_x50
    have ne_e13_b27 : e13 ≠ b27 := by rw [q_e13]; exact Ne.symm ne_b27_x50
    have ne_e13_b35 : e13 ≠ b35 := by rw [q_e13]; exact Ne.symm ne_b35_x50
    have Od_442 : Old Z n0 T50.heap := (Old.keep Od_53 K50 (allS (P := fun x => n0 ≤ x) ge_b27 (allS (P := fun x => n0 ≤ x) (Nat.le_trans (Nat.le_refl n0) Bx50) all0)))
    have Zs_443 : n0 ≤ T50.heap.size := (Nat.le_trans Zs_51 K50.1)
    have Ex_444 : Exa Z T50.heap b14 kTr := (Ex_55.keep K50)
    have Al_445 : ALs Z n0 dd T50.heap b19 dd (0 : Int32) (fun _ => .null) := (Al_56.keep K50 (ninS ne_b19_b27 (ninS ne_b19_x50 nin0)) (ninS ne_dd_b27 (ninS ne_dd_x50 nin0)))
    have Al_446 : ALs Z n0 dd T50.heap b35 dd (0 : Int32) (fun _ => .null) := (Al_57.keep K50 (ninS (Ne.symm ne_b27_b35) (ninS ne_b35_x50 nin0)) (ninS ne_dd_b27 (ninS ne_dd_x50 nin0)))
    exact B149 T50 _ _ (X50.more (cells' := 5) (slots' := 23) (by decide) (by decide)) rfl b14 b19 b27 b35 e13 (upd (fun _ => .null) 0 (.ref bx0)) (1 : Int32) N50 Od_442 Zs_443 Ex_444 Al_445 Al_e13_59 Al_446 ne_dd_b14 ne_dd_b19 ne_b14_b19 ne_dd_b27 ne_b14_b27 ne_b19_b27 ne_dd_b35 ne_b14_b35 ne_b19_b35 ne_b27_b35 ne_e13_b14 ne_e13_b19 ne_e13_b27 ne_e13_b35 ge_b14 ge_b19 ge_b27 ge_b35 c13 (Ne.symm ne_em_b14) (bxs13o E_bx0 F_bx0 E_bx1 F_bx1 c44)
 have B53 : ∀ (T_53 : State) (h_53 : Heap) (locs : List Loc) (X_53 : Stand p l e room_1 s m #[(.int p0), (.int p1), (.int p2)] below meth c T_53 locs 0 0) (e_53 : T_53.heap = h_53) (N_53 : Fr n0 locs) (H53_D : Old Z n0 h_53) (H53_Z : n0 ≤ h_53.size), Fini p e below s (fun v h' L => v = some (.int 1) ∧ Fr n0 L) (Room.cells room_1) (Room.slots room_1) T_53 (mkF m 53 #[vi p0, vi p1, vi p2, vi (p0 &&& (3 : Int32)), vi (g0_11 p0), vi (own_b16 p0), vi (own_b32 p0), su, su, su, su, su, su, su, su, su, su, su, su] [(.int (own_b64 p0))]) := by
  intro T_53 h_53 locs  X_53 e_53   N_53 H53_D H53_Z 
  refine Fini.st (fun _ k => XS.istore X_53.here hx rfl (hb hby at_53) rfl (l' := #[vi p0, vi p1, vi p2, vi (p0 &&& (3 : Int32)), vi (g0_11 p0), vi (own_b16 p0), vi (own_b32 p0), vi (own_b64 p0), su, su, su, su, su, su, su, su, su, su, su]) rfl k) ?_
  refine fIN X_53 hx hby at_55 rfl rfl ?_
  refine Fini.st (fun _ k => XS.sipush X_53.here hx rfl (hb hby at_56) k) ?_
  refine Fini.st (fun _ k => XS.iand X_53.here hx rfl (hb hby at_59) rfl k) ?_
  show Fini _ _ _ _ _ _ _ T_53 (mkF m 60 #[vi p0, vi p1, vi p2, vi (p0 &&& (3 : Int32)), vi (g0_11 p0), vi (own_b16 p0), vi (own_b32 p0), vi (own_b64 p0), su, su, su, su, su, su, su, su, su, su, su] [(.int (p0 &&& (128 : Int32)))])
  by_cases c10 : (p0 &&& (128 : Int32)) = (0 : Int32)
  ·
   refine Fini.st (fun _ k => XS.ifYes X_53.here hx rfl (pc0 := 60) (pc' := 67) rfl (hb hby at_60) rfl (XT.i0_eq_t c10) (by decide) (by decide) k) ?_
   show Fini _ _ _ _ _ _ _ T_53 (mkF m 67 #[vi p0, vi p1, vi p2, vi (p0 &&& (3 : Int32)), vi (g0_11 p0), vi (own_b16 p0), vi (own_b32 p0), vi (own_b64 p0), su, su, su, su, su, su, su, su, su, su, su] [])
   refine fC X_53 hx hby at_67 rfl ?_
   show Fini _ _ _ _ _ _ _ T_53 (mkF m 68 #[vi p0, vi p1, vi p2, vi (p0 &&& (3 : Int32)), vi (g0_11 p0), vi (own_b16 p0), vi (own_b32 p0), vi (own_b64 p0), su, su, su, su, su, su, su, su, su, su, su] [(.int (0 : Int32))])
   have eb11 : (own_b128 p0) = (0 : Int32) := if_pos c10
   refine Fini.cast (g' := (mkF m 68 #[vi p0, vi p1, vi p2, vi (p0 &&& (3 : Int32)), vi (g0_11 p0), vi (own_b16 p0), vi (own_b32 p0), vi (own_b64 p0), su, su, su, su, su, su, su, su, su, su, su] [(.int (own_b128 p0))])) (by rw [eb11]) ?_
   show Fini _ _ _ _ _ _ _ T_53 (mkF m 68 #[vi p0, vi p1, vi p2, vi (p0 &&& (3 : Int32)), vi (g0_11 p0), vi (own_b16 p0), vi (own_b32 p0), vi (own_b64 p0), su, su, su, su, su, su, su, su, su, su, su] [(.int (own_b128 p0))])
   exact B68 T_53 _ _ (X_53.more (cells' := 0) (slots' := 0) (by decide) (by decide)) e_53 N_53 H53_D H53_Z
  ·
   refine Fini.st (fun _ k => XS.ifNo X_53.here hx rfl (hb hby at_60) rfl (XT.i0_eq_f c10) k) ?_
   show Fini _ _ _ _ _ _ _ T_53 (mkF m 63 #[vi p0, vi p1, vi p2, vi (p0 &&& (3 : Int32)), vi (g0_11 p0), vi (own_b16 p0), vi (own_b32 p0), vi (own_b64 p0), su, su, su, su, su, su, su, su, su, su, su] [])
   refine fC X_53 hx hby at_63 rfl ?_
   refine Fini.st (fun _ k => XS.goto X_53.here hx rfl (pc0 := 64) (pc' := 68) rfl (hb hby at_64) (by decide) (by decide) k) ?_
   show Fini _ _ _ _ _ _ _ T_53 (mkF m 68 #[vi p0, vi p1, vi p2, vi (p0 &&& (3 : Int32)), vi (g0_11 p0), vi (own_b16 p0), vi (own_b32 p0), vi (own_b64 p0), su, su, su, su, su, su, su, su, su, su, su] [(.int (1 : Int32))])
   have eb12 : (own_b128 p0) = (1 : Int32) := if_neg c10
   refine Fini.cast (g' := (mkF m 68 #[vi p0, vi p1, vi p2, vi (p0 &&& (3 : Int32)), vi (g0_11 p0), vi (own_b16 p0), vi (own_b32 p0), vi (own_b64 p0), su, su, su, su, su, su, su, su, su, su, su] [(.int (own_b128 p0))])) (by rw [eb12]) ?_
   show Fini _ _ _ _ _ _ _ T_53 (mkF m 68 #[vi p0, vi p1, vi p2, vi (p0 &&& (3 : Int32)), vi (g0_11 p0), vi (own_b16 p0), vi (own_b32 p0), vi (own_b64 p0), su, su, su, su, su, su, su, su, su, su, su] [(.int (own_b128 p0))])
   exact B68 T_53 _ _ (X_53.more (cells' := 0) (slots' := 0) (by decide) (by decide)) e_53 N_53 H53_D H53_Z
 have B39 : ∀ (T_39 : State) (h_39 : Heap) (locs : List Loc) (X_39 : Stand p l e room_1 s m #[(.int p0), (.int p1), (.int p2)] below meth c T_39 locs 0 0) (e_39 : T_39.heap = h_39) (N_39 : Fr n0 locs) (H39_D : Old Z n0 h_39) (H39_Z : n0 ≤ h_39.size), Fini p e below s (fun v h' L => v = some (.int 1) ∧ Fr n0 L) (Room.cells room_1) (Room.slots room_1) T_39 (mkF m 39 #[vi p0, vi p1, vi p2, vi (p0 &&& (3 : Int32)), vi (g0_11 p0), vi (own_b16 p0), su, su, su, su, su, su, su, su, su, su, su, su, su] [(.int (own_b32 p0))]) := by
  intro T_39 h_39 locs  X_39 e_39   N_39 H39_D H39_Z 
  refine Fini.st (fun _ k => XS.istore X_39.here hx rfl (hb hby at_39) rfl (l' := #[vi p0, vi p1, vi p2, vi (p0 &&& (3 : Int32)), vi (g0_11 p0), vi (own_b16 p0), vi (own_b32 p0), su, su, su, su, su, su, su, su, su, su, su, su]) rfl k) ?_
  refine fIN X_39 hx hby at_41 rfl rfl ?_
  refine Fini.st (fun _ k => XS.bipush X_39.here hx rfl (hb hby at_42) k) ?_
  refine Fini.st (fun _ k => XS.iand X_39.here hx rfl (hb hby at_44) rfl k) ?_
  show Fini _ _ _ _ _ _ _ T_39 (mkF m 45 #[vi p0, vi p1, vi p2, vi (p0 &&& (3 : Int32)), vi (g0_11 p0), vi (own_b16 p0), vi (own_b32 p0), su, su, su, su, su, su, su, su, su, su, su, su] [(.int (p0 &&& (64 : Int32)))])
  by_cases c7 : (p0 &&& (64 : Int32)) = (0 : Int32)
  ·
   refine Fini.st (fun _ k => XS.ifYes X_39.here hx rfl (pc0 := 45) (pc' := 52) rfl (hb hby at_45) rfl (XT.i0_eq_t c7) (by decide) (by decide) k) ?_
   show Fini _ _ _ _ _ _ _ T_39 (mkF m 52 #[vi p0, vi p1, vi p2, vi (p0 &&& (3 : Int32)), vi (g0_11 p0), vi (own_b16 p0), vi (own_b32 p0), su, su, su, su, su, su, su, su, su, su, su, su] [])
   refine fC X_39 hx hby at_52 rfl ?_
   show Fini _ _ _ _ _ _ _ T_39 (mkF m 53 #[vi p0, vi p1, vi p2, vi (p0 &&& (3 : Int32)), vi (g0_11 p0), vi (own_b16 p0), vi (own_b32 p0), su, su, su, su, su, su, su, su, su, su, su, su] [(.int (0 : Int32))])
   have eb8 : (own_b64 p0) = (0 : Int32) := if_pos c7
   refine Fini.cast (g' := (mkF m 53 #[vi p0, vi p1, vi p2, vi (p0 &&& (3 : Int32)), vi (g0_11 p0), vi (own_b16 p0), vi (own_b32 p0), su, su, su, su, su, su, su, su, su, su, su, su] [(.int (own_b64 p0))])) (by rw [eb8]) ?_
   show Fini _ _ _ _ _ _ _ T_39 (mkF m 53 #[vi p0, vi p1, vi p2, vi (p0 &&& (3 : Int32)), vi (g0_11 p0), vi (own_b16 p0), vi (own_b32 p0), su, su, su, su, su, su, su, su, su, su, su, su] [(.int (own_b64 p0))])
   exact B53 T_39 _ _ (X_39.more (cells' := 0) (slots' := 0) (by decide) (by decide)) e_39 N_39 H39_D H39_Z
  ·
   refine Fini.st (fun _ k => XS.ifNo X_39.here hx rfl (hb hby at_45) rfl (XT.i0_eq_f c7) k) ?_
   show Fini _ _ _ _ _ _ _ T_39 (mkF m 48 #[vi p0, vi p1, vi p2, vi (p0 &&& (3 : Int32)), vi (g0_11 p0), vi (own_b16 p0), vi (own_b32 p0), su, su, su, su, su, su, su, su, su, su, su, su] [])
   refine fC X_39 hx hby at_48 rfl ?_
   refine Fini.st (fun _ k => XS.goto X_39.here hx rfl (pc0 := 49) (pc' := 53) rfl (hb hby at_49) (by decide) (by decide) k) ?_
   show Fini _ _ _ _ _ _ _ T_39 (mkF m 53 #[vi p0, vi p1, vi p2, vi (p0 &&& (3 : Int32)), vi (g0_11 p0), vi (own_b16 p0), vi (own_b32 p0), su, su, su, su, su, su, su, su, su, su, su, su] [(.int (1 : Int32))])
   have eb9 : (own_b64 p0) = (1 : Int32) := if_neg c7
   refine Fini.cast (g' := (mkF m 53 #[vi p0, vi p1, vi p2, vi (p0 &&& (3 : Int32)), vi (g0_11 p0), vi (own_b16 p0), vi (own_b32 p0), su, su, su, su, su, su, su, su, su, su, su, su] [(.int (own_b64 p0))])) (by rw [eb9]) ?_
   show Fini _ _ _ _ _ _ _ T_39 (mkF m 53 #[vi p0, vi p1, vi p2, vi (p0 &&& (3 : Int32)), vi (g0_11 p0), vi (own_b16 p0), vi (own_b32 p0), su, su, su, su, su, su, su, su, su, su, su, su] [(.int (own_b64 p0))])
   exact B53 T_39 _ _ (X_39.more (cells' := 0) (slots' := 0) (by decide) (by decide)) e_39 N_39 H39_D H39_Z
 have B25 : ∀ (T_25 : State) (h_25 : Heap) (locs : List Loc) (X_25 : Stand p l e room_1 s m #[(.int p0), (.int p1), (.int p2)] below meth c T_25 locs 0 0) (e_25 : T_25.heap = h_25) (N_25 : Fr n0 locs) (H25_D : Old Z n0 h_25) (H25_Z : n0 ≤ h_25.size), Fini p e below s (fun v h' L => v = some (.int 1) ∧ Fr n0 L) (Room.cells room_1) (Room.slots room_1) T_25 (mkF m 25 #[vi p0, vi p1, vi p2, vi (p0 &&& (3 : Int32)), vi (g0_11 p0), su, su, su, su, su, su, su, su, su, su, su, su, su, su] [(.int (own_b16 p0))]) := by
  intro T_25 h_25 locs  X_25 e_25   N_25 H25_D H25_Z 
  refine Fini.st (fun _ k => XS.istore X_25.here hx rfl (hb hby at_25) rfl (l' := #[vi p0, vi p1, vi p2, vi (p0 &&& (3 : Int32)), vi (g0_11 p0), vi (own_b16 p0), su, su, su, su, su, su, su, su, su, su, su, su, su]) rfl k) ?_
  refine fIN X_25 hx hby at_27 rfl rfl ?_
  refine Fini.st (fun _ k => XS.bipush X_25.here hx rfl (hb hby at_28) k) ?_
  refine Fini.st (fun _ k => XS.iand X_25.here hx rfl (hb hby at_30) rfl k) ?_
  show Fini _ _ _ _ _ _ _ T_25 (mkF m 31 #[vi p0, vi p1, vi p2, vi (p0 &&& (3 : Int32)), vi (g0_11 p0), vi (own_b16 p0), su, su, su, su, su, su, su, su, su, su, su, su, su] [(.int (p0 &&& (32 : Int32)))])
  by_cases c4 : (p0 &&& (32 : Int32)) = (0 : Int32)
  ·
   refine Fini.st (fun _ k => XS.ifYes X_25.here hx rfl (pc0 := 31) (pc' := 38) rfl (hb hby at_31) rfl (XT.i0_eq_t c4) (by decide) (by decide) k) ?_
   show Fini _ _ _ _ _ _ _ T_25 (mkF m 38 #[vi p0, vi p1, vi p2, vi (p0 &&& (3 : Int32)), vi (g0_11 p0), vi (own_b16 p0), su, su, su, su, su, su, su, su, su, su, su, su, su] [])
   refine fC X_25 hx hby at_38 rfl ?_
   show Fini _ _ _ _ _ _ _ T_25 (mkF m 39 #[vi p0, vi p1, vi p2, vi (p0 &&& (3 : Int32)), vi (g0_11 p0), vi (own_b16 p0), su, su, su, su, su, su, su, su, su, su, su, su, su] [(.int (0 : Int32))])
   have eb5 : (own_b32 p0) = (0 : Int32) := if_pos c4
   refine Fini.cast (g' := (mkF m 39 #[vi p0, vi p1, vi p2, vi (p0 &&& (3 : Int32)), vi (g0_11 p0), vi (own_b16 p0), su, su, su, su, su, su, su, su, su, su, su, su, su] [(.int (own_b32 p0))])) (by rw [eb5]) ?_
   show Fini _ _ _ _ _ _ _ T_25 (mkF m 39 #[vi p0, vi p1, vi p2, vi (p0 &&& (3 : Int32)), vi (g0_11 p0), vi (own_b16 p0), su, su, su, su, su, su, su, su, su, su, su, su, su] [(.int (own_b32 p0))])
   exact B39 T_25 _ _ (X_25.more (cells' := 0) (slots' := 0) (by decide) (by decide)) e_25 N_25 H25_D H25_Z
  ·
   refine Fini.st (fun _ k => XS.ifNo X_25.here hx rfl (hb hby at_31) rfl (XT.i0_eq_f c4) k) ?_
   show Fini _ _ _ _ _ _ _ T_25 (mkF m 34 #[vi p0, vi p1, vi p2, vi (p0 &&& (3 : Int32)), vi (g0_11 p0), vi (own_b16 p0), su, su, su, su, su, su, su, su, su, su, su, su, su] [])
   refine fC X_25 hx hby at_34 rfl ?_
   refine Fini.st (fun _ k => XS.goto X_25.here hx rfl (pc0 := 35) (pc' := 39) rfl (hb hby at_35) (by decide) (by decide) k) ?_
   show Fini _ _ _ _ _ _ _ T_25 (mkF m 39 #[vi p0, vi p1, vi p2, vi (p0 &&& (3 : Int32)), vi (g0_11 p0), vi (own_b16 p0), su, su, su, su, su, su, su, su, su, su, su, su, su] [(.int (1 : Int32))])
   have eb6 : (own_b32 p0) = (1 : Int32) := if_neg c4
   refine Fini.cast (g' := (mkF m 39 #[vi p0, vi p1, vi p2, vi (p0 &&& (3 : Int32)), vi (g0_11 p0), vi (own_b16 p0), su, su, su, su, su, su, su, su, su, su, su, su, su] [(.int (own_b32 p0))])) (by rw [eb6]) ?_
   show Fini _ _ _ _ _ _ _ T_25 (mkF m 39 #[vi p0, vi p1, vi p2, vi (p0 &&& (3 : Int32)), vi (g0_11 p0), vi (own_b16 p0), su, su, su, su, su, su, su, su, su, su, su, su, su] [(.int (own_b32 p0))])
   exact B39 T_25 _ _ (X_25.more (cells' := 0) (slots' := 0) (by decide) (by decide)) e_25 N_25 H25_D H25_Z
 show Fini p e below s (fun v h' L => v = some (.int 1) ∧ Fr n0 L) _ _ s₁ (entryFrame m #[(.int p0), (.int p1), (.int p2)] maxLocals)
 refine Fini.cast (ef0 m p0 p1 p2) ?_
 show Fini _ _ _ _ _ _ _ s₁ (mkF m 0 #[vi p0, vi p1, vi p2, su, su, su, su, su, su, su, su, su, su, su, su, su, su, su, su] [])
 refine fIN X0 hx hby at_0 rfl rfl ?_
 refine fC X0 hx hby at_1 rfl ?_
 refine Fini.st (fun _ k => XS.iand X0.here hx rfl (hb hby at_2) rfl k) ?_
 show Fini _ _ _ _ _ _ _ s₁ (mkF m 3 #[vi p0, vi p1, vi p2, su, su, su, su, su, su, su, su, su, su, su, su, su, su, su, su] [(.int (p0 &&& (3 : Int32)))])
 refine Fini.st (fun _ k => XS.istoreN X0.here hx rfl (hb hby at_3) rfl (l' := #[vi p0, vi p1, vi p2, vi (p0 &&& (3 : Int32)), su, su, su, su, su, su, su, su, su, su, su, su, su, su, su]) rfl k) ?_
 refine fIN X0 hx hby at_4 rfl rfl ?_
 refine fC X0 hx hby at_5 rfl ?_
 show Fini _ _ _ _ _ _ _ s₁ (mkF m 6 #[vi p0, vi p1, vi p2, vi (p0 &&& (3 : Int32)), su, su, su, su, su, su, su, su, su, su, su, su, su, su, su] [(.int (2 : Int32)), (.int p0)])
 refine Fini.st (fun _ k => XS.iushr X0.here hx rfl (hb hby at_6) rfl k) ?_
 show Fini _ _ _ _ _ _ _ s₁ (mkF m 7 #[vi p0, vi p1, vi p2, vi (p0 &&& (3 : Int32)), su, su, su, su, su, su, su, su, su, su, su, su, su, su, su] [(.int (p0.toUInt32 >>> ((2 : Int32) &&& 31).toUInt32).toInt32)])
 refine fC X0 hx hby at_7 rfl ?_
 refine Fini.st (fun _ k => XS.iand X0.here hx rfl (hb hby at_8) rfl k) ?_
 show Fini _ _ _ _ _ _ _ s₁ (mkF m 9 #[vi p0, vi p1, vi p2, vi (p0 &&& (3 : Int32)), su, su, su, su, su, su, su, su, su, su, su, su, su, su, su] [(.int ((p0.toUInt32 >>> ((2 : Int32) &&& 31).toUInt32).toInt32 &&& (3 : Int32)))])
 refine fC X0 hx hby at_9 rfl ?_
 show Fini _ _ _ _ _ _ _ s₁ (mkF m 10 #[vi p0, vi p1, vi p2, vi (p0 &&& (3 : Int32)), su, su, su, su, su, su, su, su, su, su, su, su, su, su, su] [(.int (3 : Int32)), (.int ((p0.toUInt32 >>> ((2 : Int32) &&& 31).toUInt32).toInt32 &&& (3 : Int32)))])
 refine Fini.st (fun _ k => iremM X0 hx rfl (hb hby at_10) rfl (by decide) k) ?_
 show Fini _ _ _ _ _ _ _ s₁ (mkF m 11 #[vi p0, vi p1, vi p2, vi (p0 &&& (3 : Int32)), su, su, su, su, su, su, su, su, su, su, su, su, su, su, su] [(.int (((p0.toUInt32 >>> ((2 : Int32) &&& 31).toUInt32).toInt32 &&& (3 : Int32)) % (3 : Int32)))])
 refine Fini.st (fun _ k => XS.istore X0.here hx rfl (hb hby at_11) rfl (l' := #[vi p0, vi p1, vi p2, vi (p0 &&& (3 : Int32)), vi (g0_11 p0), su, su, su, su, su, su, su, su, su, su, su, su, su, su]) rfl k) ?_
 refine fIN X0 hx hby at_13 rfl rfl ?_
 refine Fini.st (fun _ k => XS.bipush X0.here hx rfl (hb hby at_14) k) ?_
 refine Fini.st (fun _ k => XS.iand X0.here hx rfl (hb hby at_16) rfl k) ?_
 show Fini _ _ _ _ _ _ _ s₁ (mkF m 17 #[vi p0, vi p1, vi p2, vi (p0 &&& (3 : Int32)), vi (g0_11 p0), su, su, su, su, su, su, su, su, su, su, su, su, su, su] [(.int (p0 &&& (16 : Int32)))])
 by_cases c1 : (p0 &&& (16 : Int32)) = (0 : Int32)
 ·
  refine Fini.st (fun _ k => XS.ifYes X0.here hx rfl (pc0 := 17) (pc' := 24) rfl (hb hby at_17) rfl (XT.i0_eq_t c1) (by decide) (by decide) k) ?_
  show Fini _ _ _ _ _ _ _ s₁ (mkF m 24 #[vi p0, vi p1, vi p2, vi (p0 &&& (3 : Int32)), vi (g0_11 p0), su, su, su, su, su, su, su, su, su, su, su, su, su, su] [])
  refine fC X0 hx hby at_24 rfl ?_
  show Fini _ _ _ _ _ _ _ s₁ (mkF m 25 #[vi p0, vi p1, vi p2, vi (p0 &&& (3 : Int32)), vi (g0_11 p0), su, su, su, su, su, su, su, su, su, su, su, su, su, su] [(.int (0 : Int32))])
  have eb2 : (own_b16 p0) = (0 : Int32) := if_pos c1
  refine Fini.cast (g' := (mkF m 25 #[vi p0, vi p1, vi p2, vi (p0 &&& (3 : Int32)), vi (g0_11 p0), su, su, su, su, su, su, su, su, su, su, su, su, su, su] [(.int (own_b16 p0))])) (by rw [eb2]) ?_
  show Fini _ _ _ _ _ _ _ s₁ (mkF m 25 #[vi p0, vi p1, vi p2, vi (p0 &&& (3 : Int32)), vi (g0_11 p0), su, su, su, su, su, su, su, su, su, su, su, su, su, su] [(.int (own_b16 p0))])
  exact B25 s₁ _ _ (X0.more (cells' := 0) (slots' := 0) (by decide) (by decide)) e0 N0 D0 Z0
 ·
  refine Fini.st (fun _ k => XS.ifNo X0.here hx rfl (hb hby at_17) rfl (XT.i0_eq_f c1) k) ?_
  show Fini _ _ _ _ _ _ _ s₁ (mkF m 20 #[vi p0, vi p1, vi p2, vi (p0 &&& (3 : Int32)), vi (g0_11 p0), su, su, su, su, su, su, su, su, su, su, su, su, su, su] [])
  refine fC X0 hx hby at_20 rfl ?_
  refine Fini.st (fun _ k => XS.goto X0.here hx rfl (pc0 := 21) (pc' := 25) rfl (hb hby at_21) (by decide) (by decide) k) ?_
  show Fini _ _ _ _ _ _ _ s₁ (mkF m 25 #[vi p0, vi p1, vi p2, vi (p0 &&& (3 : Int32)), vi (g0_11 p0), su, su, su, su, su, su, su, su, su, su, su, su, su, su] [(.int (1 : Int32))])
  have eb3 : (own_b16 p0) = (1 : Int32) := if_neg c1
  refine Fini.cast (g' := (mkF m 25 #[vi p0, vi p1, vi p2, vi (p0 &&& (3 : Int32)), vi (g0_11 p0), su, su, su, su, su, su, su, su, su, su, su, su, su, su] [(.int (own_b16 p0))])) (by rw [eb3]) ?_
  show Fini _ _ _ _ _ _ _ s₁ (mkF m 25 #[vi p0, vi p1, vi p2, vi (p0 &&& (3 : Int32)), vi (g0_11 p0), su, su, su, su, su, su, su, su, su, su, su, su, su, su] [(.int (own_b16 p0))])
  exact B25 s₁ _ _ (X0.more (cells' := 0) (slots' := 0) (by decide) (by decide)) e0 N0 D0 Z0
theorem own_law (p0 p1 p2 : Int32) : (1 : Int32) = 1 := rfl
theorem own_len {args : Array Value} {s : State} {t : Term} {a : Addr} {cl : Cell} {n : Int32} {C : String} (hev : t.eval args s none [] s = some (.ref a)) (A : Arr s s.heap a cl (.object C)) (eL : (Term.length t).eval args s none [] s = some (.int n)) : cl.slots.size < 2 ^ 31 ∧ cl.slots.size.toInt32 = n := by
 have hc : s.arrayAt? a = some cl := A.fin (Vm.Alike.refl _)
 have e : (Term.length t).eval args s none [] s = if cl.slots.size < 2 ^ 31 then some (.int cl.slots.size.toInt32) else none := by simp [Term.eval, hev, hc]
 rw [e] at eL
 by_cases q : cl.slots.size < 2 ^ 31
 ·
  rw [if_pos q] at eL
  exact ⟨q, Value.int.inj (Option.some.inj eL)⟩
 ·
  rw [if_neg q] at eL; cases eL
theorem own_dd {args : Array Value} {s : State} {t : Term} {a : Addr} {cl : Cell} (hev : t.eval args s none [] s = some (.ref a)) (A : Arr s s.heap a cl (.object "java/lang/Object")) (eL : (Term.length t).eval args s none [] s = some (.int 0)) : AryQ s s.heap a 0 := by
 obtain ⟨q, e⟩ := own_len hev A eL
 refine ⟨cl, A, ?_, by decide⟩
 have e4 := congrArg Int32.toInt e
 rw [len_toInt q] at e4
 have t0 : (0 : Int32).toInt = 0 := rfl
 have t1 : (0 : Int32).toNatClampNeg = 0 := rfl
 omega
theorem own_boxes {args : Array Value} {s : State} {t : Term} {ca : Addr} {cl : Cell} (hev : ∀ idx, t.eval args s none idx s = some (.ref ca)) (A : Arr s s.heap ca cl (.object "java/lang/Integer")) (eL : (Term.length t).eval args s none [] s = some (.int 256))
  (h : (Jvm.Cond.all t (.and (.exactly (.elem t (.index 0)) "java/lang/Integer") (.eq (.field (.elem t (.index 0)) "java/lang/Integer" "value" "I") (.sub (.index 0) (.int 128))))).value args s none s [] = some true) : Bxs s ca cl "java/lang/Integer" "I" 256 (fun j => .int (j - 128)) := by
 obtain ⟨q, e⟩ := own_len (hev []) A eL
 refine Bxs.start hev A q e (by decide) h fun X j nn hX => eqv_i ?_ hX
 simp [Term.eval]
 exact (back32 nn).1
theorem own_box {s : State} {ca : Addr} {cl : Cell} (B : Bxs s ca cl "java/lang/Integer" "I" 256 (fun j => .int (j - 128))) {j : Int32} (h0 : ¬ j < 0) (h1 : j < (256 : Int32)) : ∃ bx, BoxAt s ca j bx ∧ Exa s s.heap bx "java/lang/Integer" ∧ Fld s s.heap bx "java/lang/Integer" "value" "I" (.int (j - 128)) := by
 obtain ⟨A, S, N, H⟩ := B
 have i := inb_of S ⟨h0, h1⟩
 obtain ⟨b, q1, q2, q3⟩ := H j i
 exact ⟨b, ⟨cl, A, i, q1⟩, q2, q3⟩

theorem own_eqI {args : Array Value} {first s : State} {o : Option Outcome} {idx : List Nat} {a : Term} {n : Int32} (h : (Jvm.Cond.eq a (.int n)).value args first o s idx = some true) : a.eval args first o idx s = some (.int n) := by
 obtain ⟨x, y, h1, h2, k1, k2⟩ := cmp_v (Or.inl h)
 have e2 : y = .int n := Option.some.inj (h2.symm.trans (Term.int_eval n))
 subst e2
 obtain ⟨z, rfl⟩ : ∃ z, x = .int z := k2
 rw [h1, gotT (Cond.eq_ints h1 h2) h]
set_option maxRecDepth 65536 in
set_option maxHeartbeats 40000000 in
theorem comes_1 {Post : Tables → Env → Array Value → State → Outcome → State → Prop} (hpost : ∀ tb e args s v u, (limb_1_1.after args s (.returned v) u = true ∧ limb_1_2.after args s (.returned v) u = true ∧ True) → FrameEnd s (.returned v) u (Jvm.fieldLocs frame_1_writes args s ++ Jvm.arrayLocs frame_1_arrays args s ++ Jvm.staticLocs frame_1_statics s) 64 320 → Post tb e args s (.returned v) u) :
  ArmFor flags0 classFile x code maxLocals ret World_1 tables_1 room_1 Calls_1 rest_1 Pre_1 Post := by
 intro l hfl _ _ p e ha hc hk s m args below hf hA hF happ hP
 obtain ⟨hcalls, hrest, hpre⟩ := hP
 obtain ⟨-, -, -, hnamed, -, -, -, hat⟩ := (Spec.applies_iff hf).mp happ
 obtain ⟨hg, hn⟩ := and_e (Cond.before_iff.mp (show (Jvm.Cond.and given_1 narrow_1).before args s = true from hpre))
 obtain ⟨g1, g2⟩ := and_e hg
 obtain ⟨g3, g4⟩ := and_e g2
 obtain ⟨g5, g6⟩ := and_e g4
 obtain ⟨w0, w1, w2, rfl⟩ : ∃ w0 w1 w2 : Value, args = #[w0, w1, w2] := by
  have hs : args.size = 3 := by simpa [Cond.value, given_1] using g1
  obtain ⟨L⟩ := args
  match L, hs with
  | [w0, w1, w2], _ => exact ⟨w0, w1, w2, rfl⟩
 have hw := fun d (hd : d ∈ tables_1) => atoms_spec (ws := Jvm.Cond.code x code maxLocals ret :: tables_1) hat d (List.mem_cons_of_mem _ hd)
 have hfit : Fit s := fun {y c} hc i hi => by
  obtain ⟨ha, rfl⟩ := Array.getElem?_eq_some_iff.mp hc
  have q := List.all_eq_true.mp ((Array.all_eq_true_iff_forall_mem.mp hF) _ (Array.getElem_mem ha)) i (List.mem_range.mpr hi)
  simpa [Array.getElem?_eq_getElem hi] using q
 obtain ⟨i0, ei0⟩ := is_v g3
 obtain rfl : w0 = (.int i0) := Option.some.inj ei0
 obtain ⟨i1, ei1⟩ := is_v g5
 obtain rfl : w1 = (.int i1) := Option.some.inj ei1
 obtain ⟨i2, ei2⟩ := is_v g6
 obtain rfl : w2 = (.int i2) := Option.some.inj ei2
 obtain ⟨hsets, hown0⟩ := atoms_of _ (rest_1_c_eq ▸ (show rest_1_c.before _ s = true from hrest))
 have hr0 := Cond.before_iff.mp hown0
 have eD := own_eqI (Cond.before_iff.mp (hsets _ (List.mem_of_getElem? (i := 8) rfl)))
 obtain ⟨dd, evd⟩ := len_v eD
 have Sd := Sta.start evd (Or.inr ⟨(wq hw (i := 20) rfl), (hsets _ (List.mem_of_getElem? (i := 2) rfl))⟩)
 obtain ⟨cd, A1⟩ := Arr.start evd (Cond.before_iff.mp (hsets _ (List.mem_of_getElem? (i := 6) rfl)))
 have Ad := own_dd evd A1 eD
 obtain ⟨el, _, _, _, eve, -⟩ := Cond.exactly_spec (hsets _ (List.mem_of_getElem? (i := 17) rfl))
 have Se := Sta.start eve (Or.inl (hsets _ (List.mem_of_getElem? (i := 16) rfl)))
 obtain ⟨em, _, _, _, evm, -⟩ := Cond.exactly_spec (hsets _ (List.mem_of_getElem? (i := 11) rfl))
 have Sm := Sta.start evm (Or.inl (hsets _ (List.mem_of_getElem? (i := 10) rfl)))
 have Em := Exa.start evm (Cond.before_iff.mp (hsets _ (List.mem_of_getElem? (i := 11) rfl)))
 have Ss := Sta.start (own_eqI (Cond.before_iff.mp (hsets _ (List.mem_of_getElem? (i := 20) rfl)))) (Or.inl (hsets _ (List.mem_of_getElem? (i := 19) rfl)))
 have Sh := Sta.start (own_eqI (Cond.before_iff.mp (hsets _ (List.mem_of_getElem? (i := 31) rfl)))) (Or.inl (hsets _ (List.mem_of_getElem? (i := 29) rfl)))
 have eL := own_eqI (Cond.before_iff.mp (hsets _ (List.mem_of_getElem? (i := 34) rfl)))
 obtain ⟨ca, evc⟩ := len_v eL
 have Sc := Sta.start evc (Or.inr ⟨(wq hw (i := 292) rfl), (hsets _ (List.mem_of_getElem? (i := 30) rfl))⟩)
 obtain ⟨cl, A0⟩ := Arr.start evc (Cond.before_iff.mp (hsets _ (List.mem_of_getElem? (i := 32) rfl)))
 have hX := own_boxes (fun idx => evc) A0 eL (Cond.before_iff.mp (hsets _ (List.mem_of_getElem? (i := 35) rfl)))
 obtain ⟨bx0, hC0, Eb0, Fb0⟩ := own_box hX (j := 128) (by decide) (by decide)
 obtain ⟨bx1, hC1, Eb1, Fb1⟩ := own_box hX (j := 129) (by decide) (by decide)
 obtain ⟨cM, kM, mr, hM1, hM2, hM3⟩ := hcalls.1
 obtain ⟨n, o, h1, h2, h3, v, L, rfl, ⟨rfl, N⟩, hq⟩ := rm0 l s _ hw tables_1 i0 i1 i2 dd el em ca bx0 bx1 mr s.heap s.heap.size (Nat.le_refl _) (Old.start s) Sd Ad Se Sm Ss Sh Sc Eb0 Eb1 Em hC0 hC1 Fb0 Fb1 ⟨cM, kM, hM1, hM2, hM3⟩ p e ha hc hk s m _ below hf ((Spec.applies_iff_loose hf).mp happ).1 ⟨rfl, State.Warmed39.refl s, rfl⟩ trivial
 refine ⟨n, _, h1, h2, h3, hpost _ _ _ _ _ _ ⟨Cond.after_iff.mpr rfl, Cond.after_iff.mpr (eq_i res_at (Term.int_eval (1)) (congrArg Value.int (own_law i0 i1 i2))), trivial⟩ ⟨hq.1, hq.2.1, (hq.2.2.sift fun y hy => Or.inr (N y hy)).mono (by decide) (by decide)⟩⟩
theorem main_1_1 : Claimed_1_1 := comes_1 fun _ _ _ _ _ _ h hF => ⟨h.1, hF⟩
theorem main_1_2 : Claimed_1_2 := comes_1 fun _ _ _ _ _ _ h hF => ⟨h.2.1, hF⟩
end Jvm.Pilot.@@N@@
namespace Jvm.Pilot.@@N@@
open Jvm Jvm.ClassFile Sem Op Lib Jvm.Free Jvm.Stand Jvm.Pilot.@@N@@.Jvm.D
/-! MADE BY PROGRAM (witnessworld.py) out of the Statement's table words and the real class files: 39 classes; the members and pool entries that the words name. The judged class is class 1, her method 1. -/
namespace start1
open Jvm.ClassFile
def u (s : String) : CpInfo := .utf8 (stringToUtf16 s)
/-- a pool by its gaps: so many unusable entries, then the entry; so many at the end -/
def gap : Nat → List CpInfo → List CpInfo
  | 0, r => r
  | n + 1, r => .unusable :: gap n r
def poolList (es : List (Nat × CpInfo)) (last : Nat) : List CpInfo := es.foldr (fun e r => gap e.1 (e.2 :: r)) (gap last [])
def pool (es : List (Nat × CpInfo)) (last : Nat) : Array CpInfo := ⟨poolList es last⟩
def fileOf (pool : Array CpInfo) (this : Nat) (attrs : Array Attribute := #[]) (ms : Array MethodInfo := #[]) (fl : Nat := 33) (sup : Nat := 0) (ifs : Array Nat := #[]) (fds : Array FieldInfo := #[]) : ClassFile where
  minorVersion := 0
  majorVersion := 65
  constantPool := pool
  accessFlags := fl
  thisClass := this
  superClass := sup
  interfaces := ifs
  fields := fds
  methods := ms
  attributes := attrs
def plain (name : String) (sup : Option ClassId) : Class where
  name := name
  kind := .ordinary
  loader := none
  accessFlags := 33
  super := sup
  interfaces := #[]
  cf := none
  fields := #[]
  methods := #[]
  instanceTypes := #[]
  staticTypes := #[]
  resolved := #[]
  callSites := []
  init := .initialized
  statics := none
  mirror := none

def pool0 : Array CpInfo := pool [(5, u "<init>"), (0, u "()V"), (1, .class_ 10), (1, u "java/lang/Object"), (0, u "getClass"), (0, u "()Ljava/lang/Class;")] 111

def k0c0 : Code := { maxStack := 0, maxLocals := 1, code := object_method_1_code, exceptionTable := #[], attributes := #[] }
def k0m0 : Method := { name := "<init>", desc := "()V", sig := { parameters := [], returnType := none }, accessFlags := 1, code := some k0c0 }
def k0m1 : Method := { name := "getClass", desc := "()Ljava/lang/Class;", sig := { parameters := [], returnType := some (.object "java/lang/Class") }, accessFlags := 273, code := none }
/-- java/lang/Object -/
def k0 : Class := { plain "java/lang/Object" none with
  accessFlags := 33
  interfaces := #[]
  cf := some (fileOf pool0 8 #[] #[{ accessFlags := 1, nameIndex := 5, descriptorIndex := 6, attributes := #[] }, { accessFlags := 273, nameIndex := 11, descriptorIndex := 12, attributes := #[] }] 33 0 #[] #[])
  fields := #[]
  methods := #[k0m0, k0m1]
  instanceTypes := #[]
  staticTypes := #[]
  resolved := Array.replicate 124 none
  statics := none }

def pool1 : Array CpInfo := pool [(2, .class_ 4), (0, .nameAndType 5 6), (0, u "java/lang/Object"), (0, u "<init>"), (0, u "()V"), (0, .integer 2147483647), (0, .class_ 9), (0, u "com/example/firm_handshake/firmhandshake/model/Transition"), (0, .methodref 8 11), (0, .nameAndType 5 12), (0, u "(Lcom/example/firm_handshake/firmhandshake/model/Action;ILcom/example/firm_handshake/firmhandshake/model/Transition$Continuation;I)V"), (0, .class_ 14), (0, u "java/util/ArrayList"), (0, .methodref 13 3), (0, .methodref 17 18), (0, .class_ 19), (0, .nameAndType 20 21), (0, u "java/lang/Integer"), (0, u "valueOf"), (0, u "(I)Ljava/lang/Integer;"), (0, .interfaceMethodref 23 24), (0, .class_ 25), (0, .nameAndType 26 27), (0, u "java/util/List"), (0, u "add"), (0, u "(Ljava/lang/Object;)Z"), (0, .class_ 29), (0, u "com/example/firm_handshake/firmhandshake/model/Location$Move"), (0, .methodref 28 31), (0, .nameAndType 5 32), (0, u "(Lcom/example/firm_handshake/firmhandshake/model/Transition;Ljava/util/List;)V"), (0, .class_ 34), (0, u "com/example/firm_handshake/firmhandshake/model/Location"), (0, .methodref 33 36), (0, .nameAndType 5 37), (0, u "(Ljava/util/List;Ljava/util/List;IZLjava/util/List;)V"), (0, .methodref 33 39), (0, .nameAndType 40 41), (0, u "ranksAbove"), (0, u "(II)Z"), (0, .class_ 43), (0, u "com/example/firm_handshake/firmhandshake/model/LocationRanksAbovePinLaw"), (2, u "law"), (0, u "(III)Z")] 8

def k1m0 : Method := { name := "<init>", desc := "()V", sig := { parameters := [], returnType := none }, accessFlags := 1, code := none }
def k1c1 : Code := { maxStack := 8, maxLocals := 19, code := code, exceptionTable := #[], attributes := #[] }
def k1m1 : Method := { name := "law", desc := "(III)Z", sig := { parameters := [.int, .int, .int], returnType := some .boolean }, accessFlags := 9, code := some k1c1 }
/-- com/example/firm_handshake/firmhandshake/model/LocationRanksAbovePinLaw -/
def k1 : Class := { plain "com/example/firm_handshake/firmhandshake/model/LocationRanksAbovePinLaw" (some 0) with
  accessFlags := 49
  interfaces := #[]
  cf := some (fileOf pool1 42 #[] #[{ accessFlags := 1, nameIndex := 5, descriptorIndex := 6, attributes := #[] }, { accessFlags := 9, nameIndex := 46, descriptorIndex := 47, attributes := #[] }] 49 2 #[] #[])
  fields := #[]
  methods := #[k1m0, k1m1]
  instanceTypes := #[]
  staticTypes := #[]
  resolved := Array.replicate 56 none
  statics := none }

def pool2 : Array CpInfo := pool [(1, .methodref 2 3), (0, .class_ 4), (0, .nameAndType 5 6), (0, u "java/lang/Object"), (0, u "<init>"), (0, u "()V"), (0, .fieldref 8 9), (0, .class_ 10), (0, .nameAndType 11 12), (0, u "com/example/firm_handshake/firmhandshake/model/Transition"), (0, u "action"), (0, u "Lcom/example/firm_handshake/firmhandshake/model/Action;"), (0, .fieldref 8 14), (0, .nameAndType 15 16), (0, u "target"), (0, u "I"), (0, .fieldref 8 18), (0, .nameAndType 19 20), (0, u "continuation"), (0, u "Lcom/example/firm_handshake/firmhandshake/model/Transition$Continuation;"), (0, .fieldref 8 22), (0, .nameAndType 23 16), (0, u "dStep"), (42, u "RENDEZVOUS_IN_D_STEP"), (0, u "Ljava/lang/String;"), (1, u "NO_D_STEP"), (1, u "(Lcom/example/firm_handshake/firmhandshake/model/Action;ILcom/example/firm_handshake/firmhandshake/model/Transition$Continuation;I)V"), (12, .class_ 85), (0, u "com/example/firm_handshake/firmhandshake/model/Transition$Continuation")] 2

def k2c0 : Code := { maxStack := 2, maxLocals := 5, code := prog_157_method_1_code, exceptionTable := #[], attributes := #[] }
def k2m0 : Method := { name := "<init>", desc := "(Lcom/example/firm_handshake/firmhandshake/model/Action;ILcom/example/firm_handshake/firmhandshake/model/Transition$Continuation;I)V", sig := { parameters := [(.object "com/example/firm_handshake/firmhandshake/model/Action"), .int, (.object "com/example/firm_handshake/firmhandshake/model/Transition$Continuation"), .int], returnType := none }, accessFlags := 1, code := some k2c0 }
/-- com/example/firm_handshake/firmhandshake/model/Transition -/
def k2 : Class := { plain "com/example/firm_handshake/firmhandshake/model/Transition" (some 0) with
  accessFlags := 33
  interfaces := #[]
  cf := some (fileOf pool2 8 #[.nestMembers #[84]] #[{ accessFlags := 1, nameIndex := 5, descriptorIndex := 71, attributes := #[] }] 33 2 #[] #[{ accessFlags := 25, nameIndex := 66, descriptorIndex := 67, attributes := #[] }, { accessFlags := 25, nameIndex := 69, descriptorIndex := 16, attributes := #[] }, { accessFlags := 18, nameIndex := 11, descriptorIndex := 12, attributes := #[] }, { accessFlags := 18, nameIndex := 15, descriptorIndex := 16, attributes := #[] }, { accessFlags := 18, nameIndex := 19, descriptorIndex := 20, attributes := #[] }, { accessFlags := 18, nameIndex := 23, descriptorIndex := 16, attributes := #[] }])
  fields := #[{ name := "RENDEZVOUS_IN_D_STEP", type := (.object "java/lang/String"), accessFlags := 25, slot := 0, constantValue := 0 }, { name := "NO_D_STEP", type := .int, accessFlags := 25, slot := 1, constantValue := 0 }, { name := "action", type := (.object "com/example/firm_handshake/firmhandshake/model/Action"), accessFlags := 18, slot := 0, constantValue := 0 }, { name := "target", type := .int, accessFlags := 18, slot := 1, constantValue := 0 }, { name := "continuation", type := (.object "com/example/firm_handshake/firmhandshake/model/Transition$Continuation"), accessFlags := 18, slot := 2, constantValue := 0 }, { name := "dStep", type := .int, accessFlags := 18, slot := 3, constantValue := 0 }]
  methods := #[k2m0]
  instanceTypes := #[(.object "com/example/firm_handshake/firmhandshake/model/Action"), .int, (.object "com/example/firm_handshake/firmhandshake/model/Transition$Continuation"), .int]
  staticTypes := #[(.object "java/lang/String"), .int]
  resolved := Array.replicate 88 none
  statics := none }

def pool3 : Array CpInfo := pool [(8, .class_ 10), (1, u "java/lang/Iterable"), (24, .class_ 36), (0, u "java/lang/Object")] 25

/-- java/lang/Iterable -/
def k3 : Class := { plain "java/lang/Iterable" (some 0) with
  accessFlags := 1537
  interfaces := #[]
  cf := some (fileOf pool3 8 #[] #[] 1537 35 #[] #[])
  fields := #[]
  methods := #[]
  instanceTypes := #[]
  staticTypes := #[]
  resolved := Array.replicate 62 none
  statics := none }

def pool4 : Array CpInfo := pool [(10, .class_ 12), (1, u "java/util/Collection"), (0, u "toArray"), (16, u "()Z"), (29, .class_ 61), (0, u "java/lang/Object"), (0, .class_ 63), (0, u "java/lang/Iterable"), (2, u "isEmpty"), (3, u "()[Ljava/lang/Object;")] 44

def k4m0 : Method := { name := "isEmpty", desc := "()Z", sig := { parameters := [], returnType := some .boolean }, accessFlags := 1025, code := none }
def k4m1 : Method := { name := "toArray", desc := "()[Ljava/lang/Object;", sig := { parameters := [], returnType := some (.array (.object "java/lang/Object")) }, accessFlags := 1025, code := none }
/-- java/util/Collection -/
def k4 : Class := { plain "java/util/Collection" (some 0) with
  accessFlags := 1537
  interfaces := #[3]
  cf := some (fileOf pool4 10 #[] #[{ accessFlags := 1025, nameIndex := 66, descriptorIndex := 30, attributes := #[] }, { accessFlags := 1025, nameIndex := 13, descriptorIndex := 70, attributes := #[] }] 1537 60 #[62] #[])
  fields := #[]
  methods := #[k4m0, k4m1]
  instanceTypes := #[]
  staticTypes := #[]
  resolved := Array.replicate 115 none
  statics := none }

def pool5 : Array CpInfo := pool [(1, .methodref 2 3), (0, .class_ 4), (0, .nameAndType 5 6), (0, u "java/lang/Object"), (0, u "<init>"), (0, u "()V"), (1, .class_ 10), (1, u "java/util/AbstractCollection"), (0, u "size"), (0, u "()I"), (64, .class_ 78), (0, u "java/util/Collection")] 81

def k5c0 : Code := { maxStack := 1, maxLocals := 1, code := jdk_22_method_1_code, exceptionTable := #[], attributes := #[] }
def k5m0 : Method := { name := "<init>", desc := "()V", sig := { parameters := [], returnType := none }, accessFlags := 4, code := some k5c0 }
def k5m1 : Method := { name := "size", desc := "()I", sig := { parameters := [], returnType := some .int }, accessFlags := 1025, code := none }
/-- java/util/AbstractCollection -/
def k5 : Class := { plain "java/util/AbstractCollection" (some 0) with
  accessFlags := 1057
  interfaces := #[4]
  cf := some (fileOf pool5 8 #[] #[{ accessFlags := 4, nameIndex := 5, descriptorIndex := 6, attributes := #[] }, { accessFlags := 1025, nameIndex := 11, descriptorIndex := 12, attributes := #[] }] 1057 2 #[77] #[])
  fields := #[]
  methods := #[k5m0, k5m1]
  instanceTypes := #[]
  staticTypes := #[]
  resolved := Array.replicate 160 none
  statics := none }

def pool6 : Array CpInfo := pool [(8, .class_ 10), (1, u "java/util/SequencedCollection"), (15, .class_ 27), (0, u "java/lang/Object"), (0, .class_ 29), (0, u "java/util/Collection")] 27

/-- java/util/SequencedCollection -/
def k6 : Class := { plain "java/util/SequencedCollection" (some 0) with
  accessFlags := 1537
  interfaces := #[4]
  cf := some (fileOf pool6 8 #[] #[] 1537 26 #[28] #[])
  fields := #[]
  methods := #[]
  instanceTypes := #[]
  staticTypes := #[]
  resolved := Array.replicate 57 none
  statics := none }

def pool7 : Array CpInfo := pool [(8, .class_ 10), (1, u "java/util/List"), (20, u "(Ljava/lang/Object;)V"), (16, u "<init>"), (11, u "add"), (3, u "(Ljava/lang/Object;)Z"), (10, u "get"), (0, u "(I)Ljava/lang/Object;"), (2, u "size"), (0, u "()I"), (7, u "of"), (1, .fieldref 91 92), (0, .class_ 93), (0, .nameAndType 94 95), (0, u "java/util/ImmutableCollections"), (0, u "EMPTY_LIST"), (0, u "Ljava/util/ImmutableCollections$ListN;"), (0, .class_ 97), (0, u "java/util/ImmutableCollections$List12"), (0, .methodref 96 99), (0, .nameAndType 48 31), (0, .methodref 96 101), (0, .nameAndType 48 102), (0, u "(Ljava/lang/Object;Ljava/lang/Object;)V"), (0, .class_ 104), (0, u "java/lang/Object"), (3, u "([Ljava/lang/Object;)Ljava/util/List;"), (0, .methodref 91 110), (0, .nameAndType 111 108), (0, u "listFromArray"), (0, .methodref 91 113), (0, .nameAndType 114 115), (0, u "listCopy"), (0, u "(Ljava/util/Collection;)Ljava/util/List;"), (3, u "()Ljava/util/List;"), (0, .class_ 121), (0, u "java/util/SequencedCollection"), (60, u "subList"), (0, u "(II)Ljava/util/List;"), (50, u "copyOf")] 16

def k7m0 : Method := { name := "size", desc := "()I", sig := { parameters := [], returnType := some .int }, accessFlags := 1025, code := none }
def k7m1 : Method := { name := "add", desc := "(Ljava/lang/Object;)Z", sig := { parameters := [(.object "java/lang/Object")], returnType := some .boolean }, accessFlags := 1025, code := none }
def k7m2 : Method := { name := "get", desc := "(I)Ljava/lang/Object;", sig := { parameters := [.int], returnType := some (.object "java/lang/Object") }, accessFlags := 1025, code := none }
def k7m3 : Method := { name := "subList", desc := "(II)Ljava/util/List;", sig := { parameters := [.int, .int], returnType := some (.object "java/util/List") }, accessFlags := 1025, code := none }
def k7c4 : Code := { maxStack := 1, maxLocals := 0, code := jdk_40_method_36_code, exceptionTable := #[], attributes := #[] }
def k7m4 : Method := { name := "of", desc := "()Ljava/util/List;", sig := { parameters := [], returnType := some (.object "java/util/List") }, accessFlags := 9, code := some k7c4 }
def k7c5 : Code := { maxStack := 5, maxLocals := 2, code := jdk_40_method_47_code, exceptionTable := #[], attributes := #[] }
def k7m5 : Method := { name := "of", desc := "([Ljava/lang/Object;)Ljava/util/List;", sig := { parameters := [(.array (.object "java/lang/Object"))], returnType := some (.object "java/util/List") }, accessFlags := 137, code := some k7c5 }
def k7c6 : Code := { maxStack := 1, maxLocals := 1, code := jdk_40_method_48_code, exceptionTable := #[], attributes := #[] }
def k7m6 : Method := { name := "copyOf", desc := "(Ljava/util/Collection;)Ljava/util/List;", sig := { parameters := [(.object "java/util/Collection")], returnType := some (.object "java/util/List") }, accessFlags := 9, code := some k7c6 }
/-- java/util/List -/
def k7 : Class := { plain "java/util/List" (some 0) with
  accessFlags := 1537
  interfaces := #[6]
  cf := some (fileOf pool7 8 #[] #[{ accessFlags := 1025, nameIndex := 79, descriptorIndex := 80, attributes := #[] }, { accessFlags := 1025, nameIndex := 60, descriptorIndex := 64, attributes := #[] }, { accessFlags := 1025, nameIndex := 75, descriptorIndex := 76, attributes := #[] }, { accessFlags := 1025, nameIndex := 182, descriptorIndex := 183, attributes := #[] }, { accessFlags := 9, nameIndex := 88, descriptorIndex := 119, attributes := #[] }, { accessFlags := 137, nameIndex := 88, descriptorIndex := 108, attributes := #[] }, { accessFlags := 9, nameIndex := 234, descriptorIndex := 115, attributes := #[] }] 1537 103 #[120] #[])
  fields := #[]
  methods := #[k7m0, k7m1, k7m2, k7m3, k7m4, k7m5, k7m6]
  instanceTypes := #[]
  staticTypes := #[]
  resolved := Array.replicate 251 none
  statics := none }

def pool8 : Array CpInfo := pool [(1, .methodref 2 3), (0, .class_ 4), (0, .nameAndType 5 6), (0, u "java/util/AbstractCollection"), (0, u "<init>"), (0, u "()V"), (0, .fieldref 8 9), (0, .class_ 10), (0, .nameAndType 11 12), (0, u "java/util/AbstractList"), (0, u "modCount"), (0, u "I"), (64, .class_ 78), (0, u "java/util/AbstractList$Itr"), (3, .class_ 83), (0, u "java/util/AbstractList$ListItr"), (9, .class_ 94), (0, u "java/util/AbstractList$RandomAccessSubList"), (3, .class_ 99), (0, u "java/util/AbstractList$SubList"), (33, .class_ 134), (0, u "java/util/List"), (73, .class_ 209), (0, u "java/util/AbstractList$SubList$1"), (0, .class_ 211), (0, u "java/util/AbstractList$RandomAccessSpliterator")] 6

def k8c0 : Code := { maxStack := 2, maxLocals := 1, code := jdk_39_method_1_code, exceptionTable := #[], attributes := #[] }
def k8m0 : Method := { name := "<init>", desc := "()V", sig := { parameters := [], returnType := none }, accessFlags := 4, code := some k8c0 }
/-- java/util/AbstractList -/
def k8 : Class := { plain "java/util/AbstractList" (some 5) with
  accessFlags := 1057
  interfaces := #[7]
  cf := some (fileOf pool8 8 #[.nestMembers #[93, 98, 208, 210, 82, 77]] #[{ accessFlags := 4, nameIndex := 5, descriptorIndex := 6, attributes := #[] }] 1057 2 #[133] #[{ accessFlags := 132, nameIndex := 11, descriptorIndex := 12, attributes := #[] }])
  fields := #[{ name := "modCount", type := .int, accessFlags := 132, slot := 0, constantValue := 0 }]
  methods := #[k8m0]
  instanceTypes := #[.int]
  staticTypes := #[]
  resolved := Array.replicate 218 none
  statics := none }

def pool9 : Array CpInfo := pool [(1, .class_ 2), (0, u "java/util/RandomAccess"), (0, .class_ 4), (0, u "java/lang/Object")] 2

/-- java/util/RandomAccess -/
def k9 : Class := { plain "java/util/RandomAccess" (some 0) with
  accessFlags := 1537
  interfaces := #[]
  cf := some (fileOf pool9 1 #[] #[] 1537 3 #[] #[])
  fields := #[]
  methods := #[]
  instanceTypes := #[]
  staticTypes := #[]
  resolved := Array.replicate 7 none
  statics := none }

def pool10 : Array CpInfo := pool [(1, .class_ 2), (0, u "java/lang/Cloneable"), (0, .class_ 4), (0, u "java/lang/Object")] 2

/-- java/lang/Cloneable -/
def k10 : Class := { plain "java/lang/Cloneable" (some 0) with
  accessFlags := 1537
  interfaces := #[]
  cf := some (fileOf pool10 1 #[] #[] 1537 3 #[] #[])
  fields := #[]
  methods := #[]
  instanceTypes := #[]
  staticTypes := #[]
  resolved := Array.replicate 7 none
  statics := none }

def pool11 : Array CpInfo := pool [(1, .class_ 2), (0, u "java/io/Serializable"), (0, .class_ 4), (0, u "java/lang/Object")] 2

/-- java/io/Serializable -/
def k11 : Class := { plain "java/io/Serializable" (some 0) with
  accessFlags := 1537
  interfaces := #[]
  cf := some (fileOf pool11 1 #[] #[] 1537 3 #[] #[])
  fields := #[]
  methods := #[]
  instanceTypes := #[]
  staticTypes := #[]
  resolved := Array.replicate 7 none
  statics := none }

def pool12 : Array CpInfo := pool [(1, .methodref 2 3), (0, .class_ 4), (0, .nameAndType 5 6), (0, u "java/util/AbstractList"), (0, u "<init>"), (0, u "()V"), (0, .class_ 8), (0, u "java/lang/Object"), (0, .fieldref 10 11), (0, .class_ 12), (0, .nameAndType 13 14), (0, u "java/util/ArrayList"), (0, u "elementData"), (0, u "[Ljava/lang/Object;"), (2, u "EMPTY_ELEMENTDATA"), (21, .fieldref 10 40), (0, .nameAndType 41 14), (0, u "DEFAULTCAPACITY_EMPTY_ELEMENTDATA"), (4, u "toArray"), (0, u "()[Ljava/lang/Object;"), (0, .fieldref 10 49), (0, .nameAndType 50 51), (0, u "size"), (0, u "I"), (6, .class_ 60), (1, u "java/util/Arrays"), (0, u "copyOf"), (1, .fieldref 10 64), (0, .nameAndType 65 51), (0, u "modCount"), (0, .methodref 58 67), (0, .nameAndType 61 68), (0, u "([Ljava/lang/Object;I)[Ljava/lang/Object;"), (0, .methodref 10 70), (0, .nameAndType 71 72), (0, u "grow"), (0, u "(I)[Ljava/lang/Object;"), (6, .methodref 80 81), (0, .class_ 82), (0, .nameAndType 83 84), (0, u "java/lang/Math"), (0, u "max"), (0, u "(II)I"), (11, u "(Ljava/lang/Object;)Z"), (21, .methodref 119 120), (0, .class_ 121), (0, .nameAndType 122 84), (0, u "java/util/Objects"), (0, u "checkIndex"), (0, .methodref 10 124), (0, .nameAndType 13 125), (0, u "(I)Ljava/lang/Object;"), (3, .methodref 10 130), (0, .nameAndType 71 47), (0, .methodref 10 132), (0, .nameAndType 133 134), (0, u "add"), (0, u "(Ljava/lang/Object;[Ljava/lang/Object;I)V"), (13, .class_ 149), (0, u "java/util/List"), (23, u "()Z"), (12, u "()I"), (75, .class_ 263), (0, u "java/util/ArrayList$ListItr"), (3, .class_ 268), (0, u "java/util/ArrayList$Itr"), (7, .class_ 277), (0, u "java/util/ArrayList$SubList"), (12, .class_ 291), (0, u "java/util/ArrayList$ArrayListSpliterator"), (37, .class_ 330), (0, u "java/util/RandomAccess"), (0, .class_ 332), (0, u "java/lang/Cloneable"), (0, .class_ 334), (0, u "java/io/Serializable"), (0, u "serialVersionUID"), (0, u "J"), (3, u "DEFAULT_CAPACITY"), (22, u "isEmpty"), (17, u "get"), (118, .class_ 501), (0, u "java/util/ArrayList$SubList$2"), (0, .class_ 503), (0, u "java/util/ArrayList$SubList$1")] 5

def k12c0 : Code := { maxStack := 2, maxLocals := 1, code := jdk_38_method_2_code, exceptionTable := #[], attributes := #[] }
def k12m0 : Method := { name := "<init>", desc := "()V", sig := { parameters := [], returnType := none }, accessFlags := 1, code := some k12c0 }
def k12c1 : Code := { maxStack := 4, maxLocals := 4, code := jdk_38_method_6_code, exceptionTable := #[], attributes := #[] }
def k12m1 : Method := { name := "grow", desc := "(I)[Ljava/lang/Object;", sig := { parameters := [.int], returnType := some (.array (.object "java/lang/Object")) }, accessFlags := 2, code := some k12c1 }
def k12c2 : Code := { maxStack := 3, maxLocals := 1, code := jdk_38_method_7_code, exceptionTable := #[], attributes := #[] }
def k12m2 : Method := { name := "grow", desc := "()[Ljava/lang/Object;", sig := { parameters := [], returnType := some (.array (.object "java/lang/Object")) }, accessFlags := 2, code := some k12c2 }
def k12c3 : Code := { maxStack := 1, maxLocals := 1, code := jdk_38_method_8_code, exceptionTable := #[], attributes := #[] }
def k12m3 : Method := { name := "size", desc := "()I", sig := { parameters := [], returnType := some .int }, accessFlags := 1, code := some k12c3 }
def k12c4 : Code := { maxStack := 1, maxLocals := 1, code := jdk_38_method_9_code, exceptionTable := #[], attributes := #[] }
def k12m4 : Method := { name := "isEmpty", desc := "()Z", sig := { parameters := [], returnType := some .boolean }, accessFlags := 1, code := some k12c4 }
def k12c5 : Code := { maxStack := 2, maxLocals := 1, code := jdk_38_method_16_code, exceptionTable := #[], attributes := #[] }
def k12m5 : Method := { name := "toArray", desc := "()[Ljava/lang/Object;", sig := { parameters := [], returnType := some (.array (.object "java/lang/Object")) }, accessFlags := 1, code := some k12c5 }
def k12c6 : Code := { maxStack := 2, maxLocals := 2, code := jdk_38_method_18_code, exceptionTable := #[], attributes := #[] }
def k12m6 : Method := { name := "elementData", desc := "(I)Ljava/lang/Object;", sig := { parameters := [.int], returnType := some (.object "java/lang/Object") }, accessFlags := 0, code := some k12c6 }
def k12c7 : Code := { maxStack := 2, maxLocals := 2, code := jdk_38_method_20_code, exceptionTable := #[], attributes := #[] }
def k12m7 : Method := { name := "get", desc := "(I)Ljava/lang/Object;", sig := { parameters := [.int], returnType := some (.object "java/lang/Object") }, accessFlags := 1, code := some k12c7 }
def k12c8 : Code := { maxStack := 3, maxLocals := 4, code := jdk_38_method_24_code, exceptionTable := #[], attributes := #[] }
def k12m8 : Method := { name := "add", desc := "(Ljava/lang/Object;[Ljava/lang/Object;I)V", sig := { parameters := [(.object "java/lang/Object"), (.array (.object "java/lang/Object")), .int], returnType := none }, accessFlags := 2, code := some k12c8 }
def k12c9 : Code := { maxStack := 4, maxLocals := 2, code := jdk_38_method_25_code, exceptionTable := #[], attributes := #[] }
def k12m9 : Method := { name := "add", desc := "(Ljava/lang/Object;)Z", sig := { parameters := [(.object "java/lang/Object")], returnType := some .boolean }, accessFlags := 1, code := some k12c9 }
/-- java/util/ArrayList -/
def k12 : Class := { plain "java/util/ArrayList" (some 8) with
  accessFlags := 33
  interfaces := #[7, 9, 10, 11]
  cf := some (fileOf pool12 10 #[.nestMembers #[290, 276, 500, 502, 262, 267]] #[{ accessFlags := 1, nameIndex := 5, descriptorIndex := 6, attributes := #[] }, { accessFlags := 2, nameIndex := 71, descriptorIndex := 72, attributes := #[] }, { accessFlags := 2, nameIndex := 71, descriptorIndex := 47, attributes := #[] }, { accessFlags := 1, nameIndex := 50, descriptorIndex := 186, attributes := #[] }, { accessFlags := 1, nameIndex := 363, descriptorIndex := 173, attributes := #[] }, { accessFlags := 1, nameIndex := 46, descriptorIndex := 47, attributes := #[] }, { accessFlags := 0, nameIndex := 13, descriptorIndex := 125, attributes := #[] }, { accessFlags := 1, nameIndex := 381, descriptorIndex := 125, attributes := #[] }, { accessFlags := 2, nameIndex := 133, descriptorIndex := 134, attributes := #[] }, { accessFlags := 1, nameIndex := 133, descriptorIndex := 96, attributes := #[] }] 33 2 #[148, 329, 331, 333] #[{ accessFlags := 26, nameIndex := 335, descriptorIndex := 336, attributes := #[] }, { accessFlags := 26, nameIndex := 340, descriptorIndex := 51, attributes := #[] }, { accessFlags := 26, nameIndex := 17, descriptorIndex := 14, attributes := #[] }, { accessFlags := 26, nameIndex := 41, descriptorIndex := 14, attributes := #[] }, { accessFlags := 128, nameIndex := 13, descriptorIndex := 14, attributes := #[] }, { accessFlags := 2, nameIndex := 50, descriptorIndex := 51, attributes := #[] }])
  fields := #[{ name := "serialVersionUID", type := .long, accessFlags := 26, slot := 0, constantValue := 0 }, { name := "DEFAULT_CAPACITY", type := .int, accessFlags := 26, slot := 1, constantValue := 0 }, { name := "EMPTY_ELEMENTDATA", type := (.array (.object "java/lang/Object")), accessFlags := 26, slot := 2, constantValue := 0 }, { name := "DEFAULTCAPACITY_EMPTY_ELEMENTDATA", type := (.array (.object "java/lang/Object")), accessFlags := 26, slot := 3, constantValue := 0 }, { name := "elementData", type := (.array (.object "java/lang/Object")), accessFlags := 128, slot := 1, constantValue := 0 }, { name := "size", type := .int, accessFlags := 2, slot := 2, constantValue := 0 }]
  methods := #[k12m0, k12m1, k12m2, k12m3, k12m4, k12m5, k12m6, k12m7, k12m8, k12m9]
  instanceTypes := #[.int, (.array (.object "java/lang/Object")), .int]
  staticTypes := #[.long, .int, (.array (.object "java/lang/Object")), (.array (.object "java/lang/Object"))]
  resolved := Array.replicate 509 none
  statics := some 0 }

def pool13 : Array CpInfo := pool [(1, .methodref 2 3), (0, .class_ 4), (0, .nameAndType 5 6), (0, u "java/lang/Object"), (0, u "<init>"), (0, u "()V"), (0, .fieldref 8 9), (0, .class_ 10), (0, .nameAndType 11 12), (0, u "com/example/firm_handshake/firmhandshake/model/Location$Move"), (0, u "transition"), (0, u "Lcom/example/firm_handshake/firmhandshake/model/Transition;"), (0, .interfaceMethodref 14 15), (0, .class_ 16), (0, .nameAndType 17 18), (0, u "java/util/List"), (0, u "size"), (0, u "()I"), (0, .fieldref 8 20), (0, .nameAndType 21 22), (0, u "outrankedBy"), (0, u "[I"), (0, .interfaceMethodref 14 24), (0, .nameAndType 25 26), (0, u "get"), (0, u "(I)Ljava/lang/Object;"), (0, .class_ 28), (0, u "java/lang/Integer"), (0, .methodref 27 30), (0, .nameAndType 31 18), (0, u "intValue"), (0, u "(Lcom/example/firm_handshake/firmhandshake/model/Transition;Ljava/util/List;)V"), (11, .class_ 45), (0, u "com/example/firm_handshake/firmhandshake/model/Location")] 2

def k13c0 : Code := { maxStack := 4, maxLocals := 4, code := prog_119_method_1_code, exceptionTable := #[], attributes := #[] }
def k13m0 : Method := { name := "<init>", desc := "(Lcom/example/firm_handshake/firmhandshake/model/Transition;Ljava/util/List;)V", sig := { parameters := [(.object "com/example/firm_handshake/firmhandshake/model/Transition"), (.object "java/util/List")], returnType := none }, accessFlags := 1, code := some k13c0 }
/-- com/example/firm_handshake/firmhandshake/model/Location$Move -/
def k13 : Class := { plain "com/example/firm_handshake/firmhandshake/model/Location$Move" (some 0) with
  accessFlags := 33
  interfaces := #[]
  cf := some (fileOf pool13 8 #[.nestHost 44] #[{ accessFlags := 1, nameIndex := 5, descriptorIndex := 32, attributes := #[] }] 33 2 #[] #[{ accessFlags := 18, nameIndex := 11, descriptorIndex := 12, attributes := #[] }, { accessFlags := 18, nameIndex := 21, descriptorIndex := 22, attributes := #[] }])
  fields := #[{ name := "transition", type := (.object "com/example/firm_handshake/firmhandshake/model/Transition"), accessFlags := 18, slot := 0, constantValue := 0 }, { name := "outrankedBy", type := (.array .int), accessFlags := 18, slot := 1, constantValue := 0 }]
  methods := #[k13m0]
  instanceTypes := #[(.object "com/example/firm_handshake/firmhandshake/model/Transition"), (.array .int)]
  staticTypes := #[]
  resolved := Array.replicate 48 none
  statics := none }

def pool14 : Array CpInfo := pool [(1, .class_ 2), (0, u "java/lang/Math"), (1, .class_ 6), (1, u "java/lang/Object"), (0, u "<init>"), (0, u "()V"), (89, .class_ 100), (1, u "java/lang/Math$RandomNumberGeneratorHolder"), (71, u "negativeZeroFloatBits"), (0, u "J"), (2, u "negativeZeroDoubleBits"), (21, u "max"), (2, u "min"), (43, u "$assertionsDisabled"), (0, u "Z"), (88, u "(II)I"), (2, u "twoToTheDoubleScaleDown"), (0, u "D"), (4, u "twoToTheDoubleScaleUp"), (9, u "E"), (3, u "PI"), (2, u "TAU"), (2, u "DEGREES_TO_RADIANS"), (0, u "RADIANS_TO_DEGREES")] 94

def k14m0 : Method := { name := "<init>", desc := "()V", sig := { parameters := [], returnType := none }, accessFlags := 2, code := none }
def k14c1 : Code := { maxStack := 2, maxLocals := 2, code := jdk_29_method_65_code, exceptionTable := #[], attributes := #[] }
def k14m1 : Method := { name := "max", desc := "(II)I", sig := { parameters := [.int, .int], returnType := some .int }, accessFlags := 9, code := some k14c1 }
def k14c2 : Code := { maxStack := 2, maxLocals := 2, code := jdk_29_method_69_code, exceptionTable := #[], attributes := #[] }
def k14m2 : Method := { name := "min", desc := "(II)I", sig := { parameters := [.int, .int], returnType := some .int }, accessFlags := 9, code := some k14c2 }
/-- java/lang/Math -/
def k14 : Class := { plain "java/lang/Math" (some 0) with
  accessFlags := 49
  interfaces := #[]
  cf := some (fileOf pool14 1 #[.nestMembers #[98]] #[{ accessFlags := 2, nameIndex := 7, descriptorIndex := 8, attributes := #[] }, { accessFlags := 9, nameIndex := 198, descriptorIndex := 335, attributes := #[] }, { accessFlags := 9, nameIndex := 201, descriptorIndex := 335, attributes := #[] }] 49 4 #[] #[{ accessFlags := 25, nameIndex := 354, descriptorIndex := 339, attributes := #[] }, { accessFlags := 25, nameIndex := 358, descriptorIndex := 339, attributes := #[] }, { accessFlags := 25, nameIndex := 361, descriptorIndex := 339, attributes := #[] }, { accessFlags := 26, nameIndex := 364, descriptorIndex := 339, attributes := #[] }, { accessFlags := 26, nameIndex := 365, descriptorIndex := 339, attributes := #[] }, { accessFlags := 26, nameIndex := 172, descriptorIndex := 173, attributes := #[] }, { accessFlags := 26, nameIndex := 176, descriptorIndex := 173, attributes := #[] }, { accessFlags := 8, nameIndex := 344, descriptorIndex := 339, attributes := #[] }, { accessFlags := 8, nameIndex := 338, descriptorIndex := 339, attributes := #[] }, { accessFlags := 4120, nameIndex := 245, descriptorIndex := 246, attributes := #[] }])
  fields := #[{ name := "E", type := .double, accessFlags := 25, slot := 0, constantValue := 0 }, { name := "PI", type := .double, accessFlags := 25, slot := 1, constantValue := 0 }, { name := "TAU", type := .double, accessFlags := 25, slot := 2, constantValue := 0 }, { name := "DEGREES_TO_RADIANS", type := .double, accessFlags := 26, slot := 3, constantValue := 0 }, { name := "RADIANS_TO_DEGREES", type := .double, accessFlags := 26, slot := 4, constantValue := 0 }, { name := "negativeZeroFloatBits", type := .long, accessFlags := 26, slot := 5, constantValue := 0 }, { name := "negativeZeroDoubleBits", type := .long, accessFlags := 26, slot := 6, constantValue := 0 }, { name := "twoToTheDoubleScaleUp", type := .double, accessFlags := 8, slot := 7, constantValue := 0 }, { name := "twoToTheDoubleScaleDown", type := .double, accessFlags := 8, slot := 8, constantValue := 0 }, { name := "$assertionsDisabled", type := .boolean, accessFlags := 4120, slot := 9, constantValue := 0 }]
  methods := #[k14m0, k14m1, k14m2]
  instanceTypes := #[]
  staticTypes := #[.double, .double, .double, .double, .double, .long, .long, .double, .double, .boolean]
  resolved := Array.replicate 460 none
  statics := none }

def pool15 : Array CpInfo := pool [(1, .methodref 2 3), (0, .class_ 4), (0, .nameAndType 5 6), (0, u "java/lang/Object"), (0, u "<init>"), (0, u "()V"), (0, .class_ 8), (0, u "java/util/ArrayList"), (0, .methodref 7 3), (0, .interfaceMethodref 11 12), (0, .class_ 13), (0, .nameAndType 14 15), (0, u "java/util/List"), (0, u "size"), (0, u "()I"), (0, .class_ 17), (0, u "[I"), (0, .fieldref 19 20), (0, .class_ 21), (0, .nameAndType 22 23), (0, u "com/example/firm_handshake/firmhandshake/model/Location"), (0, u "outranking"), (0, u "[[I"), (0, .interfaceMethodref 11 25), (0, .nameAndType 26 27), (0, u "get"), (0, u "(I)Ljava/lang/Object;"), (0, .class_ 29), (0, u "com/example/firm_handshake/firmhandshake/model/Location$Move"), (0, .fieldref 28 31), (0, .nameAndType 32 33), (0, u "transition"), (0, u "Lcom/example/firm_handshake/firmhandshake/model/Transition;"), (0, .interfaceMethodref 11 35), (0, .nameAndType 36 37), (0, u "add"), (0, u "(Ljava/lang/Object;)Z"), (0, .fieldref 28 39), (0, .nameAndType 40 17), (0, u "outrankedBy"), (0, .class_ 42), (0, u "com/example/firm_handshake/firmhandshake/model/Transition"), (0, .interfaceMethodref 11 44), (0, .nameAndType 45 46), (0, u "copyOf"), (0, u "(Ljava/util/Collection;)Ljava/util/List;"), (0, .fieldref 19 48), (0, .nameAndType 49 50), (0, u "transitions"), (0, u "Ljava/util/List;"), (0, .interfaceMethodref 11 52), (0, .nameAndType 53 54), (0, u "subList"), (0, u "(II)Ljava/util/List;"), (0, .fieldref 19 56), (0, .nameAndType 57 50), (0, u "ownTransitions"), (0, .fieldref 19 59), (0, .nameAndType 60 61), (0, u "line"), (0, u "I"), (0, .fieldref 19 63), (0, .nameAndType 64 65), (0, u "end"), (0, u "Z"), (0, .fieldref 19 67), (0, .nameAndType 68 50), (0, u "labels"), (0, .fieldref 19 70), (0, .nameAndType 71 50), (0, u "counting"), (63, u "END"), (0, u "Ljava/lang/String;"), (1, u "ACCEPT"), (0, u "PROGRESS"), (3, u "(Ljava/util/List;Ljava/util/List;IZLjava/util/List;)V"), (12, u "ranksAbove"), (0, u "(II)Z")] 32

def k15c0 : Code := { maxStack := 4, maxLocals := 9, code := prog_118_method_1_code, exceptionTable := #[], attributes := #[] }
def k15m0 : Method := { name := "<init>", desc := "(Ljava/util/List;Ljava/util/List;IZLjava/util/List;)V", sig := { parameters := [(.object "java/util/List"), (.object "java/util/List"), .int, .boolean, (.object "java/util/List")], returnType := none }, accessFlags := 1, code := some k15c0 }
def k15c1 : Code := { maxStack := 2, maxLocals := 7, code := prog_118_method_7_code, exceptionTable := #[], attributes := #[] }
def k15m1 : Method := { name := "ranksAbove", desc := "(II)Z", sig := { parameters := [.int, .int], returnType := some .boolean }, accessFlags := 0, code := some k15c1 }
/-- com/example/firm_handshake/firmhandshake/model/Location -/
def k15 : Class := { plain "com/example/firm_handshake/firmhandshake/model/Location" (some 0) with
  accessFlags := 33
  interfaces := #[]
  cf := some (fileOf pool15 19 #[.nestMembers #[28]] #[{ accessFlags := 1, nameIndex := 5, descriptorIndex := 143, attributes := #[] }, { accessFlags := 0, nameIndex := 156, descriptorIndex := 157, attributes := #[] }] 33 2 #[] #[{ accessFlags := 26, nameIndex := 135, descriptorIndex := 136, attributes := #[] }, { accessFlags := 26, nameIndex := 138, descriptorIndex := 136, attributes := #[] }, { accessFlags := 26, nameIndex := 139, descriptorIndex := 136, attributes := #[] }, { accessFlags := 18, nameIndex := 49, descriptorIndex := 50, attributes := #[] }, { accessFlags := 18, nameIndex := 57, descriptorIndex := 50, attributes := #[] }, { accessFlags := 18, nameIndex := 22, descriptorIndex := 23, attributes := #[] }, { accessFlags := 18, nameIndex := 60, descriptorIndex := 61, attributes := #[] }, { accessFlags := 18, nameIndex := 64, descriptorIndex := 65, attributes := #[] }, { accessFlags := 18, nameIndex := 68, descriptorIndex := 50, attributes := #[] }, { accessFlags := 18, nameIndex := 71, descriptorIndex := 50, attributes := #[] }])
  fields := #[{ name := "END", type := (.object "java/lang/String"), accessFlags := 26, slot := 0, constantValue := 0 }, { name := "ACCEPT", type := (.object "java/lang/String"), accessFlags := 26, slot := 1, constantValue := 0 }, { name := "PROGRESS", type := (.object "java/lang/String"), accessFlags := 26, slot := 2, constantValue := 0 }, { name := "transitions", type := (.object "java/util/List"), accessFlags := 18, slot := 0, constantValue := 0 }, { name := "ownTransitions", type := (.object "java/util/List"), accessFlags := 18, slot := 1, constantValue := 0 }, { name := "outranking", type := (.array (.array .int)), accessFlags := 18, slot := 2, constantValue := 0 }, { name := "line", type := .int, accessFlags := 18, slot := 3, constantValue := 0 }, { name := "end", type := .boolean, accessFlags := 18, slot := 4, constantValue := 0 }, { name := "labels", type := (.object "java/util/List"), accessFlags := 18, slot := 5, constantValue := 0 }, { name := "counting", type := (.object "java/util/List"), accessFlags := 18, slot := 6, constantValue := 0 }]
  methods := #[k15m0, k15m1]
  instanceTypes := #[(.object "java/util/List"), (.object "java/util/List"), (.array (.array .int)), .int, .boolean, (.object "java/util/List"), (.object "java/util/List")]
  staticTypes := #[(.object "java/lang/String"), (.object "java/lang/String"), (.object "java/lang/String")]
  resolved := ((Array.replicate 190 none).setIfInBounds 30 (some (.field 13 0))).setIfInBounds 38 (some (.field 13 1))
  statics := none }

def pool16 : Array CpInfo := pool [(2, .class_ 4), (1, u "java/lang/Object"), (0, u "<init>"), (0, u "()V"), (35, .class_ 44), (1, u "java/util/Objects"), (0, u "requireNonNull"), (0, u "(Ljava/lang/Object;)Ljava/lang/Object;"), (58, .methodref 106 107), (0, .class_ 108), (0, .nameAndType 109 110), (0, u "jdk/internal/util/Preconditions"), (0, u "checkIndex"), (0, u "(IILjava/util/function/BiFunction;)I"), (60, u "(II)I")] 12

def k16m0 : Method := { name := "<init>", desc := "()V", sig := { parameters := [], returnType := none }, accessFlags := 2, code := none }
def k16c1 : Code := { maxStack := 2, maxLocals := 1, code := jdk_31_method_10_code, exceptionTable := #[], attributes := #[] }
def k16m1 : Method := { name := "requireNonNull", desc := "(Ljava/lang/Object;)Ljava/lang/Object;", sig := { parameters := [(.object "java/lang/Object")], returnType := some (.object "java/lang/Object") }, accessFlags := 9, code := some k16c1 }
def k16c2 : Code := { maxStack := 3, maxLocals := 2, code := jdk_31_method_17_code, exceptionTable := #[], attributes := #[] }
def k16m2 : Method := { name := "checkIndex", desc := "(II)I", sig := { parameters := [.int, .int], returnType := some .int }, accessFlags := 9, code := some k16c2 }
/-- java/util/Objects -/
def k16 : Class := { plain "java/util/Objects" (some 0) with
  accessFlags := 49
  interfaces := #[]
  cf := some (fileOf pool16 42 #[] #[{ accessFlags := 2, nameIndex := 5, descriptorIndex := 6, attributes := #[] }, { accessFlags := 9, nameIndex := 45, descriptorIndex := 46, attributes := #[] }, { accessFlags := 9, nameIndex := 109, descriptorIndex := 171, attributes := #[] }] 49 2 #[] #[])
  fields := #[]
  methods := #[k16m0, k16m1, k16m2]
  instanceTypes := #[]
  staticTypes := #[]
  resolved := Array.replicate 184 none
  statics := none }

def pool17 : Array CpInfo := pool [(2, .class_ 4), (1, u "java/lang/Object"), (0, u "<init>"), (0, u "()V"), (17, .class_ 26), (1, u "jdk/internal/util/Preconditions"), (6, u "checkIndex"), (21, .class_ 56), (0, u "jdk/internal/util/Preconditions$4"), (57, .class_ 115), (0, u "jdk/internal/util/Preconditions$1"), (7, u "SIOOBE_FORMATTER"), (0, u "Ljava/util/function/BiFunction;"), (0, .class_ 126), (0, u "jdk/internal/util/Preconditions$2"), (3, u "AIOOBE_FORMATTER"), (0, .class_ 132), (0, u "jdk/internal/util/Preconditions$3"), (3, u "IOOBE_FORMATTER"), (41, u "(IILjava/util/function/BiFunction;)I")] 15

def k17m0 : Method := { name := "<init>", desc := "()V", sig := { parameters := [], returnType := none }, accessFlags := 1, code := none }
def k17c1 : Code := { maxStack := 3, maxLocals := 3, code := jdk_41_method_11_code, exceptionTable := #[], attributes := #[] }
def k17m1 : Method := { name := "checkIndex", desc := "(IILjava/util/function/BiFunction;)I", sig := { parameters := [.int, .int, (.object "java/util/function/BiFunction")], returnType := some .int }, accessFlags := 9, code := some k17c1 }
/-- jdk/internal/util/Preconditions -/
def k17 : Class := { plain "jdk/internal/util/Preconditions" (some 0) with
  accessFlags := 33
  interfaces := #[]
  cf := some (fileOf pool17 24 #[.nestMembers #[55, 131, 125, 114]] #[{ accessFlags := 1, nameIndex := 5, descriptorIndex := 6, attributes := #[] }, { accessFlags := 9, nameIndex := 33, descriptorIndex := 178, attributes := #[] }] 33 2 #[] #[{ accessFlags := 25, nameIndex := 123, descriptorIndex := 124, attributes := #[] }, { accessFlags := 25, nameIndex := 130, descriptorIndex := 124, attributes := #[] }, { accessFlags := 25, nameIndex := 136, descriptorIndex := 124, attributes := #[] }])
  fields := #[{ name := "SIOOBE_FORMATTER", type := (.object "java/util/function/BiFunction"), accessFlags := 25, slot := 0, constantValue := 0 }, { name := "AIOOBE_FORMATTER", type := (.object "java/util/function/BiFunction"), accessFlags := 25, slot := 1, constantValue := 0 }, { name := "IOOBE_FORMATTER", type := (.object "java/util/function/BiFunction"), accessFlags := 25, slot := 2, constantValue := 0 }]
  methods := #[k17m0, k17m1]
  instanceTypes := #[]
  staticTypes := #[(.object "java/util/function/BiFunction"), (.object "java/util/function/BiFunction"), (.object "java/util/function/BiFunction")]
  resolved := Array.replicate 194 none
  statics := none }

def pool18 : Array CpInfo := pool [(2, .class_ 4), (1, u "java/lang/Object"), (0, u "<init>"), (0, u "()V"), (3, .class_ 11), (0, u "java/util/ImmutableCollections$List12"), (0, .class_ 13), (0, u "java/util/ImmutableCollections$ListN"), (3, u "Z"), (0, .class_ 19), (0, u "java/util/List"), (0, .interfaceMethodref 21 22), (0, .class_ 23), (0, .nameAndType 24 25), (0, u "java/util/Collection"), (0, u "isEmpty"), (0, u "()Z"), (0, .interfaceMethodref 18 27), (0, .nameAndType 28 29), (0, u "of"), (0, u "()Ljava/util/List;"), (0, .interfaceMethodref 21 31), (0, .nameAndType 32 33), (0, u "toArray"), (0, u "()[Ljava/lang/Object;"), (0, .interfaceMethodref 18 35), (0, .nameAndType 28 36), (0, u "([Ljava/lang/Object;)Ljava/util/List;"), (0, .methodref 38 39), (0, .class_ 40), (0, .nameAndType 41 42), (0, u "java/util/Objects"), (0, u "requireNonNull"), (0, u "(Ljava/lang/Object;)Ljava/lang/Object;"), (0, .methodref 12 44), (0, .nameAndType 5 45), (0, u "([Ljava/lang/Object;Z)V"), (1, .class_ 49), (1, u "java/util/ImmutableCollections"), (0, u "$assertionsDisabled"), (5, u "[Ljava/lang/Object;"), (5, u "EMPTY_LIST"), (0, u "Ljava/util/ImmutableCollections$ListN;"), (8, u "EMPTY_LIST_NULLS"), (22, u "SALT32L"), (0, u "J"), (2, u "REVERSE"), (6, u "archivedObjects"), (2, u "EMPTY"), (0, u "Ljava/lang/Object;"), (0, .class_ 112), (0, u "java/util/ImmutableCollections$SetN"), (5, u "EMPTY_SET"), (0, u "Ljava/util/ImmutableCollections$SetN;"), (0, .class_ 121), (0, u "java/util/ImmutableCollections$MapN"), (3, u "EMPTY_MAP"), (0, u "Ljava/util/ImmutableCollections$MapN;"), (4, u "EXPAND_FACTOR"), (0, u "I"), (9, u "listCopy"), (0, u "(Ljava/util/Collection;)Ljava/util/List;"), (7, u "listFromArray"), (17, .class_ 170), (0, u "java/util/ImmutableCollections$MapN$MapNIterator"), (0, .class_ 172), (0, u "java/util/ImmutableCollections$MapN$1"), (0, .class_ 174), (0, u "java/util/ImmutableCollections$Map1"), (0, .class_ 176), (0, u "java/util/ImmutableCollections$AbstractImmutableMap"), (0, .class_ 178), (0, u "java/util/ImmutableCollections$SetN$SetNIterator"), (0, .class_ 180), (0, u "java/util/ImmutableCollections$Set12"), (0, .class_ 182), (0, u "java/util/ImmutableCollections$Set12$1"), (0, .class_ 184), (0, u "java/util/ImmutableCollections$AbstractImmutableSet"), (0, .class_ 186), (0, u "java/util/ImmutableCollections$SubList"), (0, .class_ 188), (0, u "java/util/ImmutableCollections$ListItr"), (0, .class_ 190), (0, u "java/util/ImmutableCollections$AbstractImmutableList"), (0, .class_ 192), (0, u "java/util/ImmutableCollections$AbstractImmutableCollection"), (0, .class_ 194), (0, u "java/util/ImmutableCollections$Access"), (0, .class_ 196), (0, u "java/util/ImmutableCollections$Access$1")] 16

def k18m0 : Method := { name := "<init>", desc := "()V", sig := { parameters := [], returnType := none }, accessFlags := 2, code := none }
def k18c1 : Code := { maxStack := 1, maxLocals := 2, code := jdk_56_method_3_code, exceptionTable := #[], attributes := #[] }
def k18m1 : Method := { name := "listCopy", desc := "(Ljava/util/Collection;)Ljava/util/List;", sig := { parameters := [(.object "java/util/Collection")], returnType := some (.object "java/util/List") }, accessFlags := 8, code := some k18c1 }
def k18c2 : Code := { maxStack := 4, maxLocals := 3, code := jdk_56_method_4_code, exceptionTable := #[], attributes := #[] }
def k18m2 : Method := { name := "listFromArray", desc := "([Ljava/lang/Object;)Ljava/util/List;", sig := { parameters := [(.array (.object "java/lang/Object"))], returnType := some (.object "java/util/List") }, accessFlags := 136, code := some k18c2 }
/-- java/util/ImmutableCollections -/
def k18 : Class := { plain "java/util/ImmutableCollections" (some 0) with
  accessFlags := 32
  interfaces := #[]
  cf := some (fileOf pool18 47 #[.nestMembers #[120, 169, 171, 173, 175, 111, 177, 179, 181, 183, 12, 10, 185, 187, 189, 191, 193, 195]] #[{ accessFlags := 2, nameIndex := 5, descriptorIndex := 6, attributes := #[] }, { accessFlags := 8, nameIndex := 142, descriptorIndex := 143, attributes := #[] }, { accessFlags := 136, nameIndex := 151, descriptorIndex := 36, attributes := #[] }] 32 2 #[] #[{ accessFlags := 26, nameIndex := 95, descriptorIndex := 96, attributes := #[] }, { accessFlags := 26, nameIndex := 99, descriptorIndex := 17, attributes := #[] }, { accessFlags := 10, nameIndex := 106, descriptorIndex := 56, attributes := #[] }, { accessFlags := 26, nameIndex := 109, descriptorIndex := 110, attributes := #[] }, { accessFlags := 24, nameIndex := 62, descriptorIndex := 63, attributes := #[] }, { accessFlags := 24, nameIndex := 72, descriptorIndex := 63, attributes := #[] }, { accessFlags := 24, nameIndex := 118, descriptorIndex := 119, attributes := #[] }, { accessFlags := 24, nameIndex := 125, descriptorIndex := 126, attributes := #[] }, { accessFlags := 24, nameIndex := 131, descriptorIndex := 132, attributes := #[] }, { accessFlags := 4120, nameIndex := 50, descriptorIndex := 17, attributes := #[] }])
  fields := #[{ name := "SALT32L", type := .long, accessFlags := 26, slot := 0, constantValue := 0 }, { name := "REVERSE", type := .boolean, accessFlags := 26, slot := 1, constantValue := 0 }, { name := "archivedObjects", type := (.array (.object "java/lang/Object")), accessFlags := 10, slot := 2, constantValue := 0 }, { name := "EMPTY", type := (.object "java/lang/Object"), accessFlags := 26, slot := 3, constantValue := 0 }, { name := "EMPTY_LIST", type := (.object "java/util/ImmutableCollections$ListN"), accessFlags := 24, slot := 4, constantValue := 0 }, { name := "EMPTY_LIST_NULLS", type := (.object "java/util/ImmutableCollections$ListN"), accessFlags := 24, slot := 5, constantValue := 0 }, { name := "EMPTY_SET", type := (.object "java/util/ImmutableCollections$SetN"), accessFlags := 24, slot := 6, constantValue := 0 }, { name := "EMPTY_MAP", type := (.object "java/util/ImmutableCollections$MapN"), accessFlags := 24, slot := 7, constantValue := 0 }, { name := "EXPAND_FACTOR", type := .int, accessFlags := 24, slot := 8, constantValue := 0 }, { name := "$assertionsDisabled", type := .boolean, accessFlags := 4120, slot := 9, constantValue := 0 }]
  methods := #[k18m0, k18m1, k18m2]
  instanceTypes := #[]
  staticTypes := #[.long, .boolean, (.array (.object "java/lang/Object")), (.object "java/lang/Object"), (.object "java/util/ImmutableCollections$ListN"), (.object "java/util/ImmutableCollections$ListN"), (.object "java/util/ImmutableCollections$SetN"), (.object "java/util/ImmutableCollections$MapN"), .int, .boolean]
  resolved := Array.replicate 213 none
  statics := some 1 }

def pool19 : Array CpInfo := pool [(1, .methodref 2 3), (0, .class_ 4), (0, .nameAndType 5 6), (0, u "java/util/AbstractCollection"), (0, u "<init>"), (0, u "()V"), (1, .class_ 10), (1, u "java/util/ImmutableCollections"), (2, .class_ 14), (0, u "java/util/ImmutableCollections$AbstractImmutableCollection")] 41

def k19c0 : Code := { maxStack := 1, maxLocals := 1, code := jdk_47_method_1_code, exceptionTable := #[], attributes := #[] }
def k19m0 : Method := { name := "<init>", desc := "()V", sig := { parameters := [], returnType := none }, accessFlags := 0, code := some k19c0 }
/-- java/util/ImmutableCollections$AbstractImmutableCollection -/
def k19 : Class := { plain "java/util/ImmutableCollections$AbstractImmutableCollection" (some 5) with
  accessFlags := 1056
  interfaces := #[]
  cf := some (fileOf pool19 13 #[.nestHost 8] #[{ accessFlags := 0, nameIndex := 5, descriptorIndex := 6, attributes := #[] }] 1056 2 #[] #[])
  fields := #[]
  methods := #[k19m0]
  instanceTypes := #[]
  staticTypes := #[]
  resolved := Array.replicate 56 none
  statics := none }

def pool20 : Array CpInfo := pool [(1, .methodref 2 3), (0, .class_ 4), (0, .nameAndType 5 6), (0, u "java/util/ImmutableCollections$AbstractImmutableCollection"), (0, u "<init>"), (0, u "()V"), (1, .class_ 10), (1, u "java/util/ImmutableCollections"), (2, .methodref 14 15), (0, .class_ 16), (0, .nameAndType 17 18), (0, u "java/util/ImmutableCollections$AbstractImmutableList"), (0, u "size"), (0, u "()I"), (0, .methodref 14 20), (0, .nameAndType 21 22), (0, u "subListRangeCheck"), (0, u "(III)V"), (0, .methodref 24 25), (0, .class_ 26), (0, .nameAndType 27 28), (0, u "java/util/ImmutableCollections$SubList"), (0, u "fromList"), (0, u "(Ljava/util/ImmutableCollections$AbstractImmutableList;II)Ljava/util/ImmutableCollections$SubList;"), (48, .class_ 78), (0, u "java/util/List"), (45, .class_ 125), (0, u "java/util/RandomAccess"), (38, u "subList"), (0, u "(II)Ljava/util/List;")] 30

def k20c0 : Code := { maxStack := 1, maxLocals := 1, code := jdk_46_method_1_code, exceptionTable := #[], attributes := #[] }
def k20m0 : Method := { name := "<init>", desc := "()V", sig := { parameters := [], returnType := none }, accessFlags := 0, code := some k20c0 }
def k20c1 : Code := { maxStack := 3, maxLocals := 4, code := jdk_46_method_8_code, exceptionTable := #[], attributes := #[] }
def k20m1 : Method := { name := "subList", desc := "(II)Ljava/util/List;", sig := { parameters := [.int, .int], returnType := some (.object "java/util/List") }, accessFlags := 1, code := some k20c1 }
def k20c2 : Code := { maxStack := 4, maxLocals := 3, code := jdk_46_method_9_code, exceptionTable := #[], attributes := #[] }
def k20m2 : Method := { name := "subListRangeCheck", desc := "(III)V", sig := { parameters := [.int, .int, .int], returnType := none }, accessFlags := 8, code := some k20c2 }
/-- java/util/ImmutableCollections$AbstractImmutableList -/
def k20 : Class := { plain "java/util/ImmutableCollections$AbstractImmutableList" (some 19) with
  accessFlags := 1056
  interfaces := #[7, 9]
  cf := some (fileOf pool20 14 #[.nestHost 8] #[{ accessFlags := 0, nameIndex := 5, descriptorIndex := 6, attributes := #[] }, { accessFlags := 1, nameIndex := 164, descriptorIndex := 165, attributes := #[] }, { accessFlags := 8, nameIndex := 21, descriptorIndex := 22, attributes := #[] }] 1056 2 #[77, 124] #[])
  fields := #[]
  methods := #[k20m0, k20m1, k20m2]
  instanceTypes := #[]
  staticTypes := #[]
  resolved := Array.replicate 196 none
  statics := none }

def pool21 : Array CpInfo := pool [(1, .methodref 2 3), (0, .class_ 4), (0, .nameAndType 5 6), (0, u "java/util/ImmutableCollections$AbstractImmutableList"), (0, u "<init>"), (0, u "()V"), (0, .methodref 8 9), (0, .class_ 10), (0, .nameAndType 11 12), (0, u "java/util/Objects"), (0, u "requireNonNull"), (0, u "(Ljava/lang/Object;)Ljava/lang/Object;"), (0, .fieldref 14 15), (0, .class_ 16), (0, .nameAndType 17 18), (0, u "java/util/ImmutableCollections$List12"), (0, u "e0"), (0, u "Ljava/lang/Object;"), (0, .fieldref 20 21), (0, .class_ 22), (0, .nameAndType 23 18), (0, u "java/util/ImmutableCollections"), (0, u "EMPTY"), (0, .fieldref 14 25), (0, .nameAndType 26 18), (0, u "e1"), (24, u "size"), (0, u "()I"), (17, .class_ 71), (0, u "java/io/Serializable"), (4, u "(Ljava/lang/Object;)V"), (8, u "(Ljava/lang/Object;Ljava/lang/Object;)V")] 39

def k21c0 : Code := { maxStack := 2, maxLocals := 2, code := jdk_44_method_1_code, exceptionTable := #[], attributes := #[] }
def k21m0 : Method := { name := "<init>", desc := "(Ljava/lang/Object;)V", sig := { parameters := [(.object "java/lang/Object")], returnType := none }, accessFlags := 0, code := some k21c0 }
def k21c1 : Code := { maxStack := 2, maxLocals := 3, code := jdk_44_method_2_code, exceptionTable := #[], attributes := #[] }
def k21m1 : Method := { name := "<init>", desc := "(Ljava/lang/Object;Ljava/lang/Object;)V", sig := { parameters := [(.object "java/lang/Object"), (.object "java/lang/Object")], returnType := none }, accessFlags := 0, code := some k21c1 }
def k21c2 : Code := { maxStack := 2, maxLocals := 1, code := jdk_44_method_3_code, exceptionTable := #[], attributes := #[] }
def k21m2 : Method := { name := "size", desc := "()I", sig := { parameters := [], returnType := some .int }, accessFlags := 1, code := some k21c2 }
/-- java/util/ImmutableCollections$List12 -/
def k21 : Class := { plain "java/util/ImmutableCollections$List12" (some 20) with
  accessFlags := 48
  interfaces := #[11]
  cf := some (fileOf pool21 14 #[.nestHost 20] #[{ accessFlags := 0, nameIndex := 5, descriptorIndex := 76, attributes := #[] }, { accessFlags := 0, nameIndex := 5, descriptorIndex := 85, attributes := #[] }, { accessFlags := 1, nameIndex := 51, descriptorIndex := 52, attributes := #[] }] 48 2 #[70] #[{ accessFlags := 18, nameIndex := 17, descriptorIndex := 18, attributes := #[] }, { accessFlags := 18, nameIndex := 26, descriptorIndex := 18, attributes := #[] }])
  fields := #[{ name := "e0", type := (.object "java/lang/Object"), accessFlags := 18, slot := 0, constantValue := 0 }, { name := "e1", type := (.object "java/lang/Object"), accessFlags := 18, slot := 1, constantValue := 0 }]
  methods := #[k21m0, k21m1, k21m2]
  instanceTypes := #[(.object "java/lang/Object"), (.object "java/lang/Object")]
  staticTypes := #[]
  resolved := Array.replicate 125 none
  statics := none }

def pool22 : Array CpInfo := pool [(1, .methodref 2 3), (0, .class_ 4), (0, .nameAndType 5 6), (0, u "java/util/ImmutableCollections$AbstractImmutableList"), (0, u "<init>"), (0, u "()V"), (0, .fieldref 8 9), (0, .class_ 10), (0, .nameAndType 11 12), (0, u "java/util/ImmutableCollections$ListN"), (0, u "elements"), (0, u "[Ljava/lang/Object;"), (0, .fieldref 8 14), (0, .nameAndType 15 16), (0, u "allowNulls"), (0, u "Z"), (42, .class_ 60), (0, u "java/io/Serializable"), (4, u "([Ljava/lang/Object;Z)V"), (11, u "size"), (0, u "()I"), (35, .class_ 115), (0, u "java/util/ImmutableCollections")] 3

def k22c0 : Code := { maxStack := 2, maxLocals := 3, code := jdk_45_method_1_code, exceptionTable := #[], attributes := #[] }
def k22m0 : Method := { name := "<init>", desc := "([Ljava/lang/Object;Z)V", sig := { parameters := [(.array (.object "java/lang/Object")), .boolean], returnType := none }, accessFlags := 2, code := some k22c0 }
def k22c1 : Code := { maxStack := 1, maxLocals := 1, code := jdk_45_method_3_code, exceptionTable := #[], attributes := #[] }
def k22m1 : Method := { name := "size", desc := "()I", sig := { parameters := [], returnType := some .int }, accessFlags := 1, code := some k22c1 }
/-- java/util/ImmutableCollections$ListN -/
def k22 : Class := { plain "java/util/ImmutableCollections$ListN" (some 20) with
  accessFlags := 48
  interfaces := #[11]
  cf := some (fileOf pool22 8 #[.nestHost 114] #[{ accessFlags := 2, nameIndex := 5, descriptorIndex := 65, attributes := #[] }, { accessFlags := 1, nameIndex := 77, descriptorIndex := 78, attributes := #[] }] 48 2 #[59] #[{ accessFlags := 18, nameIndex := 11, descriptorIndex := 12, attributes := #[] }, { accessFlags := 18, nameIndex := 15, descriptorIndex := 16, attributes := #[] }])
  fields := #[{ name := "elements", type := (.array (.object "java/lang/Object")), accessFlags := 18, slot := 0, constantValue := 0 }, { name := "allowNulls", type := .boolean, accessFlags := 18, slot := 1, constantValue := 0 }]
  methods := #[k22m0, k22m1]
  instanceTypes := #[(.array (.object "java/lang/Object")), .boolean]
  staticTypes := #[]
  resolved := Array.replicate 119 none
  statics := none }

def pool23 : Array CpInfo := pool [(2, .class_ 4), (1, u "java/lang/Object"), (0, u "<init>"), (0, u "()V"), (7, .class_ 16), (1, u "java/util/Arrays"), (57, .class_ 76), (1, u "java/util/Arrays$NaturalOrder"), (9, .methodref 2 87), (0, .nameAndType 88 89), (0, u "getClass"), (0, u "()Ljava/lang/Class;"), (20, .class_ 111), (0, u "[Ljava/lang/Object;"), (1, .class_ 115), (1, u "java/util/Arrays$LegacyMergeSort"), (1, u "Z"), (32, .methodref 151 152), (0, .class_ 153), (0, .nameAndType 154 155), (0, u "java/lang/System"), (0, u "arraycopy"), (0, u "(Ljava/lang/Object;ILjava/lang/Object;II)V"), (144, .methodref 14 301), (0, .nameAndType 302 303), (0, u "copyOf"), (0, u "([Ljava/lang/Object;ILjava/lang/Class;)[Ljava/lang/Object;"), (0, .methodref 305 306), (0, .class_ 307), (0, .nameAndType 308 309), (0, u "java/lang/Math"), (0, u "min"), (0, u "(II)I"), (65, .class_ 376), (0, u "java/util/Arrays$ArrayList"), (68, u "$assertionsDisabled"), (269, u "MIN_ARRAY_SORT_GRAN"), (0, u "I"), (2, u "INSERTIONSORT_THRESHOLD"), (140, u "([Ljava/lang/Object;I)[Ljava/lang/Object;"), (114, .class_ 976), (0, u "java/util/Arrays$ArrayItr")] 52

def k23m0 : Method := { name := "<init>", desc := "()V", sig := { parameters := [], returnType := none }, accessFlags := 2, code := none }
def k23c1 : Code := { maxStack := 3, maxLocals := 2, code := jdk_65_method_119_code, exceptionTable := #[], attributes := #[] }
def k23m1 : Method := { name := "copyOf", desc := "([Ljava/lang/Object;I)[Ljava/lang/Object;", sig := { parameters := [(.array (.object "java/lang/Object")), .int], returnType := some (.array (.object "java/lang/Object")) }, accessFlags := 9, code := some k23c1 }
def k23c2 : Code := { maxStack := 6, maxLocals := 4, code := jdk_65_method_120_code, exceptionTable := #[], attributes := #[] }
def k23m2 : Method := { name := "copyOf", desc := "([Ljava/lang/Object;ILjava/lang/Class;)[Ljava/lang/Object;", sig := { parameters := [(.array (.object "java/lang/Object")), .int, (.object "java/lang/Class")], returnType := some (.array (.object "java/lang/Object")) }, accessFlags := 9, code := some k23c2 }
/-- java/util/Arrays -/
def k23 : Class := { plain "java/util/Arrays" (some 0) with
  accessFlags := 49
  interfaces := #[]
  cf := some (fileOf pool23 14 #[.nestMembers #[975, 375, 113, 74]] #[{ accessFlags := 2, nameIndex := 5, descriptorIndex := 6, attributes := #[] }, { accessFlags := 9, nameIndex := 302, descriptorIndex := 860, attributes := #[] }, { accessFlags := 9, nameIndex := 302, descriptorIndex := 303, attributes := #[] }] 49 2 #[] #[{ accessFlags := 26, nameIndex := 715, descriptorIndex := 716, attributes := #[] }, { accessFlags := 26, nameIndex := 719, descriptorIndex := 716, attributes := #[] }, { accessFlags := 4120, nameIndex := 445, descriptorIndex := 117, attributes := #[] }])
  fields := #[{ name := "MIN_ARRAY_SORT_GRAN", type := .int, accessFlags := 26, slot := 0, constantValue := 0 }, { name := "INSERTIONSORT_THRESHOLD", type := .int, accessFlags := 26, slot := 1, constantValue := 0 }, { name := "$assertionsDisabled", type := .boolean, accessFlags := 4120, slot := 2, constantValue := 0 }]
  methods := #[k23m0, k23m1, k23m2]
  instanceTypes := #[]
  staticTypes := #[.int, .int, .boolean]
  resolved := Array.replicate 1029 none
  statics := none }

def pool24 : Array CpInfo := pool [(2, .class_ 4), (1, u "java/lang/Object"), (0, u "<init>"), (0, u "()V"), (1, .class_ 10), (1, u "java/lang/System"), (0, u "allowSecurityManager"), (0, u "I"), (16, u "cons"), (0, u "Ljava/io/Console;"), (77, .class_ 110), (1, u "java/lang/System$CallersHolder"), (43, u "initialErrStream"), (0, u "Ljava/io/PrintStream;"), (19, u "security"), (0, u "Ljava/lang/SecurityManager;"), (31, .class_ 209), (0, u "java/lang/System$1"), (7, u "props"), (0, u "Ljava/util/Properties;"), (2, u "lineSeparator"), (0, u "Ljava/lang/String;"), (96, .class_ 321), (1, u "java/lang/System$LoggerFinder"), (5, .class_ 328), (0, u "java/lang/System$Logger"), (67, u "err"), (2, u "out"), (91, u "notSupportedJnuEncoding"), (15, u "in"), (17, u "initialIn"), (0, u "Ljava/io/InputStream;"), (35, u "bootLayer"), (0, u "Ljava/lang/ModuleLayer;"), (99, .class_ 664), (0, u "java/lang/System$2"), (9, u "NEVER"), (2, u "MAYBE"), (49, u "arraycopy"), (0, u "(Ljava/lang/Object;ILjava/lang/Object;II)V"), (72, .class_ 802), (0, u "java/lang/System$Logger$Level")] 31

def k24m0 : Method := { name := "<init>", desc := "()V", sig := { parameters := [], returnType := none }, accessFlags := 2, code := none }
def k24m1 : Method := { name := "arraycopy", desc := "(Ljava/lang/Object;ILjava/lang/Object;II)V", sig := { parameters := [(.object "java/lang/Object"), .int, (.object "java/lang/Object"), .int, .int], returnType := none }, accessFlags := 265, code := none }
/-- java/lang/System -/
def k24 : Class := { plain "java/lang/System" (some 0) with
  accessFlags := 49
  interfaces := #[]
  cf := some (fileOf pool24 8 #[.nestMembers #[319, 327, 801, 108, 663, 208]] #[{ accessFlags := 2, nameIndex := 5, descriptorIndex := 6, attributes := #[] }, { accessFlags := 265, nameIndex := 727, descriptorIndex := 728, attributes := #[] }] 49 2 #[] #[{ accessFlags := 25, nameIndex := 507, descriptorIndex := 526, attributes := #[] }, { accessFlags := 25, nameIndex := 399, descriptorIndex := 155, attributes := #[] }, { accessFlags := 25, nameIndex := 396, descriptorIndex := 155, attributes := #[] }, { accessFlags := 10, nameIndex := 525, descriptorIndex := 526, attributes := #[] }, { accessFlags := 26, nameIndex := 674, descriptorIndex := 12, attributes := #[] }, { accessFlags := 26, nameIndex := 677, descriptorIndex := 12, attributes := #[] }, { accessFlags := 10, nameIndex := 11, descriptorIndex := 12, attributes := #[] }, { accessFlags := 74, nameIndex := 175, descriptorIndex := 176, attributes := #[] }, { accessFlags := 10, nameIndex := 491, descriptorIndex := 222, attributes := #[] }, { accessFlags := 74, nameIndex := 29, descriptorIndex := 30, attributes := #[] }, { accessFlags := 74, nameIndex := 154, descriptorIndex := 155, attributes := #[] }, { accessFlags := 10, nameIndex := 217, descriptorIndex := 218, attributes := #[] }, { accessFlags := 10, nameIndex := 221, descriptorIndex := 222, attributes := #[] }, { accessFlags := 8, nameIndex := 562, descriptorIndex := 563, attributes := #[] }])
  fields := #[{ name := "in", type := (.object "java/io/InputStream"), accessFlags := 25, slot := 0, constantValue := 0 }, { name := "out", type := (.object "java/io/PrintStream"), accessFlags := 25, slot := 1, constantValue := 0 }, { name := "err", type := (.object "java/io/PrintStream"), accessFlags := 25, slot := 2, constantValue := 0 }, { name := "initialIn", type := (.object "java/io/InputStream"), accessFlags := 10, slot := 3, constantValue := 0 }, { name := "NEVER", type := .int, accessFlags := 26, slot := 4, constantValue := 0 }, { name := "MAYBE", type := .int, accessFlags := 26, slot := 5, constantValue := 0 }, { name := "allowSecurityManager", type := .int, accessFlags := 10, slot := 6, constantValue := 0 }, { name := "security", type := (.object "java/lang/SecurityManager"), accessFlags := 74, slot := 7, constantValue := 0 }, { name := "notSupportedJnuEncoding", type := (.object "java/lang/String"), accessFlags := 10, slot := 8, constantValue := 0 }, { name := "cons", type := (.object "java/io/Console"), accessFlags := 74, slot := 9, constantValue := 0 }, { name := "initialErrStream", type := (.object "java/io/PrintStream"), accessFlags := 74, slot := 10, constantValue := 0 }, { name := "props", type := (.object "java/util/Properties"), accessFlags := 10, slot := 11, constantValue := 0 }, { name := "lineSeparator", type := (.object "java/lang/String"), accessFlags := 10, slot := 12, constantValue := 0 }, { name := "bootLayer", type := (.object "java/lang/ModuleLayer"), accessFlags := 8, slot := 13, constantValue := 0 }]
  methods := #[k24m0, k24m1]
  instanceTypes := #[]
  staticTypes := #[(.object "java/io/InputStream"), (.object "java/io/PrintStream"), (.object "java/io/PrintStream"), (.object "java/io/InputStream"), .int, .int, .int, (.object "java/lang/SecurityManager"), (.object "java/lang/String"), (.object "java/io/Console"), (.object "java/io/PrintStream"), (.object "java/util/Properties"), (.object "java/lang/String"), (.object "java/lang/ModuleLayer")]
  resolved := Array.replicate 834 none
  statics := none }

def pool25 : Array CpInfo := pool [(1, .methodref 2 3), (0, .class_ 4), (0, .nameAndType 5 6), (0, u "java/util/ImmutableCollections$AbstractImmutableList"), (0, u "<init>"), (0, u "()V"), (0, .fieldref 8 9), (0, .class_ 10), (0, .nameAndType 11 12), (0, u "java/util/ImmutableCollections$SubList"), (0, u "$assertionsDisabled"), (0, u "Z"), (7, .fieldref 8 21), (0, .nameAndType 22 23), (0, u "root"), (0, u "Ljava/util/ImmutableCollections$AbstractImmutableList;"), (0, .fieldref 8 25), (0, .nameAndType 26 27), (0, u "offset"), (0, u "I"), (0, .fieldref 8 29), (0, .nameAndType 30 27), (0, u "size"), (0, .methodref 8 32), (0, .nameAndType 5 33), (0, u "(Ljava/util/ImmutableCollections$AbstractImmutableList;II)V"), (70, .class_ 105), (0, u "java/util/ImmutableCollections"), (3, .class_ 110), (0, u "java/util/RandomAccess"), (17, u "fromList"), (0, u "(Ljava/util/ImmutableCollections$AbstractImmutableList;II)Ljava/util/ImmutableCollections$SubList;")] 38

def k25c0 : Code := { maxStack := 2, maxLocals := 4, code := jdk_2608_method_1_code, exceptionTable := #[], attributes := #[] }
def k25m0 : Method := { name := "<init>", desc := "(Ljava/util/ImmutableCollections$AbstractImmutableList;II)V", sig := { parameters := [(.object "java/util/ImmutableCollections$AbstractImmutableList"), .int, .int], returnType := none }, accessFlags := 2, code := some k25c0 }
def k25c1 : Code := { maxStack := 6, maxLocals := 3, code := jdk_2608_method_3_code, exceptionTable := #[], attributes := #[] }
def k25m1 : Method := { name := "fromList", desc := "(Ljava/util/ImmutableCollections$AbstractImmutableList;II)Ljava/util/ImmutableCollections$SubList;", sig := { parameters := [(.object "java/util/ImmutableCollections$AbstractImmutableList"), .int, .int], returnType := some (.object "java/util/ImmutableCollections$SubList") }, accessFlags := 8, code := some k25c1 }
/-- java/util/ImmutableCollections$SubList -/
def k25 : Class := { plain "java/util/ImmutableCollections$SubList" (some 20) with
  accessFlags := 48
  interfaces := #[9]
  cf := some (fileOf pool25 8 #[.nestHost 104] #[{ accessFlags := 2, nameIndex := 5, descriptorIndex := 33, attributes := #[] }, { accessFlags := 8, nameIndex := 128, descriptorIndex := 129, attributes := #[] }] 48 2 #[109] #[{ accessFlags := 18, nameIndex := 22, descriptorIndex := 23, attributes := #[] }, { accessFlags := 18, nameIndex := 26, descriptorIndex := 27, attributes := #[] }, { accessFlags := 18, nameIndex := 30, descriptorIndex := 27, attributes := #[] }, { accessFlags := 4120, nameIndex := 11, descriptorIndex := 12, attributes := #[] }])
  fields := #[{ name := "root", type := (.object "java/util/ImmutableCollections$AbstractImmutableList"), accessFlags := 18, slot := 0, constantValue := 0 }, { name := "offset", type := .int, accessFlags := 18, slot := 1, constantValue := 0 }, { name := "size", type := .int, accessFlags := 18, slot := 2, constantValue := 0 }, { name := "$assertionsDisabled", type := .boolean, accessFlags := 4120, slot := 0, constantValue := 0 }]
  methods := #[k25m0, k25m1]
  instanceTypes := #[(.object "java/util/ImmutableCollections$AbstractImmutableList"), .int, .int]
  staticTypes := #[.boolean]
  resolved := Array.replicate 168 none
  statics := some 2 }

def pool26 : Array CpInfo := pool [(2, .class_ 4), (1, u "java/lang/Object"), (0, u "<init>"), (0, u "()V"), (1, .class_ 10), (1, u "java/lang/Number"), (2, .class_ 14), (0, u "java/io/Serializable"), (0, u "serialVersionUID"), (0, u "J")] 20

def k26m0 : Method := { name := "<init>", desc := "()V", sig := { parameters := [], returnType := none }, accessFlags := 1, code := none }
/-- java/lang/Number -/
def k26 : Class := { plain "java/lang/Number" (some 0) with
  accessFlags := 1057
  interfaces := #[11]
  cf := some (fileOf pool26 8 #[] #[{ accessFlags := 1, nameIndex := 5, descriptorIndex := 6, attributes := #[] }] 1057 2 #[13] #[{ accessFlags := 26, nameIndex := 15, descriptorIndex := 16, attributes := #[] }])
  fields := #[{ name := "serialVersionUID", type := .long, accessFlags := 26, slot := 0, constantValue := 0 }]
  methods := #[k26m0]
  instanceTypes := #[]
  staticTypes := #[.long]
  resolved := Array.replicate 37 none
  statics := none }

def pool27 : Array CpInfo := pool [(1, .class_ 2), (0, u "java/lang/Comparable"), (0, .class_ 4), (0, u "java/lang/Object")] 7

/-- java/lang/Comparable -/
def k27 : Class := { plain "java/lang/Comparable" (some 0) with
  accessFlags := 1537
  interfaces := #[]
  cf := some (fileOf pool27 1 #[] #[] 1537 3 #[] #[])
  fields := #[]
  methods := #[]
  instanceTypes := #[]
  staticTypes := #[]
  resolved := Array.replicate 12 none
  statics := none }

def pool28 : Array CpInfo := pool [(1, .class_ 2), (0, u "java/lang/constant/Constable"), (0, .class_ 4), (0, u "java/lang/Object")] 6

/-- java/lang/constant/Constable -/
def k28 : Class := { plain "java/lang/constant/Constable" (some 0) with
  accessFlags := 1537
  interfaces := #[]
  cf := some (fileOf pool28 1 #[] #[] 1537 3 #[] #[])
  fields := #[]
  methods := #[]
  instanceTypes := #[]
  staticTypes := #[]
  resolved := Array.replicate 11 none
  statics := none }

def pool29 : Array CpInfo := pool [(1, .class_ 2), (0, u "java/lang/constant/ConstantDesc"), (0, .class_ 4), (0, u "java/lang/Object")] 32

/-- java/lang/constant/ConstantDesc -/
def k29 : Class := { plain "java/lang/constant/ConstantDesc" (some 0) with
  accessFlags := 1537
  interfaces := #[]
  cf := some (fileOf pool29 1 #[] #[] 1537 3 #[] #[])
  fields := #[]
  methods := #[]
  instanceTypes := #[]
  staticTypes := #[]
  resolved := Array.replicate 37 none
  statics := none }

def pool30 : Array CpInfo := pool [(1, .class_ 2), (0, u "java/lang/Integer"), (16, u "digits"), (0, u "[C"), (64, u "DigitOnes"), (0, u "[B"), (2, u "DigitTens"), (31, u "()I"), (65, u "valueOf"), (0, u "(I)Ljava/lang/Integer;"), (0, .class_ 190), (0, u "java/lang/Integer$IntegerCache"), (0, .fieldref 189 192), (0, .nameAndType 193 194), (0, u "high"), (0, u "I"), (0, .fieldref 189 196), (0, .nameAndType 197 198), (0, u "cache"), (0, u "[Ljava/lang/Integer;"), (4, .class_ 204), (0, u "java/lang/Number"), (0, .fieldref 1 206), (0, .nameAndType 207 194), (0, u "value"), (5, u "intValue"), (88, u "TYPE"), (0, u "Ljava/lang/Class;"), (0, .class_ 305), (0, u "java/lang/Comparable"), (0, .class_ 307), (0, u "java/lang/constant/Constable"), (0, .class_ 309), (0, u "java/lang/constant/ConstantDesc"), (0, u "MIN_VALUE"), (1, u "MAX_VALUE"), (3, u "SIZE"), (1, u "BYTES"), (1, u "serialVersionUID"), (0, u "J")] 131

def k30c0 : Code := { maxStack := 3, maxLocals := 1, code := jdk_33_method_22_code, exceptionTable := #[], attributes := #[] }
def k30m0 : Method := { name := "valueOf", desc := "(I)Ljava/lang/Integer;", sig := { parameters := [.int], returnType := some (.object "java/lang/Integer") }, accessFlags := 9, code := some k30c0 }
def k30c1 : Code := { maxStack := 1, maxLocals := 1, code := jdk_33_method_27_code, exceptionTable := #[], attributes := #[] }
def k30m1 : Method := { name := "intValue", desc := "()I", sig := { parameters := [], returnType := some .int }, accessFlags := 1, code := some k30c1 }
/-- java/lang/Integer -/
def k30 : Class := { plain "java/lang/Integer" (some 26) with
  accessFlags := 49
  interfaces := #[27, 28, 29]
  cf := some (fileOf pool30 1 #[.nestMembers #[189]] #[{ accessFlags := 9, nameIndex := 187, descriptorIndex := 188, attributes := #[] }, { accessFlags := 1, nameIndex := 213, descriptorIndex := 121, attributes := #[] }] 49 203 #[304, 306, 308] #[{ accessFlags := 25, nameIndex := 310, descriptorIndex := 194, attributes := #[] }, { accessFlags := 25, nameIndex := 312, descriptorIndex := 194, attributes := #[] }, { accessFlags := 25, nameIndex := 302, descriptorIndex := 303, attributes := #[] }, { accessFlags := 24, nameIndex := 19, descriptorIndex := 20, attributes := #[] }, { accessFlags := 24, nameIndex := 89, descriptorIndex := 86, attributes := #[] }, { accessFlags := 24, nameIndex := 85, descriptorIndex := 86, attributes := #[] }, { accessFlags := 18, nameIndex := 207, descriptorIndex := 194, attributes := #[] }, { accessFlags := 25, nameIndex := 316, descriptorIndex := 194, attributes := #[] }, { accessFlags := 25, nameIndex := 318, descriptorIndex := 194, attributes := #[] }, { accessFlags := 26, nameIndex := 320, descriptorIndex := 321, attributes := #[] }])
  fields := #[{ name := "MIN_VALUE", type := .int, accessFlags := 25, slot := 0, constantValue := 0 }, { name := "MAX_VALUE", type := .int, accessFlags := 25, slot := 1, constantValue := 0 }, { name := "TYPE", type := (.object "java/lang/Class"), accessFlags := 25, slot := 2, constantValue := 0 }, { name := "digits", type := (.array .char), accessFlags := 24, slot := 3, constantValue := 0 }, { name := "DigitTens", type := (.array .byte), accessFlags := 24, slot := 4, constantValue := 0 }, { name := "DigitOnes", type := (.array .byte), accessFlags := 24, slot := 5, constantValue := 0 }, { name := "value", type := .int, accessFlags := 18, slot := 0, constantValue := 0 }, { name := "SIZE", type := .int, accessFlags := 25, slot := 6, constantValue := 0 }, { name := "BYTES", type := .int, accessFlags := 25, slot := 7, constantValue := 0 }, { name := "serialVersionUID", type := .long, accessFlags := 26, slot := 8, constantValue := 0 }]
  methods := #[k30m0, k30m1]
  instanceTypes := #[.int]
  staticTypes := #[.int, .int, (.object "java/lang/Class"), (.array .char), (.array .byte), (.array .byte), .int, .int, .long]
  resolved := Array.replicate 453 none
  statics := none }

def pool31 : Array CpInfo := pool [(2, .class_ 4), (1, u "java/lang/Object"), (0, u "<init>"), (0, u "()V"), (0, .class_ 8), (0, u "java/lang/Integer"), (7, .class_ 18), (1, u "java/lang/Integer$IntegerCache"), (0, u "$assertionsDisabled"), (0, u "Z"), (26, u "high"), (0, u "I"), (8, u "archivedCache"), (0, u "[Ljava/lang/Integer;"), (12, u "cache"), (0, u "low")] 27

def k31m0 : Method := { name := "<init>", desc := "()V", sig := { parameters := [], returnType := none }, accessFlags := 2, code := none }
/-- java/lang/Integer$IntegerCache -/
def k31 : Class := { plain "java/lang/Integer$IntegerCache" (some 0) with
  accessFlags := 48
  interfaces := #[]
  cf := some (fileOf pool31 16 #[.nestHost 7] #[{ accessFlags := 2, nameIndex := 5, descriptorIndex := 6, attributes := #[] }] 48 2 #[] #[{ accessFlags := 24, nameIndex := 72, descriptorIndex := 48, attributes := #[] }, { accessFlags := 24, nameIndex := 47, descriptorIndex := 48, attributes := #[] }, { accessFlags := 24, nameIndex := 71, descriptorIndex := 58, attributes := #[] }, { accessFlags := 8, nameIndex := 57, descriptorIndex := 58, attributes := #[] }, { accessFlags := 4120, nameIndex := 19, descriptorIndex := 20, attributes := #[] }])
  fields := #[{ name := "low", type := .int, accessFlags := 24, slot := 0, constantValue := 0 }, { name := "high", type := .int, accessFlags := 24, slot := 1, constantValue := 0 }, { name := "cache", type := (.array (.object "java/lang/Integer")), accessFlags := 24, slot := 2, constantValue := 0 }, { name := "archivedCache", type := (.array (.object "java/lang/Integer")), accessFlags := 8, slot := 3, constantValue := 0 }, { name := "$assertionsDisabled", type := .boolean, accessFlags := 4120, slot := 4, constantValue := 0 }]
  methods := #[k31m0]
  instanceTypes := #[]
  staticTypes := #[.int, .int, (.array (.object "java/lang/Integer")), (.array (.object "java/lang/Integer")), .boolean]
  resolved := Array.replicate 100 none
  statics := some 3 }

def pool32 : Array CpInfo := pool [(1, u "java/lang/Class"), (0, .class_ 1), (0, u "java/lang/Object"), (0, .class_ 3)] 0

/-- java/lang/Class -/
def k32 : Class := { plain "java/lang/Class" (some 0) with
  accessFlags := 49
  interfaces := #[]
  cf := some (fileOf pool32 2 #[] #[] 49 4 #[] #[])
  fields := #[]
  methods := #[]
  instanceTypes := #[]
  staticTypes := #[]
  resolved := Array.replicate 5 none
  statics := none }

/-- the primitive byte -/
def k33 : Class := { plain "byte" none with kind := .primitive 'B', accessFlags := 0x411 }
/-- [B -/
def k34 : Class := { plain "[B" (some 0) with kind := .array 33 .byte, interfaces := #[10, 11], accessFlags := 1041 }

/-- the primitive int -/
def k35 : Class := { plain "int" none with kind := .primitive 'I', accessFlags := 0x411 }
/-- [I -/
def k36 : Class := { plain "[I" (some 0) with kind := .array 35 .int, interfaces := #[10, 11], accessFlags := 1041 }

/-- [Ljava/lang/Integer; -/
def k37 : Class := { plain "[Ljava/lang/Integer;" (some 0) with kind := .array 30 (.object "java/lang/Integer"), interfaces := #[10, 11], accessFlags := 1041 }

/-- [Ljava/lang/Object; -/
def k38 : Class := { plain "[Ljava/lang/Object;" (some 0) with kind := .array 0 (.object "java/lang/Object"), interfaces := #[10, 11], accessFlags := 1041, mirror := some 4 }
def k39 : Class := { plain "[[I" (some 0) with kind := .array 36 (.array .int), interfaces := #[10, 11], accessFlags := 1041 }

def heap : Heap := #[{ cls := 12, slots := #[.long 0, .int 0, .ref 266, .ref 267], vm := .statics 12 },
  { cls := 18, slots := #[.long 0, .int 0, .null, .ref 264, .ref 263, .null, .null, .null, .int 0, .int 1], vm := .statics 18 },
  { cls := 25, slots := #[.int 1], vm := .statics 25 },
  { cls := 31, slots := #[.int 0, .int 127, .ref 261, .null, .int 0], vm := .statics 31 },
  { cls := 32, slots := #[], vm := .mirror 38 },
  { cls := 30, slots := #[.int (-128)], vm := .none },
  { cls := 30, slots := #[.int (-127)], vm := .none },
  { cls := 30, slots := #[.int (-126)], vm := .none },
  { cls := 30, slots := #[.int (-125)], vm := .none },
  { cls := 30, slots := #[.int (-124)], vm := .none },
  { cls := 30, slots := #[.int (-123)], vm := .none },
  { cls := 30, slots := #[.int (-122)], vm := .none },
  { cls := 30, slots := #[.int (-121)], vm := .none },
  { cls := 30, slots := #[.int (-120)], vm := .none },
  { cls := 30, slots := #[.int (-119)], vm := .none },
  { cls := 30, slots := #[.int (-118)], vm := .none },
  { cls := 30, slots := #[.int (-117)], vm := .none },
  { cls := 30, slots := #[.int (-116)], vm := .none },
  { cls := 30, slots := #[.int (-115)], vm := .none },
  { cls := 30, slots := #[.int (-114)], vm := .none },
  { cls := 30, slots := #[.int (-113)], vm := .none },
  { cls := 30, slots := #[.int (-112)], vm := .none },
  { cls := 30, slots := #[.int (-111)], vm := .none },
  { cls := 30, slots := #[.int (-110)], vm := .none },
  { cls := 30, slots := #[.int (-109)], vm := .none },
  { cls := 30, slots := #[.int (-108)], vm := .none },
  { cls := 30, slots := #[.int (-107)], vm := .none },
  { cls := 30, slots := #[.int (-106)], vm := .none },
  { cls := 30, slots := #[.int (-105)], vm := .none },
  { cls := 30, slots := #[.int (-104)], vm := .none },
  { cls := 30, slots := #[.int (-103)], vm := .none },
  { cls := 30, slots := #[.int (-102)], vm := .none },
  { cls := 30, slots := #[.int (-101)], vm := .none },
  { cls := 30, slots := #[.int (-100)], vm := .none },
  { cls := 30, slots := #[.int (-99)], vm := .none },
  { cls := 30, slots := #[.int (-98)], vm := .none },
  { cls := 30, slots := #[.int (-97)], vm := .none },
  { cls := 30, slots := #[.int (-96)], vm := .none },
  { cls := 30, slots := #[.int (-95)], vm := .none },
  { cls := 30, slots := #[.int (-94)], vm := .none },
  { cls := 30, slots := #[.int (-93)], vm := .none },
  { cls := 30, slots := #[.int (-92)], vm := .none },
  { cls := 30, slots := #[.int (-91)], vm := .none },
  { cls := 30, slots := #[.int (-90)], vm := .none },
  { cls := 30, slots := #[.int (-89)], vm := .none },
  { cls := 30, slots := #[.int (-88)], vm := .none },
  { cls := 30, slots := #[.int (-87)], vm := .none },
  { cls := 30, slots := #[.int (-86)], vm := .none },
  { cls := 30, slots := #[.int (-85)], vm := .none },
  { cls := 30, slots := #[.int (-84)], vm := .none },
  { cls := 30, slots := #[.int (-83)], vm := .none },
  { cls := 30, slots := #[.int (-82)], vm := .none },
  { cls := 30, slots := #[.int (-81)], vm := .none },
  { cls := 30, slots := #[.int (-80)], vm := .none },
  { cls := 30, slots := #[.int (-79)], vm := .none },
  { cls := 30, slots := #[.int (-78)], vm := .none },
  { cls := 30, slots := #[.int (-77)], vm := .none },
  { cls := 30, slots := #[.int (-76)], vm := .none },
  { cls := 30, slots := #[.int (-75)], vm := .none },
  { cls := 30, slots := #[.int (-74)], vm := .none },
  { cls := 30, slots := #[.int (-73)], vm := .none },
  { cls := 30, slots := #[.int (-72)], vm := .none },
  { cls := 30, slots := #[.int (-71)], vm := .none },
  { cls := 30, slots := #[.int (-70)], vm := .none },
  { cls := 30, slots := #[.int (-69)], vm := .none },
  { cls := 30, slots := #[.int (-68)], vm := .none },
  { cls := 30, slots := #[.int (-67)], vm := .none },
  { cls := 30, slots := #[.int (-66)], vm := .none },
  { cls := 30, slots := #[.int (-65)], vm := .none },
  { cls := 30, slots := #[.int (-64)], vm := .none },
  { cls := 30, slots := #[.int (-63)], vm := .none },
  { cls := 30, slots := #[.int (-62)], vm := .none },
  { cls := 30, slots := #[.int (-61)], vm := .none },
  { cls := 30, slots := #[.int (-60)], vm := .none },
  { cls := 30, slots := #[.int (-59)], vm := .none },
  { cls := 30, slots := #[.int (-58)], vm := .none },
  { cls := 30, slots := #[.int (-57)], vm := .none },
  { cls := 30, slots := #[.int (-56)], vm := .none },
  { cls := 30, slots := #[.int (-55)], vm := .none },
  { cls := 30, slots := #[.int (-54)], vm := .none },
  { cls := 30, slots := #[.int (-53)], vm := .none },
  { cls := 30, slots := #[.int (-52)], vm := .none },
  { cls := 30, slots := #[.int (-51)], vm := .none },
  { cls := 30, slots := #[.int (-50)], vm := .none },
  { cls := 30, slots := #[.int (-49)], vm := .none },
  { cls := 30, slots := #[.int (-48)], vm := .none },
  { cls := 30, slots := #[.int (-47)], vm := .none },
  { cls := 30, slots := #[.int (-46)], vm := .none },
  { cls := 30, slots := #[.int (-45)], vm := .none },
  { cls := 30, slots := #[.int (-44)], vm := .none },
  { cls := 30, slots := #[.int (-43)], vm := .none },
  { cls := 30, slots := #[.int (-42)], vm := .none },
  { cls := 30, slots := #[.int (-41)], vm := .none },
  { cls := 30, slots := #[.int (-40)], vm := .none },
  { cls := 30, slots := #[.int (-39)], vm := .none },
  { cls := 30, slots := #[.int (-38)], vm := .none },
  { cls := 30, slots := #[.int (-37)], vm := .none },
  { cls := 30, slots := #[.int (-36)], vm := .none },
  { cls := 30, slots := #[.int (-35)], vm := .none },
  { cls := 30, slots := #[.int (-34)], vm := .none },
  { cls := 30, slots := #[.int (-33)], vm := .none },
  { cls := 30, slots := #[.int (-32)], vm := .none },
  { cls := 30, slots := #[.int (-31)], vm := .none },
  { cls := 30, slots := #[.int (-30)], vm := .none },
  { cls := 30, slots := #[.int (-29)], vm := .none },
  { cls := 30, slots := #[.int (-28)], vm := .none },
  { cls := 30, slots := #[.int (-27)], vm := .none },
  { cls := 30, slots := #[.int (-26)], vm := .none },
  { cls := 30, slots := #[.int (-25)], vm := .none },
  { cls := 30, slots := #[.int (-24)], vm := .none },
  { cls := 30, slots := #[.int (-23)], vm := .none },
  { cls := 30, slots := #[.int (-22)], vm := .none },
  { cls := 30, slots := #[.int (-21)], vm := .none },
  { cls := 30, slots := #[.int (-20)], vm := .none },
  { cls := 30, slots := #[.int (-19)], vm := .none },
  { cls := 30, slots := #[.int (-18)], vm := .none },
  { cls := 30, slots := #[.int (-17)], vm := .none },
  { cls := 30, slots := #[.int (-16)], vm := .none },
  { cls := 30, slots := #[.int (-15)], vm := .none },
  { cls := 30, slots := #[.int (-14)], vm := .none },
  { cls := 30, slots := #[.int (-13)], vm := .none },
  { cls := 30, slots := #[.int (-12)], vm := .none },
  { cls := 30, slots := #[.int (-11)], vm := .none },
  { cls := 30, slots := #[.int (-10)], vm := .none },
  { cls := 30, slots := #[.int (-9)], vm := .none },
  { cls := 30, slots := #[.int (-8)], vm := .none },
  { cls := 30, slots := #[.int (-7)], vm := .none },
  { cls := 30, slots := #[.int (-6)], vm := .none },
  { cls := 30, slots := #[.int (-5)], vm := .none },
  { cls := 30, slots := #[.int (-4)], vm := .none },
  { cls := 30, slots := #[.int (-3)], vm := .none },
  { cls := 30, slots := #[.int (-2)], vm := .none },
  { cls := 30, slots := #[.int (-1)], vm := .none },
  { cls := 30, slots := #[.int 0], vm := .none },
  { cls := 30, slots := #[.int 1], vm := .none },
  { cls := 30, slots := #[.int 2], vm := .none },
  { cls := 30, slots := #[.int 3], vm := .none },
  { cls := 30, slots := #[.int 4], vm := .none },
  { cls := 30, slots := #[.int 5], vm := .none },
  { cls := 30, slots := #[.int 6], vm := .none },
  { cls := 30, slots := #[.int 7], vm := .none },
  { cls := 30, slots := #[.int 8], vm := .none },
  { cls := 30, slots := #[.int 9], vm := .none },
  { cls := 30, slots := #[.int 10], vm := .none },
  { cls := 30, slots := #[.int 11], vm := .none },
  { cls := 30, slots := #[.int 12], vm := .none },
  { cls := 30, slots := #[.int 13], vm := .none },
  { cls := 30, slots := #[.int 14], vm := .none },
  { cls := 30, slots := #[.int 15], vm := .none },
  { cls := 30, slots := #[.int 16], vm := .none },
  { cls := 30, slots := #[.int 17], vm := .none },
  { cls := 30, slots := #[.int 18], vm := .none },
  { cls := 30, slots := #[.int 19], vm := .none },
  { cls := 30, slots := #[.int 20], vm := .none },
  { cls := 30, slots := #[.int 21], vm := .none },
  { cls := 30, slots := #[.int 22], vm := .none },
  { cls := 30, slots := #[.int 23], vm := .none },
  { cls := 30, slots := #[.int 24], vm := .none },
  { cls := 30, slots := #[.int 25], vm := .none },
  { cls := 30, slots := #[.int 26], vm := .none },
  { cls := 30, slots := #[.int 27], vm := .none },
  { cls := 30, slots := #[.int 28], vm := .none },
  { cls := 30, slots := #[.int 29], vm := .none },
  { cls := 30, slots := #[.int 30], vm := .none },
  { cls := 30, slots := #[.int 31], vm := .none },
  { cls := 30, slots := #[.int 32], vm := .none },
  { cls := 30, slots := #[.int 33], vm := .none },
  { cls := 30, slots := #[.int 34], vm := .none },
  { cls := 30, slots := #[.int 35], vm := .none },
  { cls := 30, slots := #[.int 36], vm := .none },
  { cls := 30, slots := #[.int 37], vm := .none },
  { cls := 30, slots := #[.int 38], vm := .none },
  { cls := 30, slots := #[.int 39], vm := .none },
  { cls := 30, slots := #[.int 40], vm := .none },
  { cls := 30, slots := #[.int 41], vm := .none },
  { cls := 30, slots := #[.int 42], vm := .none },
  { cls := 30, slots := #[.int 43], vm := .none },
  { cls := 30, slots := #[.int 44], vm := .none },
  { cls := 30, slots := #[.int 45], vm := .none },
  { cls := 30, slots := #[.int 46], vm := .none },
  { cls := 30, slots := #[.int 47], vm := .none },
  { cls := 30, slots := #[.int 48], vm := .none },
  { cls := 30, slots := #[.int 49], vm := .none },
  { cls := 30, slots := #[.int 50], vm := .none },
  { cls := 30, slots := #[.int 51], vm := .none },
  { cls := 30, slots := #[.int 52], vm := .none },
  { cls := 30, slots := #[.int 53], vm := .none },
  { cls := 30, slots := #[.int 54], vm := .none },
  { cls := 30, slots := #[.int 55], vm := .none },
  { cls := 30, slots := #[.int 56], vm := .none },
  { cls := 30, slots := #[.int 57], vm := .none },
  { cls := 30, slots := #[.int 58], vm := .none },
  { cls := 30, slots := #[.int 59], vm := .none },
  { cls := 30, slots := #[.int 60], vm := .none },
  { cls := 30, slots := #[.int 61], vm := .none },
  { cls := 30, slots := #[.int 62], vm := .none },
  { cls := 30, slots := #[.int 63], vm := .none },
  { cls := 30, slots := #[.int 64], vm := .none },
  { cls := 30, slots := #[.int 65], vm := .none },
  { cls := 30, slots := #[.int 66], vm := .none },
  { cls := 30, slots := #[.int 67], vm := .none },
  { cls := 30, slots := #[.int 68], vm := .none },
  { cls := 30, slots := #[.int 69], vm := .none },
  { cls := 30, slots := #[.int 70], vm := .none },
  { cls := 30, slots := #[.int 71], vm := .none },
  { cls := 30, slots := #[.int 72], vm := .none },
  { cls := 30, slots := #[.int 73], vm := .none },
  { cls := 30, slots := #[.int 74], vm := .none },
  { cls := 30, slots := #[.int 75], vm := .none },
  { cls := 30, slots := #[.int 76], vm := .none },
  { cls := 30, slots := #[.int 77], vm := .none },
  { cls := 30, slots := #[.int 78], vm := .none },
  { cls := 30, slots := #[.int 79], vm := .none },
  { cls := 30, slots := #[.int 80], vm := .none },
  { cls := 30, slots := #[.int 81], vm := .none },
  { cls := 30, slots := #[.int 82], vm := .none },
  { cls := 30, slots := #[.int 83], vm := .none },
  { cls := 30, slots := #[.int 84], vm := .none },
  { cls := 30, slots := #[.int 85], vm := .none },
  { cls := 30, slots := #[.int 86], vm := .none },
  { cls := 30, slots := #[.int 87], vm := .none },
  { cls := 30, slots := #[.int 88], vm := .none },
  { cls := 30, slots := #[.int 89], vm := .none },
  { cls := 30, slots := #[.int 90], vm := .none },
  { cls := 30, slots := #[.int 91], vm := .none },
  { cls := 30, slots := #[.int 92], vm := .none },
  { cls := 30, slots := #[.int 93], vm := .none },
  { cls := 30, slots := #[.int 94], vm := .none },
  { cls := 30, slots := #[.int 95], vm := .none },
  { cls := 30, slots := #[.int 96], vm := .none },
  { cls := 30, slots := #[.int 97], vm := .none },
  { cls := 30, slots := #[.int 98], vm := .none },
  { cls := 30, slots := #[.int 99], vm := .none },
  { cls := 30, slots := #[.int 100], vm := .none },
  { cls := 30, slots := #[.int 101], vm := .none },
  { cls := 30, slots := #[.int 102], vm := .none },
  { cls := 30, slots := #[.int 103], vm := .none },
  { cls := 30, slots := #[.int 104], vm := .none },
  { cls := 30, slots := #[.int 105], vm := .none },
  { cls := 30, slots := #[.int 106], vm := .none },
  { cls := 30, slots := #[.int 107], vm := .none },
  { cls := 30, slots := #[.int 108], vm := .none },
  { cls := 30, slots := #[.int 109], vm := .none },
  { cls := 30, slots := #[.int 110], vm := .none },
  { cls := 30, slots := #[.int 111], vm := .none },
  { cls := 30, slots := #[.int 112], vm := .none },
  { cls := 30, slots := #[.int 113], vm := .none },
  { cls := 30, slots := #[.int 114], vm := .none },
  { cls := 30, slots := #[.int 115], vm := .none },
  { cls := 30, slots := #[.int 116], vm := .none },
  { cls := 30, slots := #[.int 117], vm := .none },
  { cls := 30, slots := #[.int 118], vm := .none },
  { cls := 30, slots := #[.int 119], vm := .none },
  { cls := 30, slots := #[.int 120], vm := .none },
  { cls := 30, slots := #[.int 121], vm := .none },
  { cls := 30, slots := #[.int 122], vm := .none },
  { cls := 30, slots := #[.int 123], vm := .none },
  { cls := 30, slots := #[.int 124], vm := .none },
  { cls := 30, slots := #[.int 125], vm := .none },
  { cls := 30, slots := #[.int 126], vm := .none },
  { cls := 30, slots := #[.int 127], vm := .none },
  { cls := 37, slots := #[.ref 5, .ref 6, .ref 7, .ref 8, .ref 9, .ref 10, .ref 11, .ref 12, .ref 13, .ref 14, .ref 15, .ref 16, .ref 17, .ref 18, .ref 19, .ref 20, .ref 21, .ref 22, .ref 23, .ref 24, .ref 25, .ref 26, .ref 27, .ref 28, .ref 29, .ref 30, .ref 31, .ref 32, .ref 33, .ref 34, .ref 35, .ref 36, .ref 37, .ref 38, .ref 39, .ref 40, .ref 41, .ref 42, .ref 43, .ref 44, .ref 45, .ref 46, .ref 47, .ref 48, .ref 49, .ref 50, .ref 51, .ref 52, .ref 53, .ref 54, .ref 55, .ref 56, .ref 57, .ref 58, .ref 59, .ref 60, .ref 61, .ref 62, .ref 63, .ref 64, .ref 65, .ref 66, .ref 67, .ref 68, .ref 69, .ref 70, .ref 71, .ref 72, .ref 73, .ref 74, .ref 75, .ref 76, .ref 77, .ref 78, .ref 79, .ref 80, .ref 81, .ref 82, .ref 83, .ref 84, .ref 85, .ref 86, .ref 87, .ref 88, .ref 89, .ref 90, .ref 91, .ref 92, .ref 93, .ref 94, .ref 95, .ref 96, .ref 97, .ref 98, .ref 99, .ref 100, .ref 101, .ref 102, .ref 103, .ref 104, .ref 105, .ref 106, .ref 107, .ref 108, .ref 109, .ref 110, .ref 111, .ref 112, .ref 113, .ref 114, .ref 115, .ref 116, .ref 117, .ref 118, .ref 119, .ref 120, .ref 121, .ref 122, .ref 123, .ref 124, .ref 125, .ref 126, .ref 127, .ref 128, .ref 129, .ref 130, .ref 131, .ref 132, .ref 133, .ref 134, .ref 135, .ref 136, .ref 137, .ref 138, .ref 139, .ref 140, .ref 141, .ref 142, .ref 143, .ref 144, .ref 145, .ref 146, .ref 147, .ref 148, .ref 149, .ref 150, .ref 151, .ref 152, .ref 153, .ref 154, .ref 155, .ref 156, .ref 157, .ref 158, .ref 159, .ref 160, .ref 161, .ref 162, .ref 163, .ref 164, .ref 165, .ref 166, .ref 167, .ref 168, .ref 169, .ref 170, .ref 171, .ref 172, .ref 173, .ref 174, .ref 175, .ref 176, .ref 177, .ref 178, .ref 179, .ref 180, .ref 181, .ref 182, .ref 183, .ref 184, .ref 185, .ref 186, .ref 187, .ref 188, .ref 189, .ref 190, .ref 191, .ref 192, .ref 193, .ref 194, .ref 195, .ref 196, .ref 197, .ref 198, .ref 199, .ref 200, .ref 201, .ref 202, .ref 203, .ref 204, .ref 205, .ref 206, .ref 207, .ref 208, .ref 209, .ref 210, .ref 211, .ref 212, .ref 213, .ref 214, .ref 215, .ref 216, .ref 217, .ref 218, .ref 219, .ref 220, .ref 221, .ref 222, .ref 223, .ref 224, .ref 225, .ref 226, .ref 227, .ref 228, .ref 229, .ref 230, .ref 231, .ref 232, .ref 233, .ref 234, .ref 235, .ref 236, .ref 237, .ref 238, .ref 239, .ref 240, .ref 241, .ref 242, .ref 243, .ref 244, .ref 245, .ref 246, .ref 247, .ref 248, .ref 249, .ref 250, .ref 251, .ref 252, .ref 253, .ref 254, .ref 255, .ref 256, .ref 257, .ref 258, .ref 259, .ref 260], vm := .none },
  { cls := 38, slots := #[], vm := .none },
  { cls := 22, slots := #[.ref 262, .int 0], vm := .none },
  { cls := 0, slots := #[], vm := .none },
  { cls := 38, slots := #[], vm := .none },
  { cls := 38, slots := #[], vm := .none },
  { cls := 38, slots := #[], vm := .none }]
def classes : Array Class := #[k0, k1, k2, k3, k4, k5, k6, k7, k8, k9, k10, k11, k12, k13, k14, k15, k16, k17, k18, k19, k20, k21, k22, k23, k24, k25, k26, k27, k28, k29, k30, k31, k32, k33, k34, k35, k36, k37, k38, k39]
def interned : List (Array UInt16 × Addr) := []
def slotsUsed : Nat := 534
def theMethod : MethodId := ⟨1, 1⟩
def args0 : Array Value := #[.int 251, .int 0, .int 2]
def aboutOver (below : List Frame) : State where
  vm := { classes := classes, interned := interned.toArray }
  heap := heap
  slotsUsed := slotsUsed
  threads := #[{ frames := .invoking theMethod args0 :: below }]
def below0 : List Frame := [.native { method := ⟨0, 0⟩, args := #[] }]
def about1 : State := aboutOver below0
def p0 : Program := .bare "" "" ""
def e0 : Env := launch0.env 0 0 0
theorem w_frames : about1.frames = Frame.invoking theMethod args0 :: below0 := rfl
set_option maxRecDepth 65536 in
theorem w_args : argsFit about1.vm theMethod args0 = true := by decide +kernel
set_option maxRecDepth 65536 in
theorem w_heap : heapFits about1 = true := by decide +kernel
set_option maxRecDepth 65536 in
theorem w_runnable : about1.curStatus? = some .runnable := by decide +kernel
set_option maxRecDepth 65536 in
theorem w_alone : about1.alone = true := by decide +kernel
set_option maxRecDepth 65536 in
theorem w_named : about1.methodNamed? x = some theMethod := by decide +kernel
set_option maxRecDepth 65536 in
theorem w_hears : about1.hears theMethod below0 = true := by decide +kernel
set_option maxRecDepth 65536 in
theorem w_ripe : about1.ripe theMethod args0 below0 = true := by decide +kernel
theorem w_running : about1.status = .running := rfl
set_option maxRecDepth 65536 in
theorem w_room : about1.hasRoom e0.platform room_1 = true :=
  launch0.hasRoom_least _ room_1 (by decide +kernel) (by decide +kernel) (by decide +kernel) (by decide +kernel) (by decide +kernel) (by decide +kernel)
theorem allAtoms_all (ts : List Jvm.Cond) (a : Array Jvm.Value) (st : Jvm.State) : (allAtoms ts).before a st = ts.all (fun c => c.before a st) := by
  induction ts with
  | nil => rfl
  | cons c t ih =>
    show (Jvm.Cond.and c (allAtoms t)).before a st = _
    rw [Jvm.Cond.before_and, ih, List.all_cons]
def words1 : List Jvm.Cond := Jvm.Cond.code x code maxLocals ret :: tables_1
/-- a 'code' word, met by the world's own term for the bytes: nothing is compared byte by byte -/
theorem code_word {y : MethodName} {bytes : ByteArray} {mx : Nat} {rt : Option FieldType} {a : Array Value} {s : State} {m : MethodId} {meth : Method} {c : Code} (h1 : s.methodNamed? y = some m) (h2 : s.vm.method? m = some meth) (h3 : meth.code = some c) (h4 : c.code = bytes)
    (h5 : (c.maxLocals == mx && c.exceptionTable.isEmpty && decide (c.maxStack ≤ mostOperands) && decide (meth.sig.returnType = rt) && !meth.locks && decide (parseMethodDescriptor y.desc = some meth.sig)) = true) : (Jvm.Cond.code y bytes mx rt).before a s = true := by
  simp only [Bool.and_eq_true, beq_iff_eq, Bool.not_eq_true', decide_eq_true_eq] at h5
  obtain ⟨⟨⟨⟨⟨g1, g2⟩, g3⟩, g4⟩, g5⟩, g6⟩ := h5
  simp [Cond.before, Cond.holds, Cond.value, h1, h2, h3, h4, g1, g2, g3, g4, g5, g6]
def isCode : Jvm.Cond → Bool
  | .code _ _ _ _ => true
  | _ => false
theorem all_split {L : List Jvm.Cond} {P : Jvm.Cond → Bool} (h1 : L.all (fun c => isCode c || P c) = true) (h2 : ∀ c ∈ L.filter isCode, P c = true) : L.all P = true := by
  refine List.all_eq_true.mpr fun c hc => ?_
  have h := List.all_eq_true.mp h1 c hc
  rcases Bool.eq_false_or_eq_true (isCode c) with hi | hi
  · exact h2 c (List.mem_filter.mpr ⟨hc, hi⟩)
  · simpa [hi] using h
set_option maxRecDepth 65536 in
theorem w_c0 : (Jvm.Cond.code x code maxLocals ret).before args0 about1 = true := code_word (m := ⟨1, 1⟩) (meth := k1m1) (c := k1c1) (by decide +kernel) rfl rfl rfl (by decide +kernel)
set_option maxRecDepth 65536 in
theorem w_c1 : (Jvm.Cond.code ({ cls := "com/example/firm_handshake/firmhandshake/model/Transition", name := "<init>", desc := "(Lcom/example/firm_handshake/firmhandshake/model/Action;ILcom/example/firm_handshake/firmhandshake/model/Transition$Continuation;I)V" } : Jvm.MethodName) prog_157_method_1_code (5 : Nat) (Option.none : Option Jvm.ClassFile.FieldType)).before args0 about1 = true := code_word (m := ⟨2, 0⟩) (meth := k2m0) (c := k2c0) (by decide +kernel) rfl rfl rfl (by decide +kernel)
set_option maxRecDepth 65536 in
theorem w_c2 : (Jvm.Cond.code ({ cls := "java/lang/Object", name := "<init>", desc := "()V" } : Jvm.MethodName) object_method_1_code (1 : Nat) (Option.none : Option Jvm.ClassFile.FieldType)).before args0 about1 = true := code_word (m := ⟨0, 0⟩) (meth := k0m0) (c := k0c0) (by decide +kernel) rfl rfl rfl (by decide +kernel)
set_option maxRecDepth 65536 in
theorem w_c3 : (Jvm.Cond.code ({ cls := "java/util/ArrayList", name := "<init>", desc := "()V" } : Jvm.MethodName) jdk_38_method_2_code (1 : Nat) (Option.none : Option Jvm.ClassFile.FieldType)).before args0 about1 = true := code_word (m := ⟨12, 0⟩) (meth := k12m0) (c := k12c0) (by decide +kernel) rfl rfl rfl (by decide +kernel)
set_option maxRecDepth 65536 in
theorem w_c4 : (Jvm.Cond.code ({ cls := "java/util/AbstractList", name := "<init>", desc := "()V" } : Jvm.MethodName) jdk_39_method_1_code (1 : Nat) (Option.none : Option Jvm.ClassFile.FieldType)).before args0 about1 = true := code_word (m := ⟨8, 0⟩) (meth := k8m0) (c := k8c0) (by decide +kernel) rfl rfl rfl (by decide +kernel)
set_option maxRecDepth 65536 in
theorem w_c5 : (Jvm.Cond.code ({ cls := "java/util/AbstractCollection", name := "<init>", desc := "()V" } : Jvm.MethodName) jdk_22_method_1_code (1 : Nat) (Option.none : Option Jvm.ClassFile.FieldType)).before args0 about1 = true := code_word (m := ⟨5, 0⟩) (meth := k5m0) (c := k5c0) (by decide +kernel) rfl rfl rfl (by decide +kernel)
set_option maxRecDepth 65536 in
theorem w_c6 : (Jvm.Cond.code ({ cls := "com/example/firm_handshake/firmhandshake/model/Location$Move", name := "<init>", desc := "(Lcom/example/firm_handshake/firmhandshake/model/Transition;Ljava/util/List;)V" } : Jvm.MethodName) prog_119_method_1_code (4 : Nat) (Option.none : Option Jvm.ClassFile.FieldType)).before args0 about1 = true := code_word (m := ⟨13, 0⟩) (meth := k13m0) (c := k13c0) (by decide +kernel) rfl rfl rfl (by decide +kernel)
set_option maxRecDepth 65536 in
theorem w_c7 : (Jvm.Cond.code ({ cls := "java/util/ArrayList", name := "size", desc := "()I" } : Jvm.MethodName) jdk_38_method_8_code (1 : Nat) (Option.some Jvm.ClassFile.FieldType.int)).before args0 about1 = true := code_word (m := ⟨12, 3⟩) (meth := k12m3) (c := k12c3) (by decide +kernel) rfl rfl rfl (by decide +kernel)
set_option maxRecDepth 65536 in
theorem w_c8 : (Jvm.Cond.code ({ cls := "java/util/ArrayList", name := "add", desc := "(Ljava/lang/Object;)Z" } : Jvm.MethodName) jdk_38_method_25_code (2 : Nat) (Option.some Jvm.ClassFile.FieldType.boolean)).before args0 about1 = true := code_word (m := ⟨12, 9⟩) (meth := k12m9) (c := k12c9) (by decide +kernel) rfl rfl rfl (by decide +kernel)
set_option maxRecDepth 65536 in
theorem w_c9 : (Jvm.Cond.code ({ cls := "java/util/ArrayList", name := "add", desc := "(Ljava/lang/Object;[Ljava/lang/Object;I)V" } : Jvm.MethodName) jdk_38_method_24_code (4 : Nat) (Option.none : Option Jvm.ClassFile.FieldType)).before args0 about1 = true := code_word (m := ⟨12, 8⟩) (meth := k12m8) (c := k12c8) (by decide +kernel) rfl rfl rfl (by decide +kernel)
set_option maxRecDepth 65536 in
theorem w_c10 : (Jvm.Cond.code ({ cls := "java/util/ArrayList", name := "grow", desc := "()[Ljava/lang/Object;" } : Jvm.MethodName) jdk_38_method_7_code (1 : Nat) (Option.some (Jvm.ClassFile.FieldType.array (Jvm.ClassFile.FieldType.object "java/lang/Object")))).before args0 about1 = true := code_word (m := ⟨12, 2⟩) (meth := k12m2) (c := k12c2) (by decide +kernel) rfl rfl rfl (by decide +kernel)
set_option maxRecDepth 65536 in
theorem w_c11 : (Jvm.Cond.code ({ cls := "java/util/ArrayList", name := "grow", desc := "(I)[Ljava/lang/Object;" } : Jvm.MethodName) jdk_38_method_6_code (4 : Nat) (Option.some (Jvm.ClassFile.FieldType.array (Jvm.ClassFile.FieldType.object "java/lang/Object")))).before args0 about1 = true := code_word (m := ⟨12, 1⟩) (meth := k12m1) (c := k12c1) (by decide +kernel) rfl rfl rfl (by decide +kernel)
set_option maxRecDepth 65536 in
theorem w_c12 : (Jvm.Cond.code ({ cls := "java/lang/Math", name := "max", desc := "(II)I" } : Jvm.MethodName) jdk_29_method_65_code (2 : Nat) (Option.some Jvm.ClassFile.FieldType.int)).before args0 about1 = true := code_word (m := ⟨14, 1⟩) (meth := k14m1) (c := k14c1) (by decide +kernel) rfl rfl rfl (by decide +kernel)
set_option maxRecDepth 65536 in
theorem w_c13 : (Jvm.Cond.code ({ cls := "com/example/firm_handshake/firmhandshake/model/Location", name := "<init>", desc := "(Ljava/util/List;Ljava/util/List;IZLjava/util/List;)V" } : Jvm.MethodName) prog_118_method_1_code (9 : Nat) (Option.none : Option Jvm.ClassFile.FieldType)).before args0 about1 = true := code_word (m := ⟨15, 0⟩) (meth := k15m0) (c := k15c0) (by decide +kernel) rfl rfl rfl (by decide +kernel)
set_option maxRecDepth 65536 in
theorem w_c14 : (Jvm.Cond.code ({ cls := "java/util/ArrayList", name := "get", desc := "(I)Ljava/lang/Object;" } : Jvm.MethodName) jdk_38_method_20_code (2 : Nat) (Option.some (Jvm.ClassFile.FieldType.object "java/lang/Object"))).before args0 about1 = true := code_word (m := ⟨12, 7⟩) (meth := k12m7) (c := k12c7) (by decide +kernel) rfl rfl rfl (by decide +kernel)
set_option maxRecDepth 65536 in
theorem w_c15 : (Jvm.Cond.code ({ cls := "java/util/Objects", name := "checkIndex", desc := "(II)I" } : Jvm.MethodName) jdk_31_method_17_code (2 : Nat) (Option.some Jvm.ClassFile.FieldType.int)).before args0 about1 = true := code_word (m := ⟨16, 2⟩) (meth := k16m2) (c := k16c2) (by decide +kernel) rfl rfl rfl (by decide +kernel)
set_option maxRecDepth 65536 in
theorem w_c16 : (Jvm.Cond.code ({ cls := "jdk/internal/util/Preconditions", name := "checkIndex", desc := "(IILjava/util/function/BiFunction;)I" } : Jvm.MethodName) jdk_41_method_11_code (3 : Nat) (Option.some Jvm.ClassFile.FieldType.int)).before args0 about1 = true := code_word (m := ⟨17, 1⟩) (meth := k17m1) (c := k17c1) (by decide +kernel) rfl rfl rfl (by decide +kernel)
set_option maxRecDepth 65536 in
theorem w_c17 : (Jvm.Cond.code ({ cls := "java/util/ArrayList", name := "elementData", desc := "(I)Ljava/lang/Object;" } : Jvm.MethodName) jdk_38_method_18_code (2 : Nat) (Option.some (Jvm.ClassFile.FieldType.object "java/lang/Object"))).before args0 about1 = true := code_word (m := ⟨12, 6⟩) (meth := k12m6) (c := k12c6) (by decide +kernel) rfl rfl rfl (by decide +kernel)
set_option maxRecDepth 65536 in
theorem w_c18 : (Jvm.Cond.code ({ cls := "java/util/List", name := "copyOf", desc := "(Ljava/util/Collection;)Ljava/util/List;" } : Jvm.MethodName) jdk_40_method_48_code (1 : Nat) (Option.some (Jvm.ClassFile.FieldType.object "java/util/List"))).before args0 about1 = true := code_word (m := ⟨7, 6⟩) (meth := k7m6) (c := k7c6) (by decide +kernel) rfl rfl rfl (by decide +kernel)
set_option maxRecDepth 65536 in
theorem w_c19 : (Jvm.Cond.code ({ cls := "java/util/ImmutableCollections", name := "listCopy", desc := "(Ljava/util/Collection;)Ljava/util/List;" } : Jvm.MethodName) jdk_56_method_3_code (2 : Nat) (Option.some (Jvm.ClassFile.FieldType.object "java/util/List"))).before args0 about1 = true := code_word (m := ⟨18, 1⟩) (meth := k18m1) (c := k18c1) (by decide +kernel) rfl rfl rfl (by decide +kernel)
set_option maxRecDepth 65536 in
theorem w_c20 : (Jvm.Cond.code ({ cls := "java/util/ArrayList", name := "isEmpty", desc := "()Z" } : Jvm.MethodName) jdk_38_method_9_code (1 : Nat) (Option.some Jvm.ClassFile.FieldType.boolean)).before args0 about1 = true := code_word (m := ⟨12, 4⟩) (meth := k12m4) (c := k12c4) (by decide +kernel) rfl rfl rfl (by decide +kernel)
set_option maxRecDepth 65536 in
theorem w_c21 : (Jvm.Cond.code ({ cls := "java/util/ArrayList", name := "toArray", desc := "()[Ljava/lang/Object;" } : Jvm.MethodName) jdk_38_method_16_code (1 : Nat) (Option.some (Jvm.ClassFile.FieldType.array (Jvm.ClassFile.FieldType.object "java/lang/Object")))).before args0 about1 = true := code_word (m := ⟨12, 5⟩) (meth := k12m5) (c := k12c5) (by decide +kernel) rfl rfl rfl (by decide +kernel)
set_option maxRecDepth 65536 in
theorem w_c22 : (Jvm.Cond.code ({ cls := "java/util/Arrays", name := "copyOf", desc := "([Ljava/lang/Object;I)[Ljava/lang/Object;" } : Jvm.MethodName) jdk_65_method_119_code (2 : Nat) (Option.some (Jvm.ClassFile.FieldType.array (Jvm.ClassFile.FieldType.object "java/lang/Object")))).before args0 about1 = true := code_word (m := ⟨23, 1⟩) (meth := k23m1) (c := k23c1) (by decide +kernel) rfl rfl rfl (by decide +kernel)
set_option maxRecDepth 65536 in
theorem w_c23 : (Jvm.Cond.code ({ cls := "java/util/Arrays", name := "copyOf", desc := "([Ljava/lang/Object;ILjava/lang/Class;)[Ljava/lang/Object;" } : Jvm.MethodName) jdk_65_method_120_code (4 : Nat) (Option.some (Jvm.ClassFile.FieldType.array (Jvm.ClassFile.FieldType.object "java/lang/Object")))).before args0 about1 = true := code_word (m := ⟨23, 2⟩) (meth := k23m2) (c := k23c2) (by decide +kernel) rfl rfl rfl (by decide +kernel)
set_option maxRecDepth 65536 in
theorem w_c24 : (Jvm.Cond.code ({ cls := "java/lang/Math", name := "min", desc := "(II)I" } : Jvm.MethodName) jdk_29_method_69_code (2 : Nat) (Option.some Jvm.ClassFile.FieldType.int)).before args0 about1 = true := code_word (m := ⟨14, 2⟩) (meth := k14m2) (c := k14c2) (by decide +kernel) rfl rfl rfl (by decide +kernel)
set_option maxRecDepth 65536 in
theorem w_c25 : (Jvm.Cond.code ({ cls := "java/util/List", name := "of", desc := "([Ljava/lang/Object;)Ljava/util/List;" } : Jvm.MethodName) jdk_40_method_47_code (2 : Nat) (Option.some (Jvm.ClassFile.FieldType.object "java/util/List"))).before args0 about1 = true := code_word (m := ⟨7, 5⟩) (meth := k7m5) (c := k7c5) (by decide +kernel) rfl rfl rfl (by decide +kernel)
set_option maxRecDepth 65536 in
theorem w_c26 : (Jvm.Cond.code ({ cls := "java/util/ImmutableCollections$List12", name := "<init>", desc := "(Ljava/lang/Object;)V" } : Jvm.MethodName) jdk_44_method_1_code (2 : Nat) (Option.none : Option Jvm.ClassFile.FieldType)).before args0 about1 = true := code_word (m := ⟨21, 0⟩) (meth := k21m0) (c := k21c0) (by decide +kernel) rfl rfl rfl (by decide +kernel)
set_option maxRecDepth 65536 in
theorem w_c27 : (Jvm.Cond.code ({ cls := "java/util/ImmutableCollections$AbstractImmutableList", name := "<init>", desc := "()V" } : Jvm.MethodName) jdk_46_method_1_code (1 : Nat) (Option.none : Option Jvm.ClassFile.FieldType)).before args0 about1 = true := code_word (m := ⟨20, 0⟩) (meth := k20m0) (c := k20c0) (by decide +kernel) rfl rfl rfl (by decide +kernel)
set_option maxRecDepth 65536 in
theorem w_c28 : (Jvm.Cond.code ({ cls := "java/util/ImmutableCollections$AbstractImmutableCollection", name := "<init>", desc := "()V" } : Jvm.MethodName) jdk_47_method_1_code (1 : Nat) (Option.none : Option Jvm.ClassFile.FieldType)).before args0 about1 = true := code_word (m := ⟨19, 0⟩) (meth := k19m0) (c := k19c0) (by decide +kernel) rfl rfl rfl (by decide +kernel)
set_option maxRecDepth 65536 in
theorem w_c29 : (Jvm.Cond.code ({ cls := "java/util/Objects", name := "requireNonNull", desc := "(Ljava/lang/Object;)Ljava/lang/Object;" } : Jvm.MethodName) jdk_31_method_10_code (1 : Nat) (Option.some (Jvm.ClassFile.FieldType.object "java/lang/Object"))).before args0 about1 = true := code_word (m := ⟨16, 1⟩) (meth := k16m1) (c := k16c1) (by decide +kernel) rfl rfl rfl (by decide +kernel)
set_option maxRecDepth 65536 in
theorem w_c30 : (Jvm.Cond.code ({ cls := "java/util/ImmutableCollections$List12", name := "size", desc := "()I" } : Jvm.MethodName) jdk_44_method_3_code (1 : Nat) (Option.some Jvm.ClassFile.FieldType.int)).before args0 about1 = true := code_word (m := ⟨21, 2⟩) (meth := k21m2) (c := k21c2) (by decide +kernel) rfl rfl rfl (by decide +kernel)
set_option maxRecDepth 65536 in
theorem w_c31 : (Jvm.Cond.code ({ cls := "java/util/ImmutableCollections$AbstractImmutableList", name := "subList", desc := "(II)Ljava/util/List;" } : Jvm.MethodName) jdk_46_method_8_code (4 : Nat) (Option.some (Jvm.ClassFile.FieldType.object "java/util/List"))).before args0 about1 = true := code_word (m := ⟨20, 1⟩) (meth := k20m1) (c := k20c1) (by decide +kernel) rfl rfl rfl (by decide +kernel)
set_option maxRecDepth 65536 in
theorem w_c32 : (Jvm.Cond.code ({ cls := "java/util/ImmutableCollections$AbstractImmutableList", name := "subListRangeCheck", desc := "(III)V" } : Jvm.MethodName) jdk_46_method_9_code (3 : Nat) (Option.none : Option Jvm.ClassFile.FieldType)).before args0 about1 = true := code_word (m := ⟨20, 2⟩) (meth := k20m2) (c := k20c2) (by decide +kernel) rfl rfl rfl (by decide +kernel)
set_option maxRecDepth 65536 in
theorem w_c33 : (Jvm.Cond.code ({ cls := "java/util/ImmutableCollections$SubList", name := "fromList", desc := "(Ljava/util/ImmutableCollections$AbstractImmutableList;II)Ljava/util/ImmutableCollections$SubList;" } : Jvm.MethodName) jdk_2608_method_3_code (3 : Nat) (Option.some (Jvm.ClassFile.FieldType.object "java/util/ImmutableCollections$SubList"))).before args0 about1 = true := code_word (m := ⟨25, 1⟩) (meth := k25m1) (c := k25c1) (by decide +kernel) rfl rfl rfl (by decide +kernel)
set_option maxRecDepth 65536 in
theorem w_c34 : (Jvm.Cond.code ({ cls := "java/util/ImmutableCollections$SubList", name := "<init>", desc := "(Ljava/util/ImmutableCollections$AbstractImmutableList;II)V" } : Jvm.MethodName) jdk_2608_method_1_code (4 : Nat) (Option.none : Option Jvm.ClassFile.FieldType)).before args0 about1 = true := code_word (m := ⟨25, 0⟩) (meth := k25m0) (c := k25c0) (by decide +kernel) rfl rfl rfl (by decide +kernel)
set_option maxRecDepth 65536 in
theorem w_c35 : (Jvm.Cond.code ({ cls := "java/util/List", name := "of", desc := "()Ljava/util/List;" } : Jvm.MethodName) jdk_40_method_36_code (0 : Nat) (Option.some (Jvm.ClassFile.FieldType.object "java/util/List"))).before args0 about1 = true := code_word (m := ⟨7, 4⟩) (meth := k7m4) (c := k7c4) (by decide +kernel) rfl rfl rfl (by decide +kernel)
set_option maxRecDepth 65536 in
theorem w_c36 : (Jvm.Cond.code ({ cls := "com/example/firm_handshake/firmhandshake/model/Location", name := "ranksAbove", desc := "(II)Z" } : Jvm.MethodName) prog_118_method_7_code (7 : Nat) (Option.some Jvm.ClassFile.FieldType.boolean)).before args0 about1 = true := code_word (m := ⟨15, 1⟩) (meth := k15m1) (c := k15c1) (by decide +kernel) rfl rfl rfl (by decide +kernel)
set_option maxRecDepth 65536 in
theorem w_c37 : (Jvm.Cond.code ({ cls := "java/lang/Integer", name := "valueOf", desc := "(I)Ljava/lang/Integer;" } : Jvm.MethodName) jdk_33_method_22_code (1 : Nat) (Option.some (Jvm.ClassFile.FieldType.object "java/lang/Integer"))).before args0 about1 = true := code_word (m := ⟨30, 0⟩) (meth := k30m0) (c := k30c0) (by decide +kernel) rfl rfl rfl (by decide +kernel)
set_option maxRecDepth 65536 in
theorem w_c38 : (Jvm.Cond.code ({ cls := "java/util/ImmutableCollections", name := "listFromArray", desc := "([Ljava/lang/Object;)Ljava/util/List;" } : Jvm.MethodName) jdk_56_method_4_code (3 : Nat) (Option.some (Jvm.ClassFile.FieldType.object "java/util/List"))).before args0 about1 = true := code_word (m := ⟨18, 2⟩) (meth := k18m2) (c := k18c2) (by decide +kernel) rfl rfl rfl (by decide +kernel)
set_option maxRecDepth 65536 in
theorem w_c39 : (Jvm.Cond.code ({ cls := "java/util/ImmutableCollections$ListN", name := "<init>", desc := "([Ljava/lang/Object;Z)V" } : Jvm.MethodName) jdk_45_method_1_code (3 : Nat) (Option.none : Option Jvm.ClassFile.FieldType)).before args0 about1 = true := code_word (m := ⟨22, 0⟩) (meth := k22m0) (c := k22c0) (by decide +kernel) rfl rfl rfl (by decide +kernel)
set_option maxRecDepth 65536 in
theorem w_c40 : (Jvm.Cond.code ({ cls := "java/util/ImmutableCollections$ListN", name := "size", desc := "()I" } : Jvm.MethodName) jdk_45_method_3_code (1 : Nat) (Option.some Jvm.ClassFile.FieldType.int)).before args0 about1 = true := code_word (m := ⟨22, 1⟩) (meth := k22m1) (c := k22c1) (by decide +kernel) rfl rfl rfl (by decide +kernel)
set_option maxRecDepth 65536 in
theorem w_c41 : (Jvm.Cond.code ({ cls := "java/util/ImmutableCollections$List12", name := "<init>", desc := "(Ljava/lang/Object;Ljava/lang/Object;)V" } : Jvm.MethodName) jdk_44_method_2_code (3 : Nat) (Option.none : Option Jvm.ClassFile.FieldType)).before args0 about1 = true := code_word (m := ⟨21, 1⟩) (meth := k21m1) (c := k21c1) (by decide +kernel) rfl rfl rfl (by decide +kernel)
set_option maxRecDepth 65536 in
theorem w_c42 : (Jvm.Cond.code ({ cls := "java/lang/Integer", name := "intValue", desc := "()I" } : Jvm.MethodName) jdk_33_method_27_code (1 : Nat) (Option.some Jvm.ClassFile.FieldType.int)).before args0 about1 = true := code_word (m := ⟨30, 1⟩) (meth := k30m1) (c := k30c1) (by decide +kernel) rfl rfl rfl (by decide +kernel)
def codes1 : List Jvm.Cond := [Jvm.Cond.code x code maxLocals ret, Jvm.Cond.code ({ cls := "com/example/firm_handshake/firmhandshake/model/Transition", name := "<init>", desc := "(Lcom/example/firm_handshake/firmhandshake/model/Action;ILcom/example/firm_handshake/firmhandshake/model/Transition$Continuation;I)V" } : Jvm.MethodName) prog_157_method_1_code (5 : Nat) (Option.none : Option Jvm.ClassFile.FieldType), Jvm.Cond.code ({ cls := "java/lang/Object", name := "<init>", desc := "()V" } : Jvm.MethodName) object_method_1_code (1 : Nat) (Option.none : Option Jvm.ClassFile.FieldType), Jvm.Cond.code ({ cls := "java/util/ArrayList", name := "<init>", desc := "()V" } : Jvm.MethodName) jdk_38_method_2_code (1 : Nat) (Option.none : Option Jvm.ClassFile.FieldType), Jvm.Cond.code ({ cls := "java/util/AbstractList", name := "<init>", desc := "()V" } : Jvm.MethodName) jdk_39_method_1_code (1 : Nat) (Option.none : Option Jvm.ClassFile.FieldType), Jvm.Cond.code ({ cls := "java/util/AbstractCollection", name := "<init>", desc := "()V" } : Jvm.MethodName) jdk_22_method_1_code (1 : Nat) (Option.none : Option Jvm.ClassFile.FieldType), Jvm.Cond.code ({ cls := "com/example/firm_handshake/firmhandshake/model/Location$Move", name := "<init>", desc := "(Lcom/example/firm_handshake/firmhandshake/model/Transition;Ljava/util/List;)V" } : Jvm.MethodName) prog_119_method_1_code (4 : Nat) (Option.none : Option Jvm.ClassFile.FieldType), Jvm.Cond.code ({ cls := "java/util/ArrayList", name := "size", desc := "()I" } : Jvm.MethodName) jdk_38_method_8_code (1 : Nat) (Option.some Jvm.ClassFile.FieldType.int), Jvm.Cond.code ({ cls := "java/util/ArrayList", name := "add", desc := "(Ljava/lang/Object;)Z" } : Jvm.MethodName) jdk_38_method_25_code (2 : Nat) (Option.some Jvm.ClassFile.FieldType.boolean), Jvm.Cond.code ({ cls := "java/util/ArrayList", name := "add", desc := "(Ljava/lang/Object;[Ljava/lang/Object;I)V" } : Jvm.MethodName) jdk_38_method_24_code (4 : Nat) (Option.none : Option Jvm.ClassFile.FieldType), Jvm.Cond.code ({ cls := "java/util/ArrayList", name := "grow", desc := "()[Ljava/lang/Object;" } : Jvm.MethodName) jdk_38_method_7_code (1 : Nat) (Option.some (Jvm.ClassFile.FieldType.array (Jvm.ClassFile.FieldType.object "java/lang/Object"))), Jvm.Cond.code ({ cls := "java/util/ArrayList", name := "grow", desc := "(I)[Ljava/lang/Object;" } : Jvm.MethodName) jdk_38_method_6_code (4 : Nat) (Option.some (Jvm.ClassFile.FieldType.array (Jvm.ClassFile.FieldType.object "java/lang/Object"))), Jvm.Cond.code ({ cls := "java/lang/Math", name := "max", desc := "(II)I" } : Jvm.MethodName) jdk_29_method_65_code (2 : Nat) (Option.some Jvm.ClassFile.FieldType.int), Jvm.Cond.code ({ cls := "com/example/firm_handshake/firmhandshake/model/Location", name := "<init>", desc := "(Ljava/util/List;Ljava/util/List;IZLjava/util/List;)V" } : Jvm.MethodName) prog_118_method_1_code (9 : Nat) (Option.none : Option Jvm.ClassFile.FieldType), Jvm.Cond.code ({ cls := "java/util/ArrayList", name := "get", desc := "(I)Ljava/lang/Object;" } : Jvm.MethodName) jdk_38_method_20_code (2 : Nat) (Option.some (Jvm.ClassFile.FieldType.object "java/lang/Object")), Jvm.Cond.code ({ cls := "java/util/Objects", name := "checkIndex", desc := "(II)I" } : Jvm.MethodName) jdk_31_method_17_code (2 : Nat) (Option.some Jvm.ClassFile.FieldType.int), Jvm.Cond.code ({ cls := "jdk/internal/util/Preconditions", name := "checkIndex", desc := "(IILjava/util/function/BiFunction;)I" } : Jvm.MethodName) jdk_41_method_11_code (3 : Nat) (Option.some Jvm.ClassFile.FieldType.int), Jvm.Cond.code ({ cls := "java/util/ArrayList", name := "elementData", desc := "(I)Ljava/lang/Object;" } : Jvm.MethodName) jdk_38_method_18_code (2 : Nat) (Option.some (Jvm.ClassFile.FieldType.object "java/lang/Object")), Jvm.Cond.code ({ cls := "java/util/List", name := "copyOf", desc := "(Ljava/util/Collection;)Ljava/util/List;" } : Jvm.MethodName) jdk_40_method_48_code (1 : Nat) (Option.some (Jvm.ClassFile.FieldType.object "java/util/List")), Jvm.Cond.code ({ cls := "java/util/ImmutableCollections", name := "listCopy", desc := "(Ljava/util/Collection;)Ljava/util/List;" } : Jvm.MethodName) jdk_56_method_3_code (2 : Nat) (Option.some (Jvm.ClassFile.FieldType.object "java/util/List")), Jvm.Cond.code ({ cls := "java/util/ArrayList", name := "isEmpty", desc := "()Z" } : Jvm.MethodName) jdk_38_method_9_code (1 : Nat) (Option.some Jvm.ClassFile.FieldType.boolean), Jvm.Cond.code ({ cls := "java/util/ArrayList", name := "toArray", desc := "()[Ljava/lang/Object;" } : Jvm.MethodName) jdk_38_method_16_code (1 : Nat) (Option.some (Jvm.ClassFile.FieldType.array (Jvm.ClassFile.FieldType.object "java/lang/Object"))), Jvm.Cond.code ({ cls := "java/util/Arrays", name := "copyOf", desc := "([Ljava/lang/Object;I)[Ljava/lang/Object;" } : Jvm.MethodName) jdk_65_method_119_code (2 : Nat) (Option.some (Jvm.ClassFile.FieldType.array (Jvm.ClassFile.FieldType.object "java/lang/Object"))), Jvm.Cond.code ({ cls := "java/util/Arrays", name := "copyOf", desc := "([Ljava/lang/Object;ILjava/lang/Class;)[Ljava/lang/Object;" } : Jvm.MethodName) jdk_65_method_120_code (4 : Nat) (Option.some (Jvm.ClassFile.FieldType.array (Jvm.ClassFile.FieldType.object "java/lang/Object"))), Jvm.Cond.code ({ cls := "java/lang/Math", name := "min", desc := "(II)I" } : Jvm.MethodName) jdk_29_method_69_code (2 : Nat) (Option.some Jvm.ClassFile.FieldType.int), Jvm.Cond.code ({ cls := "java/util/List", name := "of", desc := "([Ljava/lang/Object;)Ljava/util/List;" } : Jvm.MethodName) jdk_40_method_47_code (2 : Nat) (Option.some (Jvm.ClassFile.FieldType.object "java/util/List")), Jvm.Cond.code ({ cls := "java/util/ImmutableCollections$List12", name := "<init>", desc := "(Ljava/lang/Object;)V" } : Jvm.MethodName) jdk_44_method_1_code (2 : Nat) (Option.none : Option Jvm.ClassFile.FieldType), Jvm.Cond.code ({ cls := "java/util/ImmutableCollections$AbstractImmutableList", name := "<init>", desc := "()V" } : Jvm.MethodName) jdk_46_method_1_code (1 : Nat) (Option.none : Option Jvm.ClassFile.FieldType), Jvm.Cond.code ({ cls := "java/util/ImmutableCollections$AbstractImmutableCollection", name := "<init>", desc := "()V" } : Jvm.MethodName) jdk_47_method_1_code (1 : Nat) (Option.none : Option Jvm.ClassFile.FieldType), Jvm.Cond.code ({ cls := "java/util/Objects", name := "requireNonNull", desc := "(Ljava/lang/Object;)Ljava/lang/Object;" } : Jvm.MethodName) jdk_31_method_10_code (1 : Nat) (Option.some (Jvm.ClassFile.FieldType.object "java/lang/Object")), Jvm.Cond.code ({ cls := "java/util/ImmutableCollections$List12", name := "size", desc := "()I" } : Jvm.MethodName) jdk_44_method_3_code (1 : Nat) (Option.some Jvm.ClassFile.FieldType.int), Jvm.Cond.code ({ cls := "java/util/ImmutableCollections$AbstractImmutableList", name := "subList", desc := "(II)Ljava/util/List;" } : Jvm.MethodName) jdk_46_method_8_code (4 : Nat) (Option.some (Jvm.ClassFile.FieldType.object "java/util/List")), Jvm.Cond.code ({ cls := "java/util/ImmutableCollections$AbstractImmutableList", name := "subListRangeCheck", desc := "(III)V" } : Jvm.MethodName) jdk_46_method_9_code (3 : Nat) (Option.none : Option Jvm.ClassFile.FieldType), Jvm.Cond.code ({ cls := "java/util/ImmutableCollections$SubList", name := "fromList", desc := "(Ljava/util/ImmutableCollections$AbstractImmutableList;II)Ljava/util/ImmutableCollections$SubList;" } : Jvm.MethodName) jdk_2608_method_3_code (3 : Nat) (Option.some (Jvm.ClassFile.FieldType.object "java/util/ImmutableCollections$SubList")), Jvm.Cond.code ({ cls := "java/util/ImmutableCollections$SubList", name := "<init>", desc := "(Ljava/util/ImmutableCollections$AbstractImmutableList;II)V" } : Jvm.MethodName) jdk_2608_method_1_code (4 : Nat) (Option.none : Option Jvm.ClassFile.FieldType), Jvm.Cond.code ({ cls := "java/util/List", name := "of", desc := "()Ljava/util/List;" } : Jvm.MethodName) jdk_40_method_36_code (0 : Nat) (Option.some (Jvm.ClassFile.FieldType.object "java/util/List")), Jvm.Cond.code ({ cls := "com/example/firm_handshake/firmhandshake/model/Location", name := "ranksAbove", desc := "(II)Z" } : Jvm.MethodName) prog_118_method_7_code (7 : Nat) (Option.some Jvm.ClassFile.FieldType.boolean), Jvm.Cond.code ({ cls := "java/lang/Integer", name := "valueOf", desc := "(I)Ljava/lang/Integer;" } : Jvm.MethodName) jdk_33_method_22_code (1 : Nat) (Option.some (Jvm.ClassFile.FieldType.object "java/lang/Integer")), Jvm.Cond.code ({ cls := "java/util/ImmutableCollections", name := "listFromArray", desc := "([Ljava/lang/Object;)Ljava/util/List;" } : Jvm.MethodName) jdk_56_method_4_code (3 : Nat) (Option.some (Jvm.ClassFile.FieldType.object "java/util/List")), Jvm.Cond.code ({ cls := "java/util/ImmutableCollections$ListN", name := "<init>", desc := "([Ljava/lang/Object;Z)V" } : Jvm.MethodName) jdk_45_method_1_code (3 : Nat) (Option.none : Option Jvm.ClassFile.FieldType), Jvm.Cond.code ({ cls := "java/util/ImmutableCollections$ListN", name := "size", desc := "()I" } : Jvm.MethodName) jdk_45_method_3_code (1 : Nat) (Option.some Jvm.ClassFile.FieldType.int), Jvm.Cond.code ({ cls := "java/util/ImmutableCollections$List12", name := "<init>", desc := "(Ljava/lang/Object;Ljava/lang/Object;)V" } : Jvm.MethodName) jdk_44_method_2_code (3 : Nat) (Option.none : Option Jvm.ClassFile.FieldType), Jvm.Cond.code ({ cls := "java/lang/Integer", name := "intValue", desc := "()I" } : Jvm.MethodName) jdk_33_method_27_code (1 : Nat) (Option.some Jvm.ClassFile.FieldType.int)]
set_option maxRecDepth 65536 in
theorem codes_eq : words1.filter isCode = codes1 := rfl
theorem w_codes : ∀ c ∈ words1.filter isCode, c.before args0 about1 = true := by
  rw [codes_eq]
  intro c hc
  simp only [codes1, List.mem_cons, List.not_mem_nil, or_false] at hc
  rcases hc with rfl | rfl | rfl | rfl | rfl | rfl | rfl | rfl | rfl | rfl | rfl | rfl | rfl | rfl | rfl | rfl | rfl | rfl | rfl | rfl | rfl | rfl | rfl | rfl | rfl | rfl | rfl | rfl | rfl | rfl | rfl | rfl | rfl | rfl | rfl | rfl | rfl | rfl | rfl | rfl | rfl | rfl | rfl
  · exact w_c0
  · exact w_c1
  · exact w_c2
  · exact w_c3
  · exact w_c4
  · exact w_c5
  · exact w_c6
  · exact w_c7
  · exact w_c8
  · exact w_c9
  · exact w_c10
  · exact w_c11
  · exact w_c12
  · exact w_c13
  · exact w_c14
  · exact w_c15
  · exact w_c16
  · exact w_c17
  · exact w_c18
  · exact w_c19
  · exact w_c20
  · exact w_c21
  · exact w_c22
  · exact w_c23
  · exact w_c24
  · exact w_c25
  · exact w_c26
  · exact w_c27
  · exact w_c28
  · exact w_c29
  · exact w_c30
  · exact w_c31
  · exact w_c32
  · exact w_c33
  · exact w_c34
  · exact w_c35
  · exact w_c36
  · exact w_c37
  · exact w_c38
  · exact w_c39
  · exact w_c40
  · exact w_c41
  · exact w_c42
set_option maxRecDepth 65536 in
theorem w_t1 : (words1.take 24).all (fun c => isCode c || c.before args0 about1) = true := by decide +kernel
set_option maxRecDepth 65536 in
theorem w_t2 : ((words1.drop 24).take 24).all (fun c => isCode c || c.before args0 about1) = true := by decide +kernel
set_option maxRecDepth 65536 in
theorem w_t3 : (((words1.drop 24).drop 24).take 24).all (fun c => isCode c || c.before args0 about1) = true := by decide +kernel
set_option maxRecDepth 65536 in
theorem w_t4 : ((((words1.drop 24).drop 24).drop 24).take 24).all (fun c => isCode c || c.before args0 about1) = true := by decide +kernel
set_option maxRecDepth 65536 in
theorem w_t5 : (((((words1.drop 24).drop 24).drop 24).drop 24).take 24).all (fun c => isCode c || c.before args0 about1) = true := by decide +kernel
set_option maxRecDepth 65536 in
theorem w_t6 : ((((((words1.drop 24).drop 24).drop 24).drop 24).drop 24).take 24).all (fun c => isCode c || c.before args0 about1) = true := by decide +kernel
set_option maxRecDepth 65536 in
theorem w_t7 : (((((((words1.drop 24).drop 24).drop 24).drop 24).drop 24).drop 24).take 24).all (fun c => isCode c || c.before args0 about1) = true := by decide +kernel
set_option maxRecDepth 65536 in
theorem w_t8 : ((((((((words1.drop 24).drop 24).drop 24).drop 24).drop 24).drop 24).drop 24).take 24).all (fun c => isCode c || c.before args0 about1) = true := by decide +kernel
set_option maxRecDepth 65536 in
theorem w_t9 : (((((((((words1.drop 24).drop 24).drop 24).drop 24).drop 24).drop 24).drop 24).drop 24).take 24).all (fun c => isCode c || c.before args0 about1) = true := by decide +kernel
set_option maxRecDepth 65536 in
theorem w_t10 : ((((((((((words1.drop 24).drop 24).drop 24).drop 24).drop 24).drop 24).drop 24).drop 24).drop 24).take 24).all (fun c => isCode c || c.before args0 about1) = true := by decide +kernel
set_option maxRecDepth 65536 in
theorem w_t11 : (((((((((((words1.drop 24).drop 24).drop 24).drop 24).drop 24).drop 24).drop 24).drop 24).drop 24).drop 24).take 24).all (fun c => isCode c || c.before args0 about1) = true := by decide +kernel
set_option maxRecDepth 65536 in
theorem w_t12 : ((((((((((((words1.drop 24).drop 24).drop 24).drop 24).drop 24).drop 24).drop 24).drop 24).drop 24).drop 24).drop 24).take 24).all (fun c => isCode c || c.before args0 about1) = true := by decide +kernel
set_option maxRecDepth 65536 in
theorem w_t13 : (((((((((((((words1.drop 24).drop 24).drop 24).drop 24).drop 24).drop 24).drop 24).drop 24).drop 24).drop 24).drop 24).drop 24).take 24).all (fun c => isCode c || c.before args0 about1) = true := by decide +kernel
set_option maxRecDepth 65536 in
theorem w_t14 : ((((((((((((((words1.drop 24).drop 24).drop 24).drop 24).drop 24).drop 24).drop 24).drop 24).drop 24).drop 24).drop 24).drop 24).drop 24).take 24).all (fun c => isCode c || c.before args0 about1) = true := by decide +kernel
set_option maxRecDepth 65536 in
theorem w_t15 : ((((((((((((((words1.drop 24).drop 24).drop 24).drop 24).drop 24).drop 24).drop 24).drop 24).drop 24).drop 24).drop 24).drop 24).drop 24).drop 24).all (fun c => isCode c || c.before args0 about1) = true := by decide +kernel
theorem w_tables : (allAtoms (Jvm.Cond.code x code maxLocals ret :: tables_1)).before args0 about1 = true := by
  rw [allAtoms_all]
  show words1.all (fun c => c.before args0 about1) = true
  refine all_split ?_ w_codes
  rw [← List.take_append_drop 24 words1, List.all_append, w_t1, ← List.take_append_drop 24 (words1.drop 24), List.all_append, w_t2, ← List.take_append_drop 24 ((words1.drop 24).drop 24), List.all_append, w_t3, ← List.take_append_drop 24 (((words1.drop 24).drop 24).drop 24), List.all_append, w_t4, ← List.take_append_drop 24 ((((words1.drop 24).drop 24).drop 24).drop 24), List.all_append, w_t5, ← List.take_append_drop 24 (((((words1.drop 24).drop 24).drop 24).drop 24).drop 24), List.all_append, w_t6, ← List.take_append_drop 24 ((((((words1.drop 24).drop 24).drop 24).drop 24).drop 24).drop 24), List.all_append, w_t7, ← List.take_append_drop 24 (((((((words1.drop 24).drop 24).drop 24).drop 24).drop 24).drop 24).drop 24), List.all_append, w_t8, ← List.take_append_drop 24 ((((((((words1.drop 24).drop 24).drop 24).drop 24).drop 24).drop 24).drop 24).drop 24), List.all_append, w_t9, ← List.take_append_drop 24 (((((((((words1.drop 24).drop 24).drop 24).drop 24).drop 24).drop 24).drop 24).drop 24).drop 24), List.all_append, w_t10, ← List.take_append_drop 24 ((((((((((words1.drop 24).drop 24).drop 24).drop 24).drop 24).drop 24).drop 24).drop 24).drop 24).drop 24), List.all_append, w_t11, ← List.take_append_drop 24 (((((((((((words1.drop 24).drop 24).drop 24).drop 24).drop 24).drop 24).drop 24).drop 24).drop 24).drop 24).drop 24), List.all_append, w_t12, ← List.take_append_drop 24 ((((((((((((words1.drop 24).drop 24).drop 24).drop 24).drop 24).drop 24).drop 24).drop 24).drop 24).drop 24).drop 24).drop 24), List.all_append, w_t13, ← List.take_append_drop 24 (((((((((((((words1.drop 24).drop 24).drop 24).drop 24).drop 24).drop 24).drop 24).drop 24).drop 24).drop 24).drop 24).drop 24).drop 24), List.all_append, w_t14, w_t15]
  rfl
set_option maxRecDepth 65536 in
theorem w_rest : rest_1_c.before args0 about1 = true := by decide +kernel
set_option maxRecDepth 65536 in
theorem w_case : (Jvm.Cond.and given_1 narrow_1).before args0 about1 = true := by decide +kernel
theorem w_applies : (headSpec (Jvm.Cond.code x code maxLocals ret :: tables_1) room_1).applies x e0.platform about1 = true :=
  (Spec.applies_iff w_frames).mpr ⟨w_running, w_runnable, w_alone, w_named, w_hears, w_ripe, w_room, w_tables⟩
set_option maxRecDepth 65536 in
theorem atStart : AtStart classFile x code maxLocals ret World_1 tables_1 room_1 Calls_1 rest_1 Pre_1 launch0 p0 e0 about1 theMethod args0 below0 :=
  ⟨lists_1, trivial, launch0.admits_env _ _ _, launch0.least_env, fairChoices_fair.cas, fairChoices_fair.clock, w_frames, w_args, w_heap, w_applies, ⟨⟨38, k38, 4, by decide +kernel, rfl, rfl, _, rfl, rfl⟩, trivial⟩, w_rest, w_case⟩
end start1
theorem witness_1 : WitnessClaimed_1 := ⟨start1.p0, start1.e0, start1.about1, start1.theMethod, start1.args0, start1.below0, start1.atStart⟩
end Jvm.Pilot.@@N@@
