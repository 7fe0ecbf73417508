import JvmDerived
import JvmDerived.Pilot.@@N@@Statement
import JvmDerived.Pilot.@@N@@Code
set_option linter.unusedVariables false
set_option linter.unusedSimpArgs false
namespace Jvm.RoadKit
open Sem ClassFile Op Lib Jvm.Stand Jvm.Free Jvm.LawKit
section New
variable {p : Program} {l : Launch} {e : Env} {R : Room} {s : State} {m : MethodId} {args : Array Value} {below : List Frame} {meth : Method} {c : Code} {T : State} {locs : List Loc} {cells slots : Nat}
theorem retI (X : Stand p l e R s m args below meth c T locs cells slots) (hx : p.tables.exec = Jvm.exec) {pc : Nat} {Ls : Array Slot} {z : Int32} {rest : List Value} (hret : meth.sig.returnType = some .int) (hd : decode c.code pc = .ok (.ireturn, 1)) {fs : List Frame}
    (hl : ∀ (f : JFrame) (acts : List Action), f.method = m → f.locked = none → f.entered = [] → (doReturn e (T.setTop f) acts (some (.int z))).1 = T.setFrames fs) : Steps p.tables e below (T.setTop (mkF m pc Ls (.int z :: rest))) (T.setFrames fs) := by
  have hm' : T.vm.method? m = some meth := X.method'
  have hn : narrow .int (.int z) = .int z := rfl
  show Steps p.tables e below (T.setTop { method := m, pc := pc, locals := Ls, stack := _ :: rest, locked := none }) _
  jvm_step X.here [X.here.top, hx, hd, hm', hret, hn]
  first | (intro acts; rw [hl _ acts rfl rfl rfl]) | rw [hl _ _ rfl rfl rfl]
  exact Steps.refl _
end New
end Jvm.RoadKit
namespace Jvm.Pilot.@@N@@
open Jvm Jvm.ClassFile Sem Op Lib Jvm.Free Jvm.Stand Jvm.LawKit Jvm.RoadKit Bundle Jvm.Pilot.@@N@@.Jvm.D

/-! the walk's goal: from this frame the run comes to its end, and Q holds of what it returns, of the heap and of the places written -/
def Fini (p : Program) (e : Env) (below : List Frame) (s : State) (Q : Option Value → Heap → List Loc → Prop) (C S : Nat) (T : State) (g : JFrame) : Prop :=
  ∃ s₂ o, Steps p.tables e below (T.setTop g) s₂ ∧ s₂.status = .running ∧ Ended s₂ below o ∧ ∃ v L, o = .returned v ∧ Q v s₂.heap L ∧ FrameEnd s o s₂ L C S
abbrev Cmet (l : Launch) (Z : State) (y : MethodName) (bytes : ByteArray) (ml : Nat) (ret : Option FieldType) (ws : List Jvm.Cond) (rm : Room) (as : Array Value) (h0 : Heap) (Q : Option Value → Heap → List Loc → Prop) : Prop :=
  MetFree l y (head1 (Jvm.Cond.code y bytes ml ret :: ws) rm) (fun a U => a = as ∧ Z.Warmed39 U.vm ∧ U.heap = h0) (fun _ _ _ _ _ => True) (fun _ U o U' => ∃ v L, o = .returned v ∧ Q v U'.heap L ∧ FrameEnd U o U' L rm.cells rm.slots)
section Own
variable {p : Program} {l : Launch} {e : Env} {R : Room} {s : State} {m : MethodId} {args : Array Value} {below : List Frame} {meth : Method} {c : Code} {T T' : State} {locs : List Loc} {cells slots : Nat} {Q : Option Value → Heap → List Loc → Prop} {C S : Nat} {g g' : JFrame} {Z : State} {a0 : Array Value} {h : Heap}
theorem Fini.st (k : ∀ t, Steps p.tables e below (T'.setTop g') t → Steps p.tables e below (T.setTop g) t) (f : Fini p e below s Q C S T' g') : Fini p e below s Q C S T g := by
  obtain ⟨s2, o, h1, r⟩ := f
  exact ⟨s2, o, k _ h1, r⟩
theorem Fini.cast (q : g = g') (f : Fini p e below s Q C S T g') : Fini p e below s Q C S T g := q ▸ f
theorem Fini.retI (X : Stand p l e R s m args below meth c T locs cells slots) (hx : p.tables.exec = Jvm.exec) (hl : meth.locks = false) (hret : meth.sig.returnType = some .int) {pc : Nat} {Ls : Array Slot} {z : Int32} {rest : List Value} (hd : decode c.code pc = .ok (.ireturn, 1))
    (hC : cells ≤ C) (hS : slots ≤ S) (hQ : Q (some (.int z)) T.heap locs) : Fini p e below s Q C S T (mkF m pc Ls (.int z :: rest)) := by
  obtain ⟨fs, hr, hrun, hended, hW, hsame⟩ := X.leave (v := some (.int z)) (fun h => by rw [hret] at h; cases h) hl
  exact ⟨_, _, Jvm.RoadKit.retI X hx hret hd hr, hrun, hended, _, _, rfl, hQ, ⟨_, rfl⟩, hW, hsame.mono hC hS⟩
theorem Fini.retN (X : Stand p l e R s m args below meth c T locs cells slots) (hx : p.tables.exec = Jvm.exec) (hl : meth.locks = false) {t : FieldType} (hret : meth.sig.returnType = some t) (ht : t = .boolean ∨ t = .byte ∨ t = .char ∨ t = .short) {pc : Nat} {Ls : Array Slot} {z z' : Int32} {rest : List Value} (hd : decode c.code pc = .ok (.ireturn, 1))
    (hz : nar t z = z') (hC : cells ≤ C) (hS : slots ≤ S) (hQ : Q (some (.int z')) T.heap locs) : Fini p e below s Q C S T (mkF m pc Ls (.int z :: rest)) := by
  subst hz
  obtain ⟨fs, hr, hrun, hended, hW, hsame⟩ := X.leave (v := some (.int (nar t z))) (fun h => by rw [hret] at h; cases h) hl
  exact ⟨_, _, Jvm.RoadKit.retN X hx hret ht hd hr, hrun, hended, _, _, rfl, hQ, ⟨_, rfl⟩, hW, hsame.mono hC hS⟩
theorem Fini.retJ (X : Stand p l e R s m args below meth c T locs cells slots) (hx : p.tables.exec = Jvm.exec) (hl : meth.locks = false) (hret : meth.sig.returnType = some .long) {pc : Nat} {Ls : Array Slot} {z : Int64} {rest : List Value} (hd : decode c.code pc = .ok (.lreturn, 1))
    (hC : cells ≤ C) (hS : slots ≤ S) (hQ : Q (some (.long z)) T.heap locs) : Fini p e below s Q C S T (mkF m pc Ls (.long z :: rest)) := by
  obtain ⟨fs, hr, hrun, hended, hW, hsame⟩ := X.leave (v := some (.long z)) (fun h => by rw [hret] at h; cases h) hl
  exact ⟨_, _, retOut X hx hret rfl (Or.inr (Or.inl ⟨rfl, rfl, z, rfl⟩)) hd hr, hrun, hended, _, _, rfl, hQ, ⟨_, rfl⟩, hW, hsame.mono hC hS⟩
theorem Fini.retA (X : Stand p l e R s m args below meth c T locs cells slots) (hx : p.tables.exec = Jvm.exec) (hl : meth.locks = false) {t : FieldType} (hret : meth.sig.returnType = some t) (ht : t.isReference = true) {pc : Nat} {Ls : Array Slot} {w : Value} {rest : List Value} (hd : decode c.code pc = .ok (.areturn, 1)) (hw : w.isRef = true) (hn : narrow t w = w)
    (hC : cells ≤ C) (hS : slots ≤ S) (hQ : Q (some w) T.heap locs) : Fini p e below s Q C S T (mkF m pc Ls (w :: rest)) := by
  obtain ⟨fs, hr, hrun, hended, hW, hsame⟩ := X.leave (v := some w) (fun h => by rw [hret] at h; cases h) hl
  exact ⟨_, _, retOut X hx hret hn (Or.inr (Or.inr (Or.inr (Or.inr ⟨rfl, ht, hw⟩)))) hd hr, hrun, hended, _, _, rfl, hQ, ⟨_, rfl⟩, hW, hsame.mono hC hS⟩
theorem Fini.ret0 (X : Stand p l e R s m args below meth c T locs cells slots) (hx : p.tables.exec = Jvm.exec) (hl : meth.locks = false) (hret : meth.sig.returnType = none) {pc : Nat} {Ls : Array Slot} (hd : decode c.code pc = .ok (.return_, 1))
    (hC : cells ≤ C) (hS : slots ≤ S) (hQ : Q none T.heap locs) : Fini p e below s Q C S T (mkF m pc Ls []) := by
  obtain ⟨fs, hr, hrun, hended, hW, hsame⟩ := X.leave (v := none) (fun _ => rfl) hl
  exact ⟨_, _, X.returnOut hx hret hd hr, hrun, hended, _, _, rfl, hQ, ⟨_, rfl⟩, hW, hsame.mono hC hS⟩
/-- a static call by its contract -/
theorem callQ (X : Stand p l e R s m args below meth c T locs cells slots) (hx : p.tables.exec = Jvm.exec) (hZ : Z.Warmed39 s.vm) {own : String} {index : Nat} {y : MethodName} {bytes : ByteArray} {maxL : Nat} {ret : Option FieldType} {rm : Room} {as : Array Value}
    (hown : s.vm.findClass own = some m.cls) (w1 : (Cond.methodLink own index y).before a0 Z = true) (w2 : (Cond.static y).before a0 Z = true) (w3 : (Cond.initialized y.cls).before a0 Z = true) (w4 : (Cond.code y bytes maxL ret).before a0 Z = true)
    (hy : y.cls ≠ "java/lang/invoke/MethodHandle" ∧ y.cls ≠ "java/lang/invoke/VarHandle") (M : Cmet l Z y bytes maxL ret [] rm as h Q) (eT : T.heap = h) {W : Nat} (hf : rm.frames + 1 ≤ R.frames) (hl : W + (maxL + 11) + rm.locals ≤ R.locals) (hc : cells + rm.cells ≤ R.cells) (hs : slots + rm.slots ≤ R.slots)
    (hg : g.method = m) (hsize : g.locals.size = c.maxLocals) {argsL rest : List Value} (has : argsL.toArray = as) (hlen : ∀ sig, parseMethodDescriptor y.desc = some sig → argsL.length = sig.parameters.length)
    (hstack : g.stack = argsL.reverse ++ rest) (hW : 2 * g.monitorRoom + (rest.map fun v => v.category).sum ≤ W) (hdg : decode c.code g.pc = .ok (.invokestatic index, 3)) :
    ∃ (v : Option Value) (T' : State) (L : List Loc), Stand p l e R s m args below meth c T' (locs ++ L) (cells + rm.cells) (slots + rm.slots) ∧ Q v T'.heap L ∧
      ∀ target, Steps p.tables e below (T'.setTop { g with pc := g.pc + 3, stack := v.toList ++ rest }) target → Steps p.tables e below (T.setTop g) target := by
  obtain ⟨v, vm1, ⟨T', L', c', n'⟩, -, X', ⟨L, hQ, q1, q2, q3⟩, st⟩ := Jvm.LawKit.callS X hx hown (mvT hZ w1) (mvT hZ w2) (mvT hZ w3) (mvT hZ w4) hy (backOf (W := W) M hZ w4 w3 hf hl) hg hsize hlen hstack hW hdg (fun _ _ => ⟨has, eT, hc, hs⟩)
  dsimp only [Pt.U, Pt.locs, Pt.cells, Pt.slots] at X' q1 q2 q3 st hQ
  subst q1 q2 q3
  exact ⟨v, T', L, X', hQ, st⟩
/-- a static call that leaves the heap as it was -/
theorem pureS (X : Stand p l e R s m args below meth c T locs cells slots) (hx : p.tables.exec = Jvm.exec) (hZ : Z.Warmed39 s.vm) {own : String} {index : Nat} {y : MethodName} {bytes : ByteArray} {maxL : Nat} {ret : Option FieldType} {fr lo : Nat} {as : Array Value} {w : Option Value}
    (hown : s.vm.findClass own = some m.cls) (w1 : (Cond.methodLink own index y).before a0 Z = true) (w2 : (Cond.static y).before a0 Z = true) (w3 : (Cond.initialized y.cls).before a0 Z = true) (w4 : (Cond.code y bytes maxL ret).before a0 Z = true)
    (hy : y.cls ≠ "java/lang/invoke/MethodHandle" ∧ y.cls ≠ "java/lang/invoke/VarHandle") (M : Cmet l Z y bytes maxL ret [] ({ frames := fr, cells := 0, slots := 0, locals := lo } : Room) as h (fun v h' L => v = w ∧ h' = h ∧ L = [])) (eT : T.heap = h) {W : Nat} (hf : fr + 1 ≤ R.frames) (hl : W + (maxL + 11) + lo ≤ R.locals) (hc : cells ≤ R.cells) (hs : slots ≤ R.slots)
    (hg : g.method = m) (hsize : g.locals.size = c.maxLocals) {argsL rest : List Value} (has : argsL.toArray = as) (hlen : ∀ sig, parseMethodDescriptor y.desc = some sig → argsL.length = sig.parameters.length)
    (hstack : g.stack = argsL.reverse ++ rest) (hW : 2 * g.monitorRoom + (rest.map fun v => v.category).sum ≤ W) (hdg : decode c.code g.pc = .ok (.invokestatic index, 3)) :
    ∃ (T' : State), Stand p l e R s m args below meth c T' locs cells slots ∧ T'.heap = h ∧
      ∀ target, Steps p.tables e below (T'.setTop { g with pc := g.pc + 3, stack := w.toList ++ rest }) target → Steps p.tables e below (T.setTop g) target := by
  obtain ⟨v, T', L, X', ⟨rfl, q, rfl⟩, st⟩ := callQ X hx hZ hown w1 w2 w3 w4 hy M eT (W := W) hf hl hc hs hg hsize has hlen hstack hW hdg
  rw [List.append_nil] at X'
  exact ⟨T', X', q, st⟩
/-- an instance method by the contract of the body that the receiver's class selects -/
theorem callV (X : Stand p l e R s m args below meth c T locs cells slots) (hx : p.tables.exec = Jvm.exec) (hZ : Z.Warmed39 s.vm) {own C' : String} {index : Nat} {y z : MethodName} {bytes : ByteArray} {maxL : Nat} {ret : Option FieldType} {rm : Room} {as : Array Value} {b : Addr}
    (hown : s.vm.findClass own = some m.cls) (w1 : (Cond.methodLink own index y).before a0 Z = true) (w2 : (Cond.declares y).before a0 Z = true) (w3 : (Cond.selects C' y z).before a0 Z = true) (w4 : (Cond.instanceMethod z).before a0 Z = true) (w5 : (Cond.initialized z.cls).before a0 Z = true) (w6 : (Cond.code z bytes maxL ret).before a0 Z = true)
    (nf : NotFace s y) (E : Exa Z h b C') (hy : y.cls ≠ "java/lang/invoke/MethodHandle" ∧ y.cls ≠ "java/lang/invoke/VarHandle") (M : Cmet l Z z bytes maxL ret [] rm as h Q) (eT : T.heap = h) {W : Nat} (hf : rm.frames + 1 ≤ R.frames) (hl : W + (maxL + 11) + rm.locals ≤ R.locals) (hc : cells + rm.cells ≤ R.cells) (hs : slots + rm.slots ≤ R.slots)
    (hg : g.method = m) (hsize : g.locals.size = c.maxLocals) {argsL rest : List Value} (has : (Value.ref b :: argsL).toArray = as) (hlen : ∀ sig, parseMethodDescriptor y.desc = some sig → argsL.length = sig.parameters.length)
    (hstack : g.stack = argsL.reverse ++ .ref b :: rest) (hW : 2 * g.monitorRoom + (rest.map fun v => v.category).sum ≤ W) (hdg : decode c.code g.pc = .ok (.invokevirtual index, 3)) :
    ∃ (v : Option Value) (T' : State) (L : List Loc), Stand p l e R s m args below meth c T' (locs ++ L) (cells + rm.cells) (slots + rm.slots) ∧ Q v T'.heap L ∧
      ∀ target, Steps p.tables e below (T'.setTop { g with pc := g.pc + 3, stack := v.toList ++ rest }) target → Steps p.tables e below (T.setTop g) target := by
  obtain ⟨cB, kB, q1, q2, q3⟩ := isOf hZ eT E
  obtain ⟨v, vm1, ⟨T', L', c', n'⟩, -, X', ⟨L, hQ, r1, r2, r3⟩, st⟩ := X.virtualBack hx hown (mvT hZ w1) (mvT hZ w2) nf (mvT hZ w3) (mvT hZ w4) hy (backOf (W := W) M hZ w6 w5 hf hl) q1 q3 hg hsize (Steps.refl _) hlen hstack hW hdg (fun _ _ => ⟨has, eT, hc, hs⟩)
  dsimp only [Pt.U, Pt.locs, Pt.cells, Pt.slots] at X' r1 r2 r3 st hQ
  subst r1 r2 r3
  exact ⟨v, T', L, X', hQ, fun _ k => st.trans k⟩
theorem pureV (X : Stand p l e R s m args below meth c T locs cells slots) (hx : p.tables.exec = Jvm.exec) (hZ : Z.Warmed39 s.vm) {own C' : String} {index : Nat} {y z : MethodName} {bytes : ByteArray} {maxL : Nat} {ret : Option FieldType} {fr lo : Nat} {as : Array Value} {b : Addr} {w : Option Value}
    (hown : s.vm.findClass own = some m.cls) (w1 : (Cond.methodLink own index y).before a0 Z = true) (w2 : (Cond.declares y).before a0 Z = true) (w3 : (Cond.selects C' y z).before a0 Z = true) (w4 : (Cond.instanceMethod z).before a0 Z = true) (w5 : (Cond.initialized z.cls).before a0 Z = true) (w6 : (Cond.code z bytes maxL ret).before a0 Z = true)
    (nf : NotFace s y) (E : Exa Z h b C') (hy : y.cls ≠ "java/lang/invoke/MethodHandle" ∧ y.cls ≠ "java/lang/invoke/VarHandle") (M : Cmet l Z z bytes maxL ret [] ({ frames := fr, cells := 0, slots := 0, locals := lo } : Room) as h (fun v h' L => v = w ∧ h' = h ∧ L = [])) (eT : T.heap = h) {W : Nat} (hf : fr + 1 ≤ R.frames) (hl : W + (maxL + 11) + lo ≤ R.locals) (hc : cells ≤ R.cells) (hs : slots ≤ R.slots)
    (hg : g.method = m) (hsize : g.locals.size = c.maxLocals) {argsL rest : List Value} (has : (Value.ref b :: argsL).toArray = as) (hlen : ∀ sig, parseMethodDescriptor y.desc = some sig → argsL.length = sig.parameters.length)
    (hstack : g.stack = argsL.reverse ++ .ref b :: rest) (hW : 2 * g.monitorRoom + (rest.map fun v => v.category).sum ≤ W) (hdg : decode c.code g.pc = .ok (.invokevirtual index, 3)) :
    ∃ (T' : State), Stand p l e R s m args below meth c T' locs cells slots ∧ T'.heap = h ∧
      ∀ target, Steps p.tables e below (T'.setTop { g with pc := g.pc + 3, stack := w.toList ++ rest }) target → Steps p.tables e below (T.setTop g) target := by
  obtain ⟨v, T', L, X', ⟨rfl, q, rfl⟩, st⟩ := callV X hx hZ hown w1 w2 w3 w4 w5 w6 nf E hy M eT (W := W) hf hl hc hs hg hsize has hlen hstack hW hdg
  rw [List.append_nil] at X'
  exact ⟨T', X', q, st⟩
/-- a constructor by its contract -/
theorem callNew (X : Stand p l e R s m args below meth c T locs cells slots) (hx : p.tables.exec = Jvm.exec) (hZ : Z.Warmed39 s.vm) {own : String} {index : Nat} {y : MethodName} {bytes : ByteArray} {maxL : Nat} {rm : Room} {as : Array Value} {b : Addr}
    (hown : s.vm.findClass own = some m.cls) (hy1 : y.name = "<init>") (w1 : (Cond.methodLink own index y).before a0 Z = true) (w2 : (Cond.instanceMethod y).before a0 Z = true) (w3 : (Cond.initialized y.cls).before a0 Z = true) (w4 : (Cond.code y bytes maxL none).before a0 Z = true)
    (hy : y.cls ≠ "java/lang/invoke/MethodHandle" ∧ y.cls ≠ "java/lang/invoke/VarHandle") (M : Cmet l Z y bytes maxL none [] rm as h Q) (eT : T.heap = h) {W : Nat} (hf : rm.frames + 1 ≤ R.frames) (hl : W + (maxL + 11) + rm.locals ≤ R.locals) (hc : cells + rm.cells ≤ R.cells) (hs : slots + rm.slots ≤ R.slots)
    (hg : g.method = m) (hsize : g.locals.size = c.maxLocals) {argsL rest : List Value} (has : (Value.ref b :: argsL).toArray = as) (hlen : ∀ sig, parseMethodDescriptor y.desc = some sig → argsL.length = sig.parameters.length)
    (hstack : g.stack = argsL.reverse ++ .ref b :: rest) (hW : 2 * g.monitorRoom + (rest.map fun v => v.category).sum ≤ W) (hdg : decode c.code g.pc = .ok (.invokespecial index, 3)) :
    ∃ (v : Option Value) (T' : State) (L : List Loc), Stand p l e R s m args below meth c T' (locs ++ L) (cells + rm.cells) (slots + rm.slots) ∧ Q v T'.heap L ∧
      ∀ target, Steps p.tables e below (T'.setTop { g with pc := g.pc + 3, stack := v.toList ++ rest }) target → Steps p.tables e below (T.setTop g) target := by
  obtain ⟨v, vm1, ⟨T', L', c', n'⟩, -, X', ⟨L, hQ, r1, r2, r3⟩, st⟩ := X.specialBack hx hy1 hown (mvT hZ w1) (mvT hZ w2) (mvT hZ w4) hy (backOf (W := W) M hZ w4 w3 hf hl) hg hsize (Steps.refl _) hlen hstack hW hdg (fun _ _ => ⟨has, eT, hc, hs⟩)
  dsimp only [Pt.U, Pt.locs, Pt.cells, Pt.slots] at X' r1 r2 r3 st hQ
  subst r1 r2 r3
  exact ⟨v, T', L, X', hQ, fun _ k => st.trans k⟩
theorem nb0 : nar .boolean (0 : Int32) = 0 := by decide
theorem nb1 : nar .boolean (1 : Int32) = 1 := by decide
end Own
section Arrays
variable {p : Program} {l : Launch} {e : Env} {R : Room} {s : State} {m : MethodId} {args : Array Value} {below : List Frame} {meth : Method} {c : Code} {T T' : State} {locs : List Loc} {cells slots : Nat} {g : JFrame} {Z : State} {a0 : Array Value} {h h' : Heap} {a b : Addr} {ty : FieldType} {n j x : Int32} {rest : List Value} {ws : List Addr} {sl : Nat} {v : Value} {target : State}
/-- an array of ints (bytes, chars, ..), of longs, of references: its length and what lies at each place -/
def AryI (Z : State) (h : Heap) (a : Addr) (ty : FieldType) (n : Int32) (u : Nat → Int32) : Prop := ∃ cl : Cell, Arr Z h a cl ty ∧ cl.slots.size = n.toNatClampNeg ∧ ¬ n < 0 ∧ ∀ i, i < n.toNatClampNeg → cl.slots[i]? = some (.int (u i))
def AryJ (Z : State) (h : Heap) (a : Addr) (n : Int32) (u : Nat → Int64) : Prop := ∃ cl : Cell, Arr Z h a cl .long ∧ cl.slots.size = n.toNatClampNeg ∧ ¬ n < 0 ∧ ∀ i, i < n.toNatClampNeg → cl.slots[i]? = some (.long (u i))
def AryR (Z : State) (h : Heap) (a : Addr) (C : String) (n : Int32) (u : Nat → Value) : Prop := ∃ cl : Cell, Arr Z h a cl (.object C) ∧ cl.slots.size = n.toNatClampNeg ∧ ¬ n < 0 ∧ Ovr Z cl.cls C ∧ ∀ i, i < n.toNatClampNeg → cl.slots[i]? = some (u i)
def upd {A : Type} (u : Nat → A) (k : Nat) (x : A) : Nat → A := fun i => if i = k then x else u i
theorem upd_eq {A : Type} {u : Nat → A} {k i : Nat} {x : A} (q : i = k) : upd u k x i = x := if_pos q
theorem upd_ne {A : Type} {u : Nat → A} {k i : Nat} {x : A} (q : i ≠ k) : upd u k x i = u i := if_neg q
theorem nat_lt {j n : Int32} (q : ¬ j < 0 ∧ j < n) : j.toNatClampNeg < n.toNatClampNeg := by
  have h1 := nat_of q.1
  have h2 : j.toInt < n.toInt := Int32.lt_iff_toInt_lt.mp q.2
  have h3 : ¬ n < 0 := fun r => by
    have r' : n.toInt < 0 := Int32.lt_iff_toInt_lt.mp r
    omega
  have h4 := nat_of h3
  omega
theorem AryI.lt {u : Nat → Int32} (F : AryI Z h a ty n u) : a < h.size := by obtain ⟨_, A, -⟩ := F; exact A.lt
theorem AryJ.lt {u : Nat → Int64} (F : AryJ Z h a n u) : a < h.size := by obtain ⟨_, A, -⟩ := F; exact A.lt
theorem AryR.lt {C : String} {u : Nat → Value} (F : AryR Z h a C n u) : a < h.size := by obtain ⟨_, A, -⟩ := F; exact A.lt
theorem AryI.ext {u : Nat → Int32} (E : Ext h h') (F : AryI Z h a ty n u) : AryI Z h' a ty n u := by obtain ⟨cl, A, r⟩ := F; exact ⟨cl, A.ext E, r⟩
theorem AryJ.ext {u : Nat → Int64} (E : Ext h h') (F : AryJ Z h a n u) : AryJ Z h' a n u := by obtain ⟨cl, A, r⟩ := F; exact ⟨cl, A.ext E, r⟩
theorem AryR.ext {C : String} {u : Nat → Value} (E : Ext h h') (F : AryR Z h a C n u) : AryR Z h' a C n u := by obtain ⟨cl, A, r⟩ := F; exact ⟨cl, A.ext E, r⟩
theorem AryI.other {u : Nat → Int32} (W : Wr h h' b sl v) (F : AryI Z h a ty n u) (q : a ≠ b) : AryI Z h' a ty n u := by obtain ⟨cl, A, r⟩ := F; exact ⟨cl, A.other W q, r⟩
theorem AryJ.other {u : Nat → Int64} (W : Wr h h' b sl v) (F : AryJ Z h a n u) (q : a ≠ b) : AryJ Z h' a n u := by obtain ⟨cl, A, r⟩ := F; exact ⟨cl, A.other W q, r⟩
theorem AryR.other {C : String} {u : Nat → Value} (W : Wr h h' b sl v) (F : AryR Z h a C n u) (q : a ≠ b) : AryR Z h' a C n u := by obtain ⟨cl, A, r⟩ := F; exact ⟨cl, A.other W q, r⟩
theorem AryI.keep {u : Nat → Int32} (F : AryI Z h a ty n u) (K : Keep h h' ws) (q : a ∉ ws) : AryI Z h' a ty n u := by obtain ⟨cl, A, r⟩ := F; exact ⟨cl, ⟨K.2.1 a cl A.1 q, A.2⟩, r⟩
theorem AryJ.keep {u : Nat → Int64} (F : AryJ Z h a n u) (K : Keep h h' ws) (q : a ∉ ws) : AryJ Z h' a n u := by obtain ⟨cl, A, r⟩ := F; exact ⟨cl, ⟨K.2.1 a cl A.1 q, A.2⟩, r⟩
theorem AryR.keep {C : String} {u : Nat → Value} (F : AryR Z h a C n u) (K : Keep h h' ws) (q : a ∉ ws) : AryR Z h' a C n u := by obtain ⟨cl, A, r⟩ := F; exact ⟨cl, ⟨K.2.1 a cl A.1 q, A.2⟩, r⟩
theorem AryI.cast {u u' : Nat → Int32} (F : AryI Z h a ty n u) (q : ∀ i, i < n.toNatClampNeg → u i = u' i) : AryI Z h a ty n u' := by obtain ⟨cl, A, r1, r2, r3⟩ := F; exact ⟨cl, A, r1, r2, fun i hi => by rw [r3 i hi, q i hi]⟩
theorem AryJ.cast {u u' : Nat → Int64} (F : AryJ Z h a n u) (q : ∀ i, i < n.toNatClampNeg → u i = u' i) : AryJ Z h a n u' := by obtain ⟨cl, A, r1, r2, r3⟩ := F; exact ⟨cl, A, r1, r2, fun i hi => by rw [r3 i hi, q i hi]⟩
theorem AryI.new {cA : ClassId} (A : Arr Z h a (newA cA ty n) ty) (q : ¬ n < 0) (d : defaultValue ty = .int 0) : AryI Z h a ty n (fun _ => 0) := ⟨_, A, sz_new _ _ _, q, fun i hi => by simp [newA, d, hi]⟩
theorem AryJ.new {cA : ClassId} (A : Arr Z h a (newA cA .long n) .long) (q : ¬ n < 0) : AryJ Z h a n (fun _ => 0) := ⟨_, A, sz_new _ _ _, q, fun i hi => by
  have d : defaultValue .long = .long 0 := rfl
  simp [newA, d, hi]⟩
theorem AryR.new {C : String} {cA : ClassId} (A : Arr Z h a (newA cA (.object C) n) (.object C)) (O : Ovr Z cA C) (q : ¬ n < 0) : AryR Z h a C n (fun _ => .null) := ⟨_, A, sz_new _ _ _, q, O, fun i hi => by
  have d : defaultValue (.object C) = .null := rfl
  simp [newA, d, hi]⟩
theorem set_at {cl : Cell} {k i : Nat} {w : Value} (hk : k < cl.slots.size) : (cl.setSlot k w).slots[i]? = if i = k then some w else cl.slots[i]? := by
  by_cases q : i = k
  · subst q; simp [Cell.setSlot, hk]
  · rw [if_neg q]; simp [Cell.setSlot, Array.getElem?_setIfInBounds_ne (Ne.symm q)]
theorem AryI.len {u : Nat → Int32} (F : AryI Z h a ty n u) (X : Stand p l e R s m args below meth c T locs cells slots) (hx : p.tables.exec = Jvm.exec) (hZ : Z.Warmed39 s.vm) (eT : T.heap = h) (hg : g.method = m) (hs : g.stack = .ref a :: rest) (hd : decode c.code g.pc = .ok (.arraylength, 1)) (hr : Steps p.tables e below (T.setTop { g with pc := g.pc + 1, stack := .int n :: rest }) target) : Steps p.tables e below (T.setTop g) target := by
  obtain ⟨cl, A, S, N, H⟩ := F
  refine X.arraylength hx (by rw [eT]; exact A.1) (State.isArrayOf_alike hZ.alike A.2.1) hg hs hd _ ?_
  rw [len_of S N]; exact hr
theorem AryJ.len {u : Nat → Int64} (F : AryJ Z h a n u) (X : Stand p l e R s m args below meth c T locs cells slots) (hx : p.tables.exec = Jvm.exec) (hZ : Z.Warmed39 s.vm) (eT : T.heap = h) (hg : g.method = m) (hs : g.stack = .ref a :: rest) (hd : decode c.code g.pc = .ok (.arraylength, 1)) (hr : Steps p.tables e below (T.setTop { g with pc := g.pc + 1, stack := .int n :: rest }) target) : Steps p.tables e below (T.setTop g) target := by
  obtain ⟨cl, A, S, N, H⟩ := F
  refine X.arraylength hx (by rw [eT]; exact A.1) (State.isArrayOf_alike hZ.alike A.2.1) hg hs hd _ ?_
  rw [len_of S N]; exact hr
theorem AryI.loadI {u : Nat → Int32} (F : AryI Z h a .int n u) (X : Stand p l e R s m args below meth c T locs cells slots) (hx : p.tables.exec = Jvm.exec) (hZ : Z.Warmed39 s.vm) (eT : T.heap = h) (q : ¬ j < 0 ∧ j < n) (hg : g.method = m) (hs : g.stack = .int j :: .ref a :: rest) (hd : decode c.code g.pc = .ok (.iaload, 1)) (hr : Steps p.tables e below (T.setTop { g with pc := g.pc + 1, stack := .int (u j.toNatClampNeg) :: rest }) target) : Steps p.tables e below (T.setTop g) target := by
  obtain ⟨cl, A, S, N, H⟩ := F
  exact X.iaload hx (by rw [eT]; exact A.1) (State.isArrayOf_alike hZ.alike A.2.1) A.2.2 (inb_of S q) (H _ (nat_lt q)) hg hs hd _ hr
theorem AryI.loadB {u : Nat → Int32} (F : AryI Z h a .byte n u) (X : Stand p l e R s m args below meth c T locs cells slots) (hx : p.tables.exec = Jvm.exec) (hZ : Z.Warmed39 s.vm) (eT : T.heap = h) (q : ¬ j < 0 ∧ j < n) (hg : g.method = m) (hs : g.stack = .int j :: .ref a :: rest) (hd : decode c.code g.pc = .ok (.baload, 1)) (hr : Steps p.tables e below (T.setTop { g with pc := g.pc + 1, stack := .int (u j.toNatClampNeg) :: rest }) target) : Steps p.tables e below (T.setTop g) target := by
  obtain ⟨cl, A, S, N, H⟩ := F
  exact X.baloadBytes hx (by rw [eT]; exact A.1) (State.isArrayOf_alike hZ.alike A.2.1) A.2.2 (inb_of S q) (H _ (nat_lt q)) hg hs hd _ hr
theorem AryI.loadZ {u : Nat → Int32} (F : AryI Z h a .boolean n u) (X : Stand p l e R s m args below meth c T locs cells slots) (hx : p.tables.exec = Jvm.exec) (hZ : Z.Warmed39 s.vm) (eT : T.heap = h) (q : ¬ j < 0 ∧ j < n) (hg : g.method = m) (hs : g.stack = .int j :: .ref a :: rest) (hd : decode c.code g.pc = .ok (.baload, 1)) (hr : Steps p.tables e below (T.setTop { g with pc := g.pc + 1, stack := .int (u j.toNatClampNeg) :: rest }) target) : Steps p.tables e below (T.setTop g) target := by
  obtain ⟨cl, A, S, N, H⟩ := F
  exact X.baloadBooleans hx (by rw [eT]; exact A.1) (State.isArrayOf_alike hZ.alike A.2.1) A.2.2 (inb_of S q) (H _ (nat_lt q)) hg hs hd _ hr
theorem AryJ.load {u : Nat → Int64} (F : AryJ Z h a n u) (X : Stand p l e R s m args below meth c T locs cells slots) (hx : p.tables.exec = Jvm.exec) (hZ : Z.Warmed39 s.vm) (eT : T.heap = h) (q : ¬ j < 0 ∧ j < n) (hg : g.method = m) (hs : g.stack = .int j :: .ref a :: rest) (hd : decode c.code g.pc = .ok (.laload, 1)) (hr : Steps p.tables e below (T.setTop { g with pc := g.pc + 1, stack := .long (u j.toNatClampNeg) :: rest }) target) : Steps p.tables e below (T.setTop g) target := by
  obtain ⟨cl, A, S, N, H⟩ := F
  exact X.laload hx (by rw [eT]; exact A.1) (State.isArrayOf_alike hZ.alike A.2.1) A.2.2 (inb_of S q) (H _ (nat_lt q)) hg hs hd _ hr
theorem AryR.load {C : String} {u : Nat → Value} (F : AryR Z h a C n u) (X : Stand p l e R s m args below meth c T locs cells slots) (hx : p.tables.exec = Jvm.exec) (hZ : Z.Warmed39 s.vm) (eT : T.heap = h) (q : ¬ j < 0 ∧ j < n) (hg : g.method = m) (hs : g.stack = .int j :: .ref a :: rest) (hd : decode c.code g.pc = .ok (.aaload, 1)) (hr : Steps p.tables e below (T.setTop { g with pc := g.pc + 1, stack := u j.toNatClampNeg :: rest }) target) : Steps p.tables e below (T.setTop g) target := by
  obtain ⟨cl, A, S, N, O, H⟩ := F
  exact X.aaload hx (by rw [eT]; exact A.1) (State.isArrayOf_alike hZ.alike A.2.1) rfl A.2.2 (inb_of S q) (H _ (nat_lt q)) hg hs hd _ hr
theorem AryI.put {u : Nat → Int32} {cl : Cell} (A : Arr Z h a cl ty) (S : cl.slots.size = n.toNatClampNeg) (N : ¬ n < 0) (H : ∀ i, i < n.toNatClampNeg → cl.slots[i]? = some (.int (u i))) (q : ¬ j < 0 ∧ j < n) (W : Wr h h' a j.toNatClampNeg (.int x)) : AryI Z h' a ty n (upd u j.toNatClampNeg x) := by
  refine ⟨_, A.same W, by rw [sz_set]; exact S, N, fun i hi => ?_⟩
  rw [set_at (by rw [S]; exact nat_lt q)]
  by_cases r : i = j.toNatClampNeg
  · rw [if_pos r, upd_eq r]
  · rw [if_neg r, upd_ne r]; exact H i hi
theorem AryI.stI {u : Nat → Int32} (F : AryI Z h a .int n u) (X : Stand p l e R s m args below meth c T locs cells slots) (hx : p.tables.exec = Jvm.exec) (hZ : Z.Warmed39 s.vm) (eT : T.heap = h) (q : ¬ j < 0 ∧ j < n) (hg : g.method = m) (hs : g.stack = .int x :: .int j :: .ref a :: rest) (hd : decode c.code g.pc = .ok (.iastore, 1)) :
    ∃ T' h', Stand p l e R s m args below meth c T' (locs ++ [⟨a, j.toNatClampNeg⟩]) cells slots ∧ T'.heap = h' ∧ Wr h h' a j.toNatClampNeg (.int x) ∧ AryI Z h' a .int n (upd u j.toNatClampNeg x) ∧ ∀ target, Steps p.tables e below (T'.setTop { g with pc := g.pc + 1, stack := rest }) target → Steps p.tables e below (T.setTop g) target := by
  obtain ⟨cl, A, S, N, H⟩ := F
  obtain ⟨T', h', X', e', W, st⟩ := Jvm.RoadKit.stI X hx hZ eT A (inb_of S q) hg hs hd
  exact ⟨T', h', X', e', W, AryI.put A S N H q W, st⟩
theorem AryI.stB {u : Nat → Int32} (F : AryI Z h a .byte n u) (X : Stand p l e R s m args below meth c T locs cells slots) (hx : p.tables.exec = Jvm.exec) (hZ : Z.Warmed39 s.vm) (eT : T.heap = h) (q : ¬ j < 0 ∧ j < n) (hg : g.method = m) (hs : g.stack = .int x :: .int j :: .ref a :: rest) (hd : decode c.code g.pc = .ok (.bastore, 1)) :
    ∃ T' h', Stand p l e R s m args below meth c T' (locs ++ [⟨a, j.toNatClampNeg⟩]) cells slots ∧ T'.heap = h' ∧ Wr h h' a j.toNatClampNeg (.int (nar .byte x)) ∧ AryI Z h' a .byte n (upd u j.toNatClampNeg (nar .byte x)) ∧ ∀ target, Steps p.tables e below (T'.setTop { g with pc := g.pc + 1, stack := rest }) target → Steps p.tables e below (T.setTop g) target := by
  obtain ⟨cl, A, S, N, H⟩ := F
  obtain ⟨T', h', X', e', W, st⟩ := Jvm.RoadKit.stB X hx hZ eT A (inb_of S q) hg hs hd
  exact ⟨T', h', X', e', W, AryI.put A S N H q W, st⟩
theorem AryJ.st {u : Nat → Int64} {y : Int64} (F : AryJ Z h a n u) (X : Stand p l e R s m args below meth c T locs cells slots) (hx : p.tables.exec = Jvm.exec) (hZ : Z.Warmed39 s.vm) (eT : T.heap = h) (q : ¬ j < 0 ∧ j < n) (hg : g.method = m) (hs : g.stack = .long y :: .int j :: .ref a :: rest) (hd : decode c.code g.pc = .ok (.lastore, 1)) :
    ∃ T' h', Stand p l e R s m args below meth c T' (locs ++ [⟨a, j.toNatClampNeg⟩]) cells slots ∧ T'.heap = h' ∧ Wr h h' a j.toNatClampNeg (.long y) ∧ AryJ Z h' a n (upd u j.toNatClampNeg y) ∧ ∀ target, Steps p.tables e below (T'.setTop { g with pc := g.pc + 1, stack := rest }) target → Steps p.tables e below (T.setTop g) target := by
  obtain ⟨cl, A, S, N, H⟩ := F
  obtain ⟨T', h', X', e', W, st⟩ := Jvm.RoadKit.stJ X hx hZ eT A (inb_of S q) hg hs hd
  refine ⟨T', h', X', e', W, ⟨_, A.same W, by rw [sz_set]; exact S, N, fun i hi => ?_⟩, st⟩
  rw [set_at (by rw [S]; exact nat_lt q)]
  by_cases r : i = j.toNatClampNeg
  · rw [if_pos r, upd_eq r]
  · rw [if_neg r, upd_ne r]; exact H i hi
theorem AryR.st {C : String} {u : Nat → Value} (F : AryR Z h a C n u) (X : Stand p l e R s m args below meth c T locs cells slots) (hx : p.tables.exec = Jvm.exec) (hZ : Z.Warmed39 s.vm) (eT : T.heap = h) (q : ¬ j < 0 ∧ j < n) (hI : v = .null ∨ ∃ y, v = .ref y ∧ Ins Z h y C true) (hg : g.method = m) (hs : g.stack = v :: .int j :: .ref a :: rest) (hd : decode c.code g.pc = .ok (.aastore, 1)) :
    ∃ T' h', Stand p l e R s m args below meth c T' (locs ++ [⟨a, j.toNatClampNeg⟩]) cells slots ∧ T'.heap = h' ∧ Wr h h' a j.toNatClampNeg v ∧ AryR Z h' a C n (upd u j.toNatClampNeg v) ∧ ∀ target, Steps p.tables e below (T'.setTop { g with pc := g.pc + 1, stack := rest }) target → Steps p.tables e below (T.setTop g) target := by
  obtain ⟨cl, A, S, N, O, H⟩ := F
  have hS : Sto Z h a v := by
    rcases hI with r | ⟨y, rfl, r⟩
    · exact Or.inl r
    · exact Sto.of A O r
  obtain ⟨T', h', X', e', W, st⟩ := Jvm.RoadKit.stR X hx hZ eT A (inb_of S q) rfl hS hg hs hd
  refine ⟨T', h', X', e', W, ⟨_, A.same W, by rw [sz_set]; exact S, N, O, fun i hi => ?_⟩, st⟩
  rw [set_at (by rw [S]; exact nat_lt q)]
  by_cases r : i = j.toNatClampNeg
  · rw [if_pos r, upd_eq r]
  · rw [if_neg r, upd_ne r]; exact H i hi
end Arrays
theorem d2_0 : decode prog_63_method_4_code 0 = .ok (.iload_n 0, 1) := by decide +kernel
theorem d2_1 : decode prog_63_method_4_code 1 = .ok (.ifCond .lt 23, 3) := by decide +kernel
theorem d2_4 : decode prog_63_method_4_code 4 = .ok (.iload_n 0, 1) := by decide +kernel
theorem d2_5 : decode prog_63_method_4_code 5 = .ok (.getstatic 16, 3) := by decide +kernel
theorem d2_8 : decode prog_63_method_4_code 8 = .ok (.arraylength, 1) := by decide +kernel
theorem d2_9 : decode prog_63_method_4_code 9 = .ok (.if_icmp .ge 15, 3) := by decide +kernel
theorem d2_12 : decode prog_63_method_4_code 12 = .ok (.getstatic 16, 3) := by decide +kernel
theorem d2_15 : decode prog_63_method_4_code 15 = .ok (.iload_n 0, 1) := by decide +kernel
theorem d2_16 : decode prog_63_method_4_code 16 = .ok (.baload, 1) := by decide +kernel
theorem d2_17 : decode prog_63_method_4_code 17 = .ok (.ifCond .eq 7, 3) := by decide +kernel
theorem d2_20 : decode prog_63_method_4_code 20 = .ok (.iconst 1, 1) := by decide +kernel
theorem d2_21 : decode prog_63_method_4_code 21 = .ok (.goto 4, 3) := by decide +kernel
theorem d2_24 : decode prog_63_method_4_code 24 = .ok (.iconst 0, 1) := by decide +kernel
theorem d2_25 : decode prog_63_method_4_code 25 = .ok (.ireturn, 1) := by decide +kernel
theorem pn_0 : plainName "com/example/rights_after_actions/rightsafteractions/io/Lexicon" = true := by first | (simp [plainName, overriddenIn]; done) | decide +kernel
theorem ef2 (m : MethodId) (x0 : Int32) : entryFrame m #[(.int x0)] 1 = mkF m 0 #[.val (.int x0)] [] := by first | (simp [entryFrame, mkF, argsToLocals, Value.category]; done) | rfl
def f2 (p0 : Int32) (u : Nat → Int32) : Int32 := (if p0 < (0 : Int32) then (0 : Int32) else (if p0 < (128 : Int32) then (if (u (p0).toNatClampNeg) = (0 : Int32) then (0 : Int32) else (1 : Int32)) else (0 : Int32)))
set_option maxRecDepth 65536 in
set_option maxHeartbeats 40000000 in
theorem rm2 (l : Launch) (Z : State) (a0 : Array Value) (hw : ∀ d ∈ tables_1, d.before a0 Z = true) (ws : List Jvm.Cond) (p0 : Int32) (ar : Addr) (u : Nat → Int32) (h0 : Heap) (S_ar : Sta Z h0 "com/example/rights_after_actions/rightsafteractions/io/Lexicon" "ARGUMENT_CHARACTERS" "[Z" (.ref ar)) (A_ar : AryI Z h0 ar .boolean (128 : Int32) u) :
    Cmet l Z (⟨"com/example/rights_after_actions/rightsafteractions/io/Lexicon", "isArgumentCharacter", "(I)Z"⟩ : MethodName) prog_63_method_4_code 1 (some .boolean) ws ({ frames := 0, cells := 0, slots := 0, locals := 0 } : Room) #[(.int p0)] h0 (fun v h' L => v = some (.int (f2 p0 u)) ∧ h' = h0 ∧ L = []) := by
  refine MetFree.of_bodySF (plainFor_of_name pn_0) hisR ?_
  intro p e s m args below meth c s₁ Bd hml0 hP hK
  obtain ⟨rfl, hZ, hh⟩ := hP
  have hx := Bd.exec
  have hlk : meth.locks = false := BodyLoose.notSynchronized Bd
  have hby := Bd.bytes
  have hml : c.maxLocals = 1 := hml0
  have hown : s.vm.findClass "com/example/rights_after_actions/rightsafteractions/io/Lexicon" = some m.cls := findClass_of_methodNamed Bd.named
  have hnm := (name_of_methodNamed Bd.named Bd.method).1
  have X0 : Stand p l e ({ frames := 0, cells := 0, slots := 0, locals := 0 } : Room) s m #[(.int p0)] below meth c s₁ [] 0 0 := Stand.of_body Bd
  have e0 : s₁.heap = h0 := by rw [← hh, Bd.state]; rfl
  have hv0 : f2 p0 u = f2 p0 u := rfl
  show Fini p e below s (fun v h' L => v = some (.int (f2 p0 u)) ∧ h' = h0 ∧ L = []) _ _ s₁ (entryFrame m #[(.int p0)] 1)
  refine Fini.cast (ef2 m p0) ?_
  show Fini p e below s _ _ _ s₁ (mkF m 0 #[.val (.int p0)] [])
  refine Fini.st (fun _ k => XS.iloadN X0.here hx rfl (hb hby d2_0) rfl k) ?_
  show Fini p e below s _ _ _ s₁ (mkF m 1 #[.val (.int p0)] [(.int p0)])
  by_cases c1 : p0 < (0 : Int32)
  · have hv2 := hv0.trans (if_pos c1)
    refine Fini.st (fun _ k => XS.ifYes X0.here hx rfl (pc0 := 1) (pc' := 24) rfl (hb hby d2_1) rfl (XT.i0_lt_t c1) (by decide) (by decide) k) ?_
    show Fini p e below s _ _ _ s₁ (mkF m 24 #[.val (.int p0)] [])
    refine Fini.st (fun _ k => XS.iconst X0.here hx rfl (hb hby d2_24) k) ?_
    show Fini p e below s _ _ _ s₁ (mkF m 25 #[.val (.int p0)] [(.int (0 : Int32))])
    exact Fini.retN X0 hx hlk (t := .boolean) Bd.returns (by simp) (hb hby d2_25) nb0 (by decide) (by decide) ⟨congrArg (fun z => some (Value.int z)) hv2.symm, e0, rfl⟩
  · have hv3 := hv0.trans (if_neg c1)
    refine Fini.st (fun _ k => XS.ifNo X0.here hx rfl (hb hby d2_1) rfl (XT.i0_lt_f c1) k) ?_
    show Fini p e below s _ _ _ s₁ (mkF m 4 #[.val (.int p0)] [])
    refine Fini.st (fun _ k => XS.iloadN X0.here hx rfl (hb hby d2_4) rfl k) ?_
    show Fini p e below s _ _ _ s₁ (mkF m 5 #[.val (.int p0)] [(.int p0)])
    obtain ⟨T4, X4, e4, st4⟩ := getS2 X0 hx hZ hown (host := "") (Or.inl (hw _ (List.mem_of_getElem? (i := 8) rfl))) Via.refl e0 S_ar (g := (mkF m 5 #[.val (.int p0)] [(.int p0)])) rfl (hb hby d2_5)
    refine Fini.st st4 ?_
    show Fini p e below s _ _ _ T4 (mkF m 8 #[.val (.int p0)] [(.ref ar), (.int p0)])
    refine Fini.st (fun _ k => A_ar.len X4 hx hZ e4 rfl rfl (hb hby d2_8) k) ?_
    show Fini p e below s _ _ _ T4 (mkF m 9 #[.val (.int p0)] [(.int (128 : Int32)), (.int p0)])
    by_cases c5 : p0 < (128 : Int32)
    · have hv6 := hv3.trans (if_pos c5)
      refine Fini.st (fun _ k => XS.icmpNo X4.here hx rfl (hb hby d2_9) rfl (XT.ii_ge_f c5) k) ?_
      show Fini p e below s _ _ _ T4 (mkF m 12 #[.val (.int p0)] [])
      obtain ⟨T7, X7, e7, st7⟩ := getS2 X4 hx hZ hown (host := "") (Or.inl (hw _ (List.mem_of_getElem? (i := 8) rfl))) Via.refl e4 S_ar (g := (mkF m 12 #[.val (.int p0)] [])) rfl (hb hby d2_12)
      refine Fini.st st7 ?_
      show Fini p e below s _ _ _ T7 (mkF m 15 #[.val (.int p0)] [(.ref ar)])
      refine Fini.st (fun _ k => XS.iloadN X7.here hx rfl (hb hby d2_15) rfl k) ?_
      show Fini p e below s _ _ _ T7 (mkF m 16 #[.val (.int p0)] [(.int p0), (.ref ar)])
      refine Fini.st (fun _ k => A_ar.loadZ X7 hx hZ e7 ⟨c1, c5⟩ rfl rfl (hb hby d2_16) k) ?_
      show Fini p e below s _ _ _ T7 (mkF m 17 #[.val (.int p0)] [(.int (u (p0).toNatClampNeg))])
      by_cases c8 : (u (p0).toNatClampNeg) = (0 : Int32)
      · have hv9 := hv6.trans (if_pos c8)
        refine Fini.st (fun _ k => XS.ifYes X7.here hx rfl (pc0 := 17) (pc' := 24) rfl (hb hby d2_17) rfl (XT.i0_eq_t c8) (by decide) (by decide) k) ?_
        show Fini p e below s _ _ _ T7 (mkF m 24 #[.val (.int p0)] [])
        refine Fini.st (fun _ k => XS.iconst X7.here hx rfl (hb hby d2_24) k) ?_
        show Fini p e below s _ _ _ T7 (mkF m 25 #[.val (.int p0)] [(.int (0 : Int32))])
        exact Fini.retN X7 hx hlk (t := .boolean) Bd.returns (by simp) (hb hby d2_25) nb0 (by decide) (by decide) ⟨congrArg (fun z => some (Value.int z)) hv9.symm, e7, rfl⟩
      · have hv10 := hv6.trans (if_neg c8)
        refine Fini.st (fun _ k => XS.ifNo X7.here hx rfl (hb hby d2_17) rfl (XT.i0_eq_f c8) k) ?_
        show Fini p e below s _ _ _ T7 (mkF m 20 #[.val (.int p0)] [])
        refine Fini.st (fun _ k => XS.iconst X7.here hx rfl (hb hby d2_20) k) ?_
        show Fini p e below s _ _ _ T7 (mkF m 21 #[.val (.int p0)] [(.int (1 : Int32))])
        refine Fini.st (fun _ k => XS.goto X7.here hx rfl (pc0 := 21) (pc' := 25) rfl (hb hby d2_21) (by decide) (by decide) k) ?_
        show Fini p e below s _ _ _ T7 (mkF m 25 #[.val (.int p0)] [(.int (1 : Int32))])
        exact Fini.retN X7 hx hlk (t := .boolean) Bd.returns (by simp) (hb hby d2_25) nb1 (by decide) (by decide) ⟨congrArg (fun z => some (Value.int z)) hv10.symm, e7, rfl⟩
    · have hv11 := hv3.trans (if_neg c5)
      refine Fini.st (fun _ k => XS.icmpYes X4.here hx rfl (pc0 := 9) (pc' := 24) rfl (hb hby d2_9) rfl (XT.ii_ge_t c5) (by decide) (by decide) k) ?_
      show Fini p e below s _ _ _ T4 (mkF m 24 #[.val (.int p0)] [])
      refine Fini.st (fun _ k => XS.iconst X4.here hx rfl (hb hby d2_24) k) ?_
      show Fini p e below s _ _ _ T4 (mkF m 25 #[.val (.int p0)] [(.int (0 : Int32))])
      exact Fini.retN X4 hx hlk (t := .boolean) Bd.returns (by simp) (hb hby d2_25) nb0 (by decide) (by decide) ⟨congrArg (fun z => some (Value.int z)) hv11.symm, e4, rfl⟩
theorem d3_0 : decode method_2_code 0 = .ok (.iload_n 0, 1) := by decide +kernel
theorem d3_1 : decode method_2_code 1 = .ok (.bipush 97, 2) := by decide +kernel
theorem d3_3 : decode method_2_code 3 = .ok (.if_icmp .lt 9, 3) := by decide +kernel
theorem d3_6 : decode method_2_code 6 = .ok (.iload_n 0, 1) := by decide +kernel
theorem d3_7 : decode method_2_code 7 = .ok (.bipush 122, 2) := by decide +kernel
theorem d3_9 : decode method_2_code 9 = .ok (.if_icmp .le 15, 3) := by decide +kernel
theorem d3_12 : decode method_2_code 12 = .ok (.iload_n 0, 1) := by decide +kernel
theorem d3_13 : decode method_2_code 13 = .ok (.bipush 65, 2) := by decide +kernel
theorem d3_15 : decode method_2_code 15 = .ok (.if_icmp .lt 13, 3) := by decide +kernel
theorem d3_18 : decode method_2_code 18 = .ok (.iload_n 0, 1) := by decide +kernel
theorem d3_19 : decode method_2_code 19 = .ok (.bipush 90, 2) := by decide +kernel
theorem d3_21 : decode method_2_code 21 = .ok (.if_icmp .gt 7, 3) := by decide +kernel
theorem d3_24 : decode method_2_code 24 = .ok (.iconst 1, 1) := by decide +kernel
theorem d3_25 : decode method_2_code 25 = .ok (.goto 4, 3) := by decide +kernel
theorem d3_28 : decode method_2_code 28 = .ok (.iconst 0, 1) := by decide +kernel
theorem d3_29 : decode method_2_code 29 = .ok (.istore_n 1, 1) := by decide +kernel
theorem d3_30 : decode method_2_code 30 = .ok (.iload_n 0, 1) := by decide +kernel
theorem d3_31 : decode method_2_code 31 = .ok (.bipush 48, 2) := by decide +kernel
theorem d3_33 : decode method_2_code 33 = .ok (.if_icmp .lt 13, 3) := by decide +kernel
theorem d3_36 : decode method_2_code 36 = .ok (.iload_n 0, 1) := by decide +kernel
theorem d3_37 : decode method_2_code 37 = .ok (.bipush 57, 2) := by decide +kernel
theorem d3_39 : decode method_2_code 39 = .ok (.if_icmp .gt 7, 3) := by decide +kernel
theorem d3_42 : decode method_2_code 42 = .ok (.iconst 1, 1) := by decide +kernel
theorem d3_43 : decode method_2_code 43 = .ok (.goto 4, 3) := by decide +kernel
theorem d3_46 : decode method_2_code 46 = .ok (.iconst 0, 1) := by decide +kernel
theorem d3_47 : decode method_2_code 47 = .ok (.istore_n 2, 1) := by decide +kernel
theorem d3_48 : decode method_2_code 48 = .ok (.iload_n 0, 1) := by decide +kernel
theorem d3_49 : decode method_2_code 49 = .ok (.bipush 95, 2) := by decide +kernel
theorem d3_51 : decode method_2_code 51 = .ok (.if_icmp .eq 39, 3) := by decide +kernel
theorem d3_54 : decode method_2_code 54 = .ok (.iload_n 0, 1) := by decide +kernel
theorem d3_55 : decode method_2_code 55 = .ok (.bipush 46, 2) := by decide +kernel
theorem d3_57 : decode method_2_code 57 = .ok (.if_icmp .eq 33, 3) := by decide +kernel
theorem d3_60 : decode method_2_code 60 = .ok (.iload_n 0, 1) := by decide +kernel
theorem d3_61 : decode method_2_code 61 = .ok (.bipush 58, 2) := by decide +kernel
theorem d3_63 : decode method_2_code 63 = .ok (.if_icmp .eq 27, 3) := by decide +kernel
theorem d3_66 : decode method_2_code 66 = .ok (.iload_n 0, 1) := by decide +kernel
theorem d3_67 : decode method_2_code 67 = .ok (.bipush 64, 2) := by decide +kernel
theorem d3_69 : decode method_2_code 69 = .ok (.if_icmp .eq 21, 3) := by decide +kernel
theorem d3_72 : decode method_2_code 72 = .ok (.iload_n 0, 1) := by decide +kernel
theorem d3_73 : decode method_2_code 73 = .ok (.bipush 47, 2) := by decide +kernel
theorem d3_75 : decode method_2_code 75 = .ok (.if_icmp .eq 15, 3) := by decide +kernel
theorem d3_78 : decode method_2_code 78 = .ok (.iload_n 0, 1) := by decide +kernel
theorem d3_79 : decode method_2_code 79 = .ok (.bipush 43, 2) := by decide +kernel
theorem d3_81 : decode method_2_code 81 = .ok (.if_icmp .eq 9, 3) := by decide +kernel
theorem d3_84 : decode method_2_code 84 = .ok (.iload_n 0, 1) := by decide +kernel
theorem d3_85 : decode method_2_code 85 = .ok (.bipush 45, 2) := by decide +kernel
theorem d3_87 : decode method_2_code 87 = .ok (.if_icmp .ne 7, 3) := by decide +kernel
theorem d3_90 : decode method_2_code 90 = .ok (.iconst 1, 1) := by decide +kernel
theorem d3_91 : decode method_2_code 91 = .ok (.goto 4, 3) := by decide +kernel
theorem d3_94 : decode method_2_code 94 = .ok (.iconst 0, 1) := by decide +kernel
theorem d3_95 : decode method_2_code 95 = .ok (.istore_n 3, 1) := by decide +kernel
theorem d3_96 : decode method_2_code 96 = .ok (.iload_n 1, 1) := by decide +kernel
theorem d3_97 : decode method_2_code 97 = .ok (.ifCond .ne 11, 3) := by decide +kernel
theorem d3_100 : decode method_2_code 100 = .ok (.iload_n 2, 1) := by decide +kernel
theorem d3_101 : decode method_2_code 101 = .ok (.ifCond .ne 7, 3) := by decide +kernel
theorem d3_104 : decode method_2_code 104 = .ok (.iload_n 3, 1) := by decide +kernel
theorem d3_105 : decode method_2_code 105 = .ok (.ifCond .eq 7, 3) := by decide +kernel
theorem d3_108 : decode method_2_code 108 = .ok (.iconst 1, 1) := by decide +kernel
theorem d3_109 : decode method_2_code 109 = .ok (.goto 4, 3) := by decide +kernel
theorem d3_112 : decode method_2_code 112 = .ok (.iconst 0, 1) := by decide +kernel
theorem d3_113 : decode method_2_code 113 = .ok (.ireturn, 1) := by decide +kernel
theorem pn_1 : plainName "com/example/rights_after_actions/rightsafteractions/io/LexiconIsArgumentCharacterPinLaw" = true := by first | (simp [plainName, overriddenIn]; done) | decide +kernel
theorem ef3 (m : MethodId) (x0 : Int32) : entryFrame m #[(.int x0)] 4 = mkF m 0 #[.val (.int x0), .unset, .unset, .unset] [] := by first | (simp [entryFrame, mkF, argsToLocals, Value.category]; done) | rfl
def f3_95 (p0 : Int32) (z95_s0 : Int32) (z29_s0 : Int32) (z47_s0 : Int32) : Int32 := (if z29_s0 = (0 : Int32) then (if z47_s0 = (0 : Int32) then (if z95_s0 = (0 : Int32) then (0 : Int32) else (1 : Int32)) else (1 : Int32)) else (1 : Int32))
def f3_90 (p0 : Int32) (z29_s0 : Int32) (z47_s0 : Int32) : Int32 := (f3_95 p0 (1 : Int32) z29_s0 z47_s0)
def f3_47 (p0 : Int32) (z47_s0 : Int32) (z29_s0 : Int32) : Int32 := (if p0 = (95 : Int32) then (f3_90 p0 z29_s0 z47_s0) else (if p0 = (46 : Int32) then (f3_90 p0 z29_s0 z47_s0) else (if p0 = (58 : Int32) then (f3_90 p0 z29_s0 z47_s0) else (if p0 = (64 : Int32) then (f3_90 p0 z29_s0 z47_s0) else (if p0 = (47 : Int32) then (f3_90 p0 z29_s0 z47_s0) else (if p0 = (43 : Int32) then (f3_90 p0 z29_s0 z47_s0) else (if p0 = (45 : Int32) then (f3_90 p0 z29_s0 z47_s0) else (f3_95 p0 (0 : Int32) z29_s0 z47_s0))))))))
def f3_46 (p0 : Int32) (z29_s0 : Int32) : Int32 := (f3_47 p0 (0 : Int32) z29_s0)
def f3_29 (p0 : Int32) (z29_s0 : Int32) : Int32 := (if p0 < (48 : Int32) then (f3_46 p0 z29_s0) else (if (57 : Int32) < p0 then (f3_46 p0 z29_s0) else (f3_47 p0 (1 : Int32) z29_s0)))
def f3_28 (p0 : Int32) : Int32 := (f3_29 p0 (0 : Int32))
def f3_24 (p0 : Int32) : Int32 := (f3_29 p0 (1 : Int32))
def f3_12 (p0 : Int32) : Int32 := (if p0 < (65 : Int32) then (f3_28 p0) else (if (90 : Int32) < p0 then (f3_28 p0) else (f3_24 p0)))
def f3 (p0 : Int32) : Int32 := (if p0 < (97 : Int32) then (f3_12 p0) else (if (122 : Int32) < p0 then (f3_12 p0) else (f3_24 p0)))
set_option maxRecDepth 65536 in
set_option maxHeartbeats 40000000 in
theorem rm3 (l : Launch) (Z : State) (a0 : Array Value) (hw : ∀ d ∈ tables_1, d.before a0 Z = true) (ws : List Jvm.Cond) (p0 : Int32) (h0 : Heap) :
    Cmet l Z (⟨"com/example/rights_after_actions/rightsafteractions/io/LexiconIsArgumentCharacterPinLaw", "expected", "(I)Z"⟩ : MethodName) method_2_code 4 (some .boolean) ws ({ frames := 0, cells := 0, slots := 0, locals := 0 } : Room) #[(.int p0)] h0 (fun v h' L => v = some (.int (f3 p0)) ∧ h' = h0 ∧ L = []) := by
  refine MetFree.of_bodySF (plainFor_of_name pn_1) hisR ?_
  intro p e s m args below meth c s₁ Bd hml0 hP hK
  obtain ⟨rfl, hZ, hh⟩ := hP
  have hx := Bd.exec
  have hlk : meth.locks = false := BodyLoose.notSynchronized Bd
  have hby := Bd.bytes
  have hml : c.maxLocals = 4 := hml0
  have hown : s.vm.findClass "com/example/rights_after_actions/rightsafteractions/io/LexiconIsArgumentCharacterPinLaw" = some m.cls := findClass_of_methodNamed Bd.named
  have hnm := (name_of_methodNamed Bd.named Bd.method).1
  have X0 : Stand p l e ({ frames := 0, cells := 0, slots := 0, locals := 0 } : Room) s m #[(.int p0)] below meth c s₁ [] 0 0 := Stand.of_body Bd
  have e0 : s₁.heap = h0 := by rw [← hh, Bd.state]; rfl
  have hv0 : f3 p0 = f3 p0 := rfl
  have B95 : ∀ (T_95 : State) (X_95 : Stand p l e ({ frames := 0, cells := 0, slots := 0, locals := 0 } : Room) s m #[(.int p0)] below meth c T_95 [] 0 0) (e_95 : T_95.heap = h0) (z95_s0 : Int32) (z29_s0 : Int32) (z47_s0 : Int32), f3 p0 = f3_95 p0 z95_s0 z29_s0 z47_s0 → Fini p e below s (fun v h' L => v = some (.int (f3 p0)) ∧ h' = h0 ∧ L = []) (Room.cells ({ frames := 0, cells := 0, slots := 0, locals := 0 } : Room)) (Room.slots ({ frames := 0, cells := 0, slots := 0, locals := 0 } : Room)) T_95 (mkF m 95 #[.val (.int p0), .val (.int z29_s0), .val (.int z47_s0), .unset] [(.int z95_s0)]) := by
    intro T_95 X_95 e_95 z95_s0 z29_s0 z47_s0 hv_95
    refine Fini.st (fun _ k => XS.istoreN X_95.here hx rfl (hb hby d3_95) rfl (l' := #[.val (.int p0), .val (.int z29_s0), .val (.int z47_s0), .val (.int z95_s0)]) rfl k) ?_
    show Fini p e below s _ _ _ T_95 (mkF m 96 #[.val (.int p0), .val (.int z29_s0), .val (.int z47_s0), .val (.int z95_s0)] [])
    refine Fini.st (fun _ k => XS.iloadN X_95.here hx rfl (hb hby d3_96) rfl k) ?_
    show Fini p e below s _ _ _ T_95 (mkF m 97 #[.val (.int p0), .val (.int z29_s0), .val (.int z47_s0), .val (.int z95_s0)] [(.int z29_s0)])
    by_cases c40 : z29_s0 = (0 : Int32)
    · have hv41 := hv_95.trans (if_pos c40)
      refine Fini.st (fun _ k => XS.ifNo X_95.here hx rfl (hb hby d3_97) rfl (XT.i0_ne_f c40) k) ?_
      show Fini p e below s _ _ _ T_95 (mkF m 100 #[.val (.int p0), .val (.int z29_s0), .val (.int z47_s0), .val (.int z95_s0)] [])
      refine Fini.st (fun _ k => XS.iloadN X_95.here hx rfl (hb hby d3_100) rfl k) ?_
      show Fini p e below s _ _ _ T_95 (mkF m 101 #[.val (.int p0), .val (.int z29_s0), .val (.int z47_s0), .val (.int z95_s0)] [(.int z47_s0)])
      by_cases c42 : z47_s0 = (0 : Int32)
      · have hv43 := hv41.trans (if_pos c42)
        refine Fini.st (fun _ k => XS.ifNo X_95.here hx rfl (hb hby d3_101) rfl (XT.i0_ne_f c42) k) ?_
        show Fini p e below s _ _ _ T_95 (mkF m 104 #[.val (.int p0), .val (.int z29_s0), .val (.int z47_s0), .val (.int z95_s0)] [])
        refine Fini.st (fun _ k => XS.iloadN X_95.here hx rfl (hb hby d3_104) rfl k) ?_
        show Fini p e below s _ _ _ T_95 (mkF m 105 #[.val (.int p0), .val (.int z29_s0), .val (.int z47_s0), .val (.int z95_s0)] [(.int z95_s0)])
        by_cases c44 : z95_s0 = (0 : Int32)
        · have hv45 := hv43.trans (if_pos c44)
          refine Fini.st (fun _ k => XS.ifYes X_95.here hx rfl (pc0 := 105) (pc' := 112) rfl (hb hby d3_105) rfl (XT.i0_eq_t c44) (by decide) (by decide) k) ?_
          show Fini p e below s _ _ _ T_95 (mkF m 112 #[.val (.int p0), .val (.int z29_s0), .val (.int z47_s0), .val (.int z95_s0)] [])
          refine Fini.st (fun _ k => XS.iconst X_95.here hx rfl (hb hby d3_112) k) ?_
          show Fini p e below s _ _ _ T_95 (mkF m 113 #[.val (.int p0), .val (.int z29_s0), .val (.int z47_s0), .val (.int z95_s0)] [(.int (0 : Int32))])
          exact Fini.retN X_95 hx hlk (t := .boolean) Bd.returns (by simp) (hb hby d3_113) nb0 (by decide) (by decide) ⟨congrArg (fun z => some (Value.int z)) hv45.symm, e_95, rfl⟩
        · have hv46 := hv43.trans (if_neg c44)
          refine Fini.st (fun _ k => XS.ifNo X_95.here hx rfl (hb hby d3_105) rfl (XT.i0_eq_f c44) k) ?_
          show Fini p e below s _ _ _ T_95 (mkF m 108 #[.val (.int p0), .val (.int z29_s0), .val (.int z47_s0), .val (.int z95_s0)] [])
          refine Fini.st (fun _ k => XS.iconst X_95.here hx rfl (hb hby d3_108) k) ?_
          show Fini p e below s _ _ _ T_95 (mkF m 109 #[.val (.int p0), .val (.int z29_s0), .val (.int z47_s0), .val (.int z95_s0)] [(.int (1 : Int32))])
          refine Fini.st (fun _ k => XS.goto X_95.here hx rfl (pc0 := 109) (pc' := 113) rfl (hb hby d3_109) (by decide) (by decide) k) ?_
          show Fini p e below s _ _ _ T_95 (mkF m 113 #[.val (.int p0), .val (.int z29_s0), .val (.int z47_s0), .val (.int z95_s0)] [(.int (1 : Int32))])
          exact Fini.retN X_95 hx hlk (t := .boolean) Bd.returns (by simp) (hb hby d3_113) nb1 (by decide) (by decide) ⟨congrArg (fun z => some (Value.int z)) hv46.symm, e_95, rfl⟩
      · have hv47 := hv41.trans (if_neg c42)
        refine Fini.st (fun _ k => XS.ifYes X_95.here hx rfl (pc0 := 101) (pc' := 108) rfl (hb hby d3_101) rfl (XT.i0_ne_t c42) (by decide) (by decide) k) ?_
        show Fini p e below s _ _ _ T_95 (mkF m 108 #[.val (.int p0), .val (.int z29_s0), .val (.int z47_s0), .val (.int z95_s0)] [])
        refine Fini.st (fun _ k => XS.iconst X_95.here hx rfl (hb hby d3_108) k) ?_
        show Fini p e below s _ _ _ T_95 (mkF m 109 #[.val (.int p0), .val (.int z29_s0), .val (.int z47_s0), .val (.int z95_s0)] [(.int (1 : Int32))])
        refine Fini.st (fun _ k => XS.goto X_95.here hx rfl (pc0 := 109) (pc' := 113) rfl (hb hby d3_109) (by decide) (by decide) k) ?_
        show Fini p e below s _ _ _ T_95 (mkF m 113 #[.val (.int p0), .val (.int z29_s0), .val (.int z47_s0), .val (.int z95_s0)] [(.int (1 : Int32))])
        exact Fini.retN X_95 hx hlk (t := .boolean) Bd.returns (by simp) (hb hby d3_113) nb1 (by decide) (by decide) ⟨congrArg (fun z => some (Value.int z)) hv47.symm, e_95, rfl⟩
    · have hv48 := hv_95.trans (if_neg c40)
      refine Fini.st (fun _ k => XS.ifYes X_95.here hx rfl (pc0 := 97) (pc' := 108) rfl (hb hby d3_97) rfl (XT.i0_ne_t c40) (by decide) (by decide) k) ?_
      show Fini p e below s _ _ _ T_95 (mkF m 108 #[.val (.int p0), .val (.int z29_s0), .val (.int z47_s0), .val (.int z95_s0)] [])
      refine Fini.st (fun _ k => XS.iconst X_95.here hx rfl (hb hby d3_108) k) ?_
      show Fini p e below s _ _ _ T_95 (mkF m 109 #[.val (.int p0), .val (.int z29_s0), .val (.int z47_s0), .val (.int z95_s0)] [(.int (1 : Int32))])
      refine Fini.st (fun _ k => XS.goto X_95.here hx rfl (pc0 := 109) (pc' := 113) rfl (hb hby d3_109) (by decide) (by decide) k) ?_
      show Fini p e below s _ _ _ T_95 (mkF m 113 #[.val (.int p0), .val (.int z29_s0), .val (.int z47_s0), .val (.int z95_s0)] [(.int (1 : Int32))])
      exact Fini.retN X_95 hx hlk (t := .boolean) Bd.returns (by simp) (hb hby d3_113) nb1 (by decide) (by decide) ⟨congrArg (fun z => some (Value.int z)) hv48.symm, e_95, rfl⟩
  have B90 : ∀ (T_90 : State) (X_90 : Stand p l e ({ frames := 0, cells := 0, slots := 0, locals := 0 } : Room) s m #[(.int p0)] below meth c T_90 [] 0 0) (e_90 : T_90.heap = h0) (z29_s0 : Int32) (z47_s0 : Int32), f3 p0 = f3_90 p0 z29_s0 z47_s0 → Fini p e below s (fun v h' L => v = some (.int (f3 p0)) ∧ h' = h0 ∧ L = []) (Room.cells ({ frames := 0, cells := 0, slots := 0, locals := 0 } : Room)) (Room.slots ({ frames := 0, cells := 0, slots := 0, locals := 0 } : Room)) T_90 (mkF m 90 #[.val (.int p0), .val (.int z29_s0), .val (.int z47_s0), .unset] []) := by
    intro T_90 X_90 e_90 z29_s0 z47_s0 hv_90
    refine Fini.st (fun _ k => XS.iconst X_90.here hx rfl (hb hby d3_90) k) ?_
    show Fini p e below s _ _ _ T_90 (mkF m 91 #[.val (.int p0), .val (.int z29_s0), .val (.int z47_s0), .unset] [(.int (1 : Int32))])
    refine Fini.st (fun _ k => XS.goto X_90.here hx rfl (pc0 := 91) (pc' := 95) rfl (hb hby d3_91) (by decide) (by decide) k) ?_
    show Fini p e below s _ _ _ T_90 (mkF m 95 #[.val (.int p0), .val (.int z29_s0), .val (.int z47_s0), .unset] [(.int (1 : Int32))])
    exact B95 T_90 X_90 e_90 (1 : Int32) z29_s0 z47_s0 hv_90
  have B47 : ∀ (T_47 : State) (X_47 : Stand p l e ({ frames := 0, cells := 0, slots := 0, locals := 0 } : Room) s m #[(.int p0)] below meth c T_47 [] 0 0) (e_47 : T_47.heap = h0) (z47_s0 : Int32) (z29_s0 : Int32), f3 p0 = f3_47 p0 z47_s0 z29_s0 → Fini p e below s (fun v h' L => v = some (.int (f3 p0)) ∧ h' = h0 ∧ L = []) (Room.cells ({ frames := 0, cells := 0, slots := 0, locals := 0 } : Room)) (Room.slots ({ frames := 0, cells := 0, slots := 0, locals := 0 } : Room)) T_47 (mkF m 47 #[.val (.int p0), .val (.int z29_s0), .unset, .unset] [(.int z47_s0)]) := by
    intro T_47 X_47 e_47 z47_s0 z29_s0 hv_47
    refine Fini.st (fun _ k => XS.istoreN X_47.here hx rfl (hb hby d3_47) rfl (l' := #[.val (.int p0), .val (.int z29_s0), .val (.int z47_s0), .unset]) rfl k) ?_
    show Fini p e below s _ _ _ T_47 (mkF m 48 #[.val (.int p0), .val (.int z29_s0), .val (.int z47_s0), .unset] [])
    refine Fini.st (fun _ k => XS.iloadN X_47.here hx rfl (hb hby d3_48) rfl k) ?_
    show Fini p e below s _ _ _ T_47 (mkF m 49 #[.val (.int p0), .val (.int z29_s0), .val (.int z47_s0), .unset] [(.int p0)])
    refine Fini.st (fun _ k => XS.bipush X_47.here hx rfl (hb hby d3_49) k) ?_
    show Fini p e below s _ _ _ T_47 (mkF m 51 #[.val (.int p0), .val (.int z29_s0), .val (.int z47_s0), .unset] [(.int (95 : Int32)), (.int p0)])
    by_cases c19 : p0 = (95 : Int32)
    · have hv20 := hv_47.trans (if_pos c19)
      refine Fini.st (fun _ k => XS.icmpYes X_47.here hx rfl (pc0 := 51) (pc' := 90) rfl (hb hby d3_51) rfl (XT.ii_eq_t c19) (by decide) (by decide) k) ?_
      show Fini p e below s _ _ _ T_47 (mkF m 90 #[.val (.int p0), .val (.int z29_s0), .val (.int z47_s0), .unset] [])
      exact B90 T_47 X_47 e_47 z29_s0 z47_s0 hv20
    · have hv21 := hv_47.trans (if_neg c19)
      refine Fini.st (fun _ k => XS.icmpNo X_47.here hx rfl (hb hby d3_51) rfl (XT.ii_eq_f c19) k) ?_
      show Fini p e below s _ _ _ T_47 (mkF m 54 #[.val (.int p0), .val (.int z29_s0), .val (.int z47_s0), .unset] [])
      refine Fini.st (fun _ k => XS.iloadN X_47.here hx rfl (hb hby d3_54) rfl k) ?_
      show Fini p e below s _ _ _ T_47 (mkF m 55 #[.val (.int p0), .val (.int z29_s0), .val (.int z47_s0), .unset] [(.int p0)])
      refine Fini.st (fun _ k => XS.bipush X_47.here hx rfl (hb hby d3_55) k) ?_
      show Fini p e below s _ _ _ T_47 (mkF m 57 #[.val (.int p0), .val (.int z29_s0), .val (.int z47_s0), .unset] [(.int (46 : Int32)), (.int p0)])
      by_cases c22 : p0 = (46 : Int32)
      · have hv23 := hv21.trans (if_pos c22)
        refine Fini.st (fun _ k => XS.icmpYes X_47.here hx rfl (pc0 := 57) (pc' := 90) rfl (hb hby d3_57) rfl (XT.ii_eq_t c22) (by decide) (by decide) k) ?_
        show Fini p e below s _ _ _ T_47 (mkF m 90 #[.val (.int p0), .val (.int z29_s0), .val (.int z47_s0), .unset] [])
        exact B90 T_47 X_47 e_47 z29_s0 z47_s0 hv23
      · have hv24 := hv21.trans (if_neg c22)
        refine Fini.st (fun _ k => XS.icmpNo X_47.here hx rfl (hb hby d3_57) rfl (XT.ii_eq_f c22) k) ?_
        show Fini p e below s _ _ _ T_47 (mkF m 60 #[.val (.int p0), .val (.int z29_s0), .val (.int z47_s0), .unset] [])
        refine Fini.st (fun _ k => XS.iloadN X_47.here hx rfl (hb hby d3_60) rfl k) ?_
        show Fini p e below s _ _ _ T_47 (mkF m 61 #[.val (.int p0), .val (.int z29_s0), .val (.int z47_s0), .unset] [(.int p0)])
        refine Fini.st (fun _ k => XS.bipush X_47.here hx rfl (hb hby d3_61) k) ?_
        show Fini p e below s _ _ _ T_47 (mkF m 63 #[.val (.int p0), .val (.int z29_s0), .val (.int z47_s0), .unset] [(.int (58 : Int32)), (.int p0)])
        by_cases c25 : p0 = (58 : Int32)
        · have hv26 := hv24.trans (if_pos c25)
          refine Fini.st (fun _ k => XS.icmpYes X_47.here hx rfl (pc0 := 63) (pc' := 90) rfl (hb hby d3_63) rfl (XT.ii_eq_t c25) (by decide) (by decide) k) ?_
          show Fini p e below s _ _ _ T_47 (mkF m 90 #[.val (.int p0), .val (.int z29_s0), .val (.int z47_s0), .unset] [])
          exact B90 T_47 X_47 e_47 z29_s0 z47_s0 hv26
        · have hv27 := hv24.trans (if_neg c25)
          refine Fini.st (fun _ k => XS.icmpNo X_47.here hx rfl (hb hby d3_63) rfl (XT.ii_eq_f c25) k) ?_
          show Fini p e below s _ _ _ T_47 (mkF m 66 #[.val (.int p0), .val (.int z29_s0), .val (.int z47_s0), .unset] [])
          refine Fini.st (fun _ k => XS.iloadN X_47.here hx rfl (hb hby d3_66) rfl k) ?_
          show Fini p e below s _ _ _ T_47 (mkF m 67 #[.val (.int p0), .val (.int z29_s0), .val (.int z47_s0), .unset] [(.int p0)])
          refine Fini.st (fun _ k => XS.bipush X_47.here hx rfl (hb hby d3_67) k) ?_
          show Fini p e below s _ _ _ T_47 (mkF m 69 #[.val (.int p0), .val (.int z29_s0), .val (.int z47_s0), .unset] [(.int (64 : Int32)), (.int p0)])
          by_cases c28 : p0 = (64 : Int32)
          · have hv29 := hv27.trans (if_pos c28)
            refine Fini.st (fun _ k => XS.icmpYes X_47.here hx rfl (pc0 := 69) (pc' := 90) rfl (hb hby d3_69) rfl (XT.ii_eq_t c28) (by decide) (by decide) k) ?_
            show Fini p e below s _ _ _ T_47 (mkF m 90 #[.val (.int p0), .val (.int z29_s0), .val (.int z47_s0), .unset] [])
            exact B90 T_47 X_47 e_47 z29_s0 z47_s0 hv29
          · have hv30 := hv27.trans (if_neg c28)
            refine Fini.st (fun _ k => XS.icmpNo X_47.here hx rfl (hb hby d3_69) rfl (XT.ii_eq_f c28) k) ?_
            show Fini p e below s _ _ _ T_47 (mkF m 72 #[.val (.int p0), .val (.int z29_s0), .val (.int z47_s0), .unset] [])
            refine Fini.st (fun _ k => XS.iloadN X_47.here hx rfl (hb hby d3_72) rfl k) ?_
            show Fini p e below s _ _ _ T_47 (mkF m 73 #[.val (.int p0), .val (.int z29_s0), .val (.int z47_s0), .unset] [(.int p0)])
            refine Fini.st (fun _ k => XS.bipush X_47.here hx rfl (hb hby d3_73) k) ?_
            show Fini p e below s _ _ _ T_47 (mkF m 75 #[.val (.int p0), .val (.int z29_s0), .val (.int z47_s0), .unset] [(.int (47 : Int32)), (.int p0)])
            by_cases c31 : p0 = (47 : Int32)
            · have hv32 := hv30.trans (if_pos c31)
              refine Fini.st (fun _ k => XS.icmpYes X_47.here hx rfl (pc0 := 75) (pc' := 90) rfl (hb hby d3_75) rfl (XT.ii_eq_t c31) (by decide) (by decide) k) ?_
              show Fini p e below s _ _ _ T_47 (mkF m 90 #[.val (.int p0), .val (.int z29_s0), .val (.int z47_s0), .unset] [])
              exact B90 T_47 X_47 e_47 z29_s0 z47_s0 hv32
            · have hv33 := hv30.trans (if_neg c31)
              refine Fini.st (fun _ k => XS.icmpNo X_47.here hx rfl (hb hby d3_75) rfl (XT.ii_eq_f c31) k) ?_
              show Fini p e below s _ _ _ T_47 (mkF m 78 #[.val (.int p0), .val (.int z29_s0), .val (.int z47_s0), .unset] [])
              refine Fini.st (fun _ k => XS.iloadN X_47.here hx rfl (hb hby d3_78) rfl k) ?_
              show Fini p e below s _ _ _ T_47 (mkF m 79 #[.val (.int p0), .val (.int z29_s0), .val (.int z47_s0), .unset] [(.int p0)])
              refine Fini.st (fun _ k => XS.bipush X_47.here hx rfl (hb hby d3_79) k) ?_
              show Fini p e below s _ _ _ T_47 (mkF m 81 #[.val (.int p0), .val (.int z29_s0), .val (.int z47_s0), .unset] [(.int (43 : Int32)), (.int p0)])
              by_cases c34 : p0 = (43 : Int32)
              · have hv35 := hv33.trans (if_pos c34)
                refine Fini.st (fun _ k => XS.icmpYes X_47.here hx rfl (pc0 := 81) (pc' := 90) rfl (hb hby d3_81) rfl (XT.ii_eq_t c34) (by decide) (by decide) k) ?_
                show Fini p e below s _ _ _ T_47 (mkF m 90 #[.val (.int p0), .val (.int z29_s0), .val (.int z47_s0), .unset] [])
                exact B90 T_47 X_47 e_47 z29_s0 z47_s0 hv35
              · have hv36 := hv33.trans (if_neg c34)
                refine Fini.st (fun _ k => XS.icmpNo X_47.here hx rfl (hb hby d3_81) rfl (XT.ii_eq_f c34) k) ?_
                show Fini p e below s _ _ _ T_47 (mkF m 84 #[.val (.int p0), .val (.int z29_s0), .val (.int z47_s0), .unset] [])
                refine Fini.st (fun _ k => XS.iloadN X_47.here hx rfl (hb hby d3_84) rfl k) ?_
                show Fini p e below s _ _ _ T_47 (mkF m 85 #[.val (.int p0), .val (.int z29_s0), .val (.int z47_s0), .unset] [(.int p0)])
                refine Fini.st (fun _ k => XS.bipush X_47.here hx rfl (hb hby d3_85) k) ?_
                show Fini p e below s _ _ _ T_47 (mkF m 87 #[.val (.int p0), .val (.int z29_s0), .val (.int z47_s0), .unset] [(.int (45 : Int32)), (.int p0)])
                by_cases c37 : p0 = (45 : Int32)
                · have hv38 := hv36.trans (if_pos c37)
                  refine Fini.st (fun _ k => XS.icmpNo X_47.here hx rfl (hb hby d3_87) rfl (XT.ii_ne_f c37) k) ?_
                  show Fini p e below s _ _ _ T_47 (mkF m 90 #[.val (.int p0), .val (.int z29_s0), .val (.int z47_s0), .unset] [])
                  exact B90 T_47 X_47 e_47 z29_s0 z47_s0 hv38
                · have hv39 := hv36.trans (if_neg c37)
                  refine Fini.st (fun _ k => XS.icmpYes X_47.here hx rfl (pc0 := 87) (pc' := 94) rfl (hb hby d3_87) rfl (XT.ii_ne_t c37) (by decide) (by decide) k) ?_
                  show Fini p e below s _ _ _ T_47 (mkF m 94 #[.val (.int p0), .val (.int z29_s0), .val (.int z47_s0), .unset] [])
                  refine Fini.st (fun _ k => XS.iconst X_47.here hx rfl (hb hby d3_94) k) ?_
                  show Fini p e below s _ _ _ T_47 (mkF m 95 #[.val (.int p0), .val (.int z29_s0), .val (.int z47_s0), .unset] [(.int (0 : Int32))])
                  exact B95 T_47 X_47 e_47 (0 : Int32) z29_s0 z47_s0 hv39
  have B46 : ∀ (T_46 : State) (X_46 : Stand p l e ({ frames := 0, cells := 0, slots := 0, locals := 0 } : Room) s m #[(.int p0)] below meth c T_46 [] 0 0) (e_46 : T_46.heap = h0) (z29_s0 : Int32), f3 p0 = f3_46 p0 z29_s0 → Fini p e below s (fun v h' L => v = some (.int (f3 p0)) ∧ h' = h0 ∧ L = []) (Room.cells ({ frames := 0, cells := 0, slots := 0, locals := 0 } : Room)) (Room.slots ({ frames := 0, cells := 0, slots := 0, locals := 0 } : Room)) T_46 (mkF m 46 #[.val (.int p0), .val (.int z29_s0), .unset, .unset] []) := by
    intro T_46 X_46 e_46 z29_s0 hv_46
    refine Fini.st (fun _ k => XS.iconst X_46.here hx rfl (hb hby d3_46) k) ?_
    show Fini p e below s _ _ _ T_46 (mkF m 47 #[.val (.int p0), .val (.int z29_s0), .unset, .unset] [(.int (0 : Int32))])
    exact B47 T_46 X_46 e_46 (0 : Int32) z29_s0 hv_46
  have B29 : ∀ (T_29 : State) (X_29 : Stand p l e ({ frames := 0, cells := 0, slots := 0, locals := 0 } : Room) s m #[(.int p0)] below meth c T_29 [] 0 0) (e_29 : T_29.heap = h0) (z29_s0 : Int32), f3 p0 = f3_29 p0 z29_s0 → Fini p e below s (fun v h' L => v = some (.int (f3 p0)) ∧ h' = h0 ∧ L = []) (Room.cells ({ frames := 0, cells := 0, slots := 0, locals := 0 } : Room)) (Room.slots ({ frames := 0, cells := 0, slots := 0, locals := 0 } : Room)) T_29 (mkF m 29 #[.val (.int p0), .unset, .unset, .unset] [(.int z29_s0)]) := by
    intro T_29 X_29 e_29 z29_s0 hv_29
    refine Fini.st (fun _ k => XS.istoreN X_29.here hx rfl (hb hby d3_29) rfl (l' := #[.val (.int p0), .val (.int z29_s0), .unset, .unset]) rfl k) ?_
    show Fini p e below s _ _ _ T_29 (mkF m 30 #[.val (.int p0), .val (.int z29_s0), .unset, .unset] [])
    refine Fini.st (fun _ k => XS.iloadN X_29.here hx rfl (hb hby d3_30) rfl k) ?_
    show Fini p e below s _ _ _ T_29 (mkF m 31 #[.val (.int p0), .val (.int z29_s0), .unset, .unset] [(.int p0)])
    refine Fini.st (fun _ k => XS.bipush X_29.here hx rfl (hb hby d3_31) k) ?_
    show Fini p e below s _ _ _ T_29 (mkF m 33 #[.val (.int p0), .val (.int z29_s0), .unset, .unset] [(.int (48 : Int32)), (.int p0)])
    by_cases c13 : p0 < (48 : Int32)
    · have hv14 := hv_29.trans (if_pos c13)
      refine Fini.st (fun _ k => XS.icmpYes X_29.here hx rfl (pc0 := 33) (pc' := 46) rfl (hb hby d3_33) rfl (XT.ii_lt_t c13) (by decide) (by decide) k) ?_
      show Fini p e below s _ _ _ T_29 (mkF m 46 #[.val (.int p0), .val (.int z29_s0), .unset, .unset] [])
      exact B46 T_29 X_29 e_29 z29_s0 hv14
    · have hv15 := hv_29.trans (if_neg c13)
      refine Fini.st (fun _ k => XS.icmpNo X_29.here hx rfl (hb hby d3_33) rfl (XT.ii_lt_f c13) k) ?_
      show Fini p e below s _ _ _ T_29 (mkF m 36 #[.val (.int p0), .val (.int z29_s0), .unset, .unset] [])
      refine Fini.st (fun _ k => XS.iloadN X_29.here hx rfl (hb hby d3_36) rfl k) ?_
      show Fini p e below s _ _ _ T_29 (mkF m 37 #[.val (.int p0), .val (.int z29_s0), .unset, .unset] [(.int p0)])
      refine Fini.st (fun _ k => XS.bipush X_29.here hx rfl (hb hby d3_37) k) ?_
      show Fini p e below s _ _ _ T_29 (mkF m 39 #[.val (.int p0), .val (.int z29_s0), .unset, .unset] [(.int (57 : Int32)), (.int p0)])
      by_cases c16 : (57 : Int32) < p0
      · have hv17 := hv15.trans (if_pos c16)
        refine Fini.st (fun _ k => XS.icmpYes X_29.here hx rfl (pc0 := 39) (pc' := 46) rfl (hb hby d3_39) rfl (XT.ii_gt_t c16) (by decide) (by decide) k) ?_
        show Fini p e below s _ _ _ T_29 (mkF m 46 #[.val (.int p0), .val (.int z29_s0), .unset, .unset] [])
        exact B46 T_29 X_29 e_29 z29_s0 hv17
      · have hv18 := hv15.trans (if_neg c16)
        refine Fini.st (fun _ k => XS.icmpNo X_29.here hx rfl (hb hby d3_39) rfl (XT.ii_gt_f c16) k) ?_
        show Fini p e below s _ _ _ T_29 (mkF m 42 #[.val (.int p0), .val (.int z29_s0), .unset, .unset] [])
        refine Fini.st (fun _ k => XS.iconst X_29.here hx rfl (hb hby d3_42) k) ?_
        show Fini p e below s _ _ _ T_29 (mkF m 43 #[.val (.int p0), .val (.int z29_s0), .unset, .unset] [(.int (1 : Int32))])
        refine Fini.st (fun _ k => XS.goto X_29.here hx rfl (pc0 := 43) (pc' := 47) rfl (hb hby d3_43) (by decide) (by decide) k) ?_
        show Fini p e below s _ _ _ T_29 (mkF m 47 #[.val (.int p0), .val (.int z29_s0), .unset, .unset] [(.int (1 : Int32))])
        exact B47 T_29 X_29 e_29 (1 : Int32) z29_s0 hv18
  have B28 : ∀ (T_28 : State) (X_28 : Stand p l e ({ frames := 0, cells := 0, slots := 0, locals := 0 } : Room) s m #[(.int p0)] below meth c T_28 [] 0 0) (e_28 : T_28.heap = h0), f3 p0 = f3_28 p0 → Fini p e below s (fun v h' L => v = some (.int (f3 p0)) ∧ h' = h0 ∧ L = []) (Room.cells ({ frames := 0, cells := 0, slots := 0, locals := 0 } : Room)) (Room.slots ({ frames := 0, cells := 0, slots := 0, locals := 0 } : Room)) T_28 (mkF m 28 #[.val (.int p0), .unset, .unset, .unset] []) := by
    intro T_28 X_28 e_28  hv_28
    refine Fini.st (fun _ k => XS.iconst X_28.here hx rfl (hb hby d3_28) k) ?_
    show Fini p e below s _ _ _ T_28 (mkF m 29 #[.val (.int p0), .unset, .unset, .unset] [(.int (0 : Int32))])
    exact B29 T_28 X_28 e_28 (0 : Int32) hv_28
  have B24 : ∀ (T_24 : State) (X_24 : Stand p l e ({ frames := 0, cells := 0, slots := 0, locals := 0 } : Room) s m #[(.int p0)] below meth c T_24 [] 0 0) (e_24 : T_24.heap = h0), f3 p0 = f3_24 p0 → Fini p e below s (fun v h' L => v = some (.int (f3 p0)) ∧ h' = h0 ∧ L = []) (Room.cells ({ frames := 0, cells := 0, slots := 0, locals := 0 } : Room)) (Room.slots ({ frames := 0, cells := 0, slots := 0, locals := 0 } : Room)) T_24 (mkF m 24 #[.val (.int p0), .unset, .unset, .unset] []) := by
    intro T_24 X_24 e_24  hv_24
    refine Fini.st (fun _ k => XS.iconst X_24.here hx rfl (hb hby d3_24) k) ?_
    show Fini p e below s _ _ _ T_24 (mkF m 25 #[.val (.int p0), .unset, .unset, .unset] [(.int (1 : Int32))])
    refine Fini.st (fun _ k => XS.goto X_24.here hx rfl (pc0 := 25) (pc' := 29) rfl (hb hby d3_25) (by decide) (by decide) k) ?_
    show Fini p e below s _ _ _ T_24 (mkF m 29 #[.val (.int p0), .unset, .unset, .unset] [(.int (1 : Int32))])
    exact B29 T_24 X_24 e_24 (1 : Int32) hv_24
  have B12 : ∀ (T_12 : State) (X_12 : Stand p l e ({ frames := 0, cells := 0, slots := 0, locals := 0 } : Room) s m #[(.int p0)] below meth c T_12 [] 0 0) (e_12 : T_12.heap = h0), f3 p0 = f3_12 p0 → Fini p e below s (fun v h' L => v = some (.int (f3 p0)) ∧ h' = h0 ∧ L = []) (Room.cells ({ frames := 0, cells := 0, slots := 0, locals := 0 } : Room)) (Room.slots ({ frames := 0, cells := 0, slots := 0, locals := 0 } : Room)) T_12 (mkF m 12 #[.val (.int p0), .unset, .unset, .unset] []) := by
    intro T_12 X_12 e_12  hv_12
    refine Fini.st (fun _ k => XS.iloadN X_12.here hx rfl (hb hby d3_12) rfl k) ?_
    show Fini p e below s _ _ _ T_12 (mkF m 13 #[.val (.int p0), .unset, .unset, .unset] [(.int p0)])
    refine Fini.st (fun _ k => XS.bipush X_12.here hx rfl (hb hby d3_13) k) ?_
    show Fini p e below s _ _ _ T_12 (mkF m 15 #[.val (.int p0), .unset, .unset, .unset] [(.int (65 : Int32)), (.int p0)])
    by_cases c7 : p0 < (65 : Int32)
    · have hv8 := hv_12.trans (if_pos c7)
      refine Fini.st (fun _ k => XS.icmpYes X_12.here hx rfl (pc0 := 15) (pc' := 28) rfl (hb hby d3_15) rfl (XT.ii_lt_t c7) (by decide) (by decide) k) ?_
      show Fini p e below s _ _ _ T_12 (mkF m 28 #[.val (.int p0), .unset, .unset, .unset] [])
      exact B28 T_12 X_12 e_12 hv8
    · have hv9 := hv_12.trans (if_neg c7)
      refine Fini.st (fun _ k => XS.icmpNo X_12.here hx rfl (hb hby d3_15) rfl (XT.ii_lt_f c7) k) ?_
      show Fini p e below s _ _ _ T_12 (mkF m 18 #[.val (.int p0), .unset, .unset, .unset] [])
      refine Fini.st (fun _ k => XS.iloadN X_12.here hx rfl (hb hby d3_18) rfl k) ?_
      show Fini p e below s _ _ _ T_12 (mkF m 19 #[.val (.int p0), .unset, .unset, .unset] [(.int p0)])
      refine Fini.st (fun _ k => XS.bipush X_12.here hx rfl (hb hby d3_19) k) ?_
      show Fini p e below s _ _ _ T_12 (mkF m 21 #[.val (.int p0), .unset, .unset, .unset] [(.int (90 : Int32)), (.int p0)])
      by_cases c10 : (90 : Int32) < p0
      · have hv11 := hv9.trans (if_pos c10)
        refine Fini.st (fun _ k => XS.icmpYes X_12.here hx rfl (pc0 := 21) (pc' := 28) rfl (hb hby d3_21) rfl (XT.ii_gt_t c10) (by decide) (by decide) k) ?_
        show Fini p e below s _ _ _ T_12 (mkF m 28 #[.val (.int p0), .unset, .unset, .unset] [])
        exact B28 T_12 X_12 e_12 hv11
      · have hv12 := hv9.trans (if_neg c10)
        refine Fini.st (fun _ k => XS.icmpNo X_12.here hx rfl (hb hby d3_21) rfl (XT.ii_gt_f c10) k) ?_
        show Fini p e below s _ _ _ T_12 (mkF m 24 #[.val (.int p0), .unset, .unset, .unset] [])
        exact B24 T_12 X_12 e_12 hv12
  show Fini p e below s (fun v h' L => v = some (.int (f3 p0)) ∧ h' = h0 ∧ L = []) _ _ s₁ (entryFrame m #[(.int p0)] 4)
  refine Fini.cast (ef3 m p0) ?_
  show Fini p e below s _ _ _ s₁ (mkF m 0 #[.val (.int p0), .unset, .unset, .unset] [])
  refine Fini.st (fun _ k => XS.iloadN X0.here hx rfl (hb hby d3_0) rfl k) ?_
  show Fini p e below s _ _ _ s₁ (mkF m 1 #[.val (.int p0), .unset, .unset, .unset] [(.int p0)])
  refine Fini.st (fun _ k => XS.bipush X0.here hx rfl (hb hby d3_1) k) ?_
  show Fini p e below s _ _ _ s₁ (mkF m 3 #[.val (.int p0), .unset, .unset, .unset] [(.int (97 : Int32)), (.int p0)])
  by_cases c1 : p0 < (97 : Int32)
  · have hv2 := hv0.trans (if_pos c1)
    refine Fini.st (fun _ k => XS.icmpYes X0.here hx rfl (pc0 := 3) (pc' := 12) rfl (hb hby d3_3) rfl (XT.ii_lt_t c1) (by decide) (by decide) k) ?_
    show Fini p e below s _ _ _ s₁ (mkF m 12 #[.val (.int p0), .unset, .unset, .unset] [])
    exact B12 s₁ X0 e0 hv2
  · have hv3 := hv0.trans (if_neg c1)
    refine Fini.st (fun _ k => XS.icmpNo X0.here hx rfl (hb hby d3_3) rfl (XT.ii_lt_f c1) k) ?_
    show Fini p e below s _ _ _ s₁ (mkF m 6 #[.val (.int p0), .unset, .unset, .unset] [])
    refine Fini.st (fun _ k => XS.iloadN X0.here hx rfl (hb hby d3_6) rfl k) ?_
    show Fini p e below s _ _ _ s₁ (mkF m 7 #[.val (.int p0), .unset, .unset, .unset] [(.int p0)])
    refine Fini.st (fun _ k => XS.bipush X0.here hx rfl (hb hby d3_7) k) ?_
    show Fini p e below s _ _ _ s₁ (mkF m 9 #[.val (.int p0), .unset, .unset, .unset] [(.int (122 : Int32)), (.int p0)])
    by_cases c4 : (122 : Int32) < p0
    · have hv5 := hv3.trans (if_pos c4)
      refine Fini.st (fun _ k => XS.icmpNo X0.here hx rfl (hb hby d3_9) rfl (XT.ii_le_f c4) k) ?_
      show Fini p e below s _ _ _ s₁ (mkF m 12 #[.val (.int p0), .unset, .unset, .unset] [])
      exact B12 s₁ X0 e0 hv5
    · have hv6 := hv3.trans (if_neg c4)
      refine Fini.st (fun _ k => XS.icmpYes X0.here hx rfl (pc0 := 9) (pc' := 24) rfl (hb hby d3_9) rfl (XT.ii_le_t c4) (by decide) (by decide) k) ?_
      show Fini p e below s _ _ _ s₁ (mkF m 24 #[.val (.int p0), .unset, .unset, .unset] [])
      exact B24 s₁ X0 e0 hv6
theorem pd_0 : parseMethodDescriptor "(I)Z" = some ⟨[.int], some .boolean⟩ := by decide +kernel
theorem d1_0 : decode method_3_code 0 = .ok (.iload_n 0, 1) := by decide +kernel
theorem d1_1 : decode method_3_code 1 = .ok (.invokestatic 7, 3) := by decide +kernel
theorem d1_4 : decode method_3_code 4 = .ok (.iload_n 0, 1) := by decide +kernel
theorem d1_5 : decode method_3_code 5 = .ok (.invokestatic 13, 3) := by decide +kernel
theorem d1_8 : decode method_3_code 8 = .ok (.if_icmp .ne 7, 3) := by decide +kernel
theorem d1_11 : decode method_3_code 11 = .ok (.iconst 1, 1) := by decide +kernel
theorem d1_12 : decode method_3_code 12 = .ok (.goto 4, 3) := by decide +kernel
theorem d1_15 : decode method_3_code 15 = .ok (.iconst 0, 1) := by decide +kernel
theorem d1_16 : decode method_3_code 16 = .ok (.ireturn, 1) := by decide +kernel
theorem ef1 (m : MethodId) (x0 : Int32) : entryFrame m #[(.int x0)] 1 = mkF m 0 #[.val (.int x0)] [] := by first | (simp [entryFrame, mkF, argsToLocals, Value.category]; done) | rfl
def f1 (p0 : Int32) (u : Nat → Int32) : Int32 := (if (f2 p0 u) = (f3 p0) then (1 : Int32) else (0 : Int32))
set_option maxRecDepth 65536 in
set_option maxHeartbeats 40000000 in
theorem rm1 (l : Launch) (Z : State) (a0 : Array Value) (hw : ∀ d ∈ tables_1, d.before a0 Z = true) (ws : List Jvm.Cond) (p0 : Int32) (ar : Addr) (u : Nat → Int32) (h0 : Heap) (S_ar : Sta Z h0 "com/example/rights_after_actions/rightsafteractions/io/Lexicon" "ARGUMENT_CHARACTERS" "[Z" (.ref ar)) (A_ar : AryI Z h0 ar .boolean (128 : Int32) u) :
    Cmet l Z (⟨"com/example/rights_after_actions/rightsafteractions/io/LexiconIsArgumentCharacterPinLaw", "agrees", "(I)Z"⟩ : MethodName) method_3_code 1 (some .boolean) ws ({ frames := 1, cells := 0, slots := 0, locals := 16 } : Room) #[(.int p0)] h0 (fun v h' L => v = some (.int (f1 p0 u)) ∧ h' = h0 ∧ L = []) := by
  refine MetFree.of_bodySF (plainFor_of_name pn_1) hisR ?_
  intro p e s m args below meth c s₁ Bd hml0 hP hK
  obtain ⟨rfl, hZ, hh⟩ := hP
  have hx := Bd.exec
  have hlk : meth.locks = false := BodyLoose.notSynchronized Bd
  have hby := Bd.bytes
  have hml : c.maxLocals = 1 := hml0
  have hown : s.vm.findClass "com/example/rights_after_actions/rightsafteractions/io/LexiconIsArgumentCharacterPinLaw" = some m.cls := findClass_of_methodNamed Bd.named
  have hnm := (name_of_methodNamed Bd.named Bd.method).1
  have X0 : Stand p l e ({ frames := 1, cells := 0, slots := 0, locals := 16 } : Room) s m #[(.int p0)] below meth c s₁ [] 0 0 := Stand.of_body Bd
  have e0 : s₁.heap = h0 := by rw [← hh, Bd.state]; rfl
  have hv0 : f1 p0 u = f1 p0 u := rfl
  show Fini p e below s (fun v h' L => v = some (.int (f1 p0 u)) ∧ h' = h0 ∧ L = []) _ _ s₁ (entryFrame m #[(.int p0)] 1)
  refine Fini.cast (ef1 m p0) ?_
  show Fini p e below s _ _ _ s₁ (mkF m 0 #[.val (.int p0)] [])
  refine Fini.st (fun _ k => XS.iloadN X0.here hx rfl (hb hby d1_0) rfl k) ?_
  show Fini p e below s _ _ _ s₁ (mkF m 1 #[.val (.int p0)] [(.int p0)])
  obtain ⟨T1, X1, e1, st1⟩ := pureS X0 hx hZ hown (hw _ (List.mem_of_getElem? (i := 4) rfl)) (hw _ (List.mem_of_getElem? (i := 5) rfl)) (hw _ (List.mem_of_getElem? (i := 6) rfl)) (hw _ (List.mem_of_getElem? (i := 7) rfl)) (by decide) (rm2 l Z a0 hw [] p0 ar u h0 S_ar A_ar) e0 (W := 0) (by decide) (by decide) (by decide) (by decide) (g := (mkF m 1 #[.val (.int p0)] [(.int p0)])) rfl (by rw [hml]; rfl) (argsL := [(.int p0)]) (rest := []) rfl (lenOf pd_0 rfl) rfl (by show 2 * 0 + _ ≤ _; exact Nat.le_of_eq rfl) (hb hby d1_1)
  refine Fini.st st1 ?_
  show Fini p e below s _ _ _ T1 (mkF m 4 #[.val (.int p0)] [(.int (f2 p0 u))])
  refine Fini.st (fun _ k => XS.iloadN X1.here hx rfl (hb hby d1_4) rfl k) ?_
  show Fini p e below s _ _ _ T1 (mkF m 5 #[.val (.int p0)] [(.int p0), (.int (f2 p0 u))])
  obtain ⟨T2, X2, e2, st2⟩ := pureS X1 hx hZ hown (hw _ (List.mem_of_getElem? (i := 10) rfl)) (hw _ (List.mem_of_getElem? (i := 11) rfl)) (hw _ (List.mem_of_getElem? (i := 2) rfl)) (hw _ (List.mem_of_getElem? (i := 12) rfl)) (by decide) (rm3 l Z a0 hw [] p0 h0) e1 (W := 1) (by decide) (by decide) (by decide) (by decide) (g := (mkF m 5 #[.val (.int p0)] [(.int p0), (.int (f2 p0 u))])) rfl (by rw [hml]; rfl) (argsL := [(.int p0)]) (rest := [(.int (f2 p0 u))]) rfl (lenOf pd_0 rfl) rfl (by show 2 * 0 + _ ≤ _; exact Nat.le_of_eq rfl) (hb hby d1_5)
  refine Fini.st st2 ?_
  show Fini p e below s _ _ _ T2 (mkF m 8 #[.val (.int p0)] [(.int (f3 p0)), (.int (f2 p0 u))])
  by_cases c3 : (f2 p0 u) = (f3 p0)
  · have hv4 := hv0.trans (if_pos c3)
    refine Fini.st (fun _ k => XS.icmpNo X2.here hx rfl (hb hby d1_8) rfl (XT.ii_ne_f c3) k) ?_
    show Fini p e below s _ _ _ T2 (mkF m 11 #[.val (.int p0)] [])
    refine Fini.st (fun _ k => XS.iconst X2.here hx rfl (hb hby d1_11) k) ?_
    show Fini p e below s _ _ _ T2 (mkF m 12 #[.val (.int p0)] [(.int (1 : Int32))])
    refine Fini.st (fun _ k => XS.goto X2.here hx rfl (pc0 := 12) (pc' := 16) rfl (hb hby d1_12) (by decide) (by decide) k) ?_
    show Fini p e below s _ _ _ T2 (mkF m 16 #[.val (.int p0)] [(.int (1 : Int32))])
    exact Fini.retN X2 hx hlk (t := .boolean) Bd.returns (by simp) (hb hby d1_16) nb1 (by decide) (by decide) ⟨congrArg (fun z => some (Value.int z)) hv4.symm, e2, rfl⟩
  · have hv5 := hv0.trans (if_neg c3)
    refine Fini.st (fun _ k => XS.icmpYes X2.here hx rfl (pc0 := 8) (pc' := 15) rfl (hb hby d1_8) rfl (XT.ii_ne_t c3) (by decide) (by decide) k) ?_
    show Fini p e below s _ _ _ T2 (mkF m 15 #[.val (.int p0)] [])
    refine Fini.st (fun _ k => XS.iconst X2.here hx rfl (hb hby d1_15) k) ?_
    show Fini p e below s _ _ _ T2 (mkF m 16 #[.val (.int p0)] [(.int (0 : Int32))])
    exact Fini.retN X2 hx hlk (t := .boolean) Bd.returns (by simp) (hb hby d1_16) nb0 (by decide) (by decide) ⟨congrArg (fun z => some (Value.int z)) hv5.symm, e2, rfl⟩
theorem ef0 (m : MethodId) (x0 : Int32) : entryFrame m #[(.int x0)] maxLocals = mkF m 0 #[.val (.int x0), .unset, .unset, .unset] [] := by first | (simp [entryFrame, mkF, argsToLocals, Value.category, maxLocals]; done) | rfl
def f0 (p0 : Int32) (u : Nat → Int32) : Int32 := (if (f1 p0 u) = (0 : Int32) then (0 : Int32) else (if (f1 (p0 &&& (255 : Int32)) u) = (0 : Int32) then (0 : Int32) else (if (f1 ((p0 &&& (511 : Int32)) - (256 : Int32)) u) = (0 : Int32) then (0 : Int32) else (1 : Int32))))
set_option maxRecDepth 65536 in
set_option maxHeartbeats 40000000 in
theorem rm0 (l : Launch) (Z : State) (a0 : Array Value) (hw : ∀ d ∈ tables_1, d.before a0 Z = true) (ws : List Jvm.Cond) (p0 : Int32) (ar : Addr) (u : Nat → Int32) (h0 : Heap) (S_ar : Sta Z h0 "com/example/rights_after_actions/rightsafteractions/io/Lexicon" "ARGUMENT_CHARACTERS" "[Z" (.ref ar)) (A_ar : AryI Z h0 ar .boolean (128 : Int32) u) :
    Cmet l Z x code maxLocals ret ws room_1 #[(.int p0)] h0 (fun v h' L => v = some (.int (f0 p0 u)) ∧ h' = h0 ∧ L = []) := by
  refine MetFree.of_bodySF (plainFor_of_name pn_1) hisR ?_
  intro p e s m args below meth c s₁ Bd hml0 hP hK
  obtain ⟨rfl, hZ, hh⟩ := hP
  have hx := Bd.exec
  have hlk : meth.locks = false := BodyLoose.notSynchronized Bd
  have hby := Bd.bytes
  have hml : c.maxLocals = 4 := hml0
  have hown : s.vm.findClass "com/example/rights_after_actions/rightsafteractions/io/LexiconIsArgumentCharacterPinLaw" = some m.cls := findClass_of_methodNamed Bd.named
  have hnm := (name_of_methodNamed Bd.named Bd.method).1
  have X0 : Stand p l e room_1 s m #[(.int p0)] below meth c s₁ [] 0 0 := Stand.of_body Bd
  have e0 : s₁.heap = h0 := by rw [← hh, Bd.state]; rfl
  have hv0 : f0 p0 u = f0 p0 u := rfl
  show Fini p e below s (fun v h' L => v = some (.int (f0 p0 u)) ∧ h' = h0 ∧ L = []) _ _ s₁ (entryFrame m #[(.int p0)] maxLocals)
  refine Fini.cast (ef0 m p0) ?_
  show Fini p e below s _ _ _ s₁ (mkF m 0 #[.val (.int p0), .unset, .unset, .unset] [])
  refine Fini.st (fun _ k => XS.iloadN X0.here hx rfl (hb hby at_0) rfl k) ?_
  show Fini p e below s _ _ _ s₁ (mkF m 1 #[.val (.int p0), .unset, .unset, .unset] [(.int p0)])
  refine Fini.st (fun _ k => XS.istoreN X0.here hx rfl (hb hby at_1) rfl (l' := #[.val (.int p0), .val (.int p0), .unset, .unset]) rfl k) ?_
  show Fini p e below s _ _ _ s₁ (mkF m 2 #[.val (.int p0), .val (.int p0), .unset, .unset] [])
  refine Fini.st (fun _ k => XS.iloadN X0.here hx rfl (hb hby at_2) rfl k) ?_
  show Fini p e below s _ _ _ s₁ (mkF m 3 #[.val (.int p0), .val (.int p0), .unset, .unset] [(.int p0)])
  refine Fini.st (fun _ k => XS.sipush X0.here hx rfl (hb hby at_3) k) ?_
  show Fini p e below s _ _ _ s₁ (mkF m 6 #[.val (.int p0), .val (.int p0), .unset, .unset] [(.int (255 : Int32)), (.int p0)])
  refine Fini.st (fun _ k => XS.iand X0.here hx rfl (hb hby at_6) rfl k) ?_
  show Fini p e below s _ _ _ s₁ (mkF m 7 #[.val (.int p0), .val (.int p0), .unset, .unset] [(.int (p0 &&& (255 : Int32)))])
  refine Fini.st (fun _ k => XS.istoreN X0.here hx rfl (hb hby at_7) rfl (l' := #[.val (.int p0), .val (.int p0), .val (.int (p0 &&& (255 : Int32))), .unset]) rfl k) ?_
  show Fini p e below s _ _ _ s₁ (mkF m 8 #[.val (.int p0), .val (.int p0), .val (.int (p0 &&& (255 : Int32))), .unset] [])
  refine Fini.st (fun _ k => XS.iloadN X0.here hx rfl (hb hby at_8) rfl k) ?_
  show Fini p e below s _ _ _ s₁ (mkF m 9 #[.val (.int p0), .val (.int p0), .val (.int (p0 &&& (255 : Int32))), .unset] [(.int p0)])
  refine Fini.st (fun _ k => XS.sipush X0.here hx rfl (hb hby at_9) k) ?_
  show Fini p e below s _ _ _ s₁ (mkF m 12 #[.val (.int p0), .val (.int p0), .val (.int (p0 &&& (255 : Int32))), .unset] [(.int (511 : Int32)), (.int p0)])
  refine Fini.st (fun _ k => XS.iand X0.here hx rfl (hb hby at_12) rfl k) ?_
  show Fini p e below s _ _ _ s₁ (mkF m 13 #[.val (.int p0), .val (.int p0), .val (.int (p0 &&& (255 : Int32))), .unset] [(.int (p0 &&& (511 : Int32)))])
  refine Fini.st (fun _ k => XS.sipush X0.here hx rfl (hb hby at_13) k) ?_
  show Fini p e below s _ _ _ s₁ (mkF m 16 #[.val (.int p0), .val (.int p0), .val (.int (p0 &&& (255 : Int32))), .unset] [(.int (256 : Int32)), (.int (p0 &&& (511 : Int32)))])
  refine Fini.st (fun _ k => XS.isub X0.here hx rfl (hb hby at_16) rfl k) ?_
  show Fini p e below s _ _ _ s₁ (mkF m 17 #[.val (.int p0), .val (.int p0), .val (.int (p0 &&& (255 : Int32))), .unset] [(.int ((p0 &&& (511 : Int32)) - (256 : Int32)))])
  refine Fini.st (fun _ k => XS.istoreN X0.here hx rfl (hb hby at_17) rfl (l' := #[.val (.int p0), .val (.int p0), .val (.int (p0 &&& (255 : Int32))), .val (.int ((p0 &&& (511 : Int32)) - (256 : Int32)))]) rfl k) ?_
  show Fini p e below s _ _ _ s₁ (mkF m 18 #[.val (.int p0), .val (.int p0), .val (.int (p0 &&& (255 : Int32))), .val (.int ((p0 &&& (511 : Int32)) - (256 : Int32)))] [])
  refine Fini.st (fun _ k => XS.iloadN X0.here hx rfl (hb hby at_18) rfl k) ?_
  show Fini p e below s _ _ _ s₁ (mkF m 19 #[.val (.int p0), .val (.int p0), .val (.int (p0 &&& (255 : Int32))), .val (.int ((p0 &&& (511 : Int32)) - (256 : Int32)))] [(.int p0)])
  obtain ⟨T1, X1, e1, st1⟩ := pureS X0 hx hZ hown (hw _ (List.mem_of_getElem? (i := 0) rfl)) (hw _ (List.mem_of_getElem? (i := 1) rfl)) (hw _ (List.mem_of_getElem? (i := 2) rfl)) (hw _ (List.mem_of_getElem? (i := 3) rfl)) (by decide) (rm1 l Z a0 hw [] p0 ar u h0 S_ar A_ar) e0 (W := 0) (by decide) (by decide) (by decide) (by decide) (g := (mkF m 19 #[.val (.int p0), .val (.int p0), .val (.int (p0 &&& (255 : Int32))), .val (.int ((p0 &&& (511 : Int32)) - (256 : Int32)))] [(.int p0)])) rfl (by rw [hml]; rfl) (argsL := [(.int p0)]) (rest := []) rfl (lenOf pd_0 rfl) rfl (by show 2 * 0 + _ ≤ _; exact Nat.le_of_eq rfl) (hb hby at_19)
  refine Fini.st st1 ?_
  show Fini p e below s _ _ _ T1 (mkF m 22 #[.val (.int p0), .val (.int p0), .val (.int (p0 &&& (255 : Int32))), .val (.int ((p0 &&& (511 : Int32)) - (256 : Int32)))] [(.int (f1 p0 u))])
  by_cases c2 : (f1 p0 u) = (0 : Int32)
  · have hv3 := hv0.trans (if_pos c2)
    refine Fini.st (fun _ k => XS.ifYes X1.here hx rfl (pc0 := 22) (pc' := 43) rfl (hb hby at_22) rfl (XT.i0_eq_t c2) (by decide) (by decide) k) ?_
    show Fini p e below s _ _ _ T1 (mkF m 43 #[.val (.int p0), .val (.int p0), .val (.int (p0 &&& (255 : Int32))), .val (.int ((p0 &&& (511 : Int32)) - (256 : Int32)))] [])
    refine Fini.st (fun _ k => XS.iconst X1.here hx rfl (hb hby at_43) k) ?_
    show Fini p e below s _ _ _ T1 (mkF m 44 #[.val (.int p0), .val (.int p0), .val (.int (p0 &&& (255 : Int32))), .val (.int ((p0 &&& (511 : Int32)) - (256 : Int32)))] [(.int (0 : Int32))])
    exact Fini.retN X1 hx hlk (t := .boolean) Bd.returns (by simp) (hb hby at_44) nb0 (by decide) (by decide) ⟨congrArg (fun z => some (Value.int z)) hv3.symm, e1, rfl⟩
  · have hv4 := hv0.trans (if_neg c2)
    refine Fini.st (fun _ k => XS.ifNo X1.here hx rfl (hb hby at_22) rfl (XT.i0_eq_f c2) k) ?_
    show Fini p e below s _ _ _ T1 (mkF m 25 #[.val (.int p0), .val (.int p0), .val (.int (p0 &&& (255 : Int32))), .val (.int ((p0 &&& (511 : Int32)) - (256 : Int32)))] [])
    refine Fini.st (fun _ k => XS.iloadN X1.here hx rfl (hb hby at_25) rfl k) ?_
    show Fini p e below s _ _ _ T1 (mkF m 26 #[.val (.int p0), .val (.int p0), .val (.int (p0 &&& (255 : Int32))), .val (.int ((p0 &&& (511 : Int32)) - (256 : Int32)))] [(.int (p0 &&& (255 : Int32)))])
    obtain ⟨T5, X5, e5, st5⟩ := pureS X1 hx hZ hown (hw _ (List.mem_of_getElem? (i := 0) rfl)) (hw _ (List.mem_of_getElem? (i := 1) rfl)) (hw _ (List.mem_of_getElem? (i := 2) rfl)) (hw _ (List.mem_of_getElem? (i := 3) rfl)) (by decide) (rm1 l Z a0 hw [] (p0 &&& (255 : Int32)) ar u h0 S_ar A_ar) e1 (W := 0) (by decide) (by decide) (by decide) (by decide) (g := (mkF m 26 #[.val (.int p0), .val (.int p0), .val (.int (p0 &&& (255 : Int32))), .val (.int ((p0 &&& (511 : Int32)) - (256 : Int32)))] [(.int (p0 &&& (255 : Int32)))])) rfl (by rw [hml]; rfl) (argsL := [(.int (p0 &&& (255 : Int32)))]) (rest := []) rfl (lenOf pd_0 rfl) rfl (by show 2 * 0 + _ ≤ _; exact Nat.le_of_eq rfl) (hb hby at_26)
    refine Fini.st st5 ?_
    show Fini p e below s _ _ _ T5 (mkF m 29 #[.val (.int p0), .val (.int p0), .val (.int (p0 &&& (255 : Int32))), .val (.int ((p0 &&& (511 : Int32)) - (256 : Int32)))] [(.int (f1 (p0 &&& (255 : Int32)) u))])
    by_cases c6 : (f1 (p0 &&& (255 : Int32)) u) = (0 : Int32)
    · have hv7 := hv4.trans (if_pos c6)
      refine Fini.st (fun _ k => XS.ifYes X5.here hx rfl (pc0 := 29) (pc' := 43) rfl (hb hby at_29) rfl (XT.i0_eq_t c6) (by decide) (by decide) k) ?_
      show Fini p e below s _ _ _ T5 (mkF m 43 #[.val (.int p0), .val (.int p0), .val (.int (p0 &&& (255 : Int32))), .val (.int ((p0 &&& (511 : Int32)) - (256 : Int32)))] [])
      refine Fini.st (fun _ k => XS.iconst X5.here hx rfl (hb hby at_43) k) ?_
      show Fini p e below s _ _ _ T5 (mkF m 44 #[.val (.int p0), .val (.int p0), .val (.int (p0 &&& (255 : Int32))), .val (.int ((p0 &&& (511 : Int32)) - (256 : Int32)))] [(.int (0 : Int32))])
      exact Fini.retN X5 hx hlk (t := .boolean) Bd.returns (by simp) (hb hby at_44) nb0 (by decide) (by decide) ⟨congrArg (fun z => some (Value.int z)) hv7.symm, e5, rfl⟩
    · have hv8 := hv4.trans (if_neg c6)
      refine Fini.st (fun _ k => XS.ifNo X5.here hx rfl (hb hby at_29) rfl (XT.i0_eq_f c6) k) ?_
      show Fini p e below s _ _ _ T5 (mkF m 32 #[.val (.int p0), .val (.int p0), .val (.int (p0 &&& (255 : Int32))), .val (.int ((p0 &&& (511 : Int32)) - (256 : Int32)))] [])
      refine Fini.st (fun _ k => XS.iloadN X5.here hx rfl (hb hby at_32) rfl k) ?_
      show Fini p e below s _ _ _ T5 (mkF m 33 #[.val (.int p0), .val (.int p0), .val (.int (p0 &&& (255 : Int32))), .val (.int ((p0 &&& (511 : Int32)) - (256 : Int32)))] [(.int ((p0 &&& (511 : Int32)) - (256 : Int32)))])
      obtain ⟨T9, X9, e9, st9⟩ := pureS X5 hx hZ hown (hw _ (List.mem_of_getElem? (i := 0) rfl)) (hw _ (List.mem_of_getElem? (i := 1) rfl)) (hw _ (List.mem_of_getElem? (i := 2) rfl)) (hw _ (List.mem_of_getElem? (i := 3) rfl)) (by decide) (rm1 l Z a0 hw [] ((p0 &&& (511 : Int32)) - (256 : Int32)) ar u h0 S_ar A_ar) e5 (W := 0) (by decide) (by decide) (by decide) (by decide) (g := (mkF m 33 #[.val (.int p0), .val (.int p0), .val (.int (p0 &&& (255 : Int32))), .val (.int ((p0 &&& (511 : Int32)) - (256 : Int32)))] [(.int ((p0 &&& (511 : Int32)) - (256 : Int32)))])) rfl (by rw [hml]; rfl) (argsL := [(.int ((p0 &&& (511 : Int32)) - (256 : Int32)))]) (rest := []) rfl (lenOf pd_0 rfl) rfl (by show 2 * 0 + _ ≤ _; exact Nat.le_of_eq rfl) (hb hby at_33)
      refine Fini.st st9 ?_
      show Fini p e below s _ _ _ T9 (mkF m 36 #[.val (.int p0), .val (.int p0), .val (.int (p0 &&& (255 : Int32))), .val (.int ((p0 &&& (511 : Int32)) - (256 : Int32)))] [(.int (f1 ((p0 &&& (511 : Int32)) - (256 : Int32)) u))])
      by_cases c10 : (f1 ((p0 &&& (511 : Int32)) - (256 : Int32)) u) = (0 : Int32)
      · have hv11 := hv8.trans (if_pos c10)
        refine Fini.st (fun _ k => XS.ifYes X9.here hx rfl (pc0 := 36) (pc' := 43) rfl (hb hby at_36) rfl (XT.i0_eq_t c10) (by decide) (by decide) k) ?_
        show Fini p e below s _ _ _ T9 (mkF m 43 #[.val (.int p0), .val (.int p0), .val (.int (p0 &&& (255 : Int32))), .val (.int ((p0 &&& (511 : Int32)) - (256 : Int32)))] [])
        refine Fini.st (fun _ k => XS.iconst X9.here hx rfl (hb hby at_43) k) ?_
        show Fini p e below s _ _ _ T9 (mkF m 44 #[.val (.int p0), .val (.int p0), .val (.int (p0 &&& (255 : Int32))), .val (.int ((p0 &&& (511 : Int32)) - (256 : Int32)))] [(.int (0 : Int32))])
        exact Fini.retN X9 hx hlk (t := .boolean) Bd.returns (by simp) (hb hby at_44) nb0 (by decide) (by decide) ⟨congrArg (fun z => some (Value.int z)) hv11.symm, e9, rfl⟩
      · have hv12 := hv8.trans (if_neg c10)
        refine Fini.st (fun _ k => XS.ifNo X9.here hx rfl (hb hby at_36) rfl (XT.i0_eq_f c10) k) ?_
        show Fini p e below s _ _ _ T9 (mkF m 39 #[.val (.int p0), .val (.int p0), .val (.int (p0 &&& (255 : Int32))), .val (.int ((p0 &&& (511 : Int32)) - (256 : Int32)))] [])
        refine Fini.st (fun _ k => XS.iconst X9.here hx rfl (hb hby at_39) k) ?_
        show Fini p e below s _ _ _ T9 (mkF m 40 #[.val (.int p0), .val (.int p0), .val (.int (p0 &&& (255 : Int32))), .val (.int ((p0 &&& (511 : Int32)) - (256 : Int32)))] [(.int (1 : Int32))])
        refine Fini.st (fun _ k => XS.goto X9.here hx rfl (pc0 := 40) (pc' := 44) rfl (hb hby at_40) (by decide) (by decide) k) ?_
        show Fini p e below s _ _ _ T9 (mkF m 44 #[.val (.int p0), .val (.int p0), .val (.int (p0 &&& (255 : Int32))), .val (.int ((p0 &&& (511 : Int32)) - (256 : Int32)))] [(.int (1 : Int32))])
        exact Fini.retN X9 hx hlk (t := .boolean) Bd.returns (by simp) (hb hby at_44) nb1 (by decide) (by decide) ⟨congrArg (fun z => some (Value.int z)) hv12.symm, e9, rfl⟩
theorem own_eqI {args : Array Value} {first s : State} {o : Option Outcome} {idx : List Nat} {a : Term} {n : Int32} (h : (Jvm.Cond.eq a (.int n)).value args first o s idx = some true) : a.eval args first o idx s = some (.int n) := by
  obtain ⟨x, y, h1, h2, k1, k2⟩ := cmp_v (Or.inl h)
  have e2 : y = .int n := Option.some.inj (h2.symm.trans (Term.int_eval n))
  subst e2
  obtain ⟨z, rfl⟩ : ∃ z, x = .int z := k2
  rw [h1, gotT (Cond.eq_ints h1 h2) h]
theorem own_nat {i : Nat} (h : i < 2 ^ 31) : i.toInt32.toNatClampNeg = i := by
  have h1 := len_toInt h
  have h2 : ¬ i.toInt32 < 0 := fun q => by
    have q' : i.toInt32.toInt < 0 := Int32.lt_iff_toInt_lt.mp q
    omega
  have h3 := nat_of h2
  omega
theorem own_tab {Z : State} {h : Heap} {a : Addr} {cl : Cell} {ty : FieldType} {n : Int32} (F : Tab Z h a cl ty n) : AryI Z h a ty n (fun i : Nat => atv cl i.toInt32) := by
  obtain ⟨A, S, N, H⟩ := F
  refine ⟨cl, A, S, N, fun i hi => ?_⟩
  have hn := (back32 N).2
  have hi' : i < 2 ^ 31 := Nat.lt_trans hi hn
  have q := H i.toInt32 (by rw [S]; exact idx_in hi hn)
  rw [own_nat hi'] at q
  exact q
theorem own_tab0 {args : Array Value} {s : State} {t : Term} {ar : Addr} {cl : Cell} (hf : Fit s) (ev : t.eval args s none [] s = some (.ref ar)) (A : Arr s s.heap ar cl .boolean) (hc : s.arrayAt? ar = some cl) (eL : (Term.length t).eval args s none [] s = some (.int 128)) : Tab s s.heap ar cl .boolean 128 := by
  have e : (Term.length t).eval args s none [] s = if cl.slots.size < 2 ^ 31 then some (.int cl.slots.size.toInt32) else none := by simp [Term.eval, ev, hc]
  rw [e] at eL
  by_cases q : cl.slots.size < 2 ^ 31
  · rw [if_pos q] at eL
    have e2 : cl.slots.size.toInt32 = 128 := Value.int.inj (Option.some.inj eL)
    exact Tab.start hf A (by simp) q e2 (by decide)
  · rw [if_neg q] at eL; cases eL
theorem own_at {args : Array Value} {s : State} {t : Term} {ar : Addr} {cl : Cell} {k v : Int32} (ev : t.eval args s none [] s = some (.ref ar)) (A : Arr s s.heap ar cl .boolean) (h : (Jvm.Cond.eq (.elem t (.int k)) (.int v)).value args s none s [] = some true) : atv cl k = v :=
  atv_of (elem_in (own_eqI h) ev (Term.int_eval k) A.1).2
theorem own_el {args : Array Value} {s : State} {t : Term} {ar : Addr} {cl : Cell} {n j v : Int32} (hev : ∀ idx, t.eval args s none idx s = some (.ref ar)) (hc : s.arrayAt? ar = some cl) (F : Tab s s.heap ar cl .boolean n) (hj : ¬ j < 0 ∧ j < n) :
    (Jvm.Cond.eq (.elem t (.index 0)) (.int v)).value args s none s [j.toNatClampNeg] = some (decide (atv cl j = v)) := by
  have e : (Term.elem t (.index 0)).eval args s none [j.toNatClampNeg] s = some (.int (atv cl j)) := by
    rw [elem_f (hev _) (idx_at hj.1) hc hj.1]
    exact F.2.2.2 j (inb_of F.2.1 hj)
  exact Cond.eq_ints e (Term.int_eval v)
theorem own_all3 {args : Array Value} {s : State} {t : Term} {ar : Addr} {cl : Cell} {n lo hi v : Int32} (hev : ∀ idx, t.eval args s none idx s = some (.ref ar)) (hc : s.arrayAt? ar = some cl) (F : Tab s s.heap ar cl .boolean n)
    (h : (Jvm.Cond.all t (.or (.lt (.index 0) (.int lo)) (.or (.le (.int hi) (.index 0)) (.eq (.elem t (.index 0)) (.int v))))).value args s none s [] = some true) (j : Int32) (hj : ¬ j < 0 ∧ j < n) : j < lo ∨ ¬ j < hi ∨ atv cl j = v := by
  have q := Cond.all_elim (hev []) hc h j.toNatClampNeg (by rw [F.2.1]; exact nat_lt hj)
  exact or3 q (Cond.lt_ints (idx_at hj.1) (Term.int_eval lo)) (Cond.le_ints (Term.int_eval hi) (idx_at hj.1)) (own_el hev hc F hj)
theorem own_allLe {args : Array Value} {s : State} {t : Term} {ar : Addr} {cl : Cell} {n hi v : Int32} (hev : ∀ idx, t.eval args s none idx s = some (.ref ar)) (hc : s.arrayAt? ar = some cl) (F : Tab s s.heap ar cl .boolean n)
    (h : (Jvm.Cond.all t (.or (.le (.int hi) (.index 0)) (.eq (.elem t (.index 0)) (.int v)))).value args s none s [] = some true) (j : Int32) (hj : ¬ j < 0 ∧ j < n) : hi ≤ j ∨ atv cl j = v := by
  have q := Cond.all_elim (hev []) hc h j.toNatClampNeg (by rw [F.2.1]; exact nat_lt hj)
  exact or_e2 (Cond.le_ints (Term.int_eval hi) (idx_at hj.1)) (own_el hev hc F hj) q
theorem own_allLt {args : Array Value} {s : State} {t : Term} {ar : Addr} {cl : Cell} {n lo v : Int32} (hev : ∀ idx, t.eval args s none idx s = some (.ref ar)) (hc : s.arrayAt? ar = some cl) (F : Tab s s.heap ar cl .boolean n)
    (h : (Jvm.Cond.all t (.or (.lt (.index 0) (.int lo)) (.eq (.elem t (.index 0)) (.int v)))).value args s none s [] = some true) (j : Int32) (hj : ¬ j < 0 ∧ j < n) : j < lo ∨ atv cl j = v := by
  have q := Cond.all_elim (hev []) hc h j.toNatClampNeg (by rw [F.2.1]; exact nat_lt hj)
  exact or_e2 (Cond.lt_ints (idx_at hj.1) (Term.int_eval lo)) (own_el hev hc F hj) q
theorem own_90 (x a b : Int32) : f3_90 x a b = 1 := by
  unfold f3_90 f3_95
  by_cases h : a = 0
  · rw [if_pos h]
    by_cases k : b = 0
    · rw [if_pos k]; exact if_neg (by decide)
    · exact if_neg k
  · exact if_neg h
theorem own_951 (x z b : Int32) : f3_95 x z 1 b = 1 := if_neg (by decide)
theorem own_952 (x z : Int32) : f3_95 x z 0 1 = 1 := (if_pos rfl).trans (if_neg (by decide))
theorem own_950 (x : Int32) : f3_95 x 0 0 0 = 0 := (if_pos rfl).trans ((if_pos rfl).trans (if_pos rfl))
theorem own_471 (x b : Int32) : f3_47 x b 1 = 1 := by
  simp only [f3_47, own_90, own_951]
  repeat' split
  all_goals rfl
theorem own_472 (x : Int32) : f3_47 x 1 0 = 1 := by
  simp only [f3_47, own_90, own_952]
  repeat' split
  all_goals rfl
theorem own_470 (x : Int32) : f3_47 x 0 0 = if (x.toInt = 95 ∨ x.toInt = 46 ∨ x.toInt = 58 ∨ x.toInt = 64 ∨ x.toInt = 47 ∨ x.toInt = 43 ∨ x.toInt = 45) then 1 else 0 := by
  have b95 : x = 95 ↔ x.toInt = 95 := ⟨fun q => by rw [q]; rfl, fun q => Int32.toInt_inj.mp q⟩
  have b46 : x = 46 ↔ x.toInt = 46 := ⟨fun q => by rw [q]; rfl, fun q => Int32.toInt_inj.mp q⟩
  have b58 : x = 58 ↔ x.toInt = 58 := ⟨fun q => by rw [q]; rfl, fun q => Int32.toInt_inj.mp q⟩
  have b64 : x = 64 ↔ x.toInt = 64 := ⟨fun q => by rw [q]; rfl, fun q => Int32.toInt_inj.mp q⟩
  have b47 : x = 47 ↔ x.toInt = 47 := ⟨fun q => by rw [q]; rfl, fun q => Int32.toInt_inj.mp q⟩
  have b43 : x = 43 ↔ x.toInt = 43 := ⟨fun q => by rw [q]; rfl, fun q => Int32.toInt_inj.mp q⟩
  have b45 : x = 45 ↔ x.toInt = 45 := ⟨fun q => by rw [q]; rfl, fun q => Int32.toInt_inj.mp q⟩
  simp only [f3_47, own_90, own_950, b95, b46, b58, b64, b47, b43, b45]
  repeat' split
  all_goals first | rfl | (exfalso; omega)
theorem own_291 (x : Int32) : f3_29 x 1 = 1 := by
  simp only [f3_29, f3_46, own_471]
  repeat' split
  all_goals rfl
theorem own_290 (x : Int32) : f3_29 x 0 = if ((48 ≤ x.toInt ∧ x.toInt ≤ 57) ∨ x.toInt = 95 ∨ x.toInt = 46 ∨ x.toInt = 58 ∨ x.toInt = 64 ∨ x.toInt = 47 ∨ x.toInt = 43 ∨ x.toInt = 45) then 1 else 0 := by
  have a48 : (48 : Int32).toInt = 48 := rfl
  have a57 : (57 : Int32).toInt = 57 := rfl
  simp only [f3_29, f3_46, own_470, own_472, Int32.lt_iff_toInt_lt, a48, a57]
  repeat' split
  all_goals first | rfl | (exfalso; omega)
theorem own_f3 (x : Int32) : f3 x = if (x.toInt = 43 ∨ (45 ≤ x.toInt ∧ x.toInt ≤ 58) ∨ (64 ≤ x.toInt ∧ x.toInt ≤ 90) ∨ x.toInt = 95 ∨ (97 ≤ x.toInt ∧ x.toInt ≤ 122)) then 1 else 0 := by
  have a97 : (97 : Int32).toInt = 97 := rfl
  have a122 : (122 : Int32).toInt = 122 := rfl
  have a65 : (65 : Int32).toInt = 65 := rfl
  have a90 : (90 : Int32).toInt = 90 := rfl
  simp only [f3, f3_12, f3_24, f3_28, own_291, own_290, Int32.lt_iff_toInt_lt, a97, a122, a65, a90]
  repeat' split
  all_goals first | rfl | (exfalso; omega)
theorem own_hu (a : Int32 → Int32) (j : Int32) (h1 : ¬ j < 0) (h2 : j < 128) (t2 : (43 : Int32) ≤ j ∨ a j = 0) (t3 : a 43 = 1) (t4 : a 44 = 0) (t5 : j < 45 ∨ ¬ j < 59 ∨ a j = 1) (t6 : j < 59 ∨ ¬ j < 64 ∨ a j = 0) (t7 : j < 64 ∨ ¬ j < 91 ∨ a j = 1) (t8 : j < 91 ∨ ¬ j < 95 ∨ a j = 0) (t9 : a 95 = 1) (t10 : a 96 = 0) (t11 : j < 97 ∨ ¬ j < 123 ∨ a j = 1) (t12 : j < 123 ∨ a j = 0) : a j = f3 j := by
  rw [own_f3]
  have a43 : (43 : Int32).toInt = 43 := rfl
  have a44 : (44 : Int32).toInt = 44 := rfl
  have a45 : (45 : Int32).toInt = 45 := rfl
  have a46 : (46 : Int32).toInt = 46 := rfl
  have a47 : (47 : Int32).toInt = 47 := rfl
  have a48 : (48 : Int32).toInt = 48 := rfl
  have a57 : (57 : Int32).toInt = 57 := rfl
  have a58 : (58 : Int32).toInt = 58 := rfl
  have a59 : (59 : Int32).toInt = 59 := rfl
  have a64 : (64 : Int32).toInt = 64 := rfl
  have a65 : (65 : Int32).toInt = 65 := rfl
  have a90 : (90 : Int32).toInt = 90 := rfl
  have a91 : (91 : Int32).toInt = 91 := rfl
  have a95 : (95 : Int32).toInt = 95 := rfl
  have a96 : (96 : Int32).toInt = 96 := rfl
  have a97 : (97 : Int32).toInt = 97 := rfl
  have a122 : (122 : Int32).toInt = 122 := rfl
  have a123 : (123 : Int32).toInt = 123 := rfl
  have a128 : (128 : Int32).toInt = 128 := rfl
  have a0 : (0 : Int32).toInt = 0 := rfl
  rw [Int32.lt_iff_toInt_lt] at h1 h2
  simp only [Int32.lt_iff_toInt_lt, Int32.le_iff_toInt_le, a43, a44, a45, a46, a47, a48, a57, a58, a59, a64, a65, a90, a91, a95, a96, a97, a122, a123, a128, a0] at h1 h2 t2 t5 t6 t7 t8 t11 t12
  by_cases q43 : j.toInt = 43
  · have e : j = 43 := Int32.toInt_inj.mp q43
    subst e
    first | (rw [t3]; rfl) | (rw [t4]; rfl) | (rw [t9]; rfl) | (rw [t10]; rfl)
  by_cases q44 : j.toInt = 44
  · have e : j = 44 := Int32.toInt_inj.mp q44
    subst e
    first | (rw [t3]; rfl) | (rw [t4]; rfl) | (rw [t9]; rfl) | (rw [t10]; rfl)
  by_cases q95 : j.toInt = 95
  · have e : j = 95 := Int32.toInt_inj.mp q95
    subst e
    first | (rw [t3]; rfl) | (rw [t4]; rfl) | (rw [t9]; rfl) | (rw [t10]; rfl)
  by_cases q96 : j.toInt = 96
  · have e : j = 96 := Int32.toInt_inj.mp q96
    subst e
    first | (rw [t3]; rfl) | (rw [t4]; rfl) | (rw [t9]; rfl) | (rw [t10]; rfl)
  by_cases c : (j.toInt = 43 ∨ (45 ≤ j.toInt ∧ j.toInt ≤ 58) ∨ (64 ≤ j.toInt ∧ j.toInt ≤ 90) ∨ j.toInt = 95 ∨ (97 ≤ j.toInt ∧ j.toInt ≤ 122))
  · rw [if_pos c]
    rcases t5 with t | t | t
    · omega
    · rcases t7 with r | r | r
      · omega
      · rcases t11 with w | w | w
        · omega
        · omega
        · exact w
      · exact r
    · exact t
  · rw [if_neg c]
    rcases t2 with t | t
    · rcases t6 with r | r | r
      · omega
      · rcases t8 with w | w | w
        · omega
        · rcases t12 with v | v
          · omega
          · exact v
        · exact w
      · exact r
    · exact t
theorem own_eq (x : Int32) (u : Nat → Int32) (hu : ∀ j : Int32, ¬ j < 0 → j < (128 : Int32) → u j.toNatClampNeg = f3 j) : f2 x u = f3 x := by
  have h3 := own_f3 x
  have a0 : (0 : Int32).toInt = 0 := rfl
  have a128 : (128 : Int32).toInt = 128 := rfl
  unfold f2
  by_cases c : x < 0
  · rw [if_pos c, h3]
    rw [Int32.lt_iff_toInt_lt] at c
    exact (if_neg (by omega)).symm
  rw [if_neg c]
  by_cases d : x < 128
  · rw [if_pos d, hu x c d, h3]
    split
    · rfl
    · rfl
  · rw [if_neg d, h3]
    rw [Int32.lt_iff_toInt_lt] at d
    exact (if_neg (by omega)).symm
theorem own_law (i0 : Int32) (u : Nat → Int32) (hu : ∀ j : Int32, ¬ j < 0 → j < (128 : Int32) → u j.toNatClampNeg = f3 j) : f0 i0 u = 1 := by
  have k : ∀ x, ¬ f1 x u = 0 := fun x q => by
    have e : f1 x u = 1 := if_pos (own_eq x u hu)
    rw [e] at q
    exact absurd q (by decide)
  unfold f0
  rw [if_neg (k _), if_neg (k _), if_neg (k _)]

set_option maxRecDepth 65536 in
set_option maxHeartbeats 40000000 in
theorem comes_1 {Post : Tables → Env → Array Value → State → Outcome → State → Prop} (hpost : ∀ tb e args s v u, (limb_1_1.after args s (.returned v) u = true ∧ limb_1_2.after args s (.returned v) u = true ∧ True) → FrameEnd s (.returned v) u (Jvm.fieldLocs frame_1_writes args s ++ Jvm.arrayLocs frame_1_arrays args s ++ Jvm.staticLocs frame_1_statics s) 0 0 → Post tb e args s (.returned v) u) :
    ArmFor flags0 classFile x code maxLocals ret World_1 tables_1 room_1 Calls_1 rest_1 Pre_1 Post := by
  intro l hfl _ _ p e ha hc hk s m args below hf hA hF happ hP
  obtain ⟨hcalls, hrest, hpre⟩ := hP
  obtain ⟨-, -, -, hnamed, -, -, -, hat⟩ := (Spec.applies_iff hf).mp happ
  obtain ⟨hg, hn⟩ := and_e (Cond.before_iff.mp (show (Jvm.Cond.and given_1 narrow_1).before args s = true from hpre))
  obtain ⟨g1, g2⟩ := and_e hg
  obtain ⟨w0, rfl⟩ : ∃ w0 : Value, args = #[w0] := by
    have hs : args.size = 1 := by simpa [Cond.value, given_1] using g1
    obtain ⟨L⟩ := args
    match L, hs with
    | [w0], _ => exact ⟨w0, rfl⟩
  have hw := fun d (hd : d ∈ tables_1) => atoms_spec (ws := Jvm.Cond.code x code maxLocals ret :: tables_1) hat d (List.mem_cons_of_mem _ hd)
  have hfit : Fit s := fun {y c} hc i hi => by
    obtain ⟨ha, rfl⟩ := Array.getElem?_eq_some_iff.mp hc
    have q := List.all_eq_true.mp ((Array.all_eq_true_iff_forall_mem.mp hF) _ (Array.getElem_mem ha)) i (List.mem_range.mpr hi)
    simpa [Array.getElem?_eq_getElem hi] using q
  obtain ⟨i0, ei0⟩ := is_v g2
  obtain rfl : w0 = (.int i0) := Option.some.inj ei0
  obtain ⟨g3, g4⟩ := and_e hn
  obtain ⟨g5, g6⟩ := and_e g4
  obtain ⟨g7, g8⟩ := and_e g6
  obtain ⟨g9, g10⟩ := and_e g8
  obtain ⟨g11, g12⟩ := and_e g10
  obtain ⟨g13, g14⟩ := and_e g12
  obtain ⟨g15, g16⟩ := and_e g14
  obtain ⟨g17, g18⟩ := and_e g16
  obtain ⟨g19, g20⟩ := and_e g18
  obtain ⟨g21, g22⟩ := and_e g20
  obtain ⟨g23, g24⟩ := and_e g22
  obtain ⟨g25, g26⟩ := and_e g24
  have eL := own_eqI g5
  obtain ⟨ar, ev⟩ := len_v eL
  have S0 := Sta.start ev (Or.inr ⟨(hw _ (List.mem_of_getElem? (i := 6) rfl)), (hw _ (List.mem_of_getElem? (i := 9) rfl))⟩)
  obtain ⟨cl, A0⟩ := Arr.start ev g3
  have hcl : s.arrayAt? ar = some cl := A0.fin (Vm.Alike.refl _)
  have hT := own_tab0 hfit ev A0 hcl eL
  have hev : ∀ idx, ((Jvm.Term.static "com/example/rights_after_actions/rightsafteractions/io/Lexicon" "ARGUMENT_CHARACTERS" "[Z")).eval #[(.int i0)] s none idx s = some (.ref ar) := fun idx => ev
  have t2 := own_allLe hev hcl hT g7
  have t3 := own_at ev A0 g9
  have t4 := own_at ev A0 g11
  have t5 := own_all3 hev hcl hT g13
  have t6 := own_all3 hev hcl hT g15
  have t7 := own_all3 hev hcl hT g17
  have t8 := own_all3 hev hcl hT g19
  have t9 := own_at ev A0 g21
  have t10 := own_at ev A0 g23
  have t11 := own_all3 hev hcl hT g25
  have t12 := own_allLt hev hcl hT g26
  have hu : ∀ j : Int32, ¬ j < 0 → j < (128 : Int32) → (fun i : Nat => atv cl i.toInt32) j.toNatClampNeg = f3 j := fun j h1 h2 => (congrArg (atv cl) (back32 h1).1).trans (own_hu (atv cl) j h1 h2 (t2 j ⟨h1, h2⟩) t3 t4 (t5 j ⟨h1, h2⟩) (t6 j ⟨h1, h2⟩) (t7 j ⟨h1, h2⟩) (t8 j ⟨h1, h2⟩) t9 t10 (t11 j ⟨h1, h2⟩) (t12 j ⟨h1, h2⟩))
  obtain ⟨n, o, h1, h2, h3, v, L, rfl, ⟨rfl, hheap, rfl⟩, hq⟩ := rm0 l s _ hw tables_1 i0 ar (fun i : Nat => atv cl i.toInt32) s.heap S0 (own_tab hT) p e ha hc hk s m _ below hf ((Spec.applies_iff_loose hf).mp happ).1 ⟨rfl, State.Warmed39.refl s, rfl⟩ trivial
  refine ⟨n, _, h1, h2, h3, hpost _ _ _ _ _ _ ⟨Cond.after_iff.mpr rfl, Cond.after_iff.mpr (eq_i res_at (Term.int_eval (1)) (congrArg Value.int (own_law i0 _ hu))), trivial⟩ ⟨hq.1, hq.2.1, (hq.2.2.sift fun y hy => nomatch hy).mono (by decide) (by decide)⟩⟩
theorem main_1_1 : Claimed_1_1 := comes_1 fun _ _ _ _ _ _ h hF => ⟨h.1, hF⟩
theorem main_1_2 : Claimed_1_2 := comes_1 fun _ _ _ _ _ _ h hF => ⟨h.2.1, hF⟩
end Jvm.Pilot.@@N@@
namespace Jvm.Pilot.@@N@@
open Jvm Jvm.ClassFile Sem Op Lib Jvm.Free Jvm.Stand Jvm.Pilot.@@N@@.Jvm.D
/-! MADE BY PROGRAM (witnessworld.py) out of the Statement's table words and the real class files: 11 classes; the members and pool entries that the words name. The judged class is class 1, her method 3. -/
namespace start1
open Jvm.ClassFile
def u (s : String) : CpInfo := .utf8 (stringToUtf16 s)
/-- a pool by its gaps: so many unusable entries, then the entry; so many at the end -/
def gap : Nat → List CpInfo → List CpInfo
  | 0, r => r
  | n + 1, r => .unusable :: gap n r
def poolList (es : List (Nat × CpInfo)) (last : Nat) : List CpInfo := es.foldr (fun e r => gap e.1 (e.2 :: r)) (gap last [])
def pool (es : List (Nat × CpInfo)) (last : Nat) : Array CpInfo := ⟨poolList es last⟩
def fileOf (pool : Array CpInfo) (this : Nat) (attrs : Array Attribute := #[]) (ms : Array MethodInfo := #[]) (fl : Nat := 33) (sup : Nat := 0) (ifs : Array Nat := #[]) (fds : Array FieldInfo := #[]) : ClassFile where
  minorVersion := 0
  majorVersion := 65
  constantPool := pool
  accessFlags := fl
  thisClass := this
  superClass := sup
  interfaces := ifs
  fields := fds
  methods := ms
  attributes := attrs
def plain (name : String) (sup : Option ClassId) : Class where
  name := name
  kind := .ordinary
  loader := none
  accessFlags := 33
  super := sup
  interfaces := #[]
  cf := none
  fields := #[]
  methods := #[]
  instanceTypes := #[]
  staticTypes := #[]
  resolved := #[]
  callSites := []
  init := .initialized
  statics := none
  mirror := none

def pool0 : Array CpInfo := pool [(5, u "<init>"), (0, u "()V"), (1, .class_ 10), (1, u "java/lang/Object")] 113

def k0m0 : Method := { name := "<init>", desc := "()V", sig := { parameters := [], returnType := none }, accessFlags := 1, code := none }
/-- java/lang/Object -/
def k0 : Class := { plain "java/lang/Object" none with
  accessFlags := 33
  interfaces := #[]
  cf := some (fileOf pool0 8 #[] #[{ accessFlags := 1, nameIndex := 5, descriptorIndex := 6, attributes := #[] }] 33 0 #[] #[])
  fields := #[]
  methods := #[k0m0]
  instanceTypes := #[]
  staticTypes := #[]
  resolved := Array.replicate 124 none
  statics := none }

def pool1 : Array CpInfo := pool [(2, .class_ 4), (1, u "java/lang/Object"), (0, u "<init>"), (0, u "()V"), (0, .methodref 8 9), (0, .class_ 10), (0, .nameAndType 11 12), (0, u "com/example/rights_after_actions/rightsafteractions/io/Lexicon"), (0, u "isArgumentCharacter"), (0, u "(I)Z"), (0, .methodref 14 15), (0, .class_ 16), (0, .nameAndType 17 12), (0, u "com/example/rights_after_actions/rightsafteractions/io/LexiconIsArgumentCharacterPinLaw"), (0, u "expected"), (0, .methodref 14 19), (0, .nameAndType 20 12), (0, u "agrees"), (3, u "law")] 2

def k1m0 : Method := { name := "<init>", desc := "()V", sig := { parameters := [], returnType := none }, accessFlags := 2, code := none }
def k1c1 : Code := { maxStack := 2, maxLocals := 4, code := method_2_code, exceptionTable := #[], attributes := #[] }
def k1m1 : Method := { name := "expected", desc := "(I)Z", sig := { parameters := [.int], returnType := some .boolean }, accessFlags := 10, code := some k1c1 }
def k1c2 : Code := { maxStack := 2, maxLocals := 1, code := method_3_code, exceptionTable := #[], attributes := #[] }
def k1m2 : Method := { name := "agrees", desc := "(I)Z", sig := { parameters := [.int], returnType := some .boolean }, accessFlags := 10, code := some k1c2 }
def k1c3 : Code := { maxStack := 2, maxLocals := 4, code := code, exceptionTable := #[], attributes := #[] }
def k1m3 : Method := { name := "law", desc := "(I)Z", sig := { parameters := [.int], returnType := some .boolean }, accessFlags := 9, code := some k1c3 }
/-- com/example/rights_after_actions/rightsafteractions/io/LexiconIsArgumentCharacterPinLaw -/
def k1 : Class := { plain "com/example/rights_after_actions/rightsafteractions/io/LexiconIsArgumentCharacterPinLaw" (some 0) with
  accessFlags := 49
  interfaces := #[]
  cf := some (fileOf pool1 14 #[] #[{ accessFlags := 2, nameIndex := 5, descriptorIndex := 6, attributes := #[] }, { accessFlags := 10, nameIndex := 17, descriptorIndex := 12, attributes := #[] }, { accessFlags := 10, nameIndex := 20, descriptorIndex := 12, attributes := #[] }, { accessFlags := 9, nameIndex := 24, descriptorIndex := 12, attributes := #[] }] 49 2 #[] #[])
  fields := #[]
  methods := #[k1m0, k1m1, k1m2, k1m3]
  instanceTypes := #[]
  staticTypes := #[]
  resolved := Array.replicate 27 none
  statics := none }

def pool2 : Array CpInfo := pool [(2, .class_ 4), (1, u "java/lang/Object"), (0, u "<init>"), (0, u "()V"), (1, .class_ 10), (1, u "com/example/rights_after_actions/rightsafteractions/io/Lexicon"), (1, u "(I)Z"), (3, .fieldref 8 17), (0, .nameAndType 18 19), (0, u "ARGUMENT_CHARACTERS"), (0, u "[Z"), (22, u "isArgumentCharacter"), (12, u "INFINITY"), (0, u "Ljava/lang/String;"), (1, u "DEPTH"), (2, u "ARGUMENT_PUNCTUATION")] 12

def k2m0 : Method := { name := "<init>", desc := "()V", sig := { parameters := [], returnType := none }, accessFlags := 2, code := none }
def k2c1 : Code := { maxStack := 2, maxLocals := 1, code := prog_63_method_4_code, exceptionTable := #[], attributes := #[] }
def k2m1 : Method := { name := "isArgumentCharacter", desc := "(I)Z", sig := { parameters := [.int], returnType := some .boolean }, accessFlags := 9, code := some k2c1 }
/-- com/example/rights_after_actions/rightsafteractions/io/Lexicon -/
def k2 : Class := { plain "com/example/rights_after_actions/rightsafteractions/io/Lexicon" (some 0) with
  accessFlags := 49
  interfaces := #[]
  cf := some (fileOf pool2 8 #[] #[{ accessFlags := 2, nameIndex := 5, descriptorIndex := 6, attributes := #[] }, { accessFlags := 9, nameIndex := 42, descriptorIndex := 12, attributes := #[] }] 49 2 #[] #[{ accessFlags := 25, nameIndex := 55, descriptorIndex := 56, attributes := #[] }, { accessFlags := 25, nameIndex := 58, descriptorIndex := 56, attributes := #[] }, { accessFlags := 26, nameIndex := 61, descriptorIndex := 56, attributes := #[] }, { accessFlags := 26, nameIndex := 18, descriptorIndex := 19, attributes := #[] }])
  fields := #[{ name := "INFINITY", type := (.object "java/lang/String"), accessFlags := 25, slot := 0, constantValue := 0 }, { name := "DEPTH", type := (.object "java/lang/String"), accessFlags := 25, slot := 1, constantValue := 0 }, { name := "ARGUMENT_PUNCTUATION", type := (.object "java/lang/String"), accessFlags := 26, slot := 2, constantValue := 0 }, { name := "ARGUMENT_CHARACTERS", type := (.array .boolean), accessFlags := 26, slot := 3, constantValue := 0 }]
  methods := #[k2m0, k2m1]
  instanceTypes := #[]
  staticTypes := #[(.object "java/lang/String"), (.object "java/lang/String"), (.object "java/lang/String"), (.array .boolean)]
  resolved := Array.replicate 74 none
  statics := some 0 }

def pool3 : Array CpInfo := pool [(1, u "java/lang/Cloneable"), (0, .class_ 1), (0, u "java/lang/Object"), (0, .class_ 3)] 3

/-- java/lang/Cloneable -/
def k3 : Class := { plain "java/lang/Cloneable" (some 0) with
  accessFlags := 1537
  interfaces := #[]
  cf := some (fileOf pool3 2 #[] #[] 1537 4 #[] #[])
  fields := #[]
  methods := #[]
  instanceTypes := #[]
  staticTypes := #[]
  resolved := Array.replicate 8 none
  statics := none }

def pool4 : Array CpInfo := pool [(1, u "java/io/Serializable"), (0, .class_ 1), (0, u "java/lang/Object"), (0, .class_ 3)] 3

/-- java/io/Serializable -/
def k4 : Class := { plain "java/io/Serializable" (some 0) with
  accessFlags := 1537
  interfaces := #[]
  cf := some (fileOf pool4 2 #[] #[] 1537 4 #[] #[])
  fields := #[]
  methods := #[]
  instanceTypes := #[]
  staticTypes := #[]
  resolved := Array.replicate 8 none
  statics := none }

/-- the primitive boolean -/
def k5 : Class := { plain "boolean" none with kind := .primitive 'Z', accessFlags := 0x411 }
/-- [Z -/
def k6 : Class := { plain "[Z" (some 0) with kind := .array 5 .boolean, interfaces := #[3, 4], accessFlags := 1041 }

/-- the primitive byte -/
def k7 : Class := { plain "byte" none with kind := .primitive 'B', accessFlags := 0x411 }
/-- [B -/
def k8 : Class := { plain "[B" (some 0) with kind := .array 7 .byte, interfaces := #[3, 4], accessFlags := 1041 }

/-- the primitive int -/
def k9 : Class := { plain "int" none with kind := .primitive 'I', accessFlags := 0x411 }
/-- [I -/
def k10 : Class := { plain "[I" (some 0) with kind := .array 9 .int, interfaces := #[3, 4], accessFlags := 1041 }

def heap : Heap := #[{ cls := 2, slots := #[.null, .null, .null, .ref 1], vm := .statics 2 },
  { cls := 6, slots := #[.int 0, .int 0, .int 0, .int 0, .int 0, .int 0, .int 0, .int 0, .int 0, .int 0, .int 0, .int 0, .int 0, .int 0, .int 0, .int 0, .int 0, .int 0, .int 0, .int 0, .int 0, .int 0, .int 0, .int 0, .int 0, .int 0, .int 0, .int 0, .int 0, .int 0, .int 0, .int 0, .int 0, .int 0, .int 0, .int 0, .int 0, .int 0, .int 0, .int 0, .int 0, .int 0, .int 0, .int 1, .int 0, .int 1, .int 1, .int 1, .int 1, .int 1, .int 1, .int 1, .int 1, .int 1, .int 1, .int 1, .int 1, .int 1, .int 1, .int 0, .int 0, .int 0, .int 0, .int 0, .int 1, .int 1, .int 1, .int 1, .int 1, .int 1, .int 1, .int 1, .int 1, .int 1, .int 1, .int 1, .int 1, .int 1, .int 1, .int 1, .int 1, .int 1, .int 1, .int 1, .int 1, .int 1, .int 1, .int 1, .int 1, .int 1, .int 1, .int 0, .int 0, .int 0, .int 0, .int 1, .int 0, .int 1, .int 1, .int 1, .int 1, .int 1, .int 1, .int 1, .int 1, .int 1, .int 1, .int 1, .int 1, .int 1, .int 1, .int 1, .int 1, .int 1, .int 1, .int 1, .int 1, .int 1, .int 1, .int 1, .int 1, .int 1, .int 1, .int 0, .int 0, .int 0, .int 0, .int 0], vm := .none }]
def classes : Array Class := #[k0, k1, k2, k3, k4, k5, k6, k7, k8, k9, k10]
def interned : List (Array UInt16 × Addr) := []
def slotsUsed : Nat := 132
def theMethod : MethodId := ⟨1, 3⟩
def args0 : Array Value := #[.int 5]
def aboutOver (below : List Frame) : State where
  vm := { classes := classes, interned := interned.toArray }
  heap := heap
  slotsUsed := slotsUsed
  threads := #[{ frames := .invoking theMethod args0 :: below }]
def below0 : List Frame := [.native { method := ⟨0, 0⟩, args := #[] }]
def about1 : State := aboutOver below0
def p0 : Program := .bare "" "" ""
def e0 : Env := launch0.env 0 0 0
theorem w_frames : about1.frames = Frame.invoking theMethod args0 :: below0 := rfl
set_option maxRecDepth 65536 in
theorem w_args : argsFit about1.vm theMethod args0 = true := by decide +kernel
set_option maxRecDepth 65536 in
theorem w_heap : heapFits about1 = true := by decide +kernel
set_option maxRecDepth 65536 in
theorem w_runnable : about1.curStatus? = some .runnable := by decide +kernel
set_option maxRecDepth 65536 in
theorem w_alone : about1.alone = true := by decide +kernel
set_option maxRecDepth 65536 in
theorem w_named : about1.methodNamed? x = some theMethod := by decide +kernel
set_option maxRecDepth 65536 in
theorem w_hears : about1.hears theMethod below0 = true := by decide +kernel
set_option maxRecDepth 65536 in
theorem w_ripe : about1.ripe theMethod args0 below0 = true := by decide +kernel
theorem w_running : about1.status = .running := rfl
set_option maxRecDepth 65536 in
theorem w_room : about1.hasRoom e0.platform room_1 = true :=
  launch0.hasRoom_least _ room_1 (by decide +kernel) (by decide +kernel) (by decide +kernel) (by decide +kernel) (by decide +kernel) (by decide +kernel)
theorem allAtoms_all (ts : List Jvm.Cond) (a : Array Jvm.Value) (st : Jvm.State) : (allAtoms ts).before a st = ts.all (fun c => c.before a st) := by
  induction ts with
  | nil => rfl
  | cons c t ih =>
    show (Jvm.Cond.and c (allAtoms t)).before a st = _
    rw [Jvm.Cond.before_and, ih, List.all_cons]
def words1 : List Jvm.Cond := Jvm.Cond.code x code maxLocals ret :: tables_1
/-- a 'code' word, met by the world's own term for the bytes: nothing is compared byte by byte -/
theorem code_word {y : MethodName} {bytes : ByteArray} {mx : Nat} {rt : Option FieldType} {a : Array Value} {s : State} {m : MethodId} {meth : Method} {c : Code} (h1 : s.methodNamed? y = some m) (h2 : s.vm.method? m = some meth) (h3 : meth.code = some c) (h4 : c.code = bytes)
    (h5 : (c.maxLocals == mx && c.exceptionTable.isEmpty && decide (c.maxStack ≤ mostOperands) && decide (meth.sig.returnType = rt) && !meth.locks && decide (parseMethodDescriptor y.desc = some meth.sig)) = true) : (Jvm.Cond.code y bytes mx rt).before a s = true := by
  simp only [Bool.and_eq_true, beq_iff_eq, Bool.not_eq_true', decide_eq_true_eq] at h5
  obtain ⟨⟨⟨⟨⟨g1, g2⟩, g3⟩, g4⟩, g5⟩, g6⟩ := h5
  simp [Cond.before, Cond.holds, Cond.value, h1, h2, h3, h4, g1, g2, g3, g4, g5, g6]
def isCode : Jvm.Cond → Bool
  | .code _ _ _ _ => true
  | _ => false
theorem all_split {L : List Jvm.Cond} {P : Jvm.Cond → Bool} (h1 : L.all (fun c => isCode c || P c) = true) (h2 : ∀ c ∈ L.filter isCode, P c = true) : L.all P = true := by
  refine List.all_eq_true.mpr fun c hc => ?_
  have h := List.all_eq_true.mp h1 c hc
  rcases Bool.eq_false_or_eq_true (isCode c) with hi | hi
  · exact h2 c (List.mem_filter.mpr ⟨hc, hi⟩)
  · simpa [hi] using h
set_option maxRecDepth 65536 in
theorem w_c0 : (Jvm.Cond.code x code maxLocals ret).before args0 about1 = true := code_word (m := ⟨1, 3⟩) (meth := k1m3) (c := k1c3) (by decide +kernel) rfl rfl rfl (by decide +kernel)
set_option maxRecDepth 65536 in
theorem w_c1 : (Jvm.Cond.code ({ cls := "com/example/rights_after_actions/rightsafteractions/io/LexiconIsArgumentCharacterPinLaw", name := "agrees", desc := "(I)Z" } : Jvm.MethodName) method_3_code (1 : Nat) (Option.some Jvm.ClassFile.FieldType.boolean)).before args0 about1 = true := code_word (m := ⟨1, 2⟩) (meth := k1m2) (c := k1c2) (by decide +kernel) rfl rfl rfl (by decide +kernel)
set_option maxRecDepth 65536 in
theorem w_c2 : (Jvm.Cond.code ({ cls := "com/example/rights_after_actions/rightsafteractions/io/Lexicon", name := "isArgumentCharacter", desc := "(I)Z" } : Jvm.MethodName) prog_63_method_4_code (1 : Nat) (Option.some Jvm.ClassFile.FieldType.boolean)).before args0 about1 = true := code_word (m := ⟨2, 1⟩) (meth := k2m1) (c := k2c1) (by decide +kernel) rfl rfl rfl (by decide +kernel)
set_option maxRecDepth 65536 in
theorem w_c3 : (Jvm.Cond.code ({ cls := "com/example/rights_after_actions/rightsafteractions/io/LexiconIsArgumentCharacterPinLaw", name := "expected", desc := "(I)Z" } : Jvm.MethodName) method_2_code (4 : Nat) (Option.some Jvm.ClassFile.FieldType.boolean)).before args0 about1 = true := code_word (m := ⟨1, 1⟩) (meth := k1m1) (c := k1c1) (by decide +kernel) rfl rfl rfl (by decide +kernel)
def codes1 : List Jvm.Cond := [Jvm.Cond.code x code maxLocals ret, Jvm.Cond.code ({ cls := "com/example/rights_after_actions/rightsafteractions/io/LexiconIsArgumentCharacterPinLaw", name := "agrees", desc := "(I)Z" } : Jvm.MethodName) method_3_code (1 : Nat) (Option.some Jvm.ClassFile.FieldType.boolean), Jvm.Cond.code ({ cls := "com/example/rights_after_actions/rightsafteractions/io/Lexicon", name := "isArgumentCharacter", desc := "(I)Z" } : Jvm.MethodName) prog_63_method_4_code (1 : Nat) (Option.some Jvm.ClassFile.FieldType.boolean), Jvm.Cond.code ({ cls := "com/example/rights_after_actions/rightsafteractions/io/LexiconIsArgumentCharacterPinLaw", name := "expected", desc := "(I)Z" } : Jvm.MethodName) method_2_code (4 : Nat) (Option.some Jvm.ClassFile.FieldType.boolean)]
set_option maxRecDepth 65536 in
theorem codes_eq : words1.filter isCode = codes1 := rfl
theorem w_codes : ∀ c ∈ words1.filter isCode, c.before args0 about1 = true := by
  rw [codes_eq]
  intro c hc
  simp only [codes1, List.mem_cons, List.not_mem_nil, or_false] at hc
  rcases hc with rfl | rfl | rfl | rfl
  · exact w_c0
  · exact w_c1
  · exact w_c2
  · exact w_c3
set_option maxRecDepth 65536 in
theorem w_t1 : words1.all (fun c => isCode c || c.before args0 about1) = true := by decide +kernel
theorem w_tables : (allAtoms (Jvm.Cond.code x code maxLocals ret :: tables_1)).before args0 about1 = true := by
  rw [allAtoms_all]
  show words1.all (fun c => c.before args0 about1) = true
  refine all_split ?_ w_codes
  rw [w_t1]
set_option maxRecDepth 65536 in
theorem w_case : (Jvm.Cond.and given_1 narrow_1).before args0 about1 = true := by decide +kernel
theorem w_applies : (headSpec (Jvm.Cond.code x code maxLocals ret :: tables_1) room_1).applies x e0.platform about1 = true :=
  (Spec.applies_iff w_frames).mpr ⟨w_running, w_runnable, w_alone, w_named, w_hears, w_ripe, w_room, w_tables⟩
theorem atStart : AtStart classFile x code maxLocals ret World_1 tables_1 room_1 Calls_1 rest_1 Pre_1 launch0 p0 e0 about1 theMethod args0 below0 :=
  ⟨lists_1, trivial, launch0.admits_env _ _ _, launch0.least_env, fairChoices_fair.cas, fairChoices_fair.clock, w_frames, w_args, w_heap, w_applies, trivial, trivial, w_case⟩
end start1
theorem witness_1 : WitnessClaimed_1 := ⟨start1.p0, start1.e0, start1.about1, start1.theMethod, start1.args0, start1.below0, start1.atStart⟩
end Jvm.Pilot.@@N@@
